import PyProof.Rows.All
import Wide.All
import OpenK.AllK
import Wide.FinOn
import Lean
import PySem.Challenge.RW_wu0015_01
open PySem PySem.W PyProof.Rows PySem.Calls
set_option Elab.async false
set_option maxRecDepth 100000
set_option maxHeartbeats 4000000
namespace Mine
theorem split {P : Prop} (_ : True) (h : P) : P := h
section
local macro_rules | `(tactic| o_head $_) => `(tactic| refine Mine.split ?hw ?hc)
local macro_rules | `(tactic| w_witness2) => `(tactic| trivial)
set_option maxHeartbeats 0 in
open_top hd for PySem.Challenge.rw_wu0015_01.row
end
example : PySem.Challenge.rw_wu0015_01 = PySem.Challenge.rw_wu0015_01 ∧ hd.heap_1 = hd.heap_1 := by w_top off; k_fill; exact ⟨rfl, rfl⟩
open Builtin
section -- A0
noncomputable abbrev PG : Program := PySem.Challenge.rw_wu0015_01.row.prog
noncomputable abbrev accObj (dx : Addr) (xs : Array Value) (c : Nat) : Obj := { cls := .ref 108, dict := some dx, data := .seq xs c }
noncomputable abbrev AA (dp un : Nat) (gd : Option (List Code)) (es : List Env) : Around := { handled := none, depth := dp, frames := some es, guards := gd, units := un }

section
variable {prog : Program} {w : World} {A : Around} {s : Shared} {K : Frag} {R : Result → Shared → Prop}

theorem enter {f : Addr} {oc : Value} {od : Option Addr} {osl : Array (Option Value)} {name qual : Str} {params : Arguments} {body : List Stmt} {scope : Scope} {cl : List (Str × Addr)} {dV kV doc pm cdv ct : Value} {an : Option Addr} {args : Args} {binds : List (Str × Value)}
    (news : List (Addr × Obj)) (X : K.In s.heap) (hlim : s.heap.NoLimit) (ho : K.lookup f = some ⟨oc, od, .func (fnX name qual params body scope cl dV kV doc pm an cdv ct), osl⟩) (hcd : codeIn K cdv qual = true) (hroom : A.depth < recursionLimit)
    (hbind : BindsTo s (fnX name qual params body scope cl dV kV doc pm an cdv ct) args binds) (hloc : ∀ y ∈ binds, scope.names.lookup y.1 = some .local)
    (hn : ∀ p ∈ news, s.heap.get? p.1 = some p.2)
    (h : ∀ L' h₁, (∀ b o, s.heap.get? b = some o → h₁.get? b = some o) → L' = s.heap.objs.size → Fr (hideAll s.heap (news.map (·.1))) L' h₁ (fun y => binds.reverse.lookup y) → News (hideAll s.heap (news.map (·.1))) L' h₁ news →
      wpAny (model prog w) (A.deeper (envX qual scope L' f cdv cl)) (execs body (envX qual scope L' f cdv cl))
        (fun fl s' => R (.ok (.ret (match fl with | .ret v => v | _ => .none))) s')
        (fun e s' => wpAny (model prog w) (A.deeper (envX qual scope L' f cdv cl)) (leaving (envX qual scope L' f cdv cl) e) (fun _ s'' => R (.error e) s'') (fun e' s'' => R (.error e') s'') s')
        { s with heap := h₁, toks := s.toks + binds.length })
    (hcell : ∀ x ∈ scope.names, x.2 ≠ .cell) (hco : scope.isCoroutine = false) (hgen : scope.isGenerator = false) (hk : scope.kind = .function) : codeAny (model prog w) A (.call (.ref f) args) R s := by
  refine codeAny_call_def (fd := fnX name qual params body scope cl dV kV doc pm an cdv ct) (body := body) (binds := binds) hroom (X _ _ ho) rfl hlim (codeRec_of X hcd) rfl hbind hcell hloc (fun h₁ hns hk₁ => ?_) hco hgen hk
  refine h _ h₁ hk₁ rfl ⟨hns, fun b o e => hk₁ b o (of_hideAll _ e), Nat.le_of_eq (hideAll_size _ _)⟩ fun p hp => ⟨hk₁ _ _ (hn p hp), Nat.ne_of_lt (Heap.lt_size (hn p hp)), hideAll_none _ (List.mem_map_of_mem hp)⟩
end

theorem accInst {h₀ h : Heap} {L x dx : Addr} {xs : Array Value} {c : Nat} {od : Obj} {news : List (Addr × Obj)} (N : News h₀ L h news) (h1 : (x, accObj dx xs c) ∈ news) (h2 : (dx, od) ∈ news) : InstAt h x (accObj dx xs c) 108 (some od) :=
  ⟨(N _ h1).1, rfl, rfl, (N _ h2).1⟩

section
variable {prog : Program} {w : World} {A : Around} {s : Shared} {K : Frag} {R : Result → Shared → Prop}
theorem enterS {f : Addr} {oc : Value} {od : Option Addr} {osl : Array (Option Value)} {name qual : Str} {params : Arguments} {body : List Stmt} {scope : Scope} {cl : List (Str × Addr)} {dV kV doc pm cdv ct : Value} {an : Option Addr} {args : Args} {binds : List (Str × Value)}
    (news : List (Addr × Obj)) (X : K.In s.heap) (hlim : s.heap.NoLimit) (ho : K.lookup f = some ⟨oc, od, .func (fnX name qual params body scope cl dV kV doc pm an cdv ct), osl⟩) (hcd : codeIn K cdv qual = true) (hroom : A.depth < recursionLimit)
    (hbind : BindsTo s (fnX name qual params body scope cl dV kV doc pm an cdv ct) args binds) (hloc : ∀ y ∈ binds, scope.names.lookup y.1 = some .local)
    (hn : ∀ p ∈ news, s.heap.get? p.1 = some p.2)
    (h : ∀ L' h₁, (∀ b o, s.heap.get? b = some o → h₁.get? b = some o) → L' = s.heap.objs.size → Fr (hideAll s.heap (news.map (·.1))) L' h₁ (fun y => binds.reverse.lookup y) → News (hideAll s.heap (news.map (·.1))) L' h₁ news →
      _root_.PySem.wpAt (model prog w) (A.deeper (envX qual scope L' f cdv cl)) (.func body (envX qual scope L' f cdv cl)) (execs body (envX qual scope L' f cdv cl))
        (fun fl s' => R (.ok (.ret (match fl with | .ret v => v | _ => .none))) s')
        (fun e s' => wpAny (model prog w) (A.deeper (envX qual scope L' f cdv cl)) (leaving (envX qual scope L' f cdv cl) e) (fun _ s'' => R (.error e) s'') (fun e' s'' => R (.error e') s'') s')
        { s with heap := h₁, toks := s.toks + binds.length })
    (hcell : ∀ x ∈ scope.names, x.2 ≠ .cell) (hco : scope.isCoroutine = false) (hgen : scope.isGenerator = false) (hk : scope.kind = .function) : codeAny (model prog w) A (.call (.ref f) args) R s := by
  refine ks_codeAny_call_defAt (fd := fnX name qual params body scope cl dV kV doc pm an cdv ct) (body := body) (binds := binds) hroom (X _ _ ho) rfl hlim (codeRec_of X hcd) rfl hbind hcell hloc (fun h₁ hns hk₁ => ?_) hco hgen hk
  refine h _ h₁ hk₁ rfl ⟨hns, fun b o e => hk₁ b o (of_hideAll _ e), Nat.le_of_eq (hideAll_size _ _)⟩ fun p hp => ⟨hk₁ _ _ (hn p hp), Nat.ne_of_lt (Heap.lt_size (hn p hp)), hideAll_none _ (List.mem_map_of_mem hp)⟩
end

theorem nd_at {α : Type} {M : Model} {A : Around} {E : Value → Shared → Prop} {s : Shared} {Q : α → Shared → Prop} {p : Pos} {k : Unit → Sem α} (h : wpAny M A (k ()) Q E s) : wpAny M A (.at p k) Q E s := fun Γ _ hΓ => h Γ p hΓ

noncomputable abbrev sizeD (w : World) (e : Tok) (v : Value) : Obj := dictOf [⟨PyData.keyHash w.params "_initial_size", .str "_initial_size" e, v⟩] 1

theorem frBut {h₀ h h' : Heap} {L x : Addr} {m : Str → Option Value} (F : Fr h₀ L h m) (k : ∀ b o, b ≠ x → h.get? b = some o → h'.get? b = some o) (hL : x ≠ L) (hx : h₀.get? x = none) : Fr h₀ L h' m :=
  ⟨let ⟨o, es, ep, e, r⟩ := F.ns; ⟨o, es, ep, k _ _ (Ne.symm hL) e, r⟩, fun b o e => k b o (by rintro rfl; rw [hx] at e; cases e) (F.keep b o e), F.above⟩

theorem newsBut {h₀ h h' : Heap} {L x : Addr} {o o' : Obj} {rest : List (Addr × Obj)} (N : News h₀ L h ((x, o) :: rest)) (k : ∀ b o, b ≠ x → h.get? b = some o → h'.get? b = some o) (hr : ∀ p ∈ rest, p.1 ≠ x) (hx : h'.get? x = some o') : News h₀ L h' ((x, o') :: rest) := by
  intro p hp
  rcases List.mem_cons.mp hp with rfl | hp
  · exact ⟨hx, (N _ (.head _)).2⟩
  · exact ⟨k _ _ (hr p hp) (N p (.tail _ hp)).1, (N p (.tail _ hp)).2⟩
end -- A0
example : True := by w_top off; trivial
section -- A1
theorem ln_kind : builtinKind "list.__new__" = some .builtinFn := by decide +kernel
theorem ln_split : splitId "list.__new__" = some ("list", "__new__") := by decide +kernel
theorem ln_quiet : ("list.__new__").startsWith "lifetime." = false := by decide +kernel
theorem ln_args (a : Value) (rest : List Value) : ∀ sig, Manifest.signature? "list.__new__" = some sig → Bind.checkArgs "list.__new__" sig ⟨a :: rest, []⟩ = pure () := by
  intro sig h
  have : Manifest.signature? "list.__new__" = some ((Manifest.signature? "list.__new__").get (by decide +kernel)) := by simp
  rw [this] at h
  cases h
  kernel_rfl

structure AccCls (M : Model) (h : Heap) : Prop where
  obj : ∃ oc od cd sl, h.get? 108 = some ⟨oc, od, .cls cd, sl⟩ ∧ cd.abstract = false ∧ cd.hasDel = false ∧ cd.mro = [.ref 108, .type "list", .type "object"]
  made : Looks M h (Bind.madeBy (.ref 108)) (some "list.__new__")
  base : Looks M h (Bind.staticBase (.ref 108)) (.ref 108)
  self : Looks M h (isSubtype (.ref 108) (.ref 108)) true
  sub : Looks M h (isSubtype (.ref 108) (.type "list")) true
  call : Looks M h (specialOf (.ref 108) "__call__") (some (.builtin "type.__call__"))
  typ : Looks M h (isInstance (.ref 108) (.type "type")) true
  nw : Looks M h (typeLookup (.ref 108) "__new__") (some (.builtin "list.__new__"))
  init : Looks M h (typeLookup (.ref 108) "__init__") (some (.ref 46))

theorem accCls {M : Model} {P : Params} {h : Heap} (X : (hd.heap_1 P).In h) : AccCls M h := by
  obtain ⟨oc, od, cd, sl, ho, e1, e2, e3, e4⟩ : ∃ oc od cd sl, (hd.heap_1 P).lookup 108 = some ⟨oc, od, .cls cd, sl⟩ ∧ cd.abstract = false ∧ cd.hasDel = false ∧ cd.mro = [.ref 108, .type "list", .type "object"] ∧ (sl.toList[4]?).join = some (.builtin "list.__new__") := ⟨_, _, _, _, rfl, rfl, rfl, rfl, rfl⟩
  have hc : clsIn (hd.heap_1 P) 108 = some cd := by unfold clsIn; rw [ho]
  have hm : Looks M h (mroOf (.ref 108)) cd.mro := (looks_clsIn X hc).andThen .now
  rw [e3] at hm
  have made : Looks M h (Bind.madeBy (.ref 108)) (some "list.__new__") := by
    intro A Q E s k q
    unfold Bind.madeBy
    refine wpAny_bind (hm A _ E s k ?_)
    rw [List.forIn_cons]
    refine wpAny_bind (wpAny_bind (wpAny_bind (wpAny_bind (wpAny_loadPart (k _ _ (X _ _ ho)) (wpAny_pure ?_)))))
    dsimp only
    rw [← Array.getElem?_toList, e4]
    exact wpAny_pure (wpAny_pure (wpAny_pure q))
  refine ⟨⟨oc, od, cd, sl, X _ _ ho, e1, e2, e3⟩, made, ?_, looks_mroIn X (by k_is), looks_mroIn X (by k_is), looks_specialIn X (by k_is), looks_instIn X (by k_is), looks_findIn X (by k_is), looks_findIn X (by k_is)⟩
  intro A Q E s k q
  unfold Bind.staticBase
  refine wpAny_bind (hm A _ E s k ?_)
  rw [List.forIn_cons]
  exact wpAny_bind (wpAny_bind (wpAny_bind (made A _ E s k (wpAny_pure (wpAny_pure (wpAny_pure q))))))

section
variable {prog : Program} {w : World} {A : Around} {h : Heap} {g : Array GenState} {d : Drawn} {t : Nat} {os : OsState} {R : Result → Shared → Prop}

theorem mk_new {rest : List Value} (Y : AccCls (model prog w) h)
    (hq : R (.ok (.ret (.ref (h.objs.size + 1)))) ⟨(h.push emptyDict).push (accObj h.objs.size #[] 0), g, d, t, os⟩) :
    codeAny (model prog w) A (.call (.builtin "list.__new__") ⟨.ref 108 :: rest, []⟩) R ⟨h, g, d, t, os⟩ := by
  obtain ⟨⟨oc, od, cd, sl, hC, e1, e2, e3⟩, made, base, self, sub, call, typ, nw, init⟩ := Y
  refine codeAny_of_tree ?_
  show wpAny _ A.in1 (do checkBuiltinCall "list.__new__" ⟨.ref 108 :: rest, []⟩; again (.builtin "list.__new__" ⟨.ref 108 :: rest, []⟩)) _ _ _
  refine wpAny_bind ?_
  simp only [checkBuiltinCall, ln_kind, ln_split]
  repeat lk
  refine ⟨plainId_quiet F.plain_list_new _, codeAny_builtin_stack F.entry_list_new rfl fun p st => ?_⟩
  rw [Around.under_plainId F.plain_list_new _]
  have hown := owner_list_new
  simp only [hown]
  have hC2 := Heap.get?_push_of_some (accObj h.objs.size #[] 0) (Heap.get?_push_of_some emptyDict hC)
  repeat lk
  rw [if_neg (by rw [e2]; decide)]
  repeat lk
  rw [show (h.push { cls := Value.type "dict", data := Data.dict #[] }).objs.size = h.objs.size + 1 from Heap.size_push ..]
  exact hq

theorem mk_init {rest : List Value} (Y : AccCls (model prog w) h) (hb : ∀ self h', (∀ b o, h.get? b = some o → h'.get? b = some o) → Looks (model prog w) h' (bindSpecial (.ref 46) self) (.ref 46, [self]))
    (hq : codeAny (model prog w) (A.under (.builtin "type.__call__" ⟨.ref 108 :: rest, []⟩)) (.call (.ref 46) ⟨.ref (h.objs.size + 1) :: rest, []⟩) (InitBack (h.objs.size + 1) R) ⟨(h.push emptyDict).push (accObj h.objs.size #[] 0), g, d, t, os⟩) :
    codeAny (model prog w) A (.call (.ref 108) ⟨rest, []⟩) R ⟨h, g, d, t, os⟩ := by
  have Y' := Y
  obtain ⟨⟨oc, od, cd, sl, hC, e1, e2, e3⟩, made, base, self, sub, call, typ, nw, init⟩ := Y
  refine codeAny_of_tree ?_
  show wpAny _ _ (callAny (.ref 108) _) _ _ _
  refine nd_load hC ?_
  show wpAny _ _ (callAny.viaDunder (.ref 108) _) _ _ _
  unfold callAny.viaDunder
  refine wpAny_bind (call.at ?_)
  dsimp only
  rw [tc_bind]
  refine wpAny_bind (wpAny_pure (wpAny_bind (wpAny_pure ?_)))
  refine wpAny_pure (a := Fin.again (.call (.builtin "type.__call__") ⟨.ref 108 :: rest, []⟩)) (And.intro rfl ?_)
  refine codeAny_call_builtin_at (Code.quiet_builtin _ (by decide +kernel)) entry_typeCall (check_slot tc_kind tc_split typ (tc_args _ _ _) ?_)
  unfold Builtin.«type.__call__»
  have e4 : cd.mro.isEmpty = false := by rw [e3]; rfl
  have hm : Looks (model prog w) h (mroOf (.ref 108)) cd.mro := ((Looks.ld (part := none) hC).andThen .now).andThen .now
  repeat (first | simp only [e4, Bool.false_eq_true, if_false] | with_reducible refine wpAny_call ?_ | lk)
  refine mk_new Y' ?_
  have k : ∀ b o, h.get? b = some o → ((h.push emptyDict).push (accObj h.objs.size #[] 0)).get? b = some o := fun b o e => Heap.get?_push_of_some _ (Heap.get?_push_of_some _ e)
  have hx : ((h.push emptyDict).push (accObj h.objs.size #[] 0)).get? (h.objs.size + 1) = some (accObj h.objs.size #[] 0) := by heap_get
  have t1 : Looks (model prog w) ((h.push emptyDict).push (accObj h.objs.size #[] 0)) (typeOf (.ref (h.objs.size + 1))) (.ref 108) := (Looks.ld hx).andThen .now
  have s1 := self.keeps k
  have i1 := init.keeps k
  have b1 := hb (.ref (h.objs.size + 1)) _ k
  unfold isInstance callSpecial? specialOf
  repeat (first | with_reducible refine wpAny_call ?_ | lk)
  refine codeAny_mono hq fun r s' z => ?_
  rcases r with e | (v | _ | _ | _) <;> first | exact z | exact z.elim | skip
  obtain ⟨rfl, z⟩ := z
  exact wpAny_pure (wpAny_pure z)
end
end -- A1
example : True := by w_top off; trivial
section -- A3
open Builtin.ObjectAttr
theorem refuse_list (self : Value) : refuseLoop self "__setattr__" [.type "list", .type "object"] = pure () := by kernel_rfl

section
variable {prog : Program} {w : World} {A : Around} {E : Value → Shared → Prop} {s : Shared} {x dx L : Addr} {h₀ : Heap} {m : Str → Option Value} {news news' : List (Addr × Obj)} {xs : Array Value} {c : Nat} {es es' : List DictEntry} {n n' : Nat} {name : Str} {v : Value}

theorem acc_set {Q : Unit → Shared → Prop} (F : Fr h₀ L s.heap m) (X₀ : (hd.heap_1 w.params).In h₀) (N : News h₀ L s.heap news) (h1 : (x, accObj dx xs c) ∈ news) (h2 : (dx, dictOf es n) ∈ news)
    (ht : takerIn (hd.heap_1 w.params) 108 name = some none) (hl : (getL name es).isSome = true)
    (e : (putL name (PyData.keyHash w.params name) (.str name (s.toks + 1)) v es, putN name es n) = (es', n')) (U : Upd dx (dictOf es n) (dictOf es' n') news news') (hz : es'.length ≤ 1000)
    (h : ∀ h', Fr h₀ L h' m → News h₀ L h' news' → Q () { s with heap := h', toks := s.toks + 2 }) :
    wpAny (model prog w) A (setAttr (.ref x) name v) Q E s := by
  obtain ⟨hh, gg, dd, tt, oo⟩ := s
  dsimp only at F N e h
  have I := accInst N h1 h2
  have X := X₀.keeps F.keep
  obtain ⟨pre, post, rfl, rfl, a, b⟩ := U.split
  obtain ⟨e1, e2⟩ := Prod.mk.inj e
  refine set_plain X I (by k_is) ?_
  have SF := PySem.F.store_object
  have hm : Looks (model prog w) hh (mroOf (.ref 108)) [.ref 108, .type "list", .type "object"] := by
    obtain ⟨oc, od, cd, sl, ho, e3⟩ : ∃ oc od cd sl, (hd.heap_1 w.params).lookup 108 = some ⟨oc, od, .cls cd, sl⟩ ∧ cd.mro = [.ref 108, .type "list", .type "object"] := ⟨_, _, _, _, rfl, rfl⟩
    have hc : clsIn (hd.heap_1 w.params) 108 = some cd := by unfold clsIn; rw [ho]
    exact e3 ▸ (looks_clsIn X hc).andThen .now
  have sub : Looks (model prog w) hh (isInstance (.ref x) (.type "object")) true := I.type.andThen (looks_mroIn X (by k_is))
  refine codeAny_call_builtin SF.slot.plain SF.entry (@check_slot (model prog w) _ _ ⟨hh, gg, dd, tt + 1, oo⟩ "object.__setattr__" "object" "__setattr__" (.ref x) [.str name tt, v] [] _ SF.kind SF.split sub (SF.args (.ref x) (.str name tt) v) ?_)
  obtain ⟨attr, ha, hr⟩ := Option.bind_eq_some_iff.mp ht
  have L3 : Looks (model prog w) hh (storeTaker? attr) none := by
    cases attr with
    | none => cases hr; exact .now
    | some a =>
      obtain ⟨b, hb, q⟩ := Option.map_eq_some_iff.mp hr
      refine (looks_takesIn X hb).andThen ?_
      cases b
      · exact .now
      · cases q
  rw [osa_eq, refuse_eq]
  refine wpAny_bind (wpAny_bind (I.type.at (wpAny_bind (hm.at ?_))))
  rw [refuseLoop_ref, refuse_list]
  refine wpAny_pure (wpAny_bind (I.type.at (wpAny_bind ((looks_findIn X ha).at (wpAny_bind (L3.at ?_))))))
  obtain ⟨cd, hc, hd'⟩ : ∃ cd, clsIn (hd.heap_1 w.params) 108 = some cd ∧ cd.hasDict = true := ⟨_, rfl, rfl⟩
  have e5 : Obj.putName name (PyData.keyHash w.params name) (.str name (tt + 1)) v (dictOf es n) = dictOf es' n' := by rw [putName_dict, e1, e2]
  obtain ⟨U1, U2⟩ := news_upd (f := Obj.putName name (PyData.keyHash w.params name) (.str name (tt + 1)) v) F N a b e5 rfl
  have D := (N (dx, dictOf es n) (by simp)).1
  have D' := (U2 (dx, dictOf es' n') (by simp)).1
  have hx := I.at_
  refine wpAny_bind (wpAny_pure (wpAny_bind (wpAny_bind (wpAny_loadPart hx (wpAny_bind ((looks_clsIn X hc).at ?_))))))
  rw [hd']
  refine wpAny_pure (a := some dx) (wpAny_bind (wpAny_pure (wpAny_bind ?_)))
  unfold nsSet
  refine wpAny_bind (wpAny_bind (wpAny_askSetting (wpAny_pure (wpAny_bind (wpAny_mkText (wpAny_bind (wpAny_loadPart D ?_)))))))
  dsimp only
  have c : (!es.toArray.any (·.key.isStr name) && es.toArray.any (·.refKey)) = false := by
    unfold getL at hl
    simp only [List.any_toArray]
    split at hl
    · rename_i en he
      rw [List.any_eq_true.mpr ⟨en, List.mem_of_find?_eq_some he, List.find?_some he⟩]; rfl
    · split at hl
      · cases hl
      · rename_i z; rw [Bool.not_eq_true] at z; rw [z, Bool.and_false]
  rw [aRefKeyMayBeTheName_at, c]
  refine wpAny_updatePart D ?_
  refine wpAny_bind (wpAny_lookBehind D' (pastItsLine_dict (by rw [List.size_toArray, sizeLine_eq]; omega)) ?_)
  exact wpAny_pure (h _ U1 U2)
end
end -- A3
example : True := by w_top off; trivial
section -- A4
section
variable {prog : Program} {w : World} {A : Around} {R : Result → Shared → Prop} {h : Heap} {g : Array GenState} {d : Drawn} {t : Nat} {os : OsState}
theorem wd_kind : builtinKind "wrapper_descriptor.__get__" = some .slot := by decide +kernel
theorem wd_split : splitId "wrapper_descriptor.__get__" = some ("wrapper_descriptor", "__get__") := by decide +kernel
theorem wd_plain : plainId "wrapper_descriptor.__get__" = true := by decide +kernel
theorem wd_entry : entryFor table "wrapper_descriptor.__get__" = some Builtin.«wrapper_descriptor.__get__» := entryFor_of_tree (by kernel_rfl)
theorem wd_args (a b c : Value) : argsOk "wrapper_descriptor.__get__" ⟨[a, b, c], []⟩ := by unfold argsOk; kernel_rfl
theorem wd_get {x dx : Addr} {xs : Array Value} {c : Nat} {id : String} (X : (hd.heap_1 w.params).In h) (hx : h.get? x = some (accObj dx xs c)) (hty : typeOf (.builtin id) = pure (.type "wrapper_descriptor")) (hcut : ".".intercalate (id.cutAt '.').dropLast = "list")
    (hR : R (.ok (.ret (.ref h.objs.size))) ⟨h.push { cls := .type "method-wrapper", data := .fields #[.builtin id, .ref x] }, g, d, t, os⟩) :
    codeAny (model prog w) A (.call (.builtin "wrapper_descriptor.__get__") ⟨[.builtin id, .ref x, .ref 108], []⟩) R ⟨h, g, d, t, os⟩ := by
  have sub : Looks (model prog w) h (isInstance (.builtin id) (.type "wrapper_descriptor")) true := (Looks.of_pure hty).andThen (.of_pure (by rw [isSubtype_type]; kernel_rfl))
  have hti : Looks (model prog w) h (isInstance (.ref x) (.type "list")) true := ((Looks.ld (part := none) hx).andThen .now).andThen (looks_mroIn X (by k_is))
  refine codeAny_call_builtin wd_plain wd_entry (@check_slot (model prog w) _ _ ⟨h, g, d, t, os⟩ "wrapper_descriptor.__get__" "wrapper_descriptor" "__get__" (.builtin id) [.ref x, .ref 108] [] _ wd_kind wd_split sub (wd_args _ _ _) ?_)
  unfold Builtin.«wrapper_descriptor.__get__»
  have hti2 : ∀ cls, cls = Value.type "list" → Looks (model prog w) h (isInstance (.ref x) cls) true := fun _ e => e ▸ hti
  repeat (first | (with_reducible refine Looks.at (hti2 _ ?e) ?_; (case e => exact congrArg Value.type hcut)) | lk)
  exact hR
end
section
variable {prog : Program} {w : World} {A : Around} {E : Value → Shared → Prop} {h : Heap} {g : Array GenState} {d : Drawn} {t : Nat} {os : OsState}

theorem super_get {so x dx : Addr} {xs : Array Value} {c : Nat} {name : Str} {id : String} {pl : Sem Bool} {Q : Value × List Value → Shared → Prop} (X : (hd.heap_1 w.params).In h)
    (hso : h.get? so = some { cls := .type "super", dict := none, data := .fields #[.ref 108, .ref x, .ref 108], slots := #[] }) (hx : h.get? x = some (accObj dx xs c))
    (hn : (name == ("__class__" : Str)) = false) (hown : classOwn (.type "list") name = pure (some (.builtin id))) (hty : typeOf (.builtin id) = pure (.type "wrapper_descriptor"))
    (hcut : ".".intercalate (id.cutAt '.').dropLast = "list")
    (hq : Q (.ref h.objs.size, []) ⟨h.push { cls := .type "method-wrapper", data := .fields #[.builtin id, .ref x] }, g, d, t + 1, os⟩) :
    wpAny (model prog w) A (getMethod (.ref so) name pl) Q E ⟨h, g, d, t, os⟩ := by
  have hlk := F.ks_slot_super_ga.lookup
  have hcan := F.ks_canon_super_ga
  have hT : ∀ t', (⟨h, g, d, t', os⟩ : Shared).TypeIs (.ref so) "super" := fun _ => ⟨_, hso, rfl⟩
  unfold getMethod
  refine wpAny_bind (wpAny_specialOf (hT _) hlk ?_)
  show wpAny _ _ (if (Manifest.canonical "super.__getattribute__" != "object.__getattribute__") = true then _ else _) _ _ _
  rw [if_pos hcan]
  unfold getAttr getAttrBy
  refine wpAny_bind (wpAny_bind (wpAny_mkText (wpAny_holding (wpAny_bind (wpAny_typeOf (hT _) (wpAny_bind (wpAny_of_eq hlk ?_)))))))
  show wpAny _ _ (getAttrByItsOwn (.ref so) (.str name t) (.type "super") (.builtin "super.__getattribute__") true false) _ _ _
  unfold getAttrByItsOwn hookBefore callGetattribute boundAndCalled
  refine wpAny_bind (wpAny_of_eq (show (if onTheHeap (.type "super") then typeLookup (.type "super") "__getattr__" else pure none) = pure none from rfl) ?_)
  refine wpAny_bind (wpAny_attempt (wpAny_holding ?_))
  show wpAny _ _ (bindSpecial (.builtin "super.__getattribute__") (.ref so) >>= _) _ _ _
  refine wpAny_bind (wpAny_of_eq (F.ks_slot_super_ga.bind _) ?_)
  refine wpAny_call_entry F.ks_slot_super_ga (hT _) F.ks_entry_super_ga ?_ (F.ks_gaArgs_super _ _)
  have hm : Looks (model prog w) h (mroOf (.ref 108)) [.ref 108, .type "list", .type "object"] := by
    obtain ⟨oc, od, cd, sl, ho, e3⟩ : ∃ oc od cd sl, (hd.heap_1 w.params).lookup 108 = some ⟨oc, od, .cls cd, sl⟩ ∧ cd.mro = [.ref 108, .type "list", .type "object"] := ⟨_, _, _, _, rfl, rfl⟩
    have hc : clsIn (hd.heap_1 w.params) 108 = some cd := by unfold clsIn; rw [ho]
    exact e3 ▸ (looks_clsIn X hc).andThen .now
  have hop : Looks (model prog w) h (opaqueClassAbove (.ref 108)) none := looks_opaque X (by k_is)
  have ht1 : Looks (model prog w) h (typeOf (.builtin id)) (.type "wrapper_descriptor") := .of_pure hty
  have ho1 : Looks (model prog w) h (classOwn (.type "list") name) (some (.builtin id)) := .of_pure hown
  have hg1 : Looks (model prog w) h (typeLookup (.type "wrapper_descriptor") "__get__") (some (.builtin "wrapper_descriptor.__get__")) := .of_pure (by rw [typeLookup_type, builtinLookup_eq_fast]; kernel_rfl)
  have hne : (Value.ref 108 == Value.none || name == ("__class__" : Str)) = false := by rw [hn]; rfl
  unfold Builtin.«super.__getattribute__» notOfAnOpaqueClass
  dsimp only [List.append]
  have hxn : x ≠ 108 := by
    rintro rfl
    obtain ⟨oc, od, cd, sl, ho⟩ : ∃ oc od cd sl, (hd.heap_1 w.params).lookup 108 = some ⟨oc, od, .cls cd, sl⟩ := ⟨_, _, _, _, rfl⟩
    have := X _ _ ho
    rw [hx] at this
    cases this
  have hxb : (Value.ref x == Value.ref 108) = false := by simpa using hxn
  have hti : Looks (model prog w) h (isInstance (.ref x) (.type "list")) true := ((Looks.ld (part := none) hx).andThen .now).andThen (looks_mroIn X (by k_is))
  repeat (first | simp only [hne, hxb, List.getElem_toArray, List.getElem_cons_succ, List.getElem_cons_zero, Bool.false_eq_true, if_false] | with_reducible refine wpAny_call ?_ | lk)
  refine wd_get X hx hty hcut ?_
  refine wpAny_pure ?_
  repeat (first | with_reducible refine wpAny_call ?_ | lk)
  refine ⟨_, rfl, ?_⟩
  repeat lk
  exact hq
end
end -- A4
example : True := by w_top off; trivial
section -- A5
theorem init_entry : entryFor table "list.__init__" = some Builtin.«list.__init__» := entryFor_of_tree (by kernel_rfl)
theorem init_plain : plainId "list.__init__" = true := by decide +kernel
theorem init_check (x : Value) : checkBoundCall "list.__init__" ⟨[x], []⟩ = pure () := by kernel_rfl
theorem len_entry : entryFor table "list.__len__" = some Builtin.«list.__len__» := entryFor_of_tree (by kernel_rfl)
theorem len_plain : plainId "list.__len__" = true := by decide +kernel
theorem len_check (x : Value) : checkBoundCall "list.__len__" ⟨[x], []⟩ = pure () := by kernel_rfl
theorem init_own : classOwn (.type "list") "__init__" = pure (some (.builtin "list.__init__")) := by
  show (pure (builtinOwn "list" "__init__") : Sem (Option Value)) = _
  rw [builtinOwn_eq_fast]; kernel_rfl
theorem len_own : classOwn (.type "list") "__len__" = pure (some (.builtin "list.__len__")) := by
  show (pure (builtinOwn "list" "__len__") : Sem (Option Value)) = _
  rw [builtinOwn_eq_fast]; kernel_rfl
theorem init_type : typeOf (.builtin "list.__init__") = pure (.type "wrapper_descriptor") := by show builtinType _ = _; rw [builtinType_eq_fast]; kernel_rfl
theorem len_type : typeOf (.builtin "list.__len__") = pure (.type "wrapper_descriptor") := by show builtinType _ = _; rw [builtinType_eq_fast]; kernel_rfl
theorem init_cut : ".".intercalate (("list.__init__" : String).cutAt '.').dropLast = "list" := by decide +kernel
theorem len_cut : ".".intercalate (("list.__len__" : String).cutAt '.').dropLast = "list" := by decide +kernel
section
variable {M : Model} {A : Around} {E : Value → Shared → Prop} {h : Heap} {g : Array GenState} {d : Drawn} {t : Nat} {os : OsState}
theorem accUpd {x dx : Addr} {c : Nat} {xs : Array Value} {f : Array Value → Array Value} {Q : Unit → Shared → Prop} (hx : h.get? x = some (accObj dx xs c)) (hz : xs.size ≤ 100) (hz' : (f xs).size ≤ 100)
    (hQ : ∀ h' c', (∀ b o, b ≠ x → h.get? b = some o → h'.get? b = some o) → h'.get? x = some (accObj dx (f xs) c') → h'.objs.size = h.objs.size → Q () ⟨h', g, d, t, os⟩) :
    wpAny M A (updateSeq x f) Q E ⟨h, g, d, t, os⟩ := by
  have hl : (100 : Nat) ≤ sizeLine := by rw [sizeLine_eq]; decide
  refine wpAny_updateSeq hx rfl ?_ (Nat.le_trans hz hl) (Nat.le_succ_of_le (Nat.le_trans hz' hl))
  refine hQ _ (if (f xs).size == xs.size then c else c + 1) (fun b o hb e => (Heap.get?_update_ne _ _ _ _ hb).trans e) ?_ (Heap.size_after_update ..)
  exact Heap.get?_update_self (Obj.mapSeq f) hx rfl
end
section
variable {prog : Program} {w : World} {A : Around} {R : Result → Shared → Prop} {h : Heap} {g : Array GenState} {d : Drawn} {t : Nat} {os : OsState}

theorem mw_call {q x : Addr} {id : String} {args : List Value} (hq : h.get? q = some { cls := .type "method-wrapper", data := .fields #[.builtin id, .ref x] }) (hp : plainId id = true) (hck : checkBoundCall id ⟨.ref x :: args, []⟩ = pure ())
    (hR : codeAny (model prog w) A (.builtin id ⟨.ref x :: args, []⟩) R ⟨h, g, d, t, os⟩) :
    codeAny (model prog w) A (.call (.ref q) ⟨args, []⟩) R ⟨h, g, d, t, os⟩ := by
  refine codeAny_of_tree ?_
  show wpAny _ _ (callAny (.ref q) _) _ _ _
  refine nd_load hq ?_
  show wpAny _ _ (checkBoundCall id ⟨.ref x :: args, []⟩ >>= fun _ => again (.builtin id ⟨.ref x :: args, []⟩)) _ _ _
  rw [hck]
  exact wpAny_bind (wpAny_pure (wpAny_pure ⟨plainId_quiet hp _, hR⟩))

theorem list_init {x dx : Addr} {c : Nat} (hx : h.get? x = some (accObj dx #[] c)) 
    (hR : ∀ h' c', (∀ b o, b ≠ x → h.get? b = some o → h'.get? b = some o) → h'.get? x = some (accObj dx #[] c') → h'.objs.size = h.objs.size → R (.ok (.ret .none)) ⟨h', g, d, t, os⟩) :
    codeAny (model prog w) A (.builtin "list.__init__" ⟨[.ref x], []⟩) R ⟨h, g, d, t, os⟩ := by
  refine codeAny_builtin init_entry ?_
  unfold Builtin.«list.__init__» Builtin.List.listUpdate
  repeat (first | (with_reducible refine accUpd hx (by decide) (by decide) ?_) | lk)
  intro h' c' hk hx' hsz
  exact wpAny_bind (wpAny_letGo (wpAny_pure (hR h' c' hk hx' hsz)))

theorem list_len {x dx : Addr} {c : Nat} {xs : Array Value} (hx : h.get? x = some (accObj dx xs c)) 
    (hR : R (.ok (.ret (.int xs.size t))) ⟨h, g, d, t + 1, os⟩) :
    codeAny (model prog w) A (.builtin "list.__len__" ⟨[.ref x], []⟩) R ⟨h, g, d, t, os⟩ := by
  refine codeAny_builtin len_entry ?_
  unfold Builtin.«list.__len__»
  repeat lk
  exact hR
end
end -- A5
example : True := by w_top off; trivial
section -- A17
noncomputable abbrev AllB (a : Array GenState) : Prop := ∀ y ∈ a, y.bare = true
structure GensUp (a b : Array GenState) : Prop where
  keep : ∀ (i : Nat) (y : GenState), a[i]? = some y → b[i]? = some y
  bare : ∀ (i : Nat) (y : GenState), b[i]? = some y → a[i]? = some y ∨ y.bare = true
theorem GensUp.refl (a : Array GenState) : GensUp a a := ⟨fun _ _ e => e, fun _ _ e => .inl e⟩
theorem GensUp.trans {a b c : Array GenState} (x : GensUp a b) (y : GensUp b c) : GensUp a c :=
  ⟨fun i z e => y.keep i z (x.keep i z e), fun i z e => by rcases y.bare i z e with h | h; exact x.bare i z h; exact .inr h⟩
theorem GensUp.only {a b : Array GenState} {gs : GenState} (hb : gs.bare = true) (x : GenOnlyQ a.size (a.push gs) b) : GensUp a b := by
  have hp : ∀ (i : Nat) (y : GenState), a[i]? = some y → (a.push gs)[i]? = some y := fun i y e => by
    have hi : i < a.size := (Array.getElem?_eq_some_iff.mp e).1
    rw [Array.getElem?_push, if_neg (Nat.ne_of_lt hi)]; exact e
  have hq : ∀ (i : Nat) (y : GenState), (a.push gs)[i]? = some y → a[i]? = some y ∨ y.bare = true := fun i y e => by
    rw [Array.getElem?_push] at e
    split at e
    · cases e; exact .inr hb
    · exact .inl e
  rcases x with rfl | ⟨⟨h1, h2⟩, hy⟩
  · exact ⟨hp, hq⟩
  · refine ⟨fun i y e => ?_, fun i y e => ?_⟩
    · have hi : i < a.size := (Array.getElem?_eq_some_iff.mp e).1
      rw [h2 i (Nat.ne_of_lt hi)]; exact hp i y e
    · by_cases hi : i = a.size
      · subst hi; exact .inr (hy _ e)
      · rw [h2 i hi] at e; exact hq i y e

noncomputable def Tab (h : Heap) (c P : Addr) : Prop := ∃ ps, h.IsCode c P ps ∧ h.TableAt c P ps
theorem Tab.keeps {h h' : Heap} {c P : Addr} (x : Tab h c P) (hk : ∀ b o, h.get? b = some o → h'.get? b = some o) : Tab h' c P :=
  let ⟨ps, a, b⟩ := x; ⟨ps, a.keeps hk, b.keeps hk⟩
theorem Tab.lt {h : Heap} {c P : Addr} (x : Tab h c P) : P < h.objs.size := let ⟨_, a, _⟩ := x; a.lt.2
theorem Tab.ltc {h : Heap} {c P : Addr} (x : Tab h c P) : c < h.objs.size := let ⟨_, a, _⟩ := x; a.lt.1
theorem Tab.at {h h' : Heap} {c P : Addr} (x : Tab h c P) (hk : ∀ b o, h.get? b = some o → (b = c ∨ b = P) → h'.get? b = some o) : Tab h' c P := by
  obtain ⟨ps, ⟨o, vs, file, tf, flags, tg, inF, text, tt, op, a, r1, r2, r3, r4, r5, r6, b, r⟩, ⟨⟨o2, vs2, e2, r7⟩, t2⟩⟩ := x
  exact ⟨ps, ⟨o, vs, file, tf, flags, tg, inF, text, tt, op, hk _ _ a (.inl rfl), r1, r2, r3, r4, r5, r6, hk _ _ b (.inr rfl), r⟩, ⟨⟨o2, vs2, hk _ _ e2 (.inl rfl), r7⟩, hk _ _ t2 (.inr rfl)⟩⟩
theorem Tab.obj {h : Heap} {c P : Addr} (x : Tab h c P) : ∃ ps, h.get? P = some { cls := .none, data := .fields ps } := let ⟨ps, _, b⟩ := x; ⟨ps, b.2⟩
theorem gen_code {M : Model} {A : Around} {E : Value → Shared → Prop} {s : Shared} {env : Env} {c P : Addr} {pos : Pos} {qualname : Str} {scope : Scope} {Q : Value → Shared → Prop}
    (hc : env.code = .ref c) (ht : Tab s.heap c P)
    (hQ : ∀ code h' tk, Heap.ExtBut P s.heap h' → s.heap.objs.size ≤ h'.objs.size → Tab h' c P → Q code { s with heap := h', toks := tk }) :
    wpAny M A (genexprCode env pos qualname scope) Q E s := by
  obtain ⟨ps, hok, htab⟩ := ht
  cases hnf : codeAmong pos ps.toList with
  | some cv => exact wpAny_genexprCode_hit hc hok hnf (hQ cv s.heap s.toks (Heap.ExtBut.refl _ _) (Nat.le_refl _) ⟨ps, hok, htab⟩)
  | none => exact wpAny_genexprCodeX hc hok htab hnf fun c' h' tk hx h1 h2 h3 _ h5 _ => hQ _ h' tk hx (Nat.le_trans h1 (Nat.le_of_lt h2)) ⟨_, h3, h5⟩
end -- A17
example : True := by w_top off; trivial
section -- A23
section
variable {M : Model} {A : Around} {R : GenEnd} {Y : Protocol} {n : Nat} {s₀ : Shared} {c : Code} {fs : List Frame} {s : Shared} {env : Env}
  {K : Flow → Sem Fin} {H : Value → Sem Fin} {gd : Bool → Bool} {lv : List Value → List Value}

noncomputable abbrev backFlow (env : Env) (K : Flow → Sem Fin) (H : Value → Sem Fin) (gd : Bool → Bool) (lv : List Value → List Value) : Result → Sem Fin :=
  fun r => ((match r with | .ok f => (.pure f : Sem Flow) | .error e => .raise e).onRaise fun (x : Value) => do
        if (← field x 1) == Value.none then unsupported "frame.own-activation:exception-without-traceback"
        setFlight x env.frame).wrap K H gd lv

theorem seg_For {target iter : Expr} {body orelse : List Stmt} {pos : Pos}
    (h : wpAny M (A.over c fs) (eval iter env) (fun x s₁ => wpAny M (A.over c fs) (pyIter x) (fun it s₂ =>
      ∀ p, Seg M A R Y n s₀ (.forLoop target it body orelse env) (M.den (.forLoop target it body orelse env)) (.ret (backFlow env K H gd lv) none (gd false) (lv []) c p [] :: fs) s₂)
      (fun x s' => Seg M A R Y n s₀ c (H x) fs s') s₁) (fun x s' => Seg M A R Y n s₀ c (H x) fs s') s)
    (hs : ∀ x, foldedSetIterable iter env x = pure x := by intro _; rfl) :
    Seg M A R Y n s₀ c ((exec (.For target iter body orelse pos) env).wrap K H gd lv) fs s := by
  rw [exec_For]
  refine seg_bind_wrap (wpAny_standAt ?_)
  refine seg_bind_wrap (wpAny_mono h (fun x s₁ h₁ => ?_) fun _ _ e => e)
  refine seg_bind_wrap (wpAny_of_eq (hs x) ?_)
  refine seg_bind_wrap (wpAny_standAt ?_)
  refine seg_bind_wrap (wpAny_holding (wpAny_mono h₁ (fun it s₂ h₂ => ?_) fun _ _ e => e))
  exact seg_call h₂

theorem seg_If {test : Expr} {body orelse : List Stmt} {pos : Pos}
    (h : wpAny M (A.over c fs) (isTrue test env (eval test env)) (fun b s' => Seg M A R Y n s₀ c ((execs (if b = true then body else orelse) env).wrap K H gd lv) fs s')
      (fun x s' => Seg M A R Y n s₀ c (H x) fs s') s) :
    Seg M A R Y n s₀ c ((exec (.If test body orelse pos) env).wrap K H gd lv) fs s := by
  show Seg M A R Y n s₀ c ((do standAt pos; if ← isTrue test env (eval test env) then execs body env else execs orelse env : Sem Flow).wrap K H gd lv) fs s
  refine seg_bind_wrap (wpAny_standAt ?_)
  refine seg_bind_wrap (wpAny_mono h (fun b s' hb => ?_) fun _ _ e => e)
  cases b <;> exact hb
end
section
variable {prog : Program} {w : World} {A : Around} {R : GenEnd} {Y : Protocol} {n : Nat} {s₀ : Shared} {fs : List Frame} {s : Shared} {env : Env}

noncomputable abbrev forH (env : Env) : Value → Sem Fin := fun e => (do noteFrame e env; theTreesLotGoes e : Sem Unit).wrap (fun _ => .raise e) .raise id id
theorem seg_forLoop {target it} {body orelse : List Stmt}
    (h : wpAny (model prog w) (A.over (.forLoop target it body orelse env) fs) (pyNext it) (fun r s₁ => match r with
        | none => Seg (model prog w) A R Y n s₀ (.block orelse env) ((model prog w).den (.block orelse env)) fs s₁
        | some v => wpAny (model prog w) (A.over (.forLoop target it body orelse env) fs) (assign target env v) (fun _ s₂ =>
          Seg (model prog w) A R Y n s₀ (.forLoop target it body orelse env) ((execs body env).wrap (fun f => match f with
            | .next | .cont => .pure (.again (.forLoop target it body orelse env))
            | .brk => .pure (.done .next)
            | .ret v => .pure (.done (.ret v))) (forH env) id id) fs s₂) (fun x s' => Seg (model prog w) A R Y n s₀ (.forLoop target it body orelse env) (forH env x) fs s') s₁)
      (fun x s' => Seg (model prog w) A R Y n s₀ (.forLoop target it body orelse env) (forH env x) fs s') s)
    (ht : ∀ v, letOwnedTupleGo target it v = pure () := by intro _; rfl) :
    Seg (model prog w) A R Y n s₀ (.forLoop target it body orelse env) ((model prog w).den (.forLoop target it body orelse env)) fs s := by
  show Seg _ A R Y n s₀ _ ((forTurn target it body orelse env).onRaise (fun x => do noteFrame x env; theTreesLotGoes x)) fs s
  unfold forTurn
  rw [Sem.onRaise_eq_wrap]
  have hH : (fun e => ((do noteFrame e env; theTreesLotGoes e : Sem Unit)).bind fun _ => (.raise e : Sem Fin)) = forH env := by
    funext e; exact Sem.bind_eq_wrap _ _
  rw [hH]
  refine seg_bind_wrap (wpAny_standAt ?_)
  refine seg_bind_wrap (wpAny_onRaise (wpAny_mono h (fun r s₁ h₁ => ?_) fun _ _ h' => wpAny_standAt h'))
  cases r with
  | none => exact seg_again rfl h₁
  | some v =>
    refine seg_bind_wrap (wpAny_of_eq (ht v) ?_)
    refine seg_bind_wrap (wpAny_mono h₁ (fun _ s₂ h₂ => ?_) fun _ _ e => e)
    rw [Sem.bind_eq_wrap', Sem.wrap_wrap]
    refine Eq.mp (congrArg (fun t => Seg (model prog w) A R Y n s₀ (.forLoop target it body orelse env) t fs s₂) (Sem.wrap_congr (execs body env) id id (fun f => ?_) (fun e => ?_))) h₂
    · cases f <;> rfl
    · rfl
end
end -- A23
example : True := by w_top off; trivial
section -- A24
inductive GOut | yld (z : Int) | stop | fail
deriving DecidableEq
noncomputable def giOut : List Int → Option Int → Nat → GOut
  | [], _, _ => .stop
  | x :: r, last, k => if x = 127 then .stop else if x = 0 then (match last with | none => .fail | some v => .yld v) else match k with
    | 0 => .yld x
    | k + 1 => giOut r (some x) k

theorem giOut_max {x : Int} {r : List Int} {last : Option Int} {k : Nat} (h : x = 127) : giOut (x :: r) last k = .stop := by unfold giOut; rw [if_pos h]
theorem giOut_zero {r : List Int} {last : Option Int} {k : Nat} : giOut (0 :: r) last k = (match last with | none => .fail | some v => .yld v) := by unfold giOut; rw [if_neg (by decide), if_pos rfl]
theorem giOut_head {x : Int} {r : List Int} {last : Option Int} (h : x ≠ 127) (h0 : x ≠ 0) : giOut (x :: r) last 0 = .yld x := by unfold giOut; rw [if_neg h, if_neg h0]
theorem giOut_tail {x : Int} {r : List Int} {last : Option Int} {k : Nat} (h : x ≠ 127) (h0 : x ≠ 0) : giOut (x :: r) last (k + 1) = giOut r (some x) k := by
  conv => lhs; unfold giOut
  rw [if_neg h, if_neg h0]

/-- an iterator over a list -/
noncomputable def IsLI (o : Obj) : Prop := o.cls = .type "list_iterator" ∧ ∃ vs, o.data = .fields vs
/-- what one run of the generator keeps -/
noncomputable def GSince (h0 : Heap) (C : Nat) (s₀ s : Shared) : Prop := ∃ h' tk, s = { s₀ with heap := h', toks := tk } ∧ ∀ b o, b ≠ C → (¬ IsLI o ∨ h0.get? b = some o) → s₀.heap.get? b = some o → h'.get? b = some o
noncomputable def GHold (h0 : Heap) (C l : Nat) (s s'' : Shared) : Prop := (∀ b o, h0.get? b = some o → s''.heap.get? b = some o) ∧ ∀ b o, s.heap.get? b = some o → (b = C ∨ b = l ∨ IsLI o) → s''.heap.get? b = some o
noncomputable def giProto (h0 : Heap) (C l N : Nat) (O : Nat → GOut) : Protocol := fun m s₀ v s kap =>
  (∃ k z t, m + 1 + k = N ∧ O k = .yld z ∧ v = .int z t) ∧ GSince h0 C s₀ s ∧ (0 < m → ∀ s'' : Shared, GHold h0 C l s s'' → kap (.send .none) s'')
noncomputable def giEnd (h0 : Heap) (C N : Nat) (O : Nat → GOut) (EX : Value → Shared → Shared → Prop) : GenEnd := fun n s₀ r s =>
  ∃ k, n + k = N ∧ ((O k = .stop ∧ r = .ok (.ret .none) ∧ GSince h0 C s₀ s) ∨ (O k = .fail ∧ ∃ e, r = .error e ∧ EX e s₀ s))
theorem funFrames_on {h h' base : Heap} : ∀ {l : List Env}, h.FunFrames base l → (∀ env ∈ l, ∀ L o, env.frame = some L → h.get? L = some o → (∀ vs, o.data ≠ .fields vs) → h'.get? L = some o) → h'.FunFrames base l
  | [], _, _ => trivial
  | _ :: _, ⟨hk, ⟨L, o, hf, hn, ho, hd⟩, hr⟩, k => ⟨hk, ⟨L, o, hf, hn, k _ (.head _) L o hf ho hd, hd⟩, funFrames_on hr fun e he => k e (.tail _ he)⟩
noncomputable def giEX (h0 : Heap) (C : Nat) (outer : List Env) : Value → Shared → Shared → Prop := fun v s₀ s => ∃ e t vs B, v = .ref e ∧ h0.StaysIn B ∧ Heap.FlyingW B outer e (.type "ValueError") (.ref t) s.heap ∧ s.heap.TupAt t vs ∧ B.get? t = none ∧
  (∃ h' tk, s = { s₀ with heap := h', toks := tk }) ∧ (∀ b o, b ≠ C → b ∉ outer.filterMap (·.frame) → ¬ IsLI o → s₀.heap.get? b = some o → B.get? b = some o) ∧
  (∀ b o, b ≠ C → ¬ IsLI o → (∀ vs, o.data ≠ .fields vs) → s₀.heap.get? b = some o → ∃ sl, s.heap.get? b = some { o with slots := sl })
theorem GSince.refl (h0 : Heap) (C : Nat) (s : Shared) : GSince h0 C s s := ⟨s.heap, s.toks, rfl, fun _ _ _ _ e => e⟩
theorem GSince.step {h0 : Heap} {C : Nat} {s₀ s : Shared} (x : GSince h0 C s₀ s) {h' : Heap} {tk : Nat} (hk : ∀ b o, b ≠ C → (¬ IsLI o ∨ h0.get? b = some o) → s.heap.get? b = some o → h'.get? b = some o) :
    GSince h0 C s₀ { s with heap := h', toks := tk } := by
  obtain ⟨h₁, tk₁, rfl, hk₁⟩ := x
  exact ⟨h', tk, rfl, fun b o hC hw e => hk b o hC hw (hk₁ b o hC hw e)⟩

section
variable {prog : Program} {w : World} {A : Around} {s : Shared} {K : Frag} {R : Result → Shared → Prop}
theorem enterG {f : Addr} {oc : Value} {od : Option Addr} {osl : Array (Option Value)} {name qual : Str} {params : Arguments} {body : List Stmt} {scope : Scope} {cl : List (Str × Addr)} {dV kV doc pm cdv ct : Value} {an : Option Addr} {args : Args} {binds : List (Str × Value)}
    (X : K.In s.heap) (hlim : s.heap.NoLimit) (ho : K.lookup f = some ⟨oc, od, .func (fnX name qual params body scope cl dV kV doc pm an cdv ct), osl⟩) (hcd : codeIn K cdv qual = true) (hroom : A.depth < recursionLimit)
    (hbind : BindsTo s (fnX name qual params body scope cl dV kV doc pm an cdv ct) args binds) (hloc : ∀ y ∈ binds, scope.names.lookup y.1 = some .local)
    (h : ∀ h₁ : Heap, h₁.Ns s.heap.objs.size (fun y => binds.reverse.lookup y) → (∀ b o, s.heap.get? b = some o → h₁.get? b = some o) →
      R (.ok (.ret (.ref h₁.objs.size))) { s with gens := s.gens.push (.fresh (.func body (envX qual scope s.heap.objs.size f cdv cl))), toks := s.toks + binds.length + 1 + 1, heap := h₁.push { cls := .type "generator", data := .fields #[.int s.gens.size 0, .str name (s.toks + binds.length), .str qual (s.toks + binds.length + 1)] } })
    (hcell : ∀ x ∈ scope.names, x.2 ≠ .cell) (hco : scope.isCoroutine = false) (hgen : scope.isGenerator = true) (hk : scope.kind = .function) : codeAny (model prog w) A (.call (.ref f) args) R s := by
  refine codeAny_call_generator (fd := fnX name qual params body scope cl dV kV doc pm an cdv ct) (body := body) hroom (X _ _ ho) rfl hco hgen rfl (codeRec_of X hcd) (hbind _ _ _ _ ?_)
  refine wpAny_newFunctionEnv hcell hloc (fun h₀ hns₀ hsb₀ => ⟨hlim.fresh _ hsb₀, ?_⟩) hk
  exact h h₀ hns₀ fun b o e => hsb₀.extBut b o (Nat.ne_of_lt (Heap.lt_size e)) (Heap.get?_push_of_some _ e)

/-- strong induction over the yields that are left, for a loop of a generator -/
theorem seg_loop_ind {R : GenEnd} {Y : Protocol} {fs : List Frame} {c : Code} (I : Nat → Shared → Shared → Prop)
    (step : ∀ n, (∀ m, m < n → ∀ s₀ s, I m s₀ s → Seg (model prog w) A R Y m s₀ c ((model prog w).den c) fs s) → ∀ s₀ s, I n s₀ s → Seg (model prog w) A R Y n s₀ c ((model prog w).den c) fs s) :
    ∀ n s₀ s, I n s₀ s → Seg (model prog w) A R Y n s₀ c ((model prog w).den c) fs s := by
  intro n
  induction n using Nat.strongRecOn with
  | ind n ih => exact step n ih
end
end -- A24
example : True := by w_top off; trivial
section -- A25
section
variable {prog : Program} {w : World} {A : Around} {R : GenEnd} {Y : Protocol} {n : Nat} {s₀ : Shared} {s : Shared} {env : Env} {K : Flow → Sem Fin} {H : Value → Sem Fin}
theorem same_over {body lbody orelse : List Stmt} {target : Expr} {it : Value} {k : Result → Sem Fin} {pp : Pos} : SameStack (A.over (.forLoop target it lbody orelse env) [.ret k none false [] (.func body env) pp []]) (A.over (.func body env) []) :=
  SameStack.refl _
theorem seg_raise_out {body lbody orelse : List Stmt} {target : Expr} {it e : Value} {pp : Pos} (hH : ∀ e, H e = (leaving env e).wrap (fun _ => .raise e) .raise id id)
    (hl : wpAny (model prog w) (A.over (.func body env) []) (leaving env e) (fun _ s' => R n s₀ (.error e) s') (fun _ _ => False) s) :
    Seg (model prog w) A R Y n s₀ (.forLoop target it lbody orelse env) (forH env e) [.ret (backFlow env K H id id) none false [] (.func body env) pp []] s := by
  refine seg_wrap (wpAny_bind (wpAny_mono (wpAny_leaving_again (A'' := A.over (.func body env) []) (E₂ := fun _ _ => False) (E₃ := fun _ _ => False) (what := "frame.own-activation:exception-without-traceback") same_over hl) (fun _ s₁ h₁ => wpAny_theTreesLotGoes ?_) fun _ _ h => h.elim))
  refine seg_leaf (.error e) ?_
  refine (seg_bind_wrap (α := Unit) (β := Flow) (K := fun _ => Sem.raise e) (wpAny_mono h₁ (fun _ s₂ h₂ => ?_) fun _ _ h => h.elim) : Seg _ _ _ _ _ _ _ _ _ _)
  show Seg _ _ _ _ _ _ _ (H e) _ _
  rw [hH]
  refine seg_wrap (wpAny_mono h₂ (fun _ s₃ h₃ => ?_) fun _ _ h => h.elim)
  exact seg_end (.error e) h₃
end
end -- A25
example : True := by w_top off; trivial
section -- A27
theorem sub_ve_stop : isSubtype (.type "ValueError") (.type "StopIteration") = pure false := by rw [isSubtype_type]; kernel_rfl
section
variable {w : World} {A : Around} {s : Shared} {E : Value → Shared → Prop} {Q : Option Value → Shared → Prop}
open Builtin.Generator in
theorem gi_next {a g C l N n k : Nat} {h0 : Heap} {O : Nat → GOut} {outer : List Env} {gs : GenState} (hh : A.handled = none) (hroom : A.depth < recursionLimit) (hl : s.heap.NoLimit)
    (hg : s.heap.IsGen a g) (hgs : s.gens[g]? = some gs) (haC : a ≠ C) (hof : a ∉ outer.filterMap (·.frame)) (hn0 : 0 < n) (hnk : n + k = N)
    (hgo : gs.Goes (model PG w) A.in1 (giEnd h0 C N O (giEX h0 C outer)) (giProto h0 C l N O) n (.send .none) (s.setGen g .running))
    (hY : ∀ z t s₁ gs', O k = .yld z → gs'.bare = true → GSince h0 C (s.setGen g .running) s₁ → (1 < n → ∀ s'' : Shared, GHold h0 C l s₁ s'' → gs'.Goes (model PG w) A.in1 (giEnd h0 C N O (giEX h0 C outer)) (giProto h0 C l N O) (n - 1) (.send .none) s'') →
      Q (some (.int z t)) (s₁.setGen g gs'))
    (hS : O k = .stop → ∀ s₁ h', GSince h0 C (s.setGen g .running) s₁ → (∀ b o, s₁.heap.get? b = some o → h'.get? b = some o) → Q none { s₁.setGen g .finished with heap := h' })
    (hE : O k = .fail → ∀ e s₁, giEX h0 C outer e (s.setGen g .running) s₁ → E e (s₁.setGen g .finished)) :
    wpAny (model PG w) A (pyNext (.ref a)) Q E s := by
  have hasg : s.heap.IsGen a g := hg
  unfold pyNext
  refine wpAny_bind (wpAny_attempt (wpAny_callSpecial?_slot (name := Str.ofString "__next__") hg.typeIs slot_gen_next
    (wpAny_call_entry slot_gen_next hg.typeIs entry_gen_next ?_ (args_gen_next _))))
  show wpAny _ A.in1 (Builtin.Generator.genWake (.ref a) (.send .none)) _ _ s
  unfold Builtin.Generator.genWake
  refine wpAny_bind (wpAny_holding (wpAny_genNumber hg (wpAny_bind (wpAny_genState hgs ?_))))
  cases gs with
  | running => exact hgo.elim
  | finished => exact hgo.elim
  | _ =>
    refine wpAny_bind (wpAny_roomToWake hl hroom ?_)
    show wpAny _ A.in1 (.resume g (.send .none) [] _) _ _ s
    refine wpAny_resumeQ hgs hgo (fun x s₁ hx => ?_) (fun v s₁ gs' hb hv => ?_)
    · obtain ⟨k', hk', hx⟩ := hx
      have : k' = k := by omega
      subst this
      rcases hx with ⟨hO, rfl, hp⟩ | ⟨hO, e, rfl, hp⟩
      · show wpAny _ A.in1 (newExc (.type "StopIteration") [] >>= _) _ _ _
        refine wpAny_bind ?_
        simp only [newExc, newTuple]
        refine wpAny_bind (wpAny_newObj_type ?_ (by size_fits))
        refine wpAny_bind (m := firstArgMember _ _) (wpAny_of_eq (a := Value.none) (by first | rfl | (simp only [firstArgMember]; rfl)) ?_)
        refine wpAny_newObj_type ?_ (by size_fits)
        simp only [raiseNew]
        refine wpAny_bind (wpAny_bind (wpAny_handled ?_))
        first | rw [show A.in1.handled = none from hh] | rw [hh]
        refine wpAny_throw ?_
        refine wpAny_bind (wpAny_isInstance (T := "StopIteration") (b := true) ⟨_, Heap.get?_push_size _ rfl, rfl⟩ isSubtype_stop ?_)
        exact wpAny_pure (hS hO s₁ _ hp fun b o hb => Heap.get?_push_of_some _ (Heap.get?_push_of_some _ hb))
      · have hp' := hp
        obtain ⟨e, t, vs, B, rfl, hB, hfl, htu, htn, _, hBk, hsl⟩ := hp
        obtain ⟨og, nm, qn, ho, hc, hd, hsl'⟩ := hasg
        have hoB := hBk a og haC hof (by intro hli; have h9 := hli.1; rw [hc] at h9; simp at h9) ho
        have hos := hfl.1 _ _ hoB
        obtain ⟨ob, hob, hobc⟩ := hfl.there
        show wpAny _ A.in1 (genLeft (.ref a) (.ref e)) _ _ _
        unfold genLeft madeByALambda genEscaped
        refine wpAny_bind (wpAny_bind (wpAny_load hos (wpAny_pure ?_)))
        rw [hd]
        dsimp only
        simp only [hc]
        have hT : ∀ s' : Shared, s'.heap = s₁.heap → s'.TypeIs (.ref e) "ValueError" := fun s' he => ⟨ob, he ▸ hob, hobc⟩
        refine wpAny_bind (wpAny_isInstance (T := "ValueError") (b := false) (hT _ rfl) sub_ve_stop ?_)
        rw [if_neg (by simp)]
        refine wpAny_bind (wpAny_isInstance (T := "ValueError") (b := false) (hT _ rfl) sub_ve_stop ?_)
        rw [if_pos (by decide)]
        refine wpAny_bind (wpAny_throw ?_)
        refine wpAny_bind (wpAny_isInstance (T := "ValueError") (b := false) (hT _ rfl) sub_ve_stop ?_)
        rw [if_neg (by decide)]
        exact wpAny_throw (hE hO _ _ hp')
    · obtain ⟨⟨k', z, t, hk', hO, rfl⟩, hsi, hnext⟩ := hv
      refine wpAny_pure ⟨_, rfl, wpAny_pure ?_⟩
      cases n with
      | zero => exact absurd hn0 (Nat.lt_irrefl _)
      | succ n =>
        have : k' = k := by omega
        subst this
        exact hY z t s₁ gs' hO hb hsi fun h1 s'' hold => by
          obtain ⟨n, rfl⟩ : ∃ m, n = m + 1 := ⟨n - 1, by omega⟩
          exact hnext (Nat.succ_pos _) s'' hold
end
end -- A27
example : True := by w_top off; trivial
section -- A30
/-- what parse257 makes of the code points behind the first quotation mark -/
noncomputable def unq : List Nat → List Nat
  | [] => []
  | c :: r => if c = 34 then (match r with | [] => [] | d :: r' => if d = 34 then 34 :: unq r' else []) else c :: unq r
noncomputable abbrev pM (rp : Str) (tr : Tok) (d : Value) (i : Int) (ti : Tok) (n : Int) (tn : Tok) (c : Option Value) : Str → Option Value :=
  fun y => if y = "c" then c else if y = "i" then some (.int i ti) else if y = "dirname" then some d else if y = "n" then some (.int n tn) else if y = "resp" then some (.str rp tr) else none
theorem str1_eq (c : Nat) : ((⟨#[c]⟩ : Str) == ("\"" : Str)) = decide (c = 34) := by
  by_cases h : c = 34
  · subst h; rfl
  · rw [decide_eq_false h]
    refine beq_eq_false_iff_ne.mpr fun e => h ?_
    have := congrArg Str.cps e
    have e2 : (Str.cps ("\"" : Str)) = #[34] := rfl
    rw [e2] at this
    simpa using this
noncomputable def Again (I : Nat → Shared → Prop) (n : Nat) (s : Shared) : Prop := ∃ m, m < n ∧ I m s
section
variable {prog : Program} {w : World} {A : Around} {s : Shared} {R : Result → Shared → Prop}
theorem whileAgain {test body orelse env} (I : Nat → Shared → Prop)
    (turn : ∀ n s, I n s →
      wpAny (model prog w) A (isTrue test env (eval test env)) (fun b s₂ =>
        if b then wpAny (model prog w) A (execs body env) (fun f s₃ => match f with
            | .next | .cont => Again I n s₃
            | .brk => R (.ok .next) s₃
            | .ret v => R (.ok (.ret v)) s₃) (notedBy (model prog w) A env fun e s' => R (.error e) s') s₂
        else wpAny (model prog w) A (execs orelse env) (fun f s₃ => R (.ok f) s₃) (notedBy (model prog w) A env fun e s' => R (.error e) s') s₂)
        (notedBy (model prog w) A env fun e s' => R (.error e) s') s)
    (n : Nat) (h : I n s) : codeAny (model prog w) A (.whileLoop test body orelse env) R s := codeAny_whileLoop I turn n h
theorem forAgain {target it body orelse env} (I : Nat → Shared → Prop)
    (turn : ∀ n s, I n s → wpAny (model prog w) A (pyNext it) (fun r s₁ => match r with
      | none => wpAny (model prog w) A (execs orelse env) (fun f s₃ => R (.ok f) s₃) (notedBy (model prog w) A env fun e s' => R (.error e) s') s₁
      | some v => wpAny (model prog w) A (assign target env v) (fun _ s₂ => wpAny (model prog w) A (execs body env) (fun f s₃ => match f with
          | .next | .cont => Again I n s₃
          | .brk => R (.ok .next) s₃
          | .ret v => R (.ok (.ret v)) s₃) (notedBy (model prog w) A env fun e s' => R (.error e) s') s₂) (notedBy (model prog w) A env fun e s' => R (.error e) s') s₁) (notedBy (model prog w) A env fun e s' => R (.error e) s') s)
    (n : Nat) (h : I n s) (ht : ∀ v, letOwnedTupleGo target it v = pure () := by intro _; rfl) : codeAny (model prog w) A (.forLoop target it body orelse env) R s := codeAny_forLoop I turn n h ht
end
noncomputable def PI (s : Shared) (L' : Nat) (rp : Str) (tr : Tok) (n : Nat) (s₁ : Shared) : Prop :=
  ∃ (i : Nat) (ti tn : Tok) (d : Str) (td : Tok) (c : Option Value), n = rp.length - i ∧ i ≤ rp.length ∧ 5 ≤ i ∧ d.cps.toList ++ unq (rp.cps.toList.drop i) = unq (rp.cps.toList.drop 5) ∧ d.length ≤ i ∧
        Fr s.heap L' s₁.heap (pM rp tr (.str d td) i ti rp.length tn c) ∧ s₁.gens = s.gens ∧ s₁.drawn = s.drawn ∧ s₁.os = s.os
theorem unq_stop1 : ∀ r : List Nat, (∀ d r', r = d :: r' → d ≠ 34) → unq (34 :: r) = []
  | [], _ => rfl
  | d :: r', h => by rw [unq, if_pos rfl]; exact if_neg (h d r' rfl)
theorem unq_two (r : List Nat) : unq (34 :: 34 :: r) = 34 :: unq r := by rw [unq, if_pos rfl]; exact if_pos rfl
theorem unq_other (c : Nat) : ∀ (r : List Nat) (_ : c ≠ 34), unq (c :: r) = c :: unq r
  | [], h => by simp [unq, h]
  | d :: r, h => by rw [unq, if_neg h]
theorem item_at {rp : Str} {i : Nat} (h : i < rp.length) : ∃ ch, Txt.item rp i = ⟨#[ch]⟩ ∧ rp.cps.toList.drop i = ch :: rp.cps.toList.drop (i + 1) := by
  have hs : i < rp.cps.size := h
  refine ⟨rp.cps[i], ?_, ?_⟩
  · have hx : seqIndex? (i : Int) rp.length = some i := by
      unfold seqIndex?
      have h1 : ¬ ((i : Int) < 0) := by omega
      simp [h1, h]
    unfold Txt.item Txt.charAt
    rw [hx]
    simp [hs]
  · rw [List.drop_eq_getElem_cons (by simpa using hs)]; simp
theorem app_cps (a b : Str) : (a ++ b).cps.toList = a.cps.toList ++ b.cps.toList := by
  show (a.cps ++ b.cps).toList = _
  simp
theorem app_len (a b : Str) : (a ++ b).length = a.length + b.length := by
  show (a.cps ++ b.cps).size = _
  simp [Str.length]
theorem PI_start {s s₁ : Shared} {L' : Nat} {rp : Str} {tr : Tok} {i : Nat} {d : Str} {td ti tn : Tok} {c : Option Value} {m : Str → Option Value} {j : Int} (F : Fr s.heap L' s₁.heap m) (hj : j = i) (hi : i ≤ rp.length) (h5 : 5 ≤ i)
    (hu : d.cps.toList ++ unq (rp.cps.toList.drop i) = unq (rp.cps.toList.drop 5)) (hdl : d.length ≤ i) (hg : s₁.gens = s.gens) (hd : s₁.drawn = s.drawn) (ho : s₁.os = s.os)
    (hc : m "c" = c) (h2 : m "i" = some (.int j ti)) (h3 : m "dirname" = some (.str d td)) (h4 : ∀ y : Str, y ≠ "c" → y ≠ "i" → y ≠ "dirname" → m y = if y = "n" then some (.int rp.length tn) else if y = "resp" then some (.str rp tr) else none) :
    PI s L' rp tr (rp.length - i) s₁ := by
  subst hj
  refine ⟨i, ti, tn, d, td, c, rfl, hi, h5, hu, hdl, ?_, hg, hd, ho⟩
  have e : m = pM rp tr (.str d td) i ti rp.length tn c := by
    funext y
    by_cases h : y = "c"
    · rw [h, hc]; rfl
    by_cases h' : y = "i"
    · rw [h', h2]; rfl
    by_cases h'' : y = "dirname"
    · rw [h'', h3]; rfl
    rw [h4 y h h' h'']
    simp only [pM, h, h', h'', if_false]
  rw [← e]; exact F
theorem PI_again {s s₁ : Shared} {L' : Nat} {rp : Str} {tr : Tok} {n i : Nat} {d : Str} {td ti tn : Tok} {c : Option Value} {m : Str → Option Value} {j : Int} (F : Fr s.heap L' s₁.heap m) (hj : j = i) (hn : rp.length - i < n) (hi : i ≤ rp.length) (h5 : 5 ≤ i)
    (hu : d.cps.toList ++ unq (rp.cps.toList.drop i) = unq (rp.cps.toList.drop 5)) (hdl : d.length ≤ i) (hg : s₁.gens = s.gens) (hd : s₁.drawn = s.drawn) (ho : s₁.os = s.os)
    (hc : m "c" = c) (h2 : m "i" = some (.int j ti)) (h3 : m "dirname" = some (.str d td)) (h4 : ∀ y : Str, y ≠ "c" → y ≠ "i" → y ≠ "dirname" → m y = if y = "n" then some (.int rp.length tn) else if y = "resp" then some (.str rp tr) else none) :
    Again (PI s L' rp tr) n s₁ := by
  subst hj
  refine ⟨rp.length - i, hn, i, ti, tn, d, td, c, rfl, hi, h5, hu, hdl, ?_, hg, hd, ho⟩
  have e : m = pM rp tr (.str d td) i ti rp.length tn c := by
    funext y
    by_cases h : y = "c"
    · rw [h, hc]; rfl
    by_cases h' : y = "i"
    · rw [h', h2]; rfl
    by_cases h'' : y = "dirname"
    · rw [h'', h3]; rfl
    rw [h4 y h h' h'']
    simp only [pM, h, h', h'', if_false]
  rw [← e]; exact F
end -- A30
example : True := by w_top off; trivial
section -- A34
open Builtin.ObjectAttr Builtin.Getset_descriptor
theorem fn_ga : typeLookup (.type "function") "__getattribute__" = pure (some (.builtin "object.__getattribute__")) := by rw [typeLookup_type, builtinLookup_eq_fast]; kernel_rfl
theorem fn_slot : Slot "function" "__getattribute__" "object.__getattribute__" :=
  .of (owner := "object") (n := "__getattribute__") (by rw [typeLookup_type, builtinLookup_eq_fast]; kernel_rfl) (by decide +kernel) (by decide +kernel) (by decide +kernel)
    (by first | exact .inl (by decide +kernel) | exact .inr (by decide +kernel)) (by rw [isSubtype_type]; kernel_rfl)
theorem oga_args (a b : Value) : argsOk "object.__getattribute__" ⟨[a, b], []⟩ := by unfold argsOk; kernel_rfl
theorem fn_hook : typeLookup (.type "function") "__getattr__" = pure none := by rw [typeLookup_type, builtinLookup_eq_fast]; kernel_rfl
theorem fn_nm : typeLookup (.type "function") "__name__" = pure (some (.builtin "function.__name__")) := by rw [typeLookup_type, builtinLookup_eq_fast]; kernel_rfl
theorem fnn_type : typeOf (.builtin "function.__name__") = pure (.type "getset_descriptor") := by show builtinType _ = _; rw [builtinType_eq_fast]; kernel_rfl
theorem fnn_owner : descrOwnerAndName "function.__name__" = ("function", "__name__") := by decide +kernel
theorem fnn_entry : entryFor table "function.__name__" = some Builtin.«function.__name__» := entryFor_of_tree (by kernel_rfl)
theorem fnn_sub : isSubtype (.type "function") (.type "function") = pure true := by rw [isSubtype_type]; kernel_rfl
theorem gs_get : typeLookup (.type "getset_descriptor") "__get__" = pure (some (.builtin "getset_descriptor.__get__")) := by rw [typeLookup_type, builtinLookup_eq_fast]; kernel_rfl
theorem gs_set : typeLookup (.type "getset_descriptor") "__set__" = pure (some (.builtin "getset_descriptor.__set__")) := by rw [typeLookup_type, builtinLookup_eq_fast]; kernel_rfl
theorem fnn_dga (d tp : Value) (f : Addr) : descrGetArgs ⟨[d, .ref f, tp], []⟩ = pure (d, some (.ref f), given tp) := by kernel_rfl

section
variable {prog : Program} {w : World} {A : Around} {E : Value → Shared → Prop} {s : Shared} {R : Result → Shared → Prop} {f : Addr} {od : Option Addr} {fd : FuncData} {sl : Array (Option Value)}
theorem fnn_get {tp : Value} (ho : s.heap.get? f = some ⟨.type "function", od, .func fd, sl⟩) (hz : fd.name.length ≤ sizeLine) (h : R (.ok (.ret (.str fd.name s.toks))) { s with toks := s.toks + 1 }) :
    codeAny (model prog w) A (.call (.builtin "getset_descriptor.__get__") ⟨[.builtin "function.__name__", .ref f, tp], []⟩) R s := by
  obtain ⟨hh, g, dr, t, os⟩ := s
  have L0 : Looks (model prog w) hh (typeOf (.ref f)) (.type "function") := (Looks.ld (part := none) ho).andThen .now
  have L1 : Looks (model prog w) hh (isSubtype (.type "function") (.type "function")) true := Looks.of_pure fnn_sub
  refine codeAny_call_builtin PySem.W.KF.slot_gs.plain PySem.W.KF.entry_gs (PySem.W.KF.slot_gs.check _ _ _ _ _ _ _ _ fnn_type (PySem.W.KF.args_gs _ _ _) ?_)
  unfold Builtin.«getset_descriptor.__get__» descrGet
  rw [fnn_dga]
  refine wpAny_bind (wpAny_pure ?_)
  unfold descrGetter descrCheckInstance descrNameAndClass isInstance
  simp only [fnn_owner]
  repeat lk
  refine ⟨Code.quiet_builtin _ (by decide +kernel), codeAny_builtin fnn_entry ?_⟩
  unfold Builtin.«function.__name__» funcData
  dsimp only [List.headD]
  repeat lk
  rw [if_neg (Nat.not_lt.mpr hz)]
  repeat lk
  exact h

theorem fn_name {expr : Bool} {Q : Value → Shared → Prop} (ho : s.heap.get? f = some ⟨.type "function", od, .func fd, sl⟩) (hz : fd.name.length ≤ sizeLine) (h : ∀ tk u, Q (.str fd.name tk) { s with toks := u }) :
    wpAny (model prog w) A (getAttr (.ref f) "__name__" expr) Q E s := by
  obtain ⟨hh, g, d, t, os⟩ := s
  have L0 : Looks (model prog w) hh (typeOf (.ref f)) (.type "function") := (Looks.ld (part := none) ho).andThen .now
  have L1 : Looks (model prog w) hh (typeLookup (.type "function") "__getattribute__") (some (.builtin "object.__getattribute__")) := Looks.of_pure fn_ga
  have L2 : Looks (model prog w) hh (typeLookup (.type "function") "__getattr__") none := Looks.of_pure fn_hook
  have L3 : Looks (model prog w) hh (typeLookup (.type "function") "__name__") (some (.builtin "function.__name__")) := Looks.of_pure fn_nm
  have L4 : Looks (model prog w) hh (typeOf (.builtin "function.__name__")) (.type "getset_descriptor") := Looks.of_pure fnn_type
  have L5 : Looks (model prog w) hh (typeLookup (.type "getset_descriptor") "__get__") (some (.builtin "getset_descriptor.__get__")) := Looks.of_pure gs_get
  have L6 : Looks (model prog w) hh (typeLookup (.type "getset_descriptor") "__set__") (some (.builtin "getset_descriptor.__set__")) := Looks.of_pure gs_set
  unfold getAttr getAttrBy
  refine wpAny_bind (wpAny_mkText (wpAny_holding (wpAny_bind (L0.at (wpAny_bind (L1.at ?_))))))
  show wpAny _ _ (getAttrByItsOwn (.ref f) _ _ _ _ expr) _ _ _
  unfold getAttrByItsOwn hookBefore callGetattribute boundAndCalled
  have e0 : (expr && onTheHeap (Value.builtin "object.__getattribute__")) = false := Bool.and_false _
  have bnd := fn_slot.bind (.ref f)
  have hcan := PySem.F.canon_object_ga
  repeat (first | simp only [e0, bnd, Bool.false_eq_true, if_false] | with_reducible refine wpAny_attempt ?_ | with_reducible refine wpAny_call ?_ | lk)
  have hT : (⟨hh, g, d, t + 1, os⟩ : Shared).TypeIs (.ref f) "function" := ⟨_, ho, rfl⟩
  refine codeAny_call_builtin fn_slot.plain PySem.F.entry_object_getattribute (fn_slot.check _ _ _ _ _ _ _ _ hT (oga_args _ _) ?_)
  unfold Builtin.«object.__getattribute__»
  unfold find getOf dataDescriptor? specialOf
  repeat (first | with_reducible refine wpAny_call ?_ | lk)
  refine fnn_get ho hz ?_
  exact wpAny_pure (handed_on rfl (h _ _))
theorem fn_nameK {K : Frag} {f : Addr} {oc : Value} {osl : Array (Option Value)} {name qual : Str} {params : Arguments} {body : List Stmt} {scope : Scope} {cl : List (Str × Addr)} {dV kV doc pm cdv ct : Value} {an : Option Addr} {expr : Bool} {Q : Value → Shared → Prop}
    (X : K.In s.heap) (ho : K.lookup f = some ⟨oc, od, .func (fnX name qual params body scope cl dV kV doc pm an cdv ct), osl⟩) (hoc : oc = .type "function") (hz : name.length ≤ sizeLine) (h : ∀ tk u, Q (.str name tk) { s with toks := u }) :
    wpAny (model prog w) A (getAttr (.ref f) "__name__" expr) Q E s := by
  subst hoc
  exact fn_name (X _ _ ho) hz h
end
end -- A34
example : True := by w_top off; trivial
section -- A37
open PySem.StrLaws PySem.Builtin.Str
section
variable {x y z : Str} {G : List Nat → List Nat}
theorem walk_free (hw : 1 ≤ y.length) (g1 : ∀ c r, (c :: r).take y.length ≠ y.cps.toList → G (c :: r) = c :: G r) :
    ∀ (m a : Nat), a + m ≤ x.length → (∀ k, a ≤ k → k < a + m → ¬ At x y x.length k) → G (x.cps.toList.drop a) = (x.cps.toList.drop a).take m ++ G (x.cps.toList.drop (a + m))
  | 0, a, _, _ => by simp
  | m + 1, a, h, hn => by
    have hl : a < x.cps.toList.length := by simp only [Array.length_toList]; show a < x.length; omega
    have ih := walk_free hw g1 m (a + 1) (by omega) fun k h1 h2 => hn k (by omega) (by omega)
    rw [List.drop_eq_getElem_cons hl]
    have hne : (x.cps.toList[a] :: x.cps.toList.drop (a + 1)).take y.length ≠ y.cps.toList := by
      intro e
      refine hn a (Nat.le_refl _) (by omega) ⟨?_, ?_⟩
      · have := congrArg List.length e
        rw [List.length_take, List.length_cons, List.length_drop] at this
        simp only [Array.length_toList] at this hl
        have hy : y.length = y.cps.size := rfl
        have hx : x.length = x.cps.size := rfl
        omega
      · rw [subAt_eq, List.drop_eq_getElem_cons hl, e]; simp
    rw [g1 _ _ hne, ih, List.take_succ_cons, show a + 1 + m = a + (m + 1) by omega]
    rfl
theorem join_rep (hw : 1 ≤ y.length) (g0 : G [] = []) (g1 : ∀ c r, (c :: r).take y.length ≠ y.cps.toList → G (c :: r) = c :: G r) (g2 : ∀ r, G (y.cps.toList ++ r) = z.cps.toList ++ G r) :
    ∀ (cuts : List Nat) (a f : Nat), a ≤ x.length → ChainG x y x.length a cuts f → (∀ k, f ≤ k → ¬ At x y x.length k) → (Str.join z (partsFrom x y.length a cuts)).cps.toList = G (x.cps.toList.drop a)
  | [], a, f, ha, h, hn => by
    have e : f = a := h
    subst e
    have := walk_free (x := x) hw g1 (x.length - f) f (by omega) fun k h1 _ => hn k h1
    rw [this]
    have e2 : x.cps.toList.drop (f + (x.length - f)) = [] := List.drop_of_length_le (by simp only [Array.length_toList]; show x.length ≤ _; omega)
    rw [e2, g0, List.append_nil]
    show (strSub x f x.length).cps.toList = _
    rw [strSub_toList]
  | c :: r, a, f, ha, h, hn => by
    obtain ⟨h1, h2, h3, h4⟩ := h
    have hc : c + y.length ≤ x.length := h2.1
    have ih := join_rep hw g0 g1 g2 r (c + y.length) f hc h4 hn
    obtain ⟨p, q, e⟩ := partsFrom_ne x y.length (c + y.length) r
    have w1 := walk_free (x := x) hw g1 (c - a) a (by omega) fun k k1 k2 => h3 k k1 (by omega)
    rw [show a + (c - a) = c by omega] at w1
    have hy := h2.2
    rw [subAt_eq] at hy
    have hy' := eq_of_beq hy
    have hd : x.cps.toList.drop c = y.cps.toList ++ x.cps.toList.drop (c + y.length) := by
      have hdd : x.cps.toList.drop (c + y.length) = (x.cps.toList.drop c).drop y.length := by rw [List.drop_drop]
      rw [hdd]
      conv => rhs; rw [← hy']
      exact (List.take_append_drop _ _).symm
    rw [w1, hd, g2, ← ih]
    show (Str.join z (strSub x a c :: partsFrom x y.length (c + y.length) r)).cps.toList = _
    rw [e]
    show (strSub x a c ++ z ++ Str.join z (p :: q)).cps.toList = _
    simp only [Str.cps_append, Array.toList_append, strSub_toList, List.append_assoc]
theorem replace_rep (hw : 1 ≤ y.length) (g0 : G [] = []) (g1 : ∀ c r, (c :: r).take y.length ≠ y.cps.toList → G (c :: r) = c :: G r) (g2 : ∀ r, G (y.cps.toList ++ r) = z.cps.toList ++ G r) :
    (Txt.replace x y z).cps.toList = G x.cps.toList := by
  obtain ⟨f, hch, hf⟩ := occ_tight x y hw
  have key := join_rep hw g0 g1 g2 _ 0 f (Nat.zero_le _) hch hf
  unfold Txt.replace
  have hy0 : (y.length == 0) = false := by simp; omega
  rw [hy0, Bool.false_and, Bool.or_false]
  cases ho : occurrences x y 0 x.length (x.length + 1) with
  | nil =>
    rw [ho] at key
    simp only [List.isEmpty_nil, if_true]
    rw [show x.cps.toList.drop 0 = x.cps.toList from rfl] at key
    rw [← key]
    show _ = (strSub x 0 x.length).cps.toList
    rw [sub_whole]
  | cons i r =>
    rw [ho] at key
    simp only [List.isEmpty_cons, Bool.false_eq_true, if_false]
    rw [glued_eq_join, partsBetween_eq, key]; rfl
end
/-- '""' turned into '!' -/
noncomputable def rep2 : List Nat → List Nat
  | [] => []
  | c :: r => if c = 34 then (match r with | [] => [34] | d :: r' => if d = 34 then 33 :: rep2 r' else 34 :: rep2 (d :: r')) else c :: rep2 r
theorem rep2_two (r : List Nat) : rep2 (34 :: 34 :: r) = 33 :: rep2 r := by rw [rep2, if_pos rfl]; exact if_pos rfl
theorem rep2_other (c : Nat) : ∀ (r : List Nat) (_ : ¬ (c = 34 ∧ ∃ r', r = 34 :: r')), rep2 (c :: r) = c :: rep2 r
  | [], h => by
    by_cases hc : c = 34
    · subst hc; rfl
    · simp [rep2, hc]
  | d :: r', h => by
    rw [rep2]
    by_cases hc : c = 34
    · subst hc
      rw [if_pos rfl]
      have hd : d ≠ 34 := fun e => h ⟨rfl, r', by rw [e]⟩
      exact if_neg hd
    · rw [if_neg hc]
theorem replace_two (x : Str) : (Txt.replace x "\"\"" "!").cps.toList = rep2 x.cps.toList := by
  refine replace_rep (by decide) rfl (fun c r h => rep2_other c r ?_) fun r => rep2_two r
  rintro ⟨rfl, r', rfl⟩
  exact h rfl
theorem replace_bang (x : Str) : (Txt.replace x "!" "\"").cps.toList = x.cps.toList.map fun c => if c = 33 then 34 else c := by
  refine replace_rep (G := fun l => l.map fun c => if c = 33 then 34 else c) (by decide) rfl (fun c r h => ?_) fun r => rfl
  have hc : c ≠ 33 := fun e => h (by subst e; rfl)
  rw [List.map_cons, if_neg hc]
theorem partition_bang (x : Str) : (Txt.partition x "\"").1.cps.toList = x.cps.toList.takeWhile (· ≠ 34) := by
  have atq : ∀ i, At x "\"" x.length i ↔ x.cps.toList[i]? = some 34 := by
    intro i
    constructor
    · rintro ⟨h1, h2⟩
      rw [subAt_eq] at h2
      have h3 := eq_of_beq h2
      have hl : i < x.cps.toList.length := by simp only [Array.length_toList]; exact h1
      rw [List.drop_eq_getElem_cons hl] at h3
      rw [List.getElem?_eq_getElem hl]
      have h4 : [x.cps.toList[i]] = [34] := h3
      rw [List.cons.inj h4 |>.1]
    · intro h
      obtain ⟨hl, e⟩ := List.getElem?_eq_some_iff.mp h
      refine ⟨by simp only [Array.length_toList] at hl; exact hl, ?_⟩
      rw [subAt_eq, List.drop_eq_getElem_cons hl, e]
      rfl
  have tw : ∀ (l : List Nat) (i : Nat), (∀ k, k < i → l[k]? ≠ some 34) → (i = l.length ∨ l[i]? = some 34) → l.takeWhile (· ≠ 34) = l.take i := by
    intro l
    induction l with
    | nil => intro i _ _; simp
    | cons c r ih =>
      intro i h1 h2
      cases i with
      | zero =>
        rcases h2 with h2 | h2
        · cases h2
        · have : c = 34 := by simpa using h2
          subst this; rfl
      | succ i =>
        have hc : c ≠ 34 := fun e => h1 0 (by omega) (by rw [e]; rfl)
        rw [List.takeWhile_cons_of_pos (by simpa using hc), List.take_succ_cons, ih i (fun k hk => by have := h1 (k + 1) (by omega); simpa using this) (by
          rcases h2 with h2 | h2
          · left; simpa using h2
          · right; simpa using h2)]
  rcases PyProof.Rows.partition_head x "\"" with ⟨h1, h2⟩ | ⟨i, h1, h2, h3⟩
  · rw [h1, tw x.cps.toList x.cps.toList.length (fun k _ e => h2 k ((atq k).mpr e)) (.inl rfl), List.take_length]
  · rw [h1, strSub_toList, tw x.cps.toList i (fun k hk e => h3 k hk ((atq k).mpr e)) (.inr ((atq i).mp h2))]
    simp
theorem unq_rep (n : Nat) : ∀ l : List Nat, l.length ≤ n → (∀ c ∈ l, c ≠ 33) → ((rep2 l).takeWhile (· ≠ 34)).map (fun c => if c = 33 then 34 else c) = unq l := by
  induction n with
  | zero => intro l h _; cases l with
    | nil => rfl
    | cons _ _ => simp at h
  | succ n ih =>
    intro l h hb
    cases l with
    | nil => rfl
    | cons c r =>
      have hc33 := hb c (.head _)
      by_cases hc : c = 34
      · subst hc
        cases r with
        | nil => rfl
        | cons d r' =>
          by_cases hd : d = 34
          · subst hd
            rw [rep2_two, unq_two, List.takeWhile_cons_of_pos (by decide), List.map_cons, if_pos rfl, ih r' (by simp at h; omega) fun c hc => hb c (.tail _ (.tail _ hc))]
          · rw [rep2_other 34 (d :: r') (by rintro ⟨_, r'', e⟩; cases e; exact hd rfl), unq_stop1 (d :: r') (fun d' r'' e => by cases e; exact hd), List.takeWhile_cons_of_neg (by decide)]
            rfl
      · rw [rep2_other c r (fun h => hc h.1), unq_other c r hc, List.takeWhile_cons_of_pos (by simpa using hc), List.map_cons, if_neg hc33, ih r (by simp at h; omega) fun c hc => hb c (.tail _ hc)]
theorem rep2_len (n : Nat) : ∀ l : List Nat, l.length ≤ n → (rep2 l).length ≤ l.length := by
  induction n with
  | zero => intro l h; cases l with
    | nil => simp [rep2]
    | cons _ _ => simp at h
  | succ n ih =>
    intro l h
    cases l with
    | nil => simp [rep2]
    | cons c r =>
      by_cases hc : c = 34 ∧ ∃ r', r = 34 :: r'
      · obtain ⟨rfl, r', rfl⟩ := hc
        rw [rep2_two]
        have := ih r' (by simp at h; omega)
        simp only [List.length_cons]; omega
      · rw [rep2_other c r hc]
        have := ih r (by simp at h; omega)
        simp only [List.length_cons]; omega
theorem told_eq (x : Str) (hb : ∀ c ∈ x.cps.toList, c ≠ 33) : (Txt.replace (Txt.partition (Txt.replace x "\"\"" "!") "\"").1 "!" "\"").cps.toList = unq x.cps.toList := by
  rw [replace_bang, partition_bang, replace_two, unq_rep _ _ (Nat.le_refl _) hb]
theorem rep_len (x : Str) : (Txt.replace x "\"\"" "!").length ≤ x.length := by
  have := rep2_len _ x.cps.toList (Nat.le_refl _)
  rw [← replace_two] at this
  simp only [Array.length_toList] at this
  exact this
theorem slice_to (x : Str) {j : Int} (h : 0 ≤ j ∧ j ≤ x.cps.toList.length) : (Txt.slice x none (some j)).cps.toList = x.cps.toList.take j.toNat := by
  have := eq_of_beq (PyProof.Rows.slice_closes_to h)
  rw [this]; simp
theorem slice_mid (x : Str) {i j : Int} (h : 0 ≤ i ∧ i ≤ j ∧ j ≤ x.cps.toList.length) : (Txt.slice x (some i) (some j)).cps.toList = (x.cps.toList.drop i.toNat).take (j - i).toNat := by
  have := eq_of_beq (PyProof.Rows.slice_closes h)
  rw [this]
end -- A37
example : True := by w_top off; trivial
section -- A44
section
variable {α : Type} {a b c d e l p q x y : α} {R H M T : List α}
theorem mv_61a (h : p ∈ a :: b :: c :: q :: d :: x :: y :: R) : p ∈ c :: q :: a :: b :: d :: x :: y :: R := by
  simp only [List.mem_cons] at h ⊢
  rcases h with h | h | h | h | h | h | h | h <;> simp [h]
theorem mv_61b (h : p ∈ a :: b :: d :: x :: y :: R) : p ∈ a :: b :: c :: q :: d :: x :: y :: R := by
  simp only [List.mem_cons] at h ⊢
  rcases h with h | h | h | h | h | h <;> simp [h]
theorem mv_63a (h : p ∈ a :: b :: d :: x :: y :: (H ++ R)) : p ∈ H ∨ p ∈ a :: b :: d :: x :: y :: R := by
  simp only [List.mem_cons, List.mem_append] at h ⊢
  rcases h with h | h | h | h | h | h | h <;> simp [h]
theorem mv_63b (h : p ∈ a :: b :: d :: x :: y :: R) : p ∈ a :: b :: d :: x :: y :: (H ++ R) := by
  simp only [List.mem_cons, List.mem_append] at h ⊢
  rcases h with h | h | h | h | h | h <;> simp [h]
theorem mv_64a (h : p ∈ a :: b :: d :: x :: y :: R) : p ∈ a :: b :: d :: x :: y :: (e :: R) := by
  simp only [List.mem_cons] at h ⊢
  rcases h with h | h | h | h | h | h <;> simp [h]
theorem mv_64b (h : p ∈ a :: b :: d :: x :: y :: (e :: R)) : p = e ∨ p ∈ a :: b :: d :: x :: y :: R := by
  simp only [List.mem_cons] at h ⊢
  rcases h with h | h | h | h | h | h | h <;> simp [h]
theorem mv_68 (h : p ∈ a :: b :: d :: x :: y :: (e :: l :: R)) : p ∈ e :: a :: b :: d :: l :: x :: y :: R := by
  simp only [List.mem_cons] at h ⊢
  rcases h with h | h | h | h | h | h | h | h <;> simp [h]
theorem mv_core (h : p ∈ a :: b :: c :: d :: (R ++ (M ++ T))) : p ∈ R ++ c :: d :: (M ++ b :: a :: T) := by
  simp only [List.mem_cons, List.mem_append] at h ⊢
  rcases h with h | h | h | h | h | h | h <;> simp [h]
end
/-- the state written short again -/
theorem renorm {α : Type} {M : Model} {A : Around} {E : Value → Shared → Prop} {Q : α → Shared → Prop} {t : Sem α} {h : Heap} {g : Array GenState} {d : Drawn} {k : Nat} {o : OsState} (H : ∀ k, wpAny M A t Q E ⟨h, g, d, k, o⟩) : wpAny M A t Q E ⟨h, g, d, k, o⟩ := H k
end -- A44
example : True := by w_top off; trivial
local macro_rules | `(tactic| k_inst) => `(tactic| (refine' accInst ?N ?h1 ?h2; (case N => k_asm); (case h1 => k_mem); (case h2 => k_mem)))
local macro_rules | `(tactic| walk_at "setAttr ref") => `(tactic| (k_here; k_dflt (refine' acc_set ?k1 ?k2 ?k3 ?k4 ?k5 ?k6 ?k7 ?k8 ?k9 ?k10 ?_; (case k1 => k_asm); (case k2 => k_asm); (case k3 => k_asm); (case k4 => k_mem); (case k5 => k_mem); (case k6 => k_is); (case k7 => k_get); (case k8 => k_put); (case k9 => k_upd); (case k10 => exact Nat.le_of_ble_eq_true rfl); k_whole; intro h' F' N'; (try k_sweep))))
local macro_rules | `(tactic| walk_at "mine lk") => `(tactic| first | (with_reducible refine nd_at ?_; try dsimp only) | (with_reducible refine wpAny_call ?_) | lk)
section -- A2
section
variable {w : World} {s : Shared} {R : Result → Shared → Prop} {dp un : Nat} {gd : Option (List Code)} {es : List Env} {p : Program} {loose : List Str} {mg mb : Str → Option Value} {mean : ExcName → Option Value}

theorem acc_init {x dx : Nat} {k : Int} {tk : Tok} (hdp : dp + 3 < recursionLimit) (hun : un + 8 < cLine)
    (X : (hd.heap_1 w.params).In (hideAll s.heap [x, dx])) (T : Top p loose mean mg mb (hideAll s.heap [x, dx]))
    (hx : s.heap.get? x = some (accObj dx #[] 0)) (hdx : s.heap.get? dx = some (dictOf [] 0)) (hne : dx < x)
    (hR : ∀ h' t' e c, (∀ b o, b ≠ x → b ≠ dx → s.heap.get? b = some o → h'.get? b = some o) → h'.get? x = some (accObj dx #[] c) → h'.get? dx = some (dictOf [⟨PyData.keyHash w.params "_initial_size", .str "_initial_size" e, .int k tk⟩] 1) →
      R (.ok (.ret .none)) { s with heap := h', toks := t' }) :
    codeAny (model PG w) (AA dp un gd es) (.call (.ref 46) ⟨[.ref x, .int k tk], []⟩) R s := by
  have st : ∀ b o, (hideAll s.heap [x, dx]).get? b = some o → s.heap.get? b = some o := fun b o e => of_hideAll _ e
  have st2 : ∀ b o, b ≠ x → b ≠ dx → s.heap.get? b = some o → (hideAll s.heap [x, dx]).get? b = some o := fun b o h1 h2 e => hideAll_get _ e (by simp [h1, h2])
  refine' enterS (binds := [("self", .ref x), ("initial_size", .int k tk)]) [(x, accObj dx #[] 0), (dx, (dictOf [] 0))] (X.keeps st) (T.nolimit.keeps st) ?ho ?hcd ?hroom ?hbind ?hloc ?hn ?h ?hcell ?hco ?hgen ?hk
  case ho => k_is
  case hcd => k_is
  case hroom => show dp < _; omega
  case hbind => exact binds_K (X.keeps st) rfl (by k_is) rfl rfl rfl
  case hloc => exact locs rfl
  case hcell => decide
  case hco => exact rfl
  case hgen => exact rfl
  case hk => exact rfl
  case hn => intro p hp; rcases List.mem_cons.mp hp with rfl | hp; exact hx; rcases List.mem_cons.mp hp with rfl | hp; exact hdx; cases hp
  case h =>
    intro L' h₁ hk hL F' N'
    dsimp only [List.map] at F' N'
    clear hk
    refine ks_wpAt_execs_cons ?_
    refine wpAt_of_wpAny ?_
    walk1
    walk1
    walk1
    walk1
    show _root_.PySem.wpAt _ _ _ _ _ _ _
    refine ks_wpAt_execs_cons ?_
    refine ks_wpAt_Expr_any ?_
    refine ks_wpAt_MethodCall ?_
    k_dflt (refine ks_node (by k_asm) (by k_asm) (by k_asm) (by k_asm) (by k_is) (by rfl) (by rfl) (by k_inst) (by k_is) (by rfl) (by first | rfl | decide +kernel) (by k_is) (by k_is) (by k_is) (by k_is) (by decide) (by rfl) (by rfl) (by rfl) (by rfl) (by decide +kernel) (by first | boot_by_name | rfl | kernel_rfl) ?_)
    intro so h2 F2 N2 l2
    have X2 : (hd.heap_1 w.params).In h2 := X.keeps F2.keep
    refine super_get X2 (N2 _ (.head _)).1 (N2 _ (.tail _ (.head _))).1 rfl init_own init_type init_cut ?_
    have F3 := F2.push { cls := .type "method-wrapper", data := .fields #[.builtin "list.__init__", .ref x] }
    have N3 := N2.push F2 { cls := .type "method-wrapper", data := .fields #[.builtin "list.__init__", .ref x] }
    generalize h2.objs.size = q at *
    generalize h2.push { cls := .type "method-wrapper", data := .fields #[.builtin "list.__init__", .ref x] } = h3 at *
    dsimp only
    unfold callWith
    have hq3 := (N3 _ (.head _)).1
    repeat walk_at "mine lk"
    refine mw_call hq3 init_plain (init_check _) (list_init (N3 _ (.tail _ (.tail _ (.head _)))).1 fun h4 c4 k4 hx4 _ => ?_)
    dsimp only
    repeat walk_at "mine lk"
    refine wpAt_of_wpAny (wpAny_pure ?_)
    have hd3 := (N3 _ (.tail _ (.tail _ (.tail _ (.head _))))).1
    exact hR h4 _ _ c4 (fun b o hb hb2 e => k4 b o hb (F3.keep b o (st2 b o hb hb2 e))) hx4 (k4 _ _ (Nat.ne_of_lt hne) hd3)
end
end -- A2
example : True := by w_top off; trivial
section -- A6
section
variable {w : World} {s : Shared} {R : Result → Shared → Prop} {dp un : Nat} {gd : Option (List Code)} {es : List Env} {p : Program} {loose : List Str} {mg mb : Str → Option Value} {mean : ExcName → Option Value}

theorem acc_count {x dx : Nat} {xs : Array Value} {c : Nat} {od : Obj} (hdp : dp + 3 < recursionLimit)
    (X : (hd.heap_1 w.params).In (hideAll s.heap [x, dx])) (T : Top p loose mean mg mb (hideAll s.heap [x, dx]))
    (hx : s.heap.get? x = some (accObj dx xs c)) (hdx : s.heap.get? dx = some od) (hne : dx < x)
    (hR : ∀ h' t', (∀ b o, s.heap.get? b = some o → h'.get? b = some o) → R (.ok (.ret (.int xs.size t'))) { s with heap := h', toks := t' + 1 }) :
    codeAny (model PG w) (AA dp un gd es) (.call (.ref 105) ⟨[.ref x], []⟩) R s := by
  have st : ∀ b o, (hideAll s.heap [x, dx]).get? b = some o → s.heap.get? b = some o := fun b o e => of_hideAll _ e
  have st2 : ∀ b o, b ≠ x → b ≠ dx → s.heap.get? b = some o → (hideAll s.heap [x, dx]).get? b = some o := fun b o h1 h2 e => hideAll_get _ e (by simp [h1, h2])
  refine' enterS (binds := [("self", .ref x)]) [(x, accObj dx xs c), (dx, od)] (X.keeps st) (T.nolimit.keeps st) ?ho ?hcd ?hroom ?hbind ?hloc ?hn ?h ?hcell ?hco ?hgen ?hk
  case ho => k_is
  case hcd => k_is
  case hroom => show dp < _; omega
  case hbind => exact BindsTo.of_eq rfl
  case hloc => exact locs rfl
  case hcell => decide
  case hco => exact rfl
  case hgen => exact rfl
  case hk => exact rfl
  case hn => intro p hp; rcases List.mem_cons.mp hp with rfl | hp; exact hx; rcases List.mem_cons.mp hp with rfl | hp; exact hdx; cases hp
  case h =>
    intro L' h₁ hk hL F' N'
    dsimp only [List.map] at F' N'
    refine ks_wpAt_execs_cons ?_
    refine ks_wpAt_Return_some ?_
    refine ks_wpAt_MethodCall ?_
    k_dflt (refine ks_node (by k_asm) (by k_asm) (by k_asm) (by k_asm) (by k_is) (by rfl) (by rfl) (by k_inst) (by k_is) (by rfl) (by first | rfl | decide +kernel) (by k_is) (by k_is) (by k_is) (by k_is) (by decide) (by rfl) (by rfl) (by rfl) (by rfl) (by decide +kernel) (by first | boot_by_name | rfl | kernel_rfl) ?_)
    intro so h2 F2 N2 l2
    have X2 : (hd.heap_1 w.params).In h2 := X.keeps F2.keep
    refine super_get X2 (N2 _ (.head _)).1 (N2 _ (.tail _ (.head _))).1 rfl len_own len_type len_cut ?_
    have F3 := F2.push { cls := .type "method-wrapper", data := .fields #[.builtin "list.__len__", .ref x] }
    have N3 := N2.push F2 { cls := .type "method-wrapper", data := .fields #[.builtin "list.__len__", .ref x] }
    generalize h2.objs.size = q at *
    generalize h2.push { cls := .type "method-wrapper", data := .fields #[.builtin "list.__len__", .ref x] } = h3 at *
    dsimp only
    unfold callWith
    have hq3 := (N3 _ (.head _)).1
    repeat walk_at "mine lk"
    have hx3 := (N3 _ (.tail _ (.tail _ (.head _)))).1
    have hd3 := (N3 _ (.tail _ (.tail _ (.tail _ (.head _))))).1
    refine mw_call hq3 len_plain (len_check _) (list_len hx3 ?_)
    dsimp only
    repeat walk_at "mine lk"
    refine hR h3 _ fun b o e => ?_
    by_cases h1 : b = x
    · subst h1; rw [hx] at e; cases e; exact hx3
    · by_cases h2 : b = dx
      · subst h2; rw [hdx] at e; cases e; exact hd3
      · exact F3.keep b o (st2 b o h1 h2 e)
end
end -- A6
example : True := by w_top off; trivial
section -- A8
theorem lga_kind : builtinKind "list.__getattribute__" = some .slot := by decide +kernel
theorem lga_split : splitId "list.__getattribute__" = some ("list", "__getattribute__") := by decide +kernel
theorem lga_plain : plainId "list.__getattribute__" = true := by decide +kernel
theorem lga_args (a b : Value) : argsOk "list.__getattribute__" ⟨[a, b], []⟩ := by unfold argsOk; kernel_rfl
theorem lga_canon : (Manifest.canonical "list.__getattribute__" != "object.__getattribute__") = false := by decide +kernel
theorem lga_bind (self : Value) : bindSpecial (.builtin "list.__getattribute__") self = pure (.builtin "list.__getattribute__", [self]) := by
  have h : typeOf (.builtin "list.__getattribute__") = pure (.type "wrapper_descriptor") := by show builtinType _ = _; rw [builtinType_eq_fast]; kernel_rfl
  unfold bindSpecial
  rw [h]
  rfl
section
variable {w : World} {A : Around} {E : Value → Shared → Prop} {h : Heap} {g : Array GenState} {d : Drawn} {t : Nat} {os : OsState}

theorem acc_meth {prog : Program} {x dx : Nat} {xs : Array Value} {c : Nat} {e : Tok} {v f tf : Value} {name : Str} {pl : Sem Bool} {Q : Value × List Value → Shared → Prop} (X : (hd.heap_1 w.params).In h)
    (hx : h.get? x = some (accObj dx xs c)) (hdx : h.get? dx = some (sizeD w e v)) (hf : findIn (hd.heap_1 w.params) (.ref 108) name = some (some f)) (hty : typeIn (hd.heap_1 w.params) f = some tf)
    (htf : (tf != .type "function" && tf != .type "method_descriptor" && tf != .type "wrapper_descriptor") = false) (hl : getL name [⟨PyData.keyHash w.params "_initial_size", .str "_initial_size" e, v⟩] = some none)
    (hq : Q (f, [.ref x]) ⟨h, g, d, t, os⟩) :
    wpAny (model prog w) A (getMethod (.ref x) name pl) Q E ⟨h, g, d, t, os⟩ := by
  have I : InstAt h x (accObj dx xs c) 108 (some (sizeD w e v)) := ⟨hx, rfl, rfl, hdx⟩
  have s1 : Looks (model prog w) h (specialOf (.ref x) "__getattribute__") (some (.builtin "list.__getattribute__")) := I.type.andThen (looks_findIn X (by k_is))
  have s2 : Looks (model prog w) h (specialOf (.ref x) "__getattr__") none := I.type.andThen (looks_findIn X (by k_is))
  have s3 : Looks (model prog w) h (specialOf (.ref x) name) (some f) := I.type.andThen (looks_findIn X hf)
  have s4 : Looks (model prog w) h (typeOf f) tf := looks_typeIn X hty
  have hcan := lga_canon
  have s5 : Looks (model prog w) h (nsGet dx name) none := by
    intro A Q E s k q
    unfold nsGet
    refine wpAny_bind (wpAny_loadPart (k _ _ hdx) ?_)
    rw [nsLook_of (lookIn_dict name _ 1 ▸ hl)]
    exact wpAny_pure q
  unfold getMethod
  repeat (first | simp only [hcan, htf, Bool.false_eq_true, if_false] | lk)
  exact hq

theorem acc_get {prog : Program} {x dx : Nat} {xs : Array Value} {c : Nat} {e : Tok} {v : Value} {expr : Bool} {Q : Value → Shared → Prop} (X : (hd.heap_1 w.params).In h)
    (hx : h.get? x = some (accObj dx xs c)) (hdx : h.get? dx = some (sizeD w e v)) (hv : handedIn v = true) (hq : Q v ⟨h, g, d, t + 1, os⟩) :
    wpAny (model prog w) A (getAttr (.ref x) "_initial_size" expr) Q E ⟨h, g, d, t, os⟩ := by
  have I : InstAt h x (accObj dx xs c) 108 (some (sizeD w e v)) := ⟨hx, rfl, rfl, hdx⟩
  have s1 : Looks (model prog w) h (specialOf (.ref x) "__getattribute__") (some (.builtin "list.__getattribute__")) := I.type.andThen (looks_findIn X (by k_is))
  have s2 : Looks (model prog w) h (typeLookup (.ref 108) "__getattr__") none := (looks_findIn X (by k_is))
  have s3 : Looks (model prog w) h (typeLookup (.ref 108) "_initial_size") none := (looks_findIn X (by k_is))
  have s4 : Looks (model prog w) h (typeLookup (.ref 108) "__getattribute__") (some (.builtin "list.__getattribute__")) := (looks_findIn X (by k_is))
  have s5 : Looks (model prog w) h (nsGet dx "_initial_size") (some v) := by
    intro A Q E s k q
    unfold nsGet
    refine wpAny_bind (wpAny_loadPart (k _ _ hdx) ?_)
    rw [nsLook_of (lookIn_dict _ _ 1 ▸ (rfl : getL "_initial_size" [⟨PyData.keyHash w.params "_initial_size", .str "_initial_size" e, v⟩] = some (some v)))]
    exact wpAny_pure q
  have s6 := I.type (M := model prog w)
  have hcan := lga_canon
  have bnd : Looks (model prog w) h (bindSpecial (.builtin "list.__getattribute__") (.ref x)) (.builtin "list.__getattribute__", [.ref x]) := .of_pure (lga_bind _)
  have hti : Looks (model prog w) h (isInstance (.ref x) (.type "list")) true := I.type.andThen (looks_mroIn X (by k_is))
  have e0 : (expr && onTheHeap (Value.builtin "list.__getattribute__")) = false := Bool.and_false _
  unfold getAttr getAttrBy
  refine wpAny_bind (wpAny_mkText (wpAny_holding (wpAny_bind (s6.at (wpAny_bind (s4.at ?_))))))
  show wpAny _ _ (getAttrByItsOwn (.ref x) _ _ _ true expr) _ _ _
  unfold getAttrByItsOwn hookBefore callGetattribute boundAndCalled
  repeat (first | simp only [e0, Bool.false_eq_true, if_false] | with_reducible refine wpAny_attempt ?_ | with_reducible refine wpAny_call ?_ | lk)
  have fnd : Looks (model prog w) h (Builtin.ObjectAttr.find (.ref x) (.ref 108) "_initial_size") (.value v) := looks_find X I (findObj_own (by k_is) (attr := none) (by k_is) rfl (lookIn_dict _ _ 1 ▸ (rfl : getL "_initial_size" [⟨PyData.keyHash w.params "_initial_size", .str "_initial_size" e, v⟩] = some (some v))))
  refine codeAny_call_builtin lga_plain am_entry_list_getattribute (@check_slot (model prog w) _ _ ⟨h, g, d, t + 1, os⟩ "list.__getattribute__" "list" "__getattribute__" (.ref x) [.str "_initial_size" t] [] _ lga_kind lga_split hti (lga_args _ _) ?_)
  unfold Builtin.«object.__getattribute__»
  repeat lk
  show wpAny _ _ (handedOut v) _ _ _
  rw [handedOut_of hv]
  exact wpAny_pure hq
end
end -- A8
example : True := by w_top off; trivial
section -- A9
theorem la_kind : builtinKind "list.append" = some .method := by decide +kernel
theorem la_split : splitId "list.append" = some ("list", "append") := by decide +kernel
theorem la_plain : plainId "list.append" = true := by decide +kernel
theorem la_entry : entryFor table "list.append" = some Builtin.«list.append» := entryFor_of_tree (by kernel_rfl)
theorem la_args (a b : Value) : argsOk "list.append" ⟨[a, b], []⟩ := by unfold argsOk; kernel_rfl

section
variable {M : Model} {A : Around} {E : Value → Shared → Prop} {s : Shared}
theorem check_meth {i owner n : String} {self : Value} {rest : List Value} {kw : List (Str × Value)} {Q : Unit → Shared → Prop}
    (hk : builtinKind i = some .method) (hs : splitId i = some (owner, n)) (hi : Looks M s.heap (isInstance self (.type owner)) true) (ha : argsOk i ⟨self :: rest, kw⟩) (q : Q () s) :
    wpAny M A (checkBuiltinCall i ⟨self :: rest, kw⟩) Q E s := by
  obtain ⟨hh, g, d, t, os⟩ := s
  simp only [checkBuiltinCall, hk, hs]
  refine wpAny_bind (hi.at ?_)
  simp only [Bool.not_true, Bool.false_eq_true, if_false]
  cases hsig : Manifest.signature? i with
  | none => exact wpAny_pure q
  | some sig =>
    simp only [argsOk, hsig] at ha
    have h2 : Bind.checkArgs i sig ⟨self :: rest, kw⟩ = pure () := ha
    show wpAny M A (Bind.checkArgs i sig ⟨self :: rest, kw⟩) Q E _
    rw [h2]; exact wpAny_pure q
end

section
variable {w : World} {A : Around} {R : Result → Shared → Prop} {h : Heap} {g : Array GenState} {d : Drawn} {t : Nat} {os : OsState}
theorem acc_append {prog : Program} {x dx : Nat} {xs : Array Value} {c : Nat} {v : Value} (X : (hd.heap_1 w.params).In h) (hx : h.get? x = some (accObj dx xs c)) (hz : xs.size ≤ 90)
    (hR : ∀ h' c', (∀ b o, b ≠ x → h.get? b = some o → h'.get? b = some o) → h'.get? x = some (accObj dx (xs.push v) c') → h'.objs.size = h.objs.size → R (.ok (.ret .none)) ⟨h', g, d, t, os⟩) :
    codeAny (model prog w) A (.call (.builtin "list.append") ⟨[.ref x, v], []⟩) R ⟨h, g, d, t, os⟩ := by
  have hti : Looks (model prog w) h (isInstance (.ref x) (.type "list")) true := ((Looks.ld (part := none) hx).andThen .now).andThen (looks_mroIn X (by k_is))
  refine codeAny_call_builtin la_plain la_entry (@check_meth (model prog w) _ _ ⟨h, g, d, t, os⟩ "list.append" "list" "append" (.ref x) [v] [] _ la_kind la_split hti (la_args _ _) ?_)
  unfold Builtin.«list.append» Builtin.List.listUpdate
  repeat (first | (with_reducible refine accUpd hx (by omega) (by rw [Array.size_push]; omega) ?_) | lk)
  intro h' c' hk hx' hsz
  exact wpAny_pure (hR h' c' hk hx' hsz)
end
end -- A9
example : True := by w_top off; trivial
section -- A10
theorem si_kind : builtinKind "list.__setitem__" = some .slot := by decide +kernel
theorem si_split : splitId "list.__setitem__" = some ("list", "__setitem__") := by decide +kernel
theorem si_plain : plainId "list.__setitem__" = true := by decide +kernel
theorem gi_kind : builtinKind "list.__getitem__" = some .method := by decide +kernel
theorem gi_split : splitId "list.__getitem__" = some ("list", "__getitem__") := by decide +kernel
theorem gi_plain : plainId "list.__getitem__" = true := by decide +kernel
section
variable {w : World} {A : Around} {E : Value → Shared → Prop} {h : Heap} {g : Array GenState} {d : Drawn} {t : Nat} {os : OsState}

theorem acc_slice {prog : Program} {x dx sl : Nat} {xs : Array Value} {c : Nat} {vl vu vs : Value} {lo hi st : Option Int} {Q : Value → Shared → Prop} (X : (hd.heap_1 w.params).In h)
    (hx : h.get? x = some (accObj dx xs c)) (hs : h.IsSliceOf sl vl vu vs) (pl : IsPart vl lo) (pu : IsPart vu hi) (ps : IsPart vs st) (h0 : st ≠ some 0) (hz : xs.size ≤ 90)
    (hq : Q (.ref h.objs.size) ⟨h.push { cls := .type "list", data := .seq (slicePick xs lo hi st) }, g, d, t, os⟩) :
    wpAny (model prog w) A (getItem (.ref x) (.ref sl)) Q E ⟨h, g, d, t, os⟩ := by
  obtain ⟨o2, hos, hcs, hds⟩ := id hs
  have hTs : (⟨h, g, d, t, os⟩ : Shared).TypeIs (.ref sl) "slice" := ⟨o2, hos, hcs⟩
  have ty : Looks (model prog w) h (typeOf (.ref x)) (.ref 108) := (Looks.ld (part := none) hx).andThen .now
  have hti : Looks (model prog w) h (isInstance (.ref x) (.type "list")) true := ty.andThen (looks_mroIn X (by k_is))
  have s1 : Looks (model prog w) h (specialOf (.ref x) "__getitem__") (some (.builtin "list.__getitem__")) := ty.andThen (looks_findIn X (by k_is))
  have hdq : Looks (model prog w) h (isSubtype (.ref 108) (.type "collections.deque")) false := looks_mroIn X (by k_is)
  have bnd : Looks (model prog w) h (bindSpecial (.builtin "list.__getitem__") (.ref x)) (.builtin "list.__getitem__", [.ref x]) := .of_pure (slot_list_getitem.bind _)
  unfold getItem sequenceKey callSpecial?
  repeat (first | with_reducible refine wpAny_call ?_ | lk)
  refine codeAny_call_builtin gi_plain entry_list_getitem (@check_meth (model prog w) _ _ ⟨h, g, d, t, os⟩ "list.__getitem__" "list" "__getitem__" (.ref x) [.ref sl] [] _ gi_kind gi_split hti (args_list_getitem _ _) ?_)
  show wpAny _ _ (Builtin.List.listSubscript? (.ref sl) >>= _) _ _ _
  refine wpAny_bind ?_
  unfold Builtin.List.listSubscript?
  refine wpAny_bind (wpAny_specialOf hTs slice_no_index ?_)
  simp only [Option.isNone_none, if_true]
  refine wpAny_pure ?_
  show wpAny _ _ (typeOf (.ref sl) >>= _) _ _ _
  refine wpAny_bind (wpAny_typeOf hTs ?_)
  rw [if_neg (by decide)]
  rw [listSliceParts_eq]
  have hstep : ¬ ((rawPart st == rawInt 0) = true) := by
    cases st with
    | none => exact Bool.false_ne_true
    | some c =>
      intro hh
      have : c = 0 := by simpa [rawPart, rawInt] using hh
      exact h0 (by rw [this])
  refine wpAny_bind (wpAny_bind (wpAny_field hos hds (x := vs) rfl (wpAny_bind (wpAny_listPart ps ?_))))
  rw [if_neg hstep]
  refine wpAny_bind (wpAny_field hos hds (x := vl) rfl (wpAny_bind (wpAny_listPart pl ?_)))
  refine wpAny_bind (wpAny_field hos hds (x := vu) rfl (wpAny_bind (wpAny_listPart pu (wpAny_pure ?_))))
  have hlz : (90 : Nat) ≤ sizeLine := by rw [sizeLine_eq]; decide
  refine wpAny_bind (m := Builtin.List.listItems (.ref x)) ?_
  unfold Builtin.List.listItems
  refine wpAny_bind (wpAny_seqItems hx rfl (wpAny_pure ?_))
  refine wpAny_bind (wpAny_of_eq (sliceIndices_raw lo hi st xs.size h0) ?_)
  exact wpAny_bind (wpAny_newObj_type (wpAny_pure (wpAny_pure (wpAny_pure hq))) (Nat.le_trans (slicePick_size_le xs lo hi st) (Nat.le_trans hz hlz)))

noncomputable def sliceSet (xs ys : Array Value) (lo hi : Option Int) : Array Value :=
  xs.extract 0 (sliceBounds lo hi none xs.size).1.toNat ++ ys ++ xs.extract (max (sliceBounds lo hi none xs.size).1 (sliceBounds lo hi none xs.size).2.1).toNat xs.size

theorem acc_sliceset {prog : Program} {x dx sl l : Nat} {xs ys : Array Value} {c cl : Nat} {vl vu : Value} {lo hi : Option Int} {Q : Unit → Shared → Prop} (X : (hd.heap_1 w.params).In h)
    (hx : h.get? x = some (accObj dx xs c)) (hs : h.IsSliceOf sl vl vu .none) (pl : IsPart vl lo) (pu : IsPart vu hi) (hl : h.get? l = some { cls := .type "list", data := .seq ys cl }) (hz : xs.size ≤ 40) (hz2 : ys.size ≤ 40) (hz3 : (sliceSet xs ys lo hi).size ≤ 90)
    (hq : ∀ h' c', (∀ b o, b ≠ x → h.get? b = some o → h'.get? b = some o) → h'.get? x = some (accObj dx (sliceSet xs ys lo hi) c') → h'.objs.size = h.objs.size → Q () ⟨h', g, d, t, os⟩) :
    wpAny (model prog w) A (setItem (.ref x) (.ref sl) (.ref l)) Q E ⟨h, g, d, t, os⟩ := by
  obtain ⟨o2, hos, hcs, hds⟩ := id hs
  have hTs : (⟨h, g, d, t, os⟩ : Shared).TypeIs (.ref sl) "slice" := ⟨o2, hos, hcs⟩
  have ty : Looks (model prog w) h (typeOf (.ref x)) (.ref 108) := (Looks.ld (part := none) hx).andThen .now
  have hti : Looks (model prog w) h (isInstance (.ref x) (.type "list")) true := ty.andThen (looks_mroIn X (by k_is))
  have s1 : Looks (model prog w) h (specialOf (.ref x) "__setitem__") (some (.builtin "list.__setitem__")) := ty.andThen (looks_findIn X (by k_is))
  have hdq : Looks (model prog w) h (isSubtype (.ref 108) (.type "collections.deque")) false := looks_mroIn X (by k_is)
  have bnd : Looks (model prog w) h (bindSpecial (.builtin "list.__setitem__") (.ref x)) (.builtin "list.__setitem__", [.ref x]) := .of_pure (slot_list_setitem.bind _)
  unfold setItem sequenceKey callSpecial?
  repeat (first | with_reducible refine wpAny_call ?_ | lk)
  refine codeAny_call_builtin si_plain entry_list_setitem (@check_slot (model prog w) _ _ ⟨h, g, d, t, os⟩ "list.__setitem__" "list" "__setitem__" (.ref x) [.ref sl, .ref l] [] _ si_kind si_split hti (args_list_setitem _ _ _) ?_)
  unfold Builtin.«list.__setitem__»
  refine wpAny_bind (wpAny_pure ?_)
  show wpAny _ _ (Builtin.List.listSubscript? (.ref sl) >>= _) _ _ _
  refine wpAny_bind ?_
  unfold Builtin.List.listSubscript?
  refine wpAny_bind (wpAny_specialOf hTs slice_no_index ?_)
  simp only [Option.isNone_none, if_true]
  refine wpAny_pure ?_
  show wpAny _ _ (typeOf (.ref sl) >>= _) _ _ _
  refine wpAny_bind (wpAny_typeOf hTs ?_)
  rw [if_neg (by decide)]
  rw [listSliceParts_eq]
  have hstep : ¬ ((rawPart none == rawInt 0) = true) := Bool.false_ne_true
  refine wpAny_bind (wpAny_bind (wpAny_field hos hds (x := .none) rfl (wpAny_bind (wpAny_listPart .none ?_))))
  rw [if_neg hstep]
  refine wpAny_bind (wpAny_field hos hds (x := vl) rfl (wpAny_bind (wpAny_listPart pl ?_)))
  refine wpAny_bind (wpAny_field hos hds (x := vu) rfl (wpAny_bind (wpAny_listPart pu (wpAny_pure ?_))))
  have hxl : x ≠ l := by rintro rfl; rw [hx] at hl; cases hl
  have hsr : Builtin.List.listSameRef (.ref x) (.ref l) = false := by simp [Builtin.List.listSameRef, hxl]
  rw [if_neg (by rw [hsr]; decide)]
  have tl : Looks (model prog w) h (typeOf (.ref l)) (.type "list") := (Looks.ld (part := none) hl).andThen .now
  have hll : (80 : Nat) ≤ sizeLine := by rw [sizeLine_eq]; decide
  have hbd : sliceIndices (rawPart lo) (rawPart hi) (rawPart none) xs.size = pure (sliceBounds lo hi none xs.size) := sliceIndices_raw lo hi none xs.size (by simp)
  have hb1 : (sliceBounds lo hi none xs.size).2.2 = 1 := rfl
  unfold Builtin.List.listAllItems
  refine wpAny_bind (wpAny_bind (tl.at ?_))
  rw [if_pos (by decide)]
  unfold Builtin.List.listItems
  refine wpAny_bind (wpAny_seqItems hl rfl (wpAny_pure ?_))
  refine wpAny_bind (m := seqItems? (.ref x) >>= _) (wpAny_bind (wpAny_seqItems hx rfl (wpAny_pure ?_)))
  refine wpAny_bind (wpAny_of_eq hbd ?_)
  rw [hb1, if_pos (by decide)]
  refine wpAny_bind (wpAny_rule ?_)
  have htl : Builtin.List.listTooLong (xs.size + ys.size) = false := decide_eq_false (by omega)
  rw [if_neg (by rw [htl]; decide)]
  refine wpAny_bind (m := Builtin.List.listUpdate _ _) ?_
  unfold Builtin.List.listUpdate
  refine accUpd hx (by omega) (Nat.le_trans hz3 (by decide)) fun h' c' k hx' hsz => ?_
  exact wpAny_bind (wpAny_letGo (wpAny_pure (wpAny_pure (wpAny_pure (hq h' c' k hx' hsz)))))
end
end -- A10
example : True := by w_top off; trivial
section -- A12
section
variable {w : World} {A : Around} {E : Value → Shared → Prop} {h : Heap} {g : Array GenState} {d : Drawn} {t : Nat} {os : OsState}
theorem acc_sub {prog : Program} {x dx sl : Nat} {L : List Value} {c i : Nat} {ti : Tok} {nm : Str} {np : Pos} {lower upper : Option PySem.Expr} {pz : Pos} {Q : Value → Shared → Prop} (X : (hd.heap_1 w.params).In h)
    (hx : h.get? x = some (accObj dx L.toArray c)) (hs : h.IsSliceOf sl (.int i ti) .none .none) (hz : L.length ≤ 20) (hi : i ≤ L.length)
   
    (hq : Q (.ref h.objs.size) ⟨h.push { cls := .type "list", data := .seq (L.drop i).toArray }, g, d, t, os⟩) :
    wpAny (model prog w) A (subscriptTail (.Name nm np) (.Slice lower upper none pz) (.ref x) (.ref sl)) Q E ⟨h, g, d, t, os⟩ := by
  have ty : Looks (model prog w) h (typeOf (.ref x)) (.ref 108) := (Looks.ld (part := none) hx).andThen .now
  have s1 : Looks (model prog w) h (specialOf (.ref x) "__getitem__") (some (.builtin "list.__getitem__")) := ty.andThen (looks_findIn X (by k_is))
  have s2 : Looks (model prog w) h (typeLookup (.ref 108) "__getitem__") (some (.builtin "list.__getitem__")) := looks_findIn X (by k_is)
  unfold subscriptTail getitemInPython
  repeat (first | with_reducible refine wpAny_operate ?_ | (with_reducible refine acc_slice X hx hs (.int _ _) .none .none (by simp) (by simp; omega) ?_) | lk)
  rw [slicePick_from L.toArray i (by simpa using hi)]
  exact hq

theorem sliceSet_from {xs : Array Value} {i : Nat} (hi : i ≤ xs.size) : sliceSet xs #[] (some (i : Int)) none = (xs.toList.take i).toArray := by
  have e : sliceBounds (some (i : Int)) none none xs.size = ((i : Int), (xs.size : Int), 1) := by
    simp only [sliceBounds, Option.getD_none]
    have h1 : ¬ ((i : Int) < 0) := by omega
    simp only [h1, if_false, show (1 : Int) > 0 by decide, if_true]
    congr 1
    omega
  unfold sliceSet
  rw [e]
  have h2 : (max (i : Int) (xs.size : Int)).toNat = xs.size := by omega
  dsimp only
  rw [h2, Int.toNat_natCast]
  apply Array.ext'
  simp
theorem sliceSet_all {xs ys : Array Value} : sliceSet xs ys none none = ys := by
  have e : sliceBounds none none none xs.size = ((0 : Int), (xs.size : Int), 1) := by
    simp only [sliceBounds, Option.getD_none, show (1 : Int) > 0 by decide, if_true]
  unfold sliceSet
  rw [e]
  have h2 : (max (0 : Int) (xs.size : Int)).toNat = xs.size := by omega
  dsimp only
  rw [h2]
  apply Array.ext'
  simp
end
end -- A12
example : True := by w_top off; trivial
section -- A14
theorem it_kind : builtinKind "list.__iter__" = some .slot := by decide +kernel
theorem it_split : splitId "list.__iter__" = some ("list", "__iter__") := by decide +kernel
noncomputable abbrev iterObj (x : Addr) (i : Nat) : Obj := { cls := .type "list_iterator", data := .fields #[.ref x, .int i 0] }
section
variable {prog : Program} {w : World} {A : Around} {E : Value → Shared → Prop} {h : Heap} {g : Array GenState} {d : Drawn} {t : Nat} {os : OsState}
theorem acc_iter {x dx : Nat} {xs : Array Value} {c : Nat} {Q : Value → Shared → Prop} (X : (hd.heap_1 w.params).In h) (hx : h.get? x = some (accObj dx xs c))
    (hq : Q (.ref h.objs.size) ⟨h.push (iterObj x 0), g, d, t, os⟩) :
    wpAny (model prog w) A (pyIter (.ref x)) Q E ⟨h, g, d, t, os⟩ := by
  have ty : Looks (model prog w) h (typeOf (.ref x)) (.ref 108) := (Looks.ld (part := none) hx).andThen .now
  have hti : Looks (model prog w) h (isInstance (.ref x) (.type "list")) true := ty.andThen (looks_mroIn X (by k_is))
  have s1 : Looks (model prog w) h (specialOf (.ref x) "__iter__") (some (.builtin "list.__iter__")) := ty.andThen (looks_findIn X (by k_is))
  have bnd : Looks (model prog w) h (bindSpecial (.builtin "list.__iter__") (.ref x)) (.builtin "list.__iter__", [.ref x]) := .of_pure (slot_list_iter.bind _)
  unfold pyIter callSpecialIfBoundUnlessNone? bindSpecialIfBound?
  have hb := slot_list_iter.bind (.ref x)
  have hT : Looks (model prog w) (h.push (iterObj x 0)) (specialOf (.ref h.objs.size) "__next__") (some (.builtin "list_iterator.__next__")) :=
    (((Looks.ld (part := none) (show (h.push (iterObj x 0)).get? h.objs.size = some (iterObj x 0) from Heap.get?_push_size _ rfl)).andThen .now : Looks (model prog w) _ (typeOf (.ref h.objs.size)) (.type "list_iterator"))).andThen (.of_pure slot_listiter_next.lookup)
  have key : codeAny (model prog w) A (.call (.builtin "list.__iter__") ⟨[.ref x], []⟩) (fun r s' => r = .ok (.ret (.ref h.objs.size)) ∧ s' = ⟨h.push (iterObj x 0), g, d, t, os⟩) ⟨h, g, d, t, os⟩ := by
    refine codeAny_call_builtin slot_list_iter.plain entry_list_iter (@check_slot (model prog w) _ _ ⟨h, g, d, t, os⟩ "list.__iter__" "list" "__iter__" (.ref x) [] [] _ it_kind it_split hti (args_list_iter _) ?_)
    show wpAny _ _ (do ret (← newFields "list_iterator" [.ref x, rawInt 0])) _ _ _
    exact wpAny_bind (wpAny_newObj_type (wpAny_pure ⟨rfl, rfl⟩))
  repeat (first | with_reducible refine wpAny_call ?_ | simp only [hb] | lk)
  split
  all_goals (
    repeat (first | with_reducible refine wpAny_call ?_ | lk)
    refine codeAny_mono key fun r s' z => ?_
    obtain ⟨rfl, rfl⟩ := z
    repeat lk
    exact hq)

theorem acc_next {x dx it i : Nat} {xs : Array Value} {c : Nat} {v : Value} {Q : Option Value → Shared → Prop} (hit : h.get? it = some (iterObj x i)) (hx : h.get? x = some (accObj dx xs c)) (hv : xs[i]? = some v)
    (hq : ∀ h', (∀ b o, b ≠ it → h.get? b = some o → h'.get? b = some o) → h'.get? it = some (iterObj x (i + 1)) → h'.objs.size = h.objs.size → Q (some v) ⟨h', g, d, t, os⟩) :
    wpAny (model prog w) A (pyNext (.ref it)) Q E ⟨h, g, d, t, os⟩ := by
  have hT : (⟨h, g, d, t, os⟩ : Shared).TypeIs (.ref it) "list_iterator" := ⟨_, hit, rfl⟩
  unfold pyNext
  refine wpAny_bind (wpAny_attempt (wpAny_callSpecial?_slot (name := Str.ofString "__next__") hT slot_listiter_next
    (wpAny_call_entry slot_listiter_next hT entry_listiter_next ?_ (args_listiter_next _))))
  show wpAny _ _ (field (.ref it) 0 >>= _) _ _ _
  refine wpAny_bind (wpAny_field hit rfl (x := .ref x) rfl ?_)
  show wpAny _ _ (if (Value.ref x == Value.none) = true then _ else _) _ _ _
  rw [if_neg (show ¬ ((Value.ref x == Value.none) = true) from Bool.false_ne_true)]
  show wpAny _ _ (field (.ref it) 1 >>= _) _ _ _
  refine wpAny_bind (wpAny_field hit rfl (x := .int i 0) rfl ?_)
  show wpAny _ _ (seqItems? (.ref x) >>= _) _ _ _
  refine wpAny_bind (wpAny_seqItems hx rfl ?_)
  simp only [Int.toNat_natCast, hv]
  refine wpAny_bind (wpAny_setField hit rfl (by simp) (wpAny_pure ⟨v, rfl, wpAny_pure (hq _ (fun b o hb e => (Heap.get?_update_ne _ _ _ _ hb).trans e) ?_ (Heap.size_after_update ..))⟩))
  exact (Heap.get?_update_self _ hit rfl).trans (by simp [Obj.mapFields, rawInt])

theorem acc_done {x dx it i : Nat} {xs : Array Value} {c : Nat} {Q : Option Value → Shared → Prop} (hh : A.handled = none) (hit : h.get? it = some (iterObj x i)) (hx : h.get? x = some (accObj dx xs c)) (hv : xs[i]? = none)
    (hq : ∀ h', (∀ b o, b ≠ it → h.get? b = some o → h'.get? b = some o) → Q none ⟨h', g, d, t, os⟩) :
    wpAny (model prog w) A (pyNext (.ref it)) Q E ⟨h, g, d, t, os⟩ := by
  have hT : (⟨h, g, d, t, os⟩ : Shared).TypeIs (.ref it) "list_iterator" := ⟨_, hit, rfl⟩
  unfold pyNext
  refine wpAny_bind (wpAny_attempt (wpAny_callSpecial?_slot (name := Str.ofString "__next__") hT slot_listiter_next
    (wpAny_call_entry slot_listiter_next hT entry_listiter_next ?_ (args_listiter_next _))))
  show wpAny _ _ (field (.ref it) 0 >>= _) _ _ _
  refine wpAny_bind (wpAny_field hit rfl (x := .ref x) rfl ?_)
  show wpAny _ _ (if (Value.ref x == Value.none) = true then _ else _) _ _ _
  rw [if_neg (show ¬ ((Value.ref x == Value.none) = true) from Bool.false_ne_true)]
  show wpAny _ _ (field (.ref it) 1 >>= _) _ _ _
  refine wpAny_bind (wpAny_field hit rfl (x := .int i 0) rfl ?_)
  show wpAny _ _ (seqItems? (.ref x) >>= _) _ _ _
  refine wpAny_bind (wpAny_seqItems hx rfl ?_)
  simp only [Int.toNat_natCast, hv]
  refine wpAny_bind (wpAny_rule (wpAny_bind (wpAny_setField hit rfl (by simp) ?_)))
  show wpAny _ _ (newExc (.type "StopIteration") [] >>= _) _ _ _
  refine wpAny_bind ?_
  simp only [newExc, newTuple]
  refine wpAny_bind (wpAny_newObj_type ?_ (by size_fits))
  refine wpAny_bind (m := firstArgMember _ _) (wpAny_of_eq (a := Value.none) (by first | rfl | (simp only [firstArgMember]; rfl)) ?_)
  refine wpAny_newObj_type ?_ (by size_fits)
  simp only [raiseNew]
  refine wpAny_bind (wpAny_handled ?_)
  rw [show A.in1.handled = none from hh]
  refine wpAny_bind (wpAny_pure (wpAny_throw ?_))
  refine wpAny_bind (wpAny_isInstance (T := "StopIteration") (b := true) ⟨_, Heap.get?_push_size _ rfl, rfl⟩ isSubtype_stop ?_)
  exact wpAny_pure (hq _ fun b o hb e => Heap.get?_push_of_some _ (Heap.get?_push_of_some _ ((Heap.get?_update_ne _ _ _ _ hb).trans e)))
end
end -- A14
example : True := by w_top off; trivial
section -- A15
section
variable {prog : Program} {w : World} {A : Around}
theorem walksAcc (hh : A.handled = none) (I x dx : Nat) (hne : x ≠ I) (xs : Array Value) (c : Nat) (Ts : Nat → Nat) (vals : Nat → Array Value)
    (hit : ∀ j, j < xs.size → xs[j]? = some (.ref (Ts j))) (hTI : ∀ j, j < xs.size → Ts j ≠ I) :
    WalksU prog w A I (I :: x :: (List.range xs.size).map Ts) [I] xs.size (fun j v => j < xs.size ∧ v = vals j)
      (fun j h => h.get? I = some (iterObj x j) ∧ h.get? x = some (accObj dx xs c) ∧ ∀ k, k < xs.size → h.IsTuple (Ts k) (vals k))
      (fun j T h => (j < xs.size ∧ T = Ts j) ∧ h.get? I = some (iterObj x (j + 1)) ∧ h.get? x = some (accObj dx xs c) ∧ ∀ k, k < xs.size → h.IsTuple (Ts k) (vals k)) where
  sub := fun b hb => by simp at hb; simp [hb]
  frame := fun _ _ _ st hk => ⟨hk I (by simp) _ st.1, hk x (by simp) _ st.2.1,
    fun k hk' => (st.2.2 k hk').at fun o e => hk (Ts k) (List.mem_cons_of_mem _ (List.mem_cons_of_mem _ (List.mem_map.mpr ⟨k, List.mem_range.mpr hk', rfl⟩))) o e⟩
  item := fun i s Q E hi st hQ => by
    obtain ⟨h, g, d, t, os⟩ := s
    refine acc_next st.1 st.2.1 (hit i hi) fun h' k' hi' _ => ?_
    have tup : ∀ k, k < xs.size → h'.IsTuple (Ts k) (vals k) := fun k hk' => (st.2.2 k hk').at fun o e => k' _ o (hTI k hk') e
    exact hQ (Ts i) (vals i) h' t ⟨hi, rfl⟩ (tup i hi) ⟨⟨hi, rfl⟩, hi', k' _ _ hne st.2.1, tup⟩ fun b o hb e => k' b o (fun h => hb (by simp [h])) e
  go := fun _ _ _ _ _ s Q _ hm hQ => wpAny_letOwnedTupleGo_listiter (show s.heap.IsListIter I x _ from ⟨_, hm.2.1, rfl, rfl⟩) (hQ s.heap hm.2 fun _ _ _ e => e)
  apart := fun i T h hm => by
    obtain ⟨⟨hi, rfl⟩, _⟩ := hm
    simpa using hTI i hi
  done := fun s Q E st hQ => by
    obtain ⟨h, g, d, t, os⟩ := s
    exact acc_done hh st.1 st.2.1 (by simp) fun h' k' => hQ h' t fun b o hb e => k' b o (fun h => hb (by simp [h])) e
  self := fun _ s _ _ st hQ => wpAny_pyIter_listiter (show s.heap.IsListIter I x _ from ⟨_, st.1, rfl, rfl⟩) hQ
end
end -- A15
example : True := by w_top off; trivial
section -- A16
section
variable {w : World} {s : Shared} {R : Result → Shared → Prop} {dp un : Nat} {gd : Option (List Code)} {es : List Env} {p : Program} {loose : List Str} {mg mb : Str → Option Value} {mean : ExcName → Option Value}

theorem acc_make {k : Int} {tk : Tok} (hdp : dp + 8 < recursionLimit) (hun : un + 20 < cLine)
    (X : (hd.heap_1 w.params).In s.heap) (T : Top p loose mean mg mb s.heap)
    (hR : ∀ h' t' e c, (∀ b o, s.heap.get? b = some o → h'.get? b = some o) → h'.get? (s.heap.objs.size + 1) = some (accObj s.heap.objs.size #[] c) → h'.get? s.heap.objs.size = some (sizeD w e (.int k tk)) →
      R (.ok (.ret (.ref (s.heap.objs.size + 1)))) { s with heap := h', toks := t' }) :
    codeAny (model PG w) (AA dp un gd es) (.call (.ref 108) ⟨[.int k tk], []⟩) R s := by
  obtain ⟨h, g, d, t, os⟩ := s
  have hdp1 : (dp + (Code.builtin "type.__call__" { pos := [Value.ref 108, Value.int k tk] }).weight) + 3 < recursionLimit := by
    have : (Code.builtin "type.__call__" { pos := [Value.ref 108, Value.int k tk] }).weight ≤ 1 := by first | exact Nat.le_of_ble_eq_true rfl | exact Nat.le_refl _
    omega
  have hun1 : (un + (Code.builtin "type.__call__" { pos := [Value.ref 108, Value.int k tk] }).cUnits) + 8 < cLine := by
    have : (Code.builtin "type.__call__" { pos := [Value.ref 108, Value.int k tk] }).cUnits ≤ 4 := by first | exact Nat.le_of_ble_eq_true rfl | exact Nat.le_refl _
    omega
  refine mk_init (accCls X) (fun self h' k => bind_fn (X.keeps k) self (by k_is)) ?_
  have k1 : ∀ b o, h.get? b = some o → ((h.push emptyDict).push (accObj h.objs.size #[] 0)).get? b = some o := fun b o e => Heap.get?_push_of_some _ (Heap.get?_push_of_some _ e)
  have kh : ∀ b o, h.get? b = some o → (hideAll ((h.push emptyDict).push (accObj h.objs.size #[] 0)) [h.objs.size + 1, h.objs.size]).get? b = some o := fun b o e => hideAll_get _ (k1 b o e) (by have hb : b < h.objs.size := Heap.lt_size e; simp only [List.mem_cons, List.not_mem_nil, or_false]; rintro (h1 | h1) <;> (have h2 : b = _ := h1; subst h2; exact absurd hb (by simp)))
  refine acc_init (p := p) (loose := loose) (mean := mean) (mg := mg) (mb := mb) (x := h.objs.size + 1) (dx := h.objs.size) ?_ ?_ (X.keeps kh) (T.keeps kh) (by heap_get) (by show Heap.get? _ _ = some emptyDict; heap_get) (Nat.lt_succ_self _) fun h' t' e c k2 hx hd => ?_
  · exact hdp1
  · exact hun1
  · exact ⟨rfl, hR h' t' e c (fun b o e => k2 b o (by have hb : b < h.objs.size := Heap.lt_size e; intro h1; subst h1; exact absurd hb (by simp)) (by have hb : b < h.objs.size := Heap.lt_size e; intro h1; subst h1; exact absurd hb (by simp)) (k1 b o e)) hx hd⟩
end
end -- A16
example : True := by w_top off; trivial
section -- A18
theorem passing_all (n : Nat) : passing (fun _ => true) n 0 = List.range n := by unfold passing; simp
structure RGen (w : World) (A : Around) (s s' : Shared) (c P a n : Nat) (F : Nat → Value → Prop) : Prop where
  gen : ∃ fp wr St, WalksS PG w A.in4 a fp wr (GenOnlyQ s.gens.size) n F St ∧ St 0 s' ∧ (∀ i s'', St i s'' → s''.TypeIs (.ref a) "generator") ∧ a ∈ fp ∧ (∀ b ∈ fp, b < s'.heap.objs.size) ∧ (∀ b ∈ wr, s.heap.objs.size ≤ b)
  gens : ∃ gs, gs.bare = true ∧ s'.gens = s.gens.push gs
  os : s'.os = s.os
  drawn : s'.drawn = s.drawn
  keep : ∀ b o, b ≠ P → s.heap.get? b = some o → s'.heap.get? b = some o
  tab : Tab s'.heap c P
  size : s.heap.objs.size ≤ s'.heap.objs.size

section
variable {w : World} {A : Around} {s : Shared}
theorem ring_gen {env : Env} {elt iter : Expr} {xa xb : Str} {pa pb pt : Pos} {kt : Nat} {scope : Scope} {pos : Pos} {Q : Value → Shared → Prop} {E : Value → Shared → Prop}
    {c P x dx bm : Nat} {xs : Array Value} {cp : Nat} {Ts : Nat → Nat} {vals : Nat → Array Value} {mg : Str → Option Value} {ob : Obj} {F : Nat → Value → Prop}
    (hh : A.handled = none) (hco : scope.isCoroutine = false) (hclos : closureFor scope env = pure []) (hcell : ∀ y ∈ scope.names, y.2 ≠ .cell) (h0 : scope.names.lookup (".0" : Str) = some NameKind.local)
    (hxa : scope.names.lookup xa = some .local) (hxb : scope.names.lookup xb = some .local) (hab : xa ≠ xb) (hkind : scope.kind = .function) (hroom : A.depth < recursionLimit)
    (hs : ∀ x, genFold iter env x = pure x)
    (hcode : env.code = .ref c) (hT : Tab s.heap c P) (X : (hd.heap_1 w.params).In s.heap) (hl : s.heap.NoLimit) (hcP : cStatics ≠ P)
    (M : BMod s.heap env.globals mg bm ob)
    (hi : wpAny (model PG w) A (eval iter env) (fun v s₁ => v = .ref x ∧ s₁ = s) E s)
    (hx : s.heap.get? x = some (accObj dx xs cp)) (hP : P ≠ x)
    (hit : ∀ j, j < xs.size → xs[j]? = some (.ref (Ts j))) (hTs : ∀ j, j < xs.size → s.heap.IsTuple (Ts j) (vals j)) (hTP : ∀ j, j < xs.size → Ts j ≠ P) (hv2 : ∀ j, j < xs.size → ∃ va vb, vals j = #[va, vb])
    (helt : ∀ code C (A' : Around) E' i va vb (s₂ : Shared) m₂, A'.handled = none → i < xs.size → vals i = #[va, vb] → s₂.heap.Ns C m₂ → m₂ xa = some va → m₂ xb = some vb → (∀ b o, b ≠ P → s.heap.get? b = some o → s₂.heap.get? b = some o) → s.heap.objs.size < C →
      wpAny (model PG w) A' (eval elt (genEnv scope [] C code builtinsNs env)) (fun y s₃ => F i y ∧ Keeps s₂ s₃) E' s₂)
    (hQ : ∀ (a : Nat) s', RGen w A s s' c P a xs.size F → Q (.ref a) s') :
    wpAny (model PG w) A (eval (.GeneratorExp elt [⟨.Tuple [.Name xa pa, .Name xb pb] kt pt, iter, [], 0⟩] scope pos) env) Q E s := by
  refine wpAny_GeneratorExp_walksQT (cl := []) hh hco hclos hcell h0 hxa hxb hab hkind hroom (wpAny_mono hi (fun v s₁ hv => ?_) fun _ _ e => e) hs
  obtain ⟨rfl, rfl⟩ := hv
  obtain ⟨h, g, d, t, os⟩ := s₁
  dsimp only at *
  refine acc_iter X hx ⟨hl.push _, ?_⟩
  have hPlt := hT.lt
  have k1 : ∀ b o, h.get? b = some o → (h.push (iterObj x 0)).get? b = some o := fun b o e => Heap.get?_push_of_some _ e
  refine gen_code hcode (hT.keeps k1) fun code h₃ tk₃ hx₃ hsz₃ hT₃ => ?_
  have k3 : ∀ b o, b ≠ P → h.get? b = some o → h₃.get? b = some o := fun b o hb e => hx₃ b o hb (k1 b o e)
  have hPI : P ≠ h.objs.size := Nat.ne_of_lt hPlt
  have hit₃ : h₃.get? h.objs.size = some (iterObj x 0) := hx₃ _ _ (Ne.symm hPI) (Heap.get?_push_size _ rfl)
  have hlt3 : h.objs.size < h₃.objs.size := Heap.lt_size hit₃
  obtain ⟨psP, hTP0⟩ := hT.obj
  have M₃ : BMod h₃ env.globals mg bm ob := by
    obtain ⟨ps, _, ht⟩ := hT
    exact M.extBut ht k3
  have hl₃ : h₃.NoLimit := (hl.push _).extBut hx₃ hcP
  refine wpAny_builtinsFor M₃.ns M₃.name M₃.ne M₃.obj M₃.cls M₃.dict M₃.data ?_
  have hxlt : x < h.objs.size := Heap.lt_size hx
  have hTlt : ∀ j, j < xs.size → Ts j < h.objs.size := fun j hj => let ⟨_, e, _⟩ := hTs j hj; Heap.lt_size e
  have hclt : cStatics < h.objs.size := let ⟨_, hn, _⟩ := hl; hn.lt
  refine ⟨h.objs.size, _, _, xs.size, _, _, _, (fun _ => true), F, rfl, fun A' hA => walksAcc hA h.objs.size x dx (Nat.ne_of_lt hxlt) xs cp Ts vals hit (fun j hj => Nat.ne_of_lt (hTlt j hj)), ?_, ?_, ?_, hl₃, ?_, ?_, ?_⟩
  · rintro i vs ⟨hi, rfl⟩; exact hv2 i hi
  · exact ⟨hit₃, k3 _ _ (Ne.symm hP) hx, fun k hk => (hTs k hk).at fun o e => k3 _ o (hTP k hk) e⟩
  · intro b hb
    show b < h₃.objs.size
    rcases List.mem_cons.mp hb with rfl | hb
    · exact hlt3
    rcases List.mem_cons.mp hb with rfl | hb
    · exact Nat.lt_trans hxlt hlt3
    · obtain ⟨j, hj, rfl⟩ := List.mem_map.mp hb
      exact Nat.lt_trans (hTlt j (List.mem_range.mp hj)) hlt3
  · intro hm
    rcases List.mem_cons.mp hm with e | e
    · exact absurd e (Nat.ne_of_lt hclt)
    · cases e
  · intro href hk
    refine ⟨?_, ?_⟩
    · intro A' E' i va vb s₂ m₂ hA hPt hn ha hb hkp
      simp only [List.forIn_nil]
      exact wpAny_pure ⟨rfl, s₂.heap, s₂.toks, rfl, fun _ _ e => e⟩
    · intro A' E' i va vb s₂ m₂ hA hPt _ hn ha hb hkp
      refine helt code _ A' E' i va vb s₂ m₂ hA hPt.1 hPt.2.symm hn ha hb (fun b o hb e => ?_) hlt3
      refine hkp b (List.mem_range.mpr ?_) ?_ o (hk b o (k3 b o hb e))
      · exact Nat.lt_trans (Heap.lt_size e) hlt3
      · intro hm
        rcases List.mem_cons.mp hm with e2 | e2
        · have := Heap.lt_size e; rw [e2] at this; exact Nat.lt_irrefl _ this
        · cases e2
  · intro a h₅ tk gs hgb hag hsz₅ hk₅ W hat
    rw [passing_all] at W
    dsimp only at hag hsz₅ hk₅ hat
    have hF : (fun (j : Nat) (y : Value) => ∃ i, (List.range xs.size)[j]? = some i ∧ F i y) = fun j y => j < xs.size ∧ F j y := by
      funext j y
      apply propext
      constructor
      · rintro ⟨i, h1, h2⟩
        obtain ⟨hj, rfl⟩ := List.getElem?_eq_some_iff.mp h1
        simp at hj
        simp only [List.getElem_range] at h2
        exact ⟨hj, h2⟩
      · rintro ⟨h1, h2⟩
        exact ⟨j, by simp [h1], h2⟩
    rw [hF] at W
    have hl : (List.range xs.size).length = xs.size := by simp
    rw [hl] at W
    have W2 := WalksS.mk W.sub W.grefl W.gtrans W.frame (n := xs.size) (P := F) (fun i s Q E h1 h2 h3 => W.item i s Q E h1 h2 fun v s' hp => h3 v s' hp.2) W.done W.self
    refine hQ a _ ⟨⟨_, _, _, W2, hat, (fun i s' st => st.1.typeIs), List.mem_cons_self, ?_, ?_⟩, ⟨gs, hgb, rfl⟩, rfl, rfl, ?_, ?_, ?_⟩
    · intro b hb
      show b < h₅.objs.size
      rw [hsz₅]
      rcases List.mem_cons.mp hb with rfl | hb
      · exact Nat.lt_succ_self _
      · rcases List.mem_cons.mp hb with rfl | hb
        · exact Nat.lt_succ_of_lt hag
        · exact Nat.lt_succ_of_lt (Nat.lt_trans (List.mem_range.mp hb) hag)
    · intro b hb
      show h.objs.size ≤ b
      rcases List.mem_cons.mp hb with rfl | hb
      · exact Nat.le_of_lt hlt3
      · rcases List.mem_cons.mp hb with rfl | hb
        · exact Nat.le_refl _
        · cases hb
    · exact fun b o hb e => hk₅ b o (k3 b o hb e)
    · exact hT₃.keeps hk₅
    · show h.objs.size ≤ h₅.objs.size
      rw [hsz₅]; exact Nat.le_succ_of_le (Nat.le_of_lt (Nat.lt_trans hlt3 hag))
end
end -- A18
example : True := by w_top off; trivial
section -- A19
theorem args_sum2 (a : Value) (i : Int) (t : Tok) : argsOk "sum" ⟨[a, .int i t], []⟩ := by unfold argsOk; kernel_rfl
theorem bind_sum2 (i : Int) (t : Tok) : Builtin.Builtins.bindParams "sum" ["start"] 0 ⟨[.int i t], []⟩ = pure [some (.int i t)] := rfl
noncomputable def shVal (i : Int) (val : Nat → Int) : Nat → Int | 0 => i | j + 1 => val j
theorem shVal_pre (i : Int) (val : Nat → Int) : ∀ n, preSum (shVal i val) (n + 1) = i + preSum val n
  | 0 => by show 0 + i = i + 0; omega
  | n + 1 => by
    show preSum (shVal i val) (n + 1) + val n = i + (preSum val n + val n)
    rw [shVal_pre i val n]; omega

section
variable {w : World} {A : Around} {E : Value → Shared → Prop} {s : Shared}
theorem WalksS.shift {I : Addr} {fp wr : List Addr} {G : Array GenState → Array GenState → Prop} {n : Nat} {P : Nat → Value → Prop} {St : Nat → Shared → Prop} (W : WalksS PG w A I fp wr G n P St) :
    WalksS PG w A I fp wr G (n + 1) (fun j v => ∃ k, j = k + 1 ∧ P k v) (fun j s => ∃ k, j = k + 1 ∧ St k s) where
  sub := W.sub
  grefl := W.grefl
  gtrans := W.gtrans
  frame := fun i s h' tk st ht hk => let ⟨k, e, st⟩ := st; ⟨k, e, W.frame k s h' tk st ht hk⟩
  item := fun i s Q E hi st hQ => by
    obtain ⟨k, rfl, st⟩ := st
    exact W.item k s Q E (by omega) st fun v s' hp hs hm => hQ v s' ⟨k, rfl, hp⟩ ⟨k + 1, rfl, hs⟩ hm
  done := fun s Q E st hQ => by
    obtain ⟨k, e, st⟩ := st
    have : k = n := by omega
    subst this
    exact W.done s Q E st hQ
  self := fun i s Q E st hQ => let ⟨k, _, st⟩ := st; W.self k s Q E st hQ

theorem call_sum_start {x : Value} {i0 : Int} {t0 : Tok} {Q : Value → Shared → Prop}
    (h : wpAny (model PG w) A.in1 (pyIter x) (fun it s₂ => ∃ I fp wr G n P St val, it = .ref I ∧ WalksS PG w A.in1 I fp wr G n P St ∧ St 0 s₂ ∧ (∀ b ∈ fp, b < s₂.heap.objs.size) ∧
      (∀ i v, P i v → ∃ t, v = .int (val i) t) ∧
      ∀ s' t', Moved wr G s₂ s' → Q (.int (i0 + preSum val n) t') s') E s) :
    wpAny (model PG w) A (call (.builtin "sum") [x, .int i0 t0]) Q E s := by
  refine call_function_tree F.kind_sum F.plain_sum F.entry_sum (args_sum2 _ _ _) ?_
  unfold Builtin.«sum»
  simp only [List.length_cons, List.length_nil]
  rw [if_neg (by decide)]
  refine wpAny_bind (wpAny_of_eq (bind_sum2 i0 t0) ?_)
  refine wpAny_bind (wpAny_mono h (fun it s₂ h₂ => ?_) fun _ _ e => e)
  obtain ⟨I, fp, wr, G, n, P, St, val, rfl, W, hst, hfp, hval, hQ⟩ := h₂
  dsimp only
  have hSf : s₂.heap.objs.size ∉ fp := fun hm => Nat.lt_irrefl _ (hfp _ hm)
  have W' := WalksS.shift W
  have fin : ∀ (u : Tok) (tk tk1 : Nat) (st : Int) (c : Nat), (st = 0 ∨ st = 2) → s₂.toks ≤ tk1 →
      codeAny (model PG w) A (.builtin "sum.loop" ⟨[.ref I, .ref s₂.heap.objs.size, rawInt st, rawInt 0], []⟩) (fun r s' => match r with | .ok (.ret v) => Q v s' | .ok _ => False | .error e => E e s')
        { s₂ with heap := s₂.heap.push { cls := .type "list", data := .seq #[.int i0 u] c }, toks := tk1 } := by
    intro u tk tk1 st c hst' htk
    refine codeAny_sum_loopAnyB W' (shVal i0 val) (fun i v hp => ?_) s₂.heap.objs.size hSf n 1 _ u c st hst' (by omega) (by omega)
      ⟨0, rfl, W.frame 0 s₂ _ _ hst htk fun b _ o e => Heap.get?_push_of_some _ e⟩ ?_ fun s' t' hm => ?_
    · obtain ⟨k, rfl, hp⟩ := hp
      exact .inl (hval k v hp)
    · have e1 : preSum (shVal i0 val) 1 = i0 := by show 0 + i0 = i0; omega
      rw [e1]
      exact Heap.get?_push_size _ rfl
    · rw [shVal_pre]
      exact hQ s' t' (hm.drop_new htk)
  split
  · refine wpAny_bind (wpAny_rule ?_)
    refine wpAny_bind (wpAny_mkInt ?_)
    refine wpAny_bind (wpAny_pure ?_)
    simp only [List.forIn_cons, List.forIn_nil]
    refine wpAny_bind (wpAny_bind (wpAny_bind (wpAny_isInstance (T := "int") (b := false) (typeIs_int _ _ _) PySem.sub_int_str ?_)))
    simp only [Bool.false_eq_true, if_false]
    refine wpAny_pure (wpAny_bind (wpAny_bind (wpAny_isInstance (T := "int") (b := false) (typeIs_int _ _ _) sub_int_bytes ?_)))
    simp only [Bool.false_eq_true, if_false]
    refine wpAny_pure (wpAny_bind (wpAny_bind (wpAny_isInstance (T := "int") (b := false) (typeIs_int _ _ _) sub_int_bytearray ?_)))
    simp only [Bool.false_eq_true, if_false]
    refine wpAny_pure (wpAny_pure ?_)
    refine wpAny_bind (wpAny_newObj_type ?_)
    exact wpAny_pure ⟨plainId_quiet F.plain_sum_loop _, fin _ 0 _ 0 _ (.inl rfl) (Nat.le_succ _)⟩
  · refine wpAny_bind (wpAny_pure ?_)
    simp only [List.forIn_cons, List.forIn_nil]
    refine wpAny_bind (wpAny_bind (wpAny_bind (wpAny_isInstance (T := "int") (b := false) (typeIs_int _ _ _) PySem.sub_int_str ?_)))
    simp only [Bool.false_eq_true, if_false]
    refine wpAny_pure (wpAny_bind (wpAny_bind (wpAny_isInstance (T := "int") (b := false) (typeIs_int _ _ _) sub_int_bytes ?_)))
    simp only [Bool.false_eq_true, if_false]
    refine wpAny_pure (wpAny_bind (wpAny_bind (wpAny_isInstance (T := "int") (b := false) (typeIs_int _ _ _) sub_int_bytearray ?_)))
    simp only [Bool.false_eq_true, if_false]
    refine wpAny_pure (wpAny_pure ?_)
    refine wpAny_bind (wpAny_newObj_type ?_)
    exact wpAny_pure ⟨plainId_quiet F.plain_sum_loop _, fin _ 0 _ 2 _ (.inr rfl) (Nat.le_refl _)⟩
end
end -- A19
example : True := by w_top off; trivial
section -- A20
theorem nmB {M : Model} {A : Around} {E : Value → Shared → Prop} {s : Shared} {K : Frag} {h₀ : Heap} {L : Addr} {m mg mb : Str → Option Value} {env : Env} {p : Program} {loose : List Str} {mean : ExcName → Option Value}
    {x : Str} {pos : Pos} {v : Value} {Q : Value → Shared → Prop} (F : Fr h₀ L s.heap m) (X : K.In h₀) (T : Top p loose mean mg mb h₀) (e : nsIn K mainGlobals x = some none) (hv : bootBuiltins x = some v) (hn : x ≠ "__name__") (h : Q v s)
    (hg : env.globals = mainGlobals) (hbi : env.builtins = builtinsNs) (hk : env.scope.kind = .function) (hx : env.kindOf x = some .globalImplicit) (hd : (x == ("__debug__" : Str)) = false := by decide) :
    wpAny M A (eval (.Name x pos) env) Q E s :=
  Name_function_global hk hx (loadGlobal_builtin (env := env) (show s.heap.Ns env.globals mg from hg ▸ (T.g.keeps F.keep)) (mg_none_of X T.g e) (hbi ▸ (T.b.keeps F.keep)) ((T.builtins x hn).trans hv) h) hd
theorem nmG {M : Model} {A : Around} {E : Value → Shared → Prop} {s : Shared} {K : Frag} {h₀ : Heap} {L : Addr} {m mg mb : Str → Option Value} {env : Env} {p : Program} {loose : List Str} {mean : ExcName → Option Value}
    {x : Str} {pos : Pos} {v : Value} {Q : Value → Shared → Prop} (F : Fr h₀ L s.heap m) (X : K.In h₀) (T : Top p loose mean mg mb h₀) (e : nsIn K mainGlobals x = some (some v)) (h : Q v s)
    (hg : env.globals = mainGlobals) (hk : env.scope.kind = .function) (hx : env.kindOf x = some .globalImplicit) (hd : (x == ("__debug__" : Str)) = false := by decide) :
    wpAny M A (eval (.Name x pos) env) Q E s :=
  Name_function_global hk hx (loadGlobal_global (env := env) (by rw [hg]; exact T.g.keeps F.keep) (mg_of X T.g e) h) hd

noncomputable def tupVals (h : Heap) (T : Nat) : Array Value := match h.get? T with | some o => (match o.data with | .seq vs _ => vs | _ => #[]) | none => #[]
theorem tupVals_of {h : Heap} {T : Nat} {v : Array Value} (x : h.IsTuple T v) : tupVals h T = v := by
  obtain ⟨o, e, r⟩ := x
  unfold tupVals
  rw [e]
  simp only
  obtain ⟨_, h2⟩ := r
  first | rw [h2] | (obtain ⟨c, h2⟩ := h2; rw [h2])
/-- the pairs that lie at the tuples -/
noncomputable def Pairs (h : Heap) (R : List Nat) (pa pb : Nat → Str) : Prop := ∀ T ∈ R, ∃ ea eb, h.IsTuple T #[.str (pa T) ea, .str (pb T) eb]
theorem Pairs.keeps {h h' : Heap} {R : List Nat} {pa pb : Nat → Str} (x : Pairs h R pa pb) (hk : ∀ T ∈ R, ∀ o, h.get? T = some o → h'.get? T = some o) : Pairs h' R pa pb :=
  fun T hT => let ⟨a, b, e⟩ := x T hT; ⟨a, b, e.at (hk T hT)⟩
noncomputable abbrev refsOf (R : List Nat) : Array Value := (R.map Value.ref).toArray
structure UpP (P : Nat) (s s' : Shared) : Prop where
  keep : ∀ b o, b ≠ P → s.heap.get? b = some o → s'.heap.get? b = some o
  gens : GensUp s.gens s'.gens
  os : s'.os = s.os
  drawn : s'.drawn = s.drawn
theorem preSum_list (f : Nat → Int) (R : List Nat) : ∀ n, n ≤ R.length → preSum (fun j => f (R.getD j 0)) n = ((R.take n).map f).sum
  | 0, _ => by simp [preSum]
  | n + 1, h => by
    have e : R.take (n + 1) = R.take n ++ [R.getD n 0] := by
      rw [List.take_succ_eq_append_getElem (by omega)]
      simp [List.getD_eq_getElem?_getD, List.getElem?_eq_getElem (show n < R.length by omega)]
    show preSum _ n + f (R.getD n 0) = _
    rw [preSum_list f R n (by omega), e, List.map_append, List.sum_append]
    simp
end -- A20
example : True := by w_top off; trivial
section -- A26
section
variable {w : World} {s : Shared} {R : Result → Shared → Prop} {dp un : Nat} {gd : Option (List Code)} {es : List Env} {p : Program} {loose : List Str} {mg mb : Str → Option Value} {mean : ExcName → Option Value}

noncomputable abbrev giM (l : Nat) (last : Value) : Str → Option Value := fun y => if y = "last_interval" then some last else if y = "grouping" then some (.ref l) else none
noncomputable abbrev giMI (l : Nat) (iv last : Value) : Str → Option Value := fun y => if y = "interval" then some iv else giM l last y
theorem giM_start (l : Nat) : (fun y : Str => if y = "last_interval" then some Value.none else List.lookup y ([("grouping", Value.ref l)] : List (Str × Value)).reverse) = giM l .none := by
  funext y
  simp only [giM, List.reverse_cons, List.reverse_nil, List.nil_append, List.lookup]
  by_cases h : y = "grouping"
  · subst h; rfl
  · have : (y == ("grouping" : Str)) = false := by simpa using h
    simp [this, h]
noncomputable def LastAt (last : Option Int) (v : Value) : Prop := (last = none ∧ v = .none) ∨ ∃ z t, last = some z ∧ v = .int z t
noncomputable def GiI (h0 : Heap) (C l it N : Nat) (items : List Int) (tks : Nat → Tok) (O : Nat → GOut) (outer : List Env) (n : Nat) (s₀ s : Shared) : Prop :=
  ∃ k i last lastv m0, 0 < n ∧ n + k = N ∧ (∀ j, O (k + j) = giOut (items.drop i) last j) ∧ LastAt last lastv ∧ s.heap.Ns C m0 ∧ (∀ iv, (fun y => if y = ("interval" : Str) then some iv else m0 y) = giMI l iv lastv) ∧
    s.heap.IsListIter it l i ∧ s.heap.IsList l (items.zipIdx.map fun p => Value.int p.1 (tks p.2)).toArray ∧ (∀ b o, h0.get? b = some o → s.heap.get? b = some o) ∧ GSince h0 C s₀ s ∧ (last = none → s.heap.FunFrames h0 outer)

theorem gi_call {A' : Around} {outer : List Env} (hA' : A'.handled = none) (hfr : A'.frames = some outer) (hout : ∀ env ∈ outer, ∀ L, env.frame = some L → L < s.heap.objs.size) {l N : Nat} {h0 : Heap} {items : List Int} {tks : Nat → Tok} (hdp : dp + 3 < recursionLimit)
    (X : (hd.heap_1 w.params).In h0) (T : Top p loose mean mg mb h0) (hk0 : ∀ b o, h0.get? b = some o → s.heap.get? b = some o) (hsz0 : h0.objs.size ≤ s.heap.objs.size) (hN : 0 < N)
    (hl : s.heap.IsList l (items.zipIdx.map fun p => Value.int p.1 (tks p.2)).toArray)
    (hR : ∀ C a s' gs, (∀ b o, s.heap.get? b = some o → s'.heap.get? b = some o) → s'.gens = s.gens.push gs → gs.bare = true → s.heap.objs.size ≤ C → s'.os = s.os → s'.drawn = s.drawn →
      (∀ s'' : Shared, GHold h0 C l s' s'' → s''.heap.FunFrames h0 outer → gs.Goes (model PG w) A' (giEnd h0 C N (giOut items none) (giEX h0 C outer)) (giProto h0 C l N (giOut items none)) N (.send .none) s'') →
      s'.heap.IsGen a s.gens.size → s.heap.objs.size ≤ a → C < a → a < s'.heap.objs.size → R (.ok (.ret (.ref a))) s') :
    codeAny (model PG w) (AA dp un gd es) (.call (.ref 151) ⟨[.ref l], []⟩) R s := by
  refine' enterG (binds := [("grouping", .ref l)]) (X.keeps hk0) (T.nolimit.keeps hk0) ?ho ?hcd ?hroom ?hbind ?hloc ?h ?hcell ?hco ?hgen ?hk
  case ho => k_is
  case hcd => k_is
  case hroom => show dp < _; omega
  case hbind => exact BindsTo.of_eq rfl
  case hloc => exact locs rfl
  case hcell => decide
  case hco => exact rfl
  case hgen => exact rfl
  case hk => exact rfl
  case h =>
    intro h₁ hns hk₁
    have hlt : s.heap.objs.size < h₁.objs.size := hns.lt
    refine hR s.heap.objs.size h₁.objs.size _ _ (fun b o e => Heap.get?_push_of_some _ (hk₁ b o e)) rfl rfl (Nat.le_refl _) rfl rfl ?_ ⟨_, _, _, Heap.get?_push_size _ rfl, rfl, rfl, rfl⟩ (Nat.le_of_lt hlt) hlt (by show _ < (h₁.push _).objs.size; rw [Heap.size_push]; exact Nat.lt_succ_self _)
    · intro s'' hold hff
      refine ⟨rfl, ?_⟩
      refine seg_func ?_
      refine seg_execs_cons ?_
      refine seg_wrap ?_
      have hns' : s''.heap.Ns s.heap.objs.size (fun y => List.lookup y ([("grouping", Value.ref l)] : List (Str × Value)).reverse) := (hns.push _).at' fun o e => hold.2 _ o e (.inl rfl)
      have hl' : s''.heap.IsList l (items.zipIdx.map fun p => Value.int p.1 (tks p.2)).toArray := hl.at fun o e => hold.2 _ o (Heap.get?_push_of_some _ (hk₁ _ _ e)) (.inr (.inl rfl))
      have hCl : s.heap.objs.size ≠ l := by obtain ⟨o, e, _⟩ := hl; exact Nat.ne_of_gt (Heap.lt_size e)
      walk1
      walk1
      refine wpAny_storeName_local rfl hns' (fun h₂ hn₂ hs₂ => ?_) (by rfl)
      rw [giM_start] at hn₂
      refine seg_execs_cons ?_
      refine seg_For ?_
      refine ld (F := ⟨hn₂, fun b o e => hs₂.extBut b o (by intro e2; subst e2; have := Heap.lt_size e; exact absurd hsz0 (Nat.not_le.mpr this)) (hold.1 b o e), hsz0⟩) rfl ?_
      have hl₂ : h₂.IsList l (items.zipIdx.map fun p => Value.int p.1 (tks p.2)).toArray := hl'.at fun o e => hs₂.extBut _ o (Ne.symm hCl) e
      refine wpAny_pyIter_list hl₂ ?_
      intro pp
      have hlit0 : l < h₂.objs.size := by obtain ⟨o, e, _⟩ := hl₂; exact Heap.lt_size e
      have hCit0 : s.heap.objs.size < h₂.objs.size := hn₂.lt
      have h0above : ∀ b, s.heap.objs.size ≤ b → h0.get? b = none := fun b hb => by
        cases e : h0.get? b with
        | none => rfl
        | some o => exact absurd (Nat.lt_of_lt_of_le (Heap.lt_size e) hsz0) (Nat.not_lt.mpr hb)
      refine seg_loop_ind (GiI h0 s.heap.objs.size l h₂.objs.size N items tks (giOut items none) outer) (fun n ih s₀ s₁ hI => ?_) N _ _ ?_
      · obtain ⟨k, i, last, lastv, m0, hn0, hnk, hO, hla, hns₀, hm0, hit, hls, hkp, hsi, hff'⟩ := hI
        clear hn₂ hs₂ hl₂ hns' hl' hff hold hns hl hk₁
        refine seg_forLoop ?_
        cases hx : (items.zipIdx.map fun p => Value.int p.1 (tks p.2)).toArray[i]? with
        | none =>
          refine wpAny_pyNext_list_end ?hh hit hls hx fun h' hx' => ?_
          case hh => exact hA'
          dsimp only
          have hi : items.length ≤ i := by simpa using hx
          refine seg_leaf (.ok .next) ?_
          refine seg_end (.ok (.ret .none)) ⟨k, hnk, .inl ⟨?_, rfl, ?_⟩⟩
          · have := hO 0
            rw [List.drop_of_length_le hi] at this
            exact this
          · obtain ⟨oi, ei, ci, di⟩ := hit
            exact hsi.step (tk := s₁.toks) fun b o hb hc e => hx' b o (by
              rintro rfl; rw [ei] at e; cases e
              rcases hc with hc | hc
              · exact hc ⟨ci, _, di⟩
              · rw [h0above _ (Nat.le_of_lt hCit0)] at hc; cases hc) e
        | some xv =>
          refine wpAny_pyNext_list_item hit hls hx fun h' hit' hs' => ?_
          have hCit : s.heap.objs.size ≠ h₂.objs.size := Nat.ne_of_lt hCit0
          have hlit : l ≠ h₂.objs.size := Nat.ne_of_lt hlit0
          have h0C : h0.get? s.heap.objs.size = none := h0above _ (Nat.le_refl _)
          have h0I : h0.get? h₂.objs.size = none := h0above _ (Nat.le_of_lt hCit0)
          have hls' : h'.IsList l (items.zipIdx.map fun p => Value.int p.1 (tks p.2)).toArray := hls.at fun o e => hs'.extBut _ o hlit e
          dsimp only
          refine wpAny_assign_Name (wpAny_storeName_local rfl (hns₀.at' fun o e => hs'.extBut _ o hCit e) (fun h'' hn'' hs'' => ?_) (by rfl))
          rw [hm0] at hn''
          have F : Fr h0 s.heap.objs.size h'' (giMI l xv lastv) := ⟨hn'', fun b o e => hs''.extBut b o (by rintro rfl; rw [h0C] at e; cases e) (hs'.extBut b o (by rintro rfl; rw [h0I] at e; cases e) (hkp b o e)), hsz0⟩
          have hls'' : h''.IsList l (items.zipIdx.map fun p => Value.int p.1 (tks p.2)).toArray := hls'.at fun o e => hs''.extBut _ o (Ne.symm hCl) e
          have hit'' : h''.IsListIter h₂.objs.size l (i + 1) := let ⟨o, e, r⟩ := hit'; ⟨o, hs''.extBut _ o (Ne.symm hCit) e, r⟩
          obtain ⟨x, hxi, rfl⟩ : ∃ x, items[i]? = some x ∧ xv = .int x (tks i) := by
            simp only [List.getElem?_toArray, List.getElem?_map, List.getElem?_zipIdx] at hx
            cases hxi : items[i]? with
            | none => rw [hxi] at hx; simp at hx
            | some x => rw [hxi] at hx; simp at hx; exact ⟨x, rfl, hx.symm⟩
          have hdr : items.drop i = x :: items.drop (i + 1) := by
            have hlt : i < items.length := (List.getElem?_eq_some_iff.mp hxi).1
            rw [List.drop_eq_getElem_cons hlt, (List.getElem?_eq_some_iff.mp hxi).2]
          rw [hdr] at hO
          have hsi'' : ∀ tk, GSince h0 s.heap.objs.size s₀ { s₁ with heap := h'', toks := tk } := fun tk => by
            obtain ⟨oi, ei, ci, di⟩ := hit
            exact hsi.step (tk := tk) fun b o hb hc e => hs''.extBut b o hb (hs'.extBut b o (by
              rintro rfl; rw [ei] at e; cases e
              rcases hc with hc | hc
              · exact hc ⟨ci, _, di⟩
              · rw [h0I] at hc; cases hc) e)
          have hff'' : last = none → h''.FunFrames h0 outer := fun e => funFrames_on (hff' e) fun env he L o hf ho hd => by
            obtain ⟨oi, ei, ci, di⟩ := hit
            exact hs''.extBut L o (Nat.ne_of_lt (hout env he L hf)) (hs'.extBut L o (by rintro rfl; rw [ei] at ho; cases ho; exact hd _ di) ho)
          clear hs' hs'' hit' hls' hls hit hns₀ hkp hsi hx hxi hn''
          refine seg_execs_cons ?_
          refine seg_wrap ?_
          walk1
          walk1
          walk1
          walk1
          walk1
          walk1
          walk1
          · rename_i hx127
            walk1
            walk1
            walk1
            refine seg_leaf (.ok (.ret .none)) ?_
            refine seg_end (.ok (.ret .none)) ⟨k, hnk, .inl ⟨?_, rfl, hsi'' _⟩⟩
            have := hO 0
            rw [giOut_max hx127] at this
            exact this
          · rename_i hx127
            refine wpAny_pure ?_
            dsimp only
            refine seg_execs_cons ?_
            refine seg_If ?_
            walk1
            walk1
            walk1
            walk1
            walk1
            by_cases hx0 : x = 0
            · subst hx0
              rw [if_pos (by simp)]
              refine seg_execs_cons ?_
              rcases hla with ⟨rfl, rfl⟩ | ⟨v, tv, rfl, rfl⟩
              · refine seg_wrap ?_
                walk1
                walk1
                walk1
                walk1
                walk1
                walk1
                walk1
                walk1
                walk1
                refine Raise_madeB PySem.F.excCall_ValueError PySem.F.excRaise_ValueError ?hh (nmB F X T (by k_is) PyProof.Rows.Boot.«ValueError» (by decide) ⟨rfl, ?_⟩ rfl rfl rfl rfl)
                case hh => exact hA'
                walk1
                walk1
                walk1
                refine ⟨by size_fits, fun h₅ e hmade => ?_⟩
                have hmade' := Heap.MadeExc.of hmade
                refine seg_raise_out (fun _ => rfl) ?_
                refine wpAny_leaves_madeW (outer := outer) (base := hideAll h'' (s.heap.objs.size :: outer.filterMap (·.frame))) (h := h'') ?_ rfl (fun b o e => of_hideAll _ e) (funFrames_hide (base := h0) ⟨(by intro q; cases q), ?_, hff'' rfl⟩ ?_) hmade' fun h₆ t x1 x2 x3 x4 => ?_
                · show pushEnvs [_] (pushEnvs [] A'.frames) = _
                  rw [hfr]; rfl
                · obtain ⟨o, es, ep, ho, hd, _⟩ := F.ns
                  exact ⟨_, o, rfl, h0C, ho, fun vs q => by rw [hd] at q; cases q⟩
                · intro env he L hf
                  rcases List.mem_cons.mp he with rfl | he
                  · cases hf; exact .head _
                  · exact .tail _ (List.mem_filterMap.mpr ⟨env, he, hf⟩)
                · refine ⟨k, hnk, .inr ⟨?_, .ref e, rfl, e, t, _, _, rfl, ?_, x1, x2, x3, ?_, ?_, ?_⟩⟩
                  · have := hO 0; rw [giOut_zero] at this; exact this
                  · intro b o e0
                    refine hideAll_get _ (F.keep b o e0) fun hm => ?_
                    rcases List.mem_cons.mp hm with rfl | h1
                    · rw [h0C] at e0; cases e0
                    · have := ((hff'' rfl).mem h1).1
                      rw [e0] at this; cases this
                  · obtain ⟨h9, tk9, e9, k9⟩ := hsi'' 0
                    have eg := congrArg Shared.gens e9
                    have ed := congrArg Shared.drawn e9
                    have eo := congrArg Shared.os e9
                    dsimp only at eg ed eo
                    exact ⟨h₆, _, by rw [← eg, ← ed, ← eo]⟩
                  · intro b o hb hbf hc e0
                    obtain ⟨h9, tk9, e9, k9⟩ := hsi'' 0
                    have eh := congrArg Shared.heap e9
                    dsimp only at eh
                    subst eh
                    exact hideAll_get _ (k9 b o hb (.inl hc) e0) fun hm => by
                      rcases List.mem_cons.mp hm with h1 | h1
                      · exact hb h1
                      · exact hbf h1
                  · intro b o hb hc hd e0
                    obtain ⟨h9, tk9, e9, k9⟩ := hsi'' 0
                    have eh := congrArg Shared.heap e9
                    dsimp only at eh
                    subst eh
                    exact x4 b o (hmade'.keeps b o (k9 b o hb (.inl hc) e0)) hd
              · refine seg_wrap ?_
                walk1
                walk1
                walk1
                walk1
                walk1
                walk1
                walk1
                refine wpAny_pure ?_
                dsimp only
                refine seg_execs_cons ?_
                refine seg_While ?_
                intro p2
                have hy : ∀ j, giOut items none (k + j) = .yld v := fun j => by rw [hO j, giOut_zero]
                refine seg_loop_ind (fun n s₀ s₁ => ∃ k, 0 < n ∧ n + k = N ∧ (∀ j, giOut items none (k + j) = .yld v) ∧ s₁.heap.Ns s.heap.objs.size (giMI l (.int 0 (tks i)) (.int v tv)) ∧ (∀ b o, h0.get? b = some o → s₁.heap.get? b = some o) ∧ GSince h0 s.heap.objs.size s₀ s₁) (fun n ih2 s₀ s₁ hI => ?_) n _ _ ⟨k, hn0, hnk, hy, F.ns, F.keep, hsi'' _⟩
                obtain ⟨k, hn0, hnk, hy, hns₁, hk₁, hsi₁⟩ := hI
                refine seg_whileLoop ?_
                walk1
                walk1
                walk1
                dsimp only
                rw [if_pos rfl]
                refine seg_execs_cons ?_
                obtain ⟨n, rfl⟩ : ∃ n', n = n' + 1 := ⟨n - 1, by omega⟩
                refine seg_Expr_Yield rfl rfl rfl ?_
                have Fw : Fr h0 s.heap.objs.size s₁.heap (giMI l (.int 0 (tks i)) (.int v tv)) := ⟨hns₁, hk₁, hsz0⟩
                refine ld Fw rfl ?_
                intro kap hkap
                refine ⟨⟨k, v, _, by omega, hy 0, rfl⟩, hsi₁, fun hm s₃ hold => hkap .none s₃ ?_⟩
                dsimp only
                refine seg_execs_nil ?_
                dsimp only
                exact seg_again rfl (ih2 n (Nat.lt_succ_self _) _ _ ⟨k + 1, hm, by omega, fun j => by rw [show k + 1 + j = k + (1 + j) by omega]; exact hy _, hns₁.at' fun o e => hold.2 _ o e (.inl rfl), hold.1, GSince.refl _ _ _⟩)
            · rw [if_neg (by simp [hx0])]
              refine seg_execs_nil ?_
              dsimp only
              refine seg_execs_cons ?_
              obtain ⟨n, rfl⟩ : ∃ n', n = n' + 1 := ⟨n - 1, by omega⟩
              refine seg_Expr_Yield rfl rfl rfl ?_
              refine ld F rfl ?_
              intro kap hkap
              refine ⟨⟨k, x, _, by omega, ?_, rfl⟩, hsi'' _, fun hm s₃ hold => hkap .none s₃ ?_⟩
              · have := hO 0; rw [giOut_head hx127 hx0] at this; exact this
              show Seg _ _ _ _ _ _ _ (Sem.wrap _ _ _ _ (execs [Stmt.Assign _ _ _] _)) _ _
              have hns₃ := F.ns.at' fun o e => hold.2 _ o e (.inl rfl)
              have F3 : Fr h0 s.heap.objs.size s₃.heap (giMI l (Value.int x (tks i)) lastv) := ⟨hns₃, hold.1, hsz0⟩
              have hls₃ : s₃.heap.IsList l (items.zipIdx.map fun p => Value.int p.1 (tks p.2)).toArray := hls''.at fun o e => hold.2 _ o e (.inr (.inl rfl))
              have hit₃ : s₃.heap.IsListIter h₂.objs.size l (i + 1) := let ⟨o, e, c, r⟩ := hit''; ⟨o, hold.2 _ o e (.inr (.inr ⟨c, _, r⟩)), c, r⟩
              refine seg_execs_cons ?_
              refine seg_wrap ?_
              walk1
              walk1
              refine wpAny_storeName_local rfl hns₃ (fun h₄ hn₄ hs₄ => ?_) (by rfl)
              dsimp only
              refine seg_execs_nil ?_
              dsimp only
              refine seg_again rfl (ih n (Nat.lt_succ_self _) _ _ ⟨k + 1, i + 1, some x, .int x (tks i), _, hm, by omega, fun j => ?_, .inr ⟨_, _, rfl, rfl⟩, hn₄, fun iv => ?_, ?_, ?_, ?_, ?_, fun e => by cases e⟩)
              · have := hO (1 + j); rw [show 1 + j = j + 1 from Nat.add_comm _ _, giOut_tail hx127 hx0] at this
                rw [show k + 1 + j = k + (j + 1) by omega]; exact this
              · funext y
                by_cases hy : y = "interval"
                · rw [if_pos hy]; exact (if_pos hy).symm
                · rw [if_neg hy]
                  refine Eq.trans ?_ (if_neg hy).symm
                  by_cases hy2 : y = "last_interval"
                  · rw [if_pos hy2]; exact (if_pos hy2).symm
                  · rw [if_neg hy2]; exact (if_neg hy).trans ((if_neg hy2).trans (if_neg hy2).symm)
              · obtain ⟨o, e, r⟩ := hit₃; exact ⟨o, hs₄.extBut _ o (Ne.symm hCit) e, r⟩
              · exact hls₃.at fun o e => hs₄.extBut _ o (Ne.symm hCl) e
              · exact fun b o e => hs₄.extBut b o (by rintro rfl; rw [h0C] at e; cases e) (hold.1 b o e)
              · exact (GSince.refl _ _ s₃).step (tk := s₃.toks + 1) fun b o hb hc e => hs₄.extBut b o hb e
      · refine ⟨0, 0, none, .none, giM l .none, hN, Nat.add_zero _, fun j => by rw [Nat.zero_add]; rfl, .inl ⟨rfl, rfl⟩, hn₂.push _, fun iv => rfl, ⟨_, Heap.get?_push_size _ rfl, rfl, rfl⟩, hl₂.push _, fun b o e => Heap.get?_push_of_some _ (hs₂.extBut b o (by rintro rfl; rw [h0above _ (Nat.le_refl _)] at e; cases e) (hold.1 b o e)), ?_, fun _ => ?_⟩
        · exact (GSince.refl _ _ s'').step fun b o hb hc e => Heap.get?_push_of_some _ (hs₂.extBut b o hb e)
        · exact funFrames_on hff fun env he L o hf ho hd => Heap.get?_push_of_some _ (hs₂.extBut L o (Nat.ne_of_lt (hout env he L hf)) ho)
end
end -- A26
example : True := by w_top off; trivial
local macro_rules | `(tactic| walk_at "getMethod ref") => `(tactic| (k_here; k_dflt (refine' acc_meth ?k1 ?k2 ?k3 ?k4 ?k5 ?k6 ?k7 ?_; (case k1 => k_in); (case k2 => exact News.get (by k_asm) (by k_mem)); (case k3 => exact News.get (by k_asm) (by k_mem)); (case k4 => k_is); (case k5 => k_is); (case k6 => decide); (case k7 => k_get); k_whole)))
local macro_rules | `(tactic| walk_at "getAttr ref") => `(tactic| (k_here; k_dflt (refine' acc_get ?k1 ?k2 ?k3 ?k4 ?_; (case k1 => k_in); (case k2 => exact News.get (by k_asm) (by k_mem)); (case k3 => exact News.get (by k_asm) (by k_mem)); (case k4 => k_handed); k_whole)))
section -- A7
section
variable {w : World} {s : Shared} {R : Result → Shared → Prop} {dp un : Nat} {gd : Option (List Code)} {es : List Env} {p : Program} {loose : List Str} {mg mb : Str → Option Value} {mean : ExcName → Option Value}

theorem acc_push {x dx : Nat} {xs : Array Value} {c : Nat} {e : Tok} {iv : Value} {a b : Value} (hdp : dp + 3 < recursionLimit)
    (X : (hd.heap_1 w.params).In (hideAll s.heap [x, dx])) (T : Top p loose mean mg mb (hideAll s.heap [x, dx]))
    (hx : s.heap.get? x = some (accObj dx xs c)) (hdx : s.heap.get? dx = some (sizeD w e iv)) (hne : dx < x) (hsz : xs.size ≤ 90)
    (hR : ∀ (q : Nat) h' t' c', x < q → (∀ b o, b ≠ x → s.heap.get? b = some o → h'.get? b = some o) → s.heap.get? q = none → h'.get? q = some { cls := .type "tuple", data := .seq #[a, b] } → h'.get? x = some (accObj dx (xs.push (.ref q)) c') → R (.ok (.ret .none)) { s with heap := h', toks := t' }) :
    codeAny (model PG w) (AA dp un gd es) (.call (.ref 53) ⟨[.ref x, a, b], []⟩) R s := by
  have st : ∀ b o, (hideAll s.heap [x, dx]).get? b = some o → s.heap.get? b = some o := fun b o e => of_hideAll _ e
  have st2 : ∀ b o, b ≠ x → b ≠ dx → s.heap.get? b = some o → (hideAll s.heap [x, dx]).get? b = some o := fun b o h1 h2 e => hideAll_get _ e (by simp [h1, h2])
  refine' enter (binds := [("self", .ref x), ("fws", a), ("string", b)]) [(x, accObj dx xs c), (dx, sizeD w e iv)] (X.keeps st) (T.nolimit.keeps st) ?ho ?hcd ?hroom ?hbind ?hloc ?hn ?h ?hcell ?hco ?hgen ?hk
  case ho => k_is
  case hcd => k_is
  case hroom => show dp < _; omega
  case hbind => exact BindsTo.of_eq rfl
  case hloc => exact locs rfl
  case hcell => decide
  case hco => exact rfl
  case hgen => exact rfl
  case hk => exact rfl
  case hn => intro p hp; rcases List.mem_cons.mp hp with rfl | hp; exact hx; rcases List.mem_cons.mp hp with rfl | hp; exact hdx; cases hp
  case h =>
    intro L' h₁ hk hL F' N'
    dsimp only [List.map] at F' N'
    clear hk
    walk1
    walk1
    walk1
    walk1
    walk1
    walk1
    walk1
    walk1
    walk1
    walk1
    walk1
    walk1
    walk1
    walk1
    walk1
    walk1
    rename News _ _ _ _ => N2
    rename Fr _ _ _ _ => F2
    rename _ ∧ _ => l2
    refine wpAny_call (acc_append (X.keeps F2.keep) (N2 _ (.tail _ (.head _))).1 hsz fun h3 c3 k3 hx3 _ => ?_)
    refine wpAny_pure ?_
    have hq := N2 _ (.head _)
    have hd := (N2 _ (.tail _ (.tail _ (.head _)))).1
    refine hR _ h3 _ c3 l2.1 (fun b o hb e => ?_) ?_ (k3 _ _ (Nat.ne_of_gt l2.1) hq.1) hx3
    · by_cases h2 : b = dx
      · subst h2; rw [hdx] at e; cases e; exact k3 _ _ (Nat.ne_of_lt hne) hd
      · exact k3 _ _ hb (F2.keep b o (st2 b o hb h2 e))
    · cases q : s.heap.get? _ with
      | none => rfl
      | some o => exact absurd (st2 _ _ (Nat.ne_of_gt l2.1) (Nat.ne_of_gt l2.2) q) (by rw [hq.2.2]; exact fun h => nomatch h)
end
end -- A7
example : True := by w_top off; trivial
section -- A11
noncomputable def fdAt (K : Frag) (a : Addr) : FuncData := match K.lookup a with
  | some ⟨_, _, .func fd, _⟩ => fd
  | _ => default
section
variable {w : World} {s : Shared} {R : Result → Shared → Prop} {dp un : Nat} {gd : Option (List Code)} {es : List Env} {p : Program} {loose : List Str} {mg mb : Str → Option Value} {mean : ExcName → Option Value}

theorem acc_pop {x dx : Nat} {L : List Value} {c : Nat} {e : Tok} {iv : Value} {i : Nat} {ti : Tok} {args : List Value} (hargs : args = [.ref x, .int i ti] ∨ (args = [.ref x] ∧ i = 0 ∧ ti = 242)) (hdp : dp + 3 < recursionLimit)
    (X : (hd.heap_1 w.params).In (hideAll s.heap [x, dx])) (T : Top p loose mean mg mb (hideAll s.heap [x, dx]))
    (hx : s.heap.get? x = some (accObj dx L.toArray c)) (hdx : s.heap.get? dx = some (sizeD w e iv)) (hne : dx < x) (hsz : L.length ≤ 20) (hi : i ≤ L.length)
    (hR : ∀ q h' t' c', (∀ b o, b ≠ x → s.heap.get? b = some o → h'.get? b = some o) → s.heap.get? q = none → h'.get? q = some { cls := .type "list", data := .seq (L.drop i).toArray } → h'.get? x = some (accObj dx (L.take i).toArray c') → R (.ok (.ret (.ref q))) { s with heap := h', toks := t' }) :
    codeAny (model PG w) (AA dp un gd es) (.call (.ref 61) ⟨args, []⟩) R s := by
  have st : ∀ b o, (hideAll s.heap [x, dx]).get? b = some o → s.heap.get? b = some o := fun b o e => of_hideAll _ e
  have st2 : ∀ b o, b ≠ x → b ≠ dx → s.heap.get? b = some o → (hideAll s.heap [x, dx]).get? b = some o := fun b o h1 h2 e => hideAll_get _ e (by simp [h1, h2])
  refine' enter (binds := [("self", .ref x), ("i", .int i ti)]) [(x, accObj dx L.toArray c), (dx, sizeD w e iv)] (X.keeps st) (T.nolimit.keeps st) ?ho ?hcd ?hroom ?hbind ?hloc ?hn ?h ?hcell ?hco ?hgen ?hk
  case ho => k_is
  case hcd => k_is
  case hroom => show dp < _; omega
  case hbind =>
    rcases hargs with rfl | ⟨rfl, rfl, rfl⟩
    · exact binds_K (X.keeps st) rfl (by k_is) rfl rfl rfl
    · exact binds_K (X.keeps st) rfl (by k_is) rfl rfl rfl
  case hloc => exact locs rfl
  case hcell => decide
  case hco => exact rfl
  case hgen => exact rfl
  case hk => exact rfl
  case hn => intro p hp; rcases List.mem_cons.mp hp with rfl | hp; exact hx; rcases List.mem_cons.mp hp with rfl | hp; exact hdx; cases hp
  case h =>
    intro L' h₁ hk hL F' N'
    dsimp only [List.map] at F' N'
    clear hk
    walk1
    walk1
    walk1
    walk1
    walk1
    walk1
    walk1
    walk1
    walk1
    walk1
    have hs0 := Heap.IsSliceOf.new h₁ (.int i ti) .none .none
    have F2 := F'.push { cls := .type "slice", data := .fields #[.int i ti, .none, .none] }
    have N2 := N'.push F' { cls := .type "slice", data := .fields #[.int i ti, .none, .none] }
    have X2 := X.keeps F2.keep
    refine acc_sub X2 (N2 _ (.tail _ (.head _))).1 hs0 hsz hi ?_
    have F3 := F2.push { cls := .type "list", data := .seq (L.drop i).toArray }
    have N3 := N2.push F2 { cls := .type "list", data := .seq (L.drop i).toArray }
    have lx : @LT.lt Nat _ x h₁.objs.size := Heap.lt_size (N' _ (.head _)).1
    have ld : @LT.lt Nat _ dx h₁.objs.size := Heap.lt_size (N' _ (.tail _ (.head _))).1
    have lq : @LT.lt Nat _ h₁.objs.size (h₁.push { cls := .type "slice", data := .fields #[.int i ti, .none, .none] }).objs.size := by rw [Heap.size_push]; exact Nat.lt_succ_self _
    generalize hq1 : h₁.objs.size = q1 at *
    generalize h₁.push { cls := .type "slice", data := .fields #[.int i ti, .none, .none] } = h2 at *
    generalize hq2 : h2.objs.size = q2 at *
    generalize h2.push { cls := .type "list", data := .seq (L.drop i).toArray } = h3 at *
    clear F' N' F2 N2
    dsimp only
    walk1
    walk1
    walk1
    walk1
    walk1
    walk1
    walk1
    walk1
    rename News _ _ _ _ => N4
    rename Fr _ _ _ _ => F4
    rename _ ∧ _ => l4
    rename_i l h4
    walk1
    walk1
    walk1
    walk1
    walk1
    have hs0 := Heap.IsSliceOf.new h4 (.int i ti) .none .none
    have F5 := F4.push { cls := .type "slice", data := .fields #[.int i ti, .none, .none] }
    have N5 := N4.push F4 { cls := .type "slice", data := .fields #[.int i ti, .none, .none] }
    have X5 := X.keeps F5.keep
    have e1 : (sliceSet L.toArray #[] (some (i : Int)) none) = (L.take i).toArray := sliceSet_from (by simpa using hi)
    refine acc_sliceset X5 (N5 _ (.tail _ (.tail _ (.tail _ (.tail _ (.head _)))))).1 hs0 (.int _ _) .none (N5 _ (.tail _ (.head _))).1 (by simp; omega) (by decide) (by rw [e1]; simp; omega) ?_
    rw [e1]
    intro h6 c6 k6 hx6 _
    have F6 := frBut F5 k6 (N5 _ (.tail _ (.tail _ (.tail _ (.tail _ (.head _)))))).2.1 (N5 _ (.tail _ (.tail _ (.tail _ (.tail _ (.head _)))))).2.2
    have hq6 := N5 _ (.tail _ (.tail _ (.head _)))
    dsimp only at hq6
    clear F5 F4
    dsimp only
    walk1
    walk1
    walk1
    have hd6 := k6 _ _ (Nat.ne_of_lt hne) (N5 _ (.tail _ (.tail _ (.tail _ (.tail _ (.tail _ (.head _))))))).1
    refine hR q2 h6 _ c6 (fun b o hb e => ?_) ?_ (k6 _ _ (Nat.ne_of_gt (Nat.lt_trans lx lq)) hq6.1) hx6
    · by_cases h2 : b = dx
      · subst h2; rw [hdx] at e; cases e; exact hd6
      · exact F6.keep b o (st2 b o hb h2 e)
    · cases q : s.heap.get? q2 with
      | none => rfl
      | some o => exact absurd (st2 _ _ (Nat.ne_of_gt (Nat.lt_trans lx lq)) (Nat.ne_of_gt (Nat.lt_trans ld lq)) q) (by rw [hq6.2.2]; exact fun h => nomatch h)
end
end -- A11
example : True := by w_top off; trivial
section -- A13
section
variable {w : World} {s : Shared} {R : Result → Shared → Prop} {dp un : Nat} {gd : Option (List Code)} {es : List Env} {p : Program} {loose : List Str} {mg mb : Str → Option Value} {mean : ExcName → Option Value}

theorem acc_reset {x dx l : Nat} {xs ys : Array Value} {c cl : Nat} {e : Tok} {iv : Value} (hdp : dp + 3 < recursionLimit)
    (X : (hd.heap_1 w.params).In (hideAll s.heap [x, dx, l])) (T : Top p loose mean mg mb (hideAll s.heap [x, dx, l]))
    (hx : s.heap.get? x = some (accObj dx xs c)) (hdx : s.heap.get? dx = some (sizeD w e iv)) (hl : s.heap.get? l = some { cls := .type "list", data := .seq ys cl }) (hne : dx < x) (hl1 : l ≠ x) (hl2 : l ≠ dx) (hsz : xs.size ≤ 20) (hsz2 : ys.size ≤ 20)
    (hR : ∀ h' t' c' e' tz, (∀ b o, b ≠ x → b ≠ dx → s.heap.get? b = some o → h'.get? b = some o) → h'.get? x = some (accObj dx ys c') → h'.get? dx = some (sizeD w e' (.int 0 tz)) → R (.ok (.ret .none)) { s with heap := h', toks := t' }) :
    codeAny (model PG w) (AA dp un gd es) (.call (.ref 90) ⟨[.ref x, .ref l], []⟩) R s := by
  have st : ∀ b o, (hideAll s.heap [x, dx, l]).get? b = some o → s.heap.get? b = some o := fun b o e => of_hideAll _ e
  have st2 : ∀ b o, b ≠ x → b ≠ dx → b ≠ l → s.heap.get? b = some o → (hideAll s.heap [x, dx, l]).get? b = some o := fun b o h1 h2 h3 e => hideAll_get _ e (by simp [h1, h2, h3])
  refine' enter (binds := [("self", .ref x), ("startval", .ref l)]) [(x, accObj dx xs c), (dx, sizeD w e iv), (l, { cls := .type "list", data := .seq ys cl })] (X.keeps st) (T.nolimit.keeps st) ?ho ?hcd ?hroom ?hbind ?hloc ?hn ?h ?hcell ?hco ?hgen ?hk
  case ho => k_is
  case hcd => k_is
  case hroom => show dp < _; omega
  case hbind => exact binds_K (X.keeps st) rfl (by k_is) rfl rfl rfl
  case hloc => exact locs rfl
  case hcell => decide
  case hco => exact rfl
  case hgen => exact rfl
  case hk => exact rfl
  case hn => intro p hp; rcases List.mem_cons.mp hp with rfl | hp; exact hx; rcases List.mem_cons.mp hp with rfl | hp; exact hdx; rcases List.mem_cons.mp hp with rfl | hp; exact hl; cases hp
  case h =>
    intro L' h₁ hk hL F' N'
    dsimp only [List.map] at F' N'
    clear hk
    walk1
    walk1
    walk1
    walk1
    walk1
    walk1
    walk1
    walk1
    walk1
    walk1
    walk1
    walk1
    walk1
    walk1
    walk1
    walk1
    walk1
    walk1
    have hs0 := Heap.IsSliceOf.new h₁ .none .none .none
    have F5 := F'.push { cls := .type "slice", data := .fields #[.none, .none, .none] }
    have N5 := N'.push F' { cls := .type "slice", data := .fields #[.none, .none, .none] }
    have X5 := X.keeps F5.keep
    have e1 : sliceSet xs ys none none = ys := sliceSet_all
    refine acc_sliceset X5 (N5 _ (.tail _ (.head _))).1 hs0 .none .none (N5 _ (.tail _ (.tail _ (.tail _ (.head _))))).1 (by omega) (by omega) (by rw [e1]; omega) ?_
    rw [e1]
    intro h6 c6 k6 hx6 _
    have F6 := frBut F5 k6 (N5 _ (.tail _ (.head _))).2.1 (N5 _ (.tail _ (.head _))).2.2
    have N6 := newsBut (fun p hp => N5 p (.tail _ hp)) k6 (fun p hp => by rcases List.mem_cons.mp hp with rfl | hp; exact Nat.ne_of_lt hne; rcases List.mem_cons.mp hp with rfl | hp; exact hl1; cases hp) hx6
    clear F5 F' N' N5
    dsimp only
    walk1
    walk1
    walk1
    walk1
    walk1
    rename News _ _ _ _ => N7
    rename Fr _ _ _ _ => F7
    refine wpAny_pure ?_
    refine hR _ _ c6 _ _ (fun b o hb hb2 e => ?_) (N7 _ (.head _)).1 (N7 _ (.tail _ (.head _))).1
    by_cases h3 : b = l
    · subst h3; rw [hl] at e; cases e; exact (N7 _ (.tail _ (.tail _ (.head _)))).1
    · exact F7.keep b o (st2 b o hb hb2 h3 e)
end
end -- A13
example : True := by w_top off; trivial
section -- A21
section
variable {w : World} {s : Shared} {R : Result → Shared → Prop} {dp un : Nat} {gd : Option (List Code)} {es : List Env} {p : Program} {loose : List Str} {mg mb : Str → Option Value} {mean : ExcName → Option Value}

theorem acc_len {x dx : Nat} {RT : List Nat} {pa pb : Nat → Str} {c : Nat} {k : Int} {e0 tk : Tok} (hdp : dp + 3 < recursionLimit)
    (X : (hd.heap_1 w.params).In (hideAll s.heap [x, dx, 70])) (T : Top p loose mean mg mb (hideAll s.heap [x, dx, 70]))
    (hx : s.heap.get? x = some (accObj dx (refsOf RT) c)) (hdx : s.heap.get? dx = some (sizeD w e0 (.int k tk))) (ht : Tab s.heap 74 70) (hP : Pairs s.heap RT pa pb) (hR70 : ∀ T ∈ RT, T ≠ 70) (hne : dx < x) (hp : 70 < dx)
    (hfa : ∀ T ∈ RT, (pa T).length < 1000000) (hfb : ∀ T ∈ RT, (pb T).length < 1000000)
    (hR : ∀ s' t', UpP 70 s s' → Tab s'.heap 74 70 → R (.ok (.ret (.int (k + (RT.map fun T => ((pa T).length + (pb T).length : Int)).sum) t'))) s') :
    codeAny (model PG w) (AA dp un gd es) (.call (.ref 75) ⟨[.ref x], []⟩) R s := by
  obtain ⟨tb, htb⟩ := ht.obj
  have st : ∀ b o, (hideAll s.heap [x, dx, 70]).get? b = some o → s.heap.get? b = some o := fun b o e => of_hideAll _ e
  have st2 : ∀ b o, b ≠ x → b ≠ dx → b ≠ 70 → s.heap.get? b = some o → (hideAll s.heap [x, dx, 70]).get? b = some o := fun b o h1 h2 h3 e => hideAll_get _ e (by simp [h1, h2, h3])
  refine' enterS (binds := [("self", .ref x)]) [(x, accObj dx (refsOf RT) c), (dx, sizeD w e0 (.int k tk)), (70, ⟨.none, none, .fields tb, #[]⟩)] (X.keeps st) (T.nolimit.keeps st) ?ho ?hcd ?hroom ?hbind ?hloc ?hn ?h ?hcell ?hco ?hgen ?hk
  case ho => k_is
  case hcd => k_is
  case hroom => show dp < _; omega
  case hbind => exact BindsTo.of_eq rfl
  case hloc => exact locs rfl
  case hcell => decide
  case hco => exact rfl
  case hgen => exact rfl
  case hk => exact rfl
  case hn => intro p hp; rcases List.mem_cons.mp hp with rfl | hp; exact hx; rcases List.mem_cons.mp hp with rfl | hp; exact hdx; rcases List.mem_cons.mp hp with rfl | hp; exact htb; cases hp
  case h =>
    intro L' h₁ hk hL F' N'
    dsimp only [List.map] at F' N'
    refine ks_wpAt_execs_cons ?_
    refine wpAt_of_wpAny ?_
    walk1
    walk1
    walk1
    walk1
    walk1
    obtain ⟨bm, ob, e1, e2, e3, e4, e5, e6⟩ := T.bmain
    have hsz : (refsOf RT).size = RT.length := by simp
    refine ring_gen (c := 74) (P := 70) (x := x) (dx := dx) (bm := bm) (xs := refsOf RT) (cp := c) (Ts := fun j => RT.getD j 0) (vals := fun j => tupVals h₁ (RT.getD j 0)) (mg := mg) (ob := ob)
      (F := fun j y => ∃ t, y = .int (((pa (RT.getD j 0)).length : Int) + (pb (RT.getD j 0)).length) t)
      ?hh rfl rfl (by decide) (by decide) (by decide) (by decide) (by decide) rfl ?hroom (fun _ => rfl) rfl ?hT (X.keeps F'.keep) (T.nolimit.keeps F'.keep) (by decide) ?M ?hi ?hx ?hPx ?hit ?hTs ?hTP ?hv2 ?helt ?hQ
    case hh => rfl
    case hroom => show dp + _ < _; have : (Code.func [] (envX "_Accumulator.__len__" default L' 75 (Value.ref 74) [])).weight ≤ 1 := Nat.le_refl _; exact Nat.lt_of_le_of_lt (Nat.add_le_add_left this dp) (by omega)
    case hT => exact ht.keeps hk
    case M => exact (BMod.mk (T.g) e1 e2 e3 e4 e5 e6 : BMod (hideAll s.heap [x, dx, 70]) mainGlobals mg bm ob).keeps F'.keep
    case hi => exact ld F' rfl ⟨rfl, rfl⟩
    case hx => exact hk _ _ hx
    case hPx => omega
    case hit => intro j hj; rw [hsz] at hj; simp [refsOf, List.getD_eq_getElem?_getD, hj]
    case hTs =>
      intro j hj; rw [hsz] at hj
      obtain ⟨ea, eb, e⟩ := hP (RT.getD j 0) (by simp [List.getD_eq_getElem?_getD, hj])
      have e' : h₁.IsTuple (RT.getD j 0) _ := e.at fun o e => hk _ o e
      rw [tupVals_of e']; exact e'
    case hTP => intro j hj; rw [hsz] at hj; exact hR70 _ (by simp [List.getD_eq_getElem?_getD, hj])
    case hv2 =>
      intro j hj; rw [hsz] at hj
      obtain ⟨ea, eb, e⟩ := hP (RT.getD j 0) (by simp [List.getD_eq_getElem?_getD, hj])
      exact ⟨_, _, tupVals_of (e.at fun o e => hk _ o e)⟩
    case helt =>
      intro code C A' E' i va vb s₂ m₂ hA hi hv hn ha hb hkp hC
      rw [hsz] at hi
      have hm : RT.getD i 0 ∈ RT := by simp [List.getD_eq_getElem?_getD, hi]
      obtain ⟨ea, eb, e⟩ := hP (RT.getD i 0) hm
      rw [tupVals_of (e.at fun o e => hk _ o e)] at hv
      have hva : Value.str (pa (RT.getD i 0)) ea = va := by injection hv with hv; injection hv
      have hvb : Value.str (pb (RT.getD i 0)) eb = vb := by injection hv with hv; injection hv with _ hv; injection hv
      subst hva hvb
      have FC : Fr (hideAll s.heap [x, dx, 70]) C s₂.heap m₂ := ⟨hn, fun b o e => hkp b o (by rintro rfl; rw [hideAll_none _ (by simp)] at e; cases e) (F'.keep b o e), Nat.le_of_lt (Nat.lt_of_le_of_lt F'.above (Nat.lt_trans F'.ns.lt hC))⟩
      refine wpAny_BinOp ?_
      refine Call_ ?_
      refine nmB FC X T (by k_is) (by boot_by_name) (by decide) ?_ rfl rfl rfl rfl
      walk1
      refine spliced_cons ?_
      refine ldG hn ha ?_
      refine args_nil ?_
      refine len_str ?_ ?_
      · have := hfa _ hm; omega
      refine Call_ ?_
      refine nmB (s := { s₂ with toks := s₂.toks + 1 + 1 }) FC X T (by k_is) (by boot_by_name) (by decide) ?_ rfl rfl rfl rfl
      walk1
      refine spliced_cons ?_
      refine ldG hn hb ?_
      refine args_nil ?_
      refine len_str ?_ ?_
      · have := hfb _ hm; omega
      refine wpAny_add_int ?_
      exact ⟨⟨_, rfl⟩, _, _, rfl, fun _ _ e => e⟩
    case hQ => 
      intro a s' G
      have hb70 : (hideAll s.heap [x, dx, 70]).get? 70 = none := hideAll_none _ (by simp)
      have F2 := frBut F' G.keep (by have h2 : 70 < s.heap.objs.size := Heap.lt_size htb; rw [hL]; intro e; have h3 : s.heap.objs.size = 70 := e.symm; omega) hb70
      have N2 : News (hideAll s.heap [x, dx, 70]) L' s'.heap [(x, accObj dx (refsOf RT) c), (dx, sizeD w e0 (.int k tk))] := by
        intro p hp'
        rcases List.mem_cons.mp hp' with rfl | hp'
        · exact ⟨G.keep _ _ (by omega) (N' _ (.head _)).1, (N' _ (.head _)).2⟩
        rcases List.mem_cons.mp hp' with rfl | hp'
        · exact ⟨G.keep _ _ (by omega) (N' _ (.tail _ (.head _))).1, (N' _ (.tail _ (.head _))).2⟩
        · cases hp'
      clear N' F'
      walk1
      walk1
      walk1
      walk1
      walk1
      obtain ⟨⟨fp, wr, St, W, hst, hty, hafp, hfp, hwr⟩, ⟨gs, hgb, hgens⟩, hos, hdr, hkeep, htab, hsize⟩ := G
      have W1 := W.in4_1
      have hst1 := W1.frame 0 s' s'.heap (s'.toks + 1) hst (Nat.le_succ _) (fun _ _ _ e => e)
      refine call_sum_start (W1.self 0 _ _ _ hst1 ⟨_, _, _, _, _, _, _, (fun j => (fun T => ((pa T).length : Int) + (pb T).length) (RT.getD j 0)), rfl, W1, hst1, hfp, fun j v hv => hv, fun s'' t'' hm => ?_⟩)
      dsimp only
      have hup : UpP 70 s s'' := by
        refine ⟨fun b o hb e => hm.heap b o (fun hw => ?_) (hkeep b o hb (hk b o e)), ?_, hm.os.trans hos, hm.drawn.trans hdr⟩
        · have h1 : h₁.objs.size ≤ b := hwr b hw
          have h2 : b < h₁.objs.size := Heap.lt_size (hk b o e)
          exact absurd h2 (Nat.not_lt.mpr h1)
        · have hg := hm.gens
          rw [hgens] at hg
          exact GensUp.only hgb hg
      have htab' : Tab s''.heap 74 70 := by
        refine htab.at fun b o e hb => hm.heap b o (fun hw => ?_) e
        have h1 : h₁.objs.size ≤ b := hwr b hw
        have h2 : 74 < h₁.objs.size := (ht.keeps hk).ltc
        have h3 : 70 < h₁.objs.size := (ht.keeps hk).lt
        rcases hb with rfl | rfl <;> omega
      have hfin := hR s'' t'' hup htab'
      rw [preSum_list (fun T => ((pa T).length : Int) + (pb T).length) RT _ (Nat.le_of_eq hsz), hsz, List.take_length]
      exact hfin
end
end -- A21
example : True := by w_top off; trivial
section -- A22
section
variable {w : World} {s : Shared} {R : Result → Shared → Prop} {dp un : Nat} {gd : Option (List Code)} {es : List Env} {p : Program} {loose : List Str} {mg mb : Str → Option Value} {mean : ExcName → Option Value}

theorem acc_str {x dx : Nat} {RT : List Nat} {pa pb : Nat → Str} {c : Nat} {k : Int} {e0 tk : Tok} (hdp : dp + 3 < recursionLimit)
    (X : (hd.heap_1 w.params).In (hideAll s.heap [x, dx, 77])) (T : Top p loose mean mg mb (hideAll s.heap [x, dx, 77]))
    (hx : s.heap.get? x = some (accObj dx (refsOf RT) c)) (hdx : s.heap.get? dx = some (sizeD w e0 (.int k tk))) (ht : Tab s.heap 81 77) (hP : Pairs s.heap RT pa pb) (hR77 : ∀ T ∈ RT, T ≠ 77) (hne : dx < x) (hp : 77 < dx)
    (hfa : ∀ T ∈ RT, (pa T).length < 1000) (hfb : ∀ T ∈ RT, (pb T).length < 1000) (hfn : RT.length ≤ 1000)
    (hR : ∀ s' t', UpP 77 s s' → Tab s'.heap 81 77 → R (.ok (.ret (.str (Txt.join "" (RT.map fun T => Txt.join "" [pa T, pb T])) t'))) s') :
    codeAny (model PG w) (AA dp un gd es) (.call (.ref 82) ⟨[.ref x], []⟩) R s := by
  obtain ⟨tb, htb⟩ := ht.obj
  have st : ∀ b o, (hideAll s.heap [x, dx, 77]).get? b = some o → s.heap.get? b = some o := fun b o e => of_hideAll _ e
  have st2 : ∀ b o, b ≠ x → b ≠ dx → b ≠ 77 → s.heap.get? b = some o → (hideAll s.heap [x, dx, 77]).get? b = some o := fun b o h1 h2 h3 e => hideAll_get _ e (by simp [h1, h2, h3])
  refine' enterS (binds := [("self", .ref x)]) [(x, accObj dx (refsOf RT) c), (dx, sizeD w e0 (.int k tk)), (77, ⟨.none, none, .fields tb, #[]⟩)] (X.keeps st) (T.nolimit.keeps st) ?ho ?hcd ?hroom ?hbind ?hloc ?hn ?h ?hcell ?hco ?hgen ?hk
  case ho => k_is
  case hcd => k_is
  case hroom => show dp < _; omega
  case hbind => exact BindsTo.of_eq rfl
  case hloc => exact locs rfl
  case hcell => decide
  case hco => exact rfl
  case hgen => exact rfl
  case hk => exact rfl
  case hn => intro p hp; rcases List.mem_cons.mp hp with rfl | hp; exact hx; rcases List.mem_cons.mp hp with rfl | hp; exact hdx; rcases List.mem_cons.mp hp with rfl | hp; exact htb; cases hp
  case h =>
    intro L' h₁ hk hL F' N'
    dsimp only [List.map] at F' N'
    refine ks_wpAt_execs_cons ?_
    refine wpAt_of_wpAny ?_
    walk1
    walk1
    walk1
    walk1
    walk1
    walk1
    obtain ⟨bm, ob, e1, e2, e3, e4, e5, e6⟩ := T.bmain
    have hsz : (refsOf RT).size = RT.length := by simp
    refine ring_gen (c := 81) (P := 77) (x := x) (dx := dx) (bm := bm) (xs := refsOf RT) (cp := c) (Ts := fun j => RT.getD j 0) (vals := fun j => tupVals h₁ (RT.getD j 0)) (mg := mg) (ob := ob)
      (F := fun j y => ∃ t, y = .str (Txt.join "" [pa (RT.getD j 0), pb (RT.getD j 0)]) t)
      ?hh rfl rfl (by decide) (by decide) (by decide) (by decide) (by decide) rfl ?hroom (fun _ => rfl) rfl ?hT (X.keeps F'.keep) (T.nolimit.keeps F'.keep) (by decide) ?M ?hi ?hx ?hPx ?hit ?hTs ?hTP ?hv2 ?helt ?hQ
    case hh => rfl
    case hroom => show dp + _ < _; have : (Code.func [] (envX "_Accumulator.__str__" default L' 82 (Value.ref 81) [])).weight ≤ 1 := Nat.le_refl _; exact Nat.lt_of_le_of_lt (Nat.add_le_add_left this dp) (by omega)
    case hT => exact ht.keeps hk
    case M => exact (BMod.mk (T.g) e1 e2 e3 e4 e5 e6 : BMod (hideAll s.heap [x, dx, 77]) mainGlobals mg bm ob).keeps F'.keep
    case hi => exact ld F' rfl ⟨rfl, rfl⟩
    case hx => exact hk _ _ hx
    case hPx => omega
    case hit => intro j hj; rw [hsz] at hj; simp [refsOf, List.getD_eq_getElem?_getD, hj]
    case hTs =>
      intro j hj; rw [hsz] at hj
      obtain ⟨ea, eb, e⟩ := hP (RT.getD j 0) (by simp [List.getD_eq_getElem?_getD, hj])
      have e' : h₁.IsTuple (RT.getD j 0) _ := e.at fun o e => hk _ o e
      rw [tupVals_of e']; exact e'
    case hTP => intro j hj; rw [hsz] at hj; exact hR77 _ (by simp [List.getD_eq_getElem?_getD, hj])
    case hv2 =>
      intro j hj; rw [hsz] at hj
      obtain ⟨ea, eb, e⟩ := hP (RT.getD j 0) (by simp [List.getD_eq_getElem?_getD, hj])
      exact ⟨_, _, tupVals_of (e.at fun o e => hk _ o e)⟩
    case helt =>
      intro code C A' E' i va vb s₂ m₂ hA hi hv hn ha hb hkp hC
      rw [hsz] at hi
      have hm : RT.getD i 0 ∈ RT := by simp [List.getD_eq_getElem?_getD, hi]
      obtain ⟨ea, eb, e⟩ := hP (RT.getD i 0) hm
      rw [tupVals_of (e.at fun o e => hk _ o e)] at hv
      have hva : Value.str (pa (RT.getD i 0)) ea = va := by injection hv with hv; injection hv
      have hvb : Value.str (pb (RT.getD i 0)) eb = vb := by injection hv with hv; injection hv with _ hv; injection hv
      subst hva hvb
      have FC : Fr (hideAll s.heap [x, dx, 77]) C s₂.heap m₂ := ⟨hn, fun b o e => hkp b o (by rintro rfl; rw [hideAll_none _ (by simp)] at e; cases e) (F'.keep b o e), Nat.le_of_lt (Nat.lt_of_le_of_lt F'.above (Nat.lt_trans F'.ns.lt hC))⟩
      walk1
      refine nmG FC X T (by k_is) ?_ rfl rfl rfl
      walk1
      walk1
      refine spliced_cons ?_
      refine Tuple_ (k := 0) ?_
      refine spliced_cons ?_
      refine ldG hn ha ?_
      refine spliced_cons ?_
      refine ldG hn hb ?_
      refine args_nil ?_
      refine wpAny_newObj_type ?_
      refine args_nil ?_
      show wpAny _ _ (call (Value.builtin "str.join") [Value.str "" _, Value.ref _]) _ _ _
      refine join_tuple (ys := [pa (RT.getD i 0), pb (RT.getD i 0)]) ⟨_, Heap.get?_push_size _ rfl, rfl, _, rfl⟩ (.cons _ _ (.cons _ _ .nil)) ?_ fun t' k => ?_
      · have := hfa _ hm; have := hfb _ hm; show ((pa (RT.getD i 0)).length + ((pb (RT.getD i 0)).length + 0)) + 2 * 0 ≤ _; omega
      exact ⟨⟨_, rfl⟩, _, _, rfl, fun _ _ e => Heap.get?_push_of_some _ e⟩
    case hQ => 
      intro a s' G
      have hb77 : (hideAll s.heap [x, dx, 77]).get? 77 = none := hideAll_none _ (by simp)
      have F2 := frBut F' G.keep (by have h2 : 77 < s.heap.objs.size := Heap.lt_size htb; rw [hL]; intro e; have h3 : s.heap.objs.size = 77 := e.symm; omega) hb77
      have N2 : News (hideAll s.heap [x, dx, 77]) L' s'.heap [(x, accObj dx (refsOf RT) c), (dx, sizeD w e0 (.int k tk))] := by
        intro p hp'
        rcases List.mem_cons.mp hp' with rfl | hp'
        · exact ⟨G.keep _ _ (by omega) (N' _ (.head _)).1, (N' _ (.head _)).2⟩
        rcases List.mem_cons.mp hp' with rfl | hp'
        · exact ⟨G.keep _ _ (by omega) (N' _ (.tail _ (.head _))).1, (N' _ (.tail _ (.head _))).2⟩
        · cases hp'
      clear N' F'
      walk1
      obtain ⟨⟨fp, wr, St, W, hst, hty, hafp, hfp, hwr⟩, ⟨gs, hgb, hgens⟩, hos, hdr, hkeep, htab, hsize⟩ := G
      have W1 := W.in4_2
      show wpAny _ _ (call (Value.builtin "str.join") [Value.str "" _, Value.ref a]) _ _ _
      refine SC.joinGen W1 hty hst hfp hafp (fun j v hv => let ⟨u, e⟩ := hv; ⟨_, u, e⟩) (fun s'' lt hm hacc => ?_) (by rw [hsz]; exact Nat.le_trans hfn (by decide))
      have hl : lt.map (·.1) = RT.map fun T => Txt.join "" [pa T, pb T] := by
        apply List.ext_getElem?
        intro j
        have hsz' : lt.length = RT.length := by rw [← hsz]; simpa [strValues] using hacc.1
        by_cases hj : j < RT.length
        · have hj' : j < lt.length := hsz' ▸ hj
          obtain ⟨u, hv⟩ := hacc.2 j (.str lt[j].1 lt[j].2) (by simp [strValues, List.getElem?_eq_getElem hj'])
          injection hv with h1 _
          simp [List.getElem?_eq_getElem hj', List.getElem?_eq_getElem hj, List.getD_eq_getElem?_getD, h1]
        · rw [List.getElem?_eq_none (by simpa [hsz'] using Nat.le_of_not_lt hj), List.getElem?_eq_none (by simpa using Nat.le_of_not_lt hj)]
      rw [hl]
      have hup : UpP 77 s s'' := by
        refine ⟨fun b o hb e => hm.heap b o (fun hw => ?_) (hkeep b o hb (hk b o e)), ?_, hm.os.trans hos, hm.drawn.trans hdr⟩
        · have h1 : h₁.objs.size ≤ b := hwr b hw
          have h2 : b < h₁.objs.size := Heap.lt_size (hk b o e)
          exact absurd h2 (Nat.not_lt.mpr h1)
        · have hg := hm.gens
          rw [hgens] at hg
          exact GensUp.only hgb hg
      have htab' : Tab s''.heap 81 77 := by
        refine htab.at fun b o e hb => hm.heap b o (fun hw => ?_) e
        have h1 : h₁.objs.size ≤ b := hwr b hw
        have h2 : 81 < h₁.objs.size := (ht.keeps hk).ltc
        have h3 : 77 < h₁.objs.size := (ht.keeps hk).lt
        rcases hb with rfl | rfl <;> omega
      refine ⟨joinOk_of ?_, fun t' k => hR { s'' with toks := k } t' ⟨hup.keep, hup.gens, hup.os, hup.drawn⟩ htab'⟩
      have hb : ∀ R : List Nat, (∀ T ∈ R, (pa T).length < 1000) → (∀ T ∈ R, (pb T).length < 1000) → ((R.map fun T => Txt.join "" [pa T, pb T]).map (·.length)).sum ≤ R.length * 2000 := by
        intro R
        induction R with
        | nil => intros; simp
        | cons T R ih =>
          intro h1 h2
          have e1 := h1 T (.head _)
          have e2 := h2 T (.head _)
          have e3 := ih (fun T h => h1 T (.tail _ h)) fun T h => h2 T (.tail _ h)
          have e4 : (Txt.join "" [pa T, pb T]).length ≤ _ := StrLaws.join_length_le "" [pa T, pb T]
          have e5 : ([pa T, pb T].map (·.length)).sum + [pa T, pb T].length * (Str.ofString "").length = (pa T).length + (pb T).length := by simp; rfl
          rw [e5] at e4
          simp only [List.map_cons, List.sum_cons, List.length_cons]
          omega
      have := hb RT hfa hfb
      simp only [List.length_map]
      show _ + RT.length * 0 ≤ _
      omega
end
end -- A22
example : True := by w_top off; trivial
section -- A28
/-- the ring: an object whose list holds tuples of two texts -/
structure RingAt (w : World) (base h : Heap) (x dx : Nat) (RT : List Nat) (pa pb : Nat → Str) (k : Int) : Prop where
  obj : ∃ c, h.get? x = some (accObj dx (refsOf RT) c)
  dct : ∃ e tk, h.get? dx = some (sizeD w e (.int k tk))
  t70 : Tab h 74 70
  t77 : Tab h 81 77
  prs : Pairs h RT pa pb
  bx : base.get? x = none
  bdx : base.get? dx = none
  b70 : base.get? 70 = none
  b77 : base.get? 77 = none
  ne : dx < x
  low : 170 < dx
  lowT : ∀ T ∈ RT, x < T
  sa : ∀ T ∈ RT, (pa T).length < 1000
  sb : ∀ T ∈ RT, (pb T).length < 1000
  sn : RT.length ≤ 1000
section
variable {w : World} {base h h' : Heap} {x dx : Nat} {RT : List Nat} {pa pb : Nat → Str} {k : Int}
theorem RingAt.upP70 (G : RingAt w base h x dx RT pa pb k) (hk : ∀ (b : Nat) (o : Obj), b ≠ 70 → h.get? b = some o → h'.get? b = some o) (ht : Tab h' 74 70) : RingAt w base h' x dx RT pa pb k := by
  obtain ⟨⟨c, ho⟩, ⟨e, tk, hd⟩, t70, t77, prs, bx, bdx, b70, b77, ne, low, lowT, sa, sb, sn⟩ := G
  exact ⟨⟨c, hk _ _ (by omega) ho⟩, ⟨e, tk, hk _ _ (by omega) hd⟩, ht, t77.at fun b o e hb => hk b o (by rcases hb with rfl | rfl <;> decide) e, prs.keeps fun T hT o e => hk T o (by have := lowT T hT; omega) e, bx, bdx, b70, b77, ne, low, lowT, sa, sb, sn⟩
theorem RingAt.upP77 (G : RingAt w base h x dx RT pa pb k) (hk : ∀ (b : Nat) (o : Obj), b ≠ 77 → h.get? b = some o → h'.get? b = some o) (ht : Tab h' 81 77) : RingAt w base h' x dx RT pa pb k := by
  obtain ⟨⟨c, ho⟩, ⟨e, tk, hd⟩, t70, t77, prs, bx, bdx, b70, b77, ne, low, lowT, sa, sb, sn⟩ := G
  exact ⟨⟨c, hk _ _ (by omega) ho⟩, ⟨e, tk, hk _ _ (by omega) hd⟩, t70.at fun b o e hb => hk b o (by rcases hb with rfl | rfl <;> decide) e, ht, prs.keeps fun T hT o e => hk T o (by have := lowT T hT; omega) e, bx, bdx, b70, b77, ne, low, lowT, sa, sb, sn⟩
theorem RingAt.keeps (G : RingAt w base h x dx RT pa pb k) (hk : ∀ b o, h.get? b = some o → h'.get? b = some o) : RingAt w base h' x dx RT pa pb k := by
  obtain ⟨⟨c, ho⟩, ⟨e, tk, hd⟩, t70, t77, prs, bx, bdx, b70, b77, ne, low, lowT, sa, sb, sn⟩ := G
  exact ⟨⟨c, hk _ _ ho⟩, ⟨e, tk, hk _ _ hd⟩, t70.keeps hk, t77.keeps hk, prs.keeps fun T hT o e => hk T o e, bx, bdx, b70, b77, ne, low, lowT, sa, sb, sn⟩
/-- the ground under the ring: what the base keeps is there with the ring hidden -/
theorem RingAt.under (G : RingAt w base h x dx RT pa pb k) (hk : ∀ b o, base.get? b = some o → h.get? b = some o) {S : List Nat} (hS : ∀ b ∈ S, b = x ∨ b = dx ∨ b = 70 ∨ b = 77) : ∀ b o, base.get? b = some o → (hideAll h S).get? b = some o := fun b o e =>
  hideAll_get _ (hk b o e) fun hm => by
    rcases hS b hm with rfl | rfl | rfl | rfl
    · rw [G.bx] at e; cases e
    · rw [G.bdx] at e; cases e
    · rw [G.b70] at e; cases e
    · rw [G.b77] at e; cases e
end
noncomputable abbrev lenSum (RT : List Nat) (pa pb : Nat → Str) : Int := (RT.map fun T => ((pa T).length + (pb T).length : Int)).sum
theorem lenSum_bound (RT : List Nat) (pa pb : Nat → Str) : (∀ T ∈ RT, (pa T).length < 1000) → (∀ T ∈ RT, (pb T).length < 1000) → 0 ≤ lenSum RT pa pb ∧ lenSum RT pa pb ≤ RT.length * 2000 := by
  induction RT with
  | nil => intros; exact ⟨Int.le_refl _, Int.le_refl _⟩
  | cons T R ih =>
    intro h1 h2
    have e1 := h1 T (.head _)
    have e2 := h2 T (.head _)
    have e3 := ih (fun T h => h1 T (.tail _ h)) fun T h => h2 T (.tail _ h)
    simp only [lenSum, List.map_cons, List.sum_cons, List.length_cons] at e3 ⊢
    omega
section
variable {w : World} {s : Shared} {dp un : Nat} {gd : Option (List Code)} {es : List Env} {p : Program} {loose : List Str} {mg mb : Str → Option Value} {mean : ExcName → Option Value} {base : Heap} {L : Nat} {m : Str → Option Value} {Q : Value → Shared → Prop} {E : Value → Shared → Prop}
  {x dx : Nat} {RT : List Nat} {pa pb : Nat → Str} {k : Int}
theorem RingAt.inst {h : Heap} (G : RingAt w base h x dx RT pa pb k) : ∃ ox od, InstAt h x ox 108 od := by
  obtain ⟨c, ho⟩ := G.obj
  obtain ⟨e, tk, hd⟩ := G.dct
  exact ⟨_, some _, ⟨ho, rfl, rfl, hd⟩⟩

theorem ring_len (hdp : dp + 3 < recursionLimit) (F : Fr base L s.heap m) (X : (hd.heap_1 w.params).In base) (T : Top p loose mean mg mb base) (G : RingAt w base s.heap x dx RT pa pb k) (hk0 : 0 ≤ k) (hk1 : k < 1000000)
    (hq : ∀ s' t, UpP 70 s s' → RingAt w base s'.heap x dx RT pa pb k → Q (.int (k + lenSum RT pa pb) t) s') : wpAny (model PG w) (AA dp un gd es) (call (.builtin "len") [.ref x]) Q E s := by
  obtain ⟨ox, od, I⟩ := G.inst
  refine len_K F X I (by k_is) (by k_is) ?_
  obtain ⟨c, ho⟩ := G.obj
  obtain ⟨e, tk, hd⟩ := G.dct
  have hu := G.under F.keep (S := [x, dx, 70]) (by simp)
  refine wpAny_call (acc_len (p := p) (loose := loose) (mean := mean) (mg := mg) (mb := mb) hdp (X.keeps hu) (T.keeps hu) ho hd G.t70 G.prs (fun T hT => by have := G.lowT T hT; have := G.low; have := G.ne; omega) G.ne (by have := G.low; omega) (fun T hT => Nat.lt_trans (G.sa T hT) (by decide)) (fun T hT => Nat.lt_trans (G.sb T hT) (by decide)) fun s' t' hup htab => ?_)
  have hb := lenSum_bound RT pa pb G.sa G.sb
  have hn := G.sn
  simp only [lenSum] at hb
  refine ⟨⟨by omega, by omega⟩, ?_⟩
  exact hq _ _ ⟨hup.keep, hup.gens, hup.os, hup.drawn⟩ (G.upP70 hup.keep htab)

theorem ring_str (hdp : dp + 3 < recursionLimit) (hun : un + 2 < cLine) (F : Fr base L s.heap m) (X : (hd.heap_1 w.params).In base) (T : Top p loose mean mg mb base) (G : RingAt w base s.heap x dx RT pa pb k)
    (hq : ∀ s' t, UpP 77 s s' → RingAt w base s'.heap x dx RT pa pb k → Q (.str (Txt.join "" (RT.map fun T => Txt.join "" [pa T, pb T])) t) s') : wpAny (model PG w) (AA dp un gd es) (call (.type "str") [.ref x]) Q E s := by
  obtain ⟨ox, od, I⟩ := G.inst
  refine kso_call (show un + 1 + 1 < cLine from hun) (X.keeps F.keep) I (by k_is) (by k_is) ?_
  obtain ⟨c, ho⟩ := G.obj
  obtain ⟨e, tk, hd⟩ := G.dct
  have hu := G.under F.keep (S := [x, dx, 77]) (by simp)
  refine wpAny_call (acc_str (p := p) (loose := loose) (mean := mean) (mg := mg) (mb := mb) (dp := dp) (un := un + 1 + 1) (gd := gd) (es := es) hdp (X.keeps hu) (T.keeps hu) ho hd G.t77 G.prs (fun T hT => by have := G.lowT T hT; have := G.low; have := G.ne; omega) G.ne (by have := G.low; omega) G.sa G.sb G.sn fun s' t' hup htab => ?_)
  exact hq _ _ hup (G.upP77 hup.keep htab)
end
end -- A28
example : True := by w_top off; trivial
section -- A29
theorem RingAt.rebase {w : World} {base h h' : Heap} {x dx : Nat} {RT : List Nat} {pa pb : Nat → Str} {k : Int} (G : RingAt w base h x dx RT pa pb k) (hk : ∀ b o, h.get? b = some o → h'.get? b = some o) : RingAt w (hideAll h [x, dx, 70, 77]) h' x dx RT pa pb k := by
  obtain ⟨ho, hd, t70, t77, prs, bx, bdx, b70, b77, ne, low, lowT, sa, sb, sn⟩ := G.keeps hk
  exact ⟨ho, hd, t70, t77, prs, hideAll_none _ (by simp), hideAll_none _ (by simp), hideAll_none _ (by simp), hideAll_none _ (by simp), ne, low, lowT, sa, sb, sn⟩
section
variable {w : World} {s : Shared} {R : Result → Shared → Prop} {dp un : Nat} {gd : Option (List Code)} {es : List Env} {p : Program} {loose : List Str} {mg mb : Str → Option Value} {mean : ExcName → Option Value} {base : Heap}
  {x dx : Nat} {RT : List Nat} {pa pb : Nat → Str} {k : Int}

theorem safe_ring {W : Str} {tw : Tok} (hdp : dp + 4 < recursionLimit) (hun : un + 12 < cLine) (hkb : ∀ b o, base.get? b = some o → s.heap.get? b = some o)
    (X : (hd.heap_1 w.params).In base) (T : Top p loose mean mg mb base) (G : RingAt w base s.heap x dx RT pa pb k)
    (hR : ∀ s' t, UpP 77 s s' → RingAt w base s'.heap x dx RT pa pb k → R (.ok (.ret (.str (Txt.join "" (RT.map fun T => Txt.join "" [pa T, pb T])) t))) s') :
    codeAny (model PG w) (AA dp un gd es) (.call (.ref 29) ⟨[.ref x, .str W tw], []⟩) R s := by
  obtain ⟨c, hx⟩ := G.obj
  obtain ⟨e0, tk, hdx⟩ := G.dct
  obtain ⟨tb, htb⟩ := G.t70.obj
  obtain ⟨tc, htc⟩ := G.t77.obj
  have X' : (hd.heap_1 w.params).In (hideAll s.heap [x, dx, 70, 77]) := X.keeps (G.under hkb (by simp))
  have T' : Top p loose mean mg mb (hideAll s.heap [x, dx, 70, 77]) := T.keeps (G.under hkb (by simp))
  have st : ∀ b o, (hideAll s.heap [x, dx, 70, 77]).get? b = some o → s.heap.get? b = some o := fun b o e => of_hideAll _ e
  refine' enterS (binds := [("value", .ref x), ("what", .str W tw), ("func", .type "str")]) [(x, accObj dx (refsOf RT) c), (dx, sizeD w e0 (.int k tk)), (70, ⟨.none, none, .fields tb, #[]⟩), (77, ⟨.none, none, .fields tc, #[]⟩)] (X'.keeps st) (T'.nolimit.keeps st) ?ho ?hcd ?hroom ?hbind ?hloc ?hn ?h ?hcell ?hco ?hgen ?hk
  case ho => k_is
  case hcd => k_is
  case hroom => show dp < _; omega
  case hbind => exact binds_K (X'.keeps st) rfl (by k_is) rfl rfl rfl
  case hloc => exact locs rfl
  case hcell => decide
  case hco => exact rfl
  case hgen => exact rfl
  case hk => exact rfl
  case hn => intro p hp; rcases List.mem_cons.mp hp with rfl | hp; exact hx; rcases List.mem_cons.mp hp with rfl | hp; exact hdx; rcases List.mem_cons.mp hp with rfl | hp; exact htb; rcases List.mem_cons.mp hp with rfl | hp; exact htc; cases hp
  case h =>
    intro L' h₁ hk hL F' N'
    dsimp only [List.map] at F' N'
    have G' := G.rebase hk
    refine ks_wpAt_execs_cons ?_
    refine wpAt_of_wpAny ?_
    refine wpAny_Try_except ?_
    walk1
    walk1
    walk1
    walk1
    walk1
    walk1
    walk1
    walk1
    walk1
    refine ring_str (p := p) (loose := loose) (mean := mean) (mg := mg) (mb := mb) (s := ⟨h₁, s.gens, s.drawn, _, s.os⟩) ?_ ?_ F' X' T' G' fun s' t hup G2 => ?_
    · show dp + 1 + 3 < _; omega
    · show un + 3 + 2 < _; omega
    refine hR s' t ⟨fun b o hb e => hup.keep b o hb (hk b o e), hup.gens, hup.os, hup.drawn⟩ ?_
    obtain ⟨ho, hd, t70, t77, prs, _, _, _, _, ne, low, lowT, sa, sb, sn⟩ := G2
    exact ⟨ho, hd, t70, t77, prs, G.bx, G.bdx, G.b70, G.b77, ne, low, lowT, sa, sb, sn⟩
end
end -- A29
example : True := by w_top off; trivial
section -- A31
section
variable {w : World} {s : Shared} {R : Result → Shared → Prop} {dp un : Nat} {gd : Option (List Code)} {es : List Env} {p : Program} {loose : List Str} {mg mb : Str → Option Value} {mean : ExcName → Option Value}

theorem p257 {rp : Str} {tr : Tok} (hrl : rp.length ≤ 100) (h5r : 5 ≤ rp.length) (h3 : (Txt.slice rp none (some 3) != "257") = false) (hdp : dp + 4 < recursionLimit)
    (X : (hd.heap_1 w.params).In s.heap) (T : Top p loose mean mg mb s.heap)
    (hR : ∀ h' t' (v : Str) t, (∀ b o, s.heap.get? b = some o → h'.get? b = some o) → v.cps.toList = (if (Txt.slice rp (some 3) (some 5) != " \"") = true then [] else unq (rp.cps.toList.drop 5)) → v.length ≤ rp.length → R (.ok (.ret (.str v t))) { s with heap := h', toks := t' }) :
    codeAny (model PG w) (AA dp un gd es) (.call (.ref 144) ⟨[.str rp tr], []⟩) R s := by
  refine' enterS (binds := [("resp", .str rp tr)]) [] X T.nolimit ?ho ?hcd ?hroom ?hbind ?hloc ?hn ?h ?hcell ?hco ?hgen ?hk
  case ho => k_is
  case hcd => k_is
  case hroom => show dp < _; omega
  case hbind => exact BindsTo.of_eq rfl
  case hloc => exact locs rfl
  case hcell => decide
  case hco => exact rfl
  case hgen => exact rfl
  case hk => exact rfl
  case hn => intro p hp; cases hp
  case h =>
    intro L' h₁ hk hL F' N'
    dsimp only [List.map, hideAll] at F' N'
    refine ks_wpAt_execs_cons ?_
    refine wpAt_of_wpAny ?_
    iterate 14 walk1
    refine wpAny_pure ?_
    show _root_.PySem.wpAt _ _ _ _ _ _ _
    refine ks_wpAt_execs_cons ?_
    refine wpAt_of_wpAny ?_
    iterate 15 walk1
    · iterate 4 walk1
      rename_i F5 N5 hl5 hq5
      refine hR _ _ "" _ F5.keep ?_ (Nat.zero_le _)
      rw [if_pos hq5]; rfl
    · refine wpAny_pure ?_
      show _root_.PySem.wpAt _ _ _ _ _ _ _
      refine ks_wpAt_execs_cons ?_
      refine wpAt_of_wpAny ?_
      iterate 3 walk1
      show _root_.PySem.wpAt _ _ _ _ _ _ _
      refine ks_wpAt_execs_cons ?_
      refine wpAt_of_wpAny ?_
      iterate 3 walk1
      show _root_.PySem.wpAt _ _ _ _ _ _ _
      refine ks_wpAt_execs_cons ?_
      refine wpAt_of_wpAny ?_
      iterate 9 walk1
      show _root_.PySem.wpAt _ _ _ _ _ _ _
      refine ks_wpAt_execs_cons ?_
      refine wpAt_of_wpAny ?_
      refine wpAny_While ?_
      rename_i F5 N5
      have hq5 : (Txt.slice rp (some 3) (some 5) != " \"") = false := by assumption
      refine whileAgain (PI s L' rp tr) (fun n s₁ hI => ?_) (rp.length - 5) ?_
      · obtain ⟨i, ti, tn, d, td, c, hn, hi, hi5, hu, hdl, F, hg, hdr, hos⟩ := hI
        obtain ⟨h, g, dr, t, os⟩ := s₁
        dsimp only at F hg hdr hos
        subst hg hdr hos
        clear F5 N5
        iterate 5 walk1
        by_cases hin : (i : Int) < rp.length
        · rw [if_pos (decide_eq_true hin)]
          have hin' : i < rp.length := by omega
          obtain ⟨ch, hit, hdrop⟩ := item_at hin'
          rw [hdrop] at hu
          iterate 24 walk1
          · iterate 60 (all_goals (try walk1))
            all_goals dsimp only
            · have hq : (Txt.item rp ↑i == "\"") = true := by assumption
              have hle : (rp.length : Int) ≤ i + 1 := by assumption
              rw [hit, str1_eq, decide_eq_true_eq] at hq
              refine hR _ _ d _ (Fr.keep (by assumption)) ?_ (by omega)
              rw [hq5, if_neg (by decide), ← hu, hq, List.drop_of_length_le (by simp only [Array.length_toList]; show rp.length ≤ _; omega)]
              simp [unq]
            · have hq : (Txt.item rp ↑i == "\"") = true := by assumption
              have hle : ¬ (rp.length : Int) ≤ i + 1 := by assumption
              have hq2 : (Txt.item rp (↑i + 1) != "\"") = true := by assumption
              rw [hit, str1_eq, decide_eq_true_eq] at hq
              obtain ⟨ch2, hit2, hdrop2⟩ := item_at (show i + 1 < rp.length by omega)
              rw [show ((i : Int) + 1) = ((i + 1 : Nat) : Int) by omega, hit2, bne, str1_eq] at hq2
              refine hR _ _ d _ (Fr.keep (by assumption)) ?_ (by omega)
              rw [hq5, if_neg (by decide), ← hu, hq, hdrop2, unq_stop1 _ fun d r' e => by cases e; simpa using hq2]
              simp
            · have hq : (Txt.item rp ↑i == "\"") = true := by assumption
              have hle : ¬ (rp.length : Int) ≤ i + 1 := by assumption
              have hq2 : (Txt.item rp (↑i + 1) != "\"") = false := by assumption
              have hit0 := hit
              rw [hit, str1_eq, decide_eq_true_eq] at hq
              obtain ⟨ch2, hit2, hdrop2⟩ := item_at (show i + 1 < rp.length by omega)
              rw [show ((i : Int) + 1) = ((i + 1 : Nat) : Int) by omega, hit2, bne, str1_eq] at hq2
              have hq3 : ch2 = 34 := by simpa using hq2
              refine PI_again (i := i + 2) (d := d ++ Txt.item rp i) (tn := tn) (by assumption) ?hj (by omega) (by omega) (by omega) ?hu ?hd rfl rfl rfl rfl rfl rfl fun y a1 a2 a3 => ?hy
              case hj => omega
              case hu => rw [← hu, hq, hdrop2, hq3, unq_two, hit, hq, app_cps, List.append_assoc]; rfl
              case hd => have := app_len d (Txt.item rp i); rw [hit] at this ⊢; have hl1 : (⟨#[ch]⟩ : Str).length = 1 := rfl; omega
              case hy => simp only [a1, a2, a3, if_false, pM]
          · iterate 30 (all_goals (try walk1))
            all_goals dsimp only
            · have hq : (Txt.item rp ↑i == "\"") = false := by assumption
              rw [hit, str1_eq, decide_eq_false_iff_not] at hq
              refine PI_again (i := i + 1) (d := d ++ Txt.item rp i) (tn := tn) (by assumption) ?hj (by omega) (by omega) (by omega) ?hu ?hd rfl rfl rfl rfl rfl rfl fun y a1 a2 a3 => ?hy
              case hj => omega
              case hu => rw [← hu, unq_other _ _ hq, hit, app_cps, List.append_assoc]; rfl
              case hd => have := app_len d (Txt.item rp i); rw [hit] at this ⊢; have hl1 : (⟨#[ch]⟩ : Str).length = 1 := rfl; omega
              case hy => simp only [a1, a2, a3, if_false, pM]
        · rw [if_neg (by simpa using hin)]
          iterate 12 (all_goals (try walk1))
          dsimp only
          refine hR _ _ d _ F.keep ?_ (by omega)
          rw [hq5, if_neg (by decide), ← hu, List.drop_of_length_le (by simp only [Array.length_toList]; show rp.length ≤ _; omega)]
          simp [unq]
      · exact PI_start (i := 5) (d := "") F5 rfl h5r (Nat.le_refl _) (by rfl) (Nat.zero_le _) rfl rfl rfl rfl rfl rfl fun y a1 a2 a3 => by
          by_cases a4 : y = "n"
          · subst a4; rfl
          · by_cases a5 : y = "resp"
            · subst a5; rfl
            · have : (y == ("resp" : Str)) = false := by simpa using a5
              simp [a2, a3, a4, a5, List.lookup, this]
end
end -- A31
example : True := by w_top off; trivial
section -- A32
section
variable {w : World} {s : Shared} {R : Result → Shared → Prop} {dp un : Nat} {gd : Option (List Code)} {es : List Env} {p : Program} {loose : List Str} {mg mb : Str → Option Value} {mean : ExcName → Option Value} {B : Heap}

theorem p257_bad {rp : Str} {tr : Tok} (hrl : rp.length ≤ 100) (h3 : (Txt.slice rp none (some 3) != "257") = true) (hdp : dp + 4 < recursionLimit)
    (X : (hd.heap_1 w.params).In B) (T : Top p loose mean mg mb B) (hB : B.StaysIn s.heap) (hBz : B.objs.size ≤ s.heap.objs.size) (hff : s.heap.FunFrames B es)
    (hR : ∀ e t vs h' t', Heap.FlyingW B es e (.ref 135) (.ref t) h' → h'.TupAt t vs → B.get? t = none → s.heap.UpToSlots h' → R (.error (.ref e)) { s with heap := h', toks := t' }) :
    codeAny (model PG w) (AA dp un gd es) (.call (.ref 144) ⟨[.str rp tr], []⟩) R s := by
  refine' enterS (binds := [("resp", .str rp tr)]) [] (X.keeps hB) (T.nolimit.keeps hB) ?ho ?hcd ?hroom ?hbind ?hloc ?hn ?h ?hcell ?hco ?hgen ?hk
  case ho => k_is
  case hcd => k_is
  case hroom => show dp < _; omega
  case hbind => exact BindsTo.of_eq rfl
  case hloc => exact locs rfl
  case hcell => decide
  case hco => exact rfl
  case hgen => exact rfl
  case hk => exact rfl
  case hn => intro p hp; cases hp
  case h =>
    intro L' h₁ hk hL F0 N0
    dsimp only [List.map, hideAll] at F0 N0
    have X' := X.keeps hB
    have T' := T.keeps hB
    clear hk
    refine ks_wpAt_execs_cons ?_
    refine wpAt_of_wpAny ?_
    iterate 17 walk1
    iterate 3 walk1
    rename_i hz _ _ Fw _ _
    refine ⟨by size_fits, Fw.keep, fun h₅ e hmade => ?_⟩
    refine wpAny_leaves_madeW (outer := es) (base := B) (L := L') ?_ rfl (fun b o q => Fw.keep b o (hB b o q)) ⟨(by intro q; cases q), ?_, hff.of_keeps fun b o q _ => ⟨o, Fw.keep b o q, rfl⟩⟩ hmade fun h₆ t x1 x2 x3 x4 => ?_
    · rfl
    · obtain ⟨o, es', ep, ho, hd, _⟩ := Fw.ns
      refine ⟨_, o, rfl, ?_, ho, fun vs q => by rw [hd] at q; cases q⟩
      cases q : B.get? L' with
      | none => rfl
      | some o' => exact absurd (Nat.lt_of_lt_of_le (Heap.lt_size q) (Nat.le_trans hBz Fw.above)) (Nat.lt_irrefl _)
    · exact hR e t _ h₆ _ x1 x2 x3 ((Heap.UpToSlots.of_keeps Fw.keep).trans ((Heap.UpToSlots.of_keeps hmade.keeps).trans x4))
end
end -- A32
example : True := by w_top off; trivial
section -- A33
section
variable {w : World} {s : Shared} {R : Result → Shared → Prop} {dp un : Nat} {gd : Option (List Code)} {es : List Env} {p : Program} {loose : List Str} {mg mb : Str → Option Value} {mean : ExcName → Option Value} {B : Heap}

theorem safe_ok {rp W : Str} {tr tw : Tok} (hrl : rp.length ≤ 100) (h5r : 5 ≤ rp.length) (h3 : (Txt.slice rp none (some 3) != "257") = false) (hdp : dp + 8 < recursionLimit)
    (X : (hd.heap_1 w.params).In s.heap) (T : Top p loose mean mg mb s.heap)
    (hR : ∀ h' t' (v : Str) t, (∀ b o, s.heap.get? b = some o → h'.get? b = some o) → v.cps.toList = (if (Txt.slice rp (some 3) (some 5) != " \"") = true then [] else unq (rp.cps.toList.drop 5)) → v.length ≤ rp.length → R (.ok (.ret (.str v t))) { s with heap := h', toks := t' }) :
    codeAny (model PG w) (AA dp un gd es) (.call (.ref 29) ⟨[.str rp tr, .str W tw, .ref 144], []⟩) R s := by
  refine' enterS (binds := [("value", .str rp tr), ("what", .str W tw), ("func", .ref 144)]) [] X T.nolimit ?ho ?hcd ?hroom ?hbind ?hloc ?hn ?h ?hcell ?hco ?hgen ?hk
  case ho => k_is
  case hcd => k_is
  case hroom => show dp < _; omega
  case hbind => exact binds_K X rfl (by k_is) rfl rfl rfl
  case hloc => exact locs rfl
  case hcell => decide
  case hco => exact rfl
  case hgen => exact rfl
  case hk => exact rfl
  case hn => intro p hp; cases hp
  case h =>
    intro L' h₁ hk hL F' N'
    dsimp only [List.map, hideAll] at F' N'
    refine ks_wpAt_execs_cons ?_
    refine wpAt_of_wpAny ?_
    refine wpAny_Try_except ?_
    iterate 9 walk1
    refine ⟨X.keeps hk, ?_⟩
    refine wpAny_call (p257 (s := ⟨h₁, s.gens, s.drawn, _, s.os⟩) (p := p) (loose := loose) (mean := mean) (mg := mg) (mb := mb) hrl h5r h3 ?_ (X.keeps hk) (T.keeps hk) fun h' t' v t hk2 hv hl => ?_)
    · show dp + 1 + 4 < _; omega
    · exact hR h' t' v t (fun b o e => hk2 b o (hk b o e)) hv hl

theorem safe_bad {rp W : Str} {tr tw : Tok} (hrl : rp.length ≤ 100) (hwl : W.length ≤ 100) (h3 : (Txt.slice rp none (some 3) != "257") = true) (hdp : dp + 8 < recursionLimit)
    (X : (hd.heap_1 w.params).In B) (T : Top p loose mean mg mb B) (hB : B.StaysIn s.heap) (hBz : B.objs.size ≤ s.heap.objs.size) (hff : s.heap.FunFrames B es)
    (hR : ∀ h' t' t, B.StaysIn h' → s.heap.UpToSlots h' → R (.ok (.ret (.str (Str.empty ++ "<" ++ W ++ " " ++ "parse257" ++ "() failed>") t))) { s with heap := h', toks := t' }) :
    codeAny (model PG w) (AA dp un gd es) (.call (.ref 29) ⟨[.str rp tr, .str W tw, .ref 144], []⟩) R s := by
  refine' enterS (binds := [("value", .str rp tr), ("what", .str W tw), ("func", .ref 144)]) [] (X.keeps hB) (T.nolimit.keeps hB) ?ho ?hcd ?hroom ?hbind ?hloc ?hn ?h ?hcell ?hco ?hgen ?hk
  case ho => k_is
  case hcd => k_is
  case hroom => show dp < _; omega
  case hbind => exact binds_K (X.keeps hB) rfl (by k_is) rfl rfl rfl
  case hloc => exact locs rfl
  case hcell => decide
  case hco => exact rfl
  case hgen => exact rfl
  case hk => exact rfl
  case hn => intro p hp; cases hp
  case h =>
    intro L' h₁ hk hL F' N'
    dsimp only [List.map, hideAll] at F' N'
    have X' := X.keeps hB
    have T' := T.keeps hB
    refine ks_wpAt_execs_cons ?_
    refine wpAt_of_wpAny ?_
    refine wpAny_Try_except ?_
    iterate 9 walk1
    refine ⟨X'.keeps hk, ?_⟩
    have hBL : B.get? L' = none := by
      cases q : B.get? L' with
      | none => rfl
      | some o' => exact absurd (Nat.lt_of_lt_of_le (Heap.lt_size q) (Nat.le_trans hBz F'.above)) (Nat.lt_irrefl _)
    refine wpAny_call (p257_bad (s := ⟨h₁, s.gens, s.drawn, _, s.os⟩) (es := _ :: es) (p := p) (loose := loose) (mean := mean) (mg := mg) (mb := mb) (B := B) hrl h3 ?_ X T (fun b o q => hk b o (hB b o q)) (Nat.le_trans hBz (Nat.le_trans F'.above (Nat.le_of_lt F'.ns.lt))) ⟨(by intro q; cases q), ?_, hff.of_keeps fun b o q _ => ⟨o, hk b o q, rfl⟩⟩ fun e t vs h₂ t₂ x1 x2 x3 x4 => ?_)
    · show dp + 1 + 4 < _; omega
    · obtain ⟨o, es', ep, ho, hd, _⟩ := F'.ns
      exact ⟨_, o, rfl, hBL, ho, fun vs q => by rw [hd] at q; cases q⟩
    · refine wpAny_looks_onW (outer := es) (L := L') (base := B) rfl rfl x1 fun h₄ hheld₄ hsm₄ => ?_
      refine wpAny_landsW hheld₄ fun h₅ hheld hsm₅ => ?_
      refine handleBy_bare (by intro q; cases q) ?_
      refine lands_againW hheld fun h₆ hfl₆ hsm₆ => ?_
      have hup := x4.trans (hsm₄.trans (hsm₅.trans hsm₆))
      have F6 : Fr B L' h₆ _ := ⟨hup.ns F'.ns, hfl₆.1, Nat.le_trans hBz F'.above⟩
      have N6 : News B L' h₆ [] := fun p hp => by cases hp
      have hupS : s.heap.UpToSlots h₆ := (Heap.UpToSlots.of_keeps hk).trans hup
      have hSt := hfl₆.1
      clear F' N' x1 x2 x3 x4 hheld hheld₄ hsm₄ hsm₅ hsm₆ hfl₆ hup X' T' hk hff
      iterate 5 walk1
      iterate 13 walk1
      refine' fn_nameK (X.keeps F6.keep) ?k1 ?k2 ?k3 ?k4
      case k1 => k_is
      case k2 => rfl
      case k3 => decide
      case k4 =>
      intro tk u
      have l1 : Str.length Str.empty = 0 := rfl
      have l2 : Str.length ("<" : Str) = 1 := rfl
      have l3 : Str.length (" " : Str) = 1 := rfl
      have l4 : Str.length ("parse257" : Str) = 8 := rfl
      have l5 : Str.length ("() failed>" : Str) = 10 := rfl
      have lz : (200 : Nat) ≤ sizeLine := by decide
      walk1
      refine ⟨?_, ?_⟩
      · simp only [app_len, l1, l2, l3, l4, l5]; omega
      walk1
      walk1
      refine ⟨?_, ?_⟩
      · simp only [app_len, l1, l2, l3, l4, l5]; omega
      with_reducible refine joinParts_nilE ?_
      with_reducible refine joinParts_nil ?_ (by simp only [app_len, l1, l2, l3, l4, l5]; omega)
      exact hR h₆ _ _ hSt hupS
end
end -- A33
example : True := by w_top off; trivial
section -- A35
noncomputable def lawPl (xs : List Int) : Nat → Int → Int
  | 0, p => p
  | n + 1, p => lawPl xs n ((p + xs.getD n 0).fmod (6 - n))
section
variable {prog : Program} {w : World} {A : Around} {E : Value → Shared → Prop} {s : Shared} {env : Env} {h₀ : Heap} {x : Str} {body : List Stmt} {Q : Flow → Shared → Prop}
theorem KrsRest_ind {I : Addr} {a c : Int} {n : Nat} (J : Nat → (Str → Option Value) → List (Addr × Obj) → Prop)
    (turn : ∀ i m news, i < n → J i m news → ∀ t h tk, Fr h₀ env.locals h (fun y => if y = x then some (.int (a + (i : Int) * c) t) else m y) →
      News h₀ env.locals h ((I, krsIt (a + ((i + 1 : Nat) : Int) * c) ((n : Int) - ((i + 1 : Nat) : Int)) c) :: news) →
      wpAny (model prog w) A (execs body env) (UnrPost h₀ env.locals { s with heap := h, toks := tk } I (krsIt (a + ((i + 1 : Nat) : Int) * c) ((n : Int) - ((i + 1 : Nat) : Int)) c) (J (i + 1)) Q) E { s with heap := h, toks := tk })
    (done : ∀ m news, J n m news → ∀ h tk, Fr h₀ env.locals h m → News h₀ env.locals h news → Q .next { s with heap := h, toks := tk }) :
    ∀ k i m news, i + k = n → J i m news → KrsRest prog w A E h₀ env x body Q s I a c n k i m news
  | 0, i, m, news, e, hJ => KrsRest.zero (done m news (by have : i = n := by omega
                                                          subst this; exact hJ))
  | k + 1, i, m, news, e, hJ => KrsRest.succ rfl fun t h tk F N => wpAny_mono (turn i m news (by omega) hJ t h tk F N) (fun f s₂ p => by
      have up : UnrEnd h₀ env.locals { s with heap := h, toks := tk } I (krsIt (a + ((i + 1 : Nat) : Int) * c) ((n : Int) - ((i + 1 : Nat) : Int)) c) (J (i + 1)) s₂ →
          UnrEnd h₀ env.locals { s with heap := h, toks := tk } I (krsIt (a + ((i + 1 : Nat) : Int) * c) ((n : Int) - ((i + 1 : Nat) : Int)) c) (KrsRest prog w A E h₀ env x body Q s I a c n k (i + 1)) s₂ := by
        rintro ⟨h', tk, m', news', e', F', N', ho, r⟩
        exact ⟨h', tk, m', news', e', F', N', ho, KrsRest_ind J turn done k (i + 1) m' news' (by omega) r⟩
      cases f with
      | ret v => exact p
      | brk => exact p
      | next => exact up p
      | cont => exact up p) fun _ _ e => e
end
noncomputable def plM (l : Nat) (P : Int) (tp : Tok) (m : Str → Option Value) : Str → Option Value := fun y => if y = "place" then some (.int P tp) else if y = "steps" then some (.ref l) else m y
theorem plM_self {l : Nat} {P : Int} {t : Tok} {m : Str → Option Value} (h1 : m "place" = some (.int P t)) (h2 : m "steps" = some (.ref l)) : m = plM l P t m := by
  funext y
  unfold plM
  by_cases e : y = "place"
  · rw [if_pos e, e, h1]
  · by_cases e2 : y = "steps"
    · rw [if_neg e, if_pos e2, e2, h2]
    · rw [if_neg e, if_neg e2]
noncomputable def JPl (l n : Nat) (sv : Array Value) (cl : Nat) (st : List Int) (place : Int) (i : Nat) (m : Str → Option Value) (news : List (Addr × Obj)) : Prop :=
  ∃ P tp m', m = plM l P tp m' ∧ lawPl st (n - i) P = lawPl st n place ∧ news = [(l, listOf sv cl)]
section
variable {w : World} {s : Shared} {R : Result → Shared → Prop} {dp un : Nat} {gd : Option (List Code)} {es : List Env} {p : Program} {loose : List Str} {mg mb : Str → Option Value} {mean : ExcName → Option Value}
theorem law_place_any {l n : Nat} {place : Int} {tt tp : Tok} {sv : Array Value} {st : List Int} {cl : Nat} (hdp : dp + 8 < recursionLimit) (hsv : ∀ j, j < st.length → ∃ t, sv[j]? = some (.int (st.getD j 0) t)) (h1 : 1 ≤ n) (hn : n ≤ st.length) (h5 : n ≤ 5) (hl : s.heap.get? l = some (listOf sv cl))
    (X : (hd.heap_1 w.params).In (hideAll s.heap [l])) (T : Top p loose mean mg mb (hideAll s.heap [l]))
    (hR : ∀ h' t' t, (∀ b o, s.heap.get? b = some o → h'.get? b = some o) → R (.ok (.ret (.int (lawPl st n place) t))) { s with heap := h', toks := t' }) :
    codeAny (model PG w) (AA dp un gd es) (.call (.ref 165) ⟨[.ref l, .int (n : Int) tt, .int place tp], []⟩) R s := by
  have st1 : ∀ b o, (hideAll s.heap [l]).get? b = some o → s.heap.get? b = some o := fun b o e => of_hideAll _ e
  refine' enterS (binds := [("steps", .ref l), ("turns", .int (n : Int) tt), ("place", .int place tp)]) [(l, listOf sv cl)] (X.keeps st1) (T.nolimit.keeps st1) ?ho ?hcd ?hroom ?hbind ?hloc ?hn ?h ?hcell ?hco ?hgen ?hk
  case ho => k_is
  case hcd => k_is
  case hroom => show dp < _; omega
  case hbind => exact BindsTo.of_eq rfl
  case hloc => exact locs rfl
  case hcell => decide
  case hco => exact rfl
  case hgen => exact rfl
  case hk => exact rfl
  case hn => intro p hp; rcases List.mem_cons.mp hp with rfl | hp; exact hl; cases hp
  case h =>
    intro L' h₁ hk hL F' N'
    dsimp only [List.map] at F' N'
    have hsm : Builtin.Range.small ((n : Int) - 1) (-1) (-1) = true := by
      rcases (show n = 1 ∨ n = 2 ∨ n = 3 ∨ n = 4 ∨ n = 5 by omega) with rfl | rfl | rfl | rfl | rfl <;> decide
    have hrs : Builtin.Range.rangeSize ((n : Int) - 1) (-1) (-1) = (n : Int) := by
      rcases (show n = 1 ∨ n = 2 ∨ n = 3 ∨ n = 4 ∨ n = 5 by omega) with rfl | rfl | rfl | rfl | rfl <;> decide
    refine ks_wpAt_execs_cons ?_
    refine wpAt_of_wpAny ?_
    iterate 19 (try walk1)
    rename IsRange _ _ _ _ _ _ _ _ => hrg
    rename Fr _ _ _ _ => lF
    rename News _ _ _ _ => lN
    refine krs_iter (n := n) (by rfl) hrg hsm hrs lF lN fun I l1 => ?_
    refine KrsRest_ind (JPl l n sv cl st place) (fun i m news hi hJ t h tk F N => ?_) (fun m news hJ h tk F N => ?_) _ _ _ _ (Nat.zero_add _) ?_
    · obtain ⟨P, tP, m', rfl, hP, rfl⟩ := hJ
      have hI := l1 _ (.head _)
      clear lF lN hrg
      have ev : (n : Int) - 1 + (i : Int) * (-1) = ((n - 1 - i : Nat) : Int) := by omega
      obtain ⟨tz, hz⟩ := hsv (n - 1 - i) (by omega)
      have hlow : n - 1 - i < 5 := by omega
      have hst : lawPl st (n - (i + 1)) ((P + st.getD (n - 1 - i) 0).fmod (6 - ((n - 1 - i : Nat) : Int))) = lawPl st n place := by
        rw [← hP, show n - i = (n - 1 - i) + 1 by omega, show n - (i + 1) = n - 1 - i by omega]; rfl
      rw [ev] at F
      generalize n - 1 - i = j at F hz hlow hst
      clear ev
      iterate 8 walk1
      refine item_list (items := sv) (x := .int (st.getD j 0) tz) (News.isList N (.tail _ (.head _))) (by omega) (by omega) (by simpa using hz) ?_
      iterate 8 (try walk1)
      rename Fr _ _ _ _ => Fz; rename News _ _ _ _ => Nz
      refine ⟨_, _, _, _, rfl, Fz, Nz, (fun p hp => Nat.ne_of_lt (l1 p hp)), _, _, _, plM_self rfl rfl, hst, rfl⟩
    · obtain ⟨P, tP, m', rfl, hP, rfl⟩ := hJ
      rw [Nat.sub_self] at hP
      have hP' : P = lawPl st n place := hP
      subst hP'
      clear lF lN hrg
      iterate 8 (try walk1)
      dsimp only
      refine hR _ _ _ fun b o e => ?_
      by_cases hb : b = l
      · subst hb; rw [hl] at e; cases e; exact (N _ (.head _)).1
      · exact F.keep b o (hideAll_get _ e (by simp [hb]))
    · exact ⟨place, tp, _, plM_self rfl rfl, rfl, rfl⟩
end
end -- A35
example : True := by w_top off; trivial
section -- A36
/-- at most n code points, none of them an exclamation mark -/
noncomputable def SG (n : Nat) (z : Str) : Prop := z.length ≤ n ∧ ∀ c ∈ z.cps.toList, c ≠ 33
theorem SG.app {a b : Nat} {x y : Str} (h : SG a x) (h' : SG b y) : SG (a + b) (x ++ y) :=
  ⟨by rw [app_len]; exact Nat.add_le_add h.1 h'.1, fun c hc => by rw [app_cps] at hc; rcases List.mem_append.mp hc with hc | hc; exact h.2 c hc; exact h'.2 c hc⟩
section
variable {prog : Program} {w : World} {A : Around} {E : Value → Shared → Prop} {s : Shared} {env : Env} {h₀ : Heap} {x : Str} {body : List Stmt} {Q : Flow → Shared → Prop}
theorem RangeRest_ind {I : Addr} {a : Int} {n : Nat} (J : Nat → (Str → Option Value) → List (Addr × Obj) → Prop)
    (turn : ∀ i m news, i < n → J i m news → ∀ t h tk, Fr h₀ env.locals h (fun y => if y = x then some (.int (a + (i : Int)) t) else m y) →
      News h₀ env.locals h ((I, itR (a + ((i + 1 : Nat) : Int)) ((n : Int) - ((i + 1 : Nat) : Int))) :: news) →
      wpAny (model prog w) A (execs body env) (UnrPost h₀ env.locals { s with heap := h, toks := tk } I (itR (a + ((i + 1 : Nat) : Int)) ((n : Int) - ((i + 1 : Nat) : Int))) (J (i + 1)) Q) E { s with heap := h, toks := tk })
    (done : ∀ m news, J n m news → ∀ h tk, Fr h₀ env.locals h m → News h₀ env.locals h news → Q .next { s with heap := h, toks := tk }) :
    ∀ k i m news, i + k = n → J i m news → RangeRest prog w A E h₀ env x body Q s I a n k i m news
  | 0, i, m, news, e, hJ => RangeRest.zero (done m news (by have : i = n := by omega
                                                            subst this; exact hJ))
  | k + 1, i, m, news, e, hJ => RangeRest.succ fun t h tk F N => wpAny_mono (turn i m news (by omega) hJ t h tk F N) (fun f s₂ p => by
      have up : UnrEnd h₀ env.locals { s with heap := h, toks := tk } I (itR (a + ((i + 1 : Nat) : Int)) ((n : Int) - ((i + 1 : Nat) : Int))) (J (i + 1)) s₂ →
          UnrEnd h₀ env.locals { s with heap := h, toks := tk } I (itR (a + ((i + 1 : Nat) : Int)) ((n : Int) - ((i + 1 : Nat) : Int))) (RangeRest prog w A E h₀ env x body Q s I a n k (i + 1)) s₂ := by
        rintro ⟨h', tk, m', news', e', F', N', ho, r⟩
        exact ⟨h', tk, m', news', e', F', N', ho, RangeRest_ind J turn done k (i + 1) m' news' (by omega) r⟩
      cases f with
      | ret v => exact p
      | brk => exact p
      | next => exact up p
      | cont => exact up p) fun _ _ e => e
end
section
variable {prog : Program} {w : World} {A : Around} {E : Value → Shared → Prop} {s : Shared} {env : Env}
theorem merge_iadd {n : Nat} {c : Bool} {z : Str} {tz k₁ k₂ : Tok} {p₁ p₂ : Pos} {Q : Value → Shared → Prop} (hz : SG n z) (hs : n ≤ 20) (h : ∀ z' tk u, SG (n + 1) z' → Q (.str z' tk) { s with toks := u }) :
    if c = true then wpAny (model prog w) A (eval (.Constant (.str "a") k₁ p₁) env) (fun v s₂ => wpAny (model prog w) A (inplaceOp .Add (.str z tz) v) Q E s₂) E s
    else wpAny (model prog w) A (eval (.Constant (.str "\"") k₂ p₂) env) (fun v s₂ => wpAny (model prog w) A (inplaceOp .Add (.str z tz) v) Q E s₂) E s := by
  have hl := hz.1
  cases c
  · rw [if_neg Bool.false_ne_true]
    walk1
    refine iadd_str (fun t' k => h _ _ _ (hz.app ⟨by decide, by decide⟩)) ?_
    show z.length + 1 ≤ _
    exact Nat.le_trans (show _ ≤ 100 by omega) (by decide)
  · rw [if_pos rfl]
    walk1
    refine iadd_str (fun t' k => h _ _ _ (hz.app ⟨by decide, by decide⟩)) ?_
    show z.length + 1 ≤ _
    exact Nat.le_trans (show _ ≤ 100 by omega) (by decide)
theorem iadd_sg {n m : Nat} {x y : Str} {t u : Tok} {Q : Value → Shared → Prop} (hx : SG n x) (hy : SG m y) (hs : n + m ≤ 100) (h : ∀ z' tk u, SG (n + m) z' → Q (.str z' tk) { s with toks := u }) :
    wpAny (model prog w) A (inplaceOp .Add (.str x t) (.str y u)) Q E s :=
  iadd_str (fun t' k => h _ _ _ (hx.app hy)) (Nat.le_trans (Nat.add_le_add hx.1 hy.1) (Nat.le_trans hs (by decide)))
end
noncomputable abbrev tup3 (a b c : Value) : Obj := { cls := .type "tuple", data := .seq #[a, b, c] }
/-- what the law's reply asks of _safe_string over parse257 -/
noncomputable def Told (rp W due : Str) : Prop := rp.length ≤ 30 ∧ 5 ≤ rp.length ∧ W.length ≤ 5 ∧ due.length ≤ 30 ∧
  (((Txt.slice rp none (some 3) != "257") = true ∧ due = Str.empty ++ "<" ++ W ++ " " ++ "parse257" ++ "() failed>") ∨
   ((Txt.slice rp none (some 3) != "257") = false ∧ due.cps.toList = (if (Txt.slice rp (some 3) (some 5) != " \"") = true then [] else unq (rp.cps.toList.drop 5))))
theorem slice3 {a z : Str} (h5 : a.length = 5) : Txt.slice (a ++ z) none (some 3) = ⟨(a.cps.toList.take 3).toArray⟩ := by
  apply PySem.Str.ext'
  apply Array.toList_inj.mp
  have hl : (a ++ z).cps.toList.length = 5 + z.length := by simp only [Array.length_toList]; show (a ++ z).length = _; rw [app_len, h5]
  rw [slice_to _ ⟨by decide, by rw [hl]; omega⟩, app_cps, List.take_append_of_le_length (by simp only [Array.length_toList]; show 3 ≤ a.length; omega)]
  rfl
theorem slice35 {a z : Str} (h5 : a.length = 5) : Txt.slice (a ++ z) (some 3) (some 5) = ⟨(a.cps.toList.drop 3).toArray⟩ := by
  apply PySem.Str.ext'
  apply Array.toList_inj.mp
  have hl : (a ++ z).cps.toList.length = 5 + z.length := by simp only [Array.length_toList]; show (a ++ z).length = _; rw [app_len, h5]
  have ha : a.cps.toList.length = 5 := by simp only [Array.length_toList]; exact h5
  rw [slice_mid _ ⟨by decide, by decide, by rw [hl]; omega⟩, app_cps, List.drop_append_of_le_length (by rw [ha]; decide), List.take_append_of_le_length (by rw [List.length_drop, ha]; decide)]
  show List.take 2 (List.drop 3 a.cps.toList) = List.drop 3 a.cps.toList
  rw [List.take_of_length_le (by rw [List.length_drop, ha]; decide)]
theorem drop5 {a z : Str} (h5 : a.length = 5) : (a ++ z).cps.toList.drop 5 = z.cps.toList := by
  have ha : a.cps.toList.length = 5 := by simp only [Array.length_toList]; exact h5
  rw [app_cps, List.drop_append_of_le_length (by rw [ha]; decide), List.drop_of_length_le (by rw [ha]; decide), List.nil_append]
theorem told_250 {z W : Str} (hz : SG 17 z) (hW : W.length ≤ 5) : Told ("250 \"" ++ z) W ("<" ++ W ++ " parse257() failed>") := by
  have h5 : ("250 \"" : Str).length = 5 := by decide
  have hz1 := hz.1
  refine ⟨by rw [app_len, h5]; omega, by rw [app_len, h5]; omega, hW, ?_, .inl ⟨?_, ?_⟩⟩
  · rw [app_len, app_len, show ("<" : Str).length = 1 from by decide, show (" parse257() failed>" : Str).length = 19 from by decide]; omega
  · rw [slice3 h5]; decide
  · apply PySem.Str.ext'
    apply Array.toList_inj.mp
    simp only [app_cps]
    have e1 : (Str.empty).cps.toList = [] := rfl
    have e2 : (" parse257() failed>" : Str).cps.toList = (" " : Str).cps.toList ++ (("parse257" : Str).cps.toList ++ ("() failed>" : Str).cps.toList) := by decide
    rw [e1, e2]; simp only [List.nil_append, List.append_assoc]
theorem told_hy {z W : Str} (hz : SG 17 z) (hW : W.length ≤ 5) : Told ("257-\"" ++ z) W "" := by
  have h5 : ("257-\"" : Str).length = 5 := by decide
  have hz1 := hz.1
  refine ⟨by rw [app_len, h5]; omega, by rw [app_len, h5]; omega, hW, by decide, .inr ⟨?_, ?_⟩⟩
  · rw [slice3 h5]; decide
  · rw [slice35 h5, if_pos (by decide)]; rfl
theorem told_257 {z W : Str} (hz : SG 17 z) (hW : W.length ≤ 5) : Told ("257 \"" ++ z) W (Txt.replace (Txt.partition (Txt.replace z "\"\"" "!") "\"").1 "!" "\"") := by
  have h5 : ("257 \"" : Str).length = 5 := by decide
  have hz1 := hz.1
  refine ⟨by rw [app_len, h5]; omega, by rw [app_len, h5]; omega, hW, ?_, .inr ⟨?_, ?_⟩⟩
  · have h1 := rep_len z
    have h2 := (fact_partition (Txt.replace z "\"\"" "!") "\"").1
    have h3 : (Txt.replace (Txt.partition (Txt.replace z "\"\"" "!") "\"").1 "!" "\"").length = (Txt.partition (Txt.replace z "\"\"" "!") "\"").1.length := by
      have := congrArg List.length (replace_bang (Txt.partition (Txt.replace z "\"\"" "!") "\"").1)
      simp only [List.length_map, Array.length_toList] at this
      exact this
    omega
  · rw [slice3 h5]; decide
  · rw [slice35 h5, if_neg (by decide), drop5 h5, told_eq z hz.2]
section
variable {w : World} {s : Shared} {R : Result → Shared → Prop} {dp un : Nat} {gd : Option (List Code)} {es : List Env} {p : Program} {loose : List Str} {mg mb : Str → Option Value} {mean : ExcName → Option Value}
noncomputable abbrev rM (z : Str) (tz : Tok) (vi : Option Value) (x : Int) (tx : Tok) : Str → Option Value :=
  fun y => if y = "name" then some (.str z tz) else if y = "i" then vi else List.lookup y [("x", Value.int x tx)]
theorem rM_put {z z' : Str} {tz tz' : Tok} {vi vi' : Option Value} {x : Int} {tx : Tok} : (fun y : Str => if y = "name" then some (Value.str z' tz') else if y = "i" then vi' else rM z tz vi x tx y) = rM z' tz' vi' x tx := by
  funext y
  by_cases e1 : y = "name"
  · subst e1; rfl
  · by_cases e2 : y = "i"
    · subst e2; rfl
    · simp only [e1, e2, rM, if_false]
theorem rM_start {z : Str} {tz : Tok} {x : Int} {tx : Tok} : (fun y : Str => if y = "name" then some (Value.str z tz) else List.lookup y [(("x" : Str), Value.int x tx)].reverse) = rM z tz none x tx := by
  funext y
  by_cases e1 : y = "name"
  · subst e1; rfl
  · by_cases e2 : y = "i"
    · subst e2; rfl
    · simp only [e1, e2, rM, if_false, List.reverse_cons, List.reverse_nil, List.nil_append]
noncomputable def JR (x : Int) (tx : Tok) (i : Nat) (m : Str → Option Value) (news : List (Addr × Obj)) : Prop :=
  ∃ z tz vi, SG i z ∧ news = [] ∧ m = rM z tz vi x tx

theorem add_ge {prog : Program} {A : Around} {E : Value → Shared → Prop} {x y : Str} {t u : Tok} {Q : Value → Shared → Prop} (hsz : x.length + y.length ≤ 16777216) (h : ∀ t' k, s.toks ≤ k → Q (.str (x ++ y) t') { s with toks := k }) : wpAny (model prog w) A (binaryOp .Add (.str x t) (.str y u)) Q E s := by
  refine concat_gives (typeIs_str s x t) (typeIs_str s y u) PySem.noFill_str_add PySem.seq_str_add F.slot_str_add F.entry_str_add (F.args_str_add_2 _ _) (PySem.gives_str_add x y t u) ?_
  cases hb : (x.length == 0) with
  | true =>
    rw [if_pos rfl]
    have e : x ++ y = y := PySem.Str.ext' (by
      have hz : x.cps.size = 0 := by simpa [PySem.Str.length] using hb
      rw [PySem.Str.cps_append, Array.eq_empty_of_size_eq_zero hz, Array.empty_append])
    have h' := h u s.toks (Nat.le_refl _)
    rw [e] at h'
    exact h'
  | false =>
    rw [if_neg Bool.false_ne_true]
    cases hc : (y.length == 0) with
    | true =>
      rw [if_pos rfl]
      have e : x ++ y = x := PySem.Str.ext' (by
        have hz : y.cps.size = 0 := by simpa [PySem.Str.length] using hc
        rw [PySem.Str.cps_append, Array.eq_empty_of_size_eq_zero hz, Array.append_empty])
      have h' := h t s.toks (Nat.le_refl _)
      rw [e] at h'
      exact h'
    | false =>
      rw [if_neg Bool.false_ne_true]
      exact ⟨by rw [PySem.Str.length_append, sizeLine_eq]; omega, h s.toks (s.toks + 1) (Nat.le_succ _)⟩
theorem law_reply {x : Int} {tx : Tok} (h0 : 0 ≤ x) (hx : x < 1000000) (hdp : dp + 4 < recursionLimit)
    (X : (hd.heap_1 w.params).In s.heap) (T : Top p loose mean mg mb s.heap)
    (hR : ∀ h' t' (a : Nat) (rp W due : Str) tr tw td, (∀ b o, s.heap.get? b = some o → h'.get? b = some o) → s.heap.get? a = none → h'.get? a = some (tup3 (.str rp tr) (.str W tw) (.str due td)) → Told rp W due →
      R (.ok (.ret (.ref a))) { s with heap := h', toks := t' }) :
    codeAny (model PG w) (AA dp un gd es) (.call (.ref 158) ⟨[.int x tx], []⟩) R s := by
  refine' enterS (binds := [("x", .int x tx)]) [] X T.nolimit ?ho ?hcd ?hroom ?hbind ?hloc ?hn ?h ?hcell ?hco ?hgen ?hk
  case ho => k_is
  case hcd => k_is
  case hroom => show dp < _; omega
  case hbind => exact BindsTo.of_eq rfl
  case hloc => exact locs rfl
  case hcell => decide
  case hco => exact rfl
  case hgen => exact rfl
  case hk => exact rfl
  case hn => intro p hp; cases hp
  case h =>
    intro L' h₁ hk hL F' N'
    dsimp only [List.map, hideAll] at F' N'
    have hcount : ∃ n : Nat, (x.fdiv 126).fmod 6 = (n : Int) ∧ n < 6 := by
      have h1 : (0 : Int) ≤ (x.fdiv 126).fmod 6 := Int.fmod_nonneg_of_pos _ (by decide)
      have h2 : (x.fdiv 126).fmod 6 < 6 := Int.fmod_lt_of_pos _ (by decide)
      exact ⟨((x.fdiv 126).fmod 6).toNat, by omega, by omega⟩
    obtain ⟨n, hn, hn6⟩ := hcount
    have hsm : Builtin.Range.small 0 (1 + (n : Int)) 1 = true := by
      rcases (show n = 0 ∨ n = 1 ∨ n = 2 ∨ n = 3 ∨ n = 4 ∨ n = 5 by omega) with rfl | rfl | rfl | rfl | rfl | rfl <;> decide
    have hrs : Builtin.Range.rangeSize 0 (1 + (n : Int)) 1 = ((n + 1 : Nat) : Int) := by
      rcases (show n = 0 ∨ n = 1 ∨ n = 2 ∨ n = 3 ∨ n = 4 ∨ n = 5 by omega) with rfl | rfl | rfl | rfl | rfl | rfl <;> decide
    refine ks_wpAt_execs_cons ?_
    refine wpAt_of_wpAny ?_
    iterate 3 walk1
    show _root_.PySem.wpAt _ _ _ _ _ _ _
    refine ks_wpAt_execs_cons ?_
    refine wpAt_of_wpAny ?_
    iterate 14 (try walk1)
    rw [hn]
    iterate 3 walk1
    rename IsRange _ _ _ _ _ _ _ _ => hrg
    rename Fr _ _ _ _ => lF
    rename News _ _ _ _ => lN
    refine iter_rangeUnr (n := n + 1) (by rfl) hrg hsm hrs lF lN fun I l1 => ?_
    refine RangeRest_ind (JR x tx) (fun i m news hi hJ t h tk F N => ?_) (fun m news hJ h tk F N => ?_) _ _ _ _ (Nat.zero_add _) ?_
    · obtain ⟨z, tz, vi, hz, rfl, rfl⟩ := hJ
      clear lF lN hrg l1
      have hi6 : i < 6 := by omega
      iterate 21 walk1
      refine merge_iadd hz (by omega) fun z' tk' u' hz' => ?_
      iterate 3 walk1
      refine ⟨_, _, _, [], rfl, (by assumption), (by assumption), (fun p hp => by cases hp), z', tk', _, hz', rfl, rM_put⟩
    · obtain ⟨z, tz, vi, hz, rfl, rfl⟩ := hJ
      clear lF lN hrg l1
      have htl : (x.fdiv 42).fmod 3 = 0 ∨ (x.fdiv 42).fmod 3 = 1 ∨ (x.fdiv 42).fmod 3 = 2 := by
        have h1 : (0 : Int) ≤ (x.fdiv 42).fmod 3 := Int.fmod_nonneg_of_pos _ (by decide)
        have h2 : (x.fdiv 42).fmod 3 < 3 := Int.fmod_lt_of_pos _ (by decide)
        omega
      iterate 25 (try walk1)
      rcases htl with e | e | e <;> rw [e]
      all_goals
        walk1
        refine iadd_sg (n := 6) (m := 11) ⟨Nat.le_trans hz.1 (by omega), hz.2⟩ ⟨by decide +kernel, by decide +kernel⟩ (by decide) fun z' tk' u' hz' => ?_
        clear hz
        have hzl := hz'.1
        have hwl : (Txt.slice "reply" none (some ((x.fdiv 7).fmod 6))).length ≤ 5 := Txt.slice_le _ _ _
        iterate 30 walk1
        · iterate 21 walk1
          rename Fr _ _ _ _ => Fz; rename News _ _ _ _ => Nz
          exact hR _ _ _ _ _ _ _ _ _ Fz.keep (Nz _ (.head _)).2.2 (Nz _ (.head _)).1 (told_250 hz' hwl)
        · iterate 13 walk1
          · iterate 15 walk1
            rename Fr _ _ _ _ => Fz; rename News _ _ _ _ => Nz
            exact hR _ _ _ _ _ _ _ _ _ Fz.keep (Nz _ (.head _)).2.2 (Nz _ (.head _)).1 (told_hy hz' hwl)
          · refine wpAny_execs_nil ?_
            dsimp only
            refine wpAny_execs_cons ?_
            iterate 4 walk1
            iterate 8 walk1
            refine SC.replaceW (y := "\"\"") (z := "!") (Nat.succ_ne_zero _) (Nat.succ_ne_zero _) (Nat.ne_of_lt (Nat.lt_succ_self _)) (by decide) (Nat.le_trans hzl (by decide)) (by decide) fun tr kr => ?_
            have hrl : (Txt.replace z' "\"\"" "!").length ≤ 17 := Nat.le_trans (rep_len z') hzl
            iterate 17 walk1
            refine add_ge (x := "257 \"") (Nat.le_trans (Nat.add_le_add (Nat.le_refl _) hzl) (by decide)) fun t2 k2 hk2 => ?_
            iterate 12 walk1
            refine SC.replaceW (y := "!") (z := "\"") (Nat.ne_of_gt (Nat.lt_of_lt_of_le (Nat.succ_pos _) hk2)) (Nat.succ_ne_zero _) (Nat.ne_of_lt (Nat.lt_succ_self _)) (by decide) (Nat.le_trans (fact_partition _ _).1 (Nat.le_trans hrl (by decide))) (by decide) fun tr2 kr2 => ?_
            iterate 2 walk1
            rename Fr _ _ _ _ => Fz; rename News _ _ _ _ => Nz
            exact hR _ _ _ _ _ _ _ _ _ Fz.keep (Nz _ (.head _)).2.2 (Nz _ (.head _)).1 (told_257 hz' hwl)
    · refine ⟨"", _, none, ⟨by decide, by decide⟩, rfl, rM_start⟩
end
end -- A36
example : True := by w_top off; trivial
section -- A38
noncomputable def lawStmt : Stmt := (PySem.Challenge.pw_wu0015_01.main.body.getLast?).getD (.Pass ⟨0, 0, 0, 0⟩)
noncomputable def lawSc0 : Scope := match lawStmt with | .FunctionDef _ _ _ _ _ _ sc _ _ _ => sc | _ => ⟨.function, [], false, false, []⟩
noncomputable def lawBody0 : List Stmt := match lawStmt with | .FunctionDef _ _ b _ _ _ _ _ _ _ => b | _ => []
noncomputable def lawScP : { x : Scope // lawSc0 = x } := ⟨_, by conv => lhs; whnf⟩
noncomputable def lawBodyP : { x : List Stmt // lawBody0 = x } := ⟨_, by conv => lhs; whnf⟩
noncomputable abbrev lawSc : Scope := lawScP.1
noncomputable def lawBody : List Stmt := lawBodyP.1
noncomputable abbrev lawE (L fa : Nat) (cd : Value) : Env := envX "law" lawSc L fa cd [("turns", L + 4), ("people", L + 3), ("steps", L + 2), ("total", L + 1)]
theorem lawE_eq (L fa : Nat) (cd : Value) : envOfC "law" lawSc L fa cd = lawE L fa cd := rfl
/-- what the law does with an error that leaves it -/
noncomputable abbrev lawEE (w : World) (A : Around) (env : Env) (R : Result → Shared → Prop) : Value → Shared → Prop := fun e s' => wpAny (model PG w) A (leaving env e) (fun _ s'' => R (.error e) s'') (fun e' s'' => R (.error e') s'') s'
section
variable {prog : Program} {w : World} {A : Around} {E : Value → Shared → Prop} {s : Shared} {env : Env} {Q : Flow → Shared → Prop}
theorem drop_at {α : Type} : ∀ {l : List α} {k : Nat} {a : α}, l[k]? = some a → l.drop k = a :: l.drop (k + 1)
  | [], k, a, h => by simp at h
  | b :: r, 0, a, h => by simp at h; subst h; rfl
  | b :: r, k + 1, a, h => by
    have h' : r[k]? = some a := by simpa using h
    simpa using drop_at h'
theorem step_at {l : List Stmt} {k : Nat} {st : Stmt} (hk : l[k]? = some st) (h : wpAny (model prog w) A (exec st env) (fun f s' => match f with | .next => wpAny (model prog w) A (execs (l.drop (k + 1)) env) Q E s' | f => Q f s') E s) :
    wpAny (model prog w) A (execs (l.drop k) env) Q E s := by
  rw [drop_at hk]
  exact wpAny_execs_cons h
end
theorem fr_congr {h₀ h : Heap} {L : Addr} {m m' : Str → Option Value} (F : Fr h₀ L h m) (e : ∀ y, m y = m' y) : Fr h₀ L h m' := (funext e : m = m') ▸ F
end -- A38
example : True := by w_top off; trivial
section -- A40
section
variable {h₀ h h' : Heap} {L : Nat} {m : Str → Option Value} {news : List (Addr × Obj)}
theorem fr_up (F : Fr h₀ L h m) (k : ∀ b o, h.get? b = some o → h'.get? b = some o) : Fr h₀ L h' m := frBut (x := L + 1) ⟨F.ns, F.keep, F.above⟩ (fun b o _ e => k b o e) (Nat.succ_ne_self L) (by
  cases q : h₀.get? (L + 1) with
  | none => rfl
  | some o => exact absurd (Nat.lt_of_lt_of_le (Heap.lt_size q) F.above) (by omega))
theorem news_up (N : News h₀ L h news) (k : ∀ b o, h.get? b = some o → h'.get? b = some o) : News h₀ L h' news := fun p hp => ⟨k _ _ (N p hp).1, (N p hp).2⟩
theorem news_upL (N : News h₀ L h news) (k : ∀ b o, b ≠ L → h.get? b = some o → h'.get? b = some o) : News h₀ L h' news := fun p hp => ⟨k _ _ (N p hp).2.1 (N p hp).1, (N p hp).2⟩
theorem fr_upL (F : Fr h₀ L h m) (k : ∀ b o, b ≠ L → h.get? b = some o → h'.get? b = some o) (n : ∀ m, h.Ns L m → h'.Ns L m) : Fr h₀ L h' m :=
  ⟨n _ F.ns, fun b o e => k b o (by rintro rfl; exact absurd (Nat.lt_of_lt_of_le (Heap.lt_size e) F.above) (Nat.lt_irrefl _)) (F.keep b o e), F.above⟩
theorem fr_none (F : Fr h₀ L h m) : h₀.get? L = none := by
  cases q : h₀.get? L with
  | none => rfl
  | some o => exact absurd (Nat.lt_of_lt_of_le (Heap.lt_size q) F.above) (Nat.lt_irrefl _)
end
section
variable {w : World} {s : Shared} {R : Result → Shared → Prop} {dp un : Nat} {gd : Option (List Code)} {p : Program} {loose : List Str} {mg mb : Str → Option Value} {mean : ExcName → Option Value} {B : Heap} {L : Nat} {m : Str → Option Value}
theorem told_safe {env : Env} {rp W due : Str} {tr tw : Tok} (ht : Told rp W due) (hdp : dp + 8 < recursionLimit) (X : (hd.heap_1 w.params).In B) (T : Top p loose mean mg mb B) (F : Fr B L s.heap m)
    (hef : env.frame = some L) (hek : env.scope.kind = .function)
    (hR : ∀ h' t' t, (∀ b o, b ≠ L → s.heap.get? b = some o → h'.get? b = some o) → (∀ m, s.heap.Ns L m → h'.Ns L m) → R (.ok (.ret (.str due t))) { s with heap := h', toks := t' }) :
    codeAny (model PG w) (AA dp un gd [env]) (.call (.ref 29) ⟨[.str rp tr, .str W tw, .ref 144], []⟩) R s := by
  obtain ⟨h30, h5, hW, hd30, ⟨h3, rfl⟩ | ⟨h3, hv⟩⟩ := ht
  · have hk : ∀ b o, B.get? b = some o → (hideAll s.heap [L]).get? b = some o := fun b o e => hideAll_get _ (F.keep b o e) (by
      simp only [List.mem_singleton]; rintro rfl; rw [fr_none F] at e; cases e)
    refine safe_bad (B := hideAll s.heap [L]) (p := p) (loose := loose) (mean := mean) (mg := mg) (mb := mb) (Nat.le_trans h30 (by decide)) (Nat.le_trans hW (by decide)) h3 hdp (X.keeps hk) (T.keeps hk) (fun b o e => of_hideAll _ e) (Nat.le_of_eq (hideAll_size _ _)) ⟨?_, ?_, trivial⟩ fun h' t' t hst hup => ?_
    · intro q; rw [hek] at q; cases q
    · obtain ⟨o, es', ep, ho, hd, _⟩ := F.ns
      exact ⟨L, o, hef, hideAll_none _ (by simp), ho, fun vs q => by rw [hd] at q; cases q⟩
    · exact hR h' t' t (fun b o hb e => hst b o (hideAll_get _ e (by simp [hb]))) fun m hn => hup.ns hn
  · refine safe_ok (p := p) (loose := loose) (mean := mean) (mg := mg) (mb := mb) (Nat.le_trans h30 (by decide)) h5 h3 hdp (X.keeps F.keep) (T.keeps F.keep) fun h' t' v t hk hvv hl => ?_
    have e : v = due := PySem.Str.ext' (Array.toList_inj.mp (hvv.trans hv.symm))
    subst e
    exact hR h' t' t (fun b o _ e => hk b o e) fun m hn => by
      obtain ⟨o, es', ep, ho, r⟩ := hn
      exact ⟨o, es', ep, hk _ _ ho, r⟩
end
end -- A40
example : True := by w_top off; trivial
section -- A45
section
variable {prog : Program} {w : World} {A : Around} {E : Value → Shared → Prop} {s : Shared} {env : Env} {B : Heap} {body : List Stmt} {Q : Flow → Shared → Prop} {elts : List Expr} {x1 : Nat} {pos : Pos}
/-- a loop with a pair as its target over a list of objects, with a ledger of one's own -/
theorem turns_list {pl : Nat} {its : Array Value} {m : Str → Option Value} {news : List (Addr × Obj)} (hh : A.handled = none) (hl : s.heap.IsList pl its) (hplL : env.locals ≠ pl) (hits : ∀ (i : Nat) (v : Value), its[i]? = some v → ∃ T : Nat, v = .ref T)
    (F : Fr B env.locals s.heap m) (N : News B env.locals s.heap news) (J : Nat → (Str → Option Value) → List (Addr × Obj) → Prop) (h0 : J 0 m news)
    (step : ∀ (I i : Nat) (v : Value) m₁ news₁ h₁ tk₁ own, s.heap.objs.size = I → i < its.size → its[i]? = some v → J i m₁ news₁ → (∀ p ∈ news₁, p.1 ∉ [I]) → (∀ p ∈ own, p.1 ∈ [I, pl]) → (∀ p ∈ own, h₁.get? p.1 = some p.2) → (∃ o, (I, o) ∈ own) →
      Fr B env.locals h₁ m₁ → News B env.locals h₁ (own ++ news₁) →
      wpAny (model prog w) A (assign (.Tuple elts x1 pos) env v) (fun _ s₃ => wpAny (model prog w) A (execs body env)
        (LoopStepV B env.locals [I] own (J (i + 1)) { s with heap := h₁, toks := tk₁ } (fun v s' => Q (.ret v) s') fun s' => Q .next s') E s₃) E { s with heap := h₁, toks := tk₁ })
    (fin : ∀ h' tk m' news', Fr B env.locals h' m' → News B env.locals h' news' → J its.size m' news' → Q .next { s with heap := h', toks := tk }) :
    wpAny (model prog w) A (pyIter (.ref pl)) (fun it s₂ => TurnsAt prog w A B env (.Tuple elts x1 pos) body Q E it s₂) E s := by
  refine wpAny_pyIter_list hl ?_
  have hlt : pl < s.heap.objs.size := by obtain ⟨_, e, _⟩ := hl; exact Heap.lt_size e
  have up : ∀ b o, s.heap.get? b = some o → (s.heap.push { cls := .type "list_iterator", data := .fields #[.ref pl, .int 0 0] }).get? b = some o := fun b o e => Heap.get?_push_of_some _ e
  have W := Walks.list (prog := prog) (w := w) hh s.heap.objs.size pl (Nat.ne_of_lt hlt) its
  have hB : B.get? s.heap.objs.size = none := by
    cases q : B.get? s.heap.objs.size with
    | none => rfl
    | some o => exact absurd (Heap.lt_size (F.keep _ _ q)) (Nat.lt_irrefl _)
  refine ⟨s.heap.objs.size, [s.heap.objs.size, pl], [s.heap.objs.size], its.size, fun i v _ => its[i]? = some v, fun i v h => its[i]? = some v ∧ (h.IsListIter s.heap.objs.size pl (i + 1) ∧ h.IsList pl its), fun i h => h.IsListIter s.heap.objs.size pl i ∧ h.IsList pl its, m, news, J, rfl,
    { sub := W.sub, frame := W.frame, item := fun i s' Q' E' hi st hQ => W.item i s' Q' E' hi st fun v h' tk hP st' hk => hQ v h' tk ⟨hP, st'⟩ hk,
      go := fun i v s' Q' E' hm hQ => by
        obtain ⟨T, rfl⟩ := hits i v hm.1
        exact wpAny_letOwnedTupleGo_listiter hm.2.1 (hQ s'.heap hm.1 hm.2 fun _ _ _ e => e),
      done := W.done }, ?_, ?_, ?_, ⟨⟨_, Heap.get?_push_size _ rfl, rfl, rfl⟩, hl.push _⟩, fr_up F up, news_up N up, h0, ?_, ?_⟩
  · intro hm
    rcases List.mem_cons.mp hm with e | hm
    · exact absurd F.ns.lt (e ▸ Nat.lt_irrefl _)
    · exact hplL (List.mem_singleton.mp hm)
  · intro b hb
    rw [List.mem_singleton.mp hb]
    exact hB
  · intro p hp hI
    exact absurd (Heap.lt_size (N p hp).1) ((List.mem_singleton.mp hI) ▸ Nat.lt_irrefl _)
  · intro i v m₁ news₁ h₁ tk₁ own hi hv hJ hoff hown hget hall hst F₁ N₁
    obtain ⟨oI, eI, _⟩ := hst.1
    exact step _ i v m₁ news₁ h₁ tk₁ own rfl hi hv hJ hoff hown hget ⟨oI, hall _ (.head _) hB oI eI⟩ F₁ N₁
  · intro h' tk m' news' F' N' _ hJ
    exact fin h' tk m' news' F' N' hJ
end
end -- A45
example : True := by w_top off; trivial
section -- A52
open PySem.SeqAt
section
variable {prog : Program} {w : World} {A : Around} {E : Value → Shared → Prop} {s : Shared}
theorem pair_eqAt {T P : Nat} {a b : Str} {t1 t2 t3 t4 : Tok} (hT : s.heap.IsTuple T #[.str a t1, .str b t2]) (hP : s.heap.IsTuple P #[.str a t3, .str b t4]) (hu : A.units < cLine) : EqAt A s (.ref T) (.ref P) true := by
  by_cases e : T = P
  · subst e; exact EqAt.same _
  · have h := RcAt.tuples (A := A) (s := s) (e := fun _ => true) hT hP hu fun j h1 h2 => by
      have hj : j = 0 ∨ j = 1 := by simp at h1; omega
      rcases hj with rfl | rfl
      · have := EqAt.str_str (A := A.in1) (s := s) a t1 a t3
        simpa using this
      · have := EqAt.str_str (A := A.in1) (s := s) b t2 b t4
        simpa using this
    exact EqAt.of_refs e h
theorem pair_ne {T P : Nat} {a b : Str} {t1 t2 t3 t4 : Tok} {Q : Value → Shared → Prop} (hT : s.heap.IsTuple T #[.str a t1, .str b t2]) (hP : s.heap.IsTuple P #[.str a t3, .str b t4]) (hu : A.units < cLine) (h : Q (.bool false) s) :
    wpAny (model prog w) A (compareOp .NotEq (.ref T) (.ref P)) Q E s := by
  have h9 := RcNeAt.tuples (A := A) (s := s) (e := fun _ => true) hT hP hu fun j h1 h2 => by
    have hj : j = 0 ∨ j = 1 := by simp at h1; omega
    rcases hj with rfl | rfl
    · have := EqAt.str_str (A := A.in1) (s := s) a t1 a t3
      simpa using this
    · have := EqAt.str_str (A := A.in1) (s := s) b t2 b t4
      simpa using this
  exact h9 prog w E Q h
/-- two lists of pairs that say the same are not unequal -/
theorem pairs_ne {l b n n2 : Nat} {os : List Nat} {ta tb : Nat → Nat} {wv pv : Nat → Str} {Q : Value → Shared → Prop} (hl : s.heap.IsList l ((os.map fun j => Value.ref (ta j)).toArray)) (hb : s.heap.IsList b ((os.map fun j => Value.ref (tb j)).toArray))
    (h1 : ∀ j ∈ os, ∃ t u, s.heap.IsTuple (ta j) #[.str (wv j) t, .str (pv j) u]) (h2 : ∀ j ∈ os, ∃ t u, s.heap.IsTuple (tb j) #[.str (wv j) t, .str (pv j) u]) (hu : A.units < cLine) (hu1 : A.in1.units < cLine) (h : Q (.bool false) s) :
    wpAny (model prog w) A (compareOp .NotEq (.ref l) (.ref b)) Q E s := by
  have h9 := RcNeAt.lists (A := A) (s := s) (e := fun _ => true) hl hb (by simp) hu fun j a1 a2 => by
    have hj : j < os.length := by simpa using a1
    obtain ⟨t1, u1, e1⟩ := h1 os[j] (List.getElem_mem hj)
    obtain ⟨t2, u2, e2⟩ := h2 os[j] (List.getElem_mem hj)
    have := pair_eqAt (A := A.in1) e1 e2 hu1
    simpa using this
  refine h9 prog w E Q ?_
  have e9 : ((List.range ((os.map fun j => Value.ref (ta j)).toArray).size).all fun _ => true) = true := List.all_eq_true.mpr fun _ _ => rfl
  rw [e9]; exact h
end
end -- A52
example : True := by w_top off; trivial
section -- A53
open PyProof.Rows.LCg
/-- the plain walk over the ring's items -/
theorem walksR {prog : Program} {w : World} {A : Around} (hh : A.handled = none) (I x dx : Nat) (hne : x ≠ I) (xs : Array Value) (c : Nat) :
    Walks prog w A I [I, x] [I] xs.size (fun i v => xs[i]? = some v) (fun i h => h.get? I = some (iterObj x i) ∧ h.get? x = some (accObj dx xs c)) where
  sub := fun b hb => by simp at hb; simp [hb]
  frame := fun _ _ _ st hk => ⟨hk I (by simp) _ st.1, hk x (by simp) _ st.2⟩
  item := fun i s Q E hi st hQ => by
    obtain ⟨h, g, d, t, os⟩ := s
    refine acc_next st.1 st.2 (v := xs[i]) (by simp [hi]) fun h' k' hi' _ => ?_
    exact hQ xs[i] h' t (by simp [hi]) ⟨hi', k' _ _ hne st.2⟩ fun b o hb e => k' b o (fun h => hb (by simp [h])) e
  done := fun s Q E st hQ => by
    obtain ⟨h, g, d, t, os⟩ := s
    exact acc_done hh st.1 st.2 (by simp) fun h' k' => hQ h' t fun b o hb e => k' b o (fun h => hb (by simp [h])) e
  self := fun _ s _ _ st hQ => wpAny_pyIter_listiter (show s.heap.IsListIter I x _ from ⟨_, st.1, rfl, rfl⟩) hQ
section
variable {w : World} {A : Around} {E : Value → Shared → Prop} {s : Shared} {B : Heap} {L : Nat} {m : Str → Option Value} {env : Env}
/-- a comprehension over the ring itself -/
theorem ring_comp {elt iter : Expr} {y : Str} {px : Pos} {scope : Scope} {cl : List (Str × Addr)} {pos : Pos} {Q : Value → Shared → Prop} {x dx c : Nat} {xs : Array Value} {news : List (Addr × Obj)} (hh : A.handled = none)
    (X : (hd.heap_1 w.params).In B)
    (hclos : closureFor scope env = pure cl) (hcell : ∀ z ∈ scope.names, z.2 ≠ .cell) (hkind : scope.kind = .function)
    (hnames : ∀ z ∈ scope.names, z.2 = .local → scope.names.lookup z.1 = some .local) (hx : scope.names.lookup y = some .local) (hsz : xs.size ≤ sizeLine)
    (h : wpAny (model PG w) A (eval iter env) (fun xv s₁ => xv = .ref x ∧ Fr B L s₁.heap m ∧ News B L s₁.heap news ∧ (x, accObj dx xs c) ∈ news ∧
      ∀ s₂ : Shared, (∃ h, s₂ = { s₁ with heap := h }) → CompRest PG w A B L m env elt y scope cl s₂ (fun nw => (x, accObj dx xs c) ∈ nw) (fun i v => xs[i]? = some v) (FinE B L m s₂ Q) xs.size 0 [] news) E s)
    (hs : ∀ x, foldedSetIterable iter env x = pure x := by intro _; rfl) :
    wpAny (model PG w) A (eval (.ListComp elt [⟨.Name y px, iter, [], 0⟩] scope pos) env) Q E s := by
  rw [eval_ListComp]
  refine wpAny_comprehension_free (use := none) rfl hs hclos hkind hnames (wpAny_mono h (fun xv s₁ h₁ => ?_) fun _ _ e => e)
  obtain ⟨rfl, F, N, hm, R⟩ := h₁
  have hxm := N _ hm
  have hlt : x < s₁.heap.objs.size := Heap.lt_size hxm.1
  obtain ⟨h1, g1, d1, t1, os1⟩ := s₁
  refine acc_iter (X.keeps F.keep) hxm.1 ?_
  have up : ∀ b o, h1.get? b = some o → (h1.push (iterObj x 0)).get? b = some o := fun b o e => Heap.get?_push_of_some _ e
  refine block_U (s₂ := ⟨h1.push (iterObj x 0), g1, d1, t1, os1⟩) (walksR hh h1.objs.size x dx (Nat.ne_of_lt hlt) xs c) hsz (fun i h st => ⟨_, st.1⟩) (fun i h h' o nw st e e' k Nw S => ⟨by rw [st.1] at e; cases e; exact e', (Nw _ S).1⟩) hcell hkind hx ⟨Heap.get?_push_size _ rfl, up _ _ hxm.1⟩ (fun b hb => ?_)
    (F.keeps up) (N.grown up) (Nat.ne_of_lt F.ns.lt) (next_is_new F) (fun p hp => Nat.ne_of_lt (Heap.lt_size (N p hp).1)) hm (R _ ⟨_, rfl⟩) ?_
  · show b < (h1.push _).objs.size
    rw [Heap.size_push]
    rcases List.mem_cons.mp hb with rfl | hb
    · exact Nat.lt_succ_self _
    · rw [List.mem_singleton.mp hb]; exact Nat.lt_succ_of_lt hlt
  · intro D C h tk m' ys news' F' N' o1 hn hC₀ hD₀ hCL hDL hCD offC fin
    refine ⟨m', hn, fun h'' hs'' => fin D h'' tk (F'.change hs'' hCL hC₀) (fun p hp => ?_) o1⟩
    refine ⟨hs''.extBut _ _ ?_ (N' p hp).1, (N' p hp).2⟩
    rcases List.mem_cons.mp hp with rfl | hp
    · exact Ne.symm hCD
    · exact offC p hp
end
end -- A53
example : True := by w_top off; trivial
local macro_rules | `(tactic| walk_at "binaryOp Add ref ref") => `(tactic| (k_here; (with_reducible show wpAny _ _ (binaryOp _ (Value.ref _) (Value.ref _)) _ _ _); k_dflt (refine' kmk_add_ints ?F ?N ?a ?b ?i ?j ?_ ?z; (case F => k_asm); (case N => k_asm); (case a => kmk_list); (case b => kmk_list); (case i => l_ints); (case j => l_ints); (case z => kmk_sum)); intro D' ws' h' F' N' l1 hI'; (try k_lt l1); (try k_sweep)))
local macro_rules | `(tactic| walk_at "binaryOp Add ref ref") => `(tactic| (k_here; (with_reducible show wpAny _ _ (binaryOp _ (Value.ref _) (Value.ref _)) _ _ _); k_dflt (refine' kmk_add_lit ?F ?N ?a ?b ?e ?_ ?z; (case F => k_asm); (case N => k_asm); (case a => kmk_list); (case b => kmk_list); (case e => kl_lit); (case z => kl_room)); intro D' h' F' N' l1; (try k_lt l1); (try k_sweep)))
local macro_rules | `(tactic| walk_at "mine st") => `(tactic| (k_dflt (refine' storeX_L ?F ?N ?_ ?a ?b; (case F => k_asm); (case N => k_asm); (case a => rfl); (case b => rfl); k_whole; intro h' F' N'; (try k_sweep))))
section -- A41
theorem news_cons {h₀ h : Heap} {L a : Nat} {o : Obj} {news : List (Addr × Obj)} (N : News h₀ L h news) (ha : h.get? a = some o) (hL : a ≠ L) (hn : h₀.get? a = none) : News h₀ L h ((a, o) :: news) := fun p hp => by
  rcases List.mem_cons.mp hp with rfl | hp
  · exact ⟨ha, hL, hn⟩
  · exact N p hp
theorem news_tail {h₀ h : Heap} {L : Nat} {q : Addr × Obj} {news : List (Addr × Obj)} (N : News h₀ L h (q :: news)) : News h₀ L h news := fun p hp => N p (.tail _ hp)
theorem none_below {h₀ h : Heap} {L a : Nat} {m : Str → Option Value} (F : Fr h₀ L h m) (ha : h.get? a = none) : h₀.get? a = none := by
  cases q : h₀.get? a with
  | none => rfl
  | some o => rw [F.keep _ _ q] at ha; cases ha
theorem ite_row {m : Str → Option Value} {x : Str} {v : Value} (h : m x = some v) (y : Str) : m y = if y = x then some v else m y := by
  by_cases e : y = x
  · rw [if_pos e, e, h]
  · rw [if_neg e]
noncomputable def replyT0 : List Stmt := match (lawBody[4]? : Option Stmt) with | some (Stmt.For _ _ b _ _) => b | _ => []
noncomputable def replyTP : { x : List Stmt // replyT0 = x } := ⟨_, by conv => lhs; whnf⟩
section
local macro_rules | `(tactic| k_all) => `(tactic| assumption)
variable {w : World} {s : Shared} {dp un : Nat} {gd : Option (List Code)} {p : Program} {loose : List Str} {mg mb : Str → Option Value} {mean : ExcName → Option Value} {B : Heap} {L fa : Nat} {cd : Value} {E : Value → Shared → Prop} {P : Flow → Shared → Prop}
theorem reply_turn {c : Int} {tc : Tok} {rv : Array Value} {k l I : Nat} {it : Obj} {rest : List (Addr × Obj)} {m0 : Str → Option Value} (hdp : dp + 20 < recursionLimit) (b : 0 ≤ c ∧ c < 1000000)
    (X : (hd.heap_1 w.params).In B) (T : Top p loose mean mg mb B) (hrv : rv.size ≤ 4)
    (F : Fr B L s.heap (fun y => if y = "x" then some (.int c tc) else if y = "row" then some (.ref l) else m0 y)) (N : News B L s.heap ((I, it) :: (l, listOf rv k) :: rest)) (hI : I ≠ l) (hr : ∀ q ∈ rest, q.1 ≠ l)
    (h : ∀ (n : Int) u k' (m1 : Str → Option Value) h' tk, (0 ≤ n ∧ n ≤ 30) → Fr B L h' (fun y => if y = "row" then some (.ref l) else m1 y) → News B L h' ((I, it) :: (l, listOf (rv.push (.int n u)) k') :: rest) → P .next { s with heap := h', toks := tk }) :
    wpAny (model PG w) (AA dp un gd [lawE L fa cd]) (execs replyTP.1 (lawE L fa cd)) P E s := by
  conv in (replyTP.val) => whnf
  iterate 9 walk1
  rename Fr _ _ _ _ => Fa
  rename News _ _ _ _ => Na
  refine wpAny_call (law_reply (s := ⟨_, s.gens, s.drawn, _, s.os⟩) (p := p) (loose := loose) (mean := mean) (mg := mg) (mb := mb) (by omega) (by omega) (by omega) (X.keeps Fa.keep) (T.keeps Fa.keep) fun h₁ t₁ a rp W due0 tr tw td hk ha hat htold0 => ?_)
  have hNE0 : (due0 != due0) = false := by simp
  have hdl0 : due0.length ≤ 30 := htold0.2.2.2.1
  have Fb := fr_up Fa hk
  have Nb := news_cons (news_up Na hk) hat (by rintro rfl; obtain ⟨o, _, _, e, _⟩ := Fa.ns; rw [e] at ha; cases ha) (none_below Fa ha)
  clear Fa Na hk ha hat
  iterate 25 walk1
  rename Fr _ _ _ _ => Fa
  rename News _ _ _ _ => Na
  refine wpAny_call (told_safe (s := ⟨_, s.gens, s.drawn, _, s.os⟩) (p := p) (loose := loose) (mean := mean) (mg := mg) (mb := mb) htold0 (by omega) X T Fa rfl rfl fun h₂ t₂ td₂ hk hns => ?_)
  have Fb := fr_upL Fa hk hns
  have Nb := news_upL (news_tail Na) hk
  clear Fa Na hk hns htold0
  iterate 29 walk1
  rename Fr _ _ _ _ => Fz
  rename News _ _ _ _ => Nz
  exact h _ _ _ _ _ _ (by omega) (fr_congr Fz (ite_row (x := "row") rfl)) Nz
end
section
variable {w : World} {s : Shared} {R : Result → Shared → Prop} {dp un : Nat} {gd : Option (List Code)} {p : Program} {loose : List Str} {mg mb : Str → Option Value} {mean : ExcName → Option Value} {B : Heap} {L fa : Nat} {cd : Value} {Q : Flow → Shared → Prop}
theorem lawP2 {c0 c1 c2 c3 : Int} {t0 t1 t2 t3 : Tok} {n D : Nat} {o1 o2 o3 o4 : Obj} {m0 : Str → Option Value} (hdp : dp + 20 < recursionLimit) (b0 : 0 ≤ c0 ∧ c0 < 1000000) (b1 : 0 ≤ c1 ∧ c1 < 1000000) (b2 : 0 ≤ c2 ∧ c2 < 1000000) (b3 : 0 ≤ c3 ∧ c3 < 1000000)
    (X : (hd.heap_1 w.params).In B) (T : Top p loose mean mg mb B) (hD : L + 4 < D)
    (F : Fr B L s.heap (fun y => if y = "cells" then some (.ref D) else m0 y)) (N : News B L s.heap [(D, listOf #[.int c0 t0, .int c1 t1, .int c2 t2, .int c3 t3] n), (L + 4, o4), (L + 3, o3), (L + 2, o2), (L + 1, o1)])
    (hd1 : o1.data = .cell none) (hd2 : o2.data = .cell none) (hd3 : o3.data = .cell none) (hd4 : o4.data = .cell none)
    (h : ∀ (n0 n1 n2 n3 : Int) u0 u1 u2 u3 tt k (l : Nat) (o1' : Obj) (m1 : Str → Option Value) h' tk, (0 ≤ n0 ∧ n0 ≤ 30) → (0 ≤ n1 ∧ n1 ≤ 30) → (0 ≤ n2 ∧ n2 ≤ 30) → (0 ≤ n3 ∧ n3 ≤ 30) → L + 4 < l →
      Fr B L h' (fun y => if y = "row" then some (.ref l) else m1 y) → News B L h' [(l, listOf #[.int n0 u0, .int n1 u1, .int n2 u2, .int n3 u3] k), (L + 4, o4), (L + 3, o3), (L + 2, o2), (L + 1, o1')] → o1'.data = .cell (some (.int (c0 + (c1 + (c2 + (c3 + 0)))) tt)) →
      wpAny (model PG w) (AA dp un gd [lawE L fa cd]) (execs (lawBody.drop 5) (lawE L fa cd)) Q (lawEE w (AA dp un gd [lawE L fa cd]) (lawE L fa cd) R) { s with heap := h', toks := tk }) :
    wpAny (model PG w) (AA dp un gd [lawE L fa cd]) (execs (lawBody.drop 2) (lawE L fa cd)) Q (lawEE w (AA dp un gd [lawE L fa cd]) (lawE L fa cd) R) s := by
  refine step_at (k := 2) (st := ?st2) ?hk ?_
  case hk => conv => lhs; whnf
  iterate 9 walk1
  refine step_at (k := 3) (st := ?st3) ?hk ?_
  case hk => conv => lhs; whnf
  iterate 5 walk1
  refine renorm (g := s.gens) (d := s.drawn) (o := s.os) fun tk9 => ?_
  refine step_at (k := 4) (st := ?st4) ?hk ?_
  case hk => conv => lhs; whnf
  iterate 3 walk1
  refine ListRest.succ (fun it1 h1 tk1 hit1 F1 N1 => ?_)
  refine reply_turn (s := ⟨h1, s.gens, s.drawn, tk1, s.os⟩) hdp b0 X T (by decide) F1 N1 (by omega) (by k_all) fun n0 u0 k0 m1 h2 tk2 e0 F2 N2 => ?_
  refine ⟨_, _, _, _, rfl, F2, N2, (by k_all), .tail _ (.head _), ?_⟩
  clear F1 N1 F2 N2
  refine ListRest.succ (fun it1 h1 tk1 hit1 F1 N1 => ?_)
  refine reply_turn (s := ⟨h1, s.gens, s.drawn, tk1, s.os⟩) hdp b1 X T (by exact (by decide : (1 : Nat) ≤ 4)) F1 N1 (by omega) (by k_all) fun n1 u1 k1 m1 h2 tk2 e1 F2 N2 => ?_
  refine ⟨_, _, _, _, rfl, F2, N2, (by k_all), .tail _ (.head _), ?_⟩
  clear F1 N1 F2 N2
  refine ListRest.succ (fun it1 h1 tk1 hit1 F1 N1 => ?_)
  refine reply_turn (s := ⟨h1, s.gens, s.drawn, tk1, s.os⟩) hdp b2 X T (by exact (by decide : (2 : Nat) ≤ 4)) F1 N1 (by omega) (by k_all) fun n2 u2 k2 m1 h2 tk2 e2 F2 N2 => ?_
  refine ⟨_, _, _, _, rfl, F2, N2, (by k_all), .tail _ (.head _), ?_⟩
  clear F1 N1 F2 N2
  refine ListRest.succ (fun it1 h1 tk1 hit1 F1 N1 => ?_)
  refine reply_turn (s := ⟨h1, s.gens, s.drawn, tk1, s.os⟩) hdp b3 X T (by exact (by decide : (3 : Nat) ≤ 4)) F1 N1 (by omega) (by k_all) fun n3 u3 k3 m1 h2 tk2 e3 F2 N2 => ?_
  refine ⟨_, _, _, _, rfl, F2, N2, (by k_all), .tail _ (.head _), ?_⟩
  clear F1 N1 F2 N2
  refine ListRest.zero (fun h9 tk9 F9 N9 => ?_)
  dsimp only
  have lz : D < _ := (‹D < _ ∧ L + 4 < _ ∧ L + 3 < _ ∧ L + 2 < _ ∧ L + 1 < _›).1
  refine' h n0 n1 n2 n3 _ _ _ _ _ _ _ _ _ _ _ e0 e1 e2 e3 ?lt F9 (fun p hp => N9 p ?nw) (by assumption)
  case lt => exact Nat.lt_trans hD (by assumption)
  case nw =>
    rcases List.mem_cons.mp hp with rfl | hp
    · exact .head _
    · exact .tail _ (.tail _ hp)
end
end -- A41
example : True := by w_top off; trivial
section -- A42
noncomputable def extOf (tot : Int) : List Int := if tot.fmod 3 = 0 then [0] else if tot.fmod 3 = 1 then [] else [127, 1]
/-- what the sizes are, against the generator's answers -/
noncomputable def Five (n0 n1 n2 n3 tot s0 s1 s2 s3 s4 : Int) : Prop :=
  giOut ([n0, n1, n2, n3] ++ extOf tot) none 0 = .yld s0 ∧ giOut ([n0, n1, n2, n3] ++ extOf tot) none 1 = .yld s1 ∧ giOut ([n0, n1, n2, n3] ++ extOf tot) none 2 = .yld s2 ∧
  giOut ([n0, n1, n2, n3] ++ extOf tot) none 3 = .yld s3 ∧ giOut ([n0, n1, n2, n3] ++ extOf tot) none 4 = .yld s4 ∧ ∃ z, giOut ([n0, n1, n2, n3] ++ extOf tot) none 5 = .yld z
noncomputable def OneToFour (fr : Array Value) : Prop := (∃ a t, fr = #[.int a t]) ∨ (∃ a t b u, fr = #[.int a t, .int b u]) ∨ (∃ a t b u c v, fr = #[.int a t, .int b u, .int c v]) ∨ (∃ a t b u c v d x, fr = #[.int a t, .int b u, .int c v, .int d x])
noncomputable def Shape (n0 n1 n2 n3 tot : Int) (fr sv : Array Value) : Prop :=
  (n0 = 0 ∧ fr = #[] ∧ sv = #[]) ∨
  (n0 ≠ 0 ∧ OneToFour fr ∧ ∃ s0 s1 s2 s3 s4 t0 t1 t2 t3 t4, sv = #[.int s0 t0, .int s1 t1, .int s2 t2, .int s3 t3, .int s4 t4] ∧ Five n0 n1 n2 n3 tot s0 s1 s2 s3 s4) ∨
  (n0 ≠ 0 ∧ n1 ≠ 0 ∧ n2 ≠ 0 ∧ n3 ≠ 0 ∧ tot.fmod 3 ≠ 0 ∧ OneToFour fr ∧ ∃ t0 t1 t2 t3, sv = #[.int n0 t0, .int n1 t1, .int n2 t2, .int n3 t3])
theorem wi {a : Int} (h : 0 ≤ a ∧ a ≤ 30) : (if a = 0 then 0 else a.natAbs.log2 + 1) ≤ 31 := by
  split
  · omega
  · have := Nat.log2_le_self a.natAbs
    omega
theorem lay5 {a b c d : Int} (ha : 0 ≤ a ∧ a ≤ 30) (hb : 0 ≤ b ∧ b ≤ 30) (hc : 0 ≤ c ∧ c ≤ 30) (hd : 0 ≤ d ∧ d ≤ 30) : PyData.layable0 (.list ([a, b, c, d, 0].map .int)) = true := by
  have h1 := wi ha
  have h2 := wi hb
  have h3 := wi hc
  have h4 := wi hd
  simp [PyData.layable0, PyData.canLay0, PyData.canLayAll0, PyData.depth, PyData.depthAll, PyData.weight, PyData.weightAll]
  omega
theorem ne127 {n : Int} (h : n ≤ 30) : n ≠ 127 := by omega
theorem five_1 {n0 n2 n3 tot : Int} (b0 : n0 ≤ 30) (e0 : n0 ≠ 0) : Five n0 0 n2 n3 tot n0 n0 n0 n0 n0 := by
  have h0 := ne127 b0
  refine ⟨?_, ?_, ?_, ?_, ?_, n0, ?_⟩ <;> simp [giOut, e0, h0]
theorem five_2 {n0 n1 n3 tot : Int} (b0 : n0 ≤ 30) (b1 : n1 ≤ 30) (e0 : n0 ≠ 0) (e1 : n1 ≠ 0) : Five n0 n1 0 n3 tot n0 n1 n1 n1 n1 := by
  have h0 := ne127 b0
  have h1 := ne127 b1
  refine ⟨?_, ?_, ?_, ?_, ?_, n1, ?_⟩ <;> simp [giOut, e0, h0, e1, h1]
theorem five_3 {n0 n1 n2 tot : Int} (b0 : n0 ≤ 30) (b1 : n1 ≤ 30) (b2 : n2 ≤ 30) (e0 : n0 ≠ 0) (e1 : n1 ≠ 0) (e2 : n2 ≠ 0) : Five n0 n1 n2 0 tot n0 n1 n2 n2 n2 := by
  have h0 := ne127 b0
  have h1 := ne127 b1
  have h2 := ne127 b2
  refine ⟨?_, ?_, ?_, ?_, ?_, n2, ?_⟩ <;> simp [giOut, e0, h0, e1, h1, e2, h2]
theorem five_4 {n0 n1 n2 n3 tot : Int} (b0 : n0 ≤ 30) (b1 : n1 ≤ 30) (b2 : n2 ≤ 30) (b3 : n3 ≤ 30) (e0 : n0 ≠ 0) (e1 : n1 ≠ 0) (e2 : n2 ≠ 0) (e3 : n3 ≠ 0) (et : tot.fmod 3 = 0) : Five n0 n1 n2 n3 tot n0 n1 n2 n3 n3 := by
  have h0 := ne127 b0
  have h1 := ne127 b1
  have h2 := ne127 b2
  have h3 := ne127 b3
  refine ⟨?_, ?_, ?_, ?_, ?_, n3, ?_⟩ <;> simp [giOut, extOf, et, e0, h0, e1, h1, e2, h2, e3, h3]
section
variable {w : World} {s : Shared} {R : Result → Shared → Prop} {dp un : Nat} {gd : Option (List Code)} {p : Program} {loose : List Str} {mg mb : Str → Option Value} {mean : ExcName → Option Value} {B : Heap} {L fa : Nat} {cd : Value} {Q : Flow → Shared → Prop}
theorem lawP3_0 {n0 n1 n2 n3 tot : Int} {u0 u1 u2 u3 tt : Tok} {k l : Nat} {o1 o2 o3 o4 : Obj} {m0 : Str → Option Value} (hdp : dp + 20 < recursionLimit) (b0 : 0 ≤ n0 ∧ n0 ≤ 30) (b1 : 0 ≤ n1 ∧ n1 ≤ 30) (b2 : 0 ≤ n2 ∧ n2 ≤ 30) (b3 : 0 ≤ n3 ∧ n3 ≤ 30)
    (X : (hd.heap_1 w.params).In B) (T : Top p loose mean mg mb B) (hl : L + 4 < l)
    (F : Fr B L s.heap (fun y => if y = "row" then some (.ref l) else m0 y)) (N : News B L s.heap [(l, listOf #[.int n0 u0, .int n1 u1, .int n2 u2, .int n3 u3] k), (L + 4, o4), (L + 3, o3), (L + 2, o2), (L + 1, o1)])
    (hd1 : o1.data = .cell (some (.int tot tt))) (hd2 : o2.data = .cell none) (hd3 : o3.data = .cell none) (hd4 : o4.data = .cell none)
     (e0 : n0 = 0)
    (h : ∀ fr sv (lf ls : Nat) kf ks (o2' : Obj) (m1 : Str → Option Value) h' tk, Shape n0 n1 n2 n3 tot fr sv → L + 4 < lf → L + 4 < ls → Fr B L h' (fun y => if y = "front" then some (.ref lf) else if y = "row" then some (.ref l) else m1 y) →
      News B L h' [(lf, listOf fr kf), (ls, listOf sv ks), (l, listOf #[.int n0 u0, .int n1 u1, .int n2 u2, .int n3 u3] k), (L + 4, o4), (L + 3, o3), (L + 2, o2'), (L + 1, o1)] → o2'.data = .cell (some (.ref ls)) →
      wpAny (model PG w) (AA dp un gd [lawE L fa cd]) (execs (lawBody.drop 8) (lawE L fa cd)) Q (lawEE w (AA dp un gd [lawE L fa cd]) (lawE L fa cd) R) { s with heap := h', toks := tk }) :
    wpAny (model PG w) (AA dp un gd [lawE L fa cd]) (execs (lawBody.drop 5) (lawE L fa cd)) Q (lawEE w (AA dp un gd [lawE L fa cd]) (lawE L fa cd) R) s := by
  refine step_at (k := 5) (st := ?st5) ?hk ?_
  case hk => conv => lhs; whnf
  subst e0
  iterate 20 walk1
  rename News _ _ _ _ => Na
  refine index_list_ints (vs := [.int 0 _, .int n1 _, .int n2 _, .int n3 _, .int 0 _]) (ns := [0, n1, n2, n3, 0]) (Na.isList (.head _)) (.cons _ _ (.cons _ _ (.cons _ _ (.cons _ _ (.cons _ _ .nil))))) (lay5 b0 b1 b2 b3) (by simp) ?_
  rw [show [0, n1, n2, n3, 0].idxOf 0 = 0 from by simp [List.idxOf_cons]]
  iterate 3 walk1
  refine step_at (k := 6) (st := ?st6) ?hk ?_
  case hk => conv => lhs; whnf
  iterate 3 walk1
  refine step_at (k := 7) (st := ?st7) ?hk ?_
  case hk => conv => lhs; whnf
  iterate 44 walk1
  rename Fr _ _ _ _ => Fz
  rename News _ _ _ _ => Nz
  refine' h (#[]) (#[]) _ _ 0 0 _ _ _ _ (.inl ⟨rfl, rfl, rfl⟩) ?lt ?lt2 (fr_congr Fz fun y => rfl) (fun p hp => Nz p ?nw) (by assumption)
  case lt => omega
  case lt2 => omega
  case nw =>
    simp only [List.mem_cons, List.not_mem_nil, or_false] at hp
    rcases hp with rfl | rfl | rfl | rfl | rfl | rfl | rfl <;> k_mem
theorem lawP3_1 {n0 n1 n2 n3 tot : Int} {u0 u1 u2 u3 tt : Tok} {k l : Nat} {o1 o2 o3 o4 : Obj} {m0 : Str → Option Value} (hdp : dp + 20 < recursionLimit) (b0 : 0 ≤ n0 ∧ n0 ≤ 30) (b1 : 0 ≤ n1 ∧ n1 ≤ 30) (b2 : 0 ≤ n2 ∧ n2 ≤ 30) (b3 : 0 ≤ n3 ∧ n3 ≤ 30)
    (X : (hd.heap_1 w.params).In B) (T : Top p loose mean mg mb B) (hl : L + 4 < l)
    (F : Fr B L s.heap (fun y => if y = "row" then some (.ref l) else m0 y)) (N : News B L s.heap [(l, listOf #[.int n0 u0, .int n1 u1, .int n2 u2, .int n3 u3] k), (L + 4, o4), (L + 3, o3), (L + 2, o2), (L + 1, o1)])
    (hd1 : o1.data = .cell (some (.int tot tt))) (hd2 : o2.data = .cell none) (hd3 : o3.data = .cell none) (hd4 : o4.data = .cell none)
    (e0 : n0 ≠ 0) (e1 : n1 = 0)
    (h : ∀ fr sv (lf ls : Nat) kf ks (o2' : Obj) (m1 : Str → Option Value) h' tk, Shape n0 n1 n2 n3 tot fr sv → L + 4 < lf → L + 4 < ls → Fr B L h' (fun y => if y = "front" then some (.ref lf) else if y = "row" then some (.ref l) else m1 y) →
      News B L h' [(lf, listOf fr kf), (ls, listOf sv ks), (l, listOf #[.int n0 u0, .int n1 u1, .int n2 u2, .int n3 u3] k), (L + 4, o4), (L + 3, o3), (L + 2, o2'), (L + 1, o1)] → o2'.data = .cell (some (.ref ls)) →
      wpAny (model PG w) (AA dp un gd [lawE L fa cd]) (execs (lawBody.drop 8) (lawE L fa cd)) Q (lawEE w (AA dp un gd [lawE L fa cd]) (lawE L fa cd) R) { s with heap := h', toks := tk }) :
    wpAny (model PG w) (AA dp un gd [lawE L fa cd]) (execs (lawBody.drop 5) (lawE L fa cd)) Q (lawEE w (AA dp un gd [lawE L fa cd]) (lawE L fa cd) R) s := by
  refine step_at (k := 5) (st := ?st5) ?hk ?_
  case hk => conv => lhs; whnf
  subst e1
  iterate 20 walk1
  rename News _ _ _ _ => Na
  refine index_list_ints (vs := [.int n0 _, .int 0 _, .int n2 _, .int n3 _, .int 0 _]) (ns := [n0, 0, n2, n3, 0]) (Na.isList (.head _)) (.cons _ _ (.cons _ _ (.cons _ _ (.cons _ _ (.cons _ _ .nil))))) (lay5 b0 b1 b2 b3) (by simp) ?_
  rw [show [n0, 0, n2, n3, 0].idxOf 0 = 1 from by simp [List.idxOf_cons, beq_false_of_ne e0]]
  iterate 3 walk1
  refine step_at (k := 6) (st := ?st6) ?hk ?_
  case hk => conv => lhs; whnf
  iterate 3 walk1
  refine step_at (k := 7) (st := ?st7) ?hk ?_
  case hk => conv => lhs; whnf
  iterate 44 walk1
  rename Fr _ _ _ _ => Fz
  rename News _ _ _ _ => Nz
  refine' h (#[.int n0 u0]) (#[.int n0 u0, .int n0 u0, .int n0 u0, .int n0 u0, .int n0 u0]) _ _ 0 0 _ _ _ _ (.inr (.inl ⟨e0, .inl ⟨_, _, rfl⟩, _, _, _, _, _, _, _, _, _, _, rfl, five_1 b0.2 e0⟩)) ?lt ?lt2 (fr_congr Fz fun y => rfl) (fun p hp => Nz p ?nw) (by assumption)
  case lt => omega
  case lt2 => omega
  case nw =>
    simp only [List.mem_cons, List.not_mem_nil, or_false] at hp
    rcases hp with rfl | rfl | rfl | rfl | rfl | rfl | rfl <;> k_mem
theorem lawP3_2 {n0 n1 n2 n3 tot : Int} {u0 u1 u2 u3 tt : Tok} {k l : Nat} {o1 o2 o3 o4 : Obj} {m0 : Str → Option Value} (hdp : dp + 20 < recursionLimit) (b0 : 0 ≤ n0 ∧ n0 ≤ 30) (b1 : 0 ≤ n1 ∧ n1 ≤ 30) (b2 : 0 ≤ n2 ∧ n2 ≤ 30) (b3 : 0 ≤ n3 ∧ n3 ≤ 30)
    (X : (hd.heap_1 w.params).In B) (T : Top p loose mean mg mb B) (hl : L + 4 < l)
    (F : Fr B L s.heap (fun y => if y = "row" then some (.ref l) else m0 y)) (N : News B L s.heap [(l, listOf #[.int n0 u0, .int n1 u1, .int n2 u2, .int n3 u3] k), (L + 4, o4), (L + 3, o3), (L + 2, o2), (L + 1, o1)])
    (hd1 : o1.data = .cell (some (.int tot tt))) (hd2 : o2.data = .cell none) (hd3 : o3.data = .cell none) (hd4 : o4.data = .cell none)
    (e0 : n0 ≠ 0) (e1 : n1 ≠ 0) (e2 : n2 = 0)
    (h : ∀ fr sv (lf ls : Nat) kf ks (o2' : Obj) (m1 : Str → Option Value) h' tk, Shape n0 n1 n2 n3 tot fr sv → L + 4 < lf → L + 4 < ls → Fr B L h' (fun y => if y = "front" then some (.ref lf) else if y = "row" then some (.ref l) else m1 y) →
      News B L h' [(lf, listOf fr kf), (ls, listOf sv ks), (l, listOf #[.int n0 u0, .int n1 u1, .int n2 u2, .int n3 u3] k), (L + 4, o4), (L + 3, o3), (L + 2, o2'), (L + 1, o1)] → o2'.data = .cell (some (.ref ls)) →
      wpAny (model PG w) (AA dp un gd [lawE L fa cd]) (execs (lawBody.drop 8) (lawE L fa cd)) Q (lawEE w (AA dp un gd [lawE L fa cd]) (lawE L fa cd) R) { s with heap := h', toks := tk }) :
    wpAny (model PG w) (AA dp un gd [lawE L fa cd]) (execs (lawBody.drop 5) (lawE L fa cd)) Q (lawEE w (AA dp un gd [lawE L fa cd]) (lawE L fa cd) R) s := by
  refine step_at (k := 5) (st := ?st5) ?hk ?_
  case hk => conv => lhs; whnf
  subst e2
  iterate 20 walk1
  rename News _ _ _ _ => Na
  refine index_list_ints (vs := [.int n0 _, .int n1 _, .int 0 _, .int n3 _, .int 0 _]) (ns := [n0, n1, 0, n3, 0]) (Na.isList (.head _)) (.cons _ _ (.cons _ _ (.cons _ _ (.cons _ _ (.cons _ _ .nil))))) (lay5 b0 b1 b2 b3) (by simp) ?_
  rw [show [n0, n1, 0, n3, 0].idxOf 0 = 2 from by simp [List.idxOf_cons, beq_false_of_ne e0, beq_false_of_ne e1]]
  iterate 3 walk1
  refine step_at (k := 6) (st := ?st6) ?hk ?_
  case hk => conv => lhs; whnf
  iterate 3 walk1
  refine step_at (k := 7) (st := ?st7) ?hk ?_
  case hk => conv => lhs; whnf
  iterate 44 walk1
  rename Fr _ _ _ _ => Fz
  rename News _ _ _ _ => Nz
  refine' h (#[.int n0 u0, .int n1 u1]) (#[.int n0 u0, .int n1 u1, .int n1 u1, .int n1 u1, .int n1 u1]) _ _ 0 0 _ _ _ _ (.inr (.inl ⟨e0, .inr (.inl ⟨_, _, _, _, rfl⟩), _, _, _, _, _, _, _, _, _, _, rfl, five_2 b0.2 b1.2 e0 e1⟩)) ?lt ?lt2 (fr_congr Fz fun y => rfl) (fun p hp => Nz p ?nw) (by assumption)
  case lt => omega
  case lt2 => omega
  case nw =>
    simp only [List.mem_cons, List.not_mem_nil, or_false] at hp
    rcases hp with rfl | rfl | rfl | rfl | rfl | rfl | rfl <;> k_mem
theorem lawP3_3 {n0 n1 n2 n3 tot : Int} {u0 u1 u2 u3 tt : Tok} {k l : Nat} {o1 o2 o3 o4 : Obj} {m0 : Str → Option Value} (hdp : dp + 20 < recursionLimit) (b0 : 0 ≤ n0 ∧ n0 ≤ 30) (b1 : 0 ≤ n1 ∧ n1 ≤ 30) (b2 : 0 ≤ n2 ∧ n2 ≤ 30) (b3 : 0 ≤ n3 ∧ n3 ≤ 30)
    (X : (hd.heap_1 w.params).In B) (T : Top p loose mean mg mb B) (hl : L + 4 < l)
    (F : Fr B L s.heap (fun y => if y = "row" then some (.ref l) else m0 y)) (N : News B L s.heap [(l, listOf #[.int n0 u0, .int n1 u1, .int n2 u2, .int n3 u3] k), (L + 4, o4), (L + 3, o3), (L + 2, o2), (L + 1, o1)])
    (hd1 : o1.data = .cell (some (.int tot tt))) (hd2 : o2.data = .cell none) (hd3 : o3.data = .cell none) (hd4 : o4.data = .cell none)
    (e0 : n0 ≠ 0) (e1 : n1 ≠ 0) (e2 : n2 ≠ 0) (e3 : n3 = 0)
    (h : ∀ fr sv (lf ls : Nat) kf ks (o2' : Obj) (m1 : Str → Option Value) h' tk, Shape n0 n1 n2 n3 tot fr sv → L + 4 < lf → L + 4 < ls → Fr B L h' (fun y => if y = "front" then some (.ref lf) else if y = "row" then some (.ref l) else m1 y) →
      News B L h' [(lf, listOf fr kf), (ls, listOf sv ks), (l, listOf #[.int n0 u0, .int n1 u1, .int n2 u2, .int n3 u3] k), (L + 4, o4), (L + 3, o3), (L + 2, o2'), (L + 1, o1)] → o2'.data = .cell (some (.ref ls)) →
      wpAny (model PG w) (AA dp un gd [lawE L fa cd]) (execs (lawBody.drop 8) (lawE L fa cd)) Q (lawEE w (AA dp un gd [lawE L fa cd]) (lawE L fa cd) R) { s with heap := h', toks := tk }) :
    wpAny (model PG w) (AA dp un gd [lawE L fa cd]) (execs (lawBody.drop 5) (lawE L fa cd)) Q (lawEE w (AA dp un gd [lawE L fa cd]) (lawE L fa cd) R) s := by
  refine step_at (k := 5) (st := ?st5) ?hk ?_
  case hk => conv => lhs; whnf
  subst e3
  iterate 20 walk1
  rename News _ _ _ _ => Na
  refine index_list_ints (vs := [.int n0 _, .int n1 _, .int n2 _, .int 0 _, .int 0 _]) (ns := [n0, n1, n2, 0, 0]) (Na.isList (.head _)) (.cons _ _ (.cons _ _ (.cons _ _ (.cons _ _ (.cons _ _ .nil))))) (lay5 b0 b1 b2 b3) (by simp) ?_
  rw [show [n0, n1, n2, 0, 0].idxOf 0 = 3 from by simp [List.idxOf_cons, beq_false_of_ne e0, beq_false_of_ne e1, beq_false_of_ne e2]]
  iterate 3 walk1
  refine step_at (k := 6) (st := ?st6) ?hk ?_
  case hk => conv => lhs; whnf
  iterate 3 walk1
  refine step_at (k := 7) (st := ?st7) ?hk ?_
  case hk => conv => lhs; whnf
  iterate 44 walk1
  rename Fr _ _ _ _ => Fz
  rename News _ _ _ _ => Nz
  refine' h (#[.int n0 u0, .int n1 u1, .int n2 u2]) (#[.int n0 u0, .int n1 u1, .int n2 u2, .int n2 u2, .int n2 u2]) _ _ 0 0 _ _ _ _ (.inr (.inl ⟨e0, .inr (.inr (.inl ⟨_, _, _, _, _, _, rfl⟩)), _, _, _, _, _, _, _, _, _, _, rfl, five_3 b0.2 b1.2 b2.2 e0 e1 e2⟩)) ?lt ?lt2 (fr_congr Fz fun y => rfl) (fun p hp => Nz p ?nw) (by assumption)
  case lt => omega
  case lt2 => omega
  case nw =>
    simp only [List.mem_cons, List.not_mem_nil, or_false] at hp
    rcases hp with rfl | rfl | rfl | rfl | rfl | rfl | rfl <;> k_mem
theorem lawP3_4a {n0 n1 n2 n3 tot : Int} {u0 u1 u2 u3 tt : Tok} {k l : Nat} {o1 o2 o3 o4 : Obj} {m0 : Str → Option Value} (hdp : dp + 20 < recursionLimit) (b0 : 0 ≤ n0 ∧ n0 ≤ 30) (b1 : 0 ≤ n1 ∧ n1 ≤ 30) (b2 : 0 ≤ n2 ∧ n2 ≤ 30) (b3 : 0 ≤ n3 ∧ n3 ≤ 30)
    (X : (hd.heap_1 w.params).In B) (T : Top p loose mean mg mb B) (hl : L + 4 < l)
    (F : Fr B L s.heap (fun y => if y = "row" then some (.ref l) else m0 y)) (N : News B L s.heap [(l, listOf #[.int n0 u0, .int n1 u1, .int n2 u2, .int n3 u3] k), (L + 4, o4), (L + 3, o3), (L + 2, o2), (L + 1, o1)])
    (hd1 : o1.data = .cell (some (.int tot tt))) (hd2 : o2.data = .cell none) (hd3 : o3.data = .cell none) (hd4 : o4.data = .cell none)
    (e0 : n0 ≠ 0) (e1 : n1 ≠ 0) (e2 : n2 ≠ 0) (e3 : n3 ≠ 0) (et : tot.fmod 3 = 0)
    (h : ∀ fr sv (lf ls : Nat) kf ks (o2' : Obj) (m1 : Str → Option Value) h' tk, Shape n0 n1 n2 n3 tot fr sv → L + 4 < lf → L + 4 < ls → Fr B L h' (fun y => if y = "front" then some (.ref lf) else if y = "row" then some (.ref l) else m1 y) →
      News B L h' [(lf, listOf fr kf), (ls, listOf sv ks), (l, listOf #[.int n0 u0, .int n1 u1, .int n2 u2, .int n3 u3] k), (L + 4, o4), (L + 3, o3), (L + 2, o2'), (L + 1, o1)] → o2'.data = .cell (some (.ref ls)) →
      wpAny (model PG w) (AA dp un gd [lawE L fa cd]) (execs (lawBody.drop 8) (lawE L fa cd)) Q (lawEE w (AA dp un gd [lawE L fa cd]) (lawE L fa cd) R) { s with heap := h', toks := tk }) :
    wpAny (model PG w) (AA dp un gd [lawE L fa cd]) (execs (lawBody.drop 5) (lawE L fa cd)) Q (lawEE w (AA dp un gd [lawE L fa cd]) (lawE L fa cd) R) s := by
  refine step_at (k := 5) (st := ?st5) ?hk ?_
  case hk => conv => lhs; whnf
  iterate 20 walk1
  rename News _ _ _ _ => Na
  refine index_list_ints (vs := [.int n0 _, .int n1 _, .int n2 _, .int n3 _, .int 0 _]) (ns := [n0, n1, n2, n3, 0]) (Na.isList (.head _)) (.cons _ _ (.cons _ _ (.cons _ _ (.cons _ _ (.cons _ _ .nil))))) (lay5 b0 b1 b2 b3) (by simp) ?_
  rw [show [n0, n1, n2, n3, 0].idxOf 0 = 4 from by simp [List.idxOf_cons, beq_false_of_ne e0, beq_false_of_ne e1, beq_false_of_ne e2, beq_false_of_ne e3]]
  iterate 3 walk1
  refine step_at (k := 6) (st := ?st6) ?hk ?_
  case hk => conv => lhs; whnf
  iterate 3 walk1
  refine step_at (k := 7) (st := ?st7) ?hk ?_
  case hk => conv => lhs; whnf
  iterate 23 walk1
  rw [show (tot.fmod 3 == 0) = true from by simp [et]]
  iterate 31 walk1
  rename Fr _ _ _ _ => Fz
  rename News _ _ _ _ => Nz
  refine' h (#[.int n0 u0, .int n1 u1, .int n2 u2, .int n3 u3]) (#[.int n0 u0, .int n1 u1, .int n2 u2, .int n3 u3, .int n3 u3]) _ _ 0 0 _ _ _ _ (.inr (.inl ⟨e0, .inr (.inr (.inr ⟨_, _, _, _, _, _, _, _, rfl⟩)), _, _, _, _, _, _, _, _, _, _, rfl, five_4 b0.2 b1.2 b2.2 b3.2 e0 e1 e2 e3 et⟩)) ?lt ?lt2 (fr_congr Fz fun y => rfl) (fun p hp => Nz p ?nw) (by assumption)
  case lt => omega
  case lt2 => omega
  case nw =>
    simp only [List.mem_cons, List.not_mem_nil, or_false] at hp
    rcases hp with rfl | rfl | rfl | rfl | rfl | rfl | rfl <;> k_mem
theorem lawP3_4b {n0 n1 n2 n3 tot : Int} {u0 u1 u2 u3 tt : Tok} {k l : Nat} {o1 o2 o3 o4 : Obj} {m0 : Str → Option Value} (hdp : dp + 20 < recursionLimit) (b0 : 0 ≤ n0 ∧ n0 ≤ 30) (b1 : 0 ≤ n1 ∧ n1 ≤ 30) (b2 : 0 ≤ n2 ∧ n2 ≤ 30) (b3 : 0 ≤ n3 ∧ n3 ≤ 30)
    (X : (hd.heap_1 w.params).In B) (T : Top p loose mean mg mb B) (hl : L + 4 < l)
    (F : Fr B L s.heap (fun y => if y = "row" then some (.ref l) else m0 y)) (N : News B L s.heap [(l, listOf #[.int n0 u0, .int n1 u1, .int n2 u2, .int n3 u3] k), (L + 4, o4), (L + 3, o3), (L + 2, o2), (L + 1, o1)])
    (hd1 : o1.data = .cell (some (.int tot tt))) (hd2 : o2.data = .cell none) (hd3 : o3.data = .cell none) (hd4 : o4.data = .cell none)
    (e0 : n0 ≠ 0) (e1 : n1 ≠ 0) (e2 : n2 ≠ 0) (e3 : n3 ≠ 0) (et : tot.fmod 3 ≠ 0)
    (h : ∀ fr sv (lf ls : Nat) kf ks (o2' : Obj) (m1 : Str → Option Value) h' tk, Shape n0 n1 n2 n3 tot fr sv → L + 4 < lf → L + 4 < ls → Fr B L h' (fun y => if y = "front" then some (.ref lf) else if y = "row" then some (.ref l) else m1 y) →
      News B L h' [(lf, listOf fr kf), (ls, listOf sv ks), (l, listOf #[.int n0 u0, .int n1 u1, .int n2 u2, .int n3 u3] k), (L + 4, o4), (L + 3, o3), (L + 2, o2'), (L + 1, o1)] → o2'.data = .cell (some (.ref ls)) →
      wpAny (model PG w) (AA dp un gd [lawE L fa cd]) (execs (lawBody.drop 8) (lawE L fa cd)) Q (lawEE w (AA dp un gd [lawE L fa cd]) (lawE L fa cd) R) { s with heap := h', toks := tk }) :
    wpAny (model PG w) (AA dp un gd [lawE L fa cd]) (execs (lawBody.drop 5) (lawE L fa cd)) Q (lawEE w (AA dp un gd [lawE L fa cd]) (lawE L fa cd) R) s := by
  refine step_at (k := 5) (st := ?st5) ?hk ?_
  case hk => conv => lhs; whnf
  iterate 20 walk1
  rename News _ _ _ _ => Na
  refine index_list_ints (vs := [.int n0 _, .int n1 _, .int n2 _, .int n3 _, .int 0 _]) (ns := [n0, n1, n2, n3, 0]) (Na.isList (.head _)) (.cons _ _ (.cons _ _ (.cons _ _ (.cons _ _ (.cons _ _ .nil))))) (lay5 b0 b1 b2 b3) (by simp) ?_
  rw [show [n0, n1, n2, n3, 0].idxOf 0 = 4 from by simp [List.idxOf_cons, beq_false_of_ne e0, beq_false_of_ne e1, beq_false_of_ne e2, beq_false_of_ne e3]]
  iterate 3 walk1
  refine step_at (k := 6) (st := ?st6) ?hk ?_
  case hk => conv => lhs; whnf
  iterate 3 walk1
  refine step_at (k := 7) (st := ?st7) ?hk ?_
  case hk => conv => lhs; whnf
  iterate 23 walk1
  rw [show (tot.fmod 3 == 0) = false from by simpa using et]
  iterate 5 walk1
  rename Fr _ _ _ _ => Fz
  rename News _ _ _ _ => Nz
  refine' h (#[.int n0 u0, .int n1 u1, .int n2 u2, .int n3 u3]) (#[.int n0 u0, .int n1 u1, .int n2 u2, .int n3 u3]) _ _ 0 0 _ _ _ _ (.inr (.inr ⟨e0, e1, e2, e3, et, .inr (.inr (.inr ⟨_, _, _, _, _, _, _, _, rfl⟩)), _, _, _, _, rfl⟩)) ?lt ?lt2 (fr_congr Fz fun y => rfl) (fun p hp => Nz p ?nw) (by assumption)
  case lt => omega
  case lt2 => omega
  case nw =>
    simp only [List.mem_cons, List.not_mem_nil, or_false] at hp
    rcases hp with rfl | rfl | rfl | rfl | rfl | rfl | rfl <;> k_mem
theorem lawP3 {n0 n1 n2 n3 tot : Int} {u0 u1 u2 u3 tt : Tok} {k l : Nat} {o1 o2 o3 o4 : Obj} {m0 : Str → Option Value} (hdp : dp + 20 < recursionLimit) (b0 : 0 ≤ n0 ∧ n0 ≤ 30) (b1 : 0 ≤ n1 ∧ n1 ≤ 30) (b2 : 0 ≤ n2 ∧ n2 ≤ 30) (b3 : 0 ≤ n3 ∧ n3 ≤ 30)
    (X : (hd.heap_1 w.params).In B) (T : Top p loose mean mg mb B) (hl : L + 4 < l)
    (F : Fr B L s.heap (fun y => if y = "row" then some (.ref l) else m0 y)) (N : News B L s.heap [(l, listOf #[.int n0 u0, .int n1 u1, .int n2 u2, .int n3 u3] k), (L + 4, o4), (L + 3, o3), (L + 2, o2), (L + 1, o1)])
    (hd1 : o1.data = .cell (some (.int tot tt))) (hd2 : o2.data = .cell none) (hd3 : o3.data = .cell none) (hd4 : o4.data = .cell none)
    (h : ∀ fr sv (lf ls : Nat) kf ks (o2' : Obj) (m1 : Str → Option Value) h' tk, Shape n0 n1 n2 n3 tot fr sv → L + 4 < lf → L + 4 < ls → Fr B L h' (fun y => if y = "front" then some (.ref lf) else if y = "row" then some (.ref l) else m1 y) →
      News B L h' [(lf, listOf fr kf), (ls, listOf sv ks), (l, listOf #[.int n0 u0, .int n1 u1, .int n2 u2, .int n3 u3] k), (L + 4, o4), (L + 3, o3), (L + 2, o2'), (L + 1, o1)] → o2'.data = .cell (some (.ref ls)) →
      wpAny (model PG w) (AA dp un gd [lawE L fa cd]) (execs (lawBody.drop 8) (lawE L fa cd)) Q (lawEE w (AA dp un gd [lawE L fa cd]) (lawE L fa cd) R) { s with heap := h', toks := tk }) :
    wpAny (model PG w) (AA dp un gd [lawE L fa cd]) (execs (lawBody.drop 5) (lawE L fa cd)) Q (lawEE w (AA dp un gd [lawE L fa cd]) (lawE L fa cd) R) s := by
  by_cases e0 : n0 = 0
  · exact lawP3_0 hdp b0 b1 b2 b3 X T hl F N hd1 hd2 hd3 hd4 e0 h
  by_cases e1 : n1 = 0
  · exact lawP3_1 hdp b0 b1 b2 b3 X T hl F N hd1 hd2 hd3 hd4 e0 e1 h
  by_cases e2 : n2 = 0
  · exact lawP3_2 hdp b0 b1 b2 b3 X T hl F N hd1 hd2 hd3 hd4 e0 e1 e2 h
  by_cases e3 : n3 = 0
  · exact lawP3_3 hdp b0 b1 b2 b3 X T hl F N hd1 hd2 hd3 hd4 e0 e1 e2 e3 h
  by_cases et : tot.fmod 3 = 0
  · exact lawP3_4a hdp b0 b1 b2 b3 X T hl F N hd1 hd2 hd3 hd4 e0 e1 e2 e3 et h
  · exact lawP3_4b hdp b0 b1 b2 b3 X T hl F N hd1 hd2 hd3 hd4 e0 e1 e2 e3 et h
end
end -- A42
example : True := by w_top off; trivial
section -- A43
noncomputable abbrev tup2 (a b : Value) : Obj := { cls := .type "tuple", data := .seq #[a, b] }
/-- the six letters -/
noncomputable def ptN (i : Nat) : Str := ["a", "b", "c", "d", "e", "f"].getD i ""
theorem ptN_len : ∀ i, i < 6 → (ptN i).length = 1
  | 0, _ => by decide
  | 1, _ => by decide
  | 2, _ => by decide
  | 3, _ => by decide
  | 4, _ => by decide
  | 5, _ => by decide
  | n + 6, h => by omega
noncomputable abbrev tupW (wv : Nat → Str) (tw tp : Nat → Tok) (i : Nat) : Obj := tup2 (.str (wv i) (tw i)) (.str (ptN i) (tp i))
noncomputable def six {α : Type} (a b c d e f : α) : Nat → α
  | 0 => a | 1 => b | 2 => c | 3 => d | 4 => e | _ => f
noncomputable def Ord6 (L lf ls l : Nat) (PA : Nat → Nat) : Prop := lf < PA 0 ∧ ls < PA 0 ∧ l < PA 0 ∧ L + 4 < PA 0 ∧ PA 0 < PA 1 ∧ PA 1 < PA 2 ∧ PA 2 < PA 3 ∧ PA 3 < PA 4 ∧ PA 4 < PA 5
theorem ord_mk {L lf ls l a b c d e f : Nat} (h : lf < a ∧ ls < a ∧ l < a ∧ L + 4 < a ∧ a < b ∧ b < c ∧ c < d ∧ d < e ∧ e < f) : Ord6 L lf ls l (six a b c d e f) := h
noncomputable def PlA (L lf ls l : Nat) (PA : Nat → Nat) (pl : Nat) : Prop := PA 5 ≠ pl ∧ PA 4 ≠ pl ∧ PA 3 ≠ pl ∧ PA 2 ≠ pl ∧ PA 1 ≠ pl ∧ PA 0 ≠ pl ∧ lf ≠ pl ∧ ls ≠ pl ∧ l ≠ pl ∧ L + 4 ≠ pl ∧ L + 3 ≠ pl ∧ L + 2 ≠ pl ∧ L + 1 ≠ pl
noncomputable def AllL (d : Nat) : Addr × Obj → List (Addr × Obj) → Prop
  | a, [] => @LT.lt Nat _ a.1 d
  | a, b :: r => @LT.lt Nat _ a.1 d ∧ AllL d b r
theorem all_of {d : Nat} : ∀ {a : Addr × Obj} {l : List (Addr × Obj)}, AllL d a l → ∀ p ∈ a :: l, p.1 < d
  | a, [], x, p, h => by rw [List.mem_singleton.mp h]; exact x
  | a, b :: r, x, p, h => by
    rcases List.mem_cons.mp h with rfl | h
    · exact x.1
    · exact all_of x.2 p h
theorem end_tup {h₀ : Heap} {L I C D T : Addr} {m : Str → Option Value} {s₁ : Shared} {oI oC oD oT : Obj} {S : List (Addr × Obj) → Prop} {rest : Value → List (Addr × Obj) → Prop} {y : Value} {h' : Heap} {tk : Nat} {news : List (Addr × Obj)}
    (F : Fr h₀ L h' m) (N : News h₀ L h' ((T, oT) :: (I, oI) :: (C, oC) :: (D, oD) :: news)) (off : LCg.Off3 I C D news) (hT : ∀ p ∈ (I, oI) :: (C, oC) :: (D, oD) :: news, p.1 < T) (hS : S ((T, oT) :: news)) (r : rest y ((T, oT) :: news)) :
    LCg.CompEnd h₀ L m s₁ I oI C oC D oD S rest y { s₁ with heap := h', toks := tk } :=
  LCg.CompEnd.intro F N ((T, oT) :: news) (fun p hp => by
    rcases List.mem_cons.mp hp with rfl | hp
    · exact .tail _ (.head _)
    · rcases List.mem_cons.mp hp with rfl | hp
      · exact .tail _ (.tail _ (.head _))
      · rcases List.mem_cons.mp hp with rfl | hp
        · exact .tail _ (.tail _ (.tail _ (.head _)))
        · rcases List.mem_cons.mp hp with rfl | hp
          · exact .head _
          · exact .tail _ (.tail _ (.tail _ (.tail _ hp)))) ⟨⟨Nat.ne_of_gt (hT _ (.head _)), Nat.ne_of_gt (hT _ (.tail _ (.head _))), Nat.ne_of_gt (hT _ (.tail _ (.tail _ (.head _))))⟩, off⟩ hS r
local macro_rules | `(tactic| walk_at "mine turn") => `(tactic| (refine LCg.CompRest.succ ?_; intro v' I' oI' C' oC' D' m' h' tk' E' hv' hC' hx' F' N' off' ne'; (obtain ⟨t9', hv9'⟩ := hv'; subst hv9')))
local macro_rules | `(tactic| walk_at "mine end") => `(tactic| (refine end_tup (by assumption) (by assumption) (by assumption) (all_of (by assumption)) True.intro ?_))
local macro_rules | `(tactic| walk_at "mine range") => `(tactic| (refine LCg.CompSrc.range (by rfl) (by k_asm) (by k_asm) (by assumption) (by first | decide | rfl) (by first | rfl | decide) (by first | size_fits | exact Nat.le_of_ble_eq_true rfl) ?_; intro g'; lcg_lit))
local macro_rules | `(tactic| walk_at "mine comp") => `(tactic| (k_dflt (refine LCg.ListComp_U (F₀ := by k_asm) (by with_unfolding_all rfl) (by decide) (by rfl) (by decide) (by rfl) ?_)))
section
variable {w : World} {s : Shared} {R : Result → Shared → Prop} {dp un : Nat} {gd : Option (List Code)} {p : Program} {loose : List Str} {mg mb : Str → Option Value} {mean : ExcName → Option Value} {B : Heap} {L fa : Nat} {cd : Value} {Q : Flow → Shared → Prop}
theorem lawP4a {tot : Int} {tt : Tok} {fr sv : Array Value} {rv : Array Value} {kf ks k l lf ls : Nat} {o1 o2 o3 o4 : Obj} {m0 : Str → Option Value} (hdp : dp + 20 < recursionLimit) (ht0 : 0 ≤ tot) (ht1 : tot < 4000000)
    (X : (hd.heap_1 w.params).In B) (T : Top p loose mean mg mb B) (hl : L + 4 < l) (hlf : L + 4 < lf) (hls : L + 4 < ls)
    (F : Fr B L s.heap (fun y => if y = "front" then some (.ref lf) else if y = "row" then some (.ref l) else m0 y)) (N : News B L s.heap [(lf, listOf fr kf), (ls, listOf sv ks), (l, listOf rv k), (L + 4, o4), (L + 3, o3), (L + 2, o2), (L + 1, o1)])
    (hd1 : o1.data = .cell (some (.int tot tt))) (hd3 : o3.data = .cell none) (hd4 : o4.data = .cell none)
    (h : ∀ (PA : Nat → Nat) (wv : Nat → Str) (tw tp : Nat → Tok) (pl : Nat) (o3' : Obj) h' tk, (∀ i, i < 6 → (wv i).length ≤ 2) → Ord6 L lf ls l PA → PlA L lf ls l PA pl →
      Fr B L h' (fun y => if y = "front" then some (.ref lf) else if y = "row" then some (.ref l) else m0 y) →
      News B L h' [(pl, listOf #[.ref (PA 0), .ref (PA 1), .ref (PA 2), .ref (PA 3), .ref (PA 4), .ref (PA 5)] 6), (PA 5, tupW wv tw tp 5), (PA 4, tupW wv tw tp 4), (PA 3, tupW wv tw tp 3), (PA 2, tupW wv tw tp 2), (PA 1, tupW wv tw tp 1), (PA 0, tupW wv tw tp 0),
        (lf, listOf fr kf), (ls, listOf sv ks), (l, listOf rv k), (L + 4, o4), (L + 3, o3'), (L + 2, o2), (L + 1, o1)] → o3'.data = .cell (some (.ref pl)) →
      wpAny (model PG w) (AA dp un gd [lawE L fa cd]) (execs (lawBody.drop 9) (lawE L fa cd)) Q (lawEE w (AA dp un gd [lawE L fa cd]) (lawE L fa cd) R) { s with heap := h', toks := tk }) :
    wpAny (model PG w) (AA dp un gd [lawE L fa cd]) (execs (lawBody.drop 8) (lawE L fa cd)) Q (lawEE w (AA dp un gd [lawE L fa cd]) (lawE L fa cd) R) s := by
  refine step_at (k := 8) (st := ?st8) ?hk ?_
  case hk => conv => lhs; whnf
  walk1
  walk_at "mine comp"
  iterate 7 walk1
  walk_at "mine range"
  iterate 6 (walk_at "mine turn"; (iterate 30 walk1); walk_at "mine end"; (try simp only [List.nil_append, List.cons_append]))
  refine LCg.CompRest.zero ?_
  intro D9 h9 tk9 F9 N9 o9
  simp only [LCg.Off1, and_true] at o9
  walk1
  rename Fr _ _ _ _ => Fz
  rename News _ _ _ _ => Nz
  refine' h (six _ _ _ _ _ _) (six _ _ _ _ _ _) (six _ _ _ _ _ _) (six _ _ _ _ _ _) D9 _ _ _ ?len ?ord o9 Fz Nz (by assumption)
  case len =>
    intro i hi
    rcases (show i = 0 ∨ i = 1 ∨ i = 2 ∨ i = 3 ∨ i = 4 ∨ i = 5 by omega) with rfl | rfl | rfl | rfl | rfl | rfl <;> exact Txt.slice_le _ _ _
  case ord =>
    refine ord_mk ?_
    omega
end
end -- A43
example : True := by w_top off; trivial
section -- A46
theorem ne_L {B h : Heap} {L q : Nat} {m : Str → Option Value} (F : Fr B L h m) (hq : h.get? q = none) : q ≠ L := by
  rintro rfl
  obtain ⟨o, _, _, e, _⟩ := F.ns
  rw [e] at hq; cases hq
theorem news_upd {h₀ h h' : Heap} {L x : Addr} {o o' : Obj} {news : List (Addr × Obj)} {g : Obj → List (Addr × Obj)} (U : UpdF x o news g) (N : News h₀ L h news) (k : ∀ b o, b ≠ x → h.get? b = some o → h'.get? b = some o) (hx : h'.get? x = some o') : News h₀ L h' (g o') := by
  obtain ⟨pre, post, rfl, hg, h1, h2⟩ := U.split
  rw [hg]
  intro p hp
  rcases List.mem_append.mp hp with hp | hp
  · exact ⟨k _ _ (h1 p hp) (N p (List.mem_append_left _ hp)).1, (N p (List.mem_append_left _ hp)).2⟩
  · rcases List.mem_cons.mp hp with rfl | hp
    · exact ⟨hx, (N _ (List.mem_append_right _ (.head _))).2⟩
    · exact ⟨k _ _ (h2 p hp) (N p (List.mem_append_right _ (.tail _ hp))).1, (N p (List.mem_append_right _ (.tail _ hp))).2⟩
theorem under2 {B h : Heap} {L x dx : Addr} {m : Str → Option Value} (F : Fr B L h m) (hx : B.get? x = none) (hdx : B.get? dx = none) : ∀ b o, B.get? b = some o → (hideAll h [x, dx]).get? b = some o := fun b o e =>
  hideAll_get _ (F.keep b o e) (by
    intro hm
    rcases List.mem_cons.mp hm with rfl | hm
    · rw [hx] at e; cases e
    · rw [List.mem_singleton.mp hm, hdx] at e; cases e)
theorem fr_but1 {B h h' : Heap} {L x : Addr} {m : Str → Option Value} (F : Fr B L h m) (k : ∀ b o, b ≠ x → h.get? b = some o → h'.get? b = some o) (hL : x ≠ L) (hx : B.get? x = none) : Fr B L h' m := frBut F k hL hx
local macro_rules | `(tactic| k_mem) => `(tactic| assumption)
local macro_rules | `(tactic| walk_at "mine for") => `(tactic| ((rename Fr _ _ _ _ => lF'); (with_unfolding_all refine' For_turns lF' ?_)))
noncomputable def ringN (wv : Nat → Str) (tw tp : Nat → Tok) (RA : Nat → Nat) : Nat → List (Addr × Obj)
  | 0 => []
  | i + 1 => (RA i, tupW wv tw tp i) :: ringN wv tw tp RA i
noncomputable def refsN (RA : Nat → Nat) : Nat → List Nat
  | 0 => []
  | i + 1 => refsN RA i ++ [RA i]
noncomputable def setN (RA : Nat → Nat) (i q : Nat) : Nat → Nat := fun j => if j = i then q else RA j
theorem refsN_len {RA : Nat → Nat} : ∀ {i : Nat}, (refsN RA i).length = i
  | 0 => rfl
  | i + 1 => by
    show (refsN RA i ++ [RA i]).length = i + 1
    rw [List.length_append, refsN_len]; rfl
theorem refsN_set {RA : Nat → Nat} {i q : Nat} : ∀ j, j ≤ i → refsN (setN RA i q) j = refsN RA j
  | 0, _ => rfl
  | j + 1, h => by
    show refsN (setN RA i q) j ++ [setN RA i q j] = refsN RA j ++ [RA j]
    rw [refsN_set j (by omega), show setN RA i q j = RA j from if_neg (by omega)]
theorem ringN_set {wv : Nat → Str} {tw tp : Nat → Tok} {RA : Nat → Nat} {i q : Nat} : ∀ j, j ≤ i → ringN wv tw tp (setN RA i q) j = ringN wv tw tp RA j
  | 0, _ => rfl
  | j + 1, h => by
    show (setN RA i q j, _) :: ringN wv tw tp (setN RA i q) j = (RA j, _) :: ringN wv tw tp RA j
    rw [ringN_set j (by omega), show setN RA i q j = RA j from if_neg (by omega)]
theorem ringN_mem {wv : Nat → Str} {tw tp : Nat → Tok} {RA : Nat → Nat} : ∀ {i : Nat} {p : Addr × Obj}, p ∈ ringN wv tw tp RA i → ∃ j, j < i ∧ p = (RA j, tupW wv tw tp j)
  | 0, _, h => by cases h
  | i + 1, p, h => by
    rcases List.mem_cons.mp h with rfl | h
    · exact ⟨i, Nat.lt_succ_self _, rfl⟩
    · obtain ⟨j, hj, e⟩ := ringN_mem h
      exact ⟨j, by omega, e⟩
noncomputable abbrev peopleL (PA : Nat → Nat) : Obj := listOf #[.ref (PA 0), .ref (PA 1), .ref (PA 2), .ref (PA 3), .ref (PA 4), .ref (PA 5)] 6
noncomputable def coreN (L lf ls l pl : Nat) (fr sv rv : Array Value) (kf ks k : Nat) (o1 o2 o3 o4 : Obj) (PA : Nat → Nat) (wv : Nat → Str) (tw tp : Nat → Tok) : List (Addr × Obj) :=
  [(pl, peopleL PA), (PA 5, tupW wv tw tp 5), (PA 4, tupW wv tw tp 4), (PA 3, tupW wv tw tp 3), (PA 2, tupW wv tw tp 2), (PA 1, tupW wv tw tp 1), (PA 0, tupW wv tw tp 0),
        (lf, listOf fr kf), (ls, listOf sv ks), (l, listOf rv k), (L + 4, o4), (L + 3, o3), (L + 2, o2), (L + 1, o1)]
section
variable {L lf ls l pl : Nat} {fr sv rv : Array Value} {kf ks k : Nat} {o1 o2 o3 o4 : Obj} {PA RA : Nat → Nat} {wv : Nat → Str} {tw tp : Nat → Tok}
theorem coreN_p : (pl, peopleL PA) ∈ coreN L lf ls l pl fr sv rv kf ks k o1 o2 o3 o4 PA wv tw tp := .head _
theorem coreN_1 : (L + 1, o1) ∈ coreN L lf ls l pl fr sv rv kf ks k o1 o2 o3 o4 PA wv tw tp := .tail _ (.tail _ (.tail _ (.tail _ (.tail _ (.tail _ (.tail _ (.tail _ (.tail _ (.tail _ (.tail _ (.tail _ (.tail _ (.head _)))))))))))))
theorem coreN_3 : (L + 3, o3) ∈ coreN L lf ls l pl fr sv rv kf ks k o1 o2 o3 o4 PA wv tw tp := .tail _ (.tail _ (.tail _ (.tail _ (.tail _ (.tail _ (.tail _ (.tail _ (.tail _ (.tail _ (.tail _ (.head _)))))))))))
theorem coreN_4 : (L + 4, o4) ∈ coreN L lf ls l pl fr sv rv kf ks k o1 o2 o3 o4 PA wv tw tp := .tail _ (.tail _ (.tail _ (.tail _ (.tail _ (.tail _ (.tail _ (.tail _ (.tail _ (.tail _ (.head _))))))))))
theorem coreN_i : ∀ i, i < 6 → (PA i, tupW wv tw tp i) ∈ coreN L lf ls l pl fr sv rv kf ks k o1 o2 o3 o4 PA wv tw tp
  | 0, _ => .tail _ (.tail _ (.tail _ (.tail _ (.tail _ (.tail _ (.head _))))))
  | 1, _ => .tail _ (.tail _ (.tail _ (.tail _ (.tail _ (.head _)))))
  | 2, _ => .tail _ (.tail _ (.tail _ (.tail _ (.head _))))
  | 3, _ => .tail _ (.tail _ (.tail _ (.head _)))
  | 4, _ => .tail _ (.tail _ (.head _))
  | 5, _ => .tail _ (.head _)
  | n + 6, h => by omega
theorem ringN_i : ∀ {n i : Nat}, i < n → (RA i, tupW wv tw tp i) ∈ ringN wv tw tp RA n
  | 0, i, h => by omega
  | n + 1, i, h => by
    by_cases e : i = n
    · subst e; exact .head _
    · exact .tail _ (ringN_i (by omega))
end
noncomputable def pushT0 : Expr × List Stmt := match (lawBody[10]? : Option Stmt) with | some (Stmt.For t _ b _ _) => (t, b) | _ => (.Name "" ⟨0, 0, 0, 0⟩, [])
noncomputable def pushTP : { x : Expr × List Stmt // pushT0 = x } := ⟨_, by conv => lhs; whnf⟩
section
variable {w : World} {s : Shared} {dp un : Nat} {gd : Option (List Code)} {p : Program} {loose : List Str} {mg mb : Str → Option Value} {mean : ExcName → Option Value} {B : Heap} {L fa : Nat} {cd : Value} {E : Value → Shared → Prop}
theorem push_turn {R : Flow → Shared → Prop} {x dx i : Nat} {kz : Int} {tz e : Tok} {core own : List (Addr × Obj)} {PA : Nat → Nat} {wv : Nat → Str} {tw tp : Nat → Tok} {RA : Nat → Nat} {c : Nat} {m1 : Str → Option Value} (hdp : dp + 20 < recursionLimit)
    (X : (hd.heap_1 w.params).In B) (T : Top p loose mean mg mb B) (hi : i < 6) (hne : dx < x) (hP : (PA i, tupW wv tw tp i) ∈ core) (hcx : ∀ p ∈ core, p.1 ≠ x) (hox : ∀ p ∈ own, p.1 ≠ x) (hrx : ∀ j, j < i → RA j ≠ x)
    (F : Fr B L s.heap (fun y : Str => if y = "ring" then some (.ref x) else m1 y)) (N : News B L s.heap (own ++ (ringN wv tw tp RA i ++ (x, accObj dx ((refsN RA i).map Value.ref).toArray c) :: (dx, sizeD w e (.int kz tz)) :: core)))
    (hR : ∀ h' tk (q : Nat) c' (m1' : Str → Option Value), Fr B L h' (fun y : Str => if y = "ring" then some (.ref x) else m1' y) → News B L h' (own ++ (ringN wv tw tp (setN RA i q) (i + 1) ++ (x, accObj dx ((refsN (setN RA i q) (i + 1)).map Value.ref).toArray c') :: (dx, sizeD w e (.int kz tz)) :: core)) → x < q → (∀ y : Str, y ≠ "part" → y ≠ "white" → y ≠ "ring" → m1' y = m1 y) → (∀ p ∈ own, p.1 ≠ q) → R .next { s with heap := h', toks := tk }) :
    wpAny (model PG w) (AA dp un gd [lawE L fa cd]) (assign pushTP.1.1 (lawE L fa cd) (.ref (PA i)))
      (fun _ s₃ => wpAny (model PG w) (AA dp un gd [lawE L fa cd]) (execs pushTP.1.2 (lawE L fa cd)) R E s₃) E s := by
  conv in (pushTP.val.fst) => whnf
  conv in (pushTP.val.snd) => whnf
  have h1 : (PA i, tupW wv tw tp i) ∈ own ++ (ringN wv tw tp RA i ++ (x, accObj dx ((refsN RA i).map Value.ref).toArray c) :: (dx, sizeD w e (.int kz tz)) :: core) := List.mem_append_right _ (List.mem_append_right _ (.tail _ (.tail _ hP)))
  have h2 : (x, accObj dx ((refsN RA i).map Value.ref).toArray c) ∈ own ++ (ringN wv tw tp RA i ++ (x, accObj dx ((refsN RA i).map Value.ref).toArray c) :: (dx, sizeD w e (.int kz tz)) :: core) := List.mem_append_right _ (List.mem_append_right _ (.head _))
  have h3 : (dx, sizeD w e (.int kz tz)) ∈ own ++ (ringN wv tw tp RA i ++ (x, accObj dx ((refsN RA i).map Value.ref).toArray c) :: (dx, sizeD w e (.int kz tz)) :: core) := List.mem_append_right _ (List.mem_append_right _ (.tail _ (.head _)))
  iterate 21 walk1
  rename Fr _ _ _ _ => Fa
  rename News _ _ _ _ => Na
  have hxm := Na _ h2
  have hdm := Na _ h3
  have hlen : (refsN RA i).length = i := refsN_len
  refine wpAny_call (acc_push (s := ⟨_, s.gens, s.drawn, _, s.os⟩) (p := p) (loose := loose) (mean := mean) (mg := mg) (mb := mb) (by omega) (X.keeps (under2 Fa hxm.2.2 hdm.2.2)) (T.keeps (under2 Fa hxm.2.2 hdm.2.2)) hxm.1 hdm.1 hne (by simp only [List.size_toArray, List.length_map]; omega) fun q h₂ t₂ c₂ hxq hk hq0 hq hx' => ?_)
  have Fb := fr_but1 Fa hk hxm.2.1 hxm.2.2
  have hqL := ne_L Fa hq0
  have hqB := none_below Fa hq0
  refine wpAny_execs_nil ?_
  refine hR h₂ _ q c₂ _ (fr_congr Fb (ite_row (x := "ring") rfl)) ?_ hxq (fun y y1 y2 y3 => by simp only [y1, y2, y3, if_false]) (fun p hp e => by have := (Na p (List.mem_append_left _ hp)).1; rw [e] at this; rw [this] at hq0; cases hq0)
  have hrm : ∀ p ∈ ringN wv tw tp RA i, p.1 ≠ x := fun p hp => by
    obtain ⟨j, hj, rfl⟩ := ringN_mem hp
    exact hrx j hj
  intro p hp
  rcases List.mem_append.mp hp with hp | hp
  · exact ⟨hk _ _ (hox p hp) (Na p (List.mem_append_left _ hp)).1, (Na p (List.mem_append_left _ hp)).2⟩
  · rcases List.mem_append.mp hp with hp | hp
    · rcases List.mem_cons.mp hp with rfl | hp
      · refine ⟨?_, ?_, ?_⟩
        · show h₂.get? (setN RA i q i) = _
          rw [show setN RA i q i = q from if_pos rfl]; exact hq
        · show setN RA i q i ≠ _
          rw [show setN RA i q i = q from if_pos rfl]; exact hqL
        · show B.get? (setN RA i q i) = _
          rw [show setN RA i q i = q from if_pos rfl]; exact hqB
      · rw [ringN_set i (Nat.le_refl _)] at hp
        have hm := List.mem_append_right own (List.mem_append_left ((x, accObj dx ((refsN RA i).map Value.ref).toArray c) :: (dx, sizeD w e (.int kz tz)) :: core) hp)
        exact ⟨hk _ _ (hrm p hp) (Na p hm).1, (Na p hm).2⟩
    · rcases List.mem_cons.mp hp with rfl | hp
      · refine ⟨?_, hxm.2⟩
        show h₂.get? x = some (accObj dx ((refsN (setN RA i q) i ++ [setN RA i q i]).map Value.ref).toArray c₂)
        rw [refsN_set i (Nat.le_refl _), show setN RA i q i = q from if_pos rfl, hx']
        simp
      · rcases List.mem_cons.mp hp with rfl | hp
        · exact ⟨hk _ _ (Nat.ne_of_lt hne) hdm.1, hdm.2⟩
        · have hm := List.mem_append_right own (List.mem_append_right (ringN wv tw tp RA i) (.tail (x, accObj dx ((refsN RA i).map Value.ref).toArray c) (.tail (dx, sizeD w e (.int kz tz)) hp)))
          exact ⟨hk _ _ (hcx p hp) (Na p hm).1, (Na p hm).2⟩
end
end -- A46
example : True := by w_top off; trivial
section -- A48
open PyProof.Rows.LCg PyProof.Rows.LCp
theorem strs_snoc {x : Str} {t : Tok} : ∀ {ys : List Value} {l : List Str}, StrsAre ys l → StrsAre (ys ++ [.str x t]) (l ++ [x])
  | _, _, .nil => .cons _ _ .nil
  | _, _, .cons a b h => .cons a b (strs_snoc h)
section
variable {w : World} {A : Around} {B : Heap} {L : Nat} {m : Str → Option Value} {env : Env}
/-- a comprehension of texts over pairs -/
theorem rest_text {elt : Expr} {scope : Scope} {cl : List (Str × Addr)} {s : Shared} {S : List (Addr × Obj) → Prop} {its : Array Value} {Fin : List Value → List (Addr × Obj) → Prop} {n : Nat} {T : Nat → Nat} {a b : Nat → Str} {ta tb : Nat → Tok} {news : List (Addr × Obj)}
    (hits : ∀ (i : Nat), i < n → its[i]? = some (.ref (T i))) (hmem : ∀ i, i < n → (T i, tup2 (.str (a i) (ta i)) (.str (b i) (tb i))) ∈ news)
    (helt : ∀ (i : Nat) (s : Shared) (C : Nat) oC m₂ (E' : Value → Shared → Prop) (Q : Value → Shared → Prop), i < n → NsObj oC m₂ → m₂ "white" = some (.str (a i) (ta i)) → m₂ "part" = some (.str (b i) (tb i)) → s.heap.get? C = some oC →
      (∀ t k, Q (.str (a i ++ b i) t) { s with toks := k }) → wpAny (model PG w) A (eval elt (compEnvC scope cl C env)) Q E' s)
    (hS : S news) (hFin : ∀ ys, StrsAre ys ((List.range n).map fun i => a i ++ b i) → Fin ys news) :
    ∀ k i ys, i + k = n → StrsAre ys ((List.range i).map fun i => a i ++ b i) → CompRestP PG w A B L m env elt "white" "part" scope cl s S (fun i v => its[i]? = some v) Fin k i ys news
  | 0, i, ys, e, hy => by
    have : i = n := by omega
    subst this
    exact CompRestP.zero (hFin ys hy)
  | k + 1, i, ys, e, hy => by
    refine CompRestP.succ fun v hv => ?_
    have hi : i < n := by omega
    rw [hits i hi] at hv
    cases hv
    refine ⟨T i, _, _, _, _, rfl, hmem i hi, rfl, rfl, fun I oI C oC D m₂ h tk E' hC h1 h2 F N off ne => ?_⟩
    refine helt i _ C oC m₂ E' _ hi hC h1 h2 (N _ (.tail _ (.head _))).1 fun t k' => ?_
    refine CompEnd.intro F N news (fun p hp => hp) off hS ?_
    refine rest_text hits hmem helt hS hFin k (i + 1) _ (by omega) ?_
    rw [List.range_succ, List.map_append]
    exact strs_snoc hy
end
end -- A48
example : True := by w_top off; trivial
example : True ∧ True := by (w_top off; (try (walk1; fail)); exact ⟨trivial, trivial⟩)
section
local macro_rules | `(tactic| walk_at "mine ints") => `(tactic| ((refine' kmk_slice_ints ?F ?N ?l ?p ?q ?i ?m ?c ?_ ?s ?t ?z; (case F => k_asm); (case N => k_asm); (case l => kmk_list); (case p => kmk_part); (case q => kmk_part); (case i => l_ints); (case m => exact kmk_from (by l_ints) (Int.natCast_nonneg _)); (case c => kmk_len); (case s => with_unfolding_all rfl); (case t => kmk_pure); (case z => kmk_size)); intro D' ws' h' F' N' l1 hI' hC' hL'; (try k_lt l1); (try k_sweep)))
section -- A39
theorem ints4 {ws : List Value} {c0 c1 c2 c3 : Int} (h : IntsAre ws [c0, c1, c2, c3]) : ∃ t0 t1 t2 t3, ws = [.int c0 t0, .int c1 t1, .int c2 t2, .int c3 t3] := by
  obtain ⟨t0, r0, e0, h0⟩ := IntsAre.cons_inv h
  obtain ⟨t1, r1, e1, h1⟩ := IntsAre.cons_inv h0
  obtain ⟨t2, r2, e2, h2⟩ := IntsAre.cons_inv h1
  obtain ⟨t3, r3, e3, h3⟩ := IntsAre.cons_inv h2
  have e4 := IntsAre.nil_inv h3
  exact ⟨t0, t1, t2, t3, by rw [e0, e1, e2, e3, e4]⟩
theorem four_of (ns : List Int) : ∃ c0 c1 c2 c3 : Int, List.map (fun k' => k'.fmod 1000000) (List.take 4 ns) ++ List.drop (((List.map (fun k' : Int => k'.fmod 1000000) (List.take 4 ns)).length : Nat) : Int).toNat [7184, 2471, 892, 2622] = [c0, c1, c2, c3] ∧
    (0 ≤ c0 ∧ c0 < 1000000) ∧ (0 ≤ c1 ∧ c1 < 1000000) ∧ (0 ≤ c2 ∧ c2 < 1000000) ∧ (0 ≤ c3 ∧ c3 < 1000000) := by
  have hm : ∀ k : Int, 0 ≤ k.fmod 1000000 ∧ k.fmod 1000000 < 1000000 := fun k => ⟨Int.fmod_nonneg_of_pos _ (by decide), Int.fmod_lt_of_pos _ (by decide)⟩
  match ns with
  | [] => exact ⟨_, _, _, _, rfl, by decide, by decide, by decide, by decide⟩
  | [a] => exact ⟨_, _, _, _, rfl, hm a, by decide, by decide, by decide⟩
  | [a, b] => exact ⟨_, _, _, _, rfl, hm a, hm b, by decide, by decide⟩
  | [a, b, c] => exact ⟨_, _, _, _, rfl, hm a, hm b, hm c, by decide⟩
  | a :: b :: c :: d :: r => exact ⟨_, _, _, _, rfl, hm a, hm b, hm c, hm d⟩
section
variable {w : World} {s : Shared} {R : Result → Shared → Prop} {dp un : Nat} {gd : Option (List Code)} {p : Program} {loose : List Str} {mg mb : Str → Option Value} {mean : ExcName → Option Value} {B : Heap} {L fa : Nat} {cd : Value} {Q : Flow → Shared → Prop}
theorem lawP1 {ns : List Int} {vs : List Value} {l : Nat} {o1 o2 o3 o4 : Obj} (hl : B.IsList l vs.toArray) (hI : IntsAre vs ns) (hn : ns.length ≤ 63)
    (X : (hd.heap_1 w.params).In B) (T : Top p loose mean mg mb B)
    (F : Fr B L s.heap (fun y => List.lookup y [("script", .ref l)])) (N : News B L s.heap [(L + 4, o4), (L + 3, o3), (L + 2, o2), (L + 1, o1)])
    (h : ∀ c0 c1 c2 c3 t0 t1 t2 t3 n (D : Nat) h' tk, (0 ≤ c0 ∧ c0 < 1000000) → (0 ≤ c1 ∧ c1 < 1000000) → (0 ≤ c2 ∧ c2 < 1000000) → (0 ≤ c3 ∧ c3 < 1000000) → L + 4 < D →
      Fr B L h' (fun y => List.lookup y [("cells", .ref D), ("script", .ref l)]) → News B L h' [(D, listOf #[.int c0 t0, .int c1 t1, .int c2 t2, .int c3 t3] n), (L + 4, o4), (L + 3, o3), (L + 2, o2), (L + 1, o1)] →
      wpAny (model PG w) (AA dp un gd [lawE L fa cd]) (execs (lawBody.drop 2) (lawE L fa cd)) Q (lawEE w (AA dp un gd [lawE L fa cd]) (lawE L fa cd) R) { s with heap := h', toks := tk }) :
    wpAny (model PG w) (AA dp un gd [lawE L fa cd]) (execs (lawBody.drop 0) (lawE L fa cd)) Q (lawEE w (AA dp un gd [lawE L fa cd]) (lawE L fa cd) R) s := by
  refine step_at (k := 0) (st := ?st0) ?hk ?_
  case hk => conv => lhs; whnf
  iterate 9 walk1
  refine step_at (k := 1) (st := ?st1) ?hk ?_
  case hk => conv => lhs; whnf
  iterate 20 walk1
  iterate 2 walk1
  walk1
  walk1
  walk1
  walk1
  refine kba_turn (value' := PySem.Expr.Name (PySem.Str.ofString "_") ⟨0, 0, 0, 0⟩) (fun _ => rfl) ?_
  walk_at "mine ints"
  walk1
  walk1
  obtain ⟨c0, c1, c2, c3, hc, b0, b1, b2, b3⟩ := four_of ns
  have hws := ‹IntsAre _ (_ ++ _)›
  rw [hc] at hws
  obtain ⟨t0, t1, t2, t3, rfl⟩ := ints4 hws
  rename Fr _ _ _ _ => F1
  rename News _ _ _ _ => N1
  refine' h c0 c1 c2 c3 t0 t1 t2 t3 0 _ _ _ b0 b1 b2 b3 ?lt (fr_congr F1 fun y => ?fr) (fun p hp => N1 p ?nw)
  case fr =>
    by_cases e1 : y = "cells"
    · subst e1; rfl
    · have : (y == ("cells" : Str)) = false := by simpa using e1
      simp [e1, List.lookup, this]
  case lt =>
    rename (_ < _ ∧ _) => hl1
    exact hl1.2.2.2.2.1
  case nw =>
    rcases List.mem_cons.mp hp with rfl | hp
    · exact .head _
    · exact .tail _ (.tail _ (.tail _ (.tail _ (.tail _ hp))))
end
end -- A39
end
example : True ∧ True := by (w_top off; (try (walk1; fail)); exact ⟨trivial, trivial⟩)
example : True ∧ True := by (w_top off; (try (walk1; fail)); exact ⟨trivial, trivial⟩)
section
local macro_rules | `(tactic| k_mem) => `(tactic| assumption)
local macro_rules | `(tactic| walk_at "mine for") => `(tactic| ((rename Fr _ _ _ _ => lF'); (with_unfolding_all refine' For_turns lF' ?_)))
section -- A47
noncomputable def JP (w : World) (x dx lf l : Nat) (kz : Int) (tz : Tok) (e : Tok) (core : List (Addr × Obj)) (wv : Nat → Str) (tw tp : Nat → Tok) (i : Nat) (m : Str → Option Value) (news : List (Addr × Obj)) : Prop :=
  ∃ RA c, ∃ m1 : Str → Option Value, news = ringN wv tw tp RA i ++ (x, accObj dx ((refsN RA i).map Value.ref).toArray c) :: (dx, sizeD w e (.int kz tz)) :: core ∧ (∀ j, j < i → x < RA j) ∧ (m = fun y : Str => if y = "ring" then some (.ref x) else m1 y) ∧ m1 "front" = some (.ref lf) ∧ m1 "row" = some (.ref l)
theorem core_lt {B h : Heap} {L : Nat} {news : List (Addr × Obj)} (N : News B L h news) : ∀ p ∈ news, p.1 < h.objs.size := fun p hp => Heap.lt_size (N p hp).1
section
variable {w : World} {s : Shared} {R : Result → Shared → Prop} {dp un : Nat} {gd : Option (List Code)} {p : Program} {loose : List Str} {mg mb : Str → Option Value} {mean : ExcName → Option Value} {B : Heap} {L fa : Nat} {cd : Value} {Q : Flow → Shared → Prop}
theorem lawP4b {tot : Int} {tt : Tok} {fr sv : Array Value} {rv : Array Value} {kf ks k l lf ls : Nat} {o1 o2 o3 o4 : Obj} {m0 : Str → Option Value} {PA : Nat → Nat} {wv : Nat → Str} {tw tp : Nat → Tok} {pl : Nat} (hdp : dp + 20 < recursionLimit) (hun : un + 40 < cLine) (ht0 : 0 ≤ tot) (ht1 : tot < 4000000)
    (X : (hd.heap_1 w.params).In B) (T : Top p loose mean mg mb B) (hl : L + 4 < l) (hlf : L + 4 < lf) (hls : L + 4 < ls) (hwv : ∀ i, i < 6 → (wv i).length ≤ 2) (ho : Ord6 L lf ls l PA) (hpl : PlA L lf ls l PA pl)
    (F : Fr B L s.heap (fun y => if y = "front" then some (.ref lf) else if y = "row" then some (.ref l) else m0 y))
    (N : News B L s.heap (coreN L lf ls l pl fr sv rv kf ks k o1 o2 o3 o4 PA wv tw tp))
    (hd1 : o1.data = .cell (some (.int tot tt))) (hd3 : o3.data = .cell (some (.ref pl))) (hd4 : o4.data = .cell none)
    (h : ∀ (x dx : Nat) (RA : Nat → Nat) (c : Nat) (e tz : Tok) (m1 : Str → Option Value) h' tk, dx < x → (∀ q ∈ (coreN L lf ls l pl fr sv rv kf ks k o1 o2 o3 o4 PA wv tw tp), q.1 < dx) → (∀ j, j < 6 → x < RA j) → L < dx →
      Fr B L h' (fun y : Str => if y = "ring" then some (.ref x) else if y = "front" then some (.ref lf) else if y = "row" then some (.ref l) else m1 y) →
      News B L h' (ringN wv tw tp RA 6 ++ (x, accObj dx ((refsN RA 6).map Value.ref).toArray c) :: (dx, sizeD w e (.int (tot.fmod 4) tz)) :: coreN L lf ls l pl fr sv rv kf ks k o1 o2 o3 o4 PA wv tw tp) →
      wpAny (model PG w) (AA dp un gd [lawE L fa cd]) (execs (lawBody.drop 11) (lawE L fa cd)) Q (lawEE w (AA dp un gd [lawE L fa cd]) (lawE L fa cd) R) { s with heap := h', toks := tk }) :
    wpAny (model PG w) (AA dp un gd [lawE L fa cd]) (execs (lawBody.drop 9) (lawE L fa cd)) Q (lawEE w (AA dp un gd [lawE L fa cd]) (lawE L fa cd) R) s := by
  have w1 : (L + 1, o1) ∈ coreN L lf ls l pl fr sv rv kf ks k o1 o2 o3 o4 PA wv tw tp := coreN_1
  have w3 : (L + 3, o3) ∈ coreN L lf ls l pl fr sv rv kf ks k o1 o2 o3 o4 PA wv tw tp := coreN_3
  have wp : (pl, peopleL PA) ∈ coreN L lf ls l pl fr sv rv kf ks k o1 o2 o3 o4 PA wv tw tp := coreN_p
  have wi : ∀ i, i < 6 → (PA i, tupW wv tw tp i) ∈ coreN L lf ls l pl fr sv rv kf ks k o1 o2 o3 o4 PA wv tw tp := coreN_i
  revert N w1 w3 wp wi h
  generalize coreN L lf ls l pl fr sv rv kf ks k o1 o2 o3 o4 PA wv tw tp = core
  intro N h w1 w3 wp wi
  refine step_at (k := 9) (st := ?st9) ?hk ?_
  case hk => conv => lhs; whnf
  iterate 11 walk1
  refine wpAny_call (acc_make (s := ⟨s.heap, s.gens, s.drawn, _, s.os⟩) (p := p) (loose := loose) (mean := mean) (mg := mg) (mb := mb) (by omega) (by omega) (X.keeps F.keep) (T.keeps F.keep) fun h₁ t₁ e c hk hx hdx => ?_)
  have hlt := core_lt N
  have q3 : L < s.heap.objs.size := F.ns.lt
  have g1 : s.heap.get? s.heap.objs.size = none := Heap.get?_none_of_le (Nat.le_refl _)
  have g2 : s.heap.get? (s.heap.objs.size + 1) = none := Heap.get?_none_of_le (Nat.le_succ _)
  dsimp only at hk hx hdx
  have F1 := fr_up F hk
  have N1 := news_cons (news_cons (news_up N hk) hdx (by omega) (none_below F g1)) hx (by omega) (none_below F g2)
  clear F N hk hx hdx g1 g2
  generalize s.heap.objs.size = dx at *
  have w1' : (L + 1, o1) ∈ (dx + 1, accObj dx #[] c) :: (dx, sizeD w e (Value.int (tot.fmod 4) (s.toks + 1))) :: core := .tail _ (.tail _ w1)
  have w3' : (L + 3, o3) ∈ (dx + 1, accObj dx #[] c) :: (dx, sizeD w e (Value.int (tot.fmod 4) (s.toks + 1))) :: core := .tail _ (.tail _ w3)
  walk1
  refine step_at (k := 10) (st := ?st10) ?hk ?_
  case hk => conv => lhs; whnf
  walk_at "mine for"
  walk1
  rename Fr _ _ _ _ => F2
  rename News _ _ _ _ => N2
  refine turns_list (m := fun y : Str => if y = "ring" then some (.ref (dx + 1)) else if y = "front" then some (.ref lf) else if y = "row" then some (.ref l) else m0 y) rfl (News.isList N2 (.tail _ (.tail _ wp))) ?hpl ?hits F2 N2 (JP w (dx + 1) dx lf l (tot.fmod 4) (s.toks + 1) e core wv tw tp) ⟨fun _ => 0, c, _, rfl, fun j hj => absurd hj (Nat.not_lt_zero _), rfl, rfl, rfl⟩ ?step ?fin
  case hpl => exact fun e => (N2 _ (.tail _ (.tail _ wp))).2.1 e.symm
  case hits =>
    intro i v hv
    have hi : i < 6 := by
      refine Nat.lt_of_not_le fun hge => ?_
      rw [Array.getElem?_eq_none (by simpa using hge)] at hv
      cases hv
    rcases (show i = 0 ∨ i = 1 ∨ i = 2 ∨ i = 3 ∨ i = 4 ∨ i = 5 by omega) with rfl | rfl | rfl | rfl | rfl | rfl <;> exact ⟨_, (Option.some.inj hv).symm⟩
  case step =>
    intro I i v m₁ news₁ h₁ tk₁ own hI hi hv hJ hoff hown hget hIo Fs Ns
    obtain ⟨RA, cc, m1, rfl, hRA, rfl, hfr, hrw⟩ := hJ
    have hi6 : i < 6 := by simpa using hi
    have hv' : v = .ref (PA i) := by
      rcases (show i = 0 ∨ i = 1 ∨ i = 2 ∨ i = 3 ∨ i = 4 ∨ i = 5 by omega) with rfl | rfl | rfl | rfl | rfl | rfl <;> exact (Option.some.inj hv).symm
    subst hv'
    have hcx : ∀ q ∈ core, q.1 ≠ dx + 1 := fun q hq => Nat.ne_of_lt (Nat.lt_succ_of_lt (hlt q hq))
    have hIx : I ≠ dx + 1 := fun e => hoff (dx + 1, _) (List.mem_append_right _ (.head _)) (by rw [e]; exact .head _)
    refine push_turn (s := ⟨h₁, s.gens, s.drawn, tk₁, s.os⟩) (p := p) (loose := loose) (mean := mean) (mg := mg) (mb := mb) hdp X T hi6 (Nat.lt_succ_self _) (wi i hi6) hcx (fun q hq => ?_) (fun j hj => Nat.ne_of_gt (hRA j hj)) Fs Ns fun h' tk q c' m1' F' N' hxq hm hoq => LoopStepV.next (LoopStepU.intro F' N' ?_ ⟨setN RA i q, c', m1', rfl, fun j hj => ?_, rfl, ?_, ?_⟩)
    · rcases List.mem_cons.mp (hown q hq) with e | e
      · rw [e]; exact hIx
      · rw [List.mem_singleton.mp e]; exact hcx _ wp
    · intro q' hq'
      rcases List.mem_append.mp hq' with hq' | hq'
      · rcases List.mem_cons.mp hq' with rfl | hq'
        · obtain ⟨oI, hoI⟩ := hIo
          intro hm9
          have := hoq _ hoI
          rw [show setN RA i q i = q from if_pos rfl] at hm9
          exact this (List.mem_singleton.mp hm9).symm
        · rw [ringN_set i (Nat.le_refl _)] at hq'
          exact hoff q' (List.mem_append_left _ hq')
      · rcases List.mem_cons.mp hq' with rfl | hq'
        · exact fun hm9 => hIx (List.mem_singleton.mp hm9).symm
        · exact hoff q' (List.mem_append_right _ (.tail _ hq'))
    · by_cases e9 : j = i
      · subst e9; rw [show setN RA j q j = q from if_pos rfl]; exact hxq
      · rw [show setN RA i q j = RA j from if_neg e9]; exact hRA j (by omega)
    · rw [hm _ (by decide) (by decide) (by decide)]; exact hfr
    · rw [hm _ (by decide) (by decide) (by decide)]; exact hrw
  case fin =>
    rintro h' tk m' news' F' N' ⟨RA, cc, m1, rfl, hRA, rfl, hfr, hrw⟩
    refine h (dx + 1) dx RA cc e _ m1 h' tk (Nat.lt_succ_self _) hlt hRA q3 (fr_congr F' fun y => ?_) N'
    by_cases e1 : y = "ring"
    · simp only [e1, if_true]
    · simp only [e1, if_false]
      by_cases e2 : y = "front"
      · subst e2; exact hfr
      · simp only [e2, if_false]
        exact ite_row hrw y
end
end -- A47
end
example : True ∧ True := by (w_top off; (try (walk1; fail)); exact ⟨trivial, trivial⟩)
example : True ∧ True := by (w_top off; (try (walk1; fail)); exact ⟨trivial, trivial⟩)
section
local macro_rules | `(tactic| k_mem) => `(tactic| assumption)
local macro_rules | `(tactic| walk_at "mine pairs") => `(tactic| (k_dflt (refine LCp.ListComp_P (F₀ := by k_asm) (by with_unfolding_all rfl) (by decide) (by rfl) (by decide) (by rfl) (by rfl) (by decide) ?_)))
section -- A49
section
variable {w : World} {s : Shared} {R : Result → Shared → Prop} {dp un : Nat} {gd : Option (List Code)} {p : Program} {loose : List Str} {mg mb : Str → Option Value} {mean : ExcName → Option Value} {B : Heap} {L fa : Nat} {cd : Value} {Q : Flow → Shared → Prop}
theorem lawP4c {news : List (Addr × Obj)} {o3 : Obj} {m0 : Str → Option Value} {PA : Nat → Nat} {wv : Nat → Str} {tw tp : Nat → Tok} {pl : Nat} (hdp : dp + 20 < recursionLimit) (hwv : ∀ i, i < 6 → (wv i).length ≤ 2)
    (X : (hd.heap_1 w.params).In B) (T : Top p loose mean mg mb B) (F : Fr B L s.heap m0) (N : News B L s.heap news) (wp : (pl, peopleL PA) ∈ news) (wi : ∀ i, i < 6 → (PA i, tupW wv tw tp i) ∈ news) (w3 : (L + 3, o3) ∈ news) (hd3 : o3.data = .cell (some (.ref pl)))
    (h : ∀ t h' tk, Fr B L h' (fun y : Str => if y = "text" then some (.str (Txt.join "" ((List.range 6).map fun i => wv i ++ ptN i)) t) else m0 y) → News B L h' news →
      wpAny (model PG w) (AA dp un gd [lawE L fa cd]) (execs (lawBody.drop 12) (lawE L fa cd)) Q (lawEE w (AA dp un gd [lawE L fa cd]) (lawE L fa cd) R) { s with heap := h', toks := tk }) :
    wpAny (model PG w) (AA dp un gd [lawE L fa cd]) (execs (lawBody.drop 11) (lawE L fa cd)) Q (lawEE w (AA dp un gd [lawE L fa cd]) (lawE L fa cd) R) s := by
  refine step_at (k := 11) (st := ?st11) ?hk ?_
  case hk => conv => lhs; whnf
  iterate 6 walk1
  walk_at "mine pairs"
  walk1
  rename Fr _ _ _ _ => F1
  rename News _ _ _ _ => N1
  refine LCp.SrcLP.ledger rfl F1 N1 wp (Nat.le_of_ble_eq_true rfl) fun g => ?_
  refine rest_text (n := 6) (T := PA) (a := wv) (b := ptN) (ta := tw) (tb := tp) (fun i hi => ?hits) wi (fun i s C oC m₂ E' Q hi hC h1 h2 hg hq => ?helt) (.inr ⟨_, wp, rfl, _, rfl⟩) (fun ys hys => ?fin) 6 0 [] rfl .nil
  case hits => rcases (show i = 0 ∨ i = 1 ∨ i = 2 ∨ i = 3 ∨ i = 4 ∨ i = 5 by omega) with rfl | rfl | rfl | rfl | rfl | rfl <;> rfl
  case helt =>
    walk1
    refine ldVarK (hC.ns hg) h1 ?_
    refine ldVarK (hC.ns hg) h2 ?_
    refine add_str (fun t' k => hq t' k) ?_
    rw [ptN_len i hi]
    exact Nat.le_trans (Nat.add_le_add_right (hwv i hi) 1) (by decide)
  case fin =>
    intro D h9 tk9 F9 N9 o9
    walk1
    refine join_listW (ys := (List.range 6).map fun i => wv i ++ ptN i) (News.isList N9 (.head _)) hys (by decide) ?_ fun t' k => ?_
    · have e0 := hwv 0 (by decide)
      have e1 := hwv 1 (by decide)
      have e2 := hwv 2 (by decide)
      have e3 := hwv 3 (by decide)
      have e4 := hwv 4 (by decide)
      have e5 := hwv 5 (by decide)
      have z0 := ptN_len 0 (by decide)
      have z1 := ptN_len 1 (by decide)
      have z2 := ptN_len 2 (by decide)
      have z3 := ptN_len 3 (by decide)
      have z4 := ptN_len 4 (by decide)
      have z5 := ptN_len 5 (by decide)
      simp only [List.range, List.range.loop, List.map_cons, List.map_nil, List.sum_cons, List.sum_nil, List.length_cons, List.length_nil, app_len]
      omega
    walk_at "mine st"
    rename Fr _ _ _ _ => F8
    rename News _ _ _ _ => N8
    exact h _ _ _ F8 (fun q hq => N8 q (.tail _ hq))
end
end -- A49
end
example : True ∧ True := by (w_top off; (try (walk1; fail)); exact ⟨trivial, trivial⟩)
example : True ∧ True := by (w_top off; (try (walk1; fail)); exact ⟨trivial, trivial⟩)
section
local macro_rules | `(tactic| k_mem) => `(tactic| first | assumption | exact List.Mem.head _ | (refine List.Mem.tail _ ?_; k_mem))
section -- A50
/-- a code's table, by its object -/
noncomputable def TabO (B : Heap) (oP : Obj) (c P : Nat) : Prop := ∃ H0 : Heap, Tab H0 c P ∧ H0.get? P = some oP ∧ ∀ o, H0.get? c = some o → B.get? c = some o
theorem TabO.tab {B h : Heap} {oP : Obj} {c P : Nat} (x : TabO B oP c P) (hB : ∀ b o, B.get? b = some o → h.get? b = some o) (hP : h.get? P = some oP) : Tab h c P := by
  obtain ⟨H0, t, e, k⟩ := x
  refine t.at fun b o hb hc => ?_
  rcases hc with rfl | rfl
  · exact hB _ _ (k o hb)
  · rw [e] at hb; cases hb; exact hP
theorem TabO.of {B h : Heap} {oP : Obj} {c P : Nat} (t : Tab h c P) (hP : h.get? P = some oP) (hc : ∀ o, h.get? c = some o → B.get? c = some o) : TabO B oP c P := ⟨h, t, hP, hc⟩
theorem ring_news {w : World} {B h : Heap} {L x dx c : Nat} {o70 o77 : Obj} {RT : List Nat} {pa pb : Nat → Str} {k : Int} {e tk : Tok} {news : List (Addr × Obj)} {m : Str → Option Value} (F : Fr B L h m) (N : News B L h news)
    (t70 : TabO B o70 74 70) (t77 : TabO B o77 81 77) (m70 : (70, o70) ∈ news) (m77 : (77, o77) ∈ news) (mx : (x, accObj dx (refsOf RT) c) ∈ news) (md : (dx, sizeD w e (.int k tk)) ∈ news)
    (mT : ∀ T ∈ RT, ∃ ta tb, (T, tup2 (.str (pa T) ta) (.str (pb T) tb)) ∈ news) (hne : dx < x) (low : 170 < dx) (lowT : ∀ T ∈ RT, x < T) (sa : ∀ T ∈ RT, (pa T).length < 1000) (sb : ∀ T ∈ RT, (pb T).length < 1000) (sn : RT.length ≤ 1000) :
    RingAt w B h x dx RT pa pb k where
  obj := ⟨c, (N _ mx).1⟩
  dct := ⟨e, tk, (N _ md).1⟩
  t70 := t70.tab F.keep (N _ m70).1
  t77 := t77.tab F.keep (N _ m77).1
  prs := fun T hT => by
    obtain ⟨ta, tb, hm⟩ := mT T hT
    exact ⟨ta, tb, _, (N _ hm).1, rfl, _, rfl⟩
  bx := (N _ mx).2.2
  bdx := (N _ md).2.2
  b70 := (N _ m70).2.2
  b77 := (N _ m77).2.2
  ne := hne
  low := low
  lowT := lowT
  sa := sa
  sb := sb
  sn := sn
/-- the texts of a tuple that lies in a heap -/
noncomputable def txtAt (h : Heap) (i T : Nat) : Str := match (tupVals h T)[i]? with | some (.str x _) => x | _ => ""
theorem join_two (a b : Str) : Txt.join "" [a, b] = a ++ b := by
  apply PySem.Str.ext'
  show (a.cps ++ #[] ++ b.cps) = a.cps ++ b.cps
  simp
theorem join_len : ∀ l : List Str, (Txt.join "" l).length = (l.map (·.length)).sum := by
  intro l
  show (Builtin.Str.glued "" l).length = _
  rw [StrLaws.glued_eq_join]
  induction l with
  | nil => rfl
  | cons x r ih =>
    cases r with
    | nil => show x.length = x.length + 0; omega
    | cons y r =>
      show (x ++ "" ++ Str.join "" (y :: r)).length = _
      rw [app_len, app_len, ih]
      show x.length + 0 + _ = _
      simp
theorem ring_text {wv : Nat → Str} {pa pb : Nat → Str} {RA : Nat → Nat} {σ : List Nat} (ha : ∀ j ∈ σ, pa (RA j) = wv j) (hb : ∀ j ∈ σ, pb (RA j) = ptN j) :
    Txt.join "" ((σ.map RA).map fun T => Txt.join "" [pa T, pb T]) = Txt.join "" (σ.map fun i => wv i ++ ptN i) := by
  congr 1
  rw [List.map_map]
  refine List.map_congr_left fun j hj => ?_
  show Txt.join "" [pa (RA j), pb (RA j)] = _
  rw [join_two, ha j hj, hb j hj]
theorem ring_lenS {wv : Nat → Str} {pa pb : Nat → Str} {RA : Nat → Nat} {σ : List Nat} (ha : ∀ j ∈ σ, pa (RA j) = wv j) (hb : ∀ j ∈ σ, pb (RA j) = ptN j) :
    lenSum (σ.map RA) pa pb = ((Txt.join "" (σ.map fun i => wv i ++ ptN i)).length : Int) := by
  rw [join_len]
  induction σ with
  | nil => rfl
  | cons j r ih =>
    have h := ih (fun i hi => ha i (.tail _ hi)) fun i hi => hb i (.tail _ hi)
    simp only [lenSum, List.map_cons, List.sum_cons, app_len] at h ⊢
    rw [h, ha j (.head _), hb j (.head _)]
    omega
section
variable {w : World} {s s' : Shared} {B : Heap} {L : Nat} {m : Str → Option Value} {rest : List (Addr × Obj)} {o70 o77 : Obj}
theorem up77 (hu : UpP 77 s s') (F : Fr B L s.heap m) (N : News B L s.heap ((70, o70) :: (77, o77) :: rest)) (t : Tab s'.heap 81 77) (off : ∀ q ∈ rest, q.1 ≠ 70 ∧ q.1 ≠ 77) (h81 : ∃ o, B.get? 81 = some o) :
    ∃ o77', Fr B L s'.heap m ∧ News B L s'.heap ((70, o70) :: (77, o77') :: rest) ∧ TabO B o77' 81 77 := by
  obtain ⟨ps, ho⟩ := t.obj
  have h77 := N _ (.tail _ (.head _))
  have F' : Fr B L s'.heap m := fr_but1 F hu.keep h77.2.1 h77.2.2
  obtain ⟨o81, e81⟩ := h81
  refine ⟨_, F', fun q hq => ?_, TabO.of t ho fun o e => by rw [F'.keep _ _ e81] at e; cases e; exact e81⟩
  rcases List.mem_cons.mp hq with rfl | hq
  · exact ⟨hu.keep _ _ (show (70 : Nat) ≠ 77 by decide) (N _ (.head _)).1, (N _ (.head _)).2⟩
  · rcases List.mem_cons.mp hq with rfl | hq
    · exact ⟨ho, h77.2⟩
    · exact ⟨hu.keep _ _ (off q hq).2 (N q (.tail _ (.tail _ hq))).1, (N q (.tail _ (.tail _ hq))).2⟩
theorem up70 (hu : UpP 70 s s') (F : Fr B L s.heap m) (N : News B L s.heap ((70, o70) :: (77, o77) :: rest)) (t : Tab s'.heap 74 70) (off : ∀ q ∈ rest, q.1 ≠ 70 ∧ q.1 ≠ 77) (h74 : ∃ o, B.get? 74 = some o) :
    ∃ o70', Fr B L s'.heap m ∧ News B L s'.heap ((70, o70') :: (77, o77) :: rest) ∧ TabO B o70' 74 70 := by
  obtain ⟨ps, ho⟩ := t.obj
  have h70 := N _ (.head _)
  have F' : Fr B L s'.heap m := fr_but1 F hu.keep h70.2.1 h70.2.2
  obtain ⟨o74, e74⟩ := h74
  refine ⟨_, F', fun q hq => ?_, TabO.of t ho fun o e => by rw [F'.keep _ _ e74] at e; cases e; exact e74⟩
  rcases List.mem_cons.mp hq with rfl | hq
  · exact ⟨ho, h70.2⟩
  · rcases List.mem_cons.mp hq with rfl | hq
    · exact ⟨hu.keep _ _ (show (77 : Nat) ≠ 70 by decide) (N _ (.tail _ (.head _))).1, (N _ (.tail _ (.head _))).2⟩
    · exact ⟨hu.keep _ _ (off q hq).1 (N q (.tail _ (.tail _ hq))).1, (N q (.tail _ (.tail _ hq))).2⟩
end
section
variable {w : World} {s : Shared} {R : Result → Shared → Prop} {dp un : Nat} {gd : Option (List Code)} {p : Program} {loose : List Str} {mg mb : Str → Option Value} {mean : ExcName → Option Value} {B : Heap} {L fa : Nat} {cd : Value} {Q : Flow → Shared → Prop}
theorem lawP4d {rest : List (Addr × Obj)} {o70 o77 o1 : Obj} {x dx c : Nat} {RA : Nat → Nat} {wv : Nat → Str} {tw tp : Nat → Tok} {pa pb : Nat → Str} {kz tot : Int} {e tk tt : Tok} {m0 : Str → Option Value} {tx : Tok} (hdp : dp + 20 < recursionLimit) (hun : un + 40 < cLine) (hwv : ∀ i, i < 6 → (wv i).length ≤ 2)
    (X : (hd.heap_1 w.params).In B) (T : Top p loose mean mg mb B)
    (F : Fr B L s.heap (fun y : Str => if y = "text" then some (.str (Txt.join "" ((List.range 6).map fun i => wv i ++ ptN i)) tx) else if y = "ring" then some (.ref x) else m0 y))
    (N : News B L s.heap ((70, o70) :: (77, o77) :: rest)) (t70 : TabO B o70 74 70) (t77 : TabO B o77 81 77) (mx : (x, accObj dx (refsOf ((List.range 6).map RA)) c) ∈ rest) (md : (dx, sizeD w e (.int (tot.fmod 4) tk)) ∈ rest) (mT : ∀ j, j < 6 → (RA j, tupW wv tw tp j) ∈ rest)
    (hpa : ∀ j, j < 6 → pa (RA j) = wv j) (hpb : ∀ j, j < 6 → pb (RA j) = ptN j) (hne : dx < x) (low : 170 < dx) (lowT : ∀ j, j < 6 → x < RA j) (off : ∀ q ∈ rest, q.1 ≠ 70 ∧ q.1 ≠ 77) (m1 : (L + 1, o1) ∈ rest) (hd1 : o1.data = .cell (some (.int tot tt))) (ht0 : 0 ≤ tot) (ht1 : tot < 4000000)
    (h : ∀ o70' o77' h' g' tk', GensUp s.gens g' → TabO B o70' 74 70 → TabO B o77' 81 77 → Fr B L h' (fun y : Str => if y = "text" then some (.str (Txt.join "" ((List.range 6).map fun i => wv i ++ ptN i)) tx) else if y = "ring" then some (.ref x) else m0 y) → News B L h' ((70, o70') :: (77, o77') :: rest) →
      wpAny (model PG w) (AA dp un gd [lawE L fa cd]) (execs (lawBody.drop 13) (lawE L fa cd)) Q (lawEE w (AA dp un gd [lawE L fa cd]) (lawE L fa cd) R) ⟨h', g', s.drawn, tk', s.os⟩) :
    wpAny (model PG w) (AA dp un gd [lawE L fa cd]) (execs (lawBody.drop 12) (lawE L fa cd)) Q (lawEE w (AA dp un gd [lawE L fa cd]) (lawE L fa cd) R) s := by
  refine step_at (k := 12) (st := ?st12) ?hk ?_
  case hk => conv => lhs; whnf
  have hσ : ∀ T ∈ (List.range 6).map RA, ∃ j, j < 6 ∧ T = RA j := fun T hT => by
    obtain ⟨j, hj, rfl⟩ := List.mem_map.mp hT
    exact ⟨j, List.mem_range.mp hj, rfl⟩
  have hpaσ : ∀ j ∈ List.range 6, pa (RA j) = wv j := fun j hj => hpa j (List.mem_range.mp hj)
  have hpbσ : ∀ j ∈ List.range 6, pb (RA j) = ptN j := fun j hj => hpb j (List.mem_range.mp hj)
  have mk : ∀ {h o7 o8} {m : Str → Option Value}, Fr B L h m → News B L h ((70, o7) :: (77, o8) :: rest) → TabO B o7 74 70 → TabO B o8 81 77 → RingAt w B h x dx ((List.range 6).map RA) pa pb (tot.fmod 4) := fun F N t7 t8 =>
    ring_news F N t7 t8 (.head _) (.tail _ (.head _)) (.tail _ (.tail _ mx)) (.tail _ (.tail _ md)) (fun T hT => by
      obtain ⟨j, hj, rfl⟩ := hσ T hT
      exact ⟨tw j, tp j, by rw [hpa j hj, hpb j hj]; exact .tail _ (.tail _ (mT j hj))⟩) hne low (fun T hT => by
      obtain ⟨j, hj, rfl⟩ := hσ T hT
      exact lowT j hj) (fun T hT => by
      obtain ⟨j, hj, rfl⟩ := hσ T hT
      rw [hpa j hj]; exact Nat.lt_of_le_of_lt (hwv j hj) (by decide)) (fun T hT => by
      obtain ⟨j, hj, rfl⟩ := hσ T hT
      rw [hpb j hj, ptN_len j hj]; decide) (by simp)
  iterate 9 walk1
  rename Fr _ _ _ _ => F1
  rename News _ _ _ _ => N1
  refine ring_str (p := p) (loose := loose) (mean := mean) (mg := mg) (mb := mb) (by omega) (by omega) F1 X T (mk F1 N1 t70 t77) fun s' t hu hG => ?_
  obtain ⟨o77', F2, N2, t77'⟩ := up77 hu F1 N1 hG.t77 off ⟨_, X 81 _ (by k_is)⟩
  obtain ⟨h2, g2, d2, k2, os2⟩ := s'
  obtain ⟨hu1, hu2, hu3, hu4⟩ := hu
  dsimp only at hu2 hu3 hu4 F2 N2
  subst hu3 hu4
  clear hG hu1 F1 N1
  rw [ring_text hpaσ hpbσ]
  have hne9 : (Txt.join "" ((List.range 6).map fun i => wv i ++ ptN i) != Txt.join "" ((List.range 6).map fun i => wv i ++ ptN i)) = false := by simp
  iterate 12 walk1
  rename Fr _ _ _ _ => F3
  rename News _ _ _ _ => N3
  have hkz0 : 0 ≤ tot.fmod 4 := Int.fmod_nonneg_of_pos _ (by decide)
  have hkz1 : tot.fmod 4 < 4 := Int.fmod_lt_of_pos _ (by decide)
  refine ring_len (p := p) (loose := loose) (mean := mean) (mg := mg) (mb := mb) (by omega) F3 X T (mk F3 N3 t70 t77') hkz0 (by omega) fun s' t hu hG => ?_
  obtain ⟨o70', F4, N4, t70'⟩ := up70 hu F3 N3 hG.t70 off ⟨_, X 74 _ (by k_is)⟩
  obtain ⟨h4, g4, d4, k4, os4⟩ := s'
  obtain ⟨hv1, hv2, hv3, hv4⟩ := hu
  dsimp only at hv2 hv3 hv4 F4 N4
  subst hv3 hv4
  clear hG hv1 F3 N3
  rw [ring_lenS hpaσ hpbσ]
  have hlt9 : (Txt.join "" ((List.range 6).map fun i => wv i ++ ptN i)).length ≤ 100 := by
    rw [join_len]
    have e0 := hwv 0 (by decide)
    have e1 := hwv 1 (by decide)
    have e2 := hwv 2 (by decide)
    have e3 := hwv 3 (by decide)
    have e4 := hwv 4 (by decide)
    have e5 := hwv 5 (by decide)
    have z0 := ptN_len 0 (by decide)
    have z1 := ptN_len 1 (by decide)
    have z2 := ptN_len 2 (by decide)
    have z3 := ptN_len 3 (by decide)
    have z4 := ptN_len 4 (by decide)
    have z5 := ptN_len 5 (by decide)
    simp only [List.range, List.range.loop, List.map_cons, List.map_nil, List.sum_cons, List.sum_nil, app_len]
    omega
  generalize hG : Txt.join "" ((List.range 6).map fun i => wv i ++ ptN i) = txt at *
  iterate 15 walk1
  rw [show (tot.fmod 4 + (txt.length : Int) != tot.fmod 4 + (txt.length : Int)) = false from by simp]
  iterate 5 walk1
  rename Fr _ _ _ _ => F9
  rename News _ _ _ _ => N9
  exact h _ _ _ _ _ (hu2.trans hv2) t70' t77' F9 N9
end
end -- A50
section -- A66
section
variable {w : World} {s : Shared} {R : Result → Shared → Prop} {dp un : Nat} {gd : Option (List Code)} {p : Program} {loose : List Str} {mg mb : Str → Option Value} {mean : ExcName → Option Value} {B : Heap} {L fa : Nat} {cd : Value} {Q : Flow → Shared → Prop} {E : Value → Shared → Prop}
theorem nonempty_ne {prog : Program} {A : Around} {E : Value → Shared → Prop} {l b : Nat} {items : Array Value} {Q : Value → Shared → Prop} (hl : s.heap.IsList l items) (hb : s.heap.IsList b #[]) (hsz : items.size ≠ 0) (hu : A.units < cLine) (h : Q (.bool true) s) : wpAny (model prog w) A (compareOp .NotEq (.ref l) (.ref b)) Q E s :=
  (PySem.SeqAt.RcNeAt.lists_lengths (A := A) (s := s) hl hb (by simpa using hsz) hu) prog w E Q h
theorem law_ret {lf kf ls ks t : Nat} {fr sv : Array Value} {o2 o4 : Obj} {ty : Tok} {news : List (Addr × Obj)} {m0 : Str → Option Value}
    (hdp : dp + 20 < recursionLimit) (hun : un + 40 < cLine) (hL : 170 < L)
    (X : (hd.heap_1 w.params).In B) (T : Top p loose mean mg mb B) 
    (F : Fr B L s.heap (fun y : Str => if y = "front" then some (.ref lf) else m0 y))
    (N : News B L s.heap news) (mf : (lf, listOf fr kf) ∈ news) (hfr : fr.size ≠ 0) (m2 : (L + 2, o2) ∈ news) (hd2 : o2.data = .cell (some (.ref ls))) (m4 : (L + 4, o4) ∈ news) (hd4 : o4.data = .cell (some (.int (t : Int) ty)))
    (ms : (ls, listOf sv ks) ∈ news) (hsv : sv.size = t) (ht : t ≤ 5)
    (h : ∀ h' tk', Fr B L h' (fun y : Str => if y = "front" then some (.ref lf) else m0 y) → News B L h' news → Q (.ret (.bool true)) { s with heap := h', toks := tk' }) :
    wpAny (model PG w) (AA dp un gd [lawE L fa cd]) (execs (lawBody.drop 16) (lawE L fa cd)) Q E s := by
  refine step_at (k := 16) (st := ?st16) ?hk ?_
  case hk => conv => lhs; whnf
  iterate 7 walk1
  rename Fr _ _ _ _ => F7
  rename News _ _ _ _ => N7
  refine nonempty_ne (News.isList N7 (.tail _ mf)) (News.isList N7 (.head _)) hfr (by show un < _; omega) ?_
  have N8 : News B L _ news := fun p hp => N7 p (.tail _ hp)
  clear N7
  iterate 13 walk1
  rw [show ((t : Int) == (t : Int)) = true from by simp]
  exact h _ _ F7 N8
end
end -- A66
end
example : True ∧ True := by (w_top off; (try (walk1; fail)); exact ⟨trivial, trivial⟩)
example : True ∧ True := by (w_top off; (try (walk1; fail)); exact ⟨trivial, trivial⟩)
section
local macro_rules | `(tactic| k_mem) => `(tactic| first | assumption | exact List.Mem.head _ | (refine List.Mem.tail _ ?_; k_mem))
local macro_rules | `(tactic| k_all) => `(tactic| assumption)
section -- A51
theorem ext0 {tot : Int} (et : tot.fmod 3 = 0) : extOf tot = [0] := if_pos et
theorem ext1 {tot : Int} (et : tot.fmod 3 = 1) : extOf tot = [] := by unfold extOf; rw [et]; rfl
theorem ext2 {tot : Int} (et : tot.fmod 3 = 2) : extOf tot = [127, 1] := by unfold extOf; rw [et]; rfl
section
variable {w : World} {s : Shared} {R : Result → Shared → Prop} {dp un : Nat} {gd : Option (List Code)} {p : Program} {loose : List Str} {mg mb : Str → Option Value} {mean : ExcName → Option Value} {B : Heap} {L fa : Nat} {cd : Value} {Q : Flow → Shared → Prop}
theorem lawP4e0 {rest : List (Addr × Obj)} {o70 o77 o1 o4 : Obj} {l k : Nat} {n0 n1 n2 n3 tot : Int} {u0 u1 u2 u3 tt : Tok} {m0 : Str → Option Value} {tx : Value} {rx : Value} (hL : 170 < L)
    (X : (hd.heap_1 w.params).In B) (T : Top p loose mean mg mb B)
    (F : Fr B L s.heap (fun y : Str => if y = "text" then some tx else if y = "ring" then some rx else if y = "row" then some (.ref l) else m0 y))
    (N : News B L s.heap ((70, o70) :: (77, o77) :: (L + 4, o4) :: (l, listOf #[.int n0 u0, .int n1 u1, .int n2 u2, .int n3 u3] k) :: rest)) (off4 : ∀ q ∈ rest, q.1 ≠ L + 4) (hl : L + 4 < l)
    (m1 : (L + 1, o1) ∈ rest) (hd1 : o1.data = .cell (some (.int tot tt))) (hd4 : o4.data = .cell none) (ht0 : 0 ≤ tot) (ht1 : tot < 4000000) (et : tot.fmod 3 = 0)
    (h : ∀ (lr : Nat) (tks : Nat → Tok) (o4' : Obj) tz h' tk, l < lr → o4'.data = .cell (some (.int 0 tz)) → Fr B L h' (fun y : Str => if y = "row" then some (.ref lr) else if y = "text" then some tx else if y = "ring" then some rx else m0 y) →
      News B L h' ((lr, listOf ((([n0, n1, n2, n3] ++ extOf tot).zipIdx.map fun p => Value.int p.1 (tks p.2)).toArray) 0) :: (70, o70) :: (77, o77) :: (L + 4, o4') :: (l, listOf #[.int n0 u0, .int n1 u1, .int n2 u2, .int n3 u3] k) :: rest) →
      wpAny (model PG w) (AA dp un gd [lawE L fa cd]) (execs (lawBody.drop 15) (lawE L fa cd)) Q (lawEE w (AA dp un gd [lawE L fa cd]) (lawE L fa cd) R) { s with heap := h', toks := tk }) :
    wpAny (model PG w) (AA dp un gd [lawE L fa cd]) (execs (lawBody.drop 13) (lawE L fa cd)) Q (lawEE w (AA dp un gd [lawE L fa cd]) (lawE L fa cd) R) s := by
  refine step_at (k := 13) (st := ?st13) ?hk ?_
  case hk => conv => lhs; whnf
  iterate 29 walk1
  rw [et]
  iterate 3 walk1
  refine step_at (k := 14) (st := ?st14) ?hk ?_
  case hk => conv => lhs; whnf
  iterate 3 walk1
  rename Fr _ _ _ _ => F9
  rename News _ _ _ _ => N9
  refine' h _ (fun i => [u0, u1, u2, u3, _, 0].getD i 0) _ _ _ _ ?lt (by assumption) (fr_congr F9 fun y => ?fr) (fun q hq => ?nw)
  case fr =>
    by_cases e1 : y = "row"
    · subst e1; rfl
    · simp only [e1, if_false]
  case nw =>
    rw [ext0 et] at hq
    rcases List.mem_cons.mp hq with rfl | hq
    · exact N9 _ (by k_mem)
    · exact N9 _ (.tail _ (.tail _ (.tail _ (.tail _ (.tail _ hq)))))
  case lt => omega
theorem lawP4e1 {rest : List (Addr × Obj)} {o70 o77 o1 o4 : Obj} {l k : Nat} {n0 n1 n2 n3 tot : Int} {u0 u1 u2 u3 tt : Tok} {m0 : Str → Option Value} {tx : Value} {rx : Value} (hL : 170 < L)
    (X : (hd.heap_1 w.params).In B) (T : Top p loose mean mg mb B)
    (F : Fr B L s.heap (fun y : Str => if y = "text" then some tx else if y = "ring" then some rx else if y = "row" then some (.ref l) else m0 y))
    (N : News B L s.heap ((70, o70) :: (77, o77) :: (L + 4, o4) :: (l, listOf #[.int n0 u0, .int n1 u1, .int n2 u2, .int n3 u3] k) :: rest)) (off4 : ∀ q ∈ rest, q.1 ≠ L + 4) (hl : L + 4 < l)
    (m1 : (L + 1, o1) ∈ rest) (hd1 : o1.data = .cell (some (.int tot tt))) (hd4 : o4.data = .cell none) (ht0 : 0 ≤ tot) (ht1 : tot < 4000000) (et : tot.fmod 3 = 1)
    (h : ∀ (lr : Nat) (tks : Nat → Tok) (o4' : Obj) tz h' tk, l < lr → o4'.data = .cell (some (.int 0 tz)) → Fr B L h' (fun y : Str => if y = "row" then some (.ref lr) else if y = "text" then some tx else if y = "ring" then some rx else m0 y) →
      News B L h' ((lr, listOf ((([n0, n1, n2, n3] ++ extOf tot).zipIdx.map fun p => Value.int p.1 (tks p.2)).toArray) 0) :: (70, o70) :: (77, o77) :: (L + 4, o4') :: (l, listOf #[.int n0 u0, .int n1 u1, .int n2 u2, .int n3 u3] k) :: rest) →
      wpAny (model PG w) (AA dp un gd [lawE L fa cd]) (execs (lawBody.drop 15) (lawE L fa cd)) Q (lawEE w (AA dp un gd [lawE L fa cd]) (lawE L fa cd) R) { s with heap := h', toks := tk }) :
    wpAny (model PG w) (AA dp un gd [lawE L fa cd]) (execs (lawBody.drop 13) (lawE L fa cd)) Q (lawEE w (AA dp un gd [lawE L fa cd]) (lawE L fa cd) R) s := by
  refine step_at (k := 13) (st := ?st13) ?hk ?_
  case hk => conv => lhs; whnf
  iterate 29 walk1
  rw [et]
  iterate 3 walk1
  refine step_at (k := 14) (st := ?st14) ?hk ?_
  case hk => conv => lhs; whnf
  iterate 3 walk1
  rename Fr _ _ _ _ => F9
  rename News _ _ _ _ => N9
  refine' h _ (fun i => [u0, u1, u2, u3, 0, 0].getD i 0) _ _ _ _ ?lt (by assumption) (fr_congr F9 fun y => ?fr) (fun q hq => ?nw)
  case fr =>
    by_cases e1 : y = "row"
    · subst e1; rfl
    · simp only [e1, if_false]
  case nw =>
    rw [ext1 et] at hq
    rcases List.mem_cons.mp hq with rfl | hq
    · exact N9 _ (by k_mem)
    · exact N9 _ (.tail _ (.tail _ (.tail _ (.tail _ (.tail _ hq)))))
  case lt => omega
theorem lawP4e2 {rest : List (Addr × Obj)} {o70 o77 o1 o4 : Obj} {l k : Nat} {n0 n1 n2 n3 tot : Int} {u0 u1 u2 u3 tt : Tok} {m0 : Str → Option Value} {tx : Value} {rx : Value} (hL : 170 < L)
    (X : (hd.heap_1 w.params).In B) (T : Top p loose mean mg mb B)
    (F : Fr B L s.heap (fun y : Str => if y = "text" then some tx else if y = "ring" then some rx else if y = "row" then some (.ref l) else m0 y))
    (N : News B L s.heap ((70, o70) :: (77, o77) :: (L + 4, o4) :: (l, listOf #[.int n0 u0, .int n1 u1, .int n2 u2, .int n3 u3] k) :: rest)) (off4 : ∀ q ∈ rest, q.1 ≠ L + 4) (hl : L + 4 < l)
    (m1 : (L + 1, o1) ∈ rest) (hd1 : o1.data = .cell (some (.int tot tt))) (hd4 : o4.data = .cell none) (ht0 : 0 ≤ tot) (ht1 : tot < 4000000) (et : tot.fmod 3 = 2)
    (h : ∀ (lr : Nat) (tks : Nat → Tok) (o4' : Obj) tz h' tk, l < lr → o4'.data = .cell (some (.int 0 tz)) → Fr B L h' (fun y : Str => if y = "row" then some (.ref lr) else if y = "text" then some tx else if y = "ring" then some rx else m0 y) →
      News B L h' ((lr, listOf ((([n0, n1, n2, n3] ++ extOf tot).zipIdx.map fun p => Value.int p.1 (tks p.2)).toArray) 0) :: (70, o70) :: (77, o77) :: (L + 4, o4') :: (l, listOf #[.int n0 u0, .int n1 u1, .int n2 u2, .int n3 u3] k) :: rest) →
      wpAny (model PG w) (AA dp un gd [lawE L fa cd]) (execs (lawBody.drop 15) (lawE L fa cd)) Q (lawEE w (AA dp un gd [lawE L fa cd]) (lawE L fa cd) R) { s with heap := h', toks := tk }) :
    wpAny (model PG w) (AA dp un gd [lawE L fa cd]) (execs (lawBody.drop 13) (lawE L fa cd)) Q (lawEE w (AA dp un gd [lawE L fa cd]) (lawE L fa cd) R) s := by
  refine step_at (k := 13) (st := ?st13) ?hk ?_
  case hk => conv => lhs; whnf
  iterate 29 walk1
  rw [et]
  iterate 3 walk1
  refine step_at (k := 14) (st := ?st14) ?hk ?_
  case hk => conv => lhs; whnf
  iterate 3 walk1
  rename Fr _ _ _ _ => F9
  rename News _ _ _ _ => N9
  refine' h _ (fun i => [u0, u1, u2, u3, _, _].getD i 0) _ _ _ _ ?lt (by assumption) (fr_congr F9 fun y => ?fr) (fun q hq => ?nw)
  case fr =>
    by_cases e1 : y = "row"
    · subst e1; rfl
    · simp only [e1, if_false]
  case nw =>
    rw [ext2 et] at hq
    rcases List.mem_cons.mp hq with rfl | hq
    · exact N9 _ (by k_mem)
    · exact N9 _ (.tail _ (.tail _ (.tail _ (.tail _ (.tail _ hq)))))
  case lt => omega
theorem lawP4e {rest : List (Addr × Obj)} {o70 o77 o1 o4 : Obj} {l k : Nat} {n0 n1 n2 n3 tot : Int} {u0 u1 u2 u3 tt : Tok} {m0 : Str → Option Value} {tx : Value} {rx : Value} (hL : 170 < L)
    (X : (hd.heap_1 w.params).In B) (T : Top p loose mean mg mb B)
    (F : Fr B L s.heap (fun y : Str => if y = "text" then some tx else if y = "ring" then some rx else if y = "row" then some (.ref l) else m0 y))
    (N : News B L s.heap ((70, o70) :: (77, o77) :: (L + 4, o4) :: (l, listOf #[.int n0 u0, .int n1 u1, .int n2 u2, .int n3 u3] k) :: rest)) (off4 : ∀ q ∈ rest, q.1 ≠ L + 4) (hl : L + 4 < l)
    (m1 : (L + 1, o1) ∈ rest) (hd1 : o1.data = .cell (some (.int tot tt))) (hd4 : o4.data = .cell none) (ht0 : 0 ≤ tot) (ht1 : tot < 4000000)
    (h : ∀ (lr : Nat) (tks : Nat → Tok) (o4' : Obj) tz h' tk, l < lr → o4'.data = .cell (some (.int 0 tz)) → Fr B L h' (fun y : Str => if y = "row" then some (.ref lr) else if y = "text" then some tx else if y = "ring" then some rx else m0 y) →
      News B L h' ((lr, listOf ((([n0, n1, n2, n3] ++ extOf tot).zipIdx.map fun p => Value.int p.1 (tks p.2)).toArray) 0) :: (70, o70) :: (77, o77) :: (L + 4, o4') :: (l, listOf #[.int n0 u0, .int n1 u1, .int n2 u2, .int n3 u3] k) :: rest) →
      wpAny (model PG w) (AA dp un gd [lawE L fa cd]) (execs (lawBody.drop 15) (lawE L fa cd)) Q (lawEE w (AA dp un gd [lawE L fa cd]) (lawE L fa cd) R) { s with heap := h', toks := tk }) :
    wpAny (model PG w) (AA dp un gd [lawE L fa cd]) (execs (lawBody.drop 13) (lawE L fa cd)) Q (lawEE w (AA dp un gd [lawE L fa cd]) (lawE L fa cd) R) s := by
  have h0 : 0 ≤ tot.fmod 3 := Int.fmod_nonneg_of_pos _ (by decide)
  have h3 : tot.fmod 3 < 3 := Int.fmod_lt_of_pos _ (by decide)
  rcases (show tot.fmod 3 = 0 ∨ tot.fmod 3 = 1 ∨ tot.fmod 3 = 2 by omega) with et | et | et
  · exact lawP4e0 hL X T F N off4 hl m1 hd1 hd4 ht0 ht1 et h
  · exact lawP4e1 hL X T F N off4 hl m1 hd1 hd4 ht0 ht1 et h
  · exact lawP4e2 hL X T F N off4 hl m1 hd1 hd4 ht0 ht1 et h
end
end -- A51
end
example : True ∧ True := by (w_top off; (try (walk1; fail)); exact ⟨trivial, trivial⟩)
example : True ∧ True := by (w_top off; (try (walk1; fail)); exact ⟨trivial, trivial⟩)
section
local macro_rules | `(tactic| k_mem) => `(tactic| first | assumption | exact List.Mem.head _ | (refine List.Mem.tail _ ?_; k_mem))
local macro_rules | `(tactic| k_all) => `(tactic| first | assumption | exact List.forall_mem_nil _ | (refine' List.forall_mem_cons.mpr ⟨?a, ?b⟩; (case a => k_ne); (case b => k_all)))
local macro_rules | `(tactic| walk_at "mine slc") => `(tactic| ((refine' kmk_slice ?F ?N ?l ?p ?q ?_ ?s ?t ?z; (case F => k_asm); (case N => k_asm); (case l => kmk_list); (case p => kmk_part); (case q => kmk_part); (case s => with_unfolding_all rfl); (case t => kmk_pure); (case z => assumption)); intro D' h' F' N' l1; (try k_lt l1)))
section -- A54
theorem UpdF_mem {d : Addr} {o o' : Obj} : ∀ {l : List (Addr × Obj)} {g : Obj → List (Addr × Obj)}, UpdF d o l g → ∀ p, p ∈ g o' → p = (d, o') ∨ (p ∈ l ∧ p.1 ≠ d)
  | _, _, .head h, p, hp => by
    rcases List.mem_cons.mp hp with rfl | hp
    · exact .inl rfl
    · exact .inr ⟨.tail _ hp, h p hp⟩
  | _, _, .tail h u, p, hp => by
    rcases List.mem_cons.mp hp with rfl | hp
    · exact .inr ⟨.head _, h⟩
    · rcases UpdF_mem u p hp with e | ⟨e, e2⟩
      · exact .inl e
      · exact .inr ⟨.tail _ e, e2⟩
theorem news_upd2 {h₀ h h' : Heap} {L x dx : Addr} {o o' d d' : Obj} {news : List (Addr × Obj)} {g g2 : Obj → List (Addr × Obj)} (U : UpdF x o news g) (U2 : UpdF dx d (g o') g2) (hm : (x, o) ∈ news) (hm2 : (dx, d) ∈ news) (N : News h₀ L h news)
    (k : ∀ b ob, b ≠ x → b ≠ dx → h.get? b = some ob → h'.get? b = some ob) (hx : h'.get? x = some o') (hd : h'.get? dx = some d') : News h₀ L h' (g2 d') := by
  intro p hp
  rcases UpdF_mem U2 p hp with rfl | ⟨hp, hne⟩
  · exact ⟨hd, (N _ hm2).2⟩
  · rcases UpdF_mem U p hp with rfl | ⟨hp, hnx⟩
    · exact ⟨hx, (N _ hm).2⟩
    · exact ⟨k _ _ hnx hne (N p hp).1, (N p hp).2⟩
noncomputable def turnB0 : List Stmt := match (lawBody[15]? : Option Stmt) with | some (Stmt.Try (Stmt.For _ _ b _ _ :: _) _ _ _ _) => b | _ => []
noncomputable def turnBP : { x : List Stmt // turnB0 = x } := ⟨_, by conv => lhs; whnf⟩
noncomputable def turnB : List Stmt := turnBP.1
theorem fr_but2 {B h h' : Heap} {L x dx : Addr} {m : Str → Option Value} (F : Fr B L h m) (k : ∀ b o, b ≠ x → b ≠ dx → h.get? b = some o → h'.get? b = some o) (hL : x ≠ L) (hL2 : dx ≠ L) (hx : B.get? x = none) (hd : B.get? dx = none) : Fr B L h' m :=
  ⟨let ⟨o, es, ep, e, r⟩ := F.ns; ⟨o, es, ep, k _ _ (Ne.symm hL) (Ne.symm hL2) e, r⟩, fun b o e => k b o (by rintro rfl; rw [hx] at e; cases e) (by rintro rfl; rw [hd] at e; cases e) (F.keep b o e), F.above⟩
noncomputable def rot (OS : List Nat) (i : Nat) : List Nat := OS.drop (i + 1) ++ OS.take i
noncomputable abbrev ringL (L x dx : Nat) (o70 o77 o4 : Obj) (xo : Obj) (d : Obj) (rest : List (Addr × Obj)) : List (Addr × Obj) := (70, o70) :: (77, o77) :: (L + 4, o4) :: (x, xo) :: (dx, d) :: rest
theorem off1_of {h : Heap} {q : Nat} (hq : h.get? q = none) : ∀ {l : List (Addr × Obj)}, (∀ p ∈ l, h.get? p.1 = some p.2) → LCg.Off1 q l
  | [], _ => trivial
  | p :: r, H => by
    refine ⟨fun e => ?_, off1_of hq fun p hp => H p (.tail _ hp)⟩
    have h9 := H p (.head _)
    rw [show p.1 = q from e, hq] at h9
    cases h9
section
variable {OS : List Nat} {t i : Nat} {z : Int}
theorem cnt_i (ht : t < 5) : ∃ i : Nat, (z - 1).fmod ((6 - t : Nat) : Int) = i ∧ i < 6 - t := by
  have hp : (0 : Int) < ((6 - t : Nat) : Int) := by omega
  generalize 6 - t = m at hp
  have h1 : (0 : Int) ≤ (z - 1).fmod (m : Int) := Int.fmod_nonneg_of_pos _ hp
  have h2 : (z - 1).fmod (m : Int) < (m : Int) := Int.fmod_lt_of_pos _ hp
  exact ⟨((z - 1).fmod (m : Int)).toNat, (Int.toNat_of_nonneg h1).symm, by omega⟩
theorem os_le6 (h : OS.length = 6 - t) : OS.length ≤ 6 := h ▸ Nat.sub_le 6 t
theorem map_le20 (h : OS.length ≤ 6) : (OS.map Value.ref).length ≤ 20 := by rw [List.length_map]; exact Nat.le_trans h (by decide)
theorem map_i (h : OS.length = 6 - t) (hi : i < 6 - t) : i ≤ (OS.map Value.ref).length := by rw [List.length_map, h]; exact Nat.le_of_lt hi
theorem drop_le6 (h : OS.length ≤ 6) : ((OS.map Value.ref).drop i).length ≤ 6 := by rw [List.length_drop, List.length_map]; exact Nat.le_trans (Nat.sub_le _ _) h
theorem take_le6 (h : OS.length ≤ 6) : ((OS.map Value.ref).take i).length ≤ 6 := by rw [List.length_take, List.length_map]; exact Nat.le_trans (Nat.min_le_right _ _) h
theorem line100 : (100 : Nat) ≤ sizeLine := by decide
theorem drop_line (h : OS.length ≤ 6) : (((OS.map Value.ref).drop i).toArray).size ≤ sizeLine := Nat.le_trans (Nat.le_trans (drop_le6 h) (by decide)) line100
theorem drop_pos (h : OS.length = 6 - t) (hi : i < 6 - t) : 1 ≤ (List.drop i (List.map Value.ref OS)).toArray.size := by
  show 1 ≤ (List.drop i (List.map Value.ref OS)).length
  rw [List.length_drop, List.length_map, h]; exact Nat.sub_pos_of_lt hi
theorem rot_line (h : OS.length ≤ 6) : ((((OS.map Value.ref).drop (i + 1)).toArray).toList.length + (((List.map Value.ref OS).take i).toArray).toList.length) ≤ sizeLine :=
  Nat.le_trans (Nat.le_trans (Nat.add_le_add (drop_le6 h) (take_le6 h)) (by decide)) line100
theorem rot_le20 (h : OS.length ≤ 6) : (rot OS i).length ≤ 20 := by
  unfold rot; rw [List.length_append, List.length_drop, List.length_take]
  exact Nat.le_trans (Nat.add_le_add (Nat.le_trans (Nat.sub_le _ _) h) (Nat.le_trans (Nat.min_le_right _ _) h)) (by decide)
end
section
variable {w : World} {s : Shared} {dp un : Nat} {gd : Option (List Code)} {p : Program} {loose : List Str} {mg mb : Str → Option Value} {mean : ExcName → Option Value} {B : Heap} {L fa : Nat} {cd : Value} {Q : Flow → Shared → Prop} {E : Value → Shared → Prop}
theorem turn1 {x dx c t : Nat} {o70 o77 o4 : Obj} {OS : List Nat} {kz z : Int} {e tz tk ty : Tok} {rest : List (Addr × Obj)} {m0 : Str → Option Value} (hdp : dp + 20 < recursionLimit) (hL : 170 < L)
    (X : (hd.heap_1 w.params).In B) (T : Top p loose mean mg mb B) (ht : t < 5) (hlen : OS.length = 6 - t) (hz0 : 0 ≤ z) (hz1 : z ≤ 30)
    (F : Fr B L s.heap (fun y : Str => if y = "size" then some (.int z tz) else if y = "ring" then some (.ref x) else m0 y))
    (N : News B L s.heap (ringL L x dx o70 o77 o4 (accObj dx (refsOf OS) c) (sizeD w e (.int kz tk)) rest)) (hd4 : o4.data = .cell (some (.int t ty)))
    (hne : dx < x) (low : 170 < dx) (hx4 : L + 4 < dx) (o1 : ∀ q ∈ rest, q.1 ≠ x) (o2 : ∀ q ∈ rest, q.1 ≠ dx) (o3 : ∀ q ∈ rest, q.1 ≠ L + 4)
    (h : ∀ (i q c' : Nat) (e' tz' ty' : Tok) (o4' : Obj) h' tk', (z - 1).fmod ((6 - t : Nat) : Int) = i → i < 6 - t → o4'.data = .cell (some (.int ((t + 1 : Nat) : Int) ty')) →
      Fr B L h' (fun y : Str => if y = "behind" then some (.ref q) else if y = "size" then some (.int z tz) else if y = "ring" then some (.ref x) else m0 y) →
      News B L h' ((q, { cls := .type "list", data := .seq ((OS.map Value.ref).drop i).toArray }) :: ringL L x dx o70 o77 o4' (accObj dx (refsOf (rot OS i)) c') (sizeD w e' (.int 0 tz')) rest) →
      wpAny (model PG w) (AA dp un gd [lawE L fa cd]) (execs (turnB.drop 4) (lawE L fa cd)) Q E { s with heap := h', toks := tk' }) :
    wpAny (model PG w) (AA dp un gd [lawE L fa cd]) (execs (turnB.drop 0) (lawE L fa cd)) Q E s := by
  refine step_at (k := 0) (st := ?st0) ?hk ?_
  case hk => conv => lhs; whnf
  iterate 6 walk1
  rw [show ((t : Int) == 5) = false from by simp only [beq_eq_false_iff_ne]; omega]
  iterate 3 walk1
  refine step_at (k := 1) (st := ?st1) ?hk ?_
  case hk => conv => lhs; whnf
  iterate 15 walk1
  have hxm := N _ (.tail _ (.tail _ (.tail _ (.head _))))
  have hdm := N _ (.tail _ (.tail _ (.tail _ (.tail _ (.head _)))))
  refine wpAny_call (acc_count (s := ⟨s.heap, s.gens, s.drawn, _, s.os⟩) (p := p) (loose := loose) (mean := mean) (mg := mg) (mb := mb) (by omega) (X.keeps (under2 F hxm.2.2 hdm.2.2)) (T.keeps (under2 F hxm.2.2 hdm.2.2)) hxm.1 hdm.1 hne fun h1 t1 hk => ?_)
  have F1 := fr_up F hk
  have N1 := news_up N hk
  have hsz : (((refsOf OS).size : Nat) : Int) = ((6 - t : Nat) : Int) := by simp [refsOf, hlen]
  clear F N hk hxm hdm
  dsimp only
  rw [hsz]
  iterate 3 walk1
  rename Fr _ _ _ _ => F2
  rename News _ _ _ _ => N2
  have hxm := N2 _ (.tail _ (.tail _ (.tail _ (.head _))))
  have hdm := N2 _ (.tail _ (.tail _ (.tail _ (.tail _ (.head _)))))
  obtain ⟨i, hi, hi6⟩ := cnt_i (z := z) ht
  have hO6 := os_le6 hlen
  rw [hi]
  refine wpAny_call (acc_pop (s := ⟨_, s.gens, s.drawn, _, s.os⟩) (p := p) (loose := loose) (mean := mean) (mg := mg) (mb := mb) (L := OS.map Value.ref) (i := i) (.inl rfl) (by omega) (X.keeps (under2 F2 hxm.2.2 hdm.2.2)) (T.keeps (under2 F2 hxm.2.2 hdm.2.2)) hxm.1 hdm.1 hne (map_le20 hO6) (map_i hlen hi6) fun q h2 t2 c2 hk hq0 hq hx' => ?_)
  have F3 := fr_but1 F2 hk hxm.2.1 hxm.2.2
  have N3 := news_upd (by k_updF) N2 hk hx'
  have lq := off1_of hq0 (fun p hp => (N2 p hp).1)
  have N4 := news_cons N3 hq (ne_L F2 hq0) (none_below F2 hq0)
  simp only [LCg.Off1, and_true] at lq
  dsimp only at N4
  clear F2 N2 N3 hk hq0 hq hx' hxm hdm
  walk_at "mine st"
  refine step_at (k := 2) (st := ?st2) ?hk ?_
  case hk => conv => lhs; whnf
  have hz9 : (((OS.map Value.ref).drop i).toArray).size ≤ sizeLine := drop_line hO6
  iterate 14 walk1
  walk_at "mine slc"
  iterate 4 walk1
  dsimp only [List.append_nil]
  rename Fr _ _ _ _ => F5
  rename News _ _ _ _ => N5
  have hsl : slicePick (List.drop i (List.map Value.ref OS)).toArray (some 1) none none = ((OS.map Value.ref).drop (i + 1)).toArray := by
    have h9 := slicePick_from (List.drop i (List.map Value.ref OS)).toArray 1 (drop_pos hlen hi6)
    rw [show (some ((1 : Nat) : Int)) = some 1 from rfl] at h9
    rw [h9]; simp [List.drop_drop]
  rw [hsl] at N5
  have hxm := N5 (x, accObj dx _ _) (by k_mem)
  have hdm := N5 (dx, sizeD w _ _) (by k_mem)
  show wpAny _ _ (call (.ref 61) [.ref x]) _ _ _
  refine wpAny_call (acc_pop (s := ⟨_, s.gens, s.drawn, _, s.os⟩) (p := p) (loose := loose) (mean := mean) (mg := mg) (mb := mb) (L := (OS.map Value.ref).take i) (i := 0) (ti := 242) (.inr ⟨rfl, rfl, rfl⟩) (by omega) (X.keeps (under2 F5 hxm.2.2 hdm.2.2)) (T.keeps (under2 F5 hxm.2.2 hdm.2.2)) hxm.1 hdm.1 hne (Nat.le_trans (take_le6 hO6) (by decide)) (Nat.zero_le _) fun q2 h5 t5 c5 hk hq0 hq hx' => ?_)
  have F6 := fr_but1 F5 hk hxm.2.1 hxm.2.2
  have N6 := news_upd (by k_updF) N5 hk hx'
  have lq2 := off1_of hq0 (fun p hp => (N5 p hp).1)
  have N7 := news_cons N6 hq (ne_L F5 hq0) (none_below F5 hq0)
  simp only [LCg.Off1] at lq2
  dsimp only at N7
  clear F5 N5 N6 hk hq0 hq hx' hxm hdm
  simp only [List.drop_zero, List.take_zero] at N7
  have hz10 : ((((OS.map Value.ref).drop (i + 1)).toArray).toList.length + (((List.map Value.ref OS).take i).toArray).toList.length) ≤ sizeLine := rot_line hO6
  refine kmk_add_lit (zs := (rot OS i).map Value.ref) F6 N7 (News.isList N7 (.tail _ (.head _))) (News.isList N7 (.head _)) (by simp [rot]) (fun D2 h6 F8 N8 l8 => ?_) hz10
  dsimp only
  walk1
  refine ⟨X.keeps F8.keep, ?_⟩
  show wpAny _ _ (call (.ref 90) [.ref x, .ref D2]) _ _ _
  have hxm := N8 (x, accObj dx _ _) (by k_mem)
  have hdm := N8 (dx, sizeD w _ _) (by k_mem)
  have hlm := N8 _ (.head _)
  have hun : ∀ b o, B.get? b = some o → (hideAll h6 [x, dx, D2]).get? b = some o := fun b o eb => hideAll_get _ (F8.keep b o eb) (by
    intro hm
    rcases List.mem_cons.mp hm with rfl | hm
    · rw [hxm.2.2] at eb; cases eb
    · rcases List.mem_cons.mp hm with rfl | hm
      · rw [hdm.2.2] at eb; cases eb
      · rw [List.mem_singleton.mp hm, hlm.2.2] at eb; cases eb)
  have hx2 : x < D2 := l8 (x, accObj dx _ _) (by k_mem)
  have hd2 : dx < D2 := l8 (dx, sizeD w _ _) (by k_mem)
  refine wpAny_call (acc_reset (s := ⟨h6, s.gens, s.drawn, _, s.os⟩) (p := p) (loose := loose) (mean := mean) (mg := mg) (mb := mb) (by omega) (X.keeps hun) (T.keeps hun) hxm.1 hdm.1 hlm.1 hne (Nat.ne_of_gt hx2) (Nat.ne_of_gt hd2) (Nat.zero_le _) ?_ fun h7 t7 c7 e7 tz7 hk hx7 hd7 => ?_)
  · show ((rot OS i).map Value.ref).length ≤ 20; rw [List.length_map]; exact rot_le20 hO6
  have F9 : Fr B L h7 _ := fr_but2 F8 hk hxm.2.1 hdm.2.1 hxm.2.2 hdm.2.2
  have N9 := news_upd2 (x := x) (dx := dx) (by k_updF) (by k_updF) (by k_mem) (by k_mem) N8 hk hx7 hd7
  have N10 : News B L h7 ((q, { cls := .type "list", data := .seq ((OS.map Value.ref).drop i).toArray }) :: ringL L x dx o70 o77 o4 (accObj dx (refsOf (rot OS i)) c7) (sizeD w e7 (.int 0 tz7)) rest) := fun p hp => N9 p (.tail _ (.tail _ (.tail _ hp)))
  have hq4 := lq.2.2.1
  clear F8 N8 N9 l8 hk hx7 hd7 hxm hdm hlm hun
  show wpAny _ _ (execs (List.drop 3 turnB) _) _ _ _
  refine step_at (k := 3) (st := ?st3) ?hk ?_
  case hk => conv => lhs; whnf
  walk1
  refine wpAny_loadName_cell rfl rfl rfl ⟨o4, (N10 (L + 4, o4) (by k_mem)).1, hd4⟩ ?_
  iterate 3 walk1
  rename Fr _ _ _ _ => Fz
  rename News _ _ _ _ => Nz
  rename Obj.data _ = _ => hd9
  exact h i q c7 e7 tz7 _ _ _ _ hi hi6 hd9 Fz Nz
end
end -- A54
end
example : True ∧ True := by (w_top off; (try (walk1; fail)); exact ⟨trivial, trivial⟩)
section -- A55
noncomputable def StepsV (sv : Array Value) (st : List Int) : Prop :=
  (∃ s0 s1 s2 s3 t0 t1 t2 t3, sv = #[.int s0 t0, .int s1 t1, .int s2 t2, .int s3 t3] ∧ st = [s0, s1, s2, s3]) ∨
  (∃ s0 s1 s2 s3 s4 t0 t1 t2 t3 t4, sv = #[.int s0 t0, .int s1 t1, .int s2 t2, .int s3 t3, .int s4 t4] ∧ st = [s0, s1, s2, s3, s4])
theorem stepsV_len {sv : Array Value} {st : List Int} (h : StepsV sv st) : st.length ≤ 5 := by
  rcases h with ⟨s0, s1, s2, s3, t0, t1, t2, t3, rfl, rfl⟩ | ⟨s0, s1, s2, s3, s4, t0, t1, t2, t3, t4, rfl, rfl⟩
  · exact Nat.le_succ 4
  · exact Nat.le_refl 5
theorem stepsV_at {sv : Array Value} {st : List Int} (h : StepsV sv st) : ∀ j, j < st.length → ∃ t, sv[j]? = some (.int (st.getD j 0) t) := by
  rcases h with ⟨s0, s1, s2, s3, t0, t1, t2, t3, rfl, rfl⟩ | ⟨s0, s1, s2, s3, s4, t0, t1, t2, t3, t4, rfl, rfl⟩
  · intro j hj
    match j, hj with
    | 0, _ => exact ⟨t0, rfl⟩
    | 1, _ => exact ⟨t1, rfl⟩
    | 2, _ => exact ⟨t2, rfl⟩
    | 3, _ => exact ⟨t3, rfl⟩
    | n + 4, h => exact absurd h (by simp)
  · intro j hj
    match j, hj with
    | 0, _ => exact ⟨t0, rfl⟩
    | 1, _ => exact ⟨t1, rfl⟩
    | 2, _ => exact ⟨t2, rfl⟩
    | 3, _ => exact ⟨t3, rfl⟩
    | 4, _ => exact ⟨t4, rfl⟩
    | n + 5, h => exact absurd h (by simp)
section
variable {w : World} {s : Shared} {R : Result → Shared → Prop} {dp un : Nat} {gd : Option (List Code)} {es : List Env} {p : Program} {loose : List Str} {mg mb : Str → Option Value} {mean : ExcName → Option Value}
theorem law_place {l n : Nat} {place : Int} {tt tp : Tok} {sv : Array Value} {st : List Int} {cl : Nat} (hdp : dp + 8 < recursionLimit) (hsv : StepsV sv st) (h1 : 1 ≤ n) (hn : n ≤ st.length) (hl : s.heap.get? l = some (listOf sv cl))
    (X : (hd.heap_1 w.params).In (hideAll s.heap [l])) (T : Top p loose mean mg mb (hideAll s.heap [l]))
    (hR : ∀ h' t' t, (∀ b o, s.heap.get? b = some o → h'.get? b = some o) → R (.ok (.ret (.int (lawPl st n place) t))) { s with heap := h', toks := t' }) :
    codeAny (model PG w) (AA dp un gd es) (.call (.ref 165) ⟨[.ref l, .int (n : Int) tt, .int place tp], []⟩) R s := by
  refine law_place_any hdp (stepsV_at hsv) h1 hn (Nat.le_trans hn (stepsV_len hsv)) hl X T hR
end
/-- the ring's plain law: the order after a count -/
theorem lawPl_snoc (xs : List Int) (n : Nat) (p : Int) : lawPl xs (n + 1) p = lawPl xs n ((p + xs.getD n 0).fmod (6 - n)) := rfl
/-- σ tells who stands at which place behind t counts -/
noncomputable def OrdAt (st : List Int) (t : Nat) (σ : List Nat) : Prop := σ.length = 6 - t ∧ ∀ j (h : j < σ.length), lawPl st t (j : Nat) = (σ[j] : Nat)
theorem OrdAt.zero (st : List Int) : OrdAt st 0 (List.range 6) := ⟨rfl, fun j h => by simp [lawPl]⟩
theorem rot_len {σ : List Nat} {i : Nat} (hi : i < σ.length) : (rot σ i).length = σ.length - 1 := by
  simp [rot]; omega
theorem rot_get {σ : List Nat} {i j : Nat} (hi : i < σ.length) (hj : j < (rot σ i).length) : ∃ h : (if i + 1 + j < σ.length then i + 1 + j else i + 1 + j - σ.length) < σ.length, (rot σ i)[j] = σ[if i + 1 + j < σ.length then i + 1 + j else i + 1 + j - σ.length] := by
  rw [rot_len hi] at hj
  by_cases h : i + 1 + j < σ.length
  · refine ⟨by rw [if_pos h]; exact h, ?_⟩
    simp only [h, if_true]
    simp only [rot]
    rw [List.getElem_append_left (by simp; omega)]
    simp
  · refine ⟨by rw [if_neg h]; omega, ?_⟩
    simp only [h, if_false]
    simp only [rot]
    rw [List.getElem_append_right (by simp; omega)]
    simp
    congr 1
    omega
theorem fmod_place {z : Int} {N i j : Nat} (hi : (z - 1).fmod (N : Int) = i) (hiN : i < N) (hj : j < N) : ((j : Int) + z).fmod (N : Int) = ((if i + 1 + j < N then i + 1 + j else i + 1 + j - N : Nat) : Int) := by
  have e1 := Int.emod_add_mul_ediv (z - 1) N
  rw [← Int.fmod_eq_emod_of_nonneg _ (by omega : (0 : Int) ≤ N), hi] at e1
  rw [Int.fmod_eq_emod_of_nonneg _ (by omega : (0 : Int) ≤ N)]
  have e2 : (j : Int) + z = ((i + 1 + j : Nat) : Int) + N * ((z - 1) / N) := by push_cast; omega
  rw [e2, Int.add_mul_emod_self_left]
  split
  · rename_i h
    exact Int.emod_eq_of_lt (by omega) (by omega)
  · rename_i h
    rw [show ((i + 1 + j : Nat) : Int) = ((i + 1 + j - N : Nat) : Int) + N * 1 from by omega, Int.add_mul_emod_self_left]
    exact Int.emod_eq_of_lt (by omega) (by omega)
theorem OrdAt.step {st : List Int} {t i : Nat} {σ : List Nat} {z : Int} (O : OrdAt st t σ) (ht : t < 5) (hz : st.getD t 0 = z) (hi : (z - 1).fmod ((6 - t : Nat) : Int) = i) (hi6 : i < 6 - t) : OrdAt st (t + 1) (rot σ i) := by
  have hl := O.1
  have hi' : i < σ.length := by omega
  refine ⟨by rw [rot_len hi']; omega, fun j hj => ?_⟩
  obtain ⟨hb, e⟩ := rot_get hi' hj
  rw [lawPl_snoc, hz, e]
  rw [rot_len hi'] at hj
  have h6 : (6 - (t : Int)) = ((6 - t : Nat) : Int) := by omega
  rw [h6, fmod_place hi hi6 (by omega), ← hl]
  exact O.2 _ hb
theorem OrdAt.last {st : List Int} {t i : Nat} {σ : List Nat} {z : Int} (O : OrdAt st t σ) (ht : t < 5) (hz : st.getD t 0 = z) (hi : (z - 1).fmod ((6 - t : Nat) : Int) = i) (hi6 : i < 6 - t) (h : i < σ.length) : lawPl st (t + 1) (-1) = (σ[i] : Nat) := by
  rw [lawPl_snoc, hz, show (-1 + z) = z - 1 from by omega, show (6 - (t : Int)) = ((6 - t : Nat) : Int) from by omega, hi]
  exact O.2 i h
theorem rot_mem {σ : List Nat} {i b : Nat} (h : b ∈ rot σ i) : b ∈ σ := by
  rcases List.mem_append.mp h with h | h
  · exact List.mem_of_mem_drop h
  · exact List.mem_of_mem_take h
theorem rot_map {σ : List Nat} {i : Nat} (f : Nat → Nat) : rot (σ.map f) i = (rot σ i).map f := by simp [rot]
end -- A55
example : True := by w_top off; trivial
section -- A67
noncomputable def importSys : Stmt := .Import [⟨"sys", none, ⟨0, 0, 0, 0⟩⟩] ⟨0, 0, 0, 0⟩
noncomputable def p0 (p : Program) : Program := { p with main := { p.main with body := [importSys] } }
noncomputable def loose0 (p : Program) (loose : List Str) : List Str := loose ++ (recsOf p).map (·.name) ++ (litsOf p).map (·.1) ++ (clssOf p loose).map (·.name)
theorem fr_hide {B h : Heap} {L : Nat} {m : Str → Option Value} (S : List Nat) (F : Fr B L h m) : Fr (hideAll B S) L h m :=
  ⟨F.ns, fun b o e => F.keep b o (of_hideAll _ e), by rw [hideAll_size]; exact F.above⟩
theorem hide_none {B : Heap} {b : Nat} (S : List Nat) (e : B.get? b = none) : (hideAll B S).get? b = none := by
  cases q : (hideAll B S).get? b with
  | none => rfl
  | some o => rw [of_hideAll _ q] at e; cases e
theorem news_hide {B h : Heap} {L : Nat} {news : List (Addr × Obj)} (S : List Nat) (N : News B L h news) : News (hideAll B S) L h news := fun p hp =>
  ⟨(N p hp).1, (N p hp).2.1, hide_none S (N p hp).2.2⟩
noncomputable abbrev tabs : List Nat := [70, 77]
theorem tabs_get {h : Heap} {b : Nat} {o : Obj} (e : h.get? b = some o) (h1 : b ≠ 70) (h2 : b ≠ 77) : (hideAll h tabs).get? b = some o :=
  hideAll_get _ e (by
    intro hm
    rcases List.mem_cons.mp hm with hm | hm
    · exact h1 hm
    · exact h2 (List.mem_singleton.mp hm))
theorem ns_tabs {h : Heap} {a : Nat} {m : Str → Option Value} (n : h.Ns a m) (h1 : a ≠ 70) (h2 : a ≠ 77) : (hideAll h tabs).Ns a m := n.at' fun o e => tabs_get e h1 h2
theorem top_hide {p : Program} {loose : List Str} {mg mb : Str → Option Value} {mean : ExcName → Option Value} {h : Heap} {o70 o77 : Obj} (T : Top p loose mean mg mb h) (h70 : h.get? 70 = some o70) (h77 : h.get? 77 = some o77) (c70 : o70.cls = .none) (c77 : o77.cls = .none) :
    Top (p0 p) (loose0 p loose) mean mg mb (hideAll h tabs) where
  g := ns_tabs T.g (by decide) (by decide)
  b := ns_tabs T.b (by decide) (by decide)
  nolimit := let ⟨mc, h1, h2⟩ := T.nolimit; ⟨mc, ns_tabs h1 (by decide) (by decide), h2⟩
  nodigits := let ⟨mc, h1, h2⟩ := T.nodigits; ⟨mc, ns_tabs h1 (by decide) (by decide), h2⟩
  fn := fun d hd => by cases hd
  own := fun d hd => by cases hd
  const := fun x d hd => by cases hd
  free := fun x h1 h2 _ _ _ => by
    simp only [loose0, List.mem_append, not_or] at h2
    exact T.free x h1 h2.1.1.1 h2.1.1.2 h2.1.2 h2.2
  builtins := T.builtins
  tab := fun d hd => by cases hd
  bmain := let ⟨bm, ob, h1, h2, h3, h4, r⟩ := T.bmain
    ⟨bm, ob, h1, h2, tabs_get h3 (by rintro rfl; rw [h70] at h3; cases h3; rw [c70] at h4; cases h4) (by rintro rfl; rw [h77] at h3; cases h3; rw [c77] at h4; cases h4), h4, r⟩
  seer := fun hi => by cases hi
theorem in_hide {w : World} {h : Heap} (X : (hd.heap_1 w.params).In h) : (hd.heap_1 w.params).In (hideAll h tabs) := fun a o e => tabs_get (X a o e) (by
    rintro rfl
    have : (hd.heap_1 w.params).lookup 70 = none := rfl
    rw [this] at e; cases e) (by
    rintro rfl
    have : (hd.heap_1 w.params).lookup 77 = none := rfl
    rw [this] at e; cases e)
theorem news_ne {B h : Heap} {L : Nat} {news : List (Addr × Obj)} {p q : Addr × Obj} (N : News B L h news) (hp : p ∈ news) (hq : q ∈ news) (hne : p.2 ≠ q.2) : p.1 ≠ q.1 := fun e => by
  have h1 := (N p hp).1
  rw [e, (N q hq).1] at h1
  exact hne (Option.some.inj h1).symm
theorem txtAt_of {h : Heap} {T : Nat} {a b : Str} {ta tb : Tok} (e : h.get? T = some (tup2 (.str a ta) (.str b tb))) : txtAt h 0 T = a ∧ txtAt h 1 T = b := by
  have : tupVals h T = #[.str a ta, .str b tb] := tupVals_of ⟨_, e, rfl, _, rfl⟩
  unfold txtAt
  rw [this]
  exact ⟨rfl, rfl⟩
theorem refsN_six {RA : Nat → Nat} : (refsN RA 6).map Value.ref = ((List.range 6).map RA).map Value.ref := rfl
theorem giOut_bound : ∀ {items : List Int} {last : Option Int} {k : Nat} {z : Int}, (∀ x ∈ items, 0 ≤ x ∧ (x ≤ 30 ∨ x = 127)) → (∀ v, last = some v → 0 ≤ v ∧ v ≤ 30) → giOut items last k = .yld z → 0 ≤ z ∧ z ≤ 30
  | [], _, _, _, _, _, h => by cases h
  | x :: r, last, k, z, hi, hl, h => by
    have hx := hi x (.head _)
    by_cases h127 : x = 127
    · rw [giOut_max h127] at h; cases h
    · have hx30 : x ≤ 30 := hx.2.resolve_right h127
      by_cases h0 : x = 0
      · subst h0
        rw [giOut_zero] at h
        cases last with
        | none => cases h
        | some v => cases h; exact hl _ rfl
      · cases k with
        | zero => rw [giOut_head h127 h0] at h; cases h; exact ⟨hx.1, hx30⟩
        | succ k =>
          rw [giOut_tail h127 h0] at h
          exact giOut_bound (fun y hy => hi y (.tail _ hy)) (fun v e => by cases e; exact ⟨hx.1, hx30⟩) h
theorem ext_bound {n0 n1 n2 n3 tot : Int} (b0 : 0 ≤ n0 ∧ n0 ≤ 30) (b1 : 0 ≤ n1 ∧ n1 ≤ 30) (b2 : 0 ≤ n2 ∧ n2 ≤ 30) (b3 : 0 ≤ n3 ∧ n3 ≤ 30) : ∀ x ∈ [n0, n1, n2, n3] ++ extOf tot, 0 ≤ x ∧ (x ≤ 30 ∨ x = 127) := fun x hx => by
  rcases List.mem_append.mp hx with h | h
  · simp only [List.mem_cons, List.not_mem_nil, or_false] at h
    rcases h with rfl | rfl | rfl | rfl <;> omega
  · unfold extOf at h
    split at h
    · rw [List.mem_singleton.mp h]; omega
    · split at h
      · cases h
      · simp only [List.mem_cons, List.not_mem_nil, or_false] at h
        rcases h with rfl | rfl <;> omega
theorem giOut_four {n0 n1 n2 n3 tot : Int} (b0 : n0 ≤ 30) (b1 : n1 ≤ 30) (b2 : n2 ≤ 30) (b3 : n3 ≤ 30) (e0 : n0 ≠ 0) (e1 : n1 ≠ 0) (e2 : n2 ≠ 0) (e3 : n3 ≠ 0) (et : tot.fmod 3 ≠ 0) :
    giOut ([n0, n1, n2, n3] ++ extOf tot) none 0 = .yld n0 ∧ giOut ([n0, n1, n2, n3] ++ extOf tot) none 1 = .yld n1 ∧ giOut ([n0, n1, n2, n3] ++ extOf tot) none 2 = .yld n2 ∧ giOut ([n0, n1, n2, n3] ++ extOf tot) none 3 = .yld n3 ∧ giOut ([n0, n1, n2, n3] ++ extOf tot) none 4 = .stop := by
  have h0 := ne127 b0
  have h1 := ne127 b1
  have h2 := ne127 b2
  have h3 := ne127 b3
  have hx : extOf tot = [] ∨ extOf tot = [127, 1] := by
    unfold extOf
    rw [if_neg et]
    split
    · exact .inl rfl
    · exact .inr rfl
  rcases hx with hx | hx <;> rw [hx] <;> refine ⟨?_, ?_, ?_, ?_, ?_⟩ <;> simp [giOut, e0, h0, e1, h1, e2, h2, e3, h3]
/-- what the law's loop needs of the sizes -/
noncomputable def Sizes (items : List Int) (fr sv : Array Value) (st : List Int) : Prop :=
  StepsV sv st ∧ (∀ t, t < st.length → t < 5 → giOut items none t = .yld (st.getD t 0) ∧ 0 ≤ st.getD t 0 ∧ st.getD t 0 ≤ 30) ∧ ((st.length = 5 ∧ ∃ z, giOut items none 5 = .yld z) ∨ (st.length = 4 ∧ giOut items none 4 = .stop)) ∧ fr.size ≠ 0 ∧ sv.size = st.length
theorem one_to_four {fr : Array Value} (h : OneToFour fr) : fr.size ≠ 0 := by
  rcases h with ⟨_, _, rfl⟩ | ⟨_, _, _, _, rfl⟩ | ⟨_, _, _, _, _, _, rfl⟩ | ⟨_, _, _, _, _, _, _, _, rfl⟩ <;> simp
theorem sizes_of {n0 n1 n2 n3 tot : Int} {fr sv : Array Value} (b0 : 0 ≤ n0 ∧ n0 ≤ 30) (b1 : 0 ≤ n1 ∧ n1 ≤ 30) (b2 : 0 ≤ n2 ∧ n2 ≤ 30) (b3 : 0 ≤ n3 ∧ n3 ≤ 30) (h : Shape n0 n1 n2 n3 tot fr sv) :
    (giOut ([n0, n1, n2, n3] ++ extOf tot) none 0 = .fail ∧ fr = #[]) ∨ ∃ st, Sizes ([n0, n1, n2, n3] ++ extOf tot) fr sv st := by
  have bd : ∀ {t z}, giOut ([n0, n1, n2, n3] ++ extOf tot) none t = .yld z → 0 ≤ z ∧ z ≤ 30 := fun h => giOut_bound (ext_bound b0 b1 b2 b3) (fun v e => by cases e) h
  rcases h with ⟨rfl, rfl, rfl⟩ | ⟨e0, hf, s0, s1, s2, s3, s4, t0, t1, t2, t3, t4, rfl, f0, f1, f2, f3, f4, z, f5⟩ | ⟨e0, e1, e2, e3, et, hf, t0, t1, t2, t3, rfl⟩
  · exact .inl ⟨giOut_zero, rfl⟩
  · refine .inr ⟨[s0, s1, s2, s3, s4], .inr ⟨s0, s1, s2, s3, s4, t0, t1, t2, t3, t4, rfl, rfl⟩, fun t ht _ => ?_, .inl ⟨rfl, z, f5⟩, one_to_four hf, rfl⟩
    rcases (show t = 0 ∨ t = 1 ∨ t = 2 ∨ t = 3 ∨ t = 4 by simp at ht; omega) with rfl | rfl | rfl | rfl | rfl
    · exact ⟨f0, bd f0⟩
    · exact ⟨f1, bd f1⟩
    · exact ⟨f2, bd f2⟩
    · exact ⟨f3, bd f3⟩
    · exact ⟨f4, bd f4⟩
  · obtain ⟨f0, f1, f2, f3, f4⟩ := giOut_four (tot := tot) b0.2 b1.2 b2.2 b3.2 e0 e1 e2 e3 et
    refine .inr ⟨[n0, n1, n2, n3], .inl ⟨n0, n1, n2, n3, t0, t1, t2, t3, rfl, rfl⟩, fun t ht _ => ?_, .inr ⟨rfl, f4⟩, one_to_four hf, rfl⟩
    rcases (show t = 0 ∨ t = 1 ∨ t = 2 ∨ t = 3 by simp at ht; omega) with rfl | rfl | rfl | rfl
    · exact ⟨f0, bd f0⟩
    · exact ⟨f1, bd f1⟩
    · exact ⟨f2, bd f2⟩
    · exact ⟨f3, bd f3⟩
end -- A67
example : True := by w_top off; trivial
example : True ∧ True := by (w_top off; (try (walk1; fail)); exact ⟨trivial, trivial⟩)
section
local macro_rules | `(tactic| k_mem) => `(tactic| first | assumption | exact List.Mem.head _ | (refine List.Mem.tail _ ?_; k_mem))
section -- A56
section
variable {w : World} {s : Shared} {dp un : Nat} {gd : Option (List Code)} {p : Program} {loose : List Str} {mg mb : Str → Option Value} {mean : ExcName → Option Value} {B : Heap} {L fa : Nat} {cd : Value} {Q : Flow → Shared → Prop} {E : Value → Shared → Prop}
theorem under1 {B h : Heap} {L x : Addr} {m : Str → Option Value} (F : Fr B L h m) (hx : B.get? x = none) : ∀ b o, B.get? b = some o → (hideAll h [x]).get? b = some o := fun b o e =>
  hideAll_get _ (F.keep b o e) (by
    intro hm
    rw [List.mem_singleton.mp hm, hx] at e; cases e)
theorem turn2 {q i t ls ks pl : Nat} {o2 o3 o4 : Obj} {σ : List Nat} {RA PA : Nat → Nat} {wv : Nat → Str} {tw tp tw2 tp2 : Nat → Tok} {st : List Int} {sv : Array Value} {tk : Tok} {news : List (Addr × Obj)} {m0 : Str → Option Value} (hdp : dp + 20 < recursionLimit) (hun : un + 40 < cLine)
    (X : (hd.heap_1 w.params).In B) (T : Top p loose mean mg mb B) (ht : t < st.length) (hsv : StepsV sv st) (hi : i < σ.length) (hlast : lawPl st (t + 1) (-1) = (σ[i] : Nat)) (h6 : ∀ j ∈ σ, j < 6)
    (F : Fr B L s.heap (fun y : Str => if y = "behind" then some (.ref q) else m0 y))
    (N : News B L s.heap news) (mq : (q, { cls := .type "list", data := .seq (((σ.map RA).map Value.ref).drop i).toArray }) ∈ news)
    (m2 : (L + 2, o2) ∈ news) (hd2 : o2.data = .cell (some (.ref ls))) (m3 : (L + 3, o3) ∈ news) (hd3 : o3.data = .cell (some (.ref pl))) (m4 : (L + 4, o4) ∈ news) (hd4 : o4.data = .cell (some (.int ((t + 1 : Nat) : Int) tk)))
    (ms : (ls, listOf sv ks) ∈ news) (wp : (pl, peopleL PA) ∈ news) (wi : ∀ i, i < 6 → (PA i, tupW wv tw tp i) ∈ news) (wr : ∀ i, i < 6 → (RA i, tupW wv tw2 tp2 i) ∈ news)
    (h : ∀ h' tk', Fr B L h' (fun y : Str => if y = "behind" then some (.ref q) else m0 y) → News B L h' news →
      wpAny (model PG w) (AA dp un gd [lawE L fa cd]) (execs (turnB.drop 5) (lawE L fa cd)) Q E { s with heap := h', toks := tk' }) :
    wpAny (model PG w) (AA dp un gd [lawE L fa cd]) (execs (turnB.drop 4) (lawE L fa cd)) Q E s := by
  refine step_at (k := 4) (st := ?st4) ?hk ?_
  case hk => conv => lhs; whnf
  iterate 5 walk1
  rename Fr _ _ _ _ => F1
  rename News _ _ _ _ => N1
  refine item_listL (x := .ref (RA σ[i])) (l := ((σ.map RA).map Value.ref).drop i) (News.isList N1 mq) (by decide) (by decide) (by simp [hi]) ?_
  iterate 15 walk1
  rename Fr _ _ _ _ => F2
  rename News _ _ _ _ => N2
  have hls := N2 _ ms
  refine wpAny_call (law_place (s := ⟨_, s.gens, s.drawn, _, s.os⟩) (p := p) (loose := loose) (mean := mean) (mg := mg) (mb := mb) (by omega) hsv (by omega) (by omega) hls.1 (X.keeps (under1 F2 hls.2.2)) (T.keeps (under1 F2 hls.2.2)) fun h3 t3 tz hk => ?_)
  have F3 := fr_up F2 hk
  have N3 := news_up N2 hk
  rw [hlast]
  dsimp only
  refine item_listL (x := .ref (PA σ[i])) (l := [.ref (PA 0), .ref (PA 1), .ref (PA 2), .ref (PA 3), .ref (PA 4), .ref (PA 5)]) (News.isList N3 wp) (by omega) ?sz ?gt ?_
  case sz => have := h6 _ (List.getElem_mem hi); omega
  case gt =>
    have := h6 _ (List.getElem_mem hi)
    generalize σ[i] = g at this
    rcases (show g = 0 ∨ g = 1 ∨ g = 2 ∨ g = 3 ∨ g = 4 ∨ g = 5 by omega) with rfl | rfl | rfl | rfl | rfl | rfl <;> rfl
  have hg6 := h6 _ (List.getElem_mem hi)
  have e1 := N3 _ (wr _ hg6)
  have e2 := N3 _ (wi _ hg6)
  refine pair_ne (a := wv σ[i]) (b := ptN σ[i]) ⟨_, e1.1, rfl, _, rfl⟩ ⟨_, e2.1, rfl, _, rfl⟩ (by show un < _; omega) ?_
  iterate 3 walk1
  exact h _ _ F3 N3
end
end -- A56
section -- A59
open PyProof.Rows.LCg
theorem map_range_getD {α : Type} {σ : List Nat} {n : Nat} (f : Nat → α) (h : n = σ.length) : ((List.range n).map fun j => f (σ.getD j 0)) = σ.map f := by
  subst h
  refine List.ext_getElem (by simp) fun i h1 h2 => ?_
  have : i < σ.length := by simpa using h2
  simp [List.getD, this]
section
variable {w : World} {A : Around} {B : Heap} {L : Nat} {m : Str → Option Value} {env : Env}
theorem rest_same {elt : Expr} {x : Str} {scope : Scope} {cl : List (Str × Addr)} {s : Shared} {S : List (Addr × Obj) → Prop} {Fin : List Value → List (Addr × Obj) → Prop} {vs : List Value} {news : List (Addr × Obj)}
    (hel : ∀ (s : Shared) (C : Nat) oC m₂ v (E' : Value → Shared → Prop) (Q : Value → Shared → Prop), NsObj oC m₂ → m₂ x = some v → s.heap.get? C = some oC → Q v s → wpAny (model PG w) A (eval elt (compEnvC scope cl C env)) Q E' s) (hS : S news)
    (hFin : Fin vs news) : ∀ k i, i + k = vs.length → CompRest PG w A B L m env elt x scope cl s S (fun i v => vs.toArray[i]? = some v) Fin k i (vs.take i) news
  | 0, i, e => by
    have : i = vs.length := by omega
    subst this
    rw [List.take_length]
    exact CompRest.zero hFin
  | k + 1, i, e => by
    refine CompRest.succ fun v I oI C oC D m₂ h tk E' hv hC hx F N off ne => ?_
    refine hel _ C oC m₂ v E' _ hC hx (N _ (.tail _ (.head _))).1 ?_
    refine CompEnd.intro F N news (fun p hp => hp) off hS ?_
    have := rest_same (s := s) hel hS hFin k (i + 1) (by omega)
    have hi : vs[i]? = some v := by simpa using hv
    rw [List.take_add_one, hi] at this
    exact this
end
section
variable {w : World} {s : Shared} {dp un : Nat} {gd : Option (List Code)} {p : Program} {loose : List Str} {mg mb : Str → Option Value} {mean : ExcName → Option Value} {B : Heap} {L fa : Nat} {cd : Value} {Q : Flow → Shared → Prop} {E : Value → Shared → Prop}
theorem turn5 {x dx c D : Nat} {o70 o77 : Obj} {σ : List Nat} {RA PA : Nat → Nat} {wv : Nat → Str} {pa pb : Nat → Str} {tw tp tw2 tp2 : Nat → Tok} {e tz : Tok} {rest : List (Addr × Obj)} {m0 : Str → Option Value} {tx : Tok} (hdp : dp + 20 < recursionLimit) (hun : un + 40 < cLine) (hwv : ∀ i, i < 6 → (wv i).length ≤ 2)
    (X : (hd.heap_1 w.params).In B) (T : Top p loose mean mg mb B) (hn : σ.length ≤ 6) (h6 : ∀ j ∈ σ, j < 6)
    (F : Fr B L s.heap (fun y : Str => if y = "text" then some (.str (Txt.join "" (σ.map fun i => wv i ++ ptN i)) tx) else if y = "left" then some (.ref D) else if y = "ring" then some (.ref x) else m0 y))
    (N : News B L s.heap ((70, o70) :: (77, o77) :: rest)) (t70 : TabO B o70 74 70) (t77 : TabO B o77 81 77) (mx : (x, accObj dx (refsOf (σ.map RA)) c) ∈ rest) (md : (dx, sizeD w e (.int 0 tz)) ∈ rest)
    (mD : (D, lst (σ.map fun j => .ref (PA j))) ∈ rest) (wi : ∀ i, i < 6 → (PA i, tupW wv tw tp i) ∈ rest) (wr : ∀ i, i < 6 → (RA i, tupW wv tw2 tp2 i) ∈ rest)
    (hpa : ∀ j, j < 6 → pa (RA j) = wv j) (hpb : ∀ j, j < 6 → pb (RA j) = ptN j) (hne : dx < x) (low : 170 < dx) (lowT : ∀ j, j < 6 → x < RA j) (off : ∀ q ∈ rest, q.1 ≠ 70 ∧ q.1 ≠ 77)
    (h : ∀ o70' h' g' tk', GensUp s.gens g' → TabO B o70' 74 70 → Fr B L h' (fun y : Str => if y = "text" then some (.str (Txt.join "" (σ.map fun i => wv i ++ ptN i)) tx) else if y = "left" then some (.ref D) else if y = "ring" then some (.ref x) else m0 y) → News B L h' ((70, o70') :: (77, o77) :: rest) →
      wpAny (model PG w) (AA dp un gd [lawE L fa cd]) (execs (turnB.drop 8) (lawE L fa cd)) Q E ⟨h', g', s.drawn, tk', s.os⟩) :
    wpAny (model PG w) (AA dp un gd [lawE L fa cd]) (execs (turnB.drop 7) (lawE L fa cd)) Q E s := by
  refine step_at (k := 7) (st := ?st7) ?hk ?_
  case hk => conv => lhs; whnf
  iterate 3 walk1
  have mR : ∀ {h o7 o8} {m : Str → Option Value}, Fr B L h m → News B L h ((70, o7) :: (77, o8) :: rest) → TabO B o7 74 70 → TabO B o8 81 77 → RingAt w B h x dx (σ.map RA) pa pb 0 := fun F N t7 t8 =>
    ring_news F N t7 t8 (.head _) (.tail _ (.head _)) (.tail _ (.tail _ mx)) (.tail _ (.tail _ md)) (fun T hT => by
      obtain ⟨j, hj, rfl⟩ := List.mem_map.mp hT
      have hj := h6 j hj
      exact ⟨tw2 j, tp2 j, by rw [hpa j hj, hpb j hj]; exact .tail _ (.tail _ (wr j hj))⟩) hne low (fun T hT => by
      obtain ⟨j, hj, rfl⟩ := List.mem_map.mp hT
      exact lowT j (h6 j hj)) (fun T hT => by
      obtain ⟨j, hj, rfl⟩ := List.mem_map.mp hT
      rw [hpa j (h6 j hj)]; exact Nat.lt_of_le_of_lt (hwv j (h6 j hj)) (by decide)) (fun T hT => by
      obtain ⟨j, hj, rfl⟩ := List.mem_map.mp hT
      rw [hpb j (h6 j hj), ptN_len j (h6 j hj)]; decide) (by rw [List.length_map]; omega)
  refine ring_comp (x := x) (dx := dx) (c := c) (xs := refsOf (σ.map RA)) (B := B) (L := L) (m := fun y : Str => if y = "text" then some (.str (Txt.join "" (σ.map fun i => wv i ++ ptN i)) tx) else if y = "left" then some (.ref D) else if y = "ring" then some (.ref x) else m0 y) (news := (70, o70) :: (77, o77) :: rest) rfl X (by with_unfolding_all rfl) (by decide) (by rfl) (by decide) (by rfl) ?sz ?_
  case sz => exact Nat.le_trans (by simp [refsOf]; omega) (show (100 : Nat) ≤ sizeLine by decide)
  walk1
  refine ⟨rfl, F, N, .tail _ (.tail _ mx), fun s₂ hs₂ => ?_⟩
  obtain ⟨g, rfl⟩ := hs₂
  have hsz9 : (refsOf (σ.map RA)).size = ((σ.map RA).map Value.ref).length := by simp [refsOf]
  rw [hsz9]
  refine rest_same (vs := (σ.map RA).map Value.ref) (fun s C oC m₂ v E' Q hC h1 hg hq => ?helt) (.tail _ (.tail _ mx)) ?fin _ 0 (Nat.zero_add _)
  case helt =>
    refine ldVarK (hC.ns hg) h1 ?_
    exact hq
  case fin =>
    intro D2 h9 tk9 F9 N9 o9
    walk1
    refine pairs_ne (n := 0) (n2 := 0) (os := σ) (ta := RA) (tb := PA) (wv := wv) (pv := ptN) ?pa ?pb (fun j hj => ?ra) (fun j hj => ?rb) ?ru ?ru1 ?_
    case pa => have := News.isList N9 (.head _); rw [List.map_map] at this; exact this
    case pb => exact News.isList N9 (.tail _ (.tail _ (.tail _ mD)))
    case ra => exact ⟨_, _, _, (N9 _ (.tail _ (.tail _ (.tail _ (wr j (h6 j hj)))))).1, rfl, _, rfl⟩
    case rb => exact ⟨_, _, _, (N9 _ (.tail _ (.tail _ (.tail _ (wi j (h6 j hj)))))).1, rfl, _, rfl⟩
    case ru => show un < _; omega
    case ru1 => show un + 1 < _; omega
    have N8 : News B L h9 ((70, o70) :: (77, o77) :: rest) := fun q hq => N9 q (.tail _ hq)
    clear N N9
    iterate 10 walk1
    refine ring_len (p := p) (loose := loose) (mean := mean) (mg := mg) (mb := mb) (by omega) F9 X T (mR F9 N8 t70 t77) (by decide) (by decide) fun s' t hu hG => ?_
    obtain ⟨o70', F4, N4, t70'⟩ := up70 hu F9 N8 hG.t70 off ⟨_, X 74 _ (by k_is)⟩
    obtain ⟨h4, g4, d4, k4, os4⟩ := s'
    obtain ⟨hv1, hv2, hv3, hv4⟩ := hu
    dsimp only at hv2 hv3 hv4 F4 N4
    subst hv3 hv4
    clear hG hv1 F9 N8
    rw [ring_lenS (fun j hj => hpa j (h6 j hj)) (fun j hj => hpb j (h6 j hj)), Int.zero_add]
    have hlt9 : (Txt.join "" (σ.map fun i => wv i ++ ptN i)).length ≤ 100 := by
      rw [join_len, List.map_map]
      have h9 : ∀ l : List Nat, (∀ j ∈ l, j < 6) → (l.map ((fun x => x.length) ∘ fun i => wv i ++ ptN i)).sum ≤ 3 * l.length := by
        intro l
        induction l with
        | nil => intro _; simp
        | cons a r ih =>
          intro hl
          have e1 := ih fun j hj => hl j (.tail _ hj)
          have e2 := hwv a (hl a (.head _))
          have e3 := ptN_len a (hl a (.head _))
          simp only [List.map_cons, List.sum_cons, List.length_cons, Function.comp, app_len] at e1 ⊢
          omega
      have := h9 σ h6
      omega
    generalize hG : Txt.join "" (σ.map fun i => wv i ++ ptN i) = txt at *
    iterate 8 walk1
    rw [show ((txt.length : Int) != (txt.length : Int)) = false from by simp]
    iterate 6 walk1
    exact h _ _ _ _ hv2 t70' F4 N4
end
end -- A59
section -- A60
section
variable {w : World} {s : Shared} {dp un : Nat} {gd : Option (List Code)} {p : Program} {loose : List Str} {mg mb : Str → Option Value} {mean : ExcName → Option Value} {B : Heap} {L fa : Nat} {cd : Value} {Q : Flow → Shared → Prop} {E : Value → Shared → Prop}
theorem turn6 {x dx c : Nat} {o70 o77 : Obj} {σ : List Nat} {RA : Nat → Nat} {wv : Nat → Str} {pa pb : Nat → Str} {tw2 tp2 : Nat → Tok} {e tz : Tok} {rest : List (Addr × Obj)} {m0 : Str → Option Value} {tx : Tok} {dv : Value} (hdp : dp + 20 < recursionLimit) (hun : un + 40 < cLine) (hwv : ∀ i, i < 6 → (wv i).length ≤ 2)
    (X : (hd.heap_1 w.params).In B) (T : Top p loose mean mg mb B) (hn : σ.length ≤ 6) (h6 : ∀ j ∈ σ, j < 6)
    (F : Fr B L s.heap (fun y : Str => if y = "text" then some (.str (Txt.join "" (σ.map fun i => wv i ++ ptN i)) tx) else if y = "left" then some dv else if y = "ring" then some (.ref x) else m0 y))
    (N : News B L s.heap ((70, o70) :: (77, o77) :: rest)) (t70 : TabO B o70 74 70) (t77 : TabO B o77 81 77) (mx : (x, accObj dx (refsOf (σ.map RA)) c) ∈ rest) (md : (dx, sizeD w e (.int 0 tz)) ∈ rest)
    (wr : ∀ i, i < 6 → (RA i, tupW wv tw2 tp2 i) ∈ rest)
    (hpa : ∀ j, j < 6 → pa (RA j) = wv j) (hpb : ∀ j, j < 6 → pb (RA j) = ptN j) (hne : dx < x) (low : 170 < dx) (lowT : ∀ j, j < 6 → x < RA j) (off : ∀ q ∈ rest, q.1 ≠ 70 ∧ q.1 ≠ 77)
    (h : ∀ o77' h' g' tk', GensUp s.gens g' → TabO B o77' 81 77 → Fr B L h' (fun y : Str => if y = "text" then some (.str (Txt.join "" (σ.map fun i => wv i ++ ptN i)) tx) else if y = "left" then some dv else if y = "ring" then some (.ref x) else m0 y) → News B L h' ((70, o70) :: (77, o77') :: rest) →
      wpAny (model PG w) (AA dp un gd [lawE L fa cd]) (execs (turnB.drop 9) (lawE L fa cd)) Q E ⟨h', g', s.drawn, tk', s.os⟩) :
    wpAny (model PG w) (AA dp un gd [lawE L fa cd]) (execs (turnB.drop 8) (lawE L fa cd)) Q E s := by
  refine step_at (k := 8) (st := ?st8) ?hk ?_
  case hk => conv => lhs; whnf
  have mR : ∀ {h o7 o8} {m : Str → Option Value}, Fr B L h m → News B L h ((70, o7) :: (77, o8) :: rest) → TabO B o7 74 70 → TabO B o8 81 77 → RingAt w B h x dx (σ.map RA) pa pb 0 := fun F N t7 t8 =>
    ring_news F N t7 t8 (.head _) (.tail _ (.head _)) (.tail _ (.tail _ mx)) (.tail _ (.tail _ md)) (fun T hT => by
      obtain ⟨j, hj, rfl⟩ := List.mem_map.mp hT
      have hj := h6 j hj
      exact ⟨tw2 j, tp2 j, by rw [hpa j hj, hpb j hj]; exact .tail _ (.tail _ (wr j hj))⟩) hne low (fun T hT => by
      obtain ⟨j, hj, rfl⟩ := List.mem_map.mp hT
      exact lowT j (h6 j hj)) (fun T hT => by
      obtain ⟨j, hj, rfl⟩ := List.mem_map.mp hT
      rw [hpa j (h6 j hj)]; exact Nat.lt_of_le_of_lt (hwv j (h6 j hj)) (by decide)) (fun T hT => by
      obtain ⟨j, hj, rfl⟩ := List.mem_map.mp hT
      rw [hpb j (h6 j hj), ptN_len j (h6 j hj)]; decide) (by rw [List.length_map]; omega)
  iterate 11 walk1
  rename Fr _ _ _ _ => F1
  rename News _ _ _ _ => N1
  refine wpAny_call (safe_ring (s := ⟨_, s.gens, s.drawn, _, s.os⟩) (p := p) (loose := loose) (mean := mean) (mg := mg) (mb := mb) (by omega) (by show un + 12 < _; omega) F1.keep X T (mR F1 N1 t70 t77) fun s' t hu hG => ?_)
  obtain ⟨o77', F2, N2, t77'⟩ := up77 (s := ⟨_, s.gens, s.drawn, _, s.os⟩) hu F1 N1 hG.t77 off ⟨_, X 81 _ (by k_is)⟩
  obtain ⟨h2, g2, d2, k2, os2⟩ := s'
  obtain ⟨hu1, hu2, hu3, hu4⟩ := hu
  dsimp only at hu2 hu3 hu4 F2 N2
  subst hu3 hu4
  clear hG hu1 F1 N1
  rw [ring_text (fun j hj => hpa j (h6 j hj)) (fun j hj => hpb j (h6 j hj))]
  have hne9 : (Txt.join "" (σ.map fun i => wv i ++ ptN i) != Txt.join "" (σ.map fun i => wv i ++ ptN i)) = false := by simp
  dsimp only
  iterate 5 walk1
  rename Fr _ _ _ _ => F9
  rename News _ _ _ _ => N9
  exact h _ _ _ _ hu2 t77' F9 N9
end
end -- A60
end
example : True ∧ True := by (w_top off; (try (walk1; fail)); exact ⟨trivial, trivial⟩)
example : True ∧ True := by (w_top off; (try (walk1; fail)); exact ⟨trivial, trivial⟩)
section
local macro_rules | `(tactic| k_mem) => `(tactic| first | assumption | exact List.Mem.head _ | (refine List.Mem.tail _ ?_; k_mem))
local macro_rules | `(tactic| walk_at "mine comp") => `(tactic| (k_dflt (refine LCg.ListComp_U (F₀ := by k_asm) (by with_unfolding_all rfl) (by decide) (by rfl) (by decide) (by rfl) ?_)))
section -- A57
open PyProof.Rows.LCg
section
variable {w : World} {A : Around} {B : Heap} {L : Nat} {m : Str → Option Value} {env : Env}
theorem rest_refs {elt : Expr} {x : Str} {scope : Scope} {cl : List (Str × Addr)} {s : Shared} {Fin : List Value → List (Addr × Obj) → Prop} {n : Nat} {V : Nat → Nat} {news : List (Addr × Obj)}
    (helt : ∀ (i : Nat) (t : Tok) (I C D : Nat) oI oC oD m₂ h tk (E' : Value → Shared → Prop) (Q : Value → Shared → Prop), i < n → NsObj oC m₂ → m₂ x = some (.int (0 + (i : Int)) t) → Fr B L h m → News B L h ((I, oI) :: (C, oC) :: (D, oD) :: news) →
      (∀ h' tk', (∀ b o, h.get? b = some o → h'.get? b = some o) → Q (.ref (V i)) { s with heap := h', toks := tk' }) → wpAny (model PG w) A (eval elt (compEnvC scope cl C env)) Q E' { s with heap := h, toks := tk })
    (hFin : Fin ((List.range n).map fun i => .ref (V i)) news) :
    ∀ k i, i + k = n → CompRest PG w A B L m env elt x scope cl s (fun _ => True) (fun i v => ∃ t, v = .int (0 + (i : Int)) t) Fin k i ((List.range i).map fun i => .ref (V i)) news
  | 0, i, e => by
    have : i = n := by omega
    subst this
    exact CompRest.zero hFin
  | k + 1, i, e => by
    refine CompRest.succ fun v I oI C oC D m₂ h tk E' hv hC hx F N off ne => ?_
    obtain ⟨t, rfl⟩ := hv
    refine helt i t I C D oI oC _ m₂ h tk E' _ (by omega) hC hx F N fun h' tk' hk => ?_
    refine CompEnd.intro (fr_up F hk) (news_up N hk) news (fun p hp => hp) off True.intro ?_
    have := rest_refs helt hFin k (i + 1) (by omega)
    rw [List.range_succ, List.map_append] at this
    exact this
end
section
variable {w : World} {s : Shared} {dp un : Nat} {gd : Option (List Code)} {p : Program} {loose : List Str} {mg mb : Str → Option Value} {mean : ExcName → Option Value} {B : Heap} {L fa : Nat} {cd : Value} {Q : Flow → Shared → Prop} {E : Value → Shared → Prop}
theorem turn3 {t ls ks pl : Nat} {o2 o3 o4 : Obj} {V : Nat → Nat} {PA : Nat → Nat} {st : List Int} {sv : Array Value} {tk : Tok} {news : List (Addr × Obj)} {m0 : Str → Option Value} (hdp : dp + 20 < recursionLimit) (hun : un + 40 < cLine)
    (X : (hd.heap_1 w.params).In B) (T : Top p loose mean mg mb B) (ht5 : t < 5) (ht : t < st.length) (hsv : StepsV sv st) (hV : ∀ j : Nat, j < 5 - t → V j < 6 ∧ lawPl st (t + 1) (j : Nat) = (V j : Nat))
    (F : Fr B L s.heap m0)
    (N : News B L s.heap news)
    (m2 : (L + 2, o2) ∈ news) (hd2 : o2.data = .cell (some (.ref ls))) (m3 : (L + 3, o3) ∈ news) (hd3 : o3.data = .cell (some (.ref pl))) (m4 : (L + 4, o4) ∈ news) (hd4 : o4.data = .cell (some (.int ((t + 1 : Nat) : Int) tk)))
    (ms : (ls, listOf sv ks) ∈ news) (wp : (pl, peopleL PA) ∈ news)
    (h : ∀ D h' tk', Fr B L h' (fun y : Str => if y = "left" then some (.ref D) else m0 y) → News B L h' ((D, lst ((List.range (5 - t)).map fun j => .ref (PA (V j)))) :: news) →
      wpAny (model PG w) (AA dp un gd [lawE L fa cd]) (execs (turnB.drop 6) (lawE L fa cd)) Q E { s with heap := h', toks := tk' }) :
    wpAny (model PG w) (AA dp un gd [lawE L fa cd]) (execs (turnB.drop 5) (lawE L fa cd)) Q E s := by
  refine step_at (k := 5) (st := ?st5) ?hk ?_
  case hk => conv => lhs; whnf
  iterate 11 walk1
  rename Fr _ _ _ _ => F2
  rename News _ _ _ _ => N2
  rename IsRange _ _ _ _ _ _ _ _ => hr
  refine LCg.CompSrc.range (n := 5 - t) rfl F2 N2 hr ?sm ?rs ?sz fun g => ?_
  case sm => rcases (show t = 0 ∨ t = 1 ∨ t = 2 ∨ t = 3 ∨ t = 4 by omega) with rfl | rfl | rfl | rfl | rfl <;> decide
  case rs => rw [rangeSize_nat]; congr 1; omega
  case sz => exact Nat.le_trans (show _ ≤ 100 by omega) (by decide)
  refine rest_refs (V := fun j => PA (V j)) (fun i t' I C D oI oC oD m₂ h3 tk3 E' Q3 hi hC hx F3 N3 hq => ?helt) (fun D h4 tk4 F4 N4 o4 => ?fin) (5 - t) 0 (Nat.zero_add _)
  case helt =>
    obtain ⟨hv6, hvl⟩ := hV i hi
    rw [Int.zero_add] at hx
    iterate 14 walk1
    rename Fr _ _ _ _ => F5
    rename News _ _ _ _ => N5
    have hls := N5 (ls, listOf sv ks) (.tail _ (.tail _ (.tail _ ms)))
    have hpl := N5 (pl, peopleL PA) (.tail _ (.tail _ (.tail _ wp)))
    refine wpAny_call (law_place (n := t + 1) (s := ⟨_, s.gens, s.drawn, _, s.os⟩) (p := p) (loose := loose) (mean := mean) (mg := mg) (mb := mb) (by omega) hsv (by omega) (by omega) hls.1 (X.keeps (under1 F5 hls.2.2)) (T.keeps (under1 F5 hls.2.2)) fun h3 t3 tz hk => ?_)
    rw [hvl]
    dsimp only
    refine item_listL (x := .ref (PA (V i))) (l := [.ref (PA 0), .ref (PA 1), .ref (PA 2), .ref (PA 3), .ref (PA 4), .ref (PA 5)]) ⟨_, hk _ _ hpl.1, rfl, _, rfl⟩ (by omega) ?sz ?gt ?_
    case sz => omega
    case gt =>
      generalize V i = g at hv6
      rcases (show g = 0 ∨ g = 1 ∨ g = 2 ∨ g = 3 ∨ g = 4 ∨ g = 5 by omega) with rfl | rfl | rfl | rfl | rfl | rfl <;> rfl
    exact hq _ _ hk
  case fin => exact h D h4 tk4 F4 N4
end
end -- A57
end
example : True ∧ True := by (w_top off; (try (walk1; fail)); exact ⟨trivial, trivial⟩)
example : True ∧ True := by (w_top off; (try (walk1; fail)); exact ⟨trivial, trivial⟩)
section
local macro_rules | `(tactic| k_mem) => `(tactic| first | assumption | exact List.Mem.head _ | (refine List.Mem.tail _ ?_; k_mem))
local macro_rules | `(tactic| walk_at "mine pairs") => `(tactic| (k_dflt (refine LCp.ListComp_P (F₀ := by k_asm) (by with_unfolding_all rfl) (by decide) (by rfl) (by decide) (by rfl) (by rfl) (by decide) ?_)))
section -- A58
open PyProof.Rows.LCg
theorem sum_le3 {n : Nat} {f : Nat → Nat} (h : ∀ i, i < n → f i ≤ 3) : ((List.range n).map f).sum ≤ 3 * n := by
  induction n with
  | zero => simp
  | succ n ih =>
    rw [List.range_succ, List.map_append, List.sum_append]
    have h1 := ih fun i hi => h i (by omega)
    have h2 := h n (by omega)
    simp only [List.map_cons, List.map_nil, List.sum_cons, List.sum_nil]
    omega
section
variable {w : World} {s : Shared} {dp un : Nat} {gd : Option (List Code)} {p : Program} {loose : List Str} {mg mb : Str → Option Value} {mean : ExcName → Option Value} {B : Heap} {L fa : Nat} {cd : Value} {Q : Flow → Shared → Prop} {E : Value → Shared → Prop}
theorem turn4 {D n : Nat} {V : Nat → Nat} {PA : Nat → Nat} {wv : Nat → Str} {tw tp : Nat → Tok} {news : List (Addr × Obj)} {m0 : Str → Option Value} (hdp : dp + 20 < recursionLimit) (hun : un + 40 < cLine) (hwv : ∀ i, i < 6 → (wv i).length ≤ 2)
    (X : (hd.heap_1 w.params).In B) (T : Top p loose mean mg mb B) (hn : n ≤ 5) (hV : ∀ j : Nat, j < n → V j < 6)
    (F : Fr B L s.heap (fun y : Str => if y = "left" then some (.ref D) else m0 y))
    (N : News B L s.heap news) (mD : (D, lst ((List.range n).map fun j => .ref (PA (V j)))) ∈ news) (wi : ∀ i, i < 6 → (PA i, tupW wv tw tp i) ∈ news)
    (h : ∀ t h' tk', Fr B L h' (fun y : Str => if y = "text" then some (.str (Txt.join "" ((List.range n).map fun i => wv (V i) ++ ptN (V i))) t) else if y = "left" then some (.ref D) else m0 y) → News B L h' news →
      wpAny (model PG w) (AA dp un gd [lawE L fa cd]) (execs (turnB.drop 7) (lawE L fa cd)) Q E { s with heap := h', toks := tk' }) :
    wpAny (model PG w) (AA dp un gd [lawE L fa cd]) (execs (turnB.drop 6) (lawE L fa cd)) Q E s := by
  refine step_at (k := 6) (st := ?st6) ?hk ?_
  case hk => conv => lhs; whnf
  iterate 6 walk1
  walk_at "mine pairs"
  walk1
  rename Fr _ _ _ _ => F1
  rename News _ _ _ _ => N1
  refine LCp.SrcLP.ledger (its := ((List.range n).map fun j => Value.ref (PA (V j))).toArray) rfl F1 N1 mD (Nat.le_trans (by simp; omega) (show (100 : Nat) ≤ sizeLine by decide)) fun g => ?_
  refine rest_text (n := n) (T := fun i => PA (V i)) (a := fun i => wv (V i)) (b := fun i => ptN (V i)) (ta := fun i => tw (V i)) (tb := fun i => tp (V i)) (fun i hi => ?hits) (fun i hi => wi _ (hV i hi)) (fun i s C oC m₂ E' Q hi hC h1 h2 hg hq => ?helt) (.inr ⟨_, mD, rfl, _, rfl⟩) (fun ys hys => ?fin) _ 0 [] ?z .nil
  case z => simp
  case hits => simp [hi]
  case helt =>
    walk1
    refine ldVarK (hC.ns hg) h1 ?_
    refine ldVarK (hC.ns hg) h2 ?_
    refine add_str (fun t' k => hq t' k) ?_
    rw [ptN_len _ (hV i hi)]
    exact Nat.le_trans (Nat.add_le_add_right (hwv _ (hV i hi)) 1) (by decide)
  case fin =>
    intro D9 h9 tk9 F9 N9 o9
    walk1
    refine join_listW (ys := (List.range n).map fun i => wv (V i) ++ ptN (V i)) (News.isList N9 (.head _)) hys (by decide) ?_ fun t' k => ?_
    · have h9 := sum_le3 (n := n) (f := fun i => (wv (V i) ++ ptN (V i)).length) fun i hi => by
        have e1 := hwv _ (hV i hi)
        have e2 := ptN_len _ (hV i hi)
        rw [app_len]; omega
      rw [List.map_map, List.length_map, List.length_range]
      refine Nat.le_trans (Nat.add_le_add_right h9 n) ?_
      omega
    walk_at "mine st"
    rename Fr _ _ _ _ => F8
    rename News _ _ _ _ => N8
    exact h _ _ _ F8 (fun q hq => N8 q (.tail _ hq))
end
end -- A58
end
example : True ∧ True := by (w_top off; (try (walk1; fail)); exact ⟨trivial, trivial⟩)
section -- A61
open PyProof.Rows.LCg
theorem TabO.cls {B : Heap} {oP : Obj} {c P : Nat} (t : TabO B oP c P) : oP.cls = .none := by
  obtain ⟨H0, t, e, _⟩ := t
  obtain ⟨ps, ho⟩ := t.obj
  rw [ho] at e; cases e; rfl
theorem turnB_9 : turnB.drop 9 = [] := rfl
section
variable {w : World} {s : Shared} {dp un : Nat} {gd : Option (List Code)} {p : Program} {loose : List Str} {mg mb : Str → Option Value} {mean : ExcName → Option Value} {B : Heap} {L fa : Nat} {cd : Value} {Q : Flow → Shared → Prop} {E : Value → Shared → Prop}
theorem turn_all {x dx c t ls ks pl : Nat} {o2 o3 o70 o77 o4 : Obj} {σ : List Nat} {RA PA : Nat → Nat} {wv : Nat → Str} {pa pb : Nat → Str} {tw tp tw2 tp2 : Nat → Tok} {st : List Int} {sv : Array Value} {kz z : Int} {e tz tk ty : Tok} {rest : List (Addr × Obj)} {m0 : Str → Option Value}
    (hdp : dp + 20 < recursionLimit) (hun : un + 40 < cLine) (hL : 170 < L) (hwv : ∀ i, i < 6 → (wv i).length ≤ 2)
    (X : (hd.heap_1 w.params).In B) (T : Top p loose mean mg mb B) (ht : t < 5) (hts : t < st.length) (hsv : StepsV sv st) (O : OrdAt st t σ) (h6 : ∀ j ∈ σ, j < 6) (hz : st.getD t 0 = z) (hz0 : 0 ≤ z) (hz1 : z ≤ 30)
    (F : Fr B L s.heap (fun y : Str => if y = "size" then some (.int z tz) else if y = "ring" then some (.ref x) else m0 y))
    (N : News B L s.heap (ringL L x dx o70 o77 o4 (accObj dx (refsOf (σ.map RA)) c) (sizeD w e (.int kz tk)) rest)) (hd4 : o4.data = .cell (some (.int t ty)))
    (t70 : TabO B o70 74 70) (t77 : TabO B o77 81 77)
    (m2 : (L + 2, o2) ∈ rest) (hd2 : o2.data = .cell (some (.ref ls))) (m3 : (L + 3, o3) ∈ rest) (hd3 : o3.data = .cell (some (.ref pl)))
    (ms : (ls, listOf sv ks) ∈ rest) (wp : (pl, peopleL PA) ∈ rest) (wi : ∀ i, i < 6 → (PA i, tupW wv tw tp i) ∈ rest) (wr : ∀ i, i < 6 → (RA i, tupW wv tw2 tp2 i) ∈ rest)
    (hpa : ∀ j, j < 6 → pa (RA j) = wv j) (hpb : ∀ j, j < 6 → pb (RA j) = ptN j)
    (hne : dx < x) (low : 170 < dx) (hx4 : L + 4 < dx) (lowT : ∀ j, j < 6 → x < RA j) (o1 : ∀ q ∈ rest, q.1 ≠ x) (o2' : ∀ q ∈ rest, q.1 ≠ dx) (o3' : ∀ q ∈ rest, q.1 ≠ L + 4) (off : ∀ q ∈ rest, q.1 ≠ 70 ∧ q.1 ≠ 77)
    (h : ∀ (i c' : Nat) (e' tz' ty' : Tok) (o70' o77' o4' : Obj) (m0' : Str → Option Value) h' g' tk', OrdAt st (t + 1) (rot σ i) → o4'.data = .cell (some (.int ((t + 1 : Nat) : Int) ty')) → TabO B o70' 74 70 → TabO B o77' 81 77 → GensUp s.gens g' →
      Fr B L h' (fun y : Str => if y = "ring" then some (.ref x) else m0' y) → (∀ y : Str, y ≠ "size" → y ≠ "behind" → y ≠ "left" → y ≠ "text" → y ≠ "ring" → m0' y = m0 y) →
      News B L h' (ringL L x dx o70' o77' o4' (accObj dx (refsOf ((rot σ i).map RA)) c') (sizeD w e' (.int 0 tz')) rest) →
      Q .next ⟨h', g', s.drawn, tk', s.os⟩) :
    wpAny (model PG w) (AA dp un gd [lawE L fa cd]) (execs (turnB.drop 0) (lawE L fa cd)) Q E s := by
  have hl := O.1
  refine turn1 (OS := σ.map RA) hdp hL X T ht (by rw [List.length_map]; exact hl) hz0 hz1 F N hd4 hne low hx4 o1 o2' o3' fun i q c1 e1 tz1 ty1 o4' h1 k1 hi hi6 hd4' F1 N1 => ?_
  have hiσ : i < σ.length := by omega
  have O' := O.step ht hz hi hi6
  rw [rot_map] at N1
  have h6' : ∀ j ∈ rot σ i, j < 6 := fun j hj => h6 j (rot_mem hj)
  have up : ∀ {a b c d e f : Addr × Obj}, ∀ p ∈ rest, p ∈ a :: b :: c :: d :: e :: f :: rest := fun p hp => .tail _ (.tail _ (.tail _ (.tail _ (.tail _ (.tail _ hp)))))
  refine turn2 (i := i) (σ := σ) (st := st) (PA := PA) (wv := wv) (tw := tw) (tp := tp) (tw2 := tw2) (tp2 := tp2) (RA := RA) (sv := sv) hdp hun X T hts hsv hiσ (O.last ht hz hi hi6 hiσ) h6 F1 N1 (.head _) (up _ m2) hd2 (up _ m3) hd3 (.tail _ (.tail _ (.tail _ (.head _)))) hd4' (up _ ms) (up _ wp) (fun i hi => up _ (wi i hi)) (fun i hi => up _ (wr i hi)) fun h2 k2 F2 N2 => ?_
  have hrl : (rot σ i).length = 5 - t := by rw [O'.1]; omega
  have hV : ∀ j : Nat, j < 5 - t → (rot σ i).getD j 0 < 6 ∧ lawPl st (t + 1) (j : Nat) = ((rot σ i).getD j 0 : Nat) := fun j hj => by
    have hj' : j < (rot σ i).length := by omega
    have e : (rot σ i).getD j 0 = (rot σ i)[j] := by simp [List.getD, hj']
    rw [e]
    exact ⟨h6' _ (List.getElem_mem hj'), O'.2 j hj'⟩
  refine turn3 (s := ⟨h2, s.gens, s.drawn, k2, s.os⟩) (V := fun j => (rot σ i).getD j 0) (PA := PA) (st := st) (sv := sv) hdp hun X T ht hts hsv hV F2 N2 (up _ m2) hd2 (up _ m3) hd3 (.tail _ (.tail _ (.tail _ (.head _)))) hd4' (up _ ms) (up _ wp) fun D h3 k3 F3 N3 => ?_
  refine turn4 (s := ⟨h3, s.gens, s.drawn, k3, s.os⟩) (n := 5 - t) (V := fun j => (rot σ i).getD j 0) (PA := PA) (wv := wv) (tw := tw) (tp := tp) hdp hun hwv X T (by omega) (fun j hj => (hV j hj).1) F3 N3 (.head _) (fun i hi => .tail _ (up _ (wi i hi))) fun tx h4 k4 F4 N4 => ?_
  have eT : ((List.range (5 - t)).map fun i_1 => wv ((rot σ i).getD i_1 0) ++ ptN ((rot σ i).getD i_1 0)) = (rot σ i).map fun i => wv i ++ ptN i := map_range_getD (fun i => wv i ++ ptN i) hrl.symm
  have eD : ((List.range (5 - t)).map fun j => Value.ref (PA ((rot σ i).getD j 0))) = (rot σ i).map fun j => Value.ref (PA j) := map_range_getD (fun j => Value.ref (PA j)) hrl.symm
  rw [eT] at F4
  rw [eD] at N4
  have hσ6 : (rot σ i).length ≤ 6 := by omega
  clear F1 N1 F2 N2 F3 N3 eT eD hV
  generalize hσ : rot σ i = σ' at *
  have c70 := t70.cls
  have c77 := t77.cls
  have N5 : News B L h4 ((70, o70) :: (77, o77) :: (D, lst (σ'.map fun j => .ref (PA j))) :: (q, { cls := .type "list", data := .seq (((σ.map RA).map Value.ref).drop i).toArray }) :: (L + 4, o4') :: (x, accObj dx (refsOf (σ'.map RA)) c1) :: (dx, sizeD w e1 (.int 0 tz1)) :: rest) := fun p hp => N4 p (by
    exact mv_61a hp)
  have offc : ∀ p ∈ (70, o70) :: (77, o77) :: (D, lst (σ'.map fun j => .ref (PA j))) :: (q, { cls := .type "list", data := .seq (((σ.map RA).map Value.ref).drop i).toArray }) :: (L + 4, o4') :: (x, accObj dx (refsOf (σ'.map RA)) c1) :: (dx, sizeD w e1 (.int 0 tz1)) :: rest, p.2.cls ≠ .none → p.1 ≠ 70 ∧ p.1 ≠ 77 := fun p hp hc => by
    have h1 := (N5 p hp).1
    have h2 := (N5 _ (.head _)).1
    have h3 := (N5 _ (.tail _ (.head _))).1
    refine ⟨fun e => hc ?_, fun e => hc ?_⟩
    · rw [e, h2] at h1; cases h1; exact c70
    · rw [e, h3] at h1; cases h1; exact c77
  have off5 : ∀ p ∈ (D, lst (σ'.map fun j => .ref (PA j))) :: (q, { cls := .type "list", data := .seq (((σ.map RA).map Value.ref).drop i).toArray }) :: (L + 4, o4') :: (x, accObj dx (refsOf (σ'.map RA)) c1) :: (dx, sizeD w e1 (.int 0 tz1)) :: rest, p.1 ≠ 70 ∧ p.1 ≠ 77 := fun p hp => by
    rcases List.mem_cons.mp hp with rfl | hp
    · exact offc _ (.tail _ (.tail _ (.head _))) (by intro h; cases h)
    · rcases List.mem_cons.mp hp with rfl | hp
      · exact offc _ (.tail _ (.tail _ (.tail _ (.head _)))) (by intro h; cases h)
      · rcases List.mem_cons.mp hp with rfl | hp
        · exact ⟨fun e => by have : L + 4 = 70 := e; omega, fun e => by have : L + 4 = 77 := e; omega⟩
        · rcases List.mem_cons.mp hp with rfl | hp
          · exact ⟨fun e => by have : x = 70 := e; omega, fun e => by have : x = 77 := e; omega⟩
          · rcases List.mem_cons.mp hp with rfl | hp
            · exact ⟨fun e => by have : dx = 70 := e; omega, fun e => by have : dx = 77 := e; omega⟩
            · exact off p hp
  have up5 : ∀ {a b c d e : Addr × Obj}, ∀ p ∈ rest, p ∈ a :: b :: c :: d :: e :: rest := fun p hp => .tail _ (.tail _ (.tail _ (.tail _ (.tail _ hp))))
  refine turn5 (tx := tx) (s := ⟨h4, s.gens, s.drawn, k4, s.os⟩) (σ := σ') (RA := RA) (PA := PA) (wv := wv) (pa := pa) (pb := pb) (tw := tw) (tp := tp) (tw2 := tw2) (tp2 := tp2) (c := c1) (x := x) (dx := dx) (D := D) hdp hun hwv X T hσ6 h6' (m0 := fun y : Str => if y = "behind" then some (.ref q) else if y = "size" then some (.int z tz) else m0 y) (fr_congr F4 fun y => ?fr) N5 t70 t77 (.tail _ (.tail _ (.tail _ (.head _)))) (.tail _ (.tail _ (.tail _ (.tail _ (.head _))))) (.head _) (fun i hi => up5 _ (wi i hi)) (fun i hi => up5 _ (wr i hi)) hpa hpb hne low lowT off5 fun o70' h5 g5 k5 hg5 t70' F5 N6 => ?_
  case fr =>
    by_cases e : y = "ring"
    · subst e; rfl
    · simp only [e, if_false]
  refine turn6 (tx := tx) (s := ⟨h5, g5, s.drawn, k5, s.os⟩) (σ := σ') (RA := RA) (wv := wv) (pa := pa) (pb := pb) (tw2 := tw2) (tp2 := tp2) (c := c1) (x := x) (dx := dx) hdp hun hwv X T hσ6 h6' F5 N6 t70' t77 (.tail _ (.tail _ (.tail _ (.head _)))) (.tail _ (.tail _ (.tail _ (.tail _ (.head _))))) (fun i hi => up5 _ (wr i hi)) hpa hpb hne low lowT off5 fun o77' h6 g6 k6 hg6 t77' F6 N7 => ?_
  rw [turnB_9]
  refine wpAny_execs_nil ?_
  refine h i c1 e1 tz1 ty1 o70' o77' o4' (fun y : Str => if y = "text" then some (.str (Txt.join "" (σ'.map fun i => wv i ++ ptN i)) tx) else if y = "left" then some (.ref D) else if y = "behind" then some (.ref q) else if y = "size" then some (.int z tz) else m0 y) h6 g6 k6 (hσ ▸ O') hd4' t70' t77' (hg5.trans hg6) (fr_congr F6 fun y => ?fr) (fun y e1 e2 e3 e4 e5 => by simp only [e1, e2, e3, e4, if_false]) (fun p hp => N7 p ?nw)
  case fr =>
    by_cases e : y = "ring"
    · subst e; rfl
    · simp only [e, if_false]
  case nw =>
    rw [hσ] at hp
    exact mv_61b hp
end
end -- A61
example : True := by w_top off; trivial
example : True ∧ True := by (w_top off; (try (walk1; fail)); exact ⟨trivial, trivial⟩)
section
local macro_rules | `(tactic| k_mem) => `(tactic| first | assumption | exact List.Mem.head _ | (refine List.Mem.tail _ ?_; k_mem))
section -- A62
section
variable {w : World} {s : Shared} {dp un : Nat} {gd : Option (List Code)} {p : Program} {loose : List Str} {mg mb : Str → Option Value} {mean : ExcName → Option Value} {B : Heap} {L fa : Nat} {cd : Value} {Q : Flow → Shared → Prop} {E : Value → Shared → Prop}
theorem turn_break {o4 : Obj} {ty : Tok} {news : List (Addr × Obj)} {m0 : Str → Option Value} (hdp : dp + 20 < recursionLimit)
    (X : (hd.heap_1 w.params).In B) (T : Top p loose mean mg mb B) (F : Fr B L s.heap m0) (N : News B L s.heap news) (m4 : (L + 4, o4) ∈ news) (hd4 : o4.data = .cell (some (.int 5 ty)))
    (h : ∀ h' tk', Fr B L h' m0 → News B L h' news → Q .brk { s with heap := h', toks := tk' }) :
    wpAny (model PG w) (AA dp un gd [lawE L fa cd]) (execs (turnB.drop 0) (lawE L fa cd)) Q E s := by
  refine step_at (k := 0) (st := ?st0) ?hk ?_
  case hk => conv => lhs; whnf
  iterate 10 walk1
  exact h _ _ F N
end
open Classical in
noncomputable def held (B h : Heap) (L C : Nat) : List (Addr × Obj) :=
  (List.range h.objs.size).filterMap fun b => match h.get? b with
    | some o => if B.get? b = none ∧ b ≠ L ∧ (b = C ∨ IsLI o) then some (b, o) else none
    | none => none
theorem held_mem {B h : Heap} {L C : Nat} {p : Addr × Obj} (hp : p ∈ held B h L C) : h.get? p.1 = some p.2 ∧ p.1 ≠ L ∧ B.get? p.1 = none ∧ (p.1 = C ∨ IsLI p.2) := by
  obtain ⟨b, _, hb⟩ := List.mem_filterMap.mp hp
  cases hg : h.get? b with
  | none => rw [hg] at hb; cases hb
  | some o =>
    rw [hg] at hb
    dsimp only at hb
    split at hb
    · rename_i hc
      cases hb
      exact ⟨hg, hc.2.1, hc.1, hc.2.2⟩
    · cases hb
theorem held_of {B h : Heap} {L C b : Nat} {o : Obj} (hg : h.get? b = some o) (hB : B.get? b = none) (hL : b ≠ L) (hc : b = C ∨ IsLI o) : (b, o) ∈ held B h L C := by
  refine List.mem_filterMap.mpr ⟨b, List.mem_range.mpr (Heap.lt_size hg), ?_⟩
  rw [hg]
  dsimp only
  rw [if_pos ⟨hB, hL, hc⟩]
theorem bare_set {gens : Array GenState} {g : Nat} {x : GenState} (h : AllBare gens) (hx : x.bare = true) : AllBare (gens.setIfInBounds g x) := fun y hy => by
  rcases Array.mem_or_eq_of_mem_setIfInBounds hy with h1 | h1
  · exact h y h1
  · rw [h1]; exact hx
theorem bare_up {a b : Array GenState} (h : AllBare a) (u : GensUp a b) : AllBare b := fun y hy => by
  obtain ⟨i, hi, e⟩ := Array.mem_iff_getElem.mp hy
  rcases u.bare i y (by rw [Array.getElem?_eq_getElem hi, e]) with h1 | h1
  · exact h y (Array.mem_of_getElem? h1)
  · exact h1
end -- A62
end
example : True ∧ True := by (w_top off; (try (walk1; fail)); exact ⟨trivial, trivial⟩)
section -- A63
noncomputable def LI (w : World) (A1 : Around) (B : Heap) (L x dx lf g C lr : Nat) (outer : List Env) (O : Nat → GOut) (rest : List (Addr × Obj)) (st : List Int) (RA : Nat → Nat) (s0 : Shared) (n : Nat) (s : Shared) : Prop :=
  ∃ (t c : Nat) (σ : List Nat) (kz : Int) (e tk ty : Tok) (o70 o77 o4 : Obj) (m0 : Str → Option Value) (gs : GenState),
    n = 6 - t ∧ t ≤ 5 ∧ t ≤ st.length ∧ OrdAt st t σ ∧ (∀ j ∈ σ, j < 6) ∧
    Fr B L s.heap (fun y : Str => if y = "ring" then some (.ref x) else m0 y) ∧ m0 "front" = some (.ref lf) ∧
    News B L s.heap (ringL L x dx o70 o77 o4 (accObj dx (refsOf (σ.map RA)) c) (sizeD w e (.int kz tk)) rest) ∧ o4.data = .cell (some (.int t ty)) ∧ TabO B o70 74 70 ∧ TabO B o77 81 77 ∧
    AllBare s.gens ∧ s.gens[g]? = some gs ∧ s.os = s0.os ∧ s.drawn = s0.drawn ∧
    gs.Goes (model PG w) A1 (giEnd B C 7 O (giEX B C outer)) (giProto B C lr 7 O) (7 - t) (.send .none) (s.setGen g .running)
theorem not_li_cls {o : Obj} {v : Value} (h : o.cls = v) (hv : v ≠ .type "list_iterator") : ¬ IsLI o := fun q => hv (h ▸ q.1)
section
variable {w : World} {s : Shared} {R : Result → Shared → Prop} {dp un : Nat} {gd : Option (List Code)} {p : Program} {loose : List Str} {mg mb : Str → Option Value} {mean : ExcName → Option Value} {B : Heap} {L fa : Nat} {cd : Value}
theorem law_loop {x dx ls ks pl lf lr a g C : Nat} {o2 o3 ga lo : Obj} {RA PA : Nat → Nat} {wv : Nat → Str} {pa pb : Nat → Str} {tw tp tw2 tp2 : Nat → Tok} {st : List Int} {sv : Array Value} {O : Nat → GOut} {rest : List (Addr × Obj)} {px : Pos} {n : Nat} {s0 : Shared}
    (hdp : dp + 20 < recursionLimit) (hun : un + 40 < cLine) (hL : 170 < L) (hwv : ∀ i, i < 6 → (wv i).length ≤ 2)
    (X : (hd.heap_1 w.params).In B) (T : Top p loose mean mg mb B) (hsv : StepsV sv st)
    (hO : ∀ t, t < st.length → t < 5 → O t = .yld (st.getD t 0) ∧ 0 ≤ st.getD t 0 ∧ st.getD t 0 ≤ 30) (hend : (st.length = 5 ∧ ∃ z, O 5 = .yld z) ∨ (st.length = 4 ∧ O 4 = .stop))
    (m2 : (L + 2, o2) ∈ rest) (hd2 : o2.data = .cell (some (.ref ls))) (m3 : (L + 3, o3) ∈ rest) (hd3 : o3.data = .cell (some (.ref pl)))
    (ms : (ls, listOf sv ks) ∈ rest) (wp : (pl, peopleL PA) ∈ rest) (wi : ∀ i, i < 6 → (PA i, tupW wv tw tp i) ∈ rest) (wr : ∀ i, i < 6 → (RA i, tupW wv tw2 tp2 i) ∈ rest)
    (ma : (a, ga) ∈ rest) (hgen : ∀ h : Heap, h.get? a = some ga → h.IsGen a g) (mr : (lr, lo) ∈ rest)
    (hpa : ∀ j, j < 6 → pa (RA j) = wv j) (hpb : ∀ j, j < 6 → pb (RA j) = ptN j)
    (hne : dx < x) (low : 170 < dx) (hx4 : L + 4 < dx) (lowT : ∀ j, j < 6 → x < RA j) (o1 : ∀ q ∈ rest, q.1 ≠ x) (o2' : ∀ q ∈ rest, q.1 ≠ dx) (o3' : ∀ q ∈ rest, q.1 ≠ L + 4) (off : ∀ q ∈ rest, q.1 ≠ 70 ∧ q.1 ≠ 77)
    (hnl : ∀ q ∈ rest, ¬ IsLI q.2 ∧ q.1 ≠ C) (xC : x < C) (bC : B.get? C = none)
    (hR : ∀ (c : Nat) (σ : List Nat) (kz : Int) (e tk ty : Tok) (o70 o77 o4 : Obj) (m0 : Str → Option Value) h' g' tk', Fr B L h' (fun y : Str => if y = "ring" then some (.ref x) else m0 y) → m0 "front" = some (.ref lf) →
      News B L h' (ringL L x dx o70 o77 o4 (accObj dx (refsOf (σ.map RA)) c) (sizeD w e (.int kz tk)) rest) → o4.data = .cell (some (.int (st.length : Int) ty)) → TabO B o70 74 70 → TabO B o77 81 77 → AllBare g' → R (.ok .next) ⟨h', g', s0.drawn, tk', s0.os⟩)
    (hI : LI w (AA dp un gd [lawE L fa cd]).in1 B L x dx lf g C lr [lawE L fa cd] O rest st RA s0 n s) :
    codeAny (model PG w) (AA dp un gd [lawE L fa cd]) (.forLoop (.Name "size" px) (.ref a) (turnB.drop 0) [] (lawE L fa cd)) R s := by
  refine forAgain (LI w (AA dp un gd [lawE L fa cd]).in1 B L x dx lf g C lr [lawE L fa cd] O rest st RA s0) (fun n s1 hI => ?_) n hI
  obtain ⟨t, c, σ, kz, e, tk, ty, o70, o77, o4, m0, gs, hn, ht5, htl, hOr, h6, F, hfront, N, hd4, t70, t77, hb, hgs, hos, hdr, hgo⟩ := hI
  obtain ⟨h1, g1, d1, k1, os1⟩ := s1
  dsimp only at F N hb hgs hos hdr
  subst hos hdr
  have mup : ∀ p ∈ rest, p ∈ ringL L x dx o70 o77 o4 (accObj dx (refsOf (σ.map RA)) c) (sizeD w e (.int kz tk)) rest := fun p hp => .tail _ (.tail _ (.tail _ (.tail _ (.tail _ hp))))
  have haL : a ≠ L := (N _ (mup _ ma)).2.1
  -- what a run of the generator keeps
  have hnr : ∀ p ∈ ringL L x dx o70 o77 o4 (accObj dx (refsOf (σ.map RA)) c) (sizeD w e (.int kz tk)) rest, ¬ IsLI p.2 ∧ p.1 ≠ C := fun p hp => by
    rcases List.mem_cons.mp hp with rfl | hp
    · exact ⟨not_li_cls t70.cls (by intro h; cases h), fun e => by have : 70 = C := e; omega⟩
    · rcases List.mem_cons.mp hp with rfl | hp
      · exact ⟨not_li_cls t77.cls (by intro h; cases h), fun e => by have : 77 = C := e; omega⟩
      · rcases List.mem_cons.mp hp with rfl | hp
        · exact ⟨(fun ⟨_, vs, q⟩ => by rw [hd4] at q; cases q), fun e => by have : L + 4 = C := e; omega⟩
        · rcases List.mem_cons.mp hp with rfl | hp
          · exact ⟨not_li_cls (v := .ref 108) rfl (by intro h; cases h), fun e => by have : x = C := e; omega⟩
          · rcases List.mem_cons.mp hp with rfl | hp
            · exact ⟨not_li_cls (v := .type "dict") rfl (by intro h; simp at h), fun e => by have : dx = C := e; omega⟩
            · exact hnl p hp
  have after : ∀ s2 : Shared, GSince B C (Shared.setGen ⟨h1, g1, s0.drawn, k1, s0.os⟩ g .running) s2 → ∃ h2 k2, s2 = ⟨h2, g1.setIfInBounds g .running, s0.drawn, k2, s0.os⟩ ∧
      Fr B L h2 (fun y : Str => if y = "ring" then some (.ref x) else m0 y) ∧ News B L h2 (ringL L x dx o70 o77 o4 (accObj dx (refsOf (σ.map RA)) c) (sizeD w e (.int kz tk)) rest) := fun s2 hs => by
    obtain ⟨h2, k2, rfl, hk⟩ := hs
    refine ⟨h2, k2, rfl, ⟨F.ns.at' fun o q => hk L o (by omega) (.inl ?_) q, fun b o q => hk b o (by rintro rfl; rw [bC] at q; cases q) (.inr q) (F.keep b o q), F.above⟩, fun p hp => ⟨hk _ _ (hnr p hp).2 (.inl (hnr p hp).1) (N p hp).1, (N p hp).2⟩⟩
    obtain ⟨o', es, ep, ho, hd', _⟩ := F.ns
    rw [ho] at q; cases q
    exact fun ⟨_, vs, q⟩ => by rw [hd'] at q; cases q
  refine gi_next (n := 7 - t) (k := t) (N := 7) (C := C) (l := lr) (h0 := B) (O := O) (outer := [lawE L fa cd]) rfl ?room (T.nolimit.keeps F.keep) (hgen _ (N _ (mup _ ma)).1) hgs ?ac ?af (by omega) (by omega) hgo (fun z tz s₂ gs' hOz hbz hsi hnx => ?hY) (fun hOs s₂ h' hsi hk => ?hS) (fun hOf e s₂ hx => ?hE)
  case room => show dp < _; omega
  case ac => exact (hnl _ ma).2
  case af => intro hm; exact haL (List.mem_singleton.mp hm)
  case hE =>
    exfalso
    rcases Nat.lt_or_ge t st.length with hlt | hge
    · by_cases h5 : t < 5
      · rw [(hO t hlt h5).1] at hOf; cases hOf
      · rcases hend with ⟨e5, z, hz⟩ | ⟨e4, hs⟩
        · omega
        · omega
    · rcases hend with ⟨e5, z, hz⟩ | ⟨e4, hs⟩
      · have : t = 5 := by omega
        rw [this, hz] at hOf; cases hOf
      · have : t = 4 := by omega
        rw [this, hs] at hOf; cases hOf
  case hS =>
    have ht : t = st.length := by
      rcases Nat.lt_or_ge t st.length with hlt | hge
      · have h5 : t < 5 := by rcases hend with ⟨e5, z, hz⟩ | ⟨e4, hs⟩ <;> omega
        rw [(hO t hlt h5).1] at hOs; cases hOs
      · omega
    obtain ⟨h2, k2, rfl, F2, N2⟩ := after _ hsi
    dsimp only at hk ⊢
    refine wpAny_execs_nil ?_
    exact hR c σ kz e tk ty o70 o77 o4 m0 h' _ k2 (fr_up F2 hk) hfront (news_up N2 hk) (ht ▸ hd4) t70 t77 (bare_set (bare_set hb rfl) rfl)
  case hY =>
    obtain ⟨h2, k2, rfl, F2, N2⟩ := after _ hsi
    have hg1 : g < g1.size := (Array.getElem?_eq_some_iff.mp hgs).1
    dsimp only
    have N2' : News B L h2 (ringL L x dx o70 o77 o4 (accObj dx (refsOf (σ.map RA)) c) (sizeD w e (.int kz tk)) (held B h2 L C ++ rest)) := fun p hp => by
      have : p ∈ held B h2 L C ∨ p ∈ ringL L x dx o70 o77 o4 (accObj dx (refsOf (σ.map RA)) c) (sizeD w e (.int kz tk)) rest := by
        exact mv_63a hp
      rcases this with h | h
      · have := held_mem h; exact ⟨this.1, this.2.1, this.2.2.1⟩
      · exact N2 p h
    have hheld : ∀ q ∈ held B h2 L C, q.1 ≠ x ∧ q.1 ≠ dx ∧ q.1 ≠ L + 4 ∧ q.1 ≠ 70 ∧ q.1 ≠ 77 := fun q hq => by
      obtain ⟨e1, e2, e3, e4⟩ := held_mem hq
      rcases e4 with e4 | e4
      · rw [e4]; exact ⟨Nat.ne_of_gt (show x < C by omega), Nat.ne_of_gt (show dx < C by omega), Nat.ne_of_gt (show L + 4 < C by omega), Nat.ne_of_gt (show 70 < C by omega), Nat.ne_of_gt (show 77 < C by omega)⟩
      · have ne : ∀ b o, (b, o) ∈ ringL L x dx o70 o77 o4 (accObj dx (refsOf (σ.map RA)) c) (sizeD w e (.int kz tk)) rest → q.1 ≠ b := fun b o hm hb => by
          have h9 := (N2 _ hm).1
          rw [hb] at e1
          rw [e1] at h9
          cases h9
          exact (hnr _ hm).1 e4
        exact ⟨ne x _ (.tail _ (.tail _ (.tail _ (.head _)))), ne dx _ (.tail _ (.tail _ (.tail _ (.tail _ (.head _))))), ne (L + 4) _ (.tail _ (.tail _ (.head _))), ne 70 _ (.head _), ne 77 _ (.tail _ (.head _))⟩
    refine wpAny_assign_Name (storeX_L F2 N2' fun h3 F3 N3 => ?_)
    rcases Nat.lt_or_ge t 5 with h5 | h5
    · have hlt : t < st.length := by
        rcases hend with ⟨e5, _⟩ | ⟨e4, hs⟩
        · omega
        · rcases Nat.lt_or_ge t 4 with h | h
          · omega
          · have : t = 4 := by omega
            rw [this, hs] at hOz; cases hOz
      obtain ⟨hOt, hz0, hz1⟩ := hO t hlt h5
      have hz : st.getD t 0 = z := by rw [hOt] at hOz; cases hOz; rfl
      rw [hz] at hz0 hz1
      have ap : ∀ p ∈ rest, p ∈ held B h2 L C ++ rest := fun p hp => List.mem_append_right _ hp
      refine turn_all (s := ⟨h3, _, s0.drawn, _, s0.os⟩) (σ := σ) (t := t) (st := st) (sv := sv) (c := c) (PA := PA) (RA := RA) (wv := wv) (pa := pa) (pb := pb) (tw := tw) (tp := tp) (tw2 := tw2) (tp2 := tp2) (ls := ls) (ks := ks) (pl := pl) hdp hun hL hwv X T h5 hlt hsv hOr h6 hz hz0 hz1 F3 N3 hd4 t70 t77 (ap _ m2) hd2 (ap _ m3) hd3 (ap _ ms) (ap _ wp) (fun i hi => ap _ (wi i hi)) (fun i hi => ap _ (wr i hi)) hpa hpb hne low hx4 lowT ?_ ?_ ?_ ?_ ?_
      · intro q hq
        rcases List.mem_append.mp hq with h | h
        · exact (hheld q h).1
        · exact o1 q h
      · intro q hq
        rcases List.mem_append.mp hq with h | h
        · exact (hheld q h).2.1
        · exact o2' q h
      · intro q hq
        rcases List.mem_append.mp hq with h | h
        · exact (hheld q h).2.2.1
        · exact o3' q h
      · intro q hq
        rcases List.mem_append.mp hq with h | h
        · exact (hheld q h).2.2.2
        · exact off q h
      · intro i c' e' tz' ty' o70' o77' o4' m0' h' g' tk' hOr' hd4' t70' t77' hgu F4 hm0 N4
        have mup' : ∀ p ∈ held B h2 L C ++ rest, p ∈ ringL L x dx o70' o77' o4' (accObj dx (refsOf ((rot σ i).map RA)) c') (sizeD w e' (.int 0 tz')) (held B h2 L C ++ rest) := fun p hp => .tail _ (.tail _ (.tail _ (.tail _ (.tail _ hp))))
        refine ⟨6 - (t + 1), by omega, t + 1, c', rot σ i, 0, e', tz', ty', o70', o77', o4', m0', gs', rfl, by omega, by omega, hOr', fun j hj => h6 j (rot_mem hj), F4, ?_, fun p hp => N4 p ?_, hd4', t70', t77', bare_up (bare_set (bare_set hb rfl) hbz) hgu, hgu.keep _ _ ?_, rfl, rfl, ?_⟩
        · rw [hm0 "front" (by decide) (by decide) (by decide) (by decide) (by decide)]; exact hfront
        · exact mv_63b hp
        · show ((g1.setIfInBounds g .running).setIfInBounds g gs')[g]? = some gs'
          simp [hg1]
        · rw [show 7 - (t + 1) = 7 - t - 1 by omega]
          refine hnx (by omega) _ ⟨fun b o q => F4.keep b o q, fun b o q hc => ?_⟩
          show h'.get? b = some o
          have q : h2.get? b = some o := q
          by_cases hBb : B.get? b = none
          · by_cases hbL : b = L
            · exfalso
              rcases hc with h | h | h
              · exact absurd (hbL.symm.trans h) (Nat.ne_of_lt (show L < C by omega))
              · exact (N2 _ (mup _ mr)).2.1 (h.symm.trans hbL)
              · rw [hbL] at q
                obtain ⟨o', es, ep, ho, hd', _⟩ := F2.ns
                rw [ho] at q; cases q
                obtain ⟨_, vs, q⟩ := h
                rw [hd'] at q; cases q
            · rcases hc with h | h | h
              · exact (N4 _ (mup' _ (List.mem_append_left _ (held_of q hBb hbL (.inl h))))).1
              · subst h
                have h9 := (N2 _ (mup _ mr)).1
                rw [q] at h9; cases h9
                exact (N4 _ (mup' _ (List.mem_append_right _ mr))).1
              · exact (N4 _ (mup' _ (List.mem_append_left _ (held_of q hBb hbL (.inr h))))).1
          · obtain ⟨o', ho'⟩ := Option.ne_none_iff_exists'.mp hBb
            have h9 := F2.keep b o' ho'
            rw [q] at h9; cases h9
            exact F4.keep b o ho'
    · have ht : t = 5 := by omega
      subst ht
      have hlen : st.length = 5 := by rcases hend with ⟨e5, _⟩ | ⟨e4, hs⟩ <;> omega
      refine turn_break (s := ⟨h3, _, s0.drawn, _, s0.os⟩) hdp X T F3 N3 (.tail _ (.tail _ (.head _))) hd4 fun h4 k4 F4 N4 => ?_
      refine hR c σ kz e tk ty o70 o77 o4 (fun y : Str => if y = "size" then some (.int z tz) else m0 y) h4 _ k4 (fr_congr F4 fun y => ?_) hfront (fun p hp => N4 p ?_) (by rw [hlen]; exact hd4) t70 t77 (bare_set (bare_set hb rfl) hbz)
      · by_cases e : y = "ring"
        · subst e; rfl
        · simp only [e, if_false]
      · exact mv_63b hp
end
end -- A63
example : True := by w_top off; trivial
example : True ∧ True := by (w_top off; (try (walk1; fail)); exact ⟨trivial, trivial⟩)
section
local macro_rules | `(tactic| k_mem) => `(tactic| first | assumption | exact List.Mem.head _ | (refine List.Mem.tail _ ?_; k_mem))
section -- A64
theorem none_at {B h : Heap} {L a : Nat} {m : Str → Option Value} (F : Fr B L h m) (ha : h.objs.size ≤ a) : B.get? a = none ∧ a ≠ L := by
  refine ⟨?_, ?_⟩
  · cases q : B.get? a with
    | none => rfl
    | some o => exact absurd (Nat.lt_of_lt_of_le (Heap.lt_size (F.keep _ _ q)) ha) (Nat.lt_irrefl _)
  · have := F.ns.lt
    exact Nat.ne_of_gt (Nat.lt_of_lt_of_le this ha)
theorem law_ff {B h h2 : Heap} {L fa : Nat} {cd : Value} {m : Str → Option Value} (F : Fr B L h m) : h.FunFrames B [lawE L fa cd] := by
  obtain ⟨o, es', ep, ho, hd, _⟩ := F.ns
  exact ⟨(by intro q; cases q), ⟨_, o, rfl, (by
    cases q : B.get? L with
    | none => rfl
    | some o => exact absurd (Nat.lt_of_lt_of_le (Heap.lt_size q) F.above) (Nat.lt_irrefl _)), ho, fun vs q => by rw [hd] at q; cases q⟩, trivial⟩
section
variable {w : World} {s : Shared} {R : Result → Shared → Prop} {dp un : Nat} {gd : Option (List Code)} {p : Program} {loose : List Str} {mg mb : Str → Option Value} {mean : ExcName → Option Value} {B : Heap} {L fa : Nat} {cd : Value} {Q : Flow → Shared → Prop} {E : Value → Shared → Prop}
theorem law_for {x dx c lr ls ks pl lf : Nat} {items : List Int} {tks : Nat → Tok} {o2 o3 o70 o77 o4 : Obj} {RA PA : Nat → Nat} {wv : Nat → Str} {pa pb : Nat → Str} {tw tp tw2 tp2 : Nat → Tok} {st : List Int} {sv : Array Value} {kz : Int} {e tk ty : Tok} {rest : List (Addr × Obj)} {m0 : Str → Option Value}
    (hdp : dp + 20 < recursionLimit) (hun : un + 40 < cLine) (hL : 170 < L) (hwv : ∀ i, i < 6 → (wv i).length ≤ 2)
    (X : (hd.heap_1 w.params).In B) (T : Top p loose mean mg mb B) (hsv : StepsV sv st)
    (hO : ∀ t, t < st.length → t < 5 → giOut items none t = .yld (st.getD t 0) ∧ 0 ≤ st.getD t 0 ∧ st.getD t 0 ≤ 30) (hend : (st.length = 5 ∧ ∃ z, giOut items none 5 = .yld z) ∨ (st.length = 4 ∧ giOut items none 4 = .stop))
    (F : Fr B L s.heap (fun y : Str => if y = "row" then some (.ref lr) else if y = "ring" then some (.ref x) else m0 y)) (hfront : m0 "front" = some (.ref lf))
    (N : News B L s.heap (ringL L x dx o70 o77 o4 (accObj dx (refsOf ((List.range 6).map RA)) c) (sizeD w e (.int kz tk)) rest)) (hd4 : o4.data = .cell (some (.int 0 ty))) (t70 : TabO B o70 74 70) (t77 : TabO B o77 81 77)
    (mr : (lr, listOf (items.zipIdx.map fun p => Value.int p.1 (tks p.2)).toArray 0) ∈ rest)
    (m2 : (L + 2, o2) ∈ rest) (hd2 : o2.data = .cell (some (.ref ls))) (m3 : (L + 3, o3) ∈ rest) (hd3 : o3.data = .cell (some (.ref pl)))
    (ms : (ls, listOf sv ks) ∈ rest) (wp : (pl, peopleL PA) ∈ rest) (wi : ∀ i, i < 6 → (PA i, tupW wv tw tp i) ∈ rest) (wr : ∀ i, i < 6 → (RA i, tupW wv tw2 tp2 i) ∈ rest)
    (hpa : ∀ j, j < 6 → pa (RA j) = wv j) (hpb : ∀ j, j < 6 → pb (RA j) = ptN j)
    (hne : dx < x) (low : 170 < dx) (hx4 : L + 4 < dx) (lowT : ∀ j, j < 6 → x < RA j) (o1 : ∀ q ∈ rest, q.1 ≠ x) (o2' : ∀ q ∈ rest, q.1 ≠ dx) (o3' : ∀ q ∈ rest, q.1 ≠ L + 4) (off : ∀ q ∈ rest, q.1 ≠ 70 ∧ q.1 ≠ 77)
    (hnl : ∀ q ∈ rest, ¬ IsLI q.2) (hab : AllBare s.gens)
    (h : ∀ (c : Nat) (σ : List Nat) (kz : Int) (e tk ty : Tok) (o70 o77 o4 : Obj) (m0 : Str → Option Value) h' g' tk', Fr B L h' (fun y : Str => if y = "ring" then some (.ref x) else m0 y) → m0 "front" = some (.ref lf) →
      News B L h' (ringL L x dx o70 o77 o4 (accObj dx (refsOf (σ.map RA)) c) (sizeD w e (.int kz tk)) rest) → o4.data = .cell (some (.int (st.length : Int) ty)) → TabO B o70 74 70 → TabO B o77 81 77 → AllBare g' →
      wpAny (model PG w) (AA dp un gd [lawE L fa cd]) (execs (lawBody.drop 16) (lawE L fa cd)) Q E ⟨h', g', s.drawn, tk', s.os⟩) :
    wpAny (model PG w) (AA dp un gd [lawE L fa cd]) (execs (lawBody.drop 15) (lawE L fa cd)) Q E s := by
  have mup : ∀ p ∈ rest, p ∈ ringL L x dx o70 o77 o4 (accObj dx (refsOf ((List.range 6).map RA)) c) (sizeD w e (.int kz tk)) rest := fun p hp => .tail _ (.tail _ (.tail _ (.tail _ (.tail _ hp))))
  have hsz : ∀ p ∈ ringL L x dx o70 o77 o4 (accObj dx (refsOf ((List.range 6).map RA)) c) (sizeD w e (.int kz tk)) rest, p.1 < s.heap.objs.size := fun p hp => Heap.lt_size (N p hp).1
  refine step_at (k := 15) (st := ?st15) ?hk ?_
  case hk => conv => lhs; whnf
  refine wpAny_Try_except ?_
  refine wpAny_execs_cons ?_
  refine wpAny_For ?_
  iterate 7 walk1
  refine wpAny_call (gi_call (A' := (AA dp un gd [lawE L fa cd]).in1) (outer := [lawE L fa cd]) (s := ⟨s.heap, s.gens, s.drawn, _, s.os⟩) (N := 7) (h0 := B) (items := items) (tks := tks) (p := p) (loose := loose) (mean := mean) (mg := mg) (mb := mb) rfl rfl ?hout (by omega) X T F.keep ?hs (by decide) ?hl fun C a s' gs hk hgn hbr hsC hos hdr hgo hga ha1 ha2 ha3 => ?_)
  case hout =>
    intro env he L' hL'
    rw [List.mem_singleton.mp he] at hL'
    cases hL'
    exact F.ns.lt
  case hs => exact Nat.le_trans F.above (Nat.le_of_lt F.ns.lt)
  case hl => exact News.isList N (mup _ mr)
  have F' := fr_up F hk
  have N' := news_up N hk
  refine wpAny_pyIter_gen hga ?_
  obtain ⟨h1, g1, d1, k1, os1⟩ := s'
  dsimp only at hgn hos hdr ha1 ha3 F' N' hsC hga ⊢
  subst hos hdr hgn
  obtain ⟨ga, nm, qn, hga1, hga2, hga3, hga4⟩ := hga
  have hCn := none_at F hsC
  have han := none_at F ha1
  have hlt : ∀ p ∈ ringL L x dx o70 o77 o4 (accObj dx (refsOf ((List.range 6).map RA)) c) (sizeD w e (.int kz tk)) rest, p.1 ≠ a ∧ p.1 ≠ C := fun p hp => ⟨Nat.ne_of_lt (Nat.lt_of_lt_of_le (hsz p hp) ha1), Nat.ne_of_lt (Nat.lt_of_lt_of_le (hsz p hp) hsC)⟩
  have kx := hlt _ (.tail _ (.tail _ (.tail _ (.head _))))
  have kdx := hlt _ (.tail _ (.tail _ (.tail _ (.tail _ (.head _)))))
  have k4 := hlt _ (.tail _ (.tail _ (.head _)))
  have k70 := hlt _ (.head _)
  have k77 := hlt _ (.tail _ (.head _))
  show codeAny _ _ (.forLoop _ _ (turnB.drop 0) [] _) _ _
  refine law_loop (x := x) (dx := dx) (ls := ls) (ks := ks) (pl := pl) (lf := lf) (lr := lr) (a := a) (g := s.gens.size) (C := C) (ga := ga) (RA := RA) (PA := PA) (wv := wv) (pa := pa) (pb := pb) (tw := tw) (tp := tp) (tw2 := tw2) (tp2 := tp2) (st := st) (sv := sv) (O := giOut items none) (rest := (a, ga) :: rest) (n := 6) (s0 := s)
    hdp hun hL hwv X T hsv hO hend (.tail _ m2) hd2 (.tail _ m3) hd3 (.tail _ ms) (.tail _ wp) (fun i hi => .tail _ (wi i hi)) (fun i hi => .tail _ (wr i hi)) (.head _) (fun h he => ⟨ga, nm, qn, he, hga2, hga3, hga4⟩) (.tail _ mr) hpa hpb hne low hx4 lowT ?q1 ?q2 ?q3 ?q4 ?q5 ?q6 hCn.1 ?q7 ?q8
  case q1 => intro q hq; rcases List.mem_cons.mp hq with rfl | hq; exact fun e => kx.1 e.symm; exact o1 q hq
  case q2 => intro q hq; rcases List.mem_cons.mp hq with rfl | hq; exact fun e => kdx.1 e.symm; exact o2' q hq
  case q3 => intro q hq; rcases List.mem_cons.mp hq with rfl | hq; exact fun e => k4.1 e.symm; exact o3' q hq
  case q4 => intro q hq; rcases List.mem_cons.mp hq with rfl | hq; exact ⟨fun e => k70.1 e.symm, fun e => k77.1 e.symm⟩; exact off q hq
  case q5 =>
    intro q hq
    rcases List.mem_cons.mp hq with rfl | hq
    · exact ⟨not_li_cls hga2 (by intro h; simp at h), fun e => absurd e (Nat.ne_of_gt ha2)⟩
    · exact ⟨hnl q hq, (hlt q (mup q hq)).2⟩
  case q6 => exact Nat.lt_of_lt_of_le (hsz _ (.tail _ (.tail _ (.tail _ (.head _))))) hsC
  case q7 =>
    intro c σ kz e tk ty o70 o77 o4 m0 h' g' tk' F9 hf9 N9 hd9 t79 t78 hb9
    dsimp only
    refine wpAny_execs_nil ?_
    refine wpAny_execs_nil ?_
    exact h c σ kz e tk ty o70 o77 o4 m0 h' g' tk' F9 hf9 (fun p hp => N9 p (by
      exact mv_64a hp)) hd9 t79 t78 hb9
  case q8 =>
    refine ⟨0, c, List.range 6, kz, e, tk, ty, o70, o77, o4, _, gs, rfl, by decide, Nat.zero_le _, OrdAt.zero st, fun j hj => List.mem_range.mp hj, fr_congr F' (m' := fun y : Str => if y = "ring" then some (.ref x) else if y = "row" then some (.ref lr) else m0 y) fun y => ?_, hfront, ?_, hd4, t70, t77, hab.push hbr, ?_, rfl, rfl, ?_⟩
    · by_cases e : y = "ring"
      · subst e; rfl
      · simp only [e, if_false]
    · intro p hp
      have : p = (a, ga) ∨ p ∈ ringL L x dx o70 o77 o4 (accObj dx (refsOf ((List.range 6).map RA)) c) (sizeD w e (.int kz tk)) rest := by
        exact mv_64b hp
      rcases this with rfl | hp
      · exact ⟨hga1, han.2, han.1⟩
      · exact N' p hp
    · show (s.gens.push gs)[s.gens.size]? = some gs
      simp
    · exact hgo _ ⟨F'.keep, fun b o q _ => q⟩ (law_ff (h2 := h1) F')
end
end -- A64
section -- A65
theorem sub_ve_ve : isSubtype (.type "ValueError") (.type "ValueError") = pure true := by rw [isSubtype_type]; kernel_rfl
theorem sub_ve_base : isSubtype (.type "ValueError") (.type "BaseException") = pure true := by rw [isSubtype_type]; kernel_rfl
theorem sub_ve_tup : isSubtype (.type ((Manifest.find? "ValueError").elim "type" fun x => x.metatype)) (.type "tuple") = pure false := by
  rw [isSubtype_type]; kernel_rfl
section
variable {w : World} {s : Shared} {R : Result → Shared → Prop} {dp un : Nat} {gd : Option (List Code)} {p : Program} {loose : List Str} {mg mb : Str → Option Value} {mean : ExcName → Option Value} {B : Heap} {L fa : Nat} {cd : Value} {Q : Flow → Shared → Prop} {E : Value → Shared → Prop}
theorem empty_eq {prog : Program} {w : World} {A : Around} {E : Value → Shared → Prop} {s : Shared} {l b : Nat} {Q : Value → Shared → Prop} (hl : s.heap.IsList l #[]) (hb : s.heap.IsList b #[]) (hu : A.units < cLine) (h : Q (.bool true) s) : wpAny (model prog w) A (compareOp .Eq (.ref l) (.ref b)) Q E s :=
  (PySem.SeqAt.RcAt.lists (A := A) (s := s) (e := fun _ => true) hl hb rfl hu fun j h1 h2 => absurd h1 (Nat.not_lt_zero j)) prog w E Q h
theorem law_fail {x c lr lf kf : Nat} {items : List Int} {tks : Nat → Tok} {o70 o77 : Obj} {news : List (Addr × Obj)} {m0 : Str → Option Value}
    (hdp : dp + 20 < recursionLimit) (hun : un + 40 < cLine) (hL : 170 < L)
    (X : (hd.heap_1 w.params).In B) (T : Top p loose mean mg mb B) 
    (hO : giOut items none 0 = .fail)
    (F : Fr B L s.heap (fun y : Str => if y = "row" then some (.ref lr) else m0 y)) (hfront : m0 "front" = some (.ref lf))
    (N : News B L s.heap news)
    (mr : (lr, listOf (items.zipIdx.map fun p => Value.int p.1 (tks p.2)).toArray 0) ∈ news) (mf : (lf, listOf #[] kf) ∈ news) (m70 : (70, o70) ∈ news) (m77 : (77, o77) ∈ news) (c70 : o70.cls = .none) (c77 : o77.cls = .none) (hab : AllBare s.gens)
    (h : ∀ h' g' tk', (∀ b o, B.get? b = some o → h'.get? b = some o) → h'.get? 70 = some o70 → h'.get? 77 = some o77 → AllBare g' → Q (.ret (.bool true)) ⟨h', g', s.drawn, tk', s.os⟩) :
    wpAny (model PG w) (AA dp un gd [lawE L fa cd]) (execs (lawBody.drop 15) (lawE L fa cd)) Q E s := by
  have hsz : ∀ p ∈ news, p.1 < s.heap.objs.size := fun p hp => Heap.lt_size (N p hp).1
  refine step_at (k := 15) (st := ?st15) ?hk ?_
  case hk => conv => lhs; whnf
  refine wpAny_Try_except ?_
  refine wpAny_execs_cons ?_
  refine wpAny_For ?_
  iterate 7 walk1
  refine wpAny_call (gi_call (A' := (AA dp un gd [lawE L fa cd]).in1) (outer := [lawE L fa cd]) (s := ⟨s.heap, s.gens, s.drawn, _, s.os⟩) (N := 7) (h0 := B) (items := items) (tks := tks) (p := p) (loose := loose) (mean := mean) (mg := mg) (mb := mb) rfl rfl ?hout (by omega) X T F.keep ?hs (by decide) ?hl fun C a s' gs hk hgn hbr hsC hos hdr hgo hga ha1 ha2 ha3 => ?_)
  case hout =>
    intro env he L' hL'
    rw [List.mem_singleton.mp he] at hL'
    cases hL'
    exact F.ns.lt
  case hs => exact Nat.le_trans F.above (Nat.le_of_lt F.ns.lt)
  case hl => exact News.isList N mr
  have F' := fr_up F hk
  have N' := news_up N hk
  refine wpAny_pyIter_gen hga ?_
  obtain ⟨h1, g1, d1, k1, os1⟩ := s'
  dsimp only at hgn hos hdr ha1 ha3 F' N' hsC hga ⊢
  subst hos hdr hgn
  have hCn := none_at F hsC
  have han := none_at F ha1
  show codeAny _ _ (.forLoop _ _ (turnB.drop 0) [] _) _ _
  refine forAgain (fun n s2 => s2 = ⟨h1, s.gens.push gs, s.drawn, k1, s.os⟩) (fun n s2 hs2 => ?_) 0 rfl
  subst hs2
  refine gi_next (n := 7) (k := 0) (N := 7) (C := C) (l := lr) (h0 := B) (O := giOut items none) (outer := [lawE L fa cd]) rfl ?room (T.nolimit.keeps F'.keep) hga (gs := gs) ?hgs (Nat.ne_of_gt ha2) ?af (by decide) (by decide) (hgo _ ⟨F'.keep, fun b o q _ => q⟩ (law_ff (h2 := h1) F')) (fun z tz s₂ gs' hOz hbz hsi hnx => ?hY) (fun hOs s₂ h' hsi hk => ?hS) (fun hOf e s₂ hx => ?hE)
  case room => show dp < _; omega
  case hgs => show (s.gens.push gs)[s.gens.size]? = some gs; simp
  case af => intro hm; exact han.2 (List.mem_singleton.mp hm)
  case hY => rw [hO] at hOz; cases hOz
  case hS => rw [hO] at hOs; cases hOs
  case hE =>
    refine PassesOwn.looking _ _ ?_
    obtain ⟨e, t, vs, B', rfl, hB, hfl, htu, htn, ⟨h2, k2, rfl⟩, hk1, hk2⟩ := hx
    refine wpAny_looks_onW (outer := []) (L := L) (base := B') rfl rfl hfl fun h₄ hheld₄ hsm₄ => ?_
    refine wpAny_landsW hheld₄ fun h₅ hheld hsm₅ => ?_
    have hFr : Fr B L h₅ (fun y : Str => if y = "row" then some (.ref lr) else m0 y) := by
      refine ⟨(hsm₄.trans hsm₅).ns ?_, fun b o q => hheld.1 b o (hB b o q), F.above⟩
      obtain ⟨o, es', ep, ho, hd, hr⟩ := F'.ns
      obtain ⟨sl, hsl⟩ := hk2 L o (Nat.ne_of_lt (Nat.lt_of_lt_of_le F.ns.lt hsC)) (fun ⟨_, vs, q⟩ => by rw [hd] at q; cases q) (fun vs q => by rw [hd] at q; cases q) ho
      exact ⟨_, es', ep, hsl, hd, hr⟩
    have inB : ∀ b o, (b, o) ∈ news → ¬ IsLI o → B'.get? b = some o := fun b o hm hl => hk1 b o (Nat.ne_of_lt (Nat.lt_of_lt_of_le (hsz _ hm) hsC)) (by
      intro q
      exact (N _ hm).2.1 (List.mem_singleton.mp q)) hl (N' _ hm).1
    have bf := inB _ _ mf (not_li_cls (v := .type "list") rfl (by intro h; simp at h))
    have b70 := inB _ _ m70 (not_li_cls c70 (by intro h; cases h))
    have b77 := inB _ _ m77 (not_li_cls c77 (by intro h; cases h))
    have nf := (N _ mf).2
    have n70 := (N _ m70).2
    have n77 := (N _ m77).2
    have hbb : AllBare (((s.gens.push gs).setIfInBounds s.gens.size .running).setIfInBounds s.gens.size .finished) := bare_set (bare_set (hab.push hbr) rfl) rfl
    show wpAny _ _ _ _ _ (⟨h₅, ((s.gens.push gs).setIfInBounds s.gens.size .running).setIfInBounds s.gens.size .finished, s.drawn, k2, s.os⟩ : Shared)
    generalize ((s.gens.push gs).setIfInBounds s.gens.size .running).setIfInBounds s.gens.size .finished = gg at hbb ⊢
    have N5 : News B L h₅ [] := fun q hq => by cases hq
    clear F N F' N' hk hgo hfl hk1 hk2 hheld₄ hsm₄ hsm₅ inB
    refine wpAny_handleBy_builtin (X := "ValueError") (T := "ValueError") (b := true) sub_ve_base sub_ve_tup sub_ve_ve ?_
    walk1
    obtain ⟨ob, hob, hobc⟩ := hheld.there
    refine ⟨rfl, ⟨ob, hob, hobc⟩, ?_⟩
    rw [if_pos rfl]
    refine lands_againW hheld fun h₆ hfl₆ hsm₆ => ?_
    have F6 : Fr B L h₆ (fun y : Str => if y = "front" then some (.ref lf) else if y = "row" then some (.ref lr) else m0 y) := fr_congr (Fr.of_stays hFr (fun b o q => hfl₆.1 b o (hB b o q)) hsm₆) fun y => by
      by_cases e : y = "front"
      · subst e; exact hfront
      · simp only [e, if_false]
    have N6 : News B L h₆ [(lf, listOf #[] kf), (70, o70), (77, o77)] := fun q hq => by
      rcases List.mem_cons.mp hq with rfl | hq
      · exact ⟨hfl₆.1 _ _ bf, nf⟩
      · rcases List.mem_cons.mp hq with rfl | hq
        · exact ⟨hfl₆.1 _ _ b70, n70⟩
        · rw [List.mem_singleton.mp hq]
          exact ⟨hfl₆.1 _ _ b77, n77⟩
    clear hFr N5 hheld hfl₆ hsm₆ hob hobc bf b70 b77
    iterate 7 walk1
    rename Fr _ _ _ _ => F7
    rename News _ _ _ _ => N7
    refine empty_eq (News.isList N7 (.tail _ (.head _))) (News.isList N7 (.head _)) (by show un < _; omega) ?_
    exact h _ _ _ F7.keep (N7 (70, o70) (.tail _ (.tail _ (.head _)))).1 (N7 (77, o77) (.tail _ (.tail _ (.tail _ (.head _))))).1 hbb
end
end -- A65
end
example : True ∧ True := by (w_top off; (try (walk1; fail)); exact ⟨trivial, trivial⟩)
section -- A68
open PyProof.Rows.LCg
/-- the objects that are no table, no ring, no frame -/
noncomputable def Plain (L : Nat) (q : Addr × Obj) : Prop := (∃ xs n, q.2.data = .seq xs n ∧ (q.2.cls = .type "list" ∨ q.2.cls = .type "tuple")) ∨ ((∃ v, q.2.data = .cell v) ∧ (q.1 = L + 1 ∨ q.1 = L + 2 ∨ q.1 = L + 3))
theorem Plain.list {L a k : Nat} {xs : Array Value} : Plain L (a, listOf xs k) := .inl ⟨xs, k, rfl, .inl rfl⟩
theorem Plain.tup {L a : Nat} {x y : Value} : Plain L (a, tup2 x y) := .inl ⟨_, _, rfl, .inr rfl⟩
section
variable {w : World} {B h : Heap} {L x dx c : Nat} {o70 o77 o4 : Obj} {xs : Array Value} {e : Tok} {kv : Value} {v : Option Value} {news : List (Addr × Obj)} {q : Addr × Obj}
theorem Plain.not_x (P : Plain L q) (N : News B L h news) (hq : q ∈ news) (hx : (x, accObj dx xs c) ∈ news) : q.1 ≠ x := news_ne N hq hx (by
  intro e
  rcases P with ⟨_, _, _, h | h⟩ | ⟨⟨_, h⟩, _⟩ <;> rw [e] at h
  · cases h
  · cases h
  · cases h)
theorem Plain.not_dx (P : Plain L q) (N : News B L h news) (hq : q ∈ news) (hx : (dx, sizeD w e kv) ∈ news) : q.1 ≠ dx := news_ne N hq hx (by
  intro e
  rcases P with ⟨_, _, h, _⟩ | ⟨⟨_, h⟩, _⟩ <;> rw [e] at h <;> cases h)
theorem Plain.not_4 (P : Plain L q) (N : News B L h news) (hq : q ∈ news) (hx : (L + 4, o4) ∈ news) (hd4 : o4.data = .cell v) : q.1 ≠ L + 4 := by
  rcases P with ⟨_, _, h, _⟩ | ⟨_, h⟩
  · exact news_ne N hq hx (by intro e; rw [e, hd4] at h; cases h)
  · intro e
    rw [e] at h
    have h : L + 4 = L + 1 ∨ L + 4 = L + 2 ∨ L + 4 = L + 3 := h
    omega
theorem Plain.not_tab (P : Plain L q) (N : News B L h news) (hq : q ∈ news) {P' : Nat} {oP : Obj} (hx : (P', oP) ∈ news) (hd : ∃ ps, oP.data = .fields ps) : q.1 ≠ P' := news_ne N hq hx (by
  obtain ⟨ps, hd⟩ := hd
  intro e
  rcases P with ⟨_, _, h, _⟩ | ⟨⟨_, h⟩, _⟩ <;> rw [e, hd] at h <;> cases h)
theorem Plain.not_li (P : Plain L q) : ¬ IsLI q.2 := fun ⟨_, vs, e⟩ => by
  rcases P with ⟨_, _, h, _⟩ | ⟨⟨_, h⟩, _⟩ <;> rw [e] at h <;> cases h
end
theorem TabO.data {B : Heap} {oP : Obj} {c P : Nat} (t : TabO B oP c P) : ∃ ps, oP.data = .fields ps := by
  obtain ⟨H0, t, e, _⟩ := t
  obtain ⟨ps, ho⟩ := t.obj
  rw [ho] at e; cases e; exact ⟨_, rfl⟩
noncomputable def coreM (L lf ls pl : Nat) (fr sv : Array Value) (kf ks : Nat) (o1 o2 o3 : Obj) (PA : Nat → Nat) (wv : Nat → Str) (tw tp : Nat → Tok) : List (Addr × Obj) :=
  [(pl, peopleL PA), (PA 5, tupW wv tw tp 5), (PA 4, tupW wv tw tp 4), (PA 3, tupW wv tw tp 3), (PA 2, tupW wv tw tp 2), (PA 1, tupW wv tw tp 1), (PA 0, tupW wv tw tp 0),
        (lf, listOf fr kf), (ls, listOf sv ks), (L + 3, o3), (L + 2, o2), (L + 1, o1)]
section
variable {L lf ls pl : Nat} {fr sv : Array Value} {kf ks : Nat} {o1 o2 o3 : Obj} {PA RA : Nat → Nat} {wv : Nat → Str} {tw tp : Nat → Tok}
theorem coreM_p : (pl, peopleL PA) ∈ coreM L lf ls pl fr sv kf ks o1 o2 o3 PA wv tw tp := .head _
theorem coreM_f : (lf, listOf fr kf) ∈ coreM L lf ls pl fr sv kf ks o1 o2 o3 PA wv tw tp := .tail _ (.tail _ (.tail _ (.tail _ (.tail _ (.tail _ (.tail _ (.head _)))))))
theorem coreM_s : (ls, listOf sv ks) ∈ coreM L lf ls pl fr sv kf ks o1 o2 o3 PA wv tw tp := .tail _ (.tail _ (.tail _ (.tail _ (.tail _ (.tail _ (.tail _ (.tail _ (.head _))))))))
theorem coreM_3 : (L + 3, o3) ∈ coreM L lf ls pl fr sv kf ks o1 o2 o3 PA wv tw tp := .tail _ (.tail _ (.tail _ (.tail _ (.tail _ (.tail _ (.tail _ (.tail _ (.tail _ (.head _)))))))))
theorem coreM_2 : (L + 2, o2) ∈ coreM L lf ls pl fr sv kf ks o1 o2 o3 PA wv tw tp := .tail _ (.tail _ (.tail _ (.tail _ (.tail _ (.tail _ (.tail _ (.tail _ (.tail _ (.tail _ (.head _))))))))))
theorem coreM_1 : (L + 1, o1) ∈ coreM L lf ls pl fr sv kf ks o1 o2 o3 PA wv tw tp := .tail _ (.tail _ (.tail _ (.tail _ (.tail _ (.tail _ (.tail _ (.tail _ (.tail _ (.tail _ (.tail _ (.head _)))))))))))
theorem coreM_i : ∀ i, i < 6 → (PA i, tupW wv tw tp i) ∈ coreM L lf ls pl fr sv kf ks o1 o2 o3 PA wv tw tp
  | 0, _ => .tail _ (.tail _ (.tail _ (.tail _ (.tail _ (.tail _ (.head _))))))
  | 1, _ => .tail _ (.tail _ (.tail _ (.tail _ (.tail _ (.head _)))))
  | 2, _ => .tail _ (.tail _ (.tail _ (.tail _ (.head _))))
  | 3, _ => .tail _ (.tail _ (.tail _ (.head _)))
  | 4, _ => .tail _ (.tail _ (.head _))
  | 5, _ => .tail _ (.head _)
  | n + 6, h => by omega
theorem coreM_plain {tot : Int} {tt : Tok} (hd1 : o1.data = .cell (some (.int tot tt))) (hd2 : o2.data = .cell (some (.ref ls))) (hd3 : o3.data = .cell (some (.ref pl))) :
    ∀ q ∈ ringN wv tw tp RA 6 ++ coreM L lf ls pl fr sv kf ks o1 o2 o3 PA wv tw tp, Plain L q := fun q hq => by
    rcases List.mem_append.mp hq with h | h
    · obtain ⟨j, _, rfl⟩ := ringN_mem h
      exact .tup
    · simp only [coreM, List.mem_cons, List.not_mem_nil, or_false] at h
      rcases h with rfl | rfl | rfl | rfl | rfl | rfl | rfl | rfl | rfl | rfl | rfl | rfl
      · exact .list
      · exact .tup
      · exact .tup
      · exact .tup
      · exact .tup
      · exact .tup
      · exact .tup
      · exact .list
      · exact .list
      · exact .inr ⟨⟨_, hd3⟩, .inr (.inr rfl)⟩
      · exact .inr ⟨⟨_, hd2⟩, .inr (.inl rfl)⟩
      · exact .inr ⟨⟨_, hd1⟩, .inl rfl⟩
end
section
variable {w : World} {s : Shared} {R : Result → Shared → Prop} {dp un : Nat} {gd : Option (List Code)} {p : Program} {loose : List Str} {mg mb : Str → Option Value} {mean : ExcName → Option Value} {B : Heap} {L fa : Nat} {cd : Value} {Q : Flow → Shared → Prop}
/-- from the ring on: the base holds no table -/
theorem law_ring {lf ls l pl kf ks k x dx c : Nat} {fr sv : Array Value} {RA PA : Nat → Nat} {wv : Nat → Str} {tw tp : Nat → Tok} {n0 n1 n2 n3 tot : Int} {u0 u1 u2 u3 tt : Tok} {o1 o2 o3 o4 o70 o77 : Obj} {e tz tx : Tok} {m1 : Str → Option Value}
    (hdp : dp + 20 < recursionLimit) (hun : un + 40 < cLine) (hL : 170 < L) (hwv : ∀ i, i < 6 → (wv i).length ≤ 2)
    (b0 : 0 ≤ n0 ∧ n0 ≤ 30) (b1 : 0 ≤ n1 ∧ n1 ≤ 30) (b2 : 0 ≤ n2 ∧ n2 ≤ 30) (b3 : 0 ≤ n3 ∧ n3 ≤ 30) (ht0 : 0 ≤ tot) (ht1 : tot < 4000000) (hsh : Shape n0 n1 n2 n3 tot fr sv)
    (X : (hd.heap_1 w.params).In B) (T : Top p loose mean mg mb B) (hl : L + 4 < l)
    (F : Fr B L s.heap (fun y : Str => if y = "text" then some (.str (Txt.join "" ((List.range 6).map fun i => wv i ++ ptN i)) tx) else if y = "ring" then some (.ref x) else if y = "front" then some (.ref lf) else if y = "row" then some (.ref l) else m1 y))
    (N : News B L s.heap ((70, o70) :: (77, o77) :: (L + 4, o4) :: (l, listOf #[.int n0 u0, .int n1 u1, .int n2 u2, .int n3 u3] k) :: (x, accObj dx (refsOf ((List.range 6).map RA)) c) :: (dx, sizeD w e (.int (tot.fmod 4) tz)) :: (ringN wv tw tp RA 6 ++ coreM L lf ls pl fr sv kf ks o1 o2 o3 PA wv tw tp)))
    (t70 : TabO B o70 74 70) (t77 : TabO B o77 81 77)
    (hd1 : o1.data = .cell (some (.int tot tt))) (hd2 : o2.data = .cell (some (.ref ls))) (hd3 : o3.data = .cell (some (.ref pl))) (hd4 : o4.data = .cell none)
    (hne : dx < x) (hx4 : L + 4 < dx) (lowT : ∀ j, j < 6 → x < RA j) (hab : AllBare s.gens)
    (hQ : ∀ h' g' tk' o70' o77', (∀ b o, B.get? b = some o → h'.get? b = some o) → h'.get? 70 = some o70' → h'.get? 77 = some o77' → TabO B o70' 74 70 → TabO B o77' 81 77 → AllBare g' → Q (.ret (.bool true)) ⟨h', g', s.drawn, tk', s.os⟩) :
    wpAny (model PG w) (AA dp un gd [lawE L fa cd]) (execs (lawBody.drop 12) (lawE L fa cd)) Q (lawEE w (AA dp un gd [lawE L fa cd]) (lawE L fa cd) R) s := by
  have hP : ∀ q ∈ ringN wv tw tp RA 6 ++ coreM L lf ls pl fr sv kf ks o1 o2 o3 PA wv tw tp, Plain L q := coreM_plain hd1 hd2 hd3
  have w1 : (L + 1, o1) ∈ ringN wv tw tp RA 6 ++ coreM L lf ls pl fr sv kf ks o1 o2 o3 PA wv tw tp := List.mem_append_right _ coreM_1
  have w2 : (L + 2, o2) ∈ ringN wv tw tp RA 6 ++ coreM L lf ls pl fr sv kf ks o1 o2 o3 PA wv tw tp := List.mem_append_right _ coreM_2
  have w3 : (L + 3, o3) ∈ ringN wv tw tp RA 6 ++ coreM L lf ls pl fr sv kf ks o1 o2 o3 PA wv tw tp := List.mem_append_right _ coreM_3
  have wf : (lf, listOf fr kf) ∈ ringN wv tw tp RA 6 ++ coreM L lf ls pl fr sv kf ks o1 o2 o3 PA wv tw tp := List.mem_append_right _ coreM_f
  have ws : (ls, listOf sv ks) ∈ ringN wv tw tp RA 6 ++ coreM L lf ls pl fr sv kf ks o1 o2 o3 PA wv tw tp := List.mem_append_right _ coreM_s
  have wp : (pl, peopleL PA) ∈ ringN wv tw tp RA 6 ++ coreM L lf ls pl fr sv kf ks o1 o2 o3 PA wv tw tp := List.mem_append_right _ coreM_p
  have wi : ∀ i, i < 6 → (PA i, tupW wv tw tp i) ∈ ringN wv tw tp RA 6 ++ coreM L lf ls pl fr sv kf ks o1 o2 o3 PA wv tw tp := fun i hi => List.mem_append_right _ (coreM_i i hi)
  have wr : ∀ i, i < 6 → (RA i, tupW wv tw tp i) ∈ ringN wv tw tp RA 6 ++ coreM L lf ls pl fr sv kf ks o1 o2 o3 PA wv tw tp := fun i hi => List.mem_append_left _ (ringN_i hi)
  generalize hcore : ringN wv tw tp RA 6 ++ coreM L lf ls pl fr sv kf ks o1 o2 o3 PA wv tw tp = core at *
  have up : ∀ {a b c d e f : Addr × Obj}, ∀ p ∈ core, p ∈ a :: b :: c :: d :: e :: f :: core := fun p hp => .tail _ (.tail _ (.tail _ (.tail _ (.tail _ (.tail _ hp)))))
  have htx : ∀ j, j < 6 → txtAt s.heap 0 (RA j) = wv j ∧ txtAt s.heap 1 (RA j) = ptN j := fun j hj => txtAt_of (N _ (up _ (wr j hj))).1
  have hpa : ∀ j, j < 6 → txtAt s.heap 0 (RA j) = wv j := fun j hj => (htx j hj).1
  have hpb : ∀ j, j < 6 → txtAt s.heap 1 (RA j) = ptN j := fun j hj => (htx j hj).2
  have d70 := t70.data
  have d77 := t77.data
  have mx : (x, accObj dx (refsOf ((List.range 6).map RA)) c) ∈ (70, o70) :: (77, o77) :: (L + 4, o4) :: (l, listOf #[.int n0 u0, .int n1 u1, .int n2 u2, .int n3 u3] k) :: (x, accObj dx (refsOf ((List.range 6).map RA)) c) :: (dx, sizeD w e (.int (tot.fmod 4) tz)) :: core := .tail _ (.tail _ (.tail _ (.tail _ (.head _))))
  have off : ∀ q ∈ (L + 4, o4) :: (l, listOf #[.int n0 u0, .int n1 u1, .int n2 u2, .int n3 u3] k) :: (x, accObj dx (refsOf ((List.range 6).map RA)) c) :: (dx, sizeD w e (.int (tot.fmod 4) tz)) :: core, q.1 ≠ 70 ∧ q.1 ≠ 77 := fun q hq => by
    rcases List.mem_cons.mp hq with rfl | h
    · exact ⟨Nat.ne_of_gt (show 70 < L + 4 by omega), Nat.ne_of_gt (show 77 < L + 4 by omega)⟩
    · rcases List.mem_cons.mp h with rfl | h
      · exact ⟨Nat.ne_of_gt (show 70 < l by omega), Nat.ne_of_gt (show 77 < l by omega)⟩
      · rcases List.mem_cons.mp h with rfl | h
        · exact ⟨Nat.ne_of_gt (show 70 < x by omega), Nat.ne_of_gt (show 77 < x by omega)⟩
        · rcases List.mem_cons.mp h with rfl | h
          · exact ⟨Nat.ne_of_gt (show 70 < dx by omega), Nat.ne_of_gt (show 77 < dx by omega)⟩
          · exact ⟨(hP q h).not_tab N (up _ h) (.head _) d70, (hP q h).not_tab N (up _ h) (.tail _ (.head _)) d77⟩
  have up4 : ∀ {a b c d : Addr × Obj}, ∀ p ∈ core, p ∈ a :: b :: c :: d :: core := fun p hp => .tail _ (.tail _ (.tail _ (.tail _ hp)))
  refine lawP4d (RA := RA) (wv := wv) (tw := tw) (tp := tp) (pa := txtAt s.heap 0) (pb := txtAt s.heap 1) (c := c) (x := x) (dx := dx) (tot := tot) (kz := 0) hdp hun hwv X T F N t70 t77 (.tail _ (.tail _ (.head _))) (.tail _ (.tail _ (.tail _ (.head _)))) (fun j hj => up4 _ (wr j hj)) hpa hpb hne (by omega) lowT off (up4 _ w1) hd1 ht0 ht1 fun o70a o77a h1 g1 k1 hg1 t70a t77a F1 N1 => ?_
  have off4 : ∀ q ∈ (x, accObj dx (refsOf ((List.range 6).map RA)) c) :: (dx, sizeD w e (.int (tot.fmod 4) tz)) :: core, q.1 ≠ L + 4 := fun q hq => by
    rcases List.mem_cons.mp hq with rfl | h
    · exact Nat.ne_of_gt (show L + 4 < x by omega)
    · rcases List.mem_cons.mp h with rfl | h
      · exact Nat.ne_of_gt (show L + 4 < dx by omega)
      · exact (hP q h).not_4 N (up _ h) (.tail _ (.tail _ (.head _))) hd4
  refine lawP4e (s := ⟨h1, g1, s.drawn, k1, s.os⟩) (tx := .str (Txt.join "" ((List.range 6).map fun i => wv i ++ ptN i)) tx) (rx := .ref x) (tot := tot) (m0 := fun y : Str => if y = "front" then some (.ref lf) else m1 y) hL X T (fr_congr F1 fun y => ?fr) N1 off4 hl (.tail _ (.tail _ w1)) hd1 hd4 ht0 ht1 fun lr tks o4b tz2 h2 k2 hlr hd4b F2 N2 => ?_
  case fr =>
    by_cases e1 : y = "row"
    · subst e1; rfl
    · simp only [e1, if_false]
  have bb := bare_up hab hg1
  clear F N F1 off4 hg1
  have N3 : News B L h2 (ringL L x dx o70a o77a o4b (accObj dx (refsOf ((List.range 6).map RA)) c) (sizeD w e (.int (tot.fmod 4) tz)) ((lr, listOf ((([n0, n1, n2, n3] ++ extOf tot).zipIdx.map fun p => Value.int p.1 (tks p.2)).toArray) 0) :: (l, listOf #[.int n0 u0, .int n1 u1, .int n2 u2, .int n3 u3] k) :: core)) := fun q hq => N2 q (by
    exact mv_68 hq)
  have hP3 : ∀ q ∈ (lr, listOf ((([n0, n1, n2, n3] ++ extOf tot).zipIdx.map fun p => Value.int p.1 (tks p.2)).toArray) 0) :: (l, listOf #[.int n0 u0, .int n1 u1, .int n2 u2, .int n3 u3] k) :: core, Plain L q := fun q hq => by
    rcases List.mem_cons.mp hq with rfl | h
    · exact .list
    · rcases List.mem_cons.mp h with rfl | h
      · exact .list
      · exact hP q h
  have u3 : ∀ q ∈ (lr, listOf ((([n0, n1, n2, n3] ++ extOf tot).zipIdx.map fun p => Value.int p.1 (tks p.2)).toArray) 0) :: (l, listOf #[.int n0 u0, .int n1 u1, .int n2 u2, .int n3 u3] k) :: core, q ∈ ringL L x dx o70a o77a o4b (accObj dx (refsOf ((List.range 6).map RA)) c) (sizeD w e (.int (tot.fmod 4) tz)) ((lr, listOf ((([n0, n1, n2, n3] ++ extOf tot).zipIdx.map fun p => Value.int p.1 (tks p.2)).toArray) 0) :: (l, listOf #[.int n0 u0, .int n1 u1, .int n2 u2, .int n3 u3] k) :: core) := fun q hq => .tail _ (.tail _ (.tail _ (.tail _ (.tail _ hq))))
  have uc : ∀ {a b : Addr × Obj}, ∀ p ∈ core, p ∈ a :: b :: core := fun p hp => .tail _ (.tail _ hp)
  rcases sizes_of b0 b1 b2 b3 hsh with ⟨hfail, rfl⟩ | ⟨st, hsv, hO, hend, hfr0, hsz⟩
  · refine law_fail (s := ⟨h2, g1, s.drawn, k2, s.os⟩) (x := x) (c := c) (lf := lf) (items := [n0, n1, n2, n3] ++ extOf tot) (tks := tks) (m0 := fun y : Str => if y = "text" then some (.str (Txt.join "" ((List.range 6).map fun i => wv i ++ ptN i)) tx) else if y = "ring" then some (.ref x) else if y = "front" then some (.ref lf) else m1 y) hdp hun hL X T hfail F2 rfl N3 (u3 _ (.head _)) (u3 _ (uc _ wf)) (.head _) (.tail _ (.head _)) t70a.cls t77a.cls bb fun h' g' tk' hk e70 e77 hb => ?_
    exact hQ h' g' tk' o70a o77a hk e70 e77 t70a t77a hb
  · refine law_for (s := ⟨h2, g1, s.drawn, k2, s.os⟩) (x := x) (dx := dx) (lf := lf) (items := [n0, n1, n2, n3] ++ extOf tot) (tks := tks) (RA := RA) (PA := PA) (wv := wv) (tw := tw) (tp := tp) (tw2 := tw) (tp2 := tp) (pa := txtAt s.heap 0) (pb := txtAt s.heap 1) (st := st) (sv := sv)
      (m0 := fun y : Str => if y = "text" then some (.str (Txt.join "" ((List.range 6).map fun i => wv i ++ ptN i)) tx) else if y = "front" then some (.ref lf) else m1 y) hdp hun hL hwv X T hsv hO hend (fr_congr F2 fun y => ?fr) rfl N3 hd4b t70a t77a (.head _) (uc _ w2) hd2 (uc _ w3) hd3 (uc _ ws) (uc _ wp) (fun i hi => uc _ (wi i hi)) (fun i hi => uc _ (wr i hi)) hpa hpb hne (by omega) hx4 lowT
      (fun q hq => (hP3 q hq).not_x N3 (u3 q hq) (.tail _ (.tail _ (.tail _ (.head _))))) (fun q hq => (hP3 q hq).not_dx N3 (u3 q hq) (.tail _ (.tail _ (.tail _ (.tail _ (.head _)))))) (fun q hq => (hP3 q hq).not_4 N3 (u3 q hq) (.tail _ (.tail _ (.head _))) hd4b)
      (fun q hq => ⟨(hP3 q hq).not_tab N3 (u3 q hq) (.head _) t70a.data, (hP3 q hq).not_tab N3 (u3 q hq) (.tail _ (.head _)) t77a.data⟩) (fun q hq => (hP3 q hq).not_li) bb fun c9 σ kz e9 tk9 ty9 o709 o779 o49 m9 h9 g9 k9 F9 hf9 N9 hd49 t709 t779 hb9 => ?_
    case fr =>
      by_cases e1 : y = "ring"
      · subst e1; rfl
      · simp only [e1, if_false]
    refine law_ret (s := ⟨h9, g9, s.drawn, k9, s.os⟩) (lf := lf) (fr := fr) (sv := sv) (t := st.length) (m0 := fun y : Str => if y = "ring" then some (.ref x) else m9 y) hdp hun hL X T (fr_congr F9 fun y => ?fr) N9 (.tail _ (.tail _ (.tail _ (.tail _ (.tail _ (uc _ wf)))))) hfr0 (.tail _ (.tail _ (.tail _ (.tail _ (.tail _ (uc _ w2)))))) hd2 (.tail _ (.tail _ (.head _))) hd49 (.tail _ (.tail _ (.tail _ (.tail _ (.tail _ (uc _ ws)))))) hsz (by rcases hend with ⟨h, _⟩ | ⟨h, _⟩ <;> omega) fun h' tk' F10 N10 => ?_
    case fr =>
      by_cases e1 : y = "front"
      · subst e1; exact hf9
      · simp only [e1, if_false]
    exact hQ h' g9 tk' o709 o779 F10.keep (N10 _ (.head _)).1 (N10 _ (.tail _ (.head _))).1 t709 t779 hb9
end
end -- A68
example : True := by w_top off; trivial
section -- A69
theorem core_ring {L lf ls l pl : Nat} {fr sv rv : Array Value} {kf ks k : Nat} {o1 o2 o3 o4 : Obj} {PA : Nat → Nat} {wv : Nat → Str} {tw tp : Nat → Tok} {RA : Nat → Nat} {xo dobj : Addr × Obj} {p : Addr × Obj}
    (h : p ∈ (L + 4, o4) :: (l, listOf rv k) :: xo :: dobj :: (ringN wv tw tp RA 6 ++ coreM L lf ls pl fr sv kf ks o1 o2 o3 PA wv tw tp)) : p ∈ ringN wv tw tp RA 6 ++ xo :: dobj :: coreN L lf ls l pl fr sv rv kf ks k o1 o2 o3 o4 PA wv tw tp := mv_core (M := [(pl, peopleL PA), (PA 5, tupW wv tw tp 5), (PA 4, tupW wv tw tp 4), (PA 3, tupW wv tw tp 3), (PA 2, tupW wv tw tp 2), (PA 1, tupW wv tw tp 1), (PA 0, tupW wv tw tp 0), (lf, listOf fr kf), (ls, listOf sv ks)]) (T := [(L + 3, o3), (L + 2, o2), (L + 1, o1)]) h
section
variable {w : World} {s : Shared} {R : Result → Shared → Prop} {dp un : Nat} {gd : Option (List Code)} {p : Program} {loose : List Str} {mg mb : Str → Option Value} {mean : ExcName → Option Value} {B : Heap} {L fa : Nat} {cd : Value} {Q : Flow → Shared → Prop}
theorem law_all {ns : List Int} {vs : List Value} {l0 : Nat} {o1 o2 o3 o4 o70 o77 : Obj} (hl0 : B.IsList l0 vs.toArray) (hI : IntsAre vs ns) (hn : ns.length ≤ 63)
    (hdp : dp + 20 < recursionLimit) (hun : un + 40 < cLine) (hL : 170 < L)
    (X : (hd.heap_1 w.params).In B) (T : Top p loose mean mg mb B) (t70 : Tab B 74 70) (t77 : Tab B 81 77) (h70 : B.get? 70 = some o70) (h77 : B.get? 77 = some o77)
    (F : Fr B L s.heap (fun y => List.lookup y [("script", .ref l0)])) (N : News B L s.heap [(L + 4, o4), (L + 3, o3), (L + 2, o2), (L + 1, o1)])
    (hd1 : o1.data = .cell none) (hd2 : o2.data = .cell none) (hd3 : o3.data = .cell none) (hd4 : o4.data = .cell none) (hab : AllBare s.gens)
    (hQ : ∀ h' g' tk' o70' o77', (∀ b o, (hideAll B tabs).get? b = some o → h'.get? b = some o) → h'.get? 70 = some o70' → h'.get? 77 = some o77' → TabO (hideAll B tabs) o70' 74 70 → TabO (hideAll B tabs) o77' 81 77 → AllBare g' → Q (.ret (.bool true)) ⟨h', g', s.drawn, tk', s.os⟩) :
    wpAny (model PG w) (AA dp un gd [lawE L fa cd]) (execs (lawBody.drop 0) (lawE L fa cd)) Q (lawEE w (AA dp un gd [lawE L fa cd]) (lawE L fa cd) R) s := by
  refine lawP1 hl0 hI hn X T F N fun c0 c1 c2 c3 t0 t1 t2 t3 n D h1 k1 b0 b1 b2 b3 hD F1 N1 => ?_
  refine lawP2 (s := ⟨h1, s.gens, s.drawn, k1, s.os⟩) (m0 := fun y => List.lookup y [("script", .ref l0)]) hdp b0 b1 b2 b3 X T hD (fr_congr F1 fun y => ?fr) N1 hd1 hd2 hd3 hd4 fun n0 n1 n2 n3 u0 u1 u2 u3 tt k l o1' m1 h2 k2 a0 a1 a2 a3 hl F2 N2 hd1' => ?_
  case fr =>
    by_cases e : y = "cells"
    · subst e; rfl
    · have e9 : (y == ("cells" : Str)) = false := by simpa using e
      simp only [List.lookup, e9, e, if_false]
  have ht0 : 0 ≤ c0 + (c1 + (c2 + (c3 + 0))) := by omega
  have ht1 : c0 + (c1 + (c2 + (c3 + 0))) < 4000000 := by omega
  generalize c0 + (c1 + (c2 + (c3 + 0))) = tot at hd1' ht0 ht1
  clear F N F1 N1
  refine lawP3 (s := ⟨h2, s.gens, s.drawn, k2, s.os⟩) hdp a0 a1 a2 a3 X T hl F2 N2 hd1' hd2 hd3 hd4 fun fr sv lf ls kf ks o2' m2 h3 k3 hsh hlf hls F3 N3 hd2' => ?_
  clear F2 N2
  refine lawP4a (s := ⟨h3, s.gens, s.drawn, k3, s.os⟩) hdp ht0 ht1 X T hl hlf hls F3 N3 hd1' hd3 hd4 fun PA wv tw tp pl o3' h4 k4 hwv hord hpl F4 N4 hd3' => ?_
  clear F3 N3
  refine lawP4b (s := ⟨h4, s.gens, s.drawn, k4, s.os⟩) hdp hun ht0 ht1 X T hl hlf hls hwv hord hpl F4 N4 hd1' hd3' hd4 fun x dx RA c e tz m5 h5 k5 hne hcl lowT hLdx F5 N5 => ?_
  clear F4 N4
  have wp : (pl, peopleL PA) ∈ ringN wv tw tp RA 6 ++ (x, accObj dx ((refsN RA 6).map Value.ref).toArray c) :: (dx, sizeD w e (.int (tot.fmod 4) tz)) :: coreN L lf ls l pl fr sv #[.int n0 u0, .int n1 u1, .int n2 u2, .int n3 u3] kf ks k o1' o2' o3' o4 PA wv tw tp := List.mem_append_right _ (List.mem_cons_of_mem _ (List.mem_cons_of_mem _ coreN_p))
  have w3 : (L + 3, o3') ∈ ringN wv tw tp RA 6 ++ (x, accObj dx ((refsN RA 6).map Value.ref).toArray c) :: (dx, sizeD w e (.int (tot.fmod 4) tz)) :: coreN L lf ls l pl fr sv #[.int n0 u0, .int n1 u1, .int n2 u2, .int n3 u3] kf ks k o1' o2' o3' o4 PA wv tw tp := List.mem_append_right _ (List.mem_cons_of_mem _ (List.mem_cons_of_mem _ coreN_3))
  have wi : ∀ i, i < 6 → (PA i, tupW wv tw tp i) ∈ ringN wv tw tp RA 6 ++ (x, accObj dx ((refsN RA 6).map Value.ref).toArray c) :: (dx, sizeD w e (.int (tot.fmod 4) tz)) :: coreN L lf ls l pl fr sv #[.int n0 u0, .int n1 u1, .int n2 u2, .int n3 u3] kf ks k o1' o2' o3' o4 PA wv tw tp := fun i hi => List.mem_append_right _ (List.mem_cons_of_mem _ (List.mem_cons_of_mem _ (coreN_i i hi)))
  refine lawP4c (s := ⟨h5, s.gens, s.drawn, k5, s.os⟩) hdp hwv X T F5 N5 wp wi w3 hd3' fun tx h6 k6 F6 N6 => ?_
  clear F5 N5
  have hx4 : L + 4 < dx := hcl (L + 4, o4) coreN_4
  have c70 : o70.cls = .none := by obtain ⟨ps, ho⟩ := t70.obj; rw [ho] at h70; cases h70; rfl
  have c77 : o77.cls = .none := by obtain ⟨ps, ho⟩ := t77.obj; rw [ho] at h77; cases h77; rfl
  have hTab : ∀ {oP : Obj} {c P : Nat}, Tab B c P → B.get? P = some oP → c ≠ 70 → c ≠ 77 → TabO (hideAll B tabs) oP c P := fun t h a b => TabO.of t h fun o e => tabs_get e a b
  refine law_ring (s := ⟨h6, s.gens, s.drawn, k6, s.os⟩) (B := hideAll B tabs) (lf := lf) (ls := ls) (l := l) (pl := pl) (kf := kf) (ks := ks) (k := k) (x := x) (dx := dx) (c := c) (fr := fr) (sv := sv) (RA := RA) (PA := PA) (wv := wv) (tw := tw) (tp := tp) (n0 := n0) (n1 := n1) (n2 := n2) (n3 := n3) (tot := tot) (u0 := u0) (u1 := u1) (u2 := u2) (u3 := u3) (tt := tt)
    (o1 := o1') (o2 := o2') (o3 := o3') (o4 := o4) (o70 := o70) (o77 := o77) (e := e) (tz := tz) (tx := tx) (m1 := m5) hdp hun hL hwv a0 a1 a2 a3 ht0 ht1 hsh (in_hide X) (top_hide T h70 h77 c70 c77) hl (fr_hide _ F6) (fun p hp => ?nw) (hTab t70 h70 (by decide) (by decide)) (hTab t77 h77 (by decide) (by decide)) hd1' hd2' hd3' hd4 hne hx4 lowT hab hQ
  case nw =>
    rcases List.mem_cons.mp hp with rfl | hp
    · exact ⟨F6.keep _ _ h70, Nat.ne_of_lt (show 70 < L by omega), hideAll_none _ (by simp)⟩
    · rcases List.mem_cons.mp hp with rfl | hp
      · exact ⟨F6.keep _ _ h77, Nat.ne_of_lt (show 77 < L by omega), hideAll_none _ (by simp)⟩
      · exact news_hide _ N6 p (core_ring hp)
end
end -- A69
example : True := by w_top off; trivial
noncomputable abbrev pw : Program := PySem.Challenge.pw_wu0015_01
noncomputable def viewBody0 : List Stmt := [0, 4, 5, 6, 8, 9, 10, 11, 13, 14, 16, 17, 18].filterMap fun i => pw.main.body[i]?
noncomputable def viewBodyP : { x : List Stmt // viewBody0 = x } := ⟨_, by conv => lhs; whnf⟩
noncomputable def viewP : Program := { pw with main := { pw.main with body := viewBody0 } }
noncomputable def emptyTab : Obj := { cls := .none, data := .fields #[] }
noncomputable def heapT (P : Params) : Frag := (70, emptyTab) :: (77, emptyTab) :: hd.heap_1 P
noncomputable def keysT : List Addr := [70, 77, 2, 3, 15, 17, 18, 20, 21, 22, 23, 25, 26, 28, 29, 30, 33, 38, 39, 40, 42, 43, 45, 46, 47, 49, 50, 52, 53, 54, 55, 57, 58, 60, 61, 62, 64, 65, 67, 68, 69, 71, 72, 74, 75, 76, 78, 79, 81, 82, 83, 84, 86, 87, 89, 90, 91, 93, 94, 96, 97, 98, 99, 101, 102, 104, 105, 106, 107, 108, 109, 110, 113, 120, 121, 122, 123, 126, 133, 134, 135, 138, 140, 141, 143, 144, 145, 147, 148, 150, 151, 152, 154, 155, 157, 158, 159, 161, 162, 164, 165, 166, 169, 170]
noncomputable abbrev hookT : Hook := kHook heapT keysT (fun _ => by kernel_rfl)
noncomputable abbrev looseP : List Str := ["_safe_string", "_Accumulator"]
/-- the top's run, its parts turned into the library's quick twins -/
noncomputable def openTP (p : Program) (w : World) (N : Nat) : { x : Option Shared // openEnds treeTable p w N = x } := ⟨_, by
  conv =>
    lhs
    delta openEnds fencedOpening topFrom
    rw [PySem.W.Fast.te14082659384304107361, PySem.W.Fast.te14289696077712309145, PySem.W.Fast.te1435165496053646825, PySem.W.Fast.te10274390034422433532, PySem.W.Fast.te14364793385576792824]⟩
theorem leftT0 : ∀ w, (openTP PySem.Challenge.rw_wu0015_01.row.toRowW.prog w 2548).1.map (fun s => (openSeen viewP looseP (importedModules PySem.Challenge.rw_wu0015_01.row.toRowW.prog.main.body) (fun s => xlAt viewP [] s && recOk (RowW.records PySem.Challenge.rw_wu0015_01.row.toRowW) s) true s, Hook.obs hookT s)) = some (openGood viewP looseP, Hook.val hookT w) := fun w => by
  kernel_rfl
theorem leftT : LeftO PySem.Challenge.rw_wu0015_01.row.toRowW.prog viewP looseP (fun s => xlAt viewP [] s && recOk (RowW.records PySem.Challenge.rw_wu0015_01.row.toRowW) s) (Hook.obs hookT) (Hook.val hookT) 2548 := fun w => by
  rw [(openTP PySem.Challenge.rw_wu0015_01.row.toRowW.prog w 2548).2]
  exact leftT0 w
theorem heapT_in {w : World} {h : Heap} (X : (heapT w.params).In h) : (hd.heap_1 w.params).In h := fun a o e => X a o (by
  have h1 : a ≠ 70 := by
    rintro rfl
    have : (hd.heap_1 w.params).lookup 70 = none := rfl
    rw [this] at e; cases e
  have h2 : a ≠ 77 := by
    rintro rfl
    have : (hd.heap_1 w.params).lookup 77 = none := rfl
    rw [this] at e; cases e
  have e1 : (a == 70) = false := by simpa using h1
  have e2 : (a == 77) = false := by simpa using h2
  show List.lookup a ((70, emptyTab) :: (77, emptyTab) :: hd.heap_1 w.params) = some o
  rw [List.lookup_cons, e1, List.lookup_cons, e2]; exact e)
theorem heapT_70 {w : World} {h : Heap} (X : (heapT w.params).In h) : h.get? 70 = some emptyTab := X 70 _ rfl
theorem heapT_77 {w : World} {h : Heap} (X : (heapT w.params).In h) : h.get? 77 = some emptyTab := X 77 _ rfl
theorem tab_70 {w : World} {h : Heap} (X : (heapT w.params).In h) : Tab h 74 70 :=
  ⟨#[], ⟨_, _, _, _, _, _, _, _, _, _, X 74 _ rfl, rfl, rfl, rfl, rfl, rfl, rfl, heapT_70 X, rfl, trivial, by decide⟩, ⟨⟨_, _, X 74 _ rfl, rfl, rfl, rfl⟩, heapT_70 X⟩⟩
theorem tab_77 {w : World} {h : Heap} (X : (heapT w.params).In h) : Tab h 81 77 :=
  ⟨#[], ⟨_, _, _, _, _, _, _, _, _, _, X 81 _ rfl, rfl, rfl, rfl, rfl, rfl, rfl, heapT_77 X, rfl, trivial, by decide⟩, ⟨⟨_, _, X 81 _ rfl, rfl, rfl, rfl⟩, heapT_77 X⟩⟩
theorem tabO_obj {B : Heap} {oP : Obj} {c P : Nat} (x : TabO B oP c P) : ∃ ps, oP = { cls := .none, data := .fields ps } := by
  obtain ⟨H0, t, e, _⟩ := x
  obtain ⟨ps, e2⟩ := t.obj
  rw [e2] at e; cases e
  exact ⟨ps, rfl⟩
theorem old_tabs {w : World} {h h' : Heap} {o70 o77 : Obj} (X : (heapT w.params).In h) (k : ∀ b o, (hideAll h tabs).get? b = some o → h'.get? b = some o) (e70 : h'.get? 70 = some o70) (e77 : h'.get? 77 = some o77)
    (t70 : TabO (hideAll h tabs) o70 74 70) (t77 : TabO (hideAll h tabs) o77 81 77) : OldK h h' := by
  obtain ⟨p7, r7⟩ := tabO_obj t70
  obtain ⟨p8, r8⟩ := tabO_obj t77
  subst r7
  subst r8
  have q7 := (tab_70 X).choose_spec.2.isCodeTable
  have q8 := (tab_77 X).choose_spec.2.isCodeTable
  refine ⟨fun b o e => ?_, fun b o e => ?_⟩
  · by_cases h1 : b = 70
    · subst h1
      rw [heapT_70 X] at e; cases e
      exact .inr (.inl ⟨q7, rfl, #[], p7, rfl, by rw [Array.empty_append]; exact e70⟩)
    · by_cases h2 : b = 77
      · subst h2
        rw [heapT_77 X] at e; cases e
        exact .inr (.inl ⟨q8, rfl, #[], p8, rfl, by rw [Array.empty_append]; exact e77⟩)
      · exact .inl (k b o (tabs_get e h1 h2))
  · by_cases h1 : b = 70
    · subst h1; exact ⟨_, e70⟩
    · by_cases h2 : b = 77
      · subst h2; exact ⟨_, e77⟩
      · exact ⟨o, k b o (tabs_get e h1 h2)⟩
theorem good_end {w : World} {cl : Str → Option Addr} {mean : ExcName → Option Value} {ns : List Int} {s₁ : Shared} {h' : Heap} {g' : Array GenState} {d : Drawn} {tk : Nat} {o70 o77 : Obj} (X : (heapT w.params).In s₁.heap) (k : ∀ b o, (hideAll s₁.heap tabs).get? b = some o → h'.get? b = some o) (e70 : h'.get? 70 = some o70) (e77 : h'.get? 77 = some o77)
    (t70 : TabO (hideAll s₁.heap tabs) o70 74 70) (t77 : TabO (hideAll s₁.heap tabs) o77 81 77) (hb : AllBare g') : GoodWG PySem.Challenge.rw_wu0015_01.row.claim cl mean [ofPy (PyData.list (List.map PyData.int ns))] s₁ (.ok (.ret (.bool true))) ⟨h', g', d, tk, s₁.os⟩ :=
  ⟨.inl ⟨_, .bool true, [], rfl, fun _ => rfl, ReadsW.bool true, by wrow_post, fun _ => ⟨List.nodup_nil, fun _ hm => nomatch hm⟩⟩, old_tabs X k e70 e77 t70 t77, rfl, hb⟩
theorem fr_one {kindOf : Str → Option NameKind} {n : Str} {v : Value} {m : Str → Option Value} (hk : kindOf n = some .local) (hm : ∀ z, m z = none) (y : Str) : bindL kindOf [(n, v)] m y = List.lookup y [(n, v)] := by
  unfold bindL
  rw [if_pos hk]
  unfold bindL
  by_cases e : y = n
  · subst e; simp [List.lookup]
  · have e9 : (y == n) = false := by simpa using e
    simp only [List.lookup, e9, e, if_false, hm]
theorem dev : PySem.Challenge.rw_wu0015_01.Holds := by
  w_on
  o_law
  refine holds_open (q := viewP) (loose := looseP) (Xt := fun s => xlAt viewP [] s && recOk (RowW.records PySem.Challenge.rw_wu0015_01.row.toRowW) s) (XP := XL viewP []) (Yf := Hook.obs hookT) (Ya := Hook.val hookT) (YP := Hook.says hookT) (N := 2548) leftT (Hook.of hookT) (Hook.keeps hookT)
    (fun s e => xl_of s (Bool.and_eq_true_iff.mp e).1) XL.keeps (by rfl) (by rfl) (by rfl) (fun s e => recFacts_of (Bool.and_eq_true_iff.mp e).2) (by rfl) (by first | assumption | decide +kernel) (by decide +kernel) ⟨rfl, rfl, rfl, rfl, rfl, by decide +kernel⟩ ?hw ?hc
  case hw => w_witness2
  case hc =>
   w_strict (
   k_fill
   intro w s₀ s₁ mg mb G Y fa o pm cd doc dV kV ho hd hcd hD hmg hg args vals as hpre hlay hrd hwl hlo
   have KX := kIn_of Y
   have X := (Ground.X G).1
   have V := (Ground.X G).2
   refine Ground.open G ?_
   intro T B D TE TW
   try (refine guard_noD D (by decide +kernel) ?_; clear D)
   obtain ⟨_, _, M⟩ := bmod_of_top T
   have TA := at_of_top T
   try (obtain ⟨_, _, he, B0⟩ := based_of_top T rfl hmg ho hd; have he' : cd = _ := he; subst he'; clear he)
   clear hmg
   wrow_args hpre hlay hrd hwl hlo
   all_goals (
     first | refine callC_kw (enter_call ?_) | refine enter_call ?_ | refine callC_kw (enter_callW ?_) | refine enter_callW ?_ | w_how
     w_top on
     have K0 := below_caller (Top.heap T)
     w_call any ho hd hcd hD T F
     clear hd TA
     k_drop
     skip)
   have GT := heapT_in KX
   rename Heap => h₁
   rename Fr _ _ _ _ => F1
   rename News _ _ _ _ => N1
   rename Heap.IsList _ _ _ => hl0
   rename IntsAre _ _ => hI
   rename ¬ _ < _ => hlen
   have hL : 170 < s₁.heap.objs.size := Heap.lt_size (GT 170 _ rfl)
   refine law_all (R := fun r s' => GoodWG PySem.Challenge.rw_wu0015_01.row.claim (classAt s₀.heap) (ExcName.means s₀.heap) _ s₁ r s') (L := s₁.heap.objs.size) (B := s₁.heap) hl0 hI (by omega) (by decide) (by decide) hL GT T (tab_70 KX) (tab_77 KX) (heapT_70 KX) (heapT_77 KX) (fr_congr F1 fun y => ?fr) N1 (by assumption) (by assumption) (by assumption) (by assumption) (by rw [hg]; exact AllBare.empty) (fun h' g' tk' o70' o77' k e70 e77 t70 t77 hb => good_end KX k e70 e77 t70 t77 hb)
   refine fr_one ?_ (by intro z; rfl) y
   rfl)
end Mine
theorem PySem.Challenge.cw_wu0015_01_holds : PySem.Challenge.rw_wu0015_01.Holds :=
  Mine.dev
