import PyProof.Rows.All
import Wide.All
import OpenK.AllK
import Wide.FinOn
import PyProof.StrLawsTight
import PyProof.StrLawsChain
import PyProof.StrLaws
import PyProof.StrLawsRepr
import PyProof.Rows.StrJoin2
import PyProof.ExcStrCall
import PySem.Challenge.RW_km0076_03
set_option Elab.async false
section
open PySem PySem.W PySem.Calls PyProof.Rows
set_option Elab.async false
set_option maxRecDepth 100000
namespace Mine

/-- an exception of an own class, as it stands behind its making -/
abbrev excObj (C t : Addr) (d : Option Addr) : Obj := { cls := .ref C, dict := d, data := .fields #[.ref t, .none, .none, .none, .bool false, .none] }
abbrev tupObj (vs : List Value) : Obj := { cls := .type "tuple", data := .seq vs.toArray }
abbrev exc3 : List Value := [.type "Exception", .type "BaseException", .type "object"]
/-- an own class right under Exception -/
abbrev clsObj (nm q : Str) (C N : Addr) (bs : List Value) (sn : List Str) (sub : List Value) (ab : Bool) (col : Option Bool) (dd : Option Addr) (k0 k1 k2 k3 k5 : Option Value) : Obj :=
  excClassObj nm q C N bs exc3 true sn sub ab col dd k0 k1 k2 k3 k5 "Exception.__new__"

section
variable {prog : Program} {w : World} {A : Around} {R : Result → Shared → Prop} {h : Heap} {g : Array GenState} {d : Drawn} {t : Nat} {os : OsState}
variable {nm q : Str} {C N : Addr} {bs : List Value} {sn : List Str} {sub : List Value} {ab : Bool} {col : Option Bool} {dd : Option Addr} {k0 k1 k2 k3 k5 : Option Value}

/-- the call of an own exception class, up to the call of its __init__ -/
theorem exc_core {rest : List Value} {init : Value} (hC : h.get? C = some (clsObj nm q C N bs sn sub ab col dd k0 k1 k2 k3 k5))
    (hi : Looks (model prog w) h (typeLookup (.ref C) "__init__") (some init)) (hb : ∀ self, Looks (model prog w) h (bindSpecial init self) (init, [self]))
    (hq : codeAny (model prog w) (A.under (.builtin "type.__call__" ⟨.ref C :: rest, []⟩)) (.call init ⟨.ref (h.objs.size + 1) :: rest, []⟩) (InitBack (h.objs.size + 1) R)
      ⟨(h.push (tupObj rest)).push (excObj C h.objs.size none), g, d, t, os⟩) (hrest : rest.length ≤ sizeLine) :
    codeAny (model prog w) A (.call (.ref C) ⟨rest, []⟩) R ⟨h, g, d, t, os⟩ := by
  have F := PySem.F.excBase_Exception
  have f1 := tc_lookup
  have f2 := tc_bind (.ref C)
  have hT : (⟨h, g, d, t, os⟩ : Shared).TypeIs (.ref C) "type" := ⟨_, hC, rfl⟩
  refine codeAny_of_tree ?_
  show wpAny _ _ (callAny (.ref C) _) _ _ _
  repeat (any_goals (first | assumption | with_reducible refine wpAny_loadPart_at hC ?_ | wp_step))
  refine ⟨rfl, ?_⟩
  refine codeAny_call_builtin_at (Code.quiet_builtin _ (by decide +kernel)) entry_typeCall (wpAny_check_type_call_sub hC ?_)
  repeat (first | with_reducible refine wpAny_loadPart_at hC ?_ | with_reducible refine wpAny_madeBy_exc hC ?_ | wp_step)
  refine codeAny_call_builtin_code (Code.quiet_builtin _ F.quiet) (wpAny_check_new_sub F hC ?_)
  refine codeAny_exc_new_sub F hC ?_ hrest
  show wpAny _ _ _ _ _ ⟨(h.push (tupObj rest)).push (excObj C h.objs.size none), g, d, t, os⟩
  have k : ∀ b o, h.get? b = some o → ((h.push (tupObj rest)).push (excObj C h.objs.size none)).get? b = some o := fun b o e => Heap.get?_push_of_some _ (Heap.get?_push_of_some _ e)
  have hget : ((h.push (tupObj rest)).push (excObj C h.objs.size none)).get? (h.objs.size + 1) = some (excObj C h.objs.size none) := by heap_get
  have hC₁ := k _ _ hC
  have hcC : (Value.ref C :: exc3).contains (.ref C) = true := by simp
  have i1 := hi.keeps k
  have b1 := (hb (.ref (h.objs.size + 1))).keeps k
  unfold isInstance callSpecial? specialOf
  repeat (first | with_reducible refine wpAny_loadPart_at hget ?_ | (with_reducible refine wpAny_isSubtype_exc hC₁ ?_; rw [hcC]) | with_reducible refine wpAny_call ?_ | simp only [Bool.not_true, Bool.false_eq_true, if_false] | lk)
  refine codeAny_mono hq fun r s' z => ?_
  rcases r with e | (v | _ | _ | _) <;> first | exact z | exact z.elim | skip
  obtain ⟨rfl, z⟩ := z
  exact wpAny_pure (wpAny_pure z)
end

theorem news_new {h₀ h h' : Heap} {L a : Addr} {m : Str → Option Value} {o : Obj} (F : Fr h₀ L h m) (ha : h.objs.size ≤ a) (hg : h'.get? a = some o) : h'.get? a = some o ∧ a ≠ L ∧ h₀.get? a = none := by
  have hL : @LT.lt Nat _ L h.objs.size := F.ns.lt
  have hab : @LE.le Nat _ h₀.objs.size L := F.above
  have ha' : @LE.le Nat _ h.objs.size a := ha
  exact ⟨hg, fun e => Nat.lt_irrefl _ (Nat.lt_of_lt_of_le hL (e ▸ ha')), Heap.get?_none_of_le (Nat.le_trans hab (Nat.le_of_lt (Nat.lt_of_lt_of_le hL ha')))⟩
theorem news_keep {h₀ h h' : Heap} {L : Addr} {news : List (Addr × Obj)} (N : News h₀ L h news) (k : ∀ b o, h.get? b = some o → h'.get? b = some o) : News h₀ L h' news :=
  fun p hp => ⟨k _ _ (N p hp).1, (N p hp).2⟩
theorem news_cons {h₀ h' : Heap} {L a : Addr} {o : Obj} {news : List (Addr × Obj)} (x : h'.get? a = some o ∧ a ≠ L ∧ h₀.get? a = none) (N : News h₀ L h' news) : News h₀ L h' ((a, o) :: news) := by
  intro p hp
  rcases List.mem_cons.mp hp with rfl | hp
  · exact x
  · exact N p hp

section
variable {prog : Program} {w : World} {A : Around} {E : Value → Shared → Prop} {s : Shared} {K : Frag} {h₀ : Heap} {L : Addr} {m : Str → Option Value} {news : List (Addr × Obj)} {Q : Value → Shared → Prop}
variable {nm q : Str} {C N : Addr} {bs : List Value} {sn : List Str} {sub : List Value} {ab : Bool} {col : Option Bool} {dd : Option Addr} {k0 k1 k2 k3 k5 : Option Value}

/-- an own exception class without an __init__ of its own is called -/
theorem mk_exc0 {rest : List Value} (F : Fr h₀ L s.heap m) (X₀ : K.In h₀) (Nw : News h₀ L s.heap news) (hC : K.lookup C = some (clsObj nm q C N bs sn sub ab col dd k0 k1 k2 k3 k5))
    (hi : findIn K (.ref C) "__init__" = some (some (.builtin "Exception.__init__"))) (hrest : rest.length ≤ sizeLine)
    (h : ∀ x t h', Fr h₀ L h' m → News h₀ L h' ((x, excObj C t none) :: (t, tupObj rest) :: news) → (∀ p ∈ news, p.1 < x) → x < t → Q (.ref x) { s with heap := h' }) :
    wpAny (model prog w) A (call (.ref C) rest) Q E s := by
  have F₀ := PySem.F.excBase_Exception
  have X := X₀.keeps F.keep
  obtain ⟨hp, g, d, t, os⟩ := s
  have hC' := X _ _ hC
  refine wpAny_call (exc_core hC' (looks_findIn X hi) (fun self => Looks.of_pure (F₀.init.bind self)) ?_ hrest)
  have k : ∀ b o, hp.get? b = some o → ((hp.push (tupObj rest)).push (excObj C hp.objs.size none)).get? b = some o := fun b o e => Heap.get?_push_of_some _ (Heap.get?_push_of_some _ e)
  have hget : ((hp.push (tupObj rest)).push (excObj C hp.objs.size none)).get? (hp.objs.size + 1) = some (excObj C hp.objs.size none) := by heap_get
  refine codeAny_call_builtin F₀.init.plain F₀.initEntry (wpAny_check_init_sub F₀ (k _ _ hC') hget rfl ?_)
  wp_walk
  refine ⟨rfl, h (hp.objs.size + 1) (hp.objs.size + 2) _ (F.keeps fun b o hb => ?_) (news_cons (news_new F (Nat.le_succ _) ?_) (news_cons (news_new F (Nat.le_add_right hp.objs.size 2) ?_) (news_keep Nw fun b o hb => ?_))) (fun p hp => Nat.lt_succ_of_lt (Heap.lt_size (Nw p hp).1)) (Nat.lt_succ_self _)⟩
  · rw [Heap.get?_update_other _ _ (Nat.ne_of_gt (Nat.lt_succ_of_lt (Heap.lt_size hb)))]
    exact Heap.get?_push_of_some _ (k _ _ hb)
  · rw [Heap.get?_update_self _ (Heap.get?_push_of_some _ hget) rfl]
    simp only [Heap.size_push]
    rfl
  · rw [Heap.get?_update_other _ _ (show hp.objs.size + 1 ≠ hp.objs.size + 2 by omega)]
    exact Heap.get?_push_at (by simp only [Heap.size_push]) rfl
  · rw [Heap.get?_update_other _ _ (Nat.ne_of_gt (Nat.lt_succ_of_lt (Heap.lt_size hb)))]
    exact Heap.get?_push_of_some _ (k _ _ hb)

/-- one with an __init__ of its own, a plain def: up to its call -/
theorem mk_exc1 {rest : List Value} {fI : Addr} (F : Fr h₀ L s.heap m) (X₀ : K.In h₀) (Nw : News h₀ L s.heap news) (hC : K.lookup C = some (clsObj nm q C N bs sn sub ab col dd k0 k1 k2 k3 k5))
    (hi : findIn K (.ref C) "__init__" = some (some (.ref fI))) (hf : isFn K (.ref fI) = true) (hrest : rest.length ≤ sizeLine)
    (h : ∀ x t h', Fr h₀ L h' m → News h₀ L h' ((x, excObj C t none) :: (t, tupObj rest) :: news) → (∀ p ∈ news, p.1 < t) → t < x →
      codeAny (model prog w) (A.under (.builtin "type.__call__" ⟨.ref C :: rest, []⟩)) (.call (.ref fI) ⟨.ref x :: rest, []⟩) (InitBack x fun r s' => match r with | .ok (.ret v) => Q v s' | .ok _ => False | .error e => E e s') { s with heap := h' }) :
    wpAny (model prog w) A (call (.ref C) rest) Q E s := by
  have X := X₀.keeps F.keep
  obtain ⟨hp, g, d, t, os⟩ := s
  have hC' := X _ _ hC
  refine wpAny_call (exc_core hC' (looks_findIn X hi) (fun self => bind_fn X self (beq_iff_eq.mp hf)) (h (hp.objs.size + 1) hp.objs.size _ ((F.push _).push _) ?_ (fun p hp => Heap.lt_size (Nw p hp).1) (Nat.lt_succ_self _)) hrest)
  have := (Nw.push F (tupObj rest)).push (F.push _) (excObj C hp.objs.size none)
  rwa [Heap.size_push] at this
end
end Mine
end
section
open PySem PySem.W PySem.Calls PyProof.Rows
open PySem.Builtin PySem.Builtin.ObjectAttr
set_option Elab.async false
set_option maxRecDepth 100000
set_option maxHeartbeats 4000000
namespace Mine

/-- an object that is a dict of plain str keys, seen as a map -/
def ObjMap (o : Obj) (mA : Str → Option Value) : Prop := ∃ es ep, o.data = .dict es ep ∧ StrKeys es ∧ UniqKeys es ∧ ∀ y, nsFind es y = mA y
theorem ObjMap.ns1 {h : Heap} {a : Addr} {o : Obj} {mA : Str → Option Value} (x : ObjMap o mA) (e : h.get? a = some o) : h.Ns1 a mA := let ⟨es, ep, r⟩ := x; ⟨o, es, ep, e, r⟩
theorem objMap_of {h : Heap} {a : Addr} {mA : Str → Option Value} (x : h.Ns1 a mA) : ∃ o, h.get? a = some o ∧ ObjMap o mA := let ⟨o, es, ep, e, r⟩ := x; ⟨o, e, es, ep, r⟩

section
variable {prog : Program} {w : World} {A : Around} {E : Value → Shared → Prop} {h : Heap} {g : Array GenState} {d : Drawn} {t : Nat} {os : OsState} {K : Frag}
variable {nm q name : Str} {C N x : Addr} {bs : List Value} {sn : List Str} {sub : List Value} {ab : Bool} {col : Option Bool} {dd : Option Addr} {k0 k1 k2 k3 k5 : Option Value} {v : Value} {o : Obj}

/-- o.name = v on an own exception: up to the own dict -/
theorem set_open (X : K.In h) (hC : K.lookup C = some (clsObj nm q C N bs sn sub ab col dd k0 k1 k2 k3 k5)) (hsa : findIn K (.ref C) "__setattr__" = some (some (.builtin "object.__setattr__")))
    (hna : findIn K (.ref C) name = some none) (hx : h.get? x = some o) (hc : o.cls = .ref C) {Q : Unit → Shared → Prop}
    (hq : wpAny (model prog w) A.in1 (instanceDict x true) (fun r s' => match r with
        | some dx => wpAny (model prog w) A.in1 (storeInDict dx (.str name t) name v) (fun fin s'' => fin = .done (.ret .none) ∧ Q () s'') E s'
        | none => False) E ⟨h, g, d, t + 1, os⟩) :
    wpAny (model prog w) A (setAttr (.ref x) name v) Q E ⟨h, g, d, t, os⟩ := by
  have SF := PySem.F.store_Exception
  have hC' := X _ _ hC
  have f3 := SF.slot.bind (.ref x)
  have hpass := SF.passes (.ref x)
  have L0 : Looks (model prog w) h (typeOf (.ref x)) (.ref C) := by rw [← hc]; exact (Looks.ld hx).andThen .now
  have L1 := looks_findIn (M := model prog w) X hsa
  have L2 := looks_findIn (M := model prog w) X hna
  refine wpAny_bind (wpAny_mkText (wpAny_bind (wpAny_bind (wpAny_bind (L0.at (L1.at (wpAny_holding ?_)))))))
  rw [f3]
  refine wpAny_bind (wpAny_pure (wpAny_bind (wpAny_call ?_)))
  show codeAny (model prog w) A (.call (.builtin "object.__setattr__") ⟨[.ref x, .str name t, v], []⟩) _ _
  refine codeAny_call_builtin (id := "object.__setattr__") (b := Builtin.«object.__setattr__») SF.slot.plain SF.entry ?_
  refine wpAny_check_sa (sa := "object.__setattr__") SF hC' hx hc ?_
  show wpAny (model prog w) A.in1 (Builtin.«object.__setattr__» ⟨[.ref x, .str name t, v], []⟩) _ _ _
  rw [osa_eq, refuse_eq]
  refine wpAny_bind (wpAny_bind (L0.at (wpAny_bind (wpAny_mroOf_exc hC' ?_))))
  rw [refuseLoop_ref, hpass]
  refine wpAny_pure (wpAny_bind (L0.at (wpAny_bind (L2.at (wpAny_bind (wpAny_pure ?_))))))
  show wpAny (model prog w) A.in1 (storeInOwnDict (.ref x) (.ref C) (.str name t) name v false) _ _ _
  unfold storeInOwnDict
  refine wpAny_bind (wpAny_pure ?_)
  refine wpAny_bind (wpAny_mono hq (fun r s' z => ?_) fun _ _ z => z)
  cases r with
  | none => exact z.elim
  | some dx =>
    refine wpAny_mono z (fun fin s'' z => ?_) fun _ _ z => z
    obtain ⟨rfl, z⟩ := z
    exact wpAny_pure (wpAny_pure z)
end
end Mine
end
section
open PySem PySem.W PySem.Calls PyProof.Rows
open PySem.Builtin PySem.Builtin.ObjectAttr
set_option Elab.async false
set_option maxRecDepth 100000
set_option maxHeartbeats 4000000
namespace Mine

theorem len_ns1 {es : Array DictEntry} {mA : Str → Option Value} {ns : List Str} (k : StrKeys es) (u : UniqKeys es) (f : ∀ y, nsFind es y = mA y) (hw : Within mA ns) : es.size ≤ ns.length := by
  obtain ⟨o, es', ep, e, dd, z⟩ := (ObjMap.ns1 (h := ⟨#[{ cls := .none, data := .dict es }], {}⟩) (a := 0) (o := { cls := .none, data := .dict es }) ⟨es, 0, rfl, k, u, f⟩ rfl).count hw
  have : o = { cls := .none, data := .dict es } := (Option.some.inj e).symm
  subst this
  cases dd
  exact z

section
variable {prog : Program} {w : World} {A : Around} {E : Value → Shared → Prop} {s : Shared} {K : Frag} {h₀ : Heap} {L : Addr} {m : Str → Option Value} {news : List (Addr × Obj)} {gU : Obj → List (Addr × Obj)}
variable {nm q name : Str} {C N x tp : Addr} {bs : List Value} {sn : List Str} {sub : List Value} {ab : Bool} {col : Option Bool} {dd : Option Addr} {k0 k1 k2 k3 k5 : Option Value} {v : Value}

/-- the first attribute of an exception: its dict is made -/
theorem set_new {Q : Unit → Shared → Prop} (F : Fr h₀ L s.heap m) (X₀ : K.In h₀) (Nw : News h₀ L s.heap news) (hC : K.lookup C = some (clsObj nm q C N bs sn sub ab col dd k0 k1 k2 k3 k5))
    (hsa : findIn K (.ref C) "__setattr__" = some (some (.builtin "object.__setattr__"))) (hna : findIn K (.ref C) name = some none) (U : UpdF x (excObj C tp none) news gU)
    (h : ∀ d od h' tk, Fr h₀ L h' m → News h₀ L h' ((d, od) :: gU (excObj C tp (some d))) → (∀ p ∈ news, p.1 < d) → ObjMap od (fun y => if y = name then some v else none) → Q () { s with heap := h', toks := tk }) :
    wpAny (model prog w) A (setAttr (.ref x) name v) Q E s := by
  obtain ⟨pre, post, rfl, hg, h1, h2⟩ := U.split
  have X := X₀.keeps F.keep
  obtain ⟨hp, g, d, t, os⟩ := s
  have Hx := Nw (x, excObj C tp none) (by simp)
  have hx : hp.get? x = some (excObj C tp none) := Hx.1
  have hC' := X _ _ hC
  refine set_open X hC hsa hna hx rfl ?_
  have hxs : x ≠ hp.objs.size := Nat.ne_of_lt (Heap.lt_size hx)
  have hx₁ : (hp.push { cls := .type "dict", data := .dict #[] }).get? x = some (excObj C tp none) := Heap.get?_push_of_some _ hx
  obtain ⟨F₁, N₁⟩ := news_upd (f := fun o => { o with dict := some hp.objs.size }) (o' := excObj C tp (some hp.objs.size)) (F.push { cls := .type "dict", data := .dict #[] })
    (news_keep Nw fun b o e => Heap.get?_push_of_some { cls := .type "dict", data := .dict #[] } e) h1 h2 rfl rfl
  have hgd : ((hp.push { cls := .type "dict", data := .dict #[] }).update x fun o => { o with dict := some hp.objs.size }).get? hp.objs.size = some { cls := .type "dict", data := .dict #[] } :=
    (Heap.get?_update_ne _ _ _ _ hxs.symm).trans (Heap.get?_push_at rfl rfl)
  have hnd : ((hp.push { cls := .type "dict", data := .dict #[] }).update x fun o => { o with dict := some hp.objs.size }).Ns hp.objs.size (fun _ => none) :=
    ⟨_, #[], _, hgd, rfl, fun e he => absurd he (by simp), fun _ => rfl⟩
  unfold instanceDict
  refine wpAny_bind (wpAny_loadPart hx ?_)
  refine wpAny_bind ?_
  refine wpAny_bind (wpAny_load hC' (wpAny_pure ?_))
  refine wpAny_bind (wpAny_alloc ?_)
  refine wpAny_bind (wpAny_update hx₁ ?_)
  refine wpAny_pure ?_
  unfold storeInDict newKeyGuard
  refine wpAny_bind (wpAny_pure ?_)
  refine wpAny_bind (wpAny_nsSet1 (Heap.Ns1.of_empty hnd) fun h' hn' hs => ?_)
  obtain ⟨od, hod, hm⟩ := objMap_of hn'
  have hm' := hm
  obtain ⟨es, ep, e1, e2, e3, e4⟩ := hm'
  have hz := len_ns1 e2 e3 e4 (Within.cons name v Within.nil)
  refine wpAny_bind (wpAny_lookBehind hod (by rw [e1]; exact pastItsLine_dict (Nat.le_trans hz (by rw [List.length_cons, List.length_nil, sizeLine_eq]; omega))) ?_)
  refine wpAny_pure ⟨rfl, ?_⟩
  have hall : ∀ p ∈ pre ++ (x, excObj C tp none) :: post, p.1 < hp.objs.size := fun p hp' => Heap.lt_size (Nw p hp').1
  have N₂ : News h₀ L h' (pre ++ (x, excObj C tp (some hp.objs.size)) :: post) := fun p hp' => by
    have z := N₁ p hp'
    have lt : p.1 < hp.objs.size := by
      rcases List.mem_append.mp hp' with q | q
      · exact hall p (List.mem_append_left _ q)
      · rcases List.mem_cons.mp q with rfl | q
        · exact Heap.lt_size hx
        · exact hall p (List.mem_append_right _ (.tail _ q))
    exact ⟨(hs.2 _ (Nat.ne_of_lt lt)).trans z.1, z.2⟩
  have F₂ : Fr h₀ L h' m := by
    obtain ⟨oL, es', ep', hL, r⟩ := F₁.ns
    have hL' : L < hp.objs.size := F.ns.lt
    exact ⟨⟨oL, es', ep', (hs.2 _ (Nat.ne_of_lt hL')).trans hL, r⟩, fun b o e => (hs.2 _ (Nat.ne_of_lt (Nat.lt_of_lt_of_le (Heap.lt_size e) (Nat.le_trans F.above (Nat.le_of_lt hL'))))).trans (F₁.keep b o e), F.above⟩
  refine h hp.objs.size od h' _ F₂ ?_ hall hm
  rw [hg]
  exact news_cons (news_new F (Nat.le_refl _) hod) N₂

/-- a further attribute: the dict is there -/
theorem set_old {Q : Unit → Shared → Prop} {dx : Addr} {od : Obj} {mA : Str → Option Value} {ns : List Str} (F : Fr h₀ L s.heap m) (X₀ : K.In h₀) (Nw : News h₀ L s.heap news) (hC : K.lookup C = some (clsObj nm q C N bs sn sub ab col dd k0 k1 k2 k3 k5))
    (hsa : findIn K (.ref C) "__setattr__" = some (some (.builtin "object.__setattr__"))) (hna : findIn K (.ref C) name = some none) (hxm : (x, excObj C tp (some dx)) ∈ news) (hod : ObjMap od mA) (hw : Within mA ns) (hsz : ns.length ≤ 100) (U : UpdF dx od news gU)
    (h : ∀ od' h' tk, Fr h₀ L h' m → News h₀ L h' (gU od') → ObjMap od' (fun y => if y = name then some v else mA y) → Q () { s with heap := h', toks := tk }) :
    wpAny (model prog w) A (setAttr (.ref x) name v) Q E s := by
  obtain ⟨pre, post, rfl, hg, h1, h2⟩ := U.split
  have X := X₀.keeps F.keep
  obtain ⟨hp, g, d, t, os⟩ := s
  have Hx := Nw _ hxm
  have hx : hp.get? x = some (excObj C tp (some dx)) := Hx.1
  have Hd := Nw (dx, od) (by simp)
  have hC' := X _ _ hC
  refine set_open X hC hsa hna hx rfl ?_
  unfold instanceDict
  refine wpAny_bind (wpAny_loadPart hx ?_)
  refine wpAny_bind ?_
  refine wpAny_bind (wpAny_load hC' (wpAny_pure ?_))
  refine wpAny_pure ?_
  unfold storeInDict newKeyGuard
  refine wpAny_bind (wpAny_pure ?_)
  refine wpAny_bind (wpAny_nsSet1 (hod.ns1 Hd.1) fun h' hn' hs => ?_)
  obtain ⟨od', hod', hm⟩ := objMap_of hn'
  have hm' := hm
  obtain ⟨es, ep, e1, e2, e3, e4⟩ := hm'
  have hz := len_ns1 e2 e3 e4 (Within.cons name v hw)
  refine wpAny_bind (wpAny_lookBehind hod' (by rw [e1]; exact pastItsLine_dict (Nat.le_trans hz (by rw [List.length_cons, sizeLine_eq]; omega))) ?_)
  refine wpAny_pure ⟨rfl, ?_⟩
  have F₂ : Fr h₀ L h' m := by
    obtain ⟨oL, es', ep', hL, r⟩ := F.ns
    exact ⟨⟨oL, es', ep', (hs.2 _ (Ne.symm Hd.2.1)).trans hL, r⟩, fun b o e => (hs.2 _ fun z => by have := Hd.2.2; rw [← z, e] at this; cases this).trans (F.keep b o e), F.above⟩
  refine h od' h' _ F₂ ?_ hm
  rw [hg]
  intro p hp'
  rcases List.mem_append.mp hp' with q | q
  · have P := Nw p (List.mem_append_left _ q); exact ⟨(hs.2 _ (h1 p q)).trans P.1, P.2⟩
  · rcases List.mem_cons.mp q with rfl | q
    · exact ⟨hod', Hd.2⟩
    · have P := Nw p (List.mem_append_right _ (.tail _ q)); exact ⟨(hs.2 _ (h2 p q)).trans P.1, P.2⟩
end
end Mine
end
section
open PySem PySem.W PySem.Calls PyProof.Rows
open PySem.Builtin PySem.Builtin.ObjectAttr
set_option Elab.async false
set_option maxRecDepth 100000
set_option maxHeartbeats 4000000
namespace Mine

section
variable {prog : Program} {w : World} {A : Around} {E : Value → Shared → Prop} {h : Heap} {g : Array GenState} {d : Drawn} {t : Nat} {os : OsState} {K : Frag}
variable {nm q name : Str} {C N x tp : Addr} {bs : List Value} {sn : List Str} {sub : List Value} {ab : Bool} {col : Option Bool} {dd : Option Addr} {k0 k1 k2 k3 k5 : Option Value} {v : Value} {dx : Option Addr} {od : Option Obj} {u : Tok}

theorem exc_instAt (hx : h.get? x = some (excObj C tp dx)) (hd : match (excObj C tp dx).dict, od with | some dx, some o => h.get? dx = some o | none, none => True | _, _ => False) : InstAt h x (excObj C tp dx) C od := ⟨hx, rfl, rfl, hd⟩

theorem get_open (X : K.In h) (hC : K.lookup C = some (clsObj nm q C N bs sn sub ab col dd k0 k1 k2 k3 k5))
    (hga : findIn K (.ref C) "__getattribute__" = some (some (.builtin "BaseException.__getattribute__"))) (hgt : findIn K (.ref C) "__getattr__" = some none)
    (hx : h.get? x = some (excObj C tp dx)) {Q : Value → Shared → Prop}
    (hq : wpAny (model prog w) A.in1 (Builtin.«object.__getattribute__» ⟨[.ref x, .str name u], []⟩) (fun fin s' => match fin with | .done (.ret v) => wpAny (model prog w) A (handedOut v) Q E s' | _ => False)
      (fun e s' => wpAny (model prog w) A (getattributeRaised (.ref x) (.str name u) (.ref C) e none true false) Q E s') ⟨h, g, d, t, os⟩) :
    wpAny (model prog w) A (getAttrBy (.ref x) (.str name u) true false) Q E ⟨h, g, d, t, os⟩ := by
  have FB := PySem.F.attrBase_Exception
  have hC' := X _ _ hC
  have f3 := FB.ga.bind (.ref x)
  have L0 : Looks (model prog w) h (typeOf (.ref x)) (.ref C) := (Looks.ld hx).andThen .now
  have L1 := looks_findIn (M := model prog w) X hga
  have L2 := looks_findIn (M := model prog w) X hgt
  have hx2 : (Value.builtin "BaseException.__getattribute__" == Value.builtin "object.__getattribute__") = false := by decide +kernel
  have hx1 : (onTheHeap (Value.ref C) && Value.builtin "BaseException.__getattribute__" == Value.builtin "object.__getattribute__") = false := by rw [hx2]; rfl
  unfold getAttrBy
  refine wpAny_holding (wpAny_bind (L0.at (wpAny_bind (L1.at ?_))))
  dsimp only
  rw [hx1, if_neg (by decide)]
  unfold getAttrByItsOwn
  refine wpAny_bind ?_
  show wpAny (model prog w) A (typeLookup (.ref C) "__getattr__") _ _ _
  refine L2.at ?_
  refine wpAny_bind ?_
  refine wpAny_attempt ?_
  refine wpAny_holding ?_
  show wpAny (model prog w) A (boundAndCalled _ _ _) _ _ _
  unfold boundAndCalled
  rw [f3]
  refine wpAny_bind (wpAny_pure ?_)
  refine wpAny_call ?_
  show codeAny (model prog w) A (.call (.builtin "BaseException.__getattribute__") ⟨[.ref x, .str name u], []⟩) _ _
  have T : OwnTailQ h exc3 exc3 := .base
  refine codeAny_call_builtin (id := "BaseException.__getattribute__") (b := Builtin.«object.__getattribute__») FB.ga.plain F.entry_bexc_ga ?_
  refine wpAny_check_ga_own FB hC' T hx rfl ?_
  refine wpAny_mono hq (fun fin s' z => ?_) fun e s' z => z
  rcases fin with (_ | _ | _ | _) | _ <;> first | exact z | exact z.elim

theorem get_found (X : K.In h) (hC : K.lookup C = some (clsObj nm q C N bs sn sub ab col dd k0 k1 k2 k3 k5))
    (hga : findIn K (.ref C) "__getattribute__" = some (some (.builtin "BaseException.__getattribute__"))) (hgt : findIn K (.ref C) "__getattr__" = some none)
    (hx : h.get? x = some (excObj C tp dx)) (I : InstAt h x (excObj C tp dx) C od) (hf : findObj K C od name = some (.value v)) (hv : handedIn v = true) {Q : Value → Shared → Prop} (hq : Q v ⟨h, g, d, t, os⟩) :
    wpAny (model prog w) A (getAttrBy (.ref x) (.str name u) true false) Q E ⟨h, g, d, t, os⟩ := by
  refine get_open X hC hga hgt hx ?_
  have L0 := I.type (M := model prog w)
  have L1 := looks_find (M := model prog w) X I hf
  refine wpAny_bind (wpAny_of_eq (a := (Value.ref x, [Value.str name u])) (by first | rfl | kernel_rfl) ?_)
  refine wpAny_bind (wpAny_pure (wpAny_bind (L0.at (wpAny_bind (L1.at (wpAny_pure ?_))))))
  show wpAny _ _ (handedOut v) _ _ _
  rw [handedOut_of hv]; exact wpAny_pure hq

theorem get_miss (X : K.In h) (hC : K.lookup C = some (clsObj nm q C N bs sn sub ab col dd k0 k1 k2 k3 k5))
    (hga : findIn K (.ref C) "__getattribute__" = some (some (.builtin "BaseException.__getattribute__"))) (hgt : findIn K (.ref C) "__getattr__" = some none)
    (hx : h.get? x = some (excObj C tp dx)) (I : InstAt h x (excObj C tp dx) C od) (hf : findObj K C od name = some .missing) (hnm : nm.cps.foldl (fun k c => k + (Str.utf8Of c).length) 0 ≤ 100) (hnl : nm.toString.length ≤ 20) (hnl2 : name.length ≤ 100) (hh : A.handled = none) {Q : Value → Shared → Prop}
    (hq : ∀ h' tk e, Heap.NewAttrErr h h' e (.ref x) name → E (.ref e) ⟨h', g, d, tk, os⟩) :
    wpAny (model prog w) A (getAttrBy (.ref x) (.str name u) true false) Q E ⟨h, g, d, t, os⟩ := by
  refine get_open X hC hga hgt hx ?_
  have L0 := I.type (M := model prog w)
  have L1 := looks_find (M := model prog w) X I hf
  have hC' := X _ _ hC
  refine wpAny_bind (wpAny_of_eq (a := (Value.ref x, [Value.str name u])) (by first | rfl | kernel_rfl) ?_)
  refine wpAny_bind (wpAny_pure (wpAny_bind (L0.at (wpAny_bind (L1.at ?_)))))
  have n1 : (Value.ref C == Value.type "module") = false := rfl
  have n2 : (Value.ref C == Value.type "type") = false := rfl
  have n3 : (Value.ref C == Value.type "builtin_function_or_method") = false := rfl
  simp only [n1, n2, Bool.false_eq_true, if_false]
  refine wpAny_bind ?_
  unfold typeNameOfCut shownTypeOf
  refine wpAny_bind (wpAny_bind (L0.at ?_))
  simp only [n3, Bool.false_eq_true, if_false]
  refine wpAny_pure ?_
  unfold typeNameCut
  refine wpAny_bind ?_
  unfold classData
  refine wpAny_bind (wpAny_load hC' ?_)
  refine wpAny_pure ?_
  rw [if_pos hnm]
  refine wpAny_pure ?_
  refine wpAny_raiseAttrError hh (fun h' tk e hx' => ?_) (attrMsg_fits ?_ ?_)
  · obtain ⟨t', u', he⟩ := hx'.there
    have f1 := sub_AttributeError
    have X' : K.In h' := X.keeps hx'.keeps
    obtain ⟨hp, hgen⟩ : ∃ hp, hp = h' := ⟨_, rfl⟩
    unfold getattributeRaised
    repeat (any_goals (first | assumption | wp_step))
    exact hq _ _ _ hx'
  · have e1 : (toString "'").length = 1 := by decide
    have e2 : (toString "' object has no attribute '").length = 27 := by decide
    rw [String.length_append, String.length_append, e1, e2]
    show 1 + nm.toString.length + 27 ≤ 90
    omega
  · rw [sizeLine_eq]; omega
end
end Mine
end
section
open PySem PySem.W PySem.Calls PyProof.Rows
open PySem.Builtin PySem.Builtin.ObjectAttr PySem.Builtin.BaseException
set_option Elab.async false
set_option maxRecDepth 100000
set_option maxHeartbeats 4000000
namespace Mine

theorem strRes_len (r : Str) (n : Nat) (h : r.length ≤ n) (hn : n ≤ 4000) : r.length ≤ sizeLine := Nat.le_trans h (Nat.le_trans hn (by rw [sizeLine_eq]; omega))

section
variable {prog : Program} {w : World} {A : Around} {E : Value → Shared → Prop} {h : Heap} {g : Array GenState} {d : Drawn} {t : Nat} {os : OsState} {K : Frag}
variable {nm q : Str} {C N x tp : Addr} {bs : List Value} {sn : List Str} {sub : List Value} {ab : Bool} {col : Option Bool} {dd : Option Addr} {k0 k1 k2 k3 k5 : Option Value} {v : Value} {dx : Option Addr}

theorem check_repr_own {M : Model} {Q : Unit → Shared → Prop} (hC : h.get? C = some (clsObj nm q C N bs sn sub ab col dd k0 k1 k2 k3 k5))
    (hx : h.get? x = some (excObj C tp dx)) (hq : Q () ⟨h, g, d, t, os⟩) : wpAny M A (checkBuiltinCall "BaseException.__repr__" ⟨[.ref x], []⟩) Q E ⟨h, g, d, t, os⟩ := by
  have hk : builtinKind "BaseException.__repr__" = some .slot := by decide +kernel
  have hsplit : splitId "BaseException.__repr__" = some ("BaseException", "__repr__") := by decide +kernel
  have hcB : (Value.ref C :: exc3).contains (.type "BaseException") = true := by simp
  have ha := F.args_bexc_repr (.ref x)
  simp only [checkBuiltinCall, hk, hsplit]
  refine wpAny_bind ?_
  · unfold isInstance
    repeat (first | (with_reducible refine wpAny_loadPart_at hx ?_) | (with_reducible refine wpAny_isSubtype_exc hC ?_; rw [hcB]) | wp_step)
    exact hq

/-- the text that repr() makes of a small int or of an own exception around one such thing -/
inductive RepOf (h : Heap) (K : Frag) : Nat → Value → Str → Prop
  | int (k : Int) (t : Tok) : k.natAbs.log2 < 1920 → (Str.ofString (toString k)).length ≤ 100 → RepOf h K 0 (.int k t) (Str.ofString (toString k))
  | exc {n : Nat} {nm q : Str} {C N x tp : Addr} {bs : List Value} {sn : List Str} {sub : List Value} {ab : Bool} {col : Option Bool} {dd : Option Addr} {k0 k1 k2 k3 k5 : Option Value} {dx : Option Addr} {a : Value} {r : Str} {hd : String} :
      K.lookup C = some (clsObj nm q C N bs sn sub ab col dd k0 k1 k2 k3 k5) → findIn K (.ref C) "__repr__" = some (some (.builtin "BaseException.__repr__")) →
      (nm.toString.cutAt '.').getLastD "" = hd → hd.length ≤ 50 → h.get? x = some (excObj C tp dx) → h.get? tp = some (tupObj [a]) → RepOf h K n a r →
      RepOf h K (n + 1) (.ref x) (Str.ofString hd ++ "(" ++ r ++ ")")

theorem RepOf.len {n : Nat} {v : Value} {r : Str} (R : RepOf h K n v r) : r.length ≤ 100 + n * 52 := by
  induction R with
  | int k t _ hl => omega
  | exc _ _ _ hl _ _ _ ih =>
    rw [strLen_append, strLen_append, strLen_append]
    have e1 : (Str.ofString "(").length = 1 := by rw [PySem.ofString_length]; rfl
    have e2 : (Str.ofString ")").length = 1 := by rw [PySem.ofString_length]; rfl
    rw [e1, e2, PySem.ofString_length, Nat.succ_mul]
    omega
theorem RepOf.keeps {h' : Heap} {n : Nat} {v : Value} {r : Str} (R : RepOf h K n v r) (k : ∀ b o, h.get? b = some o → h'.get? b = some o) : RepOf h' K n v r := by
  induction R with
  | int k t a b => exact .int k t a b
  | exc a b c e f g' _ ih => exact .exc a b c e (k _ _ f) (k _ _ g') ih

theorem exc_own_type {M : Model} (hx : h.get? x = some (excObj C tp dx)) : Looks M h (typeOf (.ref x)) (.ref C) := (Looks.ld hx).andThen .now

theorem bind_repr_own {M : Model} {last : Value → List Value → Sem Value} {Q : Option Value → Shared → Prop} (X : K.In h) (hs : findIn K (.ref C) "__repr__" = some (some (.builtin "BaseException.__repr__")))
    (hx : h.get? x = some (excObj C tp dx))
    (hc : wpAny M A (last (.builtin "BaseException.__repr__") [.ref x]) (fun v => Q (some v)) E ⟨h, g, d, t, os⟩) : wpAny M A (callSpecialIfBoundBy? last (.ref x) "__repr__") Q E ⟨h, g, d, t, os⟩ := by
  have fb := (PySem.F.excStr_Exception).repr.bind (.ref x)
  have L0 := exc_own_type (M := M) hx
  have L1 := looks_findIn (M := M) X hs
  simp only [callSpecialIfBoundBy?, bindSpecialIfBound?]
  refine wpAny_holding (wpAny_bind (wpAny_bind (wpAny_bind (L0.at (L1.at ?_)))))
  simp only [fb]
  refine wpAny_bind (wpAny_askSetting (wpAny_ite ?_))
  have fin : wpAny M A (last (.builtin "BaseException.__repr__") [.ref x] >>= fun v => pure (some v)) Q E ⟨h, g, d, t, os⟩ :=
    wpAny_bind (wpAny_mono hc (fun v s' h' => wpAny_pure h') fun _ _ h' => h')
  split
  · exact wpAny_bind (wpAny_pure (wpAny_pure fin))
  · exact wpAny_tryCatch (wpAny_bind (wpAny_pure (wpAny_pure fin)))

/-- the body of BaseException.__repr__ -/
theorem rep_body {b : Nat} {a : Value} {r : Str} {hd : String} {Q : Fin → Shared → Prop} (hC : h.get? C = some (clsObj nm q C N bs sn sub ab col dd k0 k1 k2 k3 k5)) (hhd : (nm.toString.cutAt '.').getLastD "" = hd) (hl : hd.length ≤ 50)
    (hx : h.get? x = some (excObj C tp dx)) (ht : h.get? tp = some (tupObj [a])) (hr : r.length ≤ 2000) (hb : b ≤ 2000)
    (hrec : ∀ (R : Str → Shared → Prop) t, (∀ tk, R r ⟨h, g, d, tk, os⟩) → wpAny (model prog w) A (pyReprUnder (b + ((Str.ofString hd).length + 1)) a) R E ⟨h, g, d, t, os⟩)
    (hq : ∀ u tk, Q (.done (.ret (.str (Str.ofString hd ++ "(" ++ r ++ ")") u))) ⟨h, g, d, tk, os⟩) :
    wpAny (model prog w) A (bexcReprAt b ⟨[.ref x], []⟩) Q E ⟨h, g, d, t, os⟩ := by
  have L0 := exc_own_type (M := model prog w) hx
  have n3 : (Value.ref C == Value.type "builtin_function_or_method") = false := rfl
  unfold bexcReprAt
  refine wpAny_bind (wpAny_of_eq (a := (Value.ref x, [])) (by first | rfl | kernel_rfl) ?_)
  dsimp only
  refine wpAny_bind ?_
  unfold typeNameOfWhole shownTypeOf
  refine wpAny_bind (wpAny_bind (L0.at ?_))
  simp only [n3, Bool.false_eq_true, if_false]
  refine wpAny_pure ?_
  unfold typeNameWhole classData
  refine wpAny_bind (wpAny_bind (wpAny_load hC (wpAny_pure (wpAny_pure ?_))))
  dsimp only
  rw [hhd]
  refine wpAny_bind ?_
  unfold bexcArgs
  refine wpAny_bind (wpAny_field hx rfl (x := .ref tp) rfl (wpAny_bind (wpAny_seqItems ht rfl ?_)))
  refine wpAny_pure ?_
  dsimp only
  refine wpAny_bind ?_
  refine wpAny_rule ?_
  refine wpAny_bind (hrec _ _ fun tk => ?_)
  have e1 : (Str.ofString "(").length = 1 := by rw [PySem.ofString_length]; rfl
  have e2 : (Str.ofString ")").length = 1 := by rw [PySem.ofString_length]; rfl
  have hz : (Str.ofString hd ++ Str.ofString "(" ++ r ++ Str.ofString ")").length ≤ sizeLine := by
    rw [strLen_append, strLen_append, strLen_append, e1, e2, PySem.ofString_length, sizeLine_eq]; omega
  unfold retStr
  exact wpAny_bind (wpAny_mkStr (wpAny_pure (hq _ _)) hz)

theorem check_twin_own {b : Nat} {Q : Value → Shared → Prop} (hC : h.get? C = some (clsObj nm q C N bs sn sub ab col dd k0 k1 k2 k3 k5)) (hx : h.get? x = some (excObj C tp dx))
    (hb : wpAny (model prog w) A.in1 (bexcReprAt b ⟨[.ref x], []⟩) (fun fin s' => match fin with | .done (.ret v) => Q v s' | _ => False) E ⟨h, g, d, t, os⟩) :
    wpAny (model prog w) A (call (.builtin "BaseException.__repr__.under") [.ref x, rawInt b]) Q E ⟨h, g, d, t, os⟩ := by
  refine wpAny_call (codeAny_call_builtin (id := "BaseException.__repr__.under") (b := Builtin.«BaseException.__repr__.under») F.plain_bexc_repr_under F.entry_bexc_repr_under ?_)
  rw [F.check_bexc_repr_under]
  refine wpAny_pure ?_
  show wpAny _ _ (reprTwin "BaseException.__repr__" bexcReprAt ⟨[.ref x, rawInt b], []⟩) _ _ _
  rw [reprTwin_eq]
  refine wpAny_bind (check_repr_own hC hx (wpAny_mono hb (fun fin s' z => ?_) fun _ _ z => z))
  rcases fin with (_ | _ | _ | _) | _ <;> first | exact z | exact z.elim

theorem rep_under {n : Nat} {a : Value} {r : Str} (R : RepOf h K n a r) (X : K.In h) : ∀ {A : Around} {b : Nat} {t : Nat} {Q : Str → Shared → Prop}, A.units + n + 1 < cLine → n ≤ 8 → b + n * 60 ≤ 1000 →
    (∀ tk, Q r ⟨h, g, d, tk, os⟩) → wpAny (model prog w) A (pyReprUnder b a) Q E ⟨h, g, d, t, os⟩ := by
  induction R with
  | int k tk hk hl =>
    intro A b t Q hu hn hb hq
    rw [pyReprUnder_leaf (by rw [sizeLine_eq]; omega) (by intro a; nofun)]
    unfold pyRepr
    exact wpAny_bind (pyReprObj_int hk (wpAny_pure (hq _)))
  | @exc n nm q C N x tp bs sn sub ab col dd k0 k1 k2 k3 k5 dx a r hd hC hs hhd hl hx ht R ih =>
    intro A b t Q hu hn hb hq
    have hl2 := R.len
    have L0 := exc_own_type (M := model prog w) hx
    have L1 := looks_findIn (M := model prog w) X hs
    refine wpAny_pyReprUnder_ref (by rw [sizeLine_eq]; omega) ?_
    unfold pyReprObjUnder pyReprObjBy
    refine wpAny_bind (wpAny_cRoomFor (by omega) ?_)
    refine wpAny_bind (wpAny_bind (L0.at (L1.at ?_)))
    refine wpAny_bind ?_
    refine bind_repr_own X hs hx ?_
    show wpAny (model prog w) A (call (.builtin "BaseException.__repr__.under") [.ref x, rawInt b]) _ _ _
    refine check_twin_own (X _ _ hC) hx ?_
    refine rep_body (X _ _ hC) hhd hl hx ht (by omega) (by omega) (fun Q' t' hq' => ih ?_ ?_ ?_ hq') fun u tk => ?_
    · show A.units + 1 + n + 1 < cLine
      omega
    · omega
    · rw [PySem.ofString_length]; omega
    · refine wpAny_bind (wpAny_isInstance (T := "str") (b := true) rfl isSubtype_str_str (wpAny_pure ⟨_, _, rfl, hq _⟩))

theorem rep_bound {n : Nat} {x : Addr} {r : Str} {Q : Option Value → Shared → Prop} (R : RepOf h K n (.ref x) r) (X : K.In h) (hu : A.units + n + 1 < cLine) (hn : n ≤ 8) (hq : ∀ u tk, Q (some (.str r u)) ⟨h, g, d, tk, os⟩) :
    wpAny (model prog w) A (callSpecialIfBoundBy? (fun g first => call g (first ++ [])) (.ref x) "__repr__") Q E ⟨h, g, d, t, os⟩ := by
  cases R with
  | @exc n nm q C N x tp bs sn sub ab col dd k0 k1 k2 k3 k5 dx a r hd hC hs hhd hl hx ht R =>
    have hl2 := R.len
    refine bind_repr_own X hs hx ?_
    refine wpAny_call ?_
    show codeAny (model prog w) A (.call (.builtin "BaseException.__repr__") ⟨[.ref x], []⟩) _ _
    refine codeAny_call_builtin (id := "BaseException.__repr__") (b := Builtin.«BaseException.__repr__») (PySem.F.excStr_Exception).repr.plain F.entry_bexc_repr (check_repr_own (X _ _ hC) hx ?_)
    show wpAny (model prog w) A.in1 (bexcReprAt 0 ⟨[.ref x], []⟩) _ _ _
    refine rep_body (X _ _ hC) hhd hl hx ht (by omega) (by omega) (fun Q' t' hq' => rep_under R X ?_ ?_ ?_ hq') fun u tk => ?_
    · show A.units + 1 + n + 1 < cLine
      omega
    · omega
    · rw [PySem.ofString_length]; omega
    · exact hq _ _

theorem rep_there {n : Nat} {x : Addr} {r : Str} (R : RepOf h K n (.ref x) r) (X : K.In h) {M : Model} : Looks M h (specialOf (.ref x) "__repr__") (some (.builtin "BaseException.__repr__")) := by
  cases R with
  | @exc n nm q C N x tp bs sn sub ab col dd k0 k1 k2 k3 k5 dx a r hd hC hs hhd hl hx ht R =>
    exact (exc_own_type hx).andThen (looks_findIn X hs)

/-- repr() of such an object, as format's {!r} asks for it -/
theorem rep_obj {n : Nat} {x : Addr} {r : Str} {Q : Value → Shared → Prop} (R : RepOf h K n (.ref x) r) (X : K.In h) (hu : A.units + n + 1 < cLine) (hn : n ≤ 8) (hq : ∀ u tk, Q (.str r u) ⟨h, g, d, tk, os⟩) :
    wpAny (model prog w) A (pyReprObj (.ref x)) Q E ⟨h, g, d, t, os⟩ := by
  rw [pyReprObj_eq_pyReprObjBy]
  unfold pyReprObjBy
  refine wpAny_bind (wpAny_cRoomFor (by omega) ?_)
  refine wpAny_bind ((rep_there R X).at ?_)
  refine wpAny_bind (rep_bound R X hu hn fun u tk => ?_)
  exact wpAny_bind (wpAny_isInstance (T := "str") (b := true) rfl isSubtype_str_str (wpAny_pure (hq _ _)))

/-- repr(x) -/
theorem rep_call {n : Nat} {x : Addr} {r : Str} {Q : Value → Shared → Prop} (R : RepOf h K n (.ref x) r) (X : K.In h) (hu : A.units + n + 2 < cLine) (hn : n ≤ 8) (hq : ∀ u tk, Q (.str r u) ⟨h, g, d, tk, os⟩) :
    wpAny (model prog w) A (call (.builtin "repr") [.ref x]) Q E ⟨h, g, d, t, os⟩ := by
  refine Calls.call_function_entry PySem.F.kind_repr PySem.F.plain_repr PySem.F.entry_repr (PySem.F.args_repr1 _) ?_
  unfold Builtin.«repr»
  refine wpAny_bind (m := oneArg "repr" _) (wpAny_pure ?_)
  refine wpAny_bind (wpAny_cRoomFor (by show A.units + 1 < cLine; omega) ?_)
  refine wpAny_bind ((rep_there R X).at ?_)
  refine wpAny_bind (m := callSpecialIfBound? (.ref x) (Str.ofString "__repr__") []) ?_
  show wpAny (model prog w) A.in1 (callSpecialIfBoundBy? (fun g first => call g (first ++ [])) (.ref x) "__repr__") _ _ _
  refine rep_bound R X (by show A.units + 1 + n + 1 < cLine; omega) hn fun u tk => ?_
  refine wpAny_bind (wpAny_isInstance (T := "str") (b := true) rfl isSubtype_str_str ?_)
  first
    | exact wpAny_pure ⟨_, rfl, hq _ _⟩
    | (rw [if_pos rfl]; exact wpAny_pure ⟨_, rfl, hq _ _⟩)
    | (simp only [if_true]; exact wpAny_pure ⟨_, rfl, hq _ _⟩)
end
end Mine
end
section
open PySem PySem.W PySem.W.X PySem.Calls PyProof.Rows
set_option Elab.async false
set_option maxRecDepth 100000
set_option maxHeartbeats 0
namespace Mine
abbrev attrObj (t : Addr) : Obj := { cls := .type "AttributeError", data := .fields #[.ref t, .none, .none, .none, .bool false, .none, .int 0 0, .int 0 0] }
structure MadeAttr (h h' : Heap) (e t : Addr) (vs : List Value) : Prop where
  keeps : ∀ b o, h.get? b = some o → h'.get? b = some o
  newE : h.get? e = none
  newT : h.get? t = none
  ne : e ≠ t
  atE : h'.get? e = some (attrObj t)
  atT : h'.get? t = some (tupObj vs)
theorem mk_attr_end {Q : Value → Shared → Prop} {h h' : Heap} {g : Array GenState} {d : Drawn} {t : Nat} {os : OsState} {msg : Str} {tk : Tok} {e t₁ t₂ : Addr} (D : Mem h h' [] [(t₁, tupObj [.str msg tk]), (e, attrObj t₁), (t₂, tupObj [.str msg tk])])
    (hq : ∀ e t₁ h', MadeAttr h h' e t₁ [.str msg tk] → Q (.ref e) ⟨h', g, d, t, os⟩) : Q (.ref e) ⟨h', g, d, t, os⟩ :=
  hq e t₁ h' ⟨fun b o q => D.keep b o q (Bool.or_true _), (D.nw _ (.tail _ (.head _))).2, (D.nw _ (.head _)).2, (D.ne 0 1 _ _ _ _ rfl rfl rfl).symm, (D.nw _ (.tail _ (.head _))).1, (D.nw _ (.head _)).1⟩
local macro_rules | `(tactic| x_close) => `(tactic| exact mk_attr_end (by assumption) (by assumption))
theorem mk_attr {prog : Program} {w : World} {A : Around} {E : Value → Shared → Prop} {Q : Value → Shared → Prop} {h : Heap} {g : Array GenState} {d : Drawn} {t : Nat} {os : OsState} {msg : Str} {tk : Tok}
    (hq : ∀ e t₁ h', MadeAttr h h' e t₁ [.str msg tk] → Q (.ref e) ⟨h', g, d, t, os⟩) :
    wpAny (model prog w) A (call (.type "AttributeError") [.str msg tk]) Q E ⟨h, g, d, t, os⟩ := by
  x_run
end Mine
end
section
open PySem PySem.W PySem.Calls PyProof.Rows
set_option Elab.async false
set_option maxRecDepth 100000
set_option maxHeartbeats 4000000
namespace Mine
abbrev attrFrom (t e1 : Addr) : Obj := { cls := .type "AttributeError", data := .fields #[.ref t, .none, .ref e1, .none, .bool true, .none, .int 0 0, .int 0 0] }
theorem attr_isExc : isSubtype (.type "AttributeError") (.type "BaseException") = pure true := by rw [isSubtype_type]; kernel_rfl
theorem attr_meta : (Value.type ((Manifest.find? "AttributeError").elim "type" fun x => x.metatype) == Value.type "type") = true := by decide +kernel
section
variable {M : Model} {A : Around} {E : Value → Shared → Prop} {s : Shared} {env : Env}
theorem raiseStmt_attr {x : Sem Value} {Q : Flow → Shared → Prop} (hh : A.handled = none)
    (h : wpAny M A x (fun v s₁ => ∃ e t, v = .ref e ∧ s₁.heap.get? e = some (attrObj t) ∧ E (.ref e) s₁) E s) :
    wpAny M A (raiseStmt env (some x) none) Q E s := by
  unfold raiseStmt
  refine wpAny_bind (wpAny_mono h (fun v s₁ h₁ => ?_) fun _ _ x => x)
  obtain ⟨e, t, rfl, he, hE⟩ := h₁
  obtain ⟨hp, g, d, tk, os⟩ := s₁
  have hsub := attr_isExc
  have hmeta := attr_meta
  repeat (first | refine wpAny_loadPart he ?_ | wp_step)
  unfold raiseNew
  refine wpAny_bind (wpAny_handled ?_)
  rw [hh]
  first
    | exact wpAny_throw hE
    | exact wpAny_bind (wpAny_pure (wpAny_throw hE))

theorem raise_attr {x : Expr} {pos : Pos} {Q : Flow → Shared → Prop} (hh : A.handled = none)
    (h : wpAny M A (eval x env) (fun v s₁ => ∃ e t, v = .ref e ∧ s₁.heap.get? e = some (attrObj t) ∧ E (.ref e) s₁) E s) :
    wpAny M A (exec (.Raise (some x) none pos) env) Q E s := by
  rw [arm_exec_Raise]
  show wpAny M A (do standAt pos; raiseStmt env (some (do let v ← eval x env; standAt pos; pure v)) none) Q E s
  exact wpAny_bind (wpAny_standAt (raiseStmt_attr hh (wpAny_bind (wpAny_mono h (fun v s₁ h₁ => wpAny_bind (wpAny_standAt (wpAny_pure h₁))) fun _ _ x => x))))
end
theorem entry_unchain : entryFor table "proto.unchain" = some Builtin.«proto.unchain» := entryFor_of_tree (by kernel_rfl)
section
variable {prog : Program} {w : World} {A : Around} {E : Value → Shared → Prop} {s : Shared} {env : Env}
theorem raiseNew_under {α : Type} {e e1 : Addr} {o : Obj} {vs : Array Value} {Q : α → Shared → Prop} (hh : A.handled = some (.ref e1)) (hne : e ≠ e1) (he : ∃ o' fs, s.heap.get? e = some o' ∧ o'.data = .fields fs ∧ 2 < fs.size) (h1 : s.heap.get? e1 = some o) (hd : o.data = .fields vs) (h2 : vs[2]? = some .none)
    (hE : E (.ref e) { s with heap := s.heap.update e (Obj.mapFields fun x => x.setIfInBounds 2 (.ref e1)) }) : wpAny (model prog w) A (raiseNew (.ref e) : Sem α) Q E s := by
  unfold raiseNew
  refine wpAny_bind (wpAny_handled ?_)
  rw [hh]
  dsimp only
  have hb : (Value.ref e1 != Value.ref e) = true := by
    rw [bne_iff_ne]; intro z; exact hne (Value.ref.inj z).symm
  rw [hb, if_pos rfl]
  refine wpAny_bind ?_
  refine wpAny_holding (wpAny_runValue (codeAny_builtin entry_unchain ?_))
  refine wpAny_bind (wpAny_field h1 hd h2 ?_)
  refine wpAny_pure ?_
  obtain ⟨o', fs, he, hf, hz⟩ := he
  refine wpAny_bind ?_
  unfold updateField
  refine wpAny_bind (wpAny_load he ?_)
  rw [hf]
  dsimp only
  rw [if_pos hz]
  exact wpAny_update he (wpAny_throw hE)
theorem raiseStmt_from {x : Sem Value} {Q : Flow → Shared → Prop} {e1 : Addr} (hh : A.handled = some (.ref e1))
    (h : wpAny (model prog w) A x (fun v s₁ => ∃ e t o vs, v = .ref e ∧ s₁.heap.get? e = some (attrObj t) ∧ e ≠ e1 ∧ s₁.heap.get? e1 = some o ∧ o.data = .fields vs ∧ vs[2]? = some .none ∧
      ∀ h', (∀ b, b ≠ e → h'.get? b = s₁.heap.get? b) → h'.get? e = some (attrFrom t e1) → E (.ref e) { s₁ with heap := h' }) E s) :
    wpAny (model prog w) A (raiseStmt env (some x) (some (do standAt pos; pure .none))) Q E s := by
  unfold raiseStmt
  refine wpAny_bind (wpAny_mono h (fun v s₁ h₁ => ?_) fun _ _ x => x)
  obtain ⟨e, t, o, vs, rfl, he, hne, h1, hd, h2, hE⟩ := h₁
  obtain ⟨hp, g, d, tk, os⟩ := s₁
  have hsub := attr_isExc
  have hmeta := attr_meta
  repeat (first | refine wpAny_loadPart he ?_ | wp_step)
  have h1' : ((hp.update e (Obj.mapFields fun x => x.setIfInBounds 3 Value.none)).update e (Obj.mapFields fun x => x.setIfInBounds 4 (Value.bool true))).get? e1 = some o :=
    (Heap.get?_update_other _ _ hne).trans ((Heap.get?_update_other _ _ hne).trans h1)
  have he' : ((hp.update e (Obj.mapFields fun x => x.setIfInBounds 3 Value.none)).update e (Obj.mapFields fun x => x.setIfInBounds 4 (Value.bool true))).get? e =
      some { cls := .type "AttributeError", data := .fields #[.ref t, .none, .none, .none, .bool true, .none, .int 0 0, .int 0 0] } :=
    Heap.get?_update_self _ (Heap.get?_update_self _ he rfl) rfl
  refine raiseNew_under hh hne ⟨_, _, he', rfl, Nat.le_of_ble_eq_true rfl⟩ h1' hd h2 (hE _ (fun b hb => ?_) ?_)
  · rw [Heap.get?_update_other _ _ hb.symm, Heap.get?_update_other _ _ hb.symm, Heap.get?_update_other _ _ hb.symm]
  · exact Heap.get?_update_self _ he' rfl

theorem raise_from {x : Expr} {pos cp : Pos} {ck : Nat} {Q : Flow → Shared → Prop} {e1 : Addr} (hh : A.handled = some (.ref e1))
    (h : wpAny (model prog w) A (eval x env) (fun v s₁ => ∃ e t o vs, v = .ref e ∧ s₁.heap.get? e = some (attrObj t) ∧ e ≠ e1 ∧ s₁.heap.get? e1 = some o ∧ o.data = .fields vs ∧ vs[2]? = some .none ∧
      ∀ h', (∀ b, b ≠ e → h'.get? b = s₁.heap.get? b) → h'.get? e = some (attrFrom t e1) → E (.ref e) { s₁ with heap := h' }) E s) :
    wpAny (model prog w) A (exec (.Raise (some x) (some (.Constant .none ck cp)) pos) env) Q E s := by
  rw [arm_exec_Raise]
  show wpAny (model prog w) A (do standAt pos; raiseStmt env (some (do let v ← eval x env; standAt pos; pure v)) (some (do standAt pos; pure .none))) Q E s
  exact wpAny_bind (wpAny_standAt (raiseStmt_from hh (wpAny_bind (wpAny_mono h (fun v s₁ h₁ => wpAny_bind (wpAny_standAt (wpAny_pure h₁))) fun _ _ x => x))))
end
end Mine
end
section
open PySem PySem.W PySem.Calls PyProof.Rows
open PySem.Builtin PySem.Builtin.Str
set_option Elab.async false
set_option maxRecDepth 100000
set_option maxHeartbeats 4000000
namespace Mine
theorem conv_r {M : Model} {A : Around} {E : Value → Shared → Prop} {s : Shared} {Q : Value → Shared → Prop} {id : String} {o v : Value} {c : Option Nat} (ho : o = v) (hc : c = some 114) (h : wpAny M A (pyReprObj v) Q E s) : wpAny M A (convertField id o c) Q E s := by
  subst ho; subst hc; exact h
section
variable {prog : Program} {w : World} {A : Around} {E : Value → Shared → Prop} {h : Heap} {g : Array GenState} {d : Drawn} {t : Nat} {os : OsState} {K : Frag}

theorem fmt_attr {nm : PySem.Str} {tk tX : Tok} {x : Addr} {n : Nat} {r : PySem.Str} {Q : Value → Shared → Prop} (R : RepOf h K n (.ref x) r) (X : K.In h) (hu : A.units + n + 2 < cLine) (hn : n ≤ 8) (hl : (reprText nm).length ≤ 2000)
    (hq : ∀ u tk, Q (.str (PySem.Str.ofString "Can't get attribute " ++ reprText nm ++ PySem.Str.ofString " on " ++ r) u) ⟨h, g, d, tk, os⟩) :
    wpAny (model prog w) A (call (.builtin "str.format") [.str (PySem.Str.ofString "Can't get attribute {!r} on {!r}") tX, .str nm tk, .ref x]) Q E ⟨h, g, d, t, os⟩ := by
  have hr := R.len
  refine wpAny_call_entry F.slot_str_format_m (typeIs_str _ _ _) F.entry_str_format_m ?_ (KFm.args_3 _ _ _)
  unfold Builtin.«str.format»
  refine wpAny_bind (wpAny_of_eq (a := (_, _, _)) rfl ?_)
  refine wpAny_bind ?_
  unfold Builtin.Str.buildString
  refine wpAny_bind ?_
  rw [KPc.range_list]
  refine KFm.start ?_
  intro _ _
  refine KPc.turn ?_
  kpc_if
  kpc_check
  refine wpAny_bind (KFm.field_auto (by kfm_num) (by rfl) ?_)
  refine wpAny_bind (wpAny_holding ?_)
  refine conv_r rfl rfl (wpAny_pyReprObj_str ?_ (by rw [sizeLine_eq]; omega))
  kpc_if
  refine wpAny_bind (wpAny_pure ?_)
  refine wpAny_bind (wpAny_holding (wpAny_of_eq (KFm.formatOf_str _ _) ?_))
  refine wpAny_bind (wpAny_of_eq (a := some _) rfl ?_)
  refine wpAny_pure ?_
  refine KFm.after_field (K := 2000) (by kpc_g) (by kpc_text) (by kpc_obj) hl (by kpc_obj) (by kfm_cat2) (by kfm_rest) ?_
  intro _ _
  refine KPc.turn ?_
  kpc_if
  kpc_check
  refine wpAny_bind (KFm.field_auto (by kfm_num) (by rfl) ?_)
  refine wpAny_bind (wpAny_holding ?_)
  refine conv_r rfl rfl (rep_obj R X (show A.units + 1 + n + 1 < cLine by omega) hn fun _ _ => ?_)
  kpc_if
  refine wpAny_bind (wpAny_pure ?_)
  refine wpAny_bind (wpAny_holding (wpAny_of_eq (KFm.formatOf_str _ _) ?_))
  refine wpAny_bind (wpAny_of_eq (a := some _) rfl ?_)
  refine wpAny_pure ?_
  refine KFm.after_field (K := 2000) (by kpc_g) (by kpc_text) (by kpc_obj) (show r.length ≤ 2000 by omega) (by kpc_obj) (by kfm_cat2) (by kfm_rest) ?_
  intro _ _
  refine KPc.turn ?_
  kpc_if
  refine wpAny_pure ?_
  refine wpAny_pure ?_
  refine KPc.finish_ok (by kpc_g) (by decide +kernel) (by first | kpc_text | exact rfl) fun u tk => ?_
  refine ⟨_, rfl, ?_⟩
  exact hq _ _
theorem fmt_local {nm : PySem.Str} {tk tX : Tok} {x : Addr} {n : Nat} {r : PySem.Str} {Q : Value → Shared → Prop} (R : RepOf h K n (.ref x) r) (X : K.In h) (hu : A.units + n + 2 < cLine) (hn : n ≤ 8) (hl : (reprText nm).length ≤ 2000)
    (hq : ∀ u tk, Q (.str (PySem.Str.ofString "Can't get local attribute " ++ reprText nm ++ PySem.Str.ofString " on " ++ r) u) ⟨h, g, d, tk, os⟩) :
    wpAny (model prog w) A (call (.builtin "str.format") [.str (PySem.Str.ofString "Can't get local attribute {!r} on {!r}") tX, .str nm tk, .ref x]) Q E ⟨h, g, d, t, os⟩ := by
  have hr := R.len
  refine wpAny_call_entry F.slot_str_format_m (typeIs_str _ _ _) F.entry_str_format_m ?_ (KFm.args_3 _ _ _)
  unfold Builtin.«str.format»
  refine wpAny_bind (wpAny_of_eq (a := (_, _, _)) rfl ?_)
  refine wpAny_bind ?_
  unfold Builtin.Str.buildString
  refine wpAny_bind ?_
  rw [KPc.range_list]
  refine KFm.start ?_
  intro _ _
  refine KPc.turn ?_
  kpc_if
  kpc_check
  refine wpAny_bind (KFm.field_auto (by kfm_num) (by rfl) ?_)
  refine wpAny_bind (wpAny_holding ?_)
  refine conv_r rfl rfl (wpAny_pyReprObj_str ?_ (by rw [sizeLine_eq]; omega))
  kpc_if
  refine wpAny_bind (wpAny_pure ?_)
  refine wpAny_bind (wpAny_holding (wpAny_of_eq (KFm.formatOf_str _ _) ?_))
  refine wpAny_bind (wpAny_of_eq (a := some _) rfl ?_)
  refine wpAny_pure ?_
  refine KFm.after_field (K := 2000) (by kpc_g) (by kpc_text) (by kpc_obj) hl (by kpc_obj) (by kfm_cat2) (by kfm_rest) ?_
  intro _ _
  refine KPc.turn ?_
  kpc_if
  kpc_check
  refine wpAny_bind (KFm.field_auto (by kfm_num) (by rfl) ?_)
  refine wpAny_bind (wpAny_holding ?_)
  refine conv_r rfl rfl (rep_obj R X (show A.units + 1 + n + 1 < cLine by omega) hn fun _ _ => ?_)
  kpc_if
  refine wpAny_bind (wpAny_pure ?_)
  refine wpAny_bind (wpAny_holding (wpAny_of_eq (KFm.formatOf_str _ _) ?_))
  refine wpAny_bind (wpAny_of_eq (a := some _) rfl ?_)
  refine wpAny_pure ?_
  refine KFm.after_field (K := 2000) (by kpc_g) (by kpc_text) (by kpc_obj) (show r.length ≤ 2000 by omega) (by kpc_obj) (by kfm_cat2) (by kfm_rest) ?_
  intro _ _
  refine KPc.turn ?_
  kpc_if
  refine wpAny_pure ?_
  refine wpAny_pure ?_
  refine KPc.finish_ok (by kpc_g) (by decide +kernel) (by first | kpc_text | exact rfl) fun u tk => ?_
  refine ⟨_, rfl, ?_⟩
  exact hq _ _
end
end Mine
end
section
open PySem PySem.W PySem.Calls PyProof.Rows
open PySem.Builtin PySem.Builtin.ObjectAttr
set_option Elab.async false
set_option maxRecDepth 100000
set_option maxHeartbeats 4000000
namespace Mine

/-- a first traceback entry is put under an exception -/
structure Noted (fs : List Addr) (h h' : Heap) (e : Addr) (oe : Obj) (fl : Value) : Prop where
  keep : ∀ b o, b ≠ e → b ∉ fs → h.get? b = some o → h'.get? b = some o
  slots : ∀ b o, b ≠ e → h.get? b = some o → ∃ sl, h'.get? b = some { o with slots := sl }
  tb : ∃ tb ot ts, h.get? tb = none ∧ tb ≠ e ∧ h'.get? e = some (oe.mapFields (·.setIfInBounds 1 (.ref tb))) ∧ h'.get? tb = some ot ∧ ot.data = .fields ts ∧ ts[3]? = some fl

section
variable {M : Model} {A : Around} {E : Value → Shared → Prop} {s : Shared}
theorem note_new {base : Heap} {env : Env} {outer : List Env} {L e : Addr} {oe : Obj} {vs : Array Value} {Q : Unit → Shared → Prop}
    (hfr : A.frames = some (env :: outer)) (hl : s.heap.FunFrames base (env :: outer)) (hf : env.frame = some L) (he : s.heap.get? e = some oe) (hd : oe.data = .fields vs) (h1 : vs[1]? = some .none)
    (h : ∀ h', Noted ((env :: outer).filterMap (·.frame)) s.heap h' e oe (rawInt L) → Q () { s with heap := h' }) : wpAny M A (noteFrame (.ref e) env) Q E s := by
  have hsz : 1 < vs.size := (Array.getElem?_eq_some_iff.mp h1).1
  have hef : e ∉ (env :: outer).filterMap (·.frame) := fun hm => by
    obtain ⟨_, o, ho, hn⟩ := hl.mem hm
    rw [he] at ho
    cases ho
    exact hn vs hd
  unfold noteFrame
  simp only [hf]
  refine wpAny_bind (wpAny_field he hd h1 ?_)
  rw [if_neg (by decide)]
  refine wpAny_bind (wpAny_frameOf_fun hfr hl hf fun h₁ S => ?_)
  refine wpAny_bind (wpAny_entryPlaceOf fun pl hpl => ?_)
  unfold EntryCells.newEntry newFields
  refine wpAny_bind (wpAny_newObj_type ?_ (hpl.sizeOk5 _ _ _ _ _))
  have e1 : h₁.get? e = some oe := (S.2.1 e hef).trans he
  have eT : h₁.objs.size ≠ e := Nat.ne_of_gt (Heap.lt_size e1)
  have nT : s.heap.get? h₁.objs.size = none := Heap.get?_none_of_le (Nat.le_of_eq S.1.symm)
  have e2 := Heap.get?_push_of_some (h := h₁) { cls := .type "traceback", dict := none, data := .fields ([Value.none, .ref L, .none, rawInt L, .none] ++ (if pl.isEmpty then List.replicate 6 Value.none else pl)).toArray } e1
  refine wpAny_setField e2 hd hsz (h _ ⟨fun b o hb hm hg => ?_, fun b o hb hg => ?_, h₁.objs.size, _, _, nT, eT, Heap.get?_update_self _ e2 (Obj.isFreed_of_fields (Obj.data_mapFields hd _)), (Heap.get?_update_other _ _ eT.symm).trans (Heap.get?_push_size h₁ rfl), rfl, ?_⟩)
  · exact (Heap.get?_update_other _ _ (Ne.symm hb)).trans (Heap.get?_push_of_some _ ((S.2.1 b hm).trans hg))
  · obtain ⟨sl, hs⟩ := S.2.2 b o hg
    exact ⟨sl, (Heap.get?_update_other _ _ (Ne.symm hb)).trans (Heap.get?_push_of_some _ hs)⟩
  · rcases hpl with rfl | ⟨_, _, _, _, _, _, _, rfl⟩ <;> simp

theorem note_land {fs : List Addr} {h : Heap} {e : Addr} {oe : Obj} {vs : Array Value} {fl : Value} {Q : Unit → Shared → Prop} (N : Noted fs h s.heap e oe fl) (hd : oe.data = .fields vs) (hsz : 1 < vs.size) (hold : ∀ b, h.get? b = none → b ∉ fs)
    (hq : ∀ h', Noted fs h h' e oe .none → Q () { s with heap := h' }) : wpAny M A (setFlight (.ref e) none) Q E s := by
  obtain ⟨tb, ot, ts, n1, n2, n3, n4, n5, n6⟩ := N.tb
  have h3 : 3 < ts.size := (Array.getElem?_eq_some_iff.mp n6).1
  refine wpAny_setFlight_none n3 (Obj.data_mapFields hd _) (by simp [hsz]) n4 n5 h3 (hq _ ⟨fun b o hb hm hg => ?_, fun b o hb hg => ?_, tb, _, _, n1, n2, ?_, Heap.get?_update_self _ n4 (Obj.isFreed_of_fields (Obj.data_mapFields n5 _)), Obj.data_mapFields n5 _, by simp [h3]⟩)
  · have : tb ≠ b := fun z => by rw [← z, n1] at hg; cases hg
    exact (Heap.get?_update_other _ _ this).trans (N.keep b o hb hm hg)
  · have : tb ≠ b := fun z => by rw [← z, n1] at hg; cases hg
    obtain ⟨sl, hs⟩ := N.slots b o hb hg
    exact ⟨sl, (Heap.get?_update_other _ _ this).trans hs⟩
  · exact (Heap.get?_update_other _ _ n2).trans n3
end

theorem noted_fr {fs : List Addr} {h₀ h h' : Heap} {L e : Addr} {oe : Obj} {fl : Value} {m : Str → Option Value} (N : Noted fs h h' e oe fl) (F : Fr h₀ L h m) (hen : h₀.get? e = none) (hL : L ≠ e) (hfs : ∀ b ∈ fs, h₀.get? b = none) : Fr h₀ L h' m := by
  obtain ⟨⟨o, es, ep, ho, hd, r⟩, hk, ha⟩ := F
  refine ⟨?_, fun b o hb => N.keep b o (fun z => ?_) (fun hm => ?_) (hk b o hb), ha⟩
  · obtain ⟨sl, hs⟩ := N.slots L o hL ho
    exact ⟨_, es, ep, hs, hd, r⟩
  · rw [z, hen] at hb; cases hb
  · rw [hfs b hm] at hb; cases hb
theorem noted_news {fs : List Addr} {h₀ h h' : Heap} {L e : Addr} {oe : Obj} {fl : Value} {news : List (Addr × Obj)} (N : Noted fs h h' e oe fl) (Nw : News h₀ L h news) (hen : ∀ p ∈ news, p.1 ≠ e) (hfs : ∀ p ∈ news, p.1 ∉ fs) : News h₀ L h' news := fun p hp =>
  ⟨N.keep _ _ (hen p hp) (hfs p hp) (Nw p hp).1, (Nw p hp).2⟩
theorem fr_none {h₀ h : Heap} {L : Addr} {m : Str → Option Value} (F : Fr h₀ L h m) : h₀.get? L = none := Heap.get?_none_of_le F.above
theorem fr_fun {h₀ h : Heap} {L : Addr} {m : Str → Option Value} (F : Fr h₀ L h m) {n : Str} {sc : Scope} {a : Addr} {cd : Value} {outer : List Env} (hk : sc.kind = .function) (r : h.FunFrames h₀ outer) : h.FunFrames h₀ (envOf n sc L a cd :: outer) := by
  obtain ⟨o, es, ep, ho, hd, _⟩ := F.ns
  refine ⟨?_, ⟨L, o, rfl, fr_none F, ho, fun vs q => by rw [hd] at q; cases q⟩, r⟩
  show sc.kind ≠ .module
  rw [hk]; decide

section
variable {prog : Program} {w : World} {A₀ : Around} {E : Value → Shared → Prop} {s' : Shared} {h₀ h : Heap} {L L' a la e : Addr} {m mL : Str → Option Value} {name ln nm : Str} {scope lsc : Scope} {cd lcd o : Value}
  {b₀ : Stmt} {suite : List Stmt} {pos np : Pos} {rest : List ExceptHandler} {Q : Flow → Shared → Prop} {news : List (Addr × Obj)} {p : Program} {loose : List Str} {mg mb : Str → Option Value}

theorem caught_attr (hfr : A₀.frames = some [envOf ln lsc L la lcd]) (hkl : lsc.kind = .function) (F : Fr h₀ L' h m) (FL : Fr h₀ L h mL) (N : News h₀ L' h news) (hap : ∀ q ∈ news, q.1 ≠ L) (hx : Heap.NewAttrErr h s'.heap e o nm)
    (T : TopRead p loose mg mb h₀)
    (k : ∀ h', Fr h₀ L' h' m → Fr h₀ L h' mL → News h₀ L' h' news → (∃ o vs, h'.get? e = some o ∧ o.data = .fields vs ∧ vs[2]? = some .none) →
      wpAny (model prog w) ((A₀.deeper (envOf name scope L' a cd)).mark (some (.ref e))) (execs (b₀ :: suite) (envOf name scope L' a cd)) Q E { s' with heap := h' })
    (hk : scope.kind = .function := by rfl) (hxk : (envOf name scope L' a cd).kindOf "AttributeError" = some .globalImplicit := by rfl)
    (h2 : ("AttributeError" : Str) ∉ loose := by decide +kernel) (h3 : ("AttributeError" : Str) ∉ (recsOf p).map (·.name) := by decide +kernel) (h4 : ("AttributeError" : Str) ∉ (litsOf p).map (·.1) := by decide +kernel) (h4c : ("AttributeError" : Str) ∉ (clssOf p loose).map (·.name) := by decide +kernel)
    (hE : PassesOwnAt (model prog w) ((A₀.deeper (envOf name scope L' a cd)).mark (some (.ref e))) (A₀.deeper (envOf name scope L' a cd)) (envOf name scope L' a cd) E := by passes_own) :
    wpAny (model prog w) (A₀.deeper (envOf name scope L' a cd)) (noteFrame (.ref e) (envOf name scope L' a cd))
      (fun _ s₂ => wpAny (model prog w) (A₀.deeper (envOf name scope L' a cd)) (setFlight (.ref e) none) (fun _ s₃ =>
        wpAny (model prog w) (A₀.deeper (envOf name scope L' a cd)) (handleBy (.ref e) (envOf name scope L' a cd) (.ExceptHandler (some (.Name "AttributeError" np)) none (b₀ :: suite) pos :: rest)) Q E s₃) E s₂) E s' := by
  obtain ⟨t, u, he⟩ := hx.there
  have K := hx.keeps
  have F₁ := F.keeps K
  have FL₁ := FL.keeps K
  have ff := fr_fun (n := name) (a := a) (cd := cd) F₁ hk (fr_fun (n := ln) (a := la) (cd := lcd) (outer := []) FL₁ hkl trivial)
  have hfs : ∀ b ∈ [L', L], h₀.get? b = none := fun b hb => by
    rcases List.mem_cons.mp hb with rfl | hb
    · exact fr_none F
    · rcases List.mem_cons.mp hb with rfl | hb
      · exact fr_none FL
      · cases hb
  have hns : ∀ q ∈ news, q.1 ∉ [L', L] := fun q hq hm => by
    rcases List.mem_cons.mp hm with z | hm
    · exact (N q hq).2.1 z
    · exact hap q hq (List.mem_singleton.mp hm)
  have hin : ∀ b, s'.heap.get? b = none → b ∉ [L', L] := fun b hb hm => by
    rcases List.mem_cons.mp hm with rfl | hm
    · obtain ⟨_, _, _, q, _⟩ := F₁.ns; rw [hb] at q; cases q
    · obtain rfl := List.mem_singleton.mp hm
      obtain ⟨_, _, _, q, _⟩ := FL₁.ns; rw [hb] at q; cases q
  have hes : ∀ q ∈ news, q.1 ≠ e := fun q hq z => by have := (N q hq).1; rw [z, hx.new] at this; cases this
  have hL'e : L' ≠ e := fun z => by obtain ⟨_, _, _, q, _⟩ := F.ns; rw [z, hx.new] at q; cases q
  have hLe : L ≠ e := fun z => by obtain ⟨_, _, _, q, _⟩ := FL.ns; rw [z, hx.new] at q; cases q
  have he₀ : h₀.get? e = none := by
    cases q : h₀.get? e with
    | none => rfl
    | some o => have := F.keep _ _ q; rw [hx.new] at this; cases this
  have N₁ : News h₀ L' s'.heap news := fun q hq => ⟨K _ _ (N q hq).1, (N q hq).2⟩
  refine note_new (Around.frames_deeper hfr) ff rfl he rfl rfl fun h₂ NT₂ => ?_
  refine note_land (h := s'.heap) NT₂ rfl (by simp) hin fun h₃ NT₃ => ?_
  have F₃ := noted_fr NT₃ F₁ he₀ hL'e hfs
  obtain ⟨tb, ot, ts, n1, n2, n3, n4, n5, n6⟩ := NT₃.tb
  refine wpAny_handleBy_builtin (X := "AttributeError") (T := "AttributeError") (b := true) attr_isExc (by rw [show ((Manifest.find? "AttributeError").elim "type" fun x => x.metatype) = "type" from by kernel_rfl, isSubtype_type]; kernel_rfl) sub_AttributeError
    (ld_builtin_at F₃ T.g (T.free _ (by decide +kernel) h2 h3 h4 h4c) T.b ((T.builtins _ (by decide +kernel)).trans PyProof.Rows.Boot.«AttributeError») ⟨rfl, ⟨_, n3, rfl⟩, ?_⟩ hk hxk (by decide))
  refine note_land (h := s'.heap) NT₃ rfl (by simp) hin fun h₄ NT₄ => ?_
  obtain ⟨tb, ot, ts, n1, n2, n3, n4, n5, n6⟩ := NT₄.tb
  exact wpAny_passesOwnAt hE (k h₄ (noted_fr NT₄ F₁ he₀ hL'e hfs) (noted_fr NT₄ FL₁ he₀ hLe hfs) (noted_news NT₄ N₁ hes hns) ⟨_, _, n3, rfl, rfl⟩)
end
end Mine
end
section
open PySem PySem.W PySem.Calls PyProof.Rows
open PySem.Builtin PySem.Builtin.ObjectAttr
set_option Elab.async false
set_option maxRecDepth 100000
set_option maxHeartbeats 4000000
namespace Mine

section
variable {prog : Program} {w : World} {A : Around} {E : Value → Shared → Prop} {s : Shared} {env : Env} {h₀ : Heap} {x : Str} {body : List Stmt} {Q : Flow → Shared → Prop}
/-- a loop over a list that lies outside the ledger -/
theorem iter_any {l : Addr} {vs : List Value} {nn : Nat} {m₀ : Str → Option Value} {news : List (Addr × Obj)} (J : Nat → (Str → Option Value) → List (Addr × Obj) → Prop)
    (hh : A.handled = none) (hl : s.heap.get? l = some (listOf vs.toArray nn)) (hlL : l ≠ env.locals) (hap : ∀ p ∈ news, p.1 ≠ l) (F : Fr h₀ env.locals s.heap m₀) (N : News h₀ env.locals s.heap news) (hj : J 0 m₀ news)
    (turn : ∀ i v m₁ news₁ h tk own, vs[i]? = some v → news₁.map (·.1) = news.map (·.1) → OwnOff own (news.map (·.1)) → J i m₁ news₁ → Fr h₀ env.locals h (fun y => if y = x then some v else m₁ y) → News h₀ env.locals h (news₁ ++ own) →
      wpAny (model prog w) A (execs body env) (InvPostN h₀ env.locals (J (i + 1)) own (news.map (·.1)) { s with heap := h, toks := tk } Q) E { s with heap := h, toks := tk })
    (done : ∀ m₁ news₁ h tk, J vs.length m₁ news₁ → Fr h₀ env.locals h m₁ → News h₀ env.locals h news₁ → Q .next { s with heap := h, toks := tk }) :
    wpAny (model prog w) A (pyIter (.ref l)) (fun it s₂ => LoopAtV prog w A h₀ env x body Q E it s₂) E s := by
  have hls : s.heap.IsList l vs.toArray := ⟨_, hl, rfl, nn, rfl⟩
  have hne : l ≠ s.heap.objs.size := Nat.ne_of_lt (Heap.lt_size hl)
  refine wpAny_pyIter_list hls ?_
  have W := Walks.list (prog := prog) (w := w) hh s.heap.objs.size l hne vs.toArray
  refine loop_invN J W ?_ ?_ ?_ ?_ ⟨⟨_, Heap.get?_push_size _ rfl, rfl, rfl⟩, hls.at fun o e => Heap.get?_push_of_some _ e⟩ (F.push _) (fun p hp => ⟨Heap.get?_push_of_some _ (N p hp).1, (N p hp).2⟩) hj ?_ ?_
  · intro hm
    rcases List.mem_cons.mp hm with e | hm
    · exact absurd F.ns.lt (e ▸ Nat.lt_irrefl _)
    · exact hlL (List.mem_singleton.mp hm).symm
  · intro b hb
    rw [List.mem_singleton.mp hb]
    exact next_is_new F
  · intro p hp hI
    exact absurd (Heap.lt_size (N p hp).1) ((List.mem_singleton.mp hI) ▸ Nat.lt_irrefl _)
  · intro p hp hI
    rcases List.mem_cons.mp hI with e | hm
    · exact absurd (Heap.lt_size (N p hp).1) (e ▸ Nat.lt_irrefl _)
    · exact hap p hp (List.mem_singleton.mp hm)
  · intro i v m₁ news₁ h tk own hi hv ha ho hJ F₁ N₁
    exact turn i v m₁ news₁ h tk own (by simpa using hv) ha ho hJ F₁ N₁
  · intro m₁ news₁ h tk hJ F₁ N₁
    exact done m₁ news₁ h tk (by simpa using hJ) F₁ N₁
end

theorem lookIn_map {od : Obj} {mA : Str → Option Value} (x : ObjMap od mA) (y : Str) : lookIn y od = some (mA y) := by
  obtain ⟨es, ep, hd, hs, _, hf⟩ := x
  unfold lookIn
  rw [hd]
  dsimp only
  have hy := hf y
  unfold nsFind findBy at hy
  rw [← Array.find?_toList] at hy
  cases q : es.toList.find? (fun e => e.key.isStr y) with
  | some e => rw [q] at hy; rw [← hy]; rfl
  | none =>
    rw [q] at hy
    rw [← hy]
    have : es.toList.any (·.refKey) = false := by
      rw [List.any_eq_false]
      intro e he
      obtain ⟨n, t, hk⟩ := hs e (by simpa using he)
      simp [DictEntry.refKey, hk]
    dsimp only
    rw [this]
    rfl

/-- an own exception class, such that the names asked for are nothing of its own -/
structure ClsOk (K : Frag) (C : Addr) (names : List Str) : Prop where
  obj : ∃ nm q N bs sn sub ab col dd k0 k1 k2 k3 k5, K.lookup C = some (clsObj nm q C N bs sn sub ab col dd k0 k1 k2 k3 k5) ∧ nm.cps.foldl (fun k c => k + (Str.utf8Of c).length) 0 ≤ 100 ∧ nm.toString.length ≤ 20
  ga : findIn K (.ref C) "__getattribute__" = some (some (.builtin "BaseException.__getattribute__"))
  gt : findIn K (.ref C) "__getattr__" = some none
  hd : hasDictIn K C = true
  no : ∀ y ∈ names, findIn K (.ref C) y = some none
  cn : ∀ y ∈ names, copiedNames.contains y = false

/-- a thing of the ledger whose attributes are told by a map -/
def NodeIn (K : Frag) (news : List (Addr × Obj)) (names : List Str) (att : Addr → Str → Option Addr) (x : Addr) : Prop :=
  ∃ C tp dx, ClsOk K C names ∧ (x, excObj C tp dx) ∈ news ∧ match dx with
    | none => ∀ y, att x y = none
    | some d => ∃ od, (d, od) ∈ news ∧ ObjMap od fun y => (att x y).map Value.ref

section
variable {prog : Program} {w : World} {A : Around} {E : Value → Shared → Prop} {s : Shared} {h₀ : Heap} {L x : Addr} {m : Str → Option Value} {news : List (Addr × Obj)} {K : Frag} {names : List Str} {att : Addr → Str → Option Addr} {y : Str} {u : Tok} {Q : Value → Shared → Prop}

theorem node_find (Nd : NodeIn K news names att x) (N : News h₀ L s.heap news) (hy : y ∈ names) :
    ∃ C tp dx od, ClsOk K C names ∧ s.heap.get? x = some (excObj C tp dx) ∧ InstAt s.heap x (excObj C tp dx) C od ∧ findObj K C od y = some (match att x y with | some z => .value (.ref z) | none => .missing) := by
  obtain ⟨C, tp, dx, ok, hx, hd⟩ := Nd
  have hx' := (N _ hx).1
  obtain ⟨cd, hc, hcd⟩ := any_some ok.hd
  cases dx with
  | none =>
    refine ⟨C, tp, none, none, ok, hx', exc_instAt hx' trivial, ?_⟩
    rw [hd y]
    unfold findObj
    have ho : PySem.W.ownOf cd none y = some none := by unfold PySem.W.ownOf; rw [if_pos hcd]
    rw [hc, Option.bind_some, ok.no y hy, Option.bind_some]
    simp only [Option.bind_some, ho, ok.cn y hy, Bool.false_and, Bool.false_eq_true, if_false]
  | some d =>
    obtain ⟨od, hd1, hm⟩ := hd
    refine ⟨C, tp, some d, some od, ok, hx', exc_instAt hx' (N _ hd1).1, ?_⟩
    unfold findObj
    have ho : PySem.W.ownOf cd (some od) y = some ((att x y).map Value.ref) := by unfold PySem.W.ownOf; rw [if_pos hcd]; exact lookIn_map hm y
    rw [hc, Option.bind_some, ok.no y hy, Option.bind_some]
    simp only [Option.bind_some, ho]
    cases att x y with
    | some z => rfl
    | none => simp only [Option.map_none, ok.cn y hy, Bool.false_and, Bool.false_eq_true, if_false]

theorem getattr_hit {z : Addr} (Nd : NodeIn K news names att x) (F : Fr h₀ L s.heap m) (X₀ : K.In h₀) (N : News h₀ L s.heap news) (hy : y ∈ names) (hz : att x y = some z) (hq : Q (.ref z) s) :
    wpAny (model prog w) A (call (.builtin "getattr") [.ref x, .str y u]) Q E s := by
  obtain ⟨C, tp, dx, od, ok, hx, I, hf⟩ := node_find Nd N hy
  obtain ⟨nm, q, N', bs, sn, sub, ab, col, dd, k0, k1, k2, k3, k5, hC, _⟩ := ok.obj
  rw [hz] at hf
  refine kbm_getattr2 ?_
  obtain ⟨hp, g, d, t, os⟩ := s
  exact get_found (X₀.keeps F.keep) hC ok.ga ok.gt hx I hf rfl hq

theorem getattr_miss (Nd : NodeIn K news names att x) (F : Fr h₀ L s.heap m) (X₀ : K.In h₀) (N : News h₀ L s.heap news) (hy : y ∈ names) (hz : att x y = none) (hl : y.length ≤ 100) (hh : A.handled = none)
    (hq : ∀ h' tk e, Heap.NewAttrErr s.heap h' e (.ref x) y → E (.ref e) { s with heap := h', toks := tk }) :
    wpAny (model prog w) A (call (.builtin "getattr") [.ref x, .str y u]) Q E s := by
  obtain ⟨C, tp, dx, od, ok, hx, I, hf⟩ := node_find Nd N hy
  obtain ⟨nm, q, N', bs, sn, sub, ab, col, dd, k0, k1, k2, k3, k5, hC, hn1, hn2⟩ := ok.obj
  rw [hz] at hf
  refine kbm_getattr2 ?_
  obtain ⟨hp, g, d, t, os⟩ := s
  exact get_miss (A := A.in1) (X₀.keeps F.keep) hC ok.ga ok.gt hx I hf hn1 hn2 hl hh hq
end
end Mine
end
section
open PySem PySem.W PySem.Calls PyProof.Rows
set_option Elab.async false
set_option maxRecDepth 100000
set_option maxHeartbeats 4000000
namespace Mine
section
variable {prog : Program} {w : World} {A : Around} {E : Value → Shared → Prop} {s : Shared} {K : Frag} {L : Addr} {h₀ : Heap} {m : Str → Option Value} {news : List (Addr × Obj)} {Q : Value → Shared → Prop}

/-- the frame of the caller, while a callee runs: it lies in the ledger -/
def Wait (h₀ : Heap) (L : Addr) (m : Str → Option Value) (oL : Obj) : Prop := h₀.objs.size ≤ L ∧ (∃ es ep, oL.data = .dict es ep) ∧ ∀ (h : Heap) sl, h.get? L = some { oL with slots := sl } → h.Ns L m
theorem wait_of {h₀ h : Heap} {L : Addr} {m : Str → Option Value} (F : Fr h₀ L h m) : ∃ oL, h.get? L = some oL ∧ Wait h₀ L m oL := by
  obtain ⟨oL, es, ep, hL, hd, r⟩ := F.ns
  exact ⟨oL, hL, F.above, ⟨es, ep, hd⟩, fun h sl e => ⟨_, es, ep, e, hd, r⟩⟩
theorem Wait.fr {h₀ h : Heap} {L L' : Addr} {m m' : Str → Option Value} {oL : Obj} {sl : Array (Option Value)} (W : Wait h₀ L m oL) (F : Fr h₀ L' h m') (e : h.get? L = some { oL with slots := sl }) : Fr h₀ L h m := ⟨W.2.2 h sl e, F.keep, W.1⟩
theorem wait_news {h₀ h : Heap} {L L' : Addr} {news : List (Addr × Obj)} (N : News h₀ L' h news) (hap : ∀ p ∈ news, p.1 ≠ L) : News h₀ L h news := fun p hp => ⟨(N p hp).1, hap p hp, (N p hp).2.2⟩

/-- a plain def of the written-out part is called; the base stays what it was -/
theorem enter_in {name qual : Str} {params : Arguments} {body : List Stmt} {scope : Scope} {dV kV doc pm cdv ct oc : Value} {an od : Option Addr} {osl : Array (Option Value)} {f : Addr} {vals : List Value} {binds : List (Str × Value)}
    (F : Fr h₀ L s.heap m) (X₀ : K.In h₀) (N : News h₀ L s.heap news) (hlim : h₀.NoLimit)
    (ho : K.lookup f = some ⟨oc, od, .func (fnOf name qual params body scope dV kV doc pm an cdv ct), osl⟩) (hcd : codeIn K cdv qual = true) (hroom : A.depth < recursionLimit)
    (hbind : BindsTo s (fnOf name qual params body scope dV kV doc pm an cdv ct) ⟨vals, []⟩ binds) (hloc : ∀ y ∈ binds, scope.names.lookup y.1 = some .local)
    (h : ∀ oL L' h₁, Wait h₀ L m oL → Fr h₀ L' h₁ (fun y => binds.reverse.lookup y) → News h₀ L' h₁ ((L, oL) :: news) →
      wpAny (model prog w) (A.deeper (envOf qual scope L' f cdv)) (execs body (envOf qual scope L' f cdv))
        (fun fl s' => Q (match fl with | .ret v => v | _ => .none) s')
        (fun e s' => wpAny (model prog w) (A.deeper (envOf qual scope L' f cdv)) (leaving (envOf qual scope L' f cdv) e) (fun _ s'' => E e s'') (fun e' s'' => E e' s'') s')
        { s with heap := h₁, toks := s.toks + binds.length })
    (hcell : ∀ x ∈ scope.names, x.2 ≠ .cell) (hco : scope.isCoroutine = false) (hgen : scope.isGenerator = false) (hk : scope.kind = .function) :
    wpAny (model prog w) A (call (.ref f) vals) Q E s := by
  have hl := hlim.keeps F.keep
  have hL : @LT.lt Nat _ L s.heap.objs.size := F.ns.lt
  obtain ⟨oL, hoL, W⟩ := wait_of F
  refine wpAny_call (codeAny_call_def hroom ((X₀.keeps F.keep) _ _ ho) rfl hl (codeRec_of (X₀.keeps F.keep) hcd) rfl hbind hcell hloc (fun h₁ hns hkeep => ?_) hco hgen hk)
  refine h oL s.heap.objs.size h₁ W ⟨hns, fun b o e => hkeep _ _ (F.keep b o e), Nat.le_trans F.above (Nat.le_of_lt hL)⟩ (fun p hp => ?_)
  rcases List.mem_cons.mp hp with rfl | hp
  · exact ⟨hkeep _ _ hoL, Nat.ne_of_lt hL, Heap.get?_none_of_le F.above⟩
  · exact ⟨hkeep _ _ (N p hp).1, Nat.ne_of_lt (Heap.lt_size (N p hp).1), (N p hp).2.2⟩
end
end Mine
end
section
open PySem PySem.W PySem.Calls PyProof.Rows
set_option Elab.async false
set_option maxRecDepth 100000
set_option maxHeartbeats 4000000
namespace Mine
def gaMsg (b : Bool) (name r : Str) : Str := (if b then Str.ofString "Can't get local attribute " else Str.ofString "Can't get attribute ") ++ reprText name ++ Str.ofString " on " ++ r
section
variable {prog : Program} {w : World} {A : Around} {E : Value → Shared → Prop} {s : Shared} {K : Frag} {L : Addr} {h₀ : Heap} {m : Str → Option Value} {news nx : List (Addr × Obj)} {Q : Value → Shared → Prop}

theorem fmt_k {nm r : Str} {tX tk : Tok} {x : Addr} {n : Nat} (F : Fr h₀ L s.heap m) (X₀ : K.In h₀) (N : News h₀ L s.heap nx) (hrep : ∀ h' L', News h₀ L' h' news → RepOf h' K n (.ref x) r) (hn : n ≤ 7) (hl : (reprText nm).length ≤ 2000) (hsub : ∀ p ∈ news, p ∈ nx) (hu : A.units + 9 < cLine)
    (hq : ∀ u tk, Q (.str (gaMsg false nm r) u) { s with toks := tk }) :
    wpAny (model prog w) A (call (.builtin "str.format") [.str (Str.ofString "Can't get attribute {!r} on {!r}") tX, .str nm tk, .ref x]) Q E s := by
  obtain ⟨h, g, d, t, os⟩ := s
  exact fmt_attr (hrep h L fun p hp => N p (hsub p hp)) (X₀.keeps F.keep) (by omega) (by omega) hl fun u tk => hq u tk
theorem fmtL_k {nm r : Str} {tX tk : Tok} {x : Addr} {n : Nat} (F : Fr h₀ L s.heap m) (X₀ : K.In h₀) (N : News h₀ L s.heap nx) (hrep : ∀ h' L', News h₀ L' h' news → RepOf h' K n (.ref x) r) (hn : n ≤ 7) (hl : (reprText nm).length ≤ 2000) (hsub : ∀ p ∈ news, p ∈ nx) (hu : A.units + 9 < cLine)
    (hq : ∀ u tk, Q (.str (gaMsg true nm r) u) { s with toks := tk }) :
    wpAny (model prog w) A (call (.builtin "str.format") [.str (Str.ofString "Can't get local attribute {!r} on {!r}") tX, .str nm tk, .ref x]) Q E s := by
  obtain ⟨h, g, d, t, os⟩ := s
  exact fmt_local (hrep h L fun p hp => N p (hsub p hp)) (X₀.keeps F.keep) (by omega) (by omega) hl fun u tk => hq u tk

theorem attr_k {msg : Str} {tk : Tok} (F : Fr h₀ L s.heap m) (N : News h₀ L s.heap nx)
    (hq : ∀ e t h', Fr h₀ L h' m → News h₀ L h' nx → MadeAttr s.heap h' e t [.str msg tk] → Q (.ref e) { s with heap := h' }) :
    wpAny (model prog w) A (call (.type "AttributeError") [.str msg tk]) Q E s := by
  obtain ⟨h, g, d, t, os⟩ := s
  exact mk_attr fun e t₁ h' M => hq e t₁ h' (F.keeps M.keeps) (fun p hp => ⟨M.keeps _ _ (N p hp).1, (N p hp).2⟩) M
end

/-- what is asked of a value that is raised -/
def RaiseAt (E : Value → Shared → Prop) (v : Value) (s₁ : Shared) : Prop := ∃ e t, v = .ref e ∧ s₁.heap.get? e = some (attrObj t) ∧ E (.ref e) s₁
def RaiseFrom (e1 : Addr) (E : Value → Shared → Prop) (v : Value) (s₁ : Shared) : Prop := ∃ e t o vs, v = .ref e ∧ s₁.heap.get? e = some (attrObj t) ∧ e ≠ e1 ∧ s₁.heap.get? e1 = some o ∧ o.data = .fields vs ∧ vs[2]? = some .none ∧
      ∀ h', (∀ b, b ≠ e → h'.get? b = s₁.heap.get? b) → h'.get? e = some (attrFrom t e1) → E (.ref e) { s₁ with heap := h' }
theorem raise_at {M : Model} {A : Around} {E : Value → Shared → Prop} {s : Shared} {env : Env} {x : Expr} {pos : Pos} {Q : Flow → Shared → Prop} (hh : A.handled = none)
    (h : wpAny M A (eval x env) (RaiseAt E) E s) : wpAny M A (exec (.Raise (some x) none pos) env) Q E s := raise_attr hh h
theorem raise_under {prog : Program} {w : World} {A : Around} {E : Value → Shared → Prop} {s : Shared} {env : Env} {x : Expr} {pos cp : Pos} {ck : Nat} {Q : Flow → Shared → Prop} {e1 : Addr} (hh : A.handled = some (.ref e1))
    (h : wpAny (model prog w) A (eval x env) (RaiseFrom e1 E) E s) : wpAny (model prog w) A (exec (.Raise (some x) (some (.Constant .none ck cp)) pos) env) Q E s := raise_from hh h

section
variable {M : Model} {A₀ : Around} {E : Value → Shared → Prop} {s' : Shared} {h₀ h : Heap} {L L' a la e t : Addr} {m mL : Str → Option Value} {name ln : Str} {scope lsc : Scope} {cd lcd : Value} {Q : Unit → Shared → Prop} {news : List (Addr × Obj)} {vs : List Value} {oe : Obj} {fs : Array Value}

/-- a new AttributeError leaves a helper that was entered over the base h₀ -/
theorem leave_attr (hfr : A₀.frames = some [envOf ln lsc L la lcd]) (hkl : lsc.kind = .function) (F : Fr h₀ L' h m) (FL : Fr h₀ L h mL) (N : News h₀ L h news) (N' : News h₀ L' h news) (hLL : L ≠ L')
    (hk' : ∀ b o, h.get? b = some o → s'.heap.get? b = some o) (hen : h.get? e = none) (htn : h.get? t = none)
    (he : s'.heap.get? e = some oe) (hoc : oe.cls = .type "AttributeError") (hd : oe.data = .fields fs) (h0 : fs[0]? = some (.ref t)) (h1 : fs[1]? = some .none) (ht : s'.heap.get? t = some (tupObj vs))
    (hQ : ∀ h', Fr h₀ L h' mL → RaisedK h₀ [envOf ln lsc L la lcd] e (.type "AttributeError") t vs news h' → Q () { s' with heap := h' }) (hk : scope.kind = .function := by rfl) :
    wpAny M (A₀.deeper (envOf name scope L' a cd)) (leaving (envOf name scope L' a cd) (.ref e)) Q E s' := by
  have hL'n := fr_none F
  have hLn := fr_none FL
  have st : ∀ b o, (hideAll h [L', L]).get? b = some o → s'.heap.get? b = some o := fun b o q => hk' b o (of_hideAll _ q)
  have ff : h.FunFrames (hideAll h [L', L]) (envOf name scope L' a cd :: [envOf ln lsc L la lcd]) :=
    funFrames_hide (fr_fun (n := name) (a := a) (cd := cd) F hk (fr_fun (n := ln) (a := la) (cd := lcd) (outer := []) FL hkl trivial)) fun env hm b hb => by
      rcases List.mem_cons.mp hm with rfl | hm
      · exact List.mem_cons.mpr (.inl (Option.some.inj hb).symm)
      · obtain rfl := List.mem_singleton.mp hm
        exact List.mem_cons.mpr (.inr (List.mem_singleton.mpr (Option.some.inj hb).symm))
  have fresh : ∀ b, h.get? b = none → (hideAll h [L', L]).get? b = none := fun b hb => by
    cases q : (hideAll h [L', L]).get? b with
    | none => rfl
    | some o => have := of_hideAll _ q; rw [hb] at this; cases this
  have base : h₀.StaysIn (hideAll h [L', L]) := fun b o q => hideAll_get _ (F.keep b o q) fun hm => by
    rcases List.mem_cons.mp hm with z | hm
    · rw [z, hL'n] at q; cases q
    · rw [List.mem_singleton.mp hm, hLn] at q; cases q
  have hl : ∀ q ∈ news, (hideAll h [L', L]).get? q.1 = some q.2 ∧ h₀.get? q.1 = none := fun q hq => ⟨hideAll_get _ (N q hq).1 fun hm => by
    rcases List.mem_cons.mp hm with z | hm
    · exact (N' q hq).2.1 z
    · exact (N q hq).2.1 (List.mem_singleton.mp hm), (N q hq).2.2⟩
  refine wpAny_leaving_firstW (base := hideAll h [L', L]) (a0 := .ref t) (Around.frames_deeper hfr) (ff.of_keeps fun b o hb _ => ⟨o, hk' b o hb, rfl⟩) rfl he st (fresh e hen) hd h1 h0 fun h' hL => ?_
  obtain ⟨k1, ⟨_, _, k2⟩, k3, k4⟩ := hL
  have FL' : Fr h₀ L s'.heap mL := FL.keeps hk'
  refine hQ h' ⟨Heap.UpToSlots.ns k4 FL'.ns, fun b o q => k1 b o (base b o q), FL.above⟩ ⟨⟨_, base, hl, ⟨k1, fresh e hen, k2, by rw [← hoc]; exact k3⟩, fresh t htn⟩, Heap.TupAt.of_slots ⟨_, _, ht, rfl, rfl⟩ k4⟩
end
end Mine
end
section
open PySem PySem.W PySem.Calls PyProof.Rows
set_option Elab.async false
set_option maxRecDepth 100000
set_option maxHeartbeats 4000000
namespace Mine
theorem fm_lo {a b : Int} (h : 0 < b) : 0 ≤ a.fmod b := Int.fmod_nonneg_of_pos a h
theorem fm_hi {a b : Int} (h : 0 < b) : a.fmod b < b := Int.fmod_lt_of_pos a h
section
variable {prog : Program} {w : World} {A : Around} {E : Value → Shared → Prop} {s : Shared} {L : Addr} {h₀ : Heap} {m : Str → Option Value} {news : List (Addr × Obj)} {Q : Value → Shared → Prop}
/-- some item of a list of the ledger -/
theorem item_menu {value slice : PySem.Expr} {l : Addr} {vs : List Value} {nn : Nat} {k : Int} {u : Tok} (N : News h₀ L s.heap news) (hm : (l, listOf vs.toArray nn) ∈ news) (h0 : 0 ≤ k) (h1 : k < vs.length) (h2 : vs.length ≤ 100) (h : ∀ v ∈ vs, Q v s)
    (hs : subscripted slice false (.ref l) (.int k u) = operate [.ref l, .int k u] (getItem (.ref l) (.int k u)) := by with_unfolding_all rfl) :
    wpAny (model prog w) A (subscriptTail value slice (.ref l) (.int k u)) Q E s := by
  have hl : s.heap.IsList l vs.toArray := ⟨_, (N _ hm).1, rfl, nn, rfl⟩
  have hk : k.toNat < vs.length := by omega
  exact tail_any hl.typeIs slot_list_getitem.lookup (wpAny_getItem_list hl h0 (by omega) (x := vs[k.toNat]) (by simp [hk]) (h _ (List.getElem_mem _))) hs
/-- some text of a list of texts of the ledger -/
theorem item_text {value slice : PySem.Expr} {l : Addr} {vs : List Value} {ys : List Str} {nn : Nat} {k : Int} {u : Tok} (N : News h₀ L s.heap news) (hm : (l, listOf vs.toArray nn) ∈ news) (h0 : 0 ≤ k) (h1 : k < vs.length) (h2 : vs.length ≤ 100) (hy : ∀ v ∈ vs, ∃ y t, v = .str y t ∧ y ∈ ys) (h : ∀ y t, y ∈ ys → Q (.str y t) s)
    (hs : subscripted slice false (.ref l) (.int k u) = operate [.ref l, .int k u] (getItem (.ref l) (.int k u)) := by with_unfolding_all rfl) :
    wpAny (model prog w) A (subscriptTail value slice (.ref l) (.int k u)) Q E s :=
  item_menu N hm h0 h1 h2 (fun v hv => by obtain ⟨y, t, rfl, hm⟩ := hy v hv; exact h y t hm) hs
end
section
variable {prog : Program} {w : World} {A : Around} {E : Value → Shared → Prop} {s : Shared} {env : Env} {h₀ : Heap} {x : Str} {body : List Stmt} {Q : Flow → Shared → Prop}
/-- a loop over a range from 0 by 1, any invariant over the ledger with its addresses kept -/
theorem iter_range_any {r : Addr} {b₀ : Int} {t₀ u₀ v₀ : Tok} {n : Nat} {m₀ : Str → Option Value} {news : List (Addr × Obj)} (J : Nat → (Str → Option Value) → List (Addr × Obj) → Prop)
    (hh : A.handled = none) (hr : IsRange s.heap r 0 b₀ 1 t₀ u₀ v₀) (hsmall : Builtin.Range.small 0 b₀ 1 = true) (hn : Builtin.Range.rangeSize 0 b₀ 1 = (n : Int)) (F : Fr h₀ env.locals s.heap m₀) (N : News h₀ env.locals s.heap news) (hj : J 0 m₀ news)
    (turn : ∀ i t m₁ news₁ h tk own, i < n → news₁.map (·.1) = news.map (·.1) → OwnOff own (news.map (·.1)) → J i m₁ news₁ → Fr h₀ env.locals h (fun y => if y = x then some (.int (i : Int) t) else m₁ y) → News h₀ env.locals h (news₁ ++ own) →
      wpAny (model prog w) A (execs body env) (InvPostN h₀ env.locals (J (i + 1)) own (news.map (·.1)) { s with heap := h, toks := tk } Q) E { s with heap := h, toks := tk })
    (done : ∀ m₁ news₁ h tk, J n m₁ news₁ → Fr h₀ env.locals h m₁ → News h₀ env.locals h news₁ → Q .next { s with heap := h, toks := tk }) :
    wpAny (model prog w) A (pyIter (.ref r)) (fun it s₂ => LoopAtV prog w A h₀ env x body Q E it s₂) E s := by
  refine wpAny_pyIter_range hr hsmall ?_
  have W : Walks prog w A s.heap.objs.size [s.heap.objs.size] [s.heap.objs.size] n (fun i v => i < n ∧ ∃ t, v = .int (0 + i * 1) t)
      (fun i h => IsRangeIter h s.heap.objs.size (0 + (i : Nat) * 1) ((n : Int) - (i : Nat)) 1) := (Walks.range hh _ 0 1 n).bound
  refine loop_invN J W ?_ ?_ ?_ ?_ (by show IsRangeIter _ _ _ _ _; rw [hn]; simpa using Heap.get?_push_size _ rfl) (F.push _) (fun p hp => ⟨Heap.get?_push_of_some _ (N p hp).1, (N p hp).2⟩) hj ?_ ?_
  · intro hm
    exact absurd F.ns.lt ((List.mem_singleton.mp hm) ▸ Nat.lt_irrefl _)
  · intro b hb
    rw [List.mem_singleton.mp hb]
    exact next_is_new F
  · intro p hp hI
    exact absurd (Heap.lt_size (N p hp).1) ((List.mem_singleton.mp hI) ▸ Nat.lt_irrefl _)
  · intro p hp hI
    exact absurd (Heap.lt_size (N p hp).1) ((List.mem_singleton.mp hI) ▸ Nat.lt_irrefl _)
  · rintro i v m₁ news₁ h tk own hi ⟨_, t, rfl⟩ ha ho hJ F₁ N₁
    refine turn i t m₁ news₁ h tk own hi ha ho hJ ?_ N₁
    have e : (0 + (i : Int) * 1) = (i : Int) := by omega
    rw [e] at F₁
    exact F₁
  · exact done
end
end Mine
end
section
open PySem PySem.W PySem.Calls PyProof.Rows
open PySem.Builtin
set_option Elab.async false
set_option maxRecDepth 100000
set_option maxHeartbeats 4000000
namespace Mine
section
variable {prog : Program} {w : World} {A : Around} {E : Value → Shared → Prop} {s : Shared} {L D : Addr} {h₀ : Heap} {m : Str → Option Value} {news news' : List (Addr × Obj)}

theorem get_last {init : List Value} {v0 : Value} {n : Nat} {t : Tok} {Q : Value → Shared → Prop} (N : News h₀ L s.heap news) (hm : (D, listOf (init ++ [v0]).toArray n) ∈ news) (hz : init.length ≤ 1000) (h : Q v0 s) :
    wpAny (model prog w) A (getItem (.ref D) (.int (-1) t)) Q E s := by
  have hl : s.heap.IsList D (init ++ [v0]).toArray := ⟨_, (N _ hm).1, rfl, n, rfl⟩
  have hs : (init ++ [v0]).toArray.size = init.length + 1 := by simp
  refine wpAny_getItem_list_neg hl (by omega) (by rw [hs]; omega) (by omega) (x := v0) ?_ h
  rw [hs]
  have e : ((-1 : Int) + ((init.length + 1 : Nat) : Int)).toNat = init.length := by omega
  rw [e]
  simp

theorem set_last {init : List Value} {v0 v : Value} {n : Nat} {t : Tok} {Q : Unit → Shared → Prop} (F : Fr h₀ L s.heap m) (N : News h₀ L s.heap news) (U : Upd D (listOf (init ++ [v0]).toArray n) (listOf (init ++ [v]).toArray n) news news') (hz : init.length ≤ 1000)
    (h : ∀ h', Fr h₀ L h' m → News h₀ L h' news' → Q () { s with heap := h' }) :
    wpAny (model prog w) A (setItem (.ref D) (.int (-1) t) v) Q E s := by
  obtain ⟨pre, post, rfl, rfl, a, b⟩ := U.split
  have z := N (D, listOf (init ++ [v0]).toArray n) (List.mem_append.mpr (.inr (.head _)))
  have hl : s.heap.IsList D (init ++ [v0]).toArray := ⟨_, z.1, rfl, n, rfl⟩
  have hs : (init ++ [v0]).toArray.size = init.length + 1 := by simp
  unfold setItem
  try with_reducible refine wpAny_holding ?_
  first | refine wpAny_bind (wpAny_pure ?_) | skip
  refine wpAny_bind (wpAny_sequenceKey hl.typeIs (by decide) ?_)
  refine wpAny_bind (wpAny_callSpecial?_slot (name := Str.ofString "__setitem__") hl.typeIs slot_list_setitem
    (wpAny_call_entry slot_list_setitem hl.typeIs entry_list_setitem ?_ (args_list_setitem _ _ _)))
  show wpAny _ _ (Builtin.List.listSubscript? (.int (-1) t) >>= _) _ _ s
  refine wpAny_bind (wpAny_listSubscript_int (fitsIndex_neg (by omega) (by omega)) ?_)
  have hidx : seqIndex? (-1) (init ++ [v0]).toArray.size = some init.length := by
    rw [seqIndex_neg (by omega) (by rw [hs]; omega), hs]
    have e : ((-1 : Int) + ((init.length + 1 : Nat) : Int)).toNat = init.length := by omega
    rw [e]
  have hx : (init ++ [v0]).toArray[init.length]? = some v0 := by simp
  show wpAny _ _ ((Builtin.List.listItems (.ref D) >>= fun xs => pure ((seqIndex? (-1) xs.size).bind fun i => xs[i]?.map (i, ·))) >>= _) _ _ s
  refine wpAny_bind (wpAny_bind ?_)
  show wpAny _ _ (seqItems? (.ref D) >>= _) _ _ s
  refine wpAny_bind (wpAny_seqItems z.1 rfl (wpAny_pure (wpAny_pure ?_)))
  rw [hidx]
  simp only [Option.bind_some, hx, Option.map_some]
  refine wpAny_bind (wpAny_setSeqItemAt z.1 rfl ?_)
  have fin : Q () { s with heap := s.heap.update D (Obj.mapSeq (·.setIfInBounds init.length v)) } := by
    refine h _ (F.change (Heap.SameBut.update ..) z.2.1 z.2.2) (ki_turn _ N a b ?_ ?_)
    · apply Array.toList_inj.mp
      simp
    · simp
  first
    | exact wpAny_bind (wpAny_pure (wpAny_pure ⟨.none, rfl, wpAny_pure fin⟩))
    | exact wpAny_pure ⟨.none, rfl, wpAny_pure fin⟩
end
end Mine
end
section
open PySem PySem.W PySem.Calls PyProof.Rows PySem.StrLaws
open PySem.Builtin PySem.Builtin.Str
set_option Elab.async false
set_option maxRecDepth 100000
set_option maxHeartbeats 1000000
namespace Mine
theorem list_cut {c : Nat} : ∀ {a b ra rb : List Nat}, c ∉ a → c ∉ b → a ++ c :: ra = b ++ c :: rb → a = b ∧ ra = rb
  | [], [], _, _, _, _, h => ⟨rfl, (List.cons.inj h).2⟩
  | [], y :: b, _, _, _, hb, h => absurd (List.mem_cons.mpr (.inl (List.cons.inj h).1)) hb
  | x :: a, [], _, _, ha, _, h => absurd (List.mem_cons.mpr (.inl (List.cons.inj h).1.symm)) ha
  | x :: a, y :: b, ra, rb, ha, hb, h => by
    obtain ⟨e, h⟩ := List.cons.inj h
    obtain ⟨e2, e3⟩ := list_cut (fun m => ha (.tail _ m)) (fun m => hb (.tail _ m)) h
    exact ⟨by rw [e, e2], e3⟩
def joinL (c : Nat) : List (List Nat) → List Nat
  | [] => []
  | [a] => a
  | a :: b :: r => a ++ c :: joinL c (b :: r)
theorem joinL_inj {c : Nat} : ∀ {A B : List (List Nat)}, A ≠ [] → B ≠ [] → (∀ a ∈ A, c ∉ a) → (∀ b ∈ B, c ∉ b) → joinL c A = joinL c B → A = B
  | [], _, h, _, _, _, _ => absurd rfl h
  | _, [], _, h, _, _, _ => absurd rfl h
  | [a], [b], _, _, _, _, h => by rw [show a = b from h]
  | [a], b :: b2 :: B, _, _, hA, _, h => by
    have : c ∈ a := by rw [show a = b ++ c :: joinL c (b2 :: B) from h]; simp
    exact absurd this (hA a (.head _))
  | a :: a2 :: A, [b], _, _, _, hB, h => by
    have : c ∈ b := by rw [show b = a ++ c :: joinL c (a2 :: A) from h.symm]; simp
    exact absurd this (hB b (.head _))
  | a :: a2 :: A, b :: b2 :: B, _, _, hA, hB, h => by
    obtain ⟨e1, e2⟩ := list_cut (hA a (.head _)) (hB b (.head _)) h
    have := joinL_inj (A := a2 :: A) (B := b2 :: B) (by simp) (by simp) (fun p hp => hA p (.tail _ hp)) (fun p hp => hB p (.tail _ hp)) e2
    rw [e1, this]
theorem join_toL (c : Nat) : ∀ A : List Str, (Str.join ⟨#[c]⟩ A).cps.toList = joinL c (A.map fun a => a.cps.toList)
  | [] => rfl
  | [a] => rfl
  | a :: b :: r => by
    have ih := join_toL c (b :: r)
    show ((a ++ ⟨#[c]⟩ ++ Str.join ⟨#[c]⟩ (b :: r) : Str)).cps.toList = _
    rw [PySem.Str.cps_append, PySem.Str.cps_append, Array.toList_append, Array.toList_append, ih]
    simp [joinL]
theorem str_ext {a b : Str} (h : a.cps.toList = b.cps.toList) : a = b := by
  cases a; cases b
  exact congrArg PySem.Str.mk (Array.toList_inj.mp h)
theorem map_cps : ∀ {A B : List Str}, A.map (fun a => a.cps.toList) = B.map (fun a => a.cps.toList) → A = B
  | [], [], _ => rfl
  | [], _ :: _, h => by cases h
  | _ :: _, [], h => by cases h
  | a :: A, b :: B, h => by
    obtain ⟨h1, h2⟩ := List.cons.inj h
    rw [str_ext h1, map_cps h2]
theorem split_ne (x : Str) (y : Str) : Txt.split x y ≠ [] := by
  unfold Txt.split
  split
  · simp
  · split
    · simp
    · rw [partsBetween_eq]
      obtain ⟨p, r, e⟩ := partsFrom_ne x y.length 0 (occurrences x y 0 x.length (x.length + 1))
      rw [e]
      simp
theorem split_join {ps : List Str} (hne : ps ≠ []) (hf : ∀ p ∈ ps, 46 ∉ p.cps.toList) : Txt.split (Txt.join (Str.ofString ".") ps) (Str.ofString ".") = ps := by
  have e0 : Str.ofString "." = ⟨#[46]⟩ := by decide +kernel
  rw [e0]
  have ej : Txt.join ⟨#[46]⟩ ps = Str.join ⟨#[46]⟩ ps := glued_eq_join _ _
  rw [ej]
  have h1 := join_split (Str.join ⟨#[46]⟩ ps) ⟨#[46]⟩
  have h2 := split_free (Str.join ⟨#[46]⟩ ps) 46
  have h3 := congrArg (fun z : Str => z.cps.toList) h1
  rw [join_toL, join_toL] at h3
  have h4 := joinL_inj (by simpa using split_ne _ _) (by simpa using hne) (by simpa using h2) (by simpa using hf) h3
  exact map_cps h4
end Mine
end
section
open PySem PySem.W PyProof.Rows
set_option Elab.async false
namespace Mine
set_option maxRecDepth 100000 in
set_option maxHeartbeats 8000000 in
open_top hd03 for PySem.Challenge.rw_km0076_03
end Mine
end
section
open PySem PySem.W PySem.Calls PyProof.Rows Mine
set_option Elab.async false
set_option maxRecDepth 100000
set_option maxHeartbeats 8000000
set_option pp.deepTerms false
set_option pp.deepTerms.threshold 8
namespace Mine
theorem pe03 : ∀ {w : World} {A : Around} {E Q : Value → Shared → Prop} {s : Shared} {h₀ : Heap} {L : Addr} {m mg mb : Str → Option Value} {news : List (Addr × Obj)} {loose : List Str} {mean : ExcName → Option Value} {n : Str} {t : Tok},
    (hd03.heap_39 w.params).In h₀ → Top hd03.view_39 loose mean mg mb h₀ → Fr h₀ L s.heap m → News h₀ L s.heap news → A.depth < recursionLimit → n.length ≤ 100 → (Txt.slice n none (some 2) == Str.ofString "__") = false →
    (∀ h' tk, Fr h₀ L h' m → News h₀ L h' news → Q (.str n t) { s with heap := h', toks := tk }) →
    wpAny (model PySem.Challenge.rw_km0076_03.row.prog w) A (call (.ref 28) [.str n t]) Q E s := by
  w_strict (
  w_top off
  k_fill
  intro w A E Q s h₀ L m mg mb news loose mean n t X T F N hr hl2 hsl hq
  refine' enter_in F X N T.nolimit ?k1 ?k2 hr ?k3 ?kB ?_ ?c4 ?c1 ?c2 ?c3
  (case k1 => k_is)
  (case k2 => k_is)
  (case k3 => exact BindsTo.of_eq rfl)
  (case kB => exact locs rfl)
  (case c1 => exact rfl)
  (case c2 => exact rfl)
  (case c3 => exact rfl)
  (case c4 => decide)
  intro oL L' h₁ W F₁ N₁
  have hap : ∀ p ∈ news, p.1 ≠ L := fun p hp => (N p hp).2.1
  clear F N
  k_steps
  rename Fr _ _ _ _ => F9
  rename News _ _ _ _ => N9
  exact hq _ _ (W.fr (sl := oL.slots) F9 (N9 _ (.head _)).1) (wait_news (fun p hp => N9 p (.tail _ hp)) hap))
end Mine
end
section
open PySem PySem.W PySem.Calls PyProof.Rows Mine
set_option Elab.async false
set_option maxRecDepth 100000
set_option maxHeartbeats 400000
set_option pp.deepTerms false
set_option pp.deepTerms.threshold 8
namespace Mine
/-- what the walk along a dotted name comes to: the thing at its end and the one ahead of it, or a refusal (true: a local) -/
def lawGa (att : Addr → Str → Option Addr) : Addr → Addr → List Str → Except Bool (Addr × Addr)
  | o, p, [] => .ok (o, p)
  | o, _, y :: r => if (y == Str.ofString "<locals>") = true then .error true else match att o y with
    | none => .error false
    | some z => lawGa att z o r
/-- the names of the walk's own frame -/
def gaMap (u : Str → Option Value) (sub : Option Value) (o x : Addr) (name : Str) (t : Tok) : Str → Option Value := fun z =>
  if z = Str.ofString "subpath" then sub else if z = Str.ofString "parent" then u z else if z = Str.ofString "obj" then some (.ref o) else if z = Str.ofString "name" then some (.str name t) else if z = Str.ofString "top" then some (.ref x) else u z
theorem gaMap_sub {u : Str → Option Value} {sub : Option Value} {o x : Addr} {name : Str} {t : Tok} (v : Value) : (fun y => if y = Str.ofString "subpath" then some v else gaMap u sub o x name t y) = gaMap u (some v) o x name t := by
  funext z
  unfold gaMap
  by_cases h : z = Str.ofString "subpath"
  · rw [if_pos h, if_pos h]
  · rw [if_neg h, if_neg h, if_neg h]
theorem gaMap_next {u : Str → Option Value} {sub : Option Value} {o o' x : Addr} {name : Str} {t : Tok} :
    (fun y => if y = Str.ofString "obj" then some (.ref o') else if y = Str.ofString "parent" then some (.ref o) else gaMap u sub o x name t y) = gaMap (fun z => if z = Str.ofString "parent" then some (.ref o) else u z) sub o' x name t := by
  funext z
  unfold gaMap
  by_cases h1 : z = Str.ofString "obj"
  · subst h1
    rw [if_pos rfl, if_neg (by decide), if_neg (by decide), if_pos rfl]
  · by_cases h2 : z = Str.ofString "parent"
    · subst h2
      rw [if_neg (by decide), if_pos rfl, if_neg (by decide), if_pos rfl]; dsimp only; rw [if_pos rfl]
    · rw [if_neg h1, if_neg h2]
      by_cases h3 : z = Str.ofString "subpath"
      · rw [if_pos h3, if_pos h3]
      · rw [if_neg h3, if_neg h3, if_neg h2, if_neg h2, if_neg h1, if_neg h1]; dsimp only; rw [if_neg h2]

theorem gaMap_start {x : Addr} {name : Str} {t : Tok} : (fun y => if y = Str.ofString "top" then some (Value.ref x) else List.lookup y [(Str.ofString "name", Value.str name t), (Str.ofString "obj", Value.ref x)]) = gaMap (fun _ => none) none x x name t := by
    funext z
    unfold gaMap
    by_cases h1 : z = Str.ofString "top"
    · subst h1
      rw [if_pos rfl, if_neg (by decide), if_neg (by decide), if_neg (by decide), if_neg (by decide), if_pos rfl]
    · by_cases h2 : z = Str.ofString "name"
      · subst h2
        rw [if_neg h1, if_neg (by decide), if_neg (by decide), if_neg (by decide), if_pos rfl, List.lookup_cons, beq_self_eq_true]
      · by_cases h3 : z = Str.ofString "obj"
        · subst h3
          have e2 : (Str.ofString "obj" == Str.ofString "name") = false := beq_eq_false_iff_ne.mpr h2
          rw [if_neg h1, if_neg (by decide), if_neg (by decide), if_pos rfl, List.lookup_cons, e2]
          dsimp only
          rw [List.lookup_cons, beq_self_eq_true]
        · have e2 : (z == Str.ofString "name") = false := beq_eq_false_iff_ne.mpr h2
          have e3 : (z == Str.ofString "obj") = false := beq_eq_false_iff_ne.mpr h3
          rw [if_neg h1, List.lookup_cons, e2]
          dsimp only
          rw [List.lookup_cons, e3]
          dsimp only
          rw [if_neg h3, if_neg h2, if_neg h1]
          split
          · rfl
          · split <;> rfl

theorem gaMap_fr {h₀ h : Heap} {L' x : Addr} {name : Str} {t : Tok} (F : Fr h₀ L' h (fun y => if y = Str.ofString "top" then some (Value.ref x) else List.lookup y [(Str.ofString "name", Value.str name t), (Str.ofString "obj", Value.ref x)])) : Fr h₀ L' h (gaMap (fun _ => none) none x x name t) := by
  rw [← gaMap_start]; exact F
local macro_rules | `(tactic| walk_at "exec Raise some none") => `(tactic| (refine raise_at rfl ?_))
local macro_rules | `(tactic| walk_at "exec Raise some some") => `(tactic| (refine raise_under rfl ?_))
local macro_rules | `(tactic| walk_at "call builtin:str.format") => `(tactic| (k_here; first
  | (refine' fmtL_k ?k1 ?k2 ?k3 ?k4 ?k5 ?k6 ?k7 ?k8 ?_; (case k1 => k_asm); (case k2 => k_asm); (case k3 => k_asm); (case k4 => assumption); (case k5 => assumption); (case k6 => assumption); (case k7 => first | exact fun p hp => hp | exact fun p hp => List.mem_append_left _ (List.mem_cons_of_mem _ hp)); (case k8 => units_room); intro u' tk')
  | (refine' fmt_k ?k1 ?k2 ?k3 ?k4 ?k5 ?k6 ?k7 ?k8 ?_; (case k1 => k_asm); (case k2 => k_asm); (case k3 => k_asm); (case k4 => assumption); (case k5 => assumption); (case k6 => assumption); (case k7 => first | exact fun p hp => hp | exact fun p hp => List.mem_append_left _ (List.mem_cons_of_mem _ hp)); (case k8 => units_room); intro u' tk')))
local macro_rules | `(tactic| walk_at "call type:AttributeError") => `(tactic| (k_here; (refine' attr_k ?k1 ?k2 ?_; (case k1 => k_asm); (case k2 => k_asm); intro e' t' h' F' N' M')))
theorem NodeIn.mono {K : Frag} {news nx : List (Addr × Obj)} {names : List Str} {att : Addr → Str → Option Addr} {x : Addr} (N : NodeIn K news names att x) (h : ∀ p ∈ news, p ∈ nx) : NodeIn K nx names att x := by
  obtain ⟨C, tp, dx, ok, hx, hd⟩ := N
  refine ⟨C, tp, dx, ok, h _ hx, ?_⟩
  cases dx with
  | none => exact hd
  | some d => obtain ⟨od, h1, h2⟩ := hd; exact ⟨od, h _ h1, h2⟩
local macro_rules | `(tactic| walk_at "call ref") => `(tactic| (refine' pe03 ?k1 ?k2 ?k3 ?k4 ?k5 ?k6 ?k7 ?_; (case k1 => k_asm); (case k2 => k_asm); (case k3 => k_asm); (case k4 => k_asm); (case k5 => k_room); (case k6 => assumption); (case k7 => assumption); intro h' tk' F' N'))
local macro_rules | `(tactic| walk_at "call builtin:getattr") => `(tactic| (first
  | (refine' getattr_hit ?k1 ?k2 ?k3 ?k4 ?k5 ?k6 ?_; (case k1 => assumption); (case k2 => k_asm); (case k3 => k_asm); (case k4 => k_asm); (case k5 => assumption); (case k6 => assumption))
  | (refine' getattr_miss ?k1 ?k2 ?k3 ?k4 ?k5 ?k6 ?k7 ?k8 ?_; (case k1 => assumption); (case k2 => k_asm); (case k3 => k_asm); (case k4 => k_asm); (case k5 => assumption); (case k6 => assumption); (case k7 => assumption); (case k8 => with_unfolding_all exact rfl); intro h' tk' e' x')))
theorem gaMap_par {u : Str → Option Value} {sub : Option Value} {o x p : Addr} {name : Str} {t : Tok} (h : u (Str.ofString "parent") = some (.ref p)) :
    gaMap u sub o x name t = fun y => if y = Str.ofString "parent" then some (.ref p) else gaMap u sub o x name t y := by
  funext z
  by_cases h1 : z = Str.ofString "parent"
  · subst h1
    rw [if_pos rfl]
    unfold gaMap
    rw [if_neg (by decide), if_pos rfl, h]
  · rw [if_neg h1]
theorem ne_new {h : Heap} {b e : Addr} {ob : Obj} (hb : h.get? b = some ob) (hn : h.get? e = none) : b ≠ e := fun z => by rw [z, hn] at hb; cases hb
def Hid (P : Prop) : Prop := P
theorem ga03 : ∀ {w : World} {E Q : Value → Shared → Prop} {s : Shared} {h₀ : Heap} {L la x : Addr} {m mg mb : Str → Option Value} {news : List (Addr × Obj)} {mean : ExcName → Option Value} {name ln r : Str} {t : Tok} {lsc : Scope} {lcd : Value} {parts names : List Str} {att : Addr → Str → Option Addr} {G : Addr → Prop} {n : Nat},
    (hd03.heap_39 w.params).In h₀ → Top hd03.view_39 (looseW hd03.view_39 []) mean mg mb h₀ → Fr h₀ L s.heap m → News h₀ L s.heap news → lsc.kind = .function →
    Txt.split name (Str.ofString ".") = parts → parts ≠ [] → (∀ y ∈ parts, (y == Str.ofString "<locals>") = false → y ∈ names ∧ y.length ≤ 100 ∧ (Txt.slice y none (some 2) == Str.ofString "__") = false) →
    (∀ x, G x → NodeIn (hd03.heap_39 w.params) news names att x) → (∀ x y z, G x → att x y = some z → G z) → G x →
    (∀ h' L', News h₀ L' h' news → RepOf h' (hd03.heap_39 w.params) n (.ref x) r) → n ≤ 7 → name.length ≤ 1000 → (reprText name).length ≤ 2000 →
    (∀ o p, lawGa att x x parts = .ok (o, p) → ∀ T h' tk, Fr h₀ L h' m → News h₀ L h' ((T, tupObj [.ref o, .ref p]) :: news) → (∀ q ∈ news, q.1 < T) → Q (.ref T) { s with heap := h', toks := tk }) →
    (∀ b, lawGa att x x parts = .error b → ∀ e tt h' tk u, Fr h₀ L h' m → RaisedK h₀ [envOf ln lsc L la lcd] e (.type "AttributeError") tt [.str (gaMsg b name r) u] news h' → E (.ref e) { s with heap := h', toks := tk }) →
    wpAny (model PySem.Challenge.rw_km0076_03.row.prog w) (callerA.deeper (envOf ln lsc L la lcd)) (call (.ref 68) [.ref x, .str name t]) Q E s := by
  w_strict (
  w_top off
  k_fill
  intro w E Q s h₀ L la x m mg mb news mean name ln r t lsc lcd parts names att G n X T F N hlk hsp hne hpa hG hGc hGx hrep hn hnl hrl hok herr
  refine' enter_in F X N T.nolimit ?k1 ?k2 ?k0 ?k3 ?kB ?_ ?c4 ?c1 ?c2 ?c3
  (case k1 => k_is)
  (case k2 => k_is)
  (case k0 => k_room)
  (case k3 => exact BindsTo.of_eq rfl)
  (case kB => exact locs rfl)
  (case c1 => exact rfl)
  (case c2 => exact rfl)
  (case c3 => exact rfl)
  (case c4 => decide)
  intro oL L' h₁ W F₁ N₁
  have hap : ∀ p ∈ news, p.1 ≠ L := fun p hp => (N p hp).2.1
  clear F N
  k_steps
  rename Fr _ _ _ _ => F2
  rename News _ _ _ _ => N2
  rename Heap.IsList _ _ _ => lL
  rename StrsAre _ _ => lS
  rename List.map (fun x : Str × Tok => x.1) _ = Txt.split name (Str.ofString ".") => lE
  rename List (Str × Tok) => lv
  rename News _ _ _ ((L, oL) :: news) => N3
  have lG := (N2 _ (.head _)).1
  have hAL : ∀ p ∈ (L, oL) :: news, p.1 ≠ _ := fun p hp => Nat.ne_of_lt (Heap.lt_size (N3 p hp).1)
  have hlL := (N2 _ (.head _)).2.1
  have F4 := gaMap_fr F2
  clear F2
  have N4 := fun p hp => N2 p (.tail _ hp)
  refine iter_any (nn := 0) (fun i m' nx => nx = (L, oL) :: news ∧ ∃ o p u sub, G o ∧ lawGa att x x parts = lawGa att o p (parts.drop i) ∧ (0 < i → u (Str.ofString "parent") = some (.ref p)) ∧ m' = gaMap u sub o x name t) rfl lG hlL hAL F4 N4 ⟨rfl, x, x, _, _, hGx, rfl, by omega, rfl⟩ ?_ ?_
  · intro i v m₁ news₁ h tk own hv ha ho hJ F N
    obtain ⟨rfl, o, p, u, sub, hGo, hW, hP, rfl⟩ := hJ
    rw [gaMap_sub] at F
    have ha' := ha
    clear ha ho
    obtain ⟨y, tk', rfl, hyp, hdrop⟩ : ∃ y tk', v = .str y tk' ∧ y ∈ parts ∧ parts.drop i = y :: parts.drop (i + 1) := by
      unfold strValues at hv
      rw [List.getElem?_map] at hv
      cases hq : lv[i]? with
      | none => rw [hq] at hv; cases hv
      | some q =>
        rw [hq] at hv
        have hpi : parts[i]? = some q.1 := by rw [← hsp, ← lE, List.getElem?_map, hq]; rfl
        refine ⟨q.1, q.2, (Option.some.inj hv).symm, List.mem_of_getElem? hpi, ?_⟩
        obtain ⟨hlt, he⟩ := List.getElem?_eq_some_iff.mp hpi
        rw [List.drop_eq_getElem_cons hlt, he]
    have hW' := hW
    rw [hdrop] at hW'
    clear N2 N4 lL lG
    by_cases hy : (y == Str.ofString "<locals>") = true
    · have hyd : y = Str.ofString "<locals>" := beq_iff_eq.mp hy
      subst hyd
      k_steps
      rename Fr _ _ h _ => F5
      rename MadeAttr _ _ _ _ _ => M9
      refine ⟨_, _, rfl, M9.atE, ?_⟩
      have hLo := (N _ (List.mem_append_left _ (.head _))).1
      have N6 : News h₀ L' h news := fun p hp => N p (List.mem_append_left _ (.tail _ hp))
      refine leave_attr (h := h) (m := gaMap u (some (.str (Str.ofString "<locals>") tk')) o x name t) rfl hlk F5 (W.fr (sl := oL.slots) F5 hLo) (wait_news N6 hap) N6 (N _ (List.mem_append_left _ (.head _))).2.1 M9.keeps M9.newE M9.newT M9.atE rfl rfl rfl rfl M9.atT fun h' FL' R' => ?_
      refine herr true ?_ _ _ _ _ _ FL' R'
      rw [hW']
      rfl
    · have hy' : (y == Str.ofString "<locals>") = false := by simpa using hy
      obtain ⟨hyn, hyl, hys⟩ := hpa y hyp hy'
      have Nd : NodeIn (hd03.heap_39 w.params) ((L, oL) :: news ++ own) names att o := (hG o hGo).mono fun p hp => List.mem_append_left _ (.tail _ hp)
      cases hz : att o y with
      | some z =>
        k_steps
        rename Fr _ _ _ _ => F9
        rename News _ _ _ _ => N9
        have F10 := gaMap_next ▸ F9
        refine ⟨_, _, _, _, _, rfl, F10, N9, fun p hp => List.mem_append_left _ hp, fun p hp => List.mem_append_right _ hp, rfl, rfl, z, o, _, _, hGc _ _ _ hGo hz, ?_, fun _ => ?_, rfl⟩
        · rw [hW', lawGa, if_neg (by rw [hy']; decide), hz]
        · exact if_pos rfl
      | none =>
        k_steps
        rename Heap.NewAttrErr _ _ _ _ _ => x9
        rename Fr _ _ _ _ => F9
        rename News _ _ _ _ => N9
        refine caught_attr rfl hlk F9 (W.fr (sl := oL.slots) F9 (N9 _ (List.mem_append_left _ (.head _))).1) (fun p hp => N9 p (List.mem_append_left _ (.tail _ hp))) hap x9 (by k_asm) fun h4 F4' FL4 N4' hvs => ?_
        have FLh : Hid (Fr h₀ L h4 m) := FL4
        clear F9 N9 FL4
        k_steps
        rename MadeAttr _ _ _ _ _ => M9
        with_reducible rename Fr _ _ h4 _ => F4k
        rename News _ _ h4 _ => N4k
        obtain ⟨ov, vs, hv1, hv2, hv3⟩ := hvs
        have hne1 := fun b ob hb => ne_new (b := b) (ob := ob) hb M9.newE
        refine ⟨_, _, ov, vs, rfl, M9.atE, (hne1 _ _ hv1).symm, M9.keeps _ _ hv1, hv2, hv3, fun h5 hk5 hE5 => ?_⟩
        refine leave_attr (h := h4) rfl hlk F4k FLh (wait_news N4k hap) N4k (N _ (List.mem_append_left _ (.head _))).2.1 (fun b ob hb => (hk5 b (hne1 b ob hb)).trans (M9.keeps _ _ hb)) M9.newE M9.newT hE5 rfl rfl rfl rfl ((hk5 _ M9.ne.symm).trans M9.atT) fun h' FL' R' => ?_
        refine herr false ?_ _ _ _ _ _ FL' R'
        rw [hW', lawGa, if_neg (by rw [hy']; decide), hz]
  · intro m₁ news₁ h tk hJ F N
    obtain ⟨rfl, o, p, u, sub, hGo, hW, hP, rfl⟩ := hJ
    have hlen : (strValues lv).length = parts.length := by
      unfold strValues
      rw [List.length_map, ← hsp, ← lE, List.length_map]
    rw [hlen] at hW hP
    rw [List.drop_length] at hW
    have F9 := gaMap_par (hP (List.length_pos_iff.mpr hne)) ▸ F
    clear F N2 N4 lL lG
    k_steps
    with_reducible rename Fr _ _ _ _ => F10
    rename News _ _ _ _ => N10
    rename _ ∧ AllLt _ _ => l10
    refine hok o p (by rw [hW]; rfl) _ _ _ (W.fr (sl := oL.slots) F10 (N10 _ (.tail _ (.head _))).1) (fun q hq => ?_) (ktn_ltOf l10.2)
    rcases List.mem_cons.mp hq with rfl | hq
    · exact ⟨(N10 _ (.head _)).1, (Nat.ne_of_lt l10.1).symm, (N10 _ (.head _)).2.2⟩
    · exact ⟨(N10 _ (.tail _ (.tail _ hq))).1, hap _ hq, (N10 _ (.tail _ (.tail _ hq))).2.2⟩)
end Mine
end
section
open PySem PySem.W PySem.Calls PyProof.Rows Mine
set_option Elab.async false
set_option maxRecDepth 100000
set_option maxHeartbeats 1000000
set_option pp.deepTerms false
set_option pp.deepTerms.threshold 8
namespace Mine

abbrev genA : List Str := [Str.ofString "value", Str.ofString "values", Str.ofString "<locals>", Str.ofString ""]
def gen : Nat → List Str
  | 0 => genA
  | i + 1 => gen i ++ (gen i).flatMap fun b => [b ++ Str.ofString "value", b ++ Str.ofString "<locals>", b ++ Str.ofString "s"]
theorem gen_up {y : Str} {i : Nat} (h : y ∈ gen i) : y ∈ gen (i + 1) := List.mem_append_left _ h
theorem gen_A {y : Str} (h : y ∈ genA) : ∀ i, y ∈ gen i
  | 0 => h
  | i + 1 => gen_up (gen_A h i)
def PartsOk (i : Nat) (lv : List (Str × Tok)) : Prop := lv ≠ [] ∧ lv.length ≤ i + 1 ∧ ∀ q ∈ lv, q.1 ∈ gen i
def lpMap (u : Str → Option Value) (k : Option Value) (l0 l2 : Addr) (x : Int) (t : Tok) : Str → Option Value := fun z =>
  if z = Str.ofString "k" then k else if z = Str.ofString "piece" then u z else if z = Str.ofString "parts" then some (.ref l0) else if z = Str.ofString "pieces" then some (.ref l2) else if z = Str.ofString "x" then some (.int x t) else u z
theorem lpMap_k {u : Str → Option Value} {k : Option Value} {l0 l2 : Addr} {x : Int} {t : Tok} (v : Value) : (fun y => if y = Str.ofString "k" then some v else lpMap u k l0 l2 x t y) = lpMap u (some v) l0 l2 x t := by
  funext z
  unfold lpMap
  by_cases h : z = Str.ofString "k"
  · rw [if_pos h, if_pos h]
  · rw [if_neg h, if_neg h, if_neg h]
theorem lpMap_piece {u : Str → Option Value} {k v : Option Value} {l0 l2 : Addr} {x : Int} {t : Tok} : (fun y => if y = Str.ofString "piece" then v else lpMap u k l0 l2 x t y) = lpMap (fun z => if z = Str.ofString "piece" then v else u z) k l0 l2 x t := by
  funext z
  unfold lpMap
  by_cases h1 : z = Str.ofString "piece"
  · subst h1
    rw [if_pos rfl, if_neg (by decide), if_pos rfl]; dsimp only; rw [if_pos rfl]
  · rw [if_neg h1]
    dsimp only
    rw [if_neg h1, if_neg h1, if_neg h1]
theorem lpMap_start {l0 l2 : Addr} {x : Int} {t : Tok} : (fun y => if y = Str.ofString "parts" then some (Value.ref l0) else if y = Str.ofString "pieces" then some (Value.ref l2) else List.lookup y [(Str.ofString "x", Value.int x t)]) = lpMap (fun _ => none) none l0 l2 x t := by
  funext z
  unfold lpMap
  by_cases h1 : z = Str.ofString "parts"
  · subst h1
    rw [if_pos rfl, if_neg (by decide), if_neg (by decide), if_pos rfl]
  · by_cases h2 : z = Str.ofString "pieces"
    · subst h2
      rw [if_neg h1, if_pos rfl, if_neg (by decide), if_neg (by decide), if_neg h1, if_pos rfl]
    · rw [if_neg h1, if_neg h2, if_neg h1, if_neg h2]
      by_cases h3 : z = Str.ofString "x"
      · subst h3
        rw [if_neg (by decide), if_neg (by decide), if_pos rfl, List.lookup_cons, beq_self_eq_true]
      · have e3 : (z == Str.ofString "x") = false := beq_eq_false_iff_ne.mpr h3
        rw [List.lookup_cons, e3, if_neg h3]
        dsimp only
        split
        · rfl
        · split <;> rfl
theorem lpMap_fr {h₀ h : Heap} {L' l0 l2 : Addr} {x : Int} {t : Tok} (F : Fr h₀ L' h (fun y => if y = Str.ofString "parts" then some (Value.ref l0) else if y = Str.ofString "pieces" then some (Value.ref l2) else List.lookup y [(Str.ofString "x", Value.int x t)])) : Fr h₀ L' h (lpMap (fun _ => none) none l0 l2 x t) := by
  rw [← lpMap_start]; exact F
def LpInv (h₀ : Heap) (L l0 l1 l2 : Addr) (o1 o2 oL : Obj) (news : List (Addr × Obj)) (x : Int) (t : Tok) (i : Nat) (m' : Str → Option Value) (nx : List (Addr × Obj)) : Prop :=
  ∃ lv nn u k, PartsOk i lv ∧ nx = (l0, listOf (strValues lv).toArray nn) :: (l1, o1) :: (l2, o2) :: (L, oL) :: news ∧ m' = lpMap u k l0 l2 x t

theorem snoc_of {α : Type} : ∀ {l : List α}, l ≠ [] → ∃ init q, l = init ++ [q] := fun {l} h => ⟨l.dropLast, l.getLast h, (List.dropLast_concat_getLast h).symm⟩
theorem strValues_snoc (init : List (Str × Tok)) (y : Str) (t : Tok) : strValues (init ++ [(y, t)]) = strValues init ++ [.str y t] := by
  unfold strValues; simp
theorem push_snoc (init : List Value) (a b : Value) : (init ++ [a]).toArray.push b = (init ++ [a] ++ [b]).toArray := by simp
theorem gen_len : ∀ {i : Nat} {y : Str}, y ∈ gen i → i ≤ 3 → y.length ≤ 8 + 8 * i := by
  intro i
  induction i with
  | zero => intro y hy _; revert y hy; decide
  | succ i ih =>
    intro y hy hi
    rcases List.mem_append.mp hy with h | h
    · have := ih h (by omega); omega
    · obtain ⟨b, hb, h⟩ := List.mem_flatMap.mp h
      have hb' := ih hb (by omega)
      have e1 : (Str.ofString "value").length = 5 := by rw [PySem.ofString_length]; rfl
      have e2 : (Str.ofString "<locals>").length = 8 := by rw [PySem.ofString_length]; rfl
      have e3 : (Str.ofString "s").length = 1 := by rw [PySem.ofString_length]; rfl
      simp only [List.mem_cons, List.mem_nil_iff, or_false] at h
      rcases h with rfl | rfl | rfl <;> rw [strLen_append] <;> omega
theorem lp_all {l0 l1 l2 L : Addr} {o0 o1 o2 oL : Obj} {news own : List (Addr × Obj)} (lo : l1 < l0 ∧ l2 < l0 ∧ L < l0 ∧ AllLt l0 news) (ho : OwnOff own (List.map (·.1) ((l0, o0) :: (l1, o1) :: (l2, o2) :: (L, oL) :: news))) :
    ∀ p ∈ ((l1, o1) :: (l2, o2) :: (L, oL) :: news) ++ own, p.1 ≠ l0 := by
  obtain ⟨a, b, c, d⟩ := lo
  intro p hp
  rcases List.mem_append.mp hp with hp | hp
  · rcases List.mem_cons.mp hp with rfl | hp
    · exact Nat.ne_of_lt a
    · rcases List.mem_cons.mp hp with rfl | hp
      · exact Nat.ne_of_lt b
      · rcases List.mem_cons.mp hp with rfl | hp
        · exact Nat.ne_of_lt c
        · exact Nat.ne_of_lt (ktn_ltOf d p hp)
  · exact ho p hp l0 (by simp)
theorem range_n {b : Int} (h0 : 0 ≤ b) : Builtin.Range.rangeSize 0 b 1 = (b.toNat : Int) := by
  unfold Builtin.Range.rangeSize
  rw [if_pos (by omega)]
  by_cases h : 0 < b
  · rw [if_pos h, Int.ediv_one]; omega
  · rw [if_neg h]; omega
theorem pow8 : ∀ {j : Nat}, j < 3 → (8 : Int) ^ (j : Int).toNat ≠ 0 ∧ ((8 : Int) ^ (j : Int).toNat).natAbs < 1073741824
  | 0, _ => by decide
  | 1, _ => by decide
  | 2, _ => by decide
  | _ + 3, h => by omega
section
variable {h₀ h' : Heap} {L L' l0 l1 l2 : Addr} {o1 o2 oL : Obj} {news own : List (Addr × Obj)} {x : Int} {t tl tp : Tok} {i n' tk : Nat} {u : Str → Option Value} {k v : Option Value} {init : List (Str × Tok)} {yl p : Str} {s₁ : Shared} {adr : List Addr}
theorem lp_push (ok : PartsOk i (init ++ [(yl, tl)])) (F : Fr h₀ L' h' (fun y => if y = Str.ofString "piece" then v else lpMap u k l0 l2 x t y))
    (N : News h₀ L' h' (((l0, PySem.W.listOf ((strValues init ++ [Value.str yl tl]).toArray.push (Value.str p tp)) n') :: (l1, o1) :: (l2, o2) :: (L, oL) :: news) ++ own)) (hp : p ∈ genA)
    (ha : adr = l0 :: l1 :: l2 :: L :: news.map (·.1)) : InvEndN h₀ L' (LpInv h₀ L l0 l1 l2 o1 o2 oL news x t (i + 1)) own adr s₁ { s₁ with heap := h', toks := tk } := by
  have e : (strValues init ++ [Value.str yl tl]).toArray.push (Value.str p tp) = (strValues (init ++ [(yl, tl)] ++ [(p, tp)])).toArray := by
    rw [strValues_snoc, strValues_snoc]; simp
  rw [e] at N
  refine ⟨h', tk, _, _, (l0, PySem.W.listOf (strValues (init ++ [(yl, tl)] ++ [(p, tp)])).toArray n') :: (l1, o1) :: (l2, o2) :: (L, oL) :: news, rfl, F, N, fun p hp => List.mem_append_left _ hp, fun p hp => List.mem_append_right _ hp, by rw [ha]; rfl, _, _, _, _, ⟨by simp, ?_, ?_⟩, rfl, lpMap_piece⟩
  · have := ok.2.1; simp at this ⊢; omega
  · intro q hq
    rcases List.mem_append.mp hq with hq | hq
    · exact gen_up (ok.2.2 q hq)
    · obtain rfl := List.mem_singleton.mp hq; exact gen_A hp _
theorem lp_set (ok : PartsOk i (init ++ [(yl, tl)])) (F : Fr h₀ L' h' (fun y => if y = Str.ofString "piece" then v else lpMap u k l0 l2 x t y))
    (N : News h₀ L' h' (((l0, PySem.W.listOf (strValues init ++ [Value.str (yl ++ p) tp]).toArray n') :: (l1, o1) :: (l2, o2) :: (L, oL) :: news) ++ own)) (hp : p = Str.ofString "value" ∨ p = Str.ofString "<locals>" ∨ p = Str.ofString "s")
    (ha : adr = l0 :: l1 :: l2 :: L :: news.map (·.1)) : InvEndN h₀ L' (LpInv h₀ L l0 l1 l2 o1 o2 oL news x t (i + 1)) own adr s₁ { s₁ with heap := h', toks := tk } := by
  have e : strValues init ++ [Value.str (yl ++ p) tp] = strValues (init ++ [(yl ++ p, tp)]) := (strValues_snoc _ _ _).symm
  rw [e] at N
  refine ⟨h', tk, _, _, (l0, PySem.W.listOf (strValues (init ++ [(yl ++ p, tp)])).toArray n') :: (l1, o1) :: (l2, o2) :: (L, oL) :: news, rfl, F, N, fun p hp => List.mem_append_left _ hp, fun p hp => List.mem_append_right _ hp, by rw [ha]; rfl, _, _, _, _, ⟨by simp, ?_, ?_⟩, rfl, lpMap_piece⟩
  · have := ok.2.1; simp at this ⊢; omega
  · intro q hq
    rcases List.mem_append.mp hq with hq | hq
    · exact gen_up (ok.2.2 q (List.mem_append_left _ hq))
    · obtain rfl := List.mem_singleton.mp hq
      refine List.mem_append_right _ (List.mem_flatMap.mpr ⟨yl, ok.2.2 (yl, tl) (List.mem_append_right _ (List.mem_singleton.mpr rfl)), ?_⟩)
      rcases hp with rfl | rfl | rfl
      · exact .head _
      · exact .tail _ (.head _)
      · exact .tail _ (.tail _ (.head _))
end
theorem parts_up {i j : Nat} {lv : List (Str × Tok)} (h : PartsOk i lv) (hij : i ≤ j) : PartsOk j lv := by
  induction hij with
  | refl => exact h
  | step _ ih => exact ⟨ih.1, Nat.le_succ_of_le ih.2.1, fun q hq => gen_up (ih.2.2 q hq)⟩


end Mine
end
section
open PySem PySem.W PySem.Calls PyProof.Rows Mine
set_option Elab.async false
set_option maxRecDepth 100000
set_option maxHeartbeats 1000000
set_option pp.deepTerms false
set_option pp.deepTerms.threshold 8
namespace Mine
local macro_rules | `(tactic| walk_at "subscriptTail") => `(tactic| ((with_reducible show wpAny _ _ (subscriptTail (Expr.Name (Str.ofString "pieces") _) _ (Value.ref _) (Value.int (Int.fmod _ _) _)) _ _ _); (with_unfolding_all refine' item_menu ?k1 ?k2 ?k3 ?k4 ?k5 ?_ ?k6; (case k1 => k_asm); (case k2 => k_mem); (case k3 => exact fm_lo (by decide)); (case k4 => exact fm_hi (by decide)); (case k5 => exact Nat.le_of_ble_eq_true rfl); (case k6 => with_unfolding_all rfl)); (repeat' (first | refine' List.forall_mem_cons.mpr ⟨?_, ?_⟩ | exact List.forall_mem_nil _))))
local macro_rules | `(tactic| walk_at "subscriptTail") => `(tactic| ((with_reducible show wpAny _ _ (subscriptTail (Expr.Name (Str.ofString "_") _) _ (Value.ref _) (Value.int (Int.fmod _ _) _)) _ _ _); (with_unfolding_all refine' item_text (ys := genA) ?k1 ?k2 ?k3 ?k4 ?k5 ?k7 ?_ ?k6; (case k1 => k_asm); (case k2 => k_mem); (case k3 => exact fm_lo (by decide)); (case k4 => exact fm_hi (by decide)); (case k5 => exact Nat.le_of_ble_eq_true rfl); (case k6 => with_unfolding_all rfl); (case k7 => (repeat' (first | refine' List.forall_mem_cons.mpr ⟨⟨_, _, rfl, by decide⟩, ?_⟩ | exact List.forall_mem_nil _)))); intro y0' ty' hy0'))
local macro_rules | `(tactic| walk_at "getItem ref") => `(tactic| ((refine' get_last ?k1 ?k2 ?k3 ?_; (case k1 => k_asm); (case k2 => k_mem); (case k3 => assumption))))
local macro_rules | `(tactic| walk_at "setItem ref") => `(tactic| ((refine' set_last ?k1 ?k2 ?k3 ?k4 ?_; (case k1 => k_asm); (case k2 => k_asm); (case k3 => exact Upd.head (by assumption)); (case k4 => assumption); intro h' F' N')))
local macro_rules | `(tactic| walk_at "call builtin:list.append") => `(tactic| ((refine' append_K ?k1 ?k2 ?k3 ?_ ?z; (case k1 => k_asm); (case k2 => k_asm); (case k3 => exact Upd.head (by assumption)); (case z => assumption); intro h' F' N')))
local macro_rules | `(tactic| walk_at "call type:range") => `(tactic| ((rename Fr _ _ _ _ => F'); (rename News _ _ _ _ => N'); (with_unfolding_all refine range1_rows F' N' ?_); intro _ _ _ _ _ _ _ _ _))
local macro_rules | `(tactic| walk_at "binaryOp FloorDiv int int") => `(tactic| ((with_reducible show wpAny _ _ (binaryOp Operator.FloorDiv _ (Value.int (8 ^ _) _)) _ _ _); (with_reducible refine floordiv_int ?ka ?_ (Or.inl (PyProof.noPylong_small ?kb))); (case ka => assumption); (case kb => assumption)))
theorem lp03 : ∀ {w : World} {A : Around} {E Q : Value → Shared → Prop} {s : Shared} {h₀ : Heap} {L : Addr} {m mg mb : Str → Option Value} {news : List (Addr × Obj)} {loose : List Str} {mean : ExcName → Option Value} {x : Int} {t : Tok},
    (hd03.heap_39 w.params).In h₀ → Top hd03.view_39 loose mean mg mb h₀ → Fr h₀ L s.heap m → News h₀ L s.heap news → A.depth < recursionLimit → A.handled = none →
    (∀ r h' tk lv nn, PartsOk 3 lv → Fr h₀ L h' m → News h₀ L h' ((r, listOf (strValues lv).toArray nn) :: news) → (∀ q ∈ news, q.1 < r) → Q (.ref r) { s with heap := h', toks := tk }) →
    wpAny (model PySem.Challenge.rw_km0076_03.row.prog w) A (call (.ref 75) [.int x t]) Q E s := by
  w_strict (
  w_top off
  k_fill
  intro w A E Q s h₀ L m mg mb news loose mean x t X T F N hr hh hq
  refine' enter_in F X N T.nolimit ?k1 ?k2 hr ?k3 ?kB ?_ ?c4 ?c1 ?c2 ?c3
  (case k1 => k_is)
  (case k2 => k_is)
  (case k3 => exact BindsTo.of_eq rfl)
  (case kB => exact locs rfl)
  (case c1 => exact rfl)
  (case c2 => exact rfl)
  (case c3 => exact rfl)
  (case c4 => decide)
  intro oL L' h₁ W F₁ N₁
  have hap : ∀ p ∈ news, p.1 ≠ L := fun p hp => (N p hp).2.1
  clear F N
  k_steps
  all_goals (
    rename Fr _ _ _ _ => F2
    rename News _ _ _ _ => N2
    rename IsRange _ _ _ _ _ _ _ _ => hR
    have F4 := lpMap_fr F2
    clear F2
    have hb0 : (0 : Int) ≤ (x.fdiv 24).fmod 4 := fm_lo (by decide)
    have hb4 : (x.fdiv 24).fmod 4 < 4 := fm_hi (by decide)
    refine iter_range_any (n := ((x.fdiv 24).fmod 4).toNat) (LpInv h₀ L _ _ _ _ _ oL news x t) hh hR (small_one (by omega) (by omega) (by omega) (by omega)) (range_n hb0) F4 N2 ⟨[(_, _)], 0, _, _, ⟨by simp, by simp, ?gS⟩, rfl, rfl⟩ ?gT ?gD
    case gS =>
      intro q hq'
      obtain rfl := List.mem_singleton.mp hq'
      assumption
    case gD =>
      intro m₁ news₁ h tk hJ F N
      obtain ⟨lv, nn, u, k, ok, rfl, rfl⟩ := hJ
      clear N2 F4 hR
      rename _ < _ ∧ _ < _ ∧ _ < _ ∧ AllLt _ news => lo
      k_steps
      rename Fr _ _ _ _ => F9
      rename News _ _ _ _ => N9
      refine hq _ _ _ _ nn (parts_up ok (by omega)) (W.fr (sl := oL.slots) F9 (N9 _ (.tail _ (.tail _ (.tail _ (.head _))))).1) (fun q hq => ?_) (ktn_ltOf lo.2.2.2)
      rcases List.mem_cons.mp hq with rfl | hq
      · exact ⟨(N9 _ (.head _)).1, (Nat.ne_of_lt lo.2.2.1).symm, (N9 _ (.head _)).2.2⟩
      · have z := N9 _ (.tail _ (.tail _ (.tail _ (.tail _ hq))))
        exact ⟨z.1, hap _ hq, z.2.2⟩
    case gT =>
      intro i t' m₁ news₁ h tk own hi ha ho hJ F N
      obtain ⟨lv, nn, u, k, ok, rfl, rfl⟩ := hJ
      rw [lpMap_k] at F
      have hi0 : (0 : Int) ≤ (i : Int) := by omega
      have hi3 : (i : Int) < 3 := by omega
      obtain ⟨h8a, h8b⟩ := pow8 (j := i) (by omega)
      clear N2 F4 hR
      rename _ < _ ∧ _ < _ ∧ _ < _ ∧ AllLt _ news => lo
      have hall := lp_all (news := news) lo ho
      clear ha ho
      obtain ⟨init, ⟨yl, tl⟩, rfl⟩ := snoc_of ok.1
      rw [strValues_snoc] at N
      have hlen : init.length ≤ 10 := by have := ok.2.1; simp at this; omega
      have hsz : (strValues init ++ [Value.str yl tl]).toArray.size ≤ sizeLine := by
        unfold strValues
        rw [sizeLine_eq]; simp; omega
      have hinit : (strValues init).length ≤ 1000 := by unfold strValues; rw [List.length_map]; omega
      have hyl : yl.length ≤ 100 := by
        have h9 : yl.length ≤ 8 + 8 * i := gen_len (ok.2.2 (yl, tl) (by simp)) (by omega)
        omega
      k_steps
      all_goals (
        rename Fr _ _ _ _ => F9
        rename News _ _ _ _ => N9
        first
          | exact lp_push ok F9 N9 (by decide) rfl
          | exact lp_set ok F9 N9 (by first | exact Or.inl rfl | exact Or.inr (Or.inl rfl) | exact Or.inr (Or.inr rfl)) rfl)))
end Mine
end
section
open PySem PySem.W PySem.Calls PyProof.Rows Mine
set_option Elab.async false
set_option maxRecDepth 100000
set_option maxHeartbeats 1000000
set_option pp.deepTerms false
set_option pp.deepTerms.threshold 8
namespace Mine
def lw : Int → Int → List Str → Str × Int × Int
  | a, b, [] => (Str.ofString "", a, b)
  | a, b, y :: r => if (y == Str.ofString "<locals>") = true then (Str.ofString "Can't get local attribute ", a, b)
    else if a = 0 ∨ ((y == Str.ofString "value") = false ∧ (y == Str.ofString "values") = false) then (Str.ofString "Can't get attribute ", a, b)
    else lw (if (y == Str.ofString "value") = true then a - 1 else 0) a r
def lwMap (u : Str → Option Value) (k : Option Value) (a : Int) (ta : Tok) (b : Int) (tb : Tok) : Str → Option Value := fun z =>
  if z = Str.ofString "part" then k else if z = Str.ofString "at" then some (.int a ta) else if z = Str.ofString "ahead" then some (.int b tb) else u z
theorem lwMap_part {u : Str → Option Value} {k : Option Value} {a b : Int} {ta tb : Tok} (v : Value) : (fun y => if y = Str.ofString "part" then some v else lwMap u k a ta b tb y) = lwMap u (some v) a ta b tb := by
  funext z
  unfold lwMap
  by_cases h : z = Str.ofString "part"
  · rw [if_pos h, if_pos h]
  · rw [if_neg h, if_neg h, if_neg h]
theorem lwMap_next {u : Str → Option Value} {k : Option Value} {a b a' b' : Int} {ta tb ta' tb' : Tok} : (fun y => if y = Str.ofString "at" then some (.int a' ta') else if y = Str.ofString "ahead" then some (.int b' tb') else lwMap u k a ta b tb y) = lwMap u k a' ta' b' tb' := by
  funext z
  unfold lwMap
  by_cases h1 : z = Str.ofString "at"
  · subst h1
    rw [if_pos rfl, if_neg (by decide), if_pos rfl]
  · rw [if_neg h1]
    by_cases h2 : z = Str.ofString "ahead"
    · subst h2
      rw [if_pos rfl, if_neg (by decide), if_neg h1, if_pos rfl]
    · rw [if_neg h2, if_neg h1, if_neg h1, if_neg h2, if_neg h2]
theorem lwMap_start {a : Int} {ta : Tok} {r : Addr} : (fun y => if y = Str.ofString "ahead" then some (Value.int a ta) else List.lookup y [(Str.ofString "parts", Value.ref r), (Str.ofString "at", Value.int a ta)]) = lwMap (fun y => if y = Str.ofString "parts" then some (.ref r) else none) none a ta a ta := by
  funext z
  unfold lwMap
  by_cases h1 : z = Str.ofString "ahead"
  · subst h1
    rw [if_pos rfl, if_neg (by decide), if_neg (by decide), if_pos rfl]
  · rw [if_neg h1]
    by_cases h2 : z = Str.ofString "parts"
    · subst h2
      rw [List.lookup_cons, beq_self_eq_true, if_neg (by decide), if_neg (by decide), if_neg h1]
      exact (if_pos rfl).symm
    · have e2 : (z == Str.ofString "parts") = false := beq_eq_false_iff_ne.mpr h2
      rw [List.lookup_cons, e2]
      dsimp only
      by_cases h3 : z = Str.ofString "at"
      · subst h3
        rw [List.lookup_cons, beq_self_eq_true, if_neg (by decide), if_pos rfl]
      · have e3 : (z == Str.ofString "at") = false := beq_eq_false_iff_ne.mpr h3
        rw [List.lookup_cons, e3, if_neg h3, if_neg h1, if_neg h2]
        dsimp only
        split <;> rfl
theorem lwMap_fr {h₀ h : Heap} {L' r : Addr} {a : Int} {ta : Tok} (F : Fr h₀ L' h (fun y => if y = Str.ofString "ahead" then some (Value.int a ta) else List.lookup y [(Str.ofString "parts", Value.ref r), (Str.ofString "at", Value.int a ta)])) : Fr h₀ L' h (lwMap (fun y => if y = Str.ofString "parts" then some (.ref r) else none) none a ta a ta) := by
  rw [← lwMap_start]; exact F

theorem fin_news {h₀ h' : Heap} {L L' T : Addr} {m m' : Str → Option Value} {oL o : Obj} {X news : List (Addr × Obj)} (W : Wait h₀ L m oL) (F : Fr h₀ L' h' m') (N : News h₀ L' h' ((T, o) :: X)) (hL : (L, oL) ∈ X) (hs : ∀ p ∈ news, p ∈ X) (hlt : ∀ p ∈ X, p.1 < T) (hap : ∀ p ∈ news, p.1 ≠ L) :
    Fr h₀ L h' m ∧ News h₀ L h' ((T, o) :: news) ∧ ∀ q ∈ news, q.1 < T := by
  refine ⟨W.fr (sl := oL.slots) F (N _ (.tail _ hL)).1, fun q hq => ?_, fun q hq => hlt q (hs q hq)⟩
  rcases List.mem_cons.mp hq with rfl | hq
  · exact ⟨(N _ (.head _)).1, (Nat.ne_of_lt (hlt _ hL)).symm, (N _ (.head _)).2.2⟩
  · have z := N _ (.tail _ (hs q hq))
    exact ⟨z.1, hap q hq, z.2.2⟩
theorem any_no {y a b : Str} (h : ([a, b].any fun x => x == y) = false) : (y == a) = false ∧ (y == b) = false := by
  simp only [List.any_cons, List.any_nil, Bool.or_false, Bool.or_eq_false_iff, beq_eq_false_iff_ne] at h
  exact ⟨beq_eq_false_iff_ne.mpr (Ne.symm h.1), beq_eq_false_iff_ne.mpr (Ne.symm h.2)⟩
theorem any_yes {y a b : Str} (h : ([a, b].any fun x => x == y) = true) : (y == a) = true ∨ (y == b) = true := by
  simp only [List.any_cons, List.any_nil, Bool.or_false, Bool.or_eq_true, beq_iff_eq] at h
  rcases h with h | h
  · exact Or.inl (beq_iff_eq.mpr h.symm)
  · exact Or.inr (beq_iff_eq.mpr h.symm)
theorem lw_loc {a b : Int} {y : Str} {r : List Str} (h : (y == Str.ofString "<locals>") = true) : lw a b (y :: r) = (Str.ofString "Can't get local attribute ", a, b) := by rw [lw, if_pos h]
theorem lw_zero {a b : Int} {y : Str} {r : List Str} (h : (y == Str.ofString "<locals>") = false) (h0 : a = 0) : lw a b (y :: r) = (Str.ofString "Can't get attribute ", a, b) := by rw [lw, if_neg (by rw [h]; decide), if_pos (Or.inl h0)]
theorem lw_no {a b : Int} {y : Str} {r : List Str} (h : (y == Str.ofString "<locals>") = false) (h1 : ([Str.ofString "value", Str.ofString "values"].any fun x => x == y) = false) : lw a b (y :: r) = (Str.ofString "Can't get attribute ", a, b) := by rw [lw, if_neg (by rw [h]; decide), if_pos (Or.inr (any_no h1))]
theorem lw_on {a b : Int} {y : Str} {r : List Str} (h : (y == Str.ofString "<locals>") = false) (h0 : a ≠ 0) (h1 : ([Str.ofString "value", Str.ofString "values"].any fun x => x == y) = true) : lw a b (y :: r) = lw (if (y == Str.ofString "value") = true then a - 1 else 0) a r := by
  rw [lw, if_neg (by rw [h]; decide), if_neg]
  rintro (z | ⟨z1, z2⟩)
  · exact h0 z
  · rcases any_yes h1 with q | q
    · rw [z1] at q; cases q
    · rw [z2] at q; cases q
local macro_rules | `(tactic| walk_at "exec For Name Name cons nil") => `(tactic| (k_here; (rename Fr _ _ _ _ => lF'); (with_unfolding_all refine' For_invVF lF' ?k1 ?k2 ?_; (case k1 => exact rfl); (case k2 => exact rfl); k_whole)))
theorem lw03 : ∀ {w : World} {A : Around} {E Q : Value → Shared → Prop} {s : Shared} {h₀ : Heap} {L r : Addr} {m mg mb : Str → Option Value} {news : List (Addr × Obj)} {loose : List Str} {mean : ExcName → Option Value} {a : Int} {ta : Tok} {lv : List (Str × Tok)} {nn : Nat},
    (hd03.heap_39 w.params).In h₀ → Top hd03.view_39 loose mean mg mb h₀ → Fr h₀ L s.heap m → News h₀ L s.heap ((r, listOf (strValues lv).toArray nn) :: news) → (∀ q ∈ news, q.1 < r) → A.depth < recursionLimit → A.handled = none →
    (∀ ref a' b', lw a a (lv.map (·.1)) = (ref, a', b') → ∀ T h' tk t1 t2 t3, Fr h₀ L h' m → News h₀ L h' ((T, tupObj [.str ref t1, .int a' t2, .int b' t3]) :: news) → (∀ q ∈ news, q.1 < T) → Q (.ref T) { s with heap := h', toks := tk }) →
    wpAny (model PySem.Challenge.rw_km0076_03.row.prog w) A (call (.ref 82) [.int a ta, .ref r]) Q E s := by
  w_strict (
  w_top off
  k_fill
  intro w A E Q s h₀ L r m mg mb news loose mean a ta lv nn X T F N hlt hr hh hq
  refine' enter_in F X N T.nolimit ?k1 ?k2 hr ?k3 ?kB ?_ ?c4 ?c1 ?c2 ?c3
  (case k1 => k_is)
  (case k2 => k_is)
  (case k3 => exact BindsTo.of_eq rfl)
  (case kB => exact locs rfl)
  (case c1 => exact rfl)
  (case c2 => exact rfl)
  (case c3 => exact rfl)
  (case c4 => decide)
  intro oL L' h₁ W F₁ N₁
  have hap : ∀ p ∈ news, p.1 ≠ L := fun p hp => (N p (.tail _ hp)).2.1
  have hrL : r ≠ L := (N _ (.head _)).2.1
  clear F N
  k_steps
  rename Fr _ _ _ _ => F2
  rename News _ _ _ _ => N2
  have F4 := lwMap_fr F2
  clear F2
  have lG := (N2 _ (.tail _ (.head _))).1
  have hlL := (N2 _ (.tail _ (.head _))).2.1
  have hAL : ∀ p ∈ (L, oL) :: news, p.1 ≠ r := fun p hp => by
    rcases List.mem_cons.mp hp with rfl | hp
    · exact hrL.symm
    · exact Nat.ne_of_lt (hlt p hp)
  have N4 : News h₀ L' _ ((L, oL) :: news) := fun p hp => N2 p (by
    rcases List.mem_cons.mp hp with rfl | hp
    · exact .head _
    · exact .tail _ (.tail _ hp))
  refine iter_any (l := r) (vs := strValues lv) (nn := nn) (m₀ := lwMap (fun y => if y = Str.ofString "parts" then some (.ref r) else none) none a ta a ta) (news := (L, oL) :: news) (fun i m' nx => nx = (L, oL) :: news ∧ ∃ a' b' ta' tb' u k, lw a a (lv.map (·.1)) = lw a' b' ((lv.map (·.1)).drop i) ∧ m' = lwMap u k a' ta' b' tb') ?gA ?gB ?gC hAL ?gE ?gF ⟨rfl, a, a, ta, ta, _, _, rfl, rfl⟩ ?_ ?_
  (case gA => exact hh)
  (case gB => exact lG)
  (case gC => exact hlL)
  (case gE => exact F4)
  (case gF => exact N4)
  · intro i v m₁ news₁ h tk own hv ha ho hJ F N
    obtain ⟨rfl, a', b', ta', tb', u, k, hW, rfl⟩ := hJ
    rw [lwMap_part] at F
    obtain ⟨y, tk', rfl, hdrop⟩ : ∃ y tk', v = .str y tk' ∧ (lv.map (·.1)).drop i = y :: (lv.map (·.1)).drop (i + 1) := by
      unfold strValues at hv
      rw [List.getElem?_map] at hv
      cases hq : lv[i]? with
      | none => rw [hq] at hv; cases hv
      | some q =>
        rw [hq] at hv
        have hpi : (lv.map (·.1))[i]? = some q.1 := by rw [List.getElem?_map, hq]; rfl
        refine ⟨q.1, q.2, (Option.some.inj hv).symm, ?_⟩
        obtain ⟨hlt, he⟩ := List.getElem?_eq_some_iff.mp hpi
        rw [List.drop_eq_getElem_cons hlt, he]
    have hW' := hW
    rw [hdrop] at hW'
    clear N2 N4 lG F4 ha ho
    k_steps
    all_goals (
      rename Fr _ _ _ _ => F9
      rename News _ _ _ _ => N9
      first
        | (rename ∀ p ∈ (L, oL) :: news ++ own, p.1 < _ => l9
           obtain ⟨f1, f2, f3⟩ := fin_news W F9 N9 (.head _) (fun p hp => List.mem_append_left _ (.tail _ hp)) l9 hap
           first
             | exact hq _ _ _ (by rw [hW']; exact lw_loc (by assumption)) _ _ _ _ _ _ f1 f2 f3
             | exact hq _ _ _ (by rw [hW']; exact lw_zero (by assumption) (by assumption)) _ _ _ _ _ _ f1 f2 f3)
        | (rename _ ∧ AllLt _ _ => l9
           obtain ⟨f1, f2, f3⟩ := fin_news W F9 N9 (.tail _ (.head _)) (fun p hp => .tail _ (List.mem_append_left _ (.tail _ hp))) (fun p hp => by
             rcases List.mem_cons.mp hp with rfl | hp
             · exact l9.1
             · exact ktn_ltOf l9.2 p hp) hap
           exact hq _ _ _ (by rw [hW']; exact lw_no (by assumption) (by assumption)) _ _ _ _ _ _ f1 f2 f3)
        | (have F10 := lwMap_next ▸ F9
           refine ⟨_, _, _, _, (L, oL) :: news, rfl, F10, N9, fun p hp => .tail _ (List.mem_append_left _ hp), fun p hp => .tail _ (List.mem_append_right _ hp), rfl, rfl, _, _, _, _, _, _, ?_, rfl⟩
           rw [hW', lw_on (by assumption) (by assumption) (by assumption)]
           first
             | rw [if_pos (by assumption)]
             | rw [if_neg (by rw [‹(y == Str.ofString "value") = false›]; decide)]))
  · intro m₁ news₁ h tk hJ F N
    obtain ⟨rfl, a', b', ta', tb', u, k, hW, rfl⟩ := hJ
    have hlen : (strValues lv).length = (lv.map (·.1)).length := by
      unfold strValues
      rw [List.length_map, List.length_map]
    rw [hlen, List.drop_length] at hW
    clear N2 N4 lG F4
    k_steps
    rename Fr _ _ _ _ => F9
    rename News _ _ _ _ => N9
    rename _ ∧ AllLt _ _ => l9
    obtain ⟨f1, f2, f3⟩ := fin_news W F9 N9 (.head _) (fun p hp => .tail _ hp) (fun p hp => by
      rcases List.mem_cons.mp hp with rfl | hp
      · exact l9.1
      · exact ktn_ltOf l9.2 p hp) hap
    exact hq _ _ _ (by rw [hW]; rfl) _ _ _ _ _ _ f1 f2 f3)
end Mine
end
section
open PySem PySem.W PySem.Calls PyProof.Rows Mine PySem.StrLaws
open PySem.Builtin PySem.Builtin.Str
set_option Elab.async false
set_option maxRecDepth 100000
set_option maxHeartbeats 1000000
namespace Mine
def isNone2 : Option (Option Value) → Bool | some none => true | _ => false
theorem isNone2_eq {x : Option (Option Value)} (h : isNone2 x = true) : x = some none := by
  cases x with
  | none => cases h
  | some y => cases y with
    | none => rfl
    | some z => cases h
theorem no58 (P : Params) : ((gen 3).all fun y => isNone2 (findIn (hd03.heap_39 P) (.ref 58) y)) = true := by kernel_rfl
theorem no38 (P : Params) : ((gen 3).all fun y => isNone2 (findIn (hd03.heap_39 P) (.ref 38) y)) = true := by kernel_rfl
theorem genCopied : ((gen 3).all fun y => !copiedNames.contains y) = true := by kernel_rfl
theorem cls58 (P : Params) : ClsOk (hd03.heap_39 P) 58 (gen 3) where
  obj := ⟨_, _, _, _, _, _, _, _, _, _, _, _, _, _, rfl, by decide +kernel, by decide +kernel⟩
  ga := by kernel_rfl
  gt := by kernel_rfl
  hd := by kernel_rfl
  no := fun y hy => isNone2_eq (List.all_eq_true.mp (no58 P) y hy)
  cn := fun y hy => by have := List.all_eq_true.mp genCopied y hy; simpa using this
theorem cls38 (P : Params) : ClsOk (hd03.heap_39 P) 38 (gen 3) where
  obj := ⟨_, _, _, _, _, _, _, _, _, _, _, _, _, _, rfl, by decide +kernel, by decide +kernel⟩
  ga := by kernel_rfl
  gt := by kernel_rfl
  hd := by kernel_rfl
  no := fun y hy => isNone2_eq (List.all_eq_true.mp (no38 P) y hy)
  cn := fun y hy => by have := List.all_eq_true.mp genCopied y hy; simpa using this

def okText (y : Str) : Bool := y.cps.toList.all (fun c => decide (c < 200) && !(c == 46)) && !(Txt.slice y none (some 2) == Str.ofString "__")
theorem genText : ((gen 3).all okText) = true := by kernel_rfl
end Mine
end
section
open PySem PySem.W PySem.Calls PyProof.Rows Mine PySem.StrLaws
open PySem.Builtin PySem.Builtin.Str
set_option Elab.async false
set_option maxRecDepth 100000
set_option maxHeartbeats 1000000
namespace Mine
/-! the text of the name -/
theorem joinL_len (c : Nat) {m : Nat} : ∀ A : List (List Nat), (∀ a ∈ A, a.length ≤ m) → (joinL c A).length ≤ A.length * (m + 1)
  | [], _ => by simp [joinL]
  | [a], h => by have := h a (.head _); simp [joinL]; omega
  | a :: b :: r, h => by
    have h1 := h a (.head _)
    have h2 := joinL_len c (b :: r) fun p hp => h p (.tail _ hp)
    have e : (a :: b :: r).length = (b :: r).length + 1 := rfl
    rw [e, Nat.succ_mul]
    simp only [joinL, List.length_append, List.length_cons] at h2 ⊢
    omega
theorem joinL_mem (c : Nat) {P : Nat → Prop} (hc : P c) : ∀ A : List (List Nat), (∀ a ∈ A, ∀ z ∈ a, P z) → ∀ z ∈ joinL c A, P z
  | [], _, _, hz => by cases hz
  | [a], h, z, hz => h a (.head _) z hz
  | a :: b :: r, h, z, hz => by
    rcases List.mem_append.mp hz with hz | hz
    · exact h a (.head _) z hz
    · rcases List.mem_cons.mp hz with rfl | hz
      · exact hc
      · exact joinL_mem c hc (b :: r) (fun p hp => h p (.tail _ hp)) z hz
theorem join_toList (ps : List Str) : (Txt.join (Str.ofString ".") ps).cps.toList = joinL 46 (ps.map fun a => a.cps.toList) := by
  have e0 : Str.ofString "." = ⟨#[46]⟩ := by decide +kernel
  rw [e0, show Txt.join ⟨#[46]⟩ ps = Str.join ⟨#[46]⟩ ps from glued_eq_join _ _, join_toL]

theorem text_ok {y : Str} (hy : y ∈ gen 3) : (∀ c ∈ y.cps.toList, c < 200 ∧ c ≠ 46) ∧ (Txt.slice y none (some 2) == Str.ofString "__") = false ∧ y.length ≤ 32 := by
  have h := List.all_eq_true.mp genText y hy
  unfold okText at h
  rw [Bool.and_eq_true] at h
  refine ⟨fun c hc => ?_, by simpa using h.2, gen_len hy (by omega)⟩
  have := List.all_eq_true.mp h.1 c hc
  simpa using this
theorem name_ok {lv : List (Str × Tok)} (ok : PartsOk 3 lv) :
    Txt.split (Txt.join (Str.ofString ".") (lv.map (·.1))) (Str.ofString ".") = lv.map (·.1) ∧ (Txt.join (Str.ofString ".") (lv.map (·.1))).length ≤ 132 ∧ (reprText (Txt.join (Str.ofString ".") (lv.map (·.1)))).length ≤ 2000 := by
  have hm : ∀ p ∈ lv.map (·.1), p ∈ gen 3 := fun p hp => by
    obtain ⟨q, hq, rfl⟩ := List.mem_map.mp hp
    exact ok.2.2 q hq
  have hlen : (Txt.join (Str.ofString ".") (lv.map (·.1))).length ≤ 132 := by
    have h1 := joinL_len 46 (m := 32) ((lv.map (·.1)).map fun a => a.cps.toList) (fun a ha => by
      obtain ⟨p, hp, rfl⟩ := List.mem_map.mp ha
      have := (text_ok (hm p hp)).2.2
      simpa [PySem.Str.length] using this)
    rw [← join_toList] at h1
    have h2 := ok.2.1
    have e : (Txt.join (Str.ofString ".") (lv.map (·.1))).length = (Txt.join (Str.ofString ".") (lv.map (·.1))).cps.toList.length := by simp [PySem.Str.length]
    rw [e]
    simp only [List.length_map] at h1
    omega
  refine ⟨split_join (by simpa using ok.1) fun p hp h46 => ((text_ok (hm p hp)).1 46 h46).2 rfl, hlen, ?_⟩
  refine Nat.le_trans (reprText_len _ fun c hc => ?_) (by omega)
  rw [join_toList] at hc
  have := joinL_mem 46 (P := fun z => z < 16 ^ 8) (by decide) _ (fun a ha z hz => by
    obtain ⟨p, hp, rfl⟩ := List.mem_map.mp ha
    have := ((text_ok (hm p hp)).1 z hz).1
    omega) c hc
  exact this

/-! the plain law -/
section
variable {xs : Int → Addr} {att : Addr → Str → Option Addr}
theorem lw_ga (h0 : ∀ y, att (xs 0) y = none) (hv : ∀ k, 0 < k → k ≤ 5 → att (xs k) (Str.ofString "value") = some (xs (k - 1))) (hs : ∀ k, 0 < k → k ≤ 5 → att (xs k) (Str.ofString "values") = some (xs 0))
    (hn : ∀ k y, 0 < k → k ≤ 5 → (y == Str.ofString "value") = false → (y == Str.ofString "values") = false → att (xs k) y = none) :
    ∀ (ps : List Str) (a b : Int) (ref : Str) (a' b' : Int), 0 ≤ a → a ≤ 5 → 0 ≤ b → b ≤ 5 → lw a b ps = (ref, a', b') →
      (ref = Str.ofString "" ∧ lawGa att (xs a) (xs b) ps = .ok (xs a', xs b') ∧ 0 ≤ a' ∧ a' ≤ 5 ∧ 0 ≤ b' ∧ b' ≤ 5) ∨ (ref = Str.ofString "Can't get local attribute " ∧ lawGa att (xs a) (xs b) ps = .error true) ∨
      (ref = Str.ofString "Can't get attribute " ∧ lawGa att (xs a) (xs b) ps = .error false)
  | [], a, b, ref, a', b', h1, h2, h3, h4, h => by
    have h' : (Str.ofString "", a, b) = (ref, a', b') := h
    injection h' with e1 e2
    injection e2 with e2 e3
    subst e2 e3
    exact Or.inl ⟨e1.symm, rfl, h1, h2, h3, h4⟩
  | y :: r, a, b, ref, a', b', h1, h2, h3, h4, h => by
    by_cases hl : (y == Str.ofString "<locals>") = true
    · rw [lw_loc hl] at h
      exact Or.inr (Or.inl ⟨(Prod.mk.inj h).1.symm, by rw [lawGa, if_pos hl]⟩)
    · have hl' : (y == Str.ofString "<locals>") = false := by simpa using hl
      by_cases ha : a = 0
      · rw [lw_zero hl' ha] at h
        subst ha
        exact Or.inr (Or.inr ⟨(Prod.mk.inj h).1.symm, by rw [lawGa, if_neg hl, h0]⟩)
      · by_cases h5 : ([Str.ofString "value", Str.ofString "values"].any fun x => x == y) = true
        · rw [lw_on hl' ha h5] at h
          by_cases hy : (y == Str.ofString "value") = true
          · rw [if_pos hy] at h
            have hy2 : y = Str.ofString "value" := beq_iff_eq.mp hy
            subst hy2
            rw [lawGa, if_neg hl, hv a (by omega) h2]
            exact lw_ga h0 hv hs hn r (a - 1) a ref a' b' (by omega) (by omega) h1 h2 h
          · rw [if_neg hy] at h
            rcases any_yes h5 with q | q
            · exact absurd q hy
            · have hy2 : y = Str.ofString "values" := beq_iff_eq.mp q
              subst hy2
              rw [lawGa, if_neg hl, hs a (by omega) h2]
              exact lw_ga h0 hv hs hn r 0 a ref a' b' (by omega) (by omega) h1 h2 h
        · have h5' : ([Str.ofString "value", Str.ofString "values"].any fun x => x == y) = false := by simpa using h5
          rw [lw_no hl' h5'] at h
          exact Or.inr (Or.inr ⟨(Prod.mk.inj h).1.symm, by rw [lawGa, if_neg hl, hn a y (by omega) h2 (any_no h5').1 (any_no h5').2]⟩)
end
end Mine
end
section
open PySem PySem.W PySem.Calls PyProof.Rows Mine
set_option Elab.async false
set_option maxRecDepth 100000
set_option maxHeartbeats 1000000
namespace Mine
def attO (x0 p : Addr) (y : Str) : Option Addr := if y = Str.ofString "values" then some x0 else if y = Str.ofString "value" then some p else none
def attV (x0 p : Addr) : Str → Option Value := fun y => if y = Str.ofString "values" then some (.ref x0) else if y = Str.ofString "value" then some (.ref p) else none
theorem attV_eq (x0 p : Addr) : attV x0 p = fun y => (attO x0 p y).map Value.ref := by
  funext y
  unfold attV attO
  split
  · rfl
  · split <;> rfl
def Stop (news : List (Addr × Obj)) (x0 x p : Addr) : Prop := ∃ t d od, (x, excObj 58 t (some d)) ∈ news ∧ (t, tupObj [.ref p]) ∈ news ∧ (d, od) ∈ news ∧ ObjMap od (attV x0 p)
structure Th3 (news : List (Addr × Obj)) (x0 x1 x2 x3 x4 x5 : Addr) : Prop where
  b : ∃ t tk, (x0, excObj 38 t none) ∈ news ∧ (t, tupObj [.int 0 tk]) ∈ news
  s1 : Stop news x0 x1 x0
  s2 : Stop news x0 x2 x1
  s3 : Stop news x0 x3 x2
  s4 : Stop news x0 x4 x3
  s5 : Stop news x0 x5 x4
section
variable {h₀ h : Heap} {L x0 x1 x2 x3 x4 x5 x p x' p' : Addr} {news : List (Addr × Obj)}
theorem objMap_eq {od : Obj} {m m' : Str → Option Value} (a : ObjMap od m) (b : ObjMap od m') : m = m' := by
  obtain ⟨es, ep, e, _, _, f⟩ := a
  obtain ⟨es', ep', e', _, _, f'⟩ := b
  rw [e] at e'
  cases e'
  funext y
  rw [← f, ← f']
theorem stop_inj (N : News h₀ L h news) (a : Stop news x0 x p) (b : Stop news x0 x p') : p = p' := by
  obtain ⟨t, d, od, a1, _, a3, a4⟩ := a
  obtain ⟨t', d', od', b1, _, b3, b4⟩ := b
  have e := (N _ a1).1.symm.trans (N _ b1).1
  have e' : d = d' := by injection e with e; injection e with _ e _ _; exact Option.some.inj e
  subst e'
  have e2 := Option.some.inj ((N _ a3).1.symm.trans (N _ b3).1)
  have e3 : od = od' := e2
  subst e3
  have e4 := congrFun (objMap_eq a4 b4) (Str.ofString "value")
  unfold attV at e4
  rw [if_neg (by decide), if_pos rfl, if_neg (by decide), if_pos rfl] at e4
  exact Value.ref.inj (Option.some.inj e4)
theorem stop_base (N : News h₀ L h news) (a : Stop news x0 x p) (b : ∃ t tk, (x0, excObj 38 t none) ∈ news ∧ (t, tupObj [.int 0 tk]) ∈ news) : x ≠ x0 := by
  intro z
  subst z
  obtain ⟨t, d, od, a1, _⟩ := a
  obtain ⟨t', tk, b1, _⟩ := b
  have e := (N _ a1).1.symm.trans (N _ b1).1
  injection e with e
  injection e with e
  cases e
theorem stop_ne (N : News h₀ L h news) (a : Stop news x0 x p) (b : Stop news x0 x' p') (hp : p ≠ p') : x ≠ x' := fun z => by
  subst z
  exact hp (stop_inj N a b)
end

def xa (x0 x1 x2 x3 x4 x5 : Addr) (k : Int) : Addr := if k = 0 then x0 else if k = 1 then x1 else if k = 2 then x2 else if k = 3 then x3 else if k = 4 then x4 else x5
def att3 (x0 x1 x2 x3 x4 x5 : Addr) (a : Addr) (y : Str) : Option Addr :=
  if a = x1 then attO x0 x0 y else if a = x2 then attO x0 x1 y else if a = x3 then attO x0 x2 y else if a = x4 then attO x0 x3 y else if a = x5 then attO x0 x4 y else none
structure Far (x0 x1 x2 x3 x4 x5 : Addr) : Prop where
  d01 : x1 ≠ x0
  d02 : x2 ≠ x0
  d03 : x3 ≠ x0
  d04 : x4 ≠ x0
  d05 : x5 ≠ x0
  d12 : x2 ≠ x1
  d13 : x3 ≠ x1
  d14 : x4 ≠ x1
  d15 : x5 ≠ x1
  d23 : x3 ≠ x2
  d24 : x4 ≠ x2
  d25 : x5 ≠ x2
  d34 : x4 ≠ x3
  d35 : x5 ≠ x3
  d45 : x5 ≠ x4
section
variable {h₀ h : Heap} {L x0 x1 x2 x3 x4 x5 : Addr} {news : List (Addr × Obj)}
theorem th3_far (N : News h₀ L h news) (T : Th3 news x0 x1 x2 x3 x4 x5) : Far x0 x1 x2 x3 x4 x5 := by
  have d01 := stop_base N T.s1 T.b
  have d02 := stop_base N T.s2 T.b
  have d03 := stop_base N T.s3 T.b
  have d04 := stop_base N T.s4 T.b
  have d05 := stop_base N T.s5 T.b
  have d12 := stop_ne N T.s2 T.s1 d01
  have d13 := stop_ne N T.s3 T.s1 d02
  have d14 := stop_ne N T.s4 T.s1 d03
  have d15 := stop_ne N T.s5 T.s1 d04
  have d23 := stop_ne N T.s3 T.s2 d12
  have d24 := stop_ne N T.s4 T.s2 d13
  have d25 := stop_ne N T.s5 T.s2 d14
  have d34 := stop_ne N T.s4 T.s3 d23
  have d35 := stop_ne N T.s5 T.s3 d24
  exact ⟨d01, d02, d03, d04, d05, d12, d13, d14, d15, d23, d24, d25, d34, d35, stop_ne N T.s5 T.s4 d34⟩
variable {P : Params}
theorem stop_node {x p : Addr} (S : Stop news x0 x p) (ha : ∀ y, att3 x0 x1 x2 x3 x4 x5 x y = attO x0 p y) : NodeIn (hd03.heap_39 P) news (gen 3) (att3 x0 x1 x2 x3 x4 x5) x := by
  obtain ⟨t, d, od, h1, _, h3, h4⟩ := S
  refine ⟨58, t, some d, cls58 P, h1, od, h3, ?_⟩
  have e : (fun y => (att3 x0 x1 x2 x3 x4 x5 x y).map Value.ref) = attV x0 p := by rw [attV_eq]; funext y; rw [ha]
  rw [e]; exact h4
theorem att_0 (D : Far x0 x1 x2 x3 x4 x5) (y : Str) : att3 x0 x1 x2 x3 x4 x5 x0 y = none := by
  unfold att3
  rw [if_neg D.d01.symm, if_neg D.d02.symm, if_neg D.d03.symm, if_neg D.d04.symm, if_neg D.d05.symm]
theorem att_1 (y : Str) : att3 x0 x1 x2 x3 x4 x5 x1 y = attO x0 x0 y := by unfold att3; rw [if_pos rfl]
theorem att_2 (D : Far x0 x1 x2 x3 x4 x5) (y : Str) : att3 x0 x1 x2 x3 x4 x5 x2 y = attO x0 x1 y := by unfold att3; rw [if_neg D.d12, if_pos rfl]
theorem att_3 (D : Far x0 x1 x2 x3 x4 x5) (y : Str) : att3 x0 x1 x2 x3 x4 x5 x3 y = attO x0 x2 y := by unfold att3; rw [if_neg D.d13, if_neg D.d23, if_pos rfl]
theorem att_4 (D : Far x0 x1 x2 x3 x4 x5) (y : Str) : att3 x0 x1 x2 x3 x4 x5 x4 y = attO x0 x3 y := by unfold att3; rw [if_neg D.d14, if_neg D.d24, if_neg D.d34, if_pos rfl]
theorem att_5 (D : Far x0 x1 x2 x3 x4 x5) (y : Str) : att3 x0 x1 x2 x3 x4 x5 x5 y = attO x0 x4 y := by unfold att3; rw [if_neg D.d15, if_neg D.d25, if_neg D.d35, if_neg D.d45, if_pos rfl]
def G3 (x0 x1 x2 x3 x4 x5 a : Addr) : Prop := a = x0 ∨ a = x1 ∨ a = x2 ∨ a = x3 ∨ a = x4 ∨ a = x5
theorem node3 (D : Far x0 x1 x2 x3 x4 x5) (T : Th3 news x0 x1 x2 x3 x4 x5) : ∀ a, G3 x0 x1 x2 x3 x4 x5 a → NodeIn (hd03.heap_39 P) news (gen 3) (att3 x0 x1 x2 x3 x4 x5) a := by
  rintro a (rfl | rfl | rfl | rfl | rfl | rfl)
  · obtain ⟨t, tk, h1, _⟩ := T.b
    exact ⟨38, t, none, cls38 P, h1, att_0 D⟩
  · exact stop_node T.s1 att_1
  · exact stop_node T.s2 (att_2 D)
  · exact stop_node T.s3 (att_3 D)
  · exact stop_node T.s4 (att_4 D)
  · exact stop_node T.s5 (att_5 D)
theorem attO_cases {x0 p z : Addr} {y : Str} (h : attO x0 p y = some z) : z = x0 ∨ z = p := by
  unfold attO at h
  split at h
  · exact Or.inl (Option.some.inj h).symm
  · split at h
    · exact Or.inr (Option.some.inj h).symm
    · cases h
theorem closed3 (D : Far x0 x1 x2 x3 x4 x5) : ∀ a y z, G3 x0 x1 x2 x3 x4 x5 a → att3 x0 x1 x2 x3 x4 x5 a y = some z → G3 x0 x1 x2 x3 x4 x5 z := by
  intro a y z hG h
  unfold G3 at hG ⊢
  rcases hG with e | e | e | e | e | e
  · rw [e, att_0 D] at h; cases h
  · rw [e, att_1] at h; rcases attO_cases h with e | e <;> simp [e]
  · rw [e, att_2 D] at h; rcases attO_cases h with e | e <;> simp [e]
  · rw [e, att_3 D] at h; rcases attO_cases h with e | e <;> simp [e]
  · rw [e, att_4 D] at h; rcases attO_cases h with e | e <;> simp [e]
  · rw [e, att_5 D] at h; rcases attO_cases h with e | e <;> simp [e]
theorem xa_G (k : Int) : G3 x0 x1 x2 x3 x4 x5 (xa x0 x1 x2 x3 x4 x5 k) := by
  unfold G3 xa
  repeat' (split; simp)
  simp
theorem k_cases {k : Int} (h : 0 < k) (h5 : k ≤ 5) : k = 1 ∨ k = 2 ∨ k = 3 ∨ k = 4 ∨ k = 5 := by omega
theorem attO_value (x0 p : Addr) : attO x0 p (Str.ofString "value") = some p := by unfold attO; rw [if_neg (by decide), if_pos rfl]
theorem attO_values (x0 p : Addr) : attO x0 p (Str.ofString "values") = some x0 := by unfold attO; rw [if_pos rfl]
theorem attO_none {x0 p : Addr} {y : Str} (h1 : (y == Str.ofString "value") = false) (h2 : (y == Str.ofString "values") = false) : attO x0 p y = none := by
  unfold attO
  rw [if_neg (beq_eq_false_iff_ne.mp h2), if_neg (beq_eq_false_iff_ne.mp h1)]
theorem xa_at (D : Far x0 x1 x2 x3 x4 x5) {k : Int} (h : 0 < k) (h5 : k ≤ 5) (y : Str) : att3 x0 x1 x2 x3 x4 x5 (xa x0 x1 x2 x3 x4 x5 k) y = attO x0 (xa x0 x1 x2 x3 x4 x5 (k - 1)) y := by
  rcases k_cases h h5 with rfl | rfl | rfl | rfl | rfl
  · exact att_1 y
  · exact att_2 D y
  · exact att_3 D y
  · exact att_4 D y
  · exact att_5 D y
theorem law3 (D : Far x0 x1 x2 x3 x4 x5) {ps : List Str} {a : Int} {ref : Str} {a' b' : Int} (h1 : 0 ≤ a) (h2 : a ≤ 5) (h : lw a a ps = (ref, a', b')) :
    (ref = Str.ofString "" ∧ lawGa (att3 x0 x1 x2 x3 x4 x5) (xa x0 x1 x2 x3 x4 x5 a) (xa x0 x1 x2 x3 x4 x5 a) ps = .ok (xa x0 x1 x2 x3 x4 x5 a', xa x0 x1 x2 x3 x4 x5 b') ∧ 0 ≤ a' ∧ a' ≤ 5 ∧ 0 ≤ b' ∧ b' ≤ 5) ∨
      (ref = Str.ofString "Can't get local attribute " ∧ lawGa (att3 x0 x1 x2 x3 x4 x5) (xa x0 x1 x2 x3 x4 x5 a) (xa x0 x1 x2 x3 x4 x5 a) ps = .error true) ∨
      (ref = Str.ofString "Can't get attribute " ∧ lawGa (att3 x0 x1 x2 x3 x4 x5) (xa x0 x1 x2 x3 x4 x5 a) (xa x0 x1 x2 x3 x4 x5 a) ps = .error false) :=
  lw_ga (xs := xa x0 x1 x2 x3 x4 x5) (att := att3 x0 x1 x2 x3 x4 x5) (att_0 D) (fun k hk h5 => by rw [xa_at D hk h5, attO_value]) (fun k hk h5 => by rw [xa_at D hk h5, attO_values]; rfl) (fun k y hk h5 a b => by rw [xa_at D hk h5, attO_none a b]) ps a a ref a' b' h1 h2 h1 h2 h

theorem rep0 (T : Th3 news x0 x1 x2 x3 x4 x5) : ∃ r, ∀ h' L', News h₀ L' h' news → RepOf h' (hd03.heap_39 P) 1 (.ref x0) r := by
  obtain ⟨t, tk, h1, h2⟩ := T.b
  exact ⟨_, fun h' L' N => .exc (hd := "PickleError") rfl (by kernel_rfl) (by decide +kernel) (by decide +kernel) (N _ h1).1 (N _ h2).1 (.int 0 tk (by decide) (by decide +kernel))⟩
theorem repS {x p : Addr} {n : Nat} (S : Stop news x0 x p) (R : ∃ r, ∀ h' L', News h₀ L' h' news → RepOf h' (hd03.heap_39 P) n (.ref p) r) : ∃ r, ∀ h' L', News h₀ L' h' news → RepOf h' (hd03.heap_39 P) (n + 1) (.ref x) r := by
  obtain ⟨r, R⟩ := R
  obtain ⟨t, d, od, h1, h2, _⟩ := S
  exact ⟨_, fun h' L' N => .exc (hd := "_Stop") rfl (by kernel_rfl) (by decide +kernel) (by decide +kernel) (N _ h1).1 (N _ h2).1 (R h' L' N)⟩
theorem rep3 (T : Th3 news x0 x1 x2 x3 x4 x5) (k : Int) : ∃ n r, n ≤ 7 ∧ ∀ h' L', News h₀ L' h' news → RepOf h' (hd03.heap_39 P) n (.ref (xa x0 x1 x2 x3 x4 x5 k)) r := by
  have r0 := rep0 (h₀ := h₀) (P := P) T
  have r1 := repS T.s1 r0
  have r2 := repS T.s2 r1
  have r3 := repS T.s3 r2
  have r4 := repS T.s4 r3
  have r5 := repS T.s5 r4
  unfold xa
  split
  · exact ⟨1, r0.choose, by omega, r0.choose_spec⟩
  · split
    · exact ⟨2, r1.choose, by omega, r1.choose_spec⟩
    · split
      · exact ⟨3, r2.choose, by omega, r2.choose_spec⟩
      · split
        · exact ⟨4, r3.choose, by omega, r3.choose_spec⟩
        · split
          · exact ⟨5, r4.choose, by omega, r4.choose_spec⟩
          · exact ⟨6, r5.choose, by omega, r5.choose_spec⟩
end
end Mine
end
section
open PySem PySem.W PySem.Calls PyProof.Rows Mine PySem.P
set_option Elab.async false
set_option maxRecDepth 100000
set_option maxHeartbeats 1000000
namespace Mine
theorem slot_attr_str : Slot "AttributeError" "__str__" "AttributeError.__str__" :=
  .of (owner := "AttributeError") (n := "__str__") (by rw [typeLookup_type, builtinLookup_eq_fast]; kernel_rfl) (by decide +kernel) (by decide +kernel) (by decide +kernel)
    (by first | exact .inl (by decide +kernel) | exact .inr (by decide +kernel)) (by rw [isSubtype_type]; kernel_rfl)
theorem entry_attr_str : entryFor table "AttributeError.__str__" = some Builtin.«BaseException.__str__» :=
  entryFor_alias (id' := "BaseException.__str__") (by kernel_rfl) (by decide +kernel) (by decide +kernel) (by kernel_rfl)
theorem args_attr_str (a : Value) : argsOk "AttributeError.__str__" ⟨[a], []⟩ := by unfold argsOk; kernel_rfl
theorem strOf_attr {prog : Program} {w : World} {A : Around} {E : Value → Shared → Prop} {s : Shared} {e t0 : Addr} (hu : A.units < cLine) {m : Str} {tk : Tok} {Q : Value → Shared → Prop} (x : s.heap.ExcAt e "AttributeError" (.ref t0)) (ht : s.heap.TupAt t0 [.str m tk]) (hq : Q (.str m tk) s) :
    wpAny (model prog w) A (PySem.Builtin.Str.strOf (.ref e)) Q E s := by
  unfold PySem.Builtin.Str.strOf
  repeat (first | with_reducible refine wpAny_cRoomFor hu ?_ | with_reducible refine wpAny_callSpecial?_slot x.typeIs slot_attr_str (wpAny_call_entry slot_attr_str x.typeIs entry_attr_str (bexcStr_entry_one x ht ⟨_, rfl, ?_⟩) (args_attr_str _)) | wp_step)
  exact hq
theorem str_of_attr {prog : Program} {w : World} {A : Around} {E : Value → Shared → Prop} {s : Shared} {e t0 : Addr} (hu : A.units + 2 < cLine) {m : Str} {tk : Tok} {Q : Value → Shared → Prop} (x : s.heap.ExcAt e "AttributeError" (.ref t0)) (ht : s.heap.TupAt t0 [.str m tk]) (h : Q (.str m tk) s) :
    wpAny (model prog w) A (call (.type "str") [.ref e]) Q E s :=
  callType_new F.called_str (by decide) (F.typeCall_str_1 _) (F.newCall_str_1 _) (fun obj => F.args_object_init_2 obj _) F.entry_str_new
    (meets_str_new (S := fun A' R s' => A'.units + 1 < cLine ∧ s'.heap.ExcAt e "AttributeError" (.ref t0) ∧ s'.heap.TupAt t0 [.str m tk] ∧ R (.ok (.ret (.str m tk))) s')
      fun _ _ A' _ _ hq => strOf_attr (A := A'.in1) hq.1 hq.2.1 hq.2.2.1 hq.2.2.2)
    ⟨(show A.units + 1 + 1 < cLine from hu), x, ht, typeIs_str _ _ _, h⟩
def Halt (p : Prop) : Prop := p
theorem halt {p : Prop} (h : Halt p) : p := h
theorem gaMsg_true (a b : Str) : gaMsg true a b = Str.ofString "Can't get local attribute " ++ reprText a ++ Str.ofString " on " ++ b := rfl
theorem gaMsg_false (a b : Str) : gaMsg false a b = Str.ofString "Can't get attribute " ++ reprText a ++ Str.ofString " on " ++ b := rfl
section
variable {prog : Program} {w : World} {A : Around} {E : Value → Shared → Prop} {s : Shared} {L : Addr} {h₀ : Heap} {m : Str → Option Value} {news nx : List (Addr × Obj)} {Q : Value → Shared → Prop} {K : Frag}
theorem ints_at {vs : List Value} {ns : List Int} {i : Nat} {v : Value} (h : IntsAre vs ns) (hv : vs[i]? = some v) : ∃ n t, v = .int n t := by
  have hl : i < vs.length := (List.getElem?_eq_some_iff.mp hv).1
  have hl' : i < ns.length := by rw [← h.length]; exact hl
  obtain ⟨t, hx⟩ := h.get i ns[i] (by simp [hl'])
  rw [hx] at hv
  exact ⟨_, t, (Option.some.inj hv).symm⟩
theorem join_k {r : Addr} {lv : List (Str × Tok)} {nn : Nat} {t : Tok} (N : News h₀ L s.heap nx) (hm : (r, listOf (strValues lv).toArray nn) ∈ nx) (ok : PartsOk 3 lv) (h : ∀ t' k, Q (.str (Txt.join (Str.ofString ".") (lv.map (·.1))) t') { s with toks := k }) :
    wpAny (model prog w) A (call (.builtin "str.join") [.str (Str.ofString ".") t, .ref r]) Q E s := by
  have hl : s.heap.IsList r (strValues lv).toArray := ⟨_, (N _ hm).1, rfl, nn, rfl⟩
  have hsum : ∀ l : List (Str × Tok), (∀ q ∈ l, q.1 ∈ gen 3) → ((l.map (·.1)).map (·.length)).sum ≤ l.length * 32 := by
    intro l
    induction l with
    | nil => intro _; simp
    | cons q l ih =>
      intro hq
      have h1 : q.1.length ≤ 32 := (text_ok (hq q (.head _))).2.2
      have h2 := ih fun p hp => hq p (.tail _ hp)
      simp only [List.map_cons, List.sum_cons, List.length_cons]
      omega
  refine join_list (ys := lv.map (·.1)) hl ?_ ?_ h
  · show StrsAre (strValues lv).toArray.toList _
    rw [List.toList_toArray]; exact strsAre_of_values lv
  · have h1 := hsum lv ok.2.2
    have h2 := ok.2.1
    have e1 : (Str.ofString ".").length = 1 := by rw [PySem.ofString_length]; rfl
    rw [e1, List.length_map]
    omega
theorem repr_k {x : Str} {t : Tok} (hl : (reprText x).length ≤ 2000) (h : ∀ u tk, Q (.str (reprText x) u) { s with toks := tk }) : wpAny (model prog w) A (call (.builtin "repr") [.str x t]) Q E s :=
  P.repr_of_str (h _ _) (by rw [sizeLine_eq]; omega)
theorem reprT_k {x : Addr} {r : Str} {n : Nat} (F : Fr h₀ L s.heap m) (X₀ : K.In h₀) (N : News h₀ L s.heap nx) (hrep : ∀ h' L', News h₀ L' h' news → RepOf h' K n (.ref x) r) (hn : n ≤ 7) (hsub : ∀ p ∈ news, p ∈ nx) (hu : A.units + 9 < cLine)
    (h : ∀ u tk, Q (.str r u) { s with toks := tk }) : wpAny (model prog w) A (call (.builtin "repr") [.ref x]) Q E s := by
  obtain ⟨hp, g, d, t, os⟩ := s
  exact rep_call (hrep hp L fun p hp => N p (hsub p hp)) (X₀.keeps F.keep) (by omega) (by omega) fun u tk => h u tk
theorem strE_k {e t : Addr} {msg : Str} {u : Tok} (N : News h₀ L s.heap nx) (G : Got nx e t (.type "AttributeError") [.str msg u]) (hu : A.units + 2 < cLine) (h : Q (.str msg u) s) : wpAny (model prog w) A (call (.type "str") [.ref e]) Q E s := by
  obtain ⟨oe, ot, ws, nt, h1, h2, h3, h4, h5, h6, h7⟩ := G
  exact str_of_attr hu ⟨oe, ws, (N _ h1).1, h3, h4, h5⟩ ⟨ot, nt, (N _ h2).1, h6, h7⟩ h
theorem type_tup {T : Addr} {vs : List Value} (N : News h₀ L s.heap nx) (hm : (T, tupObj vs) ∈ nx) (h : Q (.type "tuple") s) : wpAny (model prog w) A (call (.type "type") [.ref T]) Q E s :=
  kto_cont (T := "tuple") ⟨_, (N _ hm).1, rfl⟩ (by decide +kernel) h
theorem len_tup2 {T : Addr} {a b : Value} (N : News h₀ L s.heap nx) (hm : (T, tupObj [a, b]) ∈ nx) (h : ∀ u tk, Q (.int 2 u) { s with toks := tk }) : wpAny (model prog w) A (call (.builtin "len") [.ref T]) Q E s :=
  len_tuple (items := #[a, b]) ⟨_, (N _ hm).1, rfl, 0, rfl⟩ (by simp) (h _ _)
theorem item_tup0 {value slice : PySem.Expr} {T : Addr} {a b : Value} {u : Tok} (N : News h₀ L s.heap nx) (hm : (T, tupObj [a, b]) ∈ nx) (h : Q a s)
    (hs : subscripted slice false (.ref T) (.int 0 u) = operate [.ref T, .int 0 u] (getItem (.ref T) (.int 0 u)) := by with_unfolding_all rfl) (hg : ∀ r, letTemporaryGo value (.ref T) r = pure () := by intro _; with_unfolding_all rfl) :
    wpAny (model prog w) A (subscriptTail value slice (.ref T) (.int 0 u)) Q E s := by
  have ht : IsTup s.heap T #[a, b] := ⟨_, (N _ hm).1, rfl, 0, rfl⟩
  exact PyProof.Rows.item_tuple ht (by omega) (by omega) (j := 0) rfl rfl h hs hg
theorem item_tup1 {value slice : PySem.Expr} {T : Addr} {a b : Value} {u : Tok} (N : News h₀ L s.heap nx) (hm : (T, tupObj [a, b]) ∈ nx) (h : Q b s)
    (hs : subscripted slice false (.ref T) (.int 1 u) = operate [.ref T, .int 1 u] (getItem (.ref T) (.int 1 u)) := by with_unfolding_all rfl) (hg : ∀ r, letTemporaryGo value (.ref T) r = pure () := by intro _; with_unfolding_all rfl) :
    wpAny (model prog w) A (subscriptTail value slice (.ref T) (.int 1 u)) Q E s := by
  have ht : IsTup s.heap T #[a, b] := ⟨_, (N _ hm).1, rfl, 0, rfl⟩
  exact PyProof.Rows.item_tuple ht (by omega) (by omega) (j := 1) rfl rfl h hs hg
theorem item_pick {value slice : PySem.Expr} {l x0 x1 x2 x3 x4 x5 : Addr} {nn : Nat} {k : Int} {u : Tok} (N : News h₀ L s.heap nx) (hm : (l, listOf #[.ref x0, .ref x1, .ref x2, .ref x3, .ref x4, .ref x5] nn) ∈ news) (hsub : ∀ p ∈ news, p ∈ nx) (h0 : 0 ≤ k) (h1 : k ≤ 5) (h : Q (.ref (xa x0 x1 x2 x3 x4 x5 k)) s)
    (hs : subscripted slice false (.ref l) (.int k u) = operate [.ref l, .int k u] (getItem (.ref l) (.int k u)) := by with_unfolding_all rfl) :
    wpAny (model prog w) A (subscriptTail value slice (.ref l) (.int k u)) Q E s := by
  have hl : s.heap.IsList l #[.ref x0, .ref x1, .ref x2, .ref x3, .ref x4, .ref x5] := ⟨_, (N _ (hsub _ hm)).1, rfl, nn, rfl⟩
  refine tail_any hl.typeIs slot_list_getitem.lookup (wpAny_getItem_list hl h0 (by omega) (x := .ref (xa x0 x1 x2 x3 x4 x5 k)) ?_ h) hs
  have : k = 0 ∨ k = 1 ∨ k = 2 ∨ k = 3 ∨ k = 4 ∨ k = 5 := by omega
  rcases this with rfl | rfl | rfl | rfl | rfl | rfl <;> rfl
end
theorem th_list {x0 x1 x2 x3 x4 x5 l : Addr} {nn : Nat} {rest : List (Addr × Obj)} (_ : Th3 rest x0 x1 x2 x3 x4 x5) (h : (l, listOf #[.ref x0, .ref x1, .ref x2, .ref x3, .ref x4, .ref x5] nn) ∈ rest) : (l, listOf #[.ref x0, .ref x1, .ref x2, .ref x3, .ref x4, .ref x5] nn) ∈ rest := h
end Mine
end
section
open PySem PySem.W PySem.Calls PyProof.Rows Mine
set_option Elab.async false
set_option maxRecDepth 100000
set_option maxHeartbeats 4000000
set_option pp.deepTerms false
set_option pp.deepTerms.threshold 8
namespace Mine
def lawMap (u : Str → Option Value) (l : Addr) : Str → Option Value := fun z => if z = Str.ofString "things" then some (.ref l) else u z
theorem lawMap_of {m : Str → Option Value} {l : Addr} (h : m (Str.ofString "things") = some (.ref l)) : m = lawMap m l := by
  funext z
  unfold lawMap
  split
  · rename_i e; rw [e, h]
  · rfl
theorem lawMap_fr {h₀ h : Heap} {L l : Addr} {m : Str → Option Value} (F : Fr h₀ L h m) (e : m (Str.ofString "things") = some (.ref l)) : Fr h₀ L h (lawMap m l) := lawMap_of e ▸ F
theorem th3_of {h₀ h : Heap} {L x0 x1 x2 x3 x4 x5 : Addr} {rest own : List (Addr × Obj)} (_ : News h₀ L h (rest ++ own)) (s5 : Stop rest x0 x5 x4) (s4 : Stop rest x0 x4 x3) (s3 : Stop rest x0 x3 x2) (s2 : Stop rest x0 x2 x1) (s1 : Stop rest x0 x1 x0)
    (b : ∃ t tk, (x0, excObj 38 t none) ∈ rest ∧ (t, tupObj [.int 0 tk]) ∈ rest) : Th3 rest x0 x1 x2 x3 x4 x5 := ⟨b, s1, s2, s3, s4, s5⟩
def LawInv (rest : List (Addr × Obj)) (l : Addr) (m' : Str → Option Value) (nx : List (Addr × Obj)) : Prop := nx = rest ∧ ∃ u, m' = lawMap u l
local macro_rules | `(tactic| walk_at "call ref") => `(tactic| (k_here; (with_reducible show wpAny _ _ (call (Value.ref _) _) _ _ _); k_dflt (first
  | (refine' mk_exc0 ?k1 ?k2 ?k3 ?k4 ?k5 (Nat.le_of_ble_eq_true rfl) ?_; (case k1 => k_asm); (case k2 => k_asm); (case k3 => k_asm); (case k4 => k_is); (case k5 => k_is); k_whole; intro x' t' h' F' N' l1 l2; (try k_lt l1); (try k_lt2 l2); (try k_sweep))
  | (refine' mk_exc1 ?k1 ?k2 ?k3 ?k4 ?k5 ?k6 (Nat.le_of_ble_eq_true rfl) ?_; (case k1 => k_asm); (case k2 => k_asm); (case k3 => k_asm); (case k4 => k_is); (case k5 => k_is); (case k6 => k_is); k_whole; intro x' t' h' F' N' l1 l2; (try k_lt l1); (try k_lt2 l2); (try k_sweep); k_enter))))
local macro_rules | `(tactic| walk_at "setAttr ref") => `(tactic| (k_here; (with_reducible show wpAny _ _ (setAttr (Value.ref _) _ _) _ _ _); k_dflt (first
  | (refine' set_new ?k1 ?k2 ?k3 ?k4 ?k5 ?k6 ?k7 ?_; (case k1 => k_asm); (case k2 => k_asm); (case k3 => k_asm); (case k7 => k_updF); (case k4 => k_is); (case k5 => k_is); (case k6 => k_is); k_whole; intro d' o' h' tk' F' N' l1 om'; (try k_lt l1); (try k_sweep))
  | (refine' set_old ?k1 ?k2 ?k3 ?k4 ?k5 ?k6 ?k7 ?k8 ?k9 ?k11 ?k10 ?_; (case k1 => k_asm); (case k2 => k_asm); (case k3 => k_asm); (case k8 => with_reducible assumption); (case k7 => k_mem);  (case k10 => k_updF); (case k4 => k_is); (case k5 => k_is); (case k6 => k_is); (case k9 => first | exact Within.nil | exact Within.cons _ _ Within.nil | exact Within.cons _ _ (Within.cons _ _ Within.nil)); (case k11 => decide); k_whole; intro o' h' tk' F' N' om'; (try k_sweep)))))
local macro_rules | `(tactic| walk_at "exec For Name BinOp cons nil") => `(tactic| (k_here; (rename Fr _ _ _ _ => lF'); (with_unfolding_all refine' For_invVF lF' ?k1 ?k2 ?_; (case k1 => exact rfl); (case k2 => exact rfl); k_whole)))

local macro_rules | `(tactic| walk_at "call ref") => `(tactic| ((with_reducible show wpAny _ _ (call (Value.ref 75) _) _ _ _); (refine' lp03 ?k1 ?k2 ?k3 ?k4 ?k5 ?k6 ?_; (case k1 => k_asm); (case k2 => k_asm); (case k3 => k_asm); (case k4 => k_asm); (case k5 => k_room); (case k6 => with_unfolding_all exact rfl); intro r' h' tk' lv' nn' ok' F' N' l1'); (have nm' := name_ok ok')))
local macro_rules | `(tactic| walk_at "call ref") => `(tactic| ((with_reducible show wpAny _ _ (call (Value.ref 82) _) _ _ _); (refine' lw03 ?k1 ?k2 ?k3 ?k4 ?kl ?k5 ?k6 ?_; (case k1 => k_asm); (case k2 => k_asm); (case k3 => k_asm); (case k4 => k_asm); (case kl => assumption); (case k5 => k_room); (case k6 => with_unfolding_all exact rfl); intro ref' a' b' hlw' T' h' tk' t1' t2' t3' F' N' l1'); rcases law3 (by assumption) (by assumption) (by assumption) hlw' with ⟨e', g', b1', b2', b3', b4'⟩ | ⟨e', g'⟩ | ⟨e', g'⟩ <;> subst e'))
local macro_rules | `(tactic| walk_at "call ref") => `(tactic| ((with_reducible show wpAny _ _ (call (Value.ref 68) _) _ _ _); refine halt ?_))
local macro_rules | `(tactic| walk_at "call builtin:str.join") => `(tactic| ((refine' join_k ?k1 ?k2 ?k3 ?_; (case k1 => k_asm); (case k2 => k_mem); (case k3 => assumption); intro t' k')))
local macro_rules | `(tactic| walk_at "call builtin:repr") => `(tactic| (first
  | (refine' repr_k ?k1 ?_; (case k1 => exact (And.right (And.right (by assumption)))); intro u' tk')
  | (refine' reprT_k ?k1 ?k2 ?k3 ?k4 ?k5 ?k6 ?k7 ?_; (case k1 => k_asm); (case k2 => k_asm); (case k3 => k_asm); (case k4 => assumption); (case k5 => assumption); (case k6 => (intro p hp; repeat (first | exact List.mem_append_left _ hp | exact hp | refine List.mem_cons_of_mem _ ?_))); (case k7 => units_room); intro u' tk')))
local macro_rules | `(tactic| walk_at "call type:str") => `(tactic| ((refine' strE_k ?k1 ?k2 ?k3 ?_; (case k2 => assumption); (case k1 => assumption); (case k3 => units_room))))
local macro_rules | `(tactic| walk_at "subscriptTail") => `(tactic| ((with_reducible show wpAny _ _ (subscriptTail (Expr.Name (Str.ofString "things") _) _ (Value.ref _) (Value.int _ _)) _ _ _); (with_unfolding_all refine' item_pick ?k1 ?k2 ?k3 ?k4 ?k5 ?_ ?k6; (case k1 => k_asm); (case k2 => assumption); (case k3 => (intro p hp; repeat (first | exact List.mem_append_left _ hp | exact hp | refine List.mem_cons_of_mem _ ?_))); (case k4 => assumption); (case k5 => assumption); (case k6 => with_unfolding_all rfl))))
local macro_rules | `(tactic| walk_at "call type:type") => `(tactic| ((with_reducible show wpAny _ _ (call (Value.type "type") [Value.ref _]) _ _ _); (refine' type_tup ?k1 ?k2 ?_; (case k1 => k_asm); (case k2 => k_mem))))
local macro_rules | `(tactic| walk_at "call builtin:len") => `(tactic| ((with_reducible show wpAny _ _ (call (Value.builtin "len") [Value.ref _]) _ _ _); (refine' len_tup2 ?k1 ?k2 ?_; (case k1 => k_asm); (case k2 => k_mem); intro u' tk')))
local macro_rules | `(tactic| walk_at "subscriptTail") => `(tactic| ((with_reducible show wpAny _ _ (subscriptTail (Expr.Name (Str.ofString "told") _) _ (Value.ref _) (Value.int 0 _)) _ _ _); (with_unfolding_all refine' item_tup0 ?k1 ?k2 ?_ ?k6 ?k7; (case k1 => k_asm); (case k2 => k_mem); (case k6 => with_unfolding_all rfl); (case k7 => intro _; with_unfolding_all rfl))))
local macro_rules | `(tactic| walk_at "subscriptTail") => `(tactic| ((with_reducible show wpAny _ _ (subscriptTail (Expr.Name (Str.ofString "told") _) _ (Value.ref _) (Value.int 1 _)) _ _ _); (with_unfolding_all refine' item_tup1 ?k1 ?k2 ?_ ?k6 ?k7; (case k1 => k_asm); (case k2 => k_mem); (case k6 => with_unfolding_all rfl); (case k7 => intro _; with_unfolding_all rfl))))
local macro_rules | `(tactic| walk_at "compareOp IsNot ref ref") => `(tactic| (refine wpAny_isNot_ref_self ?_))
theorem law_end {h₀ h' : Heap} {L l : Addr} {m' : Str → Option Value} {rest own nx : List (Addr × Obj)} {adr : List Addr} {s₁ : Shared} {tk : Nat} (F : Fr h₀ L h' m') (N : News h₀ L h' nx) (hs : ∀ p ∈ rest ++ own, p ∈ nx) (e : m' (Str.ofString "things") = some (.ref l)) (ha : adr = rest.map (·.1)) :
    InvEndN h₀ L (fun m' nx => LawInv rest l m' nx) own adr s₁ { s₁ with heap := h', toks := tk } :=
  ⟨h', tk, m', nx, rest, rfl, F, N, fun p hp => hs p (List.mem_append_left _ hp), fun p hp => hs p (List.mem_append_right _ hp), ha.symm, rfl, m', lawMap_of e⟩
theorem hid_of {p : Prop} (h : p) : Hid p := h
theorem un_hid {p : Prop} (h : Hid p) : p := h
theorem kx_of {h₀ h : Heap} {L : Addr} {nx : List (Addr × Obj)} {P : Params} (_ : News h₀ L h nx) (X : (hd03.heap_39 P).In h₀) : (hd03.heap_39 P).In h₀ := X
theorem top_of {h₀ h : Heap} {L : Addr} {nx : List (Addr × Obj)} {mean : ExcName → Option Value} {mg mb : Str → Option Value} (_ : News h₀ L h nx) (X : Top hd03.view_39 (looseW hd03.view_39 []) mean mg mb h₀) : Top hd03.view_39 (looseW hd03.view_39 []) mean mg mb h₀ := X
theorem below_of {h₀ h : Heap} {L : Addr} {nx : List (Addr × Obj)} (_ : News h₀ L h nx) (X : Below callerA h₀ [] h₀) : Below callerA h₀ [] h₀ := X
theorem attr_notTuple : isSubtype (.type ((Manifest.find? "AttributeError").elim "type" fun x => x.metatype)) (.type "tuple") = pure false := by
  rw [show ((Manifest.find? "AttributeError").elim "type" fun x => x.metatype) = "type" from by kernel_rfl, isSubtype_type]; kernel_rfl
local macro_rules | `(tactic| walk_at "noteFrame ref") => `(tactic| ((rename RaisedK _ _ _ _ _ _ _ _ => rkX); (refine caught_KB (T' := "AttributeError") (by assumption) (by assumption) (Heap.UpToSlots.refl _) rkX (by k_asm) PyProof.Rows.Boot.«AttributeError» attr_isExc attr_notTuple sub_AttributeError ?_); intro h' n₂ tk' F' N₂ G' N'))
theorem rep3_of {h₀ h : Heap} {L x0 x1 x2 x3 x4 x5 : Addr} {rest own : List (Addr × Obj)} {P : Params} (_ : News h₀ L h (rest ++ own)) (T : Th3 rest x0 x1 x2 x3 x4 x5) (_ : (hd03.heap_39 P).In h₀) (k : Int) :
    ∃ n r, n ≤ 7 ∧ ∀ h' L', News h₀ L' h' rest → RepOf h' (hd03.heap_39 P) n (.ref (xa x0 x1 x2 x3 x4 x5 k)) r := rep3 T k
theorem parts_fit {lv : List (Str × Tok)} (ok : PartsOk 3 lv) : ∀ y ∈ lv.map (·.1), (y == Str.ofString "<locals>") = false → y ∈ gen 3 ∧ y.length ≤ 100 ∧ (Txt.slice y none (some 2) == Str.ofString "__") = false := fun y hy _ => by
  obtain ⟨q, hq, rfl⟩ := List.mem_map.mp hy
  have h := text_ok (ok.2.2 q hq)
  exact ⟨ok.2.2 q hq, by have := h.2.2; omega, h.2.1⟩
theorem parts_ne {lv : List (Str × Tok)} (ok : PartsOk 3 lv) : lv.map (·.1) ≠ [] := by simpa using ok.1
theorem main03 : PySem.Challenge.rw_km0076_03.Holds := hd03 (by w_strict (
  k_go0; (all_goals try k_fold); k_steps
  rename Fr _ _ _ _ => F2
  rename News _ _ _ _ => N2
  rename IntsAre _ ([2355] ++ _) => hI2
  have lG := (N2 _ (.head _)).1
  have hlL := (N2 _ (.head _)).2.1
  have N4 := fun p hp => N2 p (.tail _ hp)
  have F4 := lawMap_fr F2 rfl
  refine iter_any (nn := 0) (fun _ m' nx => LawInv _ _ m' nx) rfl lG hlL (by k_all) F4 N4 ⟨rfl, _, rfl⟩ ?_ ?_
  · intro i v m₁ news₁ h tk own hv ha ho hJ F N
    obtain ⟨rfl, u, rfl⟩ := hJ
    have TH := th3_of N ⟨_, _, _, by k_mem, by k_mem, by k_mem, by assumption⟩ ⟨_, _, _, by k_mem, by k_mem, by k_mem, by assumption⟩ ⟨_, _, _, by k_mem, by k_mem, by k_mem, by assumption⟩ ⟨_, _, _, by k_mem, by k_mem, by k_mem, by assumption⟩ ⟨_, _, _, by k_mem, by k_mem, by k_mem, by assumption⟩ ⟨_, _, by k_mem, by k_mem⟩
    have hth := th_list TH (l := _) (nn := _) (by k_mem)
    have FAR := th3_far (fun p hp => N p (List.mem_append_left _ hp)) TH
    obtain ⟨n, tx, rfl⟩ := ints_at hI2 hv
    have hk0 : (0 : Int) ≤ n.fmod 6 := fm_lo (by decide)
    have hk5 : n.fmod 6 ≤ 5 := by have := fm_hi (a := n) (b := 6) (by decide); omega
    obtain ⟨nr, rr, hnr, hrep⟩ := rep3_of N TH (by assumption) (n.fmod 6)
    have hrrl : rr.length ≤ 600 := by
      have h9 := (hrep _ _ (fun p hp => N p (List.mem_append_left _ hp))).len
      omega
    have KXh := hid_of (kx_of N (by assumption))
    have Th := hid_of (top_of N (by assumption))
    have Bh := hid_of (below_of N (by assumption))
    have Fh := hid_of F
    have Nh := hid_of N
    clear F N N2 N4 lG hlL F4 ha ho hv hI2
    repeat (with_reducible rename Fr _ _ _ _ => zz; clear zz)
    repeat (with_reducible rename News _ _ _ _ => zz; clear zz)
    repeat (with_reducible rename Below _ _ _ _ => zz; clear zz)
    repeat (with_reducible rename Top _ _ _ _ _ _ => zz; clear zz)
    repeat (with_reducible rename Frag.In _ _ => zz; clear zz)
    repeat (with_reducible rename Glob _ _ _ _ _ _ _ _ => zz; clear zz)
    repeat (with_reducible rename BMod _ _ _ _ _ => zz; clear zz)
    repeat (with_reducible rename ObjMap _ _ => zz; clear zz)
    repeat (with_reducible rename ReadsAll _ _ _ _ => zz; clear zz)
    repeat (with_reducible rename Heap.IsList _ _ _ => zz; clear zz)
    repeat (with_reducible rename _ < _ ∧ _ => zz; clear zz)
    repeat (with_reducible rename Flow → Shared → Prop => zz; clear zz)
    repeat (with_reducible rename Value → Shared → Prop => zz; clear zz)
    have KXk := un_hid KXh
    have Tk := un_hid Th
    have Bk := un_hid Bh
    have F := un_hid Fh
    have N := un_hid Nh
    clear KXh Th Bh Fh Nh
    k_steps
    all_goals (
      rename lawGa _ _ _ _ = _ => g9
      rename PartsOk 3 _ => ok9
      rename Txt.split _ _ = _ ∧ _ ∧ _ => nm9
      rename Fr _ _ _ _ => F9
      rename News _ _ _ _ => N9
      refine' ga03 (names := gen 3) (parts := _) (by k_asm) (by k_asm) F9 N9 ?hlk nm9.1 (parts_ne ok9) (parts_fit ok9) (fun a ha => (node3 FAR TH a ha).mono (by (intro p hp; repeat (first | exact List.mem_append_left _ hp | exact hp | refine List.mem_cons_of_mem _ ?_)))) (closed3 FAR) (xa_G _) (fun h' L' N => hrep h' L' (fun p hp => N p (by revert p hp; (intro p hp; repeat (first | exact List.mem_append_left _ hp | exact hp | refine List.mem_cons_of_mem _ ?_))))) hnr (Nat.le_trans nm9.2.1 (by decide)) nm9.2.2 ?hok ?herr
      case hlk => rfl
      case hok =>
        intro o p e9 T9 h9 tk9 F' N' l1'
        have e8 := g9.symm.trans e9
        first
          | (cases e8; done)
          | (injection e8 with e8
             injection e8 with e7 e6
             subst e7 e6
             clear e9 F9 N9
             k_steps
             all_goals (
               rename Fr _ _ _ _ => F8
               rename News _ _ _ _ => N8
               exact law_end F8 N8 (by intro p hp; first | exact hp | exact .tail _ hp | exact .tail _ (.tail _ hp) | exact .tail _ (.tail _ (.tail _ hp)) | exact .tail _ (.tail _ (.tail _ (.tail _ hp)))) rfl rfl))
      case herr =>
        intro b9 e9 ee9 tt9 h9 tk9 u9 F' R'
        have e8 := g9.symm.trans e9
        first
          | (cases e8; done)
          | (injection e8 with e8
             subst e8
             clear e9 F9 N9
             first | rw [gaMsg_true] at R' | rw [gaMsg_false] at R'
             k_steps
             skip
             all_goals (
               rename Fr _ _ _ _ => F8
               rename News _ _ _ _ => N8
               exact law_end F8 N8 (by intro p hp; repeat (first | exact hp | refine List.mem_cons_of_mem _ ?_)) rfl rfl)))
  · intro m₁ news₁ h tk hJ F N
    obtain ⟨rfl, u, rfl⟩ := hJ
    clear N2 N4 lG hlL F4
    k_steps
    skip
    skip))
end Mine
end
theorem PySem.Challenge.cw_km0076_03_holds : PySem.Challenge.rw_km0076_03.Holds := by
  exact Mine.main03
