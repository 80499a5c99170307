import PyProof.Rows.All
import Wide.All
import OpenK.AllK
import Wide.FinOn
import Lean
import PySem.Challenge.RW_re0158_01
open PySem PySem.W PySem.Calls PyProof.Rows
set_option Elab.async false
set_option maxRecDepth 100000
set_option maxHeartbeats 8000000
set_option linter.all false
set_option compiler.extract_closed false
set_option genSizeOf false
namespace Mine
section
open PySem PySem.W PyProof.Rows
local macro_rules
  | `({ scope := $_, locals := $_, globals := $_, cells := $_, code := $_, frame := $_ }) => Lean.Macro.throwError "one piece"
local macro_rules
  | `(tactic| o_head ($_ $k $a $e)) => `(tactic| o_head (PySem.W.kmHook $k $a $e [140, 147]))
open_top hd for PySem.Challenge.rw_re0158_01
-- the head leaves the walk set for a top: off again, as in a file without a head
theorem walk_off : True := by
  w_top off
  trivial
end
-- the local lines that many of the texts share, kept once
local macro_rules | `(tactic| walk_at "my enter") => `(tactic| (refine' code_def ?k1 ?k2 ?k3 ?k4 ?k5 ?kA ?kF ?kK ?k6 ?k7 ?k8 ?k9 ?kB ?_ ?c2 ?c3 ?c4 ?c5; (case kA => exact rfl); (case kF => exact rfl); (case kK => first | exact rfl | assumption); (case k1 => k_asm); (case k2 => k_asm); (case k3 => k_asm); (case k4 => k_asm); (case k5 => k_asm); (case k6 => k_is); (case k7 => k_is); (case k8 => ktr_room); (case k9 => first | exact BindsTo.of_eq rfl | exact binds_K (by k_in) rfl (by k_is) rfl rfl rfl | (refine' kp_binds ?kx ?ke; (case kx => k_in); (case ke => exact fun _ => rfl))); (case c5 => decide); (case kB => exact locs rfl); (case c2 => exact rfl); (case c3 => exact rfl); (case c4 => exact rfl); k_whole; intro g' L' h' FG' F' N' B' X' T'; (try dsimp only); (try k_lift B'); (try k_fold)))
set_option hygiene false in
local macro_rules | `(tactic| walk_at "gm tail") => `(tactic| ((case k1 => assumption); (case k2 => assumption); (case k3 => assumption); (case k4 => k_mem); (case k5 => k_mem); (case k6 => rfl)))
section
open PySem PySem.W PySem.Calls PyProof.Rows
-- an object of the text's own class 178 (a list with a dict)
abbrev accObj (dx : Addr) (its : List Value) (n : Nat) : Obj := { cls := .ref 178, dict := some dx, data := .seq its.toArray n }

structure MakesL (M : Model) (h : Heap) (C : Addr) : Prop where
  obj : ∃ oc od cd sl, h.get? C = some ⟨oc, od, .cls cd, sl⟩ ∧ cd.abstract = false ∧ cd.hasDel = false ∧ cd.mro.isEmpty = false
  made : Looks M h (Bind.madeBy (.ref C)) (some "list.__new__")
  base : Looks M h (Bind.staticBase (.ref C)) (.ref C)
  self : Looks M h (isSubtype (.ref C) (.ref C)) true
  top : Looks M h (isSubtype (.ref C) (.type "list")) true
  call : Looks M h (specialOf (.ref C) "__call__") (some (.builtin "type.__call__"))
  typ : Looks M h (isInstance (.ref C) (.type "type")) true

def makesInL (K : Frag) (C : Addr) : Bool := match K.lookup C with
  | some ⟨_, _, .cls cd, sl⟩ => !cd.abstract && !cd.hasDel && (sl.toList[4]?).join == some (.builtin "list.__new__") && !cd.mro.isEmpty && cd.mro.contains (.ref C) && cd.mro.contains (.type "list") &&
      specialIn K (.ref C) "__call__" == some (some (.builtin "type.__call__")) && instIn K (.ref C) (.type "type") == some true
  | _ => false
theorem makesL_of {K : Frag} {M : Model} {h : Heap} (X : K.In h) {C : Addr} (e : makesInL K C = true) : MakesL M h C := by
  unfold makesInL at e
  split at e
  · rename_i oc od cd sl ho
    simp only [Bool.and_eq_true, Bool.not_eq_true', beq_iff_eq] at e
    obtain ⟨⟨⟨⟨⟨⟨⟨e1, e2⟩, e3⟩, e4⟩, e5⟩, e6⟩, e7⟩, e8⟩ := e
    have hc : clsIn K C = some cd := by unfold clsIn; rw [ho]
    have hm : Looks M h (mroOf (.ref C)) cd.mro := (looks_clsIn X hc).andThen .now
    obtain ⟨c, l, hl⟩ : ∃ c l, cd.mro = c :: l := by cases q : cd.mro with | nil => rw [q] at e4; cases e4 | cons c l => exact ⟨c, l, rfl⟩
    have made : Looks M h (Bind.madeBy (.ref C)) (some "list.__new__") := by
      intro A Q E s k q
      unfold Bind.madeBy
      refine wpAny_bind (hm A _ E s k ?_)
      rw [hl, List.forIn_cons]
      refine wpAny_bind (wpAny_bind (wpAny_bind (wpAny_bind (wpAny_loadPart (k _ _ (X _ _ ho)) (wpAny_pure ?_)))))
      dsimp only
      rw [← Array.getElem?_toList, e3]
      exact wpAny_pure (wpAny_pure (wpAny_pure q))
    refine ⟨⟨oc, od, cd, sl, X _ _ ho, e1, e2, e4⟩, made, ?_, looks_mroIn X ?_, looks_mroIn X ?_, looks_specialIn X e7, looks_instIn X e8⟩
    · intro A Q E s k q
      unfold Bind.staticBase
      refine wpAny_bind (hm A _ E s k ?_)
      rw [hl, List.forIn_cons]
      exact wpAny_bind (wpAny_bind (wpAny_bind (made A _ E s k (wpAny_pure (wpAny_pure (wpAny_pure q))))))
    · unfold mroIn; rw [hc, Option.bind_some, if_neg (by rw [e4]; decide), e5]
    · unfold mroIn; rw [hc, Option.bind_some, if_neg (by rw [e4]; decide), e6]
  · cases e

abbrev listInst (C dx : Addr) : Obj := { cls := .ref C, dict := some dx, data := .seq #[] }

theorem ln_kind : builtinKind "list.__new__" = some .builtinFn := by decide +kernel
theorem ln_split : splitId "list.__new__" = some ("list", "__new__") := by decide +kernel
theorem ln_quiet : ("list.__new__").startsWith "lifetime." = false := by decide +kernel
theorem ln_args (C : Addr) (rest : List Value) (kw : List (Str × Value)) : argsOk "list.__new__" ⟨.ref C :: rest, kw⟩ := by unfold argsOk; kernel_rfl

section
variable {prog : Program} {w : World} {A : Around} {K : Frag} {C : Addr} {R : Result → Shared → Prop} {h : Heap} {g : Array GenState} {d : Drawn} {t : Nat} {os : OsState}

theorem check_new {Q : Unit → Shared → Prop} {E : Value → Shared → Prop} {rest : List Value} {kw : List (Str × Value)} (Y : MakesL (model prog w) h C) (q : Q () ⟨h, g, d, t, os⟩) :
    wpAny (model prog w) A (checkBuiltinCall "list.__new__" ⟨.ref C :: rest, kw⟩) Q E ⟨h, g, d, t, os⟩ := by
  obtain ⟨⟨oc, od, cd, sl, hC, e1, e2, e4⟩, made, base, self, top, call, typ⟩ := Y
  simp only [checkBuiltinCall, ln_kind, ln_split]
  have it : Looks (model prog w) h (isType (.ref C)) true := (Looks.ld (part := some headPart) hC).andThen .now
  repeat (first | simp only [beq_self_eq_true, bne_self_eq_false, Bool.false_eq_true, if_true, if_false, Bool.not_true] | lk)
  exact q

theorem new_L {rest : List Value} {kw : List (Str × Value)} (Y : MakesL (model prog w) h C)
    (hq : R (.ok (.ret (.ref (h.objs.size + 1)))) ⟨(h.push emptyDict).push (listInst C h.objs.size), g, d, t, os⟩) :
    codeAny (model prog w) A (.call (.builtin "list.__new__") ⟨.ref C :: rest, kw⟩) R ⟨h, g, d, t, os⟩ := by
  have Y' := Y
  obtain ⟨⟨oc, od, cd, sl, hC, e1, e2, e4⟩, made, base, self, top, call, typ⟩ := Y
  refine codeAny_call_builtin_code (Code.quiet_builtin _ ln_quiet) (check_new Y' ?_)
  refine codeAny_builtin_stack F.entry_list_new rfl fun p st => ?_
  have hown := owner_list_new
  have it : Looks (model prog w) h (isType (.ref C)) true := (Looks.ld (part := some headPart) hC).andThen .now
  simp only [hown]
  repeat (first | simp only [beq_self_eq_true, bne_self_eq_false, Bool.false_eq_true, if_true, if_false, Bool.not_true] | lk)
  refine nd_load (Heap.get?_push_of_some _ (Heap.get?_push_of_some _ hC)) ?_
  refine wpAny_pure (wpAny_pure ?_)
  rw [e2, if_neg (by decide)]
  refine wpAny_pure (wpAny_pure ?_)
  show R _ _
  rw [Heap.size_push]
  exact hq

theorem make_coreL {rest : List Value} {kw : List (Str × Value)} {init : Value} (Y : MakesL (model prog w) h C) (hi : Looks (model prog w) h (typeLookup (.ref C) "__init__") (some init))
    (hb : ∀ self, Looks (model prog w) h (bindSpecial init self) (init, [self]))
    (hq : codeAny (model prog w) (A.under (.builtin "type.__call__" ⟨.ref C :: rest, kw⟩)) (.call init ⟨.ref (h.objs.size + 1) :: rest, kw⟩) (InitBack (h.objs.size + 1) R) ⟨(h.push emptyDict).push (listInst C h.objs.size), g, d, t, os⟩) :
    codeAny (model prog w) A (.call (.ref C) ⟨rest, kw⟩) R ⟨h, g, d, t, os⟩ := by
  have Y' := Y
  obtain ⟨⟨oc, od, cd, sl, hC, e1, e2, e4⟩, made, base, self, top, call, typ⟩ := Y
  refine codeAny_of_tree ?_
  show wpAny _ _ (callAny (.ref C) _) _ _ _
  refine nd_load hC ?_
  show wpAny _ _ (callAny.viaDunder (.ref C) _) _ _ _
  unfold callAny.viaDunder
  refine wpAny_bind (call.at ?_)
  dsimp only
  rw [tc_bind]
  refine wpAny_bind (wpAny_pure (wpAny_bind (wpAny_pure ?_)))
  refine wpAny_pure (a := Fin.again (.call (.builtin "type.__call__") ⟨.ref C :: rest, kw⟩)) (And.intro rfl ?_)
  refine codeAny_call_builtin_at (Code.quiet_builtin _ (by decide +kernel)) entry_typeCall (check_slot tc_kind tc_split typ (tc_args _ _ _) ?_)
  unfold Builtin.«type.__call__»
  have hm : Looks (model prog w) h (mroOf (.ref C)) cd.mro := ((Looks.ld (part := none) hC).andThen .now).andThen .now
  repeat (first | simp only [e4, Bool.false_eq_true, if_false] | with_reducible refine wpAny_call ?_ | lk)
  refine new_L Y' ?_
  have k : ∀ b o, h.get? b = some o → ((h.push emptyDict).push (listInst C h.objs.size)).get? b = some o := fun b o e => Heap.get?_push_of_some _ (Heap.get?_push_of_some _ e)
  have hx : ((h.push emptyDict).push (listInst C h.objs.size)).get? (h.objs.size + 1) = some (listInst C h.objs.size) := by heap_get
  have t1 : Looks (model prog w) ((h.push emptyDict).push (listInst C h.objs.size)) (typeOf (.ref (h.objs.size + 1))) (.ref C) := (Looks.ld hx).andThen .now
  have s1 := self.keeps k
  have i1 := hi.keeps k
  have b1 := (hb (.ref (h.objs.size + 1))).keeps k
  unfold isInstance callSpecial? specialOf
  repeat (first | with_reducible refine wpAny_call ?_ | lk)
  refine codeAny_mono hq fun r s' z => ?_
  rcases r with e | (v | _ | _ | _) <;> first | exact z | exact z.elim | skip
  obtain ⟨rfl, z⟩ := z
  exact wpAny_pure (wpAny_pure z)
end

section
variable {prog : Program} {w : World} {A : Around} {K : Frag} {C x : Addr} {s : Shared} {h₀ : Heap} {L : Addr} {m : Str → Option Value} {news : List (Addr × Obj)} {R : Result → Shared → Prop}
theorem make_L {rest : List Value} {kw : List (Str × Value)} {fI : Addr} (F : Fr h₀ L s.heap m) (N : News h₀ L s.heap news) (X : K.In s.heap) (hm : makesInL K C = true)
    (hi : findIn K (.ref C) "__init__" = some (some (.ref fI))) (hf : typeIn K (.ref fI) = some (.type "function"))
    (h : ∀ x dx h', Fr h₀ L h' m → News h₀ L h' ((x, listInst C dx) :: (dx, emptyDict) :: news) → (∀ p ∈ news, p.1 < dx) → dx < x →
      codeAny (model prog w) (A.under (.builtin "type.__call__" ⟨.ref C :: rest, kw⟩)) (.call (.ref fI) ⟨.ref x :: rest, kw⟩) (InitBack x R) { s with heap := h' }) :
    codeAny (model prog w) A (.call (.ref C) ⟨rest, kw⟩) R s := by
  obtain ⟨hh, g, d, t, os⟩ := s
  refine make_coreL (makesL_of X hm) (looks_findIn X hi) (fun self => bind_fn X self hf) (h _ hh.objs.size _ ((F.push _).push _) ?_ (fun p hp => Heap.lt_size (N p hp).1) (Nat.lt_succ_self _))
  have := (N.push F emptyDict).push (F.push _) (listInst C hh.objs.size)
  rwa [Heap.size_push] at this
variable {E : Value → Shared → Prop} {Q : Value → Shared → Prop}
theorem call_clsL {pos : List Value} {kw : List (Str × Value)} {fI : Addr} (F : Fr h₀ L s.heap m) (X₀ : K.In h₀) (N : News h₀ L s.heap news) (hm : makesInL K C = true) (hi : findIn K (.ref C) "__init__" = some (some (.ref fI))) (hf : isFn K (.ref fI) = true)
    (h : ∀ x dx h', Fr h₀ L h' m → News h₀ L h' ((x, listInst C dx) :: (dx, dictOf [] 0) :: news) → (∀ p ∈ news, p.1 < dx) → dx < x →
      codeAny (model prog w) (A.under (.builtin "type.__call__" ⟨.ref C :: pos, kw⟩)) (.call (.ref fI) ⟨.ref x :: pos, kw⟩) (InitBack x fun r s' => match r with | .ok (.ret v) => Q v s' | .ok _ => False | .error e => E e s') { s with heap := h' }) :
    wpAny (model prog w) A (call (.ref C) pos kw) Q E s := wpAny_call (make_L F N (X₀.keeps F.keep) hm hi (beq_iff_eq.mp hf) h)
end

theorem makes178 (P : Params) : makesInL (hd.heap_39 P) 178 = true := by kernel_rfl
end
section
open PySem PySem.W PySem.Calls PyProof.Rows
theorem canLGA : (Manifest.canonical "list.__getattribute__" != "object.__getattribute__") = false := by decide +kernel

section
variable {prog : Program} {w : World} {A : Around} {E : Value → Shared → Prop} {s : Shared} {K : Frag} {x C : Addr} {ox : Obj} {od : Option Obj} {name : Str}

-- a method of a built-in base, met on an object of the text's own class
theorem method_bi {i : String} {pl : Sem Bool} {Q : Value × List Value → Shared → Prop} (X : K.In s.heap) (I : InstAt s.heap x ox C od)
    {ga : String} (hga : findIn K (.ref C) "__getattribute__" = some (some (.builtin ga))) (hcan : (Manifest.canonical ga != "object.__getattribute__") = false) (hk : findIn K (.ref C) "__getattr__" = some none)
    (hf : findIn K (.ref C) name = some (some (.builtin i))) (ht : typeIn K (.builtin i) = some (.type "method_descriptor")) (hs : shadowIn od name = some false) (h : Q (.builtin i, [.ref x]) s) :
    wpAny (model prog w) A (getMethod (.ref x) name pl) Q E s := by
  unfold getMethod specialOf
  refine wpAny_bind (wpAny_bind (I.type.here ((looks_findIn X hga).here ?_)))
  dsimp only
  rw [hcan, if_neg (by decide)]
  refine wpAny_bind (wpAny_bind (I.type.here ((looks_findIn X hk).here ?_)))
  refine wpAny_bind (wpAny_bind (I.type.here ((looks_findIn X hf).here (wpAny_bind ((looks_typeIn X ht).here ?_)))))
  rw [if_neg (by decide +kernel)]
  refine wpAny_bind (wpAny_loadPart I.at_ ?_)
  have hd := I.dict
  cases e : ox.dict with
  | none => exact wpAny_bind (wpAny_rule (wpAny_pure h))
  | some dx =>
    cases od with
    | none => rw [e] at hd; exact hd.elim
    | some o =>
      rw [e] at hd
      obtain ⟨r, a, b⟩ := Option.map_eq_some_iff.mp hs
      refine wpAny_bind (wpAny_bind (wpAny_loadPart hd ?_))
      rw [nsLook_of a]
      refine wpAny_pure ?_
      rw [b, if_neg (by decide)]
      exact wpAny_bind (wpAny_rule (wpAny_pure h))

theorem special_bi {i : String} {args : List Value} {Q : Option Value → Shared → Prop} (X : K.In s.heap) (I : InstAt s.heap x ox C od)
    (hs : findIn K (.ref C) name = some (some (.builtin i))) (hb : ∀ self, bindSpecial (.builtin i) self = pure (.builtin i, [self])) (h : wpAny (model prog w) A (call (.builtin i) (.ref x :: args)) (fun v => Q (some v)) E s) :
    wpAny (model prog w) A (callSpecial? (.ref x) name args) Q E s := by
  refine wpAny_bind (wpAny_bind (I.type.here ((looks_findIn X hs).here (wpAny_holding (wpAny_bind ?_)))))
  rw [hb]
  exact wpAny_pure (wpAny_bind (wpAny_mono h (fun _ _ z => wpAny_pure z) fun _ _ z => z))

theorem check_meth {M : Model} {i owner n : String} {self : Value} {rest : List Value} {kw : List (Str × Value)} {Q : Unit → Shared → Prop}
    (hk : builtinKind i = some .slot ∨ builtinKind i = some .method) (hs : splitId i = some (owner, n)) (hi : Looks M s.heap (isInstance self (.type owner)) true) (ha : argsOk i ⟨self :: rest, kw⟩) (q : Q () s) :
    wpAny M A (checkBuiltinCall i ⟨self :: rest, kw⟩) Q E s := by
  rcases hk with hk | hk <;>
  · simp only [checkBuiltinCall, hk, hs]
    refine wpAny_bind (hi.here ?_)
    simp only [Bool.not_true, Bool.false_eq_true, if_false]
    cases hsig : Manifest.signature? i with
    | none => exact wpAny_pure q
    | some sig =>
      simp only [argsOk, hsig] at ha
      have h2 : Bind.checkArgs i sig ⟨self :: rest, kw⟩ = pure () := ha
      show wpAny M A (Bind.checkArgs i sig ⟨self :: rest, kw⟩) Q E s
      rw [h2]; exact wpAny_pure q

theorem call_sub {i owner n : String} {b : Builtin} {self : Value} {rest : List Value} {Q : Value → Shared → Prop}
    (hk : builtinKind i = some .slot ∨ builtinKind i = some .method) (hs : splitId i = some (owner, n)) (hq : plainId i = true) (hb : entryFor table i = some b)
    (hi : Looks (model prog w) s.heap (isInstance self (.type owner)) true) (ha : argsOk i ⟨self :: rest, []⟩)
    (hc : wpAny (model prog w) A.in1 (b ⟨self :: rest, []⟩) (fun fin s' => ∃ v, fin = .done (.ret v) ∧ Q v s') E s) :
    wpAny (model prog w) A (call (.builtin i) (self :: rest)) Q E s := by
  refine wpAny_call (codeAny_call_builtin hq hb (check_meth hk hs hi ha (wpAny_mono hc (fun fin s' h' => ?_) fun _ _ h' => h')))
  obtain ⟨v, rfl, hv⟩ := h'; exact hv

theorem inst_is (X : K.In s.heap) (I : InstAt s.heap x ox C od) {T : String} (hsub : subIn K (.ref C) (.type T) = some true) : Looks (model prog w) s.heap (isInstance (.ref x) (.type T)) true :=
  I.type.andThen (looks_subIn X hsub)
end

theorem InstAt.of_acc {h₀ h : Heap} {L x dx : Addr} {news : List (Addr × Obj)} {od : Obj} {its : List Value} {n : Nat} (N : News h₀ L h news) (h1 : (x, accObj dx its n) ∈ news) (h2 : (dx, od) ∈ news) :
    PySem.W.InstAt h x (accObj dx its n) 178 (some od) := ⟨(N _ h1).1, rfl, rfl, (N _ h2).1⟩

theorem sub178 (P : Params) : subIn (hd.heap_39 P) (.ref 178) (.type "list") = some true := by kernel_rfl
theorem ga178 (P : Params) : findIn (hd.heap_39 P) (.ref 178) "__getattribute__" = some (some (.builtin "list.__getattribute__")) := by kernel_rfl
theorem cls178 (P : Params) : ∃ cd, clsIn (hd.heap_39 P) 178 = some cd ∧ cd.mro = [.ref 178, .type "list", .type "object"] ∧ cd.hasDict = true := ⟨_, rfl, by kernel_rfl, by kernel_rfl⟩
theorem gx178 (P : Params) : findIn (hd.heap_39 P) (.ref 178) "__getattr__" = some none := by kernel_rfl
theorem app178 (P : Params) : findIn (hd.heap_39 P) (.ref 178) "append" = some (some (.builtin "list.append")) := by kernel_rfl
theorem gi178 (P : Params) : findIn (hd.heap_39 P) (.ref 178) "__getitem__" = some (some (.builtin "list.__getitem__")) := by kernel_rfl
theorem si178 (P : Params) : findIn (hd.heap_39 P) (.ref 178) "__setitem__" = some (some (.builtin "list.__setitem__")) := by kernel_rfl
theorem it178 (P : Params) : findIn (hd.heap_39 P) (.ref 178) "__iter__" = some (some (.builtin "list.__iter__")) := by kernel_rfl
theorem sa178 (P : Params) : findIn (hd.heap_39 P) (.ref 178) "__setattr__" = some (some (.builtin "object.__setattr__")) := by kernel_rfl
theorem bo178 (P : Params) : findIn (hd.heap_39 P) (.ref 178) "__bool__" = some none := by kernel_rfl
theorem le178 (P : Params) : findIn (hd.heap_39 P) (.ref 178) "__len__" = some (some (.ref 145)) := by kernel_rfl
theorem st178 (P : Params) : findIn (hd.heap_39 P) (.ref 178) "__str__" = some (some (.ref 152)) := by kernel_rfl
theorem noseq178 (P : Params) : noSeq (hd.heap_39 P) 178 = true := by kernel_rfl

section
variable {prog : Program} {w : World} {A : Around} {E : Value → Shared → Prop} {s : Shared} {P : Params} {x dx L : Addr} {h₀ : Heap} {m : Str → Option Value} {news news' : List (Addr × Obj)} {its : List Value} {n : Nat} {od : Obj}

theorem getMethod_append {pl : Sem Bool} {Q : Value × List Value → Shared → Prop} {es : List DictEntry} {k : Nat} (F : Fr h₀ L s.heap m) (X : (hd.heap_39 P).In h₀) (N : News h₀ L s.heap news) (h1 : (x, accObj dx its n) ∈ news) (h2 : (dx, dictOf es k) ∈ news)
    (hl : getL "append" es = some none) (h : Q (.builtin "list.append", [.ref x]) s) : wpAny (model prog w) A (getMethod (.ref x) "append" pl) Q E s :=
  method_bi (X.keeps F.keep) (InstAt.of_acc N h1 h2) (ga178 P) canLGA (gx178 P) (app178 P) (by rfl) (by show (lookIn _ _).map _ = _; rw [lookIn_dict, hl]; rfl) h

theorem getMethod_own {pl : Sem Bool} {Q : Value × List Value → Shared → Prop} {name : Str} {f : Addr} {es : List DictEntry} {k : Nat} (F : Fr h₀ L s.heap m) (X : (hd.heap_39 P).In h₀) (N : News h₀ L s.heap news) (h1 : (x, accObj dx its n) ∈ news) (h2 : (dx, dictOf es k) ∈ news)
    (hf : findIn (hd.heap_39 P) (.ref 178) name = some (some (.ref f))) (ht : isFn (hd.heap_39 P) (.ref f) = true)
    (hl : getL name es = some none) (h : Q (.ref f, [.ref x]) s) : wpAny (model prog w) A (getMethod (.ref x) name pl) Q E s := by
  have X := X.keeps F.keep
  have I := InstAt.of_acc N h1 h2
  unfold getMethod specialOf
  refine wpAny_bind (wpAny_bind (I.type.here ((looks_findIn X (ga178 P)).here ?_)))
  dsimp only
  rw [canLGA, if_neg (by decide)]
  refine wpAny_bind (wpAny_bind (I.type.here ((looks_findIn X (gx178 P)).here ?_)))
  refine wpAny_bind (wpAny_bind (I.type.here ((looks_findIn X hf).here (wpAny_bind ((looks_typeIn X (beq_iff_eq.mp ht)).here ?_)))))
  rw [if_neg (by decide +kernel)]
  refine wpAny_bind (wpAny_loadPart I.at_ (wpAny_bind (wpAny_bind (wpAny_loadPart (N _ h2).1 ?_))))
  rw [nsLook_of (show lookIn name (dictOf es k) = some none from by rw [lookIn_dict, hl])]
  exact wpAny_pure (wpAny_bind (wpAny_rule (wpAny_pure h)))

theorem acc_append {v : Value} {Q : Value → Shared → Prop} (F : Fr h₀ L s.heap m) (X : (hd.heap_39 P).In h₀) (N : News h₀ L s.heap news) (hd2 : (dx, od) ∈ news)
    (U : Upd x (accObj dx its n) (accObj dx (its ++ [v]) (n + 1)) news news')
    (h : ∀ h', Fr h₀ L h' m → News h₀ L h' news' → Q .none { s with heap := h' }) (hsz : its.length ≤ 1000) : wpAny (model prog w) A (call (.builtin "list.append") [.ref x, v]) Q E s := by
  obtain ⟨pre, post, rfl, rfl, a, b⟩ := U.split
  have hm : (x, accObj dx its n) ∈ pre ++ (x, accObj dx its n) :: post := List.mem_append.mpr (.inr (.head _))
  have z := N _ hm
  refine call_sub (owner := "list") (n := "append") (.inr (by decide +kernel)) (by decide +kernel) PySem.F.slot_list_append.plain PySem.F.entry_list_append (inst_is (X.keeps F.keep) (InstAt.of_acc N hm hd2) (sub178 P)) (PySem.F.args_list_append_2 _ _) ?_
  show wpAny _ _ (updateSeq x (·.push v) >>= fun _ => ret .none) _ _ s
  refine wpAny_bind (wpAny_updateSeq z.1 rfl (wpAny_pure ⟨.none, rfl, ?_⟩) (by rw [List.size_toArray, sizeLine_eq]; lia) (by rw [Array.size_push, List.size_toArray, sizeLine_eq]; lia))
  have U2 := news_upd (f := Obj.mapSeq (·.push v)) (o' := accObj dx (its ++ [v]) (n + 1)) F N a b (by simp [Obj.mapSeq]) rfl
  exact h _ U2.1 U2.2

-- an name that the object's own dict holds
theorem getAttr_acc {expr : Bool} {name : Str} {v : Value} {Q : Value → Shared → Prop} {es : List DictEntry} {k : Nat} (F : Fr h₀ L s.heap m) (X : (hd.heap_39 P).In h₀) (N : News h₀ L s.heap news) (h1 : (x, accObj dx its n) ∈ news) (h2 : (dx, dictOf es k) ∈ news)
    (hf : findIn (hd.heap_39 P) (.ref 178) name = some none) (hl : getL name es = some (some v)) (hv : handedIn v = true) (h : Q v { s with toks := s.toks + 1 }) :
    wpAny (model prog w) A (getAttr (.ref x) name expr) Q E s := by
  have X := X.keeps F.keep
  have I := InstAt.of_acc N h1 h2
  obtain ⟨cd, hc, hmro, hdict⟩ := cls178 P
  have hfo : findObj (hd.heap_39 P) 178 (some (dictOf es k)) name = some (.value v) := by
    unfold findObj
    rw [hc, Option.bind_some, hf, Option.bind_some]
    dsimp only [Option.bind_some]
    unfold PySem.W.ownOf
    rw [hdict, if_pos rfl]
    dsimp only
    rw [lookIn_dict, hl]
    rfl
  obtain ⟨hh', g, d, t, os⟩ := s
  have L0 := I.type (M := model prog w)
  have L1 := looks_findIn (M := model prog w) X (ga178 P)
  have L2 := looks_findIn (M := model prog w) X (gx178 P)
  unfold getAttr getAttrBy
  refine wpAny_bind (wpAny_mkText (wpAny_holding (wpAny_bind (L0.at (wpAny_bind (L1.at ?_))))))
  dsimp only
  rw [show (onTheHeap (.ref 178) && Value.builtin "list.__getattribute__" == Value.builtin "object.__getattribute__") = false from by rw [show (Value.builtin "list.__getattribute__" == Value.builtin "object.__getattribute__") = false from by decide +kernel, Bool.and_false], if_neg (by decide)]
  have L3 : Looks (model prog w) hh' (hookBefore (.ref 178)) none := by unfold hookBefore; rw [show onTheHeap (Value.ref 178) = true from rfl, if_pos rfl]; exact L2
  refine wpAny_bind (L3.at (wpAny_bind (wpAny_attempt (wpAny_holding ?_))))
  unfold callGetattribute
  rw [show (expr && onTheHeap (Value.builtin "list.__getattribute__")) = false from Bool.and_false _, if_neg (by decide)]
  unfold boundAndCalled
  rw [PySem.F.slot_list_getattribute.bind]
  refine wpAny_bind (wpAny_pure ?_)
  show wpAny _ _ (call (.builtin "list.__getattribute__") [.ref x, .str name t]) _ _ _
  refine call_sub (s := ⟨hh', g, d, t + 1, os⟩) (owner := "list") (n := "__getattribute__") (.inl (by decide +kernel)) (by decide +kernel) PySem.F.slot_list_getattribute.plain PySem.F.entry_list_ga (inst_is X I (sub178 P)) (PySem.F.args_list_getattribute_2 _ _) ?_
  have L4 := looks_find (M := model prog w) X I hfo
  unfold Builtin.«object.__getattribute__»
  refine wpAny_bind (wpAny_pure (wpAny_bind (wpAny_pure (wpAny_bind (L0.at (wpAny_bind (L4.at ?_)))))))
  refine wpAny_pure ⟨v, rfl, ?_⟩
  show wpAny _ _ (handedOut v) _ _ _
  rw [handedOut_of hv]; exact wpAny_pure h
end
end
section
open PySem PySem.W PySem.Calls PyProof.Rows Builtin Builtin.ObjectAttr Builtin.Getset_descriptor
theorem subo178 (P : Params) : subIn (hd.heap_39 P) (.ref 178) (.type "object") = some true := by kernel_rfl
theorem taker178 (P : Params) : takerIn (hd.heap_39 P) 178 "_initial_size" = some none := by kernel_rfl
theorem passesL (self : Value) : refuseLoop self "__setattr__" [.type "list", .type "object"] = pure () := by kernel_rfl

section
variable {prog : Program} {w : World} {A : Around} {R : Result → Shared → Prop} {s : Shared} {P : Params} {x dx L : Addr} {h₀ : Heap} {m : Str → Option Value} {news news' : List (Addr × Obj)} {its : List Value} {n : Nat} {od od' : Obj}

theorem osa_openL {name : Str} {tk : Tok} {v : Value} {od : Option Obj} {ox : Obj} (X : (hd.heap_39 P).In s.heap) (I : PySem.W.InstAt s.heap x ox 178 od) (ht : takerIn (hd.heap_39 P) 178 name = some none)
    (h : ∀ b, wpAny (model prog w) A.in1 (storeInOwnDict (.ref x) (.ref 178) (.str name tk) name v b)
      (fun fin s' => match fin with | .done f => R (.ok f) s' | .again c' => c'.quiet = true ∧ codeAny (model prog w) A c' R s') (fun e s' => R (.error e) s') s) :
    codeAny (model prog w) A (.call (.builtin "object.__setattr__") ⟨[.ref x, .str name tk, v], []⟩) R s := by
  have SF := PySem.F.store_object
  obtain ⟨cd, hc, hmro, hdict⟩ := cls178 P
  have sub : Looks (model prog w) s.heap (isInstance (.ref x) (.type "object")) true := inst_is X I (subo178 P)
  refine codeAny_call_builtin SF.slot.plain SF.entry (@check_slot (model prog w) _ _ s "object.__setattr__" "object" "__setattr__" (.ref x) [.str name tk, v] [] _ SF.kind SF.split sub (SF.args (.ref x) (.str name tk) v) ?_)
  obtain ⟨attr, ha, hr⟩ := Option.bind_eq_some_iff.mp ht
  have hm : Looks (model prog w) s.heap (mroOf (.ref 178)) cd.mro := (looks_clsIn X hc).andThen .now
  have L3 : Looks (model prog w) s.heap (storeTaker? attr) none := by
    cases attr with
    | none => exact .now
    | some a =>
      obtain ⟨b, hb, e⟩ := Option.map_eq_some_iff.mp hr
      refine (looks_takesIn X hb).andThen ?_
      cases b
      · exact .now
      · cases e
  rw [osa_eq, refuse_eq]
  refine wpAny_bind (wpAny_bind (I.type.here (wpAny_bind (hm.here ?_))))
  rw [hmro, refuseLoop_ref, passesL]
  refine wpAny_pure (wpAny_bind (I.type.here (wpAny_bind ((looks_findIn X ha).here (wpAny_bind (L3.here ?_))))))
  exact h _

theorem osa_dictL {ox : Obj} {name : Str} {tk : Tok} {v : Value} {pre post : List (Addr × Obj)} {es : List DictEntry} (F : Fr h₀ L s.heap m) (N : News h₀ L s.heap (pre ++ (dx, od) :: post)) (X : (hd.heap_39 P).In s.heap)
    (I : PySem.W.InstAt s.heap x ox 178 (some od)) (hod : ox.dict = some dx) (ht : takerIn (hd.heap_39 P) 178 name = some none)
    (hl : (lookIn name od).isSome = true) (h1 : ∀ p ∈ pre, p.1 ≠ dx) (h2 : ∀ p ∈ post, p.1 ≠ dx)
    (e : Obj.putName name (PyData.keyHash w.params name) (.str name s.toks) v od = od') (e' : od'.data = .dict es.toArray n) (hz : es.length ≤ 1000)
    (h : ∀ h', Fr h₀ L h' m → News h₀ L h' (pre ++ (dx, od') :: post) → R (.ok (.ret .none)) { s with heap := h', toks := s.toks + 1 }) :
    codeAny (model prog w) A (.call (.builtin "object.__setattr__") ⟨[.ref x, .str name tk, v], []⟩) R s := by
  refine osa_openL X I ht fun b => ?_
  obtain ⟨cd, hc, hmro, hd'⟩ := cls178 P
  obtain ⟨U1, U2⟩ := news_upd (f := Obj.putName name (PyData.keyHash w.params name) (.str name s.toks) v) F N h1 h2 e (by obtain ⟨_, _, dd, _⟩ := od'; cases e'; rfl)
  have D := (N (dx, od) (by simp)).1
  have D' := (U2 (dx, od') (by simp)).1
  obtain ⟨hx, hcl, hn, -⟩ := I
  obtain ⟨oc, odi, oda, osl⟩ := ox
  dsimp only at hcl hod
  subst hcl hod
  have hcd : ∀ c, oda ≠ .cls c := fun c e => by subst e; cases hn
  refine wpAny_bind (wpAny_pure (wpAny_bind (wpAny_bind (wpAny_loadPart hx (wpAny_bind ((looks_clsIn X hc).here ?_))))))
  rw [hd']
  refine wpAny_pure (a := some dx) (wpAny_bind (wpAny_pure (wpAny_bind ?_)))
  unfold nsSet
  refine wpAny_bind (wpAny_bind (wpAny_askSetting (wpAny_pure (wpAny_bind (wpAny_mkText (wpAny_bind (wpAny_loadPart D ?_)))))))
  unfold lookIn at hl
  split at hl
  · rename_i es₀ n₀ q
    rw [q]
    dsimp only
    have c : (!es₀.any (·.key.isStr name) && es₀.any (·.refKey)) = false := by
      rw [← Array.any_toList, ← Array.any_toList]
      split at hl
      · rename_i en he
        rw [List.any_eq_true.mpr ⟨en, List.mem_of_find?_eq_some he, List.find?_some he⟩]; rfl
      · split at hl
        · cases hl
        · rename_i z; rw [Bool.not_eq_true] at z; rw [z, Bool.and_false]
    rw [aRefKeyMayBeTheName_at, c]
    refine wpAny_updatePart D ?_
    refine wpAny_bind (wpAny_lookBehind D' (by rw [e']; exact pastItsLine_dict (by rw [List.size_toArray, sizeLine_eq]; omega)) ?_)
    exact wpAny_pure (h _ U1 U2)
  · cases hl
variable {E : Value → Shared → Prop}
theorem setAttr_acc {name : Str} {v : Value} {es es' : List DictEntry} {k k' : Nat} {Q : Unit → Shared → Prop} (F : Fr h₀ L s.heap m) (X : (hd.heap_39 P).In h₀) (N : News h₀ L s.heap news) (hx : (x, accObj dx its n) ∈ news)
    (ht : takerIn (hd.heap_39 P) 178 name = some none) (hl : (getL name es).isSome = true)
    (e : (putL name (PyData.keyHash w.params name) (.str name (s.toks + 1)) v es, putN name es k) = (es', k')) (U : Upd dx (dictOf es k) (dictOf es' k') news news') (hz : es'.length ≤ 1000)
    (h : ∀ h', Fr h₀ L h' m → News h₀ L h' news' → Q () { s with heap := h', toks := s.toks + 2 }) :
    wpAny (model prog w) A (setAttr (.ref x) name v) Q E s := by
  obtain ⟨pre, post, rfl, rfl, a, b⟩ := U.split
  obtain ⟨e1, e2⟩ := Prod.mk.inj e
  have I := InstAt.of_acc N hx (List.mem_append.mpr (.inr (.head _)) : (dx, dictOf es k) ∈ pre ++ (dx, dictOf es k) :: post)
  exact set_plain (X.keeps F.keep) I (sa178 P) (osa_dictL (s := { s with toks := s.toks + 1 }) F N (X.keeps F.keep) I rfl ht hl a b (by rw [putName_dict, e1, e2]) rfl hz fun h' F' N' => h h' F' N')
end
end
section
open PySem PySem.W PySem.Calls PyProof.Rows
theorem slot_mdget : Slot "method_descriptor" "__get__" "method_descriptor.__get__" := .of (owner := "method_descriptor") (n := "__get__") (by rw [typeLookup_type, builtinLookup_eq_fast]; kernel_rfl) (by decide +kernel) (by decide +kernel) (by decide +kernel)
  (by first | exact .inl (by decide +kernel) | exact .inr (by decide +kernel)) (by rw [isSubtype_type]; kernel_rfl)
theorem entry_mdget : entryFor table "method_descriptor.__get__" = some Builtin.«method_descriptor.__get__» := entryFor_of_tree (by kernel_rfl)
theorem args_mdget (a b c : Value) : argsOk "method_descriptor.__get__" ⟨[a, b, c], []⟩ := by unfold argsOk; kernel_rfl
theorem slot_wdget : Slot "wrapper_descriptor" "__get__" "wrapper_descriptor.__get__" := .of (owner := "wrapper_descriptor") (n := "__get__") (by rw [typeLookup_type, builtinLookup_eq_fast]; kernel_rfl) (by decide +kernel) (by decide +kernel) (by decide +kernel)
  (by first | exact .inl (by decide +kernel) | exact .inr (by decide +kernel)) (by rw [isSubtype_type]; kernel_rfl)
theorem entry_wdget : entryFor table "wrapper_descriptor.__get__" = some Builtin.«wrapper_descriptor.__get__» := entryFor_of_tree (by kernel_rfl)
theorem args_wdget (a b c : Value) : argsOk "wrapper_descriptor.__get__" ⟨[a, b, c], []⟩ := by unfold argsOk; kernel_rfl

abbrev boundObj (T : String) (i : String) (x : Addr) : Obj := { cls := .type T, data := .fields #[.builtin i, .ref x] }

section
variable {prog : Program} {w : World} {A : Around} {E : Value → Shared → Prop} {h : Heap} {g : Array GenState} {d : Drawn} {t : Nat} {os : OsState}

theorem md_get {i : String} {x C : Addr} {Q : Fin → Shared → Prop} (ht : Looks (model prog w) h (typeOf (.ref x)) (.ref C)) (hi : Looks (model prog w) h (isSubtype (.ref C) (.type "list")) true)
    (hs : ".".intercalate (i.cutAt '.').dropLast = "list") (hm : Manifest.toldItsClass.contains i = false)
    (hq : Q (.done (.ret (.ref h.objs.size))) ⟨h.push (boundObj "builtin_function_or_method" i x), g, d, t, os⟩) :
    wpAny (model prog w) A (Builtin.«method_descriptor.__get__» ⟨[.builtin i, .ref x, .ref C], []⟩) Q E ⟨h, g, d, t, os⟩ := by
  unfold Builtin.«method_descriptor.__get__»
  rw [← hs] at hi
  repeat (first | simp only [hm, Bool.false_eq_true, if_false] | (with_reducible refine Looks.at ht ?_) | ((with_reducible show wpAny _ _ (isSubtype _ _) _ _ _); refine Looks.at hi ?_) | lk)
  exact hq
theorem wd_get {i : String} {x C : Addr} {Q : Fin → Shared → Prop} (ht : Looks (model prog w) h (typeOf (.ref x)) (.ref C)) (hi : Looks (model prog w) h (isSubtype (.ref C) (.type "list")) true)
    (hs : ".".intercalate (i.cutAt '.').dropLast = "list")
    (hq : Q (.done (.ret (.ref h.objs.size))) ⟨h.push (boundObj "method-wrapper" i x), g, d, t, os⟩) :
    wpAny (model prog w) A (Builtin.«wrapper_descriptor.__get__» ⟨[.builtin i, .ref x, .ref C], []⟩) Q E ⟨h, g, d, t, os⟩ := by
  unfold Builtin.«wrapper_descriptor.__get__»
  rw [← hs] at hi
  repeat (first | simp only [Bool.false_eq_true, if_false] | (with_reducible refine Looks.at ht ?_) | ((with_reducible show wpAny _ _ (isSubtype _ _) _ _ _); refine Looks.at hi ?_) | lk)
  exact hq

-- what super() of the list class finds: a built-in's method, bound
theorem super_ga_bi {T i gi : String} {so D x C : Addr} {l₀ l : List Value} {K : Frag} {name : Str} {tk : Tok} {Q : Fin → Shared → Prop}
    (hso : h.get? so = some { cls := .type "super", dict := none, data := .fields #[.ref D, .ref x, .ref C], slots := #[] }) (hno : Looks (model prog w) h (opaqueClassAbove (.ref C)) none)
    (hC : Looks (model prog w) h (mroOf (.ref C)) l₀) (hl : (l₀.dropWhile (· != .ref D)).drop 1 = l) (X : K.In h)
    (hf : alongIn K name l = some (some (.builtin i))) (hft : typeIn K (.builtin i) = some (.type T)) (hlk : typeLookup (.type T) "__get__" = pure (some (.builtin gi))) (hxC : x ≠ C) (hn : (name == ("__class__" : Str)) = false)
    (hg : wpAny (model prog w) A (call (.builtin gi) [.builtin i, .ref x, .ref C]) (fun v => Q (.done (.ret v))) E ⟨h, g, d, t, os⟩) :
    wpAny (model prog w) A (Builtin.«super.__getattribute__» ⟨[.ref so, .str name tk], []⟩) Q E ⟨h, g, d, t, os⟩ := by
  have hne : (Value.ref x == Value.ref C) = false := by simp [hxC]
  have hdt : ({ cls := .type "super", dict := none, data := .fields #[.ref D, .ref x, .ref C], slots := #[] } : Obj).data = .fields #[.ref D, .ref x, .ref C] := rfl
  have f0 : (#[.ref D, .ref x, .ref C] : Array Value)[0]? = some (.ref D) := rfl
  have f1 : (#[.ref D, .ref x, .ref C] : Array Value)[1]? = some (.ref x) := rfl
  have f2 : (#[.ref D, .ref x, .ref C] : Array Value)[2]? = some (.ref C) := rfl
  have LT := looks_typeIn (M := model prog w) X hft
  unfold Builtin.«super.__getattribute__»
  repeat (first
    | (with_reducible refine wpAny_field hso hdt f0 ?_) | (with_reducible refine wpAny_field hso hdt f1 ?_) | (with_reducible refine wpAny_field hso hdt f2 ?_)
    | (with_reducible refine ks_wpAny_notOpaque hno ?_)
    | (with_reducible refine Looks.at hC ?_; rw [hl])
    | (refine ks_forIn_along X (fun _ _ => rfl) rfl ?_ hf)
    | (with_reducible refine Looks.at LT ?_)
    | ((with_reducible show wpAny _ _ (call (Value.builtin _) _) _ _ _); refine wpAny_mono hg (fun v s' hv => ?_) fun _ _ z => z)
    | (simp only [hn, hne, Bool.or_false, Bool.false_eq_true, if_false])
    | wp_step
    | dsimp only)
  all_goals exact hv

theorem getMethod_super_bi {T i gi : String} {so D x C : Addr} {l₀ l : List Value} {K : Frag} {name : Str} {pl : Sem Bool} {Q : Value × List Value → Shared → Prop}
    (hso : h.get? so = some { cls := .type "super", dict := none, data := .fields #[.ref D, .ref x, .ref C], slots := #[] }) (hno : Looks (model prog w) h (opaqueClassAbove (.ref C)) none)
    (hC : Looks (model prog w) h (mroOf (.ref C)) l₀) (hl : (l₀.dropWhile (· != .ref D)).drop 1 = l) (X : K.In h)
    (hf : alongIn K name l = some (some (.builtin i))) (hft : typeIn K (.builtin i) = some (.type T)) (hlk : typeLookup (.type T) "__get__" = pure (some (.builtin gi))) (hxC : x ≠ C) (hn : (name == ("__class__" : Str)) = false) {o : Obj}
    (hg : ∀ {A : Around} {E : Value → Shared → Prop} {Q : Value → Shared → Prop} {t : Nat}, Q (.ref h.objs.size) ⟨h.push o, g, d, t, os⟩ → wpAny (model prog w) A (call (.builtin gi) [.builtin i, .ref x, .ref C]) Q E ⟨h, g, d, t, os⟩)
    (hq : Q (.ref h.objs.size, []) ⟨h.push o, g, d, t + 1, os⟩) :
    wpAny (model prog w) A (getMethod (.ref so) name pl) Q E ⟨h, g, d, t, os⟩ := by
  have hlk' := F.ks_slot_super_ga.lookup
  have hcan := F.ks_canon_super_ga
  have hT : ∀ t', (⟨h, g, d, t', os⟩ : Shared).TypeIs (.ref so) "super" := fun _ => ⟨_, hso, rfl⟩
  unfold getMethod
  refine wpAny_bind (wpAny_specialOf (hT _) hlk' ?_)
  show wpAny _ _ (if (Manifest.canonical "super.__getattribute__" != "object.__getattribute__") = true then _ else _) _ _ _
  rw [if_pos hcan]
  unfold getAttr getAttrBy
  refine wpAny_bind (wpAny_bind (wpAny_mkText (wpAny_holding (wpAny_bind (wpAny_typeOf (hT _) (wpAny_bind (wpAny_of_eq hlk' ?_)))))))
  show wpAny _ _ (getAttrByItsOwn (.ref so) (.str name t) (.type "super") (.builtin "super.__getattribute__") true false) _ _ _
  unfold getAttrByItsOwn hookBefore callGetattribute boundAndCalled
  refine wpAny_bind (wpAny_of_eq (show (if onTheHeap (.type "super") then typeLookup (.type "super") "__getattr__" else pure none) = pure none from rfl) ?_)
  refine wpAny_bind (wpAny_attempt (wpAny_holding ?_))
  show wpAny _ _ (bindSpecial (.builtin "super.__getattribute__") (.ref so) >>= _) _ _ _
  refine wpAny_bind (wpAny_of_eq (F.ks_slot_super_ga.bind _) ?_)
  refine wpAny_mono (Q := fun v s' => v = .ref h.objs.size ∧ s' = ⟨h.push o, g, d, t + 1, os⟩) (E := fun _ _ => False)
    (wpAny_call_entry F.ks_slot_super_ga (hT _) F.ks_entry_super_ga (super_ga_bi hso hno hC hl X hf hft hlk hxC hn (hg ⟨_, rfl, rfl, rfl⟩)) (F.ks_gaArgs_super _ _)) (fun v s' hv => ?_) fun _ _ z => z.elim
  obtain ⟨rfl, rfl⟩ := hv
  exact wpAny_pure (wpAny_pure hq)

theorem codeAny_call_boundB {b x : Addr} {T i : String} {a : Args} {B : Builtin} {R : Result → Shared → Prop} {s : Shared} (hT : T = "builtin_function_or_method" ∨ T = "method-wrapper") (hb : s.heap.get? b = some (boundObj T i x)) (hq : plainId i = true) (he : entryFor table i = some B)
    (hc : wpAny (model prog w) A.in1 (checkBoundCall i { a with pos := .ref x :: a.pos }) (fun _ s₁ => wpAny (model prog w) A.in1 (B { a with pos := .ref x :: a.pos })
      (fun fin s' => match fin with | .done f => R (.ok f) s' | .again c' => c'.quiet = true ∧ codeAny (model prog w) A c' R s') (fun e s' => R (.error e) s') s₁) (fun e s' => R (.error e) s') s) :
    codeAny (model prog w) A (.call (.ref b) a) R s := by
  refine codeAny_of_tree ?_
  show wpAny _ A.in1 (callAny (.ref b) a) _ _ _
  unfold callAny
  refine wpAny_bind (wpAny_load hb ?_)
  have key : wpAny (model prog w) A.in1 (checkBoundCall i { a with pos := .ref x :: a.pos } >>= fun _ => again (.builtin i { a with pos := .ref x :: a.pos }))
      (fun fin s' => match fin with | .done f => R (.ok f) s' | .again c' => c'.quiet = true ∧ codeAny (model prog w) A c' R s') (fun e s' => R (.error e) s') s :=
    wpAny_bind (wpAny_mono hc (fun _ s₁ h₁ => wpAny_pure (And.intro (plainId_quiet hq _) (codeAny_builtin he (by rw [Around.under_plainId hq]; exact h₁)))) fun _ _ z => z)
  rcases hT with rfl | rfl <;> exact key
end
end
section
open PySem PySem.W PySem.Calls PyProof.Rows
theorem ns3p (P : Params) : nsIn (hd.heap_39 P) cStatics "thirdparty.any" = some none := by kernel_rfl

section
variable {prog : Program} {w : World} {A : Around} {E : Value → Shared → Prop} {s : Shared} {P : Params} {x dx L so b : Addr} {h₀ : Heap} {m : Str → Option Value} {news news' : List (Addr × Obj)} {its : List Value} {n : Nat} {od : Obj} {name : Str} {i : String}

theorem along178 {v : Value} (hf : alongIn (hd.heap_39 P) name [.type "list", .type "object"] = some (some v)) {cd : ClassData} (hm : cd.mro = [.ref 178, .type "list", .type "object"]) :
    alongIn (hd.heap_39 P) name ((cd.mro.dropWhile (· != .ref 178)).drop 1) = some (some v) := by
  rw [hm, show (([.ref 178, .type "list", .type "object"] : List Value).dropWhile (· != .ref 178)).drop 1 = [.type "list", .type "object"] from by simp]
  exact hf

-- super().name for a method of list: the bound method
theorem super_meth {pl : Sem Bool} {Q : Value × List Value → Shared → Prop} (F : Fr h₀ L s.heap m) (X₀ : (hd.heap_39 P).In h₀) (N : News h₀ L s.heap news) (hso : (so, ks_superObj 178 x 178) ∈ news) (hx : (x, accObj dx its n) ∈ news) (hdx : (dx, od) ∈ news)
    (hf : alongIn (hd.heap_39 P) name [.type "list", .type "object"] = some (some (.builtin i))) (hft : typeIn (hd.heap_39 P) (.builtin i) = some (.type "method_descriptor"))
    (hn : (name == ("__class__" : Str)) = false) (hs : ".".intercalate (i.cutAt '.').dropLast = "list") (hmt : Manifest.toldItsClass.contains i = false)
    (h : ∀ q h', Fr h₀ L h' m → News h₀ L h' ((q, boundObj "builtin_function_or_method" i x) :: news) → (∀ p ∈ news, p.1 < q) → Q (.ref q, []) { s with heap := h', toks := s.toks + 1 }) : wpAny (model prog w) A (getMethod (.ref so) name pl) Q E s := by
  have X := X₀.keeps F.keep
  have I := InstAt.of_acc N hx hdx
  obtain ⟨cd, hc, hm, hd'⟩ := cls178 P
  obtain ⟨hh, g, d, t, os⟩ := s
  refine getMethod_super_bi (o := boundObj "builtin_function_or_method" i x) (N _ hso).1 (looks_opaque X (ns3p P)) (l₀ := cd.mro) (fun A Q E s k q => wpAny_bind ((looks_clsIn X hc) A _ E s k (wpAny_pure q))) rfl X (along178 hf hm) hft slot_mdget.lookup (ks_ne X I hc) hn (fun {A E Q t} hq => ?_) ?_
  · refine wpAny_call_entry slot_mdget ?_ entry_mdget (md_get (C := 178) I.type (looks_subIn X (sub178 P)) hs hmt ⟨_, rfl, hq⟩) (args_mdget _ _ _)
    exact (show typeOf (.builtin i) = pure (.type "method_descriptor") from by show builtinType i = _; rw [builtinType_eq_fast]; exact of_pureOf hft)
  · obtain ⟨F', N', l'⟩ := ks_newsPush (s := ⟨hh, g, d, t, os⟩) (o := boundObj "builtin_function_or_method" i x) F N rfl (Heap.get?_push_at rfl rfl) (fun b o e => Heap.get?_push_of_some _ e)
    exact h _ _ F' N' l'
theorem super_wrap {pl : Sem Bool} {Q : Value × List Value → Shared → Prop} (F : Fr h₀ L s.heap m) (X₀ : (hd.heap_39 P).In h₀) (N : News h₀ L s.heap news) (hso : (so, ks_superObj 178 x 178) ∈ news) (hx : (x, accObj dx its n) ∈ news) (hdx : (dx, od) ∈ news)
    (hf : alongIn (hd.heap_39 P) name [.type "list", .type "object"] = some (some (.builtin i))) (hft : typeIn (hd.heap_39 P) (.builtin i) = some (.type "wrapper_descriptor"))
    (hn : (name == ("__class__" : Str)) = false) (hs : ".".intercalate (i.cutAt '.').dropLast = "list")
    (h : ∀ q h', Fr h₀ L h' m → News h₀ L h' ((q, boundObj "method-wrapper" i x) :: news) → (∀ p ∈ news, p.1 < q) → Q (.ref q, []) { s with heap := h', toks := s.toks + 1 }) : wpAny (model prog w) A (getMethod (.ref so) name pl) Q E s := by
  have X := X₀.keeps F.keep
  have I := InstAt.of_acc N hx hdx
  obtain ⟨cd, hc, hm, hd'⟩ := cls178 P
  obtain ⟨hh, g, d, t, os⟩ := s
  refine getMethod_super_bi (o := boundObj "method-wrapper" i x) (N _ hso).1 (looks_opaque X (ns3p P)) (l₀ := cd.mro) (fun A Q E s k q => wpAny_bind ((looks_clsIn X hc) A _ E s k (wpAny_pure q))) rfl X (along178 hf hm) hft slot_wdget.lookup (ks_ne X I hc) hn (fun {A E Q t} hq => ?_) ?_
  · refine wpAny_call_entry slot_wdget ?_ entry_wdget (wd_get (C := 178) I.type (looks_subIn X (sub178 P)) hs ⟨_, rfl, hq⟩) (args_wdget _ _ _)
    exact (show typeOf (.builtin i) = pure (.type "wrapper_descriptor") from by show builtinType i = _; rw [builtinType_eq_fast]; exact of_pureOf hft)
  · obtain ⟨F', N', l'⟩ := ks_newsPush (s := ⟨hh, g, d, t, os⟩) (o := boundObj "method-wrapper" i x) F N rfl (Heap.get?_push_at rfl rfl) (fun b o e => Heap.get?_push_of_some _ e)
    exact h _ _ F' N' l'

theorem callWith_B0 {env : Env} {pos : Pos} {T : String} {first : List Value} {Q : Value → Shared → Prop} {PP : Heap → Prop} (hT : T = "builtin_function_or_method" ∨ T = "method-wrapper") (N : News h₀ L s.heap news) (hb : (b, boundObj T i x) ∈ news)
    (h : wpAny (model prog w) A (call (.ref b) (first ++ [])) Q E s) : wpAny (model prog w) A (callWith pos (.ref b) first (backTo pos (starEach [] env)) []) Q E s :=
  callWith_of (P := fun h => h.get? b = some (boundObj T i x)) rfl (fun h e => ⟨.machine, .inr (.inl rfl), (Looks.ld (part := none) e).andThen (by rcases hT with rfl | rfl <;> exact .now)⟩) (evalArgs_nil3 ⟨(N _ hb).1, h⟩)

theorem super_len {Q : Value → Shared → Prop} (F : Fr h₀ L s.heap m) (N : News h₀ L s.heap news) (hb : (b, boundObj "method-wrapper" "list.__len__" x) ∈ news) (hx : (x, accObj dx its n) ∈ news)
    (h : Q (.int (its.length : Int) s.toks) { s with toks := s.toks + 1 }) : wpAny (model prog w) A (call (.ref b) []) Q E s := by
  refine wpAny_call (codeAny_call_boundB (.inr rfl) (N _ hb).1 PySem.F.slot_list_len.plain PySem.F.entry_list_len ?_)
  have hx' := (N _ hx).1
  have h1 : checkBoundCall "list.__len__" ⟨[.ref x], []⟩ = pure () := by kernel_rfl
  refine wpAny_of_eq h1 ?_
  obtain ⟨hh, g, d, t, os⟩ := s
  unfold Builtin.«list.__len__»
  repeat lk
  simpa using h
end
end
section
open PySem PySem.W PySem.Calls PyProof.Rows
theorem qual178 (P : Params) : (clsIn (hd.heap_39 P) 178).map (·.qualname) = some (Str.ofString "_Accumulator") := by kernel_rfl
theorem type178 (P : Params) : typeIn (hd.heap_39 P) (.ref 178) = some (.type "type") := by kernel_rfl
theorem submod178 (P : Params) : subIn (hd.heap_39 P) (.ref 178) (.type "module") = some false := by kernel_rfl
theorem listPop_slot : Slot "list" "pop" "list.pop" := PySem.F.slot_list_pop
section
variable {prog : Program} {w : World} {A : Around} {E : Value → Shared → Prop} {s : Shared} {P : Params} {x dx L so b : Addr} {h₀ : Heap} {m : Str → Option Value} {news news' : List (Addr × Obj)} {its : List Value} {n : Nat} {od : Obj} {name : Str} {i : String}
theorem checkBound_pop {Q : Unit → Shared → Prop} (X : (hd.heap_39 P).In s.heap) (I : PySem.W.InstAt s.heap x (accObj dx its n) 178 (some od)) (h : Q () s) :
    wpAny (model prog w) A (checkBoundCall "list.pop" ⟨[.ref x], []⟩) Q E s := by
  obtain ⟨cd, hc, hm, hd'⟩ := cls178 P
  obtain ⟨hh, g, d, t, os⟩ := s
  have L1 := looks_subIn (M := model prog w) X (submod178 P)
  have L2 := I.type (M := model prog w)
  have L3 : Looks (model prog w) hh (isType (.ref x)) false := (Looks.ld (part := some headPart) I.at_).andThen .now
  have L4 := looks_clsIn (M := model prog w) X hc
  have L5 := looks_typeIn (M := model prog w) X (type178 P)
  have k1 : builtinKind "list.pop" = some .method := by decide +kernel
  have v1 : Manifest.varargsMethods.contains "list.pop" = false := by decide +kernel
  unfold checkBoundCall
  have hq : cd.qualname = Str.ofString "_Accumulator" := by
    have := qual178 P
    rw [hc] at this
    exact Option.some.inj this
  repeat (first | ((with_reducible show wpAny _ _ (Bind.checkArgs _ _ _) _ _ _); simp only [hq]; refine wpAny_of_eq (a := ()) (by kernel_rfl) ?_) | simp only [k1, v1, Bool.false_eq_true, if_false, Bool.or_false, bne_self_eq_false, Bool.false_or, Bool.and_false, Bool.false_and, beq_self_eq_true, if_true] | lk)
  exact h

theorem upd_seq {o : Obj} {xs : Array Value} {f : Array Value → Array Value} {Q : Unit → Shared → Prop} (ho : s.heap.get? x = some o) (hdt : o.data = .seq xs n) (hz : (f xs).size ≤ sizeLine + 1)
    (h : Q () { s with heap := s.heap.update x (Obj.mapSeq f) }) : wpAny (model prog w) A (Sem.update x none (Obj.mapSeq f) Sem.pure) (fun _ s' => wpAny (model prog w) A (lookBehind x) Q E s') E s := by
  obtain ⟨c, d, dt, sl⟩ := o
  simp only at hdt; subst hdt
  refine wpAny_update (a := x) ho ?_
  exact wpAny_lookBehind (o := Obj.mapSeq f ⟨c, d, .seq xs n, sl⟩) (Heap.get?_update_self _ ho rfl) (pastItsLine_seq hz) h
theorem erase_last {α : Type} (its : List α) (v : α) : (its ++ [v]).eraseIdx its.length = its := by simp [List.eraseIdx_append_of_length_le]

theorem super_pop {v : Value} {Q : Value → Shared → Prop} (F : Fr h₀ L s.heap m) (X : (hd.heap_39 P).In h₀) (N : News h₀ L s.heap news) (hb : (b, boundObj "builtin_function_or_method" "list.pop" x) ∈ news) (hd2 : (dx, od) ∈ news)
    (U : Upd x (accObj dx (its ++ [v]) n) (accObj dx its (n + 1)) news news')
    (h : ∀ h', Fr h₀ L h' m → News h₀ L h' news' → Q v { s with heap := h' }) (hsz : its.length ≤ 1000) : wpAny (model prog w) A (call (.ref b) []) Q E s := by
  obtain ⟨pre, post, rfl, rfl, a, b⟩ := U.split
  have hm : (x, accObj dx (its ++ [v]) n) ∈ pre ++ (x, accObj dx (its ++ [v]) n) :: post := List.mem_append.mpr (.inr (.head _))
  have z := N _ hm
  refine wpAny_call (codeAny_call_boundB (.inl rfl) (N _ hb).1 PySem.F.slot_list_pop.plain PySem.F.entry_list_pop ?_)
  refine checkBound_pop (X.keeps F.keep) (InstAt.of_acc N hm hd2) ?_
  have hea : ((its ++ [v]).toArray.eraseIdxIfInBounds its.length) = its.toArray := by simp [Array.eraseIdxIfInBounds, erase_last]
  have hme : Obj.mapSeq (·.eraseIdxIfInBounds its.length) (accObj dx (its ++ [v]) n) = accObj dx its (n + 1) := by
    have key : ∀ ys : Array Value, ys = its.toArray → (⟨.ref 178, some dx, .seq ys (if ys.size == (its ++ [v]).toArray.size then n else n + 1), #[]⟩ : Obj) = accObj dx its (n + 1) := by
      rintro _ rfl
      simp
    exact key _ hea
  have U2 := news_upd (f := Obj.mapSeq (·.eraseIdxIfInBounds its.length)) (o' := accObj dx its (n + 1)) F N a b hme rfl
  have hfit : Builtin.List.listFitsIndex (-1) = true := by decide
  have hxs : (its ++ [v]).toArray.isEmpty = false := by simp
  have hix : (seqIndex? (-1) (its ++ [v]).toArray.size) = some its.length := by
    rw [List.size_toArray, List.length_append]
    unfold seqIndex?
    simp
    lia
  have hget : (its ++ [v]).toArray[its.length]? = some v := by simp
  unfold Builtin.«list.pop»
  have z1 := z.1
  obtain ⟨hh, g, d, t, os⟩ := s
  repeat (first | simp only [hfit, hxs, hix, hget, Bool.not_true, Bool.false_eq_true, if_false, Option.bind_some, Option.map_some] | lk)
  refine upd_seq (s := ⟨hh, g, d, t, os⟩) z1 rfl (by rw [hea, List.size_toArray, sizeLine_eq]; lia) ?_
  exact wpAny_pure (h _ U2.1 U2.2)

theorem super_init {Q : Value → Shared → Prop} (F : Fr h₀ L s.heap m) (X : (hd.heap_39 P).In h₀) (N : News h₀ L s.heap news) (hb : (b, boundObj "method-wrapper" "list.__init__" x) ∈ news) (hd2 : (dx, od) ∈ news)
    (U : Upd x (accObj dx [] n) (accObj dx [] n) news news')
    (h : ∀ h', Fr h₀ L h' m → News h₀ L h' news' → Q .none { s with heap := h' }) : wpAny (model prog w) A (call (.ref b) []) Q E s := by
  obtain ⟨pre, post, rfl, rfl, a, b⟩ := U.split
  have hm : (x, accObj dx [] n) ∈ pre ++ (x, accObj dx [] n) :: post := List.mem_append.mpr (.inr (.head _))
  have z := N _ hm
  refine wpAny_call (codeAny_call_boundB (.inr rfl) (N _ hb).1 PySem.F.slot_list_init.plain PySem.F.entry_list_init ?_)
  have h1 : checkBoundCall "list.__init__" ⟨[.ref x], []⟩ = pure () := by kernel_rfl
  refine wpAny_of_eq h1 ?_
  have U2 := news_upd (f := Obj.mapSeq (fun _ => #[])) (o' := accObj dx [] n) F N a b (by simp [Obj.mapSeq]) rfl
  have z1 := z.1
  obtain ⟨hh, g, d, t, os⟩ := s
  unfold Builtin.«list.__init__»
  repeat lk
  refine upd_seq (s := ⟨hh, g, d, t, os⟩) z1 rfl (by simp [sizeLine_eq]) ?_
  repeat lk
  exact h _ U2.1 U2.2
end
end
section
open PySem PySem.W PySem.Calls PyProof.Rows
section
variable {prog : Program} {w : World} {A : Around} {E : Value → Shared → Prop} {s : Shared} {P : Params} {x dx L so b : Addr} {h₀ : Heap} {m : Str → Option Value} {news news' : List (Addr × Obj)} {its : List Value} {n : Nat} {od : Obj} {name : Str} {i : String}

theorem seqKey178 {k : Value} {nm : Str} {Q : Value → Shared → Prop} (X : (hd.heap_39 P).In s.heap) (I : PySem.W.InstAt s.heap x (accObj dx its n) 178 (some od)) (h : Q k s) : wpAny (model prog w) A (sequenceKey (.ref x) k nm) Q E s := by
  unfold sequenceKey
  refine wpAny_bind (I.type.here (wpAny_bind ((anyM_none X (noseq178 P)).here ?_)))
  rw [if_pos (show (!false) = true from rfl)]
  exact wpAny_pure h

theorem subscriptTail_acc {value slice : Expr} {iv : Value} {ops : List Value} {Q : Value → Shared → Prop} (X : (hd.heap_39 P).In s.heap) (I : PySem.W.InstAt s.heap x (accObj dx its n) 178 (some od))
    (h : wpAny (model prog w) A.in1 (Builtin.«list.__getitem__» ⟨[.ref x, iv], []⟩) (fun fin s' => ∃ v, fin = .done (.ret v) ∧ Q v s') E s)
    (hs : subscripted slice false (.ref x) iv = operate ops (getItem (.ref x) iv)) :
    wpAny (model prog w) A (subscriptTail value slice (.ref x) iv) Q E s := by
  unfold subscriptTail getitemInPython
  refine wpAny_bind (wpAny_bind (wpAny_bind (I.type.here ((looks_findIn X (gi178 P)).here ?_))))
  refine wpAny_pure ?_
  rw [hs]
  refine wpAny_bind (wpAny_operating ?_)
  unfold getItem
  refine wpAny_holding (wpAny_bind (seqKey178 X I (wpAny_bind (special_bi X I (gi178 P) PySem.F.slot_list_getitem.bind ?_))))
  refine call_sub (owner := "list") (n := "__getitem__") (.inr (by decide +kernel)) (by decide +kernel) PySem.F.slot_list_getitem.plain PySem.F.entry_list_getitem (inst_is X I (sub178 P)) (PySem.F.args_list_getitem_2 _ _) (wpAny_mono h (fun fin s' z => ?_) fun _ _ z => z)
  obtain ⟨v, rfl, hq⟩ := z
  exact ⟨v, rfl, wpAny_pure (wpAny_bind (wpAny_letTemporaryGo (wpAny_pure hq)))⟩

-- self[k]
theorem acc_item {value slice : Expr} {k : Int} {t : Tok} {v : Value} {ops : List Value} {Q : Value → Shared → Prop} (F : Fr h₀ L s.heap m) (X : (hd.heap_39 P).In h₀) (N : News h₀ L s.heap news) (hx : (x, accObj dx its n) ∈ news) (hdx : (dx, od) ∈ news)
    (h0 : 0 ≤ k) (h1 : k < 2 ^ 63) (hv : its[k.toNat]? = some v) (h : Q v s)
    (hs : subscripted slice false (.ref x) (.int k t) = operate ops (getItem (.ref x) (.int k t)) := by with_unfolding_all rfl) :
    wpAny (model prog w) A (subscriptTail value slice (.ref x) (.int k t)) Q E s := by
  refine subscriptTail_acc (X.keeps F.keep) (InstAt.of_acc N hx hdx) ?_ hs
  have z1 := (N _ hx).1
  have key : ∀ (hfit : Builtin.List.listFitsIndex k = true), wpAny (model prog w) A.in1 (Builtin.«list.__getitem__» ⟨[.ref x, .int k t], []⟩) (fun fin s' => ∃ v, fin = .done (.ret v) ∧ Q v s') E s := by
    intro hfit
    show wpAny _ _ (Builtin.List.listSubscript? (.int k t) >>= _) _ _ s
    refine wpAny_bind (wpAny_listSubscript_int hfit ?_)
    clear hfit h1
    obtain ⟨j, rfl⟩ := Int.eq_ofNat_of_zero_le h0
    have hx' : its.toArray[j]? = some v := by simpa using hv
    show wpAny _ _ ((seqItemAt x j >>= fun r => pure (r.map (j, ·))) >>= _) _ _ s
    refine wpAny_bind (wpAny_bind (wpAny_seqItemAt z1 rfl (wpAny_pure ?_)))
    rw [hx']
    first
      | exact wpAny_bind (wpAny_pure (wpAny_pure ⟨v, rfl, h⟩))
      | exact wpAny_pure ⟨v, rfl, h⟩
  exact key (fitsIndex_of h0 h1)

theorem lookSlice {sl : Addr} {vl vu : Value} {lo hi : Option Int} {Q : Value × Value × Value → Shared → Prop} (hos : s.heap.get? sl = some { cls := .type "slice", data := .fields #[vl, vu, .none] }) (pl : IsPart vl lo) (pu : IsPart vu hi)
    (h : Q (rawPart lo, rawPart hi, .none) s) : wpAny (model prog w) A (Builtin.List.listSliceParts (.ref sl)) Q E s := by
  rw [listSliceParts_eq]
  refine wpAny_bind (wpAny_field hos rfl (x := .none) rfl (wpAny_bind (wpAny_listPart .none ?_)))
  rw [if_neg (show ¬ ((rawPart none == rawInt 0) = true) from Bool.false_ne_true)]
  refine wpAny_bind (wpAny_field hos rfl (x := vl) rfl (wpAny_bind (wpAny_listPart pl ?_)))
  refine wpAny_bind (wpAny_field hos rfl (x := vu) rfl (wpAny_bind (wpAny_listPart pu (wpAny_pure ?_))))
  exact h

theorem noSub {sl : Addr} {vl vu : Value} {Q : Option Int → Shared → Prop} (hos : s.heap.get? sl = some { cls := .type "slice", data := .fields #[vl, vu, .none] }) (h : Q none s) : wpAny (model prog w) A (Builtin.List.listSubscript? (.ref sl)) Q E s := by
  unfold Builtin.List.listSubscript?
  refine wpAny_bind (wpAny_specialOf (T := "slice") ⟨_, hos, rfl⟩ slice_no_index ?_)
  simp only [Option.isNone_none, if_true]
  exact wpAny_pure h

theorem pick_nat (items : List Value) {lo hi : Option Int} {a b : Nat} (e : sliceBounds lo hi none items.length = ((a : Int), (b : Int), 1)) : slicePick items.toArray lo hi none = ((items.drop a).take (b - a)).toArray :=
  kmk_pick_nat items.toArray (by rw [List.size_toArray]; exact e)

-- self[lo:hi]
theorem acc_slice {value slice : Expr} {vl vu : Value} {lo hi : Option Int} {a b' : Nat} {ops : List Value} {Q : Value → Shared → Prop} (F : Fr h₀ L s.heap m) (X : (hd.heap_39 P).In h₀) (N : News h₀ L s.heap news) (hx : (x, accObj dx its n) ∈ news) (hdx : (dx, od) ∈ news)
    (pl : IsPart vl lo) (pu : IsPart vu hi) (e : sliceBounds lo hi none its.length = ((a : Int), (b' : Int), 1)) (hsz : its.length ≤ 1000)
    (h : ∀ D h', Fr h₀ L h' m → News h₀ L h' ((D, listOf ((its.drop a).take (b' - a)).toArray 0) :: news) → (∀ p ∈ news, p.1 < D) → Q (.ref D) { s with heap := h' })
    (hs : subscripted slice false (.ref x) (.ref s.heap.objs.size) = operate ops (getItem (.ref x) (.ref s.heap.objs.size))) :
    wpAny (model prog w) A (subscriptTail value slice (.ref x) (.ref s.heap.objs.size)) Q E { s with heap := s.heap.push { cls := .type "slice", data := .fields #[vl, vu, .none] } } := by
  have N0 : News h₀ L (s.heap.push { cls := .type "slice", data := .fields #[vl, vu, .none] }) news := N.grown fun _ _ e => Heap.get?_push_of_some _ e
  have F0 : Fr h₀ L (s.heap.push { cls := .type "slice", data := .fields #[vl, vu, .none] }) m := F.push _
  have z1 := (N0 _ hx).1
  have hos : (s.heap.push { cls := .type "slice", data := .fields #[vl, vu, .none] }).get? s.heap.objs.size = some { cls := .type "slice", data := .fields #[vl, vu, .none] } := Heap.get?_push_size _ rfl
  refine subscriptTail_acc (P := P) (s := { s with heap := s.heap.push { cls := .type "slice", data := .fields #[vl, vu, .none] } }) (X.keeps F0.keep) (InstAt.of_acc N0 hx hdx) ?_ hs
  show wpAny _ _ (Builtin.List.listSubscript? (.ref s.heap.objs.size) >>= _) _ _ _
  refine wpAny_bind (noSub hos ?_)
  show wpAny _ _ (typeOf (.ref s.heap.objs.size) >>= _) _ _ _
  refine wpAny_bind (wpAny_typeOf ⟨_, hos, rfl⟩ ?_)
  rw [if_neg (by decide)]
  refine wpAny_bind (lookSlice hos pl pu ?_)
  refine wpAny_bind (m := Builtin.List.listItems (.ref x)) ?_
  unfold Builtin.List.listItems
  refine wpAny_bind (wpAny_seqItems z1 rfl (wpAny_pure ?_))
  refine wpAny_bind (wpAny_of_eq (sliceIndices_raw lo hi none its.toArray.size (by simp)) ?_)
  refine wpAny_bind (wpAny_newObj_type (wpAny_pure ⟨_, rfl, ?_⟩) (Nat.le_trans (slicePick_size_le its.toArray lo hi none) (by rw [List.size_toArray, sizeLine_eq]; omega)))
  have fin : ∀ ys : Array Value, ys = ((its.drop a).take (b' - a)).toArray → Q (.ref (s.heap.push { cls := .type "slice", data := .fields #[vl, vu, .none] }).objs.size) { s with heap := (s.heap.push { cls := .type "slice", data := .fields #[vl, vu, .none] }).push { cls := .type "list", data := .seq ys } } := by
    rintro _ rfl
    have N1 := News.push F0 N0 { cls := .type "list", data := .seq ((its.drop a).take (b' - a)).toArray }
    exact h _ _ (F0.push _) N1 (fun p hp => Heap.lt_size (N0 p hp).1)
  exact fin (slicePick its.toArray lo hi none) (pick_nat its e)

-- self[lo:hi] = a list
theorem acc_setslice {sl l2 : Addr} {vl vu : Value} {lo hi : Option Int} {a b' c2 : Nat} {new : List Value} {Q : Unit → Shared → Prop} (F : Fr h₀ L s.heap m) (X : (hd.heap_39 P).In h₀) (N : News h₀ L s.heap news) (hdx : (dx, od) ∈ news)
    (hos : s.heap.get? sl = some { cls := .type "slice", data := .fields #[vl, vu, .none] }) (hl2 : s.heap.get? l2 = some (listOf new.toArray c2))
    (pl : IsPart vl lo) (pu : IsPart vu hi) (e : sliceBounds lo hi none its.length = ((a : Int), (b' : Int), 1)) (hne : x ≠ l2) (hsz : its.length ≤ 1000) (hsz2 : new.length ≤ 1000)
    (U : Upd x (accObj dx its n) (accObj dx (its.take a ++ new ++ its.drop (max a b')) (if (its.take a ++ new ++ its.drop (max a b')).length == its.length then n else n + 1)) news news')
    (h : ∀ h', Fr h₀ L h' m → News h₀ L h' news' → Q () { s with heap := h' }) :
    wpAny (model prog w) A (setItem (.ref x) (.ref sl) (.ref l2)) Q E s := by
  obtain ⟨pre, post, rfl, rfl, U1, U2⟩ := U.split
  have hm : (x, accObj dx its n) ∈ pre ++ (x, accObj dx its n) :: post := List.mem_append.mpr (.inr (.head _))
  have z := N _ hm
  have z1 := z.1
  have I := InstAt.of_acc N hm hdx
  have hX := X.keeps F.keep
  unfold setItem
  refine wpAny_holding (wpAny_bind (seqKey178 hX I (wpAny_bind (special_bi hX I (si178 P) PySem.F.slot_list_setitem.bind ?_))))
  refine call_sub (owner := "list") (n := "__setitem__") (.inl (by decide +kernel)) (by decide +kernel) PySem.F.slot_list_setitem.plain PySem.F.entry_list_setitem (inst_is hX I (sub178 P)) (PySem.F.args_list_setitem_3 _ _ _) ?_
  show wpAny _ _ (Builtin.List.listSubscript? (.ref sl) >>= _) _ _ _
  refine wpAny_bind (noSub hos ?_)
  show wpAny _ _ (typeOf (.ref sl) >>= _) _ _ _
  refine wpAny_bind (wpAny_typeOf ⟨_, hos, rfl⟩ ?_)
  rw [if_neg (by decide)]
  refine wpAny_bind (lookSlice hos pl pu ?_)
  have hsame : Builtin.List.listSameRef (.ref x) (.ref l2) = false := by
    show (x == l2) = false
    exact beq_eq_false_iff_ne.mpr hne
  dsimp only
  rw [hsame, if_neg (by decide)]
  have hall : ∀ {Q : Array Value → Shared → Prop} {msg : String}, Q new.toArray s → wpAny (model prog w) A.in1 (Builtin.List.listAllItems (.ref l2) msg) Q E s := by
    intro Q msg q
    unfold Builtin.List.listAllItems Builtin.List.listItems
    refine wpAny_bind (wpAny_typeOf ⟨_, hl2, rfl⟩ ?_)
    rw [if_pos (by decide)]
    exact wpAny_bind (wpAny_seqItems hl2 rfl (wpAny_pure q))
  refine wpAny_bind (hall ?_)
  refine wpAny_bind (m := Builtin.List.listItems (.ref x)) ?_
  unfold Builtin.List.listItems
  refine wpAny_bind (wpAny_seqItems z1 rfl (wpAny_pure ?_))
  have hsb : sliceIndices (rawPart lo) (rawPart hi) .none its.toArray.size = pure ((a : Int), (b' : Int), (1 : Int)) := by
    have q := sliceIndices_raw lo hi none its.toArray.size (by simp)
    rw [List.size_toArray, e] at q
    rw [List.size_toArray]
    exact q
  refine wpAny_bind (wpAny_of_eq hsb ?_)
  dsimp only
  rw [if_pos (by decide)]
  refine wpAny_bind (wpAny_rule ?_)
  have hlong : Builtin.List.listTooLong (its.toArray.size + new.toArray.size) = false := by
    unfold Builtin.List.listTooLong
    rw [List.size_toArray, List.size_toArray, sizeLine_eq]
    exact decide_eq_false (by omega)
  rw [hlong, if_neg (by decide)]
  have hmx : (max (a : Int) (b' : Int)).toNat = max a b' := by omega
  have hf : (its.toArray.extract 0 ((a : Int).toNat) ++ new.toArray ++ its.toArray.extract (max (a : Int) (b' : Int)).toNat its.toArray.size) = (its.take a ++ new ++ its.drop (max a b')).toArray := by
    rw [hmx, Int.toNat_natCast]
    apply Array.ext'
    simp only [Array.toList_append, Array.toList_extract, List.extract_eq_take_drop, List.size_toArray, List.drop_zero, Nat.sub_zero]
    rw [show (its.drop (max a b')).take (its.length - max a b') = its.drop (max a b') from List.take_of_length_le (by rw [List.length_drop]; omega)]
  have hme : Obj.mapSeq (fun xs => xs.extract 0 ((a : Int).toNat) ++ new.toArray ++ xs.extract (max (a : Int) (b' : Int)).toNat xs.size) (accObj dx its n) =
      accObj dx (its.take a ++ new ++ its.drop (max a b')) (if (its.take a ++ new ++ its.drop (max a b')).length == its.length then n else n + 1) := by
    have key : ∀ ys : Array Value, ys = (its.take a ++ new ++ its.drop (max a b')).toArray → (⟨.ref 178, some dx, .seq ys (if ys.size == its.toArray.size then n else n + 1), #[]⟩ : Obj) =
      accObj dx (its.take a ++ new ++ its.drop (max a b')) (if (its.take a ++ new ++ its.drop (max a b')).length == its.length then n else n + 1) := by
      rintro _ rfl
      rw [List.size_toArray, List.size_toArray]
    exact key _ hf
  have UU := news_upd (f := Obj.mapSeq (fun xs => xs.extract 0 ((a : Int).toNat) ++ new.toArray ++ xs.extract (max (a : Int) (b' : Int)).toNat xs.size)) (o' := accObj dx (its.take a ++ new ++ its.drop (max a b')) (if (its.take a ++ new ++ its.drop (max a b')).length == its.length then n else n + 1)) F N U1 U2 hme rfl
  refine wpAny_bind (m := Builtin.List.listUpdate (.ref x) _) ?_
  refine wpAny_updateSeq z1 rfl ?_ (by rw [List.size_toArray, sizeLine_eq]; omega) (by
    show (its.toArray.extract 0 ((a : Int).toNat) ++ new.toArray ++ its.toArray.extract (max (a : Int) (b' : Int)).toNat its.toArray.size).size ≤ _
    rw [hf, List.size_toArray, sizeLine_eq]
    simp only [List.length_append, List.length_take, List.length_drop]
    omega)
  refine wpAny_bind (wpAny_letGo ?_)
  exact wpAny_pure ⟨_, rfl, wpAny_pure (h _ UU.1 UU.2)⟩
end
end
section
open PySem PySem.W PySem.Calls PyProof.Rows
-- an object that holds a sequence, of whatever class
def SeqAt (h : Heap) (l : Addr) (items : Array Value) : Prop := ∃ o n, h.get? l = some o ∧ o.data = .seq items n
theorem SeqAt.at {h h' : Heap} {l : Addr} {items : Array Value} (x : SeqAt h l items) (k : ∀ o, h.get? l = some o → h'.get? l = some o) : SeqAt h' l items := let ⟨o, n, a, b⟩ := x; ⟨o, n, k _ a, b⟩

section
variable {prog : Program} {w : World} {A : Around} {E : Value → Shared → Prop} {s : Shared}
theorem next_seq_item {it l : Addr} {i : Nat} {items : Array Value} {x : Value} {Q : Option Value → Shared → Prop} (hit : s.heap.IsListIter it l i)
    (hl : SeqAt s.heap l items) (hx : items[i]? = some x)
    (hQ : ∀ h', h'.IsListIter it l (i + 1) → Heap.SameBut it s.heap h' → Q (some x) { s with heap := h' }) :
    wpAny (model prog w) A (pyNext (.ref it)) Q E s := by
  obtain ⟨o, ho, hc, hd⟩ := id hit
  obtain ⟨ol, nl, hol, hdl⟩ := hl
  unfold pyNext
  refine wpAny_bind (wpAny_attempt (wpAny_callSpecial?_slot (name := Str.ofString "__next__") hit.typeIs slot_listiter_next
    (wpAny_call_entry slot_listiter_next hit.typeIs entry_listiter_next ?_ (args_listiter_next _))))
  show wpAny _ _ (field (.ref it) 0 >>= _) _ _ s
  refine wpAny_bind (wpAny_field ho hd (x := .ref l) rfl ?_)
  show wpAny _ _ (if (Value.ref l == Value.none) = true then _ else _) _ _ s
  rw [if_neg (show ¬ ((Value.ref l == Value.none) = true) from Bool.false_ne_true)]
  show wpAny _ _ (field (.ref it) 1 >>= _) _ _ s
  refine wpAny_bind (wpAny_field ho hd (x := .int i 0) rfl ?_)
  show wpAny _ _ (seqItems? (.ref l) >>= _) _ _ s
  refine wpAny_bind (wpAny_seqItems hol hdl ?_)
  simp only [Int.toNat_natCast, hx]
  refine wpAny_bind (wpAny_setField ho hd (by simp) (wpAny_pure ⟨x, rfl, wpAny_pure (hQ _ ?_ (Heap.SameBut.update ..))⟩))
  exact ⟨_, Heap.get?_update_self _ ho (Obj.isFreed_of_fields (Obj.data_mapFields hd _)), (Obj.cls_mapFields ..).trans hc, by
    rw [Obj.data_mapFields hd]; simp [rawInt]⟩

theorem next_seq_end {it l : Addr} {i : Nat} {items : Array Value} {Q : Option Value → Shared → Prop} (hh : A.handled = none)
    (hit : s.heap.IsListIter it l i) (hl : SeqAt s.heap l items) (hx : items[i]? = none)
    (hQ : ∀ h', Heap.ExtBut it s.heap h' → Q none { s with heap := h' }) : wpAny (model prog w) A (pyNext (.ref it)) Q E s := by
  obtain ⟨o, ho, hc, hd⟩ := id hit
  obtain ⟨ol, nl, hol, hdl⟩ := hl
  unfold pyNext
  refine wpAny_bind (wpAny_attempt (wpAny_callSpecial?_slot (name := Str.ofString "__next__") hit.typeIs slot_listiter_next
    (wpAny_call_entry slot_listiter_next hit.typeIs entry_listiter_next ?_ (args_listiter_next _))))
  show wpAny _ _ (field (.ref it) 0 >>= _) _ _ s
  refine wpAny_bind (wpAny_field ho hd (x := .ref l) rfl ?_)
  show wpAny _ _ (if (Value.ref l == Value.none) = true then _ else _) _ _ s
  rw [if_neg (show ¬ ((Value.ref l == Value.none) = true) from Bool.false_ne_true)]
  show wpAny _ _ (field (.ref it) 1 >>= _) _ _ s
  refine wpAny_bind (wpAny_field ho hd (x := .int i 0) rfl ?_)
  show wpAny _ _ (seqItems? (.ref l) >>= _) _ _ s
  refine wpAny_bind (wpAny_seqItems hol hdl ?_)
  simp only [Int.toNat_natCast, hx]
  refine wpAny_bind (wpAny_rule (wpAny_bind (wpAny_setField ho hd (by simp) ?_)))
  show wpAny _ _ (newExc (.type "StopIteration") [] >>= _) _ _ _
  refine wpAny_bind ?_
  simp only [newExc, newTuple]
  refine wpAny_bind (wpAny_newObj_type ?_ (by size_fits))
  refine wpAny_bind (m := firstArgMember _ _) (wpAny_of_eq (a := Value.none) (by first | rfl | (simp only [firstArgMember]; rfl)) ?_)
  refine wpAny_newObj_type ?_ (by size_fits)
  simp only [raiseNew]
  refine wpAny_bind (wpAny_handled ?_)
  rw [show A.in1.handled = none from hh]
  refine wpAny_bind (wpAny_pure (wpAny_throw ?_))
  refine wpAny_bind (wpAny_isInstance (T := "StopIteration") (b := true) ⟨_, Heap.get?_push_size _ rfl, rfl⟩ isSubtype_stop ?_)
  exact wpAny_pure (hQ _ (((Heap.SameBut.update ..).extBut.push _).push _))
end

theorem WalksU.seqOfTuples {prog : Program} {w : World} {A : Around} (hh : A.handled = none) (I ax : Addr) (hne : ax ≠ I) (items : Array Value) (Ts : Nat → Addr) (vals : Nat → Array Value)
    (hit : ∀ j, j < items.size → items[j]? = some (.ref (Ts j))) (hTI : ∀ j, j < items.size → Ts j ≠ I) :
    PySem.WalksU prog w A I (I :: ax :: (List.range items.size).map Ts) [I] items.size (fun j v => j < items.size ∧ v = vals j)
      (fun j h => h.IsListIter I ax j ∧ SeqAt h ax items ∧ ∀ k, k < items.size → h.IsTuple (Ts k) (vals k))
      (fun j T h => (j < items.size ∧ T = Ts j) ∧ h.IsListIter I ax (j + 1) ∧ SeqAt h ax items ∧ ∀ k, k < items.size → h.IsTuple (Ts k) (vals k)) where
  sub := fun b hb => by simp at hb; simp [hb]
  frame := fun _ _ _ st hk => ⟨st.1.at fun o e => hk I (by simp) o e, st.2.1.at fun o e => hk ax (by simp) o e,
    fun k hk' => (st.2.2 k hk').at fun o e => hk (Ts k) (List.mem_cons_of_mem _ (List.mem_cons_of_mem _ (List.mem_map.mpr ⟨k, List.mem_range.mpr hk', rfl⟩))) o e⟩
  item := fun i s Q E hi st hQ => by
    refine next_seq_item st.1 st.2.1 (x := .ref (Ts i)) (hit i hi) fun h' hit' hs' => ?_
    have tup : ∀ k, k < items.size → h'.IsTuple (Ts k) (vals k) := fun k hk' => (st.2.2 k hk').extBut hs'.extBut (hTI k hk')
    exact hQ (Ts i) (vals i) h' s.toks ⟨hi, rfl⟩ (tup i hi) ⟨⟨hi, rfl⟩, hit', st.2.1.at (fun o e => hs'.extBut _ _ hne e), tup⟩ fun b o hb e => hs'.extBut b o (fun h => hb (by simp [h])) e
  go := fun _ _ _ _ _ s Q _ hm hQ => wpAny_letOwnedTupleGo_listiter hm.2.1 (hQ s.heap hm.2 fun _ _ _ e => e)
  apart := fun j T _ hm hmem => by
    rcases List.mem_cons.mp hmem with e | e
    · exact hTI j hm.1.1 (hm.1.2 ▸ e)
    · cases e
  done := fun s Q E st hQ => next_seq_end hh st.1 st.2.1 (by simp) fun h' he' => hQ h' s.toks fun b o hb e => he' b o (fun h => hb (by simp [h])) e
  self := fun _ _ _ _ st hQ => wpAny_pyIter_listiter st.1 hQ

section
variable {prog : Program} {w : World} {A : Around} {E : Value → Shared → Prop} {s : Shared} {P : Params} {x dx : Addr} {its : List Value} {n : Nat} {od : Obj}
theorem pyIter_acc {Q : Value → Shared → Prop} (X : (hd.heap_39 P).In s.heap) (I : PySem.W.InstAt s.heap x (accObj dx its n) 178 (some od))
    (hQ : Q (.ref s.heap.objs.size) { s with heap := s.heap.push { cls := .type "list_iterator", data := .fields #[.ref x, .int 0 0] } }) :
    wpAny (model prog w) A (pyIter (.ref x)) Q E s := by
  unfold pyIter
  refine wpAny_bind (wpAny_bind (I.type.here ((looks_findIn X (it178 P)).here ?_)))
  dsimp only
  unfold callSpecialIfBoundUnlessNone? bindSpecialIfBound?
  refine wpAny_bind (wpAny_holding (wpAny_bind (wpAny_bind (wpAny_bind (I.type.here ((looks_findIn X (it178 P)).here ?_))))))
  have fin : wpAny (model prog w) A (call (.builtin "list.__iter__") [.ref x]) (fun it s' => wpAny (model prog w) A (specialOf it "__next__") (fun r s' => r.isSome = true ∧ Q it s') E s') E s := by
    refine call_sub (owner := "list") (n := "__iter__") (.inl (by decide +kernel)) (by decide +kernel) PySem.F.slot_list_iter.plain PySem.F.entry_list_iter (inst_is X I (sub178 P)) (PySem.F.args_list_iter_1 _) ?_
    show wpAny _ _ (do ret (← newFields "list_iterator" [.ref x, rawInt 0])) _ _ s
    refine wpAny_bind (wpAny_newObj_type (wpAny_pure ⟨_, rfl, ?_⟩))
    exact wpAny_specialOf (T := "list_iterator") ⟨_, Heap.get?_push_size _ rfl, rfl⟩ slot_listiter_next.lookup ⟨rfl, hQ⟩
  have hb := PySem.F.slot_list_iter.bind
  have tail : ∀ it s', wpAny (model prog w) A (specialOf it "__next__") (fun r s' => r.isSome = true ∧ Q it s') E s' →
    wpAny (model prog w) A (do
      match ← specialOf it "__next__" with
      | none => rule "iter.non-iterator"; raiseError "TypeError" s!"iter() returned non-iterator of type '{← typeNameOf it}'"
      | some _ => pure it) Q E s' := fun it s' h => wpAny_bind (wpAny_mono h (fun r s'' hr => by
        cases r with
        | none => cases hr.1
        | some v => exact wpAny_pure hr.2) fun _ _ z => z)
  dsimp only
  rw [hb]
  refine wpAny_bind (wpAny_askSetting (wpAny_ite ?_))
  split
  · refine wpAny_bind (wpAny_pure (wpAny_pure ?_))
    dsimp only
    rw [if_neg (show ¬ ((Value.builtin "list.__iter__" == Value.none) = true) from by decide)]
    exact wpAny_bind (wpAny_mono fin (fun it s' h => wpAny_pure (tail it s' h)) fun _ _ z => z)
  · refine wpAny_tryCatch (wpAny_bind (wpAny_pure (wpAny_pure ?_)))
    dsimp only
    rw [if_neg (show ¬ ((Value.builtin "list.__iter__" == Value.none) = true) from by decide)]
    exact wpAny_bind (wpAny_mono fin (fun it s' h => wpAny_pure (tail it s' h)) fun _ _ z => z)
end
end
section
open PySem PySem.W PySem.Calls PyProof.Rows
def shiftSt (St : Nat → Shared → Prop) : Nat → Shared → Prop
  | 0 => fun _ => False
  | i + 1 => St i
def shiftP (P : Nat → Value → Prop) : Nat → Value → Prop
  | 0 => fun _ => False
  | i + 1 => P i
def shiftV (c : Int) (val : Nat → Int) : Nat → Int
  | 0 => c
  | i + 1 => val i
theorem preSum_shift (c : Int) (val : Nat → Int) : ∀ n, preSum (shiftV c val) (n + 1) = c + preSum val n
  | 0 => by simp [preSum, shiftV]
  | n + 1 => by
    show preSum (shiftV c val) (n + 1) + shiftV c val (n + 1) = c + (preSum val n + val n)
    rw [preSum_shift c val n]
    show c + preSum val n + val n = _
    lia
section
variable {prog : Program} {w : World} {A : Around} {I : Addr} {fp wr : List Addr} {G : Array GenState → Array GenState → Prop} {n : Nat} {P : Nat → Value → Prop} {St : Nat → Shared → Prop}
theorem WalksS.shift (W : PySem.WalksS prog w A I fp wr G n P St) : PySem.WalksS prog w A I fp wr G (n + 1) (shiftP P) (shiftSt St) where
  sub := W.sub
  grefl := W.grefl
  gtrans := W.gtrans
  frame := fun i s h' tk st ht hk => by
    cases i with
    | zero => cases st
    | succ i => exact W.frame i s h' tk st ht hk
  item := fun i s Q E hi st hQ => by
    cases i with
    | zero => cases st
    | succ i => exact W.item i s Q E (by lia) st hQ
  done := fun s Q E st hQ => W.done s Q E st hQ
  self := fun i s Q E st hQ => by
    cases i with
    | zero => cases st
    | succ i => exact W.self i s Q E st hQ

variable {E : Value → Shared → Prop} {s : Shared}
theorem args_sum2 (a b : Value) : argsOk "sum" ⟨[a, b], []⟩ := by unfold argsOk; kernel_rfl
theorem call_sum_start {c : Int} {tc : Tok} {val : Nat → Int} {Q : Value → Shared → Prop} (W : PySem.WalksS prog w A.in1 I fp wr G n P St) (hst : St 0 s) (hfp : ∀ b ∈ fp, b < s.heap.objs.size)
    (hval : ∀ i v, P i v → ∃ t, v = .int (val i) t) (hc : InLong c) (hfit : ∀ j, j < n → InLong (val j) ∧ InLong (c + preSum val (j + 1)))
    (hQ : ∀ s' t', Moved wr G s s' → Q (.int (c + preSum val n) t') s') : wpAny (model prog w) A (call (.builtin "sum") [.ref I, .int c tc]) Q E s := by
  refine call_function_tree PySem.F.kind_sum PySem.F.plain_sum PySem.F.entry_sum (args_sum2 _ _) ?_
  unfold Builtin.«sum»
  simp only [List.length_cons, List.length_nil]
  rw [if_neg (by decide)]
  refine wpAny_bind (wpAny_of_eq (show Builtin.Builtins.bindParams "sum" ["start"] 0 ⟨[Value.int c tc], []⟩ = pure [some (Value.int c tc)] from rfl) ?_)
  refine wpAny_bind (W.self 0 s _ _ hst ?_)
  dsimp only
  split
  · refine wpAny_bind (wpAny_rule (wpAny_bind (wpAny_mkInt (wpAny_bind (wpAny_pure ?_)))))
    simp only [List.forIn_cons, List.forIn_nil]
    refine wpAny_bind (wpAny_bind (wpAny_bind (wpAny_isInstance (T := "int") (b := false) (typeIs_int _ _ _) PySem.sub_int_str ?_)))
    simp only [Bool.false_eq_true, if_false]
    refine wpAny_pure (wpAny_bind (wpAny_bind (wpAny_isInstance (T := "int") (b := false) (typeIs_int _ _ _) PySem.sub_int_bytes ?_)))
    simp only [Bool.false_eq_true, if_false]
    refine wpAny_pure (wpAny_bind (wpAny_bind (wpAny_isInstance (T := "int") (b := false) (typeIs_int _ _ _) PySem.sub_int_bytearray ?_)))
    simp only [Bool.false_eq_true, if_false]
    refine wpAny_pure (wpAny_pure ?_)
    refine wpAny_bind (wpAny_newObj_type ?_)
    have hSf : s.heap.objs.size ∉ fp := fun hm => Nat.lt_irrefl _ (hfp _ hm)
    have e0 : preSum (shiftV c val) 1 = c := by simp [preSum, shiftV]
    refine wpAny_pure ⟨plainId_quiet PySem.F.plain_sum_loop _, codeAny_sum_loopS (WalksS.shift W) (shiftV c val) (fun i v hv => ?_) (fun j hj => ?_) s.heap.objs.size hSf n 1 _ s.toks 0 (by lia) (by lia)
      (W.frame 0 s _ _ hst (by first | exact Nat.le_refl _ | exact Nat.le_succ _ | lia) fun b _ o e => Heap.get?_push_of_some _ e) (by rw [e0]; exact Heap.get?_push_size _ rfl) fun s' t' hm => ?_⟩
    · cases i with
      | zero => cases hv
      | succ i => exact hval i v hv
    · rw [preSum_shift]
      cases j with
      | zero => exact ⟨hc, by simpa [preSum] using hc⟩
      | succ j => exact hfit j (by lia)
    · rw [preSum_shift]
      exact hQ s' t' (hm.drop_new (by first | exact Nat.le_refl _ | exact Nat.le_succ _ | lia))
  · rename_i hno
    exact absurd (Bool.and_eq_true_iff.mpr ⟨decide_eq_true hc.1, decide_eq_true hc.2⟩) hno
end
end
section
open PySem PySem.W PySem.Calls PyProof.Rows
-- a part of the list: a tuple of two texts
structure Part where
  T : Addr
  f : Str
  t1 : Tok
  p : Str
  t2 : Tok
abbrev Part.val (q : Part) : Value := .ref q.T
abbrev Part.obj (q : Part) : Obj := { cls := .type "tuple", data := .seq ([.str q.f q.t1, .str q.p q.t2] : List Value).toArray }

abbrev tabObj (ps : Array Value) : Obj := { cls := .none, data := .fields ps }

-- what a table of codes is: its object, in a heap that the ledger describes
structure TabIs (K : Frag) (cda tb : Addr) (ps : Array Value) : Prop where
  tr : TriplesOk ps.toList
  ne : cda ≠ tb
  code : ∃ od sl vs file tf flags tg inF text tt, K.lookup cda = some ⟨.type "code", od, .fields vs, sl⟩ ∧ vs[11]? = some (.ref tb) ∧ vs.getD 11 .none = .ref tb ∧ vs.getD 18 .none = .str file tf ∧
    vs.getD 7 .none = .int flags tg ∧ vs.getD 9 .none = .bool inF ∧ vs.getD 10 .none = .int text tt
theorem TabIs.isCode {K : Frag} {cda tb : Addr} {ps : Array Value} {h : Heap} (t : TabIs K cda tb ps) (X : K.In h) (ht : h.get? tb = some (tabObj ps)) : h.IsCode cda tb ps := by
  obtain ⟨tr, ne, od, sl, vs, file, tf, flags, tg, inF, text, tt, h1, h2, h3, h4, h5, h6, h7⟩ := t
  exact ⟨_, vs, file, tf, flags, tg, inF, text, tt, _, X _ _ h1, rfl, h3, h4, h5, h6, h7, ht, rfl, tr, ne⟩
theorem TabIs.tableAt {K : Frag} {cda tb : Addr} {ps : Array Value} {h : Heap} (t : TabIs K cda tb ps) (X : K.In h) (ht : h.get? tb = some (tabObj ps)) : h.TableAt cda tb ps := by
  obtain ⟨tr, ne, od, sl, vs, file, tf, flags, tg, inF, text, tt, h1, h2, h3, h4, h5, h6, h7⟩ := t
  exact ⟨⟨_, vs, X _ _ h1, rfl, rfl, h2⟩, ht⟩

theorem passing_all (n : Nat) : passing (fun _ => true) n 0 = List.range n := by
  unfold passing
  rw [List.drop_zero]
  exact List.filter_eq_self.mpr fun _ _ => rfl

theorem genexprCode_tab {M : Model} {A : Around} {E : Value → Shared → Prop} {s : Shared} {K : Frag} {env : Env} {cda tb : Addr} {ps : Array Value} {pos : Pos} {qualname : Str} {scope : Scope} {Q : Value → Shared → Prop}
    (hc : env.code = .ref cda) (T : TabIs K cda tb ps) (X : K.In s.heap) (ht : s.heap.get? tb = some (tabObj ps))
    (hQ : ∀ c' h' tk ps', Heap.ExtBut tb s.heap h' → s.heap.objs.size ≤ h'.objs.size → TabIs K cda tb ps' → h'.get? tb = some (tabObj ps') → Q c' { s with heap := h', toks := tk }) :
    wpAny M A (genexprCode env pos qualname scope) Q E s := by
  cases hf : codeAmong pos ps.toList with
  | some c' => exact wpAny_genexprCode_hit hc (T.isCode X ht) hf (hQ c' s.heap s.toks ps (Heap.ExtBut.refl _ _) (Nat.le_refl _) T ht)
  | none =>
    refine wpAny_genexprCodeX hc (T.isCode X ht) (T.tableAt X ht) hf fun c' h' tk hx hge hlt hcode _ htab _ => hQ (.ref c') h' tk (ps ++ #[rawInt pos.line, rawInt pos.col, .ref c']) hx (Nat.le_trans hge (Nat.le_of_lt hlt)) ⟨?_, T.ne, T.code⟩ htab.2
    have := TriplesOk_snoc pos.line pos.col (.ref c') ps.toList T.tr
    rw [Array.toList_append]
    exact this

theorem walksS_weaken {prog : Program} {w : World} {A : Around} {I : Addr} {fp wr : List Addr} {G : Array GenState → Array GenState → Prop} {n : Nat} {P P' : Nat → Value → Prop} {St : Nat → Shared → Prop}
    (W : PySem.WalksS prog w A I fp wr G n P St) (h : ∀ j v, P j v → P' j v) : PySem.WalksS prog w A I fp wr G n P' St where
  sub := W.sub
  grefl := W.grefl
  gtrans := W.gtrans
  frame := W.frame
  item := fun i s Q E hi st hQ => W.item i s Q E hi st fun v s' hv => hQ v s' (h i v hv)
  done := W.done
  self := W.self

section
variable {prog : Program} {w : World} {A : Around} {E : Value → Shared → Prop} {s : Shared} {P : Params} {x dx L a cda tb : Addr} {h₀ : Heap} {m mg mb : Str → Option Value} {news : List (Addr × Obj)} {n : Nat} {od : Obj} {p : Program} {loose : List Str} {mean : ExcName → Option Value} {parts : List Part} {ps : Array Value}
  {cn : Str} {cs : Scope}

theorem gen_acc {elt : Expr} {xa xb : Str} {px pa pb pt : Pos} {kt : Nat} {scope : Scope} {pos : Pos} {Q : Value → Shared → Prop} {Fv : Part → Value → Prop}
    (F : Fr h₀ L s.heap m) (X : (hd.heap_39 P).In h₀) (T : Top p loose mean mg mb h₀) (N : News h₀ L s.heap news) (hx : (x, accObj dx (parts.map Part.val) n) ∈ news) (hdx : (dx, od) ∈ news)
    (hparts : ∀ q ∈ parts, (q.T, q.obj) ∈ news) (htab : (tb, tabObj ps) ∈ news) (hT : TabIs (hd.heap_39 P) cda tb ps) (G : AllBare s.gens) (hm : m "self" = some (.ref x))
    (hself : (envOf cn cs L a (.ref cda)).kindOf "self" = some .local) (hckind : cs.kind = .function)
    (hh : A.handled = none) (hco : scope.isCoroutine = false) (hclos : closureFor scope (envOf cn cs L a (.ref cda)) = pure []) (hcell : ∀ y ∈ scope.names, y.2 ≠ .cell) (h0 : scope.names.lookup (".0" : Str) = some NameKind.local)
    (hxa : scope.names.lookup xa = some .local) (hxb : scope.names.lookup xb = some .local) (hab : xa ≠ xb) (hkind : scope.kind = .function) (hroom : A.depth < recursionLimit)
    (helt : ∀ (C : Addr) (code : Value) (A' : Around) (E' : Value → Shared → Prop) (q : Part) (s₂ : Shared) (m₂ : Str → Option Value), A'.handled = none → q ∈ parts → s₂.heap.Ns C m₂ → m₂ xa = some (.str q.f q.t1) → m₂ xb = some (.str q.p q.t2) →
      (∀ b o, h₀.get? b = some o → s₂.heap.get? b = some o) →
      wpAny (model prog w) A' (eval elt (genEnv scope [] C code builtinsNs (envOf cn cs L a (.ref cda)))) (fun y s₃ => Fv q y ∧ Keeps s₂ s₃) E' s₂)
    (hQ : ∀ (ga : Addr) (s₅ : Shared) (fp wr : List Addr) (GG : Array GenState → Array GenState → Prop) (St : Nat → Shared → Prop) (ps' : Array Value),
      PySem.WalksS prog w A.in4 ga fp wr GG parts.length (fun j y => ∃ q, parts[j]? = some q ∧ Fv q y) St → St 0 s₅ → (∀ b ∈ fp, b < s₅.heap.objs.size) → (∀ b ∈ wr, s.heap.objs.size ≤ b) → (∀ g', GG s₅.gens g' → AllBare g') → AllBare s₅.gens → s₅.os = s.os →
      TabIs (hd.heap_39 P) cda tb ps' → s₅.heap.get? tb = some (tabObj ps') → (∀ b o, b ≠ tb → s.heap.get? b = some o → s₅.heap.get? b = some o) → s.heap.objs.size ≤ ga → (∀ i s', St i s' → s'.TypeIs (.ref ga) "generator") → ga ∈ fp → Q (.ref ga) s₅)
    (hs : ∀ y, genFold (.Name "self" px) (envOf cn cs L a (.ref cda)) y = pure y) :
    wpAny (model prog w) A (eval (.GeneratorExp elt [⟨.Tuple [.Name xa pa, .Name xb pb] kt pt, .Name "self" px, [], 0⟩] scope pos) (envOf cn cs L a (.ref cda))) Q E s := by
  have hlim : s.heap.NoLimit := T.nolimit.keeps F.keep
  refine wpAny_GeneratorExp_walksQT hh hco hclos hcell h0 hxa hxb hab hkind hroom (ld F hm ?_ hckind hself) hs
  have I := InstAt.of_acc N hx hdx
  refine pyIter_acc (P := P) (X.keeps F.keep) I ?_
  generalize hH : s.heap.push { cls := .type "list_iterator", data := .fields #[.ref x, .int 0 0] } = H
  have keep1 : ∀ b o, s.heap.get? b = some o → H.get? b = some o := fun b o e => hH ▸ Heap.get?_push_of_some _ e
  have hit : H.IsListIter s.heap.objs.size x 0 := hH ▸ ⟨_, Heap.get?_push_size _ rfl, rfl, rfl⟩
  have hsz1 : H.objs.size = s.heap.objs.size + 1 := by rw [← hH, Heap.size_push]
  have ht1 : H.get? tb = some (tabObj ps) := keep1 _ _ (N _ htab).1
  have F1 : Fr h₀ L H m := F.keeps keep1
  refine ⟨hlim.keeps keep1, ?_⟩
  refine genexprCode_tab (K := hd.heap_39 P) (by rfl) hT (X.keeps F1.keep) ht1 fun code h₃ tk ps' hx₃ hsz₃ hT' ht' => ?_
  have keep3 : ∀ b o, b ≠ tb → s.heap.get? b = some o → h₃.get? b = some o := fun b o hb e => hx₃ b o hb (keep1 b o e)
  have hne : ∀ b o, h₀.get? b = some o → b ≠ tb := fun b o e z => by
    have := (N _ htab).2.2
    rw [← z, e] at this
    cases this
  have F3 : ∀ b o, h₀.get? b = some o → h₃.get? b = some o := fun b o e => keep3 b o (hne b o e) (F.keep b o e)
  obtain ⟨bm, ob, hb1, hb2, hb3, hb4, hb5, hb6⟩ := T.bmain
  refine wpAny_builtinsFor (T.g.keeps F3) hb1 hb2 (F3 _ _ hb3) hb4 hb5 hb6 ?_
  have hI : ∀ b o, s.heap.get? b = some o → b ≠ s.heap.objs.size := fun b o e => Nat.ne_of_lt (Heap.lt_size e)
  have htbI : s.heap.objs.size ≠ tb := fun z => hI _ _ (N _ htab).1 z.symm
  have tupH : ∀ q ∈ parts, h₃.IsTuple q.T #[.str q.f q.t1, .str q.p q.t2] := fun q hq => by
    have e := (N _ (hparts q hq)).1
    refine ⟨_, keep3 _ _ (fun z => ?_) e, rfl, _, rfl⟩
    have e2 := (N _ htab).1
    rw [← z, e] at e2
    cases e2
  have hxtb : x ≠ tb := fun z => by
    have e2 := (N _ htab).1
    rw [← z, (N _ hx).1] at e2
    cases e2
  have hcs : cStatics ≠ tb := by
    obtain ⟨_, hns, _⟩ := hlim
    obtain ⟨o, es, ep, ho, hd, _⟩ := hns
    intro z
    have e2 := (N _ htab).1
    rw [z, e2] at ho; cases ho; cases hd
  have hl3 : h₃.NoLimit := (hlim.keeps keep1).extBut hx₃ hcs
  have hsz3 : s.heap.objs.size < h₃.objs.size := by rw [hsz1] at hsz₃; exact hsz₃
  have hit3 : h₃.IsListIter s.heap.objs.size x 0 := hit.extBut hx₃ htbI
  have hseq3 : SeqAt h₃ x (parts.map Part.val).toArray := ⟨_, _, keep3 _ _ hxtb (N _ hx).1, rfl⟩
  have hlen : ((parts.map Part.val).toArray).size = parts.length := by simp
  generalize hits : (parts.map Part.val).toArray = items at hlen hseq3
  let Ts : Nat → Addr := fun j => (parts.map Part.T).getD j 0
  let vals : Nat → Array Value := fun j => (parts.map (fun q : Part => (#[.str q.f q.t1, .str q.p q.t2] : Array Value))).getD j #[]
  have hgT : ∀ j (hj : j < parts.length), Ts j = (parts[j]).T := fun j hj => by simp [Ts, List.getD, hj]
  have hgV : ∀ j (hj : j < parts.length), vals j = #[.str (parts[j]).f (parts[j]).t1, .str (parts[j]).p (parts[j]).t2] := fun j hj => by simp [vals, List.getD, hj]
  have hmem : ∀ j (hj : j < parts.length), parts[j] ∈ parts := fun j hj => List.getElem_mem hj
  have hTlt : ∀ q ∈ parts, q.T < s.heap.objs.size := fun q hq => Heap.lt_size (N _ (hparts q hq)).1
  have hxlt : x < s.heap.objs.size := Heap.lt_size (N _ hx).1
  have WU : ∀ A' : Around, A'.handled = none → _ := fun A' hA' => WalksU.seqOfTuples (prog := prog) (w := w) (A := A') hA' s.heap.objs.size x (Nat.ne_of_lt hxlt) items Ts vals
    (fun j hj => by rw [hlen] at hj; rw [hgT j hj, ← hits]; simp [hj]) (fun j hj => by rw [hlen] at hj; rw [hgT j hj]; exact Nat.ne_of_lt (hTlt _ (hmem j hj)))
  have hfp : ∀ b ∈ s.heap.objs.size :: x :: (List.range items.size).map Ts, b < h₃.objs.size := fun b hb => by
    rcases List.mem_cons.mp hb with rfl | hb
    · exact hsz3
    · rcases List.mem_cons.mp hb with rfl | hb
      · exact Nat.lt_trans hxlt hsz3
      · obtain ⟨j, hj, rfl⟩ := List.mem_map.mp hb
        have hj := List.mem_range.mp hj
        rw [hlen] at hj
        rw [hgT j hj]
        exact Nat.lt_trans (hTlt _ (hmem j hj)) hsz3
  refine ⟨s.heap.objs.size, List.range h₃.objs.size, [s.heap.objs.size], items.size, _, _, _, (fun _ => true), (fun j y => ∃ q, parts[j]? = some q ∧ Fv q y), rfl, fun A' hA' => (WU A' hA').mono_fp fun b hb => List.mem_range.mpr (hfp b hb), fun i v hv => ?_, ⟨hit3, hseq3, fun k hk => ?_⟩, ?_, hl3, ?_, fun href hrk => ?_, ?_⟩
  · obtain ⟨hi, rfl⟩ := hv
    rw [hlen] at hi
    exact ⟨_, _, hgV i hi⟩
  · rw [hlen] at hk
    rw [hgT k hk, hgV k hk]
    exact tupH _ (hmem k hk)
  · exact fun b hb => List.mem_range.mp hb
  · intro hc
    obtain ⟨_, hns, _⟩ := hlim
    exact absurd (List.mem_singleton.mp hc) (Nat.ne_of_lt hns.lt)
  · refine ⟨fun A' E' i va vb s₂ m₂ hA' hP hn ha hb hk => ?_, fun A' E' i va vb s₂ m₂ hA' hP _ hn ha hb hk => ?_⟩
    · exact wpAny_pure ⟨rfl, s₂.heap, s₂.toks, rfl, fun b o e => e⟩
    · obtain ⟨hi, e⟩ := hP
      rw [hlen] at hi
      rw [hgV i hi] at e
      have e1 := Array.mk.inj e
      injection e1 with e1 e2
      injection e2 with e2 e3
      subst e1; subst e2
      refine wpAny_mono (helt _ code A' E' _ s₂ m₂ hA' (hmem i hi) hn ha hb fun b o e => hk b (List.mem_range.mpr (Nat.lt_trans (Heap.lt_size (F.keep _ _ e)) hsz3)) (fun hc => hI _ _ (F.keep _ _ e) (List.mem_singleton.mp hc)) o (hrk _ _ (F3 b o e))) (fun y s₃ hy => ⟨⟨_, List.getElem?_eq_getElem hi, hy.1⟩, hy.2⟩) fun _ _ z => z
  · intro ga h₅ tk5 gs hgb hga hsz₅ hk₅ W hat
    rw [passing_all] at W
    have e1 : (List.range items.size).length = parts.length := by rw [List.length_range, hlen]
    rw [e1] at W
    have W' := walksS_weaken (P' := fun j y => ∃ q, parts[j]? = some q ∧ Fv q y) W fun j y hy => by
      obtain ⟨i, hi, hy⟩ := hy
      obtain ⟨hi1, hi2⟩ := List.getElem?_eq_some_iff.mp hi
      rw [List.getElem_range] at hi2
      subst hi2
      exact hy
    refine hQ ga _ _ _ _ _ ps' W' hat (fun b hb => ?_) (fun b hb => ?_) (fun g' hg' => hg'.bare (G.push hgb)) (G.push hgb) rfl hT' (hk₅ _ _ ht') (fun b o hb e => hk₅ _ _ (keep3 b o hb e)) (Nat.le_of_lt (Nat.lt_trans hsz3 hga)) (fun i s' st => st.1.typeIs) List.mem_cons_self
    · show b < h₅.objs.size
      rw [hsz₅]
      rcases List.mem_cons.mp hb with rfl | hb
      · exact Nat.lt_succ_self _
      · rcases List.mem_cons.mp hb with rfl | hb
        · exact Nat.lt_succ_of_lt hga
        · exact Nat.lt_succ_of_lt (Nat.lt_trans (List.mem_range.mp hb) hga)
    · rcases List.mem_cons.mp hb with rfl | hb
      · exact Nat.le_of_lt hsz3
      · exact Nat.le_of_eq (List.mem_singleton.mp hb).symm
end
end
section
open PySem PySem.W PySem.Calls PyProof.Rows
theorem fill (P : Params) : (hd.heap_39 P, PySem.Challenge.rw_re0158_01).1 = hd.heap_39 P := by
  k_fill
  rfl
-- a call from a frame: what may be leaned on, and what is to be left
abbrev Does (P : Params) (c : Nat) (f : Addr) (vs : List Value) (news : List (Addr × Obj)) (R : Value → List (Addr × Obj) → Heap → Prop) : Prop :=
  ∀ ⦃w : World⦄ ⦃dp un : Nat⦄ ⦃gd : Option (List Code)⦄ ⦃cn : Str⦄ ⦃cs : Scope⦄ ⦃L a : Addr⦄ ⦃ccd : Value⦄ ⦃cl : List (Str × Addr)⦄ ⦃outer : List Env⦄ ⦃A₀ : Around⦄ ⦃base h₀ : Heap⦄ ⦃m mg mb : Str → Option Value⦄ ⦃s : Shared⦄ ⦃Q E : Value → Shared → Prop⦄ ⦃p : Program⦄ ⦃loose : List Str⦄ ⦃mean : ExcName → Option Value⦄,
    Below A₀ base outer h₀ → Fr h₀ L s.heap m → (hd.heap_39 P).In h₀ → News h₀ L s.heap news → Top p loose mean mg mb h₀ → cs.kind = .function → AllBare s.gens → dp + c < recursionLimit → un + 20 * c < cLine →
    (∀ r news' s', R r news' s'.heap → Fr h₀ L s'.heap m → News h₀ L s'.heap news' → AllBare s'.gens → s'.os = s.os → Q r s') →
    wpAny (model PySem.Challenge.pw_re0158_01 w) (ktrTop dp un gd cn cs L a ccd cl outer) (call (.ref f) vs) Q E s

abbrev accD (hs : Int) (tk : Tok) (n : Int) (tn : Tok) (kk : Nat) : Obj := dictOf [⟨hs, .str "_initial_size" tk, .int n tn⟩] kk
def plen (parts : List Part) : Int := (parts.map fun q => ((q.f.length : Int) + q.p.length)).sum

section
variable {prog : Program} {w : World} {A : Around} {E : Value → Shared → Prop} {s : Shared} {P : Params} {C : Addr} {code : Value} {h₀ : Heap} {m mg mb : Str → Option Value} {p : Program} {loose : List Str} {mean : ExcName → Option Value} {scope : Scope} {env : Env}
theorem gnB {x : Str} {pos : Pos} {v : Value} {Q : Value → Shared → Prop} (F : ∀ b o, h₀.get? b = some o → s.heap.get? b = some o) (X : (hd.heap_39 P).In h₀) (T : Top p loose mean mg mb h₀) (e : nsIn (hd.heap_39 P) mainGlobals x = some none) (hv : bootBuiltins x = some v) (hn : x ≠ "__name__") (h : Q v s)
    (hg : env.globals = mainGlobals) (hk : scope.kind = .function) (hx : (genEnv scope [] C code builtinsNs env).kindOf x = some .globalImplicit) (hd' : (x == ("__debug__" : Str)) = false) :
    wpAny (model prog w) A (eval (.Name x pos) (genEnv scope [] C code builtinsNs env)) Q E s :=
  Name_function_global hk hx (loadGlobal_builtin (env := genEnv scope [] C code builtinsNs env) (show s.heap.Ns env.globals mg from hg ▸ T.g.keeps F) (mg_none_of X T.g e) (T.b.keeps F) ((T.builtins x hn).trans hv) h) hd'
theorem gnK {x : Str} {pos : Pos} {v : Value} {Q : Value → Shared → Prop} (F : ∀ b o, h₀.get? b = some o → s.heap.get? b = some o) (X : (hd.heap_39 P).In h₀) (T : Top p loose mean mg mb h₀) (e : nsIn (hd.heap_39 P) mainGlobals x = some (some v)) (h : Q v s)
    (hg : env.globals = mainGlobals) (hk : scope.kind = .function) (hx : (genEnv scope [] C code builtinsNs env).kindOf x = some .globalImplicit) (hd' : (x == ("__debug__" : Str)) = false) :
    wpAny (model prog w) A (eval (.Name x pos) (genEnv scope [] C code builtinsNs env)) Q E s :=
  Name_function_global hk hx (loadGlobal_global (env := genEnv scope [] C code builtinsNs env) (show s.heap.Ns env.globals mg from hg ▸ T.g.keeps F) (mg_of X T.g e) h) hd'
theorem gnL {x : Str} {pos : Pos} {v : Value} {Q : Value → Shared → Prop} (F : s.heap.Ns C m) (hm : m x = some v) (h : Q v s)
    (hk : scope.kind = .function) (hl : (genEnv scope [] C code builtinsNs env).kindOf x = some .local) (hd' : (x == ("__debug__" : Str)) = false) :
    wpAny (model prog w) A (eval (.Name x pos) (genEnv scope [] C code builtinsNs env)) Q E s := wpAny_Name (wpAny_loadName_local hk hl F hm h) hd'
end

theorem elt_len (P : Params) {prog : Program} {w : World} {A : Around} {E : Value → Shared → Prop} {s : Shared} {C : Addr} {code : Value} {h₀ : Heap} {m mg mb : Str → Option Value} {p : Program} {loose : List Str} {mean : ExcName → Option Value} {scope : Scope} {env : Env} {p1 p2 p3 p4 p5 p6 p7 : Pos} {f q : Str} {t1 t2 : Tok}
    (hA : A.handled = none) (F : ∀ b o, h₀.get? b = some o → s.heap.get? b = some o) (X : (hd.heap_39 P).In h₀) (T : Top p loose mean mg mb h₀) (hn : s.heap.Ns C m) (h1 : m "fws" = some (.str f t1)) (h2 : m "part" = some (.str q t2))
    (hg : env.globals = mainGlobals) (hk : scope.kind = .function) (hx : (genEnv scope [] C code builtinsNs env).kindOf "len" = some .globalImplicit) (hx1 : (genEnv scope [] C code builtinsNs env).kindOf "fws" = some .local) (hx2 : (genEnv scope [] C code builtinsNs env).kindOf "part" = some .local)
    (hf : f.length < 1000) (hq : q.length < 1000) :
    wpAny (model prog w) A (eval (.BinOp (.Call (.Name "len" p1) [.Name "fws" p2] [] p3) .Add (.Call (.Name "len" p4) [.Name "part" p5] [] p6) p7) (genEnv scope [] C code builtinsNs env)) (fun y s₃ => (∃ t, y = .int ((f.length : Int) + q.length) t) ∧ Keeps s s₃) E s := by
  obtain ⟨h, g, d, t, os⟩ := s
  have name : ∀ {p1 t' Q}, Q (.builtin "len") { heap := h, gens := g, drawn := d, toks := t', os := os } → wpAny (model prog w) A (eval (.Name "len" p1) (genEnv scope [] C code builtinsNs env)) Q E { heap := h, gens := g, drawn := d, toks := t', os := os } :=
    fun q => gnB F X T (by kernel_rfl) boot_len (by decide) q hg hk hx (by rfl)
  refine wpAny_BinOp (Call_name1 (by rfl) (name (callWith_builtin1 (gnL hn h1 (len_str (by lia) ?_) hk hx1 (by rfl)))))
  refine Call_name1 (by rfl) (name (callWith_builtin1 (gnL hn h2 (len_str (by lia) ?_) hk hx2 (by rfl))))
  refine add_int ?_
  exact ⟨⟨_, rfl⟩, _, _, rfl, fun b o e => e⟩

theorem preSum_congr (f g : Nat → Int) : ∀ n, (∀ i, i < n → f i = g i) → preSum f n = preSum g n
  | 0, _ => rfl
  | n + 1, h => by
    show preSum f n + f n = preSum g n + g n
    rw [preSum_congr f g n fun i hi => h i (by lia), h n (by lia)]
def valOf' (parts : List Part) (i : Nat) : Int := (parts[i]?.map fun q => ((q.f.length : Int) + q.p.length)).getD 0
theorem plen_take (parts : List Part) : ∀ n, n ≤ parts.length → preSum (valOf' parts) n = plen (parts.take n)
  | 0, _ => rfl
  | n + 1, h => by
    show preSum (valOf' parts) n + valOf' parts n = _
    rw [plen_take parts n (by lia), List.take_succ, List.getElem?_eq_getElem (show n < parts.length by lia)]
    simp only [plen, valOf', List.getElem?_eq_getElem (show n < parts.length by lia), List.map_append, List.sum_append, Option.map_some, Option.getD_some, Option.toList_some, List.map_cons, List.map_nil, List.sum_cons, List.sum_nil, Int.add_zero]
theorem plen_nonneg (parts : List Part) : 0 ≤ plen parts := by
  induction parts with
  | nil => simp [plen]
  | cons q r ih => simp only [plen, List.map_cons, List.sum_cons] at *; lia
theorem plen_take_le (parts : List Part) (n : Nat) : plen (parts.take n) ≤ plen parts := by
  have e : plen parts = plen (parts.take n) + plen (parts.drop n) := by
    conv => lhs; rw [← List.take_append_drop n parts]
    simp only [plen, List.map_append, List.sum_append]
  have := plen_nonneg (parts.drop n)
  lia
theorem plen_mem {parts : List Part} {q : Part} (h : q ∈ parts) : ((q.f.length : Int) + q.p.length) ≤ plen parts := by
  induction parts with
  | nil => cases h
  | cons a r ih =>
    simp only [plen, List.map_cons, List.sum_cons] at *
    have := plen_nonneg r
    simp only [plen] at this
    rcases List.mem_cons.mp h with rfl | h
    · lia
    · have := ih h; lia

theorem news_tab {h₀ h h' : Heap} {L tb : Addr} {ps ps' : Array Value} {pre post : List (Addr × Obj)} (N : News h₀ L h (pre ++ (tb, tabObj ps) :: post)) (h1 : ∀ p ∈ pre, p.1 ≠ tb) (h2 : ∀ p ∈ post, p.1 ≠ tb)
    (k : ∀ b o, b ≠ tb → h.get? b = some o → h'.get? b = some o) (ht : h'.get? tb = some (tabObj ps')) : News h₀ L h' (pre ++ (tb, tabObj ps') :: post) := fun p hp => by
  rcases List.mem_append.mp hp with hp | hp
  · have := N p (List.mem_append.mpr (.inl hp))
    exact ⟨k _ _ (h1 p hp) this.1, this.2⟩
  · rcases List.mem_cons.mp hp with rfl | hp
    · have := N (tb, tabObj ps) (by simp)
      exact ⟨ht, this.2⟩
    · have := N p (List.mem_append.mpr (.inr (List.mem_cons_of_mem _ hp)))
      exact ⟨k _ _ (h2 p hp) this.1, this.2⟩
theorem fr_tab {h₀ h h' : Heap} {L tb : Addr} {m : Str → Option Value} (F : Fr h₀ L h m) (hL : tb ≠ L) (hn : h₀.get? tb = none) (k : ∀ b o, b ≠ tb → h.get? b = some o → h'.get? b = some o) : Fr h₀ L h' m :=
  ⟨F.ns.at' fun o e => k _ o (Ne.symm hL) e, fun b o e => k b o (fun z => by rw [z, hn] at e; cases e) (F.keep b o e), F.above⟩

theorem news_moved {h₀ h h' : Heap} {L k : Addr} {news : List (Addr × Obj)} {wr : List Addr} (N : News h₀ L h news) (hwr : ∀ b ∈ wr, k ≤ b) (hlt : ∀ p ∈ news, p.1 < k) (hk : ∀ b o, b ∉ wr → h.get? b = some o → h'.get? b = some o) : News h₀ L h' news :=
  fun p hp => ⟨hk _ _ (fun hm => Nat.lt_irrefl _ (Nat.lt_of_lt_of_le (hlt p hp) (hwr _ hm))) (N p hp).1, (N p hp).2⟩
theorem fr_moved {h₀ h h' : Heap} {L k : Addr} {m : Str → Option Value} {wr : List Addr} (F : Fr h₀ L h m) (hwr : ∀ b ∈ wr, k ≤ b) (hL : L < k) (hk : ∀ b o, b ∉ wr → h.get? b = some o → h'.get? b = some o) : Fr h₀ L h' m :=
  have hb : ∀ b, b ≤ L → b ∉ wr := fun b hb hm => Nat.lt_irrefl _ (Nat.lt_of_lt_of_le (Nat.lt_of_le_of_lt hb hL) (hwr _ hm))
  ⟨F.ns.at' fun o e => hk _ o (hb _ (Nat.le_refl _)) e, fun b o e => hk b o (hb b (Nat.le_trans (Nat.le_of_lt (Heap.lt_size e)) F.above)) (F.keep b o e), F.above⟩

theorem len_does (P : Params) {x dx tb : Addr} {parts : List Part} {cap kk : Nat} {hs n : Int} {tk tn : Tok} {ps : Array Value} {pre rest : List (Addr × Obj)} (hx : (x, accObj dx (parts.map Part.val) cap) ∈ pre ++ rest) (hdx : (dx, accD hs tk n tn kk) ∈ pre ++ rest) (hparts : ∀ q ∈ parts, (q.T, q.obj) ∈ pre ++ rest) (hT : TabIs (hd.heap_39 P) 144 tb ps)
    (h1 : ∀ q ∈ pre, q.1 ≠ tb) (h2 : ∀ q ∈ rest, q.1 ≠ tb) (hn0 : 0 ≤ n) (hnp : n + plen parts < 1000) :
    Does P 3 145 [.ref x] (pre ++ (tb, tabObj ps) :: rest) (fun r news' _ => ∃ t ps', r = .int (n + plen parts) t ∧ TabIs (hd.heap_39 P) 144 tb ps' ∧ news' = pre ++ (tb, tabObj ps') :: rest) := by
  intro w dp un gd cn cs L a ccd cl outer A₀ base h₀ m mg mb s Q E p loose mean B F X N T hk G hroom hunits hQ
  have sub : ∀ p ∈ pre ++ rest, ∀ ps' : Array Value, p ∈ pre ++ (tb, tabObj ps') :: rest := fun p hp ps' => by
    rcases List.mem_append.mp hp with h | h
    · exact List.mem_append.mpr (.inl h)
    · exact List.mem_append.mpr (.inr (List.mem_cons_of_mem _ h))
  obtain ⟨h, g, d, t, os⟩ := s
  refine wpAny_call ?_
  k_dflt cell_enter
  rename_i g' L' h' FG' F' N' B' X' T'
  (iterate 7 (walk1))
  refine gen_acc (P := P) (p := p) (mg := mg) (mb := mb) (loose := loose) (mean := mean) (h₀ := g') F' X' T' N' (sub _ hx ps) (sub _ hdx ps) (fun q hq => sub _ (hparts q hq) ps) (List.mem_append.mpr (.inr (.head _))) hT G (by rfl) (by rfl) (by rfl) (by rfl) (by rfl) (by rfl) (by decide) (by rfl) (by rfl) (by rfl) (by decide) (by rfl) ?_
    (fun C code A' E' q s₂ m₂ hA' hq hn ha hb hk' => elt_len P hA' hk' X' T' hn ha hb (by rfl) (by rfl) (by rfl) (by rfl) (by rfl) ?_ ?_) ?_ (fun y => by rfl)
  · show dp + 1 < recursionLimit
    lia
  · have := plen_mem hq
    lia
  · have := plen_mem hq
    lia
  intro ga s₅ fp wr GG St ps' W hst hfp hwr hbare G₅ hos hT' htb hk₅ hga hgt hgm
  have htm : (tb, tabObj ps) ∈ pre ++ (tb, tabObj ps) :: rest := List.mem_append.mpr (.inr (.head _))
  have F5 := fr_tab F' (N' _ htm).2.1 (N' _ htm).2.2 hk₅
  have N5 := news_tab N' h1 h2 hk₅ htb
  have hltL := F'.ns.lt
  have hlt : ∀ p ∈ pre ++ (tb, tabObj ps') :: rest, p.1 < h'.objs.size := fun p hp => by
    rcases List.mem_append.mp hp with hp | hp
    · exact Heap.lt_size (N' p (List.mem_append.mpr (.inl hp))).1
    · rcases List.mem_cons.mp hp with rfl | hp
      · exact Heap.lt_size (N' _ htm).1
      · exact Heap.lt_size (N' p (List.mem_append.mpr (.inr (List.mem_cons_of_mem _ hp)))).1
  clear F' N'
  obtain ⟨h5, g5, d5, t5, os5⟩ := s₅
  (iterate 3 (walk1))
  refine getAttr_acc F5 X' N5 (sub _ hx ps') (sub _ hdx ps') (by kernel_rfl) (by rfl) (by rfl) ?_
  (walk1)
  have hv : ∀ (i : Nat) (v : Value), (∃ q, parts[i]? = some q ∧ ∃ t, v = Value.int ((q.f.length : Int) + q.p.length) t) → ∃ t, v = .int (valOf' parts i) t := by
    rintro i v ⟨q, hq, t, rfl⟩
    exact ⟨t, by rw [valOf', hq]; rfl⟩
  have hfit : ∀ j, j < parts.length → InLong (valOf' parts j) ∧ InLong (n + preSum (valOf' parts) (j + 1)) := fun j hj => by
    rw [plen_take parts _ (by lia)]
    have a1 := plen_take_le parts (j + 1)
    have a2 := plen_nonneg (parts.take (j + 1))
    have a3 : valOf' parts j = (((parts[j]).f.length : Int) + (parts[j]).p.length) := by rw [valOf', List.getElem?_eq_getElem hj]; rfl
    have a4 := plen_mem (List.getElem_mem hj)
    rw [a3]
    exact ⟨⟨by lia, by lia⟩, ⟨by lia, by lia⟩⟩
  have hn1 := plen_nonneg parts
  refine call_sum_start W.in4_1 (W.frame 0 _ _ _ hst (by show t5 ≤ _; lia) (fun b _ o e => e)) hfp hv ⟨by lia, by lia⟩ hfit fun s' t' hm => ?_
  rw [plen_take parts _ (Nat.le_refl _), List.take_length]
  have F6 := fr_moved F5 hwr hltL hm.heap
  have N6 := news_moved N5 hwr hlt hm.heap
  have G6 := hbare _ hm.gens
  have o6 := hm.os
  obtain ⟨h6, g6, d6, t6, os6⟩ := s'
  (walk1)
  exact hQ _ _ _ ⟨_, _, rfl, hT', rfl⟩ (by assumption) (by assumption) G6 (o6.trans hos)
end
section
open PySem PySem.W PySem.Calls PyProof.Rows
theorem es178 (P : Params) : ∃ t, nsIn (hd.heap_39 P) mainGlobals "EMPTYSTRING" = some (some (.str "" t)) := ⟨_, rfl⟩
def ptext (q : Part) : Str := Txt.join "" [q.f, q.p]
theorem elt_str (P : Params) {prog : Program} {w : World} {A : Around} {E : Value → Shared → Prop} {s : Shared} {C : Addr} {code : Value} {h₀ : Heap} {m mg mb : Str → Option Value} {p : Program} {loose : List Str} {mean : ExcName → Option Value} {scope : Scope} {env : Env} {p1 p2 p3 p4 p5 p6 : Pos} {kt : Nat} {f q : Str} {t1 t2 : Tok}
    (hA : A.handled = none) (F : ∀ b o, h₀.get? b = some o → s.heap.get? b = some o) (X : (hd.heap_39 P).In h₀) (T : Top p loose mean mg mb h₀) (hn : s.heap.Ns C m) (h1 : m "fws" = some (.str f t1)) (h2 : m "part" = some (.str q t2))
    (hg : env.globals = mainGlobals) (hk : scope.kind = .function) (hx : (genEnv scope [] C code builtinsNs env).kindOf "EMPTYSTRING" = some .globalImplicit) (hx1 : (genEnv scope [] C code builtinsNs env).kindOf "fws" = some .local) (hx2 : (genEnv scope [] C code builtinsNs env).kindOf "part" = some .local)
    (hf : f.length < 1000) (hq : q.length < 1000) (hline : (p2.endLine == p6.line) = true) :
    wpAny (model prog w) A (eval (.Call (.Attribute (.Name "EMPTYSTRING" p1) "join" p2) [.Tuple [.Name "fws" p3, .Name "part" p4] kt p5] [] p6) (genEnv scope [] C code builtinsNs env)) (fun y s₃ => (∃ t, y = .str (Txt.join "" [f, q]) t) ∧ Keeps s s₃) E s := by
  obtain ⟨te, hte⟩ := es178 P
  refine Call_method1 (by rfl) (by rfl) hline (gnK F X T hte ?_ hg hk hx (by rfl))
  refine ⟨"str", "str.join", PySem.F.plainAttrs_str, PySem.F.slot_str_join, PySem.F.type_str_join, typeIs_str _ _ _, (fun _ e => nomatch e), ?_⟩
  refine Calls.callWith_builtin (by rfl) (Calls.evalArgs_plain (Calls.spliced_cons ?_))
  refine PySem.wpAny_Tuple (args_cons (gnL hn h1 (args_cons (gnL hn h2 (args_nil ⟨by size_fits, Calls.spliced_nil ?_⟩) hk hx2 (by rfl)) (by rfl)) hk hx1 (by rfl)) (by rfl))
  obtain ⟨h, g, d, t, os⟩ := s
  refine join_tupleC (ys := [f, q]) ⟨_, Heap.get?_push_size _ rfl, rfl, _, rfl⟩ (.cons _ _ (.cons _ _ .nil)) (by decide) (by simp; lia) fun t' k => ?_
  exact ⟨⟨_, rfl⟩, _, _, rfl, fun b o e => Heap.get?_push_of_some _ e⟩

def atext (parts : List Part) : Str := Txt.join "" (parts.map ptext)
theorem txt_join (sep : Str) (l : List Str) : Txt.join sep l = Str.join sep l := eq_of_beq (join_plain_closes sep l)
theorem ptext_le (q : Part) : (ptext q).length ≤ q.f.length + q.p.length := by
  unfold ptext
  rw [txt_join]
  have := StrLaws.join_length_le "" [q.f, q.p]
  have e : ("" : Str).length = 0 := rfl
  simp only [List.map_cons, List.map_nil, List.sum_cons, List.sum_nil, e] at this
  lia
theorem weight_le (parts : List Part) : ((((parts.map ptext).map (·.length)).sum : Nat) : Int) ≤ plen parts := by
  induction parts with
  | nil => simp [plen]
  | cons q r ih =>
    simp only [plen, List.map_cons, List.sum_cons] at *
    have := ptext_le q
    push_cast
    lia
theorem str_does (P : Params) {x dx tb : Addr} {parts : List Part} {cap : Nat} {od : Obj} {ps : Array Value} {pre rest : List (Addr × Obj)} (hx : (x, accObj dx (parts.map Part.val) cap) ∈ pre ++ rest) (hdx : (dx, od) ∈ pre ++ rest) (hparts : ∀ q ∈ parts, (q.T, q.obj) ∈ pre ++ rest) (hT : TabIs (hd.heap_39 P) 151 tb ps)
    (h1 : ∀ q ∈ pre, q.1 ≠ tb) (h2 : ∀ q ∈ rest, q.1 ≠ tb) (hnp : plen parts < 1000) (hnl : parts.length < 1000) :
    Does P 3 152 [.ref x] (pre ++ (tb, tabObj ps) :: rest) (fun r news' _ => ∃ t ps', r = .str (atext parts) t ∧ TabIs (hd.heap_39 P) 151 tb ps' ∧ news' = pre ++ (tb, tabObj ps') :: rest) := by
  intro w dp un gd cn cs L a ccd cl outer A₀ base h₀ m mg mb s Q E p loose mean B F X N T hk G hroom hunits hQ
  have sub : ∀ p ∈ pre ++ rest, ∀ ps' : Array Value, p ∈ pre ++ (tb, tabObj ps') :: rest := fun p hp ps' => by
    rcases List.mem_append.mp hp with h | h
    · exact List.mem_append.mpr (.inl h)
    · exact List.mem_append.mpr (.inr (List.mem_cons_of_mem _ h))
  obtain ⟨h, g, d, t, os⟩ := s
  refine wpAny_call ?_
  k_dflt cell_enter
  rename_i g' L' h' FG' F' N' B' X' T'
  (iterate 8 (walk1))
  refine gen_acc (P := P) (p := p) (mg := mg) (mb := mb) (loose := loose) (mean := mean) (h₀ := g') F' X' T' N' (sub _ hx ps) (sub _ hdx ps) (fun q hq => sub _ (hparts q hq) ps) (List.mem_append.mpr (.inr (.head _))) hT G (by rfl) (by rfl) (by rfl) (by rfl) (by rfl) (by rfl) (by decide) (by rfl) (by rfl) (by rfl) (by decide) (by rfl) ?_
    (fun C code A' E' q s₂ m₂ hA' hq hn ha hb hk' => elt_str P hA' hk' X' T' hn ha hb (by rfl) (by rfl) (by rfl) (by rfl) (by rfl) ?_ ?_ (by rfl)) ?_ (fun y => by rfl)
  · show dp + 1 < recursionLimit
    lia
  · have := plen_mem hq
    lia
  · have := plen_mem hq
    lia
  intro ga s₅ fp wr GG St ps' W hst hfp hwr hbare G₅ hos hT' htb hk₅ hga hgt hgm
  have htm : (tb, tabObj ps) ∈ pre ++ (tb, tabObj ps) :: rest := List.mem_append.mpr (.inr (.head _))
  have F5 := fr_tab F' (N' _ htm).2.1 (N' _ htm).2.2 hk₅
  have N5 := news_tab N' h1 h2 hk₅ htb
  have hltL := F'.ns.lt
  have hlt : ∀ p ∈ pre ++ (tb, tabObj ps') :: rest, p.1 < h'.objs.size := fun p hp => by
    rcases List.mem_append.mp hp with hp | hp
    · exact Heap.lt_size (N' p (List.mem_append.mpr (.inl hp))).1
    · rcases List.mem_cons.mp hp with rfl | hp
      · exact Heap.lt_size (N' _ htm).1
      · exact Heap.lt_size (N' p (List.mem_append.mpr (.inr (List.mem_cons_of_mem _ hp)))).1
  clear F' N'
  obtain ⟨h5, g5, d5, t5, os5⟩ := s₅
  (walk1)
  refine SC.joinGen W.in4_2 hgt (W.frame 0 _ _ _ hst (by show t5 ≤ _; lia) (fun b _ o e => e)) hfp hgm ?_ ?_ ?_
  · rintro i v ⟨q, hq, t, rfl⟩
    exact ⟨_, _, rfl⟩
  · intro s' lt hm hacc
    have hl : lt.map (·.1) = parts.map ptext := by
      apply List.ext_getElem?
      intro j
      have hsz : lt.length = parts.length := by simpa [strValues] using hacc.1
      by_cases hj : j < parts.length
      · have hj' : j < lt.length := hsz ▸ hj
        obtain ⟨q, hq, u, hv⟩ := hacc.2 j (.str lt[j].1 lt[j].2) (by simp [strValues, List.getElem?_eq_getElem hj'])
        injection hv with h1 _
        simp [List.getElem?_eq_getElem hj', hq, h1, ptext]
      · rw [List.getElem?_eq_none (by simpa [hsz] using Nat.le_of_not_lt hj), List.getElem?_eq_none (by simpa using Nat.le_of_not_lt hj)]
    rw [hl]
    have F6 := fr_moved F5 hwr hltL hm.heap
    have N6 := news_moved N5 hwr hlt hm.heap
    have G6 := hbare _ hm.gens
    have o6 := hm.os
    obtain ⟨h6, g6, d6, t6, os6⟩ := s'
    refine ⟨?_, fun t' k => ?_⟩
    · have := weight_le parts
      exact joinOk_of_weight (by rw [List.length_map]; lia) (by decide)
    · k_steps -- 1 goals UW
      exact hQ _ _ _ ⟨_, _, rfl, hT', rfl⟩ (by assumption) (by assumption) G6 (o6.trans hos)
  · rw [sizeLine_eq]; lia
end
section
open PySem PySem.W PySem.Calls PyProof.Rows
local macro_rules | `(tactic| k_inst) => `(tactic| exact InstAt.of_acc (by assumption) (by k_mem) (by k_mem))
local macro_rules | `(tactic| ks_enter) => `(tactic| (refine' ks_code_super ?k1 ?k2 ?k3 ?k4 ?k5 ?kA ?kF ?kK ?k6 ?k7 ?k8 ?k9 ?kB ?_ ?c1 ?c2 ?c3 ?c4; (case kA => exact rfl); (case kF => exact rfl); (case kK => assumption); (case k1 => k_asm); (case k2 => k_asm); (case k3 => k_asm); (case k4 => k_asm); (case k5 => k_asm); (case k6 => k_is); (case k7 => k_is); (case k8 => first | (show _ < recursionLimit; (try dsimp only); lia) | (rw [depth_under_make]; (try dsimp only); lia)); (case k9 => first | exact BindsTo.of_eq rfl | exact binds_K (by k_in) rfl (by k_is) rfl rfl rfl); (case kB => exact locs rfl); (case c1 => decide); (case c2 => exact rfl); (case c3 => exact rfl); (case c4 => exact rfl); intro g' L' h' FG' F' N' B' X' T' l1; (try k_lt l1); (try dsimp only); (try k_lift B')))
section
open PySem PySem.W PySem.Calls PyProof.Rows
structure AS where
  x : Addr
  dx : Addr
  cap : Nat
  kk : Nat
  hs : Int
  tk : Tok
  tn : Tok
  n : Int
  parts : List Part
  ps : Array Value
  ps' : Array Value
abbrev AS.obj (a : AS) : Obj := accObj a.dx (a.parts.map Part.val) a.cap
abbrev AS.dict (a : AS) : Obj := accD a.hs a.tk a.n a.tn a.kk
abbrev AS.led (a : AS) (rest : List (Addr × Obj)) : List (Addr × Obj) := (a.x, a.obj) :: (a.dx, a.dict) :: (140, tabObj a.ps) :: (147, tabObj a.ps') :: rest
structure AS.Ok (P : Params) (a : AS) (rest : List (Addr × Obj)) : Prop where
  t1 : TabIs (hd.heap_39 P) 144 140 a.ps
  t2 : TabIs (hd.heap_39 P) 151 147 a.ps'
  mem : ∀ q ∈ a.parts, (q.T, q.obj) ∈ rest
  sep : ∀ q ∈ rest, q.1 ≠ a.x ∧ q.1 ≠ a.dx ∧ q.1 ≠ 140 ∧ q.1 ≠ 147
  d1 : a.x ≠ a.dx ∧ a.x ≠ 140 ∧ a.x ≠ 147 ∧ a.dx ≠ 140 ∧ a.dx ≠ 147
  n0 : 0 ≤ a.n
  small : a.n + plen a.parts < 1000
  few : a.parts.length < 1000

theorem news_sub {h₀ h : Heap} {L : Addr} {news news' : List (Addr × Obj)} (N : News h₀ L h news') (hs : ∀ p ∈ news, p ∈ news') : News h₀ L h news := fun p hp => N p (hs p hp)


theorem part_count_does (P : Params) {a : AS} {rest : List (Addr × Obj)} (O : a.Ok P rest) :
    Does P 3 175 [.ref a.x] (a.led rest) (fun r news' _ => ∃ t, r = .int (a.parts.length : Int) t ∧ news' = a.led rest) := by
  intro w dp un gd cn cs L ad ccd cl outer A₀ base h₀ m mg mb s Q E p loose mean B F X N T hk G hroom hunits hQ
  obtain ⟨h, g, d, t, os⟩ := s
  refine wpAny_call ?_
  ks_enter
  (iterate 4 (walk1))
  refine' super_wrap (P := P) (i := "list.__len__") ?k1 ?k2 ?k3 ?k4 ?k5 ?k6 ?k7 ?k8 ?k9 ?k10 ?_
  case k1 => k_asm
  case k2 => k_asm
  case k3 => k_asm
  case k4 => k_mem
  case k5 => k_mem
  case k6 => k_mem
  case k7 => kernel_rfl
  case k8 => kernel_rfl
  case k9 => decide +kernel
  case k10 => decide +kernel
  intro q' h1 F1 N1 l1
  refine callWith_B0 (PP := fun _ => True) (.inr rfl) N1 (.head _) ?_
  refine super_len F1 N1 (.head _) (by k_mem) ?_
  (walk1)
  rw [show ((a.parts.map Part.val).length : Int) = a.parts.length from by rw [List.length_map]]
  exact hQ _ _ _ ⟨_, rfl, rfl⟩ (by assumption) (news_sub (by assumption) fun p hp => List.mem_cons_of_mem _ (List.mem_cons_of_mem _ hp)) G rfl
end
section
open PySem PySem.W PySem.Calls PyProof.Rows
theorem plen_append (a b : List Part) : plen (a ++ b) = plen a + plen b := by simp only [plen, List.map_append, List.sum_append]
theorem plen_one (q : Part) : plen [q] = (q.f.length : Int) + q.p.length := by simp only [plen, List.map_cons, List.map_nil, List.sum_cons, List.sum_nil, Int.add_zero]

theorem AS.Ok.push {P : Params} {a : AS} {rest : List (Addr × Obj)} (O : a.Ok P rest) (q : Part) (hT : ∀ p ∈ a.led rest, p.1 < q.T) (c : Nat) (hs : a.n + plen a.parts + (q.f.length + q.p.length) < 1000) (hf : a.parts.length + 1 < 1000) :
    ({ a with parts := a.parts ++ [q], cap := c } : AS).Ok P ((q.T, q.obj) :: rest) where
  t1 := O.t1
  t2 := O.t2
  mem := fun p hp => by
    rcases List.mem_append.mp hp with h | h
    · exact List.mem_cons_of_mem _ (O.mem p h)
    · rw [List.mem_singleton.mp h]; exact .head _
  sep := fun p hp => by
    rcases List.mem_cons.mp hp with rfl | h
    · exact ⟨Ne.symm (Nat.ne_of_lt (hT _ (.head _))), Ne.symm (Nat.ne_of_lt (hT _ (.tail _ (.head _)))), Ne.symm (Nat.ne_of_lt (hT _ (.tail _ (.tail _ (.head _))))), Ne.symm (Nat.ne_of_lt (hT _ (.tail _ (.tail _ (.tail _ (.head _))))))⟩
    · exact O.sep p h
  d1 := O.d1
  n0 := O.n0
  small := by
    show a.n + plen (a.parts ++ [q]) < 1000
    rw [plen_append, plen_one]; lia
  few := by
    show (a.parts ++ [q]).length < 1000
    rw [List.length_append]; exact hf

theorem AS.Ok.updX {P : Params} {a : AS} {rest : List (Addr × Obj)} (O : a.Ok P rest) (o' : Obj) : Upd a.x a.obj o' (a.led rest) ((a.x, o') :: (a.dx, a.dict) :: (140, tabObj a.ps) :: (147, tabObj a.ps') :: rest) :=
  .head fun p hp => by
    rcases List.mem_cons.mp hp with rfl | hp
    · exact Ne.symm O.d1.1
    rcases List.mem_cons.mp hp with rfl | hp
    · exact Ne.symm O.d1.2.1
    rcases List.mem_cons.mp hp with rfl | hp
    · exact Ne.symm O.d1.2.2.1
    · exact (O.sep p hp).1
theorem AS.Ok.updD {P : Params} {a : AS} {rest : List (Addr × Obj)} (O : a.Ok P rest) (o' : Obj) : Upd a.dx a.dict o' (a.led rest) ((a.x, a.obj) :: (a.dx, o') :: (140, tabObj a.ps) :: (147, tabObj a.ps') :: rest) :=
  .tail O.d1.1 (.head fun p hp => by
    rcases List.mem_cons.mp hp with rfl | hp
    · exact Ne.symm O.d1.2.2.2.1
    rcases List.mem_cons.mp hp with rfl | hp
    · exact Ne.symm O.d1.2.2.2.2
    · exact (O.sep p hp).2.1)

set_option hygiene false in
local macro_rules | `(tactic| walk_at "getMethod ref") => `(tactic| ((first | refine' getMethod_append ?k1 ?k2 ?k3 ?k4 ?k5 ?k6 ?_); walk_at "gm tail"))
theorem led_front {a : AS} {q : Addr × Obj} {rest : List (Addr × Obj)} : ∀ p ∈ a.led (q :: rest), p ∈ q :: a.led rest := fun p hp => by
  rcases List.mem_cons.mp hp with rfl | hp
  · exact .tail _ (.head _)
  rcases List.mem_cons.mp hp with rfl | hp
  · exact .tail _ (.tail _ (.head _))
  rcases List.mem_cons.mp hp with rfl | hp
  · exact .tail _ (.tail _ (.tail _ (.head _)))
  rcases List.mem_cons.mp hp with rfl | hp
  · exact .tail _ (.tail _ (.tail _ (.tail _ (.head _))))
  rcases List.mem_cons.mp hp with rfl | hp
  · exact .head _
  · exact .tail _ (.tail _ (.tail _ (.tail _ (.tail _ hp))))
theorem allLt_get {d : Addr} {l : List (Addr × Obj)} (h : AllLt d l) : ∀ p ∈ l, p.1 < d := by
  induction l with
  | nil => intro p hp; cases hp
  | cons q r ih =>
    intro p hp
    rcases List.mem_cons.mp hp with e | hp
    · rw [e]; exact h.1
    · exact ih h.2 p hp
theorem led_lt {a : AS} {rest : List (Addr × Obj)} {D : Addr} (h : a.x < D ∧ a.dx < D ∧ 140 < D ∧ 147 < D ∧ AllLt D rest) : ∀ p ∈ a.led rest, p.1 < D := fun p hp => by
  obtain ⟨h1, h2, h3, h4, h5⟩ := h
  rcases List.mem_cons.mp hp with rfl | hp
  · exact h1
  rcases List.mem_cons.mp hp with rfl | hp
  · exact h2
  rcases List.mem_cons.mp hp with rfl | hp
  · exact h3
  rcases List.mem_cons.mp hp with rfl | hp
  · exact h4
  · exact allLt_get h5 p hp

inductive PushR (a : AS) (rest : List (Addr × Obj)) (f p : Str) (t1 t2 : Tok) (r : Value) (news' : List (Addr × Obj)) : Prop
  | mk (T : Addr) (q1 : r = .none) (q2 : ∀ p ∈ a.led rest, p.1 < T) (q3 : news' = ({ a with parts := a.parts ++ [⟨T, f, t1, p, t2⟩], cap := a.cap + 1 } : AS).led ((T, Part.obj ⟨T, f, t1, p, t2⟩) :: rest)) : PushR a rest f p t1 t2 r news'
theorem push_doesC (P : Params) {a : AS} {rest : List (Addr × Obj)} (O : a.Ok P rest) (f p : Str) (t1 t2 : Tok) (hs : a.n + plen a.parts + (f.length + p.length) < 1000) (hf : a.parts.length + 1 < 1000) :
    ∀ ⦃w : World⦄ ⦃dp un : Nat⦄ ⦃gd : Option (List Code)⦄ ⦃cn : Str⦄ ⦃cs : Scope⦄ ⦃L ad : Addr⦄ ⦃ccd : Value⦄ ⦃cl : List (Str × Addr)⦄ ⦃outer : List Env⦄ ⦃A₀ : Around⦄ ⦃base h₀ : Heap⦄ ⦃m mg mb : Str → Option Value⦄ ⦃s : Shared⦄ ⦃Q E : Value → Shared → Prop⦄ ⦃pp : Program⦄ ⦃loose : List Str⦄ ⦃mean : ExcName → Option Value⦄,
      Below A₀ base outer h₀ → Fr h₀ L s.heap m → (hd.heap_39 P).In h₀ → News h₀ L s.heap (a.led rest) → Top pp loose mean mg mb h₀ → cs.kind = .function → AllBare s.gens → dp + 3 < recursionLimit → un + 20 * 3 < cLine →
      (∀ r news' s', (PushR a rest f p t1 t2 r news') → Fr h₀ L s'.heap m → News h₀ L s'.heap news' → AllBare s'.gens → s'.os = s.os → Q r s') →
      codeAny (model PySem.Challenge.pw_re0158_01 w) (ktrTop dp un gd cn cs L ad ccd cl outer) (.call (.ref 122) ⟨[.ref a.x, .str f t1, .str p t2], []⟩) (fun r s' => match r with | .ok (.ret v) => Q v s' | .ok _ => False | .error e => E e s') s := by
  intro w dp un gd cn cs L ad ccd cl outer A₀ base h₀ m mg mb s Q E pp loose mean B F X N T hk G hroom hunits hQ
  obtain ⟨h, g, d, t, os⟩ := s
  k_dflt cell_enter
  rename_i g' L' h' FG' F' N' B' X' T'
  (iterate 16 (walk1))
  rename_i D h1 F1 N1 l1
  have O1 := O.updX (accObj a.dx (a.parts.map Part.val ++ [.ref D]) (a.cap + 1))
  refine acc_append (P := P) F1 X' N1 (.tail _ (.tail _ (.head _))) (.tail (Ne.symm (Nat.ne_of_lt (l1.1))) O1) ?_ (by rw [List.length_map]; lia)
  intro h2 F2 N2
  k_steps -- 1 goals UWWW
  rename_i F3 N3 T3 X3
  have e := led_front (a := { a with parts := a.parts ++ [⟨D, f, t1, p, t2⟩], cap := a.cap + 1 }) (q := (D, Part.obj ⟨D, f, t1, p, t2⟩)) (rest := rest)
  refine hQ _ _ _ ⟨D, rfl, led_lt l1, rfl⟩ F3 (news_sub N3 ?_) G rfl
  intro p' hp'
  have := e p' hp'
  simp only [AS.led, AS.obj, List.map_append, List.map_cons, List.map_nil] at this
  exact this
theorem push_does (P : Params) {a : AS} {rest : List (Addr × Obj)} (O : a.Ok P rest) (f p : Str) (t1 t2 : Tok) (hs : a.n + plen a.parts + (f.length + p.length) < 1000) (hf : a.parts.length + 1 < 1000) :
    Does P 3 122 [.ref a.x, .str f t1, .str p t2] (a.led rest) (fun r news' _ => PushR a rest f p t1 t2 r news') := by
  intro w dp un gd cn cs L ad ccd cl outer A₀ base h₀ m mg mb s Q E pp loose mean B F X N T hk G hroom hunits hQ
  exact wpAny_call (push_doesC P O f p t1 t2 hs hf B F X N T hk G hroom hunits hQ)
end
section
open PySem PySem.W PySem.Calls PyProof.Rows
local macro_rules | `(tactic| cell_enter) => `(tactic| walk_at "my enter")
inductive PopFromR (a : AS) (rest : List (Addr × Obj)) (A : List Part) (q : Part) (r : Value) (news' : List (Addr × Obj)) : Prop
  | mk (l : Addr) (c n : Nat) (q1 : r = .ref l) (q2 : (∀ p ∈ a.led rest, p.1 < l)) (q3 : news' = ({ a with parts := A, cap := c } : AS).led ((l, listOf [Value.ref q.T].toArray n) :: rest)) : PopFromR a rest A q r news'
theorem pop_from_does (P : Params) {a : AS} {rest : List (Addr × Obj)} (O : a.Ok P rest) (A : List Part) (q : Part) (e : a.parts = A ++ [q]) (ti : Tok) :
    Does P 3 130 [.ref a.x, .int (A.length : Int) ti] (a.led rest) (fun r news' _ => PopFromR a rest A q r news') := by
  intro w dp un gd cn cs L ad ccd cl outer A₀ base h₀ m mg mb s Q E pp loose mean B F X N T hk G hroom hunits hQ
  obtain ⟨h, g, d, t, os⟩ := s
  refine wpAny_call ?_
  k_dflt cell_enter
  rename_i g' L' h' FG' F' N' B' X' T'
  (iterate 10 (walk1))
  have hlen : (a.parts.map Part.val).length = A.length + 1 := by rw [e, List.map_append, List.length_append, List.length_map]; rfl
  have hfew := O.few
  have hbnd : sliceBounds (some (A.length : Int)) none none (a.parts.map Part.val).length = ((A.length : Int), (((A.length + 1 : Nat) : Nat) : Int), 1) := by
    rw [hlen]
    unfold sliceBounds
    simp
    lia
  refine acc_slice (P := P) (s := { heap := h', gens := g, drawn := d, toks := _, os := os }) (vl := .int A.length ti) (vu := .none) (lo := some (A.length : Int)) (hi := none) (a := A.length) (b' := A.length + 1) F' X' N' (.head _) (.tail _ (.head _)) (.int _ _) .none hbnd (by rw [List.length_map]; lia) ?_ (by rfl)
  rw [show (a.parts.map Part.val).drop A.length = [.ref q.T] from by rw [e, List.map_append]; exact List.drop_left' (by rw [List.length_map]), show A.length + 1 - A.length = 1 from by lia]
  intro D h1 F1 N1 l1
  clear F' N'
  (iterate 12 (walk1))
  rename_i hA l2 h3 F3 N3 l3
  have hx2 : a.x ≠ l2 := Nat.ne_of_lt l3.2.1
  have hxD : a.x ≠ D := Nat.ne_of_lt (l1 _ (.head _))
  refine acc_setslice (P := P) (its := a.parts.map Part.val) (new := []) (vl := .int A.length ti) (vu := .none) (lo := some (A.length : Int)) (hi := none) (a := A.length) (b' := A.length + 1) (F3.push _) X' (N3.grown fun _ _ e => Heap.get?_push_of_some _ e) (.tail _ (.tail _ (.tail _ (.head _)))) (Heap.get?_push_size _ rfl) (Heap.get?_push_of_some _ (N3 _ (.head _)).1) (.int _ _) .none hbnd hx2 (by rw [List.length_map]; lia) (by decide) (.tail (Ne.symm hx2) (.tail (Ne.symm hxD) (O.updX _))) ?_
  rw [show (a.parts.map Part.val).take A.length ++ [] ++ (a.parts.map Part.val).drop (max A.length (A.length + 1)) = A.map Part.val from by
    rw [List.append_nil, Nat.max_eq_right (by lia), List.drop_eq_nil_of_le (by rw [hlen]; exact Nat.le_refl _), List.append_nil, e, List.map_append]
    exact List.take_left' (by rw [List.length_map])]
  generalize (if (A.map Part.val).length == (a.parts.map Part.val).length then a.cap else a.cap + 1) = c
  intro h4 F4 N4
  clear F3 N3
  k_steps -- 1 goals WWWWW
  rename_i F5 N5 T5 X5
  refine hQ _ _ _ ⟨D, c, 0, rfl, l1, rfl⟩ F5 (news_sub N5 ?_) G rfl
  intro p' hp'
  exact .tail _ (led_front (a := { a with parts := A, cap := c }) p' hp')
theorem bounds_whole (n : Nat) : sliceBounds none none none n = (((0 : Nat) : Int), (n : Int), 1) := by
  unfold sliceBounds
  simp
theorem AS.Ok.updD2 {P : Params} {a : AS} {rest : List (Addr × Obj)} (O : a.Ok P rest) (o o' : Obj) : Upd a.dx a.dict o' ((a.x, o) :: (a.dx, a.dict) :: (140, tabObj a.ps) :: (147, tabObj a.ps') :: rest) ((a.x, o) :: (a.dx, o') :: (140, tabObj a.ps) :: (147, tabObj a.ps') :: rest) :=
  .tail O.d1.1 (.head fun p hp => by
    rcases List.mem_cons.mp hp with rfl | hp
    · exact Ne.symm O.d1.2.2.2.1
    rcases List.mem_cons.mp hp with rfl | hp
    · exact Ne.symm O.d1.2.2.2.2
    · exact (O.sep p hp).2.1)
theorem tk178 (P : Params) : takerIn (hd.heap_39 P) 178 "_initial_size" = some none := taker178 P
inductive ResetR (a : AS) (rest : List (Addr × Obj)) (q : Part) (r : Value) (news' : List (Addr × Obj)) : Prop
  | mk (c : Nat) (hs : Int) (tk tn : Tok) (kk : Nat) (q1 : r = .none) (q2 : news' = ({ a with parts := [q], n := 0, cap := c, hs := hs, tk := tk, tn := tn, kk := kk } : AS).led rest) : ResetR a rest q r news'
theorem reset_does (P : Params) {a : AS} {rest : List (Addr × Obj)} (O : a.Ok P rest) (l : Addr) (q : Part) (n : Nat) (hl : (l, listOf [Value.ref q.T].toArray n) ∈ rest) :
    Does P 3 160 [.ref a.x, .ref l] (a.led rest) (fun r news' _ => ResetR a rest q r news') := by
  intro w dp un gd cn cs L ad ccd cl outer A₀ base h₀ m mg mb s Q E pp loose mean B F X N T hk G hroom hunits hQ
  obtain ⟨h, g, d, t, os⟩ := s
  refine wpAny_call ?_
  k_dflt cell_enter
  rename_i g' L' h' FG' F' N' B' X' T'
  have hlx : a.x ≠ l := Ne.symm (O.sep _ hl).1
  have hfew := O.few
  (iterate 18 (walk1))
  refine acc_setslice (P := P) (its := a.parts.map Part.val) (new := [.ref q.T]) (vl := .none) (vu := .none) (lo := none) (hi := none) (a := 0) (b' := (a.parts.map Part.val).length) (F'.push _) X' (N'.grown fun _ _ e => Heap.get?_push_of_some _ e) (.tail _ (.head _)) (Heap.get?_push_size _ rfl) (Heap.get?_push_of_some _ (N' _ (.tail _ (.tail _ (.tail _ (.tail _ hl))))).1) .none .none (bounds_whole _) hlx (by rw [List.length_map]; lia) (by simp) (O.updX _) ?_
  rw [show (a.parts.map Part.val).take 0 ++ [.ref q.T] ++ (a.parts.map Part.val).drop (max 0 (a.parts.map Part.val).length) = [q].map Part.val from by
    rw [List.take_zero, Nat.max_eq_right (by lia), List.drop_length]; rfl]
  generalize (if ([q].map Part.val).length == (a.parts.map Part.val).length then a.cap else a.cap + 1) = c
  intro h4 F4 N4
  clear F' N'
  (iterate 4 (walk1))
  refine setAttr_acc (P := P) (es' := [⟨a.hs, .str "_initial_size" a.tk, .int 0 _⟩]) F4 X' N4 (.head _) (taker178 P) (by rfl) (by rfl) (O.updD2 _ _) (by simp) ?_
  intro h5 F5 N5
  clear F4 N4
  k_steps -- 1 goals UWW
  rename_i F6 N6 T6 X6
  exact hQ _ _ _ ⟨c, a.hs, a.tk, _, _, rfl, rfl⟩ F6 N6 G rfl
inductive Reset0R (a : AS) (rest : List (Addr × Obj)) (r : Value) (news' : List (Addr × Obj)) : Prop
  | mk (c : Nat) (hs : Int) (tk tn : Tok) (kk : Nat) (q1 : r = .none) (q2 : news' = ({ a with parts := [], n := 0, cap := c, hs := hs, tk := tk, tn := tn, kk := kk } : AS).led rest) : Reset0R a rest r news'
theorem reset0_does (P : Params) {a : AS} {rest : List (Addr × Obj)} (O : a.Ok P rest) :
    Does P 3 160 [.ref a.x] (a.led rest) (fun r news' _ => Reset0R a rest r news') := by
  intro w dp un gd cn cs L ad ccd cl outer A₀ base h₀ m mg mb s Q E pp loose mean B F X N T hk G hroom hunits hQ
  obtain ⟨h, g, d, t, os⟩ := s
  refine wpAny_call ?_
  k_dflt cell_enter
  rename_i g' L' h' FG' F' N' B' X' T'
  have hfew := O.few
  (iterate 25 (walk1))
  rename_i l h3 l3 h2 F3 N3
  have hlx : a.x ≠ l := Nat.ne_of_lt l3.1
  refine acc_setslice (P := P) (its := a.parts.map Part.val) (new := []) (vl := .none) (vu := .none) (lo := none) (hi := none) (a := 0) (b' := (a.parts.map Part.val).length) (F3.push _) X' (N3.grown fun _ _ e => Heap.get?_push_of_some _ e) (.tail _ (.tail _ (.head _))) (Heap.get?_push_size _ rfl) (Heap.get?_push_of_some _ (N3 _ (.head _)).1) .none .none (bounds_whole _) hlx (by rw [List.length_map]; lia) (by simp) (.tail (Ne.symm hlx) (O.updX _)) ?_
  rw [show (a.parts.map Part.val).take 0 ++ [] ++ (a.parts.map Part.val).drop (max 0 (a.parts.map Part.val).length) = ([] : List Part).map Part.val from by
    rw [List.take_zero, Nat.max_eq_right (by lia), List.drop_length]; rfl]
  generalize (if (([] : List Part).map Part.val).length == (a.parts.map Part.val).length then a.cap else a.cap + 1) = c
  intro h4 F4 N4
  clear F3 N3
  (iterate 4 (walk1))
  refine setAttr_acc (P := P) (es' := [⟨a.hs, .str "_initial_size" a.tk, .int 0 _⟩]) F4 X' N4 (.tail _ (.head _)) (taker178 P) (by rfl) (by rfl) (.tail (Ne.symm (Nat.ne_of_lt l3.2.1)) (O.updD2 _ _)) (by simp) ?_
  intro h5 F5 N5
  clear F4 N4
  k_steps -- 1 goals UWW
  rename_i F6 N6 T6 X6
  exact hQ _ _ _ ⟨c, a.hs, a.tk, _, _, rfl, rfl⟩ F6 (news_sub N6 fun p hp => .tail _ hp) G rfl
end
section
open PySem PySem.W PySem.Calls PyProof.Rows
local macro_rules | `(tactic| walk_at "wpAt") => `(tactic| (refine ks_wpAt_execs_cons ?_))
local macro_rules | `(tactic| walk_at "wpAt") => `(tactic| ((show PySem.wpAt _ _ _ (exec (Stmt.Return (some (Expr.Call (Expr.Attribute (Expr.Call _ [] [] _) _ _) [] [] _)) _) _) _ _ _); refine ks_wpAt_Return_some ?_))
local macro_rules | `(tactic| walk_at "wpAt") => `(tactic| ((show PySem.wpAt _ _ _ (eval (Expr.Call (Expr.Attribute (Expr.Call _ [] [] _) _ _) [] [] _) _) _ _ _); refine ks_wpAt_MethodCall ?_))
local macro_rules | `(tactic| walk_at "wpAt") => `(tactic| ((show PySem.wpAt _ _ _ (attributeBase (Expr.Call _ [] [] _) _ _ _) _ _ _); k_dflt (refine ks_node (by k_asm) (by k_asm) (by k_asm) (by k_asm) (by k_is) (by rfl) (by rfl) (by k_inst) (by k_is) (by rfl) (by first | rfl | decide +kernel) (by k_is) (by k_is) (by k_is) (by k_is) (by decide) (by rfl) (by rfl) (by rfl) (by rfl) (by decide +kernel) (by first | boot_by_name | rfl | kernel_rfl) ?_; intro so' h' F' N' l1; (try k_lt l1))))
theorem pop_does (P : Params) {a : AS} {rest : List (Addr × Obj)} (O : a.Ok P rest) (A : List Part) (q : Part) (e : a.parts = A ++ [q]) :
    Does P 6 138 [.ref a.x] (a.led rest) (fun r news' _ => r = .ref q.T ∧ news' = ({ a with parts := A, cap := a.cap + 1 } : AS).led rest) := by
  intro w dp un gd cn cs L ad ccd cl outer A₀ base h₀ m mg mb s Q E pp loose mean B F X N T hk G hroom hunits hQ
  obtain ⟨h, g, d, t, os⟩ := s
  refine wpAny_call ?_
  ks_enter
  rename_i g' L' h' FG' F' N' B' X' T' l1
  (iterate 6 (walk1))
  refine getMethod_own (P := P) F' X' N' (.head _) (.tail _ (.head _)) (f := 175) (by kernel_rfl) (by kernel_rfl) (by rfl) ?_
  (walk1)
  refine part_count_does P O B' F' X' N' T' (by rfl) G ?_ ?_ ?_
  · show dp + 1 + 3 < recursionLimit
    lia
  · show un + 3 + 20 * 3 < cLine
    lia
  rintro r news' s' ⟨t1, rfl, rfl⟩ F1 N1 G1 o1
  have hlen : (a.parts.length : Int) ≠ 0 := by rw [e, List.length_append]; simp; lia
  have hfew := O.few
  obtain ⟨h1, g1, d1, tk1, os1⟩ := s'
  clear F' N' G
  iterate 4 (first | walk1 | (dsimp only; walk1) | (leave1; try dsimp only))
  · exact absurd (by assumption) hlen
  iterate 3 (first | walk1 | (dsimp only; walk1) | (leave1; try dsimp only))
  dsimp only
  refine ks_wpAt_execs_cons (ks_wpAt_Return_some (ks_wpAt_MethodCall ?_))
  refine ks_node (by k_asm) (by k_asm) (by k_asm) (by k_asm) (by k_is) (by rfl) (by rfl) (by k_inst) (by k_is) (by rfl) (by first | rfl | decide +kernel) (by k_is) (by k_is) (by k_is) (by k_is) (by decide) (by rfl) (by rfl) (by rfl) (by rfl) (by decide +kernel) (by first | boot_by_name | rfl | kernel_rfl) ?_
  intro so h2 F2 N2 l2
  clear F1 N1
  refine super_meth (P := P) (i := "list.pop") F2 X' N2 (.head _) (.tail _ (.head _)) (.tail _ (.tail _ (.head _))) (by kernel_rfl) (by kernel_rfl) (by decide +kernel) (by decide +kernel) (by decide +kernel) ?_
  intro b h3 F3 N3 l3
  clear F2 N2
  skip
  refine callWith_B0 (PP := fun _ => True) (.inl rfl) N3 (.head _) ?_
  have eo : a.obj = accObj a.dx (A.map Part.val ++ [.ref q.T]) a.cap := by
    show accObj a.dx (a.parts.map Part.val) a.cap = _
    rw [e, List.map_append]; rfl
  have U0 := O.updX (accObj a.dx (A.map Part.val) (a.cap + 1))
  rw [eo] at U0
  have hxs : a.x ≠ so := Nat.ne_of_lt (l2 _ (.head _))
  have hxb : a.x ≠ b := Nat.ne_of_lt (l3 _ (.tail _ (.head _)))
  refine super_pop (P := P) F3 X' N3 (.head _) (.tail _ (.tail _ (.tail _ (.head _)))) (.tail (Ne.symm hxb) (.tail (Ne.symm hxs) U0)) ?_ (by rw [e, List.length_append] at hfew; rw [List.length_map]; lia)
  intro h4 F4 N4
  clear F3 N3
  (walk1)
  rename_i F5 N5 T5 X5
  exact hQ _ _ _ ⟨rfl, rfl⟩ F5 (news_sub N5 fun p hp => .tail _ (.tail _ hp)) G1 o1
end
section
open PySem PySem.W PySem.Calls PyProof.Rows
inductive AccR (news : List (Addr × Obj)) (n : Int) (tn : Tok) (r : Value) (news' : List (Addr × Obj)) : Prop
  | mk (x dx : Addr) (c : Nat) (hs : Int) (tk : Tok) (kk : Nat) (q1 : r = .ref x) (q2 : (∀ p ∈ news, p.1 < dx)) (q3 : dx < x) (q4 : news' = (x, accObj dx [] c) :: (dx, accD hs tk n tn kk) :: news) : AccR news n tn r news'
theorem acc_new (P : Params) {news : List (Addr × Obj)} (n : Int) (tn : Tok) :
    Does P 5 178 [.int n tn] news (fun r news' _ => AccR news n tn r news') := by
  intro w dp un gd cn cs L ad ccd cl outer A₀ base h₀ m mg mb s Q E pp loose mean B F X N T hk G hroom hunits hQ
  obtain ⟨h, g, d, t, os⟩ := s
  refine call_clsL (K := hd.heap_39 P) F X N (makes178 P) (fI := 115) (by kernel_rfl) (by kernel_rfl) ?_
  intro x dx h0 F0 N0 l0 ldx
  clear F N
  ks_enter
  rename_i g' L' h' FG' F' N' B' X' T' l1
  (iterate 5 (walk1))
  refine setAttr_acc (P := P) (its := []) (es := []) (k := 0) F' X' N' (.head _) (taker178 P) (by rfl) (by rfl) (.tail (Ne.symm (Nat.ne_of_lt ldx)) (.head fun p hp => Nat.ne_of_lt (l0 p hp))) (by simp [putL]) ?_
  intro h2 F2 N2
  dsimp only
  refine ks_wpAt_execs_cons (ks_wpAt_Expr_any (ks_wpAt_MethodCall ?_))
  refine ks_node (by k_asm) (by k_asm) (by k_asm) (by k_asm) (by k_is) (by rfl) (by rfl) (by k_inst) (by k_is) (by rfl) (by first | rfl | decide +kernel) (by k_is) (by k_is) (by k_is) (by k_is) (by decide) (by rfl) (by rfl) (by rfl) (by rfl) (by decide +kernel) (by first | boot_by_name | rfl | kernel_rfl) ?_
  intro so h3 F3 N3 l3
  clear F2 N2 F' N'
  refine super_wrap (P := P) (its := []) (i := "list.__init__") F3 X' N3 (.head _) (.tail _ (.head _)) (.tail _ (.tail _ (.head _))) (by kernel_rfl) (by kernel_rfl) (by decide +kernel) (by decide +kernel) ?_
  intro b h4 F4 N4 l4
  clear F3 N3
  skip
  refine callWith_B0 (PP := fun _ => True) (.inr rfl) N4 (.head _) ?_
  have hxs : x ≠ so := Nat.ne_of_lt (l3 _ (.head _))
  have hxb : x ≠ b := Nat.ne_of_lt (l4 _ (.tail _ (.head _)))
  refine super_init (P := P) F4 X' N4 (.head _) (.tail _ (.tail _ (.tail _ (.head _)))) (.tail (Ne.symm hxb) (.tail (Ne.symm hxs) (.head fun p hp => ?_))) ?_
  · rcases List.mem_cons.mp hp with rfl | hp
    · exact Nat.ne_of_lt ldx
    · exact Nat.ne_of_lt (Nat.lt_trans (l0 p hp) ldx)
  intro h5 F5 N5
  clear F4 N4
  (iterate 4 (walk1))
  rename_i F6 N6 T6 X6
  exact hQ _ _ _ ⟨x, dx, _, _, _, _, rfl, l0, ldx, rfl⟩ F6 (news_sub N6 fun p hp => .tail _ (.tail _ hp)) G rfl
theorem acc_new0 (P : Params) {news : List (Addr × Obj)} :
    Does P 5 178 [] news (fun r news' _ => ∃ x dx c hs tk tn kk, r = .ref x ∧ (∀ p ∈ news, p.1 < dx) ∧ dx < x ∧ news' = (x, accObj dx [] c) :: (dx, accD hs tk 0 tn kk) :: news) := by
  intro w dp un gd cn cs L ad ccd cl outer A₀ base h₀ m mg mb s Q E pp loose mean B F X N T hk G hroom hunits hQ
  obtain ⟨h, g, d, t, os⟩ := s
  refine call_clsL (K := hd.heap_39 P) F X N (makes178 P) (fI := 115) (by kernel_rfl) (by kernel_rfl) ?_
  intro x dx h0 F0 N0 l0 ldx
  clear F N
  ks_enter
  rename_i g' L' h' FG' F' N' B' X' T' l1
  (iterate 5 (walk1))
  refine setAttr_acc (P := P) (its := []) (es := []) (k := 0) F' X' N' (.head _) (taker178 P) (by rfl) (by rfl) (.tail (Ne.symm (Nat.ne_of_lt ldx)) (.head fun p hp => Nat.ne_of_lt (l0 p hp))) (by simp [putL]) ?_
  intro h2 F2 N2
  dsimp only
  refine ks_wpAt_execs_cons (ks_wpAt_Expr_any (ks_wpAt_MethodCall ?_))
  refine ks_node (by k_asm) (by k_asm) (by k_asm) (by k_asm) (by k_is) (by rfl) (by rfl) (by k_inst) (by k_is) (by rfl) (by first | rfl | decide +kernel) (by k_is) (by k_is) (by k_is) (by k_is) (by decide) (by rfl) (by rfl) (by rfl) (by rfl) (by decide +kernel) (by first | boot_by_name | rfl | kernel_rfl) ?_
  intro so h3 F3 N3 l3
  clear F2 N2 F' N'
  refine super_wrap (P := P) (its := []) (i := "list.__init__") F3 X' N3 (.head _) (.tail _ (.head _)) (.tail _ (.tail _ (.head _))) (by kernel_rfl) (by kernel_rfl) (by decide +kernel) (by decide +kernel) ?_
  intro b h4 F4 N4 l4
  clear F3 N3
  skip
  refine callWith_B0 (PP := fun _ => True) (.inr rfl) N4 (.head _) ?_
  have hxs : x ≠ so := Nat.ne_of_lt (l3 _ (.head _))
  have hxb : x ≠ b := Nat.ne_of_lt (l4 _ (.tail _ (.head _)))
  refine super_init (P := P) F4 X' N4 (.head _) (.tail _ (.tail _ (.tail _ (.head _)))) (.tail (Ne.symm hxb) (.tail (Ne.symm hxs) (.head fun p hp => ?_))) ?_
  · rcases List.mem_cons.mp hp with rfl | hp
    · exact Nat.ne_of_lt ldx
    · exact Nat.ne_of_lt (Nat.lt_trans (l0 p hp) ldx)
  intro h5 F5 N5
  clear F4 N4
  (iterate 4 (walk1))
  rename_i F6 N6 T6 X6
  exact hQ _ _ _ ⟨x, dx, _, _, _, _, _, rfl, l0, ldx, rfl⟩ F6 (news_sub N6 fun p hp => .tail _ (.tail _ hp)) G rfl
end
section
open PySem PySem.W PySem.Calls PyProof.Rows
theorem fn145 (P : Params) : isFn (hd.heap_39 P) (.ref 145) = true := by kernel_rfl
theorem fn152 (P : Params) : isFn (hd.heap_39 P) (.ref 152) = true := by kernel_rfl
section
variable {prog : Program} {w : World} {A : Around} {E : Value → Shared → Prop} {s : Shared} {P : Params} {x dx L : Addr} {h₀ : Heap} {m : Str → Option Value} {its : List Value} {n : Nat} {od : Option Obj}
theorem truthy_acc {ox : Obj} {Q : Bool → Shared → Prop} (F : Fr h₀ L s.heap m) (X₀ : (hd.heap_39 P).In h₀) (I : PySem.W.InstAt s.heap x ox 178 od)
    (h : wpAny (model prog w) A.in1 (call (.ref 145) [.ref x]) (PySem.W.LenBack fun v s' => ∃ n u, v = .int n u ∧ Q (n != 0) s') E s) : wpAny (model prog w) A (truthy (.ref x)) Q E s := by
  have X := X₀.keeps F.keep
  have key : wpAny (model prog w) A (runValue (.builtin "len" ⟨[.ref x], []⟩)) (fun v s' => ∃ n u, v = .int n u ∧ Q (n != 0) s') E s := by
    refine wpAny_runValue (codeAny_builtin entry_len ?_)
    rw [Around.under_plainId plain_len _]
    unfold Builtin.«len»
    refine wpAny_bind (m := oneArg "len" _) (wpAny_pure ?_)
    refine wpAny_bind (m := callSpecial? (.ref x) (Str.ofString "__len__")) (special_fn X I (le178 P) (beq_iff_eq.mp (fn145 P)) (wpAny_mono h (fun r s' hr => ?_) fun _ _ y => y))
    cases r <;> first | exact hr.elim | skip
    rename_i n u
    obtain ⟨⟨h0, h1⟩, hq⟩ := hr
    refine wpAny_bind (wpAny_holding (wpAny_pure ?_))
    refine wpAny_bind (wpAny_letGo ?_)
    show wpAny _ _ (if n < 0 then _ else _) _ _ _
    rw [if_neg (by lia)]
    show wpAny _ _ (if n ≥ 2 ^ 63 then _ else _) _ _ _
    rw [if_neg (by lia)]
    exact wpAny_bind (wpAny_mkInt (wpAny_pure hq))
  unfold truthy
  refine wpAny_bind (m := callSpecial? (.ref x) (Str.ofString "__bool__")) (wpAny_bind (wpAny_bind (I.type.here ((looks_findIn X (bo178 P)).here (wpAny_pure ?_)))))
  refine wpAny_bind (wpAny_bind (I.type.here ((looks_findIn X (le178 P)).here ?_)))
  refine wpAny_bind (wpAny_mono key (fun r s' h' => ?_) fun _ _ e => e)
  obtain ⟨n, u, rfl, hq⟩ := h'
  exact wpAny_pure hq
end
theorem does_mono {P : Params} {c : Nat} {f : Addr} {vs : List Value} {news : List (Addr × Obj)} {R R' : Value → List (Addr × Obj) → Heap → Prop} (D : Does P c f vs news R) (h : ∀ r n hp, R r n hp → R' r n hp) : Does P c f vs news R' := by
  intro w dp un gd cn cs L ad ccd cl outer A₀ base h₀ m mg mb s Q E pp loose mean B F X N T hk G hroom hunits hQ
  exact D B F X N T hk G hroom hunits fun r n s' hr => hQ r n s' (h _ _ _ hr)
inductive LenR (P : Params) (a : AS) (rest : List (Addr × Obj)) (r : Value) (news' : List (Addr × Obj)) : Prop
  | mk (t : Tok) (ps : Array Value) (q1 : r = .int (a.n + plen a.parts) t) (q2 : news' = ({ a with ps := ps } : AS).led rest) (q3 : ({ a with ps := ps } : AS).Ok P rest) : LenR P a rest r news'
theorem lenA (P : Params) {a : AS} {rest : List (Addr × Obj)} (O : a.Ok P rest) :
    Does P 3 145 [.ref a.x] (a.led rest) (fun r news' _ => LenR P a rest r news') := by
  intro w dp un gd cn cs L ad ccd cl outer A₀ base h₀ m mg mb s Q E pp loose mean B F X N T hk G hroom hunits hQ
  refine len_does P (pre := [(a.x, a.obj), (a.dx, a.dict)]) (rest := (147, tabObj a.ps') :: rest) (parts := a.parts) (tb := 140) (.head _) (.tail _ (.head _)) (fun q hq => .tail _ (.tail _ (.tail _ (O.mem q hq)))) O.t1
    (fun q hq => by
      rcases List.mem_cons.mp hq with rfl | hq
      · exact O.d1.2.1
      · rw [List.mem_singleton.mp hq]; exact O.d1.2.2.2.1)
    (fun q hq => by
      rcases List.mem_cons.mp hq with rfl | hq
      · exact (by decide : (147 : Nat) ≠ 140)
      · exact (O.sep q hq).2.2.1) O.n0 O.small B F X N T hk G hroom hunits fun r n s' hr => ?_
  obtain ⟨t, ps', rfl, hT, rfl⟩ := hr
  exact hQ _ _ _ ⟨t, ps', rfl, rfl, { O with t1 := hT }⟩
inductive StrR (P : Params) (a : AS) (rest : List (Addr × Obj)) (r : Value) (news' : List (Addr × Obj)) : Prop
  | mk (t : Tok) (ps : Array Value) (q1 : r = .str (atext a.parts) t) (q2 : news' = ({ a with ps' := ps } : AS).led rest) (q3 : ({ a with ps' := ps } : AS).Ok P rest) : StrR P a rest r news'
theorem strA (P : Params) {a : AS} {rest : List (Addr × Obj)} (O : a.Ok P rest) :
    Does P 3 152 [.ref a.x] (a.led rest) (fun r news' _ => StrR P a rest r news') := by
  intro w dp un gd cn cs L ad ccd cl outer A₀ base h₀ m mg mb s Q E pp loose mean B F X N T hk G hroom hunits hQ
  refine str_does P (pre := [(a.x, a.obj), (a.dx, a.dict), (140, tabObj a.ps)]) (rest := rest) (parts := a.parts) (tb := 147) (.head _) (.tail _ (.head _)) (fun q hq => .tail _ (.tail _ (.tail _ (O.mem q hq)))) O.t2
    (fun q hq => by
      rcases List.mem_cons.mp hq with rfl | hq
      · exact O.d1.2.2.1
      rcases List.mem_cons.mp hq with rfl | hq
      · exact O.d1.2.2.2.2
      · rw [List.mem_singleton.mp hq]; exact (by decide : (140 : Nat) ≠ 147))
    (fun q hq => (O.sep q hq).2.2.2) (by have := O.small; have := O.n0; lia) O.few B F X N T hk G hroom hunits fun r n s' hr => ?_
  obtain ⟨t, ps', rfl, hT, rfl⟩ := hr
  exact hQ _ _ _ ⟨t, ps', rfl, rfl, { O with t2 := hT }⟩
inductive OnlyR (P : Params) (a : AS) (rest : List (Addr × Obj)) (r : Value) (news' : List (Addr × Obj)) : Prop
  | mk (ps ps' : Array Value) (q1 : r = .bool false) (q2 : news' = ({ a with ps := ps, ps' := ps' } : AS).led rest) (q3 : ({ a with ps := ps, ps' := ps' } : AS).Ok P rest) : OnlyR P a rest r news'
theorem is_onlyws_does (P : Params) {a : AS} {rest : List (Addr × Obj)} (O : a.Ok P rest) (hp : 0 < plen a.parts ∨ 0 < a.n) (ht : Txt.isspace (atext a.parts) = false) :
    Does P 6 167 [.ref a.x] (a.led rest) (fun r news' _ => OnlyR P a rest r news') := by
  intro w dp un gd cn cs L ad ccd cl outer A₀ base h₀ m mg mb s Q E pp loose mean B F X N T hk G hroom hunits hQ
  obtain ⟨h, g, d, t, os⟩ := s
  refine wpAny_call ?_
  k_dflt cell_enter
  rename_i g' L' h' FG' F' N' B' X' T'
  have n0 := O.n0
  have p0 := plen_nonneg a.parts
  have sm := O.small
  (iterate 6 (walk1))
  refine getAttr_acc F' X' N' (.head _) (.tail _ (.head _)) (by kernel_rfl) (by rfl) (by rfl) ?_
  k_steps -- 2 goals WWWWWWWWWW
  · have hn : a.n = 0 := by assumption
    refine truthy_acc F' X' (InstAt.of_acc N' (.head _) (.tail _ (.head _))) ?_
    refine lenA P O B' F' X' N' T' (by rfl) G (by show dp + 1 + 3 < recursionLimit; lia) (by show _ + 60 < cLine; simp only [units_in1, units_deeper, Around.mark_units]; show un + _ + 60 < cLine; lia) ?_
    rintro r news' s' ⟨t1, ps1, rfl, rfl, O1⟩ F1 N1 G1 o1
    clear F' N' G
    refine ⟨⟨by lia, by lia⟩, _, _, rfl, ?_⟩
    rw [show (a.n + plen a.parts != 0) = true from by rw [bne_iff_ne]; lia]
    obtain ⟨h1, g1, d1, tk1, os1⟩ := s'
    (iterate 10 (walk1))
    refine kso_call (K := hd.heap_39 P) ?u (X'.keeps F1.keep) (InstAt.of_acc N1 (.head _) (.tail _ (.head _))) (st178 P) (fn152 P) ?_
    case u => simp only [units_in1, units_deeper, Around.mark_units]; show un + _ < cLine; lia
    refine strA P O1 B' F1 X' N1 T' (by rfl) G1 (by show dp + 1 + 3 < recursionLimit; lia) (by show _ + 60 < cLine; simp only [units_in1, units_deeper, Around.mark_units]; show un + _ + 60 < cLine; lia) ?_
    rintro r news' s' ⟨t2, ps2, rfl, rfl, O2⟩ F2 N2 G2 o2
    clear F1 N1 G1
    obtain ⟨h2, g2, d2, tk2, os2⟩ := s'
    dsimp only [PySem.W.StrBack]
    k_steps -- 1 goals UWWWW
    rw [ht]
    exact hQ _ _ _ ⟨_, _, rfl, rfl, O2⟩ (by assumption) (by assumption) G2 (o2.trans o1)
  · rename_i h1 F1 N1 T1 X1
    rw [show (a.n == 0) = false from by simp; assumption]
    exact hQ _ _ _ ⟨_, _, rfl, rfl, O⟩ (by assumption) (by assumption) G rfl
end
section
open PySem PySem.W PySem.Calls PyProof.Rows
theorem pop0_does (P : Params) {a : AS} {rest : List (Addr × Obj)} (O : a.Ok P rest) (e : a.parts = []) :
    Does P 6 138 [.ref a.x] (a.led rest) (fun r news' _ => ∃ D t1 t2, r = .ref D ∧ (∀ p ∈ a.led rest, p.1 < D) ∧ news' = a.led ((D, Part.obj ⟨D, "", t1, "", t2⟩) :: rest)) := by
  intro w dp un gd cn cs L ad ccd cl outer A₀ base h₀ m mg mb s Q E pp loose mean B F X N T hk G hroom hunits hQ
  obtain ⟨h, g, d, t, os⟩ := s
  refine wpAny_call ?_
  ks_enter
  rename_i g' L' h' FG' F' N' B' X' T' l1
  (iterate 6 (walk1))
  refine getMethod_own (P := P) F' X' N' (.head _) (.tail _ (.head _)) (f := 175) (by kernel_rfl) (by kernel_rfl) (by rfl) ?_
  (walk1)
  refine part_count_does P O B' F' X' N' T' (by rfl) G ?_ ?_ ?_
  · show dp + 1 + 3 < recursionLimit
    lia
  · show un + 3 + 20 * 3 < cLine
    lia
  rintro r news' s' ⟨t1, rfl, rfl⟩ F1 N1 G1 o1
  have hlen : (a.parts.length : Int) = 0 := by rw [e]; rfl
  obtain ⟨h1, g1, d1, tk1, os1⟩ := s'
  clear F' N' G
  iterate 4 (first | walk1 | (dsimp only; walk1) | (leave1; try dsimp only))
  rotate_left
  · exact absurd hlen (by assumption)
  (iterate 11 (walk1))
  rename_i D h2 F2 N2 l2 F3 N3 T3 X3
  exact hQ _ _ _ ⟨D, _, _, rfl, led_lt l2, rfl⟩ F3 (news_sub N3 led_front) G1 o1
end
end
section
open PySem PySem.W PySem.Calls PyProof.Rows
theorem does_conv {P : Params} {c : Nat} {f : Addr} {vs : List Value} {news : List (Addr × Obj)} {R R' : Value → List (Addr × Obj) → Heap → Prop} (D : Does P c f vs news R) (h : ∀ r n hp, R r n hp → ∃ n', (∀ p ∈ n', p ∈ n) ∧ R' r n' hp) : Does P c f vs news R' := by
  intro w dp un gd cn cs L ad ccd cl outer A₀ base h₀ m mg mb s Q E pp loose mean B F X N T hk G hroom hunits hQ
  refine D B F X N T hk G hroom hunits fun r n s' hr F' N' G' o' => ?_
  obtain ⟨n', hs, hr'⟩ := h _ _ _ hr
  exact hQ r n' s' hr' F' (news_sub N' hs) G' o'

-- two blocks of a list changed about
theorem swp {α : Type} {p : α} (P A B : List α) {l : List α} (h : p ∈ P ++ (A ++ (B ++ l))) : p ∈ P ++ (B ++ (A ++ l)) := by
  simp only [List.mem_append] at h ⊢
  rcases h with h | h | h | h <;> simp [h]
theorem mapTail {α : Type} {p : α} (P : List α) {l r : List α} (h : p ∈ P ++ l) (k : p ∈ l → p ∈ r) : p ∈ P ++ r :=
  (List.mem_append.mp h).elim (fun h => List.mem_append.mpr (.inl h)) fun h => List.mem_append.mpr (.inr (k h))
section
variable {h₀ h : Heap} {L : Addr} {old l : List (Addr × Obj)}
-- a ledger, entry by entry
theorem nc (N : News h₀ L h old) {p : Addr × Obj} (hm : p ∈ old) (r : News h₀ L h l) : News h₀ L h (p :: l) := fun q hq => (List.mem_cons.mp hq).elim (fun e => e ▸ N p hm) (r q)
end
inductive PopXR (P : Params) (a : AS) (rest : List (Addr × Obj)) (A : List Part) (s1 s2 : Str) (r : Value) (news' : List (Addr × Obj)) : Prop
  | mk (D : Addr) (c : Nat) (t1 t2 : Tok) (q1 : r = .ref D) (q2 : news' = ({ a with parts := A, cap := c } : AS).led ((D, Part.obj ⟨D, s1, t1, s2, t2⟩) :: rest)) (q3 : ({ a with parts := A, cap := c } : AS).Ok P ((D, Part.obj ⟨D, s1, t1, s2, t2⟩) :: rest)) : PopXR P a rest A s1 s2 r news'
-- pop, whatever is there: what comes back stands ahead in the ledger
abbrev PopX (P : Params) (a : AS) (rest : List (Addr × Obj)) (A : List Part) (s1 s2 : Str) : Prop :=
  Does P 6 138 [.ref a.x] (a.led rest) (fun r news' _ => PopXR P a rest A s1 s2 r news')

theorem AS.Ok.cut {P : Params} {a : AS} {rest : List (Addr × Obj)} (O : a.Ok P rest) (A : List Part) (q : Part) (e : a.parts = A ++ [q]) (c : Nat) : ({ a with parts := A, cap := c } : AS).Ok P rest :=
  { O with
    mem := fun p hp => O.mem p (by rw [e]; exact List.mem_append.mpr (.inl hp))
    small := by
      have := O.small
      rw [e, plen_append] at this
      have h2 := plen_nonneg [q]
      show a.n + plen A < 1000
      lia
    few := by
      have := O.few
      rw [e, List.length_append] at this
      show A.length < 1000
      lia }
theorem AS.Ok.ahead {P : Params} {a : AS} {rest : List (Addr × Obj)} (O : a.Ok P rest) (p : Addr × Obj) (h : p.1 ≠ a.x ∧ p.1 ≠ a.dx ∧ p.1 ≠ 140 ∧ p.1 ≠ 147) : a.Ok P (p :: rest) :=
  { O with
    mem := fun q hq => .tail _ (O.mem q hq)
    sep := fun q hq => by
      rcases List.mem_cons.mp hq with rfl | hq
      · exact h
      · exact O.sep q hq }
theorem popX_some (P : Params) {a : AS} {rest : List (Addr × Obj)} (O : a.Ok P rest) (A : List Part) (q : Part) (e : a.parts = A ++ [q]) : PopX P a rest A q.f q.p := by
  have hq : (q.T, q.obj) ∈ rest := O.mem q (by rw [e]; exact List.mem_append.mpr (.inr (.head _)))
  refine does_conv (pop_does P O A q e) fun r n hp hr => ?_
  obtain ⟨rfl, rfl⟩ := hr
  refine ⟨_, fun p hp => ?_, q.T, a.cap + 1, q.t1, q.t2, rfl, rfl, (O.cut A q e _).ahead _ (O.sep _ hq)⟩
  rcases List.mem_cons.mp (led_front p hp) with rfl | h
  · exact .tail _ (.tail _ (.tail _ (.tail _ hq)))
  · exact h
theorem popX_none (P : Params) {a : AS} {rest : List (Addr × Obj)} (O : a.Ok P rest) (e : a.parts = []) : PopX P a rest [] "" "" := by
  refine does_conv (pop0_does P O e) fun r n hp hr => ?_
  obtain ⟨D, t1, t2, rfl, hl, rfl⟩ := hr
  refine ⟨_, fun p hp => hp, D, a.cap, t1, t2, rfl, ?_, ?_⟩
  · obtain ⟨x, dx, cap, kk, hs, tk, tn, n, parts, ps, ps'⟩ := a
    subst e
    rfl
  · have : ({ a with parts := [], cap := a.cap } : AS) = a := by
      obtain ⟨x, dx, cap, kk, hs, tk, tn, n, parts, ps, ps'⟩ := a
      subst e
      rfl
    rw [this]
    exact O.ahead _ ⟨Ne.symm (Nat.ne_of_lt (hl _ (.head _))), Ne.symm (Nat.ne_of_lt (hl _ (.tail _ (.head _)))), Ne.symm (Nat.ne_of_lt (hl _ (.tail _ (.tail _ (.head _))))), Ne.symm (Nat.ne_of_lt (hl _ (.tail _ (.tail _ (.tail _ (.head _))))))⟩

structure FD where
  h1 : Int
  h2 : Int
  h3 : Int
  h4 : Int
  h5 : Int
  h6 : Int
  k1 : Tok
  k2 : Tok
  k3 : Tok
  k4 : Tok
  k5 : Tok
  k6 : Tok
  t1 : Tok
  t2 : Tok
  t3 : Tok
  t4 : Tok
  w : Int
  kk : Nat
abbrev FD.obj (d : FD) (ll x : Addr) : Obj := dictOf [⟨d.h1, .str "_maxlen" d.k1, .int d.w d.t1⟩, ⟨d.h2, .str "_continuation_ws" d.k2, .str " " d.t2⟩, ⟨d.h3, .str "_continuation_ws_len" d.k3, .int 1 d.t3⟩, ⟨d.h4, .str "_splitchars" d.k4, .str " " d.t4⟩, ⟨d.h5, .str "_lines" d.k5, .ref ll⟩, ⟨d.h6, .str "_current_line" d.k6, .ref x⟩] d.kk
abbrev strsV (l : List (Str × Tok)) : List Value := l.map fun p => .str p.1 p.2
structure FS where
  a : AS
  d : FD
  v : Addr
  dv : Addr
  ll : Addr
  lines : List (Str × Tok)
  lc : Nat
abbrev FS.lobj (f : FS) : Obj := listOf (strsV f.lines).toArray f.lc
abbrev FS.tl (f : FS) (rest : List (Addr × Obj)) : List (Addr × Obj) := (f.ll, f.lobj) :: (f.v, instObj 94 f.dv) :: (f.dv, f.d.obj f.ll f.a.x) :: rest
abbrev FS.led (f : FS) (rest : List (Addr × Obj)) : List (Addr × Obj) := f.a.led (f.tl rest)
structure FS.Ok (P : Params) (f : FS) (rest : List (Addr × Obj)) : Prop where
  acc : f.a.Ok P (f.tl rest)
  mem : ∀ q ∈ f.a.parts, (q.T, q.obj) ∈ rest
  sep : ∀ q ∈ rest, q.1 ≠ f.ll
  dl : f.v ≠ f.ll ∧ f.dv ≠ f.ll
  few : f.lines.length < 1000

section
variable {prog : Program} {w : World} {A : Around} {E : Value → Shared → Prop} {s : Shared} {P : Params} {x dx L : Addr} {h₀ : Heap} {m : Str → Option Value} {news news' : List (Addr × Obj)} {its : List Value} {n : Nat} {pl : Sem Bool} {Q : Value × List Value → Shared → Prop} {es : List DictEntry} {k : Nat}
theorem gm_pop (F : Fr h₀ L s.heap m) (X : (hd.heap_39 P).In h₀) (N : News h₀ L s.heap news) (h1 : (x, accObj dx its n) ∈ news) (h2 : (dx, dictOf es k) ∈ news) (hl : getL "pop" es = some none) (h : Q (.ref 138, [.ref x]) s) : wpAny (model prog w) A (getMethod (.ref x) "pop" pl) Q E s := getMethod_own F X N h1 h2 (by kernel_rfl) (by kernel_rfl) hl h
theorem gm_push (F : Fr h₀ L s.heap m) (X : (hd.heap_39 P).In h₀) (N : News h₀ L s.heap news) (h1 : (x, accObj dx its n) ∈ news) (h2 : (dx, dictOf es k) ∈ news) (hl : getL "push" es = some none) (h : Q (.ref 122, [.ref x]) s) : wpAny (model prog w) A (getMethod (.ref x) "push" pl) Q E s := getMethod_own F X N h1 h2 (by kernel_rfl) (by kernel_rfl) hl h
theorem gm_pop_from (F : Fr h₀ L s.heap m) (X : (hd.heap_39 P).In h₀) (N : News h₀ L s.heap news) (h1 : (x, accObj dx its n) ∈ news) (h2 : (dx, dictOf es k) ∈ news) (hl : getL "pop_from" es = some none) (h : Q (.ref 130, [.ref x]) s) : wpAny (model prog w) A (getMethod (.ref x) "pop_from" pl) Q E s := getMethod_own F X N h1 h2 (by kernel_rfl) (by kernel_rfl) hl h
theorem gm_reset (F : Fr h₀ L s.heap m) (X : (hd.heap_39 P).In h₀) (N : News h₀ L s.heap news) (h1 : (x, accObj dx its n) ∈ news) (h2 : (dx, dictOf es k) ∈ news) (hl : getL "reset" es = some none) (h : Q (.ref 160, [.ref x]) s) : wpAny (model prog w) A (getMethod (.ref x) "reset" pl) Q E s := getMethod_own F X N h1 h2 (by kernel_rfl) (by kernel_rfl) hl h
theorem gm_is_onlyws (F : Fr h₀ L s.heap m) (X : (hd.heap_39 P).In h₀) (N : News h₀ L s.heap news) (h1 : (x, accObj dx its n) ∈ news) (h2 : (dx, dictOf es k) ∈ news) (hl : getL "is_onlyws" es = some none) (h : Q (.ref 167, [.ref x]) s) : wpAny (model prog w) A (getMethod (.ref x) "is_onlyws" pl) Q E s := getMethod_own F X N h1 h2 (by kernel_rfl) (by kernel_rfl) hl h
theorem gm_part_count (F : Fr h₀ L s.heap m) (X : (hd.heap_39 P).In h₀) (N : News h₀ L s.heap news) (h1 : (x, accObj dx its n) ∈ news) (h2 : (dx, dictOf es k) ∈ news) (hl : getL "part_count" es = some none) (h : Q (.ref 175, [.ref x]) s) : wpAny (model prog w) A (getMethod (.ref x) "part_count" pl) Q E s := getMethod_own F X N h1 h2 (by kernel_rfl) (by kernel_rfl) hl h
variable {P0 : Params} {expr : Bool} {name : Str} {f : Addr} {Q1 : Value → Shared → Prop}
-- an own method, taken as an name: a bound method is made
theorem getAttr_acc_bound (F : Fr h₀ L s.heap m) (X : (hd.heap_39 P).In h₀) (N : News h₀ L s.heap news) (h1 : (x, accObj dx its n) ∈ news) (h2 : (dx, dictOf es k) ∈ news)
    (ha : findIn (hd.heap_39 P) (.ref 178) name = some (some (.ref f))) (hf : isFn (hd.heap_39 P) (.ref f) = true) (hgf : specialIn (hd.heap_39 P) (.ref f) "__get__" = some (some (.builtin "function.__get__"))) (ht : takesIn (hd.heap_39 P) (.ref f) = some false) (hc : copiedNames.contains name = false)
    (hl : getL name es = some none)
    (h : ∀ q h', Fr h₀ L h' m → News h₀ L h' ((q, methodObj (.ref f) (.ref x)) :: news) → (∀ p ∈ news, p.1 < q) → Q1 (.ref q) { s with heap := h', toks := s.toks + 1 }) :
    wpAny (model prog w) A (getAttr (.ref x) name expr) Q1 E s := by
  have X := X.keeps F.keep
  have I := InstAt.of_acc N h1 h2
  obtain ⟨cd, hcc, hmro, hdict⟩ := cls178 P
  have hfo : findObj (hd.heap_39 P) 178 (some (dictOf es k)) name = some (.bind (.builtin "function.__get__") (.ref f)) := by
    refine PySem.W.findObj_fn (K := hd.heap_39 P) (by kernel_rfl) ha hgf ht hc ?_
    rw [lookIn_dict, hl]
  obtain ⟨hh', g, d, t, os⟩ := s
  have L0 := I.type (M := model prog w)
  have L1 := looks_findIn (M := model prog w) X (ga178 P)
  have L2 := looks_findIn (M := model prog w) X (gx178 P)
  unfold getAttr getAttrBy
  refine wpAny_bind (wpAny_mkText (wpAny_holding (wpAny_bind (L0.at (wpAny_bind (L1.at ?_))))))
  dsimp only
  rw [show (onTheHeap (.ref 178) && Value.builtin "list.__getattribute__" == Value.builtin "object.__getattribute__") = false from by rw [show (Value.builtin "list.__getattribute__" == Value.builtin "object.__getattribute__") = false from by decide +kernel, Bool.and_false], if_neg (by decide)]
  have L3 : Looks (model prog w) hh' (hookBefore (.ref 178)) none := by unfold hookBefore; rw [show onTheHeap (Value.ref 178) = true from rfl, if_pos rfl]; exact L2
  refine wpAny_bind (L3.at (wpAny_bind (wpAny_attempt (wpAny_holding ?_))))
  unfold callGetattribute
  rw [show (expr && onTheHeap (Value.builtin "list.__getattribute__")) = false from Bool.and_false _, if_neg (by decide)]
  unfold boundAndCalled
  rw [PySem.F.slot_list_getattribute.bind]
  refine wpAny_bind (wpAny_pure ?_)
  show wpAny _ _ (call (.builtin "list.__getattribute__") [.ref x, .str name t]) _ _ _
  refine call_sub (s := ⟨hh', g, d, t + 1, os⟩) (owner := "list") (n := "__getattribute__") (.inl (by decide +kernel)) (by decide +kernel) PySem.F.slot_list_getattribute.plain PySem.F.entry_list_ga (inst_is X I (sub178 P)) (PySem.F.args_list_getattribute_2 _ _) ?_
  have L4 := looks_find (M := model prog w) X I hfo
  unfold Builtin.«object.__getattribute__»
  refine wpAny_bind (wpAny_pure (wpAny_bind (wpAny_pure (wpAny_bind (L0.at (wpAny_bind (L4.at ?_)))))))
  show wpAny _ _ (holding [.ref f] (call (.builtin "function.__get__") [.ref f, .ref x, .ref 178]) >>= ret) _ _ _
  refine wpAny_bind (wpAny_holding (wpAny_call (fn_get (s := ⟨hh', g, d, t + 1, os⟩) X (beq_iff_eq.mp hf) ?_)))
  refine wpAny_pure ⟨_, rfl, ?_⟩
  exact handed_on rfl (h hh'.objs.size _ (F.push _) (N.push F _) fun p hp => Heap.lt_size (N p hp).1)
end
end
section
open PySem PySem.W PySem.Calls PyProof.Rows
set_option hygiene false in
local macro_rules | `(tactic| walk_at "getMethod ref") => `(tactic| ((first | refine' gm_pop ?k1 ?k2 ?k3 ?k4 ?k5 ?k6 ?_ | refine' gm_is_onlyws ?k1 ?k2 ?k3 ?k4 ?k5 ?k6 ?_ | refine' gm_push ?k1 ?k2 ?k3 ?k4 ?k5 ?k6 ?_ | refine' gm_pop_from ?k1 ?k2 ?k3 ?k4 ?k5 ?k6 ?_ | refine' gm_part_count ?k1 ?k2 ?k3 ?k4 ?k5 ?k6 ?_ | refine' gm_reset ?k1 ?k2 ?k3 ?k4 ?k5 ?k6 ?_); walk_at "gm tail"))
section
open PySem PySem.W PySem.Calls PyProof.Rows
theorem ne_pair {s1 s2 : Str} (h : ¬ (s1 = " " ∧ s2 = "")) : (!PyData.eqv (.tuple [.str s1, .str s2]) (.tuple [.str " ", .str ""])) = true := by
  rw [Bool.not_eq_true']
  simp only [PyData.eqv, PyData.eqvAll, Bool.and_true]
  rw [Bool.and_eq_false_iff]
  by_cases h1 : s1 = " "
  · right
    exact beq_false_of_ne fun h2 => h ⟨h1, h2⟩
  · left
    exact beq_false_of_ne h1
theorem news_ne {h₀ h : Heap} {L a b : Addr} {oa ob : Obj} {news : List (Addr × Obj)} (N : News h₀ L h news) (ha : (a, oa) ∈ news) (hb : (b, ob) ∈ news) (hc : oa.cls ≠ ob.cls) : a ≠ b := fun e => by
  subst e
  have h1 := (N _ ha).1
  rw [(N _ hb).1] at h1
  exact hc (congrArg Obj.cls (Option.some.inj h1).symm)
theorem AS.Ok.swap {P : Params} {a : AS} {pre post : List (Addr × Obj)} {l : Addr} {o o' : Obj} (O : a.Ok P (pre ++ (l, o) :: post)) (ho : o.cls = .type "list") : a.Ok P (pre ++ (l, o') :: post) :=
  { O with
    mem := fun q hq => by
      rcases List.mem_append.mp (O.mem q hq) with h | h
      · exact List.mem_append.mpr (.inl h)
      · rcases List.mem_cons.mp h with h | h
        · have h2 := congrArg (fun p : Addr × Obj => p.2.cls) h
          dsimp only at h2
          rw [ho] at h2
          exact absurd h2 (by decide)
        · exact List.mem_append.mpr (.inr (.tail _ h))
    sep := fun q hq => by
      rcases List.mem_append.mp hq with h | h
      · exact O.sep q (List.mem_append.mpr (.inl h))
      · rcases List.mem_cons.mp h with h | h
        · rw [h]; exact O.sep (l, o) (List.mem_append.mpr (.inr (.head _)))
        · exact O.sep q (List.mem_append.mpr (.inr (.tail _ h))) }
theorem AS.Ok.empty {P : Params} {a : AS} {rest rest2 : List (Addr × Obj)} (O : a.Ok P rest) (hs : ∀ p ∈ rest2, p ∈ rest) (c : Nat) (hh : Int) (tk tn : Tok) (kk : Nat) :
    ({ a with parts := [], n := 0, cap := c, hs := hh, tk := tk, tn := tn, kk := kk } : AS).Ok P rest2 where
  t1 := O.t1
  t2 := O.t2
  mem := fun _ h => nomatch h
  sep := fun q hq => O.sep q (hs q hq)
  d1 := O.d1
  n0 := Int.le_refl _
  small := by show (0 : Int) + plen [] < 1000; decide
  few := by show ([] : List Part).length < 1000; decide
theorem perm5 {α : Type} {p a b c d e : α} {l : List α} (h : p ∈ c :: d :: e :: a :: b :: l) : p ∈ a :: b :: c :: d :: e :: l := swp [] [c, d, e] [a, b] h
theorem perm45 {α : Type} {p a b c d e x y z w : α} {l : List α} (h : p ∈ x :: y :: z :: w :: c :: d :: e :: a :: b :: l) : p ∈ x :: y :: z :: w :: a :: b :: c :: d :: e :: l := swp [x, y, z, w] [c, d, e] [a, b] h
theorem shaped_pair {a b : Str} (ha : PyData.strOk a = true) (hb : PyData.strOk b = true) : PySem.SeqAt.shaped (.tuple [.str a, .str b]) = true := by
  unfold PySem.SeqAt.shaped
  simp [PyData.canLay0, PyData.canLayAll0, PyData.depth, PyData.depthAll, ha, hb]
section
variable {M : Model} {A : Around} {E : Value → Shared → Prop} {s : Shared} {K : Frag} {h₀ : Heap} {L : Addr} {news : List (Addr × Obj)} {env : Env}
theorem star_call {o : Expr} {name : Str} {apos pos p : Pos} {e : Expr} {Q : Value → Shared → Prop} (hb : attributeBase o name env (eval o env) = eval o env)
    (h : wpAny M A (eval o env) (fun ov s₁ => wpAny M A (getAttr ov name true) (fun f s₂ => wpAny M A (callWith pos f [] (backTo pos (starEach [.Starred e p] env)) []) Q E s₂) E s₁) E s) :
    wpAny M A (eval (.Call (.Attribute o name apos) [.Starred e p] [] pos) env) Q E s := by
  rw [arm_eval_Call, hb]
  refine wpAny_bind (wpAny_mono h (fun ov s₁ h₁ => wpAny_bind (wpAny_standAt ?_)) fun _ _ z => z)
  show wpAny _ _ (methodCall o name apos pos env ov 1 (backTo pos (starEach [.Starred e p] env)) []) _ _ _
  unfold methodCall
  refine wpAny_bind (wpAny_holding ?_)
  unfold calleeOf
  rw [show methodCallForm 1 (backTo pos (starEach [Expr.Starred e p] env)) [] = false from by rfl]
  rw [if_neg (by decide)]
  refine wpAny_bind (wpAny_mono h₁ (fun f s₂ h₂ => wpAny_pure ?_) fun _ _ z => z)
  exact wpAny_bind (wpAny_pure h₂)
theorem callWith_starM {q g : Addr} {self : Value} {e : Expr} {p pos : Pos} {Q : Value → Shared → Prop} (hf : fnIn K g = true)
    (h : wpAny M A (eval e env) (fun v s₁ => StarOf M A E v (fun vs s₂ => MethP K q g self s₂.heap ∧ wpAny M A (call (.ref q) vs) Q E s₂) s₁) E s)
    (he : starEach [.Starred e p] env = [(true, eval e env)] := by rfl) :
    wpAny M A (callWith pos (.ref q) [] (backTo pos (starEach [.Starred e p] env)) []) Q E s := by
  rw [he]
  exact ks_call (P := fun h => MethP K q g self h) rfl (keeps_M hf) (ks_lone h)
end
inductive NewlineR (P : Params) (f : FS) (rest : List (Addr × Obj)) (A : List Part) (s1 s2 : Str) (r : Value) (news' : List (Addr × Obj)) : Prop
  | mk (f' : FS) (rest' : List (Addr × Obj)) (t : Tok) (q1 : r = .none) (q2 : news' = f'.led rest') (q3 : f'.Ok P rest') (q4 : (∀ p ∈ rest, p ∈ rest')) (q5 : f'.v = f.v) (q6 : f'.d = f.d) (q7 : f'.a.n = 0) (q8 : f'.a.parts = []) (q9 : f'.lines = f.lines ++ [(atext (A ++ [⟨0, s1, 0, s2, 0⟩]), t)]) : NewlineR P f rest A s1 s2 r news'
theorem newline_does (P : Params) {f : FS} {rest : List (Addr × Obj)} (O : f.Ok P rest) (A : List Part) (s1 s2 : Str) (hp : PopX P f.a (f.tl rest) A s1 s2) (hne : ¬ (s1 = " " ∧ s2 = "")) (hk1 : PyData.strOk s1 = true) (hk2 : PyData.strOk s2 = true) (hsm : f.a.n + plen A + (s1.length + s2.length) < 1000) (hfw : A.length + 1 < 1000) (hpos : 0 < f.a.n + plen A + (s1.length + s2.length)) (ht : Txt.isspace (atext (A ++ [⟨0, s1, 0, s2, 0⟩])) = false) (hll : f.lines.length + 1 < 1000) :
    Does P 12 56 [.ref f.v] (f.led rest) (fun r news' _ => NewlineR P f rest A s1 s2 r news') := by
  intro w dp un gd cn cs L ad ccd cl outer A₀ base h₀ m mg mb s Q E pp loose mean B F X N T hk G hroom hunits hQ
  obtain ⟨h, g, d, t, os⟩ := s
  refine wpAny_call ?_
  k_dflt cell_enter
  rename_i g' L' h' FG' F' N' B' X' T'
  (iterate 9 (walk1))
  refine hp B' F' X' N' T' (by rfl) G (by show dp + 1 + 6 < recursionLimit; lia) (by show _ + 120 < cLine; simp only [units_in1, units_deeper, Around.mark_units]; show un + _ + 120 < cLine; lia) ?_
  rintro r news' s' ⟨D, c, t1, t2, rfl, rfl, O1⟩ F1 N1 G1 o1
  obtain ⟨h1, g1, d1, tk1, os1⟩ := s'
  clear F' N' G
  (try k_unmd); (try k_fold)
  (iterate 12 (walk1))
  rename_i h2 D2 h3 F3 N3 l3
  refine ne_dataH (da := .tuple [.str s1, .str s2]) (db := .tuple [.str " ", .str ""]) (reads_tuple_at (News.get N3 (.tail _ (.tail _ (.tail _ (.tail _ (.tail _ (.head _)))))) ) rfl rfl (.cons (.str _ _) (.cons (.str _ _) .nil))) (reads_tuple_at (News.get N3 (.head _)) rfl rfl (.cons (.str _ _) (.cons (.str _ _) .nil))) (shaped_pair hk1 hk2) (shaped_pair (by decide +kernel) (by decide +kernel)) (by show un + _ + 64 < cLine; lia) ?_
  rw [ne_pair hne]
  (try k_unmd); (try k_fold)
  (iterate 5 (walk1))
  refine star_call (by rfl) ?_
  (try k_unmd); (try k_fold)
  (iterate 3 (walk1))
  refine getAttr_acc_bound (P := P) F3 X' N3 (.tail _ (.head _)) (.tail _ (.tail _ (.head _))) (f := 122) (by kernel_rfl) (by kernel_rfl) (by kernel_rfl) (by kernel_rfl) (by decide +kernel) (by rfl) ?_
  intro b h4 F4 N4 l4
  refine callWith_starM (K := hd.heap_39 P) (g := 122) (self := .ref f.a.x) (by kernel_rfl) ?_
  clear F3 N3
  (try k_unmd); (try k_fold)
  (iterate 4 (walk1))
  rename_i h5 F5 N5
  refine call_meth N5 (.head _) (push_doesC P O1 s1 s2 t1 t2 hsm hfw B' F5 X' (news_sub N5 fun p hp => .tail _ (.tail _ hp)) T' (by rfl) G1 (by show dp + 1 + 3 < recursionLimit; lia) (by show un + _ + 60 < cLine; lia) ?_)
  rintro r news' s' ⟨T2, rfl, hT2, rfl⟩ F6 N6 G6 o6
  have O2 := O1.push ⟨T2, s1, t1, s2, t2⟩ hT2 (c + 1) hsm hfw
  obtain ⟨h6, g6, d6, tk6, os6⟩ := s'
  clear F5 N5
  (try k_unmd); (try k_fold)
  (iterate 12 (walk1))
  have hpl : plen (A ++ [⟨T2, s1, t1, s2, t2⟩]) = plen A + (s1.length + s2.length) := by rw [plen_append, plen_one]
  have ha0 := O1.n0
  have hpA := plen_nonneg A
  refine PySem.W.len_K F6 X' (InstAt.of_acc N6 (.head _) (.tail _ (.head _))) (le178 P) (fn145 P) ?_
  refine lenA P O2 B' F6 X' N6 T' (by rfl) G6 (by show dp + 1 + 3 < recursionLimit; lia) (by show un + 3 + 1 + 20 * 3 < cLine; lia) ?_
  rintro r news' s' ⟨t7, ps7, rfl, rfl, O3⟩ F7 N7 G7 o7
  obtain ⟨h7, g7, d7, tk7, os7⟩ := s'
  clear F6 N6
  dsimp only at O3 N7 o7 ⊢
  rw [hpl]
  refine ⟨⟨by lia, by lia⟩, ?_⟩
  (try k_unmd); (try k_fold)
  (iterate 15 (walk1))
  have ht2 : Txt.isspace (atext (A ++ [⟨T2, s1, t1, s2, t2⟩])) = false := by
    rw [← ht]
    simp only [atext, List.map_append, List.map_cons, List.map_nil, ptext]
  refine is_onlyws_does P O3 (by dsimp only; rw [hpl]; lia) ht2 B' (by assumption) X' (by assumption) T' (by rfl) G7 (by show dp + 1 + 6 < recursionLimit; lia) (by show un + 3 + 20 * 6 < cLine; lia) ?_
  rintro r news' s' ⟨ps8, ps8', rfl, rfl, O4⟩ F8 N8 G8 o8
  obtain ⟨h8, g8, d8, tk8, os8⟩ := s'
  clear N7
  dsimp only at O4 N8 o8 ⊢
  (try k_unmd); (try k_fold)
  (iterate 20 (walk1))
  refine kso_call (K := hd.heap_39 P) (by show un + 3 + 1 + 1 < cLine; lia) (X'.keeps F8.keep) (InstAt.of_acc N8 (.head _) (.tail _ (.head _))) (st178 P) (fn152 P) ?_
  refine strA P O4 B' F8 X' N8 T' (by rfl) G8 (by show dp + 1 + 3 < recursionLimit; lia) (by show un + 3 + 1 + 1 + 20 * 3 < cLine; lia) ?_
  rintro r news' s' ⟨t9, ps9, rfl, rfl, O5⟩ F9 N9 G9 o9
  obtain ⟨h9, g9, d9, tk9, os9⟩ := s'
  clear F8 N8
  dsimp only [PySem.W.StrBack] at O5 N9 o9 ⊢
  rw [show atext (A ++ [⟨T2, s1, t1, s2, t2⟩]) = atext (A ++ [⟨0, s1, 0, s2, 0⟩]) from by simp only [atext, List.map_append, List.map_cons, List.map_nil, ptext]]
  (walk1)
  generalize htext : atext (A ++ [⟨0, s1, 0, s2, 0⟩]) = text at *
  have q1 := (O5.sep (f.ll, f.lobj) (.tail _ (.tail _ (.head _))))
  have q2 : T2 ≠ f.ll := news_ne N9 (.tail _ (.tail _ (.tail _ (.tail _ (.head _))))) (.tail _ (.tail _ (.tail _ (.tail _ (.tail _ (.tail _ (.head _))))))) (show Value.type "tuple" ≠ Value.type "list" from by decide)
  have q3 : D ≠ f.ll := news_ne N9 (.tail _ (.tail _ (.tail _ (.tail _ (.tail _ (.head _)))))) (.tail _ (.tail _ (.tail _ (.tail _ (.tail _ (.tail _ (.head _))))))) (show Value.type "tuple" ≠ Value.type "list" from by decide)
  have eL : (strsV f.lines).toArray.push (.str text t9) = (strsV (f.lines ++ [(text, t9)])).toArray := by simp [strsV]
  have hfl := O.few
  refine append_K F9 N9 (.tail (Ne.symm q1.1) (.tail (Ne.symm q1.2.1) (.tail (Ne.symm q1.2.2.1) (.tail (Ne.symm q1.2.2.2) (.tail q2 (.tail q3 (.head fun p hp => ?_))))))) ?_ (by rw [List.size_toArray, List.length_map, sizeLine_eq]; lia)
  · rcases List.mem_cons.mp hp with rfl | hp
    · exact O.dl.1
    rcases List.mem_cons.mp hp with rfl | hp
    · exact O.dl.2
    · exact O.sep p hp
  rw [eL]
  intro h10 F10 N10
  clear F9 N9
  have O6 := AS.Ok.swap (pre := [(T2, _), (D, _)]) (o' := listOf (strsV (f.lines ++ [(text, t9)])).toArray (f.lc + 1)) O5 rfl
  dsimp only [List.cons_append, List.nil_append] at O6
  (iterate 10 (walk1))
  refine reset0_does P O6 B' (by assumption) X' (by assumption) T' (by rfl) G9 (by show dp + 1 + 3 < recursionLimit; lia) (by show un + 3 + 20 * 3 < cLine; lia) ?_
  rintro r news' s' ⟨c11, hs11, tk11, tn11, kk11, rfl, rfl⟩ F11 N11 G11 o11
  obtain ⟨h11, g11, d11, tkk11, os11⟩ := s'
  clear N10
  (try k_unmd); (try k_fold)
  k_steps -- 1 goals UWW
  rename_i F12 N12 T12 X12
  refine hQ _ _ _ ⟨{ f with a := { f.a with parts := [], n := 0, cap := c11, hs := hs11, tk := tk11, tn := tn11, kk := kk11, ps := ps8, ps' := ps9 }, lines := f.lines ++ [(text, t9)], lc := f.lc + 1 }, (T2, Part.obj ⟨T2, s1, t1, s2, t2⟩) :: (D, Part.obj ⟨D, s1, t1, s2, t2⟩) :: rest, t9, rfl, rfl, ?_, fun p hp => .tail _ (.tail _ hp), rfl, rfl, rfl, rfl, by rw [htext]⟩ F12 (news_sub N12 ?_) G11 ?_
  · exact { acc := AS.Ok.empty O6 (fun p hp => perm5 hp) c11 hs11 tk11 tn11 kk11
            mem := fun _ h => nomatch h
            sep := fun p hp => by
              rcases List.mem_cons.mp hp with rfl | hp
              · exact q2
              rcases List.mem_cons.mp hp with rfl | hp
              · exact q3
              · exact O.sep p hp
            dl := O.dl
            few := by
              show (f.lines ++ [(text, t9)]).length < 1000
              rw [List.length_append]; exact hll }
  · exact fun p hp => perm45 hp
  · exact o11.trans (o9.trans (o8.trans (o7.trans (o6.trans o1))))
end
section
open PySem PySem.W PySem.Calls PyProof.Rows
def ptx (l : List Part) : List (Str × Str) := l.map fun q => (q.f, q.p)
-- what the formatter holds, as plain data
structure Abs (f : FS) (n : Int) (ts : List (Str × Str)) (ls : List Str) : Prop where
  n : f.a.n = n
  ts : ptx f.a.parts = ts
  ls : f.lines.map (·.1) = ls
inductive Goes (P : Params) (f : FS) (rest : List (Addr × Obj)) (n : Int) (ts : List (Str × Str)) (ls : List Str) (news' : List (Addr × Obj)) : Prop
  | mk (f' : FS) (rest' : List (Addr × Obj)) (q1 : news' = f'.led rest') (q2 : f'.Ok P rest') (q3 : (∀ p ∈ rest, p ∈ rest')) (q4 : f'.v = f.v) (q5 : f'.d = f.d) (q6 : Abs f' n ts ls) : Goes P f rest n ts ls news'
theorem AS.Ok.perm {P : Params} {a : AS} {r1 r2 : List (Addr × Obj)} (O : a.Ok P r1) (h1 : ∀ p ∈ r1, p ∈ r2) (h2 : ∀ p ∈ r2, p ∈ r1) : a.Ok P r2 :=
  { O with
    mem := fun q hq => h1 _ (O.mem q hq)
    sep := fun q hq => O.sep q (h2 q hq) }
theorem perm4 {α : Type} {p a c d e : α} {l : List α} (h : p ∈ c :: d :: e :: a :: l) : p ∈ a :: c :: d :: e :: l := swp [] [c, d, e] [a] h
theorem perm4' {α : Type} {p a c d e : α} {l : List α} (h : p ∈ a :: c :: d :: e :: l) : p ∈ c :: d :: e :: a :: l := swp [] [a] [c, d, e] h
theorem perm44 {α : Type} {p a c d e x y z w : α} {l : List α} (h : p ∈ x :: y :: z :: w :: c :: d :: e :: a :: l) : p ∈ x :: y :: z :: w :: a :: c :: d :: e :: l := swp [x, y, z, w] [c, d, e] [a] h
theorem append_fit (P : Params) {f : FS} {rest : List (Addr × Obj)} (O : f.Ok P rest) (word : Str) (t1 t2 : Tok) (hsm : f.a.n + plen f.a.parts + (1 + word.length) < 1000) (hfw : f.a.parts.length + 1 < 1000) (hfit : ¬ f.d.w < f.a.n + plen f.a.parts + (1 + word.length)) :
    Does P 14 91 [.ref f.v, .str " " t1, .str word t2] (f.led rest) (fun r news' _ => r = .none ∧ Goes P f rest f.a.n (ptx f.a.parts ++ [((" " : Str), word)]) (f.lines.map (·.1)) news') := by
  intro w dp un gd cn cs L ad ccd cl outer A₀ base h₀ m mg mb s Q E pp loose mean B F X N T hk G hroom hunits hQ
  obtain ⟨h, g, d, t, os⟩ := s
  refine wpAny_call ?_
  k_dflt cell_enter
  rename_i g' L' h' FG' F' N' B' X' T'
  (iterate 15 (walk1))
  refine push_does P O.acc " " word t1 t2 (by show f.a.n + plen f.a.parts + (1 + word.length) < 1000; exact hsm) hfw B' F' X' N' T' (by rfl) G (by show dp + 1 + 3 < recursionLimit; lia) (by show un + 3 + 20 * 3 < cLine; lia) ?_
  rintro r news' s' ⟨T2, rfl, hT2, rfl⟩ F6 N6 G6 o6
  have O2 := O.acc.push ⟨T2, " ", t1, word, t2⟩ hT2 (f.a.cap + 1) hsm hfw
  obtain ⟨h6, g6, d6, tk6, os6⟩ := s'
  clear F' N'
  have hpl : plen (f.a.parts ++ [⟨T2, " ", t1, word, t2⟩]) = plen f.a.parts + (1 + word.length) := by rw [plen_append, plen_one]; rfl
  have ha0 := O.acc.n0
  have hpA := plen_nonneg f.a.parts
  (iterate 11 (walk1))
  refine PySem.W.len_K F6 X' (InstAt.of_acc N6 (.head _) (.tail _ (.head _))) (le178 P) (fn145 P) ?_
  refine lenA P O2 B' F6 X' N6 T' (by rfl) G6 (by show dp + 1 + 3 < recursionLimit; lia) (by show un + 3 + 1 + 20 * 3 < cLine; lia) ?_
  rintro r news' s' ⟨t7, ps7, rfl, rfl, O3⟩ F7 N7 G7 o7
  obtain ⟨h7, g7, d7, tk7, os7⟩ := s'
  clear F6 N6
  dsimp only at O3 N7 o7 ⊢
  rw [hpl]
  refine ⟨⟨by lia, by lia⟩, ?_⟩
  k_steps -- 1 goals UWWWWWWWWWW
  rename_i F8 N8 T8 X8
  have hT2l : T2 ≠ f.ll := Ne.symm (Nat.ne_of_lt (hT2 _ (.tail _ (.tail _ (.tail _ (.tail _ (.head _)))))))
  refine hQ _ _ _ ⟨rfl, { f with a := { f.a with parts := f.a.parts ++ [⟨T2, " ", t1, word, t2⟩], cap := f.a.cap + 1, ps := ps7 } }, (T2, Part.obj ⟨T2, " ", t1, word, t2⟩) :: rest, rfl, ?_, fun p hp => .tail _ hp, rfl, rfl, ⟨rfl, ?_, rfl⟩⟩ F8 (news_sub N8 fun p hp => perm44 hp) G7 (o7.trans o6)
  · exact { acc := O3.perm (fun p hp => perm4' hp) (fun p hp => perm4 hp)
            mem := fun q hq => by
              rcases List.mem_append.mp hq with h | h
              · exact .tail _ (O.mem q h)
              · rw [List.mem_singleton.mp h]; exact .head _
            sep := fun p hp => by
              rcases List.mem_cons.mp hp with rfl | hp
              · exact hT2l
              · exact O.sep p hp
            dl := O.dl
            few := O.few }
  · simp only [ptx, List.map_append, List.map_cons, List.map_nil]
end
section
open PySem PySem.W PySem.Calls PyProof.Rows
section
variable {prog : Program} {w : World} {A : Around} {E : Value → Shared → Prop} {s : Shared}
-- one turn of a for loop
theorem forLoop_turn {R : Result → Shared → Prop} {target : Expr} {it : Value} {body orelse : List Stmt} {env : Env}
    (turn : wpAny (model prog w) A (pyNext it) (fun r s₁ => match r with
      | none => wpAny (model prog w) A (execs orelse env) (fun f s₃ => R (.ok f) s₃) (notedBy (model prog w) A env fun e s' => R (.error e) s') s₁
      | some v => wpAny (model prog w) A (letOwnedTupleGo target it v) (fun _ s₁' =>
          wpAny (model prog w) A (assign target env v) (fun _ s₂ => wpAny (model prog w) A (execs body env) (fun f s₃ => match f with
            | .next | .cont => codeAny (model prog w) A (.forLoop target it body orelse env) R s₃
            | .brk => R (.ok .next) s₃
            | .ret v => R (.ok (.ret v)) s₃) (notedBy (model prog w) A env fun e s' => R (.error e) s') s₂) (notedBy (model prog w) A env fun e s' => R (.error e) s') s₁') (notedBy (model prog w) A env fun e s' => R (.error e) s') s₁) (notedBy (model prog w) A env fun e s' => R (.error e) s') s) :
    codeAny (model prog w) A (.forLoop target it body orelse env) R s := by
  refine codeAny_of_tree ?_
  show wpAny _ A ((forTurn target it body orelse env).onRaise (fun x => do noteFrame x env; theTreesLotGoes x)) _ _ s
  refine wpAny_noted ?_
  simp only [forTurn]
  refine wpAny_bind (wpAny_standAt (wpAny_bind (wpAny_onRaise (wpAny_mono turn (fun r s₁ h₁ => ?_) fun _ _ h' => wpAny_standAt h'))))
  cases r with
  | none => exact wpAny_pure ⟨rfl, codeAny_block h₁⟩
  | some v =>
    refine wpAny_bind (wpAny_mono h₁ (fun _ s₁' h₁' => ?_) fun _ _ h' => h')
    refine wpAny_bind (wpAny_mono h₁' (fun _ s₂ h₂ => wpAny_bind (wpAny_mono h₂ (fun f s₃ h₃ => ?_) fun _ _ h' => h')) fun _ _ h' => h')
    cases f with
    | next => exact wpAny_pure ⟨rfl, h₃⟩
    | cont => exact wpAny_pure ⟨rfl, h₃⟩
    | brk => exact wpAny_pure h₃
    | ret v => exact wpAny_pure h₃
-- a turn that takes an item of a walk and stores it in a local
theorem forLoop_item {R : Result → Shared → Prop} {x : Str} {px : Pos} {I : Addr} {fp wr : List Addr} {n i : Nat} {Pt : Nat → Value → Prop} {St : Nat → Heap → Prop} {body orelse : List Stmt} {env : Env} {h₀ : Heap} {m : Str → Option Value} {news : List (Addr × Obj)}
    (W : Walks prog w A I fp wr n Pt St) (hi : i < n) (hst : St i s.heap) (hx : env.kindOf x = some .local) (hp : (env.scope.kind == .class || (env.scope.kind == .module && env.locals != env.globals)) = false)
    (F : Fr h₀ env.locals s.heap m) (N : News h₀ env.locals s.heap news) (hL : env.locals ∉ fp) (hw : ∀ b ∈ wr, h₀.get? b = none) (hn : ∀ p ∈ news, p.1 ∉ wr)
    (h : ∀ v h' tk, Pt i v → St (i + 1) h' → Fr h₀ env.locals h' (fun y => if y = x then some v else m y) → News h₀ env.locals h' news →
      wpAny (model prog w) A (execs body env) (fun f s₃ => match f with
            | .next | .cont => codeAny (model prog w) A (.forLoop (.Name x px) (.ref I) body orelse env) R s₃
            | .brk => R (.ok .next) s₃
            | .ret v => R (.ok (.ret v)) s₃) (notedBy (model prog w) A env fun e s' => R (.error e) s') { s with heap := h', toks := tk }) :
    codeAny (model prog w) A (.forLoop (.Name x px) (.ref I) body orelse env) R s := by
  refine forLoop_turn (W.item i s _ _ hi hst fun v h₁ tk₁ hP hst₁ hk₁ => ?_)
  have hLw : env.locals ∉ wr := fun hm => hL (W.sub _ hm)
  have F₁ : Fr h₀ env.locals h₁ m := ⟨F.ns.at' fun o e => hk₁ _ o hLw e, fun b o e => hk₁ b o (fun hb => by rw [hw b hb] at e; cases e) (F.keep b o e), F.above⟩
  have N₁ : News h₀ env.locals h₁ news := fun p hp => ⟨hk₁ _ _ (hn p hp) (N p hp).1, (N p hp).2⟩
  refine wpAny_pure (a := ()) ?_
  refine wpAny_assign_Name (wpAny_storeName_local hx F₁.ns (fun h₂ hn₂ hs₂ => ?_) hp)
  exact h v h₂ (tk₁ + 1) hP (W.frame _ _ _ hst₁ fun b hb o e => (hs₂.2 b fun q => hL (q ▸ hb)).trans e) (F₁.set hn₂ hs₂) (N₁.set hs₂)
theorem forLoop_done {R : Result → Shared → Prop} {x : Str} {px : Pos} {I : Addr} {fp wr : List Addr} {n : Nat} {Pt : Nat → Value → Prop} {St : Nat → Heap → Prop} {body orelse : List Stmt} {env : Env} {h₀ : Heap} {m : Str → Option Value} {news : List (Addr × Obj)}
    (W : Walks prog w A I fp wr n Pt St) (hst : St n s.heap)
    (F : Fr h₀ env.locals s.heap m) (N : News h₀ env.locals s.heap news) (hL : env.locals ∉ fp) (hw : ∀ b ∈ wr, h₀.get? b = none) (hn : ∀ p ∈ news, p.1 ∉ wr)
    (h : ∀ h' tk, Fr h₀ env.locals h' m → News h₀ env.locals h' news →
      wpAny (model prog w) A (execs orelse env) (fun f s₃ => R (.ok f) s₃) (notedBy (model prog w) A env fun e s' => R (.error e) s') { s with heap := h', toks := tk }) :
    codeAny (model prog w) A (.forLoop (.Name x px) (.ref I) body orelse env) R s := by
  refine forLoop_turn (W.done s _ _ hst fun h₁ tk₁ hk₁ => ?_)
  have hLw : env.locals ∉ wr := fun hm => hL (W.sub _ hm)
  exact h h₁ tk₁ ⟨F.ns.at' fun o e => hk₁ _ o hLw e, fun b o e => hk₁ b o (fun hb => by rw [hw b hb] at e; cases e) (F.keep b o e), F.above⟩ fun p hp => ⟨hk₁ _ _ (hn p hp) (N p hp).1, (N p hp).2⟩
end
end
section
open PySem PySem.W PySem.Calls PyProof.Rows
theorem rsize (n : Nat) : Builtin.Range.rangeSize (n : Int) 0 (-1) = n := by
  unfold Builtin.Range.rangeSize
  simp
  try lia
theorem rsmall (n : Nat) (h : n < 1000) : Builtin.Range.small (n : Int) 0 (-1) = true := by
  unfold Builtin.Range.small
  rw [rsize]
  unfold Builtin.Range.rangeFitsLong
  simp
  lia
theorem AS.Ok.lone {P : Params} {a : AS} {rest rest2 : List (Addr × Obj)} (O : a.Ok P rest) (hs : ∀ p ∈ rest2, p ∈ rest) (q : Part) (hq : (q.T, q.obj) ∈ rest2) (hsm : (q.f.length : Int) + q.p.length < 1000) (c : Nat) (hh : Int) (tk tn : Tok) (kk : Nat) :
    ({ a with parts := [q], n := 0, cap := c, hs := hh, tk := tk, tn := tn, kk := kk } : AS).Ok P rest2 where
  t1 := O.t1
  t2 := O.t2
  mem := fun p h => by rw [List.mem_singleton.mp h]; exact hq
  sep := fun q hq => O.sep q (hs q hq)
  d1 := O.d1
  n0 := Int.le_refl _
  small := by
    show (0 : Int) + plen [q] < 1000
    rw [plen_one]; lia
  few := by show 1 < 1000; decide
theorem append_break (P : Params) {f : FS} {rest : List (Addr × Obj)} (O : f.Ok P rest) (word : Str) (t1 t2 : Tok) (hsm : f.a.n + plen f.a.parts + (1 + word.length) < 1000) (hfw : f.a.parts.length + 1 < 1000) (hll : f.lines.length + 1 < 1000)
    (hfit : f.d.w < f.a.n + plen f.a.parts + (1 + word.length)) (hne : 0 < f.a.parts.length) :
    Does P 14 91 [.ref f.v, .str " " t1, .str word t2] (f.led rest) (fun r news' _ => r = .none ∧ Goes P f rest 0 [((" " : Str), word)] (f.lines.map (·.1) ++ [atext f.a.parts]) news') := by
  intro w dp un gd cn cs L ad ccd cl outer A₀ base h₀ m mg mb s Q E pp loose mean B F X N T hk G hroom hunits hQ
  obtain ⟨h, g, d, t, os⟩ := s
  refine wpAny_call ?_
  k_dflt cell_enter
  rename_i g' L' h' FG' F' N' B' X' T'
  (iterate 15 (walk1))
  refine push_does P O.acc " " word t1 t2 (by show f.a.n + plen f.a.parts + (1 + word.length) < 1000; exact hsm) hfw B' F' X' N' T' (by rfl) G (by show dp + 1 + 3 < recursionLimit; lia) (by show un + 3 + 20 * 3 < cLine; lia) ?_
  rintro r news' s' ⟨T2, rfl, hT2, rfl⟩ F6 N6 G6 o6
  have O2 := O.acc.push ⟨T2, " ", t1, word, t2⟩ hT2 (f.a.cap + 1) hsm hfw
  obtain ⟨h6, g6, d6, tk6, os6⟩ := s'
  clear F' N'
  have hpl : plen (f.a.parts ++ [⟨T2, " ", t1, word, t2⟩]) = plen f.a.parts + (1 + word.length) := by rw [plen_append, plen_one]; rfl
  have ha0 := O.acc.n0
  have hpA := plen_nonneg f.a.parts
  (try k_unmd); (try k_fold)
  (iterate 11 (walk1))
  refine PySem.W.len_K F6 X' (InstAt.of_acc N6 (.head _) (.tail _ (.head _))) (le178 P) (fn145 P) ?_
  refine lenA P O2 B' F6 X' N6 T' (by rfl) G6 (by show dp + 1 + 3 < recursionLimit; lia) (by show un + 3 + 1 + 20 * 3 < cLine; lia) ?_
  rintro r news' s' ⟨t7, ps7, rfl, rfl, O3⟩ F7 N7 G7 o7
  obtain ⟨h7, g7, d7, tk7, os7⟩ := s'
  clear F6 N6
  dsimp only at O3 N7 o7 ⊢
  rw [hpl]
  refine ⟨⟨by lia, by lia⟩, ?_⟩
  (try k_unmd); (try k_fold)
  (iterate 8 (walk1))
  refine wpAny_For ?_ (by intro _; rfl)
  (try k_unmd); (try k_fold)
  (iterate 3 (walk1))
  refine wpAny_pyIter_str fun o St W hst => ?_
  have hL7 := F7.ns.lt
  have hI7 : ∀ b ∈ [h7.objs.size], g'.get? b = none := fun b hb => by
    rw [List.mem_singleton.mp hb]
    cases hq : g'.get? h7.objs.size with
    | none => rfl
    | some o => exact absurd (Heap.lt_size (F7.keep _ _ hq)) (Nat.lt_irrefl _)
  refine forLoop_item (W _ (by rfl)) (i := 0) (by decide) hst (by rfl) (by rfl) (F7.push _) (N7.grown fun _ _ e => Heap.get?_push_of_some _ e) (fun hm => Nat.lt_irrefl _ ((List.mem_singleton.mp hm) ▸ hL7)) hI7 (fun p hp hm => Nat.lt_irrefl _ ((List.mem_singleton.mp hm) ▸ Heap.lt_size (N7 p hp).1)) ?_
  intro v h8 tk8 hv hst8 F8 N8
  obtain ⟨c, t8, hc, rfl⟩ := hv
  obtain rfl : c = 32 := by
    have : (" " : Str).cps[0]? = some 32 := rfl
    rw [this] at hc
    exact (Option.some.inj hc).symm
  clear N7
  (walk1)
  refine wpAny_For ?_ (by intro _; rfl)
  (try k_unmd); (try k_fold)
  (iterate 11 (walk1))
  refine part_count_does P O3 B' (by assumption) X' (by assumption) T' (by rfl) G7 (by show dp + 1 + 3 < recursionLimit; lia) (by show un + 3 + 20 * 3 < cLine; lia) ?_
  rintro r news' s' ⟨t9, rfl, rfl⟩ F9 N9 G9 o9
  obtain ⟨h9, g9, d9, tk9, os9⟩ := s'
  clear F8 N8
  dsimp only at N9 o9 ⊢
  (try k_unmd); (try k_fold)
  (iterate 10 (walk1))
  rename_i h10 tk10 x10 y10 z10 HR10 F10 N10 K10
  have hn1 : ((f.a.parts ++ [(⟨T2, " ", t1, word, t2⟩ : Part)]).length : Int) - 1 = (f.a.parts.length : Int) := by rw [List.length_append]; simp
  rw [hn1] at HR10
  refine wpAny_pyIter_range HR10 (rsmall _ (by lia)) ?_
  rw [rsize]
  have hL10 := F10.ns.lt
  have hI10 : ∀ b ∈ [h10.objs.size], g'.get? b = none := fun b hb => by
    rw [List.mem_singleton.mp hb]
    cases hq : g'.get? h10.objs.size with
    | none => rfl
    | some o => exact absurd (Heap.lt_size (F10.keep _ _ hq)) (Nat.lt_irrefl _)
  have hst10 : IsRangeIter (h10.push { cls := .type "range_iterator", data := .fields #[rawInt (f.a.parts.length : Int), rawInt (f.a.parts.length : Int), rawInt (-1)] }) h10.objs.size ((f.a.parts.length : Int) + ((0 : Nat) : Int) * (-1)) ((f.a.parts.length : Int) - ((0 : Nat) : Int)) (-1) := by
    rw [show (f.a.parts.length : Int) + ((0 : Nat) : Int) * (-1) = f.a.parts.length from by lia, show (f.a.parts.length : Int) - ((0 : Nat) : Int) = f.a.parts.length from by lia]
    exact Heap.get?_push_size _ rfl
  refine forLoop_item (Walks.range (by rfl) h10.objs.size (f.a.parts.length : Int) (-1) f.a.parts.length) (i := 0) hne hst10 (by rfl) (by rfl) (F10.push _) (N10.grown fun _ _ e => Heap.get?_push_of_some _ e) (fun hm => Nat.lt_irrefl _ ((List.mem_singleton.mp hm) ▸ hL10)) hI10 (fun p hp hm => Nat.lt_irrefl _ ((List.mem_singleton.mp hm) ▸ Heap.lt_size (N10 p hp).1)) ?_
  intro v h11 tk11 hv11 hst11 F11 N11
  obtain ⟨t11, rfl⟩ := hv11
  rw [show (f.a.parts.length : Int) + ((0 : Nat) : Int) * (-1) = f.a.parts.length from by lia] at F11
  clear N10 F10 hst10 hst11
  (try k_unmd); (try k_fold)
  (iterate 19 (walk1))
  refine acc_item (P := P) F11 X' N11 (.head _) (.tail _ (.head _)) (v := .ref T2) (by lia) (by lia) (by
    rw [Int.toNat_natCast, List.map_append, List.getElem?_append_right (by rw [List.length_map]; exact Nat.le_refl _), List.length_map, Nat.sub_self]; rfl) ?_
  (try k_unmd); (try k_fold)
  k_steps -- 2 goals WWWWWWWWWWWWWWWWWWWWWWWWWWWWWWWWWWWWWWWWWWWWWWWWWWWWWWD
  rotate_left
  · have hb : (Txt.item (" " : Str) 0 == (⟨#[32]⟩ : Str)) = true := by decide +kernel
    have hbf : (Txt.item (" " : Str) 0 == (⟨#[32]⟩ : Str)) = false := by assumption
    exact absurd (hb.symm.trans hbf) (by decide)
  refine pop_from_does P O3 f.a.parts ⟨T2, " ", t1, word, t2⟩ rfl t11 B' (by assumption) X' (by assumption) T' (by rfl) G9 (by show dp + 1 + 3 < recursionLimit; lia) (by show un + 3 + 20 * 3 < cLine; lia) ?_
  rintro r news' s' ⟨l, c12, n12, rfl, hl12, rfl⟩ F12 N12 G12 o12
  have O4 := (O3.cut f.a.parts ⟨T2, " ", t1, word, t2⟩ rfl c12).ahead (l, listOf [Value.ref T2].toArray n12) ⟨Ne.symm (Nat.ne_of_lt (hl12 _ (.head _))), Ne.symm (Nat.ne_of_lt (hl12 _ (.tail _ (.head _)))), Ne.symm (Nat.ne_of_lt (hl12 _ (.tail _ (.tail _ (.head _))))), Ne.symm (Nat.ne_of_lt (hl12 _ (.tail _ (.tail _ (.tail _ (.head _))))))⟩
  obtain ⟨h12, g12, d12, tk12, os12⟩ := s'
  clear N11 F11
  dsimp only at O4 N12 o12 ⊢
  (iterate 19 (walk1))
  rename_i h13 F13 N13
  refine kso_call (K := hd.heap_39 P) (by show un + 3 + 1 + 1 < cLine; lia) (X'.keeps F13.keep) (InstAt.of_acc N13 (.head _) (.tail _ (.head _))) (st178 P) (fn152 P) ?_
  refine strA P O4 B' F13 X' N13 T' (by rfl) G12 (by show dp + 1 + 3 < recursionLimit; lia) (by show un + 3 + 1 + 1 + 20 * 3 < cLine; lia) ?_
  rintro r news' s' ⟨t14, ps14, rfl, rfl, O5⟩ F14 N14 G14 o14
  obtain ⟨h14, g14, d14, tk14, os14⟩ := s'
  clear F13 N13
  dsimp only [PySem.W.StrBack] at O5 N14 o14 ⊢
  (walk1)
  generalize atext f.a.parts = text at *
  have q1 := (O5.sep (f.ll, f.lobj) (.tail _ (.tail _ (.head _))))
  have q2 : l ≠ f.ll := Ne.symm (Nat.ne_of_lt (hl12 _ (.tail _ (.tail _ (.tail _ (.tail _ (.tail _ (.head _))))))))
  have q3 : T2 ≠ f.ll := Ne.symm (Nat.ne_of_lt (hT2 _ (.tail _ (.tail _ (.tail _ (.tail _ (.head _)))))))
  have eL : (strsV f.lines).toArray.push (.str text t14) = (strsV (f.lines ++ [(text, t14)])).toArray := by simp [strsV]
  have hfl := O.few
  refine append_K F14 N14 (.tail (Ne.symm q1.1) (.tail (Ne.symm q1.2.1) (.tail (Ne.symm q1.2.2.1) (.tail (Ne.symm q1.2.2.2) (.tail q2 (.tail q3 (.head fun p hp => ?_))))))) ?_ (by rw [List.size_toArray, List.length_map, sizeLine_eq]; lia)
  · rcases List.mem_cons.mp hp with rfl | hp
    · exact O.dl.1
    rcases List.mem_cons.mp hp with rfl | hp
    · exact O.dl.2
    · exact O.sep p hp
  rw [eL]
  intro h15 F15 N15
  clear F14 N14
  have O6 := AS.Ok.swap (pre := [(l, _), (T2, _)]) (o' := listOf (strsV (f.lines ++ [(text, t14)])).toArray (f.lc + 1)) O5 rfl
  dsimp only [List.cons_append, List.nil_append] at O6
  (iterate 12 (walk1))
  refine reset_does P O6 l ⟨T2, " ", t1, word, t2⟩ n12 (.head _) B' (by assumption) X' (by assumption) T' (by rfl) G14 (by show dp + 1 + 3 < recursionLimit; lia) (by show un + 3 + 20 * 3 < cLine; lia) ?_
  rintro r news' s' ⟨c16, hs16, tk16, tn16, kk16, rfl, rfl⟩ F16 N16 G16 o16
  obtain ⟨h16, g16, d16, tkk16, os16⟩ := s'
  clear N15
  (try k_unmd); (try k_fold)
  k_steps -- 1 goals UWWW
  rename_i F17 N17 T17 X17
  refine hQ _ _ _ ⟨rfl, { f with a := { f.a with parts := [⟨T2, " ", t1, word, t2⟩], n := 0, cap := c16, hs := hs16, tk := tk16, tn := tn16, kk := kk16, ps := ps7, ps' := ps14 }, lines := f.lines ++ [(text, t14)], lc := f.lc + 1 }, (l, listOf [Value.ref T2].toArray n12) :: (T2, Part.obj ⟨T2, " ", t1, word, t2⟩) :: rest, rfl, ?_, fun p hp => .tail _ (.tail _ hp), rfl, rfl, ⟨rfl, rfl, ?_⟩⟩ F17 (news_sub N17 fun p hp => perm45 hp) G16 ?_
  · exact { acc := AS.Ok.lone O6 (fun p hp => perm5 hp) ⟨T2, " ", t1, word, t2⟩ (.tail _ (.tail _ (.tail _ (.tail _ (.head _))))) (by show (((" " : Str).length : Nat) : Int) + word.length < 1000; have : ((" " : Str).length : Nat) = 1 := rfl; lia) c16 hs16 tk16 tn16 kk16
            mem := fun q hq => by rw [List.mem_singleton.mp hq]; exact .tail _ (.head _)
            sep := fun p hp => by
              rcases List.mem_cons.mp hp with rfl | hp
              · exact q2
              rcases List.mem_cons.mp hp with rfl | hp
              · exact q3
              · exact O.sep p hp
            dl := O.dl
            few := by
              show (f.lines ++ [(text, t14)]).length < 1000
              rw [List.length_append]; exact hll }
  · show (f.lines ++ [(text, t14)]).map (·.1) = _
    rw [List.map_append]; rfl
  · exact o16.trans (o14.trans (o12.trans (o9.trans (o7.trans o6))))
end
section
open PySem PySem.W PySem.Calls PyProof.Rows
theorem perm5' {α : Type} {p a b c d e : α} {l : List α} (h : p ∈ a :: b :: c :: d :: e :: l) : p ∈ c :: d :: e :: a :: b :: l := swp [] [a, b] [c, d, e] h
theorem perm6 {α : Type} {p a b b2 c d e : α} {l : List α} (h : p ∈ c :: d :: e :: a :: b :: b2 :: l) : p ∈ a :: b :: b2 :: c :: d :: e :: l := swp [] [c, d, e] [a, b, b2] h
theorem perm6' {α : Type} {p a b b2 c d e : α} {l : List α} (h : p ∈ a :: b :: b2 :: c :: d :: e :: l) : p ∈ c :: d :: e :: a :: b :: b2 :: l := swp [] [a, b, b2] [c, d, e] h
theorem perm46 {α : Type} {p a b b2 c d e x y z w : α} {l : List α} (h : p ∈ x :: y :: z :: w :: c :: d :: e :: a :: b :: b2 :: l) : p ∈ x :: y :: z :: w :: a :: b :: b2 :: c :: d :: e :: l := swp [x, y, z, w] [c, d, e] [a, b, b2] h
theorem append_lone (P : Params) {f : FS} {rest : List (Addr × Obj)} (O : f.Ok P rest) (word : Str) (t1 t2 : Tok) (hsm : f.a.n + plen f.a.parts + (1 + word.length) < 1000) (hll : f.lines.length + 1 < 1000)
    (hfit : f.d.w < f.a.n + plen f.a.parts + (1 + word.length)) (he : f.a.parts = []) :
    Does P 16 91 [.ref f.v, .str " " t1, .str word t2] (f.led rest) (fun r news' _ => r = .none ∧ Goes P f rest 0 [((" " : Str), word)] (if 0 < f.a.n then f.lines.map (·.1) ++ [("" : Str)] else f.lines.map (·.1)) news') := by
  intro w dp un gd cn cs L ad ccd cl outer A₀ base h₀ m mg mb s Q E pp loose mean B F X N T hk G hroom hunits hQ
  obtain ⟨h, g, d, t, os⟩ := s
  refine wpAny_call ?_
  k_dflt cell_enter
  rename_i g' L' h' FG' F' N' B' X' T'
  (iterate 15 (walk1))
  have hfw : f.a.parts.length + 1 < 1000 := by rw [he]; decide
  refine push_does P O.acc " " word t1 t2 (by show f.a.n + plen f.a.parts + (1 + word.length) < 1000; exact hsm) hfw B' F' X' N' T' (by rfl) G (by show dp + 1 + 3 < recursionLimit; lia) (by show un + 3 + 20 * 3 < cLine; lia) ?_
  rintro r news' s' ⟨T2, rfl, hT2, rfl⟩ F6 N6 G6 o6
  have O2 := O.acc.push ⟨T2, " ", t1, word, t2⟩ hT2 (f.a.cap + 1) hsm hfw
  obtain ⟨h6, g6, d6, tk6, os6⟩ := s'
  clear F' N'
  have hpl : plen (f.a.parts ++ [⟨T2, " ", t1, word, t2⟩]) = plen f.a.parts + (1 + word.length) := by rw [plen_append, plen_one]; rfl
  have ha0 := O.acc.n0
  have hpA := plen_nonneg f.a.parts
  (try k_unmd); (try k_fold)
  (iterate 11 (walk1))
  refine PySem.W.len_K F6 X' (InstAt.of_acc N6 (.head _) (.tail _ (.head _))) (le178 P) (fn145 P) ?_
  refine lenA P O2 B' F6 X' N6 T' (by rfl) G6 (by show dp + 1 + 3 < recursionLimit; lia) (by show un + 3 + 1 + 20 * 3 < cLine; lia) ?_
  rintro r news' s' ⟨t7, ps7, rfl, rfl, O3⟩ F7 N7 G7 o7
  obtain ⟨h7, g7, d7, tk7, os7⟩ := s'
  clear F6 N6
  dsimp only at O3 N7 o7 ⊢
  rw [hpl]
  refine ⟨⟨by lia, by lia⟩, ?_⟩
  (try k_unmd); (try k_fold)
  (iterate 8 (walk1))
  refine wpAny_For ?_ (by intro _; rfl)
  (try k_unmd); (try k_fold)
  (iterate 3 (walk1))
  refine wpAny_pyIter_strU ?_
  have hL7 := F7.ns.lt
  have hI7 : ∀ b ∈ [h7.objs.size], g'.get? b = none := fun b hb => by
    rw [List.mem_singleton.mp hb]
    cases hq : g'.get? h7.objs.size with
    | none => rfl
    | some o => exact absurd (Heap.lt_size (F7.keep _ _ hq)) (Nat.lt_irrefl _)
  have hIt : strIterType (" " : Str) = "str_ascii_iterator" := by decide +kernel
  have hst7 : (h7.push { cls := .type (strIterType (" " : Str)), data := .fields #[.str " " f.d.t4, .int 0 0] }).IsStrIter h7.objs.size "str_ascii_iterator" " " f.d.t4 0 := ⟨_, Heap.get?_push_size _ rfl, by rw [hIt], rfl⟩
  refine forLoop_item (Walks.strAscii (by rfl) h7.objs.size " " f.d.t4) (i := 0) (by decide) hst7 (by rfl) (by rfl) (F7.push _) (N7.grown fun _ _ e => Heap.get?_push_of_some _ e) (fun hm => Nat.lt_irrefl _ ((List.mem_singleton.mp hm) ▸ hL7)) hI7 (fun p hp hm => Nat.lt_irrefl _ ((List.mem_singleton.mp hm) ▸ Heap.lt_size (N7 p hp).1)) ?_
  intro v h8 tk8 hv hst8 F8 N8
  obtain ⟨c, t8, hc, rfl⟩ := hv
  obtain rfl : c = 32 := by
    have : (" " : Str).cps[0]? = some 32 := rfl
    rw [this] at hc
    exact (Option.some.inj hc).symm
  obtain ⟨oI, hoI, hcI, hdI⟩ := hst8
  have hIL : h7.objs.size ≠ L' := Ne.symm (Nat.ne_of_lt hL7)
  have hIn := hI7 _ (.head _)
  have hIlt : ∀ p ∈ ({ f.a with parts := f.a.parts ++ [⟨T2, " ", t1, word, t2⟩], cap := f.a.cap + 1, ps := ps7 } : AS).led ((T2, Part.obj ⟨T2, " ", t1, word, t2⟩) :: f.tl rest), p.1 < h7.objs.size := fun p hp => Heap.lt_size (N7 p hp).1
  generalize h7.objs.size = I at *
  have N8I : News g' L' h8 ((I, oI) :: ({ f.a with parts := f.a.parts ++ [⟨T2, " ", t1, word, t2⟩], cap := f.a.cap + 1, ps := ps7 } : AS).led ((T2, Part.obj ⟨T2, " ", t1, word, t2⟩) :: f.tl rest)) := fun p hp => by
    rcases List.mem_cons.mp hp with rfl | hp
    · exact ⟨hoI, hIL, hIn⟩
    · exact N8 p hp
  have O3I := O3.ahead (I, oI) ⟨Ne.symm (Nat.ne_of_lt (hIlt _ (.head _))), Ne.symm (Nat.ne_of_lt (hIlt _ (.tail _ (.head _)))), Ne.symm (Nat.ne_of_lt (hIlt _ (.tail _ (.tail _ (.head _))))), Ne.symm (Nat.ne_of_lt (hIlt _ (.tail _ (.tail _ (.tail _ (.head _))))))⟩
  have N8J := news_sub N8I (fun p hp => led_front p hp)
  clear N8 N8I
  clear N7
  (walk1)
  refine wpAny_For ?_ (by intro _; rfl)
  (try k_unmd); (try k_fold)
  (iterate 11 (walk1))
  refine part_count_does P O3I B' (by assumption) X' (by assumption) T' (by rfl) G7 (by show dp + 1 + 3 < recursionLimit; lia) (by show un + 3 + 20 * 3 < cLine; lia) ?_
  rintro r news' s' ⟨t9, rfl, rfl⟩ F9 N9 G9 o9
  obtain ⟨h9, g9, d9, tk9, os9⟩ := s'
  clear F8 N8J
  dsimp only at N9 o9 ⊢
  (try k_unmd); (try k_fold)
  (iterate 10 (walk1))
  rename_i h10 tk10 x10 y10 z10 HR10 F10 N10 K10
  have hn1 : ((f.a.parts ++ [(⟨T2, " ", t1, word, t2⟩ : Part)]).length : Int) - 1 = ((0 : Nat) : Int) := by rw [List.length_append, he]; rfl
  rw [hn1] at HR10
  refine wpAny_pyIter_range HR10 (rsmall 0 (by lia)) ?_
  rw [rsize]
  have hL10 := F10.ns.lt
  have hI10 : ∀ b ∈ [h10.objs.size], g'.get? b = none := fun b hb => by
    rw [List.mem_singleton.mp hb]
    cases hq : g'.get? h10.objs.size with
    | none => rfl
    | some o => exact absurd (Heap.lt_size (F10.keep _ _ hq)) (Nat.lt_irrefl _)
  refine forLoop_done (Walks.range (by rfl) h10.objs.size 0 (-1) 0) (Heap.get?_push_size _ rfl) (F10.push _) (N10.grown fun _ _ e => Heap.get?_push_of_some _ e) (fun hm => Nat.lt_irrefl _ ((List.mem_singleton.mp hm) ▸ hL10)) hI10 (fun p hp hm => Nat.lt_irrefl _ ((List.mem_singleton.mp hm) ▸ Heap.lt_size (N10 p hp).1)) ?_
  intro h11 tk11 F11 N11
  clear N10 F10
  (try k_unmd); (try k_fold)
  (iterate 2 (walk1))
  dsimp only
  have hst12 : h11.IsStrIter I "str_ascii_iterator" " " f.d.t4 1 := ⟨oI, (N11 _ (.tail _ (.tail _ (.tail _ (.tail _ (.head _)))))).1, hcI, hdI⟩
  have hltI : ∀ p ∈ ({ f.a with parts := f.a.parts ++ [⟨T2, " ", t1, word, t2⟩], cap := f.a.cap + 1, ps := ps7 } : AS).led ((T2, Part.obj ⟨T2, " ", t1, word, t2⟩) :: f.tl rest), p.1 ∉ [I] := fun p hp hm => Nat.lt_irrefl _ ((List.mem_singleton.mp hm) ▸ hIlt p hp)
  have N12 : News g' L' h11 (({ f.a with parts := f.a.parts ++ [⟨T2, " ", t1, word, t2⟩], cap := f.a.cap + 1, ps := ps7 } : AS).led ((T2, Part.obj ⟨T2, " ", t1, word, t2⟩) :: f.tl rest)) := news_sub N11 fun p hp => by
    simp only [AS.led, List.mem_cons] at hp ⊢
    rcases hp with h | h | h | h | h <;> simp [h]
  refine forLoop_done (Walks.strAscii (by rfl) I " " f.d.t4) hst12 F11 N12 (fun hm => hIL ((List.mem_singleton.mp hm).symm)) (fun b hb => (List.mem_singleton.mp hb) ▸ hIn) hltI ?_
  intro h13 tk13 F13 N13
  clear F11 N11 N12
  (try k_unmd); (try k_fold)
  (iterate 8 (walk1))
  refine popX_some P O3 f.a.parts ⟨T2, " ", t1, word, t2⟩ rfl B' F13 X' N13 T' (by rfl) G9 (by show dp + 1 + 6 < recursionLimit; lia) (by show un + 3 + 20 * 6 < cLine; lia) ?_
  rintro r news' s' ⟨D, c14, t14, t14', rfl, rfl, O4⟩ F14 N14 G14 o14
  obtain ⟨h14, g14, d14, tk14, os14⟩ := s'
  clear F13 N13
  dsimp only at O4 N14 o14 ⊢
  have q3 : T2 ≠ f.ll := Ne.symm (Nat.ne_of_lt (hT2 _ (.tail _ (.tail _ (.tail _ (.tail _ (.head _)))))))
  have q2 : D ≠ f.ll := news_ne N14 (.tail _ (.tail _ (.tail _ (.tail _ (.head _))))) (.tail _ (.tail _ (.tail _ (.tail _ (.tail _ (.tail _ (.head _))))))) (show Value.type "tuple" ≠ Value.type "list" from by decide)
  (try k_unmd); (try k_fold)
  iterate 15 (walk1)
  refine getAttr_acc (P := P) (by assumption) X' (by assumption) (.head _) (.tail _ (.head _)) (by kernel_rfl) (by rfl) (by rfl) ?_
  have hp0 : plen [] = 0 := rfl
  have hs0 : ((("" : Str).length : Nat) : Int) = 0 := rfl
  have hs1 : (((" " : Str).length : Nat) : Int) = 1 := rfl
  have hpe : plen f.a.parts = 0 := by rw [he]; rfl
  (try k_unmd); (try k_fold)
  iterate 3 (walk1)
  walk1
  · have hpos : 0 < f.a.n := by first | assumption | lia
    iterate 6 (walk1)
    have O9 : ({ f with a := { f.a with parts := f.a.parts, cap := c14, ps := ps7 } } : FS).Ok P ((D, Part.obj ⟨D, " ", t14, word, t14'⟩) :: (T2, Part.obj ⟨T2, " ", t1, word, t2⟩) :: rest) :=
      { acc := O4.perm (fun p hp => perm5' hp) (fun p hp => perm5 hp)
        mem := fun q hq => by
          have hq' : q ∈ f.a.parts := hq
          rw [he] at hq'; cases hq'
        sep := fun p hp => by
          rcases List.mem_cons.mp hp with rfl | hp
          · exact q2
          rcases List.mem_cons.mp hp with rfl | hp
          · exact q3
          · exact O.sep p hp
        dl := O.dl
        few := O.few }
    refine newline_does P O9 [] "" "" (popX_none P O9.acc he) (by decide) (by decide +kernel) (by decide +kernel) (by dsimp only; rw [hp0, hs0]; lia) (by decide) (by dsimp only; rw [hp0, hs0]; lia) (by decide +kernel) hll B' (by assumption) X' (news_sub (by assumption) fun p hp => perm45 hp) T' (by rfl) G14 (by show dp + 1 + 12 < recursionLimit; lia) (by show un + 3 + 20 * 12 < cLine; lia) ?_
    rintro r news' s' ⟨⟨a9, d9, v9, dv9, ll9, ls9, lc9⟩, rest9, t15, rfl, rfl, O10, hsub, hv9, hd9, hn9, hp9, hl9⟩ F15 N15 G15 o15
    obtain ⟨h15, g15, d15, tk15, os15⟩ := s'
    dsimp only at hv9 hd9 hn9 hp9 hl9 N15 O10 o15 ⊢
    subst hv9 hd9
    (try k_unmd); (try k_fold)
    k_steps
    rotate_left
    · exfalso
      have hz : ((({ T := D, f := (" " : Str), t1 := t14, p := word, t2 := t14' } : Part).f.length : Nat) : Int) = 0 := by assumption
      exact absurd (show (((" " : Str).length : Nat) : Int) = 0 from hz) (by decide)
    have hpl9 : plen a9.parts = 0 := by rw [hp9]; rfl
    have hs9 : a9.n + plen a9.parts + ((((" " : Str).length : Nat) : Int) + word.length) < 1000 := by rw [hn9, hpl9, hs1]; lia
    have hf9 : a9.parts.length + 1 < 1000 := by rw [hp9]; decide
    refine push_does P O10.acc " " word t14 t14' hs9 hf9 B' (by assumption) X' (by assumption) T' (by rfl) G15 (by show dp + 1 + 3 < recursionLimit; lia) (by show un + 3 + 20 * 3 < cLine; lia) ?_
    rintro r news' s' ⟨T3, rfl, hT3, rfl⟩ F16 N16 G16 o16
    obtain ⟨h16, g16, d16, tk16, os16⟩ := s'
    dsimp only at N16 o16 ⊢
    (try k_unmd); (try k_fold)
    k_steps
    rename_i F17 N17 T17 X17
    refine hQ _ _ _ ⟨rfl, ⟨{ a9 with parts := a9.parts ++ [⟨T3, " ", t14, word, t14'⟩], cap := a9.cap + 1 }, f.d, f.v, dv9, ll9, ls9, lc9⟩, (T3, Part.obj ⟨T3, " ", t14, word, t14'⟩) :: rest9, rfl, ?_, fun p hp => .tail _ (hsub p (.tail _ (.tail _ hp))), rfl, rfl, ⟨hn9, ?_, ?_⟩⟩ F17 (news_sub N17 fun p hp => perm44 hp) G16 (o16.trans (o15.trans (o14.trans (o9.trans (o7.trans o6)))))
    · exact { acc := (O10.acc.push ⟨T3, " ", t14, word, t14'⟩ hT3 (a9.cap + 1) hs9 hf9).perm (fun p hp => perm4' hp) (fun p hp => perm4 hp)
              mem := fun q hq => by
                rcases List.mem_append.mp hq with h | h
                · exact .tail _ (O10.mem q h)
                · rw [List.mem_singleton.mp h]; exact .head _
              sep := fun p hp => by
                rcases List.mem_cons.mp hp with rfl | hp
                · exact Ne.symm (Nat.ne_of_lt (hT3 _ (.tail _ (.tail _ (.tail _ (.tail _ (.head _)))))))
                · exact O10.sep p hp
              dl := O10.dl
              few := O10.few }
    · show ptx (a9.parts ++ _) = _
      rw [hp9]; rfl
    · rw [if_pos hpos]
      show ls9.map (·.1) = _
      rw [hl9, List.map_append]
      exact congrArg (fun z => f.lines.map (·.1) ++ [z]) (by first | rfl | decide +kernel)
  · have hneg : ¬ (0 < f.a.n) := by first | assumption | lia
    have hn0 : f.a.n = 0 := by lia
    (try k_unmd); (try k_fold)
    k_steps
    have hs9 : f.a.n + plen f.a.parts + ((((" " : Str).length : Nat) : Int) + word.length) < 1000 := by rw [hs1]; exact hsm
    refine push_does P O4 " " word t14 t14' hs9 hfw B' (by assumption) X' (by assumption) T' (by rfl) G14 (by show dp + 1 + 3 < recursionLimit; lia) (by show un + 3 + 20 * 3 < cLine; lia) ?_
    rintro r news' s' ⟨T3, rfl, hT3, rfl⟩ F16 N16 G16 o16
    obtain ⟨h16, g16, d16, tk16, os16⟩ := s'
    dsimp only at N16 o16 ⊢
    (try k_unmd); (try k_fold)
    k_steps
    rename_i F17 N17 T17 X17
    refine hQ _ _ _ ⟨rfl, { f with a := { f.a with parts := f.a.parts ++ [⟨T3, " ", t14, word, t14'⟩], cap := c14 + 1, ps := ps7 } }, (T3, Part.obj ⟨T3, " ", t14, word, t14'⟩) :: (D, Part.obj ⟨D, " ", t14, word, t14'⟩) :: (T2, Part.obj ⟨T2, " ", t1, word, t2⟩) :: rest, rfl, ?_, fun p hp => .tail _ (.tail _ (.tail _ hp)), rfl, rfl, ⟨hn0, ?_, ?_⟩⟩ F17 (news_sub N17 fun p hp => perm46 hp) G16 (o16.trans (o14.trans (o9.trans (o7.trans o6))))
    · exact { acc := (O4.push ⟨T3, " ", t14, word, t14'⟩ hT3 (c14 + 1) hs9 hfw).perm (fun p hp => perm6' hp) (fun p hp => perm6 hp)
              mem := fun q hq => by
                have hq' : q ∈ f.a.parts ++ [⟨T3, " ", t14, word, t14'⟩] := hq
                rw [he, List.nil_append, List.mem_singleton] at hq'
                rw [hq']; exact .head _
              sep := fun p hp => by
                rcases List.mem_cons.mp hp with rfl | hp
                · exact Ne.symm (Nat.ne_of_lt (hT3 _ (.tail _ (.tail _ (.tail _ (.tail _ (.tail _ (.tail _ (.head _)))))))))
                rcases List.mem_cons.mp hp with rfl | hp
                · exact q2
                rcases List.mem_cons.mp hp with rfl | hp
                · exact q3
                · exact O.sep p hp
              dl := O.dl
              few := O.few }
    · show ptx (f.a.parts ++ _) = _
      rw [he]; rfl
    · rw [if_neg hneg]
end
end
section
open PySem PySem.W PySem.Calls PyProof.Rows
-- a map of names, a few of them told
def over (l : List (Str × Value)) (m : Str → Option Value) : Str → Option Value := fun y => match l.lookup y with | some v => some v | none => m y
def Told (m : Str → Option Value) : List (Str × Value) → Prop
  | [] => True
  | p :: l => m p.1 = some p.2 ∧ Told m l
theorem over_eq {m : Str → Option Value} : ∀ {l : List (Str × Value)}, Told m l → over l m = m
  | [], _ => rfl
  | p :: l, h => by
    funext y
    have ih := congrFun (over_eq h.2) y
    unfold over at *
    rw [List.lookup_cons]
    by_cases e : y = p.1
    · subst e
      rw [beq_self_eq_true]
      exact h.1.symm
    · rw [beq_false_of_ne e]
      exact ih
theorem frOver {h₀ h : Heap} {L : Addr} {m : Str → Option Value} (l : List (Str × Value)) (F : Fr h₀ L h m) (t : Told m l) : Fr h₀ L h (over l m) := by
  rw [over_eq t]; exact F
theorem list_item {prog : Program} {w : World} {A : Around} {E : Value → Shared → Prop} {s : Shared} {value slice : PySem.Expr} {l : Addr} {vs : List Value} {k : Int} {u : Tok} {v : Value} {Q : Value → Shared → Prop}
    (hl : s.heap.IsList l vs.toArray) (h0 : 0 ≤ k) (hhi : k < 2 ^ 63) (hx : vs[k.toNat]? = some v) (h : Q v s)
    (hs : subscripted slice false (.ref l) (.int k u) = operate [.ref l, .int k u] (getItem (.ref l) (.int k u)) := by with_unfolding_all rfl) :
    wpAny (model prog w) A (subscriptTail value slice (.ref l) (.int k u)) Q E s :=
  tail_any hl.typeIs slot_list_getitem.lookup (wpAny_getItem_list hl h0 hhi (by simpa using hx) h) hs
theorem ints_item {vs : List Value} {xs : List Int} (hi : IntsAre vs xs) {i : Nat} (h : i < xs.length) : ∃ t, vs[i]? = some (.int (xs.getD i 0) t) := by
  obtain ⟨t, ht⟩ := hi.get i xs[i] (by simp [h])
  exact ⟨t, by rw [ht]; simp [List.getD, h]⟩
theorem news_list {h₀ h : Heap} {L S : Addr} {vs : List Value} {n : Nat} {news : List (Addr × Obj)} (N : News h₀ L h news) (hm : (S, listOf vs.toArray n) ∈ news) : h.IsList S vs.toArray := ⟨_, (N _ hm).1, rfl, n, rfl⟩
def NextAt (J : Nat → Shared → Prop) (n : Nat) (s : Shared) : Prop := ∃ m, m < n ∧ J m s
theorem NextAt.intro {J : Nat → Shared → Prop} {n m : Nat} {s : Shared} (h : m < n) (j : J m s) : NextAt J n s := ⟨m, h, j⟩
-- a while loop by a measure; what a turn leaves is told whole
theorem while_any {prog : Program} {w : World} {A : Around} {E : Value → Shared → Prop} {s : Shared} {test : PySem.Expr} {body : List Stmt} {pos : Pos} {env : Env} {Q : Flow → Shared → Prop} (J : Nat → Shared → Prop) (n₀ : Nat) (h0 : J n₀ s)
    (turn : ∀ n s₁ E', J n s₁ → wpAny (model prog w) A (isTrue test env (eval test env)) (fun b s₂ => if b = true then wpAny (model prog w) A (execs body env) (fun f s₃ => match f with
        | .next | .cont => NextAt J n s₃
        | .brk => Q .next s₃
        | .ret v => Q (.ret v) s₃) E' s₂ else Q .next s₂) E' s₁) :
    wpAny (model prog w) A (exec (.While test body [] pos) env) Q E s := by
  refine wpAny_While (codeAny_whileLoop J ?_ n₀ h0)
  intro n s₁ j
  refine wpAny_mono (turn n s₁ _ j) (fun b s₂ h => ?_) fun _ _ e => e
  cases b with
  | false => exact wpAny_execs_nil h
  | true =>
    refine wpAny_mono h (fun f s₃ h3 => ?_) fun _ _ e => e
    cases f with
    | next => exact h3
    | cont => exact h3
    | brk => exact h3
    | ret v => exact h3
def ForNext (h₀ : Heap) (L I : Addr) (o : Obj) (J : (Str → Option Value) → List (Addr × Obj) → Prop) (os : OsState) (s : Shared) : Prop :=
  ∃ m news, Fr h₀ L s.heap m ∧ News h₀ L s.heap ((I, o) :: news) ∧ (∀ p ∈ news, p.1 ≠ I) ∧ J m news ∧ AllBare s.gens ∧ s.os = os
theorem ForNext.intro {h₀ : Heap} {L I : Addr} {o : Obj} {J : (Str → Option Value) → List (Addr × Obj) → Prop} {os : OsState} {s : Shared} {m : Str → Option Value} {news : List (Addr × Obj)}
    (F : Fr h₀ L s.heap m) (N : News h₀ L s.heap ((I, o) :: news)) (hI : ∀ p ∈ news, p.1 ≠ I) (j : J m news) (G : AllBare s.gens) (hos : s.os = os) : ForNext h₀ L I o J os s := ⟨m, news, F, N, hI, j, G, hos⟩
section
variable {prog : Program} {w : World} {A : Around} {E : Value → Shared → Prop}
theorem for_list_loop {R : Result → Shared → Prop} {x : Str} {px : Pos} {body : List Stmt} {env : Env} {h₀ : Heap} {l I : Addr} {its : List Value} {c : Nat} {os : OsState} (J : Nat → (Str → Option Value) → List (Addr × Obj) → Prop)
    (hh : A.handled = none) (hx : env.kindOf x = some .local) (hp : (env.scope.kind == .class || (env.scope.kind == .module && env.locals != env.globals)) = false)
    (hIl : l ≠ I) (hIL : I ≠ env.locals) (hlL : l ≠ env.locals) (hI0 : h₀.get? I = none)
    (hk : ∀ i m n, J i m n → (l, listOf its.toArray c) ∈ n)
    (turn : ∀ i v o m₁ news₁ h₁ g₁ d₁ tk₁ E', its[i]? = some v → o.cls = .type "list_iterator" → J i m₁ news₁ → (∀ p ∈ news₁, p.1 ≠ I) → Fr h₀ env.locals h₁ (fun y => if y = x then some v else m₁ y) → News h₀ env.locals h₁ ((I, o) :: news₁) → AllBare g₁ →
      wpAny (model prog w) A (execs body env) (fun f s₃ => match f with
        | .next | .cont => ForNext h₀ env.locals I o (J (i + 1)) os s₃
        | .brk => R (.ok .next) s₃
        | .ret v => R (.ok (.ret v)) s₃) E' ⟨h₁, g₁, d₁, tk₁, os⟩)
    (done : ∀ m₁ news₁ h₁ g₁ d₁ tk₁, J its.length m₁ news₁ → Fr h₀ env.locals h₁ m₁ → News h₀ env.locals h₁ news₁ → AllBare g₁ → R (.ok .next) ⟨h₁, g₁, d₁, tk₁, os⟩) :
    ∀ k i m₁ news₁ (s₁ : Shared), i + k = its.length → J i m₁ news₁ → s₁.heap.IsListIter I l i → Fr h₀ env.locals s₁.heap m₁ → News h₀ env.locals s₁.heap news₁ → (∀ p ∈ news₁, p.1 ≠ I) → AllBare s₁.gens → s₁.os = os →
      codeAny (model prog w) A (.forLoop (.Name x px) (.ref I) body [] env) R s₁ := by
  intro k
  have hLfp : env.locals ∉ [I, l] := fun hm => by
    rcases List.mem_cons.mp hm with e | hm
    · exact hIL e.symm
    · exact hlL (List.mem_singleton.mp hm).symm
  have hw : ∀ b ∈ [I], h₀.get? b = none := fun b hb => (List.mem_singleton.mp hb) ▸ hI0
  have W := Walks.list (prog := prog) (w := w) hh I l hIl its.toArray
  rw [show its.toArray.size = its.length from by simp] at W
  induction k with
  | zero =>
    intro i m₁ news₁ s₁ hi j it F N hn G hos
    obtain ⟨h₁, g₁, d₁, tk₁, os₁⟩ := s₁
    subst hos
    rw [Nat.add_zero] at hi
    subst hi
    have hl := news_list N (hk _ _ _ j)
    exact forLoop_done W ⟨it, hl⟩ F N hLfp hw (fun p hp hm => hn p hp (List.mem_singleton.mp hm)) fun h' tk F' N' => wpAny_execs_nil (done m₁ news₁ h' g₁ d₁ tk j F' N' G)
  | succ k ih =>
    intro i m₁ news₁ s₁ hi j it F N hn G hos
    obtain ⟨h₁, g₁, d₁, tk₁, os₁⟩ := s₁
    subst hos
    have hl := news_list N (hk _ _ _ j)
    refine forLoop_item W (i := i) (by lia) ⟨it, hl⟩ hx hp F N hLfp hw (fun p hp hm => hn p hp (List.mem_singleton.mp hm)) ?_
    intro v h' tk hv st F' N'
    obtain ⟨⟨o, ho, hc, hd⟩, hl'⟩ := st
    have hv' : its[i]? = some v := by simpa using hv
    have N2 : News h₀ env.locals h' ((I, o) :: news₁) := fun p hp => by
      rcases List.mem_cons.mp hp with rfl | hp
      · exact ⟨ho, hIL, hI0⟩
      · exact N' p hp
    refine wpAny_mono (turn i v o m₁ news₁ h' g₁ d₁ tk _ hv' hc j hn F' N2 G) (fun f s₃ h3 => ?_) fun _ _ e => e
    cases f with
    | brk => exact h3
    | ret v => exact h3
    | next =>
      obtain ⟨m₂, news₂, F2, N2, hn2, j2, G2, o2⟩ := h3
      exact ih (i + 1) m₂ news₂ s₃ (by lia) j2 ⟨o, (N2 _ (.head _)).1, hc, hd⟩ F2 (fun p hp => N2 p (.tail _ hp)) hn2 G2 o2
    | cont =>
      obtain ⟨m₂, news₂, F2, N2, hn2, j2, G2, o2⟩ := h3
      exact ih (i + 1) m₂ news₂ s₃ (by lia) j2 ⟨o, (N2 _ (.head _)).1, hc, hd⟩ F2 (fun p hp => N2 p (.tail _ hp)) hn2 G2 o2
-- a for loop over a list that the ledger holds; a turn may do whatever it does
theorem for_list {R : Result → Shared → Prop} {x : Str} {px : Pos} {body : List Stmt} {env : Env} {h₀ : Heap} {l : Addr} {its : List Value} {c : Nat} {h : Heap} {g : Array GenState} {d : Drawn} {tk : Nat} {os : OsState} {m : Str → Option Value} {news : List (Addr × Obj)} (J : Nat → (Str → Option Value) → List (Addr × Obj) → Prop)
    (F : Fr h₀ env.locals h m) (N : News h₀ env.locals h news) (G : AllBare g) (j0 : J 0 m news)
    (hk : ∀ i m n, J i m n → (l, listOf its.toArray c) ∈ n)
    (turn : ∀ I i v o m₁ news₁ h₁ g₁ d₁ tk₁ E', its[i]? = some v → o.cls = .type "list_iterator" → J i m₁ news₁ → (∀ p ∈ news₁, p.1 ≠ I) → (∀ p ∈ news, p.1 < I) → Fr h₀ env.locals h₁ (fun y => if y = x then some v else m₁ y) → News h₀ env.locals h₁ ((I, o) :: news₁) → AllBare g₁ →
      wpAny (model prog w) A (execs body env) (fun f s₃ => match f with
        | .next | .cont => ForNext h₀ env.locals I o (J (i + 1)) os s₃
        | .brk => R (.ok .next) s₃
        | .ret v => R (.ok (.ret v)) s₃) E' ⟨h₁, g₁, d₁, tk₁, os⟩)
    (done : ∀ m₁ news₁ h₁ g₁ d₁ tk₁, J its.length m₁ news₁ → Fr h₀ env.locals h₁ m₁ → News h₀ env.locals h₁ news₁ → AllBare g₁ → R (.ok .next) ⟨h₁, g₁, d₁, tk₁, os⟩)
    (hh : A.handled = none := by rfl) (hx : env.kindOf x = some .local := by rfl) (hp : (env.scope.kind == .class || (env.scope.kind == .module && env.locals != env.globals)) = false := by rfl) :
    wpAny (model prog w) A (pyIter (.ref l)) (fun it s₂ => codeAny (model prog w) A (.forLoop (.Name x px) it body [] env) R s₂) E ⟨h, g, d, tk, os⟩ := by
  have hm := hk _ _ _ j0
  have hl := news_list N hm
  have hlt : l < h.objs.size := Heap.lt_size (N _ hm).1
  refine wpAny_pyIter_list hl ?_
  exact for_list_loop J hh hx hp (Nat.ne_of_lt hlt) (Ne.symm (Nat.ne_of_lt F.ns.lt)) (N _ hm).2.1 (next_is_new F) hk (fun i v o m₁ news₁ h₁ g₁ d₁ tk₁ E' a b c d' e f g' => turn h.objs.size i v o m₁ news₁ h₁ g₁ d₁ tk₁ E' a b c d' (fun p hp => Heap.lt_size (N p hp).1) e f g') done its.length 0 m news _ (by lia) j0 ⟨_, Heap.get?_push_size _ rfl, rfl, rfl⟩ (F.push _) (N.grown fun _ _ e => Heap.get?_push_of_some _ e) (fun p hp => Nat.ne_of_lt (Heap.lt_size (N p hp).1)) G rfl
end
end
section
open PySem PySem.W PySem.Calls PyProof.Rows
section
variable {prog : Program} {w : World} {A : Around} {E : Value → Shared → Prop}
theorem for_range_loop {R : Result → Shared → Prop} {x : Str} {px : Pos} {body : List Stmt} {env : Env} {h₀ : Heap} {I : Addr} {n : Nat} {os : OsState} (J : Nat → (Str → Option Value) → List (Addr × Obj) → Prop)
    (hh : A.handled = none) (hx : env.kindOf x = some .local) (hp : (env.scope.kind == .class || (env.scope.kind == .module && env.locals != env.globals)) = false)
    (hIL : I ≠ env.locals) (hI0 : h₀.get? I = none)
    (turn : ∀ i t o m₁ news₁ h₁ g₁ d₁ tk₁ E', i < n → o.cls = .type "range_iterator" → J i m₁ news₁ → (∀ p ∈ news₁, p.1 ≠ I) → Fr h₀ env.locals h₁ (fun y => if y = x then some (.int (i : Int) t) else m₁ y) → News h₀ env.locals h₁ ((I, o) :: news₁) → AllBare g₁ →
      wpAny (model prog w) A (execs body env) (fun f s₃ => match f with
        | .next | .cont => ForNext h₀ env.locals I o (J (i + 1)) os s₃
        | .brk => R (.ok .next) s₃
        | .ret v => R (.ok (.ret v)) s₃) E' ⟨h₁, g₁, d₁, tk₁, os⟩)
    (done : ∀ m₁ news₁ h₁ g₁ d₁ tk₁, J n m₁ news₁ → Fr h₀ env.locals h₁ m₁ → News h₀ env.locals h₁ news₁ → AllBare g₁ → R (.ok .next) ⟨h₁, g₁, d₁, tk₁, os⟩) :
    ∀ k i m₁ news₁ (s₁ : Shared), i + k = n → J i m₁ news₁ → IsRangeIter s₁.heap I (0 + (i : Int) * 1) ((n : Int) - i) 1 → Fr h₀ env.locals s₁.heap m₁ → News h₀ env.locals s₁.heap news₁ → (∀ p ∈ news₁, p.1 ≠ I) → AllBare s₁.gens → s₁.os = os →
      codeAny (model prog w) A (.forLoop (.Name x px) (.ref I) body [] env) R s₁ := by
  intro k
  have hLfp : env.locals ∉ [I] := fun hm => hIL (List.mem_singleton.mp hm).symm
  have hw : ∀ b ∈ [I], h₀.get? b = none := fun b hb => (List.mem_singleton.mp hb) ▸ hI0
  have W := Walks.range (prog := prog) (w := w) hh I 0 1 n
  induction k with
  | zero =>
    intro i m₁ news₁ s₁ hi j it F N hn G hos
    obtain ⟨h₁, g₁, d₁, tk₁, os₁⟩ := s₁
    subst hos
    rw [Nat.add_zero] at hi
    subst hi
    exact forLoop_done W it F N hLfp hw (fun p hp hm => hn p hp (List.mem_singleton.mp hm)) fun h' tk F' N' => wpAny_execs_nil (done m₁ news₁ h' g₁ d₁ tk j F' N' G)
  | succ k ih =>
    intro i m₁ news₁ s₁ hi j it F N hn G hos
    obtain ⟨h₁, g₁, d₁, tk₁, os₁⟩ := s₁
    subst hos
    refine forLoop_item W (i := i) (by lia) it hx hp F N hLfp hw (fun p hp hm => hn p hp (List.mem_singleton.mp hm)) ?_
    intro v h' tk hv st F' N'
    obtain ⟨t, rfl⟩ := hv
    rw [show (0 : Int) + (i : Int) * 1 = (i : Int) from by lia] at F'
    obtain ⟨o, ho, hc, hre⟩ : ∃ o, h'.get? I = some o ∧ o.cls = .type "range_iterator" ∧ (∀ h2 : Heap, h2.get? I = some o → IsRangeIter h2 I (0 + ((i + 1 : Nat) : Int) * 1) ((n : Int) - ((i + 1 : Nat) : Int)) 1) := ⟨_, st, rfl, fun h2 e => e⟩
    have N2 : News h₀ env.locals h' ((I, o) :: news₁) := fun p hp => by
      rcases List.mem_cons.mp hp with rfl | hp
      · exact ⟨ho, hIL, hI0⟩
      · exact N' p hp
    refine wpAny_mono (turn i t o m₁ news₁ h' g₁ d₁ tk _ (by lia) hc j hn F' N2 G) (fun f s₃ h3 => ?_) fun _ _ e => e
    cases f with
    | brk => exact h3
    | ret v => exact h3
    | next =>
      obtain ⟨m₂, news₂, F2, N2, hn2, j2, G2, o2⟩ := h3
      exact ih (i + 1) m₂ news₂ s₃ (by lia) j2 (hre _ (N2 _ (.head _)).1) F2 (fun p hp => N2 p (.tail _ hp)) hn2 G2 o2
    | cont =>
      obtain ⟨m₂, news₂, F2, N2, hn2, j2, G2, o2⟩ := h3
      exact ih (i + 1) m₂ news₂ s₃ (by lia) j2 (hre _ (N2 _ (.head _)).1) F2 (fun p hp => N2 p (.tail _ hp)) hn2 G2 o2
theorem rsize1 (n : Nat) : Builtin.Range.rangeSize 0 (n : Int) 1 = n := by
  unfold Builtin.Range.rangeSize
  simp
  try lia
theorem rsmall1 (n : Nat) (h : n < 1000) : Builtin.Range.small 0 (n : Int) 1 = true := by
  unfold Builtin.Range.small
  rw [rsize1]
  unfold Builtin.Range.rangeFitsLong
  simp
  lia
-- a for loop over range(n)
theorem for_range {R : Result → Shared → Prop} {x : Str} {px : Pos} {body : List Stmt} {env : Env} {h₀ : Heap} {r : Addr} {n : Nat} {t u v : Tok} {h : Heap} {g : Array GenState} {d : Drawn} {tk : Nat} {os : OsState} {m : Str → Option Value} {news : List (Addr × Obj)} (J : Nat → (Str → Option Value) → List (Addr × Obj) → Prop)
    (HR : IsRange h r 0 (n : Int) 1 t u v) (hn : n < 1000) (F : Fr h₀ env.locals h m) (N : News h₀ env.locals h news) (G : AllBare g) (j0 : J 0 m news)
    (turn : ∀ I i t o m₁ news₁ h₁ g₁ d₁ tk₁ E', i < n → o.cls = .type "range_iterator" → J i m₁ news₁ → (∀ p ∈ news₁, p.1 ≠ I) → (∀ p ∈ news, p.1 < I) → Fr h₀ env.locals h₁ (fun y => if y = x then some (.int (i : Int) t) else m₁ y) → News h₀ env.locals h₁ ((I, o) :: news₁) → AllBare g₁ →
      wpAny (model prog w) A (execs body env) (fun f s₃ => match f with
        | .next | .cont => ForNext h₀ env.locals I o (J (i + 1)) os s₃
        | .brk => R (.ok .next) s₃
        | .ret v => R (.ok (.ret v)) s₃) E' ⟨h₁, g₁, d₁, tk₁, os⟩)
    (done : ∀ m₁ news₁ h₁ g₁ d₁ tk₁, J n m₁ news₁ → Fr h₀ env.locals h₁ m₁ → News h₀ env.locals h₁ news₁ → AllBare g₁ → R (.ok .next) ⟨h₁, g₁, d₁, tk₁, os⟩)
    (hh : A.handled = none := by rfl) (hx : env.kindOf x = some .local := by rfl) (hp : (env.scope.kind == .class || (env.scope.kind == .module && env.locals != env.globals)) = false := by rfl) :
    wpAny (model prog w) A (pyIter (.ref r)) (fun it s₂ => codeAny (model prog w) A (.forLoop (.Name x px) it body [] env) R s₂) E ⟨h, g, d, tk, os⟩ := by
  refine wpAny_pyIter_range HR (rsmall1 n hn) ?_
  rw [rsize1]
  refine for_range_loop J hh hx hp (Ne.symm (Nat.ne_of_lt F.ns.lt)) (next_is_new F) (fun i t o m₁ news₁ h₁ g₁ d₁ tk₁ E' a b c d' e f g' => turn h.objs.size i t o m₁ news₁ h₁ g₁ d₁ tk₁ E' a b c d' (fun p hp => Heap.lt_size (N p hp).1) e f g') done n 0 m news _ (by lia) j0 ?_ (F.push _) (N.grown fun _ _ e => Heap.get?_push_of_some _ e) (fun p hp => Nat.ne_of_lt (Heap.lt_size (N p hp).1)) G rfl
  rw [show (0 : Int) + ((0 : Nat) : Int) * 1 = 0 from rfl, show (n : Int) - ((0 : Nat) : Int) = n from by lia]
  exact Heap.get?_push_size _ rfl
theorem list_range_led {h₀ : Heap} {L : Addr} {m : Str → Option Value} {s : Shared} {Q : Value → Shared → Prop} {r : Addr} {a b c : Int} {t u v : Tok} {n : Nat} {news : List (Addr × Obj)} (F : Fr h₀ L s.heap m) (N : News h₀ L s.heap news)
    (hr : IsRange s.heap r a b c t u v) (hsmall : Builtin.Range.small a b c = true) (hn : Builtin.Range.rangeSize a b c = (n : Int)) (hlen : n ≤ 2 ^ 24)
    (hQ : ∀ D h' tk (ys : List Value) k, Fr h₀ L h' m → News h₀ L h' ((D, listOf ys.toArray k) :: news) → (∀ p ∈ news, p.1 < D) → IntsAre ys (rangeInts a c n) → Q (.ref D) { s with heap := h', toks := tk })
    (hh : A.handled = none := by rfl) : wpAny (model prog w) A (call (.type "list") [.ref r]) Q E s := by
  refine list_rangeD (n := n) hh F N hr hsmall hn hlen fun h' tk ys F' N' hk hnew hl hpl hys => ?_
  obtain ⟨⟨k, hg⟩, -⟩ := hpl
  refine hQ _ h' tk ys k F' (fun p hp => ?_) (fun p hp => Heap.lt_size (N p hp).1) ?_
  · rcases List.mem_cons.mp hp with rfl | hp
    · exact ⟨hg, Ne.symm (Nat.ne_of_lt F.ns.lt), hnew⟩
    · exact N' p hp
  · have := CarriedAll.intsOf (as := rangeInts a c n) (f := fun x => x) hys
    rwa [List.map_id'] at this
end
end
section
open PySem PySem.W PySem.Calls PyProof.Rows
theorem intsAre_snoc {x : Int} {u : Tok} : ∀ {vs : List Value} {xs : List Int}, IntsAre vs xs → IntsAre (vs ++ [.int x u]) (xs ++ [x])
  | _, _, .nil => .cons x u .nil
  | _, _, .cons i t r => .cons i t (intsAre_snoc r)
end
section
open PySem PySem.W PySem.Calls PyProof.Rows
local macro_rules | `(tactic| cell_enter) => `(tactic| walk_at "my enter")
section
open PySem PySem.W PySem.Calls PyProof.Rows
inductive BisR (xs : List Int) (x : Int) (news : List (Addr × Obj)) (r : Value) (news' : List (Addr × Obj)) : Prop
  | mk (k : Nat) (t : Tok) (q1 : r = .int (k : Int) t) (q2 : news' = news) (q3 : k ≤ xs.length) (q4 : (∀ i, i < k → xs.getD i 0 ≤ x)) (q5 : (∀ i, k ≤ i → i < xs.length → x < xs.getD i 0)) : BisR xs x news r news'
inductive BisJ (g : Array GenState) (d : Drawn) (os : OsState) (g' : Heap) (L' S : Addr) (vs : List Value) (n : Nat) (rest : List (Addr × Obj)) (x : Int) (t : Tok) (xs : List Int) (nn : Nat) (s₁ : Shared) : Prop
  | mk (h1 : Heap) (tk1 : Nat) (m1 : Str → Option Value) (lo hh : Int) (tlo thi : Tok) (q1 : s₁ = ⟨h1, g, d, tk1, os⟩) (q2 : Fr g' L' h1 m1) (q3 : News g' L' h1 ((S, listOf vs.toArray n) :: rest)) (q4 : Told m1 [("lo", .int lo tlo), ("hi", .int hh thi), ("a", .ref S), ("x", .int x t)]) (q5 : 0 ≤ lo) (q6 : lo ≤ hh) (q7 : hh ≤ xs.length) (q8 : nn = (hh - lo).toNat) (q9 : (∀ i : Nat, (i : Int) < lo → xs.getD i 0 ≤ x)) (q10 : (∀ i : Nat, hh ≤ i → i < xs.length → x < xs.getD i 0)) : BisJ g d os g' L' S vs n rest x t xs nn s₁
theorem bisect_right0 (P : Params) {S : Addr} {vs : List Value} {xs : List Int} {n : Nat} {rest : List (Addr × Obj)} (hi : IntsAre vs xs) (x : Int) (t : Tok) (hlen : xs.length < 100) (hs : ∀ i j, i ≤ j → j < xs.length → xs.getD i 0 ≤ xs.getD j 0) :
    Does P 5 191 [.ref S, .int x t] ((S, listOf vs.toArray n) :: rest) (fun r news' _ => BisR xs x ((S, listOf vs.toArray n) :: rest) r news') := by
  intro w dp un gd cn cs L ad ccd cl outer A₀ base h₀ m mg mb s Q E pp loose mean B F X N T hk G hroom hunits hQ
  obtain ⟨h, g, d, tk, os⟩ := s
  refine wpAny_call ?_
  k_dflt cell_enter
  rename_i g' L' h' FG' F' N' B' X' T'
  iterate 40 (walk1)
  rename_i F2 N2
  have hvl : vs.length = xs.length := hi.length
  refine while_any (fun nn s₁ => BisJ g d os g' L' S vs n rest x t xs nn s₁) xs.length ⟨_, _, _, 0, xs.length, _, _, rfl, F2, N2, ⟨rfl, rfl, rfl, rfl, trivial⟩, Int.le_refl _, by lia, Int.le_refl _, by lia, fun i hi => by lia, fun i h1 h2 => by lia⟩ ?_
  clear F2 N2
  rintro nn s₁ E' ⟨h1, tk1, m1, lo, hh, tlo, thi, rfl, F1, N1, told, hl0, hl1, hl2, rfl, hlow, hhigh⟩
  have F2 := frOver _ F1 told
  clear F1
  have hl := news_list N1 (.head _)
  have hmid := Int.fdiv_eq_ediv_of_nonneg (lo + hh) (show (0 : Int) ≤ 2 by decide)
  k_steps
  · rename Fr _ _ _ _ => F9
    rename News _ _ _ _ => N9
    exact NextAt.intro (m := ((lo + hh).fdiv 2 - lo).toNat) (by lia) ⟨_, _, _, lo, (lo + hh).fdiv 2, _, _, rfl, F9, N9, ⟨rfl, rfl, rfl, rfl, trivial⟩, hl0, by lia, by lia, rfl, hlow, fun i h1 h2 => Int.lt_of_lt_of_le (by assumption) (hs _ i (by lia) h2)⟩
  · rename Fr _ _ _ _ => F9
    rename News _ _ _ _ => N9
    exact NextAt.intro (m := (hh - ((lo + hh).fdiv 2 + 1)).toNat) (by lia) ⟨_, _, _, (lo + hh).fdiv 2 + 1, hh, _, _, rfl, F9, N9, ⟨rfl, rfl, rfl, rfl, trivial⟩, by lia, by lia, by lia, rfl, fun i h1 => Int.le_trans (hs i ((lo + hh).fdiv 2).toNat (by lia) (by lia)) (Int.not_lt.mp (by assumption)), hhigh⟩
  · rename_i F9 N9 T9 X9
    exact hQ _ _ _ ⟨lo.toNat, tlo, by rw [Int.toNat_of_nonneg hl0], rfl, by lia, fun i h => hlow i (by lia), fun i h1 h2 => hhigh i (by lia) h2⟩ F9 N9 G rfl
theorem bisect_right_does (P : Params) {S : Addr} {vs : List Value} {xs : List Int} {n : Nat} {news : List (Addr × Obj)} (hS : (S, listOf vs.toArray n) ∈ news) (hi : IntsAre vs xs) (x : Int) (t : Tok) (hlen : xs.length < 100) (hs : ∀ i j, i ≤ j → j < xs.length → xs.getD i 0 ≤ xs.getD j 0) :
    Does P 5 191 [.ref S, .int x t] news (fun r news' _ => BisR xs x news r news') := by
  intro w dp un gd cn cs L ad ccd cl outer A₀ base h₀ m mg mb s Q E pp loose mean B F X N T hk G hroom hunits hQ
  refine bisect_right0 P (n := n) (rest := news) hi x t hlen hs B F X (news_sub N fun p hp => ?_) T hk G hroom hunits fun r n s' hr F' N' => ?_
  · rcases List.mem_cons.mp hp with rfl | h
    · exact hS
    · exact h
  · obtain ⟨k, t, rfl, rfl, h1, h2, h3⟩ := hr
    exact hQ _ _ _ ⟨k, t, rfl, rfl, h1, h2, h3⟩ F' (news_sub N' fun p hp => .tail _ hp)
end
section
open PySem PySem.W PySem.Calls PyProof.Rows
inductive BislR (xs : List Int) (x : Int) (news : List (Addr × Obj)) (r : Value) (news' : List (Addr × Obj)) : Prop
  | mk (k : Nat) (t : Tok) (q1 : r = .int (k : Int) t) (q2 : news' = news) (q3 : k ≤ xs.length) (q4 : (∀ i, i < k → xs.getD i 0 < x)) (q5 : (∀ i, k ≤ i → i < xs.length → x ≤ xs.getD i 0)) : BislR xs x news r news'
inductive BislJ (g : Array GenState) (d : Drawn) (os : OsState) (g' : Heap) (L' S : Addr) (vs : List Value) (n : Nat) (rest : List (Addr × Obj)) (x : Int) (t : Tok) (xs : List Int) (nn : Nat) (s₁ : Shared) : Prop
  | mk (h1 : Heap) (tk1 : Nat) (m1 : Str → Option Value) (lo hh : Int) (tlo thi : Tok) (q1 : s₁ = ⟨h1, g, d, tk1, os⟩) (q2 : Fr g' L' h1 m1) (q3 : News g' L' h1 ((S, listOf vs.toArray n) :: rest)) (q4 : Told m1 [("lo", .int lo tlo), ("hi", .int hh thi), ("a", .ref S), ("x", .int x t)]) (q5 : 0 ≤ lo) (q6 : lo ≤ hh) (q7 : hh ≤ xs.length) (q8 : nn = (hh - lo).toNat) (q9 : (∀ i : Nat, (i : Int) < lo → xs.getD i 0 < x)) (q10 : (∀ i : Nat, hh ≤ i → i < xs.length → x ≤ xs.getD i 0)) : BislJ g d os g' L' S vs n rest x t xs nn s₁
theorem bisect_left0 (P : Params) {S : Addr} {vs : List Value} {xs : List Int} {n : Nat} {rest : List (Addr × Obj)} (hi : IntsAre vs xs) (x : Int) (t : Tok) (hlen : xs.length < 100) (hs : ∀ i j, i ≤ j → j < xs.length → xs.getD i 0 ≤ xs.getD j 0) :
    Does P 5 200 [.ref S, .int x t] ((S, listOf vs.toArray n) :: rest) (fun r news' _ => BislR xs x ((S, listOf vs.toArray n) :: rest) r news') := by
  intro w dp un gd cn cs L ad ccd cl outer A₀ base h₀ m mg mb s Q E pp loose mean B F X N T hk G hroom hunits hQ
  obtain ⟨h, g, d, tk, os⟩ := s
  refine wpAny_call ?_
  k_dflt cell_enter
  rename_i g' L' h' FG' F' N' B' X' T'
  iterate 40 (walk1)
  rename_i F2 N2
  have hvl : vs.length = xs.length := hi.length
  refine while_any (fun nn s₁ => BislJ g d os g' L' S vs n rest x t xs nn s₁) xs.length ⟨_, _, _, 0, xs.length, _, _, rfl, F2, N2, ⟨rfl, rfl, rfl, rfl, trivial⟩, Int.le_refl _, by lia, Int.le_refl _, by lia, fun i hi => by lia, fun i h1 h2 => by lia⟩ ?_
  clear F2 N2
  rintro nn s₁ E' ⟨h1, tk1, m1, lo, hh, tlo, thi, rfl, F1, N1, told, hl0, hl1, hl2, rfl, hlow, hhigh⟩
  have F2 := frOver _ F1 told
  clear F1
  have hl := news_list N1 (.head _)
  have hmid := Int.fdiv_eq_ediv_of_nonneg (lo + hh) (show (0 : Int) ≤ 2 by decide)
  k_steps
  · rename Fr _ _ _ _ => F9
    rename News _ _ _ _ => N9
    exact NextAt.intro (m := (hh - ((lo + hh).fdiv 2 + 1)).toNat) (by lia) ⟨_, _, _, (lo + hh).fdiv 2 + 1, hh, _, _, rfl, F9, N9, ⟨rfl, rfl, rfl, rfl, trivial⟩, by lia, by lia, by lia, rfl, fun i h1 => Int.lt_of_le_of_lt (hs i ((lo + hh).fdiv 2).toNat (by lia) (by lia)) (by assumption), hhigh⟩
  · rename Fr _ _ _ _ => F9
    rename News _ _ _ _ => N9
    exact NextAt.intro (m := ((lo + hh).fdiv 2 - lo).toNat) (by lia) ⟨_, _, _, lo, (lo + hh).fdiv 2, _, _, rfl, F9, N9, ⟨rfl, rfl, rfl, rfl, trivial⟩, hl0, by lia, by lia, rfl, hlow, fun i h1 h2 => Int.le_trans (Int.not_lt.mp (by assumption)) (hs _ i (by lia) h2)⟩
  · rename_i F9 N9 T9 X9
    exact hQ _ _ _ ⟨lo.toNat, tlo, by rw [Int.toNat_of_nonneg hl0], rfl, by lia, fun i h => hlow i (by lia), fun i h1 h2 => hhigh i (by lia) h2⟩ F9 N9 G rfl
theorem bisect_left_does (P : Params) {S : Addr} {vs : List Value} {xs : List Int} {n : Nat} {news : List (Addr × Obj)} (hS : (S, listOf vs.toArray n) ∈ news) (hi : IntsAre vs xs) (x : Int) (t : Tok) (hlen : xs.length < 100) (hs : ∀ i j, i ≤ j → j < xs.length → xs.getD i 0 ≤ xs.getD j 0) :
    Does P 5 200 [.ref S, .int x t] news (fun r news' _ => BislR xs x news r news') := by
  intro w dp un gd cn cs L ad ccd cl outer A₀ base h₀ m mg mb s Q E pp loose mean B F X N T hk G hroom hunits hQ
  refine bisect_left0 P (n := n) (rest := news) hi x t hlen hs B F X (news_sub N fun p hp => ?_) T hk G hroom hunits fun r n s' hr F' N' => ?_
  · rcases List.mem_cons.mp hp with rfl | h
    · exact hS
    · exact h
  · obtain ⟨k, t, rfl, rfl, h1, h2, h3⟩ := hr
    exact hQ _ _ _ ⟨k, t, rfl, rfl, h1, h2, h3⟩ F' (news_sub N' fun p hp => .tail _ hp)
end
end
section
open PySem PySem.W PySem.Calls PyProof.Rows
def letters : Str := "abcdefghijklmnopqrstuvwxyz"
-- the words, from the place where the first one begins
def wordsOf : Int → List Int → List Str
  | _, [] => []
  | b, d :: ds => Txt.slice letters (some b) (some (b + 1 + d.fmod 3)) :: wordsOf (b + 1 + d.fmod 3) ds
-- _law_words
inductive WordsR (D : Addr) (ds : List (Int × Tok)) (n : Nat) (d2 : Int) (rest : List (Addr × Obj)) (r : Value) (news' : List (Addr × Obj)) : Prop
  | mk (W : Addr) (wl : List (Str × Tok)) (c : Nat) (q1 : r = .ref W) (q2 : (∀ p ∈ (D, listOf (ds.map fun p => Value.int p.1 p.2).toArray n) :: rest, p.1 < W)) (q3 : news' = (W, listOf (strsV wl).toArray c) :: (D, listOf (ds.map fun p => Value.int p.1 p.2).toArray n) :: rest) (q4 : wl.map (·.1) = wordsOf ((d2.fdiv 3).fmod 12) (ds.map (·.1))) : WordsR D ds n d2 rest r news'
inductive WordsJ (D : Addr) (ds : List (Int × Tok)) (n : Nat) (d2 : Int) (rest : List (Addr × Obj)) (i : Nat) (m₁ : Str → Option Value) (news₁ : List (Addr × Obj)) : Prop
  | mk (b : Int) (tl tb : Tok) (W : Addr) (wl : List (Str × Tok)) (c2 : Nat) (q1 : Told m₁ [("letters", .str "abcdefghijklmnopqrstuvwxyz" tl), ("begin", .int b tb), ("words", .ref W)]) (q2 : news₁ = (W, listOf (strsV wl).toArray c2) :: (D, listOf (ds.map fun p => Value.int p.1 p.2).toArray n) :: rest) (q3 : (∀ p ∈ (D, listOf (ds.map fun p => Value.int p.1 p.2).toArray n) :: rest, p.1 < W)) (q4 : 0 ≤ b) (q5 : b < 12 + 3 * i) (q6 : wl.length = i) (q7 : wl.map (·.1) ++ wordsOf b ((ds.map (·.1)).drop i) = wordsOf ((d2.fdiv 3).fmod 12) (ds.map (·.1))) : WordsJ D ds n d2 rest i m₁ news₁
theorem law_words_does (P : Params) {D : Addr} {ds : List (Int × Tok)} {d2 : Int} {t2 : Tok} {n : Nat} {rest : List (Addr × Obj)} (hlen : ds.length = 5) (hd : ds[2]? = some (d2, t2)) (hb : ∀ p ∈ ds, 0 ≤ p.1 ∧ p.1 < 100000000) :
    Does P 5 226 [.ref D] ((D, listOf (ds.map fun p => Value.int p.1 p.2).toArray n) :: rest) (fun r news' _ => WordsR D ds n d2 rest r news') := by
  intro w dp un gd cn cs L ad ccd cl outer A₀ base h₀ m mg mb s Q E pp loose mean B F X N T hk G hroom hunits hQ
  obtain ⟨h, g, d, tk, os⟩ := s
  refine wpAny_call ?_
  k_dflt cell_enter
  rename_i g' L' h' FG' F' N' B' X' T'
  iterate 12 (walk1)
  refine list_item (news_list (by assumption) (.head _)) (by decide) (by decide) (v := .int d2 t2) (by show (List.map _ ds)[2]? = _; rw [List.getElem?_map, hd]; rfl) ?_
  have hd2 := hb (d2, t2) (List.mem_of_getElem? hd)
  dsimp only at hd2
  iterate 13 (walk1)
  refine wpAny_For ?_ (by intro _; rfl)
  walk1
  rename Fr _ _ _ _ => F2
  rename News _ _ _ _ => N2
  rename (D < _ ∧ AllLt _ _) => l2
  refine for_list (l := D) (its := ds.map fun p => Value.int p.1 p.2) (c := n) (fun i m₁ news₁ => WordsJ D ds n d2 rest i m₁ news₁) F2 N2 G ⟨_, _, _, _, [], 0, ⟨rfl, rfl, rfl, trivial⟩, rfl, fun p hp => ?_, ?_, ?_, rfl, rfl⟩ ?_ ?_ ?_
  · rcases List.mem_cons.mp hp with rfl | hp
    · exact l2.1
    · exact allLt_get l2.2 p hp
  · rw [Int.fmod_eq_emod_of_nonneg _ (by decide)]; lia
  · rw [Int.fmod_eq_emod_of_nonneg _ (by decide)]; lia
  · rintro i m₁ news₁ ⟨b, tl, tb, W, wl, c2, told, rfl, hW, hb0, hb1, hwl, hwo⟩
    exact .tail _ (.head _)
  · rintro I i v o m₁ news₁ h₁ g₁ d₁ tk₁ E' hv hc ⟨b, tl, tb, W, wl, c2, told, rfl, hW, hb0, hb1, hwl, hwo⟩ hI hIn F3 N3 G3
    obtain ⟨⟨dk, tdk⟩, hdk, rfl⟩ : ∃ q, ds[i]? = some q ∧ v = .int q.1 q.2 := by
      rw [List.getElem?_map, Option.map_eq_some_iff] at hv
      obtain ⟨q, hq, rfl⟩ := hv
      exact ⟨q, hq, rfl⟩
    have hdk2 := hb (dk, tdk) (List.mem_of_getElem? hdk)
    dsimp only at hdk2 F3 N3
    have hi5 : i < 5 := by rw [← hlen]; exact (List.getElem?_eq_some_iff.mp hdk).1
    rw [← over_eq told] at F3
    (try k_unmd); (try k_fold)
    clear F2 N2
    have hf := Int.fmod_eq_emod_of_nonneg dk (show (0 : Int) ≤ 3 by decide)
    iterate 30 (walk1)
    rename Fr _ _ _ _ => F4
    rename News _ _ _ _ => N4
    have eL : ∀ t4 : Tok, (strsV wl).toArray.push (.str (Txt.slice "abcdefghijklmnopqrstuvwxyz" (some b) (some (b + 1 + dk.fmod 3))) t4) = (strsV (wl ++ [(Txt.slice "abcdefghijklmnopqrstuvwxyz" (some b) (some (b + 1 + dk.fmod 3)), t4)])).toArray := fun t4 => by simp [strsV]
    refine append_K F4 N4 (.tail (Ne.symm (hI _ (.head _))) (.head fun p hp => Nat.ne_of_lt (hW p hp))) ?_ (by rw [List.size_toArray, List.length_map, sizeLine_eq]; lia)
    rw [eL]
    intro h5 F5 N5
    clear F4 N4
    k_steps
    rename Fr _ _ _ _ => F6
    rename News _ _ _ _ => N6
    refine ForNext.intro F6 N6 (fun p hp => ?_) ⟨b + 1 + dk.fmod 3, _, _, W, _, _, ⟨rfl, rfl, rfl, trivial⟩, rfl, hW, by lia, by push_cast; lia, by rw [List.length_append, hwl]; rfl, ?_⟩ G3 rfl
    · rcases List.mem_cons.mp hp with rfl | hp
      · exact hI (W, listOf (strsV wl).toArray c2) (.head _)
      · exact hI p (.tail _ hp)
    · rw [← hwo]
      have e : (ds.map (·.1)).drop i = dk :: (ds.map (·.1)).drop (i + 1) := by
        have h1 : i < (ds.map (·.1)).length := by rw [List.length_map, hlen]; exact hi5
        rw [List.drop_eq_getElem_cons h1]
        congr 1
        have h2 : (ds.map (·.1))[i]? = some dk := by rw [List.getElem?_map, hdk]; rfl
        rw [List.getElem?_eq_getElem h1] at h2
        exact Option.some.inj h2
      rw [e, wordsOf, List.map_append, List.append_assoc]
      rfl
  · rintro m₁ news₁ h₁ g₁ d₁ tk₁ ⟨b, tl, tb, W, wl, c2, told, rfl, hW, hb0, hb1, hwl, hwo⟩ F3 N3 G3
    dsimp only at F3 N3 ⊢
    rw [← over_eq told] at F3
    (try k_unmd); (try k_fold)
    clear F2 N2
    k_steps
    rename_i F9 N9 T9 X9
    rw [List.drop_eq_nil_of_le (by simp), wordsOf, List.append_nil] at hwo
    exact hQ _ _ _ ⟨W, wl, c2, rfl, hW, rfl, hwo⟩ F9 N9 G3 rfl
end
section
open PySem PySem.W PySem.Calls PyProof.Rows
-- one more word
def stepF (w n : Int) (ts : List (Str × Str)) (ls : List Str) (word : Str) : Int × List (Str × Str) × List Str :=
  if n + (ts.map fun q => ((q.1.length : Int) + q.2.length)).sum + (1 + word.length) ≤ w then (n, ts ++ [((" " : Str), word)], ls)
  else if ts = [] then (0, [((" " : Str), word)], if 0 < n then ls ++ [("" : Str)] else ls)
  else (0, [((" " : Str), word)], ls ++ [Txt.join "" (ts.map fun q => Txt.join "" [q.1, q.2])])
theorem plen_ptx (l : List Part) : plen l = ((ptx l).map fun q => ((q.1.length : Int) + q.2.length)).sum := by
  simp only [plen, ptx, List.map_map]; rfl
theorem atext_ptx (l : List Part) : atext l = Txt.join "" ((ptx l).map fun q => Txt.join "" [q.1, q.2]) := by
  simp only [atext, ptx, List.map_map]; rfl
theorem append_does (P : Params) {f : FS} {rest : List (Addr × Obj)} (O : f.Ok P rest) (word : Str) (t1 t2 : Tok) (hsm : f.a.n + plen f.a.parts + (1 + word.length) < 1000) (hfw : f.a.parts.length + 1 < 1000) (hll : f.lines.length + 1 < 1000) :
    Does P 16 91 [.ref f.v, .str " " t1, .str word t2] (f.led rest) (fun r news' _ => r = .none ∧ Goes P f rest (stepF f.d.w f.a.n (ptx f.a.parts) (f.lines.map (·.1)) word).1 (stepF f.d.w f.a.n (ptx f.a.parts) (f.lines.map (·.1)) word).2.1 (stepF f.d.w f.a.n (ptx f.a.parts) (f.lines.map (·.1)) word).2.2 news') := by
  intro w dp un gd cn cs L ad ccd cl outer A₀ base h₀ m mg mb s Q E pp loose mean B F X N T hk G hroom hunits hQ
  by_cases hfit : f.d.w < f.a.n + plen f.a.parts + (1 + word.length)
  · by_cases he : f.a.parts = []
    · have e : stepF f.d.w f.a.n (ptx f.a.parts) (f.lines.map (·.1)) word = (0, [((" " : Str), word)], if 0 < f.a.n then f.lines.map (·.1) ++ [("" : Str)] else f.lines.map (·.1)) := by
        unfold stepF
        rw [← plen_ptx, if_neg (by lia), if_pos (by rw [he]; rfl)]
      rw [e] at hQ
      exact append_lone P O word t1 t2 hsm hll hfit he B F X N T hk G hroom hunits hQ
    · have e : stepF f.d.w f.a.n (ptx f.a.parts) (f.lines.map (·.1)) word = (0, [((" " : Str), word)], f.lines.map (·.1) ++ [atext f.a.parts]) := by
        unfold stepF
        rw [← plen_ptx, if_neg (by lia), if_neg (by intro h; exact he (List.map_eq_nil_iff.mp h)), ← atext_ptx]
      rw [e] at hQ
      exact append_break P O word t1 t2 hsm hfw hll hfit (List.length_pos_iff.mpr he) B F X N T hk G (by lia) (by lia) hQ
  · have e : stepF f.d.w f.a.n (ptx f.a.parts) (f.lines.map (·.1)) word = (f.a.n, ptx f.a.parts ++ [((" " : Str), word)], f.lines.map (·.1)) := by
      unfold stepF
      rw [← plen_ptx, if_pos (by lia)]
    rw [e] at hQ
    exact append_fit P O word t1 t2 hsm hfw hfit B F X N T hk G (by lia) (by lia) hQ
end
section
open PySem PySem.W PySem.Calls PyProof.Rows
local macro_rules | `(tactic| cell_enter) => `(tactic| walk_at "my enter")
theorem perm7 {α : Type} {p a b c d e f g : α} {l : List α} (h : p ∈ a :: b :: f :: g :: c :: d :: e :: l) : p ∈ a :: b :: c :: d :: e :: f :: g :: l := swp [a, b] [f, g] [c, d, e] h
inductive VfR (P : Params) (w n : Int) (rest : List (Addr × Obj)) (r : Value) (news' : List (Addr × Obj)) : Prop
  | mk (f : FS) (q1 : r = .ref f.v) (q2 : news' = f.led rest) (q3 : f.Ok P rest) (q4 : f.a.n = n) (q5 : f.d.w = w) (q6 : f.a.parts = []) (q7 : f.lines = []) : VfR P w n rest r news'
theorem vf_new (P : Params) {ps ps' : Array Value} {rest : List (Addr × Obj)} (w n : Int) (tn tw t1 t2 : Tok) (ht1 : TabIs (hd.heap_39 P) 144 140 ps) (ht2 : TabIs (hd.heap_39 P) 151 147 ps') (hsep : ∀ q ∈ rest, q.1 ≠ 140 ∧ q.1 ≠ 147) (hn : 0 ≤ n ∧ n < 1000) :
    Does P 8 94 [.int n tn, .int w tw, .str " " t1, .str " " t2] ((140, tabObj ps) :: (147, tabObj ps') :: rest) (fun r news' _ => VfR P w n rest r news') := by
  intro w dp un gd cn cs L ad ccd cl outer A₀ base h₀ m mg mb s Q E pp loose mean B F X N T hk G hroom hunits hQ
  obtain ⟨h, g, d, tk, os⟩ := s
  refine' call_cls ?k1 ?k2 ?k3 ?k4 ?k5 ?k6 ?_; (case k1 => k_asm); (case k2 => k_asm); (case k3 => k_asm); (case k4 => k_is); (case k5 => k_is); (case k6 => k_is); k_whole
  intro x' d' h' F' N' l1 l2; (try k_lt l1); (try k_lt2 l2)
  k_dflt cell_enter
  rename_i g' L' h' FG' F' N' B' X' T'
  iterate 45 (walk1)
  rename Fr _ _ _ _ => F2
  rename News _ _ _ _ => N2
  refine acc_new P n tn B' F2 X' N2 T' (by rfl) G (by show dp + 1 + 1 + 5 < recursionLimit; lia) (by first | (show un + 1 + 20 * 5 < cLine; lia) | (show un + 2 + 20 * 5 < cLine; lia) | (show un + 3 + 20 * 5 < cLine; lia) | (show un + 4 + 20 * 5 < cLine; lia) | (show un + 5 + 20 * 5 < cLine; lia) | (show un + 6 + 20 * 5 < cLine; lia) | (show un + 7 + 20 * 5 < cLine; lia)) ?_
  rintro r news' s' ⟨x, dx, c, hs, tk9, kk, rfl, hlt, hdx, rfl⟩ F3 N3 G3 o3
  obtain ⟨h3, g3, d3, tk3, os3⟩ := s'
  clear F2 N2
  have e1 := ltN (hlt _ (.head _))
  have e2 := ltN (hlt _ (.tail _ (.head _)))
  have e3 := ltN (hlt _ (.tail _ (.tail _ (.head _))))
  have e4 := ltN (hlt _ (.tail _ (.tail _ (.tail _ (.head _)))))
  have e5 := ltN (hlt _ (.tail _ (.tail _ (.tail _ (.tail _ (.head _))))))
  dsimp only at e1 e2 e3 e4 e5
  have e6 := ltN hdx
  rename (_ < _ ∧ _ < _ ∧ 140 < _ ∧ 147 < _ ∧ AllLt _ _) => l7
  have r1 := ltN l7.1
  have r2 := ltN l7.2.1
  have r3 := ltN l7.2.2.1
  have r4 := ltN l7.2.2.2.1
  have r5 := ltN l1.1
  have r6 := ltN l1.2.1
  have r7 := ltN l2
  k_steps
  rename_i F9 N9 T9 X9
  refine hQ _ _ _ ⟨⟨⟨x, dx, c, kk, hs, tk9, tn, n, [], ps, ps'⟩, ⟨_, _, _, _, _, _, _, _, _, _, _, _, _, _, _, _, _, _⟩, x', d', _, [], 0⟩, rfl, rfl, ?_, rfl, rfl, rfl, rfl⟩ F9 (news_sub N9 fun p hp => perm7 hp) G3 o3
  exact { acc := { t1 := ht1, t2 := ht2
                   mem := fun _ h => nomatch h
                   sep := fun q hq => by
                    rcases List.mem_cons.mp hq with rfl | hq
                    · exact ⟨neN (by dsimp only; lia), neN (by dsimp only; lia), neN (by dsimp only; lia), neN (by dsimp only; lia)⟩
                    rcases List.mem_cons.mp hq with rfl | hq
                    · exact ⟨neN (by dsimp only; lia), neN (by dsimp only; lia), neN (by dsimp only; lia), neN (by dsimp only; lia)⟩
                    rcases List.mem_cons.mp hq with rfl | hq
                    · exact ⟨neN (by dsimp only; lia), neN (by dsimp only; lia), neN (by dsimp only; lia), neN (by dsimp only; lia)⟩
                    · have := ltN (hlt q (.tail _ (.tail _ (.tail _ (.tail _ (.tail _ hq))))))
                      exact ⟨neN (by dsimp only; lia), neN (by dsimp only; lia), (hsep q hq).1, (hsep q hq).2⟩
                   d1 := ⟨neN (by dsimp only; lia), neN (by dsimp only; lia), neN (by dsimp only; lia), neN (by dsimp only; lia), neN (by dsimp only; lia)⟩
                   n0 := hn.1
                   small := by show n + plen [] < 1000; have : plen [] = 0 := rfl; lia
                   few := by show ([] : List Part).length < 1000; decide }
          mem := fun _ h => nomatch h
          sep := fun q hq => Nat.ne_of_lt (allLt_get l7.2.2.2.2 q hq)
          dl := ⟨neN (by dsimp only; lia), neN (by dsimp only; lia)⟩
          few := by show ([] : List (Str × Tok)).length < 1000; decide }
end
section
open PySem PySem.W PySem.Calls PyProof.Rows
theorem sum_small {b : Nat} : ∀ {l : List Str}, (∀ x ∈ l, x.length < b) → (l.map (·.length)).sum ≤ l.length * b
  | [], _ => by simp
  | x :: r, h => by
    have h1 := h x (.head _)
    have h2 := sum_small fun y hy => h y (.tail _ hy)
    simp only [List.map_cons, List.sum_cons, List.length_cons, Nat.add_mul, Nat.one_mul]
    lia
theorem str_vf_does (P : Params) {f : FS} {rest : List (Addr × Obj)} (O : f.Ok P rest) (A : List Part) (q : Part) (e : f.a.parts = A ++ [q]) (hq : 0 < q.p.length) (hk1 : PyData.strOk q.f = true) (hk2 : PyData.strOk q.p = true) (ht : Txt.isspace (atext f.a.parts) = false) (hll : f.lines.length + 1 < 100) (hlen : ∀ l ∈ f.lines, l.1.length < 100) (tn : Tok) :
    Does P 14 42 [.ref f.v, .str "\n" tn] (f.led rest) (fun r news' _ => ∃ t, r = .str (Txt.join "\n" (f.lines.map (·.1) ++ [atext f.a.parts])) t ∧ Goes P f rest 0 [] (f.lines.map (·.1) ++ [atext f.a.parts]) news') := by
  intro w dp un gd cn cs L ad ccd cl outer A₀ base h₀ m mg mb s Q E pp loose mean B F X N T hk G hroom hunits hQ
  obtain ⟨h, g, d, tk, os⟩ := s
  refine wpAny_call ?_
  k_dflt cell_enter
  rename_i g' L' h' FG' F' N' B' X' T'
  k_steps
  have hat : atext (A ++ [⟨0, q.f, 0, q.p, 0⟩]) = atext f.a.parts := by rw [e]; simp only [atext, List.map_append, List.map_cons, List.map_nil, ptext]
  have hpl : plen A + ((q.f.length : Int) + q.p.length) = plen f.a.parts := by rw [e, plen_append, plen_one]
  have hsm := O.acc.small
  have hn0 := O.acc.n0
  have hpA := plen_nonneg A
  have hfw := O.acc.few
  have hwl : (atext f.a.parts).length ≤ 1000 := by
    have h1 := weight_le f.a.parts
    have h2 := StrLaws.join_length_le "" (f.a.parts.map ptext)
    have h3 : ("" : Str).length = 0 := rfl
    unfold atext
    rw [txt_join]
    rw [h3, Nat.mul_zero] at h2
    lia
  have hwt := sum_small (b := 100) (l := f.lines.map (·.1)) (fun x hx => by
    obtain ⟨y, hy, rfl⟩ := List.mem_map.mp hx
    exact hlen y hy)
  rw [List.length_map] at hwt
  have hlw : f.lines.length * 100 ≤ 100 * 100 := Nat.mul_le_mul_right _ (by lia)
  refine newline_does P O A q.f q.p (popX_some P O.acc A q e) (fun h => by rw [h.2] at hq; exact absurd hq (by decide)) hk1 hk2 (by lia) (by rw [e, List.length_append] at hfw; exact hfw) (by lia) (by rw [hat]; exact ht) (by lia) B' (by assumption) X' (by assumption) T' (by rfl) G (by show dp + 1 + 12 < recursionLimit; lia) (by show un + 3 + 20 * 12 < cLine; lia) ?_
  rintro r news' s' ⟨⟨a9, d9, v9, dv9, ll9, ls9, lc9⟩, rest9, t15, rfl, rfl, O10, hsub, hv9, hd9, hn9, hp9, hl9⟩ F15 N15 G15 o15
  obtain ⟨h15, g15, d15, tk15, os15⟩ := s'
  dsimp only at hv9 hd9 hn9 hp9 hl9 N15 O10 o15 ⊢
  subst hv9 hd9
  have hl9' : ls9.map (·.1) = f.lines.map (·.1) ++ [atext f.a.parts] := by rw [hl9, hat, List.map_append]; rfl
  iterate 11 (walk1)
  refine SC.join (l := ls9) (news_list (by assumption) (.tail _ (.tail _ (.tail _ (.tail _ (.head _)))))) hl9' (joinOk_of_weight (by rw [List.map_append, List.sum_append, List.length_append]; simp only [List.map_cons, List.map_nil, List.sum_cons, List.sum_nil, List.length_cons, List.length_nil, List.length_map]; lia) (by decide)) ?_
  intro t16 k16
  k_steps
  rename_i F17 N17 T17 X17
  exact hQ _ _ _ ⟨_, rfl, ⟨a9, f.d, f.v, dv9, ll9, ls9, lc9⟩, rest9, rfl, O10, hsub, rfl, rfl, ⟨hn9, by show ptx a9.parts = _; rw [hp9]; rfl, hl9'⟩⟩ F17 N17 G15 o15
end
section
open PySem PySem.W PySem.Calls PyProof.Rows
abbrev cds (s : Str) : List Nat := s.cps.toList
theorem cds_ext {a b : Str} (h : cds a = cds b) : a = b := by
  obtain ⟨⟨l⟩⟩ := a
  obtain ⟨⟨r⟩⟩ := b
  have h' : l = r := h
  rw [h']
theorem cds_append (a b : Str) : cds (a ++ b) = cds a ++ cds b := by
  show (a ++ b).cps.toList = _
  rw [Str.cps_append, Array.toList_append]
theorem cds_length (a : Str) : (cds a).length = a.length := by show a.cps.toList.length = a.cps.size; simp
theorem cds_join0 : ∀ l : List Str, cds (Txt.join "" l) = (l.map cds).flatten := by
  intro l
  rw [txt_join]
  induction l with
  | nil => rfl
  | cons x r ih =>
    cases r with
    | nil => rw [PyProof.Rows.join_one]; simp
    | cons y r =>
      rw [PyProof.Rows.join_cons_cons, cds_append, cds_append, ih]
      simp only [List.map_cons, List.flatten_cons]
      rw [show cds (Str.ofString "") = [] from by decide +kernel, List.append_nil]
-- a joined text, split again
theorem join_inj (c : Nat) : ∀ l r : List Str, l ≠ [] → r ≠ [] → (∀ p ∈ l, c ∉ cds p) → (∀ p ∈ r, c ∉ cds p) → cds (Str.join ⟨#[c]⟩ l) = cds (Str.join ⟨#[c]⟩ r) → l = r := by
  have key : ∀ (a b x y : List Nat), c ∉ a → c ∉ b → a ++ c :: x = b ++ c :: y → a = b ∧ x = y := by
    intro a
    induction a with
    | nil =>
      intro b x y _ hb e
      cases b with
      | nil => exact ⟨rfl, by simpa using e⟩
      | cons z b => simp at e; exact absurd (by rw [← e.1]; exact .head _) hb
    | cons z a ih =>
      intro b x y ha hb e
      cases b with
      | nil => simp at e; exact absurd (by rw [e.1]; exact .head _) ha
      | cons z' b =>
        simp at e
        obtain ⟨h1, h2⟩ := ih b x y (fun h => ha (.tail _ h)) (fun h => hb (.tail _ h)) e.2
        rw [e.1, h1]
        exact ⟨rfl, h2⟩
  have hc : cds (⟨#[c]⟩ : Str) = [c] := rfl
  intro l
  induction l with
  | nil => intro r h; exact absurd rfl h
  | cons x l ih =>
    intro r _ hr hl hr2 e
    cases r with
    | nil => exact absurd rfl hr
    | cons y r =>
      cases l with
      | nil =>
        cases r with
        | nil =>
          rw [PyProof.Rows.join_one, PyProof.Rows.join_one] at e
          rw [cds_ext e]
        | cons y2 r =>
          rw [PyProof.Rows.join_one, PyProof.Rows.join_cons_cons, cds_append, cds_append, hc] at e
          exact absurd (by rw [e]; simp) (hl x (.head _))
      | cons x2 l =>
        cases r with
        | nil =>
          rw [PyProof.Rows.join_one, PyProof.Rows.join_cons_cons, cds_append, cds_append, hc] at e
          exact absurd (by rw [← e]; simp) (hr2 y (.head _))
        | cons y2 r =>
          rw [PyProof.Rows.join_cons_cons, PyProof.Rows.join_cons_cons, cds_append, cds_append, cds_append, cds_append, hc, List.append_assoc, List.append_assoc] at e
          obtain ⟨h1, h2⟩ := key _ _ _ _ (hl x (.head _)) (hr2 y (.head _)) e
          rw [cds_ext h1, ih (y2 :: r) (by simp) (by simp) (fun p hp => hl p (.tail _ hp)) (fun p hp => hr2 p (.tail _ hp)) h2]
theorem split_join (c : Nat) (l : List Str) (hne : l ≠ []) (hf : ∀ p ∈ l, c ∉ cds p) : Txt.split (Txt.join ⟨#[c]⟩ l) ⟨#[c]⟩ = l := by
  rw [txt_join]
  refine join_inj c _ l (fun h => ?_) hne (fun p hp => StrLaws.split_free _ c p hp) hf (congrArg cds (StrLaws.join_split _ _))
  have := PyProof.Rows.split_pos (Str.join ⟨#[c]⟩ l) ⟨#[c]⟩
  rw [h] at this
  exact absurd this (by decide)
-- a word: one to three small letters
structure WordOk (s : Str) : Prop where
  pos : 0 < s.length
  le : s.length ≤ 3
  low : ∀ c ∈ cds s, 97 ≤ c ∧ c ≤ 122
theorem WordOk.strOk {s : Str} (h : WordOk s) : PyData.strOk s = true := by
  unfold PyData.strOk
  rw [← Array.all_toList, List.all_eq_true]
  intro c hc
  have := h.low c hc
  exact decide_eq_true (by omega)
def rowText (ws : List Str) : Str := Txt.join "" (ws.map fun w => (" " : Str) ++ w)
theorem cds_row (ws : List Str) : cds (rowText ws) = (ws.map fun w => 32 :: cds w).flatten := by
  unfold rowText
  rw [cds_join0, List.map_map]
  congr 1
  apply List.map_congr_left
  intro w _
  show cds ((" " : Str) ++ w) = _
  rw [cds_append, show cds (Str.ofString " ") = [32] from by decide +kernel]
  rfl
theorem row_free {ws : List Str} (h : ∀ w ∈ ws, WordOk w) : 10 ∉ cds (rowText ws) := by
  rw [cds_row]
  intro hm
  obtain ⟨l, hl, hc⟩ := List.mem_flatten.mp hm
  obtain ⟨w, hw, rfl⟩ := List.mem_map.mp hl
  rcases List.mem_cons.mp hc with h1 | h1
  · exact absurd h1 (by decide)
  · have := (h w hw).low 10 h1
    omega
theorem row_notspace {ws : List Str} (h : ∀ w ∈ ws, WordOk w) (hne : ws ≠ []) : Txt.isspace (rowText ws) = false := by
  cases ws with
  | nil => exact absurd rfl hne
  | cons w r =>
    have hw := h w (.head _)
    obtain ⟨c, l, hl⟩ : ∃ c l, cds w = c :: l := by
      cases e : cds w with
      | nil => have := hw.pos; rw [← cds_length, e] at this; exact absurd this (by decide)
      | cons c l => exact ⟨c, l, rfl⟩
    have hc := hw.low c (by rw [hl]; exact .head _)
    have hs : Unicode.isSpace c = false := by
      have key : ∀ k : Fin 26, Unicode.isSpace (97 + k.val) = false := by decide +kernel
      have := key ⟨c - 97, by omega⟩
      rwa [show 97 + (c - 97) = c from by omega] at this
    unfold Txt.isspace
    rw [Bool.and_eq_false_iff]
    right
    rw [← Array.all_toList]
    show List.all (cds (rowText (w :: r))) _ = false
    rw [cds_row, List.map_cons, List.flatten_cons, hl]
    rw [List.all_eq_false]
    exact ⟨c, by simp, by rw [hs]; decide⟩
theorem row_length (ws : List Str) : (rowText ws).length = (ws.map fun w => 1 + w.length).sum := by
  rw [← cds_length, cds_row, List.length_flatten, List.map_map]
  congr 1
  apply List.map_congr_left
  intro w _
  show (32 :: cds w).length = _
  rw [List.length_cons, cds_length]; omega
end
section
open PySem PySem.W PySem.Calls PyProof.Rows
-- the folding, on words alone: the head that is left, the row at hand, the rows that are done
abbrev GSt := Int × List Str × List (List Str)
def lsum (ws : List Str) : Int := (ws.map fun w => 1 + (w.length : Int)).sum
def gstep (w : Int) (st : GSt) (word : Str) : GSt :=
  if st.1 + lsum st.2.1 + (1 + word.length) ≤ w then (st.1, st.2.1 ++ [word], st.2.2)
  else if st.2.1 = [] then (0, [word], if 0 < st.1 then st.2.2 ++ [[]] else st.2.2)
  else (0, [word], st.2.2 ++ [st.2.1])
abbrev tsOf (ws : List Str) : List (Str × Str) := ws.map fun w => ((" " : Str), w)
theorem one_blank : (((" " : Str).length : Nat) : Int) = 1 := rfl
theorem tsum_of (ws : List Str) : ((tsOf ws).map fun q => ((q.1.length : Int) + q.2.length)).sum = lsum ws := by
  unfold lsum
  rw [List.map_map]
  rfl
theorem join_pair (a b : Str) : Txt.join "" [a, b] = a ++ b := by
  apply cds_ext
  rw [cds_join0, cds_append]
  simp
theorem tjoin_of (ws : List Str) : Txt.join "" ((tsOf ws).map fun q => Txt.join "" [q.1, q.2]) = rowText ws := by
  unfold rowText
  rw [List.map_map]
  exact congrArg (Txt.join "") (List.map_congr_left fun w _ => join_pair _ _)
theorem rowText_nil : rowText [] = ("" : Str) := by
  apply cds_ext
  rw [cds_row]
  rfl
theorem step_of (w n : Int) (cur : List Str) (ls : List (List Str)) (word : Str) :
    stepF w n (tsOf cur) (ls.map rowText) word = ((gstep w (n, cur, ls) word).1, tsOf (gstep w (n, cur, ls) word).2.1, (gstep w (n, cur, ls) word).2.2.map rowText) := by
  unfold stepF gstep
  rw [tsum_of, tjoin_of]
  dsimp only
  by_cases h1 : n + lsum cur + (1 + (word.length : Int)) ≤ w
  · rw [if_pos h1, if_pos h1]
    simp [tsOf]
  · rw [if_neg h1, if_neg h1]
    by_cases h2 : cur = []
    · rw [if_pos (by rw [h2]; rfl), if_pos h2]
      by_cases h3 : 0 < n
      · rw [if_pos h3, if_pos h3]
        simp [tsOf, rowText_nil]
      · rw [if_neg h3, if_neg h3]
        simp [tsOf]
    · rw [if_neg (fun h => h2 (List.map_eq_nil_iff.mp h)), if_neg h2]
      simp [tsOf]
structure GInv (i : Nat) (st : GSt) : Prop where
  n0 : 0 ≤ st.1
  n1 : st.1 < 100
  cw : ∀ x ∈ st.2.1, WordOk x
  lw : ∀ r ∈ st.2.2, ∀ x ∈ r, WordOk x
  cl : st.2.1.length ≤ i
  ll : st.2.2.length ≤ i
  rl : ∀ r ∈ st.2.2, r.length ≤ i
  ne : 0 < i → st.2.1 ≠ []
theorem GInv.step {i : Nat} {st : GSt} {w : Int} {word : Str} (h : GInv i st) (hw : WordOk word) : GInv (i + 1) (gstep w st word) := by
  obtain ⟨n, cur, ls⟩ := st
  obtain ⟨n0, n1, cw, lw, cl, ll, rl, ne⟩ := h
  dsimp only at *
  unfold gstep
  dsimp only
  split
  · refine ⟨n0, n1, fun x hx => ?_, lw, ?_, Nat.le_succ_of_le ll, fun r hr => Nat.le_succ_of_le (rl r hr), fun _ => by simp⟩
    · rcases List.mem_append.mp hx with hx | hx
      · exact cw x hx
      · rw [List.mem_singleton.mp hx]; exact hw
    · rw [List.length_append]; exact Nat.succ_le_succ cl
  · split
    · refine ⟨Int.le_refl _, (by decide : (0 : Int) < 100), fun x hx => by rw [List.mem_singleton.mp hx]; exact hw, ?_, by simp, ?_, ?_, fun _ => by simp⟩
      · dsimp only
        split
        · intro r hr x hx
          rcases List.mem_append.mp hr with hr | hr
          · exact lw r hr x hx
          · rw [List.mem_singleton.mp hr] at hx; cases hx
        · exact lw
      · dsimp only
        split
        · rw [List.length_append]; exact Nat.succ_le_succ ll
        · exact Nat.le_succ_of_le ll
      · dsimp only
        split
        · intro r hr
          rcases List.mem_append.mp hr with hr | hr
          · exact Nat.le_succ_of_le (rl r hr)
          · rw [List.mem_singleton.mp hr]; exact Nat.zero_le _
        · exact fun r hr => Nat.le_succ_of_le (rl r hr)
    · refine ⟨Int.le_refl _, (by decide : (0 : Int) < 100), fun x hx => by rw [List.mem_singleton.mp hx]; exact hw, ?_, by simp, ?_, ?_, fun _ => by simp⟩
      · intro r hr x hx
        rcases List.mem_append.mp hr with hr | hr
        · exact lw r hr x hx
        · rw [List.mem_singleton.mp hr] at hx; exact cw x hx
      · dsimp only
        rw [List.length_append]; exact Nat.succ_le_succ ll
      · intro r hr
        rcases List.mem_append.mp hr with hr | hr
        · exact Nat.le_succ_of_le (rl r hr)
        · rw [List.mem_singleton.mp hr]; exact Nat.le_succ_of_le cl
theorem lsum_le : ∀ {ws : List Str}, (∀ x ∈ ws, WordOk x) → lsum ws ≤ 4 * ws.length
  | [], _ => by simp [lsum]
  | x :: r, h => by
    have h1 := (h x (.head _)).le
    have h2 := lsum_le fun y hy => h y (.tail _ hy)
    unfold lsum at *
    simp only [List.map_cons, List.sum_cons, List.length_cons]
    push_cast
    lia
theorem lsum_row (ws : List Str) : ((rowText ws).length : Int) = lsum ws := by
  rw [row_length]
  unfold lsum
  induction ws with
  | nil => rfl
  | cons x r ih => simp only [List.map_cons, List.sum_cons]; push_cast; rw [ih]
-- the rows that the folding makes
def foldRows (w n : Int) (words : List Str) : List (List Str) := (words.foldl (gstep w) (n, [], [])).2.2 ++ [(words.foldl (gstep w) (n, [], [])).2.1]
end
section
open PySem PySem.W PySem.Calls PyProof.Rows
-- the sums of the first words with their blanks
def psums (ws : List Str) (i : Nat) : List Int := (List.range (i + 1)).map fun j => lsum (ws.take j)
theorem lsum_append (a b : List Str) : lsum (a ++ b) = lsum a + lsum b := by
  simp [lsum]
theorem lsum_snoc (ws : List Str) (x : Str) : lsum (ws ++ [x]) = lsum ws + (1 + (x.length : Int)) := by
  simp [lsum]
theorem lsum_nonneg (ws : List Str) : 0 ≤ lsum ws := by
  induction ws with
  | nil => simp [lsum]
  | cons x r ih => simp only [lsum, List.map_cons, List.sum_cons] at *; lia
theorem psums_get (ws : List Str) {i j : Nat} (h : j ≤ i) : (psums ws i).getD j 0 = lsum (ws.take j) := by
  unfold psums
  rw [List.getD_eq_getElem?_getD, List.getElem?_map, List.getElem?_range (by lia)]
  rfl
theorem psums_len (ws : List Str) (i : Nat) : (psums ws i).length = i + 1 := by simp [psums]
theorem psums_succ (ws : List Str) (i : Nat) : psums ws (i + 1) = psums ws i ++ [lsum (ws.take (i + 1))] := by
  unfold psums
  rw [List.range_succ, List.map_append]
  rfl
theorem lsum_mono (ws : List Str) {i j : Nat} (h : i ≤ j) : lsum (ws.take i) ≤ lsum (ws.take j) := by
  obtain ⟨d, rfl⟩ := Nat.exists_eq_add_of_le h
  rw [List.take_add, lsum_append]
  have := lsum_nonneg (List.take d (List.drop i ws))
  lia
theorem psums_sorted (ws : List Str) (n : Nat) : ∀ i j, i ≤ j → j < (psums ws n).length → (psums ws n).getD i 0 ≤ (psums ws n).getD j 0 := by
  intro i j h1 h2
  rw [psums_len] at h2
  rw [psums_get ws (by lia), psums_get ws (by lia)]
  exact lsum_mono ws h1
abbrev mx (a b : Int) : Int := if b > a then b else a
-- where bisect cuts
def Cut (xs : List Int) (x : Int) (k : Nat) : Prop := k ≤ xs.length ∧ (∀ i, i < k → xs.getD i 0 ≤ x) ∧ (∀ i, k ≤ i → i < xs.length → x < xs.getD i 0)
-- the rows' ends
inductive Ends (ws : List Str) (wd n : Int) : List Int → Int → Prop
  | start {k : Nat} : Cut (psums ws 5) (wd - n) k → Ends ws wd n [mx ((k : Int) - 1) (if 0 < n then 0 else 1)] (mx ((k : Int) - 1) (if 0 < n then 0 else 1))
  | next {es : List Int} {e : Int} {k : Nat} : Ends ws wd n es e → e < 5 → Cut (psums ws 5) (lsum (ws.take e.toNat) + wd) k → Ends ws wd n (es ++ [mx ((k : Int) - 1) (e + 1)]) (mx ((k : Int) - 1) (e + 1))
theorem mx_cases (a b : Int) : (mx a b = a ∧ b ≤ a) ∨ (mx a b = b ∧ a < b) := by
  unfold mx; split
  · exact .inr ⟨rfl, by lia⟩
  · exact .inl ⟨rfl, by lia⟩
theorem Ends.bounds {ws : List Str} {wd n : Int} {es : List Int} {e : Int} (h : Ends ws wd n es e) : 0 ≤ e ∧ e ≤ 5 ∧ 0 < es.length ∧ es.length ≤ 6 ∧ (es.length : Int) ≤ e + 1 ∧ es.getD (es.length - 1) 0 = e := by
  have hp := psums_len ws 5
  induction h with
  | @start k hc =>
    have := hc.1
    have hb : (if 0 < n then (0 : Int) else 1) = 0 ∨ (if 0 < n then (0 : Int) else 1) = 1 := by split <;> simp
    generalize (if 0 < n then (0 : Int) else 1) = b at hb ⊢
    rcases mx_cases ((k : Int) - 1) b with ⟨e1, e2⟩ | ⟨e1, e2⟩ <;> rw [e1] <;> refine ⟨by lia, by lia, Nat.one_pos, ?_, ?_, rfl⟩
    · exact Nat.le_of_ble_eq_true rfl
    · show (1 : Int) ≤ _; lia
    · exact Nat.le_of_ble_eq_true rfl
    · show (1 : Int) ≤ _; lia
  | @next es e k h1 h2 hc ih =>
    have := hc.1
    obtain ⟨i1, i2, i3, i4, i5, i6⟩ := ih
    have hm : e + 1 ≤ mx ((k : Int) - 1) (e + 1) ∧ mx ((k : Int) - 1) (e + 1) ≤ 5 := by
      rcases mx_cases ((k : Int) - 1) (e + 1) with ⟨e1, e2⟩ | ⟨e1, e2⟩ <;> lia
    generalize mx ((k : Int) - 1) (e + 1) = z at hm ⊢
    have hl : (es ++ [z]).length = es.length + 1 := by simp
    rw [hl]
    refine ⟨by lia, by lia, by lia, by lia, by push_cast; lia, ?_⟩
    simp [List.getD_eq_getElem?_getD]
-- the words between the ends
def slices (ws : List Str) : Int → List Int → List (List Str)
  | _, [] => []
  | b, e :: es => ((ws.drop b.toNat).take (e - b).toNat) :: slices ws e es
def lastEnd : Int → List Int → Int
  | b, [] => b
  | _, e :: es => lastEnd e es
theorem slices_snoc (ws : List Str) (z : Int) : ∀ (es : List Int) (b : Int), slices ws b (es ++ [z]) = slices ws b es ++ [(ws.drop (lastEnd b es).toNat).take (z - lastEnd b es).toNat]
  | [], b => rfl
  | e :: es, b => by
    show _ :: slices ws e (es ++ [z]) = _
    rw [slices_snoc ws z es e]; rfl
theorem lastEnd_snoc (z : Int) : ∀ (es : List Int) (b : Int), lastEnd b (es ++ [z]) = z
  | [], b => rfl
  | e :: es, b => lastEnd_snoc z es e
theorem Ends.last {ws : List Str} {wd n : Int} {es : List Int} {e : Int} (h : Ends ws wd n es e) : lastEnd 0 es = e := by
  cases h with
  | start _ => rfl
  | next _ _ _ => exact lastEnd_snoc _ _ _
theorem lastEnd_take : ∀ (es : List Int) (b : Int) (i : Nat), i ≤ es.length → lastEnd b (es.take i) = (b :: es).getD i 0
  | _, b, 0, _ => by rw [List.take_zero]; rfl
  | [], b, i + 1, h => absurd h (Nat.not_succ_le_zero i)
  | e :: es, b, i + 1, h => lastEnd_take es e i (Nat.le_of_succ_le_succ h)
theorem Ends.mono {ws : List Str} {wd n : Int} {es : List Int} {e : Int} (h : Ends ws wd n es e) : ∀ i, i < es.length → 0 ≤ (0 :: es).getD i 0 ∧ (0 :: es).getD i 0 ≤ es.getD i 0 ∧ es.getD i 0 ≤ 5 := by
  induction h with
  | @start k hc =>
    have hb := (Ends.start hc : Ends ws wd n _ _).bounds
    intro i hi
    have h0 : i = 0 := by simp at hi; exact hi
    subst h0
    exact ⟨Int.le_refl _, hb.1, hb.2.1⟩
  | @next es e k h1 h2 hc ih =>
    have hb := h1.bounds
    have hb2 := (Ends.next h1 h2 hc).bounds
    have hl := h1.last
    have hz : e + 1 ≤ mx ((k : Int) - 1) (e + 1) := by rcases mx_cases ((k : Int) - 1) (e + 1) with ⟨e1, e2⟩ | ⟨e1, e2⟩ <;> lia
    generalize mx ((k : Int) - 1) (e + 1) = z at hz hb2 ⊢
    intro i hi
    rw [List.length_append, List.length_singleton] at hi
    by_cases hlt : i < es.length
    · have := ih i hlt
      have e1 : (es ++ [z]).getD i 0 = es.getD i 0 := by rw [List.getD_eq_getElem?_getD, List.getD_eq_getElem?_getD, List.getElem?_append_left hlt]
      have e2 : (0 :: (es ++ [z])).getD i 0 = (0 :: es).getD i 0 := by
        rw [List.getD_eq_getElem?_getD, List.getD_eq_getElem?_getD, ← List.cons_append, List.getElem?_append_left (by simp; lia)]
      rw [e1, e2]; exact this
    · have hie : i = es.length := by lia
      subst hie
      have e1 : (es ++ [z]).getD es.length 0 = z := by rw [List.getD_eq_getElem?_getD]; simp
      have e2 : (0 :: (es ++ [z])).getD es.length 0 = e := by
        have := lastEnd_take es 0 es.length (Nat.le_refl _)
        rw [List.take_length, hl] at this
        rw [this, List.getD_eq_getElem?_getD, List.getD_eq_getElem?_getD, ← List.cons_append, List.getElem?_append_left (by simp)]
      rw [e1, e2]
      exact ⟨hb.1, by lia, hb2.2.1⟩
theorem slices_take (ws : List Str) (es : List Int) {i : Nat} (h : i < es.length) : slices ws 0 (es.take (i + 1)) = slices ws 0 (es.take i) ++ [(ws.drop ((0 :: es).getD i 0).toNat).take (es.getD i 0 - (0 :: es).getD i 0).toNat] := by
  rw [List.take_add_one, List.getElem?_eq_getElem h]
  show slices ws 0 (_ ++ [es[i]]) = _
  rw [slices_snoc, lastEnd_take es 0 i (by lia), List.getD_eq_getElem?_getD (l := es), List.getElem?_eq_getElem h]
  rfl
theorem gstep_fit {w n : Int} {cur : List Str} {ls : List (List Str)} {x : Str} (h : n + lsum cur + (1 + (x.length : Int)) ≤ w) : gstep w (n, cur, ls) x = (n, cur ++ [x], ls) := if_pos h
theorem gstep_cut {w n : Int} {cur : List Str} {ls : List (List Str)} {x : Str} (h : w < n + lsum cur + (1 + (x.length : Int))) (hc : cur = [] → 0 < n) : gstep w (n, cur, ls) x = (0, [x], ls ++ [cur]) := by
  unfold gstep
  rw [if_neg (by dsimp only; lia)]
  by_cases e : cur = []
  · rw [if_pos e, if_pos (hc e), e]
  · rw [if_neg e]
theorem fold_fit {w n : Int} {ls : List (List Str)} : ∀ (xs cur : List Str), n + lsum (cur ++ xs) ≤ w → xs.foldl (gstep w) (n, cur, ls) = (n, cur ++ xs, ls)
  | [], cur, _ => by rw [List.foldl_nil, List.append_nil]
  | x :: xs, cur, h => by
    have e : cur ++ x :: xs = (cur ++ [x]) ++ xs := by simp
    rw [e] at h
    rw [List.foldl_cons, gstep_fit, fold_fit xs _ h, e]
    have h2 := lsum_nonneg xs
    rw [lsum_append, lsum_snoc] at h
    lia
theorem take_split (ws : List Str) {a b : Nat} (h : a ≤ b) : ws.take b = ws.take a ++ (ws.drop a).take (b - a) := by
  conv => lhs; rw [show b = a + (b - a) from by lia]
  rw [List.take_add]
theorem lsum_take (ws : List Str) {a b : Nat} (h : a ≤ b) : lsum ((ws.drop a).take (b - a)) = lsum (ws.take b) - lsum (ws.take a) := by
  rw [take_split ws h, lsum_append]; lia
-- what the folding has come to at a row's end
structure Fold (ws : List Str) (wd n : Int) (es : List Int) (e : Int) : Prop where
  h : ∃ n' cur rows, (ws.take e.toNat).foldl (gstep wd) (n, [], []) = (n', cur, rows) ∧ rows ++ [cur] = slices ws 0 es ∧ (e < 5 → wd < n' + lsum cur + (lsum (ws.take (e.toNat + 1)) - lsum (ws.take e.toNat))) ∧ (cur = [] → 0 < n')
theorem len_at {ws : List Str} {i : Nat} {x : Str} (h : ws[i]? = some x) : lsum (ws.take (i + 1)) - lsum (ws.take i) = 1 + (x.length : Int) := by
  rw [List.take_add_one, h]
  show lsum (_ ++ [x]) - _ = _
  rw [lsum_snoc]; lia
theorem take_ne {ws : List Str} {a b : Nat} (h : a < b) (h2 : a < ws.length) : (ws.drop a).take (b - a) ≠ [] := by
  intro h3
  have := congrArg List.length h3
  rw [List.length_take, List.length_drop, List.length_nil] at this
  lia
theorem Ends.fold {ws : List Str} {wd n : Int} (hl : ws.length = 5) (hn : 0 ≤ n) {es : List Int} {e : Int} (h : Ends ws wd n es e) : Fold ws wd n es e := by
  have hp := psums_len ws 5
  induction h with
  | @start k hc =>
    obtain ⟨hk, h1, h2⟩ := hc
    rw [hp] at hk h2
    have h1' : ∀ i, i < k → lsum (ws.take i) ≤ wd - n := fun i hi => by have := h1 i hi; rwa [psums_get _ (by lia)] at this
    have h2' : ∀ i, k ≤ i → i < 6 → wd - n < lsum (ws.take i) := fun i hi hi2 => by have := h2 i hi (by lia); rwa [psums_get _ (by lia)] at this
    have fit : ∀ j : Nat, 1 ≤ k → j = k - 1 → (ws.take j).foldl (gstep wd) (n, [], []) = (n, ws.take j, []) := fun j hk1 hj => by
      have := h1' j (by lia)
      exact fold_fit (ls := []) (ws.take j) [] (by rw [List.nil_append]; lia)
    have sl : ∀ j : Int, 0 ≤ j → slices ws 0 [j] = [ws.take j.toNat] := fun j hj => by show [(ws.drop 0).take (j - 0).toNat] = _; rw [List.drop_zero, Int.sub_zero]
    by_cases hbig : (if 0 < n then (0 : Int) else 1) ≤ (k : Int) - 1
    · have he : mx ((k : Int) - 1) (if 0 < n then (0 : Int) else 1) = (k : Int) - 1 := if_neg (by lia)
      have hk1 : 1 ≤ k := by split at hbig <;> lia
      rw [he]
      have ht : ((k : Int) - 1).toNat = k - 1 := by lia
      refine ⟨n, ws.take (k - 1), [], by rw [ht]; exact fit _ hk1 rfl, by rw [sl _ (by lia), ht]; rfl, fun h5 => ?_, fun h0 => ?_⟩
      · have := h2' k (Nat.le_refl _) (by lia)
        rw [ht, show k - 1 + 1 = k from by lia]
        lia
      · by_cases hn0 : 0 < n
        · exact hn0
        · rw [if_neg hn0] at hbig
          have := congrArg List.length h0
          rw [List.length_take, List.length_nil] at this
          lia
    · by_cases hn0 : 0 < n
      · rw [if_pos hn0] at hbig ⊢
        have he : mx ((k : Int) - 1) 0 = 0 := if_pos (by lia)
        rw [he]
        have hk0 : k = 0 := by lia
        refine ⟨n, [], [], by simp, by rw [sl _ (Int.le_refl _)]; simp, fun _ => ?_, fun _ => hn0⟩
        have := h2' 1 (by lia) (by lia)
        have z : lsum [] = 0 := rfl
        simp only [Int.toNat_zero, List.take_zero, Nat.zero_add]
        rw [z]; lia
      · rw [if_neg hn0] at hbig ⊢
        have he : mx ((k : Int) - 1) 1 = 1 := if_pos (by lia)
        rw [he]
        have hn00 : n = 0 := by lia
        subst hn00
        obtain ⟨x, hx⟩ : ∃ x, ws[0]? = some x := ⟨ws[0], List.getElem?_eq_getElem (by lia)⟩
        have ht1 : ws.take 1 = [x] := by rw [List.take_add_one, hx]; rfl
        refine ⟨0, [x], [], ?_, by rw [sl _ (by decide)]; show [] ++ [[x]] = [ws.take 1]; rw [ht1]; rfl, fun _ => ?_, fun h0 => nomatch h0⟩
        · show (ws.take 1).foldl _ _ = _
          rw [ht1]
          show gstep wd (0, [], []) x = _
          unfold gstep
          split
          · rfl
          · rfl
        · have := h2' 2 (by lia) (by lia)
          have l1 : lsum [x] = lsum (ws.take 1) := by rw [ht1]
          rw [l1]
          show wd < 0 + lsum (ws.take 1) + (lsum (ws.take 2) - lsum (ws.take 1))
          lia
  | @next es e k hE he hc ih =>
    obtain ⟨n', cur, rows, f1, f2, f3, f4⟩ := ih
    obtain ⟨b1, b2, b3, b4, b5, b6⟩ := hE.bounds
    have hlast := hE.last
    obtain ⟨hk, h1, h2⟩ := hc
    rw [hp] at hk h2
    have h1' : ∀ i, i < k → lsum (ws.take i) ≤ lsum (ws.take e.toNat) + wd := fun i hi => by have := h1 i hi; rwa [psums_get _ (by lia)] at this
    have h2' : ∀ i, k ≤ i → i < 6 → lsum (ws.take e.toNat) + wd < lsum (ws.take i) := fun i hi hi2 => by have := h2 i hi (by lia); rwa [psums_get _ (by lia)] at this
    obtain ⟨i, hi⟩ : ∃ i : Nat, e.toNat = i := ⟨_, rfl⟩
    have hei : e = (i : Int) := by lia
    subst hei
    rw [hi] at f1 f3 h1' h2'
    clear hi
    have hi5 : i < 5 := by lia
    obtain ⟨x, hx⟩ : ∃ x, ws[i]? = some x := ⟨ws[i], List.getElem?_eq_getElem (by lia)⟩
    have hlx := len_at hx
    have f3' := f3 he
    rw [hlx] at f3'
    have s1 : (ws.take (i + 1)).foldl (gstep wd) (n, [], []) = (0, [x], slices ws 0 es) := by
      rw [List.take_add_one, hx, List.foldl_append, f1]
      show gstep wd (n', cur, rows) x = _
      rw [gstep_cut f3' f4, f2]
    have hz : i + 1 ≤ (mx ((k : Int) - 1) ((i : Int) + 1)).toNat ∧ (mx ((k : Int) - 1) ((i : Int) + 1)).toNat ≤ 5 ∧ 0 ≤ mx ((k : Int) - 1) ((i : Int) + 1) ∧
        ((mx ((k : Int) - 1) ((i : Int) + 1)).toNat = i + 1 ∨ lsum (ws.take (mx ((k : Int) - 1) ((i : Int) + 1)).toNat) ≤ lsum (ws.take i) + wd) ∧
        ((mx ((k : Int) - 1) ((i : Int) + 1)).toNat < 5 → lsum (ws.take i) + wd < lsum (ws.take ((mx ((k : Int) - 1) ((i : Int) + 1)).toNat + 1))) := by
      rcases mx_cases ((k : Int) - 1) ((i : Int) + 1) with ⟨e1, e2⟩ | ⟨e1, e2⟩
      · rw [e1]
        have ht : ((k : Int) - 1).toNat = k - 1 := by lia
        rw [ht]
        exact ⟨by lia, by lia, by lia, .inr (h1' _ (by lia)), fun h => by rw [show k - 1 + 1 = k from by lia]; exact h2' _ (Nat.le_refl _) (by lia)⟩
      · rw [e1]
        have ht : ((i : Int) + 1).toNat = i + 1 := by lia
        rw [ht]
        exact ⟨Nat.le_refl _, by lia, by lia, .inl rfl, fun h => h2' _ (by lia) (by lia)⟩
    generalize mx ((k : Int) - 1) ((i : Int) + 1) = z at hz ⊢
    obtain ⟨z1, z2, z3, z4, z5⟩ := hz
    have hd1 : (ws.drop i).take (z.toNat - i) = [x] ++ (ws.drop (i + 1)).take (z.toNat - (i + 1)) := by
      rw [List.drop_eq_getElem_cons (show i < ws.length by lia), show z.toNat - i = (z.toNat - (i + 1)) + 1 from by lia, List.take_succ_cons]
      rw [List.getElem?_eq_getElem (show i < ws.length by lia)] at hx
      rw [Option.some.inj hx]; rfl
    refine ⟨0, (ws.drop i).take (z.toNat - i), slices ws 0 es, ?_, ?_, fun h5 => ?_, fun h0 => absurd h0 (take_ne (by lia) (by lia))⟩
    · rw [take_split ws z1, List.foldl_append, s1]
      rcases z4 with z4 | z4
      · rw [hd1, z4, Nat.sub_self, List.take_zero]; rfl
      · rw [fold_fit _ _ (by rw [← hd1, lsum_take ws (show i ≤ z.toNat by lia)]; lia), hd1]
    · rw [slices_snoc, hlast, show (z - (i : Int)).toNat = z.toNat - i from by lia]; rfl
    · have := z5 (by lia)
      rw [lsum_take ws (show i ≤ z.toNat by lia)]
      lia
-- the folded rows are the rows that bisect tells
theorem foldRows_eq {ws : List Str} {wd n : Int} (hl : ws.length = 5) (hn : 0 ≤ n) {es : List Int} (h : Ends ws wd n es 5) : foldRows wd n ws = slices ws 0 es := by
  obtain ⟨n', cur, rows, f1, f2, _, _⟩ := h.fold hl hn
  unfold foldRows
  rw [show ((5 : Int)).toNat = 5 from rfl, List.take_of_length_le (by lia)] at f1
  rw [f1]
  exact f2
end
section
open PySem PySem.W PySem.Calls PyProof.Rows
-- a row's letters
def rowLen (ws : List Str) : Nat := (Txt.join "" ws).length
-- the letters of the first rows
def cum (ls : List (List Str)) (i : Nat) : Nat := ((ls.take i).map rowLen).sum
def dbls (ls : List (List Str)) (i : Nat) : List Int := (List.range (i + 1)).map fun j => 2 * (cum ls j : Int)
theorem dbls_len (ls : List (List Str)) (i : Nat) : (dbls ls i).length = i + 1 := by simp [dbls]
theorem dbls_get (ls : List (List Str)) {i j : Nat} (h : j ≤ i) : (dbls ls i).getD j 0 = 2 * (cum ls j : Int) := by
  unfold dbls
  rw [List.getD_eq_getElem?_getD, List.getElem?_map, List.getElem?_range (by lia)]
  rfl
theorem dbls_succ (ls : List (List Str)) (i : Nat) : dbls ls (i + 1) = dbls ls i ++ [2 * (cum ls (i + 1) : Int)] := by
  unfold dbls
  rw [List.range_succ, List.map_append]
  rfl
theorem cum_succ {ls : List (List Str)} {i : Nat} {r : List Str} (h : ls[i]? = some r) : cum ls (i + 1) = cum ls i + rowLen r := by
  unfold cum
  rw [List.take_add_one, h]
  simp
theorem cum_mono (ls : List (List Str)) {i j : Nat} (h : i ≤ j) : cum ls i ≤ cum ls j := by
  obtain ⟨d, rfl⟩ := Nat.exists_eq_add_of_le h
  unfold cum
  rw [List.take_add, List.map_append, List.sum_append]
  lia
theorem dbls_sorted (ls : List (List Str)) (n : Nat) : ∀ i j, i ≤ j → j < (dbls ls n).length → (dbls ls n).getD i 0 ≤ (dbls ls n).getD j 0 := by
  intro i j h1 h2
  rw [dbls_len] at h2
  rw [dbls_get ls (by lia), dbls_get ls (by lia)]
  have := cum_mono ls h1
  lia
-- where the middle lies
structure Place (ls : List (List Str)) (T k : Nat) : Prop where
  pos : 0 < k
  le : k ≤ ls.length
  lo : 2 * cum ls (k - 1) < T
  hi : T ≤ 2 * cum ls k
theorem place_of {ls : List (List Str)} {k : Nat} (hT : 0 < cum ls ls.length) (h0 : k ≤ (dbls ls ls.length).length) (h1 : ∀ i, i < k → (dbls ls ls.length).getD i 0 < (cum ls ls.length : Int)) (h2 : ∀ i, k ≤ i → i < (dbls ls ls.length).length → (cum ls ls.length : Int) ≤ (dbls ls ls.length).getD i 0) : Place ls (cum ls ls.length) k := by
  rw [dbls_len] at h0 h2
  have a1 : ∀ i, i < k → 2 * cum ls i < cum ls ls.length := fun i hi => by
    have := h1 i hi
    rw [dbls_get ls (by lia)] at this
    lia
  have a2 : ∀ i, k ≤ i → i ≤ ls.length → cum ls ls.length ≤ 2 * cum ls i := fun i hi h => by
    have := h2 i hi (by lia)
    rw [dbls_get ls (by lia)] at this
    lia
  have hk : k ≤ ls.length := by
    rcases Nat.lt_or_ge ls.length k with h | h
    · have := a1 ls.length h
      lia
    · exact h
  have hp : 0 < k := by
    rcases Nat.eq_zero_or_pos k with h | h
    · subst h
      have := a2 0 (Nat.le_refl _) (Nat.zero_le _)
      have z : cum ls 0 = 0 := rfl
      lia
    · exact h
  exact ⟨hp, hk, a1 _ (by lia), a2 _ (Nat.le_refl _) hk⟩
end
section
def cst (M : Nat → Nat → Bool) (i j : Nat) : Int := if M i j then 0 else 2
-- the lesser one, as the program takes it
def mn (a b : Int) : Int := if a < b then a else b
theorem mn_or {p : Int → Prop} {a b : Int} (ha : p a) (hb : p b) : p (mn a b) := by
  unfold mn
  split
  · exact ha
  · exact hb
theorem mn_l (a b : Int) : mn a b ≤ a := by
  unfold mn
  split
  · exact Int.le_refl _
  · exact Int.not_lt.mp (by assumption)
theorem mn_r (a b : Int) : mn a b ≤ b := by
  unfold mn
  split
  · exact Int.le_of_lt (by assumption)
  · exact Int.le_refl _
theorem mn_of {a b : Int} (h : a ≤ b) : mn a b = a := by
  unfold mn
  split
  · rfl
  · exact Int.le_antisymm (Int.not_lt.mp (by assumption)) h
theorem mn_irr {s r a b : Int} (h : s ≤ a + 2) (hb : a ≤ b) : mn s (mn r a + 2) = mn s (mn r b + 2) := by
  by_cases hr : r ≤ a
  · rw [mn_of hr, mn_of (Int.le_trans hr hb)]
  · have hr := Int.le_of_lt (Int.not_le.mp hr)
    have h1 : a ≤ mn r a := mn_or (p := fun d => a ≤ d) hr (Int.le_refl _)
    have h2 : a ≤ mn r b := mn_or (p := fun d => a ≤ d) hr hb
    rw [mn_of (Int.le_trans h (Int.add_le_add_right h1 2)), mn_of (Int.le_trans h (Int.add_le_add_right h2 2))]
def DD (M : Nat → Nat → Bool) : Nat → Nat → Int
  | 0, j => 2 * (j : Int)
  | i + 1, 0 => 2 * ((i : Int) + 1)
  | i + 1, j + 1 => mn (DD M i j + cst M i j) (mn (DD M i (j + 1)) (DD M (i + 1) j) + 2)
-- what the matches of the row across the middle are like
structure Mid (M : Nat → Nat → Bool) (T u v : Nat) : Prop where
  uT : 2 * u < T
  vT : T ≤ 2 * v
  v1 : v ≤ T
  mid : ∀ i j, T - v ≤ i → i < T - u → (M i j = true ↔ (j + T = i + u + v))
  up : ∀ i j, T - u ≤ i → M i j = true → j < u
  low : ∀ i j, i < T - v → M i j = true → v ≤ j
-- a lower bound for the table's cells; m is the greater one of T - v and u
def Lo (T u v m i j d : Int) : Prop :=
  (2 * i ≤ d ∧ 2 * j ≤ d) ∨
  (T - v ≤ i ∧ u ≤ j ∧ 2 * m ≤ d ∧ 2 * m + 2 * (i - (T - v) - (j - u)) ≤ d ∧ 2 * m + 2 * (j - u - (i - (T - v))) ≤ d ∧ 2 * m + 2 * (i - (T - v) - (v - u)) ≤ d ∧ 2 * m + 2 * (j - u - (v - u)) ≤ d) ∨
  (T - u ≤ i ∧ 2 * (T - u) ≤ d ∧ 2 * (T - u) + 2 * (j - u) ≤ d) ∨
  (v ≤ j ∧ 2 * v ≤ d ∧ 2 * v + 2 * (i - (T - v)) ≤ d)
theorem lo_right {T u v m i j d : Int} (h : Lo T u v m i j d) : Lo T u v m i (j + 1) (d + 2) := by
  rcases h with h | ⟨a, b, c, e, f, g, h⟩ | h | h
  · exact .inl ⟨by lia, by lia⟩
  · exact .inr (.inl ⟨a, by lia, by lia, by lia, by lia, by lia, by lia⟩)
  · exact .inr (.inr (.inl ⟨h.1, by lia, by lia⟩))
  · exact .inr (.inr (.inr ⟨by lia, by lia, by lia⟩))
theorem lo_down {T u v m i j d : Int} (h : Lo T u v m i j d) : Lo T u v m (i + 1) j (d + 2) := by
  rcases h with h | ⟨a, b, c, e, f, g, h⟩ | h | h
  · exact .inl ⟨by lia, by lia⟩
  · exact .inr (.inl ⟨by lia, b, by lia, by lia, by lia, by lia, by lia⟩)
  · exact .inr (.inr (.inl ⟨by lia, by lia, by lia⟩))
  · exact .inr (.inr (.inr ⟨h.1, by lia, by lia⟩))
theorem lo_diag {T u v m i j d : Int} (h : Lo T u v m i j d) : Lo T u v m (i + 1) (j + 1) (d + 2) := by
  rcases h with h | ⟨a, b, c, e, f, g, h⟩ | h | h
  · exact .inl ⟨by lia, by lia⟩
  · exact .inr (.inl ⟨by lia, by lia, by lia, by lia, by lia, by lia, by lia⟩)
  · exact .inr (.inr (.inl ⟨by lia, by lia, by lia⟩))
  · exact .inr (.inr (.inr ⟨by lia, by lia, by lia⟩))
-- on the middle: the cell is on the diagonal
theorem lo_mid {T u v m i j d : Int} (hm : m = T - v ∨ m = u) (hu : 2 * u < T) (hv : v ≤ T) (h1 : T - v ≤ i) (h2 : i < T - u) (h3 : j + T = i + u + v) (h : Lo T u v m i j d) : Lo T u v m (i + 1) (j + 1) d := by
  refine .inr (.inl ?_)
  rcases h with ⟨a, b⟩ | ⟨a, b, c, e, f, g, h⟩ | ⟨a, b, c⟩ | ⟨a, b, c⟩
  · have k1 : 2 * m ≤ d := by lia
    exact ⟨by lia, by lia, k1, by lia, by lia, by lia, by lia⟩
  · exact ⟨by lia, by lia, c, by lia, by lia, by lia, by lia⟩
  · exact absurd h2 (by lia)
  · exact absurd h2 (by lia)
theorem lo_up {T u v m i j d : Int} (hu : 2 * u < T) (hv : T ≤ 2 * v) (h1 : T - u ≤ i) (h2 : j < u) (h : Lo T u v m i j d) : Lo T u v m (i + 1) (j + 1) d := by
  have k : 2 * (T - u) ≤ d := by
    rcases h with ⟨a, b⟩ | ⟨a, b, _⟩ | ⟨a, b, c⟩ | ⟨a, b, c⟩
    · lia
    · exact absurd h2 (by lia)
    · exact b
    · exact absurd h2 (by lia)
  exact .inr (.inr (.inl ⟨by lia, k, by lia⟩))
theorem lo_low {T u v m i j d : Int} (hu : 2 * u < T) (hv : T ≤ 2 * v) (h1 : i < T - v) (h2 : v ≤ j) (h : Lo T u v m i j d) : Lo T u v m (i + 1) (j + 1) d := by
  have k : 2 * v ≤ d := by
    rcases h with ⟨a, b⟩ | ⟨a, b, _⟩ | ⟨a, b, c⟩ | ⟨a, b, c⟩
    · lia
    · exact absurd h1 (by lia)
    · exact absurd h1 (by lia)
    · exact b
  exact .inr (.inr (.inr ⟨by lia, k, by lia⟩))
theorem DD_lo {M : Nat → Nat → Bool} {T u v : Nat} (H : Mid M T u v) {m : Int} (hm : m = (T : Int) - v ∨ m = u) : ∀ i j : Nat, Lo T u v m i j (DD M i j)
  | 0, j => by rw [DD]; exact .inl ⟨by lia, Int.le_refl _⟩
  | i + 1, 0 => by rw [DD]; exact .inl ⟨by lia, by lia⟩
  | i + 1, j + 1 => by
    have h1 := lo_right (DD_lo H hm (i + 1) j)
    have h2 := lo_down (DD_lo H hm i (j + 1))
    have h3 := DD_lo H hm i j
    have q1 := H.uT
    have q2 := H.vT
    have q3 := H.v1
    have h4 : Lo T u v m ((i : Int) + 1) ((j : Int) + 1) (DD M i j + cst M i j) := by
      unfold cst
      by_cases hx : M i j = true
      · have q4 := H.low i j
        have q5 := H.mid i j
        have q6 := H.up i j
        rw [if_pos hx, Int.add_zero]
        by_cases a : i < T - v
        · have := q4 a hx
          clear q4 q5 q6 h1 h2
          exact lo_low (by lia) (by lia) (by lia) (by lia) h3
        · by_cases b : i < T - u
          · have := (q5 (by lia) b).mp hx
            clear q4 q5 q6 h1 h2
            exact lo_mid hm (by lia) (by lia) (by lia) (by lia) (by lia) h3
          · have := q6 (by lia) hx
            clear q4 q5 q6 h1 h2
            exact lo_up (by lia) (by lia) (by lia) (by lia) h3
      · rw [if_neg hx]
        exact lo_diag h3
    rw [DD]
    push_cast at h1 h2 ⊢
    exact mn_or (p := Lo T u v m ((i : Int) + 1) ((j : Int) + 1)) h4 (mn_or (p := fun d => Lo T u v m ((i : Int) + 1) ((j : Int) + 1) (d + 2)) h2 h1)
theorem DD_diag1 (M : Nat → Nat → Bool) (i j : Nat) : DD M (i + 1) (j + 1) ≤ DD M i j + cst M i j := by
  rw [DD]; exact mn_l _ _
theorem DD_right1 (M : Nat → Nat → Bool) (i j : Nat) : DD M (i + 1) (j + 1) ≤ DD M (i + 1) j + 2 := by
  rw [DD]; exact Int.le_trans (mn_r _ _) (Int.add_le_add_right (mn_r _ _) 2)
theorem DD_down1 (M : Nat → Nat → Bool) (i j : Nat) : DD M (i + 1) (j + 1) ≤ DD M i (j + 1) + 2 := by
  rw [DD]; exact Int.le_trans (mn_r _ _) (Int.add_le_add_right (mn_l _ _) 2)
theorem cst_le (M : Nat → Nat → Bool) (i j : Nat) : cst M i j ≤ 2 := by unfold cst; split <;> decide
theorem DD_step (M : Nat → Nat → Bool) (i j : Nat) : ∀ k, DD M (i + k) (j + k) ≤ DD M i j + 2 * k
  | 0 => by simp
  | k + 1 => by
    have h := DD_step M i j k
    have h1 := DD_diag1 M (i + k) (j + k)
    have h2 := cst_le M (i + k) (j + k)
    rw [← Nat.add_assoc, ← Nat.add_assoc]
    lia
theorem DD_zero (M : Nat → Nat → Bool) : ∀ i : Nat, DD M i 0 = 2 * (i : Int)
  | 0 => by rw [DD]
  | i + 1 => by rw [DD]; lia
theorem DD_down (M : Nat → Nat → Bool) (i j : Nat) : ∀ k, DD M (i + k) j ≤ DD M i j + 2 * k
  | 0 => by simp
  | k + 1 => by
    have h := DD_down M i j k
    rw [← Nat.add_assoc]
    cases j with
    | zero => rw [DD_zero, DD_zero] at *; lia
    | succ j =>
      have h1 := DD_down1 M (i + k) j
      lia
theorem DD_right (M : Nat → Nat → Bool) (i j : Nat) : ∀ k, DD M i (j + k) ≤ DD M i j + 2 * k
  | 0 => by simp
  | k + 1 => by
    have h := DD_right M i j k
    rw [← Nat.add_assoc]
    cases i with
    | zero => rw [DD] at *; lia
    | succ i =>
      have h1 := DD_right1 M i (j + k)
      lia
theorem DD_go (M : Nat → Nat → Bool) (i j a b : Nat) {e : Int} (h1 : 2 * (a : Int) ≤ e) (h2 : 2 * (b : Int) ≤ e) : DD M (i + a) (j + b) ≤ DD M i j + e := by
  rcases Nat.le_total a b with h | h
  · obtain ⟨c, rfl⟩ := Nat.exists_eq_add_of_le h
    have h1 := DD_step M i j a
    have h2 := DD_right M (i + a) (j + a) c
    rw [← Nat.add_assoc]
    lia
  · obtain ⟨c, rfl⟩ := Nat.exists_eq_add_of_le h
    have h1 := DD_step M i j b
    have h2 := DD_down M (i + b) (j + b) c
    rw [← Nat.add_assoc]
    lia
theorem DD_max (M : Nat → Nat → Bool) (i j : Nat) {e : Int} (h1 : 2 * (i : Int) ≤ e) (h2 : 2 * (j : Int) ≤ e) : DD M i j ≤ e := by
  have h := DD_go M 0 0 i j h1 h2
  rw [DD_zero, Nat.zero_add, Nat.zero_add] at h
  lia
theorem DD_diag {M : Nat → Nat → Bool} {T u v : Nat} (H : Mid M T u v) : ∀ t, t ≤ v - u → DD M (T - v + t) (u + t) ≤ DD M (T - v) u
  | 0, _ => by simp
  | t + 1, h => by
    have h1 := DD_diag H t (by lia)
    have hv := H.v1
    have hu := H.uT
    have hm : M (T - v + t) (u + t) = true := (H.mid _ _ (by lia) (by lia)).mpr (by lia)
    have h2 := DD_diag1 M (T - v + t) (u + t)
    rw [show cst M (T - v + t) (u + t) = 0 from by unfold cst; rw [if_pos hm]] at h2
    rw [← Nat.add_assoc, ← Nat.add_assoc]
    lia
-- the cells that bear the upper bound
theorem DD_mid {M : Nat → Nat → Bool} {T u v : Nat} (H : Mid M T u v) {m : Int} (h1 : (T : Int) - v ≤ m) (h2 : (u : Int) ≤ m) : DD M (T - u) v ≤ 2 * m ∧ DD M T T ≤ 4 * m := by
  have hu := H.uT
  have hv := H.vT
  have hv1 := H.v1
  have k2 := DD_max M (T - v) u (e := 2 * m) (by lia) (by lia)
  have k3 := DD_diag H (v - u) (Nat.le_refl _)
  have k4 := DD_go M (T - u) v u (T - v) (e := 2 * m) (by lia) (by lia)
  rw [show T - v + (v - u) = T - u from by lia, show u + (v - u) = v from by lia] at k3
  rw [show T - u + u = T from by lia, show v + (T - v) = T from by lia] at k4
  exact ⟨Int.le_trans k3 k2, by lia⟩
theorem DD_low {M : Nat → Nat → Bool} {T u v : Nat} (H : Mid M T u v) {m : Int} (hm : m = (T : Int) - v ∨ m = u) (h1 : (T : Int) - v ≤ m) (h2 : (u : Int) ≤ m) : 4 * m ≤ DD M T T := by
  have h := DD_lo H hm T T
  have hu := H.uT
  have hv := H.vT
  have hv1 := H.v1
  rcases h with ⟨a, b⟩ | ⟨a, b, c, e, f, g, h⟩ | ⟨a, b, c⟩ | ⟨a, b, c⟩
  · lia
  · lia
  · lia
  · lia
theorem max_is (a b : Int) : (max a b = a ∨ max a b = b) ∧ a ≤ max a b ∧ b ≤ max a b := by
  rcases Int.le_total a b with h | h
  · rw [Int.max_eq_right h]; exact ⟨.inr rfl, h, Int.le_refl _⟩
  · rw [Int.max_eq_left h]; exact ⟨.inl rfl, Int.le_refl _, h⟩
-- the distance
theorem DD_end {M : Nat → Nat → Bool} {T u v : Nat} (H : Mid M T u v) : DD M T T = 4 * max ((T : Int) - v) u := by
  obtain ⟨h1, h2, h3⟩ := max_is ((T : Int) - v) u
  exact Int.le_antisymm (DD_mid H h2 h3).2 (DD_low H h1 h2 h3)
-- each row of the table holds a cell that is not above the end
theorem DD_row {M : Nat → Nat → Bool} {T u v : Nat} (H : Mid M T u v) (r : Nat) (h0 : 0 < r) (hr : r ≤ T) : ∃ j, 0 < j ∧ j ≤ T ∧ DD M r j ≤ 4 * max ((T : Int) - v) u := by
  obtain ⟨-, h2, h3⟩ := max_is ((T : Int) - v) u
  generalize max ((T : Int) - v) u = m at h2 h3 ⊢
  have hu := H.uT
  have hv := H.vT
  have hv1 := H.v1
  by_cases a : r ≤ T - v
  · exact ⟨r, h0, hr, DD_max M r r (by lia) (by lia)⟩
  by_cases b : r ≤ T - u
  · have k2 := DD_max M (T - v) u (e := 2 * m) (by lia) (by lia)
    have k3 := DD_diag H (r - (T - v)) (by lia)
    rw [show T - v + (r - (T - v)) = r from by lia] at k3
    exact ⟨u + (r - (T - v)), by lia, by lia, by lia⟩
  · have k3 := (DD_mid H h2 h3).1
    have k4 := DD_go M (T - u) v (r - (T - u)) (T - v) (e := 2 * m) (by lia) (by lia)
    rw [show T - u + (r - (T - u)) = r from by lia, show v + (T - v) = T from by lia] at k4
    exact ⟨T, by lia, Nat.le_refl _, by lia⟩
end
section
open PySem PySem.W PySem.Calls PyProof.Rows Builtin Builtin.Str
theorem slice0 (x : Str) : Txt.slice x (some 0) none = x := by
  rw [slice_from_eq (i := 0) (b := x.length) (Int.le_refl _) (by lia) rfl]
  apply cds_ext
  show List.take _ (List.drop _ _) = _
  rw [show ((0 : Int)).toNat = 0 from rfl, List.drop_zero, List.take_of_length_le (by rw [cds_length]; lia)]
theorem sliceN (x : Str) : Txt.slice x none none = x := by
  have e : (strSliceIndices none none 1 x.length).length = x.length := by
    unfold strSliceIndices sliceRange
    simp only [show (1 : Int) > 0 by decide, if_true, List.length_map, List.length_range]
    split <;> (try simp only [Int.ediv_one]) <;> lia
  unfold Txt.slice
  rw [e, if_pos (by simp)]
-- the letters' cut
theorem slice_mid {x : Str} {i j : Int} (h : 0 ≤ i ∧ i ≤ j ∧ j ≤ x.length) : cds (Txt.slice x (some i) (some j)) = ((cds x).drop i.toNat).take (j - i).toNat := by
  have := eq_of_beq (slice_closes (x := x) (i := i) (j := j) ⟨h.1, h.2.1, by rw [cds_length]; exact h.2.2⟩)
  rw [this]
theorem item_eq {x y : Str} {i j : Int} : (Txt.item x i == Txt.item y j) = ((Txt.charAt x i).getD 0 == (Txt.charAt y j).getD 0) := by
  unfold Txt.item
  rw [Bool.eq_iff_iff, beq_iff_eq, beq_iff_eq]
  constructor
  · intro h
    have := congrArg (fun s : Str => s.cps[0]?) h
    simpa using this
  · intro h; rw [h]
theorem char_at {x : Str} {i : Nat} (h : i < x.length) : (Txt.charAt x (i : Int)).getD 0 = (cds x).getD i 0 := by
  unfold Txt.charAt seqIndex?
  rw [if_neg (by lia : ¬ ((i : Int) < 0))]
  dsimp only
  rw [if_pos (by simp; lia)]
  show ((x.cps[((i : Int)).toNat]?)).getD 0 = _
  rw [Int.toNat_natCast, ← Array.getElem?_toList, List.getD_eq_getElem?_getD]
theorem char_last {x : Str} (h : 0 < x.length) : (Txt.charAt x (-1)).getD 0 = (cds x).getD (x.length - 1) 0 := by
  unfold Txt.charAt seqIndex?
  rw [if_pos (show (-1 : Int) < 0 by decide)]
  dsimp only
  rw [if_pos (by simp; lia)]
  show ((x.cps[((-1 : Int) + x.length).toNat]?)).getD 0 = _
  rw [show ((-1 : Int) + x.length).toNat = x.length - 1 from by lia, ← Array.getElem?_toList, List.getD_eq_getElem?_getD]
end
section
open PySem PySem.W PySem.Calls PyProof.Rows
-- the signs of a row, of the rows
def rowCds (r : List Str) : List Nat := (r.map cds).flatten
def flat (ls : List (List Str)) : List Nat := (ls.map rowCds).flatten
theorem cds_join (r : List Str) : cds (Txt.join "" r) = rowCds r := cds_join0 r
theorem rowLen_eq (r : List Str) : rowLen r = (rowCds r).length := by
  unfold rowLen
  rw [← cds_length, cds_join]
theorem flat_append (a b : List (List Str)) : flat (a ++ b) = flat a ++ flat b := by simp [flat]
theorem cum_eq (ls : List (List Str)) (i : Nat) : cum ls i = (flat (ls.take i)).length := by
  unfold cum flat
  rw [List.length_flatten, List.map_map]
  congr 1
  exact List.map_congr_left fun r _ => rowLen_eq r
theorem flat_eq (ls : List (List Str)) : flat ls = rowCds ls.flatten := by
  induction ls with
  | nil => rfl
  | cons r l ih =>
    show rowCds r ++ flat l = rowCds (r ++ l.flatten)
    rw [ih]
    simp [rowCds]
theorem flat_rev_len (ls : List (List Str)) : (flat ls.reverse).length = (flat ls).length := by
  induction ls with
  | nil => rfl
  | cons r l ih =>
    rw [List.reverse_cons, flat_append, List.length_append, ih, show flat (r :: l) = rowCds r ++ flat l from rfl, List.length_append, show flat [r] = rowCds r ++ [] from rfl, List.append_nil, Nat.add_comm]
theorem flat_rev_mem (ls : List (List Str)) (x : Nat) : x ∈ flat ls.reverse ↔ x ∈ flat ls := by
  unfold flat
  rw [List.mem_flatten, List.mem_flatten]
  simp
theorem slices_flat {ws : List Str} {wd n : Int} {es : List Int} {e : Int} (h : Ends ws wd n es e) : (slices ws 0 es).flatten = ws.take e.toNat := by
  induction h with
  | @start k hc =>
    have hb := (Ends.start hc : Ends ws wd n _ _).bounds
    show (((ws.drop 0).take _) :: slices ws _ []).flatten = _
    rw [List.drop_zero, Int.sub_zero]
    simp [slices]
  | @next es e k h1 h2 hc ih =>
    have hb := h1.bounds
    have hl := h1.last
    have hz : e + 1 ≤ mx ((k : Int) - 1) (e + 1) := by rcases mx_cases ((k : Int) - 1) (e + 1) with ⟨e1, e2⟩ | ⟨e1, e2⟩ <;> lia
    generalize mx ((k : Int) - 1) (e + 1) = z at hz ⊢
    rw [slices_snoc, List.flatten_append, ih, hl, take_split ws (show e.toNat ≤ z.toNat by lia), show (z - e).toNat = z.toNat - e.toNat from by lia]
    simp
-- the match, within the texts
def mt (A B : List Nat) (T : Nat) : Nat → Nat → Bool := fun i j => decide (i < T) && decide (j < T) && (B.getD i 0 == A.getD j 0)
theorem mt_iff {A B : List Nat} {T i j : Nat} : mt A B T i j = true ↔ i < T ∧ j < T ∧ B.getD i 0 = A.getD j 0 := by
  unfold mt
  simp [and_assoc]
theorem getD_mid {X Y Z : List Nat} {i : Nat} (h1 : X.length ≤ i) (h2 : i < X.length + Y.length) : (X ++ (Y ++ Z)).getD i 0 = Y.getD (i - X.length) 0 := by
  rw [List.getD_eq_getElem?_getD, List.getD_eq_getElem?_getD, List.getElem?_append_right h1, List.getElem?_append_left (by lia)]
theorem getD_low {X Y : List Nat} {i : Nat} (h : i < X.length) : (X ++ Y).getD i 0 = X.getD i 0 := by
  rw [List.getD_eq_getElem?_getD, List.getD_eq_getElem?_getD, List.getElem?_append_left h]
theorem getD_high {X Y : List Nat} {i : Nat} (h : X.length ≤ i) : (X ++ Y).getD i 0 = Y.getD (i - X.length) 0 := by
  rw [List.getD_eq_getElem?_getD, List.getD_eq_getElem?_getD, List.getElem?_append_right h]
theorem getD_add {X Y : List Nat} {k : Nat} : (X ++ Y).getD (X.length + k) 0 = Y.getD k 0 := by
  rw [getD_high (Nat.le_add_right _ _), Nat.add_sub_cancel_left]
theorem getD_in {X : List Nat} {i : Nat} (h : i < X.length) : X.getD i 0 ∈ X := by
  rw [List.getD_eq_getElem?_getD, List.getElem?_eq_getElem h]
  exact List.getElem_mem h
theorem in_getD {X : List Nat} {x : Nat} (h : x ∈ X) : ∃ i, i < X.length ∧ X.getD i 0 = x := by
  obtain ⟨i, hi, e⟩ := List.mem_iff_getElem.mp h
  exact ⟨i, hi, by rw [List.getD_eq_getElem?_getD, List.getElem?_eq_getElem hi]; exact e⟩
theorem mid_lists {X Y Z X' Z' : List Nat} {c T : Nat} (hT : X.length + (Y.length + Z.length) = T) (hA : ∀ j, j < T → (X ++ (Y ++ Z)).getD j 0 = c + j) (hx : X'.length = X.length) (hz : Z'.length = Z.length) (mx : ∀ x ∈ X', x ∈ X) (mz : ∀ x ∈ Z', x ∈ Z)
    (h1 : 2 * X.length < T) (h2 : T ≤ 2 * (X.length + Y.length)) : Mid (mt (X ++ (Y ++ Z)) (Z' ++ (Y ++ X')) T) T X.length (X.length + Y.length) := by
  subst hT
  have eV : X.length + (Y.length + Z.length) - (X.length + Y.length) = Z.length := by rw [← Nat.add_assoc, Nat.add_sub_cancel_left]
  have eU : X.length + (Y.length + Z.length) - X.length = Y.length + Z.length := Nat.add_sub_cancel_left ..
  refine ⟨h1, h2, Nat.add_le_add_left (Nat.le_add_right _ _) _, fun i j h3 h4 => ?_, fun i j h3 h4 => ?_, fun i j h3 h4 => ?_⟩
  · rw [eV] at h3
    rw [eU] at h4
    obtain ⟨k, rfl⟩ := Nat.exists_eq_add_of_le h3
    have hk : k < Y.length := Nat.lt_of_add_lt_add_left (Nat.add_comm Y.length _ ▸ h4)
    have hb : X.length + k < X.length + (Y.length + Z.length) := Nat.add_lt_add_left (Nat.lt_of_lt_of_le hk (Nat.le_add_right _ _)) _
    have e : (Z' ++ (Y ++ X')).getD (Z.length + k) 0 = c + (X.length + k) := by
      rw [← hz, getD_add, getD_low hk, ← getD_low (Y := Z) hk, ← getD_add (X := X), hA _ hb]
    rw [mt_iff, e]
    constructor
    · rintro ⟨h5, h6, h7⟩
      rw [hA j h6] at h7
      rw [← Nat.add_left_cancel h7]
      clear h1 h2 h7 h6 h5 h3 h4 hk hb e hA hx hz
      lia
    · intro h5
      have h6 : j = X.length + k := by
        clear h1 h2 h3 h4 hk hb e hA hx hz
        lia
      rw [h6, hA _ hb]
      exact ⟨Nat.lt_of_lt_of_le h4 (Nat.le_add_left _ _), hb, rfl⟩
  · rw [eU] at h3
    obtain ⟨h5, h6, h7⟩ := mt_iff.mp h4
    obtain ⟨k, rfl⟩ := Nat.exists_eq_add_of_le h3
    have hk : k < X'.length := by
      rw [hx]
      rw [Nat.add_comm X.length] at h5
      exact Nat.lt_of_add_lt_add_left h5
    rw [hA j h6, Nat.add_comm Y.length, Nat.add_assoc, ← hz, getD_add, getD_add] at h7
    have h8 := mx _ (getD_in hk)
    rw [h7] at h8
    obtain ⟨q, hq, e⟩ := in_getD h8
    have := hA q (Nat.lt_of_lt_of_le hq (Nat.le_add_right _ _))
    rw [getD_low hq, e] at this
    rw [Nat.add_left_cancel this]
    exact hq
  · rw [eV] at h3
    obtain ⟨h5, h6, h7⟩ := mt_iff.mp h4
    rw [← hz] at h3
    rw [hA j h6, getD_low h3] at h7
    have h8 := mz _ (getD_in h3)
    rw [h7] at h8
    obtain ⟨q, hq, e⟩ := in_getD h8
    have := hA (X.length + (Y.length + q)) (Nat.add_lt_add_left (Nat.add_lt_add_left hq _) _)
    rw [getD_add, getD_add, e] at this
    rw [Nat.add_left_cancel this, ← Nat.add_assoc]
    exact Nat.le_add_right _ _
theorem DD_congr {M M' : Nat → Nat → Bool} {T : Nat} (h : ∀ i j, i < T → j < T → M i j = M' i j) : ∀ i j, i ≤ T → j ≤ T → DD M i j = DD M' i j
  | 0, j, _, _ => by rw [DD, DD]
  | i + 1, 0, _, _ => by rw [DD, DD]
  | i + 1, j + 1, hi, hj => by
    rw [DD, DD, DD_congr h (i + 1) j hi (by lia), DD_congr h i (j + 1) (by lia) hj, DD_congr h i j (by lia) (by lia)]
    unfold cst
    rw [h i j hi hj]
-- what the rows tell of the two texts
structure Far (a b : Str) (T u v : Nat) : Prop where
  la : a.length = T
  lb : b.length = T
  uT : 2 * u < T
  vT : T ≤ 2 * v
  v1 : v ≤ T
  dist : DD (fun i j => (cds b).getD i 0 == (cds a).getD j 0) T T = 4 * max ((T : Int) - v) u
  row : ∀ r, 0 < r → r ≤ T → ∃ j, 0 < j ∧ j ≤ T ∧ DD (fun i j => (cds b).getD i 0 == (cds a).getD j 0) r j ≤ 4 * max ((T : Int) - v) u
  same : u = 0 → v = T → a = b
  first : ¬ (u = 0 ∧ v = T) → (cds a).getD 0 0 ≠ (cds b).getD 0 0
  last : ¬ (u = 0 ∧ v = T) → (cds a).getD (T - 1) 0 ≠ (cds b).getD (T - 1) 0
theorem far_rows {ls : List (List Str)} {a b : Str} {c T k : Nat} (ha : cds a = flat ls) (hb : cds b = flat ls.reverse) (hA : flat ls = (List.range T).map (c + ·)) (hk : Place ls T k) : Far a b T (cum ls (k - 1)) (cum ls k) := by
  obtain ⟨p1, p2, p3, p4⟩ := hk
  have e1 : ls = ls.take (k - 1) ++ ([ls[k - 1]'(by lia)] ++ ls.drop k) := by
    conv => lhs; rw [← List.take_append_drop (k - 1) ls, List.drop_eq_getElem_cons (show k - 1 < ls.length by lia), show k - 1 + 1 = k from by lia]
    rfl
  generalize ls[k - 1]'(by lia) = r at e1
  have e2 : ls.reverse = (ls.drop k).reverse ++ ([r] ++ (ls.take (k - 1)).reverse) := by
    conv => lhs; rw [e1]
    simp
  have eA : flat ls = flat (ls.take (k - 1)) ++ (flat [r] ++ flat (ls.drop k)) := by
    conv => lhs; rw [e1]
    rw [flat_append, flat_append]
  have eB : flat ls.reverse = flat (ls.drop k).reverse ++ (flat [r] ++ flat (ls.take (k - 1)).reverse) := by
    rw [e2, flat_append, flat_append]
  have hu : (flat (ls.take (k - 1))).length = cum ls (k - 1) := (cum_eq _ _).symm
  have hv : (flat (ls.take (k - 1))).length + (flat [r]).length = cum ls k := by
    rw [cum_eq, show ls.take k = ls.take (k - 1) ++ [r] from by
      conv => lhs; rw [e1, List.take_append]
      rw [List.take_take, List.length_take, show min k (k - 1) = k - 1 from by lia, show k - min (k - 1) ls.length = 1 from by lia]
      simp, flat_append, List.length_append]
  have hT : (flat ls).length = T := by rw [hA]; simp
  have hTT : (flat (ls.take (k - 1))).length + ((flat [r]).length + (flat (ls.drop k)).length) = T := by
    rw [← hT, eA, List.length_append, List.length_append]
  have hAj : ∀ j, j < T → (flat (ls.take (k - 1)) ++ (flat [r] ++ flat (ls.drop k))).getD j 0 = c + j := fun j hj => by
    rw [← eA, hA, List.getD_eq_getElem?_getD, List.getElem?_map, List.getElem?_range hj]
    rfl
  have hlx := flat_rev_len (ls.take (k - 1))
  have hlz := flat_rev_len (ls.drop k)
  have hM := mid_lists (X := flat (ls.take (k - 1))) (Y := flat [r]) (Z := flat (ls.drop k)) (X' := flat (ls.take (k - 1)).reverse) (Z' := flat (ls.drop k).reverse) hTT hAj hlx hlz (fun x hx => (flat_rev_mem _ x).mp hx) (fun x hx => (flat_rev_mem _ x).mp hx) (by lia) (by lia)
  rw [← eA, ← eB, hv, hu] at hM
  have hc : ∀ i j, i < T → j < T → (fun i j => (cds b).getD i 0 == (cds a).getD j 0 : Nat → Nat → Bool) i j = mt (flat ls) (flat ls.reverse) T i j := fun i j hi hj => by
    unfold mt
    rw [ha, hb, decide_eq_true hi, decide_eq_true hj]
    rfl
  have hd := DD_congr hc
  have hTb : (flat ls.reverse).length = T := by rw [flat_rev_len, hT]
  have no : ∀ i, i < T → mt (flat ls) (flat ls.reverse) T i i = false → (cds a).getD i 0 ≠ (cds b).getD i 0 := fun i hi h e => by
    have := mt_iff.mpr ⟨hi, hi, show (flat ls.reverse).getD i 0 = (flat ls).getD i 0 by rw [← ha, ← hb]; exact e.symm⟩
    rw [h] at this
    cases this
  have m1 := hM.uT
  have m2 := hM.vT
  have m3 := hM.v1
  refine ⟨by rw [← cds_length, ha, hT], by rw [← cds_length, hb, hTb], m1, m2, m3, ?_, fun r hr1 hr2 => ?_, fun h1 h2 => ?_, fun h => no 0 (by lia) ?_, fun h => no (T - 1) (by lia) ?_⟩
  · rw [hd T T (Nat.le_refl _) (Nat.le_refl _)]
    exact DD_end hM
  · obtain ⟨j, j1, j2, j3⟩ := DD_row hM r hr1 hr2
    exact ⟨j, j1, j2, by rw [hd r j hr2 j2]; exact j3⟩
  · apply cds_ext
    have x0 : flat (ls.take (k - 1)) = [] := List.length_eq_zero_iff.mp (by lia)
    have z0 : flat (ls.drop k) = [] := List.length_eq_zero_iff.mp (by lia)
    have x1 : flat (ls.take (k - 1)).reverse = [] := List.length_eq_zero_iff.mp (by lia)
    have z1 : flat (ls.drop k).reverse = [] := List.length_eq_zero_iff.mp (by lia)
    rw [ha, hb, eA, eB, x0, z0, x1, z1]
  · rw [Bool.eq_false_iff]
    intro hm
    by_cases h0 : 0 < T - cum ls k
    · have := hM.low 0 0 h0 hm
      lia
    · have := (hM.mid 0 0 (by lia) (by lia)).mp hm
      lia
  · rw [Bool.eq_false_iff]
    intro hm
    by_cases h0 : 0 < cum ls (k - 1)
    · have := hM.up (T - 1) (T - 1) (by lia) hm
      lia
    · have := (hM.mid (T - 1) (T - 1) (by lia) (by lia)).mp hm
      lia
-- the letters of the words
def wlen (ds : List Int) : Nat := (ds.map fun d => 1 + (d.fmod 3).toNat).sum
theorem letters_cds : cds letters = (List.range 26).map (97 + ·) := by decide +kernel
theorem cut_range {b n N : Nat} (h : b + n ≤ N) : (((List.range N).map (97 + ·)).drop b).take n = (List.range n).map (97 + b + ·) := by
  apply List.ext_getElem
  · simp; lia
  · intro i h1 h2
    simp
    lia
theorem word_cds {b : Int} {d : Int} (hb : 0 ≤ b) (h : b + 1 + d.fmod 3 ≤ 26) (hd : 0 ≤ d) : cds (Txt.slice letters (some b) (some (b + 1 + d.fmod 3))) = (List.range (1 + (d.fmod 3).toNat)).map (97 + b.toNat + ·) := by
  have hf := Int.fmod_eq_emod_of_nonneg d (show (0 : Int) ≤ 3 by decide)
  have hl : (letters.length : Int) = 26 := by decide +kernel
  rw [slice_mid ⟨hb, by lia, by rw [hl]; exact h⟩, letters_cds, show (b + 1 + d.fmod 3 - b).toNat = 1 + (d.fmod 3).toNat from by lia]
  exact cut_range (by lia)
theorem words_ok : ∀ (ds : List Int) (b : Int), 0 ≤ b → b + wlen ds ≤ 26 → (∀ d ∈ ds, 0 ≤ d) → (wordsOf b ds).length = ds.length ∧ (∀ w ∈ wordsOf b ds, WordOk w) ∧ rowCds (wordsOf b ds) = (List.range (wlen ds)).map (97 + b.toNat + ·)
  | [], b, _, _, _ => ⟨rfl, (fun w h => nomatch h), rfl⟩
  | d :: ds, b, hb, h, hd => by
    have h0 := hd d (.head _)
    have hf := Int.fmod_eq_emod_of_nonneg d (show (0 : Int) ≤ 3 by decide)
    have hw : wlen (d :: ds) = (1 + (d.fmod 3).toNat) + wlen ds := rfl
    rw [hw] at h
    push_cast at h
    obtain ⟨i1, i2, i3⟩ := words_ok ds (b + 1 + d.fmod 3) (by lia) (by lia) fun x hx => hd x (.tail _ hx)
    have hc := word_cds (d := d) hb (by lia) h0
    refine ⟨by rw [wordsOf, List.length_cons, i1]; rfl, fun w hm => ?_, ?_⟩
    · rcases List.mem_cons.mp hm with rfl | hm
      · refine ⟨by rw [← cds_length, hc]; simp; lia, by rw [← cds_length, hc]; simp; lia, fun x hx => ?_⟩
        rw [hc] at hx
        obtain ⟨i, hi, rfl⟩ := List.mem_map.mp hx
        have := List.mem_range.mp hi
        lia
      · exact i2 w hm
    · show cds _ ++ rowCds (wordsOf (b + 1 + d.fmod 3) ds) = _
      rw [hc, i3, hw]
      have e : (b + 1 + d.fmod 3).toNat = b.toNat + (1 + (d.fmod 3).toNat) := by lia
      rw [e]
      generalize 1 + (d.fmod 3).toNat = q
      rw [List.range_add, List.map_append, List.map_map]
      congr 1
      apply List.map_congr_left
      intro i _
      show 97 + (b.toNat + q) + i = 97 + b.toNat + (q + i)
      lia
theorem wlen_le : ∀ (ds : List Int), (∀ d ∈ ds, 0 ≤ d) → ds.length ≤ wlen ds ∧ wlen ds ≤ 3 * ds.length
  | [], _ => ⟨Nat.le_refl _, Nat.le_refl _⟩
  | d :: ds, h => by
    have h0 := h d (.head _)
    have hf := Int.fmod_eq_emod_of_nonneg d (show (0 : Int) ≤ 3 by decide)
    obtain ⟨h1, h2⟩ := wlen_le ds fun x hx => h x (.tail _ hx)
    have hw : wlen (d :: ds) = (1 + (d.fmod 3).toNat) + wlen ds := rfl
    rw [hw, List.length_cons]
    lia
theorem slices_len (ws : List Str) : ∀ (es : List Int) (b : Int), (slices ws b es).length = es.length
  | [], _ => rfl
  | e :: es, b => congrArg Nat.succ (slices_len ws es e)
theorem mem_len {α : Type} {r : List α} : ∀ {ls : List (List α)}, r ∈ ls → r.length ≤ ls.flatten.length
  | l :: ls, h => by
    rw [List.flatten_cons, List.length_append]
    rcases List.mem_cons.mp h with h | h
    · rw [h]; lia
    · have := mem_len h; lia
theorem sum_le (r : List Str) (h : ∀ x ∈ r, WordOk x) : (r.map (·.length)).sum ≤ 3 * r.length := by
  induction r with
  | nil => exact Nat.le_refl _
  | cons x r ih =>
    have h1 := (h x (.head _)).le
    have h2 := ih fun y hy => h y (.tail _ hy)
    rw [List.map_cons, List.sum_cons, List.length_cons]
    lia
-- what is told of the rows
structure RowsOk (ws : List Str) (ls : List (List Str)) : Prop where
  few : ls.length ≤ 6
  all : ls.flatten = ws
  ok : ∀ r ∈ ls, ∀ x ∈ r, WordOk x
  short : ∀ r ∈ ls, r.length ≤ 5
  sum : ∀ r ∈ ls, (r.map (·.length)).sum ≤ 15
theorem rows_ok {ws : List Str} {wd n : Int} {es : List Int} (h : Ends ws wd n es 5) (h5 : ws.length = 5) (hk : ∀ w ∈ ws, WordOk w) : RowsOk ws (slices ws 0 es) := by
  have hf : (slices ws 0 es).flatten = ws := by
    rw [slices_flat h]
    exact List.take_of_length_le (by show ws.length ≤ 5; lia)
  have ok : ∀ r ∈ slices ws 0 es, ∀ x ∈ r, WordOk x := fun r hr x hx => hk x (by rw [← hf]; exact List.mem_flatten.mpr ⟨r, hr, hx⟩)
  have short : ∀ r ∈ slices ws 0 es, r.length ≤ 5 := fun r hr => by
    have := mem_len hr
    rw [hf, h5] at this
    exact this
  refine ⟨by rw [slices_len]; exact h.bounds.2.2.2.1, hf, ok, short, fun r hr => ?_⟩
  have h1 := sum_le r (ok r hr)
  have h2 := short r hr
  lia
theorem blanks_len (r : List Str) : ((r.map fun x => (" " : Str) ++ x).map (·.length)).sum = (r.map (·.length)).sum + r.length := by
  induction r with
  | nil => rfl
  | cons x r ih =>
    simp only [List.map_cons, List.sum_cons, List.length_cons] at ih ⊢
    rw [ih, Str.length_append, show ((" " : Str).length) = 1 from rfl]
    lia
theorem row_strOk {ws : List Str} (h : ∀ w ∈ ws, WordOk w) : PyData.strOk (rowText ws) = true := by
  unfold PyData.strOk
  rw [← Array.all_toList, List.all_eq_true]
  intro c hc
  have hc' : c ∈ cds (rowText ws) := hc
  rw [cds_row] at hc'
  obtain ⟨l, hl, hm⟩ := List.mem_flatten.mp hc'
  obtain ⟨w, hw, rfl⟩ := List.mem_map.mp hl
  rcases List.mem_cons.mp hm with h1 | h1
  · exact decide_eq_true (by lia)
  · have := (h w hw).low c h1
    exact decide_eq_true (by lia)
-- a row's text without its blanks
theorem row_strike {ws : List Str} (h : ∀ w ∈ ws, WordOk w) : Txt.replace (rowText ws) " " "" = Txt.join "" ws := by
  apply cds_ext
  have e : cds (Txt.replace (rowText ws) ⟨#[32]⟩ ⟨#[]⟩) = (cds (rowText ws)).filter (· != 32) := replace_strikes _ _
  rw [show (" " : Str) = ⟨#[32]⟩ from by decide +kernel, show ("" : Str) = ⟨#[]⟩ from by decide +kernel, e, cds_row, show (⟨#[]⟩ : Str) = "" from by decide +kernel, cds_join]
  induction ws with
  | nil => rfl
  | cons w r ih =>
    rw [List.map_cons, List.flatten_cons, List.filter_append, ih (fun x hx => h x (.tail _ hx)) (replace_strikes _ _)]
    show List.filter _ (32 :: cds w) ++ _ = cds w ++ rowCds r
    rw [List.filter_cons_of_neg (by decide), List.filter_eq_self.mpr]
    intro c hc
    have := (h w (.head _)).low c hc
    simp
    lia
theorem join_len (r : List Str) : (Txt.join "" r).length = (r.map (·.length)).sum := by
  rw [← cds_length, cds_join]
  unfold rowCds
  rw [List.length_flatten, List.map_map]
  congr 1
-- the page's parts, as texts
def pageOf (ls : List (List Str)) : List (Str × Str) := ls.map fun r => (("" : Str), Txt.join "" r)
theorem page_sum : ∀ (ls : List (List Str)), (∀ r ∈ ls, (r.map (·.length)).sum ≤ 15) → ((pageOf ls).map fun q => ((q.1.length : Int) + q.2.length)).sum ≤ 15 * ls.length
  | [], _ => by decide
  | r :: ls, h => by
    have h1 := h r (.head _)
    have h2 := page_sum ls fun x hx => h x (.tail _ hx)
    have h3 := join_len r
    have h4 : (("" : Str).length : Int) = 0 := rfl
    show (("" : Str).length : Int) + (Txt.join "" r).length + ((pageOf ls).map fun q => ((q.1.length : Int) + q.2.length)).sum ≤ _
    rw [List.length_cons, h3, h4]
    push_cast
    lia
theorem page_text {ls : List (List Str)} {ts : List (Str × Str)} (h : ts = pageOf ls) : cds (Txt.join "" (ts.map fun q => Txt.join "" [q.1, q.2])) = flat ls := by
  subst h
  rw [cds_join]
  unfold rowCds flat pageOf
  rw [List.map_map, List.map_map]
  congr 1
  apply List.map_congr_left
  intro r _
  show cds (Txt.join "" [("" : Str), Txt.join "" r]) = rowCds r
  rw [cds_join]
  show cds ("" : Str) ++ (cds (Txt.join "" r) ++ []) = _
  rw [cds_join, List.append_nil, show cds ("" : Str) = [] from by decide +kernel]
  rfl
theorem pop_text {ls : List (List Str)} {ts : List (Str × Str)} (h : ts = pageOf ls) : (ts.map (·.2)).reverse = ls.reverse.map (Txt.join "") := by
  subst h
  unfold pageOf
  rw [List.map_map, List.map_reverse]
  rfl
theorem cds_upside (ls : List (List Str)) : cds (Txt.join "" (ls.reverse.map (Txt.join ""))) = flat ls.reverse := by
  rw [cds_join]
  unfold rowCds flat
  rw [List.map_map]
  congr 1
  exact List.map_congr_left fun r _ => cds_join r
theorem rev_len : ∀ (ls : List (List Str)), (∀ r ∈ ls, (r.map (·.length)).sum ≤ 15) → ((ls.map (Txt.join "")).map (·.length)).sum ≤ 15 * ls.length
  | [], _ => Nat.le_refl _
  | r :: ls, h => by
    have h1 := h r (.head _)
    have h2 := rev_len ls fun x hx => h x (.tail _ hx)
    have h3 := join_len r
    show (Txt.join "" r).length + ((ls.map (Txt.join "")).map (·.length)).sum ≤ _
    rw [List.length_cons, h3]
    lia
theorem strOk_of {x : Str} (h : ∀ c ∈ cds x, c < 1000) : PyData.strOk x = true := by
  unfold PyData.strOk
  rw [← Array.all_toList, List.all_eq_true]
  intro c hc
  have := h c hc
  exact decide_eq_true (by lia)
end
section
open PySem PySem.W PySem.Calls PyProof.Rows
theorem FS.Ok.ahead {P : Params} {f : FS} {rest : List (Addr × Obj)} (O : f.Ok P rest) (p : Addr × Obj) (h : ∀ q ∈ f.led rest, q.1 ≠ p.1) : f.Ok P (p :: rest) where
  acc := (O.acc.ahead p ⟨Ne.symm (h _ (.head _)), Ne.symm (h _ (.tail _ (.head _))), Ne.symm (h _ (.tail _ (.tail _ (.head _)))), Ne.symm (h _ (.tail _ (.tail _ (.tail _ (.head _)))))⟩).perm (fun q hq => perm4' hq) (fun q hq => perm4 hq)
  mem := fun q hq => .tail _ (O.mem q hq)
  sep := fun q hq => by
    rcases List.mem_cons.mp hq with rfl | hq
    · exact Ne.symm (h (f.ll, f.lobj) (.tail _ (.tail _ (.tail _ (.tail _ (.head _))))))
    · exact O.sep q hq
  dl := O.dl
  few := O.few
theorem FS.drop {P : Params} {f : FS} {rest : List (Addr × Obj)} {h₀ h : Heap} {L I : Addr} {o : Obj} (O : f.Ok P rest) (N : News h₀ L h (f.led rest)) (hI : (I, o) ∈ rest) (ho : o.cls = .type "list_iterator") :
    f.Ok P (rest.filter fun p => !(p.1 == I)) ∧ ∀ p ∈ f.led (rest.filter fun p => !(p.1 == I)), p.1 ≠ I := by
  have hm : ∀ p, p ∈ (rest.filter fun p => !(p.1 == I)) ↔ p ∈ rest ∧ p.1 ≠ I := fun p => by
    rw [List.mem_filter]
    simp
  have hN : (I, o) ∈ f.led rest := .tail _ (.tail _ (.tail _ (.tail _ (.tail _ (.tail _ (.tail _ hI))))))
  have h1 := O.acc.sep (I, o) (.tail _ (.tail _ (.tail _ hI)))
  have h2 := O.sep (I, o) hI
  have h3 : f.v ≠ I := news_ne N (.tail _ (.tail _ (.tail _ (.tail _ (.tail _ (.head _)))))) hN (by rw [ho]; show Value.ref 94 ≠ Value.type "list_iterator"; decide)
  have h4 : f.dv ≠ I := news_ne N (.tail _ (.tail _ (.tail _ (.tail _ (.tail _ (.tail _ (.head _))))))) hN (by rw [ho]; show Value.type "dict" ≠ Value.type "list_iterator"; decide)
  have hsub : ∀ p ∈ f.tl (rest.filter fun p => !(p.1 == I)), p ∈ f.tl rest := fun p hp => by
    rcases List.mem_cons.mp hp with rfl | hp
    · exact .head _
    rcases List.mem_cons.mp hp with rfl | hp
    · exact .tail _ (.head _)
    rcases List.mem_cons.mp hp with rfl | hp
    · exact .tail _ (.tail _ (.head _))
    · exact .tail _ (.tail _ (.tail _ ((hm p).mp hp).1))
  have hpt : ∀ q ∈ f.a.parts, (q.T, q.obj) ∈ rest.filter fun p => !(p.1 == I) := fun q hq => (hm _).mpr ⟨O.mem q hq, news_ne N (.tail _ (.tail _ (.tail _ (.tail _ (.tail _ (.tail _ (.tail _ (O.mem q hq)))))))) hN (by rw [ho]; show Value.type "tuple" ≠ Value.type "list_iterator"; decide)⟩
  refine ⟨{ acc := { O.acc with
                     mem := fun q hq => .tail _ (.tail _ (.tail _ (hpt q hq)))
                     sep := fun q hq => O.acc.sep q (hsub q hq) }
            mem := hpt
            sep := fun q hq => O.sep q ((hm q).mp hq).1
            dl := O.dl
            few := O.few }, fun p hp => ?_⟩
  rcases List.mem_cons.mp hp with rfl | hp
  · exact Ne.symm h1.1
  rcases List.mem_cons.mp hp with rfl | hp
  · exact Ne.symm h1.2.1
  rcases List.mem_cons.mp hp with rfl | hp
  · exact Ne.symm h1.2.2.1
  rcases List.mem_cons.mp hp with rfl | hp
  · exact Ne.symm h1.2.2.2
  rcases List.mem_cons.mp hp with rfl | hp
  · exact Ne.symm h2
  rcases List.mem_cons.mp hp with rfl | hp
  · exact h3
  rcases List.mem_cons.mp hp with rfl | hp
  · exact h4
  · exact ((hm p).mp hp).2
theorem GInv.start {n : Int} (h0 : 0 ≤ n) (h1 : n < 100) : GInv 0 (n, [], []) where
  n0 := h0
  n1 := h1
  cw := fun x h => (nomatch h)
  lw := fun r h => (nomatch h)
  cl := Nat.le_refl _
  ll := Nat.le_refl _
  rl := fun r h => (nomatch h)
  ne := fun h => absurd h (Nat.lt_irrefl _)
theorem drop_sub {f : FS} {rest : List (Addr × Obj)} {I : Addr} {p : Addr × Obj} (hp : p ∈ f.led (rest.filter fun p => !(p.1 == I))) : p ∈ f.led rest :=
  mapTail [(f.a.x, f.a.obj), (f.a.dx, f.a.dict), (140, tabObj f.a.ps), (147, tabObj f.a.ps'), (f.ll, f.lobj), (f.v, instObj 94 f.dv), (f.dv, f.d.obj f.ll f.a.x)] hp fun h => (List.mem_filter.mp h).1
theorem front7 {α : Type} {p q a b c d e f g : α} {l : List α} (h : p ∈ a :: b :: c :: d :: e :: f :: g :: q :: l) : p ∈ q :: a :: b :: c :: d :: e :: f :: g :: l := swp [] [a, b, c, d, e, f, g] [q] h
inductive FoldR (P : Params) (wd n : Int) (W : Addr) (wl : List (Str × Tok)) (c : Nat) (rest : List (Addr × Obj)) (r : Value) (news' : List (Addr × Obj)) : Prop
  | mk (D : Addr) (ll : List (Str × Tok)) (c' : Nat) (qs qs' : Array Value) (q1 : r = .ref D) (q2 : ll.map (·.1) = (foldRows wd n (wl.map (·.1))).map rowText) (q3 : TabIs (hd.heap_39 P) 144 140 qs) (q4 : TabIs (hd.heap_39 P) 151 147 qs') (q5 : (∀ p ∈ (W, listOf (strsV wl).toArray c) :: rest, p.1 < D)) (q6 : 140 < D) (q7 : 147 < D) (q8 : news' = (D, listOf (strsV ll).toArray c') :: (140, tabObj qs) :: (147, tabObj qs') :: (W, listOf (strsV wl).toArray c) :: rest) : FoldR P wd n W wl c rest r news'
inductive FoldJ (P : Params) (wd n : Int) (W : Addr) (wl : List (Str × Tok)) (c : Nat) (rest : List (Addr × Obj)) (i : Nat) (m₁ : Str → Option Value) (news₁ : List (Addr × Obj)) : Prop
  | mk (f : FS) (rest' : List (Addr × Obj)) (st : GSt) (q1 : Told m₁ [("maker", .ref f.v)]) (q2 : news₁ = f.led rest') (q3 : f.Ok P rest') (q4 : (∀ p ∈ (W, listOf (strsV wl).toArray c) :: rest, p ∈ rest')) (q5 : f.d.w = wd) (q6 : Abs f st.1 (tsOf st.2.1) (st.2.2.map rowText)) (q7 : GInv i st) (q8 : st = ((wl.map (·.1)).take i).foldl (gstep wd) (n, [], [])) : FoldJ P wd n W wl c rest i m₁ news₁
theorem law_folded_does (P : Params) {ps ps' : Array Value} {W : Addr} {wl : List (Str × Tok)} {c : Nat} {rest : List (Addr × Obj)} (wd n : Int) (tn tw : Tok) (ht1 : TabIs (hd.heap_39 P) 144 140 ps) (ht2 : TabIs (hd.heap_39 P) 151 147 ps') (hsep : ∀ q ∈ (W, listOf (strsV wl).toArray c) :: rest, q.1 ≠ 140 ∧ q.1 ≠ 147) (hn : 0 ≤ n ∧ n < 4) (hlen : wl.length = 5) (hok : ∀ p ∈ wl, WordOk p.1) :
    Does P 26 233 [.ref W, .int n tn, .int wd tw] ((140, tabObj ps) :: (147, tabObj ps') :: (W, listOf (strsV wl).toArray c) :: rest) (fun r news' _ => FoldR P wd n W wl c rest r news') := by
  intro w dp un gd cn cs L ad ccd cl outer A₀ base h₀ m mg mb s Q E pp loose mean B F X N T hk G hroom hunits hQ
  obtain ⟨h, g, d, tk, os⟩ := s
  refine wpAny_call ?_
  k_dflt cell_enter
  rename_i g' L' h' FG' F' N' B' X' T'
  iterate 16 (walk1)
  refine vf_new P wd n tn tw _ _ ht1 ht2 hsep (by lia) B' (by assumption) X' (by assumption) T' (by rfl) G (by show dp + 1 + 8 < recursionLimit; lia) (by show un + 3 + 20 * 8 < cLine; lia) ?_
  rintro r news' s' ⟨f0, rfl, rfl, O0, hfn, hfw, hfp, hfl⟩ F1 N1 G1 o1
  obtain ⟨h1, g1, d1, tk1, os1⟩ := s'
  iterate 3 (walk1)
  refine wpAny_For ?_ (by intro _; rfl)
  walk1
  rename Fr _ _ _ _ => F2
  rename News _ _ _ _ => N2
  refine for_list (l := W) (its := strsV wl) (c := c) (fun i m₁ news₁ => FoldJ P wd n W wl c rest i m₁ news₁) F2 N2 G1 ⟨f0, _, (n, [], []), ⟨rfl, trivial⟩, rfl, O0, fun p hp => hp, hfw, ⟨hfn, by rw [hfp]; rfl, by rw [hfl]; rfl⟩, GInv.start hn.1 (by lia), rfl⟩ ?_ ?_ ?_
  · rintro i m₁ news₁ ⟨f, rest', st, told, rfl, O, hsub, hrest⟩
    exact .tail _ (.tail _ (.tail _ (.tail _ (.tail _ (.tail _ (.tail _ (hsub _ (.head _))))))))
  · rintro I i v o m₁ news₁ h₂ g₂ d₂ tk₂ E' hv hc ⟨f, rest', st, told, rfl, O, hsub, hfw1, hab, hgi, hst⟩ hI hIn F3 N3 G3
    obtain ⟨⟨word, tw5⟩, hwd, rfl⟩ : ∃ q, wl[i]? = some q ∧ v = .str q.1 q.2 := by
      rw [List.getElem?_map, Option.map_eq_some_iff] at hv
      obtain ⟨q, hq, rfl⟩ := hv
      exact ⟨q, hq, rfl⟩
    have hwok := hok _ (List.mem_of_getElem? hwd)
    have hi5 : i < 5 := by rw [← hlen]; exact (List.getElem?_eq_some_iff.mp hwd).1
    dsimp only at hwok F3 N3
    rw [← over_eq told] at F3
    (try k_unmd); (try k_fold)
    clear F2 N2
    iterate 12 (walk1)
    have hpl : plen f.a.parts = lsum st.2.1 := by rw [plen_ptx, hab.ts, tsum_of]
    have hls := lsum_le hgi.cw
    have hcl := hgi.cl
    have hll := hgi.ll
    have hn1 := hgi.n1
    have hn0 := hgi.n0
    have hfn' := hab.n
    have hwle := hwok.le
    have hfpl : f.a.parts.length = st.2.1.length := by
      have := congrArg List.length hab.ts
      simpa [ptx, tsOf] using this
    have hfll : f.lines.length = st.2.2.length := by
      have := congrArg List.length hab.ls
      simpa using this
    have OI := O.ahead (I, o) hI
    refine append_does P OI word _ tw5 (by rw [hpl, hfn']; lia) (by rw [hfpl]; lia) (by rw [hfll]; lia) B' (by assumption) X' (news_sub (by assumption) fun p hp => front7 hp) T' (by rfl) G3 (by show dp + 1 + 16 < recursionLimit; lia) (by show un + 3 + 20 * 16 < cLine; lia) ?_
    rw [hfw1, hfn', hab.ts, hab.ls, step_of]
    rintro r news' s' ⟨rfl, f', rest2, rfl, O2, hsub2, hv2, hd2, hab2⟩ F4 N4 G4 o4
    obtain ⟨h4, g4, d4, tk4, os4⟩ := s'
    have D2 := FS.drop O2 N4 (hsub2 _ (.head _)) hc
    k_steps
    rename Fr _ _ _ _ => F5
    rename News _ _ _ _ => N5
    refine ForNext.intro F5 (news_sub N5 fun p hp => ?_) D2.2 ⟨f', _, gstep wd st word, ⟨by rw [hv2]; rfl, trivial⟩, rfl, D2.1, fun p hp => ?_, by rw [hd2]; exact hfw1, hab2, hgi.step hwok, ?_⟩ G4 o4
    · rcases List.mem_cons.mp hp with rfl | hp
      · exact .tail _ (.tail _ (.tail _ (.tail _ (.tail _ (.tail _ (.tail _ (hsub2 _ (.head _))))))))
      · exact drop_sub hp
    · refine List.mem_filter.mpr ⟨hsub2 p (.tail _ (hsub p hp)), ?_⟩
      have := hI p (.tail _ (.tail _ (.tail _ (.tail _ (.tail _ (.tail _ (.tail _ (hsub p hp))))))))
      simpa using this
    · rw [List.take_add_one, show (wl.map (·.1))[i]? = some word from by rw [List.getElem?_map, hwd]; rfl, List.foldl_append, ← hst]
      rfl
  · rintro m₁ news₁ h₂ g₂ d₂ tk₂ ⟨f, rest', st, told, rfl, O, hsub, hfw1, hab, hgi, hst⟩ F3 N3 G3
    dsimp only at F3 N3 ⊢
    rw [← over_eq told] at F3
    (try k_unmd); (try k_fold)
    clear F2 N2
    iterate 11 (walk1)
    have hwl5 : (strsV wl).length = 5 := by rw [List.length_map, hlen]
    rw [hwl5] at hgi hst
    have hcl := hgi.cl
    have hll := hgi.ll
    have hfll : f.lines.length = st.2.2.length := by
      have := congrArg List.length hab.ls
      simpa using this
    have hcur := hgi.ne (by decide)
    have hat : atext f.a.parts = rowText st.2.1 := by rw [atext_ptx, hab.ts, tjoin_of]
    obtain ⟨A, q, hq⟩ : ∃ A q, f.a.parts = A ++ [q] := by
      rcases List.eq_nil_or_concat f.a.parts with h | ⟨A, q, h⟩
      · have := hab.ts
        rw [h] at this
        exact absurd (List.map_eq_nil_iff.mp this.symm) hcur
      · exact ⟨A, q, by rw [h, List.concat_eq_append]⟩
    obtain ⟨hqf, hqp⟩ : q.f = " " ∧ q.p ∈ st.2.1 := by
      have h1 : (q.f, q.p) ∈ tsOf st.2.1 := by rw [← hab.ts, hq]; simp [ptx]
      obtain ⟨x, hx, e⟩ := List.mem_map.mp h1
      have e1 := congrArg Prod.fst e
      have e2 := congrArg Prod.snd e
      dsimp only at e1 e2
      exact ⟨e1.symm, by rw [← e2]; exact hx⟩
    have hqo := hgi.cw _ hqp
    refine str_vf_does P O A q hq hqo.pos (by rw [hqf]; decide +kernel) hqo.strOk (by rw [hat]; exact row_notspace hgi.cw hcur) (by rw [hfll]; lia) (fun l hl => ?_) _ B' (by assumption) X' (by assumption) T' (by rfl) G3 (by show dp + 1 + 14 < recursionLimit; lia) (by show un + 3 + 20 * 14 < cLine; lia) ?_
    · have h1 : l.1 ∈ st.2.2.map rowText := by rw [← hab.ls]; exact List.mem_map_of_mem hl
      obtain ⟨r, hr, e⟩ := List.mem_map.mp h1
      rw [← e]
      have h2 := lsum_row r
      have h3 := lsum_le (hgi.lw r hr)
      have h4 := hgi.rl r hr
      lia
    rw [hab.ls, hat]
    rintro r news' s' ⟨t6, rfl, f', rest2, rfl, O2, hsub2, hv2, hd2, hab2⟩ F4 N4 G4 o4
    obtain ⟨h4, g4, d4, tk4, os4⟩ := s'
    iterate 5 (walk1)
    have hlt : ∀ x ∈ st.2.2.map rowText ++ [rowText st.2.1], x.length < 100 := fun x hx => by
      rcases List.mem_append.mp hx with hx | hx
      · obtain ⟨r, hr, rfl⟩ := List.mem_map.mp hx
        have h2 := lsum_row r
        have h3 := lsum_le (hgi.lw r hr)
        have h4 := hgi.rl r hr
        lia
      · rw [List.mem_singleton.mp hx]
        have h2 := lsum_row st.2.1
        have h3 := lsum_le hgi.cw
        lia
    have hfree : ∀ x ∈ st.2.2.map rowText ++ [rowText st.2.1], 10 ∉ cds x := fun x hx => by
      rcases List.mem_append.mp hx with hx | hx
      · obtain ⟨r, hr, rfl⟩ := List.mem_map.mp hx
        exact row_free (hgi.lw r hr)
      · rw [List.mem_singleton.mp hx]
        exact row_free hgi.cw
    have hnl : (Str.ofString "\n") = ⟨#[10]⟩ := by decide +kernel
    have hsj := split_join 10 (st.2.2.map rowText ++ [rowText st.2.1]) (by simp) hfree
    have hlenT : (Txt.join "\n" (st.2.2.map rowText ++ [rowText st.2.1])).length ≤ 1000 := by
      have h1 := StrLaws.join_length_le "\n" (st.2.2.map rowText ++ [rowText st.2.1])
      have h2 := sum_small hlt
      have h3 : (st.2.2.map rowText ++ [rowText st.2.1]).length ≤ 6 := by rw [List.length_append, List.length_map]; simp; lia
      have h4 : ("\n" : Str).length = 1 := rfl
      rw [txt_join]
      rw [h4] at h1
      lia
    refine splitN1 (by assumption) (by assumption) (by decide) ?_ (by rw [sizeLine_eq]; lia)
    intro l h7 k7 el F7 N7
    rw [hnl, hsj] at el
    have hD : ∀ p ∈ f'.led rest2, p.1 < h4.objs.size := fun p hp => Heap.lt_size (N4 p hp).1
    k_steps
    rename_i F9 N9 T9 X9
    refine hQ _ _ _ ⟨_, l, 0, f'.a.ps, f'.a.ps', rfl, ?_, O2.acc.t1, O2.acc.t2, fun p hp => ?_, hD _ (.tail _ (.tail _ (.head _))), hD _ (.tail _ (.tail _ (.tail _ (.head _)))), rfl⟩ F9 (news_sub N9 fun p hp => ?_) G4 (o4.trans o1)
    · rw [el, foldRows, List.map_append, List.map_cons, List.map_nil]
      rw [List.take_of_length_le (by rw [List.length_map, hlen]; exact Nat.le_refl _)] at hst
      rw [hst]
    · exact hD p (.tail _ (.tail _ (.tail _ (.tail _ (.tail _ (.tail _ (.tail _ (hsub2 p (hsub p hp)))))))))
    · rcases List.mem_cons.mp hp with rfl | hp
      · exact .head _
      rcases List.mem_cons.mp hp with rfl | hp
      · exact .tail _ (.tail _ (.tail _ (.head _)))
      rcases List.mem_cons.mp hp with rfl | hp
      · exact .tail _ (.tail _ (.tail _ (.tail _ (.head _))))
      · exact .tail _ (.tail _ (.tail _ (.tail _ (.tail _ (.tail _ (.tail _ (.tail _ (hsub2 p (hsub p hp)))))))))
end
section
open PySem PySem.W PySem.Calls PyProof.Rows PyProof.Rows.LCg
-- what a turn of the comprehension leaves
inductive TurnOut (h₀ : Heap) (L C D : Addr) (wr : List Addr) (m : Str → Option Value) (s₁ : Shared) (oC oD : Obj) (own : List (Addr × Obj)) (J : Value → List (Addr × Obj) → Prop) (y : Value) (s₂ : Shared) : Prop
  | mk (h' : Heap) (tk : Nat) (news' : List (Addr × Obj)) (q1 : s₂ = { s₁ with heap := h', toks := tk }) (q2 : Fr h₀ L h' m) (q3 : News h₀ L h' ((C, oC) :: (D, oD) :: (own ++ news'))) (q4 : (∀ p ∈ news', p.1 ∉ wr ∧ p.1 ≠ C ∧ p.1 ≠ D)) (q5 : J y news') : TurnOut h₀ L C D wr m s₁ oC oD own J y s₂
theorem TurnOut.intro {h₀ : Heap} {L C D : Addr} {wr : List Addr} {m : Str → Option Value} {s₁ : Shared} {oC oD : Obj} {own : List (Addr × Obj)} {J : Value → List (Addr × Obj) → Prop} {y : Value} {h' : Heap} {tk : Nat} {news' : List (Addr × Obj)}
    (F : Fr h₀ L h' m) (N : News h₀ L h' ((C, oC) :: (D, oD) :: (own ++ news'))) (off : ∀ p ∈ news', p.1 ∉ wr ∧ p.1 ≠ C ∧ p.1 ≠ D) (j : J y news') : TurnOut h₀ L C D wr m s₁ oC oD own J y { s₁ with heap := h', toks := tk } := ⟨h', tk, news', rfl, F, N, off, j⟩
section
variable {prog : Program} {w : World} {A : Around} {E : Value → Shared → Prop} {s : Shared} {h₀ : Heap} {L : Addr} {m : Str → Option Value} {env : Env}
-- the pairs that a comprehension goes through
inductive Pairs (prog : Program) (w : World) (A : Around) (h₀ : Heap) (L : Addr) (m : Str → Option Value) (env : Env) (elt : Expr) (a b : Str) (pa pb tp : Pos) (kk : Nat) (scope : Scope) (cl : List (Str × Addr)) (Q : Value → Shared → Prop) (it : Value) (s₂ : Shared) : Prop
  | mk (I : Addr) (fp wr : List Addr) (n : Nat) (P Md : Nat → Value → Heap → Prop) (PP : Nat → Value → Value → Prop) (St : Nat → Heap → Prop) (news : List (Addr × Obj)) (J : Nat → List Value → List (Addr × Obj) → Prop)
    (q1 : it = .ref I)
    (q2 : KTurns prog w A (.Tuple [.Name a pa, .Name b pb] kk tp) I fp wr n P Md St)
    (q3 : (∀ i v h, P i v h → ∃ T x y, v = .ref T ∧ h.IsTuple T #[x, y] ∧ PP i x y))
    (q4 : (∀ s Q E, St 0 s.heap → Q (.ref I) s → wpAny (model prog w) A (pyIter (.ref I)) Q E s))
    (q5 : A.handled = none)
    (q6 : n ≤ sizeLine)
    (q7 : (∀ b ∈ fp, b < s₂.heap.objs.size))
    (q8 : St 0 s₂.heap)
    (q9 : L ∉ fp)
    (q10 : (∀ b ∈ wr, h₀.get? b = none))
    (q11 : (∀ p ∈ news, p.1 ∉ wr))
    (q12 : Fr h₀ L s₂.heap m)
    (q13 : News h₀ L s₂.heap news)
    (q14 : J 0 [] news)
    (q15 : (∀ i x y ys news₁ own C oC m₂ D h tk E', i < n → PP i x y → J i ys news₁ → (∀ p ∈ news₁, p.1 ∉ wr ∧ p.1 ≠ C ∧ p.1 ≠ D) → (∀ p ∈ own, p.1 ≠ C ∧ p.1 ≠ D) → (∀ b ∈ wr, b < D) → (∀ p ∈ news, p.1 < D) → D < C → NsObj oC m₂ → m₂ a = some x → m₂ b = some y → Fr h₀ L h m → News h₀ L h ((C, oC) :: (D, lst ys) :: (own ++ news₁)) → wpAny (model prog w) A (eval elt (compEnvC scope cl C env)) (TurnOut h₀ L C D wr m { s₂ with heap := h, toks := tk } oC (lst ys) own (fun y news' => J (i + 1) (ys ++ [y]) news')) E' { s₂ with heap := h, toks := tk }))
    (q16 : (∀ D h tk ys news₁, J n ys news₁ → Fr h₀ L h m → News h₀ L h ((D, lst ys) :: news₁) → (∀ p ∈ news, p.1 < D) → (∀ p ∈ news₁, p.1 ≠ D) → Q (.ref D) { s₂ with heap := h, toks := tk }))
    : Pairs prog w A h₀ L m env elt a b pa pb tp kk scope cl Q it s₂
inductive PairsJ (s₂ : Shared) (n : Nat) (St : Nat → Heap → Prop) (h₀ : Heap) (L : Addr) (m : Str → Option Value) (D C : Addr) (wr : List Addr) (J : Nat → List Value → List (Addr × Obj) → Prop) (k : Nat) (s' : Shared) : Prop
  | mk (h' : Heap) (tk i : Nat) (ys : List Value) (m' : Str → Option Value) (news' : List (Addr × Obj)) (q1 : s' = { s₂ with heap := h', toks := tk }) (q2 : i ≤ n) (q3 : k = n + 1 - i) (q4 : ys.length = i) (q5 : St i h') (q6 : Fr h₀ L h' m) (q7 : h'.Ns (C) m') (q8 : News h₀ L h' ((D, lst ys) :: news')) (q9 : (∀ p ∈ news', p.1 ∉ wr ∧ p.1 ≠ C ∧ p.1 ≠ D)) (q10 : J i ys news') : PairsJ s₂ n St h₀ L m D C wr J k s'
theorem ListComp_pairs {elt iter : Expr} {a b : Str} {pa pb tp : Pos} {kk : Nat} {scope : Scope} {cl : List (Str × Addr)} {pos : Pos} {Q : Value → Shared → Prop}
    (hclos : closureFor scope env = pure cl) (hcell : ∀ y ∈ scope.names, y.2 ≠ .cell) (hkind : scope.kind = .function)
    (hnames : ∀ y ∈ scope.names, y.2 = .local → scope.names.lookup y.1 = some .local) (hxa : scope.names.lookup a = some .local) (hxb : scope.names.lookup b = some .local) (hab : ¬ a = b)
    (h : wpAny (model prog w) A (eval iter env) (fun xv s₁ => wpAny (model prog w) A (pyIter xv) (Pairs prog w A h₀ L m env elt a b pa pb tp kk scope cl Q) E s₁) E s)
    (hs : ∀ x, foldedSetIterable iter env x = pure x := by intro _; rfl) :
    wpAny (model prog w) A (eval (.ListComp elt [⟨.Tuple [.Name a pa, .Name b pb] kk tp, iter, [], 0⟩] scope pos) env) Q E s := by
  rw [eval_ListComp]
  refine wpAny_comprehension_free (use := none) rfl hs hclos hkind hnames (wpAny_mono h (fun xv s₁ h₁ => wpAny_mono h₁ (fun it s₂ h₂ => ?_) fun _ _ e => e) fun _ _ e => e)
  obtain ⟨I, fp, wr, n, P, Md, PP, St, news, J, rfl, W, hP, hself, hh, hsz, hfp, hst, hLf, hwr, hnw, F, N, j0, turn, fin⟩ := h₂
  refine wpAny_newObj_type (wpAny_newFunctionEnv hcell (by intro y hy; simp at hy) (fun h₁ hns₁ hsb₁ => ?_) hkind)
  dsimp only at hns₁ hsb₁ ⊢
  generalize hH2 : s₂.heap.push { cls := .type "list", dict := none, data := .seq ([] : List Value).toArray } = H2 at hns₁ hsb₁ ⊢
  have hC : H2.objs.size = s₂.heap.objs.size + 1 := by rw [← hH2, Heap.size_push]
  generalize hDd : s₂.heap.objs.size = D at *
  generalize hCd : H2.objs.size = C at *
  subst hC
  have hDC : D ≠ D + 1 := Nat.ne_of_lt (Nat.lt_succ_self _)
  have below : ∀ b, b < D → b ≠ D + 1 ∧ b ≠ D := fun b hb => ⟨Nat.ne_of_lt (Nat.lt_succ_of_lt hb), Nat.ne_of_lt hb⟩
  have inlt : ∀ b o, s₂.heap.get? b = some o → b < D := fun b o e => hDd ▸ Heap.lt_size e
  have old : ∀ b o, s₂.heap.get? b = some o → h₁.get? b = some o := fun b o e => hsb₁.extBut b o (below b (inlt b o e)).1 (Heap.get?_push_of_some _ (hH2 ▸ Heap.get?_push_of_some _ e))
  have hacc : h₁.get? D = some (lst []) := hsb₁.extBut _ _ hDC (Heap.get?_push_of_some _ (hH2 ▸ hDd ▸ Heap.get?_push_size _ rfl))
  have fresh₀ : ∀ a, D ≤ a → h₀.get? a = none := fun a ha => by
    cases e : h₀.get? a with
    | none => rfl
    | some o' => exact absurd (inlt _ _ (F.keep a o' e)) (Nat.not_lt.mpr ha)
  have hD₀ : h₀.get? D = none := fresh₀ _ (Nat.le_refl _)
  have hC₀ : h₀.get? (D + 1) = none := fresh₀ _ (Nat.le_succ _)
  have hLlt : L < D := hDd ▸ F.ns.lt
  have hDL : D ≠ L := Ne.symm (below L hLlt).2
  have hCL : D + 1 ≠ L := Ne.symm (below L hLlt).1
  have hst₁ : St 0 h₁ := W.frame _ _ _ hst fun b _ o e => old b o e
  have hLw : L ∉ wr := fun q => hLf (W.sub _ q)
  have h0w : ∀ b o, h₀.get? b = some o → b ∉ wr := fun b o e hb => by rw [hwr b hb] at e; cases e
  have hCf : D + 1 ∉ fp := fun q => (below _ (hfp _ q)).1 rfl
  have hDf : D ∉ fp := fun q => (below _ (hfp _ q)).2 rfl
  have hCw : D + 1 ∉ wr := fun q => hCf (W.sub _ q)
  have hDw : D ∉ wr := fun q => hDf (W.sub _ q)
  have hnD : ∀ p ∈ news, p.1 < D := fun p hp => inlt _ _ (N p hp).1
  have loop : ∀ s₃ : Shared, s₃ = { s₂ with heap := h₁, toks := s₂.toks + ([] : List (Str × Value)).length } →
      codeAny (model prog w) A (.compLoop (.ListComp elt [⟨.Tuple [.Name a pa, .Name b pb] kk tp, iter, [], 0⟩] scope pos) 0 (.ref I) (.ref D) (compEnvC scope cl (D + 1) env))
        (compPost (model prog w) A E none Q (.ref D) (D + 1)) s₃ := by
    rintro s₃ rfl
    refine kcp_loop
      (fun k s' => PairsJ s₂ n St h₀ L m D (D + 1) wr J k s') ?_ (n + 1)
      ⟨h₁, _, 0, [], _, news, rfl, Nat.zero_le _, rfl, rfl, hst₁, F.keeps old, hns₁, fun p hp => ?_, fun p hp => ⟨hnw p hp, (below _ (hnD p hp)).1, (below _ (hnD p hp)).2⟩, j0⟩
    · rintro k s' ⟨h', tk, i, ys, m', news', rfl, hi, rfl, hyl, hst', F', hn', N', off', j'⟩
      have nwD : ∀ p ∈ (D, lst ys) :: news', p.1 ∉ wr ∧ p.1 ≠ D + 1 := fun p hp => by
        rcases List.mem_cons.mp hp with rfl | hp
        · exact ⟨hDw, hDC⟩
        · exact ⟨(off' p hp).1, (off' p hp).2.1⟩
      by_cases hlt : i < n
      · refine W.item i _ _ _ hlt hst' fun v h₂ tk₂ hMd hk₂ => ?_
        refine W.go i v _ _ _ hMd fun h₃ hPv hst₃ hk₃ => ?_
        obtain ⟨T, x, y, rfl, hT, hPP⟩ := hP i v h₃ hPv
        have up₃ : ∀ c o, c ∉ wr → h'.get? c = some o → h₃.get? c = some o := fun c o hc e => hk₃ c o hc (hk₂ c o hc e)
        refine kcp_assign (env := compEnvC scope cl (D + 1) env) hh hT (lookup_relabel_local hxa) (lookup_relabel_local hxb) (by simp [compEnvC, relabel, hkind]) (hn'.at' fun o e => up₃ _ o hCw e) fun h₄ tk₄ hn₄ hs₄ => ?_
        have up : ∀ c o, c ∉ wr → c ≠ D + 1 → h'.get? c = some o → h₄.get? c = some o := fun c o h1 h2 e => hs₄ c o h2 (up₃ c o h1 e)
        have hst₄ : St (i + 1) h₄ := W.frame _ _ _ hst₃ fun b hb o e => hs₄ b o (fun q => hCf (by have q' : b = D + 1 := q; rw [← q']; exact hb)) e
        obtain ⟨oC, heC, hoC⟩ := ns_obj hn₄
        have F₄ : Fr h₀ L h₄ m := ⟨F'.ns.at' fun o e => up _ o hLw (Ne.symm hCL) e, fun c o e => up c o (h0w c o e) (fun q => by rw [q, hC₀] at e; cases e) (F'.keep c o e), F'.above⟩
        have Nown : News h₀ L h₄ (PyProof.Rows.ownOf h₀ fp h₄) := news_ownOf hLf
        have N₄ : News h₀ L h₄ ((D + 1, oC) :: (D, lst ys) :: (PyProof.Rows.ownOf h₀ fp h₄ ++ news')) := fun q hq => by
          rcases List.mem_cons.mp hq with rfl | hq
          · exact ⟨heC, hCL, hC₀⟩
          have hold : ∀ r ∈ (D, lst ys) :: news', h₄.get? r.1 = some r.2 ∧ r.1 ≠ L ∧ h₀.get? r.1 = none := fun r hr => ⟨up _ _ (nwD r hr).1 (nwD r hr).2 (N' r hr).1, (N' r hr).2⟩
          rcases List.mem_cons.mp hq with rfl | hq
          · exact hold _ (.head _)
          rcases List.mem_append.mp hq with hq | hq
          · exact Nown q hq
          · exact hold q (.tail _ hq)
        refine wpAny_mono (turn i x y ys news' (PyProof.Rows.ownOf h₀ fp h₄) (D + 1) oC _ D h₄ tk₄ _ hlt hPP j' off' (fun p hp => ⟨fun q => hCf (q ▸ ownOf_sub p hp), fun q => hDf (q ▸ ownOf_sub p hp)⟩) (fun b hb => hfp b (W.sub b hb)) hnD (Nat.lt_succ_self _) hoC (by simp [hab]) (by simp) F₄ N₄) (fun z s₅ h₅ => ?_) fun _ _ e => e
        obtain ⟨h₅, tk₅, news₅, rfl, F₅, N₅, off₅, j₅⟩ := h₅
        have zC := (N₅ (D + 1, oC) List.mem_cons_self).1
        have zD := (N₅ (D, lst ys) (List.mem_cons_of_mem _ List.mem_cons_self)).1
        refine append_at (hsz := by show ys.toArray.size ≤ sizeLine; rw [List.size_toArray, hyl]; exact Nat.le_trans hi hsz) zD fun h₆ hs₆ hD₆ => ?_
        have hst₆ : St (i + 1) h₆ := W.frame _ _ _ hst₄ fun b hb o e => by
          refine hs₆.extBut b o (fun q => hDf (q ▸ hb)) ?_
          cases hn : h₀.get? b with
          | some o₀ =>
            have : o₀ = o := by have q := F₄.keep b o₀ hn; rw [e] at q; exact (Option.some.inj q).symm
            exact this ▸ F₅.keep b o₀ hn
          | none => exact (N₅ (b, o) (List.mem_cons_of_mem _ (List.mem_cons_of_mem _ (List.mem_append_left _ (mem_ownOf hb hn e))))).1
        refine ⟨n + 1 - (i + 1), by lia, h₆, tk₅, i + 1, ys ++ [z], _, news₅, rfl, hlt, rfl, by rw [List.length_append, List.length_singleton, hyl], hst₆, F₅.change hs₆ hDL hD₀,
          (hoC.ns zC).sameBut hs₆ (Ne.symm hDC), fun q hq => ?_, off₅, j₅⟩
        rcases List.mem_cons.mp hq with rfl | hq
        · exact ⟨hD₆.trans (congrArg some (lst_snoc ys z)), hDL, hD₀⟩
        · have := N₅ q (List.mem_cons_of_mem _ (List.mem_cons_of_mem _ (List.mem_append_right _ hq)))
          exact ⟨hs₆.extBut _ _ (off₅ q hq).2.2 this.1, this.2⟩
      · have hin : i = n := Nat.le_antisymm hi (Nat.not_lt.mp hlt)
        subst hin
        refine W.done _ _ _ hst' fun h₂ tk₂ hk₂ => ?_
        refine ⟨m', hn'.at' fun o e => hk₂ _ o hCw e, fun h'' hs'' => ?_⟩
        refine fin D h'' tk₂ ys news' j' ((?_ : Fr h₀ L h₂ m).change hs'' hCL hC₀) (fun p hp => ?_) hnD fun p hp => (off' p hp).2.2
        · exact ⟨F'.ns.at' fun o e => hk₂ _ o hLw e, fun b o e => hk₂ b o (h0w b o e) (F'.keep b o e), F'.above⟩
        · exact ⟨hs''.extBut _ _ (nwD p hp).2 (hk₂ _ _ (nwD p hp).1 (N' p hp).1), (N' p hp).2⟩
    · rcases List.mem_cons.mp hp with rfl | hp
      · exact ⟨hacc, hDL, hD₀⟩
      · exact ⟨old _ _ (N p hp).1, (N p hp).2⟩
  exact codeAny_compStart_list (loop _ rfl) (hself _ _ _ hst₁ (loop _ rfl))
theorem zip_pairs {elt : Expr} {a b : Str} {pa pb tp : Pos} {kk : Nat} {scope : Scope} {cl : List (Str × Addr)} {Q : Value → Shared → Prop} {l1 l2 : Addr} {xs ys : List Value} {n1 n2 n : Nat} {news : List (Addr × Obj)}
    (hh : A.handled = none) (F : Fr h₀ L s.heap m) (N : News h₀ L s.heap news) (hm1 : (l1, listOf xs.toArray n1) ∈ news) (hm2 : (l2, listOf ys.toArray n2) ∈ news) (hn : min xs.length ys.length = n) (hsz : n ≤ sizeLine)
    (J : Nat → List Value → List (Addr × Obj) → Prop) (j0 : J 0 [] news)
    (turn : ∀ i x y zs news₁ own C oC m₂ D wr h tk E', i < n → xs[i]? = some x → ys[i]? = some y → J i zs news₁ → (∀ p ∈ news₁, p.1 ∉ wr ∧ p.1 ≠ C ∧ p.1 ≠ D) → (∀ p ∈ own, p.1 ≠ C ∧ p.1 ≠ D) → (∀ b ∈ wr, b < D) → (∀ p ∈ news, p.1 < D) → D < C → NsObj oC m₂ → m₂ a = some x → m₂ b = some y → Fr h₀ L h m → News h₀ L h ((C, oC) :: (D, lst zs) :: (own ++ news₁)) →
      wpAny (model prog w) A (eval elt (compEnvC scope cl C env)) (TurnOut h₀ L C D wr m { s with heap := h, toks := tk } oC (lst zs) own (fun y news' => J (i + 1) (zs ++ [y]) news')) E' { s with heap := h, toks := tk })
    (fin : ∀ D h tk zs news₁, J n zs news₁ → Fr h₀ L h m → News h₀ L h ((D, lst zs) :: news₁) → (∀ p ∈ news, p.1 < D) → (∀ p ∈ news₁, p.1 ≠ D) → Q (.ref D) { s with heap := h, toks := tk }) :
    wpAny (model prog w) A (call (.type "zip") [.ref l1, .ref l2]) (fun xv s₁ => wpAny (model prog w) A (pyIter xv) (Pairs prog w A h₀ L m env elt a b pa pb tp kk scope cl Q) E s₁) E s := by
  have ax1 := N _ hm1
  have ax2 := N _ hm2
  have hl1 := news_list N hm1
  have hl2 := news_list N hm2
  have lt1 := Heap.lt_size ax1.1
  have lt2 := Heap.lt_size ax2.1
  have ltL := F.ns.lt
  refine call_zip_2 hl1 hl2 fun h2 hz hTI hTO hi1 hi2 hsz2 hk2 => ?_
  refine wpAny_pyIter_zip hz ?_
  have hmin : min xs.toArray.size ys.toArray.size = n := by rw [List.size_toArray, List.size_toArray, hn]
  have A2 := ktu_apart s.heap.objs.size l1 l2 lt1 lt2
  have W := (WalksT.zip2 (prog := prog) (w := w) hh _ _ _ _ _ _ _ A2 xs.toArray ys.toArray).toU
  rw [hmin] at W
  have out : ∀ b, s.heap.objs.size ≤ b → b ∉ [] → h₀.get? b = none := fun b hb _ => ktu_new F hb
  refine ⟨_, _, _, n, _, _, fun i x y => xs[i]? = some x ∧ ys[i]? = some y, _, news, J, rfl, KTurns.ofWalksU W, fun i v h hp => ?_, fun s Q E st hq => wpAny_pyIter_zip st.1 hq, hh, hsz, fun b hb => ?_, ⟨hz, hTI, ⟨_, _, hTO⟩, hi1, hi2, hl1.at fun o e => hk2 _ o e, hl2.at fun o e => hk2 _ o e⟩, fun hm => ?_, fun b hb => ?_, fun p hp hb => ?_, F.keeps hk2, N.grown hk2, j0,
    fun i x y zs news₁ own C oC m₂ D h tk E' hi hp => turn i x y zs news₁ own C oC m₂ D _ h tk E' hi hp.1 hp.2, fun D h tk zs news₁ => fin D h tk zs news₁⟩
  · obtain ⟨T, vals, rfl, ⟨x, y, hx, hy, rfl⟩, hT⟩ := hp
    exact ⟨T, x, y, rfl, hT, by simpa using hx, by simpa using hy⟩
  · show b < h2.objs.size
    rw [hsz2]
    simp only [List.mem_cons, List.not_mem_nil, or_false] at hb
    have e1 : l1 < s.heap.objs.size := lt1
    have e2 : l2 < s.heap.objs.size := lt2
    generalize s.heap.objs.size = k at *
    show @LT.lt Nat _ b _
    rcases hb with rfl | rfl | rfl | rfl | rfl | rfl | rfl <;> (show @LT.lt Nat _ _ _) <;> simp only [Addr] at * <;> lia
  · simp only [List.mem_cons, List.not_mem_nil, or_false] at hm
    have e1 : l1 ≠ L := ax1.2.1
    have e2 : l2 ≠ L := ax2.2.1
    rcases hm with e | e | e | e | e | e | e
    · exact ktu_ne 4 ltL e
    · exact ktu_ne 2 ltL e
    · exact ktu_ne 3 ltL e
    · exact Nat.ne_of_lt ltL e
    · exact ktu_ne 1 ltL e
    · exact e1 e.symm
    · exact e2 e.symm
  · simp only [List.mem_cons, List.not_mem_nil, or_false] at hb
    rcases hb with rfl | rfl | rfl | rfl
    · exact ktu_new F (Nat.le_add_right _ _)
    · exact ktu_new F (Nat.le_add_right _ _)
    · exact ktu_new F (Nat.le_refl _)
    · exact ktu_new F (Nat.le_add_right _ _)
  · simp only [List.mem_cons, List.not_mem_nil, or_false] at hb
    have hlp := Heap.lt_size (N p hp).1
    rcases hb with e | e | e | e
    · exact ktu_ne 4 hlp e
    · exact ktu_ne 3 hlp e
    · exact Nat.ne_of_lt hlp e
    · exact ktu_ne 1 hlp e
end
end
section
open PySem PySem.W PySem.Calls PyProof.Rows PyProof.Rows.LCg
local macro_rules | `(tactic| cell_enter) => `(tactic| (refine' code_defC ?k1 ?k2 ?k3 ?k4 ?k5 ?kA ?kF ?kK ?k6 ?k7 ?k8 ?k9 ?kB ?kD ?_ ?c2 ?c3 ?c4; (case kA => exact rfl); (case kF => exact rfl); (case kK => first | exact rfl | assumption); (case k1 => k_asm); (case k2 => k_asm); (case k3 => k_asm); (case k4 => k_asm); (case k5 => k_asm); (case k6 => k_is); (case k7 => k_is); (case k8 => ktr_room); (case k9 => first | exact BindsTo.of_eq rfl | exact binds_K (by k_in) rfl (by k_is) rfl rfl rfl); (case kB => exact rfl); (case kD => decide +kernel); (case c2 => exact rfl); (case c3 => exact rfl); (case c4 => exact rfl); k_whole; intro g' L' h' tk' cells' FG' F' N' Y' B' X' T' l1; (try k_lt l1); k_cells Y'; (try simp only [List.cons_append, List.nil_append] at N'); (try dsimp only); (try k_lift B'); (try k_fold)))
def CutAt {α : Type} (R : α → Prop) (s : Shared) (v : α) (s' : Shared) : Prop := R v ∧ ∃ k, s' = { s with toks := k }
theorem cut_toks {α : Type} {M : Model} {A : Around} {t : Sem α} {Q : α → Shared → Prop} {E : Value → Shared → Prop} {s : Shared} (R : α → Prop) (h1 : ∀ E', wpAny M A t (CutAt R s) E' s) (h2 : ∀ v k, R v → Q v { s with toks := k }) : wpAny M A t Q E s :=
  wpAny_mono (h1 E) (fun v s' h => by obtain ⟨hr, k, rfl⟩ := h; exact h2 v k hr) fun _ _ e => e
-- a row: a list of texts
structure Row where
  a : Addr
  its : List (Str × Tok)
  cap : Nat
abbrev Row.ob (q : Row) : Addr × Obj := (q.a, listOf (strsV q.its).toArray q.cap)
abbrev Row.txt (q : Row) : List Str := q.its.map (·.1)
theorem row_pick (wl : List (Str × Tok)) {a b : Nat} (hb : b ≤ wl.length) (hab : a ≤ b) : slicePick (strsV wl).toArray (some (a : Int)) (some (b : Int)) none = (strsV ((wl.drop a).take (b - a))).toArray := by
  rw [slicePick_run _ a b (by simpa using hb) hab]
  simp [strsV, List.map_take, List.map_drop]
inductive RowsJ (ws : List Str) (wd n : Int) (g' : Heap) (L' S Ed : Addr) (base : List (Addr × Obj)) (os : OsState) (nn : Nat) (s : Shared) : Prop
  | mk (h1 : Heap) (g1 : Array GenState) (d1 : Drawn) (tk1 : Nat) (m1 : Str → Option Value) (ev : List Value) (k : Nat) (es : List Int) (e : Int) (ta : Tok) (q1 : s = ⟨h1, g1, d1, tk1, os⟩) (q2 : Fr g' L' h1 m1) (q3 : News g' L' h1 ((Ed, listOf (ev : List Value).toArray k) :: base)) (q4 : AllBare g1) (q5 : Told m1 [("sums", .ref S), ("width", .int wd ta), ("ends", .ref Ed)]) (q6 : IntsAre ev es) (q7 : Ends ws wd n es e) (q8 : nn = (5 - e).toNat) : RowsJ ws wd n g' L' S Ed base os nn s
inductive RowsR (wd n : Int) (W : Addr) (wl : List (Str × Tok)) (c : Nat) (rest : List (Addr × Obj)) (r : Value) (news' : List (Addr × Obj)) : Prop
  | mk (D : Addr) (rr : List Row) (es : List Int) (c' : Nat) (q1 : r = .ref D) (q2 : Ends (wl.map (·.1)) wd n es 5) (q3 : (rr.map Row.txt).reverse = slices (wl.map (·.1)) 0 es) (q4 : news' = (D, listOf ((rr.map fun q => Value.ref q.a).reverse).toArray c') :: (rr.map Row.ob ++ (W, listOf (strsV wl).toArray c) :: rest)) : RowsR wd n W wl c rest r news'
inductive SumsJ (wd n : Int) (S C : Addr) (oC : Obj) (W : Addr) (wl : List (Str × Tok)) (c : Nat) (rest : List (Addr × Obj)) (i : Nat) (m₁ : Str → Option Value) (news₁ : List (Addr × Obj)) : Prop
  | mk (sv : List Value) (k : Nat) (ta tb : Tok) (q1 : Told m₁ [("sums", .ref S), ("width", .int wd ta), ("head", .int n tb)]) (q2 : news₁ = (S, listOf sv.toArray k) :: (C, oC) :: (W, listOf (strsV wl).toArray c) :: rest) (q3 : IntsAre sv (psums (wl.map (·.1)) i)) : SumsJ wd n S C oC W wl c rest i m₁ news₁
theorem law_rows_does (P : Params) {W : Addr} {wl : List (Str × Tok)} {c : Nat} {rest : List (Addr × Obj)} (wd n : Int) (tn tw : Tok) (hn : 0 ≤ n ∧ n < 4) (hw : 2 ≤ wd ∧ wd < 14) (hlen : wl.length = 5) (hok : ∀ p ∈ wl, WordOk p.1) :
    Does P 8 238 [.ref W, .int n tn, .int wd tw] ((W, listOf (strsV wl).toArray c) :: rest) (fun r news' _ => RowsR wd n W wl c rest r news') := by
  intro w dp un gd cn cs L ad ccd cl outer A₀ base h₀ m mg mb s Q E pp loose mean B F X N T hk G hroom hunits hQ
  obtain ⟨h, g, d, tk, os⟩ := s
  refine wpAny_call ?_
  k_dflt cell_enter
  rename_i g' L' h' tk' FG' F' B' X' T' lW oC dC N'
  iterate 10 (walk1)
  rename_i S _ lS _ _ _
  refine wpAny_For ?_ (by intro _; rfl)
  walk1
  rename Fr _ _ _ _ => F2
  rename News _ _ _ _ => N2
  refine for_list (l := W) (its := strsV wl) (c := c) (fun i m₁ news₁ => SumsJ wd n S (L' + 1) oC W wl c rest i m₁ news₁) F2 N2 G ⟨_, _, _, _, ⟨rfl, rfl, rfl, trivial⟩, rfl, .cons _ _ .nil⟩ ?_ ?_ ?_
  · rintro i m₁ news₁ ⟨sv, k, ta, tb, told, rfl, hsv⟩
    exact .tail _ (.tail _ (.head _))
  · rintro I i v o m₁ news₁ h₂ g₂ d₂ tk₂ E' hv hc ⟨sv, k, ta, tb, told, rfl, hsv⟩ hI hIn F3 N3 G3
    obtain ⟨⟨word, tw5⟩, hwd, rfl⟩ : ∃ q, wl[i]? = some q ∧ v = .str q.1 q.2 := by
      rw [List.getElem?_map, Option.map_eq_some_iff] at hv
      obtain ⟨q, hq, rfl⟩ := hv
      exact ⟨q, hq, rfl⟩
    have hwok := hok _ (List.mem_of_getElem? hwd)
    have hi5 : i < 5 := by rw [← hlen]; exact (List.getElem?_eq_some_iff.mp hwd).1
    dsimp only at hwok
    have hwle := hwok.le
    rw [← over_eq told] at F3
    (try k_unmd); (try k_fold)
    have hls := news_list N3 (.tail _ (.head _))
    clear F2 N2
    repeat' (first | (k_unfold; (try dsimp only)) | ((fail_if_success (with_reducible show wpAny _ _ (subscriptTail _ _ _ _) _ _ _)); walk1))
    have hsl : (psums (wl.map (·.1)) i).length = i + 1 := by simp [psums]
    refine' item_list_ints_neg (k := -1) hls hsv ?k0 ?k1 ?k2 ?_
    case k0 => decide
    case k1 => rw [hsl]; lia
    case k2 => decide
    intro tL
    repeat' (first | (k_unfold; (try dsimp only)) | ((fail_if_success (with_reducible show wpAny _ _ (call (Value.builtin "list.append") _) _ _ _)); walk1))
    rename Fr _ _ _ _ => F4
    rename News _ _ _ _ => N4
    have hSI : S ≠ I := hI (S, listOf sv.toArray k) (.head _)
    have hsvl : sv.length = i + 1 := by rw [hsv.length, hsl]
    refine append_K F4 N4 (.tail (Ne.symm hSI) (.head fun p hp => ?_)) ?_ (by rw [List.size_toArray, hsvl, sizeLine_eq]; lia)
    · rcases List.mem_cons.mp hp with rfl | hp
      · exact Nat.ne_of_lt (ltN lS.1)
      rcases List.mem_cons.mp hp with rfl | hp
      · exact Nat.ne_of_lt (ltN lS.2.1)
      · exact Nat.ne_of_lt (allLt_get lS.2.2 p hp)
    have ePush : ∀ v : Value, sv.toArray.push v = (sv ++ [v]).toArray := fun v => by simp
    rw [ePush]
    intro h5 F5 N5
    clear F4 N4 hls
    have hval : (psums (wl.map (·.1)) i).getD (-1 + ((psums (wl.map (·.1)) i).length : Int)).toNat 0 + 1 + (word.length : Int) = lsum ((wl.map (·.1)).take (i + 1)) := by
      rw [hsl, show (-1 + ((i + 1 : Nat) : Int)).toNat = i from by lia, psums_get _ (Nat.le_refl i), List.take_add_one, show (wl.map (·.1))[i]? = some word from by rw [List.getElem?_map, hwd]; rfl]
      show _ = lsum (_ ++ [word])
      rw [lsum_snoc]; lia
    iterate 1 (walk1)
    rename Fr _ _ _ _ => F6
    rename News _ _ _ _ => N6
    refine ForNext.intro F6 N6 (fun p hp => ?_) ⟨_, _, _, _, ⟨rfl, rfl, rfl, trivial⟩, rfl, ?_⟩ G3 rfl
    · rcases List.mem_cons.mp hp with rfl | hp
      · exact hSI
      · exact hI p (.tail _ hp)
    · rw [psums_succ, ← hval]
      exact intsAre_snoc hsv
  · rintro m₁ news₁ h₂ g₂ d₂ tk₂ ⟨sv, k, ta, tb, told, rfl, hsv⟩ F3 N3 G3
    dsimp only at F3 N3 ⊢
    rw [← over_eq told] at F3
    (try k_unmd); (try k_fold)
    have hls := news_list N3 (.head _)
    repeat' (first | (k_unfold; (try dsimp only)) | ((fail_if_success (with_reducible show wpAny _ _ (call (Value.ref _) _) _ _ _)); walk1))
    have hwl5 : (strsV wl).length = 5 := by rw [List.length_map, hlen]
    rw [hwl5] at hsv
    have hpl : (psums (wl.map (·.1)) 5).length = 6 := by simp [psums]
    refine bisect_right_does P (S := S) (vs := sv) (xs := psums (wl.map (·.1)) 5) (n := k) (.head _) hsv (wd - n) _ (by lia) (psums_sorted _ _) B' (by assumption) X' (by assumption) T' (by rfl) G3 (by show dp + 1 + 5 < recursionLimit; lia) (by show un + 3 + 20 * 5 < cLine; lia) ?_
    rintro r news' s' ⟨k0, t0, rfl, rfl, hk0, hk1, hk2⟩ F4 N4 G4 o4
    obtain ⟨h4, g4, d4, tk4, os4⟩ := s'
    repeat' (first | (k_unfold; (try dsimp only)) | ((fail_if_success (with_reducible show wpAny _ _ (eval (Expr.IfExp _ _ _ _) _) _ _ _)); walk1))
    refine cut_toks (fun v => ∃ t, v = .int (if 0 < n then 0 else 1) t) ?_ ?_
    · intro E2
      iterate 6 (walk1)
      walk1
      · walk1
        exact ⟨⟨_, by rw [if_pos (by assumption)]⟩, _, rfl⟩
      · walk1
        exact ⟨⟨_, by rw [if_neg (by assumption)]⟩, _, rfl⟩
    · rintro v k5 ⟨t5, rfl⟩
      repeat' (first | (k_unfold; (try dsimp only)) | ((fail_if_success (with_reducible show wpAny _ _ (exec (Stmt.While _ _ _ _) _) _ _ _)); walk1))
      rename (S < _ ∧ _) => lE
      rename Fr _ _ _ _ => F5
      rename News _ _ _ _ => N5
      rename_i Ed _ _
      refine while_any (RowsJ (wl.map (·.1)) wd n g' L' S Ed ((S, listOf sv.toArray k) :: (L' + 1, oC) :: (W, listOf (strsV wl).toArray c) :: rest) os4) _ ⟨_, _, _, _, _, _, _, _, _, _, rfl, F5, N5, G4, ⟨rfl, rfl, rfl, trivial⟩, .cons _ _ .nil, Ends.start ⟨hk0, hk1, hk2⟩, rfl⟩ ?_
      · rintro nn s₁ E2 ⟨h1, g1, d1, tk1, m1, ev, kk, es, e, ta2, rfl, F6, N6, G6, told6, hes, hE, rfl⟩
        obtain ⟨b1, b2, b3, b4, b5, b6⟩ := hE.bounds
        rw [← over_eq told6] at F6
        (try k_unmd); (try k_fold)
        have hle := news_list N6 (.head _)
        have hls6 := news_list N6 (.tail _ (.head _))
        repeat' (first | (k_unfold; (try dsimp only)) | ((fail_if_success (with_reducible show wpAny _ _ (subscriptTail _ _ _ _) _ _ _)); walk1))
        refine' item_list_ints_neg (k := -1) hle hes ?k0 ?k1 ?k2 ?_
        case k0 => decide
        case k1 => lia
        case k2 => decide
        intro tL
        rw [show (-1 + (es.length : Int)).toNat = es.length - 1 from by lia, b6]
        have hlW := news_list N6 (.tail _ (.tail _ (.tail _ (.head _))))
        repeat' (first | (k_unfold; (try dsimp only)) | ((fail_if_success (with_reducible show wpAny _ _ (call (Value.builtin "len") _) _ _ _)); walk1))
        refine len_list hlW (by rw [List.size_toArray, hwl5]; decide) ?_
        rw [List.size_toArray, hwl5]
        iterate 2 (walk1)
        walk1
        · have he5 : e < 5 := by first | assumption | lia
          repeat' (first | (k_unfold; (try dsimp only)) | ((fail_if_success (with_reducible show wpAny _ _ (subscriptTail _ _ _ _) _ _ _)); walk1))
          refine' item_list_ints_neg (k := -1) hle hes ?k0 ?k1 ?k2 ?_
          case k0 => decide
          case k1 => lia
          case k2 => decide
          intro tL2
          rw [show (-1 + (es.length : Int)).toNat = es.length - 1 from by lia, b6]
          repeat' (first | (k_unfold; (try dsimp only)) | ((fail_if_success (with_reducible show wpAny _ _ (subscriptTail _ _ _ _) _ _ _)); walk1))
          obtain ⟨tS, hSx⟩ := ints_item hsv (i := e.toNat) (by lia)
          refine list_item hls6 b1 (by lia) hSx ?_
          clear hSx
          rw [psums_get _ (by lia)]
          repeat' (first | (k_unfold; (try dsimp only)) | ((fail_if_success (with_reducible show wpAny _ _ (call (Value.ref _) _) _ _ _)); walk1))
          refine bisect_right_does P (S := S) (vs := sv) (xs := psums (wl.map (·.1)) 5) (n := k) (.tail _ (.head _)) hsv _ _ (by lia) (psums_sorted _ _) B' (by assumption) X' (by assumption) T' (by rfl) G6 (by show dp + 1 + 5 < recursionLimit; lia) (by show un + 3 + 20 * 5 < cLine; lia) ?_
          rintro r news' s' ⟨k7, t7, rfl, rfl, hc1, hc2, hc3⟩ F7 N7 G7 o7
          obtain ⟨h7, g7, d7, tk7, os7⟩ := s'
          have hle7 := news_list N7 (.head _)
          repeat' (first | (k_unfold; (try dsimp only)) | ((fail_if_success (with_reducible show wpAny _ _ (subscriptTail _ _ _ _) _ _ _)); walk1))
          refine' item_list_ints_neg (k := -1) hle7 hes ?k0 ?k1 ?k2 ?_
          case k0 => decide
          case k1 => lia
          case k2 => decide
          intro tL3
          rw [show (-1 + (es.length : Int)).toNat = es.length - 1 from by lia, b6]
          repeat' (first | (k_unfold; (try dsimp only)) | ((fail_if_success (with_reducible show wpAny _ _ (call (Value.builtin "list.append") _) _ _ _)); walk1))
          rename Fr _ _ _ _ => F8
          rename News _ _ _ _ => N8
          refine append_K F8 N8 (.head fun p hp => ?_) ?_ (by rw [List.size_toArray, hes.length, sizeLine_eq]; lia)
          · rcases List.mem_cons.mp hp with rfl | hp
            · exact Nat.ne_of_lt (ltN lE.1)
            rcases List.mem_cons.mp hp with rfl | hp
            · exact Nat.ne_of_lt (ltN lE.2.1)
            rcases List.mem_cons.mp hp with rfl | hp
            · exact Nat.ne_of_lt (ltN lE.2.2.1)
            · exact Nat.ne_of_lt (allLt_get lE.2.2.2 p hp)
          have ePush2 : ∀ v : Value, ev.toArray.push v = (ev ++ [v]).toArray := fun v => by simp
          rw [ePush2]
          intro h9 F9 N9
          clear F8 N8
          iterate 2 (walk1)
          rename Fr _ _ _ _ => F10
          rename News _ _ _ _ => N10
          have hE2 := Ends.next hE he5 ⟨hc1, hc2, hc3⟩
          have hb2 := hE2.bounds
          have hmx : e + 1 ≤ mx ((k7 : Int) - 1) (e + 1) := by unfold mx; split <;> lia
          have hmx2 := hb2.2.1
          have o7' : os7 = os4 := o7
          subst o7'
          show NextAt _ _ _
          refine NextAt.intro (m := (5 - mx ((k7 : Int) - 1) (e + 1)).toNat) ?_ ⟨_, _, _, _, _, _, _, _, _, _, rfl, F10, N10, G7, ⟨rfl, rfl, rfl, trivial⟩, intsAre_snoc hes, hE2, rfl⟩
          generalize mx ((k7 : Int) - 1) (e + 1) = z at hmx hmx2 ⊢
          lia
        · have he5 : e = 5 := by
            have : ¬ e < 5 := by assumption
            lia
          subst he5
          repeat' (first | (k_unfold; (try dsimp only)) | ((fail_if_success (with_reducible show wpAny _ _ (eval (Expr.ListComp _ _ _ _) _) _ _ _)); walk1))
          refine ListComp_pairs (h₀ := g') (L := L') (m := over [("sums", .ref S), ("width", .int wd ta2), ("ends", .ref Ed)] m1) (cl := [(("words" : Str), L' + 1)]) (by rfl) (by decide) (by rfl) (by decide) (by rfl) (by rfl) (by decide) ?_ (by intro _; rfl)
          repeat' (first | (k_unfold; (try dsimp only)) | ((fail_if_success (with_reducible show wpAny _ _ (call (Value.type "zip") _) _ _ _)); walk1))
          rename News _ _ _ _ => Nz
          rename Fr _ _ _ _ => Fz
          rename IntsAre _ ([0] ++ es) => hI0
          rename_i Z _ lZ Zl wz _ lZl
          have hwl : wz.length = es.length + 1 := by rw [hI0.length]; simp
          have hel : ev.length = es.length := hes.length
          have hmono := hE.mono
          refine zip_pairs (by rfl) Fz Nz (.head _) (.tail _ (.tail _ (.head _))) (n := es.length) (by rw [hwl, hel]; lia) (by rw [sizeLine_eq]; lia)
            (fun i zs news₁ => ∃ rr : List Row, zs = (rr.map fun q => Value.ref q.a).reverse ∧ news₁ = rr.map Row.ob ++ ((Zl, listOf wz.toArray 0) :: (Z, listOf #[Value.int 0 (tk1 + 1 + 1 + 1 + 1)] 0) :: (Ed, listOf ev.toArray kk) :: (S, listOf sv.toArray k) :: (L' + 1, oC) :: (W, listOf (strsV wl).toArray c) :: rest) ∧ (rr.map Row.txt).reverse = slices (wl.map (·.1)) 0 (es.take i)) ⟨[], rfl, rfl, rfl⟩ ?_ ?_
          · rintro i x y zs news₁ own C oC2 m₂ D wr h3 tk3 E3 hi hx hy ⟨rr, rfl, rfl, htx⟩ off hown hwr hnD hDC hoC2 hmb hme F7 N7
            obtain ⟨t1, hx1⟩ := ints_item hI0 (i := i) (by simp; lia)
            obtain ⟨t2, hy1⟩ := ints_item hes hi
            rw [hx] at hx1
            rw [hy] at hy1
            cases hx1
            cases hy1
            obtain ⟨m1', m2', m3'⟩ := hmono i hi
            have m4' : 0 ≤ ([0] ++ es).getD i 0 := m1'
            have m5' : 0 ≤ es.getD i 0 := Int.le_trans m1' m2'
            have cW7 : (W, listOf (strsV wl).toArray c) ∈ (C, oC2) :: (D, lst ((rr.map fun q => Value.ref q.a).reverse)) :: (own ++ (rr.map Row.ob ++ ((Zl, listOf wz.toArray 0) :: (Z, listOf #[Value.int 0 (tk1 + 1 + 1 + 1 + 1)] 0) :: (Ed, listOf ev.toArray kk) :: (S, listOf sv.toArray k) :: (L' + 1, oC) :: (W, listOf (strsV wl).toArray c) :: rest))) := .tail _ (.tail _ (List.mem_append_right _ (List.mem_append_right _ (.tail _ (.tail _ (.tail _ (.tail _ (.tail _ (.head _)))))))))
            have cL7 : (L' + 1, oC) ∈ (C, oC2) :: (D, lst ((rr.map fun q => Value.ref q.a).reverse)) :: (own ++ (rr.map Row.ob ++ ((Zl, listOf wz.toArray 0) :: (Z, listOf #[Value.int 0 (tk1 + 1 + 1 + 1 + 1)] 0) :: (Ed, listOf ev.toArray kk) :: (S, listOf sv.toArray k) :: (L' + 1, oC) :: (W, listOf (strsV wl).toArray c) :: rest))) := .tail _ (.tail _ (List.mem_append_right _ (List.mem_append_right _ (.tail _ (.tail _ (.tail _ (.tail _ (.head _))))))))
            have N8 := nc N7 (.head _) (nc N7 (.tail _ (.head _)) (nc N7 cL7 (nc N7 cW7 (news_sub (news := own ++ (rr.map Row.ob ++ ((Zl, listOf wz.toArray 0) :: (Z, listOf #[Value.int 0 (tk1 + 1 + 1 + 1 + 1)] 0) :: (Ed, listOf ev.toArray kk) :: (S, listOf sv.toArray k) :: (L' + 1, oC) :: (W, listOf (strsV wl).toArray c) :: rest))) N7 fun p hp => .tail _ (.tail _ hp)))))
            clear cW7 cL7
            clear Fz Nz N7
            generalize hbig : (own ++ (rr.map Row.ob ++ ((Zl, listOf wz.toArray 0) :: (Z, listOf #[Value.int 0 (tk1 + 1 + 1 + 1 + 1)] 0) :: (Ed, listOf ev.toArray kk) :: (S, listOf sv.toArray k) :: (L' + 1, oC) :: (W, listOf (strsV wl).toArray c) :: rest))) = big at N8
            repeat' (first | (k_unfold; (try dsimp only)) | walk1)
            rename Fr _ _ _ _ => F9
            rename News _ _ _ _ => N9
            dsimp only at F9 N9 ⊢
            have hR : ∀ p ∈ (C, oC2) :: (D, lst ((rr.map fun q => Value.ref q.a).reverse)) :: (L' + 1, oC) :: (W, listOf (strsV wl).toArray c) :: big, p.1 < h3.objs.size := fun p hp => Heap.lt_size (N8 p hp).1
            subst hbig
            have hR1 : ∀ p ∈ (C, oC2) :: (D, lst ((rr.map fun q => Value.ref q.a).reverse)) :: (L' + 1, oC) :: (W, listOf (strsV wl).toArray c) :: (own ++ (rr.map Row.ob ++ ((Zl, listOf wz.toArray 0) :: (Z, listOf #[Value.int 0 (tk1 + 1 + 1 + 1 + 1)] 0) :: (Ed, listOf ev.toArray kk) :: (S, listOf sv.toArray k) :: (L' + 1, oC) :: (W, listOf (strsV wl).toArray c) :: rest))), p.1 < h3.objs.size + 1 := fun p hp => Nat.lt_succ_of_lt (hR p hp)
            clear hR
            generalize h3.objs.size + 1 = R at *
            have hDR : D < R := hR1 (D, lst ((rr.map fun q => Value.ref q.a).reverse)) (.tail _ (.head _))
            have hCR : C < R := hR1 (C, oC2) (.head _)
            obtain ⟨bn, hbn⟩ : ∃ bn : Nat, (0 :: es).getD i 0 = (bn : Int) := ⟨((0 :: es).getD i 0).toNat, (Int.toNat_of_nonneg m1').symm⟩
            obtain ⟨en, hen⟩ : ∃ en : Nat, es.getD i 0 = (en : Int) := ⟨(es.getD i 0).toNat, (Int.toNat_of_nonneg (Int.le_trans m1' m2')).symm⟩
            have hbn' : ([0] ++ es).getD i 0 = (bn : Int) := hbn
            rw [hbn, hen] at m2'
            rw [hen] at m3'
            rw [hbn', hen, row_pick wl (by lia) (by lia)] at N9
            refine TurnOut.intro F9 (news' := (R, listOf (strsV ((wl.drop bn).take (en - bn))).toArray 0) :: (rr.map Row.ob ++ ((Zl, listOf wz.toArray 0) :: (Z, listOf #[Value.int 0 (tk1 + 1 + 1 + 1 + 1)] 0) :: (Ed, listOf ev.toArray kk) :: (S, listOf sv.toArray k) :: (L' + 1, oC) :: (W, listOf (strsV wl).toArray c) :: rest))) (news_sub N9 fun p hp => ?_) (fun p hp => ?_) ⟨⟨R, (wl.drop bn).take (en - bn), 0⟩ :: rr, by simp, rfl, ?_⟩
            · rcases List.mem_cons.mp hp with h | hp
              · exact h ▸ .tail _ (.head _)
              rcases List.mem_cons.mp hp with h | hp
              · exact h ▸ .tail _ (.tail _ (.head _))
              rcases List.mem_append.mp hp with h | hp
              · exact .tail _ (.tail _ (.tail _ (.tail _ (.tail _ (List.mem_append.mpr (.inl h))))))
              rcases List.mem_cons.mp hp with h | hp
              · exact h ▸ .head _
              · exact .tail _ (.tail _ (.tail _ (.tail _ (.tail _ (List.mem_append.mpr (.inr hp))))))
            · rcases List.mem_cons.mp hp with rfl | hp
              · exact ⟨fun hm => Nat.lt_irrefl _ (Nat.lt_trans (hwr _ hm) hDR), Ne.symm (Nat.ne_of_lt hCR), Ne.symm (Nat.ne_of_lt hDR)⟩
              · exact off p hp
            · rw [slices_take _ _ hi, ← htx, hbn, hen, List.map_cons, List.reverse_cons]
              show _ ++ [((wl.drop bn).take (en - bn)).map (·.1)] = _ ++ [((wl.map (·.1)).drop ((bn : Int)).toNat).take ((en : Int) - (bn : Int)).toNat]
              rw [show ((en : Int) - (bn : Int)).toNat = en - bn from by lia, Int.toNat_natCast, List.map_take, List.map_drop]
          · rintro D h3 tk3 zs news₁ ⟨rr, rfl, rfl, htx⟩ F9 N9 hnD hD1
            rw [List.take_length] at htx
            k_steps
            rename_i F10 N10 T10 X10
            refine hQ _ _ _ ⟨D, rr, es, ((rr.map fun q => Value.ref q.a).reverse).length, rfl, hE, htx, rfl⟩ F10 (news_sub N10 fun p hp => ?_) G6 o4
            rcases List.mem_cons.mp hp with h | hp
            · exact h ▸ .head _
            rcases List.mem_append.mp hp with h | hp
            · exact .tail _ (List.mem_append.mpr (.inl h))
            · exact .tail _ (List.mem_append.mpr (.inr (.tail _ (.tail _ (.tail _ (.tail _ (.tail _ hp)))))))
end
section
open PySem PySem.W PySem.Calls PyProof.Rows
theorem lower_one {x : Nat} (h : 97 ≤ x ∧ x ≤ 122) : Txt.lower ⟨#[x]⟩ = ⟨#[x]⟩ := by
  have key : ∀ k : Fin 26, Txt.lower ⟨#[97 + k.val]⟩ = ⟨#[97 + k.val]⟩ := by decide +kernel
  have := key ⟨x - 97, by omega⟩
  rwa [show 97 + (x - 97) = x from by omega] at this
theorem sub_does (P : Params) {x y : Nat} {news : List (Addr × Obj)} (ta tb : Tok) (hx : 97 ≤ x ∧ x ≤ 122) (hy : 97 ≤ y ∧ y ≤ 122) :
    Does P 2 207 [.str ⟨#[x]⟩ ta, .str ⟨#[y]⟩ tb] news (fun r news' _ => ∃ t, r = .int (if x = y then 0 else 2) t ∧ news' = news) := by
  intro w dp un gd cn cs L ad ccd cl outer A₀ base h₀ m mg mb s Q E pp loose mean B F X N T hk G hroom hunits hQ
  obtain ⟨h, g, d, tk, os⟩ := s
  refine wpAny_call ?_
  k_dflt cell_enter
  rename_i g' L' h' FG' F' N' B' X' T'
  have hlx := lower_one hx
  have hly := lower_one hy
  by_cases e : x = y
  · subst e
    have hb : ((⟨#[x]⟩ : Str) == ⟨#[x]⟩) = true := beq_self_eq_true _
    k_steps
    rename_i F9 N9 T9 X9
    exact hQ _ _ _ ⟨_, by rw [if_pos rfl], rfl⟩ F9 N9 G rfl
  · have hb : ((⟨#[x]⟩ : Str) == ⟨#[y]⟩) = false := beq_false_of_ne fun h => e (by simpa using congrArg cds h)
    repeat' (first | (k_unfold; (try dsimp only)) | ((fail_if_success (with_reducible show wpAny _ _ (call (Value.builtin "str.lower") _) _ _ _)); walk1))
    refine SCL.lower (show 1 ≤ 5592405 by decide) ?_
    intro _
    rw [hlx]
    repeat' (first | (k_unfold; (try dsimp only)) | ((fail_if_success (with_reducible show wpAny _ _ (call (Value.builtin "str.lower") _) _ _ _)); walk1))
    refine SCL.lower (show 1 ≤ 5592405 by decide) ?_
    intro _
    rw [hly]
    k_steps
    rename_i F9 N9 T9 X9
    exact hQ _ _ _ ⟨_, by rw [if_neg e], rfl⟩ F9 N9 G rfl
end
section
open PySem PySem.W PySem.Calls PyProof.Rows
theorem item_nat {x : Str} {i : Nat} (h : i < x.length) : Txt.item x (i : Int) = ⟨#[(cds x).getD i 0]⟩ := by
  unfold Txt.item
  rw [char_at h]
theorem getD_mem {l : List Nat} {i : Nat} (h : i < l.length) : l.getD i 0 ∈ l := by
  rw [List.getD_eq_getElem?_getD, List.getElem?_eq_getElem h]
  exact List.getElem_mem h
theorem ints_set {prog : Program} {w : World} {A : Around} {E : Value → Shared → Prop} {s : Shared} {h₀ : Heap} {L D : Addr} {m : Str → Option Value} {news news' : List (Addr × Obj)} {vs : List Value} {n : Nat} {k x : Int} {t u : Tok} {Q : Unit → Shared → Prop} (F : Fr h₀ L s.heap m) (Nw : News h₀ L s.heap news)
    (U : Upd D (listOf vs.toArray n) (listOf (vs.set k.toNat (.int x u)).toArray n) news news') (hs : vs.length ≤ 64) (h0 : 0 ≤ k) (h1 : k < vs.length)
    (h : ∀ h', Fr h₀ L h' m → News h₀ L h' news' → Q () { s with heap := h' }) : wpAny (model prog w) A (setItem (.ref D) (.int k t) (.int x u)) Q E s := by
  obtain ⟨pre, post, rfl, rfl, a, b⟩ := U.split
  have z := Nw (D, listOf vs.toArray n) (List.mem_append.mpr (.inr (.head _)))
  have hz : vs.toArray.size = vs.length := by simp
  refine ki_setAt z.1 h0 (by lia) (by rw [hz]; lia) (h _ (F.change (Heap.SameBut.update ..) z.2.1 z.2.2) (ki_turn _ Nw a b ?_ ?_))
  · show vs.toArray.setIfInBounds k.toNat (.int x u) = _
    apply Array.toList_inj.mp
    rw [Array.toList_setIfInBounds]
  · rw [if_pos (by simp)]
theorem intsAre_set {x : Int} {u : Tok} : ∀ {vs : List Value} {xs : List Int} (i : Nat), IntsAre vs xs → IntsAre (vs.set i (.int x u)) (xs.set i x)
  | _, _, _, .nil => .nil
  | _, _, 0, .cons i t r => .cons x u r
  | _, _, n + 1, .cons i t r => .cons i t (intsAre_set n r)
theorem row_set {D1 D0 : Nat → Int} {T j : Nat} (h : j < T) : ((List.range T).map fun k => if k < j then D1 (k + 1) else D0 (k + 1)).set j (D1 (j + 1)) = (List.range T).map fun k => if k < j + 1 then D1 (k + 1) else D0 (k + 1) := by
  apply List.ext_getElem
  · simp
  · intro i h1 h2
    rw [List.getElem_set]
    simp only [List.getElem_map, List.getElem_range]
    by_cases e : j = i
    · subst e; simp
    · rw [if_neg e]
      by_cases h3 : i < j
      · rw [if_pos h3, if_pos (by lia)]
      · rw [if_neg h3, if_neg (by lia)]
theorem sub_does' (P : Params) {x y : Nat} {u v : Str} {news : List (Addr × Obj)} (ta tb : Tok) (hu : u = ⟨#[x]⟩) (hv : v = ⟨#[y]⟩) (hx : 97 ≤ x ∧ x ≤ 122) (hy : 97 ≤ y ∧ y ≤ 122) :
    Does P 2 207 [.str u ta, .str v tb] news (fun r news' _ => ∃ t, r = .int (if x = y then 0 else 2) t ∧ news' = news) := by
  subst hu hv
  exact sub_does P ta tb hx hy
theorem row_get {f : Nat → Int} {T j : Nat} (h : j < T) : ((List.range T).map f).getD ((j : Int)).toNat 0 = f j := by
  rw [Int.toNat_natCast, List.getD_eq_getElem?_getD, List.getElem?_map, List.getElem?_range h]
  rfl
theorem cell_eq {M : Nat → Nat → Bool} {i j : Nat} {rv2 rj sv : Int} (h1 : rv2 = if j = 0 then 2 * (i : Int) else DD M (i + 1) j) (h2 : rj = DD M i (j + 1)) (h3 : sv = DD M i j + cst M i j) :
    (if sv < (if rj < rv2 then rj else rv2) + 2 then sv else (if rj < rv2 then rj else rv2) + 2) = DD M (i + 1) (j + 1) := by
  rw [DD]
  subst h2 h3
  by_cases hj : j = 0
  · subst hj
    rw [if_pos rfl] at h1
    subst h1
    refine mn_irr ?_ ?_
    · rw [DD_zero]; exact Int.add_le_add_left (cst_le M i 0) _
    · rw [DD_zero]; push_cast; lia
  · rw [if_neg hj] at h1
    subst h1
    rfl
-- what holds at a turn of the loop over the first text
inductive LevIn (M : Nat → Nat → Bool) (a b : Str) (mc : Int) (D I : Addr) (o : Obj) (news : List (Addr × Obj)) (i j : Nat) (m₂ : Str → Option Value) (news₂ : List (Addr × Obj)) : Prop
  | mk (row2 : List Value) (rn2 : Nat) (ta tb tm tbc td tr2 tmn : Tok) (dv rv2 mn : Int) (told : Told m₂ [("a", .str a ta), ("b", .str b tb), ("max_cost", .int mc tm), ("row", .ref D), ("bchar", .str (Txt.item b (i : Int)) tbc), ("distance", .int dv td), ("result", .int rv2 tr2), ("minimum", .int mn tmn)]) (hn : news₂ = (I, o) :: (D, listOf row2.toArray rn2) :: news) (hrow : IntsAre row2 ((List.range a.length).map fun k => if k < j then DD M (i + 1) (k + 1) else DD M i (k + 1))) (hd : dv = DD M i j) (hr : rv2 = (if j = 0 then 2 * (i : Int) else DD M (i + 1) j)) (hm : ∀ k, 0 < k → k ≤ j → mn ≤ DD M (i + 1) k) (hm2 : mn ≤ 9223372036854775807) : LevIn M a b mc D I o news i j m₂ news₂
-- what holds at a turn of the loop over the second text
inductive LevOut (M : Nat → Nat → Bool) (a b : Str) (mc : Int) (D : Addr) (news : List (Addr × Obj)) (i : Nat) (m₁ : Str → Option Value) (news₁ : List (Addr × Obj)) : Prop
  | mk (row : List Value) (rn : Nat) (ta tb tm tr : Tok) (rv : Int) (told : Told m₁ [("a", .str a ta), ("b", .str b tb), ("max_cost", .int mc tm), ("row", .ref D), ("result", .int rv tr)]) (hn : news₁ = (D, listOf row.toArray rn) :: news) (hrow : IntsAre row ((List.range a.length).map fun j => DD M i (j + 1))) (hr : 0 < i → rv = DD M i a.length) : LevOut M a b mc D news i m₁ news₁
theorem lev_does (P : Params) {a b : Str} {news : List (Addr × Obj)} (ta tb tm : Tok) (mc : Int) (hab : (a == b) = false) (hl : a.length = b.length) (hT : 0 < a.length ∧ a.length ≤ 20) (hf : (cds a).getD 0 0 ≠ (cds b).getD 0 0) (hz : (cds a).getD (a.length - 1) 0 ≠ (cds b).getD (b.length - 1) 0) (hmc : 0 ≤ mc ∧ mc < 10000) (hlA : ∀ c ∈ cds a, 97 ≤ c ∧ c ≤ 122) (hlB : ∀ c ∈ cds b, 97 ≤ c ∧ c ≤ 122) (hrow_le : ∀ r, 0 < r → r ≤ a.length → ∃ j, 0 < j ∧ j ≤ a.length ∧ DD (fun i j => (cds b).getD i 0 == (cds a).getD j 0) r j ≤ mc) :
    Does P 6 214 [.str a ta, .str b tb, .int mc tm] news (fun r news' _ => ∃ t, r = .int (DD (fun i j => (cds b).getD i 0 == (cds a).getD j 0) a.length a.length) t ∧ ∀ p ∈ news, p ∈ news') := by
  intro w dp un gd cn cs L ad ccd cl outer A₀ base h₀ m mg mb s Q E pp loose mean B F X N T hk G hroom hunits hQ
  obtain ⟨h, g, d, tk, os⟩ := s
  refine wpAny_call ?_
  k_dflt cell_enter
  rename_i g' L' h' FG' F' N' B' X' T'
  have hT1 : (0 : Int) < a.length := by lia
  have hT2 : (0 : Int) < b.length := by lia
  have ht1 : ((a.length : Int) != 0) = true := by rw [bne_iff_ne]; lia
  have ht2 : ((b.length : Int) != 0) = true := by rw [bne_iff_ne]; lia
  have hf1 : (Txt.item a 0 == Txt.item b 0) = false := by
    rw [item_eq, show (0 : Int) = ((0 : Nat) : Int) from rfl, char_at hT.1, char_at (by lia)]
    exact beq_false_of_ne hf
  have hz1 : (Txt.item a (0 - 1) == Txt.item b (0 - 1)) = false := by
    show (Txt.item a (-1) == Txt.item b (-1)) = false
    rw [item_eq, char_last hT.1, char_last (by lia)]
    exact beq_false_of_ne hz
  iterate 15 (walk1)
  refine while_any (fun n s₁ => n = 0 ∧ s₁ = _) 0 ⟨rfl, rfl⟩ ?_
  rintro n s₁ E' ⟨rfl, rfl⟩
  iterate 10 (walk1)
  rw [slice0]
  iterate 12 (walk1)
  rw [slice0]
  iterate 16 (walk1)
  iterate 10 (walk1)
  rw [slice0]
  iterate 11 (walk1)
  rw [slice0]
  iterate 6 (walk1)
  refine while_any (fun n s₁ => n = 0 ∧ s₁ = _) 0 ⟨rfl, rfl⟩ ?_
  rintro n s₁ E' ⟨rfl, rfl⟩
  iterate 14 (walk1)
  rename Fr _ _ _ _ => F2
  rename News _ _ _ _ => N2
  refine slice_strN_nn (s := ⟨_, _, _, _, _⟩) F2 N2 ?_ (hsz := by rw [sizeLine_eq]; lia)
  intro h3 t3 k3 F3 N3
  clear F2 N2
  rw [sliceN]
  iterate 16 (walk1)
  rename Fr _ _ _ _ => F2
  rename News _ _ _ _ => N2
  refine slice_strN_nn (s := ⟨_, _, _, _, _⟩) F2 N2 ?_ (hsz := by rw [sizeLine_eq]; lia)
  intro h3 t3 k3 F3 N3
  clear F2 N2
  rw [sliceN]
  iterate 36 (walk1)
  rename Fr _ _ _ _ => F2
  rename News _ _ _ _ => N2
  refine slice_strN_nn (s := ⟨_, _, _, _, _⟩) F2 N2 ?_ (hsz := by rw [sizeLine_eq]; lia)
  intro h3 t3 k3 F3 N3
  clear F2 N2
  rw [sliceN]
  iterate 15 (walk1)
  rename Fr _ _ _ _ => F2
  rename News _ _ _ _ => N2
  refine slice_strN_nn (s := ⟨_, _, _, _, _⟩) F2 N2 ?_ (hsz := by rw [sizeLine_eq]; lia)
  intro h3 t3 k3 F3 N3
  clear F2 N2
  rw [sliceN]
  have hlz : (a.length : Int) = b.length := by lia
  repeat' (first | (k_unfold; (try dsimp only)) | ((fail_if_success (with_reducible show wpAny _ _ (call (Value.type "range") _) _ _ _)); walk1))
  iterate 2 (walk1)
  rename IsRange _ _ _ _ _ _ _ _ => HR
  have hsz : Builtin.Range.rangeSize 2 (2 * ((a.length : Int) + 1)) 2 = (a.length : Int) := by
    unfold Builtin.Range.rangeSize
    simp
    lia
  refine list_range_led (n := a.length) (by assumption) (by assumption) HR (by unfold Builtin.Range.small; rw [hsz]; unfold Builtin.Range.rangeFitsLong; simp; lia) hsz (by lia) ?_
  intro D h4 tk4 ys n4 F4 N4 hlt4 hys
  repeat' (first | (k_unfold; (try dsimp only)) | ((fail_if_success (with_reducible show wpAny _ _ (exec (Stmt.For _ _ _ _ _) _) _ _ _)); walk1))
  refine wpAny_For ?_ (by intro _; rfl)
  repeat' (first | (k_unfold; (try dsimp only)) | ((fail_if_success (with_reducible show wpAny _ _ (pyIter _) _ _ _)); walk1))
  rename IsRange _ _ _ _ _ _ _ _ => HR2
  rename Fr _ _ _ _ => F5
  rename News _ _ _ _ => N5
  have hMd : ∀ i j : Nat, (fun i j => (cds b).getD i 0 == (cds a).getD j 0 : Nat → Nat → Bool) i j = ((cds b).getD i 0 == (cds a).getD j 0) := fun _ _ => rfl
  generalize (fun i j => (cds b).getD i 0 == (cds a).getD j 0 : Nat → Nat → Bool) = M at *
  refine for_range (n := b.length) (fun i m₁ news₁ => LevOut M a b mc D news i m₁ news₁) HR2 (by lia) F5 N5 G ⟨ys, n4, _, _, _, _, _, ⟨rfl, rfl, rfl, rfl, rfl, trivial⟩, rfl, ?_, fun h => absurd h (Nat.lt_irrefl _)⟩ ?_ ?_
  · rw [show ((List.range a.length).map fun j => DD M 0 (j + 1)) = rangeInts 2 2 a.length from by
      unfold rangeInts
      apply List.map_congr_left
      intro j _
      rw [DD]
      lia]
    exact hys
  · clear F5 N5 HR2 hys
    rintro I i ti o m₁ news₁ h₁ g₁ d₁ tk₁ E' hiT hc ⟨row, rn, ta, tb, tm, tr, rv, told, rfl, hrow, hrv⟩ hI hIn F6 N6 G6
    try dsimp only at F6 N6
    rw [← over_eq told] at F6
    try k_fold
    repeat' (first | (k_unfold; (try dsimp only)) | ((fail_if_success (with_reducible show wpAny _ _ (exec (Stmt.For _ _ _ _ _) _) _ _ _)); walk1))
    refine wpAny_For ?_ (by intro _; rfl)
    repeat' (first | (k_unfold; (try dsimp only)) | ((fail_if_success (with_reducible show wpAny _ _ (pyIter _) _ _ _)); walk1))
    rename IsRange _ _ _ _ _ _ _ _ => HR3
    rename Fr _ _ _ _ => F7
    rename News _ _ _ _ => N7
    have hiT' : i < b.length := hiT
    refine for_range (n := a.length) (fun j m₂ news₂ => LevIn M a b mc D I o news i j m₂ news₂) HR3 (by lia) F7 N7 G6 ⟨row, rn, _, _, _, _, _, _, _, _, _, _, ⟨rfl, rfl, rfl, rfl, rfl, rfl, rfl, rfl, trivial⟩, rfl, ?_, ?_, ?_, fun k h1 h2 => absurd h1 (by lia), Int.le_refl _⟩ ?_ ?_
    · simpa using hrow
    · rw [DD_zero]; lia
    · rw [if_pos rfl]; lia
    · clear F7 N7 HR3
      rintro I2 j tj o2 m₂ news₂ h₂ g₂ d₂ tk₂ E2 hjT hc2 ⟨row2, rn2, ta, tb, tm, tbc, td, tr2, tmn, dv, rv2, mn, told2, rfl, hrow2, hdv, hrv2, hmn, hmn2⟩ hI2 hIn2 F8 N8 G8
      rw [← over_eq told2] at F8
      try k_fold
      have hl8 := news_list N8 (.tail _ (.tail _ (.head _)))
      repeat' (first | (k_unfold; (try dsimp only)) | ((fail_if_success (with_reducible show wpAny _ _ (call (Value.ref _) _) _ _ _)); walk1))
      refine sub_does' P _ _ (item_nat hiT') (item_nat hjT) (hlB _ (getD_mem (by rw [cds_length]; exact hiT'))) (hlA _ (getD_mem (by rw [cds_length]; exact hjT))) B' (by assumption) X' (by assumption) T' (by rfl) G8 (by show dp + 1 + 2 < recursionLimit; lia) (by show un + 3 + 20 * 2 < cLine; lia) ?_
      rintro r news' s' ⟨t9, rfl, rfl⟩ F9 N9 G9 o9
      obtain ⟨h9, g9, d9, tk9, os9⟩ := s'
      have hsv : (dv + if (cds b).getD i 0 = (cds a).getD j 0 then (0 : Int) else 2) = DD M i j + cst M i j := by
        rw [hdv]
        unfold cst
        rw [hMd]
        by_cases e : (cds b).getD i 0 = (cds a).getD j 0
        · rw [if_pos e, if_pos (by rw [e]; exact beq_self_eq_true _)]
        · rw [if_neg e, if_neg (by rw [beq_iff_eq]; exact e)]
      generalize (if (cds b).getD i 0 = (cds a).getD j 0 then (0 : Int) else 2) = sc at hsv ⊢
      have hl9 := news_list N9 (.tail _ (.tail _ (.head _)))
      have hlen2 : row2.length = a.length := by rw [hrow2.length]; simp
      have hrj := row_get (f := fun k => if k < j then DD M (i + 1) (k + 1) else DD M i (k + 1)) hjT
      rw [if_neg (Nat.lt_irrefl j)] at hrj
      repeat' (first | (k_unfold; (try dsimp only)) | ((fail_if_success (with_reducible show wpAny _ _ (eval (Expr.Call (Expr.Name _ _) [_, _] _ _) _) _ _ _)); walk1))
      rename Fr _ _ _ _ => F10
      rename News _ _ _ _ => N10
      generalize ((List.range a.length).map fun k => if k < j then DD M (i + 1) (k + 1) else DD M i (k + 1)).getD j 0 = rj at hrj F10 N10 ⊢
      repeat' (first | (k_unfold; (try dsimp only)) | ((fail_if_success (with_reducible show wpAny _ _ (setItem _ _ _) _ _ _)); walk1))
      rename Fr _ _ _ _ => F10
      rename News _ _ _ _ => N10
      have hDI2 : D ≠ I2 := hI2 (D, listOf row2.toArray rn2) (.tail _ (.head _))
      have hDI : D ≠ I := hI (D, listOf row.toArray rn) (.head _)
      refine ints_set F10 N10 (.tail (Ne.symm hDI2) (.tail (Ne.symm hDI) (.head fun p hp => Nat.ne_of_lt (hlt4 p hp)))) (by lia) (by lia) (by lia) ?_
      intro h11 F11 N11
      clear F10 N10 hl9 hl8
      have hNR := cell_eq hrv2 hrj hsv
      generalize (if dv + sc < (if rj < rv2 then rj else rv2) + 2 then dv + sc else (if rj < rv2 then rj else rv2) + 2) = nv at hNR F11 N11 ⊢
      have hset := (congrArg (fun z => List.set ((List.range a.length).map fun k => if k < j then DD M (i + 1) (k + 1) else DD M i (k + 1)) ((j : Int)).toNat z) hNR).trans (row_set (D1 := DD M (i + 1)) (D0 := DD M i) hjT)
      k_steps
      · rename Fr _ _ _ _ => F12
        rename News _ _ _ _ => N12
        refine ForNext.intro F12 N12 (fun p hp => ?_) ⟨_, rn2, _, _, _, _, _, _, _, _, _, _, ⟨rfl, rfl, rfl, rfl, rfl, rfl, rfl, rfl, trivial⟩, rfl, ?_, hrj, ?_, ?_, ?_⟩ G9 o9
        · rcases List.mem_cons.mp hp with rfl | hp
          · exact hI2 (I, o) (.head _)
          rcases List.mem_cons.mp hp with rfl | hp
          · exact hDI2
          · exact hI2 p (.tail _ (.tail _ hp))
        · rw [← hset]; exact intsAre_set _ hrow2
        · rw [if_neg (Nat.succ_ne_zero j)]; exact hNR
        · intro k hk1 hk2
          rename _ < mn => hlt
          rw [hNR] at hlt ⊢
          by_cases hk : k = j + 1
          · subst hk; exact Int.le_refl _
          · exact Int.le_trans (Int.le_of_lt hlt) (hmn k hk1 (by lia))
        · rename _ < mn => hlt
          exact Int.le_trans (Int.le_of_lt hlt) hmn2
      · rename Fr _ _ _ _ => F12
        rename News _ _ _ _ => N12
        refine ForNext.intro F12 N12 (fun p hp => ?_) ⟨_, rn2, _, _, _, _, _, _, _, _, _, _, ⟨rfl, rfl, rfl, rfl, rfl, rfl, rfl, rfl, trivial⟩, rfl, ?_, hrj, ?_, ?_, ?_⟩ G9 o9
        · rcases List.mem_cons.mp hp with rfl | hp
          · exact hI2 (I, o) (.head _)
          rcases List.mem_cons.mp hp with rfl | hp
          · exact hDI2
          · exact hI2 p (.tail _ (.tail _ hp))
        · rw [← hset]; exact intsAre_set _ hrow2
        · rw [if_neg (Nat.succ_ne_zero j)]; exact hNR
        · intro k hk1 hk2
          rename ¬ _ < mn => hlt
          rw [hNR] at hlt
          by_cases hk : k = j + 1
          · subst hk; exact Int.not_lt.mp hlt
          · exact hmn k hk1 (by lia)
        · exact hmn2
    · rintro m₂ news₂ h₂ g₂ d₂ tk₂ ⟨row2, rn2, ta, tb, tm, tbc, td, tr2, tmn, dv, rv2, mn, told2, rfl, hrow2, hdv, hrv2, hmn, hmn2⟩ F8 N8 G8
      dsimp only at F8 N8 ⊢
      rw [← over_eq told2] at F8
      try k_fold
      have hmc2 : ¬ mc < mn := by
        obtain ⟨k, hk1, hk2, hk3⟩ := hrow_le (i + 1) (Nat.succ_pos i) (by lia)
        have := hmn k hk1 hk2
        lia
      iterate 10 (walk1)
      rename Fr _ _ _ _ => F12
      rename News _ _ _ _ => N12
      refine ForNext.intro F12 N12 (fun p hp => ?_) ⟨row2, rn2, _, _, _, _, rv2, ⟨rfl, rfl, rfl, rfl, rfl, trivial⟩, rfl, ?_, fun _ => ?_⟩ G8 rfl
      · rcases List.mem_cons.mp hp with rfl | hp
        · exact hI (D, listOf row.toArray rn) (.head _)
        · exact hI p (.tail _ hp)
      · rw [show ((List.range a.length).map fun j => DD M (i + 1) (j + 1)) = (List.range a.length).map fun k => if k < a.length then DD M (i + 1) (k + 1) else DD M i (k + 1) from List.map_congr_left fun k hk => (if_pos (List.mem_range.mp hk)).symm]
        exact hrow2
      · rw [if_neg (by lia)] at hrv2
        exact hrv2
  · rintro m₁ news₁ h₁ g₁ d₁ tk₁ ⟨row, rn, ta, tb, tm, tr, rv, told, rfl, hrow, hrv⟩ F6 N6 G6
    dsimp only at F6 N6 ⊢
    rw [← over_eq told] at F6
    iterate 4 (walk1)
    rename_i F9 N9 T9 X9
    refine hQ _ _ _ ⟨tr, ?_, fun p hp => .tail _ hp⟩ F9 N9 G6 rfl
    rw [hrv (by lia), ← hl]
end
section
open PySem PySem.W PySem.Calls PyProof.Rows
theorem lev_same (P : Params) {a b : Str} {news : List (Addr × Obj)} (ta tb tm : Tok) (mc : Int) (hab : (a == b) = true) :
    Does P 6 214 [.str a ta, .str b tb, .int mc tm] news (fun r news' _ => ∃ t, r = .int 0 t ∧ news' = news) := by
  intro w dp un gd cn cs L ad ccd cl outer A₀ base h₀ m mg mb s Q E pp loose mean B F X N T hk G hroom hunits hQ
  obtain ⟨h, g, d, tk, os⟩ := s
  refine wpAny_call ?_
  k_dflt cell_enter
  rename_i g' L' h' FG' F' N' B' X' T'
  k_steps
  rename_i F9 N9 T9 X9
  exact hQ _ _ _ ⟨_, rfl, rfl⟩ F9 N9 G rfl
end
section
open PySem PySem.W PySem.Calls PyProof.Rows
-- the distance of the page and the page upside down
theorem lev_far (P : Params) {a b : Str} {T u v : Nat} {news : List (Addr × Obj)} (K : Far a b T u v) (ta tb tm : Tok) (mc : Int) (hT : 0 < T ∧ T ≤ 20) (hmc : 4 * max ((T : Int) - v) u ≤ mc ∧ mc < 10000) (hlA : ∀ c ∈ cds a, 97 ≤ c ∧ c ≤ 122) (hlB : ∀ c ∈ cds b, 97 ≤ c ∧ c ≤ 122) :
    Does P 6 214 [.str a ta, .str b tb, .int mc tm] news (fun r news' _ => ∃ t, r = .int (4 * max ((T : Int) - v) u) t ∧ ∀ p ∈ news, p ∈ news') := by
  obtain ⟨la, lb, uT, vT, v1, dist, row, same, first, last⟩ := K
  by_cases h : u = 0 ∧ v = T
  · have e := same h.1 h.2
    refine does_mono (lev_same P ta tb tm mc (by rw [e]; exact beq_self_eq_true _)) ?_
    rintro r n hp ⟨t, rfl, rfl⟩
    refine ⟨t, congrArg (fun z => Value.int z t) ?_, fun p hp => hp⟩
    obtain ⟨rfl, rfl⟩ := h
    lia
  · have hf := first h
    have hab : (a == b) = false := beq_false_of_ne fun e => hf (by rw [e])
    refine does_mono (lev_does P ta tb tm mc hab (by lia) (by lia) hf (by rw [la, lb]; exact last h) ⟨by lia, hmc.2⟩ hlA hlB fun r h0 h1 => ?_) ?_
    · obtain ⟨j, j1, j2, j3⟩ := row r h0 (by lia)
      exact ⟨j, j1, by lia, Int.le_trans j3 hmc.1⟩
    · rintro r n hp ⟨t, rfl, hs⟩
      refine ⟨t, ?_, hs⟩
      rw [la, dist]
end
section
open PySem PySem.W PySem.Calls PyProof.Rows
-- enumerate of a tuple: made
theorem meets_enum_tup (l : Addr) (items : Array Value) (n : Nat) (dct : Option Addr) (sl : Array (Option Value)) :
    Meets (Builtin.«enumerate.__new__» ⟨[.type "enumerate", .ref l], []⟩) (fun _ R s => s.heap.get? l = some { cls := .type "tuple", dict := dct, data := .seq items n, slots := sl } ∧
      R (.ok (.ret (.ref (s.heap.push { cls := .type "tuple_iterator", data := .fields #[.ref l, .int 0 0] }).objs.size)))
        { s with heap := (s.heap.push { cls := .type "tuple_iterator", data := .fields #[.ref l, .int 0 0] }).push { cls := .type "enumerate", data := .fields #[.none, .bool false, .ref s.heap.objs.size, rawInt 0, .none, .none] } }) :=
  .of_wp fun prog w A R s h => by
    obtain ⟨hp, g, d, tk, os⟩ := s; obtain ⟨hl, h⟩ := h
    have hsub := sub_enumerate
    have hL : Heap.IsTuple (Shared.heap ⟨hp, g, d, tk, os⟩) l items := ⟨_, hl, rfl, n, rfl⟩
    wp_walk using PySem.AutoSeq1.wpAny_loadPart' hl
    refine wpAny_stack_any fun st => wpAny_pure ?_
    split
    · rename_i c _ _ _ _ _
      cases (c == Value.type "enumerate")
      · wp_walk using PySem.AutoSeq1.wpAny_loadPart' hl, wpAny_pyIter_tuple hL
        exact ⟨_, rfl, h⟩
      · wp_walk using PySem.AutoSeq1.wpAny_loadPart' hl, wpAny_pyIter_tuple hL
        exact ⟨_, rfl, h⟩
    · wp_walk using PySem.AutoSeq1.wpAny_loadPart' hl, wpAny_pyIter_tuple hL
      exact ⟨_, rfl, h⟩
section
variable {prog : Program} {w : World} {A : Around} {E : Value → Shared → Prop} {s : Shared}
theorem next_tup_item {it l : Addr} {i : Nat} {items : Array Value} {x : Value} {Q : Value → Shared → Prop} (hit : s.heap.IsTupleIter it l i)
    (hl : s.heap.IsTuple l items) (hx : items[i]? = some x)
    (hQ : ∀ h', h'.IsTupleIter it l (i + 1) → Heap.SameBut it s.heap h' → Q x { s with heap := h' }) :
    wpAny (model prog w) A (Builtin.SmallTypes.nextOf (.ref it)) Q E s := by
  obtain ⟨o, ho, hc, hd⟩ := id hit
  obtain ⟨ol, hol, _, nl, hdl⟩ := hl
  unfold Builtin.SmallTypes.nextOf
  refine wpAny_bind (wpAny_callSpecial?_slot (name := Str.ofString "__next__") hit.typeIs F.slot_tuple_iterator_next
    (wpAny_call_entry F.slot_tuple_iterator_next hit.typeIs F.entry_tuple_iterator_next ?_ (F.args_tuple_iterator_next_1 _)))
  show wpAny _ _ (field (.ref it) 0 >>= _) _ _ s
  refine wpAny_bind (wpAny_field ho hd (x := .ref l) rfl ?_)
  show wpAny _ _ (if (Value.ref l == Value.none) = true then _ else _) _ _ s
  rw [if_neg (show ¬ ((Value.ref l == Value.none) = true) from Bool.false_ne_true)]
  show wpAny _ _ (field (.ref it) 1 >>= _) _ _ s
  refine wpAny_bind (wpAny_field ho hd (x := .int i 0) rfl ?_)
  show wpAny _ _ (seqItems? (.ref l) >>= _) _ _ s
  refine wpAny_bind (wpAny_seqItems hol hdl ?_)
  simp only [Int.toNat_natCast, hx]
  refine wpAny_bind (wpAny_setField ho hd (by simp) (wpAny_pure ⟨x, rfl, wpAny_pure (hQ _ ?_ (Heap.SameBut.update ..))⟩))
  exact ⟨_, Heap.get?_update_self _ ho (Obj.isFreed_of_fields (Obj.data_mapFields hd _)), (Obj.cls_mapFields ..).trans hc, by
    rw [Obj.data_mapFields hd]; simp [rawInt]⟩
theorem next_tup_end {it l : Addr} {i : Nat} {items : Array Value} {Q : Value → Shared → Prop} (hh : A.handled = none)
    (hit : s.heap.IsTupleIter it l i) (hl : s.heap.IsTuple l items) (hx : items[i]? = none)
    (hE : ∀ h' e, Heap.ExtBut it s.heap h' → (∃ o, h'.get? e = some o ∧ o.cls = .type "StopIteration") → E (.ref e) { s with heap := h' }) :
    wpAny (model prog w) A (Builtin.SmallTypes.nextOf (.ref it)) Q E s := by
  obtain ⟨o, ho, hc, hd⟩ := id hit
  obtain ⟨ol, hol, _, nl, hdl⟩ := hl
  unfold Builtin.SmallTypes.nextOf
  refine wpAny_bind (wpAny_callSpecial?_slot (name := Str.ofString "__next__") hit.typeIs F.slot_tuple_iterator_next
    (wpAny_call_entry F.slot_tuple_iterator_next hit.typeIs F.entry_tuple_iterator_next ?_ (F.args_tuple_iterator_next_1 _)))
  show wpAny _ _ (field (.ref it) 0 >>= _) _ _ s
  refine wpAny_bind (wpAny_field ho hd (x := .ref l) rfl ?_)
  show wpAny _ _ (if (Value.ref l == Value.none) = true then _ else _) _ _ s
  rw [if_neg (show ¬ ((Value.ref l == Value.none) = true) from Bool.false_ne_true)]
  show wpAny _ _ (field (.ref it) 1 >>= _) _ _ s
  refine wpAny_bind (wpAny_field ho hd (x := .int i 0) rfl ?_)
  show wpAny _ _ (seqItems? (.ref l) >>= _) _ _ s
  refine wpAny_bind (wpAny_seqItems hol hdl ?_)
  simp only [Int.toNat_natCast, hx]
  refine wpAny_bind (wpAny_rule (wpAny_bind (wpAny_setField ho hd (by simp) ?_)))
  show wpAny _ _ (newExc (.type "StopIteration") [] >>= _) _ _ _
  refine wpAny_bind ?_
  simp only [newExc, newTuple]
  refine wpAny_bind (wpAny_newObj_type ?_ (by size_fits))
  refine wpAny_bind (m := firstArgMember _ _) (wpAny_of_eq (a := Value.none) (by first | rfl | (simp only [firstArgMember]; rfl)) ?_)
  refine wpAny_newObj_type ?_ (by size_fits)
  simp only [raiseNew]
  refine wpAny_bind (wpAny_handled ?_)
  first | rw [show A.in1.handled = none from hh] | rw [hh]
  refine wpAny_bind (wpAny_pure (wpAny_throw ?_))
  exact hE _ _ (((Heap.SameBut.update ..).extBut.push _).push _) ⟨_, Heap.get?_push_size _ rfl, rfl⟩
theorem draws_tup {prog : Program} {w : World} {A : Around} (hh : A.handled = none) (it l : Addr) (hne : l ≠ it) (items : Array Value) :
    Draws prog w A it [it, l] items.size (fun i v => items[i]? = some v) (fun i h => h.IsTupleIter it l i ∧ h.IsTuple l items) where
  live := fun _ _ st => let ⟨o, ho, _⟩ := st.1; ⟨o, ho⟩
  frame := fun _ _ _ st hk => ⟨by obtain ⟨o, ho, r⟩ := st.1; exact ⟨o, hk it (by simp) o ho, r⟩, st.2.at fun o e => hk l (by simp) o e⟩
  item := fun i s Q E hi st hQ => by
    refine next_tup_item st.1 st.2 (x := items[i]) (by simp [hi]) fun h' hit' hs' => ?_
    exact hQ _ h' s.toks (by simp [hi]) ⟨hit', st.2.extBut hs'.extBut hne⟩ hs'
  done := fun s Q E st hE => next_tup_end hh st.1 st.2 (by simp) hE
theorem call_enum_tup {l : Addr} {items : Array Value} {Q : Value → Shared → Prop} (hL : s.heap.IsTuple l items)
    (h : ∀ h', IsEnum h' (s.heap.objs.size + 1) s.heap.objs.size 0 .none → h'.IsTupleIter s.heap.objs.size l 0 → h'.objs.size = s.heap.objs.size + 2 →
      (∀ b o, s.heap.get? b = some o → h'.get? b = some o) → Q (.ref (s.heap.objs.size + 1)) { s with heap := h' }) :
    wpAny (model prog w) A (call (.type "enumerate") [.ref l]) Q E s := by
  obtain ⟨⟨c, dct, dt, sl⟩, hl, hc, n, hd⟩ := hL
  replace hc : c = .type "tuple" := hc
  replace hd : dt = .seq items n := hd
  subst hc hd
  refine callType_new F.called_enumerate (by decide) (F.typeCall_enumerate_1 _) (F.newCall_enumerate_1 _) (fun obj => F.args_object_init_2 obj _) F.entry_enumerate_new
    (meets_enum_tup l items n dct sl) ⟨hl, ?_⟩
  have hz : (s.heap.push { cls := .type "tuple_iterator", data := .fields #[.ref l, .int 0 0] }).objs.size = s.heap.objs.size + 1 := Heap.size_push ..
  show _ ∧ _
  rw [hz]
  have he : IsEnum ((s.heap.push { cls := .type "tuple_iterator", data := .fields #[.ref l, .int 0 0] }).push
      { cls := .type "enumerate", data := .fields #[.none, .bool false, .ref s.heap.objs.size, rawInt 0, .none, .none] }) (s.heap.objs.size + 1) s.heap.objs.size 0 .none := by
    have := Heap.get?_push_size (s.heap.push { cls := .type "tuple_iterator", data := .fields #[.ref l, .int 0 0] })
      (o := { cls := .type "enumerate", data := .fields #[.none, .bool false, .ref s.heap.objs.size, rawInt 0, .none, .none] }) rfl
    rw [hz] at this; exact this
  refine ⟨⟨_, he, rfl⟩, h _ he ⟨_, Heap.get?_push_of_some _ (Heap.get?_push_size _ rfl), rfl, rfl⟩ (by rw [Heap.size_push, hz]) fun b o x => Heap.get?_push_of_some _ (Heap.get?_push_of_some _ x)⟩
end
end
section
open PySem PySem.W PySem.Calls PyProof.Rows
theorem intsAre_of : ∀ (vs : List Value), (∀ v ∈ vs, ∃ k t, v = Value.int k t) → ∃ xs, IntsAre vs xs
  | [], _ => ⟨[], .nil⟩
  | v :: vs, h => by
    obtain ⟨k, t, rfl⟩ := h v (.head _)
    obtain ⟨xs, hx⟩ := intsAre_of vs fun v hv => h v (.tail _ hv)
    exact ⟨k :: xs, .cons k t hx⟩
theorem intsAre_mem {v : Value} : ∀ {vs : List Value} {xs : List Int}, IntsAre vs xs → v ∈ vs → ∃ k t, v = Value.int k t
  | _, _, .cons k t r, h => by
    rcases List.mem_cons.mp h with h | h
    · exact ⟨k, t, h⟩
    · exact intsAre_mem r h
theorem pick5 {sv : List Value} {ns : List Int} (hs : IntsAre sv ns) (i : Nat) : ∃ xs, IntsAre (slicePick sv.toArray (some (i : Int)) (some 60) (some 5)).toList xs ∧ xs.length ≤ 12 := by
  obtain ⟨xs, hx⟩ := intsAre_of (slicePick sv.toArray (some (i : Int)) (some 60) (some 5)).toList fun v hv => by
    unfold slicePick at hv
    obtain ⟨j, _, hj⟩ := List.mem_filterMap.mp hv
    exact intsAre_mem hs (List.mem_of_getElem? (by simpa using hj))
  refine ⟨xs, hx, ?_⟩
  rw [← hx.length]
  unfold slicePick
  refine Nat.le_trans (List.length_filterMap_le _ _) ?_
  have h1 : (sliceBounds (some (i : Int)) (some 60) (some 5) sv.toArray.size).2.2 = 5 := rfl
  have h2 : 0 ≤ (sliceBounds (some (i : Int)) (some 60) (some 5) sv.toArray.size).1 := by show 0 ≤ max 0 _; exact Int.le_max_left _ _
  have h3 : (sliceBounds (some (i : Int)) (some 60) (some 5) sv.toArray.size).2.1 ≤ 60 := by
    show max 0 (min (if (60 : Int) < 0 then _ else 60) _) ≤ 60
    rw [if_neg (by decide)]
    lia
  rw [h1]
  generalize (sliceBounds (some (i : Int)) (some 60) (some 5) sv.toArray.size).1 = a at h2 ⊢
  generalize (sliceBounds (some (i : Int)) (some 60) (some 5) sv.toArray.size).2.1 = b at h3 ⊢
  unfold sliceRange
  simp only [List.length_map, List.length_range, show (5 : Int) > 0 by decide, if_true]
  split <;> lia
theorem sum_mod : ∀ (xs : List Int), 0 ≤ ((xs.filter fun _ => true).map fun a => a.fmod (10 ^ Int.toNat 6)).sum ∧ ((xs.filter fun _ => true).map fun a => a.fmod (10 ^ Int.toNat 6)).sum ≤ 1000000 * xs.length
  | [] => by simp
  | x :: xs => by
    obtain ⟨h1, h2⟩ := sum_mod xs
    rw [List.filter_cons_of_pos rfl, List.map_cons, List.sum_cons, List.length_cons]
    have e : ((10 : Int) ^ Int.toNat 6) = 1000000 := by decide
    rw [e] at h1 h2 ⊢
    have h3 := Int.fmod_eq_emod_of_nonneg x (show (0 : Int) ≤ 1000000 by decide)
    push_cast
    lia
theorem base_item {t0 t1 t2 t3 t4 : Tok} : ∀ {i : Nat} {x : Value}, (#[Value.int 7 t0, .int 12 t1, .int 10 t2, .int 2 t3, .int 0 t4] : Array Value)[i]? = some x → ∃ b t, x = .int b t ∧ 0 ≤ b ∧ b ≤ 12
  | 0, _, h => ⟨7, t0, (Option.some.inj h).symm, by decide, by decide⟩
  | 1, _, h => ⟨12, t1, (Option.some.inj h).symm, by decide, by decide⟩
  | 2, _, h => ⟨10, t2, (Option.some.inj h).symm, by decide, by decide⟩
  | 3, _, h => ⟨2, t3, (Option.some.inj h).symm, by decide, by decide⟩
  | 4, _, h => ⟨0, t4, (Option.some.inj h).symm, by decide, by decide⟩
  | n + 5, _, h => by simp at h
-- a call from a frame that can see a list of the base
abbrev DoesB (P : Params) (c : Nat) (f : Addr) (vs : List Value) (news : List (Addr × Obj)) (hb : Heap → Prop) (R : Value → List (Addr × Obj) → Heap → Prop) : Prop :=
  ∀ ⦃w : World⦄ ⦃dp un : Nat⦄ ⦃gd : Option (List Code)⦄ ⦃cn : Str⦄ ⦃cs : Scope⦄ ⦃L a : Addr⦄ ⦃ccd : Value⦄ ⦃cl : List (Str × Addr)⦄ ⦃outer : List Env⦄ ⦃A₀ : Around⦄ ⦃base h₀ : Heap⦄ ⦃m mg mb : Str → Option Value⦄ ⦃s : Shared⦄ ⦃Q E : Value → Shared → Prop⦄ ⦃p : Program⦄ ⦃loose : List Str⦄ ⦃mean : ExcName → Option Value⦄,
    hb h₀ → Below A₀ base outer h₀ → Fr h₀ L s.heap m → (hd.heap_39 P).In h₀ → News h₀ L s.heap news → Top p loose mean mg mb h₀ → cs.kind = .function → AllBare s.gens → dp + c < recursionLimit → un + 20 * c < cLine →
    (∀ r news' s', R r news' s'.heap → Fr h₀ L s'.heap m → News h₀ L s'.heap news' → AllBare s'.gens → s'.os = s.os → Q r s') →
    wpAny (model PySem.Challenge.pw_re0158_01 w) (ktrTop dp un gd cn cs L a ccd cl outer) (call (.ref f) vs) Q E s
inductive DrawnR (rest : List (Addr × Obj)) (r : Value) (news' : List (Addr × Obj)) : Prop
  | mk (D : Addr) (dv : List Value) (dl : List Int) (c : Nat) (q1 : r = .ref D) (q2 : news' = (D, listOf dv.toArray c) :: rest) (q3 : IntsAre dv dl) (q4 : dl.length = 5) (q5 : (∀ x ∈ dl, 0 ≤ x ∧ x < 100000000)) (q6 : ∀ p ∈ rest, p.1 < D) : DrawnR rest r news'
inductive DrawnJ (D sc : Addr) (rest : List (Addr × Obj)) (i : Nat) (m₁ : Str → Option Value) (news₁ : List (Addr × Obj)) : Prop
  | mk (dv : List Value) (dl : List Int) (c : Nat) (q1 : Told m₁ [("drawn", .ref D), ("script", .ref sc)]) (q2 : news₁ = (D, listOf dv.toArray c) :: rest) (q3 : IntsAre dv dl) (q4 : dl.length = i) (q5 : ∀ x ∈ dl, 0 ≤ x ∧ x < 100000000) : DrawnJ D sc rest i m₁ news₁
theorem law_drawn_does (P : Params) {sc : Addr} {sv : List Value} {ns : List Int} {rest : List (Addr × Obj)} (hs : IntsAre sv ns) (hlen : ns.length ≤ 63) :
    DoesB P 5 219 [.ref sc] rest (fun h => h.IsList sc sv.toArray) (fun r news' _ => DrawnR rest r news') := by
  intro w dp un gd cn cs L ad ccd cl outer A₀ base h₀ m mg mb s Q E pp loose mean hb B F X N T hk G hroom hunits hQ
  obtain ⟨h, g, d, tk, os⟩ := s
  refine wpAny_call ?_
  k_dflt cell_enter
  rename_i g' L' h' FG' F' N' B' X' T'
  have hb' : g'.IsList sc sv.toArray := hb.at fun o e => FG'.keep _ o e
  repeat' (first | (k_unfold; (try dsimp only)) | ((fail_if_success (with_reducible show wpAny _ _ (exec (Stmt.For _ _ _ _ _) _) _ _ _)); walk1))
  refine wpAny_For ?_ (by intro _; rfl)
  repeat' (first | (k_unfold; (try dsimp only)) | ((fail_if_success (with_reducible show wpAny _ _ (call (Value.type "enumerate") _) _ _ _)); walk1))
  rename_i D hA lD hB T h6 F2 N2 lT
  have hTu : h6.IsTuple T _ := ⟨_, (N2 _ (.head _)).1, rfl, _, rfl⟩
  refine call_enum_tup hTu fun h7 hE hI hsz hk7 => ?_
  refine wpAny_pyIter_enum hE ?_
  have hszL : L' < h6.objs.size := F2.ns.lt
  have hTlt : T < h6.objs.size := Heap.lt_size (N2 _ (.head _)).1
  refine ktu_loop (KTurns.ofWalksU (WalksT.enumerateD (draws_tup (by rfl) h6.objs.size T (Nat.ne_of_lt hTlt) _) (h6.objs.size + 1) (Nat.succ_ne_self _) ?_ (by simp)).toU) ?_ ?_ ?_ ⟨⟨_, hE⟩, hI, hTu.at fun o e => hk7 _ o e⟩ (F2.keeps hk7) (news_sub (N2.grown hk7) fun p hp => .tail _ hp)
    (fun i m₁ news₁ => DrawnJ D sc rest i m₁ news₁) ?_ ?_ ?_
  · simp only [List.mem_cons, List.not_mem_nil, or_false, not_or]
    exact ⟨Nat.succ_ne_self _, fun e => Nat.lt_irrefl _ (Nat.lt_trans (Nat.lt_succ_self _) (e ▸ hTlt))⟩
  · simp only [List.mem_cons, List.not_mem_nil, or_false, not_or]
    exact ⟨Nat.ne_of_lt (Nat.lt_succ_of_lt hszL), Nat.ne_of_lt hszL, Ne.symm (N2 _ (.head _)).2.1⟩
  · intro b hb
    have hbn : h6.objs.size ≤ b := by
      rcases List.mem_cons.mp hb with rfl | hb
      · exact Nat.le_succ _
      · rw [List.mem_singleton.mp hb]; exact Nat.le_refl _
    exact ktu_new F2 hbn
  · intro p hp hm
    have hlt := Heap.lt_size (N2 p (.tail _ hp)).1
    rcases List.mem_cons.mp hm with e | hm
    · exact Nat.lt_irrefl _ (Nat.lt_trans (Nat.lt_succ_self _) (e ▸ hlt))
    · exact Nat.lt_irrefl _ ((List.mem_singleton.mp hm) ▸ hlt)
  · exact ⟨[], [], 0, ⟨rfl, rfl, trivial⟩, rfl, .nil, rfl, fun x hx => (nomatch hx)⟩
  · rintro i v m₁ news₁ h₁ tk₁ own hi ⟨T1, vals, rfl, ⟨t1, x1, hx1, rfl⟩, hT1⟩ ⟨dv, dl, c, told, rfl, hdv, hdl, hb⟩ hoff hown hget hall hst1 F3 N3
    rw [← over_eq told] at F3
    (try k_unmd); (try k_fold)
    repeat' (first | (k_unfold; (try dsimp only)) | ((fail_if_success (with_reducible show wpAny _ _ (eval (Expr.ListComp _ _ _ _) _) _ _ _)); walk1))
    obtain ⟨bv, tb, rfl, hbv0, hbv1⟩ := base_item hx1
    have hi5 : i < 5 := hi
    rename Fr _ _ _ _ => F4
    rename News _ _ _ _ => N4
    have N5 := news_sub (news := (D, listOf dv.toArray c) :: (own ++ rest)) N4 fun p hp => swp [] [(D, listOf dv.toArray c)] own hp
    clear N4
    have hoD := hoff (D, listOf dv.toArray c) (.head _)
    have hD : ∀ p ∈ own ++ rest, p.1 ≠ D := fun p hp => by
      rcases List.mem_append.mp hp with hp | hp
      · intro e
        have h3 := hown p hp
        rw [e] at h3
        simp only [List.mem_cons, List.not_mem_nil, or_false, not_or] at h3 hoD
        rcases h3 with h3 | h3 | h3
        · exact hoD.1 h3
        · exact hoD.2 h3
        · exact Nat.ne_of_lt (ltN lT.1) h3
      · exact Nat.ne_of_lt (lD p hp)
    clear hown hget hall hst1
    generalize hbig : own ++ rest = big at N5 hD
    repeat' (first | (k_unfold; (try dsimp only)) | ((fail_if_success (with_reducible show wpAny _ _ (getItem _ _) _ _ _)); walk1))
    rename Fr _ _ _ _ => F6
    rename News _ _ _ _ => N6
    dsimp only at F6 N6 ⊢
    obtain ⟨xs, hxs, hxl⟩ := pick5 hs i
    rw [show slicePick sv.toArray (some (i : Int)) (some 60) (some 5) = (slicePick sv.toArray (some (i : Int)) (some 60) (some 5)).toList.toArray from rfl] at N6
    generalize (slicePick sv.toArray (some (i : Int)) (some 60) (some 5)).toList = vs at N6 hxs
    have hl6 := news_list N6 (.head _)
    repeat' (first | (k_unfold; (try dsimp only)) | ((fail_if_success (with_reducible show wpAny _ _ (call (Value.builtin "sum") _) _ _ _)); walk1))
    rename CarriedAll _ _ => hca
    have hys := CarriedAll.intsOf hca
    obtain ⟨z1, z2⟩ := sum_mod xs
    generalize hzs : (xs.filter fun _ => true).map (fun a => a.fmod (10 ^ Int.toNat 6)) = zs at *
    repeat' (first | (k_unfold; (try dsimp only)) | ((fail_if_success (with_reducible show wpAny _ _ (call (Value.builtin "list.append") _) _ _ _)); walk1))
    rename Fr _ _ _ _ => F7
    rename News _ _ _ _ => N7
    have hDR : ∀ p ∈ (D, listOf dv.toArray c) :: big, p.1 < _ := fun p hp => Heap.lt_size (N5 p hp).1
    refine append_K F7 N7 (.tail (Ne.symm (Nat.ne_of_lt (Nat.lt_succ_of_lt (hDR _ (.head _))))) (.head fun p hp => hD p hp)) ?_ (by rw [List.size_toArray, hdv.length, hdl, sizeLine_eq]; lia)
    have ePush : ∀ v : Value, dv.toArray.push v = (dv ++ [v]).toArray := fun v => by simp
    rw [ePush]
    intro h8 F8 N8
    clear F7 N7
    generalize hvv : Value.int (bv + zs.sum) _ = vv at N8
    have hdv2 : IntsAre (dv ++ [vv]) (dl ++ [bv + zs.sum]) := hvv ▸ intsAre_snoc hdv
    k_steps
    refine ⟨rfl, h8, _, _, (D, listOf (dv ++ [vv]).toArray (c + 1)) :: rest, rfl, F8, news_sub N8 fun p hp => ?_, fun p hp => ?_, dv ++ [vv], dl ++ [bv + zs.sum], c + 1, ⟨rfl, rfl, trivial⟩, rfl, hdv2, by rw [List.length_append, hdl]; rfl, fun x hx => ?_⟩
    · rw [← hbig]
      exact .tail _ (swp [] own [(D, listOf (dv ++ [vv]).toArray (c + 1))] hp)
    · rcases List.mem_cons.mp hp with rfl | hp
      · exact hoD
      · exact hoff p (.tail _ hp)
    · rcases List.mem_append.mp hx with hx | hx
      · exact hb x hx
      · rw [List.mem_singleton.mp hx]
        lia
  · rintro h8 tk8 m8 news8 F8 N8 hoff8 ⟨dv, dl, c, told, rfl, hdv, hdl, hb⟩
    rw [← over_eq told] at F8
    k_steps
    rename_i F9 N9 T9 X9
    exact hQ _ _ _ ⟨D, dv, dl, c, rfl, rfl, hdv, hdl, hb, lD⟩ F9 N9 G rfl
end
section
open PySem PySem.W PySem.Calls PyProof.Rows
set_option hygiene false in
local macro_rules | `(tactic| walk_at "getMethod ref") => `(tactic| ((first | refine' gm_pop ?k1 ?k2 ?k3 ?k4 ?k5 ?k6 ?_ | refine' gm_part_count ?k1 ?k2 ?k3 ?k4 ?k5 ?k6 ?_); walk_at "gm tail"))
-- what is popped, joined
def popText (B : List Part) : Str := Txt.join "" (B.map (·.p)).reverse
inductive PopJ (P : Params) (g' : Heap) (L' : Addr) (a : AS) (rest : List (Addr × Obj)) (os : OsState) (nn : Nat) (s : Shared) : Prop
  | mk (h1 : Heap) (g1 : Array GenState) (d1 : Drawn) (tk1 : Nat) (m1 : Str → Option Value) (A B : List Part) (c : Nat) (t : Tok) (q1 : s = ⟨h1, g1, d1, tk1, os⟩) (q2 : Fr g' L' h1 m1) (q3 : News g' L' h1 (({ a with parts := A, cap := c } : AS).led rest)) (q4 : AllBare g1) (q5 : Told m1 [("page", .ref a.x), ("text", .str (popText B) t)]) (q6 : a.parts = A ++ B) (q7 : nn = A.length) : PopJ P g' L' a rest os nn s
theorem popText_cons (q : Part) (B : List Part) : popText (q :: B) = popText B ++ q.p := by
  unfold popText
  apply cds_ext
  rw [cds_append, cds_join0, cds_join0]
  simp
theorem popText_len : ∀ B : List Part, ((popText B).length : Int) ≤ plen B
  | [] => by decide +kernel
  | q :: B => by
    have h := popText_len B
    rw [popText_cons, Str.length_append]
    simp only [plen, List.map_cons, List.sum_cons] at *
    push_cast
    lia
theorem AS.Ok.pre {P : Params} {a : AS} {rest : List (Addr × Obj)} (O : a.Ok P rest) (A Bl : List Part) (e : a.parts = A ++ Bl) (c : Nat) : ({ a with parts := A, cap := c } : AS).Ok P rest :=
  { O with
    mem := fun q hq => O.mem q (by rw [e]; exact List.mem_append.mpr (.inl hq))
    small := by
      have h1 := O.small
      have h2 := plen_nonneg Bl
      rw [e, plen_append] at h1
      show a.n + plen A < 1000
      lia
    few := by
      have h1 := O.few
      rw [e, List.length_append] at h1
      show A.length < 1000
      lia }
inductive PopR (a : AS) (rest : List (Addr × Obj)) (r : Value) (news' : List (Addr × Obj)) : Prop
  | mk (t : Tok) (c : Nat) (q1 : r = .str (popText a.parts) t) (q2 : news' = ({ a with parts := [], cap := c } : AS).led rest) : PopR a rest r news'
theorem popped_does (P : Params) {a : AS} {rest : List (Addr × Obj)} (O : a.Ok P rest) :
    Does P 8 245 [.ref a.x] (a.led rest) (fun r news' _ => PopR a rest r news') := by
  intro w dp un gd cn cs L ad ccd cl outer A₀ base h₀ m mg mb s Q E pp loose mean B F X N T hk G hroom hunits hQ
  obtain ⟨h, g, d, tk, os⟩ := s
  refine wpAny_call ?_
  k_dflt cell_enter
  rename_i g' L' h' FG' F' N' B' X' T'
  repeat' (first | (k_unfold; (try dsimp only)) | ((fail_if_success (with_reducible show wpAny _ _ (exec (Stmt.While _ _ _ _) _) _ _ _)); walk1))
  rename Fr _ _ _ _ => F2
  rename News _ _ _ _ => N2
  refine while_any (PopJ P g' L' a rest os) a.parts.length ⟨_, _, _, _, _, a.parts, [], a.cap, _, rfl, F2, N2, G, ⟨rfl, rfl, trivial⟩, by simp, rfl⟩ ?_
  rintro nn s₁ E2 ⟨h1, g1, d1, tk1, m1, A, Bl, c, t, rfl, F6, N6, G6, told, e, rfl⟩
  rw [← over_eq told] at F6
  clear F2 N2
  have O1 : ({ a with parts := A, cap := c } : AS).Ok P rest := O.pre A Bl e c
  repeat' (first | (k_unfold; (try dsimp only)) | ((fail_if_success (with_reducible show wpAny _ _ (call (Value.ref _) _) _ _ _)); walk1))
  refine part_count_does P O1 B' (by assumption) X' (by assumption) T' (by rfl) G6 (by show dp + 1 + 3 < recursionLimit; lia) (by show un + 3 + 20 * 3 < cLine; lia) ?_
  rintro r news' s' ⟨t7, rfl, rfl⟩ F7 N7 G7 o7
  obtain ⟨h7, g7, d7, tk7, os7⟩ := s'
  iterate 3 (walk1)
  have hsm := O.small
  have hn0 := O.n0
  rw [e, plen_append] at hsm
  have hpl := popText_len Bl
  have hpA := plen_nonneg A
  rcases List.eq_nil_or_concat A with rfl | ⟨A', q, rfl⟩
  · dsimp only
    rw [if_neg (show ¬ decide ((0 : Int) < (([] : List Part).length : Nat)) = true from by decide)]
    k_steps
    rename_i F9 N9 T9 X9
    rw [List.nil_append] at e
    refine hQ _ _ _ ⟨t, c, by rw [e], rfl⟩ F9 N9 G7 o7
  · rw [List.concat_eq_append] at *
    rw [if_pos (decide_eq_true (by simp))]
    have hqm := O1.mem q (by simp)
    have hpq := plen_mem (parts := A' ++ [q]) (q := q) (by simp)
    have hpB := plen_nonneg Bl
    repeat' (first | (k_unfold; (try dsimp only)) | ((fail_if_success (with_reducible show wpAny _ _ (call (Value.ref _) _) _ _ _)); walk1))
    refine pop_does P O1 A' q rfl B' (by assumption) X' (by assumption) T' (by rfl) G7 (by show dp + 1 + 6 < recursionLimit; lia) (by show un + 3 + 20 * 6 < cLine; lia) ?_
    rintro r news' s' ⟨rfl, rfl⟩ F8 N8 G8 o8
    obtain ⟨h8, g8, d8, tk8, os8⟩ := s'
    have N8' := news_sub (news := (q.T, q.obj) :: _) N8 fun p hp => (List.mem_cons.mp hp).elim (fun h => h ▸ .tail _ (.tail _ (.tail _ (.tail _ hqm)))) fun h => h
    clear N8
    k_steps
    rename Fr _ _ _ _ => F9
    rename News _ _ _ _ => N9
    have ho : os8 = os := o8.trans o7
    subst ho
    exact NextAt.intro (m := A'.length) (by simp) ⟨_, _, _, _, _, A', q :: Bl, c + 1, _, rfl, F9, news_sub N9 fun p hp => .tail _ hp, G8, ⟨rfl, by rw [popText_cons]; rfl, trivial⟩, by rw [e]; simp, rfl⟩
end
section
open PySem PySem.W PySem.Calls PyProof.Rows
abbrev rvals (rl : List Row) : List Value := rl.map fun q => Value.ref q.a
theorem due_value {T u v : Nat} (h1 : 2 * u < T) (h2 : T ≤ 2 * v) (h3 : v ≤ T) : (2 : Int) * ((T : Int) - if (T : Int) - 2 * u < 2 * v - T then (T : Int) - 2 * u else 2 * v - T) = 4 * max ((T : Int) - v) u := by
  split <;> lia
inductive DueR (rl : List Row) (news : List (Addr × Obj)) (r : Value) (news' : List (Addr × Obj)) : Prop
  | mk (k : Nat) (t : Tok) (q1 : r = .int (4 * max ((cum (rl.map Row.txt) rl.length : Int) - cum (rl.map Row.txt) k) (cum (rl.map Row.txt) (k - 1))) t) (q2 : Place (rl.map Row.txt) (cum (rl.map Row.txt) rl.length) k) (q3 : news' = news) : DueR rl news r news'
inductive DueJ (rl : List Row) (S : Addr) (news : List (Addr × Obj)) (i : Nat) (m₁ : Str → Option Value) (news₁ : List (Addr × Obj)) : Prop
  | mk (dv : List Value) (k : Nat) (q1 : Told m₁ [("doubled", .ref S)]) (q2 : news₁ = (S, listOf dv.toArray k) :: news) (q3 : IntsAre dv (dbls (rl.map Row.txt) i)) : DueJ rl S news i m₁ news₁
theorem due_does (P : Params) {D : Addr} {rl : List Row} {c : Nat} {news : List (Addr × Obj)} (hD : (D, listOf (rvals rl).toArray c) ∈ news) (hr : ∀ q ∈ rl, q.ob ∈ news) (hlen : rl.length ≤ 6) (hw : ∀ q ∈ rl, (q.txt.map (·.length)).sum ≤ 15 ∧ q.its.length ≤ 5) (hT : 0 < cum (rl.map Row.txt) rl.length) :
    Does P 8 252 [.ref D] news (fun r news' _ => DueR rl news r news') := by
  intro w dp un gd cn cs L ad ccd cl outer A₀ base h₀ m mg mb s Q E pp loose mean B F X N T hk G hroom hunits hQ
  obtain ⟨h, g, d, tk, os⟩ := s
  refine wpAny_call ?_
  k_dflt cell_enter
  rename_i g' L' h' FG' F' N' B' X' T'
  repeat' (first | (k_unfold; (try dsimp only)) | ((fail_if_success (with_reducible show wpAny _ _ (exec (Stmt.For _ _ _ _ _) _) _ _ _)); walk1))
  refine wpAny_For ?_ (by intro _; rfl)
  walk1
  rename Fr _ _ _ _ => F2
  rename News _ _ _ _ => N2
  rename_i S _ lS _
  have hrl : ∀ i : Nat, (rvals rl)[i]? = (rl[i]?).map (fun q : Row => Value.ref q.a) := fun i => List.getElem?_map
  refine for_list (l := D) (its := rvals rl) (c := c) (fun i m₁ news₁ => DueJ rl S news i m₁ news₁) F2 N2 G ⟨_, _, ⟨rfl, trivial⟩, rfl, .cons _ _ .nil⟩ ?_ ?_ ?_
  · rintro i m₁ news₁ ⟨dv, k, told, rfl, hdv⟩
    exact .tail _ hD
  · rintro I i v o m₁ news₁ h₂ g₂ d₂ tk₂ E' hv hc ⟨dv, k, told, rfl, hdv⟩ hI hIn F3 N3 G3
    obtain ⟨q, hq, rfl⟩ : ∃ q, rl[i]? = some q ∧ v = .ref q.a := by
      rw [hrl, Option.map_eq_some_iff] at hv
      obtain ⟨q, hq, rfl⟩ := hv
      exact ⟨q, hq, rfl⟩
    have hqm := List.mem_of_getElem? hq
    have hi6 : i < 6 := Nat.lt_of_lt_of_le (List.getElem?_eq_some_iff.mp hq).1 hlen
    obtain ⟨w1, w2⟩ := hw q hqm
    try dsimp only at F3 N3
    rw [← over_eq told] at F3
    (try k_unmd); (try k_fold)
    have hls := news_list N3 (.tail _ (.head _))
    have hrow := news_list N3 (.tail _ (.tail _ (hr q hqm)))
    clear F2 N2
    have hdl : (dbls (rl.map Row.txt) i).length = i + 1 := dbls_len _ _
    have hjl : (Txt.join "" q.txt).length ≤ 15 := by
      have h1 := StrLaws.join_length_le "" q.txt
      have h3 : ("" : Str).length = 0 := rfl
      rw [h3, Nat.mul_zero] at h1
      rw [txt_join]
      lia
    repeat' (first | (k_unfold; (try dsimp only)) | ((fail_if_success (with_reducible show wpAny _ _ (subscriptTail _ _ _ _) _ _ _)); walk1))
    refine' item_list_ints_neg (k := -1) hls hdv ?k0 ?k1 ?k2 ?_
    case k0 => decide
    case k1 => rw [hdl]; lia
    case k2 => decide
    intro tL
    repeat' (first | (k_unfold; (try dsimp only)) | ((fail_if_success (with_reducible show wpAny _ _ (call (Value.builtin "str.join") _) _ _ _)); walk1))
    refine SC.join (l := q.its) hrow (show q.its.map (·.1) = q.txt from rfl) (joinOk_of_weight (Nat.le_trans (Nat.add_le_add w1 (by rw [List.length_map]; exact w2)) (by decide)) (by decide)) ?_
    intro t6 k6
    repeat' (first | (k_unfold; (try dsimp only)) | ((fail_if_success (with_reducible show wpAny _ _ (call (Value.builtin "list.append") _) _ _ _)); walk1))
    rename Fr _ _ _ _ => F4
    rename News _ _ _ _ => N4
    have hSI : S ≠ I := hI (S, listOf dv.toArray k) (.head _)
    have hsvl : dv.length = i + 1 := by rw [hdv.length, hdl]
    refine append_K F4 N4 (.tail (p := (I, o)) (Ne.symm hSI) (.head fun p hp => Nat.ne_of_lt (lS p hp))) ?_ (by rw [List.size_toArray, hsvl, sizeLine_eq]; lia)
    have ePush : ∀ v : Value, dv.toArray.push v = (dv ++ [v]).toArray := fun v => by simp
    rw [ePush]
    intro h5 F5 N5
    clear F4 N4 hls
    have hval : (dbls (rl.map Row.txt) i).getD (-1 + ((dbls (rl.map Row.txt) i).length : Int)).toNat 0 + 2 * ((Txt.join "" q.txt).length : Int) = 2 * (cum (rl.map Row.txt) (i + 1) : Int) := by
      rw [hdl, show (-1 + ((i + 1 : Nat) : Int)).toNat = i from by lia, dbls_get _ (Nat.le_refl i), cum_succ (r := q.txt) (by rw [List.getElem?_map, hq]; rfl)]
      unfold rowLen
      push_cast
      lia
    iterate 1 (walk1)
    rename Fr _ _ _ _ => F6
    rename News _ _ _ _ => N6
    refine ForNext.intro F6 N6 (fun p hp => ?_) ⟨_, _, ⟨rfl, trivial⟩, rfl, ?_⟩ G3 rfl
    · rcases List.mem_cons.mp hp with rfl | hp
      · exact hSI
      · exact hI p (.tail _ hp)
    · rw [dbls_succ, ← hval]
      exact intsAre_snoc hdv
  · rintro m₁ news₁ h₂ g₂ d₂ tk₂ ⟨dv, k, told, rfl, hdv⟩ F3 N3 G3
    try dsimp only at F3 N3 ⊢
    rw [← over_eq told] at F3
    (try k_unmd); (try k_fold)
    have hls := news_list N3 (.head _)
    have hln : (rvals rl).length = rl.length := List.length_map _
    rw [hln] at hdv
    have hdl : (dbls (rl.map Row.txt) rl.length).length = rl.length + 1 := dbls_len _ _
    have hmn : (rl.map Row.txt).length = rl.length := List.length_map _
    repeat' (first | (k_unfold; (try dsimp only)) | ((fail_if_success (with_reducible show wpAny _ _ (subscriptTail _ _ _ _) _ _ _)); walk1))
    refine' item_list_ints_neg (k := -1) hls hdv ?k0 ?k1 ?k2 ?_
    case k0 => decide
    case k1 => rw [hdl]; lia
    case k2 => decide
    intro tL
    rw [hdl, show (-1 + ((rl.length + 1 : Nat) : Int)).toNat = rl.length from by lia, dbls_get _ (Nat.le_refl _)]
    repeat' (first | (k_unfold; (try dsimp only)) | ((fail_if_success (with_reducible show wpAny _ _ (call (Value.ref _) _) _ _ _)); walk1))
    rw [show (2 * (cum (rl.map Row.txt) rl.length : Int)).fdiv 2 = (cum (rl.map Row.txt) rl.length : Int) from by rw [Int.fdiv_eq_ediv_of_nonneg _ (by decide)]; lia]
    refine bisect_left_does P (S := S) (vs := dv) (xs := dbls (rl.map Row.txt) rl.length) (n := k) (.head _) hdv _ _ (by lia) (dbls_sorted _ _) B' (by assumption) X' (by assumption) T' (by rfl) G3 (by show dp + 1 + 5 < recursionLimit; lia) (by show un + 3 + 20 * 5 < cLine; lia) ?_
    rintro r news' s' ⟨k7, t7, rfl, rfl, hc1, hc2, hc3⟩ F7 N7 G7 o7
    obtain ⟨h7, g7, d7, tk7, os7⟩ := s'
    have hP : Place (rl.map Row.txt) (cum (rl.map Row.txt) rl.length) k7 := by
      have := place_of (ls := rl.map Row.txt) (k := k7) (by rw [hmn]; exact hT) (by rw [hmn]; exact hc1) (by rw [hmn]; exact hc2) (by rw [hmn]; exact hc3)
      rwa [hmn] at this
    obtain ⟨p1, p2, p3, p4⟩ := hP
    rw [hmn] at p2
    obtain ⟨i1, hi1⟩ := ints_item hdv (i := k7) (by lia)
    obtain ⟨i2, hi2⟩ := ints_item hdv (i := k7 - 1) (by lia)
    rw [dbls_get _ p2] at hi1
    rw [dbls_get _ (by lia)] at hi2
    repeat' (first | (k_unfold; (try dsimp only)) | ((fail_if_success (with_reducible show wpAny _ _ (subscriptTail _ _ _ _) _ _ _)); walk1))
    refine list_item (news_list (by assumption) (.head _)) (by lia) (by lia) (by rw [Int.toNat_natCast]; exact hi1) ?_
    repeat' (first | (k_unfold; (try dsimp only)) | ((fail_if_success (with_reducible show wpAny _ _ (subscriptTail _ _ _ _) _ _ _)); walk1))
    refine list_item (news_list (by assumption) (.head _)) (by lia) (by lia) (by rw [show ((k7 : Int) - 1).toNat = k7 - 1 from by lia]; exact hi2) ?_
    clear hi1 hi2
    k_steps
    rename_i F9 N9 T9 X9
    rw [show (2 * (cum (rl.map Row.txt) rl.length : Int)).fdiv 2 = (cum (rl.map Row.txt) rl.length : Int) from by rw [Int.fdiv_eq_ediv_of_nonneg _ (by decide)]; lia]
    exact hQ _ _ _ ⟨k7, _, congrArg (fun z => Value.int z _) (due_value p3 p4 (cum_mono (rl.map Row.txt) p2)), ⟨p1, by rw [hmn]; exact p2, p3, p4⟩, rfl⟩ F9 (news_sub N9 fun p hp => .tail _ hp) G7 o7
end
section
open PySem PySem.W PySem.Calls PyProof.Rows PyProof.Rows.LCg
def tabHd (K : Frag) (c P : Addr) : Bool := match K.lookup c with
  | some ⟨.type "code", _, .fields vs, _⟩ => (match (vs[11]? : Option Value) with | some (.ref P') => P' == P | _ => false) &&
      (match vs.getD 18 .none with | .str _ _ => true | _ => false) && (match vs.getD 7 .none with | .int _ _ => true | _ => false) &&
      (match vs.getD 9 .none with | .bool _ => true | _ => false) && (match vs.getD 10 .none with | .int _ _ => true | _ => false)
  | _ => false
theorem tabIs_of {K : Frag} {c P : Addr} (e : tabHd K c P = true) (hne : c ≠ P) : TabIs K c P #[] := by
  unfold tabHd at e
  split at e
  · rename_i vs _ hk
    simp only [Bool.and_eq_true] at e
    obtain ⟨⟨⟨⟨e1, e2⟩, e3⟩, e4⟩, e5⟩ := e
    split at e1
    · rename_i P' h11
      have hP : P' = P := beq_iff_eq.mp e1
      subst hP
      split at e2
      · rename_i f tf h18
        split at e3
        · rename_i fl tg h7
          split at e4
          · rename_i b h9
            split at e5
            · rename_i n tt h10
              exact ⟨trivial, hne, _, _, vs, f, tf, fl, tg, b, n, tt, hk, h11, by rw [Array.getD_eq_getD_getElem?, h11]; rfl, h18, h7, h9, h10⟩
            · cases e5
          · cases e4
        · cases e3
      · cases e2
    · cases e1
  · cases e
theorem tab144 (P : Params) : TabIs (hd.heap_39 P) 144 140 #[] := tabIs_of (by kernel_rfl) (by decide)
theorem tab151 (P : Params) : TabIs (hd.heap_39 P) 151 147 #[] := tabIs_of (by kernel_rfl) (by decide)
theorem ints_pairs : ∀ {vs : List Value} {xs : List Int}, IntsAre vs xs → ∃ ds : List (Int × Tok), vs = (ds.map fun p => Value.int p.1 p.2) ∧ ds.map (·.1) = xs
  | _, _, .nil => ⟨[], rfl, rfl⟩
  | _, _, .cons i t r => by
    obtain ⟨ds, rfl, rfl⟩ := ints_pairs r
    exact ⟨(i, t) :: ds, rfl, rfl⟩
-- a list of texts as data
theorem reads_strs {h : Heap} : ∀ l : List (Str × Tok), ReadsAll h (strsV l) ((l.map (·.1)).map PyData.str) []
  | [] => .nil
  | p :: l => readsAll_cons_val (.str _ _) (reads_strs l)
theorem strs_lay : ∀ l : List Str, (∀ x ∈ l, PyData.strOk x = true) → PyData.canLayAll0 (l.map PyData.str) = true
  | [], _ => rfl
  | x :: l, h => by
    show (PyData.strOk x && PyData.canLayAll0 (l.map PyData.str)) = true
    rw [h x (.head _), strs_lay l fun y hy => h y (.tail _ hy)]
    rfl
theorem strs_depth : ∀ l : List Str, PyData.depthAll (l.map PyData.str) ≤ 1
  | [] => by decide
  | x :: l => by
    have := strs_depth l
    simp only [List.map_cons, PyData.depthAll, PyData.depth]
    lia
theorem strs_shaped (l : List Str) (h : ∀ x ∈ l, PyData.strOk x = true) : PySem.SeqAt.shaped (.list (l.map PyData.str)) = true := by
  unfold PySem.SeqAt.shaped
  rw [Bool.and_eq_true]
  refine ⟨strs_lay l h, decide_eq_true ?_⟩
  have := strs_depth l
  simp only [PyData.depth]
  lia
-- two lists of the same texts
theorem strs_ne {prog : Program} {w : World} {A : Around} {E : Value → Shared → Prop} {s : Shared} {h₀ : Heap} {L a b : Addr} {l r : List (Str × Tok)} {n k : Nat} {news : List (Addr × Obj)} {Q : Value → Shared → Prop} (N : News h₀ L s.heap news)
    (ha : (a, listOf (strsV l).toArray n) ∈ news) (hb : (b, listOf (strsV r).toArray k) ∈ news) (e : l.map (·.1) = r.map (·.1)) (hok : ∀ x ∈ l.map (·.1), PyData.strOk x = true) (hu : A.units + 64 < cLine) (h : Q (.bool false) s) :
    wpAny (model prog w) A (compareOp .NotEq (.ref a) (.ref b)) Q E s := by
  have sh := strs_shaped _ hok
  refine ne_dataH (da := .list ((l.map (·.1)).map PyData.str)) (db := .list ((l.map (·.1)).map PyData.str)) (reads_list_at (N _ ha).1 rfl rfl (reads_strs l)) (reads_list_at (N _ hb).1 rfl rfl (by rw [e]; exact reads_strs r)) sh sh hu ?_
  rw [SeqAt.eqv_refl _ (SeqAt.canLay_of_shaped sh)]
  exact h
-- the turns of a comprehension over a list, by what holds between them
theorem comp_J {prog : Program} {w : World} {A : Around} {h₀ : Heap} {L : Addr} {m : Str → Option Value} {env : Env} {elt : Expr} {x : Str} {scope : Scope} {cl : List (Str × Addr)} {s : Shared} {S : List (Addr × Obj) → Prop} {P : Nat → Value → Prop} {Fin : List Value → List (Addr × Obj) → Prop} {n : Nat}
    (J : Nat → List Value → List (Addr × Obj) → Prop)
    (turn : ∀ i v ys news I oI C oC D m₂ h tk (E' : Value → Shared → Prop), i < n → P i v → J i ys news → NsObj oC m₂ → m₂ x = some v → Fr h₀ L h m → News h₀ L h ((I, oI) :: (C, oC) :: (D, lst ys) :: news) → Off3 I C D news → ((@Ne Nat I C) ∧ (@Ne Nat I D) ∧ (@Ne Nat C D)) →
      wpAny (model prog w) A (eval elt (compEnvC scope cl C env)) (CompEnd h₀ L m { s with heap := h, toks := tk } I oI C oC D (lst ys) S (fun y news' => J (i + 1) (ys ++ [y]) news')) E' { s with heap := h, toks := tk })
    (fin : ∀ ys news, J n ys news → Fin ys news) : ∀ k i ys news, i + k = n → J i ys news → CompRest prog w A h₀ L m env elt x scope cl s S P Fin k i ys news
  | 0, i, ys, news, hi, j => by
    have : i = n := by lia
    subst this
    exact fin ys news j
  | k + 1, i, ys, news, hi, j => by
    refine CompRest.succ fun v I oI C oC D m₂ h tk E' hv hC hx F N off ne => ?_
    refine wpAny_mono (turn i v ys news I oI C oC D m₂ h tk E' (by lia) hv j hC hx F N off ne) (fun y s₂ hq => ?_) fun _ _ e => e
    obtain ⟨h', tk', nw, e, F', N', off', hS, j'⟩ := hq
    exact ⟨h', tk', nw, e, F', N', off', hS, comp_J J turn fin k (i + 1) _ nw (by lia) j'⟩
-- the law's end: it gave True back, and nothing of the base is changed but the two tables
def LawEnd (h₀ : Heap) (os : OsState) (tabs : List (Addr × Addr)) (r : Result) (s' : Shared) : Prop :=
  r = .ok (.ret (.bool true)) ∧ (∀ b o, h₀.get? b = some o → s'.heap.get? b = some o) ∧ s'.os = os ∧ AllBare s'.gens ∧ GrownAll tabs s'.heap
theorem law_post {M : Model} {A : Around} {cd : Code} {s s₁ : Shared} {cl : Str → Option Addr} {mean : ExcName → Option Value} {args : List WData} {tabs : List (Addr × Addr)} (hT : TabsAt tabs s₁.heap)
    (h : codeAny M A cd (LawEnd (ghostOf s₁.heap tabs) s₁.os tabs) s) : codeAny M A cd (GoodWG PySem.Challenge.rw_re0158_01.row.claim cl mean args s₁) s :=
  codeAny_mono h fun r s' ⟨hr, hk, hos, hg, hgr⟩ => by
    subst hr
    refine ⟨.inl ⟨.bool true, .bool true, [], rfl, fun _ => rfl, .bool true, ?_, fun _ => ⟨.nil, fun a ha => nomatch ha⟩⟩, ⟨fun b o e => ?_, fun b o e => ?_⟩, hos, hg⟩
    · exact postW_of (X := true) rfl (w_eq_bool (k := true) (l := true) (w_res rfl) w_lit) rfl
    all_goals by_cases hb : b ∈ tabs.map (·.2)
    · obtain ⟨q, hq, rfl⟩ := List.mem_map.mp hb
      have e2 := (hT q hq).2
      rw [e] at e2
      obtain ⟨ps, hP⟩ := hgr.get q hq
      rw [Option.some.inj e2]
      exact .inr (.inl ⟨((hT q hq).1.tab (hT q hq).2).isCodeTable, rfl, #[], ps, rfl, by rw [Array.empty_append]; exact hP⟩)
    · exact .inl (hk b o (ghost_ne e hb))
    · obtain ⟨q, hq, rfl⟩ := List.mem_map.mp hb
      obtain ⟨ps, hP⟩ := hgr.get q hq
      exact ⟨_, hP⟩
    · exact ⟨o, hk b o (ghost_ne e hb)⟩
theorem news_as {h₀ h : Heap} {L : Addr} {news : List (Addr × Obj)} (N : News h₀ L h news) : ∃ n, n = news ∧ News h₀ L h n := ⟨news, rfl, N⟩
section
variable {h₀ h : Heap} {L : Addr} {old l : List (Addr × Obj)}
theorem not_tab (N : News h₀ L h old) {p1 p2 : Array Value} (h1 : (140, tabObj p1) ∈ old) (h2 : (147, tabObj p2) ∈ old) {a : Addr} {its : Array Value} {n : Nat} (hm : (a, listOf its n) ∈ old) : a ≠ 140 ∧ a ≠ 147 :=
  ⟨news_ne N hm h1 (fun e => nomatch e), news_ne N hm h2 (fun e => nomatch e)⟩
end
theorem mod_4 (e : Int) : 0 ≤ (e.fdiv 3).fmod 4 ∧ (e.fdiv 3).fmod 4 < 4 := ⟨Int.fmod_nonneg_of_pos _ (by decide), Int.fmod_lt_of_pos _ (by decide)⟩
theorem mod_12 (e : Int) : 0 ≤ (e.fdiv 3).fmod 12 ∧ (e.fdiv 3).fmod 12 < 12 := ⟨Int.fmod_nonneg_of_pos _ (by decide), Int.fmod_lt_of_pos _ (by decide)⟩
theorem width_ok (e : Int) : 2 ≤ 2 + (e.fdiv 3).fmod 12 ∧ 2 + (e.fdiv 3).fmod 12 < 14 := by
  have := mod_12 e
  lia
theorem first_ok {e : Int} {T : Nat} {l : List Int} (h : 0 ≤ (e.fdiv 3).fmod 12 ∧ (e.fdiv 3).fmod 12 < 12) (h2 : l.length ≤ T ∧ T ≤ 3 * l.length) (h3 : l.length = 5 := by rfl) : (e.fdiv 3).fmod 12 + T ≤ 26 := by
  rw [h3] at h2
  lia
end
section
open PySem PySem.W PySem.Calls PyProof.Rows PyProof.Rows.LCg
set_option hygiene false in
local macro_rules | `(tactic| walk_at "getMethod ref") => `(tactic| ((first | refine' gm_push ?k1 ?k2 ?k3 ?k4 ?k5 ?k6 ?_); walk_at "gm tail"))
-- what holds at a turn of the loop that fills the page
inductive PageJ (P : Params) (x W Dr D : Addr) (rest : List (Addr × Obj)) (RL : List Row) (i : Nat) (m₁ : Str → Option Value) (news₁ : List (Addr × Obj)) : Prop
  | mk (a : AS) (rest' : List (Addr × Obj)) (q1 : Told m₁ [("page", .ref x), ("words", .ref W), ("rows", .ref Dr), ("drawn", .ref D)]) (q2 : news₁ = a.led rest') (q3 : a.Ok P rest') (q4 : a.x = x) (q5 : a.n = 0) (q6 : (∀ p ∈ rest, p ∈ rest')) (q7 : ptx a.parts = pageOf ((RL.map Row.txt).take i)) : PageJ P x W Dr D rest RL i m₁ news₁
theorem law_holds : PySem.Challenge.rw_re0158_01.Holds := hd (by
  k_fill
  intro w s₀ s₁ mg mb G Y fa o pm cd doc dV kV ho hd hcd hD hmg hg args vals as hpre hlay hrd hwl hlo
  have KX := km_in_of Y
  have hT8 := km_tabs_of Y
  have X := (Ground.X G).1
  have V := (Ground.X G).2
  refine Ground.open G ?_
  intro T B D TE TW
  try (refine guard_noD D (by decide +kernel) ?_; clear D)
  have hT9 : TabsAt ([(144, 140), (151, 147)] : List (Addr × Addr)) _ := List.forall_mem_cons.mpr ⟨⟨codeHd_of_K (c := 144) (P := 140) KX (by kernel_rfl), hT8 140 (by k_mem)⟩, List.forall_mem_cons.mpr ⟨⟨codeHd_of_K (c := 151) (P := 147) KX (by kernel_rfl), hT8 147 (by k_mem)⟩, fun _ h => nomatch h⟩⟩
  obtain ⟨_, _, he, B0⟩ := based_of_top T rfl hmg ho hd
  have he' : cd = _ := he
  subst he'
  clear he
  clear hmg
  wrow_args hpre hlay hrd hwl hlo
  all_goals (
    first | refine callC_kw (enter_call ?_) | refine enter_call ?_
    w_top on
    refine law_post hT9 ?_
    w_call any ho hd hcd hD T F
    clear hd
    kn_ghosts F T
    k_drop
    skip)
  (try k_unmd)
  k_fold
  rename Fr _ _ _ _ => F1
  rename News _ _ _ _ => N1
  rename Top _ _ _ _ _ _ => T1
  rename Below _ _ _ _ => B1
  rename (hd.heap_39 _).In _ => X1
  rename IntsAre _ _ => hI
  rename (140 < _ ∧ 147 < _) => l0
  rename (¬ _ < _) => h63
  repeat' (first | (k_unfold; (try dsimp only)) | ((fail_if_success (with_reducible show wpAny _ _ (call (Value.ref _) _) _ _ _)); walk1))
  have G0 : AllBare s₁.gens := by rw [hg]; intro i h; simp at h
  refine law_drawn_does w.params hI (by lia) (by assumption) B1 F1 X1 N1 T1 (by rfl) G0 (by decide) (by decide) ?_
  clear F1 N1
  rintro r news' s' ⟨D, dv, dl, cD, rfl, rfl, hdv, hdl, hdb, hltD⟩ F1 N1 G1 o1
  obtain ⟨h1, g1, d1, tk1, os1⟩ := s'
  obtain ⟨ds, rfl, rfl⟩ := ints_pairs hdv
  rw [List.length_map] at hdl
  obtain ⟨⟨e0, t0⟩, ⟨e1, t1⟩, ⟨e2, t2⟩, ⟨e3, t3⟩, ⟨e4, t4⟩, rfl⟩ : ∃ a b c d e, ds = [a, b, c, d, e] := by
    match ds, hdl with
    | [a, b, c, d, e], _ => exact ⟨a, b, c, d, e, rfl⟩
  have hb5 : ∀ p ∈ [(e0, t0), (e1, t1), (e2, t2), (e3, t3), (e4, t4)], 0 ≤ p.1 ∧ p.1 < 100000000 := fun p hp => hdb p.1 (List.mem_map_of_mem hp)
  repeat' (first | (k_unfold; (try dsimp only)) | ((fail_if_success (with_reducible show wpAny _ _ (call (Value.ref _) _) _ _ _)); walk1))
  refine law_words_does w.params (n := cD) (d2 := e2) (t2 := t2) (rest := [(140, tabObj #[]), (147, tabObj #[])]) rfl rfl hb5 B1 (by assumption) X1 (by assumption) T1 (by rfl) G1 (by decide) (by decide) ?_
  rintro r news' s' ⟨W, wl, cW, rfl, hltW, rfl, hwl⟩ F1 N1 G2 o2
  obtain ⟨h2, g2, d2, tk2, os2⟩ := s'
  dsimp only [List.map] at F1 N1 hltW hwl
  have hb0 := hb5 (e0, t0) (.head _)
  have hb1 := hb5 (e1, t1) (.tail _ (.head _))
  have hb2 := hb5 (e2, t2) (.tail _ (.tail _ (.head _)))
  have hb3 := hb5 (e3, t3) (.tail _ (.tail _ (.tail _ (.head _))))
  have hb4 := hb5 (e4, t4) (.tail _ (.tail _ (.tail _ (.tail _ (.head _)))))
  dsimp only at hb0 hb1 hb2 hb3 hb4
  have m0 := mod_4 e0
  have m1 := width_ok e1
  have m2 := mod_12 e2
  have hpos : ∀ d ∈ [e0, e1, e2, e3, e4], 0 ≤ d := List.forall_mem_cons.mpr ⟨hb0.1, List.forall_mem_cons.mpr ⟨hb1.1, List.forall_mem_cons.mpr ⟨hb2.1, List.forall_mem_cons.mpr ⟨hb3.1, List.forall_mem_cons.mpr ⟨hb4.1, List.forall_mem_nil _⟩⟩⟩⟩⟩
  have hwlen := wlen_le [e0, e1, e2, e3, e4] hpos
  have hwo := words_ok [e0, e1, e2, e3, e4] ((e2.fdiv 3).fmod 12) m2.1 (first_ok m2 hwlen) hpos
  obtain ⟨hw5, hwk, hwc⟩ := hwo
  rw [← hwl] at hw5 hwk hwc
  rw [List.length_map] at hw5
  have hwk' : ∀ p ∈ wl, WordOk p.1 := fun p hp => hwk _ (List.mem_map_of_mem hp)
  generalize wlen [e0, e1, e2, e3, e4] = T at hwlen hwc
  simp only [List.length_cons, List.length_nil] at hwlen hw5
  repeat' (first | (k_unfold; (try dsimp only)) | ((fail_if_success (with_reducible show wpAny _ _ (call (Value.ref _) _) _ _ _)); walk1))
  rename Fr _ _ _ _ => Fo
  rename News _ _ _ _ => No
  refine law_rows_does w.params (2 + (e1.fdiv 3).fmod 12) ((e0.fdiv 3).fmod 4) _ _ m0 m1 hw5 hwk' B1 Fo X1 No T1 (by rfl) G2 (by decide) (by decide) ?_
  rintro r news' s' ⟨Dr, rr, es, cr, rfl, hE, htx, rfl⟩ F3 N3 G3 o3
  obtain ⟨h3, g3, d3, tk3, os3⟩ := s'
  clear Fo No
  have N3' := nc N3 (p := (Dr, listOf ((rr.map fun q => Value.ref q.a).reverse).toArray cr)) (.head _) (nc N3 (p := (W, listOf (strsV wl).toArray cW)) (.tail _ (List.mem_append_right _ (.head _))) (nc N3 (p := (D, listOf #[Value.int e0 t0, Value.int e1 t1, Value.int e2 t2, Value.int e3 t3, Value.int e4 t4] cD)) (.tail _ (List.mem_append_right _ (.tail _ (.head _)))) (nc N3 (p := (140, tabObj #[])) (.tail _ (List.mem_append_right _ (.tail _ (.tail _ (.head _))))) (nc N3 (p := (147, tabObj #[])) (.tail _ (List.mem_append_right _ (.tail _ (.tail _ (.tail _ (.head _)))))) (news_sub (news := rr.map Row.ob) N3 fun p hp => .tail _ (List.mem_append_left _ hp))))))
  clear N3
  have t140 : (140, tabObj #[]) ∈ (Dr, listOf ((rr.map fun q => Value.ref q.a).reverse).toArray cr) :: (W, listOf (strsV wl).toArray cW) :: (D, listOf #[Value.int e0 t0, Value.int e1 t1, Value.int e2 t2, Value.int e3 t3, Value.int e4 t4] cD) :: (140, tabObj #[]) :: (147, tabObj #[]) :: rr.map Row.ob := .tail _ (.tail _ (.tail _ (.head _)))
  have t147 : (147, tabObj #[]) ∈ (Dr, listOf ((rr.map fun q => Value.ref q.a).reverse).toArray cr) :: (W, listOf (strsV wl).toArray cW) :: (D, listOf #[Value.int e0 t0, Value.int e1 t1, Value.int e2 t2, Value.int e3 t3, Value.int e4 t4] cD) :: (140, tabObj #[]) :: (147, tabObj #[]) :: rr.map Row.ob := .tail _ (.tail _ (.tail _ (.tail _ (.head _))))
  have q0 : ∀ p ∈ (W, listOf (strsV wl).toArray cW) :: (D, listOf #[Value.int e0 t0, Value.int e1 t1, Value.int e2 t2, Value.int e3 t3, Value.int e4 t4] cD) :: (Dr, listOf ((rr.map fun q => Value.ref q.a).reverse).toArray cr) :: rr.map Row.ob, p.1 ≠ 140 ∧ p.1 ≠ 147 :=
    List.forall_mem_cons.mpr ⟨not_tab N3' t140 t147 (.tail _ (.head _)), List.forall_mem_cons.mpr ⟨not_tab N3' t140 t147 (.tail _ (.tail _ (.head _))), List.forall_mem_cons.mpr ⟨not_tab N3' t140 t147 (.head _), fun p hp => by
      obtain ⟨q, hq, rfl⟩ := List.mem_map.mp hp
      exact not_tab N3' t140 t147 (.tail _ (.tail _ (.tail _ (.tail _ (.tail _ hp)))))⟩⟩⟩
  repeat' (first | (k_unfold; (try dsimp only)) | ((fail_if_success (with_reducible show wpAny _ _ (call (Value.ref _) _) _ _ _)); walk1))
  rename Fr _ _ _ _ => Fo
  rename News _ _ _ _ => No
  refine law_folded_does w.params (ps := #[]) (ps' := #[]) (W := W) (wl := wl) (c := cW) (rest := (D, listOf #[Value.int e0 t0, Value.int e1 t1, Value.int e2 t2, Value.int e3 t3, Value.int e4 t4] cD) :: (Dr, listOf ((rr.map fun q => Value.ref q.a).reverse).toArray cr) :: rr.map Row.ob) (2 + (e1.fdiv 3).fmod 12) ((e0.fdiv 3).fmod 4) _ _ (tab144 _) (tab151 _) q0 m0 hw5 hwk' B1 Fo X1 (nc No (.tail _ (.tail _ (.tail _ (.head _)))) (nc No (.tail _ (.tail _ (.tail _ (.tail _ (.head _))))) (nc No (.tail _ (.head _)) (nc No (.tail _ (.tail _ (.head _))) (nc No (.head _) (news_sub No fun p hp => .tail _ (.tail _ (.tail _ (.tail _ (.tail _ hp))))))))))  T1 (by rfl) G3 (by decide) (by decide) ?_
  rintro r news' s' ⟨Dl, ll, cl, qs, qs', rfl, hll, hq1, hq2, hltl, hl140, hl147, rfl⟩ F4 N4 G4 o4
  obtain ⟨h4, g4, d4, tk4, os4⟩ := s'
  clear Fo No
  repeat' (first | (k_unfold; (try dsimp only)) | ((fail_if_success (with_reducible show wpAny _ _ (eval (Expr.ListComp _ _ _ _) _) _ _ _)); walk1))
  have hls : (rr.map fun q => Value.ref q.a).reverse = rvals rr.reverse := List.map_reverse.symm
  have hob : ∀ q ∈ rr.reverse, q.ob ∈ rr.map Row.ob := fun q hq => List.mem_map_of_mem (List.mem_reverse.mp hq)
  have htx2 : rr.reverse.map Row.txt = slices (wl.map (·.1)) 0 es := by rw [List.map_reverse]; exact htx
  have hRO := rows_ok hE ((List.length_map _).trans hw5) hwk
  have hRf : rr.reverse.length ≤ 6 := by
    have := hRO.few
    rw [← htx2, List.length_map] at this
    exact this
  generalize hRL : rr.reverse = RL at *
  rename Fr _ _ _ _ => Fo
  rename News _ _ _ _ => No
  rw [hls] at No q0
  refine ListComp_U (F₀ := Fo) (by rfl) (by decide) (by rfl) (by decide) (by rfl) ?_
  walk1
  refine CompSrc.ledger (by rfl) Fo No (k := cr) (.tail _ (.tail _ (.tail _ (.tail _ (.tail _ (.head _)))))) ?_ ?_
  · rw [List.size_toArray, List.length_map, sizeLine_eq]
    lia
  intro gh
  generalize hbase : (Dl, listOf (strsV ll).toArray cl) :: (140, tabObj qs) :: (147, tabObj qs') :: (W, listOf (strsV wl).toArray cW) :: (D, listOf #[Value.int e0 t0, Value.int e1 t1, Value.int e2 t2, Value.int e3 t3, Value.int e4 t4] cD) :: (Dr, listOf (rvals RL).toArray cr) :: rr.map Row.ob = news0 at *
  refine comp_J (fun i ys news₁ => ∃ vr : List (Str × Tok), ys = strsV vr ∧ news₁ = news0 ∧ vr.map (·.1) = ((RL.map Row.txt).take i).map rowText) ?_ ?_ _ 0 [] _ (Nat.zero_add _) ⟨[], rfl, rfl, rfl⟩
  · rintro i v ys news₁ I oI C oC Da m₂ h5 tk5 E5 hi hv ⟨vr, rfl, rfl, hvr⟩ hoC hxr F5 N5 off5 ne5
    obtain ⟨q, hq, rfl⟩ : ∃ q, RL[i]? = some q ∧ v = .ref q.a := by
      have hv' : (rvals RL)[i]? = some v := by simpa using hv
      rw [List.getElem?_map, Option.map_eq_some_iff] at hv'
      obtain ⟨q, hq, rfl⟩ := hv'
      exact ⟨q, hq, rfl⟩
    have hqn : q.ob ∈ news₁ := by
      rw [← hbase]
      exact .tail _ (.tail _ (.tail _ (.tail _ (.tail _ (.tail _ (hob q (List.mem_of_getElem? hq)))))))
    have hDrn : (Dr, listOf (rvals RL).toArray cr) ∈ news₁ := by
      rw [← hbase]
      exact .tail _ (.tail _ (.tail _ (.tail _ (.tail _ (.head _)))))
    have hqr : q.txt ∈ slices (wl.map (·.1)) 0 es := by rw [← htx2]; exact List.mem_map_of_mem (List.mem_of_getElem? hq)
    have hqk := hRO.ok _ hqr
    have hqs := hRO.sum _ hqr
    have hq5t := hRO.short _ hqr
    have hq5 : q.its.length ≤ 5 := by rw [← List.length_map (f := fun p : Str × Tok => p.1)]; exact hq5t
    clear Fo No
    repeat' (first | (k_unfold; (try dsimp only)) | ((fail_if_success (with_reducible show wpAny _ _ (eval (Expr.ListComp _ _ _ _) _) _ _ _)); walk1))
    refine ListComp_U (F₀ := F5) (by rfl) (by decide) (by rfl) (by decide) (by rfl) ?_
    walk1
    refine CompSrc.ledger (by rfl) F5 N5 (k := q.cap) (.tail _ (.tail _ (.tail _ hqn))) (by rw [List.size_toArray, List.length_map, sizeLine_eq]; lia) ?_
    intro g2
    refine comp_J (fun i ys n1 => ∃ v2 : List (Str × Tok), ys = strsV v2 ∧ n1 = (I, oI) :: (C, oC) :: (Da, lst (strsV vr)) :: news₁ ∧ v2.map (·.1) = (q.txt.take i).map fun x => (" " : Str) ++ x) ?_ ?_ _ 0 [] _ (Nat.zero_add _) ⟨[], rfl, rfl, rfl⟩
    · rintro i2 v ys n1 I2 oI2 C2 oC2 D2 m₃ h6 tk6 E6 hi2 hv2 ⟨v2, rfl, rfl, hv2r⟩ hoC2 hxw F6 N6 off6 ne6
      obtain ⟨⟨x, tx⟩, hx, rfl⟩ : ∃ p, q.its[i2]? = some p ∧ v = .str p.1 p.2 := by
        have hv' : (strsV q.its)[i2]? = some v := by simpa using hv2
        rw [List.getElem?_map, Option.map_eq_some_iff] at hv'
        obtain ⟨p, hp, rfl⟩ := hv'
        exact ⟨p, hp, rfl⟩
      have hxk := hqk x (List.mem_map_of_mem (List.mem_of_getElem? hx))
      have hxl := hxk.le
      k_steps
      rename_i tN kN aN
      refine CompEnd.intro F6 N6 _ (fun p hp => hp) off6 (.inr ⟨_, .tail _ (.tail _ (.tail _ hqn)), rfl, _, rfl⟩) ⟨v2 ++ [((" " : Str) ++ x, tN)], by simp [strsV], rfl, ?_⟩
      rw [List.map_append, hv2r, List.take_add_one, show q.txt[i2]? = some x from by rw [List.getElem?_map, hx]; rfl, List.map_append]
      rfl
    · rintro ys n1 ⟨v2, rfl, rfl, hv2r⟩
      intro D2 h6 tk6 F6 N6 o6
      rw [List.size_toArray, List.length_map, List.take_of_length_le (by rw [List.length_map]; exact Nat.le_refl _)] at hv2r
      repeat' (first | (k_unfold; (try dsimp only)) | ((fail_if_success (with_reducible show wpAny _ _ (call (Value.builtin "str.join") _) _ _ _)); walk1))
      refine SC.join (l := v2) (news_list N6 (.head _)) hv2r (joinOk_of_weight (Nat.le_trans (Nat.add_le_add (Nat.le_of_eq (blanks_len _)) (Nat.le_of_eq (List.length_map _))) (by lia)) (by decide)) ?_
      intro t6 k6
      refine CompEnd.intro F6 N6 _ (fun p hp => .tail _ hp) off5 (.inr ⟨_, hDrn, rfl, _, rfl⟩) ⟨vr ++ [(rowText q.txt, t6)], by simp [strsV, rowText], rfl, ?_⟩
      rw [List.map_append, hvr, List.take_add_one, show (RL.map Row.txt)[i]? = some q.txt from by rw [List.getElem?_map, hq]; rfl, List.map_append]
      rfl
  · rintro ys n1 ⟨vr, rfl, rfl, hvr⟩
    intro D2 h6 tk6 F6 N6 o6
    rw [List.size_toArray, List.length_map, List.take_of_length_le (by rw [List.length_map]; exact Nat.le_refl _)] at hvr
    subst hbase
    repeat' (first | (k_unfold; (try dsimp only)) | ((fail_if_success (with_reducible show wpAny _ _ (compareOp _ _ _) _ _ _)); walk1))
    have hfe := foldRows_eq (ws := wl.map (·.1)) ((List.length_map _).trans hw5) m0.1 hE
    refine strs_ne (k := (strsV vr).length) N6 (l := ll) (r := vr) (.tail _ (.head _)) (.head _) (by rw [hll, hvr, hfe, htx2]) (fun x hx => ?_) (Nat.le_of_ble_eq_true rfl) ?_
    · rw [hll, hfe] at hx
      obtain ⟨r, hr, rfl⟩ := List.mem_map.mp hx
      exact row_strOk (hRO.ok r hr)
    have N7 := news_sub N6 fun p hp => List.Mem.tail _ hp
    clear N6
    repeat' (first | (k_unfold; (try dsimp only)) | ((fail_if_success (with_reducible show wpAny _ _ (call (Value.ref _) _) _ _ _)); walk1))
    rename Fr _ _ _ _ => Fo
    rename News _ _ _ _ => No
    refine acc_new0 w.params B1 Fo X1 No T1 (by rfl) G4 (by decide) (by decide) ?_
    rintro r news' s' ⟨x, dx, cx, hs, tkx, tnx, kx, rfl, hdx, hdxx, rfl⟩ F8 N8 G8 o8
    obtain ⟨h8, g8, d8, tk8, os8⟩ := s'
    clear Fo No
    obtain ⟨rest, hrest⟩ : ∃ rest, rest = (Dl, listOf (strsV ll).toArray cl) :: (W, listOf (strsV wl).toArray cW) :: (D, listOf #[Value.int e0 t0, Value.int e1 t1, Value.int e2 t2, Value.int e3 t3, Value.int e4 t4] cD) :: (Dr, listOf (rvals RL).toArray cr) :: rr.map Row.ob := ⟨_, rfl⟩
    have hq0 : ∀ p ∈ rest, p.1 ≠ 140 ∧ p.1 ≠ 147 := fun p hp => by
      rw [hrest] at hp
      rcases List.mem_cons.mp hp with rfl | hp
      · exact ⟨Ne.symm (Nat.ne_of_lt hl140), Ne.symm (Nat.ne_of_lt hl147)⟩
      · exact q0 p hp
    have hrm : ∀ p ∈ rest, p ∈ (Dl, listOf (strsV ll).toArray cl) :: (140, tabObj qs) :: (147, tabObj qs') :: (W, listOf (strsV wl).toArray cW) :: (D, listOf #[Value.int e0 t0, Value.int e1 t1, Value.int e2 t2, Value.int e3 t3, Value.int e4 t4] cD) :: (Dr, listOf (rvals RL).toArray cr) :: rr.map Row.ob := fun p hp => by
      rw [hrest] at hp
      exact (List.mem_cons.mp hp).elim (fun h => h ▸ .head _) fun h => .tail _ (.tail _ (.tail _ h))
    have h140 : 140 < dx := hdx (140, tabObj qs) (.tail _ (.head _))
    have h147 : 147 < dx := hdx (147, tabObj qs') (.tail _ (.tail _ (.head _)))
    have O0 : (⟨x, dx, cx, kx, hs, tkx, tnx, 0, [], qs, qs'⟩ : AS).Ok w.params rest :=
      { t1 := hq1, t2 := hq2
        mem := fun _ h => nomatch h
        sep := fun q hq => by
          have h1 := hdx q (hrm q hq)
          exact ⟨Nat.ne_of_lt (Nat.lt_trans h1 hdxx), Nat.ne_of_lt h1, hq0 q hq⟩
        d1 := ⟨Ne.symm (Nat.ne_of_lt hdxx), Ne.symm (Nat.ne_of_lt (Nat.lt_trans h140 hdxx)), Ne.symm (Nat.ne_of_lt (Nat.lt_trans h147 hdxx)), Ne.symm (Nat.ne_of_lt h140), Ne.symm (Nat.ne_of_lt h147)⟩
        n0 := Int.le_refl _
        small := by show (0 : Int) + plen [] < 1000; decide
        few := by show ([] : List Part).length < 1000; decide }
    have N9 : News _ _ h8 ((⟨x, dx, cx, kx, hs, tkx, tnx, 0, [], qs, qs'⟩ : AS).led rest) := news_sub N8 fun p hp => by
      rcases List.mem_cons.mp hp with h | hp
      · exact h ▸ .head _
      rcases List.mem_cons.mp hp with h | hp
      · exact h ▸ .tail _ (.head _)
      rcases List.mem_cons.mp hp with h | hp
      · exact h ▸ .tail _ (.tail _ (.tail _ (.head _)))
      rcases List.mem_cons.mp hp with h | hp
      · exact h ▸ .tail _ (.tail _ (.tail _ (.tail _ (.head _))))
      · exact .tail _ (.tail _ (hrm p hp))
    clear N8
    repeat' (first | (k_unfold; (try dsimp only)) | ((fail_if_success (with_reducible show wpAny _ _ (exec (Stmt.For _ _ _ _ _) _) _ _ _)); walk1))
    refine wpAny_For ?_ (by intro _; rfl)
    walk1
    rename Fr _ _ _ _ => Fo
    rename News _ _ _ _ => No
    have hDl : (Dl, listOf (strsV ll).toArray cl) ∈ rest := by rw [hrest]; exact .head _
    have hllr : ll.map (·.1) = (RL.map Row.txt).map rowText := by rw [hll, hfe, htx2]
    have hok : ∀ r ∈ RL.map Row.txt, (∀ x ∈ r, WordOk x) ∧ (r.map (·.length)).sum ≤ 15 ∧ r.length ≤ 5 := fun r hr => by
      rw [htx2] at hr
      exact ⟨hRO.ok r hr, hRO.sum r hr, hRO.short r hr⟩
    have hRm : (RL.map Row.txt).length ≤ 6 := by rw [List.length_map]; exact hRf
    refine for_list (l := Dl) (its := strsV ll) (c := cl) (fun i m₁ news₁ => PageJ w.params x W Dr D rest RL i m₁ news₁) Fo No G8 ⟨_, _, ⟨rfl, rfl, rfl, rfl, trivial⟩, rfl, O0, rfl, rfl, fun p hp => hp, rfl⟩ ?_ ?_ ?_
    · rintro i m₁ news₁ ⟨a, rest', told, rfl, O, hax, han, hsub, hpt⟩
      exact .tail _ (.tail _ (.tail _ (.tail _ (hsub _ hDl))))
    · rintro I i v o m₁ news₁ h₂ g₂ d₂ tk₂ E' hv hc ⟨a, rest', told, rfl, O, hax, han, hsub, hpt⟩ hI hIn F3 N3 G3
      obtain ⟨⟨tx, tt⟩, hq, rfl⟩ : ∃ q, ll[i]? = some q ∧ v = .str q.1 q.2 := by
        rw [List.getElem?_map, Option.map_eq_some_iff] at hv
        obtain ⟨q, hq, rfl⟩ := hv
        exact ⟨q, hq, rfl⟩
      obtain ⟨r, hr, rfl⟩ : ∃ r, (RL.map Row.txt)[i]? = some r ∧ tx = rowText r := by
        have h1 : (ll.map (·.1))[i]? = some tx := by rw [List.getElem?_map, hq]; rfl
        rw [hllr, List.getElem?_map, Option.map_eq_some_iff] at h1
        obtain ⟨r, h2, h3⟩ := h1
        exact ⟨r, h2, h3.symm⟩
      obtain ⟨r1, r2, r3⟩ := hok r (List.mem_of_getElem? hr)
      try dsimp only at F3 N3
      rw [← over_eq told] at F3
      clear Fo No
      subst hax
      have hrl : (rowText r).length ≤ 20 := by
        have h1 := lsum_row r
        have h2 := lsum_le r1
        lia
      repeat' (first | (k_unfold; (try dsimp only)) | ((fail_if_success (with_reducible show wpAny _ _ (call (Value.builtin "str.replace") _) _ _ _)); walk1))
      walk1
      rw [row_strike r1]
      repeat' (first | (k_unfold; (try dsimp only)) | ((fail_if_success (with_reducible show wpAny _ _ (call (Value.ref _) _) _ _ _)); walk1))
      have hpl : plen a.parts ≤ 15 * 6 := by
        have h1 := page_sum ((RL.map Row.txt).take i) fun r hr => (hok r (List.mem_of_mem_take hr)).2.1
        have h2 := List.length_take_le i (RL.map Row.txt)
        have h3 : ((RL.map Row.txt).take i).length ≤ (RL.map Row.txt).length := by rw [List.length_take]; lia
        rw [plen_ptx, hpt]
        lia
      have hpc : a.parts.length ≤ 6 := by
        have h1 := congrArg List.length hpt
        simp only [ptx, pageOf, List.length_map, List.length_take] at h1
        lia
      have hjl := join_len r
      have hbl : (("" : Str).length : Int) = 0 := rfl
      have OI := O.ahead (I, o) ⟨Ne.symm (hI (a.x, _) (.head _)), Ne.symm (hI (a.dx, _) (.tail _ (.head _))), Ne.symm (hI (140, _) (.tail _ (.tail _ (.head _)))), Ne.symm (hI (147, _) (.tail _ (.tail _ (.tail _ (.head _)))))⟩
      rename Fr _ _ _ _ => F4
      rename News _ _ _ _ => N4
      refine push_does w.params OI "" (Txt.join "" r) _ _ (by rw [han, hbl]; lia) (by lia) B1 F4 X1 (news_sub N4 fun p hp => led_front p hp) T1 (by rfl) G3 (by decide) (by decide) ?_
      rintro r' news' s' ⟨T2, rfl, hT2, rfl⟩ F5 N5 G5 o5
      obtain ⟨h5, g5, d5, tk5, os5⟩ := s'
      generalize hpq : (Part.mk T2 _ _ _ _) = pq at N5
      clear F4 N4
      k_steps
      have e1 : T2 = pq.T := by rw [← hpq]
      have e2 : pq.f = "" := by rw [← hpq]
      have e3 : pq.p = Txt.join "" r := by rw [← hpq]
      clear hpq
      subst e1
      have O6 := O.push pq (fun p hp => hT2 p (by
        rcases List.mem_cons.mp hp with h | hp
        · exact h ▸ .head _
        rcases List.mem_cons.mp hp with h | hp
        · exact h ▸ .tail _ (.head _)
        rcases List.mem_cons.mp hp with h | hp
        · exact h ▸ .tail _ (.tail _ (.head _))
        rcases List.mem_cons.mp hp with h | hp
        · exact h ▸ .tail _ (.tail _ (.tail _ (.head _)))
        · exact .tail _ (.tail _ (.tail _ (.tail _ (.tail _ hp)))))) (a.cap + 1) (by rw [han, e2, e3, hbl]; lia) (by lia)
      have hIT := hT2 (I, o) (.tail _ (.tail _ (.tail _ (.tail _ (.head _)))))
      rename Fr _ _ _ _ => F6
      refine ForNext.intro F6 (news_sub N5 fun p hp => ?_) (fun p hp => ?_) ⟨_, _, ⟨rfl, rfl, rfl, rfl, trivial⟩, rfl, O6, rfl, han, fun p hp => .tail _ (hsub p hp), ?_⟩ G5 o5
      · rcases List.mem_cons.mp hp with h | hp
        · exact h ▸ .tail _ (.tail _ (.tail _ (.tail _ (.tail _ (.head _)))))
        rcases List.mem_cons.mp hp with h | hp
        · exact h ▸ .head _
        rcases List.mem_cons.mp hp with h | hp
        · exact h ▸ .tail _ (.head _)
        rcases List.mem_cons.mp hp with h | hp
        · exact h ▸ .tail _ (.tail _ (.head _))
        rcases List.mem_cons.mp hp with h | hp
        · exact h ▸ .tail _ (.tail _ (.tail _ (.head _)))
        rcases List.mem_cons.mp hp with h | hp
        · exact h ▸ .tail _ (.tail _ (.tail _ (.tail _ (.head _))))
        · exact .tail _ (.tail _ (.tail _ (.tail _ (.tail _ (.tail _ hp)))))
      · rcases List.mem_cons.mp hp with rfl | hp
        · exact hI (a.x, a.obj) (.head _)
        rcases List.mem_cons.mp hp with rfl | hp
        · exact hI (a.dx, a.dict) (.tail _ (.head _))
        rcases List.mem_cons.mp hp with rfl | hp
        · exact hI (140, tabObj a.ps) (.tail _ (.tail _ (.head _)))
        rcases List.mem_cons.mp hp with rfl | hp
        · exact hI (147, tabObj a.ps') (.tail _ (.tail _ (.tail _ (.head _))))
        rcases List.mem_cons.mp hp with rfl | hp
        · exact Ne.symm (Nat.ne_of_lt hIT)
        · exact hI p (.tail _ (.tail _ (.tail _ (.tail _ hp))))
      · show ptx (a.parts ++ [pq]) = _
        rw [List.take_add_one, hr]
        show (a.parts ++ [pq]).map _ = ((RL.map Row.txt).take i ++ [r]).map _
        rw [List.map_append, List.map_append]
        show ptx a.parts ++ [(pq.f, pq.p)] = pageOf ((RL.map Row.txt).take i) ++ [(("" : Str), Txt.join "" r)]
        rw [hpt, e2, e3]
    · rintro m₁ news₁ h₂ g₂ d₂ tk₂ ⟨a, rest', told, rfl, O, hax, han, hsub, hpt⟩ F3 N3 G3
      try dsimp only at F3 N3 ⊢
      rw [← over_eq told] at F3
      clear Fo No
      subst hax
      have hln : (strsV ll).length = (RL.map Row.txt).length := by
        have := congrArg List.length hllr
        simpa using this
      rw [hln, List.take_length] at hpt
      repeat' (first | (k_unfold; (try dsimp only)) | ((fail_if_success (with_reducible show wpAny _ _ (call (Value.type "str") _) _ _ _)); walk1))
      rename Fr _ _ _ _ => F4
      rename News _ _ _ _ => N4
      refine kso_call (K := hd.heap_39 w.params) (Nat.le_of_ble_eq_true rfl) (X1.keeps F4.keep) (InstAt.of_acc N4 (.head _) (.tail _ (.head _))) (st178 _) (fn152 _) ?_
      refine strA w.params O B1 F4 X1 N4 T1 (by rfl) G3 (Nat.le_of_ble_eq_true rfl) (Nat.le_of_ble_eq_true rfl) ?_
      rintro r news' s' ⟨t9, ps9, rfl, rfl, O5⟩ F9 N9 G9 o9
      obtain ⟨h9, g9, d9, tk9, os9⟩ := s'
      clear F4 N4
      dsimp only [PySem.W.StrBack] at O5 N9 o9 ⊢
      repeat' (first | (k_unfold; (try dsimp only)) | ((fail_if_success (with_reducible show wpAny _ _ (call (Value.ref _) _) _ _ _)); walk1))
      rename Fr _ _ _ _ => F4
      rename News _ _ _ _ => N4
      refine popped_does w.params O5 B1 F4 X1 N4 T1 (by rfl) G9 (by decide) (by decide) ?_
      rintro r news' s' ⟨t10, c10, rfl, rfl⟩ F10 N10 G10 o10
      obtain ⟨h10, g10, d10, tk10, os10⟩ := s'
      clear F4 N4
      dsimp only at N10 o10 ⊢
      have hWr : (W, listOf (strsV wl).toArray cW) ∈ rest' := hsub _ (by rw [hrest]; exact .tail _ (.head _))
      have hDrr : (Dr, listOf (rvals RL).toArray cr) ∈ rest' := hsub _ (by rw [hrest]; exact .tail _ (.tail _ (.tail _ (.head _))))
      have hDr2 : (D, listOf #[Value.int e0 t0, Value.int e1 t1, Value.int e2 t2, Value.int e3 t3, Value.int e4 t4] cD) ∈ rest' := hsub _ (by rw [hrest]; exact .tail _ (.tail _ (.head _)))
      have hobr : ∀ q ∈ RL, q.ob ∈ rest' := fun q hq => hsub _ (by rw [hrest]; exact .tail _ (.tail _ (.tail _ (.tail _ (hob q hq)))))
      have N11 := news_sub (news := (W, listOf (strsV wl).toArray cW) :: (D, listOf #[Value.int e0 t0, Value.int e1 t1, Value.int e2 t2, Value.int e3 t3, Value.int e4 t4] cD) :: (Dr, listOf (rvals RL).toArray cr) :: (140, tabObj a.ps) :: (147, tabObj ps9) :: RL.map Row.ob) N10 fun p hp => by
        rcases List.mem_cons.mp hp with h | hp
        · exact h ▸ .tail _ (.tail _ (.tail _ (.tail _ hWr)))
        rcases List.mem_cons.mp hp with h | hp
        · exact h ▸ .tail _ (.tail _ (.tail _ (.tail _ hDr2)))
        rcases List.mem_cons.mp hp with h | hp
        · exact h ▸ .tail _ (.tail _ (.tail _ (.tail _ hDrr)))
        rcases List.mem_cons.mp hp with h | hp
        · exact h ▸ .tail _ (.tail _ (.head _))
        rcases List.mem_cons.mp hp with h | hp
        · exact h ▸ .tail _ (.tail _ (.tail _ (.head _)))
        · obtain ⟨q, hq, h⟩ := List.mem_map.mp hp
          exact h ▸ .tail _ (.tail _ (.tail _ (.tail _ (hobr q hq))))
      clear N10
      repeat' (first | (k_unfold; (try dsimp only)) | ((fail_if_success (with_reducible show wpAny _ _ (call (Value.builtin "str.join") _) _ _ _)); walk1))
      have hsw : ((wl.map (·.1)).map (·.length)).sum ≤ 3 * 5 := by
        have := sum_le (wl.map (·.1)) hwk
        rw [List.length_map] at this
        lia
      rename Fr _ _ _ _ => F12
      rename News _ _ _ _ => N12
      refine SC.join (l := wl) (news_list N12 (.tail _ (.head _))) rfl (joinOk_of_weight (Nat.le_trans (Nat.add_le_add hsw (Nat.le_of_eq (List.length_map _))) (by lia)) (by decide)) ?_
      intro t12 k12
      repeat' (first | (k_unfold; (try dsimp only)) | ((fail_if_success (with_reducible show wpAny _ _ (eval (Expr.ListComp _ _ _ _) _) _ _ _)); walk1))
      refine ListComp_U (F₀ := F12) (by rfl) (by decide) (by rfl) (by decide) (by rfl) ?_
      iterate 10 (walk1)
      rename Fr _ _ _ _ => F13
      rename News _ _ _ _ => N13
      dsimp only at F13 N13 ⊢
      rw [krv_pick, show (rvals RL).toArray.toList.reverse = rvals RL.reverse from List.map_reverse.symm] at N13
      obtain ⟨n13, hn13, N14⟩ := news_as N13
      have hla : (_, listOf #[Value.str (atext a.parts) t9, Value.str (popText a.parts) t10] 0) ∈ n13 := (by rw [hn13]; exact .tail _ (.head _) : _ ∈ n13)
      have hW13 : (W, listOf (strsV wl).toArray cW) ∈ n13 := by rw [hn13]; exact .tail _ (.tail _ (.head _))
      have hD13 : (D, listOf #[Value.int e0 t0, Value.int e1 t1, Value.int e2 t2, Value.int e3 t3, Value.int e4 t4] cD) ∈ n13 := by rw [hn13]; exact .tail _ (.tail _ (.tail _ (.head _)))
      have hDr13 : (Dr, listOf (rvals RL).toArray cr) ∈ n13 := by rw [hn13]; exact .tail _ (.tail _ (.tail _ (.tail _ (.head _))))
      have h140n : (140, tabObj a.ps) ∈ n13 := by rw [hn13]; exact .tail _ (.tail _ (.tail _ (.tail _ (.tail _ (.head _)))))
      have h147n : (147, tabObj ps9) ∈ n13 := by rw [hn13]; exact .tail _ (.tail _ (.tail _ (.tail _ (.tail _ (.tail _ (.head _))))))
      have hob13 : ∀ q ∈ RL, q.ob ∈ n13 := fun q hq => by rw [hn13]; exact .tail _ (.tail _ (.tail _ (.tail _ (.tail _ (.tail _ (.tail _ (List.mem_map_of_mem hq)))))))
      have hRv := N13 _ (.head _)
      refine CompSrc.ledger (by rfl) F13 N14 (k := 0) (its := (rvals RL.reverse).toArray) (by rw [hn13]; exact .head _) (by rw [List.size_toArray, List.length_map, List.length_reverse, sizeLine_eq]; lia) ?_
      have hRm13 : (_, _) ∈ n13 := (by rw [hn13]; exact .head _ : _ ∈ n13)
      intro gh2
      clear N13 hRv
      refine comp_J (fun i ys n1 => ∃ vr : List (Str × Tok), ys = strsV vr ∧ n1 = n13 ∧ vr.map (·.1) = ((RL.map Row.txt).reverse.take i).map (Txt.join "")) ?_ ?_ _ 0 [] _ (Nat.zero_add _) ⟨[], rfl, rfl, rfl⟩
      · rintro i v ys news₁ I oI C oC Da m₂ h5 tk5 E5 hi hv ⟨vr, rfl, rfl, hvr⟩ hoC hxr F5 N5 off5 ne5
        obtain ⟨q, hq, rfl⟩ : ∃ q, RL.reverse[i]? = some q ∧ v = .ref q.a := by
          have hv' : (rvals RL.reverse)[i]? = some v := by simpa using hv
          rw [List.getElem?_map, Option.map_eq_some_iff] at hv'
          obtain ⟨q, hq, rfl⟩ := hv'
          exact ⟨q, hq, rfl⟩
        have hqR : q ∈ RL := List.mem_reverse.mp (List.mem_of_getElem? hq)
        obtain ⟨-, r2, r3⟩ := hok q.txt (List.mem_map_of_mem hqR)
        repeat' (first | (k_unfold; (try dsimp only)) | ((fail_if_success (with_reducible show wpAny _ _ (call (Value.builtin "str.join") _) _ _ _)); walk1))
        refine SC.join (l := q.its) (news_list N5 (.tail _ (.tail _ (.tail _ (hob13 q hqR))))) (show q.its.map (·.1) = q.txt from rfl) (joinOk_of_weight (by lia) (by decide)) ?_
        intro t6 k6
        refine CompEnd.intro F5 N5 _ (fun p hp => hp) off5 (.inr ⟨_, hRm13, rfl, _, rfl⟩) ⟨vr ++ [(Txt.join "" q.txt, t6)], by simp [strsV], rfl, ?_⟩
        rw [List.map_append, hvr, List.take_add_one, ← List.map_reverse, show (RL.reverse.map Row.txt)[i]? = some q.txt from by rw [List.getElem?_map, hq]; rfl, List.map_append]
        rfl
      · rintro ys n1 ⟨vr, rfl, rfl, hvr⟩
        intro D2 h6 tk6 F6 N6 o6
        rw [List.take_of_length_le (by rw [List.size_toArray, List.length_map, List.length_reverse, List.length_reverse, List.length_map]; exact Nat.le_refl _)] at hvr
        have hrl := rev_len (RL.map Row.txt).reverse fun r hr => (hok r (List.mem_reverse.mp hr)).2.1
        rw [List.length_reverse] at hrl
        repeat' (first | (k_unfold; (try dsimp only)) | ((fail_if_success (with_reducible show wpAny _ _ (call (Value.builtin "str.join") _) _ _ _)); walk1))
        refine SC.join (l := vr) (news_list N6 (.head _)) hvr (joinOk_of_weight (Nat.le_trans (Nat.add_le_add hrl (Nat.le_of_eq ((List.length_map _).trans List.length_reverse))) (by lia)) (by decide)) ?_
        intro t13 k13
        repeat' (first | (k_unfold; (try dsimp only)) | ((fail_if_success (with_reducible show wpAny _ _ (compareOp _ _ _) _ _ _)); walk1))
        rename Fr _ _ _ _ => F14
        rename News _ _ _ _ => N15
        have hfl : flat (RL.map Row.txt) = rowCds (wl.map (·.1)) := by rw [flat_eq, htx2, hRO.all]
        have cS : cds (atext a.parts) = flat (RL.map Row.txt) := by rw [atext_ptx]; exact page_text hpt
        have hS : atext a.parts = Txt.join "" (wl.map (·.1)) := cds_ext (by rw [cS, hfl, cds_join])
        have hU : popText a.parts = Txt.join "" ((RL.map Row.txt).reverse.map (Txt.join "")) := by
          have h1 := pop_text hpt
          unfold popText
          rw [← h1]
          simp only [ptx, List.map_map]
          rfl
        have cU : cds (popText a.parts) = flat (RL.map Row.txt).reverse := by rw [hU]; exact cds_upside _
        have hA : flat (RL.map Row.txt) = (List.range T).map (97 + ((e2.fdiv 3).fmod 12).toNat + ·) := by rw [hfl, hwc]
        have hlS : ∀ c ∈ cds (atext a.parts), 97 ≤ c ∧ c ≤ 122 := fun c hc => by
          rw [cS, hA] at hc
          obtain ⟨j, hj, rfl⟩ := List.mem_map.mp hc
          have := List.mem_range.mp hj
          lia
        have hlU : ∀ c ∈ cds (popText a.parts), 97 ≤ c ∧ c ≤ 122 := fun c hc => by
          rw [cU, flat_rev_mem, ← cS] at hc
          exact hlS c hc
        refine strs_ne N15 (l := [(atext a.parts, t9), (popText a.parts, t10)]) (r := [(Txt.join "" (wl.map (·.1)), t12), (Txt.join "" ((RL.map Row.txt).reverse.map (Txt.join "")), t13)]) (.tail _ (.tail _ hla)) (.head _) (by rw [List.map_cons, List.map_cons, List.map_cons, List.map_cons, hS, hU]) (fun x hx => ?_) (Nat.le_of_ble_eq_true rfl) ?_
        · simp only [List.map_cons, List.map_nil, List.mem_cons, List.not_mem_nil, or_false] at hx
          rcases hx with rfl | rfl
          · exact strOk_of fun c hc => by have := hlS c hc; lia
          · exact strOk_of fun c hc => by have := hlU c hc; lia
        have N16 := news_sub (news := n1) N15 fun p hp => .tail _ (.tail _ hp)
        clear N15
        repeat' (first | (k_unfold; (try dsimp only)) | ((fail_if_success (with_reducible show wpAny _ _ (call (Value.ref _) _) _ _ _)); walk1))
        rename Fr _ _ _ _ => Fo
        rename News _ _ _ _ => No
        have hcT : cum (RL.map Row.txt) RL.length = T := by
          rw [cum_eq, List.take_of_length_le (by rw [List.length_map]; exact Nat.le_refl _), hA]
          simp
        refine due_does w.params (D := Dr) (rl := RL) (c := cr) (news := n1) hDr13 hob13 hRf (fun q hq => ?_) (by rw [hcT]; lia) B1 Fo X1 No T1 (by rfl) G10 (by decide) (by decide) ?_
        · have h1 := hok q.txt (List.mem_map_of_mem hq)
          have h2 : q.txt.length = q.its.length := List.length_map _
          exact ⟨h1.2.1, by lia⟩
        rintro r news' s' ⟨k, t16, rfl, hPl, rfl⟩ F17 N17 G17 o17
        rw [hcT] at hPl ⊢
        obtain ⟨h17, g17, d17, tk17, os17⟩ := s'
        clear Fo No
        have hFar := far_rows cS cU hA hPl
        have v1 := hFar.v1
        have v2 := hFar.uT
        repeat' (first | (k_unfold; (try dsimp only)) | ((fail_if_success (with_reducible show wpAny _ _ (call (Value.builtin "sum") _) _ _ _)); walk1))
        rename Fr _ _ _ _ => F18
        rename News _ _ _ _ => N18
        have hlD := news_list (vs := [Value.int e0 t0, Value.int e1 t1, Value.int e2 t2, Value.int e3 t3, Value.int e4 t4]) N18 hD13
        have hiD : IntsAre [Value.int e0 t0, Value.int e1 t1, Value.int e2 t2, Value.int e3 t3, Value.int e4 t4] [e0, e1, e2, e3, e4] := .cons _ _ (.cons _ _ (.cons _ _ (.cons _ _ (.cons _ _ .nil))))
        have hsm := Int.fmod_eq_emod_of_nonneg (e0 + (e1 + (e2 + (e3 + (e4 + 0))))) (show (0 : Int) ≤ 2 by decide)
        repeat' (first | (k_unfold; (try dsimp only)) | ((fail_if_success (with_reducible show wpAny _ _ (call (Value.ref _) _) _ _ _)); walk1))
        rename Fr _ _ _ _ => Fo
        rename News _ _ _ _ => No
        refine lev_far w.params hFar _ _ _ _ (by lia) ⟨by lia, by lia⟩ hlS hlU B1 Fo X1 No T1 (by rfl) G17 (by decide) (by decide) ?_
        rintro r news' s' ⟨t18, rfl, hsub18⟩ F19 N19 G19 o19
        obtain ⟨h19, g19, d19, tk19, os19⟩ := s'
        clear Fo No
        have hv0 : 0 ≤ 4 * max ((T : Int) - cum (RL.map Row.txt) k) (cum (RL.map Row.txt) (k - 1)) := by lia
        have hv1 : 4 * max ((T : Int) - cum (RL.map Row.txt) k) (cum (RL.map Row.txt) (k - 1)) ≤ 1000 := by lia
        generalize 4 * max ((T : Int) - cum (RL.map Row.txt) k) (cum (RL.map Row.txt) (k - 1)) = dv at *
        k_steps
        refine ⟨?_, F19.keep, o19.trans (o17.trans (o10.trans (o9.trans (o8.trans (o4.trans (o3.trans (o2.trans o1))))))), G19, GrownAt.of N19 (hsub18 _ h140n), GrownAt.of N19 (hsub18 _ h147n), trivial⟩
        show Except.ok (Flow.ret (Value.bool (_ == _))) = _
        rw [beq_self_eq_true])
end
end Mine
theorem PySem.Challenge.cw_re0158_01_holds : PySem.Challenge.rw_re0158_01.Holds := by
  exact Mine.law_holds
