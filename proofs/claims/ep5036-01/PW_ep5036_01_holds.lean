import PyProof.Rows.All
import Wide.All
import OpenK.AllK
import Wide.FinOn
import PySem.Challenge.RW_ep5036_01
set_option Elab.async false
set_option maxRecDepth 100000
set_option linter.unusedVariables false
section
open PySem PySem.W PyProof.Rows
namespace Mine
set_option maxRecDepth 100000 in
set_option maxHeartbeats 8000000 in
open_top hd for PySem.Challenge.rw_ep5036_01
end Mine

end
section
namespace Mine
open PySem PySem.W PyProof.Rows PySem.Calls
/-- marks an address as one of ours, for the walker's lines -/
def Own (p : Addr) : Prop := p = p
theorem lt_of_all {l : List (Addr × Obj)} {B : Addr} {q : Addr × Obj} (h : ∀ q ∈ l, q.1 < B) (hq : q ∈ l) : q.1 < B := h q hq
section
variable {M : Model} {A : Around} {E : Value → Shared → Prop} {s : Shared}
theorem id_pyIter {v : Value} {Q : Value → Shared → Prop} (h : wpAny M A (pyIter v) Q E s) : wpAny M A (pyIter v) Q E s := h
theorem id_leaving {env : Env} {e : Value} {Q : Unit → Shared → Prop} (h : wpAny M A (leaving env e) Q E s) : wpAny M A (leaving env e) Q E s := h
theorem id_For {t i : Expr} {b o : List Stmt} {p : Pos} {env : Env} {Q : Flow → Shared → Prop} (h : wpAny M A (exec (.For t i b o p) env) Q E s) : wpAny M A (exec (.For t i b o p) env) Q E s := h
theorem id_subTail {x y : Expr} {v u : Value} {Q : Value → Shared → Prop} (h : wpAny M A (subscriptTail x y v u) Q E s) : wpAny M A (subscriptTail x y v u) Q E s := h
theorem id_binaryOp {o : Operator} {v u : Value} {Q : Value → Shared → Prop} (h : wpAny M A (binaryOp o v u) Q E s) : wpAny M A (binaryOp o v u) Q E s := h
theorem id_getAttr {v : Value} {x : Str} {b : Bool} {Q : Value → Shared → Prop} (h : wpAny M A (getAttr v x b) Q E s) : wpAny M A (getAttr v x b) Q E s := h
theorem id_DictComp {a b : Expr} {g : List Comprehension} {sc : Scope} {p : Pos} {env : Env} {Q : Value → Shared → Prop} (h : wpAny M A (eval (.DictComp a b g sc p) env) Q E s) : wpAny M A (eval (.DictComp a b g sc p) env) Q E s := h
theorem id_Dict {a : List (Option Expr)} {b : List Expr} {p : Pos} {env : Env} {Q : Value → Shared → Prop} (h : wpAny M A (eval (.Dict a b p) env) Q E s) : wpAny M A (eval (.Dict a b p) env) Q E s := h
theorem id_noteFrame {v : Value} {env : Env} {Q : Unit → Shared → Prop} (h : wpAny M A (noteFrame v env) Q E s) : wpAny M A (noteFrame v env) Q E s := h
theorem id_call {f : Value} {a : List Value} {k : List (Str × Value)} {Q : Value → Shared → Prop} (h : wpAny M A (call f a k) Q E s) : wpAny M A (call f a k) Q E s := h
theorem own_gm {x : Addr} {n : Str} {pl : Sem Bool} {Q : Value × List Value → Shared → Prop} (o : Own x) (h : wpAny M A (getMethod (.ref x) n pl) Q E s) : wpAny M A (getMethod (.ref x) n pl) Q E s := h
theorem own_in {x : Addr} {v : Value} {Q : Value → Shared → Prop} (o : Own x) (h : wpAny M A (compareOp .In v (.ref x)) Q E s) : wpAny M A (compareOp .In v (.ref x)) Q E s := h
theorem own_call {x : Addr} {f : Value} {Q : Value → Shared → Prop} (o : Own x) (h : wpAny M A (call f [.ref x]) Q E s) : wpAny M A (call f [.ref x]) Q E s := h
theorem own_del {x : Addr} {v : Value} {Q : Unit → Shared → Prop} (o : Own x) (h : wpAny M A (delItem (.ref x) v) Q E s) : wpAny M A (delItem (.ref x) v) Q E s := h
theorem own_set {x : Addr} {v u : Value} {Q : Unit → Shared → Prop} (o : Own x) (h : wpAny M A (setItem (.ref x) v u) Q E s) : wpAny M A (setItem (.ref x) v u) Q E s := h
/-- marks a walk whose frame map is a variable -/
def VF : Prop := True = True
theorem vf_name {x : Str} {p : Pos} {env : Env} {Q : Value → Shared → Prop} (o : VF) (h : wpAny M A (eval (.Name x p) env) Q E s) : wpAny M A (eval (.Name x p) env) Q E s := h
end
end Mine

end
section
open PySem PySem.W PyProof.Rows PySem.Calls
set_option maxRecDepth 100000
namespace Mine
open Builtin Builtin.ObjectAttr

section
variable {prog : Program} {w : World} {A : Around} {E : Value → Shared → Prop} {s : Shared} {K : Frag} {x C : Addr} {ox : Obj} {od : Option Obj} {name : Str} {expr : Bool} {Q : Value → Shared → Prop}

theorem get_bindH {g a hook : Value} (X : K.In s.heap) (I : InstAt s.heap x ox C od) (hga : findIn K (.ref C) "__getattribute__" = some (some (.builtin "object.__getattribute__")))
    (hf : findObj K C od name = some (.bind g a)) (hk : findIn K (.ref C) "__getattr__" = some (some hook))
    (h : wpAny (model prog w) A.in1 (call g [a, .ref x, .ref C]) (fun v s' => wpAny (model prog w) A (handedOut v) Q E s') (fun _ _ => False) { s with toks := s.toks + 1 }) :
    wpAny (model prog w) A (getAttr (.ref x) name expr) Q E s := by
  refine get_open X I hga ?_
  obtain ⟨hh', gg, d, t, os⟩ := s
  have L0 := I.type (M := model prog w)
  have L1 := looks_find (M := model prog w) X I hf
  have L2 := looks_findIn (M := model prog w) X hk
  refine wpAny_bind (wpAny_pure (wpAny_bind (L0.at (wpAny_bind (L1.at (wpAny_bind (L2.at ?_)))))))
  show wpAny _ _ (bindOrHook g a (.ref x) (.ref C) _ hook) _ _ _
  unfold bindOrHook
  refine wpAny_bind (wpAny_attempt (wpAny_holding ?_))
  show wpAny _ _ (holding [a] (call g [a, .ref x, .ref C]) >>= ret) _ _ _
  exact wpAny_bind (wpAny_holding (wpAny_mono h (fun v s' z => wpAny_pure (wpAny_pure z)) fun _ _ z => z.elim))

theorem get_missH {hook : Addr} (X : K.In s.heap) (I : InstAt s.heap x ox C od) (hga : findIn K (.ref C) "__getattribute__" = some (some (.builtin "object.__getattribute__")))
    (hf : findObj K C od name = some .missing) (hk : findIn K (.ref C) "__getattr__" = some (some (.ref hook))) (hfn : typeIn K (.ref hook) = some (.type "function"))
    (h : wpAny (model prog w) A.in1 (call (.ref hook) [.ref x, .str name s.toks]) (fun v s' => wpAny (model prog w) A (handedOut v) Q E s')
      (fun e s' => wpAny (model prog w) A (noteIf true (.ref x) (.str name s.toks) e) (fun _ s'' => E e s'') E s') { s with toks := s.toks + 1 }) :
    wpAny (model prog w) A (getAttr (.ref x) name expr) Q E s := by
  refine get_open X I hga ?_
  obtain ⟨hh', gg, d, t, os⟩ := s
  have L0 := I.type (M := model prog w)
  have L1 := looks_find (M := model prog w) X I hf
  have L2 := looks_findIn (M := model prog w) X hk
  have L3 := bind_fn (M := model prog w) X (.ref x) hfn
  refine wpAny_bind (wpAny_pure (wpAny_bind (L0.at (wpAny_bind (L1.at (wpAny_bind (L2.at ?_)))))))
  show wpAny _ _ (byHook (.ref x) _ (.ref hook)) _ _ _
  unfold byHook
  refine wpAny_bind (L3.at ?_)
  refine wpAny_bind (wpAny_mono h (fun v s' z => wpAny_bind (wpAny_rule (wpAny_pure z))) fun _ _ z => z)
end

section
variable {prog : Program} {w : World} {A : Around} {E : Value → Shared → Prop} {s : Shared} {K : Frag} {x C L p f : Addr} {h₀ : Heap} {m : Str → Option Value} {news news' : List (Addr × Obj)} {ox ox' od : Obj} {name : Str} {v : Value} {i : Nat}

def hookGet (K : Frag) (C : Addr) (hook : Addr) : Bool := findIn K (.ref C) "__getattribute__" == some (some (.builtin "object.__getattribute__")) && findIn K (.ref C) "__getattr__" == some (some (.ref hook))
theorem hookGet_of {hook : Addr} (h : hookGet K C hook = true) : findIn K (.ref C) "__getattribute__" = some (some (.builtin "object.__getattribute__")) ∧ findIn K (.ref C) "__getattr__" = some (some (.ref hook)) := by
  obtain ⟨a, b⟩ := Bool.and_eq_true_iff.mp h
  exact ⟨beq_iff_eq.mp a, beq_iff_eq.mp b⟩

/-- a slot's value read where the class has a `__getattr__` -/
theorem get_slotH {expr : Bool} {Q : Value → Shared → Prop} {odo : Option Obj} (X : K.In s.heap) (I : InstAt s.heap x ox C odo) (hg1 : findIn K (.ref C) "__getattribute__" = some (some (.builtin "object.__getattribute__"))) {hook : Value} (hg2 : findIn K (.ref C) "__getattr__" = some (some hook)) (hc : isClsIn K C = true)
    (ha : findIn K (.ref C) name = some (some (.ref p))) (hn : specialIn K (.ref p) "__get__" = some (some (.builtin "member_descriptor.__get__"))) (ht : takesIn K (.ref p) = some true) (hp : slotIn K p C = some i)
    (hv : (ox.slots[i]?).join = some v) (hh : handedIn v = true) (h : Q v { s with toks := s.toks + 1 }) : wpAny (model prog w) A (getAttr (.ref x) name expr) Q E s :=
  get_bindH X I hg1 (by
    obtain ⟨cd, hc'⟩ := Option.isSome_iff_exists.mp hc
    unfold findObj
    rw [hc', Option.bind_some, ha, Option.bind_some]
    simp [hn, ht]) hg2 (wpAny_call (slot_get (s := { s with toks := s.toks + 1 }) X I hp hv (handed_on hh h)))

/-- a bound method made where the class has a `__getattr__` and no dict -/
theorem get_methH {expr : Bool} {Q : Value → Shared → Prop} {odo : Option Obj} (X : K.In s.heap) (I : InstAt s.heap x ox C odo) (hg1 : findIn K (.ref C) "__getattribute__" = some (some (.builtin "object.__getattribute__"))) {hook : Value} (hg2 : findIn K (.ref C) "__getattr__" = some (some hook))
    (hf : findObj K C odo name = some (.bind (.builtin "function.__get__") (.ref f))) (hfn : typeIn K (.ref f) = some (.type "function"))
    (h : Q (.ref s.heap.objs.size) { s with heap := s.heap.push (methodObj (.ref f) (.ref x)), toks := s.toks + 1 }) : wpAny (model prog w) A (getAttr (.ref x) name expr) Q E s :=
  get_bindH X I hg1 hf hg2 (wpAny_call (fn_get (s := { s with toks := s.toks + 1 }) X hfn (handed_on rfl h)))

theorem methodH {pl : Sem Bool} {Q : Value × List Value → Shared → Prop} {odo : Option Obj} (X : K.In s.heap) (I : InstAt s.heap x ox C odo) (hg1 : findIn K (.ref C) "__getattribute__" = some (some (.builtin "object.__getattribute__"))) {hook : Value} (hg2 : findIn K (.ref C) "__getattr__" = some (some hook))
    (h : wpAny (model prog w) A (getAttr (.ref x) name) (fun v => Q (v, [])) E s) : wpAny (model prog w) A (getMethod (.ref x) name pl) Q E s := by
  unfold getMethod specialOf
  refine wpAny_bind (wpAny_bind (I.type.here ((looks_findIn X hg1).here ?_)))
  dsimp only
  rw [if_neg (by rw [PySem.F.canon_object_ga]; exact Bool.false_ne_true)]
  refine wpAny_bind (wpAny_bind (I.type.here ((looks_findIn X hg2).here ?_)))
  rw [if_pos (show (some hook).isSome = true from rfl)]
  exact wpAny_bind (wpAny_mono h (fun _ _ z => wpAny_pure z) fun _ _ z => z)

theorem osa_slot {Q : Value → Shared → Prop} {tk : Tok} (F : Fr h₀ L s.heap m) (X₀ : K.In h₀) (N : News h₀ L s.heap news) (I : InstAt s.heap x ox C (some od))
    (hp : plainOver K C = true) (ht : takerIn K C name = some (some (.ref p))) (hT : typeIn K (.ref p) = some (.type "member_descriptor")) (hi : slotIn K p C = some i) (hz : i < 1000)
    (e : { ox with slots := (ox.slots ++ Array.replicate (i + 1 - ox.slots.size) none).setIfInBounds i (some v) } = ox') (hf : ox'.isFreed = false) (U : Upd x ox ox' news news')
    (h : ∀ h', Fr h₀ L h' m → News h₀ L h' news' → Q .none { s with heap := h' }) : wpAny (model prog w) A (call (.builtin "object.__setattr__") [.ref x, .str name tk, v]) Q E s := by
  obtain ⟨pre, post, rfl, rfl, a, b⟩ := U.split
  exact wpAny_call (osa_descr KF.slot_mset (X₀.keeps F.keep) I hp ht hT (slot_set F N (X₀.keeps F.keep) I hi hz a b e hf fun h' F' N' => h h' F' N'))

theorem get_methN {expr : Bool} {Q : Value → Shared → Prop} {odo : Option Obj} (F : Fr h₀ L s.heap m) (X₀ : K.In h₀) (N : News h₀ L s.heap news) (I : InstAt s.heap x ox C odo) (hg1 : findIn K (.ref C) "__getattribute__" = some (some (.builtin "object.__getattribute__"))) {hook : Value} (hg2 : findIn K (.ref C) "__getattr__" = some (some hook))
    (hc : isClsIn K C = true) (hcd : hasDictIn K C = false) (ha : findIn K (.ref C) name = some (some (.ref f))) (hn : specialIn K (.ref f) "__get__" = some (some (.builtin "function.__get__"))) (ht : takesIn K (.ref f) = some false) (hcp : copiedNames.contains name = false) (hfn : typeIn K (.ref f) = some (.type "function"))
    (h : ∀ q h', Fr h₀ L h' m → News h₀ L h' ((q, methodObj (.ref f) (.ref x)) :: news) → (∀ p ∈ news, p.1 < q) → Q (.ref q) { s with heap := h', toks := s.toks + 1 }) : wpAny (model prog w) A (getAttr (.ref x) name expr) Q E s :=
  get_methH (X₀.keeps F.keep) I hg1 hg2 (by
    obtain ⟨cd, hc'⟩ := Option.isSome_iff_exists.mp hc
    have hd' : cd.hasDict = false := by unfold hasDictIn at hcd; rw [hc'] at hcd; exact hcd
    unfold findObj PySem.W.ownOf
    rw [hc', Option.bind_some, ha, Option.bind_some]
    simp [hn, ht, hd']
    intro q
    exact absurd q (by simpa using hcp)) hfn (h _ _ (F.push _) (N.push F _) fun p hp => Heap.lt_size (N p hp).1)
end
end Mine

end
section
open PySem PySem.W PyProof.Rows PySem.Calls
set_option maxRecDepth 100000
namespace Mine
open PyProof.V PySem.Spec

/-- the object is an exact dict whose keys are texts and whose data are flat: `D` in its order -/
def DataOf (prog : Program) (w : World) (o : Obj) (D : List (PyData × PyData)) : Prop :=
  ∃ kvs, o.IsDictOf (PySem.strKind prog w) kvs ∧ FlatPairs PyData.str kvs D

noncomputable def Flats : List Value → List PyData → Prop
  | [], [] => True
  | v :: vs, d :: ds => Flat v d ∧ Flats vs ds
  | _, _ => False
theorem Flats.len : ∀ {vs : List Value} {ds : List PyData}, Flats vs ds → vs.length = ds.length
  | [], [], _ => rfl
  | _ :: _, _ :: _, h => by simp only [List.length_cons]; rw [Flats.len h.2]
  | [], _ :: _, h => h.elim
  | _ :: _, [], h => h.elim
theorem Flats.reads (h : Heap) : ∀ {vs : List Value} {ds : List PyData}, Flats vs ds → ReadsAll h vs ds []
  | [], [], _ => .nil
  | _ :: _, _ :: _, x => by simpa using ReadsAll.cons (x.1 h) (Flats.reads h x.2)
  | [], _ :: _, h => h.elim
  | _ :: _, [], h => h.elim
theorem Flats.of : ∀ {vs : List Value} {ds : List PyData}, vs.length = ds.length → (∀ (j : Nat) (v : Value), vs[j]? = some v → ∃ d, ds[j]? = some d ∧ Flat v d) → Flats vs ds
  | [], [], _, _ => trivial
  | [], _ :: _, hl, _ => by simp at hl
  | _ :: _, [], hl, _ => by simp at hl
  | v :: vs, d :: ds, hl, h => by
    obtain ⟨d', e, f⟩ := h 0 v rfl
    have e' : d = d' := by simpa using e
    subst e'
    exact ⟨f, Flats.of (by simpa using hl) fun j x hx => by
      obtain ⟨d₂, e₂, f₂⟩ := h (j + 1) x (by simpa using hx)
      exact ⟨d₂, by simpa using e₂, f₂⟩⟩
theorem Flats.get : ∀ {vs : List Value} {ds : List PyData}, Flats vs ds → ∀ {j : Nat} {v : Value}, vs[j]? = some v → ∃ d, ds[j]? = some d ∧ Flat v d
  | [], [], _, j, v, hj => by simp at hj
  | _ :: _, d :: _, h, 0, v, hj => by
    have e := by simpa using hj
    subst e
    exact ⟨d, rfl, h.1⟩
  | _ :: _, _ :: _, h, j + 1, v, hj => by
    obtain ⟨d, e, f⟩ := Flats.get h.2 (j := j) (v := v) (by simpa using hj)
    exact ⟨d, by simpa using e, f⟩
  | [], _ :: _, h, _, _, _ => h.elim
  | _ :: _, [], h, _, _, _ => h.elim
theorem Flats.snoc : ∀ {vs : List Value} {ds : List PyData} {v : Value} {d : PyData}, Flats vs ds → Flat v d → Flats (vs ++ [v]) (ds ++ [d])
  | [], [], _, _, _, f => ⟨f, trivial⟩
  | _ :: _, _ :: _, _, _, h, f => ⟨h.1, Flats.snoc h.2 f⟩
  | [], _ :: _, _, _, h, _ => h.elim
  | _ :: _, [], _, _, h, _ => h.elim
theorem Flats.list {h : Heap} {a : Addr} {vs : List Value} {ds : List PyData} {n : Nat} (e : h.get? a = some (listOf vs.toArray n)) (f : Flats vs ds) : Reads h (.ref a) (.list ds) [a] :=
  Reads.list e rfl rfl (by simpa using f.reads h)

section
variable {prog : Program} {w : World} {A : Around} {E : Value → Shared → Prop} {s : Shared} {h₀ : Heap} {L d v : Addr} {m : Str → Option Value} {news : List (Addr × Obj)} {o : Obj} {D : List (PyData × PyData)} {g : Obj → List (Addr × Obj)}

theorem DataOf.tab (x : DataOf prog w o D) (lo : (d == sysModules) = false) (N : News h₀ L s.heap news) (hp : (d, o) ∈ news) : StrTab prog w s.heap d D :=
  let ⟨_, a, b⟩ := x; TabAt.ofNews N hp lo a b
theorem DataOf.nil {o : Obj} (h : o.IsDictOf (PySem.strKind prog w) []) : DataOf prog w o [] := ⟨[], h, .nil⟩

theorem lm_meth {name : Str} {id : String} {pl : Sem Bool} {Q : Value × List Value → Shared → Prop} (S : Slot "dict" name id) (ht : typeOf (.builtin id) = pure (.type "method_descriptor")) (N : News h₀ L s.heap news) (hp : (d, o) ∈ news) (x : DataOf prog w o D)
    (h : Q (.builtin id, [.ref d]) s) : wpAny (model prog w) A (getMethod (.ref d) name pl) Q E s :=
  let ⟨_, a, _⟩ := x; kdl_method S ht N hp a h

theorem list_keys {Q : Value → Shared → Prop} (hh : A.handled = none) (F : Fr h₀ L s.heap m) (N : News h₀ L s.heap news) (hp : (d, o) ∈ news) (x : DataOf prog w o D) (lo : (d == sysModules) = false) (hn : D.length ≤ 1000)
    (h : ∀ B c h' tk vs, Fr h₀ L h' m → News h₀ L h' ((B, listOf vs.toArray c) :: news) → (∀ q ∈ news, q.1 < B) → Flats vs (D.map (·.1)) → Q (.ref B) { s with heap := h', toks := tk }) :
    wpAny (model prog w) A (call (.type "list") [.ref d]) Q E s := by
  obtain ⟨kvs, hd, hf⟩ := x
  obtain ⟨ep, hat⟩ := (kda_dict N hp hd).dictAt
  refine kdl_N (kdl_dict (knd := PySem.strKind prog w) (kvs := kvs) (ep := ep) lo) hh F N hat (kdl_size (by rw [← hf.length]; omega)) fun B c h' tk vs F' N' l1 hl hv => ?_
  refine h B c h' tk vs F' N' l1 (Flats.of (by rw [hl, List.length_map, hf.length]) fun j u hu => ?_)
  obtain ⟨k, y, hy, hk⟩ := hv j u hu
  obtain ⟨dv, hd, _⟩ := hf.at hy
  exact ⟨_, by rw [List.getElem?_map, hd]; rfl, kdl_flat_str hk⟩

theorem values_view {Q : Value → Shared → Prop} (F : Fr h₀ L s.heap m) (N : News h₀ L s.heap news) (hp : (d, o) ∈ news) (x : DataOf prog w o D) (lo : (d == sysModules) = false)
    (h : ∀ (B : Addr) h', Fr h₀ L h' m → News h₀ L h' ((B, { cls := .type "dict_values", data := .fields #[.ref d] }) :: news) → (∀ q ∈ news, q.1 < B) → Q (.ref B) { s with heap := h' }) :
    wpAny (model prog w) A (call (.builtin "dict.values") [.ref d]) Q E s :=
  let ⟨_, a, _⟩ := x; kdl_view_values F N hp a lo h
theorem items_view {Q : Value → Shared → Prop} (F : Fr h₀ L s.heap m) (N : News h₀ L s.heap news) (hp : (d, o) ∈ news) (x : DataOf prog w o D) (lo : (d == sysModules) = false)
    (h : ∀ (B : Addr) h', Fr h₀ L h' m → News h₀ L h' ((B, { cls := .type "dict_items", data := .fields #[.ref d] }) :: news) → (∀ q ∈ news, q.1 < B) → Q (.ref B) { s with heap := h' }) :
    wpAny (model prog w) A (call (.builtin "dict.items") [.ref d]) Q E s :=
  let ⟨_, a, _⟩ := x; kdx_view F N hp a lo h

theorem list_values {Q : Value → Shared → Prop} (hh : A.handled = none) (F : Fr h₀ L s.heap m) (N : News h₀ L s.heap news) (hv : (v, { cls := .type "dict_values", data := .fields #[.ref d] }) ∈ news) (hp : (d, o) ∈ news) (x : DataOf prog w o D) (hn : D.length ≤ 1000)
    (h : ∀ B c h' tk vs, Fr h₀ L h' m → News h₀ L h' ((B, listOf vs.toArray c) :: news) → (∀ q ∈ news, q.1 < B) → Flats vs (D.map (·.2)) → Q (.ref B) { s with heap := h', toks := tk }) :
    wpAny (model prog w) A (call (.type "list") [.ref v]) Q E s := by
  obtain ⟨kvs, hd, hf⟩ := x
  obtain ⟨ep, hat⟩ := (kda_dict N hp hd).dictAt
  refine kdl_N (kdl_values (knd := PySem.strKind prog w) (kvs := kvs) (ep := ep)) hh F N ⟨⟨_, (N _ hv).1, rfl, rfl⟩, hat⟩ (kdl_size (by rw [← hf.length]; omega)) fun B c h' tk vs F' N' l1 hl hw => ?_
  refine h B c h' tk vs F' N' l1 (Flats.of (by rw [hl, List.length_map, hf.length]) fun j u hu => ?_)
  obtain ⟨k, hy⟩ := hw j u hu
  obtain ⟨dv, hd, hfl⟩ := hf.at hy
  exact ⟨_, by rw [List.getElem?_map, hd]; rfl, hfl⟩

/-- what a tuple of the ledger holds: the pair `p` -/
def PairObj (o : Obj) (p : PyData × PyData) : Prop := ∃ key x n, o = { cls := .type "tuple", data := .seq #[key, x] n } ∧ Flat key p.1 ∧ Flat x p.2
/-- the made tuples, in the order of `D` -/
def Tups : List (Addr × Obj) → List Addr → List (PyData × PyData) → Prop
  | tups, as, D => as.length = D.length ∧ (∀ (j : Nat) (a : Addr), as[j]? = some a → ∃ p o, D[j]? = some p ∧ (a, o) ∈ tups ∧ PairObj o p)
abbrev pairD (p : PyData × PyData) : PyData := .tuple [p.1, p.2]
theorem PairObj.reads {h : Heap} {a : Addr} {o : Obj} {p : PyData × PyData} (e : h.get? a = some o) (x : PairObj o p) : Reads h (.ref a) (pairD p) [] := by
  obtain ⟨key, y, n, rfl, f1, f2⟩ := x
  refine Reads.tuple e rfl rfl ?_
  simpa using ReadsAll.cons (f1 h) (ReadsAll.cons (f2 h) ReadsAll.nil)
theorem reads_refs {h : Heap} : ∀ {as : List Addr} {D : List (PyData × PyData)}, as.length = D.length → (∀ (j : Nat) (a : Addr), as[j]? = some a → ∃ p, D[j]? = some p ∧ Reads h (.ref a) (pairD p) []) → ReadsAll h (as.map Value.ref) (D.map pairD) []
  | [], [], _, _ => .nil
  | [], _ :: _, hl, _ => by simp at hl
  | _ :: _, [], hl, _ => by simp at hl
  | a :: as, p :: D, hl, hx => by
    obtain ⟨p', e, r⟩ := hx 0 a rfl
    have e' : p = p' := by simpa using e
    subst e'
    have := ReadsAll.cons r (reads_refs (as := as) (D := D) (by simpa using hl) fun j b hb => by
      obtain ⟨p₂, e₂, r₂⟩ := hx (j + 1) b (by simpa using hb)
      exact ⟨p₂, by simpa using e₂, r₂⟩)
    simpa using this
theorem Tups.list {h : Heap} {B : Addr} {n : Nat} {as : List Addr} {tups : List (Addr × Obj)} (t : Tups tups as D) (hb : h.get? B = some (listOf (as.map Value.ref).toArray n)) (ht : ∀ q ∈ tups, h.get? q.1 = some q.2) : Reads h (.ref B) (.list (D.map pairD)) [B] :=
  Reads.list hb rfl rfl (by
    simpa using reads_refs t.1 fun j a hj => by
      obtain ⟨p, o, e, hm, x⟩ := t.2 j a hj
      exact ⟨p, e, x.reads (ht _ hm)⟩)

theorem list_items {Q : Value → Shared → Prop} (hh : A.handled = none) (F : Fr h₀ L s.heap m) (N : News h₀ L s.heap news) (hv : (v, { cls := .type "dict_items", data := .fields #[.ref d] }) ∈ news) (hp : (d, o) ∈ news) (x : DataOf prog w o D) (hn : D.length ≤ 1000)
    (h : ∀ B c h' tk as tups, Fr h₀ L h' m → News h₀ L h' (tups ++ (B, listOf (as.map Value.ref).toArray c) :: news) → (∀ q ∈ news, q.1 < B) → (∀ q ∈ tups, B < q.1) → Tups tups as D → Q (.ref B) { s with heap := h', toks := tk }) :
    wpAny (model prog w) A (call (.type "list") [.ref v]) Q E s := by
  obtain ⟨kvs, hd, hf⟩ := x
  obtain ⟨ep, hat⟩ := (kda_dict N hp hd).dictAt
  refine kdx_call (knd := PySem.strKind prog w) (kvs := kvs) (ep := ep) hh ⟨_, (N _ hv).1, rfl, rfl⟩ hat (kdl_size (by rw [← hf.length]; omega)) fun h' tk acc c as hk hS hl hG hacc => ?_
  have ea : acc = (as.map Value.ref).toArray := by rw [← hacc, Array.toArray_toList]
  subst ea
  refine h _ c h' tk as (as.filterMap fun a => (h'.get? a).map fun o => (a, o)) (F.keeps hk) (fun q hq => ?_) (fun q hq => Heap.lt_size (N q hq).1) (fun q hq => ?_) ⟨by rw [hl, hf.length], fun j a hj => ?_⟩
  · rcases List.mem_append.mp hq with hq | hq
    · obtain ⟨a, ha, e⟩ := List.mem_filterMap.mp hq
      obtain ⟨o', eo, rfl⟩ := Option.map_eq_some_iff.mp e
      exact ⟨eo, kdx_fresh F (Nat.le_of_lt (hG.above _ ha))⟩
    · rcases List.mem_cons.mp hq with rfl | hq
      · exact ⟨hS, kdx_fresh F (Nat.le_refl _)⟩
      · exact ⟨hk _ _ (N q hq).1, (N q hq).2⟩
  · obtain ⟨a, ha, e⟩ := List.mem_filterMap.mp hq
    obtain ⟨o', eo, rfl⟩ := Option.map_eq_some_iff.mp e
    exact hG.above _ ha
  · obtain ⟨key, k, y, e1, e2, e3⟩ := hG.pairs j a hj
    obtain ⟨dv, hd, hfl⟩ := hf.at e1
    exact ⟨_, _, hd, List.mem_filterMap.mpr ⟨a, List.mem_of_getElem? hj, by rw [e3]; rfl⟩, key, y, _, rfl, kdl_flat_str e2, hfl⟩
end
end Mine

end
section
open PySem PySem.W PyProof.Rows PySem.Calls
set_option maxRecDepth 100000
set_option linter.unusedVariables false
namespace Mine
open PyProof.V PySem.Spec

section
variable {prog : Program} {w : World} {A : Around} {E : Value → Shared → Prop} {s : Shared} {h₀ : Heap} {L d v : Addr} {m : Str → Option Value} {news : List (Addr × Obj)} {o : Obj} {D : List (PyData × PyData)} {g : Obj → List (Addr × Obj)} {x : Str} {t : Tok}

theorem in_data {Q : Value → Shared → Prop} (N : News h₀ L s.heap news) (hp : (d, o) ∈ news) (y : DataOf prog w o D) (lo : (d == sysModules) = false)
    (h : Q (.bool (lookup (.str x) D).isSome) { s with toks := s.toks + 1 }) : wpAny (model prog w) A (compareOp .In (.str x t) (.ref d)) Q E s :=
  in_strTab (y.tab lo N hp) h
theorem in_dataS {Q : Value → Shared → Prop} {dv : PyData} (N : News h₀ L s.heap news) (hp : (d, o) ∈ news) (y : DataOf prog w o D) (lo : (d == sysModules) = false) (hl : lookup (.str x) D = some dv)
    (h : Q (.bool true) { s with toks := s.toks + 1 }) : wpAny (model prog w) A (compareOp .In (.str x t) (.ref d)) Q E s :=
  in_data N hp y lo (by rw [hl]; exact h)
theorem in_dataN {Q : Value → Shared → Prop} (N : News h₀ L s.heap news) (hp : (d, o) ∈ news) (y : DataOf prog w o D) (lo : (d == sysModules) = false) (hl : lookup (.str x) D = none)
    (h : Q (.bool false) { s with toks := s.toks + 1 }) : wpAny (model prog w) A (compareOp .In (.str x t) (.ref d)) Q E s :=
  in_data N hp y lo (by rw [hl]; exact h)
theorem get_data {Q : Value → Shared → Prop} {dflt : Value} {dd : PyData} (N : News h₀ L s.heap news) (hp : (d, o) ∈ news) (y : DataOf prog w o D) (lo : (d == sysModules) = false) (hd : Flat dflt dd)
    (h : ∀ v, Flat v ((lookup (.str x) D).getD dd) → Q v { s with toks := s.toks + 1 }) : wpAny (model prog w) A (call (.builtin "dict.get") [.ref d, .str x t, dflt]) Q E s :=
  call_get2_strTab (y.tab lo N hp) hd h
theorem item_data {Q : Value → Shared → Prop} {value slice : Expr} {dv : PyData} (N : News h₀ L s.heap news) (hp : (d, o) ∈ news) (y : DataOf prog w o D) (lo : (d == sysModules) = false) (hl : lookup (.str x) D = some dv)
    (h : ∀ v, Flat v dv → Q v { s with toks := s.toks + 1 })
    (hs : subscripted slice false (.ref d) (.str x t) = operate [.ref d, .str x t] (getItem (.ref d) (.str x t)) := by with_unfolding_all rfl) (hg : ∀ r, letTemporaryGo value (.ref d) r = pure () := by intro _; with_unfolding_all rfl) :
    wpAny (model prog w) A (subscriptTail value slice (.ref d) (.str x t)) Q E s :=
  item_strTab (y.tab lo N hp) hl h hs hg
/-- the operand is a chain of attributes -/
theorem item_dataT {Q : Value → Shared → Prop} {value slice : Expr} {dv : PyData} (N : News h₀ L s.heap news) (hp : (d, o) ∈ news) (y : DataOf prog w o D) (lo : (d == sysModules) = false) (hl : lookup (.str x) D = some dv)
    (h : ∀ v, Flat v dv → Q v { s with toks := s.toks + 1 })
    (hs : subscripted slice false (.ref d) (.str x t) = operate [.ref d, .str x t] (getItem (.ref d) (.str x t)) := by with_unfolding_all rfl) :
    wpAny (model prog w) A (subscriptTail value slice (.ref d) (.str x t)) Q E s := by
  obtain ⟨kvs, hd, hf⟩ := y
  have hD := kda_dict N hp hd
  obtain ⟨u, hu, hfl⟩ := hf.of_lookup PyProof.V.same_str hl
  exact tail_any hD.typeIs slot_dict_getitem.lookup (wpAny_getItem_of (strKind_is prog w x t) hD.mapOf hu (h u hfl)) hs
theorem item_missT {Q : Value → Shared → Prop} {value slice : Expr} (N : News h₀ L s.heap news) (hp : (d, o) ∈ news) (y : DataOf prog w o D) (lo : (d == sysModules) = false) (hh : A.handled = none) (hl : lookup (.str x) D = none)
    (h : ∀ h' e, Heap.NewExc s.heap h' e "KeyError" → E (.ref e) { s with heap := h', toks := s.toks + 1 })
    (hs : subscripted slice false (.ref d) (.str x t) = operate [.ref d, .str x t] (getItem (.ref d) (.str x t)) := by with_unfolding_all rfl) :
    wpAny (model prog w) A (subscriptTail value slice (.ref d) (.str x t)) Q E s := by
  have hD : s.TypeIs (.ref d) "dict" := by obtain ⟨kvs, hd, hf⟩ := y; exact (kda_dict N hp hd).typeIs
  exact tail_any hD slot_dict_getitem.lookup (getItem_tab_missing PyProof.V.same_str (strKind_is prog w x t) (y.tab lo N hp) hh hl h) hs
theorem set_data {Q : Unit → Shared → Prop} {u : Value} {du : PyData} (F : Fr h₀ L s.heap m) (N : News h₀ L s.heap news) (U : UpdF d o news g) (y : DataOf prog w o D) (hu : Flat u du) (hn : D.length ≤ 1000)
    (h : ∀ h' o', Fr h₀ L h' m → News h₀ L h' (g o') → DataOf prog w o' (putD (.str x) du D) → Q () { s with heap := h', toks := s.toks + 1 }) :
    wpAny (model prog w) A (setItem (.ref d) (.str x t) u) Q E s :=
  let ⟨_, a, b⟩ := y
  setItem_K PyProof.V.same_str (strKind_is prog w x t) hu F N U a b (fun h' o' F' N' a' b' => h h' o' F' N' ⟨_, a', b'⟩) (by rw [sizeLine_eq]; omega)
theorem del_data {Q : Unit → Shared → Prop} (F : Fr h₀ L s.heap m) (N : News h₀ L s.heap news) (U : UpdF d o news g) (y : DataOf prog w o D) (hl : (lookup (.str x) D).isSome = true) (hn : D.length ≤ 1000)
    (h : ∀ h' o', Fr h₀ L h' m → News h₀ L h' (g o') → DataOf prog w o' (delD (.str x) D) → Q () { s with heap := h', toks := s.toks + 1 }) :
    wpAny (model prog w) A (delItem (.ref d) (.str x t)) Q E s :=
  let ⟨_, a, b⟩ := y
  kt_del_K PyProof.V.same_str (strKind_is prog w x t) F N U a b hl (fun h' o' F' N' a' b' => h h' o' F' N' ⟨_, a', b'⟩) (by rw [sizeLine_eq]; omega)
theorem clear_data {Q : Value → Shared → Prop} (F : Fr h₀ L s.heap m) (N : News h₀ L s.heap news) (U : UpdF d o news g) (y : DataOf prog w o D) (hn : D.length ≤ 1000)
    (h : ∀ h' o', Fr h₀ L h' m → News h₀ L h' (g o') → DataOf prog w o' [] → Q .none { s with heap := h' }) :
    wpAny (model prog w) A (call (.builtin "dict.clear") [.ref d]) Q E s :=
  let ⟨_, a, b⟩ := y
  kt_clear_K F N U a b (fun h' o' F' N' a' b' => h h' o' F' N' ⟨_, a', b'⟩) (by rw [sizeLine_eq]; omega)
theorem iter_list {Q : Value → Shared → Prop} {l : Addr} {vs : List Value} {n : Nat} (F : Fr h₀ L s.heap m) (N : News h₀ L s.heap news) (hp : (l, listOf vs.toArray n) ∈ news)
    (h : ∀ (I : Addr) h', Fr h₀ L h' m → News h₀ L h' ((I, { cls := .type "list_iterator", data := .fields #[.ref l, .int 0 0] }) :: news) → (∀ q ∈ news, q.1 < I) → Q (.ref I) { s with heap := h' }) :
    wpAny (model prog w) A (call (.builtin "iter") [.ref l]) Q E s := by
  refine call_function_entry (by decide +kernel) (by decide +kernel) kdk_entry_iter (kdk_args_iter _) ?_
  unfold Builtin.«iter»
  refine wpAny_bind (m := someArgs "iter" 1 2 _) (wpAny_of_eq (a := [Value.ref l]) (by first | rfl | kernel_rfl!) ?_)
  show wpAny _ _ (pyIter (.ref l) >>= _) _ _ _
  refine wpAny_bind (wpAny_pyIter_list ⟨_, (N _ hp).1, rfl, n, rfl⟩ ?_)
  exact wpAny_pure ⟨_, rfl, h _ _ (F.push _) (News.push F N _ rfl) (fun q hq => Heap.lt_size (N q hq).1)⟩
theorem len_data {Q : Value → Shared → Prop} (N : News h₀ L s.heap news) (hp : (d, o) ∈ news) (y : DataOf prog w o D) (lo : (d == sysModules) = false) (hn : D.length ≤ 1000)
    (h : Q (.int D.length (s.toks + 1)) { s with toks := s.toks + 1 + 1 }) : wpAny (model prog w) A (call (.builtin "len") [.ref d]) Q E s :=
  len_tab (knd := PySem.strKind prog w) (enc := PyData.str) (y.tab lo N hp) (by omega) h
end

theorem DataOf.at {prog : Program} {w : World} {o : Obj} {D : List (PyData × PyData)} (y : DataOf prog w o D) {i : Nat} {pr : PyData × PyData} (h : D[i]? = some pr) : ∃ x dv, pr = (.str x, dv) ∧ PySem.Spec.lookup (.str x) D = some dv := by
  obtain ⟨kvs, hd, hf⟩ := y
  have hi : i < kvs.length := by rw [← hf.length]; exact (List.getElem?_eq_some_iff.mp h).1
  have hnd : (kvs.map (·.1)).Nodup := let ⟨_, _, _, _, _, _, hn⟩ := hd; hn
  obtain ⟨dv, e1, e2, _⟩ := hf.lookup_at PyProof.V.same_str hnd (i := i) (k := kvs[i].1) (v := kvs[i].2) (by rw [List.getElem?_eq_getElem hi])
  rw [h] at e1
  exact ⟨_, dv, Option.some.inj e1, e2⟩
theorem flats_take {vs : List Value} {ds : List PyData} {v : Value} {e : PyData} (h : Flats vs (ds.take vs.length)) (he : ds[vs.length]? = some e) (f : Flat v e) : Flats (vs ++ [v]) (ds.take (vs ++ [v]).length) := by
  rw [List.length_append, List.length_singleton, List.take_add_one, he]
  exact Flats.snoc h f
theorem flats_all {vs : List Value} {ds : List PyData} (h : Flats vs (ds.take vs.length)) (hl : vs.length = ds.length) : Flats vs ds := by rw [hl, List.take_length] at h; exact h
theorem putD_len (k v : PyData) (D : List (PyData × PyData)) : (putD k v D).length ≤ D.length + 1 := by
  unfold putD; split <;> simp
theorem delD_len (k : PyData) (D : List (PyData × PyData)) : (delD k D).length ≤ D.length := List.length_filter_le _ _

/-! ### comparing what is read -/
def Ok (d : PyData) : Prop := d.canLay0 = true ∧ d.depth = 0
theorem Ok.none : Ok .none := ⟨by simp [PyData.canLay0], by simp [PyData.depth]⟩
theorem Ok.int (i : Int) : Ok (.int i) := ⟨by simp [PyData.canLay0], by simp [PyData.depth]⟩
theorem Ok.bool (b : Bool) : Ok (.bool b) := ⟨by simp [PyData.canLay0], by simp [PyData.depth]⟩
def Good (D : List (PyData × PyData)) : Prop := ∀ p ∈ D, Ok p.1 ∧ Ok p.2
theorem Good.nil : Good [] := fun _ h => nomatch h
theorem Good.put {D : List (PyData × PyData)} {k v : PyData} (h : Good D) (hk : Ok k) (hv : Ok v) : Good (putD k v D) := by
  unfold putD
  split
  · intro p hp
    obtain ⟨q, hq, rfl⟩ := List.mem_map.mp hp
    split
    · exact ⟨(h q hq).1, hv⟩
    · exact h q hq
  · intro p hp
    rcases List.mem_append.mp hp with hp | hp
    · exact h p hp
    · rw [List.mem_singleton.mp hp]; exact ⟨hk, hv⟩
theorem Good.del {D : List (PyData × PyData)} {k : PyData} (h : Good D) : Good (delD k D) := fun p hp => h p (List.mem_filter.mp hp).1
theorem lookup_mem : ∀ {D : List (PyData × PyData)} {k v : PyData}, lookup k D = some v → ∃ q, (q, v) ∈ D
  | [], _, _, h => by simp [PySem.Spec.lookup] at h
  | (a, b) :: D, k, v, h => by
    simp only [PySem.Spec.lookup] at h
    split at h
    · cases h; exact ⟨a, .head _⟩
    · obtain ⟨q, hq⟩ := lookup_mem h; exact ⟨q, .tail _ hq⟩
theorem Good.look {D : List (PyData × PyData)} {k v : PyData} (h : Good D) (e : lookup k D = some v) : Ok v := by
  obtain ⟨q, hq⟩ := lookup_mem e
  exact (h _ hq).2
theorem Good.getD {D : List (PyData × PyData)} {k d : PyData} (h : Good D) (hd : Ok d) : Ok ((lookup k D).getD d) := by
  cases e : lookup k D with
  | none => exact hd
  | some v => exact h.look e
theorem canAll : ∀ {ds : List PyData}, (∀ d ∈ ds, d.canLay0 = true) → PyData.canLayAll0 ds = true
  | [], _ => by simp [PyData.canLayAll0]
  | d :: ds, h => by simp only [PyData.canLayAll0, Bool.and_eq_true]; exact ⟨h d (.head _), canAll fun e he => h e (.tail _ he)⟩
theorem depthAll : ∀ {ds : List PyData} {n : Nat}, (∀ d ∈ ds, d.depth ≤ n) → PyData.depthAll ds ≤ n
  | [], _, _ => by simp [PyData.depthAll]
  | d :: ds, n, h => by
    simp only [PyData.depthAll]
    exact Nat.max_le.mpr ⟨h d (.head _), depthAll fun e he => h e (.tail _ he)⟩
theorem shapedL {ds : List PyData} (h : ∀ d ∈ ds, d.canLay0 = true ∧ d.depth ≤ 4) : SeqAt.shaped (.list ds) = true := by
  unfold SeqAt.shaped
  rw [Bool.and_eq_true]
  refine ⟨by simp only [PyData.canLay0]; exact canAll fun d hd => (h d hd).1, decide_eq_true ?_⟩
  have := depthAll (n := 4) fun d hd => (h d hd).2
  simp only [PyData.depth]
  omega
theorem ok_pair {a b : PyData} (ha : Ok a) (hb : Ok b) : (pairD (a, b)).canLay0 = true ∧ (pairD (a, b)).depth ≤ 4 := by
  refine ⟨?_, ?_⟩
  · simp only [PyData.canLay0]
    exact canAll fun d hd => by
      rcases List.mem_cons.mp hd with rfl | hd
      · exact ha.1
      · rw [List.mem_singleton.mp hd]; exact hb.1
  · simp only [PyData.depth]
    have := depthAll (ds := [a, b]) (n := 0) fun d hd => by
      rcases List.mem_cons.mp hd with rfl | hd
      · exact Nat.le_of_eq ha.2
      · rw [List.mem_singleton.mp hd]; exact Nat.le_of_eq hb.2
    omega
theorem Good.keys {D : List (PyData × PyData)} (h : Good D) : SeqAt.shaped (.list (D.map (·.1))) = true := shapedL fun d hd => by
  obtain ⟨q, hq, rfl⟩ := List.mem_map.mp hd
  have := (h q hq).1
  exact ⟨this.1, by rw [this.2]; omega⟩
theorem Good.vals {D : List (PyData × PyData)} (h : Good D) : SeqAt.shaped (.list (D.map (·.2))) = true := shapedL fun d hd => by
  obtain ⟨q, hq, rfl⟩ := List.mem_map.mp hd
  have := (h q hq).2
  exact ⟨this.1, by rw [this.2]; omega⟩
theorem Good.pairs {D : List (PyData × PyData)} (h : Good D) : SeqAt.shaped (.list (D.map pairD)) = true := shapedL fun d hd => by
  obtain ⟨q, hq, rfl⟩ := List.mem_map.mp hd
  exact ok_pair (h q hq).1 (h q hq).2
theorem shaped_oks {ds : List PyData} (h : ∀ d ∈ ds, Ok d) : SeqAt.shaped (.list ds) = true := shapedL fun d hd => ⟨(h d hd).1, by rw [(h d hd).2]; omega⟩
theorem shaped_ok {d : PyData} (h : Ok d) : SeqAt.shaped d = true := by
  unfold SeqAt.shaped
  rw [Bool.and_eq_true]
  exact ⟨h.1, decide_eq_true (by rw [h.2]; omega)⟩

section
variable {prog : Program} {w : World} {A : Around} {E : Value → Shared → Prop} {s : Shared} {a b : Value} {d : PyData} {as bs : List Addr} {Q : Value → Shared → Prop}
theorem ne_lists {h₀ : Heap} {L a b : Addr} {news : List (Addr × Obj)} {vs us : List Value} {ds : List PyData} {n k : Nat} (N : News h₀ L s.heap news) (ha : (a, listOf vs.toArray n) ∈ news) (fa : Flats vs ds) (hb : (b, listOf us.toArray k) ∈ news) (fb : Flats us ds)
    (hs : SeqAt.shaped (.list ds) = true) (hu : A.units + 64 < cLine) (h : Q (.bool false) s) : wpAny (model prog w) A (compareOp .NotEq (.ref a) (.ref b)) Q E s :=
  ne_dataH (Flats.list (N _ ha).1 fa) (Flats.list (N _ hb).1 fb) hs hs hu (by rw [SeqAt.eqv_refl _ (SeqAt.canLay_of_shaped hs)]; exact h)
theorem eq_lists {h₀ : Heap} {L a b : Addr} {news : List (Addr × Obj)} {vs us : List Value} {ds : List PyData} {n k : Nat} (N : News h₀ L s.heap news) (ha : (a, listOf vs.toArray n) ∈ news) (fa : Flats vs ds) (hb : (b, listOf us.toArray k) ∈ news) (fb : Flats us ds)
    (hs : SeqAt.shaped (.list ds) = true) (hu : A.units + 64 < cLine) (h : Q (.bool true) s) : wpAny (model prog w) A (compareOp .Eq (.ref a) (.ref b)) Q E s :=
  eq_dataH (Flats.list (N _ ha).1 fa) (Flats.list (N _ hb).1 fb) hs hs hu (by rw [SeqAt.eqv_refl _ (SeqAt.canLay_of_shaped hs)]; exact h)
theorem ne_items {h₀ : Heap} {L a b : Addr} {news t1 t2 : List (Addr × Obj)} {as bs : List Addr} {D : List (PyData × PyData)} {n k : Nat} (N : News h₀ L s.heap news) (ha : (a, listOf (as.map Value.ref).toArray n) ∈ news) (fa : Tups t1 as D) (m1 : ∀ q ∈ t1, q ∈ news) (hb : (b, listOf (bs.map Value.ref).toArray k) ∈ news) (fb : Tups t2 bs D) (m2 : ∀ q ∈ t2, q ∈ news)
    (hs : SeqAt.shaped (.list (D.map pairD)) = true) (hu : A.units + 64 < cLine) (h : Q (.bool false) s) : wpAny (model prog w) A (compareOp .NotEq (.ref a) (.ref b)) Q E s :=
  ne_dataH (fa.list (N _ ha).1 fun q hq => (N q (m1 q hq)).1) (fb.list (N _ hb).1 fun q hq => (N q (m2 q hq)).1) hs hs hu (by rw [SeqAt.eqv_refl _ (SeqAt.canLay_of_shaped hs)]; exact h)
theorem eq_self (ra : Reads s.heap a d as) (rb : Reads s.heap b d bs) (hs : SeqAt.shaped d = true) (hu : A.units + 64 < cLine) (h : Q (.bool true) s) : wpAny (model prog w) A (compareOp .Eq a b) Q E s :=
  eq_dataH ra rb hs hs hu (by rw [SeqAt.eqv_refl d (SeqAt.canLay_of_shaped hs)]; exact h)
theorem ne_self (ra : Reads s.heap a d as) (rb : Reads s.heap b d bs) (hs : SeqAt.shaped d = true) (hu : A.units + 64 < cLine) (h : Q (.bool false) s) : wpAny (model prog w) A (compareOp .NotEq a b) Q E s :=
  ne_dataH ra rb hs hs hu (by rw [SeqAt.eqv_refl d (SeqAt.canLay_of_shaped hs)]; exact h)
end
end Mine

end
open PySem PySem.W PyProof.Rows PySem.Calls
local macro_rules | `(tactic| lsm_bools) => `(tactic| with_reducible (first | assumption | exact List.Mem.head _ | (refine List.Mem.tail _ ?_; lsm_bools) | (refine List.mem_append_left _ ?_; lsm_bools) | (refine List.mem_append_right _ ?_; lsm_bools)))
local macro_rules | `(tactic| kat_tups) => `(tactic| first | assumption | exact List.Mem.head _ | (refine List.Mem.tail _ ?_; kat_tups) | (refine List.mem_append_left _ ?_; kat_tups) | (refine List.mem_append_right _ ?_; kat_tups))
local macro_rules | `(tactic| k_mem) => `(tactic| first | lsm_bools | kat_tups)
local macro_rules | `(tactic| krn_off) => `(tactic| first | with_reducible assumption | (refine (if_neg (by decide)).trans ?_; krn_off))
local macro_rules | `(tactic| walk_at "call builtin:object.__setattr__") => `(tactic| (k_here; k_dflt (refine' Mine.osa_slot ?k1 ?k2 ?k3 ?k4 ?k5 ?k6 ?k7 ?k8 ?k9 ?k10 ?k11 ?k12 ?_; (case k1 => k_asm); (case k2 => k_asm); (case k3 => k_asm); (case k4 => k_inst); (case k5 => k_is); (case k6 => k_is); (case k7 => k_is); (case k8 => k_is); (case k9 => decide); (case k10 => k_slotset); (case k11 => exact rfl); (case k12 => k_upd); k_whole; intro h' F' N'; (try k_sweep))))
local macro_rules | `(tactic| walk_at "getAttr ref") => `(tactic| (k_here; k_dflt (first
  | (refine' Mine.get_slotH ?k1 ?k2 ?k3 ?k4 ?k5 ?k6 ?k7 ?k8 ?k9 ?k10 ?k11 ?_; (case k1 => k_in); (case k2 => k_inst); (case k3 => k_is); (case k4 => k_is); (case k5 => k_is); (case k6 => k_is); (case k7 => k_is); (case k8 => k_is); (case k9 => k_is); (case k10 => k_slotget); (case k11 => k_handed); k_whole)
  | (refine' Mine.get_methN ?k1 ?k2 ?k3 ?k4 ?k5 ?k6 ?k7 ?k8 ?k9 ?k10 ?k11 ?k12 ?k13 ?_; (case k1 => k_asm); (case k2 => k_asm); (case k3 => k_asm); (case k4 => k_inst); (case k5 => k_is); (case k6 => k_is); (case k7 => k_is); (case k8 => k_is); (case k9 => k_is); (case k10 => k_is); (case k11 => k_is); (case k12 => decide +kernel); (case k13 => k_is); k_whole; intro q' h' F' N' l1; (try k_lt l1); (try k_sweep)))))
local macro_rules | `(tactic| walk_at "getMethod ref") => `(tactic| (k_here; k_dflt (refine' Mine.methodH ?k1 ?k2 ?k3 ?k4 ?_; (case k1 => k_in); (case k2 => k_inst); (case k3 => k_is); (case k4 => k_is); k_whole)))
local macro_rules | `(tactic| walk_at "getMethod ref") => `(tactic| (k_here; k_dflt (first
  | ((with_reducible show wpAny _ _ (getMethod (Value.ref _) (Str.ofString "values") _) _ _ _); refine Mine.lm_meth PySem.F.slot_dict_values PySem.F.type_dict_values (by k_asm) (by k_mem) (by k_asm) ?_)
  | ((with_reducible show wpAny _ _ (getMethod (Value.ref _) (Str.ofString "items") _) _ _ _); refine Mine.lm_meth PySem.F.slot_dict_items PySem.F.type_dict_items (by k_asm) (by k_mem) (by k_asm) ?_)
  | ((with_reducible show wpAny _ _ (getMethod (Value.ref _) (Str.ofString "get") _) _ _ _); refine Mine.lm_meth PySem.F.slot_dict_get PySem.F.type_dict_get (by k_asm) (by k_mem) (by k_asm) ?_)
  | ((with_reducible show wpAny _ _ (getMethod (Value.ref _) (Str.ofString "update") _) _ _ _); refine Mine.lm_meth PySem.F.slot_dict_update PySem.F.type_dict_update (by k_asm) (by k_mem) (by k_asm) ?_)
  | ((with_reducible show wpAny _ _ (getMethod (Value.ref _) (Str.ofString "clear") _) _ _ _); refine Mine.lm_meth PySem.F.slot_dict_clear PySem.F.type_dict_clear (by k_asm) (by k_mem) (by k_asm) ?_))))
local macro_rules | `(tactic| walk_at "call type:list") => `(tactic| (k_here; (with_reducible show wpAny _ _ (call (Value.type "list") [Value.ref _]) _ _ _); k_dflt (first
  | (refine' Mine.list_keys ?k1 ?k2 ?k3 ?k4 ?k5 ?k6 ?k7 ?_; (case k1 => exact rfl); (case k2 => k_asm); (case k3 => k_asm); (case k4 => k_mem); (case k5 => k_asm); (case k6 => k_asm); (case k7 => first | assumption | omega); k_whole; intro B' c' h' tk' vs' F' N' l1 f')
  | (refine' Mine.list_values ?k1 ?k2 ?k3 ?k4 ?k5 ?k6 ?k7 ?_; (case k1 => exact rfl); (case k2 => k_asm); (case k3 => k_asm); (case k4 => k_mem); (case k5 => k_mem); (case k6 => k_asm); (case k7 => first | assumption | omega); k_whole; intro B' c' h' tk' vs' F' N' l1 f')
  | (refine' Mine.list_items ?k1 ?k2 ?k3 ?k4 ?k5 ?k6 ?k7 ?_; (case k1 => exact rfl); (case k2 => k_asm); (case k3 => k_asm); (case k4 => k_mem); (case k5 => k_mem); (case k6 => k_asm); (case k7 => first | assumption | omega); k_whole; intro B' c' h' tk' as' tups' F' N' l1 l2 f'))))
local macro_rules | `(tactic| walk_at "call builtin:dict.values") => `(tactic| (k_here; k_dflt (refine' Mine.values_view ?k1 ?k2 ?k3 ?k4 ?k5 ?_; (case k1 => k_asm); (case k2 => k_asm); (case k3 => k_mem); (case k4 => k_asm); (case k5 => k_asm); k_whole; intro B' h' F' N' l1)))
local macro_rules | `(tactic| walk_at "call builtin:dict.items") => `(tactic| (k_here; k_dflt (refine' Mine.items_view ?k1 ?k2 ?k3 ?k4 ?k5 ?_; (case k1 => k_asm); (case k2 => k_asm); (case k3 => k_mem); (case k4 => k_asm); (case k5 => k_asm); k_whole; intro B' h' F' N' l1)))
local macro_rules | `(tactic| walk_at "call builtin:dict.get") => `(tactic| (k_here; k_dflt (refine' Mine.get_data ?k1 ?k2 ?k3 ?k4 ?k5 ?_; (case k1 => k_asm); (case k2 => k_mem); (case k3 => k_asm); (case k4 => k_asm); (case k5 => k_flat); k_whole; intro v' fv')))
local macro_rules | `(tactic| walk_at "call builtin:len") => `(tactic| (k_here; (with_reducible show wpAny _ _ (call (Value.builtin "len") [Value.ref _]) _ _ _); k_dflt (refine' Mine.len_data ?k1 ?k2 ?k3 ?k4 ?k5 ?_; (case k1 => k_asm); (case k2 => k_mem); (case k3 => k_asm); (case k4 => k_asm); (case k5 => first | assumption | omega); k_whole)))
local macro_rules | `(tactic| walk_at "compareOp In str ref") => `(tactic| (k_here; k_dflt (refine' Mine.in_data ?k1 ?k2 ?k3 ?k4 ?_; (case k1 => k_asm); (case k2 => k_mem); (case k3 => k_asm); (case k4 => k_asm); k_whole)))
local macro_rules | `(tactic| walk_at "compareOp In str ref") => `(tactic| (k_here; k_dflt (first
  | (refine' Mine.in_dataS ?k1 ?k2 ?k3 ?k4 ?k5 ?_; (case k5 => assumption); (case k1 => k_asm); (case k2 => k_mem); (case k3 => k_asm); (case k4 => k_asm); k_whole)
  | (refine' Mine.in_dataN ?k1 ?k2 ?k3 ?k4 ?k5 ?_; (case k5 => assumption); (case k1 => k_asm); (case k2 => k_mem); (case k3 => k_asm); (case k4 => k_asm); k_whole))))
local macro_rules | `(tactic| walk_at "subscriptTail") => `(tactic| (k_here; (with_reducible show wpAny _ _ (subscriptTail _ _ (Value.ref _) (Value.str _ _)) _ _ _); k_dflt (refine' Mine.item_dataT ?k1 ?k2 ?k3 ?k4 ?k5 ?_ ?k6; (case k5 => assumption); (case k1 => k_asm); (case k2 => k_mem); (case k3 => k_asm); (case k4 => k_asm); (case k6 => with_unfolding_all rfl); k_whole; intro v' fv')))
local macro_rules | `(tactic| walk_at "subscriptTail Name") => `(tactic| (k_here; (with_reducible show wpAny _ _ (subscriptTail _ _ (Value.ref _) (Value.str _ _)) _ _ _); k_dflt (refine' Mine.item_dataT ?k1 ?k2 ?k3 ?k4 ?k5 ?_ ?k6; (case k5 => assumption); (case k1 => k_asm); (case k2 => k_mem); (case k3 => k_asm); (case k4 => k_asm); (case k6 => with_unfolding_all rfl); k_whole; intro v' fv')))
local macro_rules | `(tactic| kcj_all) => `(tactic| first | exact List.forall_mem_nil _ | (refine List.forall_mem_cons.mpr ⟨by k_mem, ?_⟩; kcj_all) | (refine List.forall_mem_append.mpr ⟨?_, ?_⟩ <;> kcj_all) | (intro q hq; k_mem))
local macro_rules | `(tactic| cell_enter) => `(tactic| first
  | (refine' code_def ?k1 ?k2 ?k3 ?k4 ?k5 ?kA ?kF ?kK ?k6 ?k7 ?k8 ?k9 ?kB ?_ ?c2 ?c3 ?c4 ?c5; (case kA => exact rfl); (case kF => exact rfl); (case kK => assumption); (case k1 => k_asm); (case k2 => k_asm); (case k3 => k_asm); (case k4 => k_asm); (case k5 => k_asm); (case k6 => k_is); (case k7 => k_is); (case k8 => ktr_room); (case k9 => first | exact BindsTo.of_eq rfl | exact binds_K (by k_in) rfl (by k_is) rfl rfl rfl); (case c5 => decide); (case kB => exact locs rfl); (case c2 => exact rfl); (case c3 => exact rfl); (case c4 => exact rfl); k_whole; intro g' L' h' FG' F' N' B' X' T'; (try dsimp only); (try k_lift B'); (try k_fold))
  | (refine' code_defC ?k1 ?k2 ?k3 ?k4 ?k5 ?kA ?kF ?kK ?k6 ?k7 ?k8 ?k9 ?kB ?kD ?_ ?c2 ?c3 ?c4; (case kA => exact rfl); (case kF => exact rfl); (case kK => assumption); (case k1 => k_asm); (case k2 => k_asm); (case k3 => k_asm); (case k4 => k_asm); (case k5 => k_asm); (case k6 => k_is); (case k7 => k_is); (case k8 => ktr_room); (case k9 => first | exact BindsTo.of_eq rfl | exact binds_K (by k_in) rfl (by k_is) rfl rfl rfl); (case kB => exact rfl); (case kD => decide +kernel); (case c2 => exact rfl); (case c3 => exact rfl); (case c4 => exact rfl); k_whole; intro g' L' h' tk' cells' FG' F' N' Y' B' X' T' l1; k_cells Y'; (try simp only [List.cons_append, List.nil_append] at N'); (try dsimp only); (try k_lift B'); (try k_fold)))
local macro_rules | `(tactic| walk_at "call builtin:iter") => `(tactic| (k_here; (with_reducible show wpAny _ _ (call (Value.builtin "iter") [Value.ref _]) _ _ _); k_dflt (refine' Mine.iter_list ?k1 ?k2 ?k3 ?_; (case k1 => k_asm); (case k2 => k_asm); (case k3 => k_mem); k_whole; intro I' h' F' N' l1)))
local macro_rules | `(tactic| k_room) => `(tactic| ktr_room)
local macro_rules | `(tactic| k_units) => `(tactic| ktr_units)
local macro_rules | `(tactic| units_room) => `(tactic| ktr_units)
local macro_rules | `(tactic| k_updF) => `(tactic| first | assumption | (refine' UpdF.head ?a; (case a => first | with_reducible assumption | k_all)) | (refine' UpdF.tail ?a ?b; (case a => first | with_reducible assumption | k_ne | exact Nat.ne_of_gt (Mine.lt_of_all (by (first | with_reducible assumption | with_reducible_and_instances assumption | assumption)) (by (first | lsm_bools | kat_tups) : (_, _) ∈ _))); (case b => k_updF)))
local macro_rules | `(tactic| k_flat) => `(tactic| first | assumption | exact PyProof.V.Flat.int _ _ | exact PyProof.V.Flat.str _ _ | exact PyProof.V.Flat.bool _ | exact PyProof.V.Flat.none)
local macro_rules | `(tactic| walk_at "setItem ref str") => `(tactic| (k_here; k_dflt (refine' Mine.set_data ?k1 ?k2 ?k3 ?k4 ?k5 ?k6 ?_; (case k4 => k_asm); (case k3 => k_updF); (case k1 => k_asm); (case k2 => k_asm); (case k5 => k_flat); (case k6 => first | assumption | omega); k_whole; intro h' o' F' N' y'; (try dsimp only at N'))))
local macro_rules | `(tactic| walk_at "delItem ref str") => `(tactic| (k_here; k_dflt (refine' Mine.del_data ?k1 ?k2 ?k3 ?k4 ?k5 ?k6 ?_; (case k4 => k_asm); (case k5 => assumption); (case k3 => k_updF); (case k1 => k_asm); (case k2 => k_asm); (case k6 => first | assumption | omega); k_whole; intro h' o' F' N' y'; (try dsimp only at N'))))
local macro_rules | `(tactic| walk_at "call builtin:dict.clear") => `(tactic| (k_here; k_dflt (refine' Mine.clear_data ?k1 ?k2 ?k3 ?k4 ?k5 ?_; (case k4 => k_asm); (case k3 => k_updF); (case k1 => k_asm); (case k2 => k_asm); (case k5 => first | assumption | omega); k_whole; intro h' o' F' N' y'; (try dsimp only at N'))))
local macro_rules | `(tactic| walk_at "compareOp NotEq ref ref") => `(tactic| (k_here; (with_reducible show wpAny _ _ (compareOp CmpOp.NotEq (Value.ref _) (Value.ref _)) _ _ _); k_dflt (first
  | (refine' Mine.ne_lists ?N ?ha ?fa ?hb ?fb ?hs ?hu ?_; (case N => k_asm); (case ha => k_mem); (case hb => k_mem); (case fa => assumption); (case fb => assumption); (case hu => ktr_units); (case hs => first | exact Mine.Good.keys (by assumption) | exact Mine.Good.vals (by assumption) | assumption); k_whole)
  | (refine' Mine.ne_items ?N ?ha ?fa ?m1 ?hb ?fb ?m2 ?hs ?hu ?_; (case N => k_asm); (case ha => k_mem); (case hb => k_mem); (case fa => assumption); (case fb => assumption); (case m1 => kcj_all); (case m2 => kcj_all); (case hu => ktr_units); (case hs => exact Mine.Good.pairs (by assumption)); k_whole))))
local macro_rules | `(tactic| walk_at "eval Name") => `(tactic| (k_here; (fail_if_success (with_reducible show wpAny _ _ (eval _ (compEnvC _ _ _ _)) _ _ _)); k_dflt (first
  | (refine' nameX_L ?F ?v ?_ ?a ?b; (case b => exact rfl); (case a => exact rfl); (case F => k_asm); (case v => first | with_reducible assumption | rfl); k_whole)
  | (refine' nameX_K ?F ?X ?T ?e ?_ ?a ?b; (case b => exact rfl); (case a => exact rfl); (case F => k_asm); (case X => k_asm); (case T => k_asm); (case e => k_is); k_whole)
  | (refine' nameX_B ?F ?X ?T ?e ?v ?n ?_ ?a ?b; (case b => exact rfl); (case a => exact rfl); (case F => k_asm); (case X => k_asm); (case T => k_asm); (case e => k_is); (case v => boot_by_name); (case n => decide); k_whole))))
namespace Mine
open PyProof.V PySem.Spec
abbrev slotO (C dx d : Addr) : Obj := ⟨.ref C, some dx, .plain, #[some (.ref d)]⟩

section
variable {w : World} {dp un : Nat} {gd : Option (List Code)} {cn : Str} {cs : Scope} {a : Addr} {ccd : Value} {cl : List (Str × Addr)} {outer : List Env} {A₀ : Around} {base h₀ : Heap} {L : Addr} {m : Str → Option Value} {s : Shared}
  {R : Result → Shared → Prop} {news : List (Addr × Obj)} {mg mb : Str → Option Value} {mean : ExcName → Option Value} {p C dx d : Addr} {o : Obj} {D : List (PyData × PyData)}
set_option maxHeartbeats 8000000 in
theorem c_keys (hC : C = 195 ∨ C = 217 ∨ C = 231) (h1 : (p, slotO C dx d) ∈ news) (h2 : (dx, dictOf [] 0) ∈ news) (h3 : (d, o) ∈ news) (hD : DataOf PySem.Challenge.rw_ep5036_01.row.prog w o D) (lo : (d == sysModules) = false) (hn : D.length ≤ 1000) (B : Below A₀ base outer h₀) (F : Fr h₀ L s.heap m) (X : (Mine.hd.heap_39 w.params).In h₀) (N : News h₀ L s.heap news) (T : Top Mine.hd.view_39 (looseW Mine.hd.view_39 [Str.ofString "ReadOnlyContainer", Str.ofString "Properties", Str.ofString "OrderedProperties", Str.ofString "ReadOnlyProperties"]) mean mg mb h₀) (hck : cs.kind = .function) (hdp : dp + 10 < recursionLimit) (hun : un + 100 < cLine)
    (hret : ∀ r c h' tk vs, Fr h₀ L h' m → News h₀ L h' ((r, listOf vs.toArray c) :: news) → (∀ q ∈ news, q.1 < r) → Flats vs (D.map (·.1)) → R (.ok (.ret (.ref r))) { s with heap := h', toks := tk }) :
    codeAny (model PySem.Challenge.rw_ep5036_01.row.prog w) (ktrTop dp un gd cn cs L a ccd cl outer) (.call (.ref 163) ⟨[.ref p], []⟩) R s := by
  revert X
  k_fill
  intro X
  rcases hC with rfl | rfl | rfl <;> (k_dflt cell_enter; k_steps; exact hret _ _ _ _ _ (by assumption) (by assumption) (by assumption) (by assumption))
set_option maxHeartbeats 8000000 in
theorem c_values (hC : C = 195 ∨ C = 217 ∨ C = 231) (h1 : (p, slotO C dx d) ∈ news) (h2 : (dx, dictOf [] 0) ∈ news) (h3 : (d, o) ∈ news) (hD : DataOf PySem.Challenge.rw_ep5036_01.row.prog w o D) (lo : (d == sysModules) = false) (hn : D.length ≤ 1000) (B : Below A₀ base outer h₀) (F : Fr h₀ L s.heap m) (X : (Mine.hd.heap_39 w.params).In h₀) (N : News h₀ L s.heap news) (T : Top Mine.hd.view_39 (looseW Mine.hd.view_39 [Str.ofString "ReadOnlyContainer", Str.ofString "Properties", Str.ofString "OrderedProperties", Str.ofString "ReadOnlyProperties"]) mean mg mb h₀) (hck : cs.kind = .function) (hdp : dp + 10 < recursionLimit) (hun : un + 100 < cLine)
    (hret : ∀ r c h' tk vs, Fr h₀ L h' m → News h₀ L h' ((r, listOf vs.toArray c) :: news) → (∀ q ∈ news, q.1 < r) → Flats vs (D.map (·.2)) → R (.ok (.ret (.ref r))) { s with heap := h', toks := tk }) :
    codeAny (model PySem.Challenge.rw_ep5036_01.row.prog w) (ktrTop dp un gd cn cs L a ccd cl outer) (.call (.ref 170) ⟨[.ref p], []⟩) R s := by
  rcases hC with rfl | rfl | rfl <;> (k_dflt cell_enter; k_steps; exact hret _ _ _ _ _ (by assumption) (cb_drop (by assumption) (by kcj_all)) (fun q hq => lt_of_all (by assumption) (by k_mem)) (by assumption))
set_option maxHeartbeats 8000000 in
theorem c_items (hC : C = 195 ∨ C = 217 ∨ C = 231) (h1 : (p, slotO C dx d) ∈ news) (h2 : (dx, dictOf [] 0) ∈ news) (h3 : (d, o) ∈ news) (hD : DataOf PySem.Challenge.rw_ep5036_01.row.prog w o D) (lo : (d == sysModules) = false) (hn : D.length ≤ 1000) (B : Below A₀ base outer h₀) (F : Fr h₀ L s.heap m) (X : (Mine.hd.heap_39 w.params).In h₀) (N : News h₀ L s.heap news) (T : Top Mine.hd.view_39 (looseW Mine.hd.view_39 [Str.ofString "ReadOnlyContainer", Str.ofString "Properties", Str.ofString "OrderedProperties", Str.ofString "ReadOnlyProperties"]) mean mg mb h₀) (hck : cs.kind = .function) (hdp : dp + 10 < recursionLimit) (hun : un + 100 < cLine)
    (hret : ∀ r c h' tk as tups, Fr h₀ L h' m → News h₀ L h' (tups ++ (r, listOf (as.map Value.ref).toArray c) :: news) → (∀ q ∈ news, q.1 < r) → (∀ q ∈ tups, r < q.1) → Tups tups as D → R (.ok (.ret (.ref r))) { s with heap := h', toks := tk }) :
    codeAny (model PySem.Challenge.rw_ep5036_01.row.prog w) (ktrTop dp un gd cn cs L a ccd cl outer) (.call (.ref 177) ⟨[.ref p], []⟩) R s := by
  rcases hC with rfl | rfl | rfl <;> (k_dflt cell_enter; k_steps; refine' hret _ _ _ _ _ _ ?a ?b ?c ?d ?e; (case e => assumption); (case a => assumption); (case d => assumption); (case b => exact cb_drop (by assumption) (by kcj_all)); (case c => exact fun q hq => lt_of_all (by assumption) (by k_mem)))
set_option maxHeartbeats 8000000 in
theorem c_haskey {x : Str} {t : Tok} (hC : C = 195 ∨ C = 217 ∨ C = 231) (h1 : (p, slotO C dx d) ∈ news) (h2 : (dx, dictOf [] 0) ∈ news) (h3 : (d, o) ∈ news) (hD : DataOf PySem.Challenge.rw_ep5036_01.row.prog w o D) (lo : (d == sysModules) = false) (hn : D.length ≤ 1000) (B : Below A₀ base outer h₀) (F : Fr h₀ L s.heap m) (X : (Mine.hd.heap_39 w.params).In h₀) (N : News h₀ L s.heap news) (T : Top Mine.hd.view_39 (looseW Mine.hd.view_39 [Str.ofString "ReadOnlyContainer", Str.ofString "Properties", Str.ofString "OrderedProperties", Str.ofString "ReadOnlyProperties"]) mean mg mb h₀) (hck : cs.kind = .function) (hdp : dp + 10 < recursionLimit) (hun : un + 100 < cLine)
    (hret : ∀ h' tk, Fr h₀ L h' m → News h₀ L h' news → R (.ok (.ret (.bool (lookup (.str x) D).isSome))) { s with heap := h', toks := tk }) :
    codeAny (model PySem.Challenge.rw_ep5036_01.row.prog w) (ktrTop dp un gd cn cs L a ccd cl outer) (.call (.ref 184) ⟨[.ref p, .str x t], []⟩) R s := by
  rcases hC with rfl | rfl | rfl <;> (k_dflt cell_enter; k_steps; exact hret _ _ (by assumption) (by assumption))
set_option maxHeartbeats 8000000 in
theorem c_contains {x : Str} {t : Tok} (hC : C = 195 ∨ C = 217 ∨ C = 231) (h1 : (p, slotO C dx d) ∈ news) (h2 : (dx, dictOf [] 0) ∈ news) (h3 : (d, o) ∈ news) (hD : DataOf PySem.Challenge.rw_ep5036_01.row.prog w o D) (lo : (d == sysModules) = false) (hn : D.length ≤ 1000) (B : Below A₀ base outer h₀) (F : Fr h₀ L s.heap m) (X : (Mine.hd.heap_39 w.params).In h₀) (N : News h₀ L s.heap news) (T : Top Mine.hd.view_39 (looseW Mine.hd.view_39 [Str.ofString "ReadOnlyContainer", Str.ofString "Properties", Str.ofString "OrderedProperties", Str.ofString "ReadOnlyProperties"]) mean mg mb h₀) (hck : cs.kind = .function) (hdp : dp + 10 < recursionLimit) (hun : un + 100 < cLine)
    (hret : ∀ h' tk, Fr h₀ L h' m → News h₀ L h' news → R (.ok (.ret (.bool (lookup (.str x) D).isSome))) { s with heap := h', toks := tk }) :
    codeAny (model PySem.Challenge.rw_ep5036_01.row.prog w) (ktrTop dp un gd cn cs L a ccd cl outer) (.call (.ref 134) ⟨[.ref p, .str x t], []⟩) R s := by
  rcases hC with rfl | rfl | rfl <;> (k_dflt cell_enter; k_steps; exact hret _ _ (by assumption) (by assumption))
set_option maxHeartbeats 8000000 in
theorem c_len (hC : C = 195 ∨ C = 217 ∨ C = 231) (h1 : (p, slotO C dx d) ∈ news) (h2 : (dx, dictOf [] 0) ∈ news) (h3 : (d, o) ∈ news) (hD : DataOf PySem.Challenge.rw_ep5036_01.row.prog w o D) (lo : (d == sysModules) = false) (hn : D.length ≤ 1000) (B : Below A₀ base outer h₀) (F : Fr h₀ L s.heap m) (X : (Mine.hd.heap_39 w.params).In h₀) (N : News h₀ L s.heap news) (T : Top Mine.hd.view_39 (looseW Mine.hd.view_39 [Str.ofString "ReadOnlyContainer", Str.ofString "Properties", Str.ofString "OrderedProperties", Str.ofString "ReadOnlyProperties"]) mean mg mb h₀) (hck : cs.kind = .function) (hdp : dp + 10 < recursionLimit) (hun : un + 100 < cLine)
    (hret : ∀ h' tk t, Fr h₀ L h' m → News h₀ L h' news → R (.ok (.ret (.int D.length t))) { s with heap := h', toks := tk }) :
    codeAny (model PySem.Challenge.rw_ep5036_01.row.prog w) (ktrTop dp un gd cn cs L a ccd cl outer) (.call (.ref 78) ⟨[.ref p], []⟩) R s := by
  rcases hC with rfl | rfl | rfl <;> (k_dflt cell_enter; k_steps; exact hret _ _ _ (by assumption) (by assumption))
set_option maxHeartbeats 8000000 in
theorem c_iter (hC : C = 195 ∨ C = 217 ∨ C = 231) (h1 : (p, slotO C dx d) ∈ news) (h2 : (dx, dictOf [] 0) ∈ news) (h3 : (d, o) ∈ news) (hD : DataOf PySem.Challenge.rw_ep5036_01.row.prog w o D) (lo : (d == sysModules) = false) (hn : D.length ≤ 1000) (B : Below A₀ base outer h₀) (F : Fr h₀ L s.heap m) (X : (Mine.hd.heap_39 w.params).In h₀) (N : News h₀ L s.heap news) (T : Top Mine.hd.view_39 (looseW Mine.hd.view_39 [Str.ofString "ReadOnlyContainer", Str.ofString "Properties", Str.ofString "OrderedProperties", Str.ofString "ReadOnlyProperties"]) mean mg mb h₀) (hck : cs.kind = .function) (hdp : dp + 10 < recursionLimit) (hun : un + 100 < cLine)
    (hret : ∀ it r c h' tk vs, Fr h₀ L h' m → News h₀ L h' ((it, { cls := .type "list_iterator", data := .fields #[.ref r, .int 0 0] }) :: (r, listOf vs.toArray c) :: news) → (∀ q ∈ news, q.1 < r) → r < it → Flats vs (D.map (·.2)) → R (.ok (.ret (.ref it))) { s with heap := h', toks := tk }) :
    codeAny (model PySem.Challenge.rw_ep5036_01.row.prog w) (ktrTop dp un gd cn cs L a ccd cl outer) (.call (.ref 85) ⟨[.ref p], []⟩) R s := by
  rcases hC with rfl | rfl | rfl <;> (k_dflt cell_enter; k_steps; refine' hret _ _ _ _ _ _ ?a ?b ?c ?d ?e; (case e => assumption); (case a => assumption); (case b => exact cb_drop (by assumption) (by kcj_all)); (case d => exact lt_of_all (by assumption) (List.Mem.head _)); (case c => exact fun q hq => lt_of_all (by assumption) (by k_mem)))
set_option maxHeartbeats 8000000 in
theorem c_get {x y : Str} {t u : Tok} (hC : C = 195 ∨ C = 217 ∨ C = 231) (h1 : (p, slotO C dx d) ∈ news) (h2 : (dx, dictOf [] 0) ∈ news) (h3 : (d, o) ∈ news) (hD : DataOf PySem.Challenge.rw_ep5036_01.row.prog w o D) (lo : (d == sysModules) = false) (hn : D.length ≤ 1000) (B : Below A₀ base outer h₀) (F : Fr h₀ L s.heap m) (X : (Mine.hd.heap_39 w.params).In h₀) (N : News h₀ L s.heap news) (T : Top Mine.hd.view_39 (looseW Mine.hd.view_39 [Str.ofString "ReadOnlyContainer", Str.ofString "Properties", Str.ofString "OrderedProperties", Str.ofString "ReadOnlyProperties"]) mean mg mb h₀) (hck : cs.kind = .function) (hdp : dp + 10 < recursionLimit) (hun : un + 100 < cLine)
    (hret : ∀ h' tk v, Fr h₀ L h' m → News h₀ L h' news → Flat v ((lookup (.str x) D).getD (.str y)) → R (.ok (.ret v)) { s with heap := h', toks := tk }) :
    codeAny (model PySem.Challenge.rw_ep5036_01.row.prog w) (ktrTop dp un gd cn cs L a ccd cl outer) (.call (.ref 156) ⟨[.ref p, .str x t, .str y u], []⟩) R s := by
  cases hl : lookup (.str x) D with
  | none => rcases hC with rfl | rfl | rfl <;> (k_dflt cell_enter; k_steps; exact hret _ _ _ (by assumption) (by assumption) (by rw [hl]; exact Flat.str y u))
  | some dv => rcases hC with rfl | rfl | rfl <;> (k_dflt cell_enter; k_steps; exact hret _ _ _ (by assumption) (by assumption) (by rw [hl]; assumption))
end
end Mine

namespace Mine
open PyProof.V PySem.Spec
section
variable {w : World} {dp un : Nat} {gd : Option (List Code)} {cn : Str} {cs : Scope} {a : Addr} {ccd : Value} {cl : List (Str × Addr)} {outer : List Env} {A₀ : Around} {base h₀ : Heap} {L : Addr} {m : Str → Option Value} {s : Shared}
  {R : Result → Shared → Prop} {news : List (Addr × Obj)} {mg mb : Str → Option Value} {mean : ExcName → Option Value} {p C dx d : Addr} {o : Obj} {D : List (PyData × PyData)}
variable {g : Obj → List (Addr × Obj)} {x : Str} {t : Tok} {v : Value} {dv : PyData}
set_option maxHeartbeats 8000000 in
theorem c_setitem (hC : C = 195 ∨ C = 217 ∨ C = 231) (h1 : (p, slotO C dx d) ∈ news) (h2 : (dx, dictOf [] 0) ∈ news) (h3 : (d, o) ∈ news) (hD : DataOf PySem.Challenge.rw_ep5036_01.row.prog w o D) (lo : (d == sysModules) = false) (hn : D.length ≤ 1000) (B : Below A₀ base outer h₀) (F : Fr h₀ L s.heap m) (X : (Mine.hd.heap_39 w.params).In h₀) (N : News h₀ L s.heap news) (T : Top Mine.hd.view_39 (looseW Mine.hd.view_39 [Str.ofString "ReadOnlyContainer", Str.ofString "Properties", Str.ofString "OrderedProperties", Str.ofString "ReadOnlyProperties"]) mean mg mb h₀) (hck : cs.kind = .function) (hdp : dp + 10 < recursionLimit) (hun : un + 100 < cLine) (hC' : C = 195 ∨ C = 217) (U : UpdF d o news g) (hv : Flat v dv)
    (hret : ∀ h' o' tk, Fr h₀ L h' m → News h₀ L h' (g o') → DataOf PySem.Challenge.rw_ep5036_01.row.prog w o' (putD (.str x) dv D) → R (.ok (.ret .none)) { s with heap := h', toks := tk }) :
    codeAny (model PySem.Challenge.rw_ep5036_01.row.prog w) (ktrTop dp un gd cn cs L a ccd cl outer) (.call (.ref 99) ⟨[.ref p, .str x t, v], []⟩) R s := by
  clear hC
  revert X
  k_fill
  intro X
  rcases hC' with rfl | rfl <;> (k_dflt cell_enter; k_steps; exact hret _ _ _ (by assumption) (by assumption) (by assumption))
set_option maxHeartbeats 8000000 in
theorem c_setattr (hC : C = 195 ∨ C = 217 ∨ C = 231) (h1 : (p, slotO C dx d) ∈ news) (h2 : (dx, dictOf [] 0) ∈ news) (h3 : (d, o) ∈ news) (hD : DataOf PySem.Challenge.rw_ep5036_01.row.prog w o D) (lo : (d == sysModules) = false) (hn : D.length ≤ 1000) (B : Below A₀ base outer h₀) (F : Fr h₀ L s.heap m) (X : (Mine.hd.heap_39 w.params).In h₀) (N : News h₀ L s.heap news) (T : Top Mine.hd.view_39 (looseW Mine.hd.view_39 [Str.ofString "ReadOnlyContainer", Str.ofString "Properties", Str.ofString "OrderedProperties", Str.ofString "ReadOnlyProperties"]) mean mg mb h₀) (hck : cs.kind = .function) (hdp : dp + 10 < recursionLimit) (hun : un + 100 < cLine) (hC' : C = 195 ∨ C = 217) (U : UpdF d o news g) (hv : Flat v dv)
    (hret : ∀ h' o' tk, Fr h₀ L h' m → News h₀ L h' (g o') → DataOf PySem.Challenge.rw_ep5036_01.row.prog w o' (putD (.str x) dv D) → R (.ok (.ret .none)) { s with heap := h', toks := tk }) :
    codeAny (model PySem.Challenge.rw_ep5036_01.row.prog w) (ktrTop dp un gd cn cs L a ccd cl outer) (.call (.ref 120) ⟨[.ref p, .str x t, v], []⟩) R s := by
  clear hC
  rcases hC' with rfl | rfl <;> (k_dflt cell_enter; k_steps; exact hret _ _ _ (by assumption) (by assumption) (by assumption))
set_option maxHeartbeats 8000000 in
theorem c_clear (hC : C = 195 ∨ C = 217 ∨ C = 231) (h1 : (p, slotO C dx d) ∈ news) (h2 : (dx, dictOf [] 0) ∈ news) (h3 : (d, o) ∈ news) (hD : DataOf PySem.Challenge.rw_ep5036_01.row.prog w o D) (lo : (d == sysModules) = false) (hn : D.length ≤ 1000) (B : Below A₀ base outer h₀) (F : Fr h₀ L s.heap m) (X : (Mine.hd.heap_39 w.params).In h₀) (N : News h₀ L s.heap news) (T : Top Mine.hd.view_39 (looseW Mine.hd.view_39 [Str.ofString "ReadOnlyContainer", Str.ofString "Properties", Str.ofString "OrderedProperties", Str.ofString "ReadOnlyProperties"]) mean mg mb h₀) (hck : cs.kind = .function) (hdp : dp + 10 < recursionLimit) (hun : un + 100 < cLine) (hC' : C = 195 ∨ C = 217) (U : UpdF d o news g)
    (hret : ∀ h' o' tk, Fr h₀ L h' m → News h₀ L h' (g o') → DataOf PySem.Challenge.rw_ep5036_01.row.prog w o' [] → R (.ok (.ret .none)) { s with heap := h', toks := tk }) :
    codeAny (model PySem.Challenge.rw_ep5036_01.row.prog w) (ktrTop dp un gd cn cs L a ccd cl outer) (.call (.ref 191) ⟨[.ref p], []⟩) R s := by
  clear hC
  rcases hC' with rfl | rfl <;> (k_dflt cell_enter; k_steps; exact hret _ _ _ (by assumption) (by assumption) (by assumption))
set_option maxHeartbeats 8000000 in
theorem c_delitem (hC : C = 195 ∨ C = 217 ∨ C = 231) (h1 : (p, slotO C dx d) ∈ news) (h2 : (dx, dictOf [] 0) ∈ news) (h3 : (d, o) ∈ news) (hD : DataOf PySem.Challenge.rw_ep5036_01.row.prog w o D) (lo : (d == sysModules) = false) (hn : D.length ≤ 1000) (B : Below A₀ base outer h₀) (F : Fr h₀ L s.heap m) (X : (Mine.hd.heap_39 w.params).In h₀) (N : News h₀ L s.heap news) (T : Top Mine.hd.view_39 (looseW Mine.hd.view_39 [Str.ofString "ReadOnlyContainer", Str.ofString "Properties", Str.ofString "OrderedProperties", Str.ofString "ReadOnlyProperties"]) mean mg mb h₀) (hck : cs.kind = .function) (hdp : dp + 10 < recursionLimit) (hun : un + 100 < cLine) (hC' : C = 195 ∨ C = 217) (U : UpdF d o news g) (hl : (lookup (.str x) D).isSome = true)
    (hret : ∀ h' o' tk, Fr h₀ L h' m → News h₀ L h' (g o') → DataOf PySem.Challenge.rw_ep5036_01.row.prog w o' (delD (.str x) D) → R (.ok (.ret .none)) { s with heap := h', toks := tk }) :
    codeAny (model PySem.Challenge.rw_ep5036_01.row.prog w) (ktrTop dp un gd cn cs L a ccd cl outer) (.call (.ref 113) ⟨[.ref p, .str x t], []⟩) R s := by
  clear hC
  rcases hC' with rfl | rfl <;> (k_dflt cell_enter; k_steps; exact hret _ _ _ (by assumption) (by assumption) (by assumption))
end
end Mine

local macro_rules | `(tactic| kct_strs) => `(tactic| first
  | ((with_reducible show codeAny _ _ (.call (.ref 163) _) _ _); (refine' Mine.c_keys ?hC ?h1 ?h2 ?h3 ?hD ?lo ?hn ?B ?F ?X ?N ?T ?ck ?dp ?un ?_; ( (case F => k_asm); (case N => k_asm); (case B => k_asm); (case X => k_asm); (case T => k_asm); (case h1 => (first | lsm_bools | kat_tups)); (case h3 => (first | lsm_bools | kat_tups)); (case h2 => (first | lsm_bools | kat_tups)); (case hC => first | (first | with_reducible assumption | with_reducible_and_instances assumption | assumption) | exact .inl rfl | exact .inr (.inl rfl) | exact .inr (.inr rfl) | exact (by (first | with_reducible assumption | with_reducible_and_instances assumption | assumption) : Mine.IsP _)); (case hD => (first | with_reducible assumption | with_reducible_and_instances assumption | assumption)); (case lo => (first | with_reducible assumption | with_reducible_and_instances assumption | assumption)); (case hn => (first | with_reducible assumption | with_reducible_and_instances assumption | assumption)); (case ck => first | (first | with_reducible assumption | with_reducible_and_instances assumption | assumption) | exact rfl); (case dp => ktr_room); (case un => ktr_units)); k_whole; intro r' c' h' tk' vs' F' N' l1 f'; (try dsimp only)))
  | ((with_reducible show codeAny _ _ (.call (.ref 170) _) _ _); (refine' Mine.c_values ?hC ?h1 ?h2 ?h3 ?hD ?lo ?hn ?B ?F ?X ?N ?T ?ck ?dp ?un ?_; ( (case F => k_asm); (case N => k_asm); (case B => k_asm); (case X => k_asm); (case T => k_asm); (case h1 => (first | lsm_bools | kat_tups)); (case h3 => (first | lsm_bools | kat_tups)); (case h2 => (first | lsm_bools | kat_tups)); (case hC => first | (first | with_reducible assumption | with_reducible_and_instances assumption | assumption) | exact .inl rfl | exact .inr (.inl rfl) | exact .inr (.inr rfl) | exact (by (first | with_reducible assumption | with_reducible_and_instances assumption | assumption) : Mine.IsP _)); (case hD => (first | with_reducible assumption | with_reducible_and_instances assumption | assumption)); (case lo => (first | with_reducible assumption | with_reducible_and_instances assumption | assumption)); (case hn => (first | with_reducible assumption | with_reducible_and_instances assumption | assumption)); (case ck => first | (first | with_reducible assumption | with_reducible_and_instances assumption | assumption) | exact rfl); (case dp => ktr_room); (case un => ktr_units)); k_whole; intro r' c' h' tk' vs' F' N' l1 f'; (try dsimp only)))
  | ((with_reducible show codeAny _ _ (.call (.ref 177) _) _ _); (refine' Mine.c_items ?hC ?h1 ?h2 ?h3 ?hD ?lo ?hn ?B ?F ?X ?N ?T ?ck ?dp ?un ?_; ( (case F => k_asm); (case N => k_asm); (case B => k_asm); (case X => k_asm); (case T => k_asm); (case h1 => (first | lsm_bools | kat_tups)); (case h3 => (first | lsm_bools | kat_tups)); (case h2 => (first | lsm_bools | kat_tups)); (case hC => first | (first | with_reducible assumption | with_reducible_and_instances assumption | assumption) | exact .inl rfl | exact .inr (.inl rfl) | exact .inr (.inr rfl) | exact (by (first | with_reducible assumption | with_reducible_and_instances assumption | assumption) : Mine.IsP _)); (case hD => (first | with_reducible assumption | with_reducible_and_instances assumption | assumption)); (case lo => (first | with_reducible assumption | with_reducible_and_instances assumption | assumption)); (case hn => (first | with_reducible assumption | with_reducible_and_instances assumption | assumption)); (case ck => first | (first | with_reducible assumption | with_reducible_and_instances assumption | assumption) | exact rfl); (case dp => ktr_room); (case un => ktr_units)); k_whole; intro r' c' h' tk' as' tups' F' N' l1 l2 f'; (try dsimp only)))
  | ((with_reducible show codeAny _ _ (.call (.ref 184) _) _ _); (refine' Mine.c_haskey ?hC ?h1 ?h2 ?h3 ?hD ?lo ?hn ?B ?F ?X ?N ?T ?ck ?dp ?un ?_; ( (case F => k_asm); (case N => k_asm); (case B => k_asm); (case X => k_asm); (case T => k_asm); (case h1 => (first | lsm_bools | kat_tups)); (case h3 => (first | lsm_bools | kat_tups)); (case h2 => (first | lsm_bools | kat_tups)); (case hC => first | (first | with_reducible assumption | with_reducible_and_instances assumption | assumption) | exact .inl rfl | exact .inr (.inl rfl) | exact .inr (.inr rfl) | exact (by (first | with_reducible assumption | with_reducible_and_instances assumption | assumption) : Mine.IsP _)); (case hD => (first | with_reducible assumption | with_reducible_and_instances assumption | assumption)); (case lo => (first | with_reducible assumption | with_reducible_and_instances assumption | assumption)); (case hn => (first | with_reducible assumption | with_reducible_and_instances assumption | assumption)); (case ck => first | (first | with_reducible assumption | with_reducible_and_instances assumption | assumption) | exact rfl); (case dp => ktr_room); (case un => ktr_units)); k_whole; intro h' tk' F' N'; (try dsimp only)))
  | ((with_reducible show codeAny _ _ (.call (.ref 134) _) _ _); (refine' Mine.c_contains ?hC ?h1 ?h2 ?h3 ?hD ?lo ?hn ?B ?F ?X ?N ?T ?ck ?dp ?un ?_; ( (case F => k_asm); (case N => k_asm); (case B => k_asm); (case X => k_asm); (case T => k_asm); (case h1 => (first | lsm_bools | kat_tups)); (case h3 => (first | lsm_bools | kat_tups)); (case h2 => (first | lsm_bools | kat_tups)); (case hC => first | (first | with_reducible assumption | with_reducible_and_instances assumption | assumption) | exact .inl rfl | exact .inr (.inl rfl) | exact .inr (.inr rfl) | exact (by (first | with_reducible assumption | with_reducible_and_instances assumption | assumption) : Mine.IsP _)); (case hD => (first | with_reducible assumption | with_reducible_and_instances assumption | assumption)); (case lo => (first | with_reducible assumption | with_reducible_and_instances assumption | assumption)); (case hn => (first | with_reducible assumption | with_reducible_and_instances assumption | assumption)); (case ck => first | (first | with_reducible assumption | with_reducible_and_instances assumption | assumption) | exact rfl); (case dp => ktr_room); (case un => ktr_units)); k_whole; intro h' tk' F' N'; (try dsimp only)))
  | ((with_reducible show codeAny _ _ (.call (.ref 78) _) _ _); (refine' Mine.c_len ?hC ?h1 ?h2 ?h3 ?hD ?lo ?hn ?B ?F ?X ?N ?T ?ck ?dp ?un ?_; ( (case F => k_asm); (case N => k_asm); (case B => k_asm); (case X => k_asm); (case T => k_asm); (case h1 => (first | lsm_bools | kat_tups)); (case h3 => (first | lsm_bools | kat_tups)); (case h2 => (first | lsm_bools | kat_tups)); (case hC => first | (first | with_reducible assumption | with_reducible_and_instances assumption | assumption) | exact .inl rfl | exact .inr (.inl rfl) | exact .inr (.inr rfl) | exact (by (first | with_reducible assumption | with_reducible_and_instances assumption | assumption) : Mine.IsP _)); (case hD => (first | with_reducible assumption | with_reducible_and_instances assumption | assumption)); (case lo => (first | with_reducible assumption | with_reducible_and_instances assumption | assumption)); (case hn => (first | with_reducible assumption | with_reducible_and_instances assumption | assumption)); (case ck => first | (first | with_reducible assumption | with_reducible_and_instances assumption | assumption) | exact rfl); (case dp => ktr_room); (case un => ktr_units)); k_whole; intro h' tk' t' F' N'; (try dsimp only)))
  | ((with_reducible show codeAny _ _ (.call (.ref 156) _) _ _); (refine' Mine.c_get ?hC ?h1 ?h2 ?h3 ?hD ?lo ?hn ?B ?F ?X ?N ?T ?ck ?dp ?un ?_; ( (case F => k_asm); (case N => k_asm); (case B => k_asm); (case X => k_asm); (case T => k_asm); (case h1 => (first | lsm_bools | kat_tups)); (case h3 => (first | lsm_bools | kat_tups)); (case h2 => (first | lsm_bools | kat_tups)); (case hC => first | (first | with_reducible assumption | with_reducible_and_instances assumption | assumption) | exact .inl rfl | exact .inr (.inl rfl) | exact .inr (.inr rfl) | exact (by (first | with_reducible assumption | with_reducible_and_instances assumption | assumption) : Mine.IsP _)); (case hD => (first | with_reducible assumption | with_reducible_and_instances assumption | assumption)); (case lo => (first | with_reducible assumption | with_reducible_and_instances assumption | assumption)); (case hn => (first | with_reducible assumption | with_reducible_and_instances assumption | assumption)); (case ck => first | (first | with_reducible assumption | with_reducible_and_instances assumption | assumption) | exact rfl); (case dp => ktr_room); (case un => ktr_units)); k_whole; intro h' tk' v' F' N' f'; (try dsimp only))))
namespace Mine
open PyProof.V PySem.Spec

section
variable {prog : Program} {w : World} {A : Around} {E : Value → Shared → Prop} {s : Shared} {K : Frag} {x C f : Addr} {ox : Obj} {od : Option Obj}
/-- iter() of an object whose class has an __iter__ of its own, which hands back a list's iterator -/
theorem pyIter_own {Q : Value → Shared → Prop} (X : K.In s.heap) (I : InstAt s.heap x ox C od) (hs : findIn K (.ref C) "__iter__" = some (some (.ref f))) (hf : isFn K (.ref f) = true)
    (h : wpAny (model prog w) A (call (.ref f) [.ref x]) (fun v s' => (∃ it o, v = .ref it ∧ s'.heap.get? it = some o ∧ o.cls = .type "list_iterator") ∧ Q v s') E s) : wpAny (model prog w) A (pyIter (.ref x)) Q E s := by
  unfold pyIter specialOf
  refine wpAny_bind (wpAny_bind (I.type.here ((looks_findIn X hs).here ?_)))
  dsimp only
  unfold callSpecialIfBoundUnlessNone? bindSpecialIfBound? specialOf
  refine wpAny_bind (wpAny_holding (wpAny_bind (wpAny_bind (wpAny_bind (I.type.here ((looks_findIn X hs).here ?_))))))
  have fin : wpAny (model prog w) A (call (.ref f) [.ref x] >>= fun v => pure (some v)) (fun a s' => wpAny (model prog w) A (match a with
      | some it => (do
        match ← (typeOf it >>= fun t => typeLookup t "__next__") with
        | none => rule "iter.non-iterator"; raiseError "TypeError" s!"iter() returned non-iterator of type '{← typeNameOf it}'"
        | some _ => pure it)
      | none => (do
        match ← bindSpecialIfBound? (.ref x) "__getitem__" with
        | none => rule "iter.not-iterable"; raiseError "TypeError" s!"'{← typeNameOf (.ref x)}' object is not iterable"
        | some _ => rule "iter.getitem-fallback"; newFields "iterator" [.ref x, ← mkInt 0])) Q E s') E s := by
    refine wpAny_bind (wpAny_mono h (fun v s' hv => wpAny_pure ?_) fun _ _ e => e)
    obtain ⟨⟨it, o, rfl, ho, hc⟩, hq⟩ := hv
    have hT : s'.TypeIs (.ref it) "list_iterator" := ⟨o, ho, hc⟩
    dsimp only
    exact wpAny_bind (wpAny_specialOf (name := Str.ofString "__next__") hT slot_listiter_next.lookup (wpAny_pure hq))
  refine wpAny_bind (wpAny_askSetting (wpAny_ite ?_))
  split
  · refine wpAny_bind ((bind_fn X _ (beq_iff_eq.mp hf)).here (wpAny_pure ?_))
    dsimp only
    rw [if_neg (by simp)]
    exact fin
  · refine wpAny_tryCatch (wpAny_bind ((bind_fn X _ (beq_iff_eq.mp hf)).here (wpAny_pure ?_)))
    dsimp only
    rw [if_neg (by simp)]
    exact fin

theorem hint_own {Q : Bool → Shared → Prop} {fl : Addr} {n : Nat} (X : K.In s.heap) (I : InstAt s.heap x ox C od) (hs : findIn K (.ref C) "__len__" = some (some (.ref fl))) (hn : n ≤ 1000)
    (h : wpAny (model prog w) A (call (.builtin "len") [.ref x]) (fun v s' => ∃ t, v = .int n t ∧ Q ((n : Int) != 0) s') (fun _ _ => False) s) : wpAny (model prog w) A (Builtin.List.listLengthHint (.ref x)) Q E s := by
  unfold Builtin.List.listLengthHint specialOf
  refine wpAny_bind (wpAny_bind (I.type.here ((looks_findIn X hs).here ?_)))
  dsimp only
  refine wpAny_ite_split (fun hab => (Bool.false_ne_true hab).elim) (fun _ => ?_)
  refine wpAny_ite_split (fun _ => ?_) (fun hab => absurd rfl hab)
  refine wpAny_bind (wpAny_rule (wpAny_bind (wpAny_attempt (wpAny_mono h (fun v s' hv => ?_) fun _ _ e => e.elim))))
  obtain ⟨t, rfl, hq⟩ := hv
  dsimp only
  refine wpAny_bind (m := asInt? _) (wpAny_pure ?_)
  dsimp only
  refine wpAny_ite_split (fun hab => absurd hab ?_) (fun _ => wpAny_pure hq)
  have : ¬ n > sizeLine := by rw [sizeLine_eq]; omega
  simpa [Builtin.List.listTooLong] using this
end

section
variable {w : World} {dp un : Nat} {gd : Option (List Code)} {cn : Str} {cs : Scope} {a : Addr} {ccd : Value} {cl : List (Str × Addr)} {outer : List Env} {A₀ : Around} {base h₀ : Heap} {L : Addr} {m : Str → Option Value} {s : Shared}
  {R : Result → Shared → Prop} {news : List (Addr × Obj)} {mg mb : Str → Option Value} {mean : ExcName → Option Value} {p C dx d : Addr} {o : Obj} {D : List (PyData × PyData)}
variable {Q : Value → Shared → Prop} {E : Value → Shared → Prop}
set_option maxHeartbeats 4000000 in
/-- list(p): __iter__, then __len__ as the hint, then the walk over the list's iterator -/
theorem list_own (hC : C = 195 ∨ C = 217 ∨ C = 231) (h1 : (p, slotO C dx d) ∈ news) (h2 : (dx, dictOf [] 0) ∈ news) (h3 : (d, o) ∈ news) (hD : DataOf PySem.Challenge.rw_ep5036_01.row.prog w o D) (lo : (d == sysModules) = false) (hn : D.length ≤ 1000) (B : Below A₀ base outer h₀) (F : Fr h₀ L s.heap m) (X : (Mine.hd.heap_39 w.params).In h₀) (N : News h₀ L s.heap news) (T : Top Mine.hd.view_39 (looseW Mine.hd.view_39 [Str.ofString "ReadOnlyContainer", Str.ofString "Properties", Str.ofString "OrderedProperties", Str.ofString "ReadOnlyProperties"]) mean mg mb h₀) (hck : cs.kind = .function) (hdp : dp + 20 < recursionLimit) (hun : un + 200 < cLine)
    (hret : ∀ r c h' tk vs, Fr h₀ L h' m → News h₀ L h' ((r, listOf vs.toArray c) :: news) → (∀ q ∈ news, q.1 < r) → Flats vs (D.map (·.2)) → Q (.ref r) { s with heap := h', toks := tk }) :
    wpAny (model PySem.Challenge.rw_ep5036_01.row.prog w) (ktrTop dp un gd cn cs L a ccd cl outer) (call (.type "list") [.ref p]) Q E s := by
  revert X
  k_fill
  intro X
  have fI : findIn (Mine.hd.heap_39 w.params) (.ref C) "__iter__" = some (some (.ref 85)) := by
    rcases hC with rfl | rfl | rfl <;> k_is
  have fL : findIn (Mine.hd.heap_39 w.params) (.ref C) "__len__" = some (some (.ref 78)) := by rcases hC with rfl | rfl | rfl <;> k_is
  have iI : isFn (Mine.hd.heap_39 w.params) (.ref 85) = true := by k_is
  have iL : isFn (Mine.hd.heap_39 w.params) (.ref 78) = true := by k_is
  refine callType_codes (Q₁ := fun obj s₁ => obj = .ref s.heap.objs.size ∧ s₁ = { s with heap := s.heap.push { cls := .type "list", data := .seq #[] } }) PySem.F.called_list (PySem.F.typeCall_list_1 _) PySem.F.entry_list_init
    (code_list_new _ ⟨rfl, rfl⟩) fun obj s₁ h₁ => ?_
  obtain ⟨rfl, rfl⟩ := h₁
  have hS : (s.heap.push { cls := .type "list", data := .seq #[] }).get? s.heap.objs.size = some { cls := .type "list", data := .seq #[] } := Heap.get?_push_size _ rfl
  refine ⟨⟨_, hS, rfl⟩, PySem.F.args_list_init_2 _ _, ?_⟩
  have hpS : ∀ q ∈ news, q.1 < s.heap.objs.size := fun q hq => Heap.lt_size (N q hq).1
  generalize hSa : s.heap.objs.size = S at hS hpS ⊢
  show wpAny _ _ (do let old ← Builtin.List.listItems (.ref S); Builtin.List.listUpdate (.ref S) (fun _ => #[]); letGo old.toList.reverse; Builtin.List.listExtendWith (.ref S) (.ref p) .none) _ _ _
  refine wpAny_bind ?_
  unfold Builtin.List.listItems
  refine wpAny_bind (wpAny_seqItems hS rfl (wpAny_pure ?_))
  show wpAny _ _ (updateSeq S (fun _ => #[]) >>= fun _ => letGo (#[] : Array Value).toList.reverse >>= fun _ => Builtin.List.listExtendWith (.ref S) (.ref p) .none) _ _ _
  refine wpAny_bind (wpAny_updateSeq hS rfl ?_)
  have N₁ : News h₀ L (s.heap.push { cls := .type "list", data := .seq #[] }) ((S, { cls := .type "list", data := .seq #[] }) :: news) := hSa ▸ N.push F _
  have hS₂ := Heap.get?_update_self (Obj.mapSeq (fun _ => (#[] : Array Value))) hS rfl
  have D₁ := N₁ _ (List.Mem.head _)
  obtain ⟨F₂, N₂⟩ := news_upd (pre := []) (post := news) (d := S) (f := Obj.mapSeq (fun _ => (#[] : Array Value))) (o' := { cls := .type "list", data := .seq #[] }) (F.push _) N₁ (fun _ h => nomatch h) (fun q hq => Nat.ne_of_lt (hpS q hq)) rfl rfl
  rw [List.nil_append] at N₂
  clear hS hS₂ D₁ N₁
  generalize hH : ((s.heap.push { cls := .type "list", data := .seq #[] }).update S (Obj.mapSeq (fun _ => (#[] : Array Value)))) = H2 at F₂ N₂
  refine wpAny_bind (wpAny_letGo ?_)
  try dsimp only
  clear hH
  have hpne : S ≠ p := Nat.ne_of_gt (hpS _ h1)
  have key : ∀ (h : Heap) (tk c₁ it r c : Nat) (vs : List Value), Fr h₀ L h m → News h₀ L h ((it, { cls := .type "list_iterator", data := .fields #[.ref r, .int 0 0] }) :: (r, listOf vs.toArray c) :: (S, { cls := .type "list", data := .seq #[] c₁ }) :: news) → r < it → S < r → Flats vs (D.map (·.2)) →
      codeAny (model PySem.Challenge.rw_ep5036_01.row.prog w) (ktrTop dp un gd cn cs L a ccd cl outer).in1 (.builtin "list.extend.loop" ⟨[.ref S, .ref it, .none], []⟩) (wants (fun v s₂ => v = .none ∧ Q (.ref S) s₂) E) { s with heap := h, toks := tk } := by
    intro h tk c₁ it r c vs F₄ N₄ l1 l2 fl
    have hlen : vs.length = D.length := by rw [fl.len, List.length_map]
    have gI := (N₄ _ (List.Mem.head _))
    have gR := (N₄ _ (List.Mem.tail _ (List.Mem.head _)))
    have gS := (N₄ _ (List.Mem.tail _ (List.Mem.tail _ (List.Mem.head _))))
    have W := Walks.list (prog := PySem.Challenge.rw_ep5036_01.row.prog) (w := w) (A := (ktrTop dp un gd cn cs L a ccd cl outer).in1.in1) rfl it r (Nat.ne_of_lt l1) vs.toArray
    refine codeAny_extend_loopS W.toS (by rw [List.size_toArray, hlen, sizeLine_eq]; omega) S (by
      simp only [List.mem_cons, List.not_mem_nil, or_false, not_or]
      exact ⟨Nat.ne_of_lt (Nat.lt_trans l2 l1), Nat.ne_of_lt l2⟩) .none vs.toArray.size 0 _ #[] c₁ (Nat.sub_zero _) (Nat.zero_le _) ⟨⟨_, gI.1, rfl, rfl⟩, ⟨_, gR.1, rfl, c, rfl⟩⟩ gS.1 (ItemsOf.nil _) fun s' acc' c' hm hS' hacc => ?_
    rw [Moved.eq_with hm]
    have hk : ∀ b o, b ≠ S → b ≠ it → h.get? b = some o → s'.heap.get? b = some o := fun b o b1 b2 e => hm.heap b o (fun hmem => by
      rcases List.mem_cons.mp hmem with e' | hmem
      · exact b1 e'
      · exact b2 (List.mem_singleton.mp hmem)) e
    have ea : acc' = vs.toArray := by
      apply Array.ext
      · exact hacc.1
      · intro i h1 h2
        have e1 : vs.toArray[i]? = some acc'[i] := hacc.2 i acc'[i] (Array.getElem?_eq_getElem h1)
        rw [Array.getElem?_eq_getElem h2] at e1
        exact (Option.some.inj e1).symm
    subst ea
    have old : ∀ b o, h₀.get? b = some o → b ≠ S ∧ b ≠ it := by
      intro b o e
      constructor
      · intro q
        have z : h₀.get? S = none := gS.2.2
        rw [← q, e] at z
        cases z
      · intro q
        have z : h₀.get? it = none := gI.2.2
        rw [← q, e] at z
        cases z
    refine ⟨rfl, hret S c' s'.heap s'.toks vs ⟨F₄.ns.at' fun o e => hk L o (Ne.symm gS.2.1) (Ne.symm gI.2.1) e, fun b o e => hk b o (old b o e).1 (old b o e).2 (F₄.keep b o e), F₄.above⟩ (fun q hq => ?_) (fun q hq => hpS q hq) fl⟩
    rcases List.mem_cons.mp hq with rfl | hq
    · exact ⟨hS', gS.2⟩
    · have z := N₄ q (List.Mem.tail _ (List.Mem.tail _ (List.Mem.tail _ hq)))
      have ls := hpS q hq
      exact ⟨hk q.1 q.2 (Nat.ne_of_lt ls) (Nat.ne_of_lt (Nat.lt_trans ls (Nat.lt_trans l2 l1))) z.1, z.2⟩
  unfold Builtin.List.listExtendWith
  have I₂ : PySem.W.InstAt H2 p (slotO C dx d) C (some (dictOf [] 0)) := InstAt.of_news N₂ (List.Mem.tail _ h1) (List.Mem.tail _ h2)
  refine wpAny_bind (I₂.type.here ?_)
  have hnot : (Builtin.List.listSameRef (.ref S) (.ref p) || Value.ref C == .type "list" || Value.ref C == .type "tuple") = false := by simp [Builtin.List.listSameRef, hpne]
  rw [hnot]
  refine wpAny_ite_split (fun hab => absurd hab Bool.false_ne_true) (fun _ => ?_)
  refine wpAny_bind (pyIter_own (X.keeps F₂.keep) I₂ fI iI (wpAny_call ?_))
  show codeAny _ (ktrTop dp (un + 2) gd cn cs L a ccd cl outer) _ _ _
  refine c_iter hC (List.Mem.tail _ h1) (List.Mem.tail _ h2) (List.Mem.tail _ h3) hD lo hn B F₂ X N₂ T hck (by omega) (by omega) fun it r c h3' tk vs F₃ N₃ l1 l2 fl => ?_
  refine ⟨⟨it, _, rfl, (N₃ _ (List.Mem.head _)).1, rfl⟩, ?_⟩
  have lS : S < r := l1 _ (List.Mem.head _)
  have I₃ : PySem.W.InstAt h3' p (slotO C dx d) C (some (dictOf [] 0)) := InstAt.of_news N₃ (List.Mem.tail _ (List.Mem.tail _ (List.Mem.tail _ h1))) (List.Mem.tail _ (List.Mem.tail _ (List.Mem.tail _ h2)))
  refine wpAny_bind (wpAny_holding (hint_own (n := D.length) (X.keeps F₃.keep) I₃ fL hn (len_K F₃ X I₃ fL iL (wpAny_call ?_))))
  show codeAny _ (ktrTop dp (un + 3) gd cn cs L a ccd cl outer) _ _ _
  refine c_len hC (List.Mem.tail _ (List.Mem.tail _ (List.Mem.tail _ h1))) (List.Mem.tail _ (List.Mem.tail _ (List.Mem.tail _ h2))) (List.Mem.tail _ (List.Mem.tail _ (List.Mem.tail _ h3))) hD lo hn B F₃ X N₃ T hck (by omega) (by omega) fun h4 tk4 t4 F₄ N₄ => ?_
  refine ⟨⟨by omega, by omega⟩, _, rfl, ?_⟩
  have N₅ := N₄
  have gS := (N₄ _ (List.Mem.tail _ (List.Mem.tail _ (List.Mem.head _))))
  refine wpAny_ite_split (fun _ => ?_) (fun _ => wpAny_pure ⟨plainId_quiet PySem.F.plain_extend_loop _, key _ _ _ _ _ _ _ F₄ N₄ l2 lS fl⟩)
  refine wpAny_bind (wpAny_rule (wpAny_bind ?_))
  show wpAny _ _ (updateSeq S (·.push .none) >>= fun _ => updateSeq S (·.pop)) _ _ _
  refine wpAny_bind (wpAny_updateSeq gS.1 rfl ?_)
  have lit : S < it := Nat.lt_trans lS l2
  obtain ⟨F₅, N₅⟩ := news_upd (pre := [(it, { cls := .type "list_iterator", data := .fields #[.ref r, .int 0 0] }), (r, listOf vs.toArray c)]) (post := news) (d := S) (f := Obj.mapSeq (·.push Value.none)) (o' := { cls := .type "list", data := .seq #[.none] 1 }) F₄ N₄
    (fun q hq => by
      rcases List.mem_cons.mp hq with rfl | hq
      · exact Nat.ne_of_gt lit
      · rw [List.mem_singleton.mp hq]; exact Nat.ne_of_gt lS) (fun q hq => Nat.ne_of_lt (hpS q hq)) rfl rfl
  have gS₅ := (N₅ _ (List.Mem.tail _ (List.Mem.tail _ (List.Mem.head _))))
  refine wpAny_updateSeq (hz := by seq_fits) gS₅.1 rfl ?_
  obtain ⟨F₆, N₆⟩ := news_upd (pre := [(it, { cls := .type "list_iterator", data := .fields #[.ref r, .int 0 0] }), (r, listOf vs.toArray c)]) (post := news) (d := S) (f := Obj.mapSeq (·.pop)) (o' := { cls := .type "list", data := .seq #[] 2 }) F₅ N₅
    (fun q hq => by
      rcases List.mem_cons.mp hq with rfl | hq
      · exact Nat.ne_of_gt lit
      · rw [List.mem_singleton.mp hq]; exact Nat.ne_of_gt lS) (fun q hq => Nat.ne_of_lt (hpS q hq)) rfl rfl
  exact wpAny_pure ⟨plainId_quiet PySem.F.plain_extend_loop _, key _ _ _ _ _ _ _ F₆ N₆ l2 lS fl⟩
end
end Mine

namespace Mine
open PyProof.V PySem.Spec
section
variable {prog : Program} {w : World} {A : Around} {E : Value → Shared → Prop} {s s₁ : Shared} {h₀ : Heap} {L : Addr} {m : Str → Option Value} {env : Env} {elt iter : Expr} {x : Str} {px : Pos} {scope : Scope} {cl : List (Str × Addr)} {pos : Pos}

/-- what one element leaves -/
def EltPost (h₀ : Heap) (L : Addr) (m : Str → Option Value) (I : Addr) (oI : Obj) (C : Addr) (oC : Obj) (D : Addr) (ys : List Value) (ex news : List (Addr × Obj)) (Inv : List Value → List (Addr × Obj) → Prop) (s : Shared) (y : Value) (s₂ : Shared) : Prop :=
  ∃ h' tk' ex', s₂ = { s with heap := h', toks := tk' } ∧ Fr h₀ L h' m ∧ News h₀ L h' ((I, oI) :: (C, oC) :: (D, LCg.lst ys) :: (ex' ++ (ex ++ news))) ∧
      (∀ q ∈ ex', @Ne Nat q.1 I ∧ @Ne Nat q.1 C ∧ @Ne Nat q.1 D) ∧ Inv (ys ++ [y]) (ex' ++ ex)
theorem EltPost.mk0 {I C D : Addr} {oI oC : Obj} {ys : List Value} {ex news : List (Addr × Obj)} {Inv : List Value → List (Addr × Obj) → Prop} {y : Value} {h' : Heap} {tk' : Nat} (F : Fr h₀ L h' m) (N : News h₀ L h' ((I, oI) :: (C, oC) :: (D, LCg.lst ys) :: (ex ++ news))) (hi : Inv (ys ++ [y]) ex) :
    EltPost h₀ L m I oI C oC D ys ex news Inv s y { s with heap := h', toks := tk' } := ⟨h', tk', [], rfl, F, N, (fun _ h => nomatch h), hi⟩
theorem EltPost.mk1 {I C D a : Addr} {oI oC o : Obj} {ys : List Value} {ex news : List (Addr × Obj)} {Inv : List Value → List (Addr × Obj) → Prop} {y : Value} {h' : Heap} {tk' : Nat} (F : Fr h₀ L h' m) (N : News h₀ L h' ((I, oI) :: (C, oC) :: (D, LCg.lst ys) :: (a, o) :: (ex ++ news))) (h1 : @Ne Nat a I) (h2 : @Ne Nat a C) (h3 : @Ne Nat a D) (hi : Inv (ys ++ [y]) ((a, o) :: ex)) :
    EltPost h₀ L m I oI C oC D ys ex news Inv s y { s with heap := h', toks := tk' } := ⟨h', tk', [(a, o)], rfl, F, N, fun q h => by rw [List.mem_singleton.mp h]; exact ⟨h1, h2, h3⟩, hi⟩
/-- what one element is to do -/
def EltStep (prog : Program) (w : World) (A : Around) (h₀ : Heap) (L : Addr) (m : Str → Option Value) (env : Env) (elt : Expr) (x : Str) (scope : Scope) (cl : List (Str × Addr)) (s : Shared) (its : Array Value) (news : List (Addr × Obj)) (Inv : List Value → List (Addr × Obj) → Prop) : Prop :=
  ∀ v ys ex I oI C oC D m₂ h tk (E' : Value → Shared → Prop), its[ys.length]? = some v → Inv ys ex → LCg.NsObj oC m₂ → m₂ x = some v → Fr h₀ L h m → News h₀ L h ((I, oI) :: (C, oC) :: (D, LCg.lst ys) :: (ex ++ news)) → LCg.Off3 I C D (ex ++ news) → ((@Ne Nat I C) ∧ (@Ne Nat I D) ∧ (@Ne Nat C D)) →
    wpAny (model prog w) A (eval elt (compEnvC scope cl C env)) (EltPost h₀ L m I oI C oC D ys ex news Inv s) E' { s with heap := h, toks := tk }

theorem compRest_inv {S : List (Addr × Obj) → Prop} {its : Array Value} {Fin : List Value → List (Addr × Obj) → Prop} {news : List (Addr × Obj)} (Inv : List Value → List (Addr × Obj) → Prop) (hS : ∀ ex, S (ex ++ news))
    (step : EltStep prog w A h₀ L m env elt x scope cl s its news Inv) (fin : ∀ ys ex, ys.length = its.size → Inv ys ex → Fin ys (ex ++ news)) :
    ∀ k ys ex, ys.length + k = its.size → Inv ys ex → LCg.CompRest prog w A h₀ L m env elt x scope cl s S (fun i v => its[i]? = some v) Fin k ys.length ys (ex ++ news) := by
  intro k
  induction k with
  | zero => exact fun ys ex hl hi => LCg.CompRest.zero (fin ys ex (by omega) hi)
  | succ k ih =>
    intro ys ex hl hi
    refine LCg.CompRest.succ fun v I oI C oC D m₂ h tk E' hP hC hx F N off ne => ?_
    refine wpAny_mono (step v ys ex I oI C oC D m₂ h tk E' hP hi hC hx F N off ne) (fun y s₂ hq => ?_) (fun _ _ e => e)
    obtain ⟨h', tk', ex', rfl, F', N', hex, hi'⟩ := hq
    refine ⟨h', tk', ex' ++ (ex ++ news), rfl, F', N', LCg.Off3.of fun q hq => ?_, by rw [← List.append_assoc]; exact hS _, ?_⟩
    · rcases List.mem_append.mp hq with hq | hq
      · exact hex q hq
      · exact off.mem q hq
    · have z := ih (ys ++ [y]) (ex' ++ ex) (by simp; omega) hi'
      rw [List.length_append, List.length_singleton, List.append_assoc] at z
      exact z

theorem compSrc_inv {Fin : Shared → List Value → List (Addr × Obj) → Prop} {ax : Addr} {its : Array Value} {k : Nat} {news : List (Addr × Obj)} (Inv : List Value → List (Addr × Obj) → Prop)
    (hh : A.handled = none) (F : Fr h₀ L s₁.heap m) (N : News h₀ L s₁.heap news) (hm : (ax, ({ cls := .type "list", data := .seq its k } : Obj)) ∈ news) (hsz : its.size ≤ sizeLine) (init : Inv [] [])
    (step : ∀ g, EltStep prog w A h₀ L m env elt x scope cl { s₁ with heap := g } its news Inv) (fin : ∀ g ys ex, ys.length = its.size → Inv ys ex → Fin { s₁ with heap := g } ys (ex ++ news)) :
    LCg.CompSrc prog w A h₀ L m env elt x scope cl Fin (.ref ax) s₁ :=
  LCg.CompSrc.ledger hh F N hm hsz fun g => compRest_inv Inv (fun ex => .inr ⟨_, List.mem_append_right _ hm, rfl, _, rfl⟩) (step g) (fin g) its.size [] [] (by simp) init

theorem tups_snoc {D : List (PyData × PyData)} {ex : List (Addr × Obj)} {as : List Addr} {a : Addr} {o : Obj} {p : PyData × PyData} (h : Tups ex as (D.take as.length)) (e : D[as.length]? = some p) (x : PairObj o p) : Tups ((a, o) :: ex) (as ++ [a]) (D.take (as ++ [a]).length) := by
  refine ⟨?_, fun j b hb => ?_⟩
  · have l := (List.getElem?_eq_some_iff.mp e).1
    rw [List.length_take, List.length_append, List.length_singleton]; omega
  · rw [List.length_append, List.length_singleton, List.take_add_one, e]
    have ll : (D.take as.length).length = as.length := h.1.symm
    by_cases hj : j < as.length
    · rw [List.getElem?_append_left hj] at hb
      obtain ⟨p', o', e', m', x'⟩ := h.2 j b hb
      exact ⟨p', o', by rw [List.getElem?_append_left (by omega)]; exact e', .tail _ m', x'⟩
    · rw [List.getElem?_append_right (by omega)] at hb
      have hj0 : j - as.length = 0 := by
        have := (List.getElem?_eq_some_iff.mp hb).1
        simp at this; omega
      rw [hj0] at hb
      have eb : a = b := by simpa using hb
      subst eb
      refine ⟨p, o, ?_, .head _, x⟩
      rw [List.getElem?_append_right (by omega), ll, hj0]; rfl
theorem tup_inv {D : List (PyData × PyData)} {ex : List (Addr × Obj)} {as : List Addr} {a : Addr} {o : Obj} {p : PyData × PyData} (h : Tups ex as (D.take as.length)) (e : D[as.length]? = some p) (x : PairObj o p) : ∃ bs : List Addr, as.map Value.ref ++ [Value.ref a] = bs.map Value.ref ∧ Tups ((a, o) :: ex) bs (D.take (as.map Value.ref ++ [Value.ref a]).length) :=
  ⟨as ++ [a], by simp, by
    have := tups_snoc (a := a) h e x
    rw [List.length_append, List.length_singleton] at this
    rw [List.length_append, List.length_map, List.length_singleton]
    exact this⟩
theorem tups_all {D : List (PyData × PyData)} {ex : List (Addr × Obj)} {as : List Addr} (h : Tups ex as (D.take as.length)) (hl : as.length = D.length) : Tups ex as D := by rw [hl, List.take_length] at h; exact h

/-- a comprehension over a tuple that stood before -/
def SrcT (prog : Program) (w : World) (A : Around) (h₀ : Heap) (L : Addr) (m : Str → Option Value) (env : Env) (elt : Expr) (x : Str) (scope : Scope) (cl : List (Str × Addr)) (Fin : Shared → List Value → List (Addr × Obj) → Prop) (xv : Value) (s₁ : Shared) : Prop :=
  ∃ ax its news, xv = .ref ax ∧ A.handled = none ∧ Fr h₀ L s₁.heap m ∧ News h₀ L s₁.heap news ∧ h₀.IsTuple ax its ∧ its.size ≤ sizeLine ∧
    ∀ s₂ : Shared, (∃ h, s₂ = { s₁ with heap := h }) → LCg.CompRest prog w A h₀ L m env elt x scope cl s₂ (fun _ => True) (fun i v => its[i]? = some v) (Fin s₂) its.size 0 [] news

theorem srcT_inv {Fin : Shared → List Value → List (Addr × Obj) → Prop} {ax : Addr} {its : Array Value} {news : List (Addr × Obj)} (Inv : List Value → List (Addr × Obj) → Prop)
    (hh : A.handled = none) (F : Fr h₀ L s₁.heap m) (N : News h₀ L s₁.heap news) (ht : h₀.IsTuple ax its) (hsz : its.size ≤ sizeLine) (init : Inv [] [])
    (step : ∀ g, EltStep prog w A h₀ L m env elt x scope cl { s₁ with heap := g } its news Inv) (fin : ∀ g ys ex, ys.length = its.size → Inv ys ex → Fin { s₁ with heap := g } ys (ex ++ news)) :
    SrcT prog w A h₀ L m env elt x scope cl Fin (.ref ax) s₁ :=
  ⟨ax, its, news, rfl, hh, F, N, ht, hsz, fun _ ⟨g, e⟩ => e ▸ compRest_inv Inv (fun _ => trivial) (step g) (fin g) its.size [] [] (by simp) init⟩

theorem ListComp_T {Q : Value → Shared → Prop} (F₀ : Fr h₀ L s.heap m)
    (hclos : closureFor scope env = pure cl) (hcell : ∀ y ∈ scope.names, y.2 ≠ .cell) (hkind : scope.kind = .function)
    (hnames : ∀ y ∈ scope.names, y.2 = .local → scope.names.lookup y.1 = some .local) (hx : scope.names.lookup x = some .local)
    (h : wpAny (model prog w) A (eval iter env) (SrcT prog w A h₀ L m env elt x scope cl (fun s₂ => LCg.FinE h₀ L m s₂ Q)) E s)
    (hs : ∀ x, foldedSetIterable iter env x = pure x := by intro _; rfl) :
    wpAny (model prog w) A (eval (.ListComp elt [⟨.Name x px, iter, [], 0⟩] scope pos) env) Q E s := by
  rw [eval_ListComp]
  refine wpAny_comprehension_free (use := none) rfl hs hclos hkind hnames (wpAny_mono h (fun xv s₁ h₁ => ?_) fun _ _ e => e)
  obtain ⟨ax, its, news, rfl, hh, F, N, ht, hsz, R⟩ := h₁
  have hl : s₁.heap.IsTuple ax its := let ⟨o, e, r⟩ := ht; ⟨o, F.keep _ _ e, r⟩
  have hlt : ax < s₁.heap.objs.size := by obtain ⟨_, e, _⟩ := hl; exact Heap.lt_size e
  refine wpAny_pyIter_tuple hl ?_
  have up : ∀ b o, s₁.heap.get? b = some o → (s₁.heap.push { cls := .type "tuple_iterator", data := .fields #[.ref ax, .int 0 0] }).get? b = some o := fun b o e => Heap.get?_push_of_some _ e
  refine LCg.block_U (Walks.tuple hh s₁.heap.objs.size ax (Nat.ne_of_lt hlt) its) hsz (fun i h st => by obtain ⟨o, e, _⟩ := st.1; exact ⟨o, e⟩)
    (fun i h h' o nw st e e' k _ _ => ⟨by obtain ⟨o', q, r⟩ := st.1; rw [e] at q; cases q; exact ⟨o, e', r⟩, let ⟨o, e, r⟩ := ht; ⟨o, k _ _ e, r⟩⟩) hcell hkind hx ⟨⟨_, Heap.get?_push_size _ rfl, rfl, rfl⟩, hl.push _⟩ (fun b hb => ?_)
    (F.keeps up) (N.grown up) (Nat.ne_of_lt F.ns.lt) (next_is_new F) (fun p hp => Nat.ne_of_lt (Heap.lt_size (N p hp).1)) trivial (R _ ⟨_, rfl⟩) ?_
  · show b < (s₁.heap.push _).objs.size
    rw [Heap.size_push]
    rcases List.mem_cons.mp hb with rfl | hb
    · exact Nat.lt_succ_self _
    · rw [List.mem_singleton.mp hb]; exact Nat.lt_succ_of_lt hlt
  · intro D C h tk m' ys news' F' N' o1 hn hC₀ hD₀ hCL hDL hCD offC fin
    refine ⟨m', hn, fun h'' hs'' => fin D h'' tk (F'.change hs'' hCL hC₀) (fun p hp => ?_) o1⟩
    refine ⟨hs''.extBut _ _ ?_ (N' p hp).1, (N' p hp).2⟩
    rcases List.mem_cons.mp hp with rfl | hp
    · exact Ne.symm hCD
    · exact offC p hp
end
end Mine

namespace Mine
theorem id_compSrc {prog : Program} {w : World} {A : Around} {h₀ : Heap} {L : Addr} {m : Str → Option Value} {env : Env} {elt : Expr} {x : Str} {scope : Scope} {cl : List (Str × Addr)} {Fin : Shared → List Value → List (Addr × Obj) → Prop} {xv : Value} {s : Shared} (h : LCg.CompSrc prog w A h₀ L m env elt x scope cl Fin xv s) : LCg.CompSrc prog w A h₀ L m env elt x scope cl Fin xv s := h
theorem id_srcT {prog : Program} {w : World} {A : Around} {h₀ : Heap} {L : Addr} {m : Str → Option Value} {env : Env} {elt : Expr} {x : Str} {scope : Scope} {cl : List (Str × Addr)} {Fin : Shared → List Value → List (Addr × Obj) → Prop} {xv : Value} {s : Shared} (h : SrcT prog w A h₀ L m env elt x scope cl Fin xv s) : SrcT prog w A h₀ L m env elt x scope cl Fin xv s := h
theorem id_eltPost {h₀ : Heap} {L : Addr} {m : Str → Option Value} {I : Addr} {oI : Obj} {C : Addr} {oC : Obj} {D : Addr} {ys : List Value} {ex news : List (Addr × Obj)} {Inv : List Value → List (Addr × Obj) → Prop} {s : Shared} {y : Value} {s₂ : Shared} (h : EltPost h₀ L m I oI C oC D ys ex news Inv s y s₂) : EltPost h₀ L m I oI C oC D ys ex news Inv s y s₂ := h
end Mine

namespace Mine
open PyProof.V PySem.Spec
def nms : List Str := [Str.ofString "x", Str.ofString "y", Str.ofString "keys", Str.ofString "get", Str.ofString "items", Str.ofString "_data", Str.ofString "update"]
def nmsV : List Value := [.str (Str.ofString "x") 444, .str (Str.ofString "y") 445, .str (Str.ofString "keys") 446, .str (Str.ofString "get") 447, .str (Str.ofString "items") 448, .str (Str.ofString "_data") 449, .str (Str.ofString "update") 450]
theorem nms_at {i : Nat} {v : Value} (h : nmsV.toArray[i]? = some v) : ∃ x t, v = .str x t ∧ nms[i]? = some x := by
  rw [List.getElem?_toArray] at h
  unfold nmsV at h
  unfold nms
  match i, h with
  | 0, h => cases h; exact ⟨_, _, rfl, rfl⟩
  | 1, h => cases h; exact ⟨_, _, rfl, rfl⟩
  | 2, h => cases h; exact ⟨_, _, rfl, rfl⟩
  | 3, h => cases h; exact ⟨_, _, rfl, rfl⟩
  | 4, h => cases h; exact ⟨_, _, rfl, rfl⟩
  | 5, h => cases h; exact ⟨_, _, rfl, rfl⟩
  | 6, h => cases h; exact ⟨_, _, rfl, rfl⟩
  | n + 7, h => simp at h
def nm (i : Nat) : Str := nms.getD i (Str.ofString "x")
theorem nm_ok (i : Nat) : Ok (.str (nm i)) := by
  have h : ∀ x ∈ nms, Ok (.str x) := by
    intro x hx
    refine ⟨?_, by simp [PyData.depth]⟩
    simp only [PyData.canLay0]
    revert x
    decide +kernel
  unfold nm
  rw [List.getD_eq_getElem?_getD]
  cases e : nms[i]? with
  | none => exact h _ (.head _)
  | some x => exact h x (List.mem_of_getElem? e)

section
variable {w : World} {dp un : Nat} {gd : Option (List Code)} {cn : Str} {cs : Scope} {a : Addr} {ccd : Value} {cl : List (Str × Addr)} {outer : List Env} {A₀ : Around} {base h₀ : Heap} {L : Addr} {m : Str → Option Value} {s : Shared}
  {R : Result → Shared → Prop} {news : List (Addr × Obj)} {mg mb : Str → Option Value} {mean : ExcName → Option Value} {p C dx d : Addr} {o : Obj} {D : List (PyData × PyData)}
variable {E : Value → Shared → Prop}
theorem names_tuple (X : (Mine.hd.heap_39 w.params).In h₀) (K1 : (Mine.hd.heap_39 w.params).lookup 234 = some ⟨.type "tuple", none, .seq nmsV.toArray 0, #[]⟩) : h₀.IsTuple 234 nmsV.toArray := ⟨_, X _ _ K1, rfl, 0, rfl⟩

theorem src_size {vs : List Value} (f : Flats vs (D.map (·.1))) (hn : D.length ≤ 1000) : vs.toArray.size ≤ sizeLine := by
  rw [List.size_toArray, f.len, List.length_map, sizeLine_eq]; omega
theorem src_len {vs : List Value} (f : Flats vs (D.map (·.1))) : vs.toArray.size = D.length := by rw [List.size_toArray, f.len, List.length_map]
theorem lt62 (h : D.length ≤ 1000) : D.length < 2 ^ 62 := by omega
theorem src_at {prog : Program} {vs : List Value} {i : Nat} {v : Value} (hv : vs.toArray[i]? = some v) (fk : Flats vs (D.map (·.1))) (hD : DataOf prog w o D) : ∃ x t dv, v = .str x t ∧ D[i]? = some (.str x, dv) ∧ lookup (.str x) D = some dv := by
  rw [List.getElem?_toArray] at hv
  obtain ⟨dk, hdk, fdk⟩ := fk.get hv
  obtain ⟨pr, hpr, rfl⟩ : ∃ pr, D[i]? = some pr ∧ pr.1 = dk := by
    rw [List.getElem?_map] at hdk
    obtain ⟨pr, h1, h2⟩ := Option.map_eq_some_iff.mp hdk
    exact ⟨pr, h1, h2⟩
  obtain ⟨x, dv, rfl, hl⟩ := hD.at hpr
  obtain ⟨t, rfl⟩ := PyProof.V.Flat.str_inv fdk
  exact ⟨x, t, dv, rfl, hpr, hl⟩
theorem src_all {vs ys : List Value} (f : Flats vs (D.map (·.1))) (hl : ys.length = vs.toArray.size) : ys.length = D.length := by
  rw [hl, List.size_toArray, f.len, List.length_map]
theorem nm_at {f : Str → PyData} {i : Nat} {x : Str} (h : nms[i]? = some x) : (nms.map f)[i]? = some (f x) := by rw [List.getElem?_map, h]; rfl
theorem nm_all {f : Str → PyData} {ys : List Value} (hl : ys.length = nmsV.toArray.size) : ys.length = (nms.map f).length := by rw [hl, List.length_map]; rfl

theorem ne_len {prog : Program} {w : World} {A : Around} {E : Value → Shared → Prop} {s : Shared} {Q : Value → Shared → Prop} {i : Int} {t u : Tok} (h : Q (.bool false) s) : wpAny (model prog w) A (compareOp .NotEq (.int i t) (.int i u)) Q E s :=
  ne_int (by simpa using h)
theorem isP_of {C : Addr} (h : C = 195 ∨ C = 217) : C = 195 ∨ C = 217 ∨ C = 231 := h.elim .inl fun h => .inr (.inl h)
def IsP (C : Addr) : Prop := C = 195 ∨ C = 217 ∨ C = 231
structure AttrOf (w : World) (name : Str) (f : Addr) : Prop where
  at_ : ∀ C, IsP C → findIn (Mine.hd.heap_39 w.params) (.ref C) name = some (some (.ref f))
  get : specialIn (Mine.hd.heap_39 w.params) (.ref f) "__get__" = some (some (.builtin "function.__get__"))
  bare : takesIn (Mine.hd.heap_39 w.params) (.ref f) = some false
  fn : typeIn (Mine.hd.heap_39 w.params) (.ref f) = some (.type "function")
  cp : copiedNames.contains name = false
structure ClsOf (w : World) : Prop where
  ga : ∀ C, IsP C → findIn (Mine.hd.heap_39 w.params) (.ref C) "__getattribute__" = some (some (.builtin "object.__getattribute__"))
  hook : ∀ C, IsP C → findIn (Mine.hd.heap_39 w.params) (.ref C) "__getattr__" = some (some (.ref 127))
  cls : ∀ C, IsP C → isClsIn (Mine.hd.heap_39 w.params) C = true
  nod : ∀ C, IsP C → hasDictIn (Mine.hd.heap_39 w.params) C = false
  seq : ∀ C, IsP C → noSeq (Mine.hd.heap_39 w.params) C = true

theorem g_meth {name : Str} {f : Addr} {pl : Sem Bool} {Q : Value × List Value → Shared → Prop} (K : ClsOf w) (T : AttrOf w name f) (hC : IsP C) (F : Fr h₀ L s.heap m) (X : (Mine.hd.heap_39 w.params).In h₀) (N : News h₀ L s.heap news) (h1 : (p, slotO C dx d) ∈ news) (h2 : (dx, dictOf [] 0) ∈ news)
    {A : Around} (h : ∀ q h', Fr h₀ L h' m → News h₀ L h' ((q, methodObj (.ref f) (.ref p)) :: news) → (∀ p ∈ news, p.1 < q) → Q (.ref q, []) { s with heap := h', toks := s.toks + 1 }) : wpAny (model PySem.Challenge.rw_ep5036_01.row.prog w) A (getMethod (.ref p) name pl) Q E s :=
  methodH (X.keeps F.keep) (InstAt.of_news N h1 h2) (K.ga C hC) (K.hook C hC) (get_methN F X N (InstAt.of_news N h1 h2) (K.ga C hC) (K.hook C hC) (K.cls C hC) (K.nod C hC) (T.at_ C hC) T.get T.bare T.cp T.fn h)

structure Tbl (w : World) : Prop where
  cls : ClsOf w
  keys : AttrOf w "keys" 163
  values : AttrOf w "values" 170
  items : AttrOf w "items" 177
  has_key : AttrOf w "has_key" 184
  get : AttrOf w "get" 156
  update : AttrOf w "update" 148
  clear : AttrOf w "clear" 191
  contains : ∀ C, IsP C → findIn (Mine.hd.heap_39 w.params) (.ref C) "__contains__" = some (some (.ref 134))
  len : ∀ C, IsP C → findIn (Mine.hd.heap_39 w.params) (.ref C) "__len__" = some (some (.ref 78))
  fnContains : isFn (Mine.hd.heap_39 w.params) (.ref 134) = true
  fnLen : isFn (Mine.hd.heap_39 w.params) (.ref 78) = true
  names : (Mine.hd.heap_39 w.params).lookup 234 = some ⟨.type "tuple", none, .seq nmsV.toArray 0, #[]⟩
set_option maxHeartbeats 8000000 in
theorem tbl (w : World) (h : ∃ h₀, (Mine.hd.heap_39 w.params).In h₀) : PySem.Challenge.rw_ep5036_01.row.prog = PySem.Challenge.rw_ep5036_01.row.prog → Tbl w := by
  revert h
  k_fill
  intro _ _
  refine ⟨⟨?_, ?_, ?_, ?_, ?_⟩, ⟨?_, ?_, ?_, ?_, ?_⟩, ⟨?_, ?_, ?_, ?_, ?_⟩, ⟨?_, ?_, ?_, ?_, ?_⟩, ⟨?_, ?_, ?_, ?_, ?_⟩, ⟨?_, ?_, ?_, ?_, ?_⟩, ⟨?_, ?_, ?_, ?_, ?_⟩, ⟨?_, ?_, ?_, ?_, ?_⟩, ?_, ?_, ?_, ?_, ?_⟩
  all_goals first | k_is | (intro C hC; rcases hC with rfl | rfl | rfl <;> k_is) | decide +kernel
end
end Mine

local macro_rules | `(tactic| walk_at "getMethod ref") => `(tactic| (k_here; (with_reducible (refine' Mine.own_gm ?ow ?_; (case ow => assumption))); k_dflt (first
  | ((with_reducible show wpAny _ _ (getMethod (Value.ref _) (Str.ofString "keys") _) _ _ _); refine' Mine.g_meth (by (first | with_reducible assumption | with_reducible_and_instances assumption | assumption) : Mine.Tbl _).cls (by (first | with_reducible assumption | with_reducible_and_instances assumption | assumption) : Mine.Tbl _).keys ?hC ?hF ?hX ?hN ?h1 ?h2 ?_; (case hF => k_asm); (case hX => k_asm); (case hN => k_asm); (case h1 => k_mem); (case h2 => k_mem); (case hC => (first | with_reducible assumption | with_reducible_and_instances assumption | assumption)); k_whole; intro q' h' F' N' l1)
  | ((with_reducible show wpAny _ _ (getMethod (Value.ref _) (Str.ofString "clear") _) _ _ _); refine' Mine.g_meth (by (first | with_reducible assumption | with_reducible_and_instances assumption | assumption) : Mine.Tbl _).cls (by (first | with_reducible assumption | with_reducible_and_instances assumption | assumption) : Mine.Tbl _).clear ?hC ?hF ?hX ?hN ?h1 ?h2 ?_; (case hF => k_asm); (case hX => k_asm); (case hN => k_asm); (case h1 => k_mem); (case h2 => k_mem); (case hC => (first | with_reducible assumption | with_reducible_and_instances assumption | assumption)); k_whole; intro q' h' F' N' l1)
  | ((with_reducible show wpAny _ _ (getMethod (Value.ref _) (Str.ofString "update") _) _ _ _); refine' Mine.g_meth (by (first | with_reducible assumption | with_reducible_and_instances assumption | assumption) : Mine.Tbl _).cls (by (first | with_reducible assumption | with_reducible_and_instances assumption | assumption) : Mine.Tbl _).update ?hC ?hF ?hX ?hN ?h1 ?h2 ?_; (case hF => k_asm); (case hX => k_asm); (case hN => k_asm); (case h1 => k_mem); (case h2 => k_mem); (case hC => (first | with_reducible assumption | with_reducible_and_instances assumption | assumption)); k_whole; intro q' h' F' N' l1)
  | ((with_reducible show wpAny _ _ (getMethod (Value.ref _) (Str.ofString "values") _) _ _ _); refine' Mine.g_meth (by (first | with_reducible assumption | with_reducible_and_instances assumption | assumption) : Mine.Tbl _).cls (by (first | with_reducible assumption | with_reducible_and_instances assumption | assumption) : Mine.Tbl _).values ?hC ?hF ?hX ?hN ?h1 ?h2 ?_; (case hF => k_asm); (case hX => k_asm); (case hN => k_asm); (case h1 => k_mem); (case h2 => k_mem); (case hC => (first | with_reducible assumption | with_reducible_and_instances assumption | assumption)); k_whole; intro q' h' F' N' l1)
  | ((with_reducible show wpAny _ _ (getMethod (Value.ref _) (Str.ofString "items") _) _ _ _); refine' Mine.g_meth (by (first | with_reducible assumption | with_reducible_and_instances assumption | assumption) : Mine.Tbl _).cls (by (first | with_reducible assumption | with_reducible_and_instances assumption | assumption) : Mine.Tbl _).items ?hC ?hF ?hX ?hN ?h1 ?h2 ?_; (case hF => k_asm); (case hX => k_asm); (case hN => k_asm); (case h1 => k_mem); (case h2 => k_mem); (case hC => (first | with_reducible assumption | with_reducible_and_instances assumption | assumption)); k_whole; intro q' h' F' N' l1)
  | ((with_reducible show wpAny _ _ (getMethod (Value.ref _) (Str.ofString "has_key") _) _ _ _); refine' Mine.g_meth (by (first | with_reducible assumption | with_reducible_and_instances assumption | assumption) : Mine.Tbl _).cls (by (first | with_reducible assumption | with_reducible_and_instances assumption | assumption) : Mine.Tbl _).has_key ?hC ?hF ?hX ?hN ?h1 ?h2 ?_; (case hF => k_asm); (case hX => k_asm); (case hN => k_asm); (case h1 => k_mem); (case h2 => k_mem); (case hC => (first | with_reducible assumption | with_reducible_and_instances assumption | assumption)); k_whole; intro q' h' F' N' l1)
  | ((with_reducible show wpAny _ _ (getMethod (Value.ref _) (Str.ofString "get") _) _ _ _); refine' Mine.g_meth (by (first | with_reducible assumption | with_reducible_and_instances assumption | assumption) : Mine.Tbl _).cls (by (first | with_reducible assumption | with_reducible_and_instances assumption | assumption) : Mine.Tbl _).get ?hC ?hF ?hX ?hN ?h1 ?h2 ?_; (case hF => k_asm); (case hX => k_asm); (case hN => k_asm); (case h1 => k_mem); (case h2 => k_mem); (case hC => (first | with_reducible assumption | with_reducible_and_instances assumption | assumption)); k_whole; intro q' h' F' N' l1))))
local macro_rules | `(tactic| walk_at "eval ListComp") => `(tactic| (k_here; first
  | ((with_reducible show wpAny _ _ (eval (Expr.ListComp _ [⟨_, Expr.Name (Str.ofString "_law_names") _, _, _⟩] _ _) _) _ _ _); k_dflt (refine Mine.ListComp_T (F₀ := by k_asm) (by with_unfolding_all rfl) (by decide) (by rfl) (by decide) (by rfl) ?_))
  | k_dflt (refine LCg.ListComp_U (F₀ := by k_asm) (by with_unfolding_all rfl) (by decide) (by rfl) (by decide) (by rfl) ?_)))
local macro_rules | `(tactic| kct_strs) => `(tactic| first
  | ((with_reducible show codeAny _ _ (.call (.ref 163) _) _ _); (refine' Mine.c_keys ?hC ?h1 ?h2 ?h3 ?hD ?lo ?hn ?B ?F ?X ?N ?T ?ck ?dp ?un ?_; ( (case F => k_asm); (case N => k_asm); (case B => k_asm); (case X => k_asm); (case T => k_asm); (case h1 => (first | lsm_bools | kat_tups)); (case h3 => (first | lsm_bools | kat_tups)); (case h2 => (first | lsm_bools | kat_tups)); (case hC => first | (first | with_reducible assumption | with_reducible_and_instances assumption | assumption) | exact .inl rfl | exact .inr (.inl rfl) | exact .inr (.inr rfl) | exact (by (first | with_reducible assumption | with_reducible_and_instances assumption | assumption) : Mine.IsP _)); (case hD => (first | with_reducible assumption | with_reducible_and_instances assumption | assumption)); (case lo => (first | with_reducible assumption | with_reducible_and_instances assumption | assumption)); (case hn => (first | with_reducible assumption | with_reducible_and_instances assumption | assumption)); (case ck => first | (first | with_reducible assumption | with_reducible_and_instances assumption | assumption) | exact rfl); (case dp => ktr_room); (case un => ktr_units)); k_whole; intro r' c' h' tk' vs' F' N' l1 f'; (try dsimp only)))
  | ((with_reducible show codeAny _ _ (.call (.ref 170) _) _ _); (refine' Mine.c_values ?hC ?h1 ?h2 ?h3 ?hD ?lo ?hn ?B ?F ?X ?N ?T ?ck ?dp ?un ?_; ( (case F => k_asm); (case N => k_asm); (case B => k_asm); (case X => k_asm); (case T => k_asm); (case h1 => (first | lsm_bools | kat_tups)); (case h3 => (first | lsm_bools | kat_tups)); (case h2 => (first | lsm_bools | kat_tups)); (case hC => first | (first | with_reducible assumption | with_reducible_and_instances assumption | assumption) | exact .inl rfl | exact .inr (.inl rfl) | exact .inr (.inr rfl) | exact (by (first | with_reducible assumption | with_reducible_and_instances assumption | assumption) : Mine.IsP _)); (case hD => (first | with_reducible assumption | with_reducible_and_instances assumption | assumption)); (case lo => (first | with_reducible assumption | with_reducible_and_instances assumption | assumption)); (case hn => (first | with_reducible assumption | with_reducible_and_instances assumption | assumption)); (case ck => first | (first | with_reducible assumption | with_reducible_and_instances assumption | assumption) | exact rfl); (case dp => ktr_room); (case un => ktr_units)); k_whole; intro r' c' h' tk' vs' F' N' l1 f'; (try dsimp only)))
  | ((with_reducible show codeAny _ _ (.call (.ref 177) _) _ _); (refine' Mine.c_items ?hC ?h1 ?h2 ?h3 ?hD ?lo ?hn ?B ?F ?X ?N ?T ?ck ?dp ?un ?_; ( (case F => k_asm); (case N => k_asm); (case B => k_asm); (case X => k_asm); (case T => k_asm); (case h1 => (first | lsm_bools | kat_tups)); (case h3 => (first | lsm_bools | kat_tups)); (case h2 => (first | lsm_bools | kat_tups)); (case hC => first | (first | with_reducible assumption | with_reducible_and_instances assumption | assumption) | exact .inl rfl | exact .inr (.inl rfl) | exact .inr (.inr rfl) | exact (by (first | with_reducible assumption | with_reducible_and_instances assumption | assumption) : Mine.IsP _)); (case hD => (first | with_reducible assumption | with_reducible_and_instances assumption | assumption)); (case lo => (first | with_reducible assumption | with_reducible_and_instances assumption | assumption)); (case hn => (first | with_reducible assumption | with_reducible_and_instances assumption | assumption)); (case ck => first | (first | with_reducible assumption | with_reducible_and_instances assumption | assumption) | exact rfl); (case dp => ktr_room); (case un => ktr_units)); k_whole; intro r' c' h' tk' as' tups' F' N' l1 l2 f'; (try dsimp only)))
  | ((with_reducible show codeAny _ _ (.call (.ref 184) _) _ _); (refine' Mine.c_haskey ?hC ?h1 ?h2 ?h3 ?hD ?lo ?hn ?B ?F ?X ?N ?T ?ck ?dp ?un ?_; ( (case F => k_asm); (case N => k_asm); (case B => k_asm); (case X => k_asm); (case T => k_asm); (case h1 => (first | lsm_bools | kat_tups)); (case h3 => (first | lsm_bools | kat_tups)); (case h2 => (first | lsm_bools | kat_tups)); (case hC => first | (first | with_reducible assumption | with_reducible_and_instances assumption | assumption) | exact .inl rfl | exact .inr (.inl rfl) | exact .inr (.inr rfl) | exact (by (first | with_reducible assumption | with_reducible_and_instances assumption | assumption) : Mine.IsP _)); (case hD => (first | with_reducible assumption | with_reducible_and_instances assumption | assumption)); (case lo => (first | with_reducible assumption | with_reducible_and_instances assumption | assumption)); (case hn => (first | with_reducible assumption | with_reducible_and_instances assumption | assumption)); (case ck => first | (first | with_reducible assumption | with_reducible_and_instances assumption | assumption) | exact rfl); (case dp => ktr_room); (case un => ktr_units)); k_whole; intro h' tk' F' N'; (try dsimp only)))
  | ((with_reducible show codeAny _ _ (.call (.ref 134) _) _ _); (refine' Mine.c_contains ?hC ?h1 ?h2 ?h3 ?hD ?lo ?hn ?B ?F ?X ?N ?T ?ck ?dp ?un ?_; ( (case F => k_asm); (case N => k_asm); (case B => k_asm); (case X => k_asm); (case T => k_asm); (case h1 => (first | lsm_bools | kat_tups)); (case h3 => (first | lsm_bools | kat_tups)); (case h2 => (first | lsm_bools | kat_tups)); (case hC => first | (first | with_reducible assumption | with_reducible_and_instances assumption | assumption) | exact .inl rfl | exact .inr (.inl rfl) | exact .inr (.inr rfl) | exact (by (first | with_reducible assumption | with_reducible_and_instances assumption | assumption) : Mine.IsP _)); (case hD => (first | with_reducible assumption | with_reducible_and_instances assumption | assumption)); (case lo => (first | with_reducible assumption | with_reducible_and_instances assumption | assumption)); (case hn => (first | with_reducible assumption | with_reducible_and_instances assumption | assumption)); (case ck => first | (first | with_reducible assumption | with_reducible_and_instances assumption | assumption) | exact rfl); (case dp => ktr_room); (case un => ktr_units)); k_whole; intro h' tk' F' N'; (try dsimp only)))
  | ((with_reducible show codeAny _ _ (.call (.ref 78) _) _ _); (refine' Mine.c_len ?hC ?h1 ?h2 ?h3 ?hD ?lo ?hn ?B ?F ?X ?N ?T ?ck ?dp ?un ?_; ( (case F => k_asm); (case N => k_asm); (case B => k_asm); (case X => k_asm); (case T => k_asm); (case h1 => (first | lsm_bools | kat_tups)); (case h3 => (first | lsm_bools | kat_tups)); (case h2 => (first | lsm_bools | kat_tups)); (case hC => first | (first | with_reducible assumption | with_reducible_and_instances assumption | assumption) | exact .inl rfl | exact .inr (.inl rfl) | exact .inr (.inr rfl) | exact (by (first | with_reducible assumption | with_reducible_and_instances assumption | assumption) : Mine.IsP _)); (case hD => (first | with_reducible assumption | with_reducible_and_instances assumption | assumption)); (case lo => (first | with_reducible assumption | with_reducible_and_instances assumption | assumption)); (case hn => (first | with_reducible assumption | with_reducible_and_instances assumption | assumption)); (case ck => first | (first | with_reducible assumption | with_reducible_and_instances assumption | assumption) | exact rfl); (case dp => ktr_room); (case un => ktr_units)); k_whole; intro h' tk' t' F' N'; (try dsimp only)))
  | ((with_reducible show codeAny _ _ (.call (.ref 156) _) _ _); (refine' Mine.c_get ?hC ?h1 ?h2 ?h3 ?hD ?lo ?hn ?B ?F ?X ?N ?T ?ck ?dp ?un ?_; ( (case F => k_asm); (case N => k_asm); (case B => k_asm); (case X => k_asm); (case T => k_asm); (case h1 => (first | lsm_bools | kat_tups)); (case h3 => (first | lsm_bools | kat_tups)); (case h2 => (first | lsm_bools | kat_tups)); (case hC => first | (first | with_reducible assumption | with_reducible_and_instances assumption | assumption) | exact .inl rfl | exact .inr (.inl rfl) | exact .inr (.inr rfl) | exact (by (first | with_reducible assumption | with_reducible_and_instances assumption | assumption) : Mine.IsP _)); (case hD => (first | with_reducible assumption | with_reducible_and_instances assumption | assumption)); (case lo => (first | with_reducible assumption | with_reducible_and_instances assumption | assumption)); (case hn => (first | with_reducible assumption | with_reducible_and_instances assumption | assumption)); (case ck => first | (first | with_reducible assumption | with_reducible_and_instances assumption | assumption) | exact rfl); (case dp => ktr_room); (case un => ktr_units)); k_whole; intro h' tk' v' F' N' f'; (try dsimp only))))
local macro_rules | `(tactic| walk_at "call ref") => `(tactic| (k_here; k_dflt (refine' call_meth ?k1 ?k2 ?_; (case k1 => k_asm); (case k2 => (first | lsm_bools | kat_tups)); k_whole; kct_strs)))
local macro_rules | `(tactic| walk_at "compareOp In str ref") => `(tactic| (k_here; (with_reducible (refine' Mine.own_in ?ow ?_; (case ow => assumption))); k_dflt (refine' in_K ?k1 ?k2 ?k3 ?k4 ?k5 ?_; (case k1 => k_asm); (case k2 => k_asm); (case k3 => k_inst); (case k4 => exact (by (first | with_reducible assumption | with_reducible_and_instances assumption | assumption) : Mine.Tbl _).contains _ (by first | (first | with_reducible assumption | with_reducible_and_instances assumption | assumption) | assumption)); (case k5 => exact (by (first | with_reducible assumption | with_reducible_and_instances assumption | assumption) : Mine.Tbl _).fnContains); k_whole; refine wpAny_call ?_; kct_strs)))
local macro_rules | `(tactic| walk_at "call builtin:len") => `(tactic| (k_here; (with_reducible show wpAny _ _ (call (Value.builtin "len") [Value.ref _]) _ _ _); k_dflt (refine' KM.len_K ?N ?hm ?hs ?hf ?_; (case N => k_asm); (case hm => (first | lsm_bools | kat_tups)); (case hs => exact Mine.src_len (by (first | with_reducible assumption | with_reducible_and_instances assumption | assumption))); (case hf => exact Mine.lt62 (by (first | with_reducible assumption | with_reducible_and_instances assumption | assumption))); k_whole)))
local macro_rules | `(tactic| walk_at "call builtin:len") => `(tactic| (k_here; (with_reducible (refine' Mine.own_call ?ow ?_; (case ow => assumption))); (with_reducible show wpAny _ _ (call (Value.builtin "len") [Value.ref _]) _ _ _); k_dflt (refine' len_K ?k1 ?k2 ?k3 ?k4 ?k5 ?_; (case k1 => k_asm); (case k2 => k_asm); (case k3 => k_inst); (case k4 => exact (by (first | with_reducible assumption | with_reducible_and_instances assumption | assumption) : Mine.Tbl _).len _ (by first | (first | with_reducible assumption | with_reducible_and_instances assumption | assumption) | assumption)); (case k5 => exact (by (first | with_reducible assumption | with_reducible_and_instances assumption | assumption) : Mine.Tbl _).fnLen); k_whole; refine wpAny_call ?_; kct_strs; refine ⟨⟨by omega, by omega⟩, ?_⟩)))
local macro_rules | `(tactic| walk_at "call type:list") => `(tactic| (k_here; (with_reducible (refine' Mine.own_call ?ow ?_; (case ow => assumption))); (with_reducible show wpAny _ _ (call (Value.type "list") [Value.ref _]) _ _ _); k_dflt (refine' Mine.list_own ?hC ?h1 ?h2 ?h3 ?hD ?lo ?hn ?B ?F ?X ?N ?T ?ck ?dp ?un ?_; ( (case F => k_asm); (case N => k_asm); (case B => k_asm); (case X => k_asm); (case T => k_asm); (case h1 => (first | lsm_bools | kat_tups)); (case h3 => (first | lsm_bools | kat_tups)); (case h2 => (first | lsm_bools | kat_tups)); (case hC => first | (first | with_reducible assumption | with_reducible_and_instances assumption | assumption) | exact .inl rfl | exact .inr (.inl rfl) | exact .inr (.inr rfl) | exact (by (first | with_reducible assumption | with_reducible_and_instances assumption | assumption) : Mine.IsP _)); (case hD => (first | with_reducible assumption | with_reducible_and_instances assumption | assumption)); (case lo => (first | with_reducible assumption | with_reducible_and_instances assumption | assumption)); (case hn => (first | with_reducible assumption | with_reducible_and_instances assumption | assumption)); (case ck => first | (first | with_reducible assumption | with_reducible_and_instances assumption | assumption) | exact rfl); (case dp => ktr_room); (case un => ktr_units)); k_whole; intro r' c' h' tk' vs' F' N' l1 f'; (try dsimp only))))
local macro_rules | `(tactic| walk_at "compareOp Eq ref ref") => `(tactic| (k_here; (with_reducible show wpAny _ _ (compareOp CmpOp.Eq (Value.ref _) (Value.ref _)) _ _ _); k_dflt (refine' Mine.eq_lists ?N ?ha ?fa ?hb ?fb ?hs ?hu ?_; (case N => k_asm); (case ha => (first | lsm_bools | kat_tups)); (case hb => (first | lsm_bools | kat_tups)); (case fa => (first | with_reducible assumption | with_reducible_and_instances assumption | assumption)); (case fb => (first | with_reducible assumption | with_reducible_and_instances assumption | assumption)); (case hu => ktr_units); (case hs => first | exact Mine.Good.keys (by (first | with_reducible assumption | with_reducible_and_instances assumption | assumption)) | exact Mine.Good.vals (by (first | with_reducible assumption | with_reducible_and_instances assumption | assumption)) | (first | with_reducible assumption | with_reducible_and_instances assumption | assumption)); k_whole)))
local macro_rules | `(tactic| walk_at "newTuple") => `(tactic| (k_here; k_dflt (refine' kup_newTuple ?F ?N ?_ ?z; (case F => k_asm); (case N => k_asm); (case z => kmk_size)); intro D' h' F' N' l1))
local macro_rules | `(tactic| walk_at "compareOp NotEq int int") => `(tactic| refine Mine.ne_len ?_)
local macro_rules | `(tactic| kct_strs) => `(tactic| first
  | ((with_reducible show codeAny _ _ (.call (.ref 120) _) _ _); (refine' Mine.c_setattr ?hC ?h1 ?h2 ?h3 ?hD ?lo ?hn ?B ?F ?X ?N ?T ?ck ?dp ?un ?hC' ?U ?hv ?_; (case F => k_asm); (case N => k_asm); (case B => k_asm); (case X => k_asm); (case T => k_asm); (case h1 => (first | lsm_bools | kat_tups)); (case h3 => (first | lsm_bools | kat_tups)); (case h2 => (first | lsm_bools | kat_tups)); (case U => k_updF); (case hC => first | (first | with_reducible assumption | with_reducible_and_instances assumption | assumption) | exact Mine.isP_of (by (first | with_reducible assumption | with_reducible_and_instances assumption | assumption)) | (left; rfl) | (right; left; rfl)); (case hC' => first | (first | with_reducible assumption | with_reducible_and_instances assumption | assumption) | (left; rfl) | (right; rfl)); (case hD => (first | with_reducible assumption | with_reducible_and_instances assumption | assumption)); (case lo => (first | with_reducible assumption | with_reducible_and_instances assumption | assumption)); (case hn => (first | with_reducible assumption | with_reducible_and_instances assumption | assumption)); (case ck => first | (first | with_reducible assumption | with_reducible_and_instances assumption | assumption) | exact rfl); (case dp => ktr_room); (case un => ktr_units); (case hv => (first | with_reducible assumption | with_reducible_and_instances assumption | assumption)); k_whole; intro h' o' tk' F' N' y'; (try dsimp only)))
  | ((with_reducible show codeAny _ _ (.call (.ref 99) _) _ _); (refine' Mine.c_setitem ?hC ?h1 ?h2 ?h3 ?hD ?lo ?hn ?B ?F ?X ?N ?T ?ck ?dp ?un ?hC' ?U ?hv ?_; (case F => k_asm); (case N => k_asm); (case B => k_asm); (case X => k_asm); (case T => k_asm); (case h1 => (first | lsm_bools | kat_tups)); (case h3 => (first | lsm_bools | kat_tups)); (case h2 => (first | lsm_bools | kat_tups)); (case U => k_updF); (case hC => first | (first | with_reducible assumption | with_reducible_and_instances assumption | assumption) | exact Mine.isP_of (by (first | with_reducible assumption | with_reducible_and_instances assumption | assumption)) | (left; rfl) | (right; left; rfl)); (case hC' => first | (first | with_reducible assumption | with_reducible_and_instances assumption | assumption) | (left; rfl) | (right; rfl)); (case hD => (first | with_reducible assumption | with_reducible_and_instances assumption | assumption)); (case lo => (first | with_reducible assumption | with_reducible_and_instances assumption | assumption)); (case hn => (first | with_reducible assumption | with_reducible_and_instances assumption | assumption)); (case ck => first | (first | with_reducible assumption | with_reducible_and_instances assumption | assumption) | exact rfl); (case dp => ktr_room); (case un => ktr_units); (case hv => (first | with_reducible assumption | with_reducible_and_instances assumption | assumption)); k_whole; intro h' o' tk' F' N' y'; (try dsimp only)))
  | ((with_reducible show codeAny _ _ (.call (.ref 191) _) _ _); (refine' Mine.c_clear ?hC ?h1 ?h2 ?h3 ?hD ?lo ?hn ?B ?F ?X ?N ?T ?ck ?dp ?un ?hC' ?U ?_; (case F => k_asm); (case N => k_asm); (case B => k_asm); (case X => k_asm); (case T => k_asm); (case h1 => (first | lsm_bools | kat_tups)); (case h3 => (first | lsm_bools | kat_tups)); (case h2 => (first | lsm_bools | kat_tups)); (case U => k_updF); (case hC => first | (first | with_reducible assumption | with_reducible_and_instances assumption | assumption) | exact Mine.isP_of (by (first | with_reducible assumption | with_reducible_and_instances assumption | assumption)) | (left; rfl) | (right; left; rfl)); (case hC' => first | (first | with_reducible assumption | with_reducible_and_instances assumption | assumption) | (left; rfl) | (right; rfl)); (case hD => (first | with_reducible assumption | with_reducible_and_instances assumption | assumption)); (case lo => (first | with_reducible assumption | with_reducible_and_instances assumption | assumption)); (case hn => (first | with_reducible assumption | with_reducible_and_instances assumption | assumption)); (case ck => first | (first | with_reducible assumption | with_reducible_and_instances assumption | assumption) | exact rfl); (case dp => ktr_room); (case un => ktr_units); k_whole; intro h' o' tk' F' N' y'; (try dsimp only)))
  | ((with_reducible show codeAny _ _ (.call (.ref 113) _) _ _); (refine' Mine.c_delitem ?hC ?h1 ?h2 ?h3 ?hD ?lo ?hn ?B ?F ?X ?N ?T ?ck ?dp ?un ?hC' ?U ?hl ?_; (case F => k_asm); (case N => k_asm); (case B => k_asm); (case X => k_asm); (case T => k_asm); (case h1 => (first | lsm_bools | kat_tups)); (case h3 => (first | lsm_bools | kat_tups)); (case h2 => (first | lsm_bools | kat_tups)); (case U => k_updF); (case hC => first | (first | with_reducible assumption | with_reducible_and_instances assumption | assumption) | exact Mine.isP_of (by (first | with_reducible assumption | with_reducible_and_instances assumption | assumption)) | (left; rfl) | (right; left; rfl)); (case hC' => first | (first | with_reducible assumption | with_reducible_and_instances assumption | assumption) | (left; rfl) | (right; rfl)); (case hD => (first | with_reducible assumption | with_reducible_and_instances assumption | assumption)); (case hl => (first | with_reducible assumption | with_reducible_and_instances assumption | assumption)); (case lo => (first | with_reducible assumption | with_reducible_and_instances assumption | assumption)); (case hn => (first | with_reducible assumption | with_reducible_and_instances assumption | assumption)); (case ck => first | (first | with_reducible assumption | with_reducible_and_instances assumption | assumption) | exact rfl); (case dp => ktr_room); (case un => ktr_units); k_whole; intro h' o' tk' F' N' y'; (try dsimp only))))
namespace Mine
open PyProof.V PySem.Spec
section
variable {w : World} {dp un : Nat} {gd : Option (List Code)} {cn : Str} {cs : Scope} {a : Addr} {ccd : Value} {cl : List (Str × Addr)} {outer : List Env} {A₀ : Around} {base h₀ : Heap} {L : Addr} {m : Str → Option Value} {s : Shared}
  {R : Result → Shared → Prop} {news : List (Addr × Obj)} {mg mb : Str → Option Value} {mean : ExcName → Option Value} {p C dx d : Addr} {o : Obj} {D : List (PyData × PyData)}
variable {q : Addr} {oq : Obj}
set_option maxHeartbeats 8000000 in
theorem c_same (hC : IsP C) (h1 : (p, slotO C dx d) ∈ news) (h2 : (dx, dictOf [] 0) ∈ news) (h3 : (d, o) ∈ news) (hD : DataOf PySem.Challenge.rw_ep5036_01.row.prog w o D) (lo : (d == sysModules) = false) (hn : D.length ≤ 1000) (h4 : (q, oq) ∈ news) (hQ : DataOf PySem.Challenge.rw_ep5036_01.row.prog w oq D) (lo2 : (q == sysModules) = false) (hG : Good D) (B : Below A₀ base outer h₀) (F : Fr h₀ L s.heap m) (X : (Mine.hd.heap_39 w.params).In h₀) (N : News h₀ L s.heap news) (T : Top Mine.hd.view_39 (looseW Mine.hd.view_39 [Str.ofString "ReadOnlyContainer", Str.ofString "Properties", Str.ofString "OrderedProperties", Str.ofString "ReadOnlyProperties"]) mean mg mb h₀) (hck : cs.kind = .function) (hdp : dp + 40 < recursionLimit) (hun : un + 400 < cLine)
    (hret : ∀ h' tk, Fr h₀ L h' m → News h₀ L h' news → R (.ok (.ret (.bool true))) { s with heap := h', toks := tk }) :
    codeAny (model PySem.Challenge.rw_ep5036_01.row.prog w) (ktrTop dp un gd cn cs L a ccd cl outer) (.call (.ref 260) ⟨[.ref p, .ref q], []⟩) R s := by
  have Tb : Tbl w := tbl w ⟨_, X⟩ rfl
  have O1 : Own p := rfl
  have S1 : SeqAt.shaped (.list (nms.map (fun x => PyData.bool (lookup (.str x) D).isSome))) = true := shaped_oks fun d hd => by
    obtain ⟨x, _, rfl⟩ := List.mem_map.mp hd; exact Ok.bool _
  have S2 : SeqAt.shaped (.list (nms.map (fun x => (lookup (.str x) D).getD (.str (Str.ofString "no"))))) = true := shaped_oks fun d hd => by
    obtain ⟨x, _, rfl⟩ := List.mem_map.mp hd; exact hG.getD ⟨by simp only [PyData.canLay0]; decide +kernel, by simp [PyData.depth]⟩
  revert X
  k_fill
  intro X
  k_dflt cell_enter
  (repeat' ((fail_if_success (first | with_reducible refine Mine.id_compSrc ?_ | with_reducible refine Mine.id_srcT ?_ | with_reducible refine Mine.id_eltPost ?_)); (first | (k_unfold; (try dsimp only)) | walk1 | (dsimp only; walk1) | (leave1; try dsimp only) | fail "no step")))
  refine compSrc_inv (fun ys ex => ex = [] ∧ Flats ys ((D.map (·.2)).take ys.length)) rfl (by (first | with_reducible assumption | with_reducible_and_instances assumption | assumption)) (by (first | with_reducible assumption | with_reducible_and_instances assumption | assumption)) (by k_mem) (src_size (by (first | with_reducible assumption | with_reducible_and_instances assumption | assumption)) hn) ⟨rfl, trivial⟩ ?_ ?_
  · intro g v ys ex I oI C' oC Dl m₂ h tk E' hv hinv hC hx F1 N1 off ne
    obtain ⟨rfl, hfl⟩ := hinv
    obtain ⟨x, t, dv, rfl, hpr, hl⟩ := src_at (hv := hv) (fk := by (first | with_reducible assumption | with_reducible_and_instances assumption | assumption)) hD
    (repeat' ((fail_if_success (first | with_reducible refine Mine.id_compSrc ?_ | with_reducible refine Mine.id_srcT ?_ | with_reducible refine Mine.id_eltPost ?_)); (first | (k_unfold; (try dsimp only)) | walk1 | (dsimp only; walk1) | (leave1; try dsimp only) | fail "no step")))
    exact EltPost.mk0 (by (first | with_reducible assumption | with_reducible_and_instances assumption | assumption)) (by (first | with_reducible assumption | with_reducible_and_instances assumption | assumption)) ⟨rfl, flats_take hfl (by rw [List.getElem?_map, hpr]; rfl) (by (first | with_reducible assumption | with_reducible_and_instances assumption | assumption))⟩
  intro g ys ex hlen hinv
  obtain ⟨rfl, hfl⟩ := hinv
  have hfl := flats_all hfl ((src_all (by (first | with_reducible assumption | with_reducible_and_instances assumption | assumption)) hlen).trans (List.length_map _).symm)
  intro Dl h tk F1 N1 off
  rw [List.nil_append] at N1
  dsimp only
  (repeat' ((fail_if_success (first | with_reducible refine Mine.id_compSrc ?_ | with_reducible refine Mine.id_srcT ?_ | with_reducible refine Mine.id_eltPost ?_)); (first | (k_unfold; (try dsimp only)) | walk1 | (dsimp only; walk1) | (leave1; try dsimp only) | fail "no step")))
  refine compSrc_inv (fun ys ex => ∃ as : List Addr, ys = as.map Value.ref ∧ Tups ex as (D.take ys.length)) rfl (by (first | with_reducible assumption | with_reducible_and_instances assumption | assumption)) (by (first | with_reducible assumption | with_reducible_and_instances assumption | assumption)) (by k_mem) (src_size (by (first | with_reducible assumption | with_reducible_and_instances assumption | assumption)) hn) ⟨[], rfl, rfl, fun j a h => by simp at h⟩ ?_ ?_
  · intro g v ys ex I oI C' oC Dl m₂ h tk E' hv hinv hC hx F1 N1 off ne
    obtain ⟨as, rfl, ht⟩ := hinv
    obtain ⟨x, t, dv, rfl, hpr, hl⟩ := src_at (hv := hv) (fk := by (first | with_reducible assumption | with_reducible_and_instances assumption | assumption)) hD
    rw [List.length_map] at hpr ht
    (repeat' ((fail_if_success (first | with_reducible refine Mine.id_compSrc ?_ | with_reducible refine Mine.id_srcT ?_ | with_reducible refine Mine.id_eltPost ?_)); (first | (k_unfold; (try dsimp only)) | walk1 | (dsimp only; walk1) | (leave1; try dsimp only) | fail "no step")))
    exact EltPost.mk1 (by (first | with_reducible assumption | with_reducible_and_instances assumption | assumption)) (cb_drop (by (first | with_reducible assumption | with_reducible_and_instances assumption | assumption)) (by kcj_all)) (Nat.ne_of_gt (lt_of_all (q := (I, oI)) (by (first | with_reducible assumption | with_reducible_and_instances assumption | assumption)) (by k_mem))) (Nat.ne_of_gt (lt_of_all (q := (C', oC)) (by (first | with_reducible assumption | with_reducible_and_instances assumption | assumption)) (by k_mem))) (Nat.ne_of_gt (lt_of_all (q := (Dl, LCg.lst (as.map Value.ref))) (by (first | with_reducible assumption | with_reducible_and_instances assumption | assumption)) (by k_mem))) (tup_inv ht hpr ⟨_, _, _, rfl, PyProof.V.Flat.str _ _, by (first | with_reducible assumption | with_reducible_and_instances assumption | assumption)⟩)
  intro g ys ex hlen hinv
  obtain ⟨as, rfl, ht⟩ := hinv
  have hla := src_all (by (first | with_reducible assumption | with_reducible_and_instances assumption | assumption)) hlen
  rw [List.length_map] at hla ht
  have ht := tups_all ht hla
  intro Dl h tk F1 N1 off
  dsimp only
  (repeat' ((fail_if_success (first | with_reducible refine Mine.id_compSrc ?_ | with_reducible refine Mine.id_srcT ?_ | with_reducible refine Mine.id_eltPost ?_)); (first | (k_unfold; (try dsimp only)) | walk1 | (dsimp only; walk1) | (leave1; try dsimp only) | fail "no step")))
  refine srcT_inv (fun ys ex => ex = [] ∧ Flats ys ((nms.map (fun x => PyData.bool (lookup (.str x) D).isSome)).take ys.length)) rfl (by (first | with_reducible assumption | with_reducible_and_instances assumption | assumption)) (by (first | with_reducible assumption | with_reducible_and_instances assumption | assumption)) (names_tuple (by (first | with_reducible assumption | with_reducible_and_instances assumption | assumption)) Tb.names) (by rw [sizeLine_eq]; decide) ⟨rfl, trivial⟩ ?_ ?_
  · intro g v ys ex I oI C' oC Dl m₂ h tk E' hv hinv hC' hx F1 N1 off ne
    obtain ⟨rfl, hfl⟩ := hinv
    obtain ⟨x, t, rfl, hx'⟩ := nms_at hv
    (repeat' ((fail_if_success (first | with_reducible refine Mine.id_compSrc ?_ | with_reducible refine Mine.id_srcT ?_ | with_reducible refine Mine.id_eltPost ?_)); (first | (k_unfold; (try dsimp only)) | walk1 | (dsimp only; walk1) | (leave1; try dsimp only) | fail "no step")))
    exact EltPost.mk0 (by (first | with_reducible assumption | with_reducible_and_instances assumption | assumption)) (cb_drop (by (first | with_reducible assumption | with_reducible_and_instances assumption | assumption)) (by kcj_all)) ⟨rfl, flats_take hfl (nm_at hx') (Flat.bool _)⟩
  intro g ys ex hlen hinv
  obtain ⟨rfl, hfl⟩ := hinv
  have hfl := flats_all hfl (nm_all hlen)
  intro Dl h tk F1 N1 off
  rw [List.nil_append] at N1
  dsimp only
  (repeat' ((fail_if_success (first | with_reducible refine Mine.id_compSrc ?_ | with_reducible refine Mine.id_srcT ?_ | with_reducible refine Mine.id_eltPost ?_)); (first | (k_unfold; (try dsimp only)) | walk1 | (dsimp only; walk1) | (leave1; try dsimp only) | fail "no step")))
  refine srcT_inv (fun ys ex => ex = [] ∧ Flats ys ((nms.map (fun x => PyData.bool (lookup (.str x) D).isSome)).take ys.length)) rfl (by (first | with_reducible assumption | with_reducible_and_instances assumption | assumption)) (by (first | with_reducible assumption | with_reducible_and_instances assumption | assumption)) (names_tuple (by (first | with_reducible assumption | with_reducible_and_instances assumption | assumption)) Tb.names) (by rw [sizeLine_eq]; decide) ⟨rfl, trivial⟩ ?_ ?_
  · intro g v ys ex I oI C' oC Dl m₂ h tk E' hv hinv hC' hx F1 N1 off ne
    obtain ⟨rfl, hfl⟩ := hinv
    obtain ⟨x, t, rfl, hx'⟩ := nms_at hv
    (repeat' ((fail_if_success (first | with_reducible refine Mine.id_compSrc ?_ | with_reducible refine Mine.id_srcT ?_ | with_reducible refine Mine.id_eltPost ?_)); (first | (k_unfold; (try dsimp only)) | walk1 | (dsimp only; walk1) | (leave1; try dsimp only) | fail "no step")))
    exact EltPost.mk0 (by (first | with_reducible assumption | with_reducible_and_instances assumption | assumption)) (cb_drop (by (first | with_reducible assumption | with_reducible_and_instances assumption | assumption)) (by kcj_all)) ⟨rfl, flats_take hfl (nm_at hx') (Flat.bool _)⟩
  intro g ys ex hlen hinv
  obtain ⟨rfl, hfl⟩ := hinv
  have hfl := flats_all hfl (nm_all hlen)
  intro Dl h tk F1 N1 off
  rw [List.nil_append] at N1
  dsimp only
  (repeat' ((fail_if_success (first | with_reducible refine Mine.id_compSrc ?_ | with_reducible refine Mine.id_srcT ?_ | with_reducible refine Mine.id_eltPost ?_)); (first | (k_unfold; (try dsimp only)) | walk1 | (dsimp only; walk1) | (leave1; try dsimp only) | fail "no step")))
  refine srcT_inv (fun ys ex => ex = [] ∧ Flats ys ((nms.map (fun x => PyData.bool (lookup (.str x) D).isSome)).take ys.length)) rfl (by (first | with_reducible assumption | with_reducible_and_instances assumption | assumption)) (by (first | with_reducible assumption | with_reducible_and_instances assumption | assumption)) (names_tuple (by (first | with_reducible assumption | with_reducible_and_instances assumption | assumption)) Tb.names) (by rw [sizeLine_eq]; decide) ⟨rfl, trivial⟩ ?_ ?_
  · intro g v ys ex I oI C' oC Dl m₂ h tk E' hv hinv hC' hx F1 N1 off ne
    obtain ⟨rfl, hfl⟩ := hinv
    obtain ⟨x, t, rfl, hx'⟩ := nms_at hv
    (repeat' ((fail_if_success (first | with_reducible refine Mine.id_compSrc ?_ | with_reducible refine Mine.id_srcT ?_ | with_reducible refine Mine.id_eltPost ?_)); (first | (k_unfold; (try dsimp only)) | walk1 | (dsimp only; walk1) | (leave1; try dsimp only) | fail "no step")))
    exact EltPost.mk0 (by (first | with_reducible assumption | with_reducible_and_instances assumption | assumption)) (cb_drop (by (first | with_reducible assumption | with_reducible_and_instances assumption | assumption)) (by kcj_all)) ⟨rfl, flats_take hfl (nm_at hx') (Flat.bool _)⟩
  intro g ys ex hlen hinv
  obtain ⟨rfl, hfl⟩ := hinv
  have hfl := flats_all hfl (nm_all hlen)
  intro Dl h tk F1 N1 off
  rw [List.nil_append] at N1
  dsimp only
  (repeat' ((fail_if_success (first | with_reducible refine Mine.id_compSrc ?_ | with_reducible refine Mine.id_srcT ?_ | with_reducible refine Mine.id_eltPost ?_)); (first | (k_unfold; (try dsimp only)) | walk1 | (dsimp only; walk1) | (leave1; try dsimp only) | fail "no step")))
  refine srcT_inv (fun ys ex => ex = [] ∧ Flats ys ((nms.map (fun x => PyData.bool (lookup (.str x) D).isSome)).take ys.length)) rfl (by (first | with_reducible assumption | with_reducible_and_instances assumption | assumption)) (by (first | with_reducible assumption | with_reducible_and_instances assumption | assumption)) (names_tuple (by (first | with_reducible assumption | with_reducible_and_instances assumption | assumption)) Tb.names) (by rw [sizeLine_eq]; decide) ⟨rfl, trivial⟩ ?_ ?_
  · intro g v ys ex I oI C' oC Dl m₂ h tk E' hv hinv hC' hx F1 N1 off ne
    obtain ⟨rfl, hfl⟩ := hinv
    obtain ⟨x, t, rfl, hx'⟩ := nms_at hv
    (repeat' ((fail_if_success (first | with_reducible refine Mine.id_compSrc ?_ | with_reducible refine Mine.id_srcT ?_ | with_reducible refine Mine.id_eltPost ?_)); (first | (k_unfold; (try dsimp only)) | walk1 | (dsimp only; walk1) | (leave1; try dsimp only) | fail "no step")))
    exact EltPost.mk0 (by (first | with_reducible assumption | with_reducible_and_instances assumption | assumption)) (cb_drop (by (first | with_reducible assumption | with_reducible_and_instances assumption | assumption)) (by kcj_all)) ⟨rfl, flats_take hfl (nm_at hx') (Flat.bool _)⟩
  intro g ys ex hlen hinv
  obtain ⟨rfl, hfl⟩ := hinv
  have hfl := flats_all hfl (nm_all hlen)
  intro Dl h tk F1 N1 off
  rw [List.nil_append] at N1
  dsimp only
  (repeat' ((fail_if_success (first | with_reducible refine Mine.id_compSrc ?_ | with_reducible refine Mine.id_srcT ?_ | with_reducible refine Mine.id_eltPost ?_)); (first | (k_unfold; (try dsimp only)) | walk1 | (dsimp only; walk1) | (leave1; try dsimp only) | fail "no step")))
  refine srcT_inv (fun ys ex => ex = [] ∧ Flats ys ((nms.map (fun x => (lookup (.str x) D).getD (.str (Str.ofString "no")))).take ys.length)) rfl (by (first | with_reducible assumption | with_reducible_and_instances assumption | assumption)) (by (first | with_reducible assumption | with_reducible_and_instances assumption | assumption)) (names_tuple (by (first | with_reducible assumption | with_reducible_and_instances assumption | assumption)) Tb.names) (by rw [sizeLine_eq]; decide) ⟨rfl, trivial⟩ ?_ ?_
  · intro g v ys ex I oI C' oC Dl m₂ h tk E' hv hinv hC' hx F1 N1 off ne
    obtain ⟨rfl, hfl⟩ := hinv
    obtain ⟨x, t, rfl, hx'⟩ := nms_at hv
    (repeat' ((fail_if_success (first | with_reducible refine Mine.id_compSrc ?_ | with_reducible refine Mine.id_srcT ?_ | with_reducible refine Mine.id_eltPost ?_)); (first | (k_unfold; (try dsimp only)) | walk1 | (dsimp only; walk1) | (leave1; try dsimp only) | fail "no step")))
    exact EltPost.mk0 (by (first | with_reducible assumption | with_reducible_and_instances assumption | assumption)) (cb_drop (by (first | with_reducible assumption | with_reducible_and_instances assumption | assumption)) (by kcj_all)) ⟨rfl, flats_take hfl (nm_at hx') (by (first | with_reducible assumption | with_reducible_and_instances assumption | assumption))⟩
  intro g ys ex hlen hinv
  obtain ⟨rfl, hfl⟩ := hinv
  have hfl := flats_all hfl (nm_all hlen)
  intro Dl h tk F1 N1 off
  rw [List.nil_append] at N1
  dsimp only
  (repeat' ((fail_if_success (first | with_reducible refine Mine.id_compSrc ?_ | with_reducible refine Mine.id_srcT ?_ | with_reducible refine Mine.id_eltPost ?_)); (first | (k_unfold; (try dsimp only)) | walk1 | (dsimp only; walk1) | (leave1; try dsimp only) | fail "no step")))
  refine srcT_inv (fun ys ex => ex = [] ∧ Flats ys ((nms.map (fun x => (lookup (.str x) D).getD (.str (Str.ofString "no")))).take ys.length)) rfl (by (first | with_reducible assumption | with_reducible_and_instances assumption | assumption)) (by (first | with_reducible assumption | with_reducible_and_instances assumption | assumption)) (names_tuple (by (first | with_reducible assumption | with_reducible_and_instances assumption | assumption)) Tb.names) (by rw [sizeLine_eq]; decide) ⟨rfl, trivial⟩ ?_ ?_
  · intro g v ys ex I oI C' oC Dl m₂ h tk E' hv hinv hC' hx F1 N1 off ne
    obtain ⟨rfl, hfl⟩ := hinv
    obtain ⟨x, t, rfl, hx'⟩ := nms_at hv
    (repeat' ((fail_if_success (first | with_reducible refine Mine.id_compSrc ?_ | with_reducible refine Mine.id_srcT ?_ | with_reducible refine Mine.id_eltPost ?_)); (first | (k_unfold; (try dsimp only)) | walk1 | (dsimp only; walk1) | (leave1; try dsimp only) | fail "no step")))
    exact EltPost.mk0 (by (first | with_reducible assumption | with_reducible_and_instances assumption | assumption)) (cb_drop (by (first | with_reducible assumption | with_reducible_and_instances assumption | assumption)) (by kcj_all)) ⟨rfl, flats_take hfl (nm_at hx') (by (first | with_reducible assumption | with_reducible_and_instances assumption | assumption))⟩
  intro g ys ex hlen hinv
  obtain ⟨rfl, hfl⟩ := hinv
  have hfl := flats_all hfl (nm_all hlen)
  intro Dl h tk F1 N1 off
  rw [List.nil_append] at N1
  dsimp only
  (repeat' ((fail_if_success (first | with_reducible refine Mine.id_compSrc ?_ | with_reducible refine Mine.id_srcT ?_ | with_reducible refine Mine.id_eltPost ?_)); (first | (k_unfold; (try dsimp only)) | walk1 | (dsimp only; walk1) | (leave1; try dsimp only) | fail "no step")))
  exact hret _ _ (by (first | with_reducible assumption | with_reducible_and_instances assumption | assumption)) (cb_drop (by (first | with_reducible assumption | with_reducible_and_instances assumption | assumption)) (by kcj_all))
end
end Mine

namespace Mine
open PyProof.V PySem.Spec
section
variable {w : World} {dp un : Nat} {gd : Option (List Code)} {cn : Str} {cs : Scope} {a : Addr} {ccd : Value} {cl : List (Str × Addr)} {outer : List Env} {A₀ : Around} {base h₀ : Heap} {L : Addr} {m : Str → Option Value} {s : Shared}
  {R : Result → Shared → Prop} {news : List (Addr × Obj)} {mg mb : Str → Option Value} {mean : ExcName → Option Value} {p C dx d : Addr} {o : Obj} {D : List (PyData × PyData)}
variable {g : Obj → List (Addr × Obj)} {x : Str} {t : Tok} {v : Value} {dv : PyData} {e : Addr} {oe : Obj} {D₂ : List (PyData × PyData)}
theorem update_data {prog : Program} {A : Around} {E : Value → Shared → Prop} {Q : Value → Shared → Prop} (F : Fr h₀ L s.heap m) (N : News h₀ L s.heap news) (U : UpdF d o news g) (y : DataOf prog w o D) (hn : D.length ≤ 1000)
    (h2 : (e, oe) ∈ news) (y2 : DataOf prog w oe D₂) (lo2 : (e == sysModules) = false) (hne : d ≠ e) (hn2 : D₂.length ≤ 1000)
    (h : ∀ h' o', Fr h₀ L h' m → News h₀ L h' (g o') → DataOf prog w o' (ktMergeD D D₂) → Q .none { s with heap := h' }) :
    wpAny (model prog w) A (call (.builtin "dict.update") [.ref d, .ref e]) Q E s :=
  let ⟨_, a, b⟩ := y
  kt_update_K PyProof.V.same_str F N U a b (y2.tab lo2 N h2) hne (fun h' o' _ F' N' a' b' => h h' o' F' N' ⟨_, a', b'⟩) (by rw [sizeLine_eq]; omega)
end
end Mine
local macro_rules | `(tactic| walk_at "call builtin:dict.update") => `(tactic| (k_here; k_dflt (refine' Mine.update_data ?F ?N ?U ?y ?hn ?h2 ?y2 ?lo2 ?hne ?hn2 ?_; (case U => k_updF); (case F => k_asm); (case N => k_asm); (case h2 => (first | lsm_bools | kat_tups)); (case y => (first | with_reducible assumption | with_reducible_and_instances assumption | assumption)); (case y2 => (first | with_reducible assumption | with_reducible_and_instances assumption | assumption)); (case lo2 => (first | with_reducible assumption | with_reducible_and_instances assumption | assumption)); (case hne => (first | with_reducible assumption | with_reducible_and_instances assumption | assumption)); (case hn => (first | with_reducible assumption | with_reducible_and_instances assumption | assumption)); (case hn2 => (first | with_reducible assumption | with_reducible_and_instances assumption | assumption)); k_whole; intro h' o' F' N' y'; (try dsimp only at N'))))
namespace Mine
open PyProof.V PySem.Spec
section
variable {w : World} {dp un : Nat} {gd : Option (List Code)} {cn : Str} {cs : Scope} {a : Addr} {ccd : Value} {cl : List (Str × Addr)} {outer : List Env} {A₀ : Around} {base h₀ : Heap} {L : Addr} {m : Str → Option Value} {s : Shared}
  {R : Result → Shared → Prop} {news : List (Addr × Obj)} {mg mb : Str → Option Value} {mean : ExcName → Option Value} {p C dx d : Addr} {o : Obj} {D : List (PyData × PyData)}
variable {g : Obj → List (Addr × Obj)} {x : Str} {t : Tok} {v : Value} {dv : PyData} {e : Addr} {oe : Obj} {D₂ : List (PyData × PyData)}
set_option maxHeartbeats 8000000 in
theorem c_update (hC : C = 195 ∨ C = 217 ∨ C = 231) (h1 : (p, slotO C dx d) ∈ news) (h2 : (dx, dictOf [] 0) ∈ news) (h3 : (d, o) ∈ news) (hD : DataOf PySem.Challenge.rw_ep5036_01.row.prog w o D) (lo : (d == sysModules) = false) (hn : D.length ≤ 1000) (B : Below A₀ base outer h₀) (F : Fr h₀ L s.heap m) (X : (Mine.hd.heap_39 w.params).In h₀) (N : News h₀ L s.heap news) (T : Top Mine.hd.view_39 (looseW Mine.hd.view_39 [Str.ofString "ReadOnlyContainer", Str.ofString "Properties", Str.ofString "OrderedProperties", Str.ofString "ReadOnlyProperties"]) mean mg mb h₀) (hck : cs.kind = .function) (hdp : dp + 10 < recursionLimit) (hun : un + 100 < cLine) (hC' : C = 195 ∨ C = 217) (U : UpdF d o news g) (h4 : (e, oe) ∈ news) (y2 : DataOf PySem.Challenge.rw_ep5036_01.row.prog w oe D₂) (lo2 : (e == sysModules) = false) (hne : d ≠ e) (hn2 : D₂.length ≤ 1000)
    (hret : ∀ h' o' tk, Fr h₀ L h' m → News h₀ L h' (g o') → DataOf PySem.Challenge.rw_ep5036_01.row.prog w o' (ktMergeD D D₂) → R (.ok (.ret .none)) { s with heap := h', toks := tk }) :
    codeAny (model PySem.Challenge.rw_ep5036_01.row.prog w) (ktrTop dp un gd cn cs L a ccd cl outer) (.call (.ref 148) ⟨[.ref p, .ref e], []⟩) R s := by
  clear hC
  revert X
  k_fill
  intro X
  rcases hC' with rfl | rfl <;> (k_dflt cell_enter; (repeat' ((fail_if_success (first | with_reducible refine Mine.id_compSrc ?_ | with_reducible refine Mine.id_srcT ?_ | with_reducible refine Mine.id_eltPost ?_)); (first | (k_unfold; (try dsimp only)) | walk1 | (dsimp only; walk1) | (leave1; try dsimp only) | fail "no step"))); exact hret _ _ _ (by (first | with_reducible assumption | with_reducible_and_instances assumption | assumption)) (by (first | with_reducible assumption | with_reducible_and_instances assumption | assumption)) (by (first | with_reducible assumption | with_reducible_and_instances assumption | assumption)))
set_option maxHeartbeats 8000000 in
theorem c_bydot {k : Nat} {tk : Tok} (hC : C = 195 ∨ C = 217 ∨ C = 231) (h1 : (p, slotO C dx d) ∈ news) (h2 : (dx, dictOf [] 0) ∈ news) (h3 : (d, o) ∈ news) (hD : DataOf PySem.Challenge.rw_ep5036_01.row.prog w o D) (lo : (d == sysModules) = false) (hn : D.length ≤ 1000) (B : Below A₀ base outer h₀) (F : Fr h₀ L s.heap m) (X : (Mine.hd.heap_39 w.params).In h₀) (N : News h₀ L s.heap news) (T : Top Mine.hd.view_39 (looseW Mine.hd.view_39 [Str.ofString "ReadOnlyContainer", Str.ofString "Properties", Str.ofString "OrderedProperties", Str.ofString "ReadOnlyProperties"]) mean mg mb h₀) (hck : cs.kind = .function) (hdp : dp + 20 < recursionLimit) (hun : un + 200 < cLine) (hC' : C = 195 ∨ C = 217) (U : UpdF d o news g) (hv : Flat v dv) (hk : k < 7)
    (hret : ∀ h' o' tk, Fr h₀ L h' m → News h₀ L h' (g o') → DataOf PySem.Challenge.rw_ep5036_01.row.prog w o' (putD (.str (nm k)) dv D) → R (.ok (.ret .none)) { s with heap := h', toks := tk }) :
    codeAny (model PySem.Challenge.rw_ep5036_01.row.prog w) (ktrTop dp un gd cn cs L a ccd cl outer) (.call (.ref 241) ⟨[.ref p, .int k tk, v], []⟩) R s := by
  clear hC
  have hk' : k = 0 ∨ k = 1 ∨ k = 2 ∨ k = 3 ∨ k = 4 ∨ k = 5 ∨ k = 6 := by omega
  clear hk
  rcases hC' with rfl | rfl
  · rcases hk' with rfl | rfl | rfl | rfl | rfl | rfl | rfl <;> (k_dflt cell_enter; (repeat' ((fail_if_success (first | with_reducible refine Mine.id_compSrc ?_ | with_reducible refine Mine.id_srcT ?_ | with_reducible refine Mine.id_eltPost ?_)); (first | (k_unfold; (try dsimp only)) | walk1 | (dsimp only; walk1) | (leave1; try dsimp only) | fail "no step"))); exact hret _ _ _ (by (first | with_reducible assumption | with_reducible_and_instances assumption | assumption)) (by (first | with_reducible assumption | with_reducible_and_instances assumption | assumption)) (by (first | with_reducible assumption | with_reducible_and_instances assumption | assumption)))
  · rcases hk' with rfl | rfl | rfl | rfl | rfl | rfl | rfl <;> (k_dflt cell_enter; (repeat' ((fail_if_success (first | with_reducible refine Mine.id_compSrc ?_ | with_reducible refine Mine.id_srcT ?_ | with_reducible refine Mine.id_eltPost ?_)); (first | (k_unfold; (try dsimp only)) | walk1 | (dsimp only; walk1) | (leave1; try dsimp only) | fail "no step"))); exact hret _ _ _ (by (first | with_reducible assumption | with_reducible_and_instances assumption | assumption)) (by (first | with_reducible assumption | with_reducible_and_instances assumption | assumption)) (by (first | with_reducible assumption | with_reducible_and_instances assumption | assumption)))
end
end Mine

namespace Mine
open PyProof.V PySem.Spec
section
variable {prog : Program} {w : World} {A : Around} {E : Value → Shared → Prop} {s : Shared} {K : Frag} {x C L f : Addr} {h₀ : Heap} {m : Str → Option Value} {ox : Obj} {od : Option Obj} {u v : Value}
theorem delItem_own {Q : Unit → Shared → Prop} (F : Fr h₀ L s.heap m) (X₀ : K.In h₀) (I : InstAt s.heap x ox C od) (hq : noSeq K C = true) (hs : findIn K (.ref C) "__delitem__" = some (some (.ref f))) (hf : isFn K (.ref f) = true)
    (h : wpAny (model prog w) A (call (.ref f) [.ref x, v]) (fun _ s' => Q () s') E s) : wpAny (model prog w) A (delItem (.ref x) v) Q E s := by
  have X := X₀.keeps F.keep
  unfold delItem sequenceKey
  refine wpAny_holding (wpAny_bind (wpAny_bind (I.type.here ?_)))
  refine wpAny_bind ((anyM_none X hq).here ?_)
  rw [if_pos (show (!false) = true from rfl)]
  exact wpAny_pure (wpAny_bind (special_fn X I hs (beq_iff_eq.mp hf) (wpAny_mono h (fun _ _ z => wpAny_pure z) fun _ _ z => z)))
theorem setItem_own {Q : Unit → Shared → Prop} (F : Fr h₀ L s.heap m) (X₀ : K.In h₀) (I : InstAt s.heap x ox C od) (hq : noSeq K C = true) (hs : findIn K (.ref C) "__setitem__" = some (some (.ref f))) (hf : isFn K (.ref f) = true)
    (h : wpAny (model prog w) A (call (.ref f) [.ref x, v, u]) (fun _ s' => Q () s') E s) : wpAny (model prog w) A (setItem (.ref x) v u) Q E s := by
  have X := X₀.keeps F.keep
  unfold setItem sequenceKey
  refine wpAny_holding (wpAny_bind (wpAny_bind (I.type.here ?_)))
  refine wpAny_bind ((anyM_none X hq).here ?_)
  rw [if_pos (show (!false) = true from rfl)]
  exact wpAny_pure (wpAny_bind (special_fn X I hs (beq_iff_eq.mp hf) (wpAny_mono h (fun _ _ z => wpAny_pure z) fun _ _ z => z)))
theorem del_missT {Q : Unit → Shared → Prop} {news : List (Addr × Obj)} {d : Addr} {o : Obj} {D : List (PyData × PyData)} {x : Str} {t : Tok} (N : News h₀ L s.heap news) (hp : (d, o) ∈ news) (y : DataOf prog w o D) (lo : (d == sysModules) = false) (hh : A.handled = none) (hl : lookup (.str x) D = none)
    (h : ∀ h' e, Heap.NewExc s.heap h' e "KeyError" → E (.ref e) { s with heap := h', toks := s.toks + 1 }) :
    wpAny (model prog w) A (delItem (.ref d) (.str x t)) Q E s := by
  obtain ⟨kvs, hd, hf⟩ := y
  have hD := kda_dict N hp hd
  refine wpAny_delItem_slot hD.typeIs (by decide) PySem.F.slot_dict_delitem ?_
  exact call_meetsIn PySem.F.slot_dict_delitem hD.typeIs PySem.F.entry_dict_delitem (PySem.F.args_dict_delitem_2 _ _) (meets_dict_delitem_missing (PySem.strKind prog w) d (strKind_is prog w x t) lo) ⟨hh, kvs, hD, hf.none_of_lookup PyProof.V.same_str hl, fun h' e hx => h h' e hx⟩
end
end Mine
local macro_rules | `(tactic| walk_at "delItem ref str") => `(tactic| (k_here; k_dflt (refine' Mine.del_missT ?N ?hp ?y ?lo ?hh ?hl ?_; (case N => k_asm); (case hp => (first | lsm_bools | kat_tups)); (case y => (first | with_reducible assumption | with_reducible_and_instances assumption | assumption)); (case hl => (first | with_reducible assumption | with_reducible_and_instances assumption | assumption)); (case lo => (first | with_reducible assumption | with_reducible_and_instances assumption | assumption)); (case hh => exact rfl); k_whole; intro h' e' hx')))
namespace Mine
section
variable {prog : Program} {w : World} {A₀ A : Around} {s : Shared} {base h₀ : Heap} {env : Env} {L : Addr} {m : Str → Option Value} {news : List (Addr × Obj)} {K : Frag} {p : Program} {loose : List Str} {mean : ExcName → Option Value} {mg mb : Str → Option Value}
    {R : Result → Shared → Prop} {name qual : Str} {params : Arguments} {body : List Stmt} {scope : Scope} {dV kV doc pm cdv ct oc : Value} {an od : Option Addr} {osl : Array (Option Value)} {f : Addr} {args : Args} {binds : List (Str × Value)}
/-- a def that catches, called by a frame that may hold cells and has no frame below it -/
theorem code_defX0 (B : Below A₀ base [] h₀) (F : Fr h₀ L s.heap m) (X₀ : K.In h₀) (N : News h₀ L s.heap news) (T : Top p loose mean mg mb h₀) (hA : A.frames = some [env]) (hf : env.frame = some L) (hke : env.scope.kind = .function)
    (ho : K.lookup f = some ⟨oc, od, .func (fnOf name qual params body scope dV kV doc pm an cdv ct), osl⟩) (hcd : codeIn K cdv qual = true) (hroom : A.depth < recursionLimit)
    (hbind : BindsTo s (fnOf name qual params body scope dV kV doc pm an cdv ct) args binds) (hloc : ∀ y ∈ binds, scope.names.lookup y.1 = some .local)
    (h : ∀ g L' h₁, Fr h₀ L g m → Fr g L' h₁ (fun y => binds.reverse.lookup y) → News g L' h₁ news → Below A base [env] g → K.In g → Top p loose mean mg mb g → KtsDicts ([env].filterMap (·.frame)) g →
      wpAny (model prog w) (A.deeper (envOf qual scope L' f cdv)) (execs body (envOf qual scope L' f cdv))
        (fun fl s' => LeaveS0 ([env].filterMap (·.frame)) h₀ L m g R (match fl with | .ret v => v | _ => .none) s')
        (fun e s' => wpAny (model prog w) (A.deeper (envOf qual scope L' f cdv)) (leaving (envOf qual scope L' f cdv) e) (fun _ s'' => R (.error e) s'') (fun e' s'' => R (.error e') s'') s')
        { s with heap := h₁, toks := s.toks + binds.length })
    (hco : scope.isCoroutine = false) (hgen : scope.isGenerator = false) (hk : scope.kind = .function)
    (hcell : ∀ x ∈ scope.names, x.2 ≠ .cell) : codeAny (model prog w) A (.call (.ref f) args) R s := by
  have X := X₀.keeps F.keep
  obtain ⟨FG, BG, st, _⟩ := groundX (R := R) B F N hA hf hke
  have hfs : [env].filterMap (·.frame) = [L] := by simp [hf]
  obtain ⟨oL, es, ep, hLg, hLd, hLk, hLf⟩ := FG.ns
  refine codeAny_call_def (fd := fnOf name qual params body scope dV kV doc pm an cdv ct) (body := body) (binds := binds) hroom (X _ _ ho) rfl (T.nolimit.keeps F.keep) (codeRec_of X hcd) rfl hbind hcell hloc (fun h₁ hns hk₁ => ?_) hco hgen hk
  refine wpAny_mono (h _ s.heap.objs.size h₁ FG ⟨hns, fun b o e => hk₁ b o (of_hideAll _ e), Nat.le_of_eq (hideAll_size _ _)⟩
    (fun q hq => ⟨hk₁ _ _ (N q hq).1, Nat.ne_of_lt (Heap.lt_size (N q hq).1), hideAll_none _ (List.mem_map_of_mem hq)⟩) BG (X₀.keeps st) (T.keeps st) (fun b hb => by
      rw [hfs] at hb
      rw [List.mem_singleton.mp hb]
      exact ⟨oL, es, ep, hLg, hLd⟩)) (fun fl s' hl => ?_) fun _ _ y => y
  obtain ⟨g', L', m', news', T', F', N', k⟩ := hl
  rw [hfs] at T'
  have nL₀ : h₀.get? L = none := kts_self F
  obtain ⟨sl, hs⟩ := T'.up hLg
  refine k ⟨⟨_, es, ep, F'.keep _ _ hs, hLd, hLk, hLf⟩, fun b o e => F'.keep b o (T'.other b o (st b o e) fun z => ?_), F.above⟩ fun q hq => ⟨(N' q hq).1, fun z => ?_, ?_⟩
  · rw [List.mem_singleton.mp z, nL₀] at e
    cases e
  · have := (N' q hq).2.2
    rw [z, hs] at this
    cases this
  · cases z : h₀.get? q.1 with
    | none => rfl
    | some o =>
      obtain ⟨sl', hs'⟩ := T'.up (st _ _ z)
      have := (N' q hq).2.2
      rw [hs'] at this
      cases this
end
end Mine
namespace Mine
section
variable {w : World}
structure TblW (w : World) : Prop where
  seq : ∀ C, C = 195 ∨ C = 217 → noSeq (Mine.hd.heap_39 w.params) C = true
  delitem : ∀ C, C = 195 ∨ C = 217 → findIn (Mine.hd.heap_39 w.params) (.ref C) "__delitem__" = some (some (.ref 113))
  setitem : ∀ C, C = 195 ∨ C = 217 → findIn (Mine.hd.heap_39 w.params) (.ref C) "__setitem__" = some (some (.ref 99))
  add : ∀ C, C = 195 ∨ C = 217 → findIn (Mine.hd.heap_39 w.params) (.ref C) "__add__" = some (some (.ref 92))
  iter : ∀ C, C = 195 ∨ C = 217 → findIn (Mine.hd.heap_39 w.params) (.ref C) "__iter__" = some (some (.ref 85))
  self : ∀ C, C = 195 ∨ C = 217 → selfFirst (Mine.hd.heap_39 w.params) C = true
  fnDel : isFn (Mine.hd.heap_39 w.params) (.ref 113) = true
  fnSet : isFn (Mine.hd.heap_39 w.params) (.ref 99) = true
  fnAdd : isFn (Mine.hd.heap_39 w.params) (.ref 92) = true
set_option maxHeartbeats 8000000 in
theorem tblW (w : World) (h : ∃ h₀, (Mine.hd.heap_39 w.params).In h₀) : PySem.Challenge.rw_ep5036_01.row.prog = PySem.Challenge.rw_ep5036_01.row.prog → TblW w := by
  revert h
  k_fill
  intro _ _
  refine ⟨?_, ?_, ?_, ?_, ?_, ?_, ?_, ?_, ?_⟩
  all_goals first | k_is | (intro C hC; rcases hC with rfl | rfl <;> first | k_is | decide +kernel) | decide +kernel
end
end Mine
local macro_rules | `(tactic| walk_at "delItem ref str") => `(tactic| (k_here; (with_reducible (refine' Mine.own_del ?ow ?_; (case ow => assumption))); k_dflt (refine' Mine.delItem_own ?F ?X ?I ?q ?s ?f ?_; (case F => k_asm); (case X => k_asm); (case I => k_inst); (case s => exact (by (first | with_reducible assumption | with_reducible_and_instances assumption | assumption) : Mine.TblW _).delitem _ (by first | (first | with_reducible assumption | with_reducible_and_instances assumption | assumption) | (left; rfl) | (right; rfl))); (case q => exact (by (first | with_reducible assumption | with_reducible_and_instances assumption | assumption) : Mine.TblW _).seq _ (by first | (first | with_reducible assumption | with_reducible_and_instances assumption | assumption) | (left; rfl) | (right; rfl))); (case f => exact (by (first | with_reducible assumption | with_reducible_and_instances assumption | assumption) : Mine.TblW _).fnDel); k_whole; refine wpAny_call ?_; kct_strs)))
local macro_rules | `(tactic| walk_at "setItem ref str") => `(tactic| (k_here; (with_reducible (refine' Mine.own_set ?ow ?_; (case ow => assumption))); k_dflt (refine' Mine.setItem_own ?F ?X ?I ?q ?s ?f ?_; (case F => k_asm); (case X => k_asm); (case I => k_inst); (case s => exact (by (first | with_reducible assumption | with_reducible_and_instances assumption | assumption) : Mine.TblW _).setitem _ (by first | (first | with_reducible assumption | with_reducible_and_instances assumption | assumption) | (left; rfl) | (right; rfl))); (case q => exact (by (first | with_reducible assumption | with_reducible_and_instances assumption | assumption) : Mine.TblW _).seq _ (by first | (first | with_reducible assumption | with_reducible_and_instances assumption | assumption) | (left; rfl) | (right; rfl))); (case f => exact (by (first | with_reducible assumption | with_reducible_and_instances assumption | assumption) : Mine.TblW _).fnSet); k_whole; refine wpAny_call ?_; kct_strs)))
local macro_rules | `(tactic| walk_at "subscriptTail Name") => `(tactic| (k_here; (with_reducible show wpAny _ _ (subscriptTail _ _ (Value.ref _) (Value.str _ _)) _ _ _); k_dflt (refine' Mine.item_missT ?N ?hp ?y ?lo ?hh ?hl ?_ ?hs; (case N => k_asm); (case hp => (first | lsm_bools | kat_tups)); (case y => (first | with_reducible assumption | with_reducible_and_instances assumption | assumption)); (case hl => (first | with_reducible assumption | with_reducible_and_instances assumption | assumption)); (case lo => (first | with_reducible assumption | with_reducible_and_instances assumption | assumption)); (case hh => exact rfl); (case hs => with_unfolding_all rfl); k_whole; intro h' e' hx')))
namespace Mine
open PyProof.V PySem.Spec
section
variable {w : World} {dp un : Nat} {gd : Option (List Code)} {cn : Str} {cs : Scope} {a : Addr} {ccd : Value} {cl : List (Str × Addr)} {outer : List Env} {A₀ : Around} {base h₀ : Heap} {L : Addr} {m : Str → Option Value} {s : Shared}
  {R : Result → Shared → Prop} {news : List (Addr × Obj)} {mg mb : Str → Option Value} {mean : ExcName → Option Value} {p C dx d : Addr} {o : Obj} {D : List (PyData × PyData)}
variable {g : Obj → List (Addr × Obj)} {x : Str} {t : Tok} {v : Value} {dv : PyData} {e : Addr} {oe : Obj} {D₂ : List (PyData × PyData)}
set_option maxHeartbeats 2000000 in
theorem c_takeS (hC : C = 195 ∨ C = 217 ∨ C = 231) (h1 : (p, slotO C dx d) ∈ news) (h2 : (dx, dictOf [] 0) ∈ news) (h3 : (d, o) ∈ news) (hD : DataOf PySem.Challenge.rw_ep5036_01.row.prog w o D) (lo : (d == sysModules) = false) (hn : D.length ≤ 1000) (B : Below A₀ base outer h₀) (F : Fr h₀ L s.heap m) (X : (Mine.hd.heap_39 w.params).In h₀) (N : News h₀ L s.heap news) (T : Top Mine.hd.view_39 (looseW Mine.hd.view_39 [Str.ofString "ReadOnlyContainer", Str.ofString "Properties", Str.ofString "OrderedProperties", Str.ofString "ReadOnlyProperties"]) mean mg mb h₀) (hck : cs.kind = .function) (hdp : dp + 20 < recursionLimit) (hun : un + 200 < cLine) (hC' : C = 195 ∨ C = 217) (U : UpdF d o news g) (hl : (lookup (.str x) D).isSome = true)
    (hret : ∀ h' o' tk, Fr h₀ L h' m → News h₀ L h' (g o') → DataOf PySem.Challenge.rw_ep5036_01.row.prog w o' (delD (.str x) D) → R (.ok (.ret (.bool true))) { s with heap := h', toks := tk }) :
    codeAny (model PySem.Challenge.rw_ep5036_01.row.prog w) (ktrTop dp un gd cn cs L a ccd cl outer) (.call (.ref 255) ⟨[.ref p, .str x t], []⟩) R s := by
  have O1 : Own p := rfl
  have TW : TblW w := tblW w ⟨_, X⟩ rfl
  revert X
  k_fill
  intro X
  k_dflt cell_enter
  (repeat' ((fail_if_success (first | with_reducible refine Mine.id_compSrc ?_ | with_reducible refine Mine.id_srcT ?_ | with_reducible refine Mine.id_eltPost ?_)); (first | (k_unfold; (try dsimp only)) | walk1 | (dsimp only; walk1) | (leave1; try dsimp only) | fail "no step")))
  exact hret _ _ _ (by (first | with_reducible assumption | with_reducible_and_instances assumption | assumption)) (by (first | with_reducible assumption | with_reducible_and_instances assumption | assumption)) (by (first | with_reducible assumption | with_reducible_and_instances assumption | assumption))
set_option maxHeartbeats 2000000 in
theorem c_hookS (hC : C = 195 ∨ C = 217 ∨ C = 231) (h1 : (p, slotO C dx d) ∈ news) (h2 : (dx, dictOf [] 0) ∈ news) (h3 : (d, o) ∈ news) (hD : DataOf PySem.Challenge.rw_ep5036_01.row.prog w o D) (lo : (d == sysModules) = false) (hn : D.length ≤ 1000) (B : Below A₀ base outer h₀) (F : Fr h₀ L s.heap m) (X : (Mine.hd.heap_39 w.params).In h₀) (N : News h₀ L s.heap news) (T : Top Mine.hd.view_39 (looseW Mine.hd.view_39 [Str.ofString "ReadOnlyContainer", Str.ofString "Properties", Str.ofString "OrderedProperties", Str.ofString "ReadOnlyProperties"]) mean mg mb h₀) (hck : cs.kind = .function) (hdp : dp + 10 < recursionLimit) (hun : un + 100 < cLine) (hl : lookup (.str x) D = some dv)
    (hret : ∀ h' tk v, Fr h₀ L h' m → News h₀ L h' news → Flat v dv → R (.ok (.ret v)) { s with heap := h', toks := tk }) :
    codeAny (model PySem.Challenge.rw_ep5036_01.row.prog w) (ktrTop dp un gd cn cs L a ccd cl outer) (.call (.ref 127) ⟨[.ref p, .str x t], []⟩) R s := by
  rcases hC with rfl | rfl | rfl <;> (k_dflt cell_enter; (repeat' ((fail_if_success (first | with_reducible refine Mine.id_compSrc ?_ | with_reducible refine Mine.id_srcT ?_ | with_reducible refine Mine.id_eltPost ?_)); (first | (k_unfold; (try dsimp only)) | walk1 | (dsimp only; walk1) | (leave1; try dsimp only) | fail "no step"))); exact hret _ _ _ (by (first | with_reducible assumption | with_reducible_and_instances assumption | assumption)) (by (first | with_reducible assumption | with_reducible_and_instances assumption | assumption)) (by (first | with_reducible assumption | with_reducible_and_instances assumption | assumption)))
set_option maxHeartbeats 2000000 in
theorem c_delitemN (hC : C = 195 ∨ C = 217 ∨ C = 231) (h1 : (p, slotO C dx d) ∈ news) (h2 : (dx, dictOf [] 0) ∈ news) (h3 : (d, o) ∈ news) (hD : DataOf PySem.Challenge.rw_ep5036_01.row.prog w o D) (lo : (d == sysModules) = false) (hn : D.length ≤ 1000) (B : Below A₀ base outer h₀) (F : Fr h₀ L s.heap m) (X : (Mine.hd.heap_39 w.params).In h₀) (N : News h₀ L s.heap news) (T : Top Mine.hd.view_39 (looseW Mine.hd.view_39 [Str.ofString "ReadOnlyContainer", Str.ofString "Properties", Str.ofString "OrderedProperties", Str.ofString "ReadOnlyProperties"]) mean mg mb h₀) (hck : cs.kind = .function) (hdp : dp + 10 < recursionLimit) (hun : un + 100 < cLine) (hC' : C = 195 ∨ C = 217) (hl : lookup (.str x) D = none)
    (hret : ∀ e g h' tk, Fr h₀ L g m → g.UpToSlots h' → RaisedSN base g (envX cn cs L a ccd cl :: outer) e (.type "KeyError") news h' → R (.error (.ref e)) { s with heap := h', toks := tk }) :
    codeAny (model PySem.Challenge.rw_ep5036_01.row.prog w) (ktrTop dp un gd cn cs L a ccd cl outer) (.call (.ref 113) ⟨[.ref p, .str x t], []⟩) R s := by
  clear hC
  rcases hC' with rfl | rfl <;> (k_dflt cell_enter; (repeat' ((fail_if_success (first | with_reducible refine Mine.id_leaving ?_ | with_reducible refine Mine.id_pyIter ?_ | with_reducible refine Mine.id_For ?_ | with_reducible refine Mine.id_compSrc ?_ | with_reducible refine Mine.id_srcT ?_ | with_reducible refine Mine.id_eltPost ?_)); (first | (k_unfold; (try dsimp only)) | walk1 | (dsimp only; walk1) | (leave1; try dsimp only) | fail "no step"))); refine leave_newS (by (first | with_reducible assumption | with_reducible_and_instances assumption | assumption)) (by (first | with_reducible assumption | with_reducible_and_instances assumption | assumption)) (by (first | with_reducible assumption | with_reducible_and_instances assumption | assumption)) (by (first | with_reducible assumption | with_reducible_and_instances assumption | assumption)) ?_; intro h' RS RN U; exact hret _ _ _ _ (by (first | with_reducible assumption | with_reducible_and_instances assumption | assumption)) (by (first | with_reducible assumption | with_reducible_and_instances assumption | assumption)) (by (first | with_reducible assumption | with_reducible_and_instances assumption | assumption)))
set_option maxHeartbeats 2000000 in
theorem c_takeN (XB : (Mine.hd.heap_39 w.params).In base) (TB : Top Mine.hd.view_39 (looseW Mine.hd.view_39 [Str.ofString "ReadOnlyContainer", Str.ofString "Properties", Str.ofString "OrderedProperties", Str.ofString "ReadOnlyProperties"]) mean mg mb base) (hC : C = 195 ∨ C = 217 ∨ C = 231) (h1 : (p, slotO C dx d) ∈ news) (h2 : (dx, dictOf [] 0) ∈ news) (h3 : (d, o) ∈ news) (hD : DataOf PySem.Challenge.rw_ep5036_01.row.prog w o D) (lo : (d == sysModules) = false) (hn : D.length ≤ 1000) (B : Below A₀ base [] h₀) (F : Fr h₀ L s.heap m) (X : (Mine.hd.heap_39 w.params).In h₀) (N : News h₀ L s.heap news) (T : Top Mine.hd.view_39 (looseW Mine.hd.view_39 [Str.ofString "ReadOnlyContainer", Str.ofString "Properties", Str.ofString "OrderedProperties", Str.ofString "ReadOnlyProperties"]) mean mg mb h₀) (hck : cs.kind = .function) (hdp : dp + 20 < recursionLimit) (hun : un + 200 < cLine) (hC' : C = 195 ∨ C = 217) (hl : lookup (.str x) D = none)
    (hret : ∀ h' tk, Fr h₀ L h' m → News h₀ L h' news → R (.ok (.ret (.bool false))) { s with heap := h', toks := tk }) :
    codeAny (model PySem.Challenge.rw_ep5036_01.row.prog w) (ktrTop dp un gd cn cs L a ccd cl []) (.call (.ref 255) ⟨[.ref p, .str x t], []⟩) R s := by
  have O1 : Own p := rfl
  have TW : TblW w := tblW w ⟨_, X⟩ rfl
  k_dflt (refine' Mine.code_defX0 ?k1 ?k2 ?k3 ?k4 ?k5 ?kA ?kF ?kK ?k6 ?k7 ?k8 ?k9 ?kB ?_ ?c2 ?c3 ?c4 ?c5; (case kA => exact rfl); (case kF => exact rfl); (case kK => assumption); (case k1 => k_asm); (case k2 => k_asm); (case k3 => k_asm); (case k4 => k_asm); (case k5 => k_asm); (case k6 => k_is); (case k7 => k_is); (case k8 => ktr_room); (case k9 => first | exact BindsTo.of_eq rfl | exact binds_K (by k_in) rfl (by k_is) rfl rfl rfl); (case c5 => decide); (case kB => exact locs rfl); (case c2 => exact rfl); (case c3 => exact rfl); (case c4 => exact rfl); k_whole; intro g' L' h' FG' F' N' B' X' T' D'; (try dsimp only); (try k_lift B'); (try k_fold))
  (repeat' ((fail_if_success (first | with_reducible refine Mine.id_compSrc ?_ | with_reducible refine Mine.id_srcT ?_ | with_reducible refine Mine.id_eltPost ?_)); (first | (k_unfold; (try dsimp only)) | walk1 | (dsimp only; walk1) | (leave1; try dsimp only) | fail "no step")))
  refine' Mine.delItem_own ?F ?X ?I ?q ?s ?f ?_
  (case F => k_asm); (case X => k_asm); (case I => k_inst)
  (case s => exact TW.delitem _ hC'); (case q => exact TW.seq _ hC'); (case f => exact TW.fnDel)
  refine wpAny_call ?_
  refine' Mine.c_delitemN ?hC ?h1 ?h2 ?h3 ?hD ?lo ?hn ?B ?F ?X ?N ?T ?ck ?dp ?un ?hC' ?hl ?_
  (case F => k_asm); (case N => k_asm); (case B => k_asm); (case X => k_asm); (case T => k_asm); (case h1 => (first | lsm_bools | kat_tups)); (case h3 => (first | lsm_bools | kat_tups)); (case h2 => (first | lsm_bools | kat_tups))
  (case hC => exact hC); (case hC' => (first | with_reducible assumption | with_reducible_and_instances assumption | assumption)); (case hD => (first | with_reducible assumption | with_reducible_and_instances assumption | assumption)); (case hl => (first | with_reducible assumption | with_reducible_and_instances assumption | assumption)); (case lo => (first | with_reducible assumption | with_reducible_and_instances assumption | assumption)); (case hn => (first | with_reducible assumption | with_reducible_and_instances assumption | assumption)); (case ck => first | (first | with_reducible assumption | with_reducible_and_instances assumption | assumption) | exact rfl); (case dp => ktr_room); (case un => ktr_units)
  intro e' g' h' tk' Fg Ug Rg
  dsimp only
  (repeat' ((fail_if_success (first | with_reducible refine Mine.id_compSrc ?_ | with_reducible refine Mine.id_srcT ?_ | with_reducible refine Mine.id_eltPost ?_)); (first | (k_unfold; (try dsimp only)) | walk1 | (dsimp only; walk1) | (leave1; try dsimp only) | fail "no step")))
  exact hret _ _ (by (first | with_reducible assumption | with_reducible_and_instances assumption | assumption)) (by (first | with_reducible assumption | with_reducible_and_instances assumption | assumption))
end
end Mine

namespace Mine
open Heap
section
variable {M : Model} {A : Around} {E : Value → Shared → Prop} {s : Shared}
/-- the record `e` of `h'` is that of `h` but for its traceback -/
def SameRec (h h' : Heap) (e : Addr) : Prop :=
  ∀ oe vs, h.get? e = some oe → oe.data = .fields vs → ∃ T, h'.get? e = some (Obj.mapFields (·.setIfInBounds 1 T) oe)
theorem newEntryX {base : Heap} {env : Env} {outer : List Env} {L e : Addr} {oe : Obj} {vs : Array Value} {head a0 : Value} {hadNext : Bool} {Q : Unit → Shared → Prop}
    (hfr : A.frames = some (env :: outer)) (hl : s.heap.FunFrames base (env :: outer)) (hf : env.frame = some L)
    (he : s.heap.get? e = some oe) (hkb : base.StaysIn s.heap) (hen : base.get? e = none) (hd : oe.data = .fields vs) (hsz : 1 < vs.size) (h0 : vs[0]? = some a0)
    (h : ∀ h', Heap.LeftW base (env :: outer) e oe.cls a0 s.heap h' → SameRec s.heap h' e → Q () { s with heap := h' }) :
    wpAny M A (do let a ← frameOf env; let pl ← entryPlaceOf L hadNext; let b ← EntryCells.newEntry head a .none (rawInt L) .none pl; setField (.ref e) 1 b) (fun _ s' => wpAny M A (setFlight (.ref e) none) Q E s') E s := by
  have off : e ∉ (env :: outer).filterMap (·.frame) := fun hm => by
    obtain ⟨_, o, ho, hnf⟩ := hl.mem hm
    rw [he] at ho; cases ho; exact hnf vs hd
  refine wpAny_bind (wpAny_frameOf_fun hfr hl hf fun h₁ hs₁ => ?_)
  refine wpAny_bind (wpAny_entryPlaceOf fun pl hpl => ?_)
  unfold EntryCells.newEntry newFields
  refine wpAny_bind (wpAny_newObj_type ?_ (hpl.sizeOk5 _ _ _ _ _))
  have he₁ : h₁.get? e = some oe := (hs₁.2.1 e off).trans he
  have kb₁ : base.StaysIn h₁ := fun b o hbo => (hs₁.2.1 b fun hm => by rw [(hl.mem hm).1] at hbo; cases hbo).trans (hkb b o hbo)
  generalize htb : ({ cls := .type "traceback", dict := none, data := .fields ([head, .ref L, .none, rawInt L, .none] ++ (if pl.isEmpty then List.replicate 6 Value.none else pl)).toArray } : Obj) = tb
  have htd : tb.data = .fields ([head, .ref L, .none, rawInt L, .none] ++ (if pl.isEmpty then List.replicate 6 Value.none else pl)).toArray := by rw [← htb]
  have htf : tb.isFreed = false := by rw [← htb]; rfl
  have he₂ : (h₁.push tb).get? e = some oe := Heap.get?_push_of_some _ he₁
  have hT₂ : (h₁.push tb).get? h₁.objs.size = some tb := Heap.get?_push_size h₁ (by rw [← htb]; rfl)
  refine wpAny_setField he₂ hd hsz ?_
  have hTe : h₁.objs.size ≠ e := Nat.ne_of_gt (Heap.lt_size he₁)
  have hd₃ := Obj.data_mapFields hd (·.setIfInBounds 1 (Value.ref h₁.objs.size))
  have he₃ := Heap.get?_update_self (Obj.mapFields (·.setIfInBounds 1 (Value.ref h₁.objs.size))) he₂ (Obj.isFreed_of_fields hd₃)
  have hT₃ := (Heap.get?_update_other (h₁.push tb) (Obj.mapFields (·.setIfInBounds 1 (Value.ref h₁.objs.size))) (Ne.symm hTe)).trans hT₂
  unfold setFlight
  refine wpAny_bind (wpAny_field he₃ hd₃ (x := .ref h₁.objs.size) (by simp [hsz]) ?_)
  rw [if_pos (show (Value.ref h₁.objs.size != Value.none) = true from by simp)]
  refine wpAny_setField hT₃ htd (by simp only [List.size_toArray, List.length_append, List.length_cons, List.length_nil] <;> omega) (h _ ?_ ?_)
  · have keep : ∀ b o, b ≠ e → h₁.get? b = some o → (((h₁.push tb).update e (Obj.mapFields (·.setIfInBounds 1 (Value.ref h₁.objs.size)))).update h₁.objs.size (Obj.mapFields (·.setIfInBounds 3 ((none : Option Addr).elim Value.none fun f => rawInt f)))).get? b = some o := fun b o hbe hb => by
      rw [Heap.get?_update_other _ _ (Nat.ne_of_gt (Heap.lt_size hb)), Heap.get?_update_other _ _ (Ne.symm hbe)]
      exact Heap.get?_push_of_some _ hb
    have noRec : ∀ b o, s.heap.get? b = some o → (∀ vs, o.data ≠ .fields vs) → b ≠ e := fun b o hb hnf q => by
      rw [q, he] at hb; cases hb; exact hnf vs hd
    refine ⟨fun b o hbo => keep b o (fun q => by rw [q, hen] at hbo; cases hbo) (kb₁ b o hbo), hl.of_keeps fun b o hb hnf => ?_, ?_, fun b o hb hnf => ?_⟩
    · obtain ⟨sl, hs⟩ := hs₁.2.2 b o hb
      exact ⟨_, keep b _ (noRec b o hb hnf) hs, rfl⟩
    · refine ⟨_, _, h₁.objs.size, _, _, ?_, ⟨Obj.cls_mapFields _ _, by rw [Array.getElem?_setIfInBounds_ne (by decide)]; exact h0⟩, hd₃, by simp [hsz], kb₁.fresh, hTe, Heap.get?_update_self _ hT₃ (Obj.isFreed_of_fields (Obj.data_mapFields htd _)), Obj.data_mapFields htd _, by first | (simp; done) | (rcases hpl with rfl | ⟨_, _, _, _, _, _, _, rfl⟩ <;> simp)⟩
      rw [Heap.get?_update_other _ _ hTe]; exact he₃
    · obtain ⟨sl, hs⟩ := hs₁.2.2 b o hb
      exact ⟨sl, keep b _ (noRec b o hb hnf) hs⟩
  · intro oe' vs' he' hd'
    rw [he] at he'
    cases he'
    exact ⟨_, (Heap.get?_update_other _ _ hTe).trans he₃⟩
/-- the first note of an exception, and the end of its flight: `leaving`, or the start of a clause -/
theorem leavingX {base : Heap} {env : Env} {outer : List Env} {L e : Addr} {oe : Obj} {vs : Array Value} {a0 : Value} {Q : Unit → Shared → Prop}
    (hfr : A.frames = some (env :: outer)) (hl : s.heap.FunFrames base (env :: outer)) (hf : env.frame = some L)
    (he : s.heap.get? e = some oe) (hkb : base.StaysIn s.heap) (hen : base.get? e = none) (hd : oe.data = .fields vs) (h1 : vs[1]? = some .none) (h0 : vs[0]? = some a0)
    (h : ∀ h', Heap.LeftW base (env :: outer) e oe.cls a0 s.heap h' → SameRec s.heap h' e → Q () { s with heap := h' }) : wpAny M A (leaving env (.ref e)) Q E s := by
  unfold leaving noteFrame
  simp only [hf]
  refine wpAny_bind (wpAny_bind (wpAny_field he hd h1 ?_))
  rw [if_neg (by decide)]
  exact newEntryX hfr hl hf he hkb hen hd (Array.getElem?_eq_some_iff.mp h1).1 h0 h
theorem noteX {base : Heap} {env : Env} {outer : List Env} {L e : Addr} {oe : Obj} {vs : Array Value} {a0 : Value} {Q : Unit → Shared → Prop}
    (hfr : A.frames = some (env :: outer)) (hl : s.heap.FunFrames base (env :: outer)) (hf : env.frame = some L)
    (he : s.heap.get? e = some oe) (hkb : base.StaysIn s.heap) (hen : base.get? e = none) (hd : oe.data = .fields vs) (h1 : vs[1]? = some .none) (h0 : vs[0]? = some a0)
    (h : ∀ h', Heap.LeftW base (env :: outer) e oe.cls a0 s.heap h' → SameRec s.heap h' e → Q () { s with heap := h' }) : wpAny M A (noteFrame (.ref e) env) (fun _ s' => wpAny M A (setFlight (.ref e) none) Q E s') E s := by
  unfold noteFrame
  simp only [hf]
  refine wpAny_bind (wpAny_field he hd h1 ?_)
  rw [if_neg (by decide)]
  exact newEntryX hfr hl hf he hkb hen hd (Array.getElem?_eq_some_iff.mp h1).1 h0 h
theorem landsX {base : Heap} {l : List Env} {e : Addr} {cls a0 : Value} {Q : Unit → Shared → Prop} (hh : Heap.FlyingW base l e cls a0 s.heap)
    (hQ : ∀ h', Heap.FlyingW base l e cls a0 h' → s.heap.UpToSlots h' → h'.get? e = s.heap.get? e → Q () { s with heap := h' }) : wpAny M A (setFlight (.ref e) none) Q E s := by
  obtain ⟨hkb, hen, hl, oe, vs, T, oT, ts, he, hcls, hd, h1, hnT, hTe, hT, hdT, h3⟩ := hh
  have hsz3 : 3 < ts.size := (Array.getElem?_eq_some_iff.mp h3).1
  have other : ∀ b, b ≠ T → (s.heap.update T (Obj.mapFields (·.setIfInBounds 3 ((none : Option Addr).elim Value.none fun f => rawInt f)))).get? b = s.heap.get? b :=
    fun b hb => Heap.get?_update_other _ _ (Ne.symm hb)
  have noRec : ∀ b o, s.heap.get? b = some o → (∀ vs, o.data ≠ .fields vs) → b ≠ T := fun b o hb hnf q => by
    rw [q, hT] at hb; cases hb; exact hnf ts hdT
  unfold setFlight
  refine wpAny_bind (wpAny_field he hd h1 ?_)
  rw [if_pos (show (Value.ref T != Value.none) = true from by simp)]
  refine wpAny_setField hT hdT hsz3 (hQ _ ⟨fun b o hbo => (other b fun q => by rw [q, hnT] at hbo; cases hbo).trans (hkb b o hbo), hen,
    hl.of_keeps fun b o hb hnf => ⟨o, (other b (noRec b o hb hnf)).trans hb, rfl⟩, ?_⟩ (fun b o hb hnf => ⟨o.slots, (other b (noRec b o hb hnf)).trans hb⟩) (other e (Ne.symm hTe)))
  exact ⟨oe, vs, T, _, _, (other e (Ne.symm hTe)).trans he, hcls, hd, h1, hnT, hTe, Heap.get?_update_self _ hT (Obj.isFreed_of_fields (Obj.data_mapFields hdT _)), Obj.data_mapFields hdT _, by simp [hsz3]⟩
end
end Mine

namespace Mine
open PyProof.Rows
theorem ae_notType : (Value.type "AttributeError" == Value.type "type") = false := by decide +kernel
theorem ae_canNew : (((Manifest.find? "AttributeError").bind (·.mro.findSome? fun (t : String) => (Manifest.find? t).bind fun b => if b.noNew then some true else if b.attrs.any (·.1 == "__new__") then some false else none)).getD false) = false := by decide +kernel
theorem ae_typeCall (rest : List Value) : checkTypeCall "AttributeError" ⟨rest, []⟩ = pure () := by kernel_rfl
theorem ae_mro : ∃ l, mroOf (.type "AttributeError") = pure l ∧ l.isEmpty = false := by
  have e : fastBuiltinMro "AttributeError" = some [.type "AttributeError", .type "Exception", .type "BaseException", .type "object"] := by kernel_rfl
  exact ⟨_, (mroOf_type _).trans (by rw [e]), rfl⟩
theorem ae_madeBy : Bind.madeBy (.type "AttributeError") = pure (some "Exception.__new__") := by kernel_rfl
theorem ae_newCheck (rest : List Value) : checkBuiltinCall "Exception.__new__" ⟨.type "AttributeError" :: rest, []⟩ = pure () := by kernel_rfl
theorem ae_newEntry : entryFor table "Exception.__new__" = some Builtin.«BaseException.__new__» := excClass_Exception.newEntry
theorem ae_newPlain : plainId "Exception.__new__" = true := excClass_Exception.newPlain
theorem ae_newEnds : "Exception.__new__".endsWith ".__new__" = true := excClass_Exception.newEnds
theorem ae_subOwner : isSubtype (.type "AttributeError") (.type ("Exception.__new__".dropRight 8)) = pure true := by rw [isSubtype_type]; kernel_rfl
theorem ae_static : Bind.staticBase (.type "AttributeError") = pure (.type "AttributeError") := by kernel_rfl
theorem ex_static : Bind.staticBase (.type "Exception") = pure (.type "Exception") := by kernel_rfl
theorem madeHere_of {T N id : String} (h1 : Bind.staticBase (.type T) = pure (.type T)) (h2 : Bind.madeBy (.type T) = pure (some N)) :
    Bind.madeHere id (.type T) = (if (some N).map Manifest.canonical != some (Manifest.canonical id) then unsupported s!"internal:{id}:class-of-another-make" else pure ()) := by
  unfold Bind.madeHere
  simp only [h1, h2, pure_bind]
theorem ae_madeHere : Bind.madeHere "BaseException.__new__" (.type "AttributeError") = pure () :=
  (madeHere_of ae_static ae_madeBy).trans ((madeHere_of ex_static excClass_Exception.madeBy).symm.trans excClass_Exception.madeHere)
theorem ae_init : Slot "AttributeError" "__init__" "AttributeError.__init__" :=
  .of (owner := "AttributeError") (n := "__init__") (by rw [typeLookup_type, builtinLookup_eq_fast]; kernel_rfl) (by decide +kernel) (by decide +kernel) (by decide +kernel)
    (by first | exact .inl (by decide +kernel) | exact .inr (by decide +kernel)) (by rw [isSubtype_type]; kernel_rfl)
theorem ae_initEntry : entryFor table "AttributeError.__init__" = some Builtin.«AttributeError.__init__» := entryFor_of_tree (by kernel_rfl)
theorem ae_initArgs (a b : Value) : argsOk "AttributeError.__init__" ⟨[a, b], []⟩ := by unfold argsOk; kernel_rfl
section
variable {prog : Program} {w : World} {A : Around} {E : Value → Shared → Prop} {s : Shared}
theorem ae_new {key : Value} {Q : Value → Shared → Prop}
    (h : Q (.ref (s.heap.push { cls := .type "tuple", data := .seq #[key] }).objs.size) { s with heap := (s.heap.push { cls := .type "tuple", data := .seq #[key] }).push { cls := .type "AttributeError", data := .fields #[.ref s.heap.objs.size, .none, .none, .none, .bool false, .none, rawInt 0, rawInt 0] } }) :
    wpAny (model prog w) A (call (.builtin "Exception.__new__") [.type "AttributeError", key]) Q E s := by
  refine call_builtin_at ae_newPlain ae_newEntry (ae_newCheck [key]) ?_
  unfold Builtin.«BaseException.__new__»
  refine PyProof.Rows.wpAt_bind (wpAt_owner rfl ae_newEnds (PyProof.Rows.wpAt_of_any ?_))
  dsimp only
  refine wpAny_bind (m := isType _) (wpAny_of_eq (a := true) rfl ?_)
  simp only [Bool.not_true, Bool.false_eq_true, if_false]
  refine wpAny_bind (wpAny_of_eq ae_subOwner ?_)
  simp only [Bool.not_true, Bool.false_eq_true, if_false]
  refine wpAny_bind (wpAny_of_eq ae_madeHere ?_)
  refine wpAny_bind (wpAny_of_eq (a := 2) ?own ?_)
  case own =>
    show (do
      if ← isSubtype (.type "AttributeError") (.type "AttributeError") then return 2
      if ← isSubtype (.type "AttributeError") (.type "NameError") then return 1
      return 0 : Sem Nat) = pure 2
    simp only [sub_AttributeError, pure_bind, if_true]
  unfold newTuple
  refine wpAny_bind (wpAny_newObj_type (wpAny_bind (wpAny_newObj_type (wpAny_pure ⟨_, rfl, ?_⟩) (by size_fits))) (by size_fits))
  first
    | exact h
    | simpa using h
theorem ae_init_run {e t0 : Addr} {ob : Obj} {key : Value} {Q : Value → Shared → Prop} (he : s.heap.get? e = some ob) (hcls : ob.cls = .type "AttributeError")
    (hd : ob.data = .fields #[.ref t0, .none, .none, .none, .bool false, .none, rawInt 0, rawInt 0])
    (h : ∀ h' t, (∀ b o, b ≠ e → s.heap.get? b = some o → h'.get? b = some o) → (∃ oe, h'.get? e = some oe ∧ oe.cls = .type "AttributeError" ∧ oe.data = .fields #[.ref t, .none, .none, .none, .bool false, .none, rawInt 0, rawInt 0]) → Q .none { s with heap := h' }) :
    wpAny (model prog w) A (call (.builtin "AttributeError.__init__") [.ref e, key]) Q E s := by
  have hL : Looks (model prog w) s.heap (isInstance (.ref e) (.type "AttributeError")) true := fun A Q E s' k q => wpAny_isInstance ⟨ob, k _ _ he, hcls⟩ sub_AttributeError q
  refine wpAny_call (codeAny_call_builtin ae_init.plain ae_initEntry ?_)
  refine check_slot (i := "AttributeError.__init__") (owner := "AttributeError") (n := "__init__") (self := .ref e) (rest := [key]) (kw := []) (by decide +kernel) (by decide +kernel) hL (ae_initArgs _ _) ?_
  unfold Builtin.«AttributeError.__init__» Builtin.Exceptions.excInitWithMembers
  dsimp only
  unfold newTuple Builtin.Exceptions.excPut
  have he₁ := Heap.get?_push_of_some (h := s.heap) { cls := .type "tuple", data := .seq #[key] } he
  refine wpAny_bind (wpAny_newObj_type (wpAny_bind (wpAny_bind (wpAny_field he₁ hd rfl (wpAny_bind (wpAny_setField he₁ hd (Nat.le_of_ble_eq_true rfl) ?_))))) (by size_fits))
  refine wpAny_letGo ?_
  have hd₂ : (Obj.mapFields (·.setIfInBounds 0 (Value.ref s.heap.objs.size)) ob).data = .fields #[.ref s.heap.objs.size, .none, .none, .none, .bool false, .none, rawInt 0, rawInt 0] := Obj.data_mapFields hd _
  have he₂ := Heap.get?_update_self (Obj.mapFields (·.setIfInBounds 0 (Value.ref s.heap.objs.size))) he₁ (Obj.isFreed_of_fields hd₂)
  have hc₂ : (Obj.mapFields (·.setIfInBounds 0 (Value.ref s.heap.objs.size)) ob).cls = .type "AttributeError" := (Obj.cls_mapFields _ _).trans hcls
  refine wpAny_bind (wpAny_of_eq (a := [Builtin.Exceptions.excUnset, Builtin.Exceptions.excUnset]) rfl ?_)
  unfold Builtin.Exceptions.excSetOwn
  refine wpAny_bind (wpAny_bind (wpAny_fieldsOf he₂ hd₂ ?_))
  dsimp only
  refine wpAny_bind ?_
  show wpAny _ _ (forIn [(Builtin.Exceptions.excUnset, 0), (Builtin.Exceptions.excUnset, 1)] PUnit.unit _) _ _ _
  have hd₃ : (Obj.mapFields (·.setIfInBounds 6 (rawInt 0)) (Obj.mapFields (·.setIfInBounds 0 (Value.ref s.heap.objs.size)) ob)).data = .fields #[.ref s.heap.objs.size, .none, .none, .none, .bool false, .none, rawInt 0, rawInt 0] := Obj.data_mapFields hd₂ _
  have he₃ := Heap.get?_update_self (Obj.mapFields (·.setIfInBounds 6 (rawInt 0))) he₂ (Obj.isFreed_of_fields hd₃)
  have hd₄ : (Obj.mapFields (·.setIfInBounds 7 (rawInt 0)) (Obj.mapFields (·.setIfInBounds 6 (rawInt 0)) (Obj.mapFields (·.setIfInBounds 0 (Value.ref s.heap.objs.size)) ob))).data = .fields #[.ref s.heap.objs.size, .none, .none, .none, .bool false, .none, rawInt 0, rawInt 0] := Obj.data_mapFields hd₃ _
  have he₄ := Heap.get?_update_self (Obj.mapFields (·.setIfInBounds 7 (rawInt 0))) he₃ (Obj.isFreed_of_fields hd₄)
  rw [List.forIn_cons]
  unfold Builtin.Exceptions.excPut
  refine wpAny_bind (wpAny_bind (wpAny_bind (wpAny_field he₂ hd₂ (x := rawInt 0) rfl (wpAny_bind (wpAny_setField he₂ hd₂ (Nat.le_of_ble_eq_true rfl) ?_)))))
  refine wpAny_pure (wpAny_pure ?_)
  dsimp only
  rw [List.forIn_cons]
  refine wpAny_bind (wpAny_bind (wpAny_bind (wpAny_field he₃ hd₃ (x := rawInt 0) rfl (wpAny_bind (wpAny_setField he₃ hd₃ (Nat.le_of_ble_eq_true rfl) ?_)))))
  refine wpAny_pure (wpAny_pure ?_)
  dsimp only
  rw [List.forIn_nil]
  refine wpAny_pure (wpAny_pure (wpAny_pure (h _ s.heap.objs.size (fun b o hb hbo => ?_) ⟨_, he₄, ?_, hd₄⟩)))
  · rw [Heap.get?_update_other _ _ (Ne.symm hb), Heap.get?_update_other _ _ (Ne.symm hb), Heap.get?_update_other _ _ (Ne.symm hb)]
    exact Heap.get?_push_of_some _ hbo
  · rw [Obj.cls_mapFields, Obj.cls_mapFields, Obj.cls_mapFields]; exact hcls
/-- a made AttributeError -/
def MadeAE (h h' : Heap) (e : Addr) : Prop :=
  (∀ b o, h.get? b = some o → h'.get? b = some o) ∧ h.get? e = none ∧ ∃ oe t, h'.get? e = some oe ∧ oe.cls = .type "AttributeError" ∧ oe.data = .fields #[.ref t, .none, .none, .none, .bool false, .none, rawInt 0, rawInt 0]
theorem call_ae {key : Value} {Q : Value → Shared → Prop} (h : ∀ h' e, MadeAE s.heap h' e → Q (.ref e) { s with heap := h' }) :
    wpAny (model prog w) A (call (.type "AttributeError") [key]) Q E s := by
  refine wpAny_call (codeAny_of_tree ?_)
  show wpAny _ _ (callAny (.type "AttributeError") ⟨[key], []⟩) _ _ s
  simp only [callAny]
  refine wpAny_pure ⟨Code.quiet_builtin _ (by decide +kernel), codeAny_builtin entry_type_call ?_⟩
  rw [Around.under_plain (weight_type_call "AttributeError" _ _) (by first | rfl | kernel_rfl | decide +kernel)]
  unfold Builtin.«type.__call__»
  dsimp only
  rw [if_neg (by rw [ae_notType]; exact Bool.false_ne_true), if_neg (by rw [ae_canNew]; exact Bool.false_ne_true)]
  obtain ⟨l, hl, hle⟩ := ae_mro
  refine wpAny_bind (wpAny_of_eq (ae_typeCall [key]) (wpAny_bind (wpAny_of_eq hl ?_)))
  rw [if_neg (by rw [hle]; exact Bool.false_ne_true)]
  refine wpAny_bind (wpAny_of_eq ae_madeBy ?_)
  dsimp only
  refine wpAny_bind (wpAny_pure (wpAny_bind (wpAny_holding (ae_new ?_))))
  refine wpAny_bind (wpAny_isInstance (T := "AttributeError") ⟨_, Heap.get?_push_size _ rfl, rfl⟩ sub_AttributeError ?_)
  simp only [Bool.not_true, Bool.false_eq_true, if_false]
  refine wpAny_bind (wpAny_holding (wpAny_callSpecial?_slot (name := Str.ofString "__init__") (T := "AttributeError") ⟨_, Heap.get?_push_size _ rfl, rfl⟩ ae_init
    (ae_init_run (Heap.get?_push_size _ rfl) rfl rfl fun h' t k hx => ?_)))
  dsimp only
  rw [if_neg (by simp)]
  obtain ⟨oe, h1, h2, h3⟩ := hx
  refine wpAny_pure (h _ _ ⟨fun b o hb => k b o ?_ ?_, Heap.get?_none_of_le (by simp), oe, t, h1, h2, h3⟩)
  · exact Nat.ne_of_lt (Nat.lt_of_lt_of_le (Heap.lt_size hb) (by simp))
  · exact Heap.get?_push_of_some _ (Heap.get?_push_of_some _ hb)
end
end Mine

namespace Mine
open PyProof.Rows
theorem entry_unchain : entryFor table "proto.unchain" = some Builtin.«proto.unchain» := entryFor_of_tree (by kernel_rfl)
theorem ae_base : isSubtype (.type "AttributeError") (.type "BaseException") = pure true := by rw [isSubtype_type]; kernel_rfl
theorem ae_meta : (Value.type ((Manifest.find? "AttributeError").elim "type" (·.metatype)) == Value.type "type") = true := by decide +kernel
section
variable {prog : Program} {w : World} {A : Around} {E : Value → Shared → Prop} {s : Shared} {env : Env}
/-- what a raised AttributeError needs, raised while `e1` is handled: nothing hangs on `e1` yet -/
def RaisableH (e1 : Addr) (E : Value → Shared → Prop) (v : Value) (s₁ : Shared) : Prop :=
  ∃ a oe t, v = .ref a ∧ a ≠ e1 ∧ (s₁.heap.get? a = some oe ∧ oe.cls = .type "AttributeError" ∧ oe.data = .fields #[t, .none, .none, .none, .bool false, .none, rawInt 0, rawInt 0]) ∧
    (∃ o1 vs1, s₁.heap.get? e1 = some o1 ∧ o1.data = .fields vs1 ∧ vs1[2]? = some .none) ∧ E (.ref a) { s₁ with heap := s₁.heap.update a (Obj.mapFields (·.setIfInBounds 2 (.ref e1))) }
theorem Raise_ae {e : Expr} {pos : Pos} {e1 : Addr} {Q : Flow → Shared → Prop} (hh : A.handled = some (.ref e1))
    (h : wpAny (model prog w) A (eval e env) (RaisableH e1 E) E s) : wpAny (model prog w) A (exec (.Raise (some e) none pos) env) Q E s := by
  show wpAny _ A (do standAt pos; raiseStmt env (some (do let v ← eval e env; standAt pos; pure v)) none) Q E s
  refine wpAny_bind (wpAny_standAt ?_)
  unfold raiseStmt
  dsimp only
  refine wpAny_bind (wpAny_bind (wpAny_mono h (fun v s₁ h₁ => wpAny_bind (wpAny_standAt (wpAny_pure ?_))) fun _ _ x => x))
  obtain ⟨a, ob, t, rfl, hne, ⟨ha, hcls, hd⟩, ⟨o1, vs1, g1, gd, g2⟩, hE⟩ := h₁
  have hT : s₁.TypeIs (.ref a) "AttributeError" := ⟨ob, ha, hcls⟩
  have hnt : ∀ {Q' : Bool → Shared → Prop}, Q' false s₁ → wpAny (model prog w) A (isType (.ref a)) Q' E s₁ := by
    intro Q' hq
    simp only [isType, loadHead]
    refine wpAny_bind (wpAny_loadPart ha ?_)
    rw [hd]; exact wpAny_pure hq
  refine wpAny_bind (wpAny_pure ?_)
  dsimp only
  refine wpAny_bind (wpAny_holding ?_)
  unfold excFromValue isExcClass
  refine wpAny_bind (wpAny_bind (hnt ?_))
  simp only [Bool.false_eq_true, if_false]
  refine wpAny_pure ?_
  simp only [Bool.false_eq_true, if_false]
  refine wpAny_bind (wpAny_isInstance hT ae_base ?_)
  simp only [if_true]
  refine wpAny_pure ?_
  refine wpAny_bind (hnt ?_)
  simp only [Bool.false_eq_true, if_false]
  unfold raisedInstance
  refine wpAny_bind (wpAny_bind (wpAny_typeOf hT (wpAny_bind (m := typeOf (.type "AttributeError")) (wpAny_pure ?_))))
  rw [if_pos ae_meta]
  refine wpAny_pure ?_
  unfold setFlight raiseNew
  refine wpAny_bind (wpAny_bind (wpAny_field ha hd (x := .none) rfl ?_))
  rw [if_neg (show ¬ ((Value.none != Value.none) = true) from by decide)]
  refine wpAny_pure (wpAny_bind (wpAny_handled ?_))
  rw [hh]
  dsimp only
  rw [if_pos (show (Value.ref e1 != Value.ref a) = true from by simpa using Ne.symm hne)]
  refine wpAny_bind (wpAny_holding (wpAny_runValue (codeAny_builtin entry_unchain ?_)))
  unfold Builtin.«proto.unchain»
  dsimp only
  refine wpAny_bind (wpAny_field g1 gd g2 ?_)
  rw [if_pos (show (Value.none == Value.none) = true from rfl)]
  refine wpAny_bind (wpAny_pure (wpAny_pure ?_))
  dsimp only
  unfold updateField
  refine wpAny_bind (wpAny_bind (wpAny_load ha ?_))
  rw [hd]
  dsimp only
  rw [if_pos (show 2 < (#[t, Value.none, .none, .none, .bool false, .none, rawInt 0, rawInt 0] : Array Value).size from Nat.le_of_ble_eq_true rfl)]
  exact wpAny_update ha (wpAny_throw hE)
end
end Mine

namespace Mine
open PyProof.Rows
section
variable {prog : Program} {w : World} {A₀ : Around} {E : Value → Shared → Prop} {s' : Shared} {base g h : Heap} {outer : List Env} {L a e : Addr} {m : Str → Option Value} {name : Str} {scope : Scope} {cd : Value}
  {b₀ : Stmt} {suite : List Stmt} {pos np : Pos} {rest : List ExceptHandler} {Q : Flow → Shared → Prop} {news : List (Addr × Obj)} {K : Frag}
  {p : Program} {loose : List Str} {mean : ExcName → Option Value} {mg mb : Str → Option Value} {x : Str} {X T' : String}
/-- an exception made in this very frame is caught by the frame's own clause -/
theorem catch_new (B : Below A₀ base outer g) (hx : Heap.NewExc h s'.heap e X) (F : Fr g L h m) (N : News g L h news) (XB : K.In base) (TB : Top p loose mean mg mb base)
    (ex : nsIn K mainGlobals x = some none) (hv : bootBuiltins x = some (.type T')) (hn' : x ≠ "__name__")
    (hexc : isSubtype (.type T') (.type "BaseException") = pure true) (hnt : isSubtype (.type ((Manifest.find? T').elim "type" fun y => y.metatype)) (.type "tuple") = pure false) (hsub : isSubtype (.type X) (.type T') = pure true)
    (k : ∀ h' g', KtsTurn (outer.filterMap (·.frame)) g g' → Fr g' L h' m → News g' L h' news → Below A₀ base outer g' → K.In g' → Top p loose mean mg mb g' → g.UpToSlots h' →
      (∃ o1 vs1, h'.get? e = some o1 ∧ o1.data = .fields vs1 ∧ vs1[2]? = some .none) →
      wpAny (model prog w) ((A₀.deeper (envOf name scope L a cd)).mark (some (.ref e))) (execs (b₀ :: suite) (envOf name scope L a cd)) Q E { s' with heap := h' })
    (hk : scope.kind = .function := by rfl) (hxk : (envOf name scope L a cd).kindOf x = some .globalImplicit := by rfl) (hd : (x == ("__debug__" : Str)) = false := by decide)
    (hE : PassesOwnAt (model prog w) ((A₀.deeper (envOf name scope L a cd)).mark (some (.ref e))) (A₀.deeper (envOf name scope L a cd)) (envOf name scope L a cd) E := by passes_own) :
    wpAny (model prog w) (A₀.deeper (envOf name scope L a cd)) (noteFrame (.ref e) (envOf name scope L a cd))
      (fun _ s₂ => wpAny (model prog w) (A₀.deeper (envOf name scope L a cd)) (setFlight (.ref e) none) (fun _ s₃ =>
        wpAny (model prog w) (A₀.deeper (envOf name scope L a cd)) (handleBy (.ref e) (envOf name scope L a cd) (.ExceptHandler (some (.Name x np)) none (b₀ :: suite) pos :: rest)) Q E s₃) E s₂) E s' := by
  have K' := B.push (name := name) (a := a) (cd := cd) F hk
  have hin : ∀ env ∈ (envOf name scope L a cd :: outer), ∀ b, env.frame = some b → b ∈ (envOf name scope L a cd :: outer).filterMap (·.frame) := fun env he b hb => List.mem_filterMap.mpr ⟨env, he, hb⟩
  obtain ⟨ob, tp, he, hcls, hdt⟩ := hx.there
  have hen : (hideAll h ((envOf name scope L a cd :: outer).filterMap (·.frame))).get? e = none := by
    cases q : (hideAll h ((envOf name scope L a cd :: outer).filterMap (·.frame))).get? e with
    | none => rfl
    | some o => have := of_hideAll _ q; rw [hx.new] at this; cases this
  have hBG : ∀ b o, h.get? b = some o → b ∉ (envOf name scope L a cd :: outer).filterMap (·.frame) → (hideAll h ((envOf name scope L a cd :: outer).filterMap (·.frame))).get? b = some o := fun b o q nm => hideAll_get _ q nm
  have hl : ∀ q ∈ news, (hideAll h ((envOf name scope L a cd :: outer).filterMap (·.frame))).get? q.1 = some q.2 := fun q hq => by
    refine hideAll_get _ (N q hq).1 fun hm => ?_
    rcases kts_mem hm with z | z
    · exact (N q hq).2.1 z
    · obtain ⟨env, hev, hf⟩ := List.mem_filterMap.mp z
      obtain ⟨o, ho, _⟩ := (B.frames.mem (List.mem_filterMap.mpr ⟨env, hev, hf⟩)).2
      rw [(N q hq).2.2] at ho; cases ho
  refine noteX (a0 := tp) K'.stack ((funFrames_hide K'.frames hin).of_keeps fun b o hb _ => ⟨o, hx.keeps b o hb, rfl⟩) rfl he (fun b o hb => hx.keeps b o (of_hideAll _ hb)) hen hdt rfl rfl fun h₃ hL hS => ?_
  obtain ⟨k1, k2, k3, k4⟩ := hL
  rw [hcls] at k3
  have hfl : Heap.FlyingW (hideAll h ((envOf name scope L a cd :: outer).filterMap (·.frame))) (envOf name scope L a cd :: outer) e (.type X) tp h₃ := ⟨k1, hen, k2, k3⟩
  have hsm : h.UpToSlots h₃ := (Heap.UpToSlots.of_keeps hx.keeps).trans k4
  obtain ⟨g₅, T₅, F₅, K₅⟩ := kts_ground B F hBG k1 hsm
  have X₅ : K.In g₅ := XB.keeps K₅.stays
  have P₅ : TopRead p loose mg mb g₅ := topRead_of (TB.keeps K₅.stays)
  obtain ⟨oe, hoe, hoc⟩ := hfl.there
  obtain ⟨T₁, hrec⟩ := hS ob _ he hdt
  refine wpAny_handleBy_builtin (X := X) (T := T') (b := true) hexc hnt hsub (name_B F₅ X₅ P₅ ex hv hn' ⟨rfl, ⟨oe, hoe, hoc⟩, ?_⟩ hk hxk hd)
  rw [if_pos rfl]
  refine landsX hfl fun h₆ hfl₆ hsm₆ he₆ => ?_
  obtain ⟨g₆, T₆, F₆, K₆⟩ := kts_ground B F hBG hfl₆.1 (hsm.trans hsm₆)
  have Nl : News g₆ L h₆ news := fun q hq => ⟨hfl₆.1 _ _ (hl q hq), (N q hq).2.1, T₆.none_ _ (N q hq).2.2⟩
  refine wpAny_passesOwnAt hE (k h₆ g₆ T₆ F₆ Nl K₆ (XB.keeps K₆.stays) (TB.keeps K₆.stays) (((Heap.UpToSlots.of_keeps F.keep).trans hsm).trans hsm₆) ⟨_, _, he₆.trans hrec, Obj.data_mapFields hdt _, rfl⟩)
/-- an AttributeError whose name and obj are still unset -/
def BareAE (h : Heap) (e : Addr) : Prop := ∃ oe vs, h.get? e = some oe ∧ oe.cls = .type "AttributeError" ∧ oe.data = .fields vs ∧ vs.size = 8 ∧ vs[6]? = some (rawInt 0) ∧ vs[7]? = some (rawInt 0)
theorem leave_ae {M : Model} {Q : Unit → Shared → Prop} {g' hm : Heap} {v : Value} (B : Below A₀ base outer g') (F : Fr g' L h m) (N : News g' L h news) (T : KtsTurn (outer.filterMap (·.frame)) g g') (gn : ∀ q ∈ news, g.get? q.1 = none) (U : g.UpToSlots h)
    (hx : MadeAE h hm e) (hs : s'.heap = hm.update e (Obj.mapFields (·.setIfInBounds 2 v)))
    (hQ : ∀ h4, RaisedSN base g outer e (.type "AttributeError") news h4 → g.UpToSlots h4 → BareAE h4 e → Q () { s' with heap := h4 }) (hk : scope.kind = .function := by rfl) :
    wpAny M (A₀.deeper (envOf name scope L a cd)) (leaving (envOf name scope L a cd) (.ref e)) Q E s' := by
  have K' := B.push (name := name) (a := a) (cd := cd) F hk
  have hin : ∀ env ∈ (envOf name scope L a cd :: outer), ∀ b, env.frame = some b → b ∈ (envOf name scope L a cd :: outer).filterMap (·.frame) := fun env he b hb => List.mem_filterMap.mpr ⟨env, he, hb⟩
  have st : base.StaysIn (hideAll h ((envOf name scope L a cd :: outer).filterMap (·.frame))) := fun b o q => hideAll_get _ (K'.stays b o q) fun hm => by
    rw [(K'.frames.mem hm).1] at q; cases q
  have sg : ∀ b o, g.get? b = some o → b ∉ outer.filterMap (·.frame) → (hideAll h ((envOf name scope L a cd :: outer).filterMap (·.frame))).get? b = some o := fun b o q nm => hideAll_get _ (F.keep b o (T.other b o q nm)) fun hm => by
    rcases kts_mem hm with z | z
    · have := T.other b o q nm
      rw [z, kts_self F] at this; cases this
    · exact nm z
  have hl : ∀ q ∈ news, (hideAll h ((envOf name scope L a cd :: outer).filterMap (·.frame))).get? q.1 = some q.2 ∧ g.get? q.1 = none ∧ base.get? q.1 = none := fun q hq => by
    refine ⟨hideAll_get _ (N q hq).1 fun hm => ?_, gn q hq, fresh_of_stays B.stays (N q hq).2.2⟩
    rcases kts_mem hm with z | z
    · exact (N q hq).2.1 z
    · obtain ⟨env, hev, hf⟩ := List.mem_filterMap.mp z
      obtain ⟨o, ho, _⟩ := (B.frames.mem (List.mem_filterMap.mpr ⟨env, hev, hf⟩)).2
      rw [(N q hq).2.2] at ho; cases ho
  obtain ⟨hkeep, hnew, ob, tp, he, hcls, hdt⟩ := hx
  have hen : (hideAll h ((envOf name scope L a cd :: outer).filterMap (·.frame))).get? e = none := by
    cases q : (hideAll h ((envOf name scope L a cd :: outer).filterMap (·.frame))).get? e with
    | none => rfl
    | some o => have := of_hideAll _ q; rw [hnew] at this; cases this
  have hd2 : (Obj.mapFields (·.setIfInBounds 2 v) ob).data = .fields #[.ref tp, .none, v, .none, .bool false, .none, rawInt 0, rawInt 0] := Obj.data_mapFields hdt _
  have he2 : s'.heap.get? e = some (Obj.mapFields (·.setIfInBounds 2 v) ob) := hs ▸ Heap.get?_update_self (Obj.mapFields (·.setIfInBounds 2 v)) he (Obj.isFreed_of_fields hd2)
  have keep2 : ∀ b o, h.get? b = some o → s'.heap.get? b = some o := fun b o hb => by
    rw [hs, Heap.get?_update_other _ _ (fun q => by rw [q, hb] at hnew; cases hnew)]
    exact hkeep b o hb
  refine leavingX (a0 := .ref tp) K'.stack ((funFrames_hide K'.frames hin).of_keeps fun b o hb _ => ⟨o, keep2 b o hb, rfl⟩) rfl he2 (fun b o hb => keep2 b o (of_hideAll _ hb)) hen hd2 rfl rfl fun h' hL hS => ?_
  obtain ⟨k1, ⟨_, _, k2⟩, k3, k4⟩ := hL
  obtain ⟨T₁, hrec⟩ := hS _ _ he2 hd2
  refine hQ h' ⟨_, .ref tp, st, sg, hl, k1, hen, k2, ?_⟩ ((U.trans (Heap.UpToSlots.of_keeps keep2)).trans k4) ⟨_, _, hrec, ?_, Obj.data_mapFields hd2 _, rfl, rfl, rfl⟩
  · rw [Obj.cls_mapFields, hcls] at k3; exact k3
  · rw [Obj.cls_mapFields, Obj.cls_mapFields]; exact hcls
end
section
variable {prog : Program} {w : World} {A : Around} {E : Value → Shared → Prop} {s : Shared}
theorem wp_ifn {α : Type} {M : Model} {c : Prop} [Decidable c] {t1 t2 : Sem α} {Q : α → Shared → Prop} (hc : ¬ c) (h : wpAny M A t2 Q E s) : wpAny M A (if c then t1 else t2) Q E s := by rw [if_neg hc]; exact h
/-- the name and the object laid on an AttributeError that a hook raised -/
theorem note_ae {base g : Heap} {l : List Env} {e : Addr} {news : List (Addr × Obj)} {o name : Value} {Q : Unit → Shared → Prop} (R : RaisedSN base g l e (.type "AttributeError") news s.heap) (hb : BareAE s.heap e) (U : g.UpToSlots s.heap)
    (h : ∀ h', RaisedSN base g l e (.type "AttributeError") news h' → g.UpToSlots h' → Q () { s with heap := h' }) : wpAny (model prog w) A (noteIf true o name (.ref e)) Q E s := by
  obtain ⟨oe, vs, he, hcls, hd, hsz, h6, h7⟩ := hb
  have hT : s.TypeIs (.ref e) "AttributeError" := ⟨oe, he, hcls⟩
  obtain ⟨B, a0, st, sg, hl, hfl⟩ := R
  obtain ⟨hkb, hen, hff, oe', vs', T, oT, ts, he', ⟨hc', h0⟩, hd', h1, hnT, hTe, hT', hdT, h3⟩ := hfl
  rw [he] at he'
  cases he'
  rw [hd] at hd'
  cases hd'
  have hd₂ : (Obj.mapFields (fun vs => vs.extract 0 6 ++ #[name, o]) oe).data = .fields (vs.extract 0 6 ++ #[name, o]) := Obj.data_mapFields hd _
  have he₂ := Heap.get?_update_self (Obj.mapFields (fun vs => vs.extract 0 6 ++ #[name, o])) he (Obj.isFreed_of_fields hd₂)
  have other : ∀ b, b ≠ e → (s.heap.update e (Obj.mapFields fun vs => vs.extract 0 6 ++ #[name, o])).get? b = s.heap.get? b := fun b hb => Heap.get?_update_other _ _ (Ne.symm hb)
  have noRec : ∀ b ob, s.heap.get? b = some ob → (∀ vs, ob.data ≠ .fields vs) → b ≠ e := fun b ob hb hnf q => by
    rw [q, he] at hb; cases hb; exact hnf vs hd
  have at0 : ∀ i v, i < 6 → vs[i]? = some v → (vs.extract 0 6 ++ #[name, o])[i]? = some v := fun i v hi hv => by
    rw [Array.getElem?_append_left (by rw [Array.size_extract]; omega)]
    rw [Array.getElem?_extract]
    simp [hv]; omega
  unfold noteIf noteAttr
  rw [if_pos rfl]
  dsimp only
  unfold lacksNameAndObj
  dsimp only
  refine wpAny_bind (wpAny_bind (wpAny_isInstance hT sub_AttributeError ?_))
  simp only [Bool.not_true, Bool.false_eq_true, if_false]
  refine wpAny_bind (wpAny_load he ?_)
  rw [hd]
  dsimp only
  simp only [h6, h7]
  refine wp_ifn (fun hc => Bool.noConfusion (show false = true from hc)) ?_
  refine wp_ifn (fun hc => Bool.noConfusion (show false = true from hc)) ?_
  refine wpAny_pure ?_
  rw [if_pos rfl]
  refine wpAny_bind (wpAny_rule (wpAny_bind (wpAny_typeOf hT ?_)))
  dsimp only
  unfold layMembers
  refine wpAny_bind (wpAny_load he ?_)
  rw [hd]
  dsimp only
  refine wpAny_update he (h _ ⟨B, a0, st, sg, hl, fun b ob hb => (other b fun q => by rw [q, hen] at hb; cases hb).trans (hkb b ob hb), hen, hff.of_keeps fun b ob hb hnf => ⟨ob, (other b (noRec b ob hb hnf)).trans hb, rfl⟩, ?_⟩ fun b ob hb hnf => ?_)
  · exact ⟨_, _, T, oT, ts, he₂, ⟨(Obj.cls_mapFields _ _).trans hcls, at0 0 _ (by decide) h0⟩, hd₂, at0 1 _ (by decide) h1, hnT, hTe, (other T hTe).trans hT', hdT, h3⟩
  · obtain ⟨sl, hs⟩ := U b ob hb hnf
    exact ⟨sl, (other b (noRec b _ hs hnf)).trans hs⟩
end
end Mine

namespace Mine
open PyProof.V PySem.Spec
theorem ke_exc : isSubtype (.type "KeyError") (.type "BaseException") = pure true := by rw [isSubtype_type]; kernel_rfl
theorem ke_meta : isSubtype (.type ((Manifest.find? "KeyError").elim "type" fun y => y.metatype)) (.type "tuple") = pure false := by rw [isSubtype_type]; kernel_rfl
theorem ke_sub : isSubtype (.type "KeyError") (.type "KeyError") = pure true := by rw [isSubtype_type]; kernel_rfl
theorem gn_of {g h : Heap} {L : Addr} {news : List (Addr × Obj)} (N : News g L h news) : ∀ q ∈ news, g.get? q.1 = none := fun q hq => (N q hq).2.2
section
variable {w : World} {dp un : Nat} {gd : Option (List Code)} {cn : Str} {cs : Scope} {a : Addr} {ccd : Value} {cl : List (Str × Addr)} {outer : List Env} {A₀ : Around} {base h₀ : Heap} {L : Addr} {m : Str → Option Value} {s : Shared}
  {R : Result → Shared → Prop} {news : List (Addr × Obj)} {mg mb : Str → Option Value} {mean : ExcName → Option Value} {p C dx d : Addr} {o : Obj} {D : List (PyData × PyData)}
variable {x : Str} {t : Tok}
set_option maxHeartbeats 2000000 in
theorem c_hookA (XB : (Mine.hd.heap_39 w.params).In base) (TB : Top Mine.hd.view_39 (looseW Mine.hd.view_39 [Str.ofString "ReadOnlyContainer", Str.ofString "Properties", Str.ofString "OrderedProperties", Str.ofString "ReadOnlyProperties"]) mean mg mb base) (hC : C = 195 ∨ C = 217 ∨ C = 231) (h1 : (p, slotO C dx d) ∈ news) (h2 : (dx, dictOf [] 0) ∈ news) (h3 : (d, o) ∈ news) (hD : DataOf PySem.Challenge.rw_ep5036_01.row.prog w o D) (lo : (d == sysModules) = false) (hn : D.length ≤ 1000) (B : Below A₀ base outer h₀) (F : Fr h₀ L s.heap m) (X : (Mine.hd.heap_39 w.params).In h₀) (N : News h₀ L s.heap news) (T : Top Mine.hd.view_39 (looseW Mine.hd.view_39 [Str.ofString "ReadOnlyContainer", Str.ofString "Properties", Str.ofString "OrderedProperties", Str.ofString "ReadOnlyProperties"]) mean mg mb h₀) (hck : cs.kind = .function) (hdp : dp + 10 < recursionLimit) (hun : un + 100 < cLine) (hC' : C = 195 ∨ C = 217) (hl : lookup (.str x) D = none)
    (hret : ∀ e g h' tk, Fr h₀ L g m → g.UpToSlots h' → RaisedSN base g (envX cn cs L a ccd cl :: outer) e (.type "AttributeError") news h' → BareAE h' e → R (.error (.ref e)) { s with heap := h', toks := tk }) :
    codeAny (model PySem.Challenge.rw_ep5036_01.row.prog w) (ktrTop dp un gd cn cs L a ccd cl outer) (.call (.ref 127) ⟨[.ref p, .str x t], []⟩) R s := by
  clear hC
  revert X
  k_fill
  intro X
  rcases hC' with rfl | rfl <;> (
    k_dflt cell_enter
    (repeat' ((fail_if_success (first | with_reducible refine Mine.id_noteFrame ?_ | with_reducible refine Mine.id_compSrc ?_ | with_reducible refine Mine.id_srcT ?_ | with_reducible refine Mine.id_eltPost ?_)); (first | (k_unfold; (try dsimp only)) | walk1 | (dsimp only; walk1) | (leave1; try dsimp only) | fail "no step")))
    have Ng := gn_of (by (first | with_reducible assumption | with_reducible_and_instances assumption | assumption) : News _ _ _ news)
    refine catch_new (x := "KeyError") (T' := "KeyError") (by (first | with_reducible assumption | with_reducible_and_instances assumption | assumption)) (by (first | with_reducible assumption | with_reducible_and_instances assumption | assumption)) (by (first | with_reducible assumption | with_reducible_and_instances assumption | assumption)) (by (first | with_reducible assumption | with_reducible_and_instances assumption | assumption)) XB TB (by k_is) PyProof.Rows.Boot.«KeyError» (by decide) ke_exc ke_meta ke_sub fun h' g' T' F' N' B' X' P' U' hrec => ?_
    refine wpAny_execs_cons ?_
    refine Raise_ae (by rfl) ?_
    (repeat' ((fail_if_success (first | with_reducible refine Mine.id_call ?_ | with_reducible refine Mine.id_compSrc ?_ | with_reducible refine Mine.id_srcT ?_ | with_reducible refine Mine.id_eltPost ?_)); (first | (k_unfold; (try dsimp only)) | walk1 | (dsimp only; walk1) | (leave1; try dsimp only) | fail "no step")))
    refine call_ae fun h2 e2 hm => ?_
    obtain ⟨o1, vs1, hr1, hr2, hr3⟩ := hrec
    have hm' := hm
    obtain ⟨kp, nw, oe, tp, q1, q2, q3⟩ := hm'
    refine ⟨e2, oe, .ref tp, rfl, fun q => ?_, ⟨q1, q2, q3⟩, ⟨o1, vs1, kp _ _ hr1, hr2, hr3⟩, ?_⟩
    · rw [← q, nw] at hr1; cases hr1
    · k_unfold
      dsimp only
      refine leave_ae B' (by (first | with_reducible assumption | with_reducible_and_instances assumption | assumption)) N' T' Ng U' hm rfl fun h4 RS U4 BA => ?_
      exact hret _ _ _ _ (by (first | with_reducible assumption | with_reducible_and_instances assumption | assumption)) U4 RS BA)
end
end Mine

namespace Mine
/-- after the first statements: on to the next with `I`, or out of the list with `Q` -/
inductive Cut (I : Shared → Prop) (Q : Flow → Shared → Prop) : Flow → Shared → Prop
  | next {s : Shared} : I s → Cut I Q .next s
  | out {f : Flow} {s : Shared} : f ≠ .next → Q f s → Cut I Q f s
theorem execs_append (ys : List Stmt) (env : Env) : ∀ xs : List Stmt, execs (xs ++ ys) env = (execs xs env >>= fun f => match f with | .next => execs ys env | f => pure f)
  | [] => by
    rw [List.nil_append]
    show _ = (pure Flow.next >>= _)
    rw [pure_bind]
  | x :: xs => by
    rw [List.cons_append]
    show (exec x env >>= _) = ((exec x env >>= _) >>= _)
    rw [bind_assoc]
    refine congrArg _ (funext fun f => ?_)
    cases f with
    | next => exact execs_append ys env xs
    | brk => rw [pure_bind]
    | cont => rw [pure_bind]
    | ret v => rw [pure_bind]
theorem execs_cutN {prog : Program} {w : World} {A : Around} {E : Value → Shared → Prop} {s : Shared} {env : Env} {body : List Stmt} {Q : Flow → Shared → Prop} (n : Nat) (I : Shared → Prop)
    (h1 : wpAny (model prog w) A (execs (body.take n) env) (Cut I Q) E s) (h2 : ∀ s', I s' → wpAny (model prog w) A (execs (body.drop n) env) Q E s') : wpAny (model prog w) A (execs body env) Q E s := by
  rw [← List.take_append_drop n body, execs_append]
  refine wpAny_bind (wpAny_mono h1 (fun f s' c => ?_) fun _ _ e => e)
  cases c with
  | next h => exact h2 _ h
  | out hf h =>
    cases f with
    | next => exact absurd rfl hf
    | brk => exact wpAny_pure h
    | cont => exact wpAny_pure h
    | ret v => exact wpAny_pure h
end Mine

local macro_rules | `(tactic| walk_at "eval Name") => `(tactic| (k_here; (with_reducible (refine' Mine.vf_name ?vf ?_; (case vf => assumption))); k_dflt (refine' nameX_L ?F ?v ?_ ?a ?b; (case b => exact rfl); (case a => exact rfl); (case F => k_asm); (case v => first | with_reducible assumption | rfl | ((try dsimp only); krn_off)); k_whole)))
namespace Mine
open PyProof.V PySem.Spec
/-- what stands before each turn of the loop -/
def JL (w : World) (lS lP v dv bm lR dO p1 dx1 p0 dx0 dH c2 c1 : Addr) (S obm : Obj) (i : Nat) (m : Str → Option Value) (nx : List (Addr × Obj)) : Prop :=
  ∃ (q0 q1 : Addr) (oq0 oq1 oH oO w1 w2 : Obj) (cP : Nat) (D0 D1 : List (PyData × PyData)) (v1 v2 : Option Value),
    nx = [(lS, S), (lP, listOf #[.ref q0, .ref q1] cP), (q1, oq1), (q0, oq0), (v, slotO 231 dv dH), (dv, dictOf [] 0), (bm, obm), (lR, listOf #[.ref p0, .ref p1] 0), (dO, oO), (p1, slotO 217 dx1 dO), (dx1, dictOf [] 0), (p0, slotO 195 dx0 dH), (dx0, dictOf [] 0), (dH, oH), (c2, w2), (c1, w1)] ∧
    (nx.map (·.1)).Nodup ∧ (DataOf PySem.Challenge.rw_ep5036_01.row.prog w oH D0 ∧ DataOf PySem.Challenge.rw_ep5036_01.row.prog w oq0 D0 ∧ DataOf PySem.Challenge.rw_ep5036_01.row.prog w oO D1 ∧ DataOf PySem.Challenge.rw_ep5036_01.row.prog w oq1 D1) ∧ (Good D0 ∧ Good D1 ∧ D0.length ≤ 2 * i ∧ D1.length ≤ 2 * i) ∧
    ((dH == sysModules) = false ∧ (q0 == sysModules) = false ∧ (dO == sysModules) = false ∧ (q1 == sysModules) = false) ∧ (w1.data = .cell v1 ∧ w2.data = .cell v2) ∧
    (m "handed" = some (.ref dH) ∧ m "props" = some (.ref lR) ∧ m "view" = some (.ref v) ∧ m "plains" = some (.ref lP))
/-- the law's own text -/
def partsOf : Stmt → List Stmt × Option Scope
  | .FunctionDef _ _ b _ _ _ sc _ _ _ => (b, some sc)
  | .For _ _ b _ _ => (b, none)
  | _ => ([], none)
def lawStmt : Option Stmt := (PySem.Challenge.rw_ep5036_01.row.prog).main.body[12]?
def lawSc : Scope := match lawStmt with | some st => (match (partsOf st).2 with | some sc => sc | none => ⟨.function, [], false, false, []⟩) | none => ⟨.function, [], false, false, []⟩
def lawBody : List Stmt := match lawStmt with | some st => (match (partsOf st).1[4]? with | some f => (partsOf f).1 | none => []) | none => []
theorem execs_lit1 {prog : Program} {w : World} {A : Around} {E : Value → Shared → Prop} {s : Shared} {env : Env} {l : List Stmt} {a : Stmt} {Q : Flow → Shared → Prop} (h : l = [a]) (hw : wpAny (model prog w) A (execs [a] env) Q E s) : wpAny (model prog w) A (execs l env) Q E s := h ▸ hw
theorem execs_lit2 {prog : Program} {w : World} {A : Around} {E : Value → Shared → Prop} {s : Shared} {env : Env} {l : List Stmt} {a b : Stmt} {Q : Flow → Shared → Prop} (h : l = [a, b]) (hw : wpAny (model prog w) A (execs [a, b] env) Q E s) : wpAny (model prog w) A (execs l env) Q E s := h ▸ hw
theorem execs_lit3 {prog : Program} {w : World} {A : Around} {E : Value → Shared → Prop} {s : Shared} {env : Env} {l : List Stmt} {a b c : Stmt} {Q : Flow → Shared → Prop} (h : l = [a, b, c]) (hw : wpAny (model prog w) A (execs [a, b, c] env) Q E s) : wpAny (model prog w) A (execs l env) Q E s := h ▸ hw
theorem execs_lit {prog : Program} {w : World} {A : Around} {E : Value → Shared → Prop} {s : Shared} {env : Env} {l as : List Stmt} {a : Stmt} {Q : Flow → Shared → Prop} (h : l = a :: as) (hw : wpAny (model prog w) A (execs (a :: as) env) Q E s) : wpAny (model prog w) A (execs l env) Q E s := h ▸ hw
theorem scope_lit {sc : Scope} {k : ScopeKind} {ns : List (Str × NameKind)} {g c : Bool} {mo : List (Str × Const)} (h : lawSc = sc) (h' : lawSc = ⟨k, ns, g, c, mo⟩) : sc = ⟨k, ns, g, c, mo⟩ := h ▸ h'
theorem fmod2 (a : Int) : a.fmod 2 = 0 ∨ a.fmod 2 = 1 := by
  rw [Int.fmod_eq_emod_of_nonneg _ (by decide)]; omega
theorem fmod7 (a : Int) : ∃ kk : Nat, a.fmod 7 = (kk : Int) ∧ kk < 7 := by
  rw [Int.fmod_eq_emod_of_nonneg _ (by decide)]
  exact ⟨(a % 7).toNat, by omega, by omega⟩
theorem item_names {prog : Program} {w : World} {A : Around} {E : Value → Shared → Prop} {s : Shared} {value slice : Expr} {k : Nat} {u : Tok} {Q : Value → Shared → Prop} (ht : IsTup s.heap 234 nmsV.toArray) (hk : k < 7) (h : ∀ t, Q (.str (nm k) t) s)
    (hs : subscripted slice false (.ref 234) (.int (k : Int) u) = operate [.ref 234, .int (k : Int) u] (getItem (.ref 234) (.int (k : Int) u)) := by with_unfolding_all rfl) :
    wpAny (model prog w) A (subscriptTail value slice (.ref 234) (.int (k : Int) u)) Q E s := by
  have hx : ∃ t, nmsV[k]? = some (.str (nm k) t) := by
    have : k = 0 ∨ k = 1 ∨ k = 2 ∨ k = 3 ∨ k = 4 ∨ k = 5 ∨ k = 6 := by omega
    rcases this with rfl | rfl | rfl | rfl | rfl | rfl | rfl <;> exact ⟨_, rfl⟩
  obtain ⟨t, hx⟩ := hx
  have hj : seqIndex? (k : Int) nmsV.length = some k := by
    have : k = 0 ∨ k = 1 ∨ k = 2 ∨ k = 3 ∨ k = 4 ∨ k = 5 ∨ k = 6 := by omega
    rcases this with rfl | rfl | rfl | rfl | rfl | rfl | rfl <;> rfl
  exact item_tupleT ht (by omega) (by omega) hj hx (h t) hs
theorem names_tup {w : World} {h₀ h : Heap} {L : Addr} {m : Str → Option Value} (Tb : Tbl w) (X : (Mine.hd.heap_39 w.params).In h₀) (F : Fr h₀ L h m) : IsTup h 234 nmsV.toArray := ⟨_, (X.keeps F.keep) _ _ Tb.names, rfl, 0, rfl⟩
/-- a state between two statements of a turn: frame `m'`, ledger `nx ++ own` -/
def Mid (h₀ : Heap) (L : Addr) (own : List (Addr × Obj)) (s : Shared) (P : (Str → Option Value) → List (Addr × Obj) → Prop) (s' : Shared) : Prop :=
  ∃ h' tk' m' nx, s' = { s with heap := h', toks := tk' } ∧ Fr h₀ L h' m' ∧ News h₀ L h' (nx ++ own) ∧ P m' nx
section
variable {w : World} {h₀ : Heap} {L fa : Addr} {arg : Value} {m : Str → Option Value} {s : Shared} {mg mb : Str → Option Value} {mean : ExcName → Option Value} {Q : Flow → Shared → Prop} {E : Value → Shared → Prop}
  {lS lP v dv bm lR dO p1 dx1 p0 dx0 dH : Addr} {S obm : Obj} {i : Nat} {nx own : List (Addr × Obj)} {n : Int} {t : Tok}
/-- what the first three statements of a turn leave -/
structure Hd (L : Addr) (lR lP p0 p1 q0 q1 : Addr) (n : Int) (m m' : Str → Option Value) (w1 w2 : Obj) (wj kk : Nat) (pA qA : Addr) (val : Value) (dv : PyData) : Prop where
  k1 : m' "handed" = m "handed"
  k2 : m' "props" = m "props"
  k3 : m' "view" = m "view"
  k4 : m' "plains" = m "plains"
  wh : (wj = 0 ∧ pA = p0 ∧ qA = q0) ∨ (wj = 1 ∧ pA = p1 ∧ qA = q1)
  kk7 : kk < 7
  fkd : ∃ t, m' "kind" = some (.int (n.fmod 8) t)
  fk : ∃ t, m' "k" = some (.int (kk : Int) t)
  fw : ∃ t, m' "which" = some (.int (wj : Int) t)
  fv : ∃ t, m' "v" = some (.int ((n.fdiv 112).fmod 5) t)
  fp : m' "p" = some (.ref pA)
  fval : m' "value" = some val
  fl : Flat val dv
  ok : Ok dv
  c1 : w1.data = .cell (some (.ref qA))
  c2 : ∃ t, w2.data = .cell (some (.str (nm kk) t))
def HdI (h₀ : Heap) (L lR lP p0 p1 q0 q1 : Addr) (R : List (Addr × Obj)) (n : Int) (m : Str → Option Value) (s s' : Shared) : Prop :=
  ∃ h' tk' m' w1' w2' wj kk pA qA val dv, s' = { s with heap := h', toks := tk' } ∧ Fr h₀ L h' m' ∧ News h₀ L h' ((L + 1, w1') :: (L + 1 + 1, w2') :: R) ∧ Hd L lR lP p0 p1 q0 q1 n m m' w1' w2' wj kk pA qA val dv
theorem hd_cut {q0 q1 : Addr} {R : List (Addr × Obj)} {h' : Heap} {tk' : Nat} {m' : Str → Option Value} {w1' w2' : Obj} {wj kk : Nat} {pA qA : Addr} {val : Value} {dv : PyData} (F : Fr h₀ L h' m') (N : News h₀ L h' ((L + 1, w1') :: (L + 1 + 1, w2') :: R)) (H : Hd L lR lP p0 p1 q0 q1 n m m' w1' w2' wj kk pA qA val dv) :
    Cut (HdI h₀ L lR lP p0 p1 q0 q1 R n m s) Q .next { s with heap := h', toks := tk' } := Cut.next ⟨_, _, _, _, _, _, _, _, _, _, _, rfl, F, N, H⟩
set_option maxHeartbeats 4000000 in
theorem t_head {R : List (Addr × Obj)} {q0 q1 : Addr} {cP : Nat} {w1 w2 : Obj} {v1 v2 : Option Value} (B : Below callerA h₀ [] h₀) (F : Fr h₀ L s.heap (fun y => if y = Str.ofString "x" then some (.int n t) else m y)) (X : (Mine.hd.heap_39 w.params).In h₀) (T : Top Mine.hd.view_39 (looseW Mine.hd.view_39 [Str.ofString "ReadOnlyContainer", Str.ofString "Properties", Str.ofString "OrderedProperties", Str.ofString "ReadOnlyProperties"]) mean mg mb h₀)
    (N : News h₀ L s.heap ((L + 1, w1) :: (L + 1 + 1, w2) :: R)) (r1 : ∀ q ∈ (L + 1 + 1, w2) :: R, q.1 ≠ L + 1) (r2 : ∀ q ∈ R, q.1 ≠ L + 1 + 1) (c1 : w1.data = .cell v1) (c2 : w2.data = .cell v2)
    (hl1 : (lR, listOf #[.ref p0, .ref p1] 0) ∈ R) (hl2 : (lP, listOf #[.ref q0, .ref q1] cP) ∈ R) (m2 : m "props" = some (.ref lR)) (m4 : m "plains" = some (.ref lP)) :
    wpAny (model PySem.Challenge.rw_ep5036_01.row.prog w) (callerA.deeper (envOfC (Str.ofString "law") lawSc L fa arg)) (execs (lawBody.take 3) (envOfC (Str.ofString "law") lawSc L fa arg))
      (Cut (HdI h₀ L lR lP p0 p1 q0 q1 R n m s) Q) E s := by
  have vf : VF := rfl
  have Tb : Tbl w := tbl w ⟨_, X⟩ rfl
  have tail2 : ∀ w1' : Obj, UpdF (L + 1 + 1) w2 ((L + 1, w1') :: (L + 1 + 1, w2) :: R) (fun o' => (L + 1, w1') :: (L + 1 + 1, o') :: R) := fun w1' => .tail (Nat.succ_ne_self (L + 1)).symm (.head r2)
  have head1 : UpdF (L + 1) w1 ((L + 1, w1) :: (L + 1 + 1, w2) :: R) (fun o' => (L + 1, o') :: (L + 1 + 1, w2) :: R) := .head r1
  generalize hsc : lawSc = sc
  have hsc' := scope_lit hsc (by with_unfolding_all rfl)
  subst hsc'
  clear hsc
  revert X
  k_fill
  intro X
  refine execs_lit3 (by with_unfolding_all rfl) ?_
  (repeat' ((fail_if_success (first | with_reducible refine Mine.id_subTail ?_ | with_reducible refine Mine.id_compSrc ?_ | with_reducible refine Mine.id_srcT ?_ | with_reducible refine Mine.id_eltPost ?_)); (first | (k_unfold; (try dsimp only)) | walk1 | (dsimp only; walk1) | (leave1; try dsimp only) | fail "no step")))
  rcases (fmod2 _ : (n.fdiv 56).fmod 2 = 0 ∨ (n.fdiv 56).fmod 2 = 1) with hw | hw <;> (
    simp only [hw] at *
    refine item_litK (News.isList (by (first | with_reducible assumption | with_reducible_and_instances assumption | assumption)) (by (first | lsm_bools | kat_tups) : (lR, _) ∈ _)) (by decide) (by decide) rfl ?_ (by with_unfolding_all rfl)
    (repeat' ((fail_if_success (first | with_reducible refine Mine.id_subTail ?_ | with_reducible refine Mine.id_compSrc ?_ | with_reducible refine Mine.id_srcT ?_ | with_reducible refine Mine.id_eltPost ?_)); (first | (k_unfold; (try dsimp only)) | walk1 | (dsimp only; walk1) | (leave1; try dsimp only) | fail "no step")))
    refine item_litK (News.isList (by (first | with_reducible assumption | with_reducible_and_instances assumption | assumption)) (by (first | lsm_bools | kat_tups) : (lP, _) ∈ _)) (by decide) (by decide) rfl ?_ (by with_unfolding_all rfl)
    (repeat' ((fail_if_success (first | with_reducible refine Mine.id_subTail ?_ | with_reducible refine Mine.id_compSrc ?_ | with_reducible refine Mine.id_srcT ?_ | with_reducible refine Mine.id_eltPost ?_)); (first | (k_unfold; (try dsimp only)) | walk1 | (dsimp only; walk1) | (leave1; try dsimp only) | fail "no step")))
    obtain ⟨kk, hk, hk7⟩ : ∃ kk : Nat, (n.fdiv 8).fmod 7 = (kk : Int) ∧ kk < 7 := fmod7 _
    simp only [hk] at *
    refine item_names (names_tup Tb (by (first | with_reducible assumption | with_reducible_and_instances assumption | assumption)) (by (first | with_reducible assumption | with_reducible_and_instances assumption | assumption))) hk7 fun tn => ?_
    (repeat' ((fail_if_success (first | with_reducible refine Mine.id_subTail ?_ | with_reducible refine Mine.id_compSrc ?_ | with_reducible refine Mine.id_srcT ?_ | with_reducible refine Mine.id_eltPost ?_)); (first | (k_unfold; (try dsimp only)) | walk1 | (dsimp only; walk1) | (leave1; try dsimp only) | fail "no step")))
    all_goals (
      apply hd_cut (by (first | with_reducible assumption | with_reducible_and_instances assumption | assumption)) (cb_drop (by (first | with_reducible assumption | with_reducible_and_instances assumption | assumption)) (by kcj_all))
      first
        | exact ⟨rfl, rfl, rfl, rfl, .inl ⟨rfl, rfl, rfl⟩, hk7, ⟨_, rfl⟩, ⟨_, rfl⟩, ⟨_, rfl⟩, ⟨_, rfl⟩, rfl, rfl, PyProof.V.Flat.none, Ok.none, by (first | with_reducible assumption | with_reducible_and_instances assumption | assumption), ⟨_, by (first | with_reducible assumption | with_reducible_and_instances assumption | assumption)⟩⟩
        | exact ⟨rfl, rfl, rfl, rfl, .inl ⟨rfl, rfl, rfl⟩, hk7, ⟨_, rfl⟩, ⟨_, rfl⟩, ⟨_, rfl⟩, ⟨_, rfl⟩, rfl, rfl, PyProof.V.Flat.int _ _, Ok.int _, by (first | with_reducible assumption | with_reducible_and_instances assumption | assumption), ⟨_, by (first | with_reducible assumption | with_reducible_and_instances assumption | assumption)⟩⟩
        | exact ⟨rfl, rfl, rfl, rfl, .inr ⟨rfl, rfl, rfl⟩, hk7, ⟨_, rfl⟩, ⟨_, rfl⟩, ⟨_, rfl⟩, ⟨_, rfl⟩, rfl, rfl, PyProof.V.Flat.none, Ok.none, by (first | with_reducible assumption | with_reducible_and_instances assumption | assumption), ⟨_, by (first | with_reducible assumption | with_reducible_and_instances assumption | assumption)⟩⟩
        | exact ⟨rfl, rfl, rfl, rfl, .inr ⟨rfl, rfl, rfl⟩, hk7, ⟨_, rfl⟩, ⟨_, rfl⟩, ⟨_, rfl⟩, ⟨_, rfl⟩, rfl, rfl, PyProof.V.Flat.int _ _, Ok.int _, by (first | with_reducible assumption | with_reducible_and_instances assumption | assumption), ⟨_, by (first | with_reducible assumption | with_reducible_and_instances assumption | assumption)⟩⟩))
end
end Mine

namespace Mine
open PyProof.V PySem.Spec
/-- the plain name that `_law_read` reads at `k` -/
def rd (k : Nat) : Str := if k % 2 = 0 then Str.ofString "x" else Str.ofString "y"
theorem rd_cases (k : Nat) : ((k : Int).fmod 2 = 0 ∧ rd k = Str.ofString "x") ∨ ((k : Int).fmod 2 = 1 ∧ rd k = Str.ofString "y") := by
  have e : (k : Int).fmod 2 = ((k % 2 : Nat) : Int) := by rw [Int.fmod_eq_emod_of_nonneg _ (by decide)]; omega
  rcases Nat.mod_two_eq_zero_or_one k with h | h
  · exact .inl ⟨by rw [e, h]; rfl, if_pos h⟩
  · exact .inr ⟨by rw [e, h]; rfl, if_neg (by rw [h]; decide)⟩
theorem find_miss {K : Frag} {C : Addr} {od : Option Obj} {name : Str} (h0 : selfFirst K C = true) (h : hasDictIn K C = false) (hn : findIn K (.ref C) name = some none) (hc : copiedNames.contains name = false) : findObj K C od name = some .missing := by
  obtain ⟨cd, hcd, _⟩ := any_some h0
  have hd : cd.hasDict = false := by
    unfold hasDictIn at h
    rw [hcd] at h
    simpa using h
  unfold findObj
  rw [hcd]
  simp only [Option.bind_some, hn]
  unfold PySem.W.ownOf
  rw [hd]
  simp only [Bool.false_eq_true, if_false, Option.bind_some, hc, Bool.false_and]
theorem flat_handed {v : Value} {d : PyData} (f : Flat v d) : handedIn v = true := by
  cases v <;> first | rfl | (cases f {})
section
variable {w : World} {dp un : Nat} {gd : Option (List Code)} {cn : Str} {cs : Scope} {a : Addr} {ccd : Value} {cl : List (Str × Addr)} {outer : List Env} {A₀ : Around} {base h₀ : Heap} {L : Addr} {m : Str → Option Value} {s : Shared}
  {R : Result → Shared → Prop} {news : List (Addr × Obj)} {mg mb : Str → Option Value} {mean : ExcName → Option Value} {p C dx d : Addr} {o : Obj} {D : List (PyData × PyData)}
variable {k : Nat} {t : Tok} {dv : PyData}
set_option maxHeartbeats 2000000 in
theorem c_readS (XB : (Mine.hd.heap_39 w.params).In base) (TB : Top Mine.hd.view_39 (looseW Mine.hd.view_39 [Str.ofString "ReadOnlyContainer", Str.ofString "Properties", Str.ofString "OrderedProperties", Str.ofString "ReadOnlyProperties"]) mean mg mb base) (hC : C = 195 ∨ C = 217 ∨ C = 231) (h1 : (p, slotO C dx d) ∈ news) (h2 : (dx, dictOf [] 0) ∈ news) (h3 : (d, o) ∈ news) (hD : DataOf PySem.Challenge.rw_ep5036_01.row.prog w o D) (lo : (d == sysModules) = false) (hn : D.length ≤ 1000) (B : Below A₀ base [] h₀) (F : Fr h₀ L s.heap m) (X : (Mine.hd.heap_39 w.params).In h₀) (N : News h₀ L s.heap news) (T : Top Mine.hd.view_39 (looseW Mine.hd.view_39 [Str.ofString "ReadOnlyContainer", Str.ofString "Properties", Str.ofString "OrderedProperties", Str.ofString "ReadOnlyProperties"]) mean mg mb h₀) (hck : cs.kind = .function) (hdp : dp + 20 < recursionLimit) (hun : un + 200 < cLine) (hC' : C = 195 ∨ C = 217) (hl : lookup (.str (rd k)) D = some dv)
    (hret : ∀ h' tk v, Fr h₀ L h' m → News h₀ L h' news → Flat v dv → R (.ok (.ret v)) { s with heap := h', toks := tk }) :
    codeAny (model PySem.Challenge.rw_ep5036_01.row.prog w) (ktrTop dp un gd cn cs L a ccd cl []) (.call (.ref 248) ⟨[.ref p, .int (k : Int) t], []⟩) R s := by
  clear hC
  have Tb : Tbl w := tbl w ⟨_, X⟩ rfl
  have Tw : TblW w := tblW w ⟨_, X⟩ rfl
  have O1 : Own p := rfl
  revert X
  k_fill
  intro X
  rcases rd_cases k with ⟨hp, hr⟩ | ⟨hp, hr⟩ <;> (rw [hr] at hl; rcases hC' with rfl | rfl) <;> (
    k_dflt (refine' Mine.code_defX0 ?k1 ?k2 ?k3 ?k4 ?k5 ?kA ?kF ?kK ?k6 ?k7 ?k8 ?k9 ?kB ?_ ?c2 ?c3 ?c4 ?c5; (case kA => exact rfl); (case kF => exact rfl); (case kK => assumption); (case k1 => k_asm); (case k2 => k_asm); (case k3 => k_asm); (case k4 => k_asm); (case k5 => k_asm); (case k6 => k_is); (case k7 => k_is); (case k8 => ktr_room); (case k9 => first | exact BindsTo.of_eq rfl | exact binds_K (by k_in) rfl (by k_is) rfl rfl rfl); (case c5 => decide); (case kB => exact locs rfl); (case c2 => exact rfl); (case c3 => exact rfl); (case c4 => exact rfl); k_whole; intro g' L' h' FG' F' N' B' X' T' D'; (try dsimp only); (try k_lift B'); (try k_fold))
    (repeat' ((fail_if_success (first | with_reducible refine Mine.id_binaryOp ?_ | with_reducible refine Mine.id_compSrc ?_ | with_reducible refine Mine.id_srcT ?_ | with_reducible refine Mine.id_eltPost ?_)); (first | (k_unfold; (try dsimp only)) | walk1 | (dsimp only; walk1) | (leave1; try dsimp only) | fail "no step")))
    walk1
    simp only [hp]
    (repeat' ((fail_if_success (first | with_reducible refine Mine.id_getAttr ?_ | with_reducible refine Mine.id_compSrc ?_ | with_reducible refine Mine.id_srcT ?_ | with_reducible refine Mine.id_eltPost ?_)); (first | (k_unfold; (try dsimp only)) | walk1 | (dsimp only; walk1) | (leave1; try dsimp only) | fail "no step")))
    k_dflt (refine get_missH (hook := 127) (X.keeps (Fr.keep (by (first | with_reducible assumption | with_reducible_and_instances assumption | assumption))) |>.keeps (Fr.keep (by (first | with_reducible assumption | with_reducible_and_instances assumption | assumption)))) (InstAt.of_news (by (first | with_reducible assumption | with_reducible_and_instances assumption | assumption)) (by (first | lsm_bools | kat_tups)) (by (first | lsm_bools | kat_tups))) (Tb.cls.ga _ (by first | exact .inl rfl | exact .inr (.inl rfl) | exact .inr (.inr rfl))) (find_miss (Tw.self _ (by first | exact .inl rfl | exact .inr rfl)) (Tb.cls.nod _ (by first | exact .inl rfl | exact .inr (.inl rfl))) (by k_is) (by decide +kernel)) (Tb.cls.hook _ (by first | exact .inl rfl | exact .inr (.inl rfl) | exact .inr (.inr rfl))) (by k_is) ?_)
    refine wpAny_call ?_
    refine' c_hookS ?hC ?h1 ?h2 ?h3 ?hD ?lo ?hn ?B ?F ?X ?N ?T ?ck ?dp ?un ?hl ?_
    (case F => k_asm); (case N => k_asm); (case B => k_asm); (case X => k_asm); (case T => k_asm)
    (case h1 => (first | lsm_bools | kat_tups)); (case h3 => (first | lsm_bools | kat_tups)); (case h2 => (first | lsm_bools | kat_tups))
    (case hC => first | exact .inl rfl | exact .inr (.inl rfl))
    (case hD => (first | with_reducible assumption | with_reducible_and_instances assumption | assumption)); (case lo => (first | with_reducible assumption | with_reducible_and_instances assumption | assumption)); (case hn => (first | with_reducible assumption | with_reducible_and_instances assumption | assumption)); (case ck => first | (first | with_reducible assumption | with_reducible_and_instances assumption | assumption) | exact rfl); (case dp => ktr_room); (case un => ktr_units); (case hl => (first | with_reducible assumption | with_reducible_and_instances assumption | assumption))
    k_whole
    intro h' tk' v' F' N' f'
    dsimp only
    rw [handedOut_of (flat_handed f')]
    refine wpAny_pure ?_
    (repeat' ((fail_if_success (first | with_reducible refine Mine.id_compSrc ?_ | with_reducible refine Mine.id_srcT ?_ | with_reducible refine Mine.id_eltPost ?_)); (first | (k_unfold; (try dsimp only)) | walk1 | (dsimp only; walk1) | (leave1; try dsimp only) | fail "no step")))
    exact hret _ _ _ (by (first | with_reducible assumption | with_reducible_and_instances assumption | assumption)) (by (first | with_reducible assumption | with_reducible_and_instances assumption | assumption)) f')
set_option maxHeartbeats 2000000 in
theorem c_readN (XB : (Mine.hd.heap_39 w.params).In base) (TB : Top Mine.hd.view_39 (looseW Mine.hd.view_39 [Str.ofString "ReadOnlyContainer", Str.ofString "Properties", Str.ofString "OrderedProperties", Str.ofString "ReadOnlyProperties"]) mean mg mb base) (hC : C = 195 ∨ C = 217 ∨ C = 231) (h1 : (p, slotO C dx d) ∈ news) (h2 : (dx, dictOf [] 0) ∈ news) (h3 : (d, o) ∈ news) (hD : DataOf PySem.Challenge.rw_ep5036_01.row.prog w o D) (lo : (d == sysModules) = false) (hn : D.length ≤ 1000) (B : Below A₀ base [] h₀) (F : Fr h₀ L s.heap m) (X : (Mine.hd.heap_39 w.params).In h₀) (N : News h₀ L s.heap news) (T : Top Mine.hd.view_39 (looseW Mine.hd.view_39 [Str.ofString "ReadOnlyContainer", Str.ofString "Properties", Str.ofString "OrderedProperties", Str.ofString "ReadOnlyProperties"]) mean mg mb h₀) (hck : cs.kind = .function) (hdp : dp + 20 < recursionLimit) (hun : un + 200 < cLine) (hC' : C = 195 ∨ C = 217) (hl : lookup (.str (rd k)) D = none)
    (hret : ∀ h' tk t', Fr h₀ L h' m → News h₀ L h' news → R (.ok (.ret (.str (Str.ofString "none") t'))) { s with heap := h', toks := tk }) :
    codeAny (model PySem.Challenge.rw_ep5036_01.row.prog w) (ktrTop dp un gd cn cs L a ccd cl []) (.call (.ref 248) ⟨[.ref p, .int (k : Int) t], []⟩) R s := by
  clear hC
  have Tb : Tbl w := tbl w ⟨_, X⟩ rfl
  have Tw : TblW w := tblW w ⟨_, X⟩ rfl
  have O1 : Own p := rfl
  revert X
  k_fill
  intro X
  rcases rd_cases k with ⟨hp, hr⟩ | ⟨hp, hr⟩ <;> (rw [hr] at hl; rcases hC' with rfl | rfl) <;> (
    k_dflt (refine' Mine.code_defX0 ?k1 ?k2 ?k3 ?k4 ?k5 ?kA ?kF ?kK ?k6 ?k7 ?k8 ?k9 ?kB ?_ ?c2 ?c3 ?c4 ?c5; (case kA => exact rfl); (case kF => exact rfl); (case kK => assumption); (case k1 => k_asm); (case k2 => k_asm); (case k3 => k_asm); (case k4 => k_asm); (case k5 => k_asm); (case k6 => k_is); (case k7 => k_is); (case k8 => ktr_room); (case k9 => first | exact BindsTo.of_eq rfl | exact binds_K (by k_in) rfl (by k_is) rfl rfl rfl); (case c5 => decide); (case kB => exact locs rfl); (case c2 => exact rfl); (case c3 => exact rfl); (case c4 => exact rfl); k_whole; intro g' L' h' FG' F' N' B' X' T' D'; (try dsimp only); (try k_lift B'); (try k_fold))
    (repeat' ((fail_if_success (first | with_reducible refine Mine.id_binaryOp ?_ | with_reducible refine Mine.id_compSrc ?_ | with_reducible refine Mine.id_srcT ?_ | with_reducible refine Mine.id_eltPost ?_)); (first | (k_unfold; (try dsimp only)) | walk1 | (dsimp only; walk1) | (leave1; try dsimp only) | fail "no step")))
    walk1
    simp only [hp]
    (repeat' ((fail_if_success (first | with_reducible refine Mine.id_getAttr ?_ | with_reducible refine Mine.id_compSrc ?_ | with_reducible refine Mine.id_srcT ?_ | with_reducible refine Mine.id_eltPost ?_)); (first | (k_unfold; (try dsimp only)) | walk1 | (dsimp only; walk1) | (leave1; try dsimp only) | fail "no step")))
    k_dflt (refine get_missH (hook := 127) (X.keeps (Fr.keep (by (first | with_reducible assumption | with_reducible_and_instances assumption | assumption))) |>.keeps (Fr.keep (by (first | with_reducible assumption | with_reducible_and_instances assumption | assumption)))) (InstAt.of_news (by (first | with_reducible assumption | with_reducible_and_instances assumption | assumption)) (by (first | lsm_bools | kat_tups)) (by (first | lsm_bools | kat_tups))) (Tb.cls.ga _ (by first | exact .inl rfl | exact .inr (.inl rfl) | exact .inr (.inr rfl))) (find_miss (Tw.self _ (by first | exact .inl rfl | exact .inr rfl)) (Tb.cls.nod _ (by first | exact .inl rfl | exact .inr (.inl rfl))) (by k_is) (by decide +kernel)) (Tb.cls.hook _ (by first | exact .inl rfl | exact .inr (.inl rfl) | exact .inr (.inr rfl))) (by k_is) ?_)
    refine wpAny_call ?_
    refine' c_hookA ?XB ?TB ?hC ?h1 ?h2 ?h3 ?hD ?lo ?hn ?B ?F ?X ?N ?T ?ck ?dp ?un ?hC' ?hl ?_
    (case F => k_asm); (case N => k_asm); (case B => k_asm); (case X => k_asm); (case T => k_asm); (case XB => exact XB); (case TB => exact TB)
    (case h1 => (first | lsm_bools | kat_tups)); (case h3 => (first | lsm_bools | kat_tups)); (case h2 => (first | lsm_bools | kat_tups))
    (case hC => first | exact .inl rfl | exact .inr (.inl rfl)); (case hC' => first | exact .inl rfl | exact .inr rfl)
    (case hD => (first | with_reducible assumption | with_reducible_and_instances assumption | assumption)); (case lo => (first | with_reducible assumption | with_reducible_and_instances assumption | assumption)); (case hn => (first | with_reducible assumption | with_reducible_and_instances assumption | assumption)); (case ck => first | (first | with_reducible assumption | with_reducible_and_instances assumption | assumption) | exact rfl); (case dp => ktr_room); (case un => ktr_units); (case hl => (first | with_reducible assumption | with_reducible_and_instances assumption | assumption))
    k_whole
    intro e' g' h' tk' Fg Ug Rg Bg
    dsimp only
    refine note_ae Rg Bg Ug fun h5 R5 U5 => ?_
    clear Rg Bg Ug
    (repeat' ((fail_if_success (first | with_reducible refine Mine.id_compSrc ?_ | with_reducible refine Mine.id_srcT ?_ | with_reducible refine Mine.id_eltPost ?_)); (first | (k_unfold; (try dsimp only)) | walk1 | (dsimp only; walk1) | (leave1; try dsimp only) | fail "no step")))
    exact hret _ _ _ (by (first | with_reducible assumption | with_reducible_and_instances assumption | assumption)) (by (first | with_reducible assumption | with_reducible_and_instances assumption | assumption)))
end
end Mine

local macro_rules | `(tactic| walk_at "setItem ref str") => `(tactic| (k_here; k_dflt (refine' Mine.set_data ?k1 ?k2 ?k3 ?k4 ?k5 ?k6 ?_; (case k1 => k_asm); (case k2 => k_asm); (case k3 => k_updF); (case k4 => k_asm); (case k5 => k_flat); (case k6 => first | assumption | omega); k_whole; intro h' o' F' N' y'; (try dsimp only at N'))))
local macro_rules | `(tactic| kct_strs) => `(tactic| first
  | ((with_reducible show codeAny _ _ (.call (.ref 241) _) _ _); (refine' Mine.c_bydot ?hC ?h1 ?h2 ?h3 ?hD ?lo ?hn ?B ?F ?X ?N ?T ?ck ?dp ?un ?hC' ?U ?hv ?hk ?_; (case F => k_asm); (case N => k_asm); (case B => k_asm); (case X => k_asm); (case T => k_asm); (case h1 => (first | lsm_bools | kat_tups)); (case h3 => (first | lsm_bools | kat_tups)); (case h2 => (first | lsm_bools | kat_tups)); (case U => k_updF); (case hC => first | (first | with_reducible assumption | with_reducible_and_instances assumption | assumption) | exact Mine.isP_of (by (first | with_reducible assumption | with_reducible_and_instances assumption | assumption)) | (left; rfl) | (right; left; rfl) | (right; right; rfl)); (case hC' => first | (first | with_reducible assumption | with_reducible_and_instances assumption | assumption) | (left; rfl) | (right; rfl)); (case hD => (first | with_reducible assumption | with_reducible_and_instances assumption | assumption)); (case lo => (first | with_reducible assumption | with_reducible_and_instances assumption | assumption)); (case hn => first | (first | with_reducible assumption | with_reducible_and_instances assumption | assumption) | omega); (case ck => first | (first | with_reducible assumption | with_reducible_and_instances assumption | assumption) | exact rfl); (case dp => ktr_room); (case un => ktr_units); (case hv => (first | with_reducible assumption | with_reducible_and_instances assumption | assumption)); (case hk => (first | with_reducible assumption | with_reducible_and_instances assumption | assumption)); k_whole; intro h' o' tk' F' N' y'; (try dsimp only)))
  | ((with_reducible show codeAny _ _ (.call (.ref 148) _) _ _); (refine' Mine.c_update ?hC ?h1 ?h2 ?h3 ?hD ?lo ?hn ?B ?F ?X ?N ?T ?ck ?dp ?un ?hC' ?U ?h4 ?y2 ?lo2 ?hne ?hn2 ?_; (case F => k_asm); (case N => k_asm); (case B => k_asm); (case X => k_asm); (case T => k_asm); (case h1 => (first | lsm_bools | kat_tups)); (case h3 => (first | lsm_bools | kat_tups)); (case h2 => (first | lsm_bools | kat_tups)); (case U => k_updF); (case hC => first | (first | with_reducible assumption | with_reducible_and_instances assumption | assumption) | exact Mine.isP_of (by (first | with_reducible assumption | with_reducible_and_instances assumption | assumption)) | (left; rfl) | (right; left; rfl) | (right; right; rfl)); (case hC' => first | (first | with_reducible assumption | with_reducible_and_instances assumption | assumption) | (left; rfl) | (right; rfl)); (case hD => (first | with_reducible assumption | with_reducible_and_instances assumption | assumption)); (case lo => (first | with_reducible assumption | with_reducible_and_instances assumption | assumption)); (case hn => first | (first | with_reducible assumption | with_reducible_and_instances assumption | assumption) | omega); (case ck => first | (first | with_reducible assumption | with_reducible_and_instances assumption | assumption) | exact rfl); (case dp => ktr_room); (case un => ktr_units); (case h4 => (first | lsm_bools | kat_tups)); (case y2 => (first | with_reducible assumption | with_reducible_and_instances assumption | assumption)); (case lo2 => (first | with_reducible assumption | with_reducible_and_instances assumption | assumption)); (case hne => first | (first | with_reducible assumption | with_reducible_and_instances assumption | assumption) | k_ne); (case hn2 => first | (first | with_reducible assumption | with_reducible_and_instances assumption | assumption) | omega); k_whole; intro h' o' tk' F' N' y'; (try dsimp only)))
  | ((with_reducible show codeAny _ _ (.call (.ref 255) _) _ _); (refine' Mine.c_takeS ?hC ?h1 ?h2 ?h3 ?hD ?lo ?hn ?B ?F ?X ?N ?T ?ck ?dp ?un ?hC' ?U ?hl ?_; (case F => k_asm); (case N => k_asm); (case B => k_asm); (case X => k_asm); (case T => k_asm); (case h1 => (first | lsm_bools | kat_tups)); (case h3 => (first | lsm_bools | kat_tups)); (case h2 => (first | lsm_bools | kat_tups)); (case U => k_updF); (case hC => first | (first | with_reducible assumption | with_reducible_and_instances assumption | assumption) | exact Mine.isP_of (by (first | with_reducible assumption | with_reducible_and_instances assumption | assumption)) | (left; rfl) | (right; left; rfl) | (right; right; rfl)); (case hC' => first | (first | with_reducible assumption | with_reducible_and_instances assumption | assumption) | (left; rfl) | (right; rfl)); (case hD => (first | with_reducible assumption | with_reducible_and_instances assumption | assumption)); (case lo => (first | with_reducible assumption | with_reducible_and_instances assumption | assumption)); (case hn => first | (first | with_reducible assumption | with_reducible_and_instances assumption | assumption) | omega); (case ck => first | (first | with_reducible assumption | with_reducible_and_instances assumption | assumption) | exact rfl); (case dp => ktr_room); (case un => ktr_units); (case hl => (first | with_reducible assumption | with_reducible_and_instances assumption | assumption)); k_whole; intro h' o' tk' F' N' y'; (try dsimp only)))
  | ((with_reducible show codeAny _ _ (.call (.ref 255) _) _ _); (refine' Mine.c_takeN ?XB ?TB ?hC ?h1 ?h2 ?h3 ?hD ?lo ?hn ?B ?F ?X ?N ?T ?ck ?dp ?un ?hC' ?hl ?_; (case F => k_asm); (case N => k_asm); (case B => k_asm); (case X => k_asm); (case T => k_asm); (case h1 => (first | lsm_bools | kat_tups)); (case h3 => (first | lsm_bools | kat_tups)); (case h2 => (first | lsm_bools | kat_tups)); (case hC => first | (first | with_reducible assumption | with_reducible_and_instances assumption | assumption) | exact Mine.isP_of (by (first | with_reducible assumption | with_reducible_and_instances assumption | assumption)) | (left; rfl) | (right; left; rfl) | (right; right; rfl)); (case hC' => first | (first | with_reducible assumption | with_reducible_and_instances assumption | assumption) | (left; rfl) | (right; rfl)); (case hD => (first | with_reducible assumption | with_reducible_and_instances assumption | assumption)); (case lo => (first | with_reducible assumption | with_reducible_and_instances assumption | assumption)); (case hn => first | (first | with_reducible assumption | with_reducible_and_instances assumption | assumption) | omega); (case ck => first | (first | with_reducible assumption | with_reducible_and_instances assumption | assumption) | exact rfl); (case dp => ktr_room); (case un => ktr_units); (case hl => (first | with_reducible assumption | with_reducible_and_instances assumption | assumption)); (case XB => k_asm); (case TB => k_asm); k_whole; intro h' tk' F' N'; (try dsimp only)))
  | ((with_reducible show codeAny _ _ (.call (.ref 260) _) _ _); (refine' Mine.c_same ?hC ?h1 ?h2 ?h3 ?hD ?lo ?hn ?h4 ?hQ ?lo2 ?hG ?B ?F ?X ?N ?T ?ck ?dp ?un ?_; (case F => k_asm); (case N => k_asm); (case B => k_asm); (case X => k_asm); (case T => k_asm); (case h1 => (first | lsm_bools | kat_tups)); (case h3 => (first | lsm_bools | kat_tups)); (case h2 => (first | lsm_bools | kat_tups)); (case hC => first | (first | with_reducible assumption | with_reducible_and_instances assumption | assumption) | exact Mine.isP_of (by (first | with_reducible assumption | with_reducible_and_instances assumption | assumption)) | (left; rfl) | (right; left; rfl) | (right; right; rfl)); (case hD => (first | with_reducible assumption | with_reducible_and_instances assumption | assumption)); (case lo => (first | with_reducible assumption | with_reducible_and_instances assumption | assumption)); (case hn => first | (first | with_reducible assumption | with_reducible_and_instances assumption | assumption) | omega); (case ck => first | (first | with_reducible assumption | with_reducible_and_instances assumption | assumption) | exact rfl); (case dp => ktr_room); (case un => ktr_units); (case h4 => (first | lsm_bools | kat_tups)); (case hQ => (first | with_reducible assumption | with_reducible_and_instances assumption | assumption)); (case lo2 => (first | with_reducible assumption | with_reducible_and_instances assumption | assumption)); (case hG => (first | with_reducible assumption | with_reducible_and_instances assumption | assumption)); k_whole; intro h' tk' F' N'; (try dsimp only))))
local macro_rules | `(tactic| walk_at "call ref") => `(tactic| (k_here; k_dflt (first
  | ((with_reducible show wpAny _ _ (call (Value.ref 241) _) _ _ _); refine wpAny_call ?_; kct_strs)
  | ((with_reducible show wpAny _ _ (call (Value.ref 255) _) _ _ _); refine wpAny_call ?_; kct_strs)
  | ((with_reducible show wpAny _ _ (call (Value.ref 248) _) _ _ _); refine wpAny_call ?_; kct_strs)
  | ((with_reducible show wpAny _ _ (call (Value.ref 260) _) _ _ _); refine wpAny_call ?_; kct_strs))))
local macro_rules | `(tactic| walk_at "callWith ref") => `(tactic| (k_here; k_dflt (refine' callWith_M ?k1 ?k2 ?k3 ?k4 ?_; (case k1 => k_asm); (case k2 => k_asm); (case k3 => (first | lsm_bools | kat_tups)); (case k4 => k_is); k_whole)))
local macro_rules | `(tactic| walk_at "subscriptTail Name Constant ref int") => `(tactic| (k_here; (with_reducible show wpAny _ _ (subscriptTail _ _ (Value.ref _) (Value.int _ _)) _ _ _); k_dflt (refine' item_litK ?k1 ?k2 ?k3 ?k4 ?_ ?k6; (case k1 => exact News.isList (by k_asm) (by (first | lsm_bools | kat_tups))); (case k2 => decide); (case k3 => decide); (case k4 => rfl); (case k6 => with_unfolding_all rfl); k_whole)))
local macro_rules | `(tactic| kct_strs) => `(tactic| first
  | ((with_reducible show codeAny _ _ (.call (.ref 248) _) _ _); (refine' Mine.c_readS ?XB ?TB ?hC ?h1 ?h2 ?h3 ?hD ?lo ?hn ?B ?F ?X ?N ?T ?ck ?dp ?un ?hC' ?hl ?_; (case F => k_asm); (case N => k_asm); (case B => k_asm); (case X => k_asm); (case T => k_asm); (case h1 => (first | lsm_bools | kat_tups)); (case h3 => (first | lsm_bools | kat_tups)); (case h2 => (first | lsm_bools | kat_tups)); (case hC => first | (first | with_reducible assumption | with_reducible_and_instances assumption | assumption) | exact Mine.isP_of (by (first | with_reducible assumption | with_reducible_and_instances assumption | assumption))); (case hD => (first | with_reducible assumption | with_reducible_and_instances assumption | assumption)); (case lo => (first | with_reducible assumption | with_reducible_and_instances assumption | assumption)); (case hn => first | (first | with_reducible assumption | with_reducible_and_instances assumption | assumption) | omega); (case ck => first | (first | with_reducible assumption | with_reducible_and_instances assumption | assumption) | exact rfl); (case dp => ktr_room); (case un => ktr_units); (case hC' => (first | with_reducible assumption | with_reducible_and_instances assumption | assumption)); (case hl => (first | with_reducible assumption | with_reducible_and_instances assumption | assumption)); (case XB => k_asm); (case TB => k_asm); k_whole; intro h' tk' v' F' N' f'; (try dsimp only)))
  | ((with_reducible show codeAny _ _ (.call (.ref 248) _) _ _); (refine' Mine.c_readN ?XB ?TB ?hC ?h1 ?h2 ?h3 ?hD ?lo ?hn ?B ?F ?X ?N ?T ?ck ?dp ?un ?hC' ?hl ?_; (case F => k_asm); (case N => k_asm); (case B => k_asm); (case X => k_asm); (case T => k_asm); (case h1 => (first | lsm_bools | kat_tups)); (case h3 => (first | lsm_bools | kat_tups)); (case h2 => (first | lsm_bools | kat_tups)); (case hC => first | (first | with_reducible assumption | with_reducible_and_instances assumption | assumption) | exact Mine.isP_of (by (first | with_reducible assumption | with_reducible_and_instances assumption | assumption))); (case hD => (first | with_reducible assumption | with_reducible_and_instances assumption | assumption)); (case lo => (first | with_reducible assumption | with_reducible_and_instances assumption | assumption)); (case hn => first | (first | with_reducible assumption | with_reducible_and_instances assumption | assumption) | omega); (case ck => first | (first | with_reducible assumption | with_reducible_and_instances assumption | assumption) | exact rfl); (case dp => ktr_room); (case un => ktr_units); (case hC' => (first | with_reducible assumption | with_reducible_and_instances assumption | assumption)); (case hl => (first | with_reducible assumption | with_reducible_and_instances assumption | assumption)); (case XB => k_asm); (case TB => k_asm); k_whole; intro h' tk' t' F' N'; (try dsimp only))))
namespace Mine
open PyProof.V PySem.Spec
/-- what the chain of kinds leaves: both dictionaries told anew in place, or the plain one replaced -/
inductive KdI (w : World) (h₀ : Heap) (L dA qA lP q0 q1 : Addr) (cP wj : Nat) (oqA : Obj) (D : List (PyData × PyData)) (R : List (Addr × Obj)) (m : Str → Option Value) (s : Shared) : Shared → Prop
  | same {h' : Heap} {tk' : Nat} {m' : Str → Option Value} {oA' oq' : Obj} {D' : List (PyData × PyData)} (F : Fr h₀ L h' m') (N : News h₀ L h' ((dA, oA') :: (qA, oq') :: (lP, listOf #[.ref q0, .ref q1] cP) :: R))
      (y1 : DataOf PySem.Challenge.rw_ep5036_01.row.prog w oA' D') (y2 : DataOf PySem.Challenge.rw_ep5036_01.row.prog w oq' D') (g : Good D') (hn : D'.length ≤ D.length + 2) (k1 : m' "handed" = m "handed") (k2 : m' "props" = m "props") (k3 : m' "view" = m "view") (k4 : m' "plains" = m "plains") : KdI w h₀ L dA qA lP q0 q1 cP wj oqA D R m s { s with heap := h', toks := tk' }
  | fresh {h' : Heap} {tk' : Nat} {m' : Str → Option Value} {qN : Addr} {oA' oN : Obj} {cP' : Nat} {D' : List (PyData × PyData)} (F : Fr h₀ L h' m') (N : News h₀ L h' ((qN, oN) :: (dA, oA') :: (qA, oqA) :: (lP, listOf (if wj = 0 then #[.ref qN, .ref q1] else #[.ref q0, .ref qN]) cP') :: R))
      (l1 : ∀ q ∈ (dA, oA') :: (qA, oqA) :: (lP, listOf (if wj = 0 then #[.ref qN, .ref q1] else #[.ref q0, .ref qN]) cP') :: R, q.1 < qN) (sN : (qN == sysModules) = false)
      (y1 : DataOf PySem.Challenge.rw_ep5036_01.row.prog w oA' D') (y2 : DataOf PySem.Challenge.rw_ep5036_01.row.prog w oN D') (g : Good D') (hn : D'.length ≤ D.length + 2) (k1 : m' "handed" = m "handed") (k2 : m' "props" = m "props") (k3 : m' "view" = m "view") (k4 : m' "plains" = m "plains") : KdI w h₀ L dA qA lP q0 q1 cP wj oqA D R m s { s with heap := h', toks := tk' }
section
variable {w : World} {h₀ : Heap} {L fa : Addr} {arg : Value} {m : Str → Option Value} {s : Shared} {mg mb : Str → Option Value} {mean : ExcName → Option Value} {Q : Flow → Shared → Prop} {E : Value → Shared → Prop}
  {lP q0 q1 pA dxA dA qA CA : Addr} {oA oqA w1 w2 : Obj} {cP wj kk : Nat} {R : List (Addr × Obj)} {D : List (PyData × PyData)} {vv : Int} {val : Value} {dv : PyData} {t1 t2 t3 t4 t5 : Tok}
theorem all_of_lt {d : Nat} {R : List (Addr × Obj)} (h : AllLt d R) : ∀ q ∈ R, q.1 < d := by
  induction R with
  | nil => intro q hq; cases hq
  | cons p r ih =>
    intro q hq
    rcases List.mem_cons.mp hq with e | hq
    · rw [e]; exact h.1
    · exact ih h.2 q hq
theorem lts_of {qN x y z : Addr} {ox oy oz : Obj} {R : List (Addr × Obj)} (h : x < qN ∧ y < qN ∧ z < qN ∧ AllLt qN R) : ∀ q ∈ (x, ox) :: (y, oy) :: (z, oz) :: R, q.1 < qN := by
  intro q hq
  rcases List.mem_cons.mp hq with rfl | hq
  · exact h.1
  rcases List.mem_cons.mp hq with rfl | hq
  · exact h.2.1
  rcases List.mem_cons.mp hq with rfl | hq
  · exact h.2.2.1
  exact all_of_lt h.2.2.2 q hq
theorem set_plain {prog : Program} {A : Around} {Q : Unit → Shared → Prop} {news' : List (Addr × Obj)} {qN : Addr} {oN oA' : Obj} {t : Tok} (F : Fr h₀ L s.heap m) (N : News h₀ L s.heap news')
    (hsub : ∀ q ∈ (qN, oN) :: (dA, oA') :: (qA, oqA) :: (lP, listOf #[.ref q0, .ref q1] cP) :: R, q ∈ news') (l : ∀ q ∈ (dA, oA') :: (qA, oqA) :: (lP, listOf #[.ref q0, .ref q1] cP) :: R, q.1 < qN)
    (e1 : dA ≠ lP) (e2 : qA ≠ lP) (e3 : ∀ q ∈ R, q.1 ≠ lP) (hwj : wj = 0 ∨ wj = 1)
    (h : ∀ h', Fr h₀ L h' m → News h₀ L h' ((qN, oN) :: (dA, oA') :: (qA, oqA) :: (lP, listOf (if wj = 0 then #[.ref qN, .ref q1] else #[.ref q0, .ref qN]) cP) :: R) →
      (∀ q ∈ (dA, oA') :: (qA, oqA) :: (lP, listOf (if wj = 0 then #[.ref qN, .ref q1] else #[.ref q0, .ref qN]) cP) :: R, q.1 < qN) → Q () { s with heap := h' }) :
    wpAny (model prog w) A (setItem (.ref lP) (.int (wj : Int) t) (.ref qN)) Q E s := by
  have N2 := cb_drop N hsub
  have l2 : ∀ o : Obj, ∀ q ∈ (dA, oA') :: (qA, oqA) :: (lP, o) :: R, q.1 < qN := by
    intro o q hq
    rcases List.mem_cons.mp hq with rfl | hq
    · exact l (dA, oA') (.head _)
    rcases List.mem_cons.mp hq with rfl | hq
    · exact l (qA, oqA) (.tail _ (.head _))
    rcases List.mem_cons.mp hq with rfl | hq
    · exact l (lP, listOf #[.ref q0, .ref q1] cP) (.tail _ (.tail _ (.head _)))
    exact l q (.tail _ (.tail _ (.tail _ hq)))
  have e0 : qN ≠ lP := Nat.ne_of_gt (l (lP, listOf #[.ref q0, .ref q1] cP) (.tail _ (.tail _ (.head _))))
  rcases hwj with rfl | rfl
  · refine ki_set F N2 (by decide) (by decide) rfl (.tail e0 (.tail e1 (.tail e2 (.head e3)))) fun h' F' N' => ?_
    exact h h' F' N' (l2 _)
  · refine ki_set F N2 (by decide) (by decide) rfl (.tail e0 (.tail e1 (.tail e2 (.head e3)))) fun h' F' N' => ?_
    exact h h' F' N' (l2 _)
set_option maxHeartbeats 4000000 in
theorem t_set {kd : Int} (B : Below callerA h₀ [] h₀) (F : Fr h₀ L s.heap m) (X : (Mine.hd.heap_39 w.params).In h₀) (T : Top Mine.hd.view_39 (looseW Mine.hd.view_39 [Str.ofString "ReadOnlyContainer", Str.ofString "Properties", Str.ofString "OrderedProperties", Str.ofString "ReadOnlyProperties"]) mean mg mb h₀) (N : News h₀ L s.heap ((dA, oA) :: (qA, oqA) :: (lP, listOf #[.ref q0, .ref q1] cP) :: R)) (hC' : CA = 195 ∨ CA = 217) (hp : (pA, slotO CA dxA dA) ∈ R) (hx : (dxA, dictOf [] 0) ∈ R) (hw1 : (L + 1, w1) ∈ R) (hw2 : (L + 1 + 1, w2) ∈ R) (yA : DataOf PySem.Challenge.rw_ep5036_01.row.prog w oA D) (yq : DataOf PySem.Challenge.rw_ep5036_01.row.prog w oqA D) (gD : Good D) (nD : D.length ≤ 100) (sA : (dA == sysModules) = false) (sq : (qA == sysModules) = false) (e1 : ∀ q ∈ (qA, oqA) :: (lP, listOf #[.ref q0, .ref q1] cP) :: R, q.1 ≠ dA) (e2 : ∀ q ∈ (lP, listOf #[.ref q0, .ref q1] cP) :: R, q.1 ≠ qA) (e3 : ∀ q ∈ R, q.1 ≠ lP) (kk7 : kk < 7) (fk : m "k" = some (.int (kk : Int) t1)) (fw : m "which" = some (.int (wj : Int) t2)) (fv : m "v" = some (.int vv t3)) (fp : m "p" = some (.ref pA)) (fval : m "value" = some val) (fpl : m "plains" = some (.ref lP)) (fl : Flat val dv) (ok : Ok dv) (c1 : w1.data = .cell (some (.ref qA))) (c2 : w2.data = .cell (some (.str (nm kk) t4))) (fkd : m "kind" = some (.int kd t5)) (hkd : kd = 0 ∨ kd = 1) : wpAny (model PySem.Challenge.rw_ep5036_01.row.prog w) (callerA.deeper (envOfC (Str.ofString "law") lawSc L fa arg)) (execs ((lawBody.drop 3).take 1) (envOfC (Str.ofString "law") lawSc L fa arg)) (Cut (KdI w h₀ L dA qA lP q0 q1 cP wj oqA D R m s) Q) E s := by
  have Tb : Tbl w := tbl w ⟨_, X⟩ rfl
  have Tw : TblW w := tblW w ⟨_, X⟩ rfl
  have O1 : Own pA := rfl
  have ne1 : qA ≠ dA := e1 _ (.head _)
  have ne2 : dA ≠ qA := ne1.symm
  have nD' : D.length ≤ 1000 := by omega
  generalize hsc : lawSc = sc
  have hsc' := scope_lit hsc (by with_unfolding_all rfl)
  subst hsc'
  clear hsc
  revert X
  k_fill
  intro X
  rcases hkd with rfl | rfl
  · refine execs_lit1 (by with_unfolding_all rfl) ?_
    (repeat' ((fail_if_success (first | with_reducible refine Mine.id_compSrc ?_ | with_reducible refine Mine.id_srcT ?_ | with_reducible refine Mine.id_eltPost ?_)); (first | (k_unfold; (try dsimp only)) | walk1 | (dsimp only; walk1) | (leave1; try dsimp only) | fail "no step")))
    exact Cut.next (KdI.same (by (first | with_reducible assumption | with_reducible_and_instances assumption | assumption)) (by (first | with_reducible assumption | with_reducible_and_instances assumption | assumption)) (by (first | with_reducible assumption | with_reducible_and_instances assumption | assumption)) (by (first | with_reducible assumption | with_reducible_and_instances assumption | assumption)) (gD.put (nm_ok _) ok) (by have := putD_len (.str (nm kk)) dv D; omega) rfl rfl rfl rfl)
  · refine execs_lit1 (by with_unfolding_all rfl) ?_
    (repeat' ((fail_if_success (first | with_reducible refine Mine.id_compSrc ?_ | with_reducible refine Mine.id_srcT ?_ | with_reducible refine Mine.id_eltPost ?_)); (first | (k_unfold; (try dsimp only)) | walk1 | (dsimp only; walk1) | (leave1; try dsimp only) | fail "no step")))
    exact Cut.next (KdI.same (by (first | with_reducible assumption | with_reducible_and_instances assumption | assumption)) (by (first | with_reducible assumption | with_reducible_and_instances assumption | assumption)) (by (first | with_reducible assumption | with_reducible_and_instances assumption | assumption)) (by (first | with_reducible assumption | with_reducible_and_instances assumption | assumption)) (gD.put (nm_ok _) ok) (by have := putD_len (.str (nm kk)) dv D; omega) rfl rfl rfl rfl)
end
end Mine

namespace Mine
open PyProof.V PySem.Spec
section
variable {w : World} {h₀ : Heap} {L fa : Addr} {arg : Value} {m : Str → Option Value} {s : Shared} {mg mb : Str → Option Value} {mean : ExcName → Option Value} {Q : Flow → Shared → Prop} {E : Value → Shared → Prop}
  {lP q0 q1 pA dxA dA qA CA : Addr} {oA oqA w1 w2 : Obj} {cP wj kk : Nat} {R : List (Addr × Obj)} {D : List (PyData × PyData)} {vv : Int} {val : Value} {dv : PyData} {t1 t2 t3 t4 t5 : Tok}
set_option maxHeartbeats 4000000 in
theorem t_dot {kd : Int} (B : Below callerA h₀ [] h₀) (F : Fr h₀ L s.heap m) (X : (Mine.hd.heap_39 w.params).In h₀) (T : Top Mine.hd.view_39 (looseW Mine.hd.view_39 [Str.ofString "ReadOnlyContainer", Str.ofString "Properties", Str.ofString "OrderedProperties", Str.ofString "ReadOnlyProperties"]) mean mg mb h₀) (N : News h₀ L s.heap ((dA, oA) :: (qA, oqA) :: (lP, listOf #[.ref q0, .ref q1] cP) :: R)) (hC' : CA = 195 ∨ CA = 217) (hp : (pA, slotO CA dxA dA) ∈ R) (hx : (dxA, dictOf [] 0) ∈ R) (hw1 : (L + 1, w1) ∈ R) (hw2 : (L + 1 + 1, w2) ∈ R) (yA : DataOf PySem.Challenge.rw_ep5036_01.row.prog w oA D) (yq : DataOf PySem.Challenge.rw_ep5036_01.row.prog w oqA D) (gD : Good D) (nD : D.length ≤ 100) (sA : (dA == sysModules) = false) (sq : (qA == sysModules) = false) (e1 : ∀ q ∈ (qA, oqA) :: (lP, listOf #[.ref q0, .ref q1] cP) :: R, q.1 ≠ dA) (e2 : ∀ q ∈ (lP, listOf #[.ref q0, .ref q1] cP) :: R, q.1 ≠ qA) (e3 : ∀ q ∈ R, q.1 ≠ lP) (kk7 : kk < 7) (fk : m "k" = some (.int (kk : Int) t1)) (fw : m "which" = some (.int (wj : Int) t2)) (fv : m "v" = some (.int vv t3)) (fp : m "p" = some (.ref pA)) (fval : m "value" = some val) (fpl : m "plains" = some (.ref lP)) (fl : Flat val dv) (ok : Ok dv) (c1 : w1.data = .cell (some (.ref qA))) (c2 : w2.data = .cell (some (.str (nm kk) t4))) (fkd : m "kind" = some (.int kd t5)) (hkd : kd = 2 ∨ kd = 3) : wpAny (model PySem.Challenge.rw_ep5036_01.row.prog w) (callerA.deeper (envOfC (Str.ofString "law") lawSc L fa arg)) (execs ((lawBody.drop 3).take 1) (envOfC (Str.ofString "law") lawSc L fa arg)) (Cut (KdI w h₀ L dA qA lP q0 q1 cP wj oqA D R m s) Q) E s := by
  have Tb : Tbl w := tbl w ⟨_, X⟩ rfl
  have Tw : TblW w := tblW w ⟨_, X⟩ rfl
  have O1 : Own pA := rfl
  have hIP : IsP CA := isP_of hC'
  have ne1 : qA ≠ dA := e1 _ (.head _)
  have ne2 : dA ≠ qA := ne1.symm
  have nD' : D.length ≤ 1000 := by omega
  generalize hsc : lawSc = sc
  have hsc' := scope_lit hsc (by with_unfolding_all rfl)
  subst hsc'
  clear hsc
  revert X
  k_fill
  intro X
  rcases hkd with rfl | rfl <;> (
    refine execs_lit1 (by with_unfolding_all rfl) ?_
    (repeat' ((fail_if_success (first | with_reducible refine Mine.id_compSrc ?_ | with_reducible refine Mine.id_srcT ?_ | with_reducible refine Mine.id_eltPost ?_)); (first | (k_unfold; (try dsimp only)) | walk1 | (dsimp only; walk1) | (leave1; try dsimp only) | fail "no step")))
    exact Cut.next (KdI.same (by (first | with_reducible assumption | with_reducible_and_instances assumption | assumption)) (by (first | with_reducible assumption | with_reducible_and_instances assumption | assumption)) (by (first | with_reducible assumption | with_reducible_and_instances assumption | assumption)) (by (first | with_reducible assumption | with_reducible_and_instances assumption | assumption)) (gD.put (nm_ok _) ok) (by have := putD_len (.str (nm kk)) dv D; omega) rfl rfl rfl rfl))
end
end Mine

namespace Mine
open PyProof.V PySem.Spec
def text? : Value → Option Str
  | .str x _ => some x
  | _ => none
theorem text?_some {v : Value} {x : Str} (h : text? v = some x) : ∃ t, v = .str x t := by
  cases v <;> simp only [text?] at h <;> cases h
  exact ⟨_, rfl⟩
theorem putD_new {ks : List Str} {k : Str} {φ : Str → PyData} {dv : PyData} (h : k ∉ ks) : putD (.str k) dv (ks.map fun x => (.str x, φ x)) = (ks.map fun x => ((.str x : PyData), φ x)) ++ [(.str k, dv)] := by
  unfold putD
  rw [if_neg]
  intro hc
  obtain ⟨p, hp, hs⟩ := List.any_eq_true.mp hc
  obtain ⟨x, hx, rfl⟩ := List.mem_map.mp hp
  rw [PyProof.V.same_str] at hs
  exact h ((of_decide_eq_true hs) ▸ hx)
theorem stored_texts {D : List (PyData × PyData)} {l : List Value} {kvs : List (Str × Value)}
    (S : StoredAll (fun v (k : Str) => ∃ t, v = .str k t) (fun v y => ∃ u t dv, v = .str u t ∧ lookup (.str u) D = some dv ∧ Flat y dv) l kvs) :
    ∀ xs : List Str, l.map text? = xs.map some → xs.Nodup → FlatPairs PyData.str kvs (xs.map fun x => (.str x, (lookup (.str x) D).getD .none)) := by
  induction S with
  | nil =>
    intro xs hx _
    have : xs = [] := by simpa using hx.symm
    subst this
    exact .nil
  | @snoc l kvs v k y _ hk hy ih =>
    intro xs hx hn
    rw [List.map_append] at hx
    obtain ⟨a, b, rfl, ha, hb⟩ := List.map_eq_append_iff.mp hx.symm
    obtain ⟨t, rfl⟩ := hk
    obtain ⟨u, t', dv, hu, hl, hf⟩ := hy
    cases hu
    have hb' : b = [k] := by
      cases b with
      | nil => simp at hb
      | cons x r =>
        simp only [List.map_cons, List.map_nil, text?, List.cons.injEq, Option.some.injEq, List.map_eq_nil_iff] at hb
        rw [hb.1, hb.2]
    subst hb'
    obtain ⟨hna, _, hd⟩ := List.nodup_append.mp hn
    have hk' : k ∉ a := fun h => hd k h k (.head _) rfl
    have := PyProof.V.FlatPairs.stored PyProof.V.same_str (ih a ha.symm hna) k hf
    rw [putD_new hk'] at this
    simpa [hl] using this
theorem filter_texts {name : Str} : ∀ {vs : List Value} {ks : List Str}, vs.map text? = ks.map some →
    (vs.filter fun v => match text? v with | some u => decide (u ≠ name) | none => false).map text? = (ks.filter fun u => decide (u ≠ name)).map some
  | [], [], _ => rfl
  | [], _ :: _, h => by simp at h
  | _ :: _, [], h => by simp at h
  | v :: vs, k :: ks, h => by
    simp only [List.map_cons, List.cons.injEq] at h
    have ih := filter_texts (name := name) h.2
    rw [List.filter_cons, List.filter_cons]
    rw [h.1]
    by_cases hk : k = name
    · simp only [hk, ne_eq, not_true_eq_false, decide_false, Bool.false_eq_true, if_false]; exact ih
    · simp only [hk, ne_eq, not_false_eq_true, decide_true, if_true, List.map_cons, h.1]; rw [← ih]
theorem keys_phi {kvs : List (Str × Value)} {D : List (PyData × PyData)} (hf : FlatPairs PyData.str kvs D) (hn : (kvs.map (·.1)).Nodup) : D = (kvs.map (·.1)).map fun x => ((.str x : PyData), (lookup (.str x) D).getD .none) := by
  refine List.ext_getElem? fun i => ?_
  cases hi : kvs[i]? with
  | none =>
    have h1 : kvs.length ≤ i := List.getElem?_eq_none_iff.mp hi
    rw [List.getElem?_eq_none (by rw [hf.length]; exact h1), List.getElem?_eq_none (by simpa using h1)]
  | some p =>
    obtain ⟨dv, e1, e2, _⟩ := hf.lookup_at PyProof.V.same_str hn (i := i) (k := p.1) (v := p.2) hi
    rw [e1, List.getElem?_map, List.getElem?_map, hi]
    simp [e2]
theorem delD_phi {ks : List Str} {φ : Str → PyData} {name : Str} : delD (.str name) (ks.map fun x => ((.str x : PyData), φ x)) = (ks.filter fun u => decide (u ≠ name)).map fun x => ((.str x : PyData), φ x) := by
  unfold delD
  rw [List.filter_map]
  refine congrArg _ (List.filter_congr fun x _ => ?_)
  simp [PyProof.V.same_str]
section
variable {prog : Program} {w : World} {A : Around} {E : Value → Shared → Prop} {s : Shared} {h₀ : Heap} {L d : Addr} {o : Obj} {m : Str → Option Value} {news : List (Addr × Obj)} {env : Env} {D : List (PyData × PyData)}
theorem newDict_same {P : Value → Shared → Prop} {M : Model} (h : wpAny M A newDict P E s) : wpAny M A newDict (fun a s' => a = .ref s.heap.objs.size ∧ P a s') E s := by
  intro Γ p hΓ
  have h1 := h Γ p hΓ
  have e : (newDict : Sem Value) = Sem.alloc { cls := .type "dict", dict := none, data := .dict #[] } (fun a => .pure (.ref a)) := by
    show newObj (.type "dict") (.dict #[]) = _
    unfold newObj
    dsimp only
    rw [if_neg (by rw [sizeLine_eq]; decide)]
    rfl
  rw [e] at h1 ⊢
  simp only [Sem.wp_alloc, Sem.wp_pure] at h1 ⊢
  exact ⟨trivial, h1⟩
theorem DictComp_D {kx vx iter : Expr} {x : Str} {px : Pos} {ifs : List Expr} {scope : Scope} {cl : List (Str × Addr)} {pos : Pos} {Q : Value → Shared → Prop} {name : Str}
    (hh : A.handled = none) (hclos : closureFor scope env = pure cl) (hcell : ∀ y ∈ scope.names, y.2 ≠ .cell) (hkind : scope.kind = .function)
    (hnames : ∀ y ∈ scope.names, y.2 = .local → scope.names.lookup y.1 = some .local) (hx : scope.names.lookup x = some .local)
    (F : Fr h₀ L s.heap m) (N : News h₀ L s.heap news) (hbig : h₀.NoLimit) (hp : (d, o) ∈ news) (y : DataOf prog w o D) (lo : (d == sysModules) = false) (hsz : D.length ≤ 1000)
    (hiter : ∀ Q' : Value → Shared → Prop, Q' (.ref d) s → wpAny (model prog w) A (eval iter env) Q' E s)
    (tests : ∀ C u t s₃ m₃ E', (∃ dv, lookup (.str u) D = some dv) → s₃.heap.Ns C m₃ → m₃ x = some (.str u t) → (∀ b o, s.heap.get? b = some o → s₃.heap.get? b = some o) →
      wpAny (model prog w) A (forIn ifs true fun c r => if r = true then do let ok ← isTrue c (compEnvC scope cl C env) (eval c (compEnvC scope cl C env)); pure (ForInStep.yield ok) else pure (ForInStep.yield r))
        (fun ok s₄ => ok = decide (u ≠ name) ∧ Keeps s₃ s₄) E' s₃)
    (key : ∀ C u t s₃ m₃ E', s₃.heap.Ns C m₃ → m₃ x = some (.str u t) → wpAny (model prog w) A (eval kx (compEnvC scope cl C env)) (fun key s₄ => key = .str u t ∧ Keeps s₃ s₄) E' s₃)
    (val : ∀ C u t dv s₃ m₃ E', lookup (.str u) D = some dv → s₃.heap.Ns C m₃ → m₃ x = some (.str u t) → (∀ b o, s.heap.get? b = some o → s₃.heap.get? b = some o) →
      wpAny (model prog w) A (eval vx (compEnvC scope cl C env)) (fun y s₄ => Flat y dv ∧ Keeps s₃ s₄) E' s₃)
    (hret : ∀ qN oN h' tk, Fr h₀ L h' m → News h₀ L h' ((qN, oN) :: news) → (∀ q ∈ news, q.1 < qN) → (qN == sysModules) = false → DataOf prog w oN (delD (.str name) D) → Q (.ref qN) { s with heap := h', toks := tk })
    (hs : ∀ x, foldedSetIterable iter env x = pure x) :
    wpAny (model prog w) A (eval (.DictComp kx vx [⟨.Name x px, iter, ifs, 0⟩] scope pos) env) Q E s := by
  obtain ⟨kvs, hd, hf⟩ := y
  have hnd : (kvs.map (·.1)).Nodup := let ⟨_, _, _, _, _, _, hn⟩ := hd; hn
  obtain ⟨ep, hat⟩ := (kda_dict N hp hd).dictAt
  have hfr : s.heap.get? s.heap.objs.size = none := by
    cases e : s.heap.get? s.heap.objs.size with
    | none => rfl
    | some o' => exact absurd (Heap.lt_size e) (Nat.lt_irrefl _)
  have hne : d ≠ s.heap.objs.size := Nat.ne_of_lt (Heap.lt_size (N _ hp).1)
  have inD : ∀ {u : Str} {z : Value} {i : Nat}, kvs[i]? = some (u, z) → ∃ dv, lookup (.str u) D = some dv := fun hi => by
    obtain ⟨dv, _, e2, _⟩ := hf.lookup_at PyProof.V.same_str hnd hi
    exact ⟨dv, e2⟩
  rw [arm_eval_DictComp]
  refine wpAny_comprehension_free (use := none) rfl hs hclos hkind hnames (hiter _ ?_)
  refine wpAny_pyIter_dict lo hat ?_
  have up : ∀ b o, s.heap.get? b = some o → (s.heap.push { cls := .type "dict_keyiterator", data := .fields #[.ref d, .int 0 0, .int kvs.length 0, .int ep 0] }).get? b = some o := fun b o e => Heap.get?_push_of_some _ e
  have hsz2 : (s.heap.push { cls := .type "dict_keyiterator", data := .fields #[.ref d, .int 0 0, .int kvs.length 0, .int ep 0] }).objs.size = s.heap.objs.size + 1 := by rw [Heap.size_push]
  refine wpAny_mono (newDict_same (comp_block_walkCD (knd := PySem.strKind prog w) (RR := fun acc C r s' => acc = .ref (s.heap.objs.size + 1) → compPost (model prog w) A E none Q acc C r s') (Walks.dictKeys hh _ d hne kvs ep) ?_
    (fun v => match text? v with | some u => decide (u ≠ name) | none => false) (fun v k => ∃ t, v = .str k t) (fun v y => ∃ u t dv, v = .str u t ∧ lookup (.str u) D = some dv ∧ Flat y dv)
    hcell hkind hx ⟨⟨_, Heap.get?_push_size _ rfl, rfl, rfl⟩, hat.push _⟩ ?_ ⟨?_, ?_, ?_⟩ ?_)) (fun acc s₃ h => wpAny_mono h.2 (fun cenv s₄ h' => codeAny_mono h' fun r s' h'' => h'' (by rw [h.1]; exact congrArg Value.ref hsz2)) fun _ _ e => e) fun _ _ e => e
  · rw [sizeLine_eq, ← hf.length]; omega
  · intro b hb
    show b < (s.heap.push _).objs.size
    rw [Heap.size_push]
    rcases List.mem_cons.mp hb with rfl | hb
    · exact Nat.lt_succ_self _
    · rw [List.mem_singleton.mp hb]; exact Nat.lt_succ_of_lt (Heap.lt_size (N _ hp).1)
  · intro C i v s₃ m₃ E' hv hn hm hk
    obtain ⟨u, z, hi, hu⟩ := hv
    obtain ⟨t, rfl⟩ := Value.isStrOf_shape hu
    exact tests C u t s₃ m₃ E' (inD hi) hn hm fun b o e => hk b o (fun hb => Nat.lt_irrefl _ (List.mem_singleton.mp hb ▸ Heap.lt_size e)) (up b o e)
  · intro C i v s₃ m₃ E' hv _ hn hm hk
    obtain ⟨u, z, hi, hu⟩ := hv
    obtain ⟨t, rfl⟩ := Value.isStrOf_shape hu
    refine wpAny_mono (key C u t s₃ m₃ E' hn hm) (fun y s₄ h => ?_) fun _ _ e => e
    obtain ⟨rfl, h⟩ := h
    exact ⟨⟨u, hu, t, rfl⟩, h⟩
  · intro C i v s₃ m₃ E' hv _ hn hm hk
    obtain ⟨u, z, hi, hu⟩ := hv
    obtain ⟨t, rfl⟩ := Value.isStrOf_shape hu
    obtain ⟨dv, hl⟩ := inD hi
    refine wpAny_mono (val C u t dv s₃ m₃ E' hl hn hm fun b o e => hk b o (fun hb => Nat.lt_irrefl _ (List.mem_singleton.mp hb ▸ Heap.lt_size e)) (up b o e)) (fun y s₄ h => ?_) fun _ _ e => e
    exact ⟨⟨u, t, dv, rfl, hl, h.1⟩, h.2⟩
  · intro q C h' tk m' kvs' vs hq hC hqC hn hdo hlen hP hS hk eq
    cases eq
    have ge : s.heap.objs.size < s.heap.objs.size + 1 := Nat.lt_succ_self _
    refine ⟨m', hn, fun h'' hs'' => ?_⟩
    have hk' : ∀ b o, s.heap.get? b = some o → h''.get? b = some o := fun b o e => hs''.extBut b o (by rintro rfl; rw [up _ _ e] at hC; cases hC) (hk b o (fun hb => Nat.lt_irrefl _ (List.mem_singleton.mp hb ▸ Heap.lt_size e)) (up b o e))
    obtain ⟨oN, hoN, hdN⟩ := Heap.dictOf_iff.mp (hdo.extBut hs''.extBut hqC)
    have hvs : vs.map text? = (kvs.map (·.1)).map some := by
      refine List.ext_getElem? fun i => ?_
      rw [List.getElem?_map, List.getElem?_map, List.getElem?_map]
      cases hi : kvs[i]? with
      | none =>
        have h1 : kvs.length ≤ i := List.getElem?_eq_none_iff.mp hi
        rw [List.getElem?_eq_none (by rw [hlen]; exact h1)]; rfl
      | some p =>
        have h1 : i < vs.length := by rw [hlen]; exact (List.getElem?_eq_some_iff.mp hi).1
        obtain ⟨u, z, hz, hu⟩ := hP i vs[i] (List.getElem?_eq_getElem h1)
        rw [hi] at hz
        cases hz
        obtain ⟨t, ht⟩ := Value.isStrOf_shape hu
        rw [List.getElem?_eq_getElem h1, ht]; rfl
    have R := stored_texts hS _ (filter_texts (name := name) hvs) (hnd.filter _)
    rw [← delD_phi, ← keys_phi hf hnd] at R
    have lt : ∀ p ∈ news, p.1 < s.heap.objs.size + 1 := fun p hp' => Nat.lt_trans (Heap.lt_size (N p hp').1) ge
    have hsys : sysModules < s.heap.objs.size + 1 := Nat.lt_trans (Nat.lt_of_lt_of_le (modules_low hbig) F.above) (Nat.lt_trans F.ns.lt ge)
    refine hret (s.heap.objs.size + 1) oN h'' tk (F.keeps hk') (fun p hp' => ?_) lt (by simpa using Nat.ne_of_gt hsys) ⟨kvs', hdN, R⟩
    rcases List.mem_cons.mp hp' with rfl | hp'
    · refine ⟨hoN, Nat.ne_of_gt (Nat.lt_trans F.ns.lt ge), ?_⟩
      cases e : h₀.get? (s.heap.objs.size + 1) with
      | none => rfl
      | some o' => exact absurd (Nat.lt_trans (Nat.lt_of_lt_of_le (Heap.lt_size e) F.above) (Nat.lt_trans F.ns.lt ge)) (Nat.lt_irrefl _)
    · exact ⟨hk' _ _ (N p hp').1, (N p hp').2⟩
end
end Mine

namespace Mine
open PyProof.V PySem.Spec
theorem wp_tests {M : Model} {A : Around} {E : Value → Shared → Prop} {s : Shared} {c : Expr} {env : Env} {Q : Bool → Shared → Prop} (h : wpAny M A (isTrue c env (eval c env)) Q E s) :
    wpAny M A (forIn [c] true fun c r => if r = true then do let ok ← isTrue c env (eval c env); pure (ForInStep.yield ok) else pure (ForInStep.yield r)) Q E s := by
  rw [List.forIn_cons]
  refine wpAny_bind ?_
  rw [if_pos rfl]
  refine wpAny_bind (wpAny_mono h (fun b s' hq => wpAny_pure ?_) fun _ _ e => e)
  dsimp only
  rw [List.forIn_nil]
  exact wpAny_pure hq
section
variable {prog : Program} {w : World} {A : Around} {s : Shared} {h₀ : Heap} {L d : Addr} {o o1 o2 : Obj} {m : Str → Option Value} {news : List (Addr × Obj)} {env : Env} {D : List (PyData × PyData)}
theorem filter_tests {scope : Scope} {cl : List (Str × Addr)} {C c2 : Addr} {u name : Str} {t t' : Tok} {s₃ : Shared} {m₃ : Str → Option Value} {E' : Value → Shared → Prop} {p1 p2 p3 : Pos} {x y : Str}
    (hn : s₃.heap.Ns C m₃) (hm : m₃ x = some (.str u t)) (hc : cl.lookup y = some c2) (hv : s₃.heap.IsCell c2 (some (.str name t')))
    (hk : (compEnvC scope cl C env).scope.kind = .function) (hl : (compEnvC scope cl C env).kindOf x = some .local) (hf : (compEnvC scope cl C env).kindOf y = some .cell)
    (hd : (x == ("__debug__" : Str)) = false) (hd2 : (y == ("__debug__" : Str)) = false) :
    wpAny (model prog w) A (forIn [Expr.Compare (.Name x p1) [.NotEq] [.Name y p2] p3] true fun c r => if r = true then do let ok ← isTrue c (compEnvC scope cl C env) (eval c (compEnvC scope cl C env)); pure (ForInStep.yield ok) else pure (ForInStep.yield r))
      (fun ok s₄ => ok = decide (u ≠ name) ∧ Keeps s₃ s₄) E' s₃ := by
  refine wp_tests (wpAny_isTrue_Compare1 ?_)
  refine ldVarK hn hm ?_ hk hl hd
  refine ldCellK hc hv ?_ hk hf hd2
  refine PyProof.Rows.ne_str (wpAny_truthy_bool ?_)
  refine ⟨?_, _, _, rfl, fun _ _ e => e⟩
  by_cases h : u = name <;> simp [h]
theorem filter_val {scope : Scope} {cl : List (Str × Addr)} {C c1 : Addr} {u : Str} {t : Tok} {dv : PyData} {s₃ : Shared} {m₃ : Str → Option Value} {E' : Value → Shared → Prop} {p1 p2 p3 : Pos} {x y : Str}
    (hn : s₃.heap.Ns C m₃) (hm : m₃ x = some (.str u t)) (hc : cl.lookup y = some c1) (hv : s₃.heap.IsCell c1 (some (.ref d))) (T : StrTab prog w s₃.heap d D) (hlk : lookup (.str u) D = some dv)
    (hk : (compEnvC scope cl C env).scope.kind = .function) (hl : (compEnvC scope cl C env).kindOf x = some .local) (hf : (compEnvC scope cl C env).kindOf y = some .cell)
    (hd : (x == ("__debug__" : Str)) = false) (hd2 : (y == ("__debug__" : Str)) = false) :
    wpAny (model prog w) A (eval (.Subscript (.Name y p1) (.Name x p2) p3) (compEnvC scope cl C env)) (fun v s₄ => Flat v dv ∧ Keeps s₃ s₄) E' s₃ := by
  refine Subscript_ (ldCellK hc hv ?_ hk hf hd2)
  refine ldVarK hn hm ?_ hk hl hd
  exact item_strTab T hlk fun v fv => ⟨fv, _, _, rfl, fun _ _ e => e⟩
theorem filter_key {scope : Scope} {cl : List (Str × Addr)} {C : Addr} {u : Str} {t : Tok} {s₃ : Shared} {m₃ : Str → Option Value} {E' : Value → Shared → Prop} {p1 : Pos} {x : Str}
    (hn : s₃.heap.Ns C m₃) (hm : m₃ x = some (.str u t)) (hk : (compEnvC scope cl C env).scope.kind = .function) (hl : (compEnvC scope cl C env).kindOf x = some .local) (hd : (x == ("__debug__" : Str)) = false) :
    wpAny (model prog w) A (eval (.Name x p1) (compEnvC scope cl C env)) (fun k s₄ => k = .str u t ∧ Keeps s₃ s₄) E' s₃ := ldVarK hn hm ⟨rfl, _, _, rfl, fun _ _ e => e⟩ hk hl hd
end
theorem delD_none {k : PyData} : ∀ {D : List (PyData × PyData)}, lookup k D = none → delD k D = D
  | [], _ => rfl
  | (a, b) :: D, h => by
    rw [show lookup k ((a, b) :: D) = if same a k then some b else lookup k D from rfl] at h
    split at h
    · cases h
    · rename_i hs
      have ih := delD_none h
      unfold delD at ih ⊢
      rw [List.filter_cons, if_pos (by simpa using hs), ih]
end Mine

namespace Mine
open PyProof.V PySem.Spec
section
variable {w : World} {h₀ : Heap} {L fa : Addr} {arg : Value} {m : Str → Option Value} {s : Shared} {mg mb : Str → Option Value} {mean : ExcName → Option Value} {Q : Flow → Shared → Prop} {E : Value → Shared → Prop}
  {lP q0 q1 pA dxA dA qA CA : Addr} {oA oqA w1 w2 : Obj} {cP wj kk : Nat} {R : List (Addr × Obj)} {D : List (PyData × PyData)} {vv : Int} {val : Value} {dv : PyData} {t1 t2 t3 t4 t5 : Tok}
set_option maxHeartbeats 4000000 in
theorem t_take (B : Below callerA h₀ [] h₀) (F : Fr h₀ L s.heap m) (X : (Mine.hd.heap_39 w.params).In h₀) (T : Top Mine.hd.view_39 (looseW Mine.hd.view_39 [Str.ofString "ReadOnlyContainer", Str.ofString "Properties", Str.ofString "OrderedProperties", Str.ofString "ReadOnlyProperties"]) mean mg mb h₀) (N : News h₀ L s.heap ((dA, oA) :: (qA, oqA) :: (lP, listOf #[.ref q0, .ref q1] cP) :: R)) (hC' : CA = 195 ∨ CA = 217) (hp : (pA, slotO CA dxA dA) ∈ R) (hx : (dxA, dictOf [] 0) ∈ R) (hw1 : (L + 1, w1) ∈ R) (hw2 : (L + 1 + 1, w2) ∈ R) (yA : DataOf PySem.Challenge.rw_ep5036_01.row.prog w oA D) (yq : DataOf PySem.Challenge.rw_ep5036_01.row.prog w oqA D) (gD : Good D) (nD : D.length ≤ 100) (sA : (dA == sysModules) = false) (sq : (qA == sysModules) = false) (e1 : ∀ q ∈ (qA, oqA) :: (lP, listOf #[.ref q0, .ref q1] cP) :: R, q.1 ≠ dA) (e2 : ∀ q ∈ (lP, listOf #[.ref q0, .ref q1] cP) :: R, q.1 ≠ qA) (e3 : ∀ q ∈ R, q.1 ≠ lP) (kk7 : kk < 7) (fk : m "k" = some (.int (kk : Int) t1)) (fw : m "which" = some (.int (wj : Int) t2)) (fv : m "v" = some (.int vv t3)) (fp : m "p" = some (.ref pA)) (fval : m "value" = some val) (fpl : m "plains" = some (.ref lP)) (fl : Flat val dv) (ok : Ok dv) (c1 : w1.data = .cell (some (.ref qA))) (c2 : w2.data = .cell (some (.str (nm kk) t4))) (fkd : m "kind" = some (.int 4 t5)) (hwj : wj = 0 ∨ wj = 1) : wpAny (model PySem.Challenge.rw_ep5036_01.row.prog w) (callerA.deeper (envOfC (Str.ofString "law") lawSc L fa arg)) (execs ((lawBody.drop 3).take 1) (envOfC (Str.ofString "law") lawSc L fa arg)) (Cut (KdI w h₀ L dA qA lP q0 q1 cP wj oqA D R m s) Q) E s := by
  have Tb : Tbl w := tbl w ⟨_, X⟩ rfl
  have Tw : TblW w := tblW w ⟨_, X⟩ rfl
  have O1 : Own pA := rfl
  have hIP : IsP CA := isP_of hC'
  have ne1 : qA ≠ dA := e1 _ (.head _)
  have ne2 : dA ≠ qA := ne1.symm
  have nD' : D.length ≤ 1000 := by omega
  generalize hsc : lawSc = sc
  have hsc' := scope_lit hsc (by with_unfolding_all rfl)
  subst hsc'
  clear hsc
  revert X
  k_fill
  intro X
  refine execs_lit1 (by with_unfolding_all rfl) ?_
  cases hl : lookup (.str (nm kk)) D with
  | none =>
    (repeat' ((fail_if_success (first | with_reducible refine Mine.id_DictComp ?_ | with_reducible refine Mine.id_compSrc ?_ | with_reducible refine Mine.id_srcT ?_ | with_reducible refine Mine.id_eltPost ?_)); (first | (k_unfold; (try dsimp only)) | walk1 | (dsimp only; walk1) | (leave1; try dsimp only) | fail "no step")))
    k_dflt (refine' DictComp_D (name := nm kk) rfl (by with_unfolding_all rfl) (by decide) (by rfl) (by decide) (by rfl) (by (first | with_reducible assumption | with_reducible_and_instances assumption | assumption)) (by (first | with_reducible assumption | with_reducible_and_instances assumption | assumption)) T.nolimit (by (first | lsm_bools | kat_tups) : (qA, oqA) ∈ _) yq sq nD' ?hiter ?tests ?key ?val ?hret (by intro _; with_unfolding_all rfl))
    (case hiter => intro Q' h; exact nameX_C (by (first | with_reducible assumption | with_reducible_and_instances assumption | assumption)) rfl (by (first | lsm_bools | kat_tups) : (L + 1, w1) ∈ _) c1 h)
    (case tests => intro C u t s₃ m₃ E' hu hn hm hk; exact filter_tests hn hm rfl ⟨w2, hk _ _ (News.get (by (first | with_reducible assumption | with_reducible_and_instances assumption | assumption)) (by (first | lsm_bools | kat_tups))), c2⟩ rfl rfl rfl (by decide) (by decide))
    (case key => intro C u t s₃ m₃ E' hn hm; exact filter_key hn hm rfl rfl (by decide))
    (case val => intro C u t dv s₃ m₃ E' hlk hn hm hk; exact filter_val hn hm rfl ⟨w1, hk _ _ (News.get (by (first | with_reducible assumption | with_reducible_and_instances assumption | assumption)) (by (first | lsm_bools | kat_tups))), c1⟩ ((yq.tab sq (by (first | with_reducible assumption | with_reducible_and_instances assumption | assumption)) (by (first | lsm_bools | kat_tups))).keep hk) hlk rfl rfl rfl (by decide) (by decide))
    intro qN oN h' tk F' N' l1 lo y'
    dsimp only
    (repeat' ((fail_if_success (first | with_reducible refine Mine.id_compSrc ?_ | with_reducible refine Mine.id_srcT ?_ | with_reducible refine Mine.id_eltPost ?_)); (first | (k_unfold; (try dsimp only)) | walk1 | (dsimp only; walk1) | (leave1; try dsimp only) | fail "no step")))
    refine set_plain (by (first | with_reducible assumption | with_reducible_and_instances assumption | assumption)) (by (first | with_reducible assumption | with_reducible_and_instances assumption | assumption)) (by kcj_all) l1 (e1 _ (.tail _ (.head _))).symm (e2 _ (.head _)).symm e3 hwj fun h' F' N' l' => ?_
    (repeat' ((fail_if_success (first | with_reducible refine Mine.id_compSrc ?_ | with_reducible refine Mine.id_srcT ?_ | with_reducible refine Mine.id_eltPost ?_)); (first | (k_unfold; (try dsimp only)) | walk1 | (dsimp only; walk1) | (leave1; try dsimp only) | fail "no step")))
    exact Cut.next (KdI.fresh F' N' l' lo (by rw [delD_none hl]; exact yA) y' gD.del (Nat.le_trans (delD_len _ _) (Nat.le_add_right _ _)) rfl rfl rfl rfl)
  | some d0 =>
    have hs : (lookup (.str (nm kk)) D).isSome = true := by rw [hl]; rfl
    (repeat' ((fail_if_success (first | with_reducible refine Mine.id_DictComp ?_ | with_reducible refine Mine.id_compSrc ?_ | with_reducible refine Mine.id_srcT ?_ | with_reducible refine Mine.id_eltPost ?_)); (first | (k_unfold; (try dsimp only)) | walk1 | (dsimp only; walk1) | (leave1; try dsimp only) | fail "no step")))
    k_dflt (refine' DictComp_D (name := nm kk) rfl (by with_unfolding_all rfl) (by decide) (by rfl) (by decide) (by rfl) (by (first | with_reducible assumption | with_reducible_and_instances assumption | assumption)) (by (first | with_reducible assumption | with_reducible_and_instances assumption | assumption)) T.nolimit (by (first | lsm_bools | kat_tups) : (qA, oqA) ∈ _) yq sq nD' ?hiter2 ?tests2 ?key2 ?val2 ?hret2 (by intro _; with_unfolding_all rfl))
    (case hiter2 => intro Q' h; exact nameX_C (by (first | with_reducible assumption | with_reducible_and_instances assumption | assumption)) rfl (by (first | lsm_bools | kat_tups) : (L + 1, w1) ∈ _) c1 h)
    (case tests2 => intro C u t s₃ m₃ E' hu hn hm hk; exact filter_tests hn hm rfl ⟨w2, hk _ _ (News.get (by (first | with_reducible assumption | with_reducible_and_instances assumption | assumption)) (by (first | lsm_bools | kat_tups))), c2⟩ rfl rfl rfl (by decide) (by decide))
    (case key2 => intro C u t s₃ m₃ E' hn hm; exact filter_key hn hm rfl rfl (by decide))
    (case val2 => intro C u t dv s₃ m₃ E' hlk hn hm hk; exact filter_val hn hm rfl ⟨w1, hk _ _ (News.get (by (first | with_reducible assumption | with_reducible_and_instances assumption | assumption)) (by (first | lsm_bools | kat_tups))), c1⟩ ((yq.tab sq (by (first | with_reducible assumption | with_reducible_and_instances assumption | assumption)) (by (first | lsm_bools | kat_tups))).keep hk) hlk rfl rfl rfl (by decide) (by decide))
    intro qN oN h' tk F' N' l1 lo y'
    dsimp only
    (repeat' ((fail_if_success (first | with_reducible refine Mine.id_compSrc ?_ | with_reducible refine Mine.id_srcT ?_ | with_reducible refine Mine.id_eltPost ?_)); (first | (k_unfold; (try dsimp only)) | walk1 | (dsimp only; walk1) | (leave1; try dsimp only) | fail "no step")))
    refine set_plain (by (first | with_reducible assumption | with_reducible_and_instances assumption | assumption)) (by (first | with_reducible assumption | with_reducible_and_instances assumption | assumption)) (by kcj_all) l1 (e1 _ (.tail _ (.head _))).symm (e2 _ (.head _)).symm e3 hwj fun h' F' N' l' => ?_
    (repeat' ((fail_if_success (first | with_reducible refine Mine.id_compSrc ?_ | with_reducible refine Mine.id_srcT ?_ | with_reducible refine Mine.id_eltPost ?_)); (first | (k_unfold; (try dsimp only)) | walk1 | (dsimp only; walk1) | (leave1; try dsimp only) | fail "no step")))
    exact Cut.next (KdI.fresh F' N' l' lo (by (first | with_reducible assumption | with_reducible_and_instances assumption | assumption)) y' gD.del (Nat.le_trans (delD_len _ _) (Nat.le_add_right _ _)) rfl rfl rfl rfl)
end
end Mine

namespace Mine
open PyProof.V PySem.Spec
section
variable {prog : Program} {w : World} {A : Around} {E : Value → Shared → Prop} {s : Shared} {h₀ : Heap} {L : Addr} {m : Str → Option Value} {news : List (Addr × Obj)} {env : Env}
theorem Dict_two {k1 k2 z1 z2 : Expr} {pos : Pos} {Q : Value → Shared → Prop} {x1 x2 : Str} {t1 t2 : Tok} {v1 v2 : Value} {d1 d2 : PyData} (F : Fr h₀ L s.heap m) (N : News h₀ L s.heap news) (hbig : h₀.NoLimit) (f1 : Flat v1 d1) (f2 : Flat v2 d2)
    (e1 : ∀ (s' : Shared) (Q' : Value → Shared → Prop), Fr h₀ L s'.heap m → News h₀ L s'.heap news → Q' (.str x1 t1) s' → wpAny (model prog w) A (eval k1 env) Q' E s')
    (e2 : ∀ (s' : Shared) (Q' : Value → Shared → Prop), Fr h₀ L s'.heap m → News h₀ L s'.heap news → Q' (.str x2 t2) s' → wpAny (model prog w) A (eval k2 env) Q' E s')
    (e3 : ∀ (s' : Shared) (Q' : Value → Shared → Prop), Fr h₀ L s'.heap m → News h₀ L s'.heap news → Q' v1 s' → wpAny (model prog w) A (eval z1 env) Q' E s')
    (e4 : ∀ (s' : Shared) (Q' : Value → Shared → Prop), Fr h₀ L s'.heap m → News h₀ L s'.heap news → Q' v2 s' → wpAny (model prog w) A (eval z2 env) Q' E s')
    (h : ∀ q o h' tk, Fr h₀ L h' m → News h₀ L h' ((q, o) :: news) → (∀ p ∈ news, p.1 < q) → (q == sysModules) = false → DataOf prog w o (putD (.str x2) d2 (putD (.str x1) d1 [])) → Q (.ref q) { s with heap := h', toks := tk }) :
    wpAny (model prog w) A (eval (.Dict [some k1, some k2] [z1, z2] pos) env) Q E s := by
  refine Dict_made (knd := PySem.strKind prog w) F rfl rfl (List.cons_ne_nil _ _) (Nat.le_of_ble_eq_true rfl) fun Fp => ?_
  have Np : News h₀ L (s.heap.push { cls := .type "dict", data := .dict #[] }) news := N.grown fun b o e => Heap.get?_push_of_some _ e
  refine pairTrees_cons_walk (e1 _ _ Fp Np (e3 _ _ Fp Np (pairTrees_cons_walk (e2 _ _ Fp Np (e4 _ _ Fp Np (pairTrees_nil_walk ?_))))))
  refine ⟨[(x1, v1), (x2, v2)], ⟨strKind_is _ _ _ _, rfl, strKind_is _ _ _ _, rfl, trivial⟩, Heap.DictOf.new s.heap, fun h' hd hs => ?_⟩
  obtain ⟨o, ho, hdo⟩ := Heap.dictOf_iff.mp hd
  exact h _ o h' _ (F.filled hs) (N.filled F hs ho) (fun p hp => Heap.lt_size (N p hp).1) (F.notModules (modules_low hbig))
    ⟨_, hdo, PyProof.V.FlatPairs.stored PyProof.V.same_str (PyProof.V.FlatPairs.stored PyProof.V.same_str .nil x1 f1) x2 f2⟩
end
theorem merge_two {D : List (PyData × PyData)} {x1 x2 : Str} {d1 d2 : PyData} (h : x1 ≠ x2) : ktMergeD D (putD (.str x2) d2 (putD (.str x1) d1 [])) = putD (.str x2) d2 (putD (.str x1) d1 D) := by
  have e1 : putD (.str x1) d1 [] = [(.str x1, d1)] := rfl
  have e2 : putD (.str x2) d2 [((.str x1 : PyData), d1)] = [(.str x1, d1), (.str x2, d2)] := by
    unfold putD
    rw [if_neg (by simp [PyProof.V.same_str, h])]
    rfl
  rw [e1, e2]
  rfl
theorem nm_next {k k2 : Nat} (h : k < 7) (h2 : ((k : Int) + 1).fmod 7 = (k2 : Int)) : nm k ≠ nm k2 := by
  have : k = 0 ∨ k = 1 ∨ k = 2 ∨ k = 3 ∨ k = 4 ∨ k = 5 ∨ k = 6 := by omega
  rcases this with rfl | rfl | rfl | rfl | rfl | rfl | rfl
  · have e : k2 = 1 := by have : (1 : Int) = k2 := h2; omega
    rw [e]; decide
  · have e : k2 = 2 := by have : (2 : Int) = k2 := h2; omega
    rw [e]; decide
  · have e : k2 = 3 := by have : (3 : Int) = k2 := h2; omega
    rw [e]; decide
  · have e : k2 = 4 := by have : (4 : Int) = k2 := h2; omega
    rw [e]; decide
  · have e : k2 = 5 := by have : (5 : Int) = k2 := h2; omega
    rw [e]; decide
  · have e : k2 = 6 := by have : (6 : Int) = k2 := h2; omega
    rw [e]; decide
  · have e : k2 = 0 := by have : (0 : Int) = k2 := h2; omega
    rw [e]; decide
end Mine

namespace Mine
open PyProof.V PySem.Spec
section
variable {w : World} {h₀ : Heap} {L fa : Addr} {arg : Value} {m : Str → Option Value} {s : Shared} {mg mb : Str → Option Value} {mean : ExcName → Option Value} {Q : Flow → Shared → Prop} {E : Value → Shared → Prop}
  {lP q0 q1 pA dxA dA qA CA : Addr} {oA oqA w1 w2 : Obj} {cP wj kk : Nat} {R : List (Addr × Obj)} {D : List (PyData × PyData)} {vv : Int} {val : Value} {dv : PyData} {t1 t2 t3 t4 t5 : Tok}
set_option maxHeartbeats 4000000 in
theorem t_two (B : Below callerA h₀ [] h₀) (F : Fr h₀ L s.heap m) (X : (Mine.hd.heap_39 w.params).In h₀) (T : Top Mine.hd.view_39 (looseW Mine.hd.view_39 [Str.ofString "ReadOnlyContainer", Str.ofString "Properties", Str.ofString "OrderedProperties", Str.ofString "ReadOnlyProperties"]) mean mg mb h₀) (N : News h₀ L s.heap ((dA, oA) :: (qA, oqA) :: (lP, listOf #[.ref q0, .ref q1] cP) :: R)) (hC' : CA = 195 ∨ CA = 217) (hp : (pA, slotO CA dxA dA) ∈ R) (hx : (dxA, dictOf [] 0) ∈ R) (hw1 : (L + 1, w1) ∈ R) (hw2 : (L + 1 + 1, w2) ∈ R) (yA : DataOf PySem.Challenge.rw_ep5036_01.row.prog w oA D) (yq : DataOf PySem.Challenge.rw_ep5036_01.row.prog w oqA D) (gD : Good D) (nD : D.length ≤ 100) (sA : (dA == sysModules) = false) (sq : (qA == sysModules) = false) (e1 : ∀ q ∈ (qA, oqA) :: (lP, listOf #[.ref q0, .ref q1] cP) :: R, q.1 ≠ dA) (e2 : ∀ q ∈ (lP, listOf #[.ref q0, .ref q1] cP) :: R, q.1 ≠ qA) (e3 : ∀ q ∈ R, q.1 ≠ lP) (kk7 : kk < 7) (fk : m "k" = some (.int (kk : Int) t1)) (fw : m "which" = some (.int (wj : Int) t2)) (fv : m "v" = some (.int vv t3)) (fp : m "p" = some (.ref pA)) (fval : m "value" = some val) (fpl : m "plains" = some (.ref lP)) (fl : Flat val dv) (ok : Ok dv) (c1 : w1.data = .cell (some (.ref qA))) (c2 : w2.data = .cell (some (.str (nm kk) t4))) (fkd : m "kind" = some (.int 5 t5)) : wpAny (model PySem.Challenge.rw_ep5036_01.row.prog w) (callerA.deeper (envOfC (Str.ofString "law") lawSc L fa arg)) (execs ((lawBody.drop 3).take 1) (envOfC (Str.ofString "law") lawSc L fa arg)) (Cut (KdI w h₀ L dA qA lP q0 q1 cP wj oqA D R m s) Q) E s := by
  have vf : VF := rfl
  have Tb : Tbl w := tbl w ⟨_, X⟩ rfl
  have Tw : TblW w := tblW w ⟨_, X⟩ rfl
  have O1 : Own pA := rfl
  have hIP : IsP CA := isP_of hC'
  have ne1 : qA ≠ dA := e1 _ (.head _)
  have ne2 : dA ≠ qA := ne1.symm
  have nD' : D.length ≤ 1000 := by omega
  generalize hsc : lawSc = sc
  have hsc' := scope_lit hsc (by with_unfolding_all rfl)
  subst hsc'
  clear hsc
  revert X
  k_fill
  intro X
  refine execs_lit1 (by with_unfolding_all rfl) ?_
  (repeat' ((fail_if_success (first | with_reducible refine Mine.id_subTail ?_ | with_reducible refine Mine.id_compSrc ?_ | with_reducible refine Mine.id_srcT ?_ | with_reducible refine Mine.id_eltPost ?_)); (first | (k_unfold; (try dsimp only)) | walk1 | (dsimp only; walk1) | (leave1; try dsimp only) | fail "no step")))
  obtain ⟨k2, hk2, hk27⟩ := fmod7 ((kk : Int) + 1)
  simp only [hk2]
  refine item_names (names_tup Tb (by (first | with_reducible assumption | with_reducible_and_instances assumption | assumption)) (by (first | with_reducible assumption | with_reducible_and_instances assumption | assumption))) hk27 fun tn => ?_
  (repeat' ((fail_if_success (first | with_reducible refine Mine.id_Dict ?_ | with_reducible refine Mine.id_compSrc ?_ | with_reducible refine Mine.id_srcT ?_ | with_reducible refine Mine.id_eltPost ?_)); (first | (k_unfold; (try dsimp only)) | walk1 | (dsimp only; walk1) | (leave1; try dsimp only) | fail "no step")))
  k_dflt (refine' Dict_two (x1 := nm kk) (x2 := nm k2) (v1 := val) (v2 := .int vv t3) (by (first | with_reducible assumption | with_reducible_and_instances assumption | assumption)) (by (first | with_reducible assumption | with_reducible_and_instances assumption | assumption)) T.nolimit fl (PyProof.V.Flat.int _ _) ?e1 ?e2 ?e3 ?e4 ?h)
  (case e1 => intro s' Q' F' N' h; exact nameX_C N' rfl (by (first | lsm_bools | kat_tups) : (L + 1 + 1, w2) ∈ _) c2 h)
  (case e2 => intro s' Q' F' N' h; exact nameX_L F' rfl h)
  (case e3 => intro s' Q' F' N' h; exact nameX_L F' fval h)
  (case e4 => intro s' Q' F' N' h; exact nameX_L F' fv h)
  intro q o h' tk F' N' l1 lo y'
  dsimp only
  have hne : dA ≠ q := Nat.ne_of_lt (l1 (dA, oA) (by (first | lsm_bools | kat_tups)))
  have hn3 : (putD (.str (nm k2)) (.int vv) (putD (.str (nm kk)) dv [])).length ≤ 1000 := Nat.le_trans (putD_len _ _ _) (Nat.le_trans (Nat.succ_le_succ (putD_len _ _ _)) (Nat.le_of_ble_eq_true rfl))
  have hn4 : (putD (.str (nm kk)) dv D).length ≤ 1000 := Nat.le_trans (putD_len _ _ _) (by omega)
  (repeat' ((fail_if_success (first | with_reducible refine Mine.id_compSrc ?_ | with_reducible refine Mine.id_srcT ?_ | with_reducible refine Mine.id_eltPost ?_)); (first | (k_unfold; (try dsimp only)) | walk1 | (dsimp only; walk1) | (leave1; try dsimp only) | fail "no step")))
  have hp1 := putD_len (.str (nm kk)) dv D
  have hp2 := putD_len (.str (nm k2)) (.int vv) (putD (.str (nm kk)) dv D)
  refine Cut.next (KdI.same (by (first | with_reducible assumption | with_reducible_and_instances assumption | assumption)) (cb_drop (by (first | with_reducible assumption | with_reducible_and_instances assumption | assumption)) (by kcj_all)) (by rw [← merge_two (nm_next kk7 hk2)]; (first | with_reducible assumption | with_reducible_and_instances assumption | assumption)) (by (first | with_reducible assumption | with_reducible_and_instances assumption | assumption)) ((gD.put (nm_ok _) ok).put (nm_ok _) (Ok.int _)) (by omega) ?_ ?_ ?_ ?_) <;> rfl
end
end Mine

namespace Mine
open PyProof.V PySem.Spec
section
variable {w : World} {h₀ : Heap} {L fa : Addr} {arg : Value} {m : Str → Option Value} {s : Shared} {mg mb : Str → Option Value} {mean : ExcName → Option Value} {Q : Flow → Shared → Prop} {E : Value → Shared → Prop}
  {lP q0 q1 pA dxA dA qA CA : Addr} {oA oqA w1 w2 : Obj} {cP wj kk : Nat} {R : List (Addr × Obj)} {D : List (PyData × PyData)} {vv : Int} {val : Value} {dv : PyData} {t1 t2 t3 t4 t5 : Tok}
set_option maxHeartbeats 4000000 in
theorem t_clear (B : Below callerA h₀ [] h₀) (F : Fr h₀ L s.heap m) (X : (Mine.hd.heap_39 w.params).In h₀) (T : Top Mine.hd.view_39 (looseW Mine.hd.view_39 [Str.ofString "ReadOnlyContainer", Str.ofString "Properties", Str.ofString "OrderedProperties", Str.ofString "ReadOnlyProperties"]) mean mg mb h₀) (N : News h₀ L s.heap ((dA, oA) :: (qA, oqA) :: (lP, listOf #[.ref q0, .ref q1] cP) :: R)) (hC' : CA = 195 ∨ CA = 217) (hp : (pA, slotO CA dxA dA) ∈ R) (hx : (dxA, dictOf [] 0) ∈ R) (hw1 : (L + 1, w1) ∈ R) (hw2 : (L + 1 + 1, w2) ∈ R) (yA : DataOf PySem.Challenge.rw_ep5036_01.row.prog w oA D) (yq : DataOf PySem.Challenge.rw_ep5036_01.row.prog w oqA D) (gD : Good D) (nD : D.length ≤ 100) (sA : (dA == sysModules) = false) (sq : (qA == sysModules) = false) (e1 : ∀ q ∈ (qA, oqA) :: (lP, listOf #[.ref q0, .ref q1] cP) :: R, q.1 ≠ dA) (e2 : ∀ q ∈ (lP, listOf #[.ref q0, .ref q1] cP) :: R, q.1 ≠ qA) (e3 : ∀ q ∈ R, q.1 ≠ lP) (kk7 : kk < 7) (fk : m "k" = some (.int (kk : Int) t1)) (fw : m "which" = some (.int (wj : Int) t2)) (fv : m "v" = some (.int vv t3)) (fp : m "p" = some (.ref pA)) (fval : m "value" = some val) (fpl : m "plains" = some (.ref lP)) (fl : Flat val dv) (ok : Ok dv) (c1 : w1.data = .cell (some (.ref qA))) (c2 : w2.data = .cell (some (.str (nm kk) t4))) (fkd : m "kind" = some (.int 6 t5)) (hwj : wj = 0 ∨ wj = 1) : wpAny (model PySem.Challenge.rw_ep5036_01.row.prog w) (callerA.deeper (envOfC (Str.ofString "law") lawSc L fa arg)) (execs ((lawBody.drop 3).take 1) (envOfC (Str.ofString "law") lawSc L fa arg)) (Cut (KdI w h₀ L dA qA lP q0 q1 cP wj oqA D R m s) Q) E s := by
  have Tb : Tbl w := tbl w ⟨_, X⟩ rfl
  have Tw : TblW w := tblW w ⟨_, X⟩ rfl
  have O1 : Own pA := rfl
  have hIP : IsP CA := isP_of hC'
  have ne1 : qA ≠ dA := e1 _ (.head _)
  have ne2 : dA ≠ qA := ne1.symm
  have nD' : D.length ≤ 1000 := by omega
  generalize hsc : lawSc = sc
  have hsc' := scope_lit hsc (by with_unfolding_all rfl)
  subst hsc'
  clear hsc
  revert X
  k_fill
  intro X
  refine execs_lit1 (by with_unfolding_all rfl) ?_
  (repeat' ((fail_if_success (first | with_reducible refine Mine.id_compSrc ?_ | with_reducible refine Mine.id_srcT ?_ | with_reducible refine Mine.id_eltPost ?_)); (first | (k_unfold; (try dsimp only)) | walk1 | (dsimp only; walk1) | (leave1; try dsimp only) | fail "no step")))
  refine set_plain (by (first | with_reducible assumption | with_reducible_and_instances assumption | assumption)) (by (first | with_reducible assumption | with_reducible_and_instances assumption | assumption)) (by kcj_all) (lts_of (And.right (by (first | with_reducible assumption | with_reducible_and_instances assumption | assumption)))) (e1 _ (.tail _ (.head _))).symm (e2 _ (.head _)).symm e3 hwj fun h' F' N' l' => ?_
  (repeat' ((fail_if_success (first | with_reducible refine Mine.id_compSrc ?_ | with_reducible refine Mine.id_srcT ?_ | with_reducible refine Mine.id_eltPost ?_)); (first | (k_unfold; (try dsimp only)) | walk1 | (dsimp only; walk1) | (leave1; try dsimp only) | fail "no step")))
  exact Cut.next (KdI.fresh F' N' l' (by (first | with_reducible assumption | with_reducible_and_instances assumption | assumption)) (by (first | with_reducible assumption | with_reducible_and_instances assumption | assumption)) (DataOf.nil (by (first | with_reducible assumption | with_reducible_and_instances assumption | assumption))) Good.nil (Nat.zero_le _) rfl rfl rfl rfl)
end
end Mine

namespace Mine
open PyProof.V PySem.Spec
section
variable {w : World} {h₀ : Heap} {L fa : Addr} {arg : Value} {m : Str → Option Value} {s : Shared} {mg mb : Str → Option Value} {mean : ExcName → Option Value} {Q : Flow → Shared → Prop} {E : Value → Shared → Prop}
  {lP q0 q1 pA dxA dA qA CA : Addr} {oA oqA w1 w2 : Obj} {cP wj kk : Nat} {R : List (Addr × Obj)} {D : List (PyData × PyData)} {vv : Int} {val : Value} {dv : PyData} {t1 t2 t3 t4 t5 : Tok}
theorem ne_flats {prog : Program} {A : Around} {Q : Value → Shared → Prop} {v u : Value} (f1 : Flat v dv) (f2 : Flat u dv) (ok : Ok dv) (hu : A.units + 64 < cLine) (h : Q (.bool false) s) : wpAny (model prog w) A (compareOp .NotEq v u) Q E s := ne_self (f1 _) (f2 _) (shaped_ok ok) hu h
set_option maxHeartbeats 4000000 in
theorem t_read (B : Below callerA h₀ [] h₀) (F : Fr h₀ L s.heap m) (X : (Mine.hd.heap_39 w.params).In h₀) (T : Top Mine.hd.view_39 (looseW Mine.hd.view_39 [Str.ofString "ReadOnlyContainer", Str.ofString "Properties", Str.ofString "OrderedProperties", Str.ofString "ReadOnlyProperties"]) mean mg mb h₀) (N : News h₀ L s.heap ((dA, oA) :: (qA, oqA) :: (lP, listOf #[.ref q0, .ref q1] cP) :: R)) (hC' : CA = 195 ∨ CA = 217) (hp : (pA, slotO CA dxA dA) ∈ R) (hx : (dxA, dictOf [] 0) ∈ R) (hw1 : (L + 1, w1) ∈ R) (hw2 : (L + 1 + 1, w2) ∈ R) (yA : DataOf PySem.Challenge.rw_ep5036_01.row.prog w oA D) (yq : DataOf PySem.Challenge.rw_ep5036_01.row.prog w oqA D) (gD : Good D) (nD : D.length ≤ 100) (sA : (dA == sysModules) = false) (sq : (qA == sysModules) = false) (e1 : ∀ q ∈ (qA, oqA) :: (lP, listOf #[.ref q0, .ref q1] cP) :: R, q.1 ≠ dA) (e2 : ∀ q ∈ (lP, listOf #[.ref q0, .ref q1] cP) :: R, q.1 ≠ qA) (e3 : ∀ q ∈ R, q.1 ≠ lP) (kk7 : kk < 7) (fk : m "k" = some (.int (kk : Int) t1)) (fw : m "which" = some (.int (wj : Int) t2)) (fv : m "v" = some (.int vv t3)) (fp : m "p" = some (.ref pA)) (fval : m "value" = some val) (fpl : m "plains" = some (.ref lP)) (fl : Flat val dv) (ok : Ok dv) (c1 : w1.data = .cell (some (.ref qA))) (c2 : w2.data = .cell (some (.str (nm kk) t4))) (fkd : m "kind" = some (.int 7 t5)) : wpAny (model PySem.Challenge.rw_ep5036_01.row.prog w) (callerA.deeper (envOfC (Str.ofString "law") lawSc L fa arg)) (execs ((lawBody.drop 3).take 1) (envOfC (Str.ofString "law") lawSc L fa arg)) (Cut (KdI w h₀ L dA qA lP q0 q1 cP wj oqA D R m s) Q) E s := by
  have Tb : Tbl w := tbl w ⟨_, X⟩ rfl
  have Tw : TblW w := tblW w ⟨_, X⟩ rfl
  have O1 : Own pA := rfl
  have hIP : IsP CA := isP_of hC'
  have ne1 : qA ≠ dA := e1 _ (.head _)
  have ne2 : dA ≠ qA := ne1.symm
  have nD' : D.length ≤ 1000 := by omega
  generalize hsc : lawSc = sc
  have hsc' := scope_lit hsc (by with_unfolding_all rfl)
  subst hsc'
  clear hsc
  revert X
  k_fill
  intro X
  refine execs_lit1 (by with_unfolding_all rfl) ?_
  have okN : Ok (.str (Str.ofString "none")) := ⟨by simp only [PyData.canLay0]; decide +kernel, by simp [PyData.depth]⟩
  rcases rd_cases kk with ⟨hp, hr⟩ | ⟨hp, hr⟩ <;> cases hl : lookup (.str (rd kk)) D with
  | none =>
    (repeat' ((fail_if_success (first | with_reducible refine Mine.id_binaryOp ?_ | with_reducible refine Mine.id_compSrc ?_ | with_reducible refine Mine.id_srcT ?_ | with_reducible refine Mine.id_eltPost ?_)); (first | (k_unfold; (try dsimp only)) | walk1 | (dsimp only; walk1) | (leave1; try dsimp only) | fail "no step")))
    walk1
    simp only [hp]
    (repeat' ((fail_if_success (first | with_reducible refine Mine.id_compSrc ?_ | with_reducible refine Mine.id_srcT ?_ | with_reducible refine Mine.id_eltPost ?_)); (first | (k_unfold; (try dsimp only)) | walk1 | (dsimp only; walk1) | (leave1; try dsimp only) | fail "no step")))
    refine ne_flats ?f11 (by (first | with_reducible assumption | with_reducible_and_instances assumption | assumption) : Flat _ (Option.getD _ _)) (gD.getD okN) (by ktr_units) ?_
    (case f11 => rw [← hr, hl]; first | exact PyProof.V.Flat.str _ _ | (first | with_reducible assumption | with_reducible_and_instances assumption | assumption))
    (repeat' ((fail_if_success (first | with_reducible refine Mine.id_compSrc ?_ | with_reducible refine Mine.id_srcT ?_ | with_reducible refine Mine.id_eltPost ?_)); (first | (k_unfold; (try dsimp only)) | walk1 | (dsimp only; walk1) | (leave1; try dsimp only) | fail "no step")))
    refine Cut.next (KdI.same (by (first | with_reducible assumption | with_reducible_and_instances assumption | assumption)) (by (first | with_reducible assumption | with_reducible_and_instances assumption | assumption)) yA yq gD (Nat.le_add_right _ _) ?_ ?_ ?_ ?_) <;> rfl
  | some d0 =>
    (repeat' ((fail_if_success (first | with_reducible refine Mine.id_binaryOp ?_ | with_reducible refine Mine.id_compSrc ?_ | with_reducible refine Mine.id_srcT ?_ | with_reducible refine Mine.id_eltPost ?_)); (first | (k_unfold; (try dsimp only)) | walk1 | (dsimp only; walk1) | (leave1; try dsimp only) | fail "no step")))
    walk1
    simp only [hp]
    (repeat' ((fail_if_success (first | with_reducible refine Mine.id_compSrc ?_ | with_reducible refine Mine.id_srcT ?_ | with_reducible refine Mine.id_eltPost ?_)); (first | (k_unfold; (try dsimp only)) | walk1 | (dsimp only; walk1) | (leave1; try dsimp only) | fail "no step")))
    refine ne_flats ?f12 (by (first | with_reducible assumption | with_reducible_and_instances assumption | assumption) : Flat _ (Option.getD _ _)) (gD.getD okN) (by ktr_units) ?_
    (case f12 => rw [← hr, hl]; first | exact PyProof.V.Flat.str _ _ | (first | with_reducible assumption | with_reducible_and_instances assumption | assumption))
    (repeat' ((fail_if_success (first | with_reducible refine Mine.id_compSrc ?_ | with_reducible refine Mine.id_srcT ?_ | with_reducible refine Mine.id_eltPost ?_)); (first | (k_unfold; (try dsimp only)) | walk1 | (dsimp only; walk1) | (leave1; try dsimp only) | fail "no step")))
    refine Cut.next (KdI.same (by (first | with_reducible assumption | with_reducible_and_instances assumption | assumption)) (by (first | with_reducible assumption | with_reducible_and_instances assumption | assumption)) yA yq gD (Nat.le_add_right _ _) ?_ ?_ ?_ ?_) <;> rfl
end
end Mine

namespace Mine
open PyProof.V PySem.Spec
section
variable {w : World} {h₀ : Heap} {L fa : Addr} {arg : Value} {m : Str → Option Value} {s s₁ : Shared} {mg mb : Str → Option Value} {mean : ExcName → Option Value} {Q : Flow → Shared → Prop} {E : Value → Shared → Prop}
  {lS lP v dv bm lR dO p1 dx1 p0 dx0 dH : Addr} {S obm : Obj} {i : Nat} {nx own : List (Addr × Obj)}
set_option maxHeartbeats 4000000 in
theorem t_tail (B : Below callerA h₀ [] h₀) (F : Fr h₀ L s.heap m) (X : (Mine.hd.heap_39 w.params).In h₀) (T : Top Mine.hd.view_39 (looseW Mine.hd.view_39 [Str.ofString "ReadOnlyContainer", Str.ofString "Properties", Str.ofString "OrderedProperties", Str.ofString "ReadOnlyProperties"]) mean mg mb h₀) (N : News h₀ L s.heap (nx ++ own)) (hs : ∃ h' tk', s = { s₁ with heap := h', toks := tk' }) (hi : i ≤ 24) (hoff : OwnOff own (nx.map (·.1)))
    (hJ : JL w lS lP v dv bm lR dO p1 dx1 p0 dx0 dH (L + 1 + 1) (L + 1) S obm i m nx) :
    wpAny (model PySem.Challenge.rw_ep5036_01.row.prog w) (callerA.deeper (envOfC (Str.ofString "law") lawSc L fa arg)) (execs (lawBody.drop 4) (envOfC (Str.ofString "law") lawSc L fa arg))
      (InvPostG h₀ L (fun m' nx => (lS, S) ∈ nx ∧ JL w lS lP v dv bm lR dO p1 dx1 p0 dx0 dH (L + 1 + 1) (L + 1) S obm i m' nx) own s₁ Q) E s := by
  have Tb : Tbl w := tbl w ⟨_, X⟩ rfl
  have hJ' := hJ
  obtain ⟨q0, q1, oq0, oq1, oH, oO, w1, w2, cP, D0, D1, v1, v2, rfl, hnd, ⟨y1,y2,y3,y4⟩, ⟨g0,g1,n0,n1⟩, ⟨s1,s2,s3,s4⟩, ⟨c1,c2⟩, ⟨m1,m2,m3,m4⟩⟩ := hJ
  obtain ⟨hh, tkk, rfl⟩ := hs
  have N' := N
  simp only [List.cons_append, List.nil_append] at N'
  have n0' : D0.length ≤ 1000 := by omega
  have n1' : D1.length ≤ 1000 := by omega
  have i0 : IsP 195 := .inl rfl
  have i1 : IsP 217 := .inr (.inl rfl)
  have i2 : IsP 231 := .inr (.inr rfl)
  clear hnd n0 n1 hi N
  generalize hsc : lawSc = sc
  have hsc' := scope_lit hsc (by with_unfolding_all rfl)
  subst hsc'
  clear hsc
  revert X
  k_fill
  intro X
  refine execs_lit2 (by with_unfolding_all rfl) ?_
  (repeat' ((fail_if_success (first | with_reducible refine Mine.id_compSrc ?_ | with_reducible refine Mine.id_srcT ?_ | with_reducible refine Mine.id_eltPost ?_)); (first | (k_unfold; (try dsimp only)) | walk1 | (dsimp only; walk1) | (leave1; try dsimp only) | fail "no step")))
  exact InvEndG.intro (by (first | with_reducible assumption | with_reducible_and_instances assumption | assumption)) (by (first | with_reducible assumption | with_reducible_and_instances assumption | assumption)) ⟨.head _, hJ'⟩ hoff (by kcj_all) (by kcj_all)
end
end Mine

namespace Mine
open PyProof.V PySem.Spec
theorem ne_at {l : List Addr} (h : l.Nodup) {a b : Addr} (i j : Nat) (hi : l[i]? = some a) (hj : l[j]? = some b) (hij : i ≠ j) : a ≠ b := by
  intro e
  subst e
  obtain ⟨h1, e1⟩ := List.getElem?_eq_some_iff.mp hi
  obtain ⟨h2, e2⟩ := List.getElem?_eq_some_iff.mp hj
  have hp := List.pairwise_iff_getElem.mp h
  rcases Nat.lt_or_gt_of_ne hij with hl | hl
  · exact hp i j h1 h2 hl (e1.trans e2.symm)
  · exact hp j i h2 h1 hl (e2.trans e1.symm)
theorem nd_set {a : Addr} : ∀ {l : List Addr} (i : Nat), l.Nodup → (∀ b ∈ l, b ≠ a) → (l.set i a).Nodup
  | [], _, _, _ => List.nodup_nil
  | x :: l, 0, h, ha => by
    rw [List.set_cons_zero]
    obtain ⟨_, h2⟩ := List.nodup_cons.mp h
    exact List.nodup_cons.mpr ⟨fun hm => ha a (.tail _ hm) rfl, h2⟩
  | x :: l, i + 1, h, ha => by
    rw [List.set_cons_succ]
    obtain ⟨h1, h2⟩ := List.nodup_cons.mp h
    refine List.nodup_cons.mpr ⟨fun hm => ?_, nd_set i h2 fun b hb => ha b (.tail _ hb)⟩
    rcases List.mem_or_eq_of_mem_set hm with hm | hm
    · exact h1 hm
    · exact ha x (.head _) hm
theorem fmod8 (a : Int) : a.fmod 8 = 0 ∨ a.fmod 8 = 1 ∨ a.fmod 8 = 2 ∨ a.fmod 8 = 3 ∨ a.fmod 8 = 4 ∨ a.fmod 8 = 5 ∨ a.fmod 8 = 6 ∨ a.fmod 8 = 7 := by
  rw [Int.fmod_eq_emod_of_nonneg _ (by decide)]; omega
theorem off_app {own nx : List (Addr × Obj)} {q : Addr} {adr : List Addr} (h : ∀ p ∈ own, p.1 ≠ q) (i : Nat) (hoff : OwnOff own adr) : OwnOff own (adr.set i q) := by
  intro p hp b hb
  rcases List.mem_or_eq_of_mem_set hb with hb | hb
  · exact hoff p hp b hb
  · exact hb ▸ h p hp
section
variable {w : World} {h₀ : Heap} {L fa : Addr} {arg : Value} {m : Str → Option Value} {s : Shared} {mg mb : Str → Option Value} {mean : ExcName → Option Value} {Q : Flow → Shared → Prop} {E : Value → Shared → Prop}
  {lS lP v dv bm lR dO p1 dx1 p0 dx0 dH : Addr} {S obm : Obj} {i : Nat} {nx own : List (Addr × Obj)} {n : Int} {t : Tok}
theorem t_kinds {q0 q1 pA dxA dA qA CA : Addr} {oA oqA w1 w2 : Obj} {cP wj kk : Nat} {R : List (Addr × Obj)} {D : List (PyData × PyData)} {vv : Int} {val : Value} {dd : PyData} {t1 t2 t3 t4 t5 : Tok}
    (B : Below callerA h₀ [] h₀) (F : Fr h₀ L s.heap m) (X : (Mine.hd.heap_39 w.params).In h₀) (T : Top Mine.hd.view_39 (looseW Mine.hd.view_39 [Str.ofString "ReadOnlyContainer", Str.ofString "Properties", Str.ofString "OrderedProperties", Str.ofString "ReadOnlyProperties"]) mean mg mb h₀) (N : News h₀ L s.heap ((dA, oA) :: (qA, oqA) :: (lP, listOf #[.ref q0, .ref q1] cP) :: R)) (hC' : CA = 195 ∨ CA = 217) (hp : (pA, slotO CA dxA dA) ∈ R) (hx : (dxA, dictOf [] 0) ∈ R) (hw1 : (L + 1, w1) ∈ R) (hw2 : (L + 1 + 1, w2) ∈ R) (yA : DataOf PySem.Challenge.rw_ep5036_01.row.prog w oA D) (yq : DataOf PySem.Challenge.rw_ep5036_01.row.prog w oqA D) (gD : Good D) (nD : D.length ≤ 100) (sA : (dA == sysModules) = false) (sq : (qA == sysModules) = false) (e1 : ∀ q ∈ (qA, oqA) :: (lP, listOf #[.ref q0, .ref q1] cP) :: R, q.1 ≠ dA) (e2 : ∀ q ∈ (lP, listOf #[.ref q0, .ref q1] cP) :: R, q.1 ≠ qA) (e3 : ∀ q ∈ R, q.1 ≠ lP) (kk7 : kk < 7) (fk : m "k" = some (.int (kk : Int) t1)) (fw : m "which" = some (.int (wj : Int) t2)) (fv : m "v" = some (.int vv t3)) (fp : m "p" = some (.ref pA)) (fval : m "value" = some val) (fpl : m "plains" = some (.ref lP)) (fl : Flat val dd) (ok : Ok dd) (c1 : w1.data = .cell (some (.ref qA))) (c2 : w2.data = .cell (some (.str (nm kk) t4))) (fkd : m "kind" = some (.int (n.fmod 8) t5)) (hwj : wj = 0 ∨ wj = 1) : wpAny (model PySem.Challenge.rw_ep5036_01.row.prog w) (callerA.deeper (envOfC (Str.ofString "law") lawSc L fa arg)) (execs ((lawBody.drop 3).take 1) (envOfC (Str.ofString "law") lawSc L fa arg)) (Cut (KdI w h₀ L dA qA lP q0 q1 cP wj oqA D R m s) Q) E s := by
  rcases fmod8 n with h | h | h | h | h | h | h | h <;> rw [h] at fkd
  · exact t_set B F X T N hC' hp hx hw1 hw2 yA yq gD nD sA sq e1 e2 e3 kk7 fk fw fv fp fval fpl fl ok c1 c2 fkd (.inl rfl)
  · exact t_set B F X T N hC' hp hx hw1 hw2 yA yq gD nD sA sq e1 e2 e3 kk7 fk fw fv fp fval fpl fl ok c1 c2 fkd (.inr rfl)
  · exact t_dot B F X T N hC' hp hx hw1 hw2 yA yq gD nD sA sq e1 e2 e3 kk7 fk fw fv fp fval fpl fl ok c1 c2 fkd (.inl rfl)
  · exact t_dot B F X T N hC' hp hx hw1 hw2 yA yq gD nD sA sq e1 e2 e3 kk7 fk fw fv fp fval fpl fl ok c1 c2 fkd (.inr rfl)
  · exact t_take B F X T N hC' hp hx hw1 hw2 yA yq gD nD sA sq e1 e2 e3 kk7 fk fw fv fp fval fpl fl ok c1 c2 fkd hwj
  · exact t_two B F X T N hC' hp hx hw1 hw2 yA yq gD nD sA sq e1 e2 e3 kk7 fk fw fv fp fval fpl fl ok c1 c2 fkd
  · exact t_clear B F X T N hC' hp hx hw1 hw2 yA yq gD nD sA sq e1 e2 e3 kk7 fk fw fv fp fval fpl fl ok c1 c2 fkd hwj
  · exact t_read B F X T N hC' hp hx hw1 hw2 yA yq gD nD sA sq e1 e2 e3 kk7 fk fw fv fp fval fpl fl ok c1 c2 fkd
set_option maxHeartbeats 4000000 in
theorem t_turn (B : Below callerA h₀ [] h₀) (F : Fr h₀ L s.heap (fun y => if y = Str.ofString "x" then some (.int n t) else m y)) (X : (Mine.hd.heap_39 w.params).In h₀) (T : Top Mine.hd.view_39 (looseW Mine.hd.view_39 [Str.ofString "ReadOnlyContainer", Str.ofString "Properties", Str.ofString "OrderedProperties", Str.ofString "ReadOnlyProperties"]) mean mg mb h₀) (N : News h₀ L s.heap (nx ++ own)) (hi : i < 24) (hoff : OwnOff own (nx.map (·.1)))
    (hJ : JL w lS lP v dv bm lR dO p1 dx1 p0 dx0 dH (L + 1 + 1) (L + 1) S obm i m nx) :
    wpAny (model PySem.Challenge.rw_ep5036_01.row.prog w) (callerA.deeper (envOfC (Str.ofString "law") lawSc L fa arg)) (execs lawBody (envOfC (Str.ofString "law") lawSc L fa arg))
      (InvPostG h₀ L (fun m' nx => (lS, S) ∈ nx ∧ JL w lS lP v dv bm lR dO p1 dx1 p0 dx0 dH (L + 1 + 1) (L + 1) S obm (i + 1) m' nx) own s Q) E s := by
  obtain ⟨q0, q1, oq0, oq1, oH, oO, w1, w2, cP, D0, D1, v1, v2, rfl, hnd, ⟨y1,y2,y3,y4⟩, ⟨g0,g1,n0,n1⟩, ⟨s1,s2,s3,s4⟩, ⟨c1,c2⟩, ⟨m1,m2,m3,m4⟩⟩ := hJ
  simp only [List.cons_append, List.nil_append] at N
  simp only [List.map_cons, List.map_nil] at hnd hoff
  refine execs_cutN 3 (HdI h₀ L lR lP p0 p1 q0 q1 ((lS, S) :: (lP, listOf #[.ref q0, .ref q1] cP) :: (q1, oq1) :: (q0, oq0) :: (v, slotO 231 dv dH) :: (dv, dictOf [] 0) :: (bm, obm) :: (lR, listOf #[.ref p0, .ref p1] 0) :: (dO, oO) :: (p1, slotO 217 dx1 dO) :: (dx1, dictOf [] 0) :: (p0, slotO 195 dx0 dH) :: (dx0, dictOf [] 0) :: (dH, oH) :: own) n m s) ?_ ?_
  · exact t_head B F X T (cb_drop N (by kcj_all)) (List.forall_mem_cons.mpr ⟨ne_at hnd 14 15 rfl rfl (by decide), List.forall_mem_cons.mpr ⟨ne_at hnd 0 15 rfl rfl (by decide), List.forall_mem_cons.mpr ⟨ne_at hnd 1 15 rfl rfl (by decide), List.forall_mem_cons.mpr ⟨ne_at hnd 2 15 rfl rfl (by decide), List.forall_mem_cons.mpr ⟨ne_at hnd 3 15 rfl rfl (by decide), List.forall_mem_cons.mpr ⟨ne_at hnd 4 15 rfl rfl (by decide), List.forall_mem_cons.mpr ⟨ne_at hnd 5 15 rfl rfl (by decide), List.forall_mem_cons.mpr ⟨ne_at hnd 6 15 rfl rfl (by decide), List.forall_mem_cons.mpr ⟨ne_at hnd 7 15 rfl rfl (by decide), List.forall_mem_cons.mpr ⟨ne_at hnd 8 15 rfl rfl (by decide), List.forall_mem_cons.mpr ⟨ne_at hnd 9 15 rfl rfl (by decide), List.forall_mem_cons.mpr ⟨ne_at hnd 10 15 rfl rfl (by decide), List.forall_mem_cons.mpr ⟨ne_at hnd 11 15 rfl rfl (by decide), List.forall_mem_cons.mpr ⟨ne_at hnd 12 15 rfl rfl (by decide), List.forall_mem_cons.mpr ⟨ne_at hnd 13 15 rfl rfl (by decide), fun q hq => hoff q hq _ (List.mem_of_getElem? (i := 15) rfl)⟩⟩⟩⟩⟩⟩⟩⟩⟩⟩⟩⟩⟩⟩⟩) (List.forall_mem_cons.mpr ⟨ne_at hnd 0 14 rfl rfl (by decide), List.forall_mem_cons.mpr ⟨ne_at hnd 1 14 rfl rfl (by decide), List.forall_mem_cons.mpr ⟨ne_at hnd 2 14 rfl rfl (by decide), List.forall_mem_cons.mpr ⟨ne_at hnd 3 14 rfl rfl (by decide), List.forall_mem_cons.mpr ⟨ne_at hnd 4 14 rfl rfl (by decide), List.forall_mem_cons.mpr ⟨ne_at hnd 5 14 rfl rfl (by decide), List.forall_mem_cons.mpr ⟨ne_at hnd 6 14 rfl rfl (by decide), List.forall_mem_cons.mpr ⟨ne_at hnd 7 14 rfl rfl (by decide), List.forall_mem_cons.mpr ⟨ne_at hnd 8 14 rfl rfl (by decide), List.forall_mem_cons.mpr ⟨ne_at hnd 9 14 rfl rfl (by decide), List.forall_mem_cons.mpr ⟨ne_at hnd 10 14 rfl rfl (by decide), List.forall_mem_cons.mpr ⟨ne_at hnd 11 14 rfl rfl (by decide), List.forall_mem_cons.mpr ⟨ne_at hnd 12 14 rfl rfl (by decide), List.forall_mem_cons.mpr ⟨ne_at hnd 13 14 rfl rfl (by decide), fun q hq => hoff q hq _ (List.mem_of_getElem? (i := 14) rfl)⟩⟩⟩⟩⟩⟩⟩⟩⟩⟩⟩⟩⟩⟩) c1 c2 (by (first | lsm_bools | kat_tups)) (by (first | lsm_bools | kat_tups)) m2 m4
  rintro s' ⟨h', tk', m', w1', w2', wj, kk, pA, qA, val, dd, rfl, F', N', H⟩
  obtain ⟨t1, fk⟩ := H.fk
  obtain ⟨t2, fw⟩ := H.fw
  obtain ⟨t3, fv⟩ := H.fv
  obtain ⟨t4, c2'⟩ := H.c2
  obtain ⟨t5, fkd⟩ := H.fkd
  rcases H.wh with ⟨rfl, ep, eq⟩ | ⟨rfl, ep, eq⟩ <;> (have ep' := ep.symm; have eq' := eq.symm; clear ep eq; subst ep'; subst eq')
  · refine execs_cutN 1 (KdI w h₀ L dH q0 lP q0 q1 cP 0 oq0 D0 ((lS, S) :: (q1, oq1) :: (v, slotO 231 dv dH) :: (dv, dictOf [] 0) :: (bm, obm) :: (lR, listOf #[.ref p0, .ref p1] 0) :: (dO, oO) :: (p1, slotO 217 dx1 dO) :: (dx1, dictOf [] 0) :: (p0, slotO 195 dx0 dH) :: (dx0, dictOf [] 0) :: (L + 1 + 1, w2') :: (L + 1, w1') :: own) m' { s with heap := h', toks := tk' }) ?_ ?_
    · refine t_kinds B F' X T (cb_drop N' (by kcj_all)) (.inl rfl) (by (first | lsm_bools | kat_tups)) (by (first | lsm_bools | kat_tups)) (by (first | lsm_bools | kat_tups)) (by (first | lsm_bools | kat_tups)) y1 y2 g0 (by omega) s1 s2 (List.forall_mem_cons.mpr ⟨ne_at hnd 3 13 rfl rfl (by decide), List.forall_mem_cons.mpr ⟨ne_at hnd 1 13 rfl rfl (by decide), List.forall_mem_cons.mpr ⟨ne_at hnd 0 13 rfl rfl (by decide), List.forall_mem_cons.mpr ⟨ne_at hnd 2 13 rfl rfl (by decide), List.forall_mem_cons.mpr ⟨ne_at hnd 4 13 rfl rfl (by decide), List.forall_mem_cons.mpr ⟨ne_at hnd 5 13 rfl rfl (by decide), List.forall_mem_cons.mpr ⟨ne_at hnd 6 13 rfl rfl (by decide), List.forall_mem_cons.mpr ⟨ne_at hnd 7 13 rfl rfl (by decide), List.forall_mem_cons.mpr ⟨ne_at hnd 8 13 rfl rfl (by decide), List.forall_mem_cons.mpr ⟨ne_at hnd 9 13 rfl rfl (by decide), List.forall_mem_cons.mpr ⟨ne_at hnd 10 13 rfl rfl (by decide), List.forall_mem_cons.mpr ⟨ne_at hnd 11 13 rfl rfl (by decide), List.forall_mem_cons.mpr ⟨ne_at hnd 12 13 rfl rfl (by decide), List.forall_mem_cons.mpr ⟨ne_at hnd 14 13 rfl rfl (by decide), List.forall_mem_cons.mpr ⟨ne_at hnd 15 13 rfl rfl (by decide), fun q hq => hoff q hq _ (List.mem_of_getElem? (i := 13) rfl)⟩⟩⟩⟩⟩⟩⟩⟩⟩⟩⟩⟩⟩⟩⟩) (List.forall_mem_cons.mpr ⟨ne_at hnd 1 3 rfl rfl (by decide), List.forall_mem_cons.mpr ⟨ne_at hnd 0 3 rfl rfl (by decide), List.forall_mem_cons.mpr ⟨ne_at hnd 2 3 rfl rfl (by decide), List.forall_mem_cons.mpr ⟨ne_at hnd 4 3 rfl rfl (by decide), List.forall_mem_cons.mpr ⟨ne_at hnd 5 3 rfl rfl (by decide), List.forall_mem_cons.mpr ⟨ne_at hnd 6 3 rfl rfl (by decide), List.forall_mem_cons.mpr ⟨ne_at hnd 7 3 rfl rfl (by decide), List.forall_mem_cons.mpr ⟨ne_at hnd 8 3 rfl rfl (by decide), List.forall_mem_cons.mpr ⟨ne_at hnd 9 3 rfl rfl (by decide), List.forall_mem_cons.mpr ⟨ne_at hnd 10 3 rfl rfl (by decide), List.forall_mem_cons.mpr ⟨ne_at hnd 11 3 rfl rfl (by decide), List.forall_mem_cons.mpr ⟨ne_at hnd 12 3 rfl rfl (by decide), List.forall_mem_cons.mpr ⟨ne_at hnd 14 3 rfl rfl (by decide), List.forall_mem_cons.mpr ⟨ne_at hnd 15 3 rfl rfl (by decide), fun q hq => hoff q hq _ (List.mem_of_getElem? (i := 3) rfl)⟩⟩⟩⟩⟩⟩⟩⟩⟩⟩⟩⟩⟩⟩) (List.forall_mem_cons.mpr ⟨ne_at hnd 0 1 rfl rfl (by decide), List.forall_mem_cons.mpr ⟨ne_at hnd 2 1 rfl rfl (by decide), List.forall_mem_cons.mpr ⟨ne_at hnd 4 1 rfl rfl (by decide), List.forall_mem_cons.mpr ⟨ne_at hnd 5 1 rfl rfl (by decide), List.forall_mem_cons.mpr ⟨ne_at hnd 6 1 rfl rfl (by decide), List.forall_mem_cons.mpr ⟨ne_at hnd 7 1 rfl rfl (by decide), List.forall_mem_cons.mpr ⟨ne_at hnd 8 1 rfl rfl (by decide), List.forall_mem_cons.mpr ⟨ne_at hnd 9 1 rfl rfl (by decide), List.forall_mem_cons.mpr ⟨ne_at hnd 10 1 rfl rfl (by decide), List.forall_mem_cons.mpr ⟨ne_at hnd 11 1 rfl rfl (by decide), List.forall_mem_cons.mpr ⟨ne_at hnd 12 1 rfl rfl (by decide), List.forall_mem_cons.mpr ⟨ne_at hnd 14 1 rfl rfl (by decide), List.forall_mem_cons.mpr ⟨ne_at hnd 15 1 rfl rfl (by decide), fun q hq => hoff q hq _ (List.mem_of_getElem? (i := 1) rfl)⟩⟩⟩⟩⟩⟩⟩⟩⟩⟩⟩⟩⟩) H.kk7 fk fw fv H.fp H.fval (H.k4.trans m4) H.fl H.ok H.c1 c2' fkd (.inl rfl)
    · intro s'' hK
      rw [List.drop_drop]
      cases hK with
      | @same h'' tk'' m'' oA' oq' D' F'' N'' y1' y2' g' hn' k1 k2 k3 k4 =>
        exact t_tail (nx := [(lS, S), (lP, listOf #[.ref q0, .ref q1] cP), (q1, oq1), (q0, oq'), (v, slotO 231 dv dH), (dv, dictOf [] 0), (bm, obm), (lR, listOf #[.ref p0, .ref p1] 0), (dO, oO), (p1, slotO 217 dx1 dO), (dx1, dictOf [] 0), (p0, slotO 195 dx0 dH), (dx0, dictOf [] 0), (dH, oA'), (L + 1 + 1, w2'), (L + 1, w1')]) B F'' X T (cb_drop N'' (by kcj_all)) ⟨_, _, rfl⟩ (by omega) hoff ⟨q0, q1, oq', oq1, oA', oO, w1', w2', cP, D', D1, _, _, rfl, hnd, ⟨y1', y2', y3, y4⟩, ⟨g', g1, by omega, by omega⟩, ⟨s1, s2, s3, s4⟩, ⟨H.c1, c2'⟩, ⟨k1.trans (H.k1.trans m1), k2.trans (H.k2.trans m2), k3.trans (H.k3.trans m3), k4.trans (H.k4.trans m4)⟩⟩
      | @fresh h'' tk'' m'' qN oA' oN cP' D' F'' N'' l1 sN y1' y2' g' hn' k1 k2 k3 k4 =>
        have hfresh : ∀ b ∈ [lS, lP, q1, q0, v, dv, bm, lR, dO, p1, dx1, p0, dx0, dH, L + 1 + 1, L + 1], b ≠ qN := List.forall_mem_cons.mpr ⟨Nat.ne_of_lt (lt_of_all l1 (by (first | lsm_bools | kat_tups) : (lS, _) ∈ _)), List.forall_mem_cons.mpr ⟨Nat.ne_of_lt (lt_of_all l1 (by (first | lsm_bools | kat_tups) : (lP, _) ∈ _)), List.forall_mem_cons.mpr ⟨Nat.ne_of_lt (lt_of_all l1 (by (first | lsm_bools | kat_tups) : (q1, _) ∈ _)), List.forall_mem_cons.mpr ⟨Nat.ne_of_lt (lt_of_all l1 (by (first | lsm_bools | kat_tups) : (q0, _) ∈ _)), List.forall_mem_cons.mpr ⟨Nat.ne_of_lt (lt_of_all l1 (by (first | lsm_bools | kat_tups) : (v, _) ∈ _)), List.forall_mem_cons.mpr ⟨Nat.ne_of_lt (lt_of_all l1 (by (first | lsm_bools | kat_tups) : (dv, _) ∈ _)), List.forall_mem_cons.mpr ⟨Nat.ne_of_lt (lt_of_all l1 (by (first | lsm_bools | kat_tups) : (bm, _) ∈ _)), List.forall_mem_cons.mpr ⟨Nat.ne_of_lt (lt_of_all l1 (by (first | lsm_bools | kat_tups) : (lR, _) ∈ _)), List.forall_mem_cons.mpr ⟨Nat.ne_of_lt (lt_of_all l1 (by (first | lsm_bools | kat_tups) : (dO, _) ∈ _)), List.forall_mem_cons.mpr ⟨Nat.ne_of_lt (lt_of_all l1 (by (first | lsm_bools | kat_tups) : (p1, _) ∈ _)), List.forall_mem_cons.mpr ⟨Nat.ne_of_lt (lt_of_all l1 (by (first | lsm_bools | kat_tups) : (dx1, _) ∈ _)), List.forall_mem_cons.mpr ⟨Nat.ne_of_lt (lt_of_all l1 (by (first | lsm_bools | kat_tups) : (p0, _) ∈ _)), List.forall_mem_cons.mpr ⟨Nat.ne_of_lt (lt_of_all l1 (by (first | lsm_bools | kat_tups) : (dx0, _) ∈ _)), List.forall_mem_cons.mpr ⟨Nat.ne_of_lt (lt_of_all l1 (by (first | lsm_bools | kat_tups) : (dH, _) ∈ _)), List.forall_mem_cons.mpr ⟨Nat.ne_of_lt (lt_of_all l1 (by (first | lsm_bools | kat_tups) : (L + 1 + 1, _) ∈ _)), List.forall_mem_cons.mpr ⟨Nat.ne_of_lt (lt_of_all l1 (by (first | lsm_bools | kat_tups) : (L + 1, _) ∈ _)), List.forall_mem_nil _⟩⟩⟩⟩⟩⟩⟩⟩⟩⟩⟩⟩⟩⟩⟩⟩
        have hofo : ∀ p ∈ own, p.1 ≠ qN := fun p hp => Nat.ne_of_lt (l1 p (by (first | lsm_bools | kat_tups)))
        exact t_tail (nx := [(lS, S), (lP, listOf #[.ref qN, .ref q1] cP'), (q1, oq1), (qN, oN), (v, slotO 231 dv dH), (dv, dictOf [] 0), (bm, obm), (lR, listOf #[.ref p0, .ref p1] 0), (dO, oO), (p1, slotO 217 dx1 dO), (dx1, dictOf [] 0), (p0, slotO 195 dx0 dH), (dx0, dictOf [] 0), (dH, oA'), (L + 1 + 1, w2'), (L + 1, w1')]) B F'' X T (cb_drop N'' (by kcj_all)) ⟨_, _, rfl⟩ (by omega) (off_app (nx := []) hofo 3 hoff) ⟨qN, q1, oN, oq1, oA', oO, w1', w2', cP', D', D1, _, _, rfl, (nd_set 3 hnd hfresh), ⟨y1', y2', y3, y4⟩, ⟨g', g1, by omega, by omega⟩, ⟨s1, sN, s3, s4⟩, ⟨H.c1, c2'⟩, ⟨k1.trans (H.k1.trans m1), k2.trans (H.k2.trans m2), k3.trans (H.k3.trans m3), k4.trans (H.k4.trans m4)⟩⟩
  · refine execs_cutN 1 (KdI w h₀ L dO q1 lP q0 q1 cP 1 oq1 D1 ((lS, S) :: (q0, oq0) :: (v, slotO 231 dv dH) :: (dv, dictOf [] 0) :: (bm, obm) :: (lR, listOf #[.ref p0, .ref p1] 0) :: (p1, slotO 217 dx1 dO) :: (dx1, dictOf [] 0) :: (p0, slotO 195 dx0 dH) :: (dx0, dictOf [] 0) :: (dH, oH) :: (L + 1 + 1, w2') :: (L + 1, w1') :: own) m' { s with heap := h', toks := tk' }) ?_ ?_
    · refine t_kinds B F' X T (cb_drop N' (by kcj_all)) (.inr rfl) (by (first | lsm_bools | kat_tups)) (by (first | lsm_bools | kat_tups)) (by (first | lsm_bools | kat_tups)) (by (first | lsm_bools | kat_tups)) y3 y4 g1 (by omega) s3 s4 (List.forall_mem_cons.mpr ⟨ne_at hnd 2 8 rfl rfl (by decide), List.forall_mem_cons.mpr ⟨ne_at hnd 1 8 rfl rfl (by decide), List.forall_mem_cons.mpr ⟨ne_at hnd 0 8 rfl rfl (by decide), List.forall_mem_cons.mpr ⟨ne_at hnd 3 8 rfl rfl (by decide), List.forall_mem_cons.mpr ⟨ne_at hnd 4 8 rfl rfl (by decide), List.forall_mem_cons.mpr ⟨ne_at hnd 5 8 rfl rfl (by decide), List.forall_mem_cons.mpr ⟨ne_at hnd 6 8 rfl rfl (by decide), List.forall_mem_cons.mpr ⟨ne_at hnd 7 8 rfl rfl (by decide), List.forall_mem_cons.mpr ⟨ne_at hnd 9 8 rfl rfl (by decide), List.forall_mem_cons.mpr ⟨ne_at hnd 10 8 rfl rfl (by decide), List.forall_mem_cons.mpr ⟨ne_at hnd 11 8 rfl rfl (by decide), List.forall_mem_cons.mpr ⟨ne_at hnd 12 8 rfl rfl (by decide), List.forall_mem_cons.mpr ⟨ne_at hnd 13 8 rfl rfl (by decide), List.forall_mem_cons.mpr ⟨ne_at hnd 14 8 rfl rfl (by decide), List.forall_mem_cons.mpr ⟨ne_at hnd 15 8 rfl rfl (by decide), fun q hq => hoff q hq _ (List.mem_of_getElem? (i := 8) rfl)⟩⟩⟩⟩⟩⟩⟩⟩⟩⟩⟩⟩⟩⟩⟩) (List.forall_mem_cons.mpr ⟨ne_at hnd 1 2 rfl rfl (by decide), List.forall_mem_cons.mpr ⟨ne_at hnd 0 2 rfl rfl (by decide), List.forall_mem_cons.mpr ⟨ne_at hnd 3 2 rfl rfl (by decide), List.forall_mem_cons.mpr ⟨ne_at hnd 4 2 rfl rfl (by decide), List.forall_mem_cons.mpr ⟨ne_at hnd 5 2 rfl rfl (by decide), List.forall_mem_cons.mpr ⟨ne_at hnd 6 2 rfl rfl (by decide), List.forall_mem_cons.mpr ⟨ne_at hnd 7 2 rfl rfl (by decide), List.forall_mem_cons.mpr ⟨ne_at hnd 9 2 rfl rfl (by decide), List.forall_mem_cons.mpr ⟨ne_at hnd 10 2 rfl rfl (by decide), List.forall_mem_cons.mpr ⟨ne_at hnd 11 2 rfl rfl (by decide), List.forall_mem_cons.mpr ⟨ne_at hnd 12 2 rfl rfl (by decide), List.forall_mem_cons.mpr ⟨ne_at hnd 13 2 rfl rfl (by decide), List.forall_mem_cons.mpr ⟨ne_at hnd 14 2 rfl rfl (by decide), List.forall_mem_cons.mpr ⟨ne_at hnd 15 2 rfl rfl (by decide), fun q hq => hoff q hq _ (List.mem_of_getElem? (i := 2) rfl)⟩⟩⟩⟩⟩⟩⟩⟩⟩⟩⟩⟩⟩⟩) (List.forall_mem_cons.mpr ⟨ne_at hnd 0 1 rfl rfl (by decide), List.forall_mem_cons.mpr ⟨ne_at hnd 3 1 rfl rfl (by decide), List.forall_mem_cons.mpr ⟨ne_at hnd 4 1 rfl rfl (by decide), List.forall_mem_cons.mpr ⟨ne_at hnd 5 1 rfl rfl (by decide), List.forall_mem_cons.mpr ⟨ne_at hnd 6 1 rfl rfl (by decide), List.forall_mem_cons.mpr ⟨ne_at hnd 7 1 rfl rfl (by decide), List.forall_mem_cons.mpr ⟨ne_at hnd 9 1 rfl rfl (by decide), List.forall_mem_cons.mpr ⟨ne_at hnd 10 1 rfl rfl (by decide), List.forall_mem_cons.mpr ⟨ne_at hnd 11 1 rfl rfl (by decide), List.forall_mem_cons.mpr ⟨ne_at hnd 12 1 rfl rfl (by decide), List.forall_mem_cons.mpr ⟨ne_at hnd 13 1 rfl rfl (by decide), List.forall_mem_cons.mpr ⟨ne_at hnd 14 1 rfl rfl (by decide), List.forall_mem_cons.mpr ⟨ne_at hnd 15 1 rfl rfl (by decide), fun q hq => hoff q hq _ (List.mem_of_getElem? (i := 1) rfl)⟩⟩⟩⟩⟩⟩⟩⟩⟩⟩⟩⟩⟩) H.kk7 fk fw fv H.fp H.fval (H.k4.trans m4) H.fl H.ok H.c1 c2' fkd (.inr rfl)
    · intro s'' hK
      rw [List.drop_drop]
      cases hK with
      | @same h'' tk'' m'' oA' oq' D' F'' N'' y1' y2' g' hn' k1 k2 k3 k4 =>
        exact t_tail (nx := [(lS, S), (lP, listOf #[.ref q0, .ref q1] cP), (q1, oq'), (q0, oq0), (v, slotO 231 dv dH), (dv, dictOf [] 0), (bm, obm), (lR, listOf #[.ref p0, .ref p1] 0), (dO, oA'), (p1, slotO 217 dx1 dO), (dx1, dictOf [] 0), (p0, slotO 195 dx0 dH), (dx0, dictOf [] 0), (dH, oH), (L + 1 + 1, w2'), (L + 1, w1')]) B F'' X T (cb_drop N'' (by kcj_all)) ⟨_, _, rfl⟩ (by omega) hoff ⟨q0, q1, oq0, oq', oH, oA', w1', w2', cP, D0, D', _, _, rfl, hnd, ⟨y1, y2, y1', y2'⟩, ⟨g0, g', by omega, by omega⟩, ⟨s1, s2, s3, s4⟩, ⟨H.c1, c2'⟩, ⟨k1.trans (H.k1.trans m1), k2.trans (H.k2.trans m2), k3.trans (H.k3.trans m3), k4.trans (H.k4.trans m4)⟩⟩
      | @fresh h'' tk'' m'' qN oA' oN cP' D' F'' N'' l1 sN y1' y2' g' hn' k1 k2 k3 k4 =>
        have hfresh : ∀ b ∈ [lS, lP, q1, q0, v, dv, bm, lR, dO, p1, dx1, p0, dx0, dH, L + 1 + 1, L + 1], b ≠ qN := List.forall_mem_cons.mpr ⟨Nat.ne_of_lt (lt_of_all l1 (by (first | lsm_bools | kat_tups) : (lS, _) ∈ _)), List.forall_mem_cons.mpr ⟨Nat.ne_of_lt (lt_of_all l1 (by (first | lsm_bools | kat_tups) : (lP, _) ∈ _)), List.forall_mem_cons.mpr ⟨Nat.ne_of_lt (lt_of_all l1 (by (first | lsm_bools | kat_tups) : (q1, _) ∈ _)), List.forall_mem_cons.mpr ⟨Nat.ne_of_lt (lt_of_all l1 (by (first | lsm_bools | kat_tups) : (q0, _) ∈ _)), List.forall_mem_cons.mpr ⟨Nat.ne_of_lt (lt_of_all l1 (by (first | lsm_bools | kat_tups) : (v, _) ∈ _)), List.forall_mem_cons.mpr ⟨Nat.ne_of_lt (lt_of_all l1 (by (first | lsm_bools | kat_tups) : (dv, _) ∈ _)), List.forall_mem_cons.mpr ⟨Nat.ne_of_lt (lt_of_all l1 (by (first | lsm_bools | kat_tups) : (bm, _) ∈ _)), List.forall_mem_cons.mpr ⟨Nat.ne_of_lt (lt_of_all l1 (by (first | lsm_bools | kat_tups) : (lR, _) ∈ _)), List.forall_mem_cons.mpr ⟨Nat.ne_of_lt (lt_of_all l1 (by (first | lsm_bools | kat_tups) : (dO, _) ∈ _)), List.forall_mem_cons.mpr ⟨Nat.ne_of_lt (lt_of_all l1 (by (first | lsm_bools | kat_tups) : (p1, _) ∈ _)), List.forall_mem_cons.mpr ⟨Nat.ne_of_lt (lt_of_all l1 (by (first | lsm_bools | kat_tups) : (dx1, _) ∈ _)), List.forall_mem_cons.mpr ⟨Nat.ne_of_lt (lt_of_all l1 (by (first | lsm_bools | kat_tups) : (p0, _) ∈ _)), List.forall_mem_cons.mpr ⟨Nat.ne_of_lt (lt_of_all l1 (by (first | lsm_bools | kat_tups) : (dx0, _) ∈ _)), List.forall_mem_cons.mpr ⟨Nat.ne_of_lt (lt_of_all l1 (by (first | lsm_bools | kat_tups) : (dH, _) ∈ _)), List.forall_mem_cons.mpr ⟨Nat.ne_of_lt (lt_of_all l1 (by (first | lsm_bools | kat_tups) : (L + 1 + 1, _) ∈ _)), List.forall_mem_cons.mpr ⟨Nat.ne_of_lt (lt_of_all l1 (by (first | lsm_bools | kat_tups) : (L + 1, _) ∈ _)), List.forall_mem_nil _⟩⟩⟩⟩⟩⟩⟩⟩⟩⟩⟩⟩⟩⟩⟩⟩
        have hofo : ∀ p ∈ own, p.1 ≠ qN := fun p hp => Nat.ne_of_lt (l1 p (by (first | lsm_bools | kat_tups)))
        exact t_tail (nx := [(lS, S), (lP, listOf #[.ref q0, .ref qN] cP'), (qN, oN), (q0, oq0), (v, slotO 231 dv dH), (dv, dictOf [] 0), (bm, obm), (lR, listOf #[.ref p0, .ref p1] 0), (dO, oA'), (p1, slotO 217 dx1 dO), (dx1, dictOf [] 0), (p0, slotO 195 dx0 dH), (dx0, dictOf [] 0), (dH, oH), (L + 1 + 1, w2'), (L + 1, w1')]) B F'' X T (cb_drop N'' (by kcj_all)) ⟨_, _, rfl⟩ (by omega) (off_app (nx := []) hofo 2 hoff) ⟨q0, qN, oq0, oN, oH, oA', w1', w2', cP', D0, D', _, _, rfl, (nd_set 2 hnd hfresh), ⟨y1, y2, y1', y2'⟩, ⟨g0, g', by omega, by omega⟩, ⟨s1, s2, s3, sN⟩, ⟨H.c1, c2'⟩, ⟨k1.trans (H.k1.trans m1), k2.trans (H.k2.trans m2), k3.trans (H.k3.trans m3), k4.trans (H.k4.trans m4)⟩⟩
end
end Mine

namespace Mine
section
variable {prog : Program} {w : World} {A : Around} {E : Value → Shared → Prop} {s : Shared} {K : Frag} {name : Str}
theorem tga_miss {C : Addr} {tk : Tok} {cd : ClassData} {Q : Fin → Shared → Prop} (X : K.In s.heap) (ho : Looks (model prog w) s.heap (opaqueClassAbove (.ref C)) none) (ht : Looks (model prog w) s.heap (typeOf (.ref C)) (.type "type"))
    (hm : findIn K (.type "type") name = some none) (hn : findIn K (.ref C) name = some none) (hc : clsIn K C = some cd) (hl : cd.name.cps.foldl (fun k c => k + (Str.utf8Of c).length) 0 ≤ 100) (hh : A.handled = none)
    (hz : (((s!"type object '{cd.name.toString}' has no attribute '" : Str) ++ name) ++ ("'" : Str)).length ≤ sizeLine)
    (h : ∀ h' tk' e, (∀ b o, s.heap.get? b = some o → h'.get? b = some o) → (∃ o, h'.get? e = some o ∧ o.cls = .type "AttributeError") → E (.ref e) { s with heap := h', toks := tk' }) :
    wpAny (model prog w) A (Builtin.«type.__getattribute__» ⟨[.ref C, .str name tk], []⟩) Q E s := by
  obtain ⟨hp, g, d, t, os⟩ := s
  dsimp only at X ho ht
  have L1 := looks_findIn (M := model prog w) X hm
  have L2 := looks_findIn (M := model prog w) X hn
  have L3 : Looks (model prog w) hp (typeNameCut 100 (.ref C)) cd.name.toString := by
    unfold typeNameCut
    refine (looks_clsIn X hc).andThen ?_
    dsimp only
    rw [if_pos hl]
    exact Looks.now
  unfold Builtin.«type.__getattribute__»
  refine wpAny_bind (wpAny_pure (wpAny_bind (ho.at (wpAny_bind (ht.at (wpAny_bind (L1.at ?_)))))))
  refine wpAny_bind (wpAny_pure ?_)
  refine wpAny_bind (L2.at ?_)
  dsimp only
  refine wpAny_bind (wpAny_rule ?_)
  refine wpAny_bind (L3.at ?_)
  unfold raiseErrorStr
  refine wpAny_bind (wpAny_mkStr (wpAny_bind ?_) hz)
  unfold newExc newTuple
  refine wpAny_bind (wpAny_newObj_type ?_ (by size_fits))
  refine wpAny_bind (m := firstArgMember _ _) (wpAny_of_eq (a := Value.none) (by simp only [firstArgMember, attrError_no_first]; rfl) ?_)
  rw [ownMembersOf_AttributeError]
  refine wpAny_newObj_type ?_ (by size_fits)
  refine wpAny_raiseNew_none hh ?_
  refine h _ _ _ (fun b o e => Heap.get?_push_of_some _ (Heap.get?_push_of_some _ e)) ⟨_, Heap.get?_push_size _ rfl, rfl⟩
theorem cls_none {C : Addr} {tk : Tok} {cd : ClassData} {Q : Option Value → Shared → Prop} (X : K.In s.heap) (hr : readsIn K C (.type "type") = true)
    (hm : findIn K (.type "type") name = some none) (hn : findIn K (.ref C) name = some none) (hc : clsIn K C = some cd) (hl : cd.name.cps.foldl (fun k c => k + (Str.utf8Of c).length) 0 ≤ 100) (hh : A.handled = none)
    (hz : (((s!"type object '{cd.name.toString}' has no attribute '" : Str) ++ name) ++ ("'" : Str)).length ≤ sizeLine)
    (h : ∀ h' tk', (∀ b o, s.heap.get? b = some o → h'.get? b = some o) → Q none { s with heap := h', toks := tk' }) :
    wpAny (model prog w) A (getAttrBy? (.ref C) (.str name tk)) Q E s := by
  simp only [readsIn, Bool.and_eq_true, beq_iff_eq] at hr
  obtain ⟨⟨⟨⟨a, b⟩, c'⟩, d⟩, f⟩ := hr
  obtain ⟨hk, d⟩ := Option.isSome_iff_exists.mp d
  have ho := looks_opaque (M := model prog w) (C := C) X a
  have ht := looks_typeIn (M := model prog w) X b
  have hb := looks_hook (M := model prog w) X d
  have hi := looks_subIn (M := model prog w) X f
  have f1 := sub_AttributeError
  have hk0 : hk = none := by
    have e : onTheHeap (.type "type") = false := rfl
    rw [e, if_neg (by decide)] at d
    exact (Option.some.inj d).symm
  subst hk0
  unfold getAttrBy?
  refine wpAny_bind (wpAny_attempt ?_)
  unfold getAttrBy
  refine wpAny_holding (wpAny_bind (ht.here (wpAny_bind ((looks_findIn X c').here ?_))))
  dsimp only
  rw [show (onTheHeap (Value.type "type") && Value.builtin "type.__getattribute__" == Value.builtin "object.__getattribute__") = false from rfl, if_neg (by decide)]
  unfold getAttrByItsOwn
  refine wpAny_bind (hb.here (wpAny_bind (wpAny_attempt (wpAny_holding ?_))))
  unfold callGetattribute
  rw [show (false && onTheHeap (Value.builtin "type.__getattribute__")) = false from rfl, if_neg (by decide)]
  unfold boundAndCalled
  rw [KF.slot_tga.bind]
  refine wpAny_bind (wpAny_pure ?_)
  show wpAny _ _ (call (.builtin "type.__getattribute__") [.ref C, .str name tk]) _ _ _
  refine wpAny_call ?_
  refine codeAny_call_builtin KF.slot_tga.plain KF.entry_tga ?_
  refine @check_slot (model prog w) _ _ s "type.__getattribute__" "type" "__getattribute__" (.ref C) [.str name tk] [] _ (by decide +kernel) (by decide +kernel) (ht.andThen hi) (KF.args_tga (.ref C) (.str name tk)) ?_
  refine tga_miss X ho ht hm hn hc hl hh hz fun h' tk' e k he => ?_
  obtain ⟨o, ho', hcl⟩ := he
  have hT : ∀ s' : Shared, s'.heap = h' → s'.TypeIs (.ref e) "AttributeError" := fun s' es => ⟨o, es ▸ ho', hcl⟩
  have f5 : typeLookup (.type "type") "__getattr__" = pure none := am_miss_of_fast (by kernel_rfl)
  dsimp only
  unfold getattributeRaised
  refine wpAny_bind (wpAny_isInstance (hT _ rfl) f1 ?_)
  rw [if_pos rfl]
  refine wpAny_bind ?_
  unfold hookBehind
  rw [if_neg (show ¬ onTheHeap (Value.type "type") = true from Bool.false_ne_true)]
  refine wpAny_of_eq f5 ?_
  unfold hookOrError attributeErrorLeaves
  dsimp only
  refine wpAny_bind ?_
  refine wpAny_throw ?_
  refine wpAny_bind (wpAny_isInstance (hT _ rfl) f1 ?_)
  rw [if_pos rfl]
  exact wpAny_pure (h h' tk' k)
theorem dunder_add : PySem.dunder "add" = Str.ofString "__add__" := by decide +kernel
theorem dunder_radd : PySem.dunderR "add" = Str.ofString "__radd__" := by decide +kernel
theorem looks_numInPy {M : Model} {h : Heap} {C f : Addr} (X : K.In h) (h1 : findIn K (.ref C) "__add__" = some (some (.ref f))) (h2 : findIn K (.ref C) "__radd__" = some none) : Looks M h (numberSlotInPython (.ref C) "add") true := by
  have L1 := looks_findIn (M := M) X h1
  have L2 := looks_findIn (M := M) X h2
  intro A Q E s k q
  unfold numberSlotInPython
  rw [dunder_add, dunder_radd]
  dsimp only
  refine wpAny_bind (L1 A _ E s k ?_)
  refine wpAny_bind (wpAny_pure ?_)
  refine wpAny_bind (L2 A _ E s k ?_)
  refine wpAny_bind (wpAny_pure ?_)
  exact wpAny_pure q
theorem add_two {C D f x y : Addr} {ox oy od oe : Obj} {cd ce : ClassData} {rest rest' : List Value} {L : Addr} {h₀ : Heap} {m : Str → Option Value} {news : List (Addr × Obj)} {Q : Value → Shared → Prop} (F : Fr h₀ L s.heap m) (X₀ : K.In h₀) (N : News h₀ L s.heap news)
    (I : ∀ h', News h₀ L h' news → InstAt h' x ox C (some od)) (J : ∀ h', News h₀ L h' news → InstAt h' y oy D (some oe)) (hCD : (Value.ref C == Value.ref D) = false)
    (c1 : clsIn K C = some cd) (m1 : cd.mro = .ref C :: rest) (c2 : clsIn K D = some ce) (m2 : ce.mro = .ref D :: rest')
    (a1 : findIn K (.ref C) "__add__" = some (some (.ref f))) (a2 : findIn K (.ref D) "__add__" = some (some (.ref f))) (r1 : findIn K (.ref C) "__radd__" = some none) (r2 : findIn K (.ref D) "__radd__" = some none)
    (sb : subIn K (.ref D) (.ref C) = some true) (hf : isFn K (.ref f) = true) (hr : readsIn K D (.type "type") = true) (hm : findIn K (.type "type") "__radd__" = some none)
    (hl : ce.name.cps.foldl (fun k c => k + (Str.utf8Of c).length) 0 ≤ 100) (hh : A.handled = none)
    (hz : (((s!"type object '{ce.name.toString}' has no attribute '" : Str) ++ "__radd__") ++ ("'" : Str)).length ≤ sizeLine)
    (h : ∀ h' tk', Fr h₀ L h' m → News h₀ L h' news → wpAny (model prog w) A (call (.ref f) [.ref x, .ref y]) (PySem.W.CmpBack Q) E { s with heap := h', toks := tk' }) :
    wpAny (model prog w) A (binaryOp .Add (.ref x) (.ref y)) Q E s := by
  have X := X₀.keeps F.keep
  unfold binaryOp
  refine wpAny_holding (wpAny_bind ?_)
  unfold binaryOp1
  refine wpAny_bind ((I _ N).type.here (wpAny_bind ((J _ N).type.here (wpAny_bind ((fills_K (nm := "add") X c1 m1 (dunder_add ▸ a1)).here ?_)))))
  rw [hCD, if_neg (by decide)]
  refine wpAny_bind ((fills_K (nm := "add") X c2 m2 (dunder_add ▸ a2)).here ?_)
  simp only [Bool.and_self, if_true]
  refine wpAny_bind ((looks_subIn X sb).here ?_)
  simp only [if_true]
  refine wpAny_bind ?_
  unfold reflectedDiffers
  refine wpAny_bind ((looks_numInPy X a1 r1).here ?_)
  simp only [Bool.not_true, Bool.false_eq_true, if_false]
  refine wpAny_bind ((looks_numInPy X a2 r2).here ?_)
  simp only [Bool.not_true, Bool.false_eq_true, if_false]
  rw [dunder_radd]
  refine wpAny_bind (wpAny_mkStr ?_ (by rw [sizeLine_eq]; decide))
  refine wpAny_bind (cls_none X hr hm r2 c2 hl hh hz fun h' tk' k => ?_)
  have F' := F.keeps k
  have N' : News h₀ L h' news := fun p hp => ⟨k _ _ (N p hp).1, (N p hp).2⟩
  have X' := X.keeps k
  dsimp only
  refine wpAny_pure ?_
  simp only [Bool.false_eq_true, if_false, Bool.not_false, Bool.and_self, if_true]
  refine wpAny_bind ((looks_numInPy X' a1 r1).here ?_)
  simp only [if_true]
  refine wpAny_bind ((looks_numInPy X' a2 r2).here ?_)
  simp only [Bool.not_true, Bool.false_eq_true, if_false]
  refine wpAny_bind (m := tryMethod (.ref x) _ (.ref y)) ?_
  unfold tryMethod
  rw [dunder_add]
  refine wpAny_bind (special_fn X' (I _ N') a1 (beq_iff_eq.mp hf) (wpAny_mono (h _ _ F' N') (fun v s' hv => ?_) fun _ _ e => e))
  cases v <;> first | exact hv.elim | exact wpAny_pure (wpAny_pure (wpAny_pure hv))
end
end Mine

namespace Mine
open PyProof.V PySem.Spec
theorem Flats.app : ∀ {vs us : List Value} {ds es : List PyData}, Flats vs ds → Flats us es → Flats (vs ++ us) (ds ++ es)
  | [], _, [], _, _, h => h
  | _ :: _, _, _ :: _, _, h, g => ⟨h.1, Flats.app h.2 g⟩
  | [], _, _ :: _, _, h, _ => h.elim
  | _ :: _, _, [], _, h, _ => h.elim
theorem add_flats {prog : Program} {w : World} {A : Around} {E : Value → Shared → Prop} {s : Shared} {h₀ : Heap} {L a b : Addr} {m : Str → Option Value} {news : List (Addr × Obj)} {vs us : List Value} {ds es : List PyData} {n k : Nat} {Q : Value → Shared → Prop}
    (F : Fr h₀ L s.heap m) (N : News h₀ L s.heap news) (ha : (a, listOf vs.toArray n) ∈ news) (hb : (b, listOf us.toArray k) ∈ news) (fa : Flats vs ds) (fb : Flats us es) (hz : ds.length + es.length ≤ 10000)
    (h : ∀ D h' zs, Fr h₀ L h' m → News h₀ L h' ((D, listOf (List.toArray zs) 0) :: news) → (∀ p ∈ news, p.1 < D) → Flats zs (ds ++ es) → Q (.ref D) { s with heap := h' }) :
    wpAny (model prog w) A (binaryOp .Add (.ref a) (.ref b)) Q E s :=
  kmk_add_lit (its := vs.toArray) (its2 := us.toArray) F N (News.isList N ha) (News.isList N hb) rfl (fun D h' F' N' l => h D h' _ F' N' l (by simpa using fa.app fb))
    (by rw [sizeLine_eq]; show vs.toArray.toList.length + us.toArray.toList.length ≤ _; simp only [List.toList_toArray]; rw [fa.len, fb.len]; omega)
end Mine
local macro_rules | `(tactic| walk_at "binaryOp Add ref ref") => `(tactic| (k_here; k_dflt (refine' Mine.add_flats ?F ?N ?ha ?hb ?fa ?fb ?hz ?_; (case F => k_asm); (case N => k_asm); (case ha => (first | lsm_bools | kat_tups)); (case hb => (first | lsm_bools | kat_tups)); (case fa => (first | with_reducible assumption | with_reducible_and_instances assumption | assumption)); (case fb => (first | with_reducible assumption | with_reducible_and_instances assumption | assumption)); (case hz => (simp only [List.length_map]; omega)); k_whole; intro D' h' zs' F' N' l1 f')))
namespace Mine
open PyProof.V PySem.Spec
section
variable {w : World} {dp un : Nat} {gd : Option (List Code)} {cn : Str} {cs : Scope} {a : Addr} {ccd : Value} {cl : List (Str × Addr)} {outer : List Env} {A₀ : Around} {base h₀ : Heap} {L : Addr} {m : Str → Option Value} {s : Shared}
  {R : Result → Shared → Prop} {news : List (Addr × Obj)} {mg mb : Str → Option Value} {mean : ExcName → Option Value} {p C dx d : Addr} {o : Obj} {D : List (PyData × PyData)}
variable {p2 d2 dx2 : Addr} {o2 : Obj} {D2 : List (PyData × PyData)}
set_option maxHeartbeats 2000000 in
theorem c_add (h1 : (p, slotO 195 dx d) ∈ news) (h2 : (dx, dictOf [] 0) ∈ news) (h3 : (d, o) ∈ news) (hD : DataOf PySem.Challenge.rw_ep5036_01.row.prog w o D) (lo : (d == sysModules) = false) (hn : D.length ≤ 1000)
    (h1' : (p2, slotO 217 dx2 d2) ∈ news) (h2' : (dx2, dictOf [] 0) ∈ news) (h3' : (d2, o2) ∈ news) (hD' : DataOf PySem.Challenge.rw_ep5036_01.row.prog w o2 D2) (lo' : (d2 == sysModules) = false) (hn' : D2.length ≤ 1000) (B : Below A₀ base outer h₀) (F : Fr h₀ L s.heap m) (X : (Mine.hd.heap_39 w.params).In h₀) (N : News h₀ L s.heap news) (T : Top Mine.hd.view_39 (looseW Mine.hd.view_39 [Str.ofString "ReadOnlyContainer", Str.ofString "Properties", Str.ofString "OrderedProperties", Str.ofString "ReadOnlyProperties"]) mean mg mb h₀) (hck : cs.kind = .function) (hdp : dp + 40 < recursionLimit) (hun : un + 400 < cLine)
    (hret : ∀ r h' tk vs, Fr h₀ L h' m → News h₀ L h' ((r, listOf vs.toArray 0) :: news) → (∀ q ∈ news, q.1 < r) → Flats vs (D.map (·.2) ++ D2.map (·.2)) → R (.ok (.ret (.ref r))) { s with heap := h', toks := tk }) :
    codeAny (model PySem.Challenge.rw_ep5036_01.row.prog w) (ktrTop dp un gd cn cs L a ccd cl outer) (.call (.ref 92) ⟨[.ref p, .ref p2], []⟩) R s := by
  have Tb : Tbl w := tbl w ⟨_, X⟩ rfl
  have O1 : Own p := rfl
  have O2 : Own p2 := rfl
  have i0 : IsP 195 := .inl rfl
  have i1 : IsP 217 := .inr (.inl rfl)
  revert X
  k_fill
  intro X
  k_dflt cell_enter
  (repeat' ((fail_if_success (first | with_reducible refine Mine.id_compSrc ?_ | with_reducible refine Mine.id_srcT ?_ | with_reducible refine Mine.id_eltPost ?_)); (first | (k_unfold; (try dsimp only)) | walk1 | (dsimp only; walk1) | (leave1; try dsimp only) | fail "no step")))
  (repeat' ((fail_if_success (first | with_reducible refine Mine.id_compSrc ?_ | with_reducible refine Mine.id_srcT ?_ | with_reducible refine Mine.id_eltPost ?_)); (first | (k_unfold; (try dsimp only)) | walk1 | (dsimp only; walk1) | (leave1; try dsimp only) | fail "no step")))
  exact hret _ _ _ _ (by (first | with_reducible assumption | with_reducible_and_instances assumption | assumption)) (cb_drop (by (first | with_reducible assumption | with_reducible_and_instances assumption | assumption)) (by kcj_all)) (fun q hq => lt_of_all (by (first | with_reducible assumption | with_reducible_and_instances assumption | assumption)) (by (first | lsm_bools | kat_tups))) (by (first | with_reducible assumption | with_reducible_and_instances assumption | assumption))
end
end Mine

local macro_rules | `(tactic| walk_at "binaryOp Add ref ref") => `(tactic| (k_here; k_dflt (refine' Mine.add_flats ?F ?N ?ha ?hb ?fa ?fb ?hz ?_; (case F => k_asm); (case N => k_asm); (case ha => (first | lsm_bools | kat_tups)); (case hb => (first | lsm_bools | kat_tups)); (case fa => (first | with_reducible assumption | with_reducible_and_instances assumption | assumption)); (case fb => (first | with_reducible assumption | with_reducible_and_instances assumption | assumption)); (case hz => (simp only [List.length_map]; omega)); k_whole; intro D' h' zs' F' N' l1 f')))
namespace Mine
open PyProof.V PySem.Spec
section
variable {w : World}
theorem mro_of {K : Frag} {C : Addr} (h : selfFirst K C = true) : ∃ cd rest, clsIn K C = some cd ∧ cd.mro = .ref C :: rest := by
  obtain ⟨cd, hcd, hm⟩ := any_some h
  cases q : cd.mro with
  | nil => rw [q] at hm; cases hm
  | cons a r => rw [q] at hm; exact ⟨cd, r, hcd, by rw [q]; rw [List.head?_cons] at hm; cases (beq_iff_eq.mp hm); rfl⟩
structure TblA (w : World) : Prop where
  nm : (clsIn (Mine.hd.heap_39 w.params) 217).map (·.name) = some (Str.ofString "OrderedProperties")
  r1 : findIn (Mine.hd.heap_39 w.params) (.ref 195) "__radd__" = some none
  r2 : findIn (Mine.hd.heap_39 w.params) (.ref 217) "__radd__" = some none
  sb : subIn (Mine.hd.heap_39 w.params) (.ref 217) (.ref 195) = some true
  hr : readsIn (Mine.hd.heap_39 w.params) 217 (.type "type") = true
  hm : findIn (Mine.hd.heap_39 w.params) (.type "type") "__radd__" = some none
set_option maxHeartbeats 8000000 in
theorem tblA (w : World) (h : ∃ h₀, (Mine.hd.heap_39 w.params).In h₀) : PySem.Challenge.rw_ep5036_01.row.prog = PySem.Challenge.rw_ep5036_01.row.prog → TblA w := by
  revert h
  k_fill
  intro _ _
  refine ⟨?_, ?_, ?_, ?_, ?_, ?_⟩
  all_goals first | k_is | decide +kernel | rfl
end
def lawEnd : List Stmt := match lawStmt with | some st => (partsOf st).1.drop 5 | none => []
section
variable {w : World} {h₀ : Heap} {L fa : Addr} {arg : Value} {m : Str → Option Value} {s s₁ : Shared} {mg mb : Str → Option Value} {mean : ExcName → Option Value} {Q : Flow → Shared → Prop} {E : Value → Shared → Prop}
  {lS lP v dv bm lR dO p1 dx1 p0 dx0 dH : Addr} {S obm : Obj} {i : Nat} {nx own : List (Addr × Obj)}
set_option maxHeartbeats 4000000 in
theorem t_end (B : Below callerA h₀ [] h₀) (F : Fr h₀ L s.heap m) (X : (Mine.hd.heap_39 w.params).In h₀) (T : Top Mine.hd.view_39 (looseW Mine.hd.view_39 [Str.ofString "ReadOnlyContainer", Str.ofString "Properties", Str.ofString "OrderedProperties", Str.ofString "ReadOnlyProperties"]) mean mg mb h₀) (N : News h₀ L s.heap nx) (hi : i ≤ 24)
    (hJ : JL w lS lP v dv bm lR dO p1 dx1 p0 dx0 dH (L + 1 + 1) (L + 1) S obm i m nx)
    (hQ : ∀ h' tk' m' nx', Fr h₀ L h' m' → News h₀ L h' nx' → Q (.ret (.bool true)) { s with heap := h', toks := tk' }) :
    wpAny (model PySem.Challenge.rw_ep5036_01.row.prog w) (callerA.deeper (envOfC (Str.ofString "law") lawSc L fa arg)) (execs lawEnd (envOfC (Str.ofString "law") lawSc L fa arg)) Q E s := by
  have Tb : Tbl w := tbl w ⟨_, X⟩ rfl
  obtain ⟨q0, q1, oq0, oq1, oH, oO, w1, w2, cP, D0, D1, v1, v2, rfl, hnd, ⟨y1,y2,y3,y4⟩, ⟨g0,g1,n0,n1⟩, ⟨s1,s2,s3,s4⟩, ⟨c1,c2⟩, ⟨m1,m2,m3,m4⟩⟩ := hJ
  have N' := N
  have n0' : D0.length ≤ 1000 := by omega
  have n1' : D1.length ≤ 1000 := by omega
  have i0 : IsP 195 := .inl rfl
  have i1 : IsP 217 := .inr (.inl rfl)
  have i2 : IsP 231 := .inr (.inr rfl)
  have Tw : TblW w := tblW w ⟨_, X⟩ rfl
  have O0 : Own p0 := rfl
  have O1 : Own p1 := rfl
  clear hnd n0 n1 hi N
  generalize hsc : lawSc = sc
  have hsc' := scope_lit hsc (by with_unfolding_all rfl)
  subst hsc'
  clear hsc
  revert X
  k_fill
  intro X
  refine execs_lit1 (by with_unfolding_all rfl) ?_
  (repeat' ((fail_if_success (first | with_reducible refine Mine.id_binaryOp ?_ | with_reducible refine Mine.id_compSrc ?_ | with_reducible refine Mine.id_srcT ?_ | with_reducible refine Mine.id_eltPost ?_)); (first | (k_unfold; (try dsimp only)) | walk1 | (dsimp only; walk1) | (leave1; try dsimp only) | fail "no step")))
  have Ta := tblA w ⟨_, X⟩ rfl
  obtain ⟨cd, rest, c1, m1⟩ := mro_of (Tw.self 195 (.inl rfl))
  obtain ⟨ce, rest', c2, m2⟩ := mro_of (Tw.self 217 (.inr rfl))
  have hnm : ce.name = Str.ofString "OrderedProperties" := by have := Ta.nm; rw [c2] at this; exact Option.some.inj this
  refine add_two (K := (Mine.hd.heap_39 w.params)) (by (first | with_reducible assumption | with_reducible_and_instances assumption | assumption)) (by (first | with_reducible assumption | with_reducible_and_instances assumption | assumption)) (by (first | with_reducible assumption | with_reducible_and_instances assumption | assumption)) (fun h' N' => InstAt.of_news N' (by (first | lsm_bools | kat_tups)) (by (first | lsm_bools | kat_tups))) (fun h' N' => InstAt.of_news N' (by (first | lsm_bools | kat_tups)) (by (first | lsm_bools | kat_tups))) rfl c1 m1 c2 m2 (Tw.add _ (.inl rfl)) (Tw.add _ (.inr rfl)) Ta.r1 Ta.r2 Ta.sb Tw.fnAdd Ta.hr Ta.hm (by rw [hnm]; decide) rfl (by rw [hnm, sizeLine_eq]; decide) fun h' tk' F' N' => ?_
  refine wpAny_call ?_
  have S1 : SeqAt.shaped (.list (D0.map (·.2) ++ D1.map (·.2))) = true := shaped_oks fun d hd => by
    rcases List.mem_append.mp hd with hd | hd
    · obtain ⟨q, hq, rfl⟩ := List.mem_map.mp hd; exact (g0 q hq).2
    · obtain ⟨q, hq, rfl⟩ := List.mem_map.mp hd; exact (g1 q hq).2
  refine' c_add ?h1 ?h2 ?h3 ?hD ?lo ?hn ?h1' ?h2' ?h3' ?hD' ?lo' ?hn' ?B ?F ?X ?N ?T ?ck ?dp ?un ?_
  (case F => k_asm); (case N => k_asm); (case B => k_asm); (case X => k_asm); (case T => k_asm)
  (case h1 => (first | lsm_bools | kat_tups)); (case h3 => (first | lsm_bools | kat_tups)); (case h2 => (first | lsm_bools | kat_tups)); (case h1' => (first | lsm_bools | kat_tups)); (case h3' => (first | lsm_bools | kat_tups)); (case h2' => (first | lsm_bools | kat_tups))
  (case hD => (first | with_reducible assumption | with_reducible_and_instances assumption | assumption)); (case lo => (first | with_reducible assumption | with_reducible_and_instances assumption | assumption)); (case hn => (first | with_reducible assumption | with_reducible_and_instances assumption | assumption)); (case hD' => (first | with_reducible assumption | with_reducible_and_instances assumption | assumption)); (case lo' => (first | with_reducible assumption | with_reducible_and_instances assumption | assumption)); (case hn' => (first | with_reducible assumption | with_reducible_and_instances assumption | assumption))
  (case ck => exact rfl); (case dp => ktr_room); (case un => ktr_units)
  k_whole
  intro r' h' tk' vs' F' N' l1 f'
  dsimp only [PySem.W.CmpBack]
  (repeat' ((fail_if_success (first | with_reducible refine Mine.id_compSrc ?_ | with_reducible refine Mine.id_srcT ?_ | with_reducible refine Mine.id_eltPost ?_)); (first | (k_unfold; (try dsimp only)) | walk1 | (dsimp only; walk1) | (leave1; try dsimp only) | fail "no step")))
  exact hQ _ _ _ _ (by (first | with_reducible assumption | with_reducible_and_instances assumption | assumption)) (by (first | with_reducible assumption | with_reducible_and_instances assumption | assumption))
end
end Mine

namespace Mine
open PyProof.V PySem.Spec
/-- falling from entry to entry -/
noncomputable def Desc : List Addr → Prop
  | [] => True
  | [_] => True
  | a :: b :: r => @LT.lt Nat _ b a ∧ Desc (b :: r)
theorem Desc.below : ∀ {a : Addr} {r : List Addr}, Desc (a :: r) → ∀ x ∈ r, @LT.lt Nat _ x a
  | _, [], _, _, h => nomatch h
  | a, b :: r, h, x, hx => by
    rcases List.mem_cons.mp hx with e | hx
    · rw [e]; exact h.1
    · exact Nat.lt_trans (Desc.below h.2 x hx) h.1
theorem Desc.nd : ∀ {l : List Addr}, Desc l → l.Nodup
  | [], _ => List.nodup_nil
  | [_], _ => List.nodup_cons.mpr ⟨fun h => (nomatch h), List.nodup_nil⟩
  | a :: b :: r, h => List.nodup_cons.mpr ⟨fun hm => Nat.lt_irrefl a (Desc.below h a hm), Desc.nd h.2⟩
theorem take_len {vs : List Value} {ws : List Int} (h : IntsAre vs (List.take 24 ws)) : vs.length ≤ 24 := by
  rw [h.length, List.length_take]; exact Nat.min_le_left _ _
def lawAll : List Stmt := match lawStmt with | some st => (partsOf st).1 | none => []
section
variable {w : World} {h₀ : Heap} {L fa : Addr} {arg : Value} {m : Str → Option Value} {s : Shared} {mg mb : Str → Option Value} {mean : ExcName → Option Value} {Q : Flow → Shared → Prop} {E : Value → Shared → Prop}
set_option maxHeartbeats 4000000 in
theorem t_law {a : Addr} {vs : List Value} {ns : List Int} {w1 w2 : Obj} {v1 v2 : Option Value} (B : Below callerA h₀ [] h₀) (F : Fr h₀ L s.heap m) (X : (Mine.hd.heap_39 w.params).In h₀) (T : Top Mine.hd.view_39 (looseW Mine.hd.view_39 [Str.ofString "ReadOnlyContainer", Str.ofString "Properties", Str.ofString "OrderedProperties", Str.ofString "ReadOnlyProperties"]) mean mg mb h₀)
    (N : News h₀ L s.heap [(L + 1 + 1, w2), (L + 1, w1)]) (c1 : w1.data = .cell v1) (c2 : w2.data = .cell v2) (hm : m "script" = some (.ref a)) (hL : h₀.IsList a vs.toArray) (hI : IntsAre vs ns) (hz : ¬ ((63 : Int) < (ns.length : Int)))
    (hE : PassesOwn (model PySem.Challenge.rw_ep5036_01.row.prog w) (callerA.deeper (envOfC (Str.ofString "law") lawSc L fa arg)) (envOfC (Str.ofString "law") lawSc L fa arg) E)
    (hQ : ∀ h' tk' m' nx', Fr h₀ L h' m' → News h₀ L h' nx' → Q (.ret (.bool true)) { s with heap := h', toks := tk' }) :
    wpAny (model PySem.Challenge.rw_ep5036_01.row.prog w) (callerA.deeper (envOfC (Str.ofString "law") lawSc L fa arg)) (execs lawAll (envOfC (Str.ofString "law") lawSc L fa arg)) Q E s := by
  have Tb : Tbl w := tbl w ⟨_, X⟩ rfl
  have hsz : vs.toArray.size ≤ sizeLine := by rw [sizeLine_eq, List.size_toArray, hI.length]; omega
  generalize hsc : lawSc = sc at hE ⊢
  have hsc' := scope_lit hsc (by with_unfolding_all rfl)
  subst hsc'
  clear hsc
  revert X
  k_fill
  intro X
  refine execs_lit (by with_unfolding_all rfl) ?_
  (repeat' ((fail_if_success (first | with_reducible refine Mine.id_leaving ?_ | with_reducible refine Mine.id_pyIter ?_ | with_reducible refine Mine.id_For ?_ | with_reducible refine Mine.id_compSrc ?_ | with_reducible refine Mine.id_srcT ?_ | with_reducible refine Mine.id_eltPost ?_)); (first | (k_unfold; (try dsimp only)) | walk1 | (dsimp only; walk1) | (leave1; try dsimp only) | fail "no step")))
  have vf : VF := rfl
  with_unfolding_all refine For_invVF (hE := hE) (by (first | with_reducible assumption | with_reducible_and_instances assumption | assumption)) (by rfl) (by rfl) ?_
  (repeat' ((fail_if_success (first | with_reducible refine Mine.id_subTail ?_ | with_reducible refine Mine.id_compSrc ?_ | with_reducible refine Mine.id_srcT ?_ | with_reducible refine Mine.id_eltPost ?_)); (first | (k_unfold; (try dsimp only)) | walk1 | (dsimp only; walk1) | (leave1; try dsimp only) | fail "no step")))
  refine kmk_slice_ints (by (first | with_reducible assumption | with_reducible_and_instances assumption | assumption)) (by (first | with_reducible assumption | with_reducible_and_instances assumption | assumption)) (Fr.lst (by (first | with_reducible assumption | with_reducible_and_instances assumption | assumption)) hL) IsPart.none (IsPart.int _ _) hI (by kmk_nums) (List.length_take ..) (fun D' ws' h' F' N' l1 hI' _ _ => ?_) (by with_unfolding_all rfl) (by kmk_pure) hsz
  k_lt l1
  (repeat' ((fail_if_success (first | with_reducible refine Mine.id_leaving ?_ | with_reducible refine Mine.id_pyIter ?_ | with_reducible refine Mine.id_For ?_ | with_reducible refine Mine.id_compSrc ?_ | with_reducible refine Mine.id_srcT ?_ | with_reducible refine Mine.id_eltPost ?_)); (first | (k_unfold; (try dsimp only)) | walk1 | (dsimp only; walk1) | (leave1; try dsimp only) | fail "no step")))
  refine' kdl_iter (fun i m nx => JL _ _ _ _ _ _ _ _ _ _ _ _ _ _ _ _ _ i m nx) ?hh ?hl ?F ?N ?hj ?turn ?done
  (case F => (first | with_reducible assumption | with_reducible_and_instances assumption | assumption))
  (case N => (first | with_reducible assumption | with_reducible_and_instances assumption | assumption))
  (case hh => rfl)
  (case hl => (first | lsm_bools | kat_tups))
  (case hj =>
    refine' ⟨_, _, _, _, _, _, _, _, _, _, _, _, _, rfl, ?nd, ⟨⟨_, by (first | with_reducible assumption | with_reducible_and_instances assumption | assumption), .nil⟩, ⟨_, by (first | with_reducible assumption | with_reducible_and_instances assumption | assumption), .nil⟩, ⟨_, by (first | with_reducible assumption | with_reducible_and_instances assumption | assumption), .nil⟩, ⟨_, by (first | with_reducible assumption | with_reducible_and_instances assumption | assumption), .nil⟩⟩, ⟨Good.nil, Good.nil, Nat.zero_le _, Nat.zero_le _⟩, ⟨by (first | with_reducible assumption | with_reducible_and_instances assumption | assumption), by (first | with_reducible assumption | with_reducible_and_instances assumption | assumption), by (first | with_reducible assumption | with_reducible_and_instances assumption | assumption), by (first | with_reducible assumption | with_reducible_and_instances assumption | assumption)⟩, ⟨by (first | with_reducible assumption | with_reducible_and_instances assumption | assumption), by (first | with_reducible assumption | with_reducible_and_instances assumption | assumption)⟩, ⟨rfl, rfl, rfl, rfl⟩⟩
    simp only [List.map_cons, List.map_nil]
    refine Desc.nd ⟨?_, ?_, ?_, ?_, ?_, ?_, ?_, ?_, ?_, ?_, ?_, ?_, ?_, ?_, ?_, trivial⟩
    all_goals first
      | rfl
      | exact Nat.lt_succ_self _
      | omega)
  (case turn =>
    intro i x0 m₁ news₁ h tk own hv hoff hlS hJ F N
    obtain ⟨n, t, rfl, hin⟩ := IntsAre.at (by (first | with_reducible assumption | with_reducible_and_instances assumption | assumption)) i x0 hv
    have hi : i < 24 := by
      have h1 := (List.getElem?_eq_some_iff.mp hin).1
      rw [List.length_take] at h1
      omega
    with_unfolding_all exact t_turn (by (first | with_reducible assumption | with_reducible_and_instances assumption | assumption)) F (by (first | with_reducible assumption | with_reducible_and_instances assumption | assumption)) (by (first | with_reducible assumption | with_reducible_and_instances assumption | assumption)) N hi hoff hJ)
  (case done =>
    intro m₁ news₁ h tk hJ F N
    have hi := take_len (by (first | with_reducible assumption | with_reducible_and_instances assumption | assumption))
    dsimp only
    with_unfolding_all exact t_end (by (first | with_reducible assumption | with_reducible_and_instances assumption | assumption)) F (by (first | with_reducible assumption | with_reducible_and_instances assumption | assumption)) (by (first | with_reducible assumption | with_reducible_and_instances assumption | assumption)) N hi hJ (fun h' tk' m' nx' F' N' => hQ h' tk' m' nx' F' N'))
end
set_option maxHeartbeats 4000000 in
theorem law_holds : PySem.Challenge.rw_ep5036_01.Holds :=
  Mine.hd (by
    k_go0
    (all_goals try k_fold)
    with_unfolding_all refine t_law (by (first | with_reducible assumption | with_reducible_and_instances assumption | assumption)) (by (first | with_reducible assumption | with_reducible_and_instances assumption | assumption)) (by (first | with_reducible assumption | with_reducible_and_instances assumption | assumption)) (by (first | with_reducible assumption | with_reducible_and_instances assumption | assumption)) (by (first | with_reducible assumption | with_reducible_and_instances assumption | assumption)) (by (first | with_reducible assumption | with_reducible_and_instances assumption | assumption)) (by (first | with_reducible assumption | with_reducible_and_instances assumption | assumption)) (by with_unfolding_all rfl) (by (first | with_reducible assumption | with_reducible_and_instances assumption | assumption)) (by (first | with_reducible assumption | with_reducible_and_instances assumption | assumption)) (by (first | with_reducible assumption | with_reducible_and_instances assumption | assumption)) (by passes_own) (fun h' tk' m' nx' F' N' => ?_)
    (repeat' ((fail_if_success (first | with_reducible refine Mine.id_compSrc ?_ | with_reducible refine Mine.id_srcT ?_ | with_reducible refine Mine.id_eltPost ?_)); (first | (k_unfold; (try dsimp only)) | walk1 | (dsimp only; walk1) | (leave1; try dsimp only) | fail "no step")))
    close_w)
end Mine

theorem PySem.Challenge.cw_ep5036_01_holds : PySem.Challenge.rw_ep5036_01.Holds :=
  Mine.law_holds
