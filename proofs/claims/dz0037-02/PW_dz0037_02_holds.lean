import PyProof.Rows.All
import Wide.All
import OpenK.AllK
import Wide.FinOn
import KE.KSortAsk
import KE.KSortKey
import KE.KFromBytes
import Lean
import PySem.Challenge.RW_dz0037_02
set_option Elab.async false
set_option linter.all false
set_option genInjectivity false
set_option genSizeOf false
-- part M1
section
open PySem PySem.W PySem.Calls PyProof.Rows
set_option maxRecDepth 100000
namespace Mine

/-- the whole heap as a fragment: so that the library's rules over a fragment serve at any heap -/
noncomputable def whole (h : Heap) : Frag := (List.range h.objs.size).filterMap fun a => (h.get? a).map fun o => (a, o)

theorem lookup_fm (h : Heap) (a : Addr) : ∀ l : List Nat, (l.filterMap fun b => (h.get? b).map fun o => (b, o)).lookup a = if a ∈ l then h.get? a else none
  | [] => rfl
  | b :: l => by
    rw [List.filterMap_cons]
    cases hb : h.get? b with
    | none =>
      simp only [Option.map_none]
      rw [lookup_fm h a l]
      by_cases e : a = b
      · subst e
        simp [hb]
      · simp [e]
    | some o =>
      simp only [Option.map_some, List.lookup_cons]
      by_cases e : a = b
      · subst e
        simp [hb]
      · have : (a == b) = false := by simp [e]
        rw [this]
        simp only [lookup_fm h a l, List.mem_cons, e, false_or]

theorem whole_lookup (h : Heap) (a : Addr) : (whole h).lookup a = h.get? a := by
  unfold whole
  rw [lookup_fm]
  by_cases q : a ∈ List.range h.objs.size
  · rw [if_pos q]
  · rw [if_neg q]
    cases e : h.get? a with
    | none => rfl
    | some o => exact absurd (List.mem_range.mpr (Heap.lt_size e)) q

theorem whole_in (h : Heap) : (whole h).In h := fun a o e => by rw [whole_lookup] at e; exact e

end Mine
end

-- part M2
section
open PySem PySem.W PySem.Calls PyProof.Rows
set_option maxRecDepth 100000
namespace Mine

/-- a key's class, as an object -/
noncomputable abbrev kObj (C N : Addr) (q : Str) (k0 k1 k2 k3 k5 : Option Value) : Obj :=
  excClassObj "K" q C N [.type "object"] [.type "object"] false ["obj"] [] false none none k0 k1 k2 k3 k5 "object.__new__"

/-- its namespace's entries -/
noncomputable abbrev kEs (e : Nat → Int) (t : Nat → Tok) (mo fl : Value) (sl fi flt fgt feq fle fge sa md : Addr) : List DictEntry :=
  [⟨e 0, .str "__module__" (t 0), mo⟩, ⟨e 1, .str "__firstlineno__" (t 1), fl⟩, ⟨e 2, .str "__slots__" (t 2), .ref sl⟩, ⟨e 3, .str "__init__" (t 3), .ref fi⟩,
   ⟨e 4, .str "__lt__" (t 4), .ref flt⟩, ⟨e 5, .str "__gt__" (t 5), .ref fgt⟩, ⟨e 6, .str "__eq__" (t 6), .ref feq⟩, ⟨e 7, .str "__le__" (t 7), .ref fle⟩, ⟨e 8, .str "__ge__" (t 8), .ref fge⟩,
   ⟨e 9, .str "__hash__" (t 9), .none⟩, ⟨e 10, .str "__static_attributes__" (t 10), .ref sa⟩, ⟨e 11, .str "obj" (t 11), .ref md⟩, ⟨e 12, .str "__doc__" (t 12), .none⟩]
noncomputable abbrev kNs (e : Nat → Int) (t : Nat → Tok) (mo fl : Value) (sl fi flt fgt feq fle fge sa md : Addr) (ep : Nat) : Obj :=
  ⟨.type "dict", none, .dict (kEs e t mo fl sl fi flt fgt feq fle fge sa md).toArray ep, #[]⟩
noncomputable abbrev kMd (tn : Tok) (C : Addr) : Obj := ⟨.type "member_descriptor", none, .fields #[.str "obj" tn, .ref C, .builtin "proto.slot", .builtin "proto.slot#set", rawInt 0], #[]⟩

/-- what is known of the class: addresses -/
structure KA where
  C : Addr
  N : Addr
  md : Addr
  sl : Addr
  sa : Addr
  fi : Addr
  fn : CmpOp → Addr
structure KAt (h : Heap) (a : KA) : Prop where
  cls : ∃ q k0 k1 k2 k3 k5, h.get? a.C = some (kObj a.C a.N q k0 k1 k2 k3 k5)
  ns : ∃ e t mo fl ep, h.get? a.N = some (kNs e t mo fl a.sl a.fi (a.fn .Lt) (a.fn .Gt) (a.fn .Eq) (a.fn .LtE) (a.fn .GtE) a.sa a.md ep)
  md : ∃ tn, h.get? a.md = some (kMd tn a.C)
  fi : ∃ od fd sl, h.get? a.fi = some ⟨.type "function", od, .func fd, sl⟩
  fn : ∀ op ∈ [CmpOp.Lt, .Gt, .Eq, .LtE, .GtE], ∃ od fd sl, h.get? (a.fn op) = some ⟨.type "function", od, .func fd, sl⟩
  st : ∃ oc od ep sl, h.get? cStatics = some ⟨oc, od, .dict #[] ep, sl⟩

theorem KAt.keeps {h h' : Heap} {a : KA} (x : KAt h a) (k : ∀ b o, h.get? b = some o → h'.get? b = some o) : KAt h' a :=
  by
  obtain ⟨⟨q, k0, k1, k2, k3, k5, e1⟩, ⟨e, t, mo, fl, ep, e2⟩, ⟨tn, e3⟩, ⟨od, fd, sl, e4⟩, e5, ⟨oc, od', ep', sl', e6⟩⟩ := x
  refine ⟨⟨q, k0, k1, k2, k3, k5, k _ _ e1⟩, ⟨e, t, mo, fl, ep, k _ _ e2⟩, ⟨tn, k _ _ e3⟩, ⟨od, fd, sl, k _ _ e4⟩, fun op ho => ?_, ⟨oc, od', ep', sl', k _ _ e6⟩⟩
  obtain ⟨od, fd, sl, q⟩ := e5 op ho
  exact ⟨od, fd, sl, k _ _ q⟩

/-- a key made -/
noncomputable def InstK (h : Heap) (a : KA) (x : Addr) (v : Value) : Prop := ∃ dx, h.get? x = some ⟨.ref a.C, some dx, .plain, #[some v]⟩ ∧ h.get? dx = some ⟨.type "dict", none, .dict #[], #[]⟩
theorem InstK.keeps {h h' : Heap} {a : KA} {x : Addr} {v : Value} (i : InstK h a x v) (k : ∀ b o, h.get? b = some o → h'.get? b = some o) : InstK h' a x v :=
  by
  obtain ⟨dx, p, q⟩ := i
  exact ⟨dx, k _ _ p, k _ _ q⟩

section
variable {prog : Program} {w : World} {A : Around} {E : Value → Shared → Prop} {s : Shared} {h : Heap} {a : KA} {x y : Addr} {v : Value}

/-- a name looked up along the class -/
theorem KAt.find (k : KAt h a) (name : Str) {r : Option Value}
    (e : ∀ e t mo fl, (match (kEs e t mo fl a.sl a.fi (a.fn .Lt) (a.fn .Gt) (a.fn .Eq) (a.fn .LtE) (a.fn .GtE) a.sa a.md).find? (·.key.isStr name) with | some e => some e.val | none => fastBuiltinOwn "object" name) = r) :
    findIn (whole h) (.ref a.C) name = some r := by
  obtain ⟨q, k0, k1, k2, k3, k5, hC⟩ := k.cls
  obtain ⟨ee, t, mo, fl, ep, hN⟩ := k.ns
  have e := e ee t mo fl
  unfold findIn
  simp only [whole_lookup, hC, alongIn, ownIn, nsIn, hN]
  revert e
  generalize (kEs ee t mo fl a.sl a.fi (a.fn .Lt) (a.fn .Gt) (a.fn .Eq) (a.fn .LtE) (a.fn .GtE) a.sa a.md).find? (·.key.isStr name) = z
  intro e
  cases z with
  | some en => simp only at e ⊢; rw [e]
  | none =>
    simp only [List.any_cons, List.any_nil, DictEntry.refKey, Bool.or_false, Bool.false_eq_true, if_false] at e ⊢
    cases hb : fastBuiltinOwn "object" name with
    | none => rw [hb] at e; rw [← e]
    | some v => rw [hb] at e; rw [← e]

theorem KAt.getattribute (k : KAt h a) : findIn (whole h) (.ref a.C) "__getattribute__" = some (some (.builtin "object.__getattribute__")) := k.find _ fun _ _ _ _ => by rfl
theorem KAt.getattr (k : KAt h a) : findIn (whole h) (.ref a.C) "__getattr__" = some none := k.find _ fun _ _ _ _ => by rfl
theorem KAt.obj (k : KAt h a) : findIn (whole h) (.ref a.C) "obj" = some (some (.ref a.md)) := k.find _ fun _ _ _ _ => by rfl
theorem KAt.clsIs (k : KAt h a) : ∃ cd, clsIn (whole h) a.C = some cd ∧ cd.hasDict = false ∧ cd.slotNames = (["obj"] : List Str) ∧ cd.mro = [.ref a.C, .type "object"] := by
  obtain ⟨q, k0, k1, k2, k3, k5, hC⟩ := k.cls
  exact ⟨_, by unfold clsIn; rw [whole_lookup, hC], rfl, rfl, rfl⟩
theorem InstK.at (i : InstK h a x v) : ∃ ox od, InstAt h x ox a.C od ∧ ox.slots = #[some v] := by
  obtain ⟨dx, p, q⟩ := i
  exact ⟨_, some _, ⟨p, rfl, rfl, q⟩, rfl⟩

theorem KAt.findObj (k : KAt h a) (od : Option Obj) : W.findObj (whole h) a.C od "obj" = some (.bind (.builtin "member_descriptor.__get__") (.ref a.md)) := by
  obtain ⟨cd, hcd, _⟩ := k.clsIs
  obtain ⟨tn, hm⟩ := k.md
  unfold W.findObj
  rw [hcd, k.obj]
  simp only [Option.bind_some]
  have h1 : ∀ n, specialIn (whole h) (.ref a.md) n = fastLookup "member_descriptor" n := fun n => by
    unfold specialIn typeIn
    simp only [whole_lookup, hm, Option.map_some, Option.bind_some]
    rfl
  rw [h1, show fastLookup "member_descriptor" "__get__" = some (some (.builtin "member_descriptor.__get__")) from by kernel_rfl]
  simp only [Option.bind_some]
  unfold takesIn
  rw [h1, show fastLookup "member_descriptor" "__set__" = some (some (.builtin "member_descriptor.__set__")) from by kernel_rfl]
  rfl
theorem KAt.slotIn (k : KAt h a) : W.slotIn (whole h) a.md a.C = some 0 := by
  obtain ⟨cd, hcd, _, h2, h3⟩ := k.clsIs
  obtain ⟨tn, hm⟩ := k.md
  have hr : recIn (whole h) a.md "member_descriptor" = some [.str "obj" tn, .ref a.C, .builtin "proto.slot", .builtin "proto.slot#set", rawInt 0] := by
    unfold recIn
    rw [whole_lookup, hm]
    rfl
  unfold W.slotIn
  rw [hcd, hr]
  show (if _ then some (cd.slotNames.length - 1 - 0) else none) = _
  rw [h2, h3, if_pos (by simp)]
  rfl

/-- x.obj -/
theorem obj_get {ex : Bool} {Q : Value → Shared → Prop} (k : KAt s.heap a) (i : InstK s.heap a x v) (hh : handedIn v = true) (hq : Q v { s with toks := s.toks + 1 }) :
    wpAny (model prog w) A (getAttr (.ref x) "obj" ex) Q E s := by
  obtain ⟨ox, od, I, hs⟩ := i.at
  refine get_bind (K := whole s.heap) (whole_in _) I k.getattribute (k.findObj od) k.getattr ?_
  refine wpAny_call (slot_get (K := whole s.heap) (s := { s with toks := s.toks + 1 }) (whole_in _) I k.slotIn (by rw [hs]; rfl) ?_)
  exact handed_on hh hq
end
end Mine
end

-- part M3
section
open PySem PySem.W PySem.Calls PyProof.Rows
set_option maxRecDepth 100000
namespace Mine

/-- a comparison's def, in the class -/
noncomputable abbrev mScope : Scope := { kind := .function, names := [("self", .local), ("other", .local), ("mycmp", .free)], isGenerator := false, isCoroutine := false, more := [] }
set_option genInjectivity false in
set_option genSizeOf false in
set_option genSizeOfSpec false in
structure MeP where
  nm : Str
  q : Str
  q1 : Pos
  q2 : Pos
  p1 : Pos
  p2 : Pos
  p3 : Pos
  p4 : Pos
  p5 : Pos
  p6 : Pos
  p7 : Pos
  p8 : Pos
  p9 : Pos
  pm : Value
  cd : Value
  ct : Value
  doc : Value
noncomputable abbrev mFd (z : MeP) (op : CmpOp) (cc : Addr) : FuncData :=
  { name := z.nm, qualname := z.q,
    params := { posonlyargs := [], args := [⟨"self", none, z.q1⟩, ⟨"other", none, z.q2⟩], vararg := none, kwonlyargs := [], kw_defaults := [], kwarg := none, defaults := [] },
    body := .stmts [.Return (some (.Compare (.Call (.Name "mycmp" z.p1) [.Attribute (.Name "self" z.p2) "obj" z.p3, .Attribute (.Name "other" z.p4) "obj" z.p5] [] z.p6) [op] [.Constant (.int 0) 0 z.p7] z.p8)) z.p9],
    scope := mScope, globals := mainGlobals, closure := [("mycmp", cc)], defaults := .none, kwdefaults := .none, pyModule := z.pm, code := z.cd, closureTuple := z.ct, doc := z.doc, builtins := builtinsNs }

noncomputable def MethAt (h : Heap) (f : Addr) (op : CmpOp) (cc : Addr) : Prop :=
  ∃ z od sl, h.get? f = some ⟨.type "function", od, .func (mFd z op cc), sl⟩ ∧ h.CodeRec z.cd z.q
theorem MethAt.keeps {h h' : Heap} {f cc : Addr} {op : CmpOp} (x : MethAt h f op cc) (k : ∀ b o, h.get? b = some o → h'.get? b = some o) : MethAt h' f op cc := by
  obtain ⟨z, od, sl, e, c⟩ := x
  exact ⟨z, od, sl, k _ _ e, c.keeps k⟩

/-- what an operator says of an int beside nought -/
noncomputable def says (op : CmpOp) (d : Int) : Bool := match op with
  | .Lt => decide (d < 0)
  | .Gt => decide (0 < d)
  | .Eq => d == 0
  | .LtE => decide (d ≤ 0)
  | .GtE => decide (0 ≤ d)
  | _ => false

section
variable {prog : Program} {w : World} {A : Around} {E : Value → Shared → Prop} {s : Shared} {a : KA} {x y : Addr} {v : Value}

theorem cmp_zero {op : CmpOp} (ho : op ∈ [CmpOp.Lt, .Gt, .Eq, .LtE, .GtE]) {d : Int} {t u : Tok} {Q : Value → Shared → Prop} (hq : Q (.bool (says op d)) s) :
    wpAny (model prog w) A (compareOp op (.int d t) (.int 0 u)) Q E s := by
  simp only [List.mem_cons, List.not_mem_nil, or_false] at ho
  rcases ho with rfl | rfl | rfl | rfl | rfl
  · exact lt_int hq
  · exact gt_int hq
  · exact PyProof.Rows.eq_int hq
  · exact le_int hq
  · exact ge_int hq

theorem binds2 {fd : FuncData} (a b : Value) (hp : ∃ q1 q2, fd.params = { posonlyargs := [], args := [⟨"self", none, q1⟩, ⟨"other", none, q2⟩], vararg := none, kwonlyargs := [], kw_defaults := [], kwarg := none, defaults := [] })
    (hd : fd.defaults = .none) : bindArgs fd ⟨[a, b], []⟩ = pure ([("self", a), ("other", b)] : List (Str × Value)) := by
  obtain ⟨nm, qq, params, body, scope, gl, cl, df, kd, doc, pm, an, cd, ct, bi⟩ := fd
  obtain ⟨q1, q2, e⟩ := hp
  dsimp only at e hd
  subst e hd
  rfl

theorem meth_call {f : Addr} {op : CmpOp} {cc fa : Addr} {fo : Obj} {fdd : FuncData} {v1 v2 : Value} {Q : Value → Shared → Prop}
    (ho : op ∈ [CmpOp.Lt, .Gt, .Eq, .LtE, .GtE]) (hm : MethAt s.heap f op cc) (hlim : s.heap.NoLimit) (hcell : s.heap.IsCell cc (some (.ref fa))) (hfa : s.heap.get? fa = some fo) (hfd : fo.data = .func fdd)
    (k : KAt s.heap a) (ix : InstK s.heap a x v1) (iy : InstK s.heap a y v2) (h1 : handedIn v1 = true) (h2 : handedIn v2 = true) (hroom : A.depth < recursionLimit)
    (hcall : ∀ (env : Env) (h₀ : Heap) (tk : Nat) (E' : Value → Shared → Prop), (∀ b o, s.heap.get? b = some o → h₀.get? b = some o) →
      wpAny (model prog w) (A.deeper env) (call (.ref fa) [v1, v2]) (fun r s' => ∃ d t, r = .int d t ∧ Q (.bool (says op d)) { s' with toks := s'.toks + 1 }) E' { s with heap := h₀, toks := tk }) :
    wpAny (model prog w) A (call (.ref f) [.ref x, .ref y]) Q E s := by
  obtain ⟨z, od, sl, hf, hcd⟩ := hm
  refine wpAny_call (codeAny_call_plain (binds := [("self", .ref x), ("other", .ref y)]) hroom hf rfl hlim hcd rfl (binds2 _ _ ⟨_, _, rfl⟩ rfl) (show ∀ x ∈ mScope.names, x.2 ≠ NameKind.cell from by decide) (locs rfl) fun h₀ hns keep => ?_)
  refine wpAny_execs_cons (wpAny_Return_some (wpAny_Compare1 (wpAny_Call_Name_kw (wpAny_Name (wpAny_loadName_free (c := cc) (v := .ref fa) rfl rfl rfl (hcell.keeps keep) ?_)))))
  refine callWith_function (o := fo) (fd := fdd) (evalArgs_plain (spliced_cons (Attribute_name (wpAny_Name (wpAny_loadName_local rfl rfl hns rfl ?_)))))
  refine obj_get (k.keeps keep) (ix.keeps keep) h1 ?_
  refine spliced_cons (Attribute_name (wpAny_Name (wpAny_loadName_local rfl rfl hns rfl ?_)))
  refine obj_get (s := { s with heap := h₀, toks := s.toks + 2 + 1 }) (k.keeps keep) (iy.keeps keep) h2 ?_
  refine spliced_nil ⟨⟨keep _ _ hfa, hfd⟩, ?_⟩
  refine wpAny_mono (hcall _ h₀ _ _ keep) (fun r s' hr => ?_) fun _ _ e => e
  obtain ⟨d, t, rfl, hq⟩ := hr
  exact wpAny_Constant_int (cmp_zero ho hq)
end
end Mine
end

-- part M4
section
open PySem PySem.W PySem.Calls PyProof.Rows
set_option maxRecDepth 100000
namespace Mine

/-- a code's table -/
noncomputable def IsTab (o : Obj) : Prop := ∃ ps : Array Value, TriplesOk ps.toList ∧ o = tabObj ps
theorem tri_no {ps : Array Value} {q : Str} {t : Tok} (ht : TriplesOk ps.toList) (e : ps[1]? = some (.str q t)) : False := by
  rcases ps with ⟨_ | ⟨a, _ | ⟨b, l⟩⟩⟩
  · cases e
  · cases e
  · obtain rfl : b = .str q t := Option.some.inj e
    cases a <;> exact ht
theorem IsTab.data {o : Obj} (x : IsTab o) : ∃ ps, o.data = .fields ps := (by obtain ⟨ps, _, e⟩ := x; exact ⟨ps, e ▸ rfl⟩)
theorem IsTab.cls {o : Obj} (x : IsTab o) : o.cls = .none := (by obtain ⟨_, _, e⟩ := x; exact e ▸ rfl)
theorem nt_data {o : Obj} (h : ∀ vs, o.data ≠ .fields vs) : ¬ IsTab o := fun x => (by obtain ⟨_, e⟩ := x.data; exact h _ e)
theorem nt_cls {o : Obj} (h : o.cls ≠ .none) : ¬ IsTab o := fun x => h x.cls
/-- all but one object and the codes' tables stay -/
noncomputable def Kp (nt : Addr) (h h' : Heap) : Prop := ∀ b o, b ≠ nt → ¬ IsTab o → h.get? b = some o → h'.get? b = some o
theorem Kp.refl {nt : Addr} {h : Heap} : Kp nt h h := fun _ _ _ _ e => e
theorem Kp.trans {nt : Addr} {h h' h'' : Heap} (x : Kp nt h h') (y : Kp nt h' h'') : Kp nt h h'' := fun b o n t e => y b o n t (x b o n t e)
theorem Kp.of {nt : Addr} {h h' : Heap} (x : ∀ b o, h.get? b = some o → h'.get? b = some o) : Kp nt h h' := fun b o _ _ e => x b o e
/-- all but one object stay -/
noncomputable def Kq (nt : Addr) (h h' : Heap) : Prop := ∀ b o, b ≠ nt → h.get? b = some o → h'.get? b = some o
theorem Kq.kp {nt : Addr} {h h' : Heap} (x : Kq nt h h') : Kp nt h h' := fun b o n _ e => x b o n e
theorem Kq.refl {nt : Addr} {h : Heap} : Kq nt h h := fun _ _ _ e => e
theorem Kq.trans {nt : Addr} {h h' h'' : Heap} (x : Kq nt h h') (y : Kq nt h' h'') : Kq nt h h'' := fun b o n e => y b o n (x b o n e)
theorem Kq.of {nt : Addr} {h h' : Heap} (x : ∀ b o, h.get? b = some o → h'.get? b = some o) : Kq nt h h' := fun b o _ e => x b o e
theorem Ns.kp {nt a : Addr} {h h' : Heap} {m} (n : h.Ns a m) (k : Kp nt h h') (hne : a ≠ nt) : h'.Ns a m :=
  (by obtain ⟨o, es, ep, e, d, r⟩ := n; exact ⟨o, es, ep, k _ _ hne (fun x => by obtain ⟨ps, q⟩ := x.data; rw [d] at q; cases q) e, d, r⟩)

/-- an exception leaves a frame -/
noncomputable def LvE (prog : Program) (w : World) (A : Around) (env : Env) (E : Value → Shared → Prop) : Value → Shared → Prop :=
  fun e s' => wpAny (model prog w) (A.deeper env) (leaving env e) (fun _ s'' => E e s'') (fun e' s'' => E e' s'') s'

noncomputable abbrev fScope : Scope := { kind := .function, names := [("self", .local), ("other", .local), ("op_result", .local), ("type", .globalImplicit), ("NotImplemented", .globalImplicit)], isGenerator := false, isCoroutine := false, more := [] }

/-- the last line of a made comparison -/
inductive Tail where
  | one (neg : Bool) (p1 p2 : Pos)
  | two (neg : Bool) (b : BoolOp) (op : CmpOp) (p1 p2 p3 p4 p5 p6 : Pos)
noncomputable def Tail.neg : Tail → Bool
  | .one n .. => n
  | .two n .. => n
noncomputable def Tail.first (neg : Bool) (p1 p2 : Pos) : Expr := if neg then .UnaryOp .Not (.Name "op_result" p1) p2 else .Name "op_result" p1
noncomputable def Tail.expr : Tail → Expr
  | .one n p1 p2 => first n p1 p2
  | .two n b op p1 p2 p3 p4 p5 p6 => .BoolOp b [first n p1 p2, .Compare (.Name "self" p3) [op] [.Name "other" p4] p5] p6

set_option genInjectivity false in
set_option genSizeOf false in
set_option genSizeOfSpec false in
structure FnP where
  nm : Str
  q : Str
  q1 : Pos
  q2 : Pos
  p1 : Pos
  p2 : Pos
  p3 : Pos
  p4 : Pos
  p5 : Pos
  p6 : Pos
  p7 : Pos
  p8 : Pos
  p9 : Pos
  r1 : Pos
  r2 : Pos
  r3 : Pos
  r4 : Pos
  r5 : Pos
  r6 : Pos
  r7 : Pos
  pm : Value
  cd : Value
  doc : Value
  oc : Value
  od : Option Addr
  sl : Array (Option Value)
noncomputable abbrev fFd (z : FnP) (attr : Str) (tl : Tail) : FuncData :=
  { name := z.nm, qualname := z.q,
    params := { posonlyargs := [], args := [⟨"self", none, z.q1⟩, ⟨"other", none, z.q2⟩], vararg := none, kwonlyargs := [], kw_defaults := [], kwarg := none, defaults := [] },
    body := .stmts [.Assign [.Name "op_result" z.p1] (.Call (.Attribute (.Call (.Name "type" z.p2) [.Name "self" z.p3] [] z.p4) attr z.p5) [.Name "self" z.p6, .Name "other" z.p7] [] z.p8) z.p9,
      .If (.Compare (.Name "op_result" z.r1) [.Is] [.Name "NotImplemented" z.r2] z.r3) [.Return (some (.Name "op_result" z.r4)) z.r5] [] z.r6,
      .Return (some tl.expr) z.r7],
    scope := fScope, globals := mainGlobals, closure := [], defaults := .none, kwdefaults := .none, pyModule := z.pm, code := z.cd, doc := z.doc, builtins := builtinsNs }

noncomputable def FnAt (h : Heap) (f : Addr) (attr : Str) (tl : Tail) : Prop :=
  ∃ z : FnP, h.get? f = some ⟨z.oc, z.od, .func (fFd z attr tl), z.sl⟩ ∧ h.CodeRec z.cd z.q ∧ (z.p5.endLine == z.p8.line) = true

/-- the global names that the functions read -/
structure Glob (h : Heap) (mg mb : Str → Option Value) : Prop where
  g : h.Ns mainGlobals mg
  b : h.Ns builtinsNs mb
  ty : mg "type" = none
  ni : mg "NotImplemented" = none
  bty : mb "type" = some (.type "type")
  bni : mb "NotImplemented" = some .notImplemented

section
variable {prog : Program} {w : World} {A : Around} {E : Value → Shared → Prop} {s : Shared} {env : Env}

theorem Call_attr {o : Expr} {name : Str} {apos pos : Pos} {args : List Expr} {Q : Value → Shared → Prop}
    (hbase : attributeBase o name env (eval o env) = eval o env) (hfew : methodCallForm (args.length + ([] : List Keyword).length) (backTo pos (starEach args env)) (backToKw pos (keywordEach [] env)) = true) (hline : (apos.endLine == pos.line) = true)
    (h : wpAny (model prog w) A (eval o env) (fun ov s₁ => ∀ pl : Sem Bool, wpAny (model prog w) A (getMethod ov name pl) (fun p s₂ => wpAny (model prog w) A (callWith pos p.1 p.2 (backTo pos (starEach args env)) []) Q E s₂) E s₁) E s) :
    wpAny (model prog w) A (eval (.Call (.Attribute o name apos) args [] pos) env) Q E s := by
  rw [arm_eval_Call, hbase]
  refine wpAny_bind (wpAny_mono h (fun ov s₁ h₁ => wpAny_bind (wpAny_standAt ?_)) fun _ _ e => e)
  unfold methodCall
  rw [hfew]
  refine wpAny_bind (wpAny_holding ?_)
  unfold calleeOf
  rw [if_pos rfl]
  refine wpAny_mono (h₁ _) (fun p s₂ h₂ => ?_) fun _ _ e => e
  unfold methodCallPos
  rw [hline]
  exact wpAny_bind (wpAny_pure h₂)

/-- what is called: a function of the heap, or a built-in -/
noncomputable def Callee (h : Heap) (g : Value) : Prop := (∃ fa fo fd, g = .ref fa ∧ h.get? fa = some fo ∧ fo.data = .func fd) ∨ ∃ id, g = .builtin id

theorem callWith_any {pos : Pos} {g : Value} {args : List (Bool × Sem Value)} {Q : Value → Shared → Prop} (hplain : args.any (·.1) = false)
    (h : wpAny (model prog w) A (evalArgs g true args []) (fun x s₁ => Callee s₁.heap g ∧ wpAny (model prog w) A (call g x.pos x.kw) Q E s₁) E s)
    (hg : Callee s.heap g) : wpAny (model prog w) A (callWith pos g [] args []) Q E s := by
  rcases hg with ⟨fa, fo, fd, rfl, hf, hd⟩ | ⟨id, rfl⟩
  · unfold callWith
    refine wpAny_bind (wpAny_holding (wpAny_mono h (fun x s₁ h₁ => wpAny_bind (wpAny_standAt ?_)) fun _ _ e => e))
    obtain ⟨⟨fa', fo', fd', e, hf', hd'⟩ | ⟨id, e⟩, hc⟩ := h₁
    · cases e
      simp only [hplain, List.any_nil, Bool.or_false]
      refine wpAny_bind (m := keeperOf (.ref fa)) ?_
      unfold keeperOf
      refine wpAny_bind (wpAny_load hf' ?_)
      rw [hd']
      refine wpAny_pure ?_
      have tail : ∀ {t : Sem Value}, wpAny (model prog w) A t Q E s₁ → wpAny (model prog w) A (t >>= fun r => holding [r] point >>= fun _ => pure r) Q E s₁ :=
        fun ht => wpAny_bind (wpAny_mono ht (fun r s₂ hr => wpAny_bind (wpAny_holding (wpAny_point (wpAny_pure hr)))) fun _ _ x => x)
      first
        | refine wpAny_ite ?_
        | skip
      split <;> first
        | exact tail hc
        | exact tail (by unfold callMarked; exact wpAny_keep hc)
    · cases e
  · exact callWith_builtin hplain (wpAny_mono h (fun _ _ z => z.2) fun _ _ e => e)

/-- the truth at which a boolean operation stops -/
noncomputable def stopAt : BoolOp → Bool
  | .And => false
  | .Or => true
theorem boolOp_two {pos : Pos} {b : BoolOp} {e₁ e₂ : Expr} {Q : Value → Shared → Prop}
    (h : wpAny (model prog w) A (eval e₁ env) (fun v s₁ => ∃ c, v = .bool c ∧ (if c = stopAt b then Q (.bool c) s₁ else wpAny (model prog w) A (eval e₂ env) Q E s₁)) E s) :
    wpAny (model prog w) A (eval (.BoolOp b [e₁, e₂] pos) env) Q E s := by
  rw [arm_eval_BoolOp]
  show wpAny _ _ (boolOp pos b [eval e₁ env, eval e₂ env]) _ _ _
  unfold boolOp
  refine wpAny_bind (wpAny_mono h (fun v s₁ h₁ => ?_) fun _ _ e => e)
  obtain ⟨c, rfl, h₁⟩ := h₁
  refine wpAny_bind (wpAny_standAt (wpAny_bind (wpAny_holding (wpAny_truthy_bool ?_))))
  cases b <;> cases c <;> simp [stopAt] at h₁ ⊢ <;> first | exact wpAny_pure h₁ | exact h₁

end
end Mine
end

-- part M5
section
open PySem PySem.W PySem.Calls PyProof.Rows
set_option maxRecDepth 100000
namespace Mine
section
variable {prog : Program} {w : World} {A : Around} {E : Value → Shared → Prop} {s : Shared}

/-- what a made comparison ends with, once its root has said b -/
noncomputable def endOf (prog : Program) (w : World) (A : Around) (E : Value → Shared → Prop) (env : Env) (tl : Tail) (X Y : Value) (Q : Value → Shared → Prop) (b : Bool) (s : Shared) : Prop :=
  match tl with
  | .one n _ _ => Q (.bool (n ^^ b)) s
  | .two n bo op _ _ _ _ _ _ => if (n ^^ b) = stopAt bo then Q (.bool (n ^^ b)) s
      else wpAny (model prog w) (A.deeper env) (compareOp op X Y) Q (LvE prog w A env E) s

theorem first_eval {env : Env} {n : Bool} {p1 p2 : Pos} {b : Bool} {m : Str → Option Value} {Q : Value → Shared → Prop} (hk : env.scope.kind = .function) (hl : env.kindOf "op_result" = some .local) (hn : s.heap.Ns env.locals m)
    (hv : m "op_result" = some (.bool b)) (hq : Q (.bool (n ^^ b)) s) : wpAny (model prog w) A (eval (Tail.first n p1 p2) env) Q E s := by
  cases n with
  | false =>
    show wpAny _ _ (eval (.Name _ _) _) _ _ _
    refine wpAny_Name (wpAny_loadName_local hk hl hn hv ?_)
    simpa using hq
  | true =>
    show wpAny _ _ (eval (.UnaryOp .Not (.Name _ _) _) _) _ _ _
    rw [arm_eval_UnaryOp]
    refine wpAny_bind (wpAny_Name (wpAny_loadName_local hk hl hn hv (wpAny_bind (wpAny_standAt (wpAny_holding (not_of (wpAny_truthy_bool ?_)))))))
    simpa using hq

theorem fn_call {f nt : Addr} {attr : Str} {tl : Tail} {X Y T g : Value} {mg mb : Str → Option Value} {P : Bool → Heap → Prop} {PN : Heap → Prop} {Q : Value → Shared → Prop}
    (hf : FnAt s.heap f attr tl) (hG : Glob s.heap mg mb) (hlim : s.heap.NoLimit) (hroom : A.depth < recursionLimit) (hnt : nt < s.heap.objs.size) (hnt0 : mainGlobals ≠ nt) (hnt1 : builtinsNs ≠ nt)
    (hty : ∀ A' E' h₀ tk (Q' : Value → Shared → Prop), (∀ b o, s.heap.get? b = some o → h₀.get? b = some o) → (∀ tk', Q' T { s with heap := h₀, toks := tk' }) → wpAny (model prog w) A' (call (.type "type") [X]) Q' E' { s with heap := h₀, toks := tk })
    (hgm : ∀ A' E' h₀ tk pl (Q' : Value × List Value → Shared → Prop), (∀ b o, s.heap.get? b = some o → h₀.get? b = some o) → (∀ tk', Q' (g, []) { s with heap := h₀, toks := tk' }) → wpAny (model prog w) A' (getMethod T attr pl) Q' E' { s with heap := h₀, toks := tk })
    (hcal : Callee s.heap g)
    (hop : ∀ fd h₀ tk (Q' : Value → Shared → Prop), fd.scope.kind = .function → (∀ b o, s.heap.get? b = some o → h₀.get? b = some o) → (∃ m, h₀.Ns s.heap.objs.size m) →
      (∀ b h₁ tk₁, Kq nt h₀ h₁ → P b h₁ → Q' (.bool b) { s with heap := h₁, toks := tk₁ }) → (∀ h₁ tk₁, Kq nt h₀ h₁ → PN h₁ → Q' .notImplemented { s with heap := h₁, toks := tk₁ }) →
      wpAny (model prog w) (A.deeper (callEnv fd s.heap.objs.size f)) (call g [X, Y]) Q' (LvE prog w A (callEnv fd s.heap.objs.size f) E) { s with heap := h₀, toks := tk })
    (hP : ∀ b h h', P b h → (∃ m, h.Ns s.heap.objs.size m) → (∀ c o, c ≠ s.heap.objs.size → h.get? c = some o → h'.get? c = some o) → P b h') (hPN : ∀ h h', PN h → (∃ m, h.Ns s.heap.objs.size m) → (∀ c o, c ≠ s.heap.objs.size → h.get? c = some o → h'.get? c = some o) → PN h')
    (hend : ∀ fd b h₂ tk₂, fd.scope.kind = .function → Kq nt s.heap h₂ → (∃ m, h₂.Ns s.heap.objs.size m) → P b h₂ → endOf prog w A E (callEnv fd s.heap.objs.size f) tl X Y Q b { s with heap := h₂, toks := tk₂ })
    (hendN : ∀ h₂ tk₂, Kq nt s.heap h₂ → PN h₂ → Q .notImplemented { s with heap := h₂, toks := tk₂ }) :
    wpAny (model prog w) A (call (.ref f) [X, Y]) Q E s := by
  obtain ⟨z, hfo, hcd, hline⟩ := hf
  refine wpAny_call (codeAny_call_plain (binds := [("self", X), ("other", Y)]) hroom hfo rfl hlim hcd rfl (binds2 _ _ ⟨_, _, rfl⟩ rfl) (show ∀ x ∈ fScope.names, x.2 ≠ NameKind.cell from by decide) (locs rfl) fun h₀ hns keep => ?_)
  have hLn : s.heap.objs.size ≠ nt := Nat.ne_of_gt hnt
  refine wpAny_execs_cons (wpAny_Assign_Name (Call_attr rfl rfl hline (wpAny_Call_Name_kw (Name_function_global rfl rfl (loadGlobal_builtin (hG.g.keeps keep) hG.ty (hG.b.keeps keep) hG.bty ?_)))))
  -- type(self)
  have hcw : ∀ {Q' : Value → Shared → Prop} {E' : Value → Shared → Prop} {A' : Around} {tk : Nat} {X' : Value} {nn : Str} {pp pos : Pos} {env : Env}, env.scope.kind = .function → env.kindOf nn = some .local → h₀.Ns env.locals (fun x => ([("self", X), ("other", Y)] : List (Str × Value)).reverse.lookup x) → ([("self", X), ("other", Y)] : List (Str × Value)).reverse.lookup nn = some X' → ((nn == ("__debug__" : Str)) = false) →
      (wpAny (model prog w) A' (call (.type "type") [X']) Q' E' { s with heap := h₀, toks := tk }) →
      wpAny (model prog w) A' (callWith pos (.type "type") [] [(false, eval (.Name nn pp) env)] []) Q' E' { s with heap := h₀, toks := tk } := by
    intro Q' E' A' tk X' nn pp pos env hk hl hn hv hd hc
    unfold callWith
    refine wpAny_bind (wpAny_holding (evalArgs_plain (spliced_cons (wpAny_Name (wpAny_loadName_local hk hl hn hv (spliced_nil ?_)) hd))))
    refine wpAny_bind (wpAny_standAt (wpAny_bind (wpAny_pure ?_)))
    exact wpAny_bind (wpAny_mono hc (fun r s₂ hr => wpAny_bind (wpAny_holding (wpAny_point (wpAny_pure hr)))) fun _ _ x => x)
  refine hcw rfl rfl hns rfl (by decide) (hty _ _ _ _ _ keep fun tk' pl => hgm _ _ _ _ _ _ keep fun tk'' => ?_)
  refine callWith_any rfl (evalArgs_plain (spliced_cons (wpAny_Name (wpAny_loadName_local rfl rfl hns rfl ?_)))) ?_
  case refine_2 => rcases hcal with ⟨fa, fo, fd, e, h1, h2⟩ | e; exact .inl ⟨fa, fo, fd, e, keep _ _ h1, h2⟩; exact .inr e
  refine spliced_cons (wpAny_Name (wpAny_loadName_local rfl rfl hns rfl (spliced_nil ⟨?_, ?_⟩)))
  · rcases hcal with ⟨fa, fo, fd, e, h1, h2⟩ | e
    · exact .inl ⟨fa, fo, fd, e, keep _ _ h1, h2⟩
    · exact .inr e
  have hif : ∀ {Q' : Bool → Shared → Prop} {E' : Value → Shared → Prop} {r : Value} {h₂ : Heap} {tk : Nat} {m : Str → Option Value} {whole : Sem Value}, (plainIs r .notImplemented = true) → Kq nt s.heap h₂ → h₂.Ns s.heap.objs.size m → m "op_result" = some r →
      Q' (r == .notImplemented) { s with heap := h₂, toks := tk } →
      wpAny (model prog w) (A.deeper (callEnv (fFd z attr tl) s.heap.objs.size f))
        (isTrue (.Compare (.Name "op_result" z.r1) [.Is] [.Name "NotImplemented" z.r2] z.r3) (callEnv (fFd z attr tl) s.heap.objs.size f) whole) Q' E' { s with heap := h₂, toks := tk } := by
    intro Q' E' r h₂ tk m whole hp kp hn hv hq
    refine wpAny_isTrue_Compare1 (wpAny_Name (wpAny_loadName_local rfl rfl hn hv (Name_function_global rfl rfl (loadGlobal_builtin (Ns.kp hG.g kp.kp hnt0) hG.ni (Ns.kp hG.b kp.kp hnt1) hG.bni ?_))))
    exact wpAny_is_plain hp (wpAny_truthy_bool hq)
  refine hop _ h₀ _ _ rfl keep ⟨_, hns⟩ (fun b h₁ tk₁ kp hp => ?_) fun h₁ tk₁ kp hp => ?_
  · refine wpAny_storeName_local rfl (Ns.kp hns kp.kp hLn) (fun h₂ hns₂ hsb => ?_) rfl
    have st : ∀ c o, c ≠ s.heap.objs.size → h₁.get? c = some o → h₂.get? c = some o := fun c o hc e => (hsb.2 c hc).trans e
    have kp₂ : Kq nt s.heap h₂ := fun c o hc e => st c o (Nat.ne_of_lt (Heap.lt_size e)) (kp c o hc (keep c o e))
    refine wpAny_execs_cons (wpAny_If (hif rfl kp₂ hns₂ rfl ?_))
    refine wpAny_execs_nil (wpAny_execs_cons (wpAny_Return_some ?_))
    have he := hend (fFd z attr tl) b h₂ (tk₁ + 1) rfl kp₂ ⟨_, hns₂⟩ (hP b h₁ h₂ hp ⟨_, Ns.kp hns kp.kp hLn⟩ st)
    cases tl with
    | one n t1 t2 => exact first_eval rfl rfl hns₂ rfl he
    | two n bo op t1 t2 t3 t4 t5 t6 =>
      refine boolOp_two (first_eval rfl rfl hns₂ rfl ⟨_, rfl, ?_⟩)
      unfold endOf at he
      dsimp only at he
      by_cases hc : (n ^^ b) = stopAt bo
      · rw [if_pos hc] at he ⊢; exact he
      · rw [if_neg hc] at he ⊢
        refine wpAny_Compare1 (wpAny_Name (wpAny_loadName_local rfl rfl hns₂ rfl (wpAny_Name (wpAny_loadName_local rfl rfl hns₂ rfl ?_)))) (by cases op <;> rfl)
        exact he
  · refine wpAny_storeName_local rfl (Ns.kp hns kp.kp hLn) (fun h₂ hns₂ hsb => ?_) rfl
    have st : ∀ c o, c ≠ s.heap.objs.size → h₁.get? c = some o → h₂.get? c = some o := fun c o hc e => (hsb.2 c hc).trans e
    have kp₂ : Kq nt s.heap h₂ := fun c o hc e => st c o (Nat.ne_of_lt (Heap.lt_size e)) (kp c o hc (keep c o e))
    refine wpAny_execs_cons (wpAny_If (hif rfl kp₂ hns₂ rfl ?_))
    refine wpAny_execs_cons (wpAny_Return_some (wpAny_Name (wpAny_loadName_local rfl rfl hns₂ rfl ?_)))
    exact hendN h₂ _ kp₂ (hPN h₁ h₂ hp ⟨_, Ns.kp hns kp.kp hLn⟩ st)
end
end Mine
end

-- part M6
section
open PySem PySem.W PySem.Calls PyProof.Rows
set_option maxRecDepth 100000
namespace Mine

noncomputable def NotesAt (h : Heap) (nt : Addr) (xs : List Value) : Prop := ∃ n, h.get? nt = some ⟨.type "list", none, .seq xs.toArray n, #[]⟩
noncomputable def PairAt (h : Heap) (v1 v2 : Value) (y : Value) : Prop := ∃ t d n sl, y = .ref t ∧ h.get? t = some ⟨.type "tuple", d, .seq #[v1, v2] n, sl⟩
noncomputable def Pairs (h : Heap) (v1 v2 : Value) (ys : List Value) : Prop := ∀ y ∈ ys, PairAt h v1 v2 y

theorem NotesAt.ne {h : Heap} {nt b : Addr} {xs : List Value} {o : Obj} (n : NotesAt h nt xs) (e : h.get? b = some o) (hc : o.cls ≠ .type "list") : b ≠ nt := by
  rintro rfl
  obtain ⟨k, e'⟩ := n
  rw [e] at e'
  cases e'
  exact hc rfl
theorem NotesAt.ne' {h : Heap} {nt b : Addr} {xs : List Value} {o : Obj} (n : NotesAt h nt xs) (e : h.get? b = some o) (hc : ∀ ys k, o.data ≠ .seq ys k) : b ≠ nt := by
  rintro rfl
  obtain ⟨k, e'⟩ := n
  rw [e] at e'
  cases e'
  exact hc _ _ rfl
theorem PairAt.kp {h h' : Heap} {nt : Addr} {xs : List Value} {v1 v2 y : Value} (p : PairAt h v1 v2 y) (n : NotesAt h nt xs) (k : Kp nt h h') : PairAt h' v1 v2 y := by
  obtain ⟨t, d, m, sl, rfl, e⟩ := p
  exact ⟨t, d, m, sl, rfl, k _ _ (n.ne e (by intro q; exact absurd (Value.type.inj q) (by decide))) (fun x => by cases x.cls) e⟩
theorem Pairs.kp {h h' : Heap} {nt : Addr} {xs : List Value} {v1 v2 : Value} {ys : List Value} (p : Pairs h v1 v2 ys) (n : NotesAt h nt xs) (k : Kp nt h h') : Pairs h' v1 v2 ys := fun y hy => (p y hy).kp n k

section
variable {h h' : Heap} {nt : Addr} {xs : List Value} (n : NotesAt h nt xs) (k : Kp nt h h')
include n k
theorem get_kp {b : Addr} {o : Obj} (e : h.get? b = some o) (hc : o.cls ≠ .type "list") (ht : ¬ IsTab o) : h'.get? b = some o := k _ _ (n.ne e hc) ht e
theorem get_kp' {b : Addr} {o : Obj} (e : h.get? b = some o) (hc : ∀ ys k, o.data ≠ .seq ys k) (ht : ¬ IsTab o) : h'.get? b = some o := k _ _ (n.ne' e hc) ht e
theorem KAt.kp {a : KA} (x : KAt h a) : KAt h' a :=
  ⟨(by obtain ⟨q, k0, k1, k2, k3, k5, e⟩ := x.cls; exact ⟨q, k0, k1, k2, k3, k5, get_kp' n k e (by intro _ _ q; cases q) (nt_data (by intro _ q; cases q))⟩), (by obtain ⟨e, t, mo, fl, ep, q⟩ := x.ns; exact ⟨e, t, mo, fl, ep, get_kp' n k q (by intro _ _ q; cases q) (nt_data (by intro _ q; cases q))⟩), (by obtain ⟨tn, q⟩ := x.md; exact ⟨tn, get_kp' n k q (by intro _ _ q; cases q) (nt_cls (by intro q; cases q))⟩),
   (by obtain ⟨od, fd, sl, q⟩ := x.fi; exact ⟨od, fd, sl, get_kp' n k q (by intro _ _ q; cases q) (nt_data (by intro _ q; cases q))⟩), fun op ho => (by obtain ⟨od, fd, sl, q⟩ := x.fn op ho; exact ⟨od, fd, sl, get_kp' n k q (by intro _ _ q; cases q) (nt_data (by intro _ q; cases q))⟩), (by obtain ⟨oc, od, ep, sl, q⟩ := x.st; exact ⟨oc, od, ep, sl, get_kp' n k q (by intro _ _ q; cases q) (nt_data (by intro _ q; cases q))⟩)⟩
theorem InstK.kp {a : KA} {x : Addr} {v : Value} (i : InstK h a x v) : InstK h' a x v :=
  (by obtain ⟨dx, p, q⟩ := i; exact ⟨dx, get_kp' n k p (by intro _ _ q; cases q) (nt_data (by intro _ q; cases q)), get_kp' n k q (by intro _ _ q; cases q) (nt_data (by intro _ q; cases q))⟩)
theorem CodeRec.kp {cd : Value} {q : Str} (c : h.CodeRec cd q) : h'.CodeRec cd q := by
  obtain ⟨c, o, vs, t, e1, e2, e3, e4⟩ := c
  refine ⟨c, o, vs, t, e1, get_kp' n k e2 (by intro _ _ q; rw [e3] at q; cases q) ?_, e3, e4⟩
  rintro ⟨ps, ht, rfl⟩
  have e5 : ps = vs := by injection e3
  subst e5
  exact tri_no ht e4
theorem MethAt.kp {f cc : Addr} {op : CmpOp} (x : MethAt h f op cc) : MethAt h' f op cc := by
  obtain ⟨z, od, sl, e, c⟩ := x
  exact ⟨z, od, sl, get_kp' n k e (by intro _ _ q; cases q) (nt_data (by intro _ q; cases q)), CodeRec.kp n k c⟩
theorem IsCell.kp {c : Addr} {v : Option Value} (x : h.IsCell c v) : h'.IsCell c v := by
  obtain ⟨o, e, d⟩ := x
  exact ⟨o, get_kp' n k e (by intro _ _ q; rw [d] at q; cases q) (fun x => by obtain ⟨_, q⟩ := x.data; rw [d] at q; cases q), d⟩
theorem FnAt.kp {f : Addr} {attr : Str} {tl : Tail} (x : FnAt h f attr tl) : FnAt h' f attr tl := by
  obtain ⟨z, e, c, l⟩ := x
  exact ⟨z, get_kp' n k e (by intro _ _ q; cases q) (nt_data (by intro _ q; cases q)), CodeRec.kp n k c, l⟩
theorem Ns.kpn {a : Addr} {m} (x : h.Ns a m) : h'.Ns a m :=
  (by obtain ⟨o, es, ep, e, d, r⟩ := x; exact ⟨o, es, ep, get_kp' n k e (by intro _ _ q; rw [d] at q; cases q) (fun x => by obtain ⟨_, q⟩ := x.data; rw [d] at q; cases q), d, r⟩)
theorem NoLimit.kp (x : h.NoLimit) : h'.NoLimit := (by obtain ⟨mc, a, b⟩ := x; exact ⟨mc, Ns.kpn n k a, b⟩)
theorem Glob.kp {mg mb} (x : Glob h mg mb) : Glob h' mg mb := ⟨Ns.kpn n k x.g, Ns.kpn n k x.b, x.ty, x.ni, x.bty, x.bni⟩
end

/-- what a comparison under the tower promises: the sign of its int, how often the undermost is asked -/
noncomputable def Asks (prog : Program) (w : World) (nt : Addr) (H : Heap) (fa : Addr) (v1 v2 : Value) (σ : Int) (n dep un : Nat) : Prop :=
  ∀ (A : Around) (E Q : Value → Shared → Prop) (s : Shared) (xs : List Value), A.depth + dep < recursionLimit → A.units + un < cLine → Kp nt H s.heap → NotesAt s.heap nt xs → xs.length + n ≤ 1000000 →
    (∀ d t h' tk' ys, Int.sign d = σ → Kq nt s.heap h' → NotesAt h' nt (xs ++ ys) → ys.length = n → Pairs h' v1 v2 ys → Q (.int d t) { s with heap := h', toks := tk' }) →
    wpAny (model prog w) A (call (.ref fa) [v1, v2]) Q E s

/-- .. and tells this very int -/
noncomputable def AsksX (prog : Program) (w : World) (nt : Addr) (H : Heap) (fa : Addr) (v1 v2 : Value) (σ : Int) (n dep un : Nat) : Prop :=
  ∀ (A : Around) (E Q : Value → Shared → Prop) (s : Shared) (xs : List Value), A.depth + dep < recursionLimit → A.units + un < cLine → Kp nt H s.heap → NotesAt s.heap nt xs → xs.length + n ≤ 1000000 →
    (∀ t h' tk' ys, Kq nt s.heap h' → NotesAt h' nt (xs ++ ys) → ys.length = n → Pairs h' v1 v2 ys → Q (.int σ t) { s with heap := h', toks := tk' }) →
    wpAny (model prog w) A (call (.ref fa) [v1, v2]) Q E s
theorem AsksX.asks {prog : Program} {w : World} {nt : Addr} {H : Heap} {fa : Addr} {v1 v2 : Value} {σ : Int} {n dep un : Nat} (x : AsksX prog w nt H fa v1 v2 σ n dep un) (hσ : Int.sign σ = σ) : Asks prog w nt H fa v1 v2 σ n dep un :=
  fun A E Q s xs h1 h2 kp hn hl hq => x A E Q s xs h1 h2 kp hn hl fun t h' tk' ys k n' hy hp => hq σ t h' tk' ys hσ k n' hy hp

theorem says_sign (op : CmpOp) (d : Int) : says op d = says op (Int.sign d) := by
  rcases Int.lt_trichotomy d 0 with h | h | h
  · rw [Int.sign_eq_neg_one_of_neg h]
    cases op <;> simp [says] <;> omega
  · subst h; rfl
  · rw [Int.sign_eq_one_of_pos h]
    cases op <;> simp [says] <;> omega

end Mine
end

-- part M7
section
open PySem PySem.W PySem.Calls PyProof.Rows
set_option maxRecDepth 100000
namespace Mine

noncomputable abbrev cmps : List CmpOp := [CmpOp.Lt, .Gt, .Eq, .LtE, .GtE]
/-- a class of keys over the comparison at fa -/
structure Key (h : Heap) (a : KA) (cc fa : Addr) : Prop where
  cls : KAt h a
  meth : ∀ op ∈ cmps, MethAt h (a.fn op) op cc
  cell : h.IsCell cc (some (.ref fa))
  fn : ∃ oc od fd sl, h.get? fa = some ⟨oc, od, .func fd, sl⟩

theorem Key.kp {h h' : Heap} {nt : Addr} {xs : List Value} {a : KA} {cc fa : Addr} (n : NotesAt h nt xs) (k : Kp nt h h') (x : Key h a cc fa) : Key h' a cc fa :=
  ⟨KAt.kp n k x.cls, fun op ho => MethAt.kp n k (x.meth op ho), IsCell.kp n k x.cell, (by obtain ⟨oc, od, fd, sl, e⟩ := x.fn; exact ⟨oc, od, fd, sl, get_kp' n k e (by intro _ _ q; cases q) (nt_data (by intro _ q; cases q))⟩)⟩

section
variable {prog : Program} {w : World} {A : Around} {E : Value → Shared → Prop} {s : Shared} {H : Heap} {a : KA} {cc fa nt x y : Addr} {v1 v2 : Value} {σ : Int} {n dep un : Nat} {xs xs₀ : List Value}

theorem key_meth {op : CmpOp} {Q : Value → Shared → Prop} (ho : op ∈ cmps) (K : Key H a cc fa) (hA : Asks prog w nt H fa v1 v2 σ n dep un) (hl : H.NoLimit) (n₀ : NotesAt H nt xs₀) (kp : Kp nt H s.heap) (hn : NotesAt s.heap nt xs) (hlen : xs.length + n ≤ 1000000)
    (ix : InstK s.heap a x v1) (iy : InstK s.heap a y v2) (h1 : handedIn v1 = true) (h2 : handedIn v2 = true) (hroom : A.depth + (dep + 1) < recursionLimit) (hun : A.units + (un + 3) < cLine)
    (hq : ∀ h' tk' ys, Kq nt s.heap h' → NotesAt h' nt (xs ++ ys) → ys.length = n → Pairs h' v1 v2 ys → Q (.bool (says op σ)) { s with heap := h', toks := tk' }) :
    wpAny (model prog w) A (call (.ref (a.fn op)) [.ref x, .ref y]) Q E s := by
  have K' := K.kp n₀ kp
  obtain ⟨oc, od, fd, sl, e⟩ := K'.fn
  refine meth_call ho (K'.meth op ho) (NoLimit.kp n₀ kp hl) K'.cell e rfl K'.cls ix iy h1 h2 (by omega) fun env h₀ tk E' keep => ?_
  have hn₀ : NotesAt h₀ nt xs := (by obtain ⟨m, q⟩ := hn; exact ⟨m, keep _ _ q⟩)
  refine hA (A.deeper env) E' _ { s with heap := h₀, toks := tk } xs (by show A.depth + 1 + dep < _; omega) (by show A.units + 3 + un < _; omega) (kp.trans (Kp.of keep)) hn₀ hlen fun d t h' tk' ys hd k' hn' hy hp => ?_
  refine ⟨d, t, rfl, ?_⟩
  rw [says_sign, hd]
  exact hq h' _ ys ((Kq.of keep).trans k') hn' hy hp

noncomputable def eqSays (co : CmpOp) (σ : Int) : Bool := match co with
  | .NotEq => !says .Eq σ
  | _ => says .Eq σ
/-- what a made comparison of two keys tells, and how often it asks -/
noncomputable def made (op : CmpOp) (tl : Tail) (σ : Int) : Bool × Nat := match tl with
  | .one g _ _ => (g ^^ says op σ, 1)
  | .two g bo co _ _ _ _ _ _ => if (g ^^ says op σ) = stopAt bo then (g ^^ says op σ, 1) else (eqSays co σ, 2)

theorem nsN {h : Heap} {a : KA} (k : KAt h a) : ∃ mN, h.Ns a.N mN ∧ mN "__eq__" = some (.ref (a.fn .Eq)) ∧ mN "__ne__" = none := by
  obtain ⟨e, t, mo, fl, ep, hN⟩ := k.ns
  refine ⟨_, ⟨_, _, ep, hN, rfl, ?_, fun _ => rfl⟩, ?_, ?_⟩
  · intro en hen
    simp only [List.mem_toArray, List.mem_cons, List.not_mem_nil, or_false] at hen
    rcases hen with rfl | rfl | rfl | rfl | rfl | rfl | rfl | rfl | rfl | rfl | rfl | rfl | rfl <;> exact ⟨_, _, rfl⟩
  · unfold nsFind findBy
    rw [List.find?_toArray]
    rfl
  · unfold nsFind findBy
    rw [List.find?_toArray]
    rfl

theorem ownEq {h : Heap} (k : KAt h a) (ix : InstK h a x v1) : h.OwnEqNoNe x a.C (a.fn .Eq) "object" [.type "object"] := by
  obtain ⟨mN, hN, he, hne⟩ := nsN k
  obtain ⟨q, k0, k1, k2, k3, k5, hC⟩ := k.cls
  obtain ⟨od, fd, sl, hf⟩ := k.fn .Eq (by decide)
  obtain ⟨dx, hx, _⟩ := ix
  exact ⟨_, _, _, _, _, _, _, _, _, _, _, _, _, _, _, _, _, _, mN, _, hx, rfl, hC, hN, he, hf, rfl, F.cmp_object.mro, F.cmp_object.eq.lookup, hne⟩

end
end Mine
end

-- part M8
section
open PySem PySem.W PySem.Calls PyProof.Rows
set_option maxRecDepth 100000
namespace Mine
open Builtin Builtin.ObjectAttr Builtin.Getset_descriptor
theorem typeIn_ref {h : Heap} {b : Addr} {o : Obj} (e : h.get? b = some o) : typeIn (whole h) (.ref b) = some o.cls := by
  show ((whole h).lookup b).map (·.cls) = _
  rw [whole_lookup, e]; rfl
section
variable {prog : Program} {w : World} {A : Around} {E : Value → Shared → Prop} {s : Shared} {h : Heap} {a : KA}

theorem KAt.reads (k : KAt h a) : readsIn (whole h) a.C (.type "type") = true := by
  obtain ⟨q, k0, k1, k2, k3, k5, hC⟩ := k.cls
  obtain ⟨oc, od, ep, sl, hS⟩ := k.st
  have e1 : nsIn (whole h) cStatics "thirdparty.any" = some none := by
    unfold nsIn
    rw [whole_lookup, hS]
    rfl
  have e2 : typeIn (whole h) (.ref a.C) = some (.type "type") := typeIn_ref hC
  unfold readsIn
  rw [e1, e2]
  have e3 : findIn (whole h) (.type "type") "__getattribute__" = some (some (.builtin "type.__getattribute__")) := by
    show fastLookup "type" "__getattribute__" = _
    kernel_rfl
  have e4 : subIn (whole h) (.type "type") (.type "type") = some true := by
    first | rfl | kernel_rfl
  rw [e3, e4]
  rfl

theorem clsFn_of {name : Str} {f : Addr} {o : Obj} {mv : Value} (h1 : fastLookup "type" name = some (some mv)) (h2 : specialIn (whole h) mv "__get__" = some (some (.builtin "wrapper_descriptor.__get__"))) (h3 : takesIn (whole h) mv = some false)
    (h4 : findIn (whole h) (.ref a.C) name = some (some (.ref f))) (h5 : heldUnderItsOwnName name (.ref f) = false) (h6 : h.get? f = some o) (h7 : o.cls = .type "function") :
    findCls (whole h) (.ref a.C) (.type "type") name = some (.val (.ref f)) := by
  unfold findCls
  rw [show findIn (whole h) (.type "type") name = some (some mv) from h1]
  simp only [Option.bind_some, h2, h3, h4]
  rw [if_neg (by rw [h5]; decide)]
  rw [typeIn_ref h6, h7]
  rw [Option.bind_some, if_pos (by decide)]

theorem KAt.clsFn (k : KAt h a) {op : CmpOp} (ho : op ∈ cmps) : findCls (whole h) (.ref a.C) (.type "type") (cmpInfo op).2.1 = some (.val (.ref (a.fn op))) := by
  obtain ⟨od, fd, sl, hf⟩ := k.fn op ho
  simp only [cmps, List.mem_cons, List.not_mem_nil, or_false] at ho
  rcases ho with rfl | rfl | rfl | rfl | rfl
  · exact clsFn_of (mv := .builtin "object.__lt__") (by kernel_rfl) (by unfold specialIn typeIn; kernel_rfl) (by unfold takesIn specialIn typeIn; kernel_rfl) (k.find _ fun _ _ _ _ => by rfl) rfl hf rfl
  · exact clsFn_of (mv := .builtin "object.__gt__") (by kernel_rfl) (by unfold specialIn typeIn; kernel_rfl) (by unfold takesIn specialIn typeIn; kernel_rfl) (k.find _ fun _ _ _ _ => by rfl) rfl hf rfl
  · exact clsFn_of (mv := .builtin "object.__eq__") (by kernel_rfl) (by unfold specialIn typeIn; kernel_rfl) (by unfold takesIn specialIn typeIn; kernel_rfl) (k.find _ fun _ _ _ _ => by rfl) rfl hf rfl
  · exact clsFn_of (mv := .builtin "object.__le__") (by kernel_rfl) (by unfold specialIn typeIn; kernel_rfl) (by unfold takesIn specialIn typeIn; kernel_rfl) (k.find _ fun _ _ _ _ => by rfl) rfl hf rfl
  · exact clsFn_of (mv := .builtin "object.__ge__") (by kernel_rfl) (by unfold specialIn typeIn; kernel_rfl) (by unfold takesIn specialIn typeIn; kernel_rfl) (k.find _ fun _ _ _ _ => by rfl) rfl hf rfl

theorem cls_method (k : KAt s.heap a) {op : CmpOp} (ho : op ∈ cmps) {pl : Sem Bool} {Q : Value × List Value → Shared → Prop} (hq : Q (.ref (a.fn op), []) { s with toks := s.toks + 1 }) :
    wpAny (model prog w) A (getMethod (.ref a.C) (cmpInfo op).2.1 pl) Q E s := by
  refine method_cls (K := whole s.heap) (whole_in _) ?_ (cls_value (K := whole s.heap) (mc := .type "type") (whole_in _) k.reads (k.clsFn ho) rfl hq)
  obtain ⟨q, k0, k1, k2, k3, k5, hC⟩ := k.cls
  unfold specialIn
  rw [typeIn_ref hC]
  show fastLookup "type" "__getattribute__" = _
  kernel_rfl
end
end Mine
end

-- part M9
section
open PySem PySem.W PySem.Calls PyProof.Rows
set_option maxRecDepth 100000
namespace Mine
section
variable {prog : Program} {w : World} {A : Around} {E : Value → Shared → Prop} {s : Shared} {H : Heap} {a : KA} {cc fa nt x y : Addr} {v1 v2 : Value} {σ : Int} {n dep un : Nat} {xs xs₀ : List Value}

/-- the second comparison is == or != -/
noncomputable def Tail.ok : Tail → Prop
  | .one .. => True
  | .two _ _ co .. => co = .Eq ∨ co = .NotEq

theorem made_le (op : CmpOp) (tl : Tail) (σ : Int) : 1 ≤ (made op tl σ).2 ∧ (made op tl σ).2 ≤ 2 := by
  cases tl with
  | one => exact ⟨Nat.le_refl 1, Nat.le_succ 1⟩
  | two => unfold made; dsimp only; split <;> simp

theorem key_fn {f : Addr} {op : CmpOp} {tl : Tail} {mg mb : Str → Option Value} {Q : Value → Shared → Prop} (ho : op ∈ cmps) (htl : tl.ok) (hf : FnAt H f (cmpInfo op).2.1 tl) (hG : Glob H mg mb) (hg0 : mainGlobals ≠ nt) (hg1 : builtinsNs ≠ nt)
    (K : Key H a cc fa) (hA : Asks prog w nt H fa v1 v2 σ n dep un) (hl : H.NoLimit) (n₀ : NotesAt H nt xs₀) (kp : Kp nt H s.heap) (hn : NotesAt s.heap nt xs) (hlen : xs.length + n * (made op tl σ).2 ≤ 1000000)
    (ix : InstK s.heap a x v1) (iy : InstK s.heap a y v2) (h1 : handedIn v1 = true) (h2 : handedIn v2 = true) (hroom : A.depth + (dep + 2) < recursionLimit) (hun : A.units + (un + 8) < cLine)
    (hq : ∀ h' tk' ys, Kq nt s.heap h' → NotesAt h' nt (xs ++ ys) → ys.length = n * (made op tl σ).2 → Pairs h' v1 v2 ys → Q (.bool (made op tl σ).1) { s with heap := h', toks := tk' }) :
    wpAny (model prog w) A (call (.ref f) [.ref x, .ref y]) Q E s := by
  have hml := made_le op tl σ
  have hn1 : n ≤ n * (made op tl σ).2 := Nat.le_mul_of_pos_right n hml.1
  have hnL : nt < s.heap.objs.size := (by obtain ⟨_, e⟩ := hn; exact Heap.lt_size e)
  have K' := K.kp n₀ kp
  refine fn_call (T := .ref a.C) (g := .ref (a.fn op)) (nt := nt) (P := fun b h => b = says op σ ∧ Kq nt s.heap h ∧ ∃ ys, NotesAt h nt (xs ++ ys) ∧ ys.length = n ∧ Pairs h v1 v2 ys) (PN := fun _ => False)
    (FnAt.kp n₀ kp hf) (Glob.kp n₀ kp hG) (NoLimit.kp n₀ kp hl) (by omega) hnL hg0 hg1 ?ty ?gm ?cal ?op ?hP (fun _ _ z => z.elim) ?hend (fun _ _ _ z => z.elim)
  case ty =>
    intro A' E' h₀ tk Q' keep hq'
    obtain ⟨ox, od, I, _⟩ := (ix.keeps keep).at
    exact kto_own (s := { s with heap := h₀, toks := tk }) I (hq' tk)
  case gm =>
    intro A' E' h₀ tk pl Q' keep hq'
    exact cls_method (s := { s with heap := h₀, toks := tk }) (K'.cls.keeps keep) ho (hq' _)
  case cal =>
    obtain ⟨od, fd, sl, e⟩ := K'.cls.fn op ho
    exact .inl ⟨_, _, _, rfl, e, rfl⟩
  case op =>
    intro fd h₀ tk Q' _ keep _ hb _
    have hn₀ : NotesAt h₀ nt xs := (by obtain ⟨m, q⟩ := hn; exact ⟨m, keep _ _ q⟩)
    refine key_meth (s := { s with heap := h₀, toks := tk }) ho K hA hl n₀ (kp.trans (Kp.of keep)) hn₀ (by omega) (ix.keeps keep) (iy.keeps keep) h1 h2 (by show A.depth + 1 + _ < _; omega) (by show A.units + 3 + _ < _; omega) fun h' tk' ys k' n' hy hp => ?_
    exact hb _ h' tk' k' ⟨rfl, (Kq.of keep).trans k', ys, n', hy, hp⟩
  case hP =>
    rintro b h h' ⟨rfl, k, ys, hn', hy, hp⟩ ⟨m, hm⟩ st
    have hne : ∀ c o, h.get? c = some o → (∀ es ep, o.data ≠ .dict es ep) → c ≠ s.heap.objs.size := by
      rintro c o e hd rfl
      obtain ⟨o', es, ep, e', d', _⟩ := hm
      rw [e] at e'; cases e'
      exact hd _ _ d'
    refine ⟨rfl, fun c o hc e => st c o (Nat.ne_of_lt (Heap.lt_size e)) (k c o hc e), ys, ?_, hy, fun z hz => ?_⟩
    · obtain ⟨m', e⟩ := hn'
      exact ⟨m', st _ _ (hne _ _ e (by intro _ _ q; cases q)) e⟩
    · obtain ⟨t, d, m', sl, rfl, e⟩ := hp z hz
      exact ⟨t, d, m', sl, rfl, st _ _ (hne _ _ e (by intro _ _ q; cases q)) e⟩
  case hend =>
    rintro fd b h₂ tk₂ _ k₂ _ ⟨rfl, _, ys, hn', hy, hp⟩
    unfold endOf
    cases tl with
    | one g t1 t2 => exact hq h₂ tk₂ ys k₂ hn' (by rw [hy]; exact (Nat.mul_one n).symm) hp
    | two g bo co t1 t2 t3 t4 t5 t6 =>
      dsimp only
      by_cases hc : (g ^^ says op σ) = stopAt bo
      · have hm : made op (.two g bo co t1 t2 t3 t4 t5 t6) σ = (g ^^ says op σ, 1) := by unfold made; dsimp only; rw [if_pos hc]
        rw [if_pos hc]
        rw [hm] at hq
        exact hq h₂ tk₂ ys k₂ hn' (by rw [hy]; exact (Nat.mul_one n).symm) hp
      · have hm : made op (.two g bo co t1 t2 t3 t4 t5 t6) σ = (eqSays co σ, 2) := by unfold made; dsimp only; rw [if_neg hc]
        rw [if_neg hc]
        rw [hm] at hq hlen
        have ixx := InstK.kp hn k₂.kp ix
        have iyy := InstK.kp hn k₂.kp iy
        have K2 := K.kp n₀ (kp.trans k₂.kp)
        have hlen2 : (xs ++ ys).length + n ≤ 1000000 := by rw [List.length_append, hy]; dsimp only at hlen; omega
        obtain ⟨dy, hy1, _⟩ := iyy
        have second : ∀ (A' : Around) (E' Q' : Value → Shared → Prop), A'.depth + (dep + 1) < recursionLimit → A'.units + (un + 3) < cLine →
            (∀ h' tk' zs, Kq nt s.heap h' → NotesAt h' nt (xs ++ zs) → zs.length = n * 2 → Pairs h' v1 v2 zs → Q' (.bool (says .Eq σ)) { s with heap := h', toks := tk' }) →
            wpAny (model prog w) A' (call (.ref (a.fn .Eq)) [.ref x, .ref y]) Q' E' { s with heap := h₂, toks := tk₂ } := by
          intro A' E' Q' hr hu hq'
          refine key_meth (s := { s with heap := h₂, toks := tk₂ }) (op := .Eq) (by decide) K hA hl n₀ (kp.trans k₂.kp) hn' hlen2 ixx (InstK.kp hn k₂.kp iy) h1 h2 hr hu fun h' tk' zs k' n' hz hp' => ?_
          refine hq' h' tk' (ys ++ zs) (k₂.trans k') (by rw [← List.append_assoc]; exact n') (by rw [List.length_append, hy, hz]; omega) fun u hu' => ?_
          rcases List.mem_append.mp hu' with q | q
          · exact (hp u q).kp hn' k'.kp
          · exact hp' u q
        rcases htl with rfl | rfl
        · refine compareOp_own_same (op := .Eq) (h := h₂) rfl (by decide) (ownEq K2.cls ixx).ownEq hy1 rfl (by show A.units + 3 < _; omega) ?_
          refine second _ _ _ (by show A.depth + 1 + _ < _; omega) (by show A.units + 3 + _ < _; omega) fun h' tk' zs k' n' hz hp' => ⟨_, rfl, ?_⟩
          exact hq h' tk' zs k' n' hz hp'
        · refine compareOp_ne_ownEq (h := h₂) F.cmp_object (ownEq K2.cls ixx) hy1 rfl (by show A.units + 3 + 1 < _; omega) ?_
          refine second _ _ _ (by show A.depth + 1 + _ < _; omega) (by show A.units + 3 + 1 + _ < _; omega) fun h' tk' zs k' n' hz hp' => ⟨_, rfl, ?_⟩
          exact hq h' tk' zs k' n' hz hp'
end
end Mine
end

-- part M10
section
open PySem PySem.W PySem.Calls PyProof.Rows
set_option maxRecDepth 100000
namespace Mine
noncomputable abbrev iScope : Scope := { kind := .function, names := [("self", .local), ("obj", .local)], isGenerator := false, isCoroutine := false, more := [] }
noncomputable abbrev iFd (nm q : Str) (q1 q2 p1 p2 p3 p4 : Pos) (pm cd ct doc : Value) : FuncData :=
  { name := nm, qualname := q,
    params := { posonlyargs := [], args := [⟨"self", none, q1⟩, ⟨"obj", none, q2⟩], vararg := none, kwonlyargs := [], kw_defaults := [], kwarg := none, defaults := [] },
    body := .stmts [.Assign [.Attribute (.Name "self" p1) "obj" p2] (.Name "obj" p3) p4],
    scope := iScope, globals := mainGlobals, closure := [], defaults := .none, kwdefaults := .none, pyModule := pm, code := cd, closureTuple := ct, doc := doc, builtins := builtinsNs }
noncomputable def InitAt (h : Heap) (f : Addr) : Prop :=
  ∃ nm q q1 q2 p1 p2 p3 p4 pm cd ct doc od sl, h.get? f = some ⟨.type "function", od, .func (iFd nm q q1 q2 p1 p2 p3 p4 pm cd ct doc), sl⟩ ∧ h.CodeRec cd q
theorem InitAt.keeps {h h' : Heap} {f : Addr} (x : InitAt h f) (k : ∀ b o, h.get? b = some o → h'.get? b = some o) : InitAt h' f := by
  obtain ⟨nm, q, q1, q2, p1, p2, p3, p4, pm, cd, ct, doc, od, sl, e, c⟩ := x
  exact ⟨nm, q, q1, q2, p1, p2, p3, p4, pm, cd, ct, doc, od, sl, k _ _ e, c.keeps k⟩
theorem InitAt.kp {h h' : Heap} {nt f : Addr} {xs : List Value} (n : NotesAt h nt xs) (k : Kp nt h h') (x : InitAt h f) : InitAt h' f := by
  obtain ⟨nm, q, q1, q2, p1, p2, p3, p4, pm, cd, ct, doc, od, sl, e, c⟩ := x
  exact ⟨nm, q, q1, q2, p1, p2, p3, p4, pm, cd, ct, doc, od, sl, get_kp' n k e (by intro _ _ q; cases q) (nt_data (by intro _ q; cases q)), CodeRec.kp n k c⟩

section
variable {prog : Program} {w : World} {A : Around} {E : Value → Shared → Prop} {s : Shared} {h : Heap} {a : KA} {v : Value}

theorem KAt.makes (k : KAt h a) : makesIn (whole h) a.C = true := by
  obtain ⟨q, k0, k1, k2, k3, k5, hC⟩ := k.cls
  unfold makesIn
  rw [whole_lookup, hC]
  have e1 : specialIn (whole h) (.ref a.C) "__call__" = some (some (.builtin "type.__call__")) := by
    unfold specialIn; rw [typeIn_ref hC]; show fastLookup "type" "__call__" = _; kernel_rfl
  have e2 : instIn (whole h) (.ref a.C) (.type "type") = some true := by
    unfold instIn; rw [typeIn_ref hC]; show subIn (whole h) (.type "type") (.type "type") = _; first | rfl | kernel_rfl
  simp only [e1, e2]
  simp

theorem initBinds {fd : FuncData} (a b : Value) (hp : ∃ q1 q2, fd.params = { posonlyargs := [], args := [⟨"self", none, q1⟩, ⟨"obj", none, q2⟩], vararg := none, kwonlyargs := [], kw_defaults := [], kwarg := none, defaults := [] })
    (hd : fd.defaults = .none) : bindArgs fd ⟨[a, b], []⟩ = pure ([("self", a), ("obj", b)] : List (Str × Value)) := by
  obtain ⟨nm, qq, params, body, scope, gl, cl, df, kd, doc, pm, an, cd, ct, bi⟩ := fd
  obtain ⟨q1, q2, e⟩ := hp
  dsimp only at e hd
  subst e hd
  rfl

/-- K(v): a new key -/
theorem make_call {Q : Value → Shared → Prop} (k : KAt s.heap a) (hi : InitAt s.heap a.fi) (hl : s.heap.NoLimit) (hroom : A.depth + 3 < recursionLimit)
    (hq : ∀ x h' tk', (∀ b o, s.heap.get? b = some o → h'.get? b = some o) → InstK h' a x v → s.heap.get? x = none → Q (.ref x) { s with heap := h', toks := tk' }) :
    wpAny (model prog w) A (call (.ref a.C) [v]) Q E s := by
  obtain ⟨hh, g, d, t, os⟩ := s
  dsimp only at k hi hl hq
  obtain ⟨od0, fd0, sl0, hfi⟩ := k.fi
  refine wpAny_call (make_core (makes_of (whole_in hh) k.makes) (looks_findIn (whole_in hh) (k.find (r := some (.ref a.fi)) _ fun _ _ _ _ => by rfl)) (fun self => bind_fn (whole_in hh) self (typeIn_ref hfi)) (.inl rfl) ?_)
  have k1 : ∀ b o, hh.get? b = some o → ((hh.push emptyDict).push (instObj a.C hh.objs.size)).get? b = some o := fun b o e => Heap.get?_push_of_some _ (Heap.get?_push_of_some _ e)
  have hx : ((hh.push emptyDict).push (instObj a.C hh.objs.size)).get? (hh.objs.size + 1) = some (instObj a.C hh.objs.size) := by heap_get
  have hdx : ((hh.push emptyDict).push (instObj a.C hh.objs.size)).get? hh.objs.size = some emptyDict := Heap.get?_push_of_some _ (Heap.get?_push_size _ rfl)
  obtain ⟨nm, q, q1, q2, p1, p2, p3, p4, pm, cd, ct, doc, od, sl, hf, hcd⟩ := hi.keeps k1
  refine codeAny_call_plain (binds := [("self", .ref (hh.objs.size + 1)), ("obj", v)]) (by show A.depth + 1 + 0 + 0 + 0 < _; omega) hf rfl (hl.keeps k1) hcd rfl (initBinds _ _ ⟨_, _, rfl⟩ rfl) (show ∀ x ∈ iScope.names, x.2 ≠ NameKind.cell from by decide) (locs rfl) fun h₀ hns keep => ?_
  have hsz : ((hh.push emptyDict).push (instObj a.C hh.objs.size)).objs.size = hh.objs.size + 2 := by simp only [Heap.size_push]
  dsimp only at hns keep
  rw [hsz] at hns
  show wpAny _ _ _ _ _ _
  dsimp only
  rw [hsz]
  refine wpAny_execs_cons (plainObj_wpAny_Assign_Attribute (wpAny_Name (wpAny_loadName_local rfl rfl hns rfl (wpAny_Name (wpAny_loadName_local rfl rfl hns rfl ?_)))))
  have kk := k.keeps k1 |>.keeps keep
  have I : InstAt h₀ (hh.objs.size + 1) (instObj a.C hh.objs.size) a.C (some emptyDict) := ⟨keep _ _ hx, rfl, rfl, keep _ _ hdx⟩
  refine set_plain (K := whole h₀) (whole_in _) I (kk.find _ fun _ _ _ _ => by rfl) ?_
  obtain ⟨cdd, hcdd, _, _, hmro⟩ := kk.clsIs
  obtain ⟨tn, hmd⟩ := kk.md
  refine osa_descr (K := whole h₀) KF.slot_mset (whole_in _) I (by unfold plainOver; rw [hcdd]; show onlyObject cdd.mro = true; rw [hmro]; rfl) (p := a.md) ?_ (typeIn_ref hmd) ?_
  · unfold takerIn
    rw [kk.obj]
    have h1 : ∀ n, specialIn (whole h₀) (.ref a.md) n = fastLookup "member_descriptor" n := fun n => by
      unfold specialIn
      rw [typeIn_ref hmd]
      rfl
    show (takesIn (whole h₀) (.ref a.md)).map _ = _
    unfold takesIn
    rw [h1, show fastLookup "member_descriptor" "__set__" = some (some (.builtin "member_descriptor.__set__")) from by kernel_rfl]
    rfl
  have Fr0 : Fr hh (hh.objs.size + 2) h₀ _ := ⟨hns, fun b o e => keep _ _ (k1 _ _ e), by omega⟩
  have Nw : News hh (hh.objs.size + 2) h₀ ([] ++ (hh.objs.size + 1, instObj a.C hh.objs.size) :: [(hh.objs.size, emptyDict)]) := by
    intro p hp
    simp only [List.nil_append, List.mem_cons, List.not_mem_nil, or_false] at hp
    rcases hp with rfl | rfl
    · exact ⟨keep _ _ hx, by simp, Heap.get?_none_of_le (Nat.le_succ _)⟩
    · exact ⟨keep _ _ hdx, by simp, Heap.get?_none_of_le (Nat.le_refl _)⟩
  refine slot_set (K := whole h₀) (s := ⟨h₀, _, _, _, _⟩) Fr0 Nw (whole_in _) I kk.slotIn (by decide) (fun _ h => nomatch h) (fun p hp => by simp only [List.mem_cons, List.not_mem_nil, or_false] at hp; subst hp; simp) rfl rfl fun h' F' N' => ?_
  refine wpAny_execs_nil ?_
  refine ⟨rfl, hq _ h' _ F'.keep ⟨hh.objs.size, (N' (hh.objs.size + 1, ⟨.ref a.C, some hh.objs.size, .plain, #[some v]⟩) (by simp)).1, (N' (hh.objs.size, emptyDict) (by simp)).1⟩ (Heap.get?_none_of_le (Nat.le_succ _))⟩
end
end Mine
end

-- part M11
section
open PySem PySem.W PySem.Calls PyProof.Rows
set_option maxRecDepth 100000
namespace Mine
section
variable {prog : Program} {w : World} {A : Around} {E : Value → Shared → Prop} {s : Shared} {a : KA}

theorem codeAny_call_lam {R : Result → Shared → Prop} {f : Addr} {o : Obj} {fd : FuncData} {body : Expr} {vals : List Value} {binds : List (Str × Value)}
    (hroom : A.depth < recursionLimit) (ho : s.heap.get? f = some o) (hdata : o.data = .func fd) (hlim : s.heap.NoLimit) (hcd : s.heap.CodeRec fd.code fd.qualname)
    (hbody : fd.body = .expr body) (hbind : bindArgs fd ⟨vals, []⟩ = pure binds)
    (hcell : ∀ x ∈ fd.scope.names, x.2 ≠ .cell) (hloc : ∀ x ∈ binds, fd.scope.names.lookup x.1 = some .local)
    (h : ∀ h₀, h₀.Ns s.heap.objs.size (fun x => binds.reverse.lookup x) → (∀ b o, s.heap.get? b = some o → h₀.get? b = some o) →
      wpAny (model prog w) (A.deeper (callEnv fd s.heap.objs.size f)) (eval body (callEnv fd s.heap.objs.size f)) (fun v s' => R (.ok (.ret v)) s')
        (fun e s' => wpAny (model prog w) (A.deeper (callEnv fd s.heap.objs.size f)) (leaving (callEnv fd s.heap.objs.size f) e) (fun _ s'' => R (.error e) s'') (fun e' s'' => R (.error e') s'') s')
        { s with heap := h₀, toks := s.toks + binds.length })
    (hco : fd.scope.isCoroutine = false := by rfl) (hgen : fd.scope.isGenerator = false := by rfl) (hk : fd.scope.kind = .function := by rfl) :
    codeAny (model prog w) A (.call (.ref f) ⟨vals, []⟩) R s := by
  refine kla_callFunE hroom ho hdata hco hgen hbody hcd ?_
  rw [hbind]
  refine wpAny_pure (wpAny_newFunctionEnv hcell hloc (fun h₀ hns₀ hsb₀ => ⟨hlim.fresh _ hsb₀, kla_codeExpr (h h₀ hns₀ fun b o e => ?_)⟩) hk)
  exact hsb₀.extBut b o (Nat.ne_of_lt (Heap.lt_size e)) (Heap.get?_push_of_some _ e)

theorem callWith_cls {pos : Pos} {args : List (Bool × Sem Value)} {Q : Value → Shared → Prop} (hplain : args.any (·.1) = false)
    (h : wpAny (model prog w) A (evalArgs (.ref a.C) true args []) (fun x s₁ => KAt s₁.heap a ∧ wpAny (model prog w) A (call (.ref a.C) x.pos x.kw) Q E s₁) E s) :
    wpAny (model prog w) A (callWith pos (.ref a.C) [] args []) Q E s := by
  unfold callWith
  refine wpAny_bind (wpAny_holding (wpAny_mono h (fun x s₁ h₁ => wpAny_bind (wpAny_standAt ?_)) fun _ _ x => x))
  obtain ⟨k, hc⟩ := h₁
  simp only [hplain, List.any_nil, Bool.or_false]
  refine wpAny_bind (m := keeperOf (.ref a.C)) ?_
  obtain ⟨q, k0, k1, k2, k3, k5, hC⟩ := k.cls
  unfold keeperOf
  refine wpAny_bind (wpAny_load hC ?_)
  have e1 : specialIn (whole s₁.heap) (.ref a.C) "__call__" = some (some (.builtin "type.__call__")) := by
    unfold specialIn; rw [typeIn_ref hC]; show fastLookup "type" "__call__" = _; kernel_rfl
  refine wpAny_bind ((looks_specialIn (whole_in s₁.heap) e1).here (wpAny_pure ?_))
  rw [if_pos (by decide)]
  exact wpAny_bind (wpAny_mono hc (fun r s₂ hr => wpAny_bind (wpAny_holding (wpAny_point (wpAny_pure hr)))) fun _ _ x => x)
end

noncomputable abbrev lScope : Scope := { kind := .function, names := [("a", .local), ("b", .local), ("less", .free), ("make", .free), ("more", .free)], isGenerator := false, isCoroutine := false, more := [] }
noncomputable abbrev lCall (n : Str) (p1 p2 p3 p4 p5 p6 p7 p8 : Pos) : Expr := .Call (.Name n p1) [.Call (.Name "make" p2) [.Name "a" p3] [] p4, .Call (.Name "make" p5) [.Name "b" p6] [] p7] [] p8
noncomputable abbrev lFd (nm q n1 n2 : Str) (q1 q2 : Pos) (p : Nat → Pos) (cl : List (Str × Addr)) (pm cd ct : Value) : FuncData :=
  kla_fn nm q { posonlyargs := [], args := [⟨"a", none, q1⟩, ⟨"b", none, q2⟩], vararg := none, kwonlyargs := [], kw_defaults := [], kwarg := none, defaults := [] }
    (.BinOp (lCall n1 (p 0) (p 1) (p 2) (p 3) (p 4) (p 5) (p 6) (p 7)) .Sub (lCall n2 (p 8) (p 9) (p 10) (p 11) (p 12) (p 13) (p 14) (p 15)) (p 16)) lScope cl pm cd ct

/-- a layer's function: it takes n1's answer less n2's -/
structure LayAt (h : Heap) (f : Addr) (n1 n2 : Str) (a : KA) (f1 f2 : Addr) : Prop where
  fn : ∃ nm q q1 q2 p cl pm cd ct oc od sl, h.get? f = some ⟨oc, od, .func (lFd nm q n1 n2 q1 q2 p cl pm cd ct), sl⟩ ∧ h.CodeRec cd q ∧
    (∃ c, cl.lookup n1 = some c ∧ h.IsCell c (some (.ref f1))) ∧ (∃ c, cl.lookup n2 = some c ∧ h.IsCell c (some (.ref f2))) ∧ (∃ c, cl.lookup ("make" : Str) = some c ∧ h.IsCell c (some (.ref a.C)))
theorem LayAt.kp {h h' : Heap} {nt f : Addr} {xs : List Value} {n1 n2 : Str} {a : KA} {f1 f2 : Addr} (n : NotesAt h nt xs) (k : Kp nt h h') (x : LayAt h f n1 n2 a f1 f2) : LayAt h' f n1 n2 a f1 f2 := by
  obtain ⟨nm, q, q1, q2, p, cl, pm, cd, ct, oc, od, sl, e, c, ⟨c1, e1, i1⟩, ⟨c2, e2, i2⟩, ⟨c3, e3, i3⟩⟩ := x.fn
  exact ⟨nm, q, q1, q2, p, cl, pm, cd, ct, oc, od, sl, get_kp' n k e (by intro _ _ q; cases q) (nt_data (by intro _ q; cases q)), CodeRec.kp n k c, ⟨c1, e1, IsCell.kp n k i1⟩, ⟨c2, e2, IsCell.kp n k i2⟩, ⟨c3, e3, IsCell.kp n k i3⟩⟩

theorem lamBinds {fd : FuncData} (a b : Value) (hp : ∃ q1 q2, fd.params = { posonlyargs := [], args := [⟨"a", none, q1⟩, ⟨"b", none, q2⟩], vararg := none, kwonlyargs := [], kw_defaults := [], kwarg := none, defaults := [] })
    (hd : fd.defaults = .none) : bindArgs fd ⟨[a, b], []⟩ = pure ([("a", a), ("b", b)] : List (Str × Value)) := by
  obtain ⟨nm, qq, params, body, scope, gl, cl, df, kd, doc, pm, an, cd, ct, bi⟩ := fd
  obtain ⟨q1, q2, e⟩ := hp
  dsimp only at e hd
  subst e hd
  rfl
end Mine
end

-- part M12
section
open PySem PySem.W PySem.Calls PyProof.Rows
set_option maxRecDepth 100000
namespace Mine
section
variable {prog : Program} {w : World} {A : Around} {E : Value → Shared → Prop} {s : Shared} {H : Heap} {a : KA} {cc fa nt : Addr} {r1 r2 : Addr} {σ : Int} {n dep un : Nat} {xs xs₀ : List Value} {mg mb : Str → Option Value}

/-- what stays as it is while things are compared -/
structure Sure (H : Heap) (nt : Addr) (mg mb : Str → Option Value) : Prop where
  glob : Glob H mg mb
  lim : H.NoLimit
  notes : ∃ xs, NotesAt H nt xs
  g0 : mainGlobals ≠ nt
  g1 : builtinsNs ≠ nt

theorem Ns.keepAll {h h' : Heap} {b : Addr} {m} (x : h.Ns b m) (k : ∀ b o, h.get? b = some o → h'.get? b = some o) : h'.Ns b m := x.keeps k
theorem NotesAt.keeps {h h' : Heap} (x : NotesAt h nt xs) (k : ∀ b o, h.get? b = some o → h'.get? b = some o) : NotesAt h' nt xs := (by obtain ⟨m, q⟩ := x; exact ⟨m, k _ _ q⟩)

theorem FnAt.fn {h : Heap} {f : Addr} {attr : Str} {tl : Tail} (x : FnAt h f attr tl) : ∃ o fd, h.get? f = some o ∧ o.data = .func fd := by
  obtain ⟨z, e, c, l⟩ := x
  exact ⟨_, _, e, rfl⟩
theorem lcall_eval {env : Env} {nme : Str} {c cm f1 : Addr} {op : CmpOp} {tl : Tail} {m : Str → Option Value} {p1 p2 p3 p4 p5 p6 p7 p8 : Pos} {Q : Value → Shared → Prop}
    (S : Sure H nt mg mb) (hk : env.scope.kind = .function) (hl1 : env.kindOf nme = some .free) (hl2 : env.kindOf "make" = some .free) (hla : env.kindOf "a" = some .local) (hlb : env.kindOf "b" = some .local)
    (hc : env.cells.lookup nme = some c) (hcm : env.cells.lookup ("make" : Str) = some cm) (hd1 : (nme == ("__debug__" : Str)) = false) (hd2 : (nme == ("__classdict__" : Str)) = false) (i1 : H.IsCell c (some (.ref f1))) (i2 : H.IsCell cm (some (.ref a.C)))
    (ho : op ∈ cmps) (htl : tl.ok) (hf : FnAt H f1 (cmpInfo op).2.1 tl) (K : Key H a cc fa) (hin : InitAt H a.fi) (hA : Asks prog w nt H fa (.ref r1) (.ref r2) σ n dep un)
    (kp : Kp nt H s.heap) (hn : NotesAt s.heap nt xs) (hlen : xs.length + n * (made op tl σ).2 ≤ 1000000) (hns : s.heap.Ns env.locals m) (hma : m "a" = some (.ref r1)) (hmb : m "b" = some (.ref r2))
    (hroom : A.depth + (dep + 4) < recursionLimit) (hun : A.units + (un + 8) < cLine)
    (hq : ∀ h' tk' ys, Kq nt s.heap h' → NotesAt h' nt (xs ++ ys) → ys.length = n * (made op tl σ).2 → Pairs h' (.ref r1) (.ref r2) ys → Q (.bool (made op tl σ).1) { s with heap := h', toks := tk' }) :
    wpAny (model prog w) A (eval (lCall nme p1 p2 p3 p4 p5 p6 p7 p8) env) Q E s := by
  obtain ⟨xs₀, n₀⟩ := S.notes
  have K' := K.kp n₀ kp
  have hin' := InitAt.kp n₀ kp hin
  have hl' := NoLimit.kp n₀ kp S.lim
  obtain ⟨fo, fdd, hfo, hfd⟩ := (FnAt.kp n₀ kp hf).fn
  refine wpAny_Call_Name_kw (wpAny_Name (wpAny_loadName_free hk hl1 hc (IsCell.kp n₀ kp i1) ?_ hd2) hd1)
  refine callWith_function (o := fo) (fd := fdd) (evalArgs_plain (spliced_cons ?_))
  -- make(a)
  refine wpAny_Call_Name_kw (wpAny_Name (wpAny_loadName_free hk hl2 hcm (IsCell.kp n₀ kp i2) ?_))
  refine callWith_cls rfl (evalArgs_plain (spliced_cons (wpAny_Name (wpAny_loadName_local hk hla hns hma (spliced_nil ⟨K'.cls, ?_⟩)))))
  refine make_call K'.cls hin' hl' (by omega) fun x h1 t1 k1 ix _ => ?_
  refine spliced_cons ?_
  -- make(b)
  refine wpAny_Call_Name_kw (wpAny_Name (wpAny_loadName_free hk hl2 hcm ((IsCell.kp n₀ kp i2).keeps k1) ?_))
  refine callWith_cls rfl (evalArgs_plain (spliced_cons (wpAny_Name (wpAny_loadName_local (s := { s with heap := h1, toks := t1 }) hk hlb (hns.keeps k1) hmb (spliced_nil ⟨K'.cls.keeps k1, ?_⟩)))))
  refine make_call (s := { s with heap := h1, toks := t1 }) (K'.cls.keeps k1) (hin'.keeps k1) (hl'.keeps k1) (by omega) fun y h2 t2 k2 iy _ => ?_
  have k12 : ∀ b o, s.heap.get? b = some o → h2.get? b = some o := fun b o e => k2 _ _ (k1 _ _ e)
  refine spliced_nil ⟨⟨k12 _ _ hfo, hfd⟩, ?_⟩
  refine key_fn (s := { s with heap := h2, toks := t2 }) ho htl hf S.glob S.g0 S.g1 K hA S.lim n₀ (kp.trans (Kp.of k12)) (hn.keeps k12) hlen (ix.keeps k2) iy rfl rfl (by omega) hun fun h' tk' ys kk hn' hy hp => ?_
  exact hq h' tk' ys ((Kq.of k12).trans kk) hn' hy hp

theorem AsksX.mono {H H' : Heap} {v1 v2 : Value} (h : AsksX prog w nt H fa v1 v2 σ n dep un) (k : Kp nt H H') : AsksX prog w nt H' fa v1 v2 σ n dep un :=
  fun A E Q s xs h1 h2 kp hn hl hq => h A E Q s xs h1 h2 (k.trans kp) hn hl hq
theorem Asks.mono {H H' : Heap} {v1 v2 : Value} (h : Asks prog w nt H fa v1 v2 σ n dep un) (k : Kp nt H H') : Asks prog w nt H' fa v1 v2 σ n dep un :=
  fun A E Q s xs h1 h2 kp hn hl hq => h A E Q s xs h1 h2 (k.trans kp) hn hl hq

noncomputable def b2 (b : Bool) : Int := if b then 1 else 0

/-- a layer over a comparison -/
theorem layer_asks {f f1 f2 : Addr} {n1 n2 : Str} {op1 op2 : CmpOp} {tl1 tl2 : Tail} (S : Sure H nt mg mb) (hnm : (n1 = "more" ∧ n2 = "less") ∨ (n1 = "less" ∧ n2 = "more"))
    (Ly : LayAt H f n1 n2 a f1 f2) (ho1 : op1 ∈ cmps) (htl1 : tl1.ok) (hf1 : FnAt H f1 (cmpInfo op1).2.1 tl1) (ho2 : op2 ∈ cmps) (htl2 : tl2.ok) (hf2 : FnAt H f2 (cmpInfo op2).2.1 tl2)
    (K : Key H a cc fa) (hin : InitAt H a.fi) (hA : Asks prog w nt H fa (.ref r1) (.ref r2) σ n dep un) :
    AsksX prog w nt H f (.ref r1) (.ref r2) (b2 (made op1 tl1 σ).1 - b2 (made op2 tl2 σ).1) (n * ((made op1 tl1 σ).2 + (made op2 tl2 σ).2)) (dep + 5) (un + 11) := by
  intro A E Q s xs hroom hun kp hn hlen hq
  obtain ⟨xs₀, n₀⟩ := S.notes
  obtain ⟨nm, q, q1, q2, p, cl, pm, cd, ct, oc, od, sl, hfo, hcd, ⟨c1, e1, i1⟩, ⟨c2, e2, i2⟩, ⟨c3, e3, i3⟩⟩ := Ly.fn
  have hfo' := get_kp' n₀ kp hfo (by intro _ _ q; cases q) (nt_data (by intro _ q; cases q))
  rw [Nat.mul_add] at hlen
  refine wpAny_call (codeAny_call_lam (binds := [("a", .ref r1), ("b", .ref r2)]) (by omega) hfo' rfl (NoLimit.kp n₀ kp S.lim) (CodeRec.kp n₀ kp hcd) rfl (lamBinds _ _ ⟨_, _, rfl⟩ rfl) (show ∀ x ∈ lScope.names, x.2 ≠ NameKind.cell from by decide) (locs rfl) fun h₀ hns keep => ?_)
  have hk1 : (callEnv (lFd nm q n1 n2 q1 q2 p cl pm cd ct) s.heap.objs.size f).kindOf n1 = some .free := by rcases hnm with ⟨rfl, rfl⟩ | ⟨rfl, rfl⟩ <;> rfl
  have hk2 : (callEnv (lFd nm q n1 n2 q1 q2 p cl pm cd ct) s.heap.objs.size f).kindOf n2 = some .free := by rcases hnm with ⟨rfl, rfl⟩ | ⟨rfl, rfl⟩ <;> rfl
  have hd1 : (n1 == ("__debug__" : Str)) = false ∧ (n1 == ("__classdict__" : Str)) = false := by rcases hnm with ⟨rfl, rfl⟩ | ⟨rfl, rfl⟩ <;> decide
  have hd2 : (n2 == ("__debug__" : Str)) = false ∧ (n2 == ("__classdict__" : Str)) = false := by rcases hnm with ⟨rfl, rfl⟩ | ⟨rfl, rfl⟩ <;> decide
  have hnL : nt < s.heap.objs.size := (by obtain ⟨_, e⟩ := hn; exact Heap.lt_size e)
  have hLn : s.heap.objs.size ≠ nt := Nat.ne_of_gt hnL
  refine wpAny_BinOp ?_
  refine lcall_eval (s := { s with heap := h₀, toks := s.toks + 2 }) S rfl hk1 rfl rfl rfl e1 e3 hd1.1 hd1.2 i1 i3 ho1 htl1 hf1 K hin hA (kp.trans (Kp.of keep)) (hn.keeps keep) (by omega) hns rfl rfl (by show A.depth + 1 + _ < _; omega) (by show A.units + 3 + _ < _; omega) fun h1 t1 ys k1 hn1 hy1 hp1 => ?_
  refine lcall_eval (s := { s with heap := h1, toks := t1 }) S rfl hk2 rfl rfl rfl e2 e3 hd2.1 hd2.2 i2 i3 ho2 htl2 hf2 K hin hA ((kp.trans (Kp.of keep)).trans k1.kp) hn1 (by rw [List.length_append, hy1]; omega) (Ns.kp hns k1.kp hLn) rfl rfl (by show A.depth + 1 + _ < _; omega) (by show A.units + 3 + _ < _; omega) fun h2 t2 zs k2 hn2 hy2 hp2 => ?_
  refine sub_bool ?_
  have hb : ∀ b, b2i b = b2 b := fun b => by cases b <;> rfl
  rw [hb, hb]
  refine hq _ h2 _ (ys ++ zs) (((Kq.of keep).trans k1).trans k2) (by rw [← List.append_assoc]; exact hn2) (by rw [List.length_append, hy1, hy2, Nat.mul_add]) fun u hu => ?_
  rcases List.mem_append.mp hu with z | z
  · exact (hp1 u z).kp hn1 k2.kp
  · exact hp2 u z
end
end Mine
end

-- part P1
section
open PySem PySem.W PySem.Calls PyProof.Rows
set_option maxRecDepth 100000
namespace Mine
section
variable {M : Model} {A : Around} {E : Value → Shared → Prop} {s : Shared}
/-- a class's code, made for the first time -/
theorem class_miss {env : Env} {c P : Addr} {ps : Array Value} {pos : Pos} {fl : Nat} {name qual : Str} {scope : Scope} {Q : Value → Shared → Prop} (hc : env.code = .ref c) (C : CodeHd s.heap c P) (hP : s.heap.get? P = some (tabObj ps)) (ht : TriplesOk ps.toList) (hnf : codeAmong pos ps.toList = none)
    (hq : ∀ c' P' h' tk, Heap.ExtBut P s.heap h' → CodeHd h' c' P' → h'.get? P' = some (tabObj #[]) → h'.CodeRec (.ref c') qual → h'.get? P = some (tabObj (ps ++ #[rawInt pos.line, rawInt pos.col, .ref c'])) → s.heap.objs.size ≤ c' → s.heap.objs.size ≤ P' →
      Q (.ref c') { s with heap := h', toks := tk }) : wpAny M A (classCode env pos fl name qual scope) Q E s := by
  obtain ⟨o, vs, file, tf, flags, tg, inF, text, tt, e1, e2, e3, e4, f3, f4, f5, f6, f7, f11⟩ := id C
  unfold classCode codeAt
  rw [hc, if_neg (show ¬ ((Value.ref c == Value.none) = true) from Bool.false_ne_true)]
  refine wpAny_bind (wpAny_fieldsOf e1 e3 ?_)
  rw [f3]
  refine wpAny_bind (wpAny_fieldsOf hP rfl ?_)
  rw [hnf, f4, f5, f6, f7]
  refine wpAny_bind (wpAny_newCodeX fun c' P' h' tk hk hc' hP' hcode' htab' hrec' => ?_)
  have hP1 := hk _ _ hP
  refine wpAny_bind (wpAny_updateFieldsOfTheText hP1 rfl ?_)
  have e5 : Obj.mapFields (fun vs => if (codeAmong pos vs.toList).isSome = true then vs else vs ++ #[rawInt pos.line, rawInt pos.col, .ref c']) (tabObj ps) = tabObj (ps ++ #[rawInt pos.line, rawInt pos.col, .ref c']) := by
    show tabObj (if (codeAmong pos ps.toList).isSome = true then ps else _) = _
    rw [hnf]; rfl
  have hget := Heap.get?_update_self (h := h') (Obj.mapFields (fun vs => if (codeAmong pos vs.toList).isSome = true then vs else vs ++ #[rawInt pos.line, rawInt pos.col, .ref c'])) hP1 (by rw [e5]; rfl)
  rw [e5] at hget
  refine wpAny_bind (wpAny_fieldsOf hget rfl ?_)
  have hl : (ps ++ #[rawInt pos.line, rawInt pos.col, Value.ref c']).toList = ps.toList ++ [rawInt pos.line, rawInt pos.col, .ref c'] := by simp
  rw [hl, codeAmong_snoc _ ht hnf]
  have nc : s.heap.get? c' = none := Heap.get?_none_of_le hc'
  have nP : s.heap.get? P' = none := Heap.get?_none_of_le hP'
  have hcP : c' ≠ P := fun q => by rw [q, hP] at nc; cases nc
  have hPP : P' ≠ P := fun q => by rw [q, hP] at nP; cases nP
  have up : ∀ b o', b ≠ P → h'.get? b = some o' → (h'.update P (Obj.mapFields (fun vs => if (codeAmong pos vs.toList).isSome = true then vs else vs ++ #[rawInt pos.line, rawInt pos.col, .ref c']))).get? b = some o' := fun b o' hb e => Heap.get?_update_of_ne _ (Ne.symm hb) e
  refine wpAny_pure (hq c' P' _ _ (fun b o' hb e => up b o' hb (hk b o' e)) ?_ (up _ _ hPP htab'.2) ?_ hget hc' hP')
  · obtain ⟨o2, vs2, a3, a4, a5, a6, a7, a8, a9, b1, b2⟩ := CodeHd.of hcode' htab'
    exact ⟨o2, vs2, a3, a4, a5, a6, a7, a8, a9, up _ _ hcP b1, b2⟩
  · obtain ⟨c₂, o₂, vs₂, t₂, e₂, g₂, r₂⟩ := hrec'
    cases e₂
    exact ⟨_, o₂, vs₂, t₂, rfl, up _ _ hcP g₂, r₂⟩

/-- a code's table: what lies there for these places has these names -/
noncomputable def TabGood (h : Heap) (P : Addr) (S : List (Pos × Str)) : Prop := ∃ ps, h.get? P = some (tabObj ps) ∧ TriplesOk ps.toList ∧ ∀ x ∈ S, ∀ cv, codeAmong x.1 ps.toList = some cv → h.CodeRec cv x.2
/-- the table of the code that makes the class -/
noncomputable def ClsTab (h : Heap) (lo c P : Addr) (pos : Pos) (qual : Str) (S : List (Pos × Str)) : Prop :=
  CodeHd h c P ∧ ∃ ps, h.get? P = some (tabObj ps) ∧ TriplesOk ps.toList ∧ ∀ cv, codeAmong pos ps.toList = some cv → ∃ c' P', cv = .ref c' ∧ lo ≤ P' ∧ P' ≠ P ∧ CodeHd h c' P' ∧ h.CodeRec (.ref c') qual ∧ TabGood h P' S
theorem codeAmong_app {pos : Pos} {r : List Value} {cv : Value} (l : List Value) (hl : TriplesOk l) (h : codeAmong pos (l ++ r) = some cv) : codeAmong pos l = some cv ∨ codeAmong pos r = some cv := by
  fun_induction TriplesOk l with
  | case1 => exact .inr h
  | case3 => exact hl.elim
  | case2 a t b u c l ih =>
    rw [List.cons_append, List.cons_append, List.cons_append] at h
    rw [codeAmong] at h
    rw [codeAmong.eq_1 pos a t b u c l]
    by_cases q : (a == pos.line && b == pos.col) = true
    · rw [if_pos q] at h ⊢; exact .inl h
    · rw [if_neg q] at h ⊢; exact ih hl h
theorem codeAmong_one {pos q : Pos} {c cv : Value} (h : codeAmong pos [rawInt q.line, rawInt q.col, c] = some cv) : (q.line = pos.line ∧ q.col = pos.col) ∧ cv = c := by
  unfold rawInt codeAmong at h
  by_cases e : (((q.line : Int) == (pos.line : Int)) && ((q.col : Int) == (pos.col : Int))) = true
  · rw [if_pos e] at h
    simp only [Bool.and_eq_true, beq_iff_eq] at e
    exact ⟨⟨by omega, by omega⟩, (Option.some.inj h).symm⟩
  · rw [if_neg e] at h; cases h
theorem CodeRec.ext {h h' : Heap} {P : Addr} {ps : Array Value} {cv : Value} {q : Str} (hP : h.get? P = some (tabObj ps)) (ht : TriplesOk ps.toList) (x : Heap.ExtBut P h h') (c : h.CodeRec cv q) : h'.CodeRec cv q := by
  obtain ⟨c, o, vs, t, e1, e2, e3, e4⟩ := c
  refine ⟨c, o, vs, t, e1, x _ _ (fun z => ?_) e2, e3, e4⟩
  rw [z, hP] at e2; cases e2
  have e5 : ps = vs := by injection e3
  subst e5
  exact tri_no ht e4
/-- the class's code, for the first time or again -/
theorem class_code {env : Env} {lo c P : Addr} {pos : Pos} {fl : Nat} {name qual : Str} {scope : Scope} {S : List (Pos × Str)} {Q : Value → Shared → Prop} (hc : env.code = .ref c) (T : ClsTab s.heap lo c P pos qual S) (hlo : lo ≤ s.heap.objs.size)
    (hq : ∀ c' P' h' tk ps, Heap.ExtBut P s.heap h' → CodeHd h' c P → h'.get? P = some (tabObj ps) → TriplesOk ps.toList → codeAmong pos ps.toList = some (.ref c') → lo ≤ P' → P' ≠ P → CodeHd h' c' P' → h'.CodeRec (.ref c') qual → TabGood h' P' S →
      Q (.ref c') { s with heap := h', toks := tk }) : wpAny M A (classCode env pos fl name qual scope) Q E s := by
  obtain ⟨C, ps, hP, ht, good⟩ := T
  cases hn : codeAmong pos ps.toList with
  | none =>
    refine class_miss hc C hP ht hn fun c' P' h' tk x C' hP' r hPn l1 l2 => ?_
    have hl : (ps ++ #[rawInt pos.line, rawInt pos.col, Value.ref c']).toList = ps.toList ++ [rawInt pos.line, rawInt pos.col, .ref c'] := by simp
    have hPP : P' ≠ P := fun q => by have := Heap.lt_size hP; rw [← q] at this; exact absurd l2 (Nat.not_le_of_gt this)
    have C1 : CodeHd h' c P := by
      obtain ⟨o2, vs2, a3, a4, a5, a6, a7, a8, a9, b1, b2, b3, b4, b5, b6, b7, b8, b9, b10⟩ := C
      exact ⟨o2, vs2, a3, a4, a5, a6, a7, a8, a9, x _ _ b10 b1, b2, b3, b4, b5, b6, b7, b8, b9, b10⟩
    refine hq c' P' h' tk _ x C1 hPn (by rw [hl]; exact TriplesOk_snoc _ _ _ _ ht) (by rw [hl]; exact codeAmong_snoc _ ht hn) (Nat.le_trans hlo l2) hPP C' r ⟨_, hP', trivial, fun y _ cv e => by cases e⟩
  | some cv =>
    obtain ⟨c', P', rfl, l, hPP, C', r, G⟩ := good cv hn
    obtain ⟨o, vs, file, tf, flags, tg, inF, text, tt, e1, e2, e3, e4, f3, f4, f5, f6, f7, f11⟩ := id C
    unfold classCode codeAt
    rw [hc, if_neg (show ¬ ((Value.ref c == Value.none) = true) from Bool.false_ne_true)]
    refine wpAny_bind (wpAny_fieldsOf e1 e3 ?_)
    rw [f3]
    refine wpAny_bind (wpAny_fieldsOf hP rfl ?_)
    rw [hn]
    exact wpAny_pure (hq c' P' s.heap s.toks ps (fun _ _ _ e => e) C hP ht hn l hPP C' r G)
end
end Mine
end

-- part M13
section
open PySem PySem.W PySem.Calls PyProof.Rows
set_option maxRecDepth 100000
namespace Mine
/-- places that a frame writes: its names' dict, its cells -/
noncomputable def WOk (W : List Addr) (h : Heap) : Prop := ∀ w ∈ W, ∃ o, h.get? w = some o ∧ ((∃ es ep, o.data = .dict es ep) ∨ ∃ v, o.data = .cell v)
/-- .. or a list's iterator -/
noncomputable def WOi (W : List Addr) (h : Heap) : Prop := ∀ w ∈ W, ∃ o, h.get? w = some o ∧ ((∃ es ep, o.data = .dict es ep) ∨ (∃ v, o.data = .cell v) ∨ (o.cls = .type "list_iterator" ∧ ∃ a b t, o.data = .fields #[a, .int b t]))
theorem WOk.toi {W : List Addr} {h : Heap} (x : WOk W h) : WOi W h := fun w hw => (by obtain ⟨o, e, r⟩ := x w hw; exact ⟨o, e, r.imp id .inl⟩)
theorem WOi.off {W : List Addr} {h : Heap} {b : Addr} {o : Obj} (x : WOi W h) (e : h.get? b = some o) (h1 : ∀ es ep, o.data ≠ .dict es ep) (h2 : ∀ v, o.data ≠ .cell v) (h3 : o.cls ≠ .type "list_iterator" ∨ ∀ a b t, o.data ≠ .fields #[a, .int b t]) : b ∉ W := fun m => by
  obtain ⟨o', e', r⟩ := x b m
  rw [e] at e'; cases e'
  rcases r with ⟨es, ep, q⟩ | ⟨v, q⟩ | ⟨q1, a, c, t, q2⟩
  · exact h1 _ _ q
  · exact h2 _ q
  · rcases h3 with h3 | h3
    · exact h3 q1
    · exact h3 _ _ _ q2
/-- all but these places and the codes' tables stay -/
noncomputable def Ft (W : List Addr) (h h' : Heap) : Prop := ∀ b o, b ∉ W → ¬ IsTab o → h.get? b = some o → h'.get? b = some o
theorem WOk.off {W : List Addr} {h : Heap} {b : Addr} {o : Obj} (x : WOk W h) (e : h.get? b = some o) (h1 : ∀ es ep, o.data ≠ .dict es ep) (h2 : ∀ v, o.data ≠ .cell v) : b ∉ W := fun m => by
  obtain ⟨o', e', r⟩ := x b m
  rw [e] at e'; cases e'
  rcases r with ⟨es, ep, q⟩ | ⟨v, q⟩
  · exact h1 _ _ q
  · exact h2 _ q
section
variable {h h' : Heap} {W : List Addr} (x : WOi W h) (k : Ft W h h')
include x k
theorem get_ft {b : Addr} {o : Obj} (e : h.get? b = some o) (h1 : ∀ es ep, o.data ≠ .dict es ep) (h2 : ∀ v, o.data ≠ .cell v) (ht : ¬ IsTab o)
    (h3 : o.cls ≠ .type "list_iterator" ∨ ∀ a b t, o.data ≠ .fields #[a, .int b t]) : h'.get? b = some o := k _ _ (x.off e h1 h2 h3) ht e
theorem get_ftF {b : Addr} {o : Obj} (e : h.get? b = some o) (h1 : ∀ es ep, o.data ≠ .dict es ep) (h2 : ∀ v, o.data ≠ .cell v) (hf : ∀ vs, o.data ≠ .fields vs) : h'.get? b = some o := get_ft x k e h1 h2 (nt_data hf) (.inr fun _ _ _ => hf _)
theorem CodeRec.ft {cd : Value} {q : Str} (c : h.CodeRec cd q) : h'.CodeRec cd q := by
  obtain ⟨c, o, vs, t, e1, e2, e3, e4⟩ := c
  refine ⟨c, o, vs, t, e1, get_ft x k e2 (by intro _ _ q; rw [e3] at q; cases q) (by intro _ q; rw [e3] at q; cases q) ?_ (.inr fun a b t' q => ?_), e3, e4⟩
  rotate_left
  · rw [e3] at q
    have q' : vs = #[a, .int b t'] := by injection q
    rw [q'] at e4; cases e4
  rintro ⟨ps, ht, rfl⟩
  have e5 : ps = vs := by injection e3
  subst e5
  rcases ps with ⟨l⟩
  match l, ht, e4 with
  | .int _ _ :: .int _ _ :: _ :: _, _, e4 => cases e4
theorem KAt.ft {a : KA} (hN : a.N ∉ W) (hS : cStatics ∉ W) (y : KAt h a) : KAt h' a :=
  ⟨(by obtain ⟨q, k0, k1, k2, k3, k5, e⟩ := y.cls; exact ⟨q, k0, k1, k2, k3, k5, get_ftF x k e (by intro _ _ q; cases q) (by intro _ q; cases q) (by intro _ q; cases q)⟩), (by obtain ⟨e, t, mo, fl, ep, q⟩ := y.ns; exact ⟨e, t, mo, fl, ep, k _ _ hN (fun z => by obtain ⟨_, q⟩ := z.data; cases q) q⟩),
   (by obtain ⟨tn, q⟩ := y.md; exact ⟨tn, get_ft x k q (by intro _ _ q; cases q) (by intro _ q; cases q) (nt_cls (by intro q; cases q)) (.inl (by intro q; exact absurd (Value.type.inj q) (by decide)))⟩),
   (by obtain ⟨od, fd, sl, q⟩ := y.fi; exact ⟨od, fd, sl, get_ftF x k q (by intro _ _ q; cases q) (by intro _ q; cases q) (by intro _ q; cases q)⟩), fun op ho => (by obtain ⟨od, fd, sl, q⟩ := y.fn op ho; exact ⟨od, fd, sl, get_ftF x k q (by intro _ _ q; cases q) (by intro _ q; cases q) (by intro _ q; cases q)⟩),
   (by obtain ⟨oc, od, ep, sl, q⟩ := y.st; exact ⟨oc, od, ep, sl, k _ _ hS (fun z => by obtain ⟨_, q⟩ := z.data; cases q) q⟩)⟩
theorem MethAt.ft {f cc : Addr} {op : CmpOp} (y : MethAt h f op cc) : MethAt h' f op cc := by
  obtain ⟨z, od, sl, e, c⟩ := y
  exact ⟨z, od, sl, get_ftF x k e (by intro _ _ q; cases q) (by intro _ q; cases q) (by intro _ q; cases q), CodeRec.ft x k c⟩
theorem InitAt.ft {f : Addr} (y : InitAt h f) : InitAt h' f := by
  obtain ⟨nm, q, q1, q2, p1, p2, p3, p4, pm, cd, ct, doc, od, sl, e, c⟩ := y
  exact ⟨nm, q, q1, q2, p1, p2, p3, p4, pm, cd, ct, doc, od, sl, get_ftF x k e (by intro _ _ q; cases q) (by intro _ q; cases q) (by intro _ q; cases q), CodeRec.ft x k c⟩
theorem IsCell.ft {c : Addr} {v : Option Value} (hc : c ∉ W) (y : h.IsCell c v) : h'.IsCell c v := by
  obtain ⟨o, e, d⟩ := y
  exact ⟨o, k _ _ hc (fun z => by obtain ⟨_, q⟩ := z.data; rw [d] at q; cases q) e, d⟩
theorem Key.ft {a : KA} {cc fa : Addr} (hN : a.N ∉ W) (hS : cStatics ∉ W) (hc : cc ∉ W) (y : Key h a cc fa) : Key h' a cc fa :=
  ⟨KAt.ft x k hN hS y.cls, fun op ho => MethAt.ft x k (y.meth op ho), IsCell.ft x k hc y.cell, (by obtain ⟨oc, od, fd, sl, e⟩ := y.fn; exact ⟨oc, od, fd, sl, get_ftF x k e (by intro _ _ q; cases q) (by intro _ q; cases q) (by intro _ q; cases q)⟩)⟩
theorem LayAt.ft {f : Addr} {n1 n2 : Str} {a : KA} {f1 f2 : Addr} (y : LayAt h f n1 n2 a f1 f2) (hc : ∀ c v, h.IsCell c v → (∃ nm q q1 q2 p cl pm cd ct oc od sl, h.get? f = some ⟨oc, od, .func (lFd nm q n1 n2 q1 q2 p cl pm cd ct), sl⟩ ∧ ∃ n, cl.lookup n = some c) → c ∉ W) : LayAt h' f n1 n2 a f1 f2 := by
  obtain ⟨nm, q, q1, q2, p, cl, pm, cd, ct, oc, od, sl, e, c, ⟨c1, e1, i1⟩, ⟨c2, e2, i2⟩, ⟨c3, e3, i3⟩⟩ := y.fn
  have g := fun c v (i : h.IsCell c v) n (q : cl.lookup n = some c) => hc c v i ⟨_, _, _, _, _, _, _, _, _, _, _, _, e, n, q⟩
  exact ⟨nm, q, q1, q2, p, cl, pm, cd, ct, oc, od, sl, get_ftF x k e (by intro _ _ q; cases q) (by intro _ q; cases q) (by intro _ q; cases q), CodeRec.ft x k c, ⟨c1, e1, IsCell.ft x k (g _ _ i1 _ e1) i1⟩, ⟨c2, e2, IsCell.ft x k (g _ _ i2 _ e2) i2⟩, ⟨c3, e3, IsCell.ft x k (g _ _ i3 _ e3) i3⟩⟩
end
theorem Kp.hide {nt : Addr} {h : Heap} {W : List Addr} : Kp nt (hideAll h W) h := fun _ _ _ _ e => of_hideAll _ e
theorem Ft.hide {h : Heap} {W : List Addr} : Ft W h (hideAll h W) := fun _ _ hb _ e => hideAll_get _ e hb
end Mine
end

-- part M14
section
open PySem PySem.W PySem.Calls PyProof.Rows
set_option maxRecDepth 100000
namespace Mine
/-- all but these places stay -/
noncomputable def Ex (W : List Addr) (h h' : Heap) : Prop := ∀ b o, b ∉ W → h.get? b = some o → h'.get? b = some o
theorem Ex.refl {W : List Addr} {h : Heap} : Ex W h h := fun _ _ _ e => e
theorem Ex.trans {W : List Addr} {h h' h'' : Heap} (x : Ex W h h') (y : Ex W h' h'') : Ex W h h'' := fun b o n e => y b o n (x b o n e)
theorem Ex.of {W : List Addr} {h h' : Heap} (k : ∀ b o, h.get? b = some o → h'.get? b = some o) : Ex W h h' := fun b o _ e => k b o e
theorem Ex.ft {W : List Addr} {h h' : Heap} (x : Ex W h h') : Ft W h h' := fun b o n _ e => x b o n e
/-- a frame: its names' dict, its cells -/
structure Fm (h : Heap) (env : Env) (m cm : Str → Option Value) : Prop where
  ns : h.Ns env.locals m
  cell : ∀ n c, env.cells.lookup n = some c → h.IsCell c (cm n)
  apart : env.cells.Pairwise fun x y => x.2 ≠ y.2
  named : ∀ x ∈ env.cells, env.cells.lookup x.1 = some x.2
noncomputable abbrev fW (env : Env) : List Addr := env.locals :: env.cells.map (·.2)
section
variable {M : Model} {A : Around} {E : Value → Shared → Prop} {s : Shared} {env : Env} {m cm : Str → Option Value} {h h' : Heap}
theorem Fm.wok (F : Fm h env m cm) : WOk (fW env) h := fun w hw => by
  rcases List.mem_cons.mp hw with rfl | hw
  · obtain ⟨o, es, ep, e, d, _⟩ := F.ns
    exact ⟨o, e, .inl ⟨es, ep, d⟩⟩
  · obtain ⟨x, hx, rfl⟩ := List.mem_map.mp hw
    obtain ⟨o, e, d⟩ := F.cell _ _ (F.named x hx)
    exact ⟨o, e, .inr ⟨_, d⟩⟩
theorem Fm.via (F : Fm h env m cm) (k : ∀ b o, h.get? b = some o → b ∈ fW env → ¬ IsTab o → h'.get? b = some o) : Fm h' env m cm := by
  refine ⟨?_, fun n c hc => ?_, F.apart, F.named⟩
  · obtain ⟨o, es, ep, e, d, r⟩ := F.ns
    exact ⟨o, es, ep, k _ o e (.head _) (fun z => by obtain ⟨_, q⟩ := z.data; rw [d] at q; cases q), d, r⟩
  · obtain ⟨o, e, d⟩ := F.cell n c hc
    exact ⟨o, k _ o e (.tail _ (List.mem_map.mpr ⟨(n, c), mem_of_lookup hc, rfl⟩)) (fun z => by obtain ⟨_, q⟩ := z.data; rw [d] at q; cases q), d⟩
theorem Fm.keeps (F : Fm h env m cm) (k : ∀ b o, h.get? b = some o → h'.get? b = some o) : Fm h' env m cm := F.via fun b o e _ _ => k b o e
theorem Fm.cellNe (F : Fm h env m cm) {n : Str} {c : Addr} (hc : env.cells.lookup n = some c) : c ≠ env.locals := fun q => by
  obtain ⟨o, e, d⟩ := F.cell n c hc
  obtain ⟨o', es, ep, e', d', _⟩ := F.ns
  rw [q, e'] at e; cases e; rw [d] at d'; cases d'
theorem Fm.ldL {n : Str} {v : Value} {Q : Value → Shared → Prop} (F : Fm s.heap env m cm) (hk : env.scope.kind = .function) (hl : env.kindOf n = some .local) (hv : m n = some v) (h : Q v s) : wpAny M A (loadName env n) Q E s := wpAny_loadName_local hk hl F.ns hv h
theorem Fm.ldC {n : Str} {c : Addr} {v : Value} {Q : Value → Shared → Prop} (F : Fm s.heap env m cm) (hk : env.scope.kind = .function) (hl : env.kindOf n = some .cell) (hc : env.cells.lookup n = some c) (hv : cm n = some v) (h : Q v s) : wpAny M A (loadName env n) Q E s :=
  wpAny_loadName_cell hk hl hc (hv ▸ F.cell n c hc) h
theorem Fm.stL {n : Str} {v : Value} {Q : Unit → Shared → Prop} (F : Fm s.heap env m cm) (hk : env.scope.kind = .function) (hl : env.kindOf n = some .local)
    (hq : ∀ h' tk, Fm h' env (fun y => if y = n then some v else m y) cm → Ex (fW env) s.heap h' → Q () { s with heap := h', toks := tk }) : wpAny M A (storeName env n v) Q E s := by
  refine wpAny_storeName_local hl F.ns (fun h' hn' hs' => hq h' _ ⟨hn', fun k c hc => (F.cell k c hc).sameBut hs' (F.cellNe hc), F.apart, F.named⟩ fun b o hb e => ?_) (by rw [hk]; rfl)
  exact (hs'.2 b (fun q => hb (q ▸ .head _))).trans e
theorem Fm.stC {n : Str} {c : Addr} {v : Value} {Q : Unit → Shared → Prop} (F : Fm s.heap env m cm) (hk : env.scope.kind = .function) (hl : env.kindOf n = some .cell) (hc : env.cells.lookup n = some c)
    (hq : ∀ h' tk, Fm h' env m (fun y => if y = n then some v else cm y) → Ex (fW env) s.heap h' → Q () { s with heap := h', toks := tk }) : wpAny M A (storeName env n v) Q E s := by
  refine wpAny_storeName_cell hk hl hc (F.cell n c hc) fun h' hc' hs' => hq h' s.toks ⟨F.ns.sameBut hs' (Ne.symm (F.cellNe hc)), fun k c' hk' => ?_, F.apart, F.named⟩ fun b o hb e => ?_
  · by_cases hkn : k = n
    · subst hkn
      rw [hc] at hk'; cases hk'
      simpa using hc'
    · rw [if_neg hkn]
      exact (F.cell k c' hk').sameBut hs' fun e => hkn (name_of_addr F.apart (mem_of_lookup hk') (e ▸ mem_of_lookup hc))
  · exact (hs'.2 b (fun q => hb (q ▸ .tail _ (List.mem_map.mpr ⟨(n, c), mem_of_lookup hc, rfl⟩)))).trans e
theorem Fm.of {s₀ s : Shared} (x : InCallC s₀ env.locals m env.cells cm s) (hn : ∀ x ∈ env.cells, env.cells.lookup x.1 = some x.2) : Fm s.heap env m cm := ⟨x.toInCall.ns, x.cell, x.apart, hn⟩
end
section
variable {M : Model} {A : Around} {E : Value → Shared → Prop} {s : Shared}
/-- a lambda, its code made or found -/
theorem lam_make {params : Arguments} {body : Expr} {scope : Scope} {pos : Pos} {env : Env} {c P : Addr} {S : List (Pos × Str)} {mg : Str → Option Value} {clos : List (Str × Addr)} {qual : Str} {Q : Value → Shared → Prop}
    (hdef : defaultsOf params env = ([], [])) (hqn : env.qual ++ "<lambda>" = qual) (hcl : closureFor scope env = pure clos) (hge0 : env.globals = mainGlobals) (hg : s.heap.Ns mainGlobals mg) (hcode : env.code = .ref c) (C : CodeHd s.heap c P) (T : TabGood s.heap P S)
    (hgP : mainGlobals ≠ P) (hb : s.heap.BuiltinsAt mg P) (hS : (pos, qual) ∈ S) (hSS : ∀ x ∈ S, pos.line = x.1.line → pos.col = x.1.col → x.2 = qual)
    (hq : ∀ f cv ctv h' tk, (∀ b o, b ≠ P → s.heap.get? b = some o → h'.get? b = some o) → h'.get? f = some ⟨.type "function", none, .func (kla_fn "<lambda>" qual params body scope clos ((mg "__name__").getD .none) cv ctv), #[]⟩ → s.heap.get? f = none → h'.CodeRec cv qual → TabGood h' P S →
      Q (.ref f) { s with heap := h', toks := tk }) : wpAny M A (eval (.Lambda params body scope pos) env) Q E s := by
  refine kla_eval hdef ?_
  rw [hqn]
  obtain ⟨ps, hP, ok, good⟩ := T
  cases hc : codeAmong pos ps.toList with
  | some cv =>
    refine kla_makeFunctionHit hcl hge0 hg hcode C hP ok hc hb fun ctv h' tk k hs => ?_
    have kk : ∀ b o, s.heap.get? b = some o → (h'.push { cls := .type "function", data := .func (kla_fn "<lambda>" qual params body scope clos ((mg "__name__").getD .none) cv ctv) }).get? b = some o := fun b o e => Heap.get?_push_of_some _ (k b o e)
    exact hq h'.objs.size cv ctv _ tk (fun b o _ e => kk b o e) (Heap.get?_push_size _ rfl) (Heap.get?_none_of_le hs) ((good _ hS cv hc).keeps kk) ⟨ps, kk _ _ hP, ok, fun x hx cv' e => (good x hx cv' e).keeps kk⟩
  | none =>
    refine kla_makeFunction hcl hge0 hg hcode C hP ok hc hgP hb fun c' ctv h' tk ext hc1 hc2 rec tab => ?_
    have pk : ∀ b o, h'.get? b = some o → (h'.push (kla_obj "<lambda>" qual params body scope clos ((mg "__name__").getD .none) c' ctv)).get? b = some o := fun b o e => Heap.get?_push_of_some _ e
    have hl : (ps ++ #[rawInt pos.line, rawInt pos.col, Value.ref c']).toList = ps.toList ++ [rawInt pos.line, rawInt pos.col, .ref c'] := by simp
    refine hq h'.objs.size (.ref c') ctv _ tk (fun b o hb e => pk _ _ (ext b o hb e)) (Heap.get?_push_size _ rfl) (Heap.get?_none_of_le (Nat.le_of_lt (Nat.lt_of_le_of_lt hc1 hc2))) (rec.keeps pk) ⟨_, pk _ _ tab, by rw [hl]; exact TriplesOk_snoc _ _ _ _ ok, fun x hx cv e => ?_⟩
    rw [hl] at e
    rcases codeAmong_app _ ok e with e | e
    · exact (CodeRec.ext hP ok ext (good x hx cv e)).keeps pk
    · obtain ⟨⟨l1, l2⟩, rfl⟩ := codeAmong_one e
      rw [hSS x hx l1 l2]
      exact rec.keeps pk
end
end Mine
end

-- part Hd2
section
open PySem PySem.W PyProof.Rows
set_option Elab.async false
set_option maxRecDepth 100000
set_option maxHeartbeats 8000000
namespace Mine
open_top hd for PySem.Challenge.rw_dz0037_02
end Mine
end

-- part N1
section
open PySem PySem.W PySem.Calls PyProof.Rows
set_option maxRecDepth 100000
namespace Mine
theorem fn112 {w : World} {h : Heap} (hX : (hd.heap_39 w.params).In h) : ∃ o fd, h.get? 112 = some o ∧ o.data = .func fd ∧ h.CodeRec fd.code fd.qualname :=
  ⟨_, _, hX 112 _ rfl, rfl, codeRec_of hX (by rfl)⟩
end Mine
end

-- part N2
section
open PySem PySem.W PySem.Calls PyProof.Rows
set_option maxRecDepth 100000
namespace Mine
section
variable {prog : Program} {w : World} {A : Around} {E : Value → Shared → Prop} {s : Shared}

theorem list_item {value slice : Expr} {l : Addr} {items : Array Value} {k : Int} {t : Tok} {v : Value} {Q : Value → Shared → Prop} (hl : s.heap.IsList l items) (h0 : 0 ≤ k) (hk : k < 2 ^ 63) (hx : items[k.toNat]? = some v)
    (hs : subscripted slice false (.ref l) (.int k t) = operate [.ref l, .int k t] (getItem (.ref l) (.int k t))) (h : Q v s) :
    wpAny (model prog w) A (subscriptTail value slice (.ref l) (.int k t)) Q E s :=
  tail_any hl.typeIs slot_list_getitem.lookup (wpAny_getItem_list hl h0 hk hx h) hs

/-- a list that stands in a heap -/
theorem isList_kp {h h' : Heap} {nt l : Addr} {items : Array Value} (k : Kp nt h h') (hne : l ≠ nt) (x : h.IsList l items) : h'.IsList l items := by
  obtain ⟨o, e, c, r⟩ := x
  exact ⟨o, k _ _ hne (fun x => by have q := x.cls; rw [c] at q; cases q) e, c, r⟩

/-- what the tower's ground asks: the sign of two halves' difference -/
noncomputable def standOf (x y : Int) : Int := x.fdiv 2 - y.fdiv 2

theorem ite_yes {p : Prop} [Decidable p] {X Y : Prop} (h : p) (x : X) : if decide p = true then X else Y := by rw [if_pos (decide_eq_true h)]; exact x
theorem ite_no {p : Prop} [Decidable p] {X Y : Prop} (h : ¬ p) (y : Y) : if decide p = true then X else Y := by rw [if_neg (by rw [decide_eq_false h]; decide)]; exact y

theorem answer_call {nt nb r1 r2 : Addr} {i j : Int} {ti tj : Tok} {N : Int → Int} {tn : Int → Tok} {items : Array Value} {xs : List Value} {mg mb : Str → Option Value} {Q : Value → Shared → Prop}
    (hX : (hd.heap_39 w.params).In s.heap) (hG : Glob s.heap mg mb) (hab : mg "abs" = none) (hbb : mb "abs" = some (.builtin "abs")) (hlim : s.heap.NoLimit) (hn : NotesAt s.heap nt xs) (hlen : xs.length + 1 ≤ 1000000)
    (hnb : s.heap.IsList nb items) (hne : nb ≠ nt) (hit : ∀ k : Int, 0 ≤ k → k < 5 → items[k.toNat]? = some (.int (N k) (tn k)))
    (h1 : s.heap.IsList r1 #[.int i ti]) (h2 : s.heap.IsList r2 #[.int j tj]) (n1 : r1 ≠ nt) (n2 : r2 ≠ nt) (i0 : 0 ≤ i) (i5 : i < 5) (j0 : 0 ≤ j) (j5 : j < 5) (hroom : A.depth < recursionLimit)
    (hq : ∀ d t h' tk' y, Int.sign d = Int.sign (standOf (N i) (N j)) → Kq nt s.heap h' → NotesAt h' nt (xs ++ [y]) → PairAt h' (.ref r1) (.ref r2) y → Q (.int d t) { s with heap := h', toks := tk' }) :
    wpAny (model prog w) A (call (.ref 112) [.ref nt, .ref nb, .ref r1, .ref r2]) Q E s := by
  refine wpAny_call (codeAny_call_plain (binds := [("notes", .ref nt), ("numbers", .ref nb), ("a", .ref r1), ("b", .ref r2)]) hroom (hX 112 _ rfl) rfl hlim (codeRec_of hX (by rfl)) rfl rfl (by decide) (locs rfl) fun h₀ hns keep => ?_)
  have hL : s.heap.objs.size ≠ nt := Nat.ne_of_gt ((by obtain ⟨_, e⟩ := hn; exact Heap.lt_size e))
  have hn₀ : NotesAt h₀ nt xs := hn.keeps keep
  -- notes.append((a, b))
  refine wpAny_execs_cons (wpAny_Expr (wpAny_Call_append rfl rfl rfl rfl (wpAny_Name (wpAny_loadName_local rfl rfl hns rfl ⟨nt, xs.toArray, rfl, ((by obtain ⟨k, e⟩ := hn₀; exact ⟨_, k, e, rfl, rfl, rfl⟩)), ?_⟩))))
  refine wpAny_Tuple (spliced_cons (wpAny_Name (wpAny_loadName_local rfl rfl hns rfl (spliced_cons (wpAny_Name (wpAny_loadName_local rfl rfl hns rfl (spliced_nil ⟨by rw [sizeLine_eq]; simp, ?_⟩)))))))
  have hp : ∀ b o, h₀.get? b = some o → (h₀.push { cls := .type "tuple", data := .seq [Value.ref r1, Value.ref r2].toArray }).get? b = some o := fun b o e => Heap.get?_push_of_some _ e
  have hn₁ := hn₀.keeps hp
  have htup : (h₀.push { cls := .type "tuple", data := .seq [Value.ref r1, Value.ref r2].toArray }).get? h₀.objs.size = some { cls := .type "tuple", data := .seq [Value.ref r1, Value.ref r2].toArray } := Heap.get?_push_size _ rfl
  refine wpAny_list_append_plain (hsz := by rw [List.size_toArray, sizeLine_eq]; omega) hn₁ fun h₁ hn₂ hsb => ?_
  have hne1 : h₀.objs.size ≠ nt := Nat.ne_of_gt ((by obtain ⟨_, e⟩ := hn₀; exact Heap.lt_size e))
  have kp : Kq nt s.heap h₁ := fun b o hb e => (hsb.2 b hb).trans (hp _ _ (keep _ _ e))
  have hns₁ : h₁.Ns s.heap.objs.size _ := (hns.keeps hp).sameBut hsb hL
  have hnb₁ := isList_kp kp.kp hne hnb
  have hr1 := isList_kp kp.kp n1 h1
  have hr2 := isList_kp kp.kp n2 h2
  have hi' : (0 : Int) < 2 ^ 63 := by decide
  -- stand
  refine wpAny_execs_cons (wpAny_Assign_Name (wpAny_BinOp (wpAny_BinOp (Subscript_ (wpAny_Name (wpAny_loadName_local rfl rfl hns₁ rfl (Subscript_ (wpAny_Name (wpAny_loadName_local rfl rfl hns₁ rfl (wpAny_Constant_int (list_item hr1 (Int.le_refl 0) hi' rfl (by with_unfolding_all rfl) ?_)))))))))))
  refine list_item hnb₁ i0 (by omega) (hit i i0 i5) (by with_unfolding_all rfl) ?_
  refine wpAny_Constant_int (floordiv_int (by decide) ?_)
  refine wpAny_BinOp (Subscript_ (wpAny_Name (wpAny_loadName_local rfl rfl hns₁ rfl (Subscript_ (wpAny_Name (wpAny_loadName_local rfl rfl hns₁ rfl (wpAny_Constant_int (list_item hr2 (Int.le_refl 0) hi' rfl (by with_unfolding_all rfl) ?_))))))))
  refine list_item hnb₁ j0 (by omega) (hit j j0 j5) (by with_unfolding_all rfl) ?_
  refine wpAny_Constant_int (floordiv_int (by decide) (sub_int ?_))
  refine wpAny_storeName_local rfl hns₁ (fun h₂ hns₂ hsb₂ => ?_) rfl
  have kp₂ : Kq nt s.heap h₂ := fun b o hb e => (hsb₂.2 b (Nat.ne_of_lt (Heap.lt_size e))).trans (kp b o hb e)
  have hnb₂ := isList_kp kp₂.kp hne hnb
  have hr1₂ := isList_kp kp₂.kp n1 h1
  have hr2₂ := isList_kp kp₂.kp n2 h2
  -- far
  refine wpAny_execs_cons (wpAny_Assign_Name (wpAny_BinOp (wpAny_Constant_int (wpAny_Call_Name_kw (Name_function_global rfl rfl (loadGlobal_builtin (Ns.kpn hn kp₂.kp hG.g) hab (Ns.kpn hn kp₂.kp hG.b) hbb (callWith_builtin rfl (evalArgs_plain (spliced_cons ?_)))))))))
  refine Subscript_ (wpAny_Name (wpAny_loadName_local rfl rfl hns₂ rfl (wpAny_BinOp (wpAny_BinOp (Subscript_ (wpAny_Name (wpAny_loadName_local rfl rfl hns₂ rfl (wpAny_Constant_int (list_item hr1₂ (Int.le_refl 0) hi' rfl (by with_unfolding_all rfl) ?_)))))))))
  refine wpAny_BinOp (wpAny_Constant_int (Subscript_ (wpAny_Name (wpAny_loadName_local rfl rfl hns₂ rfl (wpAny_Constant_int (list_item hr2₂ (Int.le_refl 0) hi' rfl (by with_unfolding_all rfl) ?_))))))
  refine mul_int (add_int (wpAny_Constant_int (mod_int' (by decide) ?_)))
  have hm := Int.fmod_eq_emod_of_nonneg (i + 2 * j) (show (0 : Int) ≤ 5 by decide)
  have m0 : 0 ≤ (i + 2 * j).fmod 5 := by omega
  have m5 : (i + 2 * j).fmod 5 < 5 := by omega
  refine list_item hnb₂ m0 (by omega) (hit _ m0 m5) (by with_unfolding_all rfl) (spliced_nil (call_abs_int fun u tk => add_int ?_))
  refine wpAny_storeName_local rfl hns₂ (fun h₃ hns₃ hsb₃ => ?_) rfl
  have kp₃ : Kq nt s.heap h₃ := fun b o hb e => (hsb₃.2 b (Nat.ne_of_lt (Heap.lt_size e))).trans (kp₂ b o hb e)
  have same : ∀ b, b ≠ s.heap.objs.size → h₃.get? b = h₁.get? b := fun b hb => (hsb₃.2 b hb).trans (hsb₂.2 b hb)
  have hn₃ : NotesAt h₃ nt (xs ++ [.ref h₀.objs.size]) := by
    obtain ⟨k, e⟩ := hn₂
    refine ⟨k, (same nt (Ne.symm hL)).trans ?_⟩
    rw [e]
    simp
  have hL0 : h₀.objs.size ≠ s.heap.objs.size := Nat.ne_of_gt hns.lt
  have hpair : PairAt h₃ (.ref r1) (.ref r2) (.ref h₀.objs.size) := ⟨h₀.objs.size, none, 0, #[], rfl, (same _ hL0).trans ((hsb.2 _ hne1).trans htup)⟩
  refine wpAny_execs_cons (wpAny_Return_some (wpAny_IfExp (wpAny_isTrue_Compare1 (wpAny_Name (wpAny_loadName_local rfl rfl hns₃ rfl (wpAny_Constant_int (gt_int (wpAny_truthy_bool ?_))))))))
  have hfar : ∀ z : Int, 0 < 1 + (if z < 0 then -z else z) := fun z => by split <;> omega
  by_cases g : 0 < standOf (N i) (N j)
  · refine ite_yes g ?_
    refine wpAny_Name (wpAny_loadName_local rfl rfl hns₃ rfl ?_)
    refine hq (1 + (if N ((i + 2 * j).fmod 5) < 0 then -N ((i + 2 * j).fmod 5) else N ((i + 2 * j).fmod 5))) _ h₃ _ _ ?_ kp₃ hn₃ hpair
    rw [Int.sign_eq_one_of_pos (hfar _), Int.sign_eq_one_of_pos g]
  · refine ite_no g ?_
    refine wpAny_IfExp (wpAny_isTrue_Compare1 (wpAny_Name (wpAny_loadName_local rfl rfl hns₃ rfl (wpAny_Constant_int (lt_int (wpAny_truthy_bool ?_))))))
    by_cases g' : standOf (N i) (N j) < 0
    · refine ite_yes g' ?_
      refine wpAny_UnaryOp (wpAny_Name (wpAny_loadName_local rfl rfl hns₃ rfl (neg_int ?_)))
      refine hq (-(1 + (if N ((i + 2 * j).fmod 5) < 0 then -N ((i + 2 * j).fmod 5) else N ((i + 2 * j).fmod 5)))) _ h₃ _ _ ?_ kp₃ hn₃ hpair
      have := hfar (N ((i + 2 * j).fmod 5))
      rw [Int.sign_eq_neg_one_of_neg g', Int.sign_eq_neg_one_of_neg]
      omega
    · refine ite_no g' ?_
      refine wpAny_Constant_int ?_
      refine hq 0 _ h₃ _ _ ?_ kp₃ hn₃ hpair
      have : standOf (N i) (N j) = 0 := by omega
      rw [this]
end
end Mine
end

-- part N3
section
open PySem PySem.W PySem.Calls PyProof.Rows
set_option maxRecDepth 100000
namespace Mine

theorem lookup_lt {n : Nat} : ∀ {K : Frag}, K.all (fun p => Nat.blt p.1 n) = true → ∀ {a : Addr} {o : Obj}, K.lookup a = some o → a < n
  | [], _, _, _, e => nomatch e
  | (b, x) :: K, h, a, o, e => by
    rw [List.all_cons, Bool.and_eq_true] at h
    rw [List.lookup_cons] at e
    cases q : a == b with
    | true => rw [beq_iff_eq.mp q]; exact Nat.le_of_ble_eq_true h.1
    | false => rw [q] at e; exact lookup_lt h.2 e
theorem frag_lt {P : Params} {a : Addr} {o : Obj} (e : (hd.heap_39 P).lookup a = some o) : a < 132 := lookup_lt (by kernel_rfl) e
theorem frag_tab {P : Params} {a : Addr} {o : Obj} (e : (hd.heap_39 P).lookup a = some o) : ¬ IsTab o := by
  have h2 := List.all_eq_true.mp (show noTabs (hd.heap_39 P) = true from by kernel_rfl) (a, o) (mem_of_lookupK e)
  rintro ⟨ps, _, rfl⟩
  exact absurd (show false = true from h2) Bool.false_ne_true
theorem frag_kp {P : Params} {h h' : Heap} {nt : Addr} (X : (hd.heap_39 P).In h) (k : Kp nt h h') (hnt : 132 ≤ nt) : (hd.heap_39 P).In h' :=
  fun a o e => k a o (Nat.ne_of_lt (Nat.lt_of_lt_of_le (frag_lt e) hnt)) (frag_tab e) (X a o e)

/-- the ground under the second law's comparisons -/
structure Gd (w : World) (H : Heap) (nt : Addr) (mg mb : Str → Option Value) : Prop where
  X : (hd.heap_39 w.params).In H
  sure : Sure H nt mg mb
  nt : 132 ≤ nt
  abs : mg "abs" = none
  babs : mb "abs" = some (.builtin "abs")
  ans : mg "_law_answer" = some (.ref 112)

/-- the numbers' list and a thing of the row -/
structure Nums (H : Heap) (nt nb : Addr) (N : Int → Int) : Prop where
  list : ∃ (items : Array Value) (tn : Int → Tok), H.IsList nb items ∧ ∀ k : Int, 0 ≤ k → k < 5 → items[k.toNat]? = some (.int (N k) (tn k))
  ne : nb ≠ nt
structure Thing (H : Heap) (nt r : Addr) (i : Int) : Prop where
  list : ∃ t, H.IsList r #[.int i t]
  ne : r ≠ nt
  lo : 0 ≤ i
  hi : i < 5

noncomputable abbrev bScope : Scope := { kind := .function, names := [("a", .local), ("b", .local), ("notes", .free), ("numbers", .free), ("_law_answer", .globalImplicit)], isGenerator := false, isCoroutine := false, more := [] }
noncomputable abbrev bFd (nm q : Str) (q1 q2 p0 p1 p2 p3 p4 p5 : Pos) (cl : List (Str × Addr)) (pm cd ct : Value) : FuncData :=
  kla_fn nm q { posonlyargs := [], args := [⟨"a", none, q1⟩, ⟨"b", none, q2⟩], vararg := none, kwonlyargs := [], kw_defaults := [], kwarg := none, defaults := [] }
    (.Call (.Name "_law_answer" p0) [.Name "notes" p1, .Name "numbers" p2, .Name "a" p3, .Name "b" p4] [] p5) bScope cl pm cd ct
/-- the lambda under the tower -/
noncomputable def BaseAt (h : Heap) (f nt nb : Addr) : Prop :=
  ∃ nm q q1 q2 p0 p1 p2 p3 p4 p5 cl pm cd ct oc od sl, h.get? f = some ⟨oc, od, .func (bFd nm q q1 q2 p0 p1 p2 p3 p4 p5 cl pm cd ct), sl⟩ ∧ h.CodeRec cd q ∧
    (∃ c, cl.lookup ("notes" : Str) = some c ∧ h.IsCell c (some (.ref nt))) ∧ (∃ c, cl.lookup ("numbers" : Str) = some c ∧ h.IsCell c (some (.ref nb)))

section
variable {w : World} {H : Heap} {nt nb : Addr} {mg mb : Str → Option Value} {N : Int → Int}

theorem base_asks {f r1 r2 : Addr} {i j : Int} (G : Gd w H nt mg mb) (hN : Nums H nt nb N) (B : BaseAt H f nt nb) (t1 : Thing H nt r1 i) (t2 : Thing H nt r2 j) :
    Asks PySem.Challenge.pw_dz0037_02 w nt H f (.ref r1) (.ref r2) (Int.sign (standOf (N i) (N j))) 1 2 6 := by
  intro A E Q s xs hroom hun kp hn hlen hq
  obtain ⟨xs₀, n₀⟩ := G.sure.notes
  obtain ⟨nm, q, q1, q2, p0, p1, p2, p3, p4, p5, cl, pm, cd, ct, oc, od, sl, hfo, hcd, ⟨c1, e1, i1⟩, ⟨c2, e2, i2⟩⟩ := B
  obtain ⟨items, tn, hl, hit⟩ := hN.list
  obtain ⟨ti, hi⟩ := t1.list
  obtain ⟨tj, hj⟩ := t2.list
  have hfo' := get_kp' n₀ kp hfo (by intro _ _ q; cases q) (nt_data (by intro _ q; cases q))
  refine wpAny_call (codeAny_call_lam (binds := [("a", .ref r1), ("b", .ref r2)]) (by omega) hfo' rfl (NoLimit.kp n₀ kp G.sure.lim) (CodeRec.kp n₀ kp hcd) rfl (lamBinds _ _ ⟨_, _, rfl⟩ rfl) (show ∀ x ∈ bScope.names, x.2 ≠ NameKind.cell from by decide) (locs rfl) fun h₀ hns keep => ?_)
  have kp₀ : Kp nt H h₀ := kp.trans (Kp.of keep)
  have X₀ := frag_kp G.X kp₀ G.nt
  have G₀ := Glob.kp n₀ kp₀ G.sure.glob
  refine wpAny_Call_Name_kw (Name_function_global rfl rfl (loadGlobal_global G₀.g G.ans ?_))
  obtain ⟨fo, fdd, hf112, hfd, _⟩ := fn112 X₀
  refine callWith_function (o := fo) (fd := fdd) (evalArgs_plain (spliced_cons (wpAny_Name (wpAny_loadName_free rfl rfl e1 (IsCell.kp n₀ kp₀ i1) (spliced_cons (wpAny_Name (wpAny_loadName_free rfl rfl e2 (IsCell.kp n₀ kp₀ i2) (spliced_cons (wpAny_Name (wpAny_loadName_local rfl rfl hns rfl (spliced_cons (wpAny_Name (wpAny_loadName_local rfl rfl hns rfl (spliced_nil ⟨⟨hf112, hfd⟩, ?_⟩))))))))))))))
  refine answer_call (s := { s with heap := h₀, toks := s.toks + 2 }) X₀ G₀ G.abs G.babs (NoLimit.kp n₀ kp₀ G.sure.lim) (hn.keeps keep) hlen (isList_kp kp₀ hN.ne hl) hN.ne hit (isList_kp kp₀ t1.ne hi) (isList_kp kp₀ t2.ne hj) t1.ne t2.ne t1.lo t1.hi t2.lo t2.hi (by show A.depth + 1 < _; omega) fun d t h' tk' y hd k' hn' hp => ?_
  exact hq d t h' tk' [y] hd ((Kq.of keep).trans k') hn' rfl (fun z hz => by rw [List.mem_singleton.mp hz]; exact hp)
end
end Mine
end

-- part O2
section
open PySem PySem.W PySem.W.X PySem.Calls PyProof.Rows
set_option maxRecDepth 100000
namespace Mine
/-- two objects under way, all others kept -/
structure In3 (K : Addr → Obj → Prop) (h : Heap) (N C : Addr) (oN oC : Obj) : Prop where
  keep : ∀ b o, K b o → h.get? b = some o
  n : h.get? N = some oN
  c : h.get? C = some oC
  nn : ∀ o, ¬ K N o
  cn : ∀ o, ¬ K C o
  ne : N ≠ C
section
variable {M : Model} {A : Around} {E : Value → Shared → Prop} {K : Addr → Obj → Prop} {h : Heap} {N C a : Addr} {oN oC o oN' oC' : Obj} {g : Array GenState} {d : Drawn} {t : Nat} {os : OsState} {f : Obj → Obj} {p : Option Value} {name : Str} {v : Value}
theorem In3.upN (I : In3 K h N C oN oC) (e : f oN = oN') (hf : oN'.isFreed = false) : In3 K (h.update N f) N C oN' oC :=
  ⟨fun b o k => Heap.get?_update_of_ne _ (fun q => I.nn o (q ▸ k)) (I.keep b o k), e ▸ Heap.get?_update_self f I.n (e ▸ hf), Heap.get?_update_of_ne _ I.ne I.c, I.nn, I.cn, I.ne⟩
theorem In3.upC (I : In3 K h N C oN oC) (e : f oC = oC') (hf : oC'.isFreed = false) : In3 K (h.update C f) N C oN oC' :=
  ⟨fun b o k => Heap.get?_update_of_ne _ (fun q => I.cn o (q ▸ k)) (I.keep b o k), Heap.get?_update_of_ne _ (fun q => I.ne q.symm) I.n, e ▸ Heap.get?_update_self f I.c (e ▸ hf), I.nn, I.cn, I.ne⟩
theorem ns_get {Q : Option Value → Shared → Prop} {r : Option Value} (ho : h.get? a = some o) (hr : nsLook name o = pure r) (hq : Q r ⟨h, g, d, t, os⟩) : wpAny M A (nsGet a name) Q E ⟨h, g, d, t, os⟩ := by
  unfold nsGet
  exact wpAny_bind (wpAny_loadPart' ho (wpAny_of_eq hr hq))
theorem alloc_new {Q : Addr → Shared → Prop} (hf : o.isFreed = false) (hq : ∀ a h', (∀ b o', h.get? b = some o' → h'.get? b = some o') → h'.get? a = some o → h.get? a = none → Q a ⟨h', g, d, t, os⟩) : wpAny M A (alloc o) Q E ⟨h, g, d, t, os⟩ :=
  wpAny_alloc' (hq _ _ (fun _ _ e => Heap.get?_push_of_some _ e) (Heap.get?_push_size _ hf) (Heap.get?_none_of_le (Nat.le_refl _)))
end
end Mine
end

-- part W1
section
open PySem PySem.W PySem.W.X PySem.Calls PyProof.Rows
open Sem (wp)
set_option maxRecDepth 100000
set_option maxHeartbeats 400000
namespace Mine
/-- what a tree does first -/
inductive Op where
  | load (a : Addr)
  | alloc
  | upd (a : Addr)
  | fresh
  | ask
  | code (c : Code)
  | other
noncomputable def opOf {α : Type} : Sem α → Op
  | .load a _ _ => .load a
  | .alloc _ _ => .alloc
  | .update a _ _ _ => .upd a
  | .fresh _ => .fresh
  | .ask _ => .ask
  | .call c none _ _ _ => .code c
  | _ => .other
/-- past what changes nothing -/
noncomputable def sk {α : Type} : Nat → Sem α → Sem α
  | 0, t => t
  | n + 1, .rule _ k => sk n (k ())
  | n + 1, .at _ k => sk n (k ())
  | n + 1, .point _ k => sk n (k ())
  | _ + 1, t => t
noncomputable def kl0 {α : Type} : Sem α → Obj → Sem α
  | .load _ _ k, o => k o
  | t, _ => t
noncomputable def kl {α : Type} : Sem α → Obj → Sem α
  | .load _ _ k, o => sk 60 (k o)
  | t, _ => t
noncomputable def ku {α : Type} : Sem α → Sem α
  | .update _ _ _ k => sk 60 (k ())
  | t => t
noncomputable def fu {α : Type} : Sem α → Obj → Obj
  | .update _ _ f _, o => f o
  | _, o => o
noncomputable def ka {α : Type} : Sem α → Addr → Sem α
  | .alloc _ k, a => sk 60 (k a)
  | t, _ => t
noncomputable def oa {α : Type} : Sem α → Obj
  | .alloc o _ => o
  | _ => ⟨.none, none, .plain, #[]⟩
noncomputable def kt {α : Type} : Sem α → Tok → Sem α
  | .fresh k, x => sk 60 (k x)
  | t, _ => t
noncomputable def kk {α : Type} : Sem α → Setting → Sem α
  | .ask k, x => sk 60 (k x)
  | t, _ => t
noncomputable def kr {α : Type} : Sem α → Value → Sem α
  | .call _ _ _ _ k, v => sk 60 (k (.ok (.ret v)))
  | t, _ => t
section
variable {α : Type} {prog : Program} {w : World} {A : Around} {E : Value → Shared → Prop} {s : Shared} {Q : α → Shared → Prop} {t : Sem α}
noncomputable def Shown (t : Sem α) : Op → Prop
  | .load a => ∃ p k, t = .load a p k
  | .alloc => ∃ o k, t = .alloc o k
  | .upd a => ∃ p f k, t = .update a p f k
  | .fresh => ∃ k, t = .fresh k
  | .ask => ∃ k, t = .ask k
  | .code c => ∃ g l k, t = .call c none g l k
  | .other => True
theorem shown (t : Sem α) : Shown t (opOf t) := by
  cases t with
  | load a p k => exact ⟨p, k, rfl⟩
  | alloc o k => exact ⟨o, k, rfl⟩
  | update a p f k => exact ⟨p, f, k, rfl⟩
  | fresh k => exact ⟨k, rfl⟩
  | ask k => exact ⟨k, rfl⟩
  | call c h g l k => cases h with
    | none => exact ⟨g, l, k, rfl⟩
    | some x => exact trivial
  | _ => exact trivial
theorem wp_sk {M : Model} {Γ : Ctx} {Q : α → Pos → Shared → Prop} {E : Value → Pos → Shared → Prop} {s : Shared} : ∀ (n : Nat) (t : Sem α), (∀ p, wp M Γ (sk n t) Q E p s) → ∀ p, wp M Γ t Q E p s
  | 0, _, h => h
  | n + 1, t, h => by
    cases t with
    | rule _ k => exact fun p => wp_sk n (k ()) h p
    | «at» p' k => exact fun _ => wp_sk n (k ()) h p'
    | point _ k => exact fun p => wp_sk n (k ()) h p
    | _ => exact h
theorem w_sk {M : Model} {t : Sem α} (n : Nat) (h : wpAny M A (sk n t) Q E s) : wpAny M A t Q E s := fun Γ p hΓ => wp_sk n t (fun p' => h Γ p' hΓ) p
theorem shown_of {o : Op} (e : opOf t = o) : Shown t o := e ▸ shown t
theorem w_load0 {M : Model} {a : Addr} {o : Obj} (e : opOf t = .load a) (ho : s.heap.get? a = some o) (h : wpAny M A (kl0 t o) Q E s) : wpAny M A t Q E s := by
  obtain ⟨p, k, rfl⟩ := shown_of e
  exact fun Γ p hΓ => ⟨o, ho, h Γ p hΓ⟩
theorem w_load {M : Model} {a : Addr} {o : Obj} (e : opOf t = .load a) (ho : s.heap.get? a = some o) (h : wpAny M A (kl t o) Q E s) : wpAny M A t Q E s := by
  obtain ⟨p, k, rfl⟩ := shown_of e
  exact fun Γ p hΓ => ⟨o, ho, wp_sk 60 (k o) (fun p' => h Γ p' hΓ) p⟩
theorem w_upd {M : Model} {a : Addr} {o : Obj} (e : opOf t = .upd a) (ho : s.heap.get? a = some o) (h : wpAny M A (ku t) Q E { s with heap := s.heap.update a (fu t) }) : wpAny M A t Q E s := by
  obtain ⟨p, f, k, rfl⟩ := shown_of e
  exact fun Γ p hΓ => ⟨by rw [ho]; rfl, wp_sk 60 (k ()) (fun p' => h Γ p' hΓ) p⟩
theorem w_all {M : Model} (e : opOf t = .alloc) (h : wpAny M A (ka t s.heap.objs.size) Q E { s with heap := s.heap.push (oa t) }) : wpAny M A t Q E s := by
  obtain ⟨o, k, rfl⟩ := shown_of e
  exact fun Γ p hΓ => wp_sk 60 (k _) (fun p' => h Γ p' hΓ) p
theorem w_tok {M : Model} (e : opOf t = .fresh) (h : ∀ x tk, wpAny M A (kt t x) Q E { s with toks := tk }) : wpAny M A t Q E s := by
  obtain ⟨k, rfl⟩ := shown_of e
  exact fun Γ p hΓ => wp_sk 60 (k _) (fun p' => h _ _ Γ p' hΓ) p
theorem w_ask (e : opOf t = .ask) (h : wpAny (model prog w) A (kk t ⟨prog, w.params⟩) Q E s) : wpAny (model prog w) A t Q E s := by
  obtain ⟨k, rfl⟩ := shown_of e
  exact fun Γ p hΓ => wp_sk 60 (k _) (fun p' => h Γ p' hΓ) p
theorem w_pure {M : Model} {a : α} (e : t = .pure a) (h : Q a s) : wpAny M A t Q E s := by
  subst e
  exact fun Γ p hΓ => h
theorem w_code {c : Code} (e : opOf t = .code c) (h : wpAny (model prog w) A (runValue c) (fun v s' => wpAny (model prog w) A (kr t v) Q E s') (fun _ _ => False) s) : wpAny (model prog w) A t Q E s := by
  obtain ⟨g, l, k, rfl⟩ := shown_of e
  intro Γ p hΓ
  refine wpCode_mono (fun r s' hr => ?_) (h Γ p hΓ)
  rcases r with x | (_ | _ | _ | v)
  · exact False.elim hr
  · exact False.elim hr
  · exact False.elim hr
  · exact False.elim hr
  · exact wp_sk 60 (k _) (fun p' => hr Γ p' hΓ) p
/-- what collect leaves -/
theorem col_code {l : Addr} {o : Obj} {items : Array Value} {n : Nat} {Q : Value → Shared → Prop} (ho : s.heap.get? l = some o) (hc : o.cls = .type "list") (hd : o.data = .seq items n) (hz : items.size ≤ sizeLine)
    (hq : ∀ a h' c d items' n' sl, (∀ b o', s.heap.get? b = some o' → h'.get? b = some o') → h'.get? a = some ⟨c, d, .seq items' n', sl⟩ → items'.toList = items.toList → Q (.ref a) { s with heap := h' }) :
    wpAny (model prog w) A (runValue (.builtin "proto.collect" ⟨[.ref l], []⟩)) Q (fun _ _ => False) s := by
  have h := wpAny_collect_seq (prog := prog) (w := w) (A := A) (E := fun _ _ => False) (Q := fun vs s' => vs = items.toList ∧ ∃ h', s' = { s with heap := h' } ∧ ∀ b o', s.heap.get? b = some o' → h'.get? b = some o') l (.inl rfl) ho hc hd (fun h' k => ⟨rfl, h', rfl, k⟩) hz
  intro Γ p hΓ
  refine wpCode_mono (fun r s' hr => ?_) (h Γ p hΓ)
  rcases r with x | (_ | _ | _ | v)
  · exact False.elim hr
  · exact False.elim hr
  · exact False.elim hr
  · exact False.elim hr
  · cases v <;> first | exact False.elim hr | skip
    rename_i a
    obtain ⟨⟨c, d, dat, sl⟩, e, hr⟩ := hr
    cases dat <;> first | exact False.elim hr | skip
    obtain ⟨q1, h', rfl, k⟩ := hr
    exact hq a h' c d _ _ sl k e q1
end
end Mine
end

-- part W2
section
open PySem PySem.W PySem.W.X PySem.Calls PyProof.Rows
set_option maxRecDepth 100000
set_option maxHeartbeats 400000
namespace Mine
noncomputable def hashAt (o : Obj) (i : Nat) : Int := match o.data with
  | .dict es _ => match es[i]? with
    | some e => e.hash
    | none => 0
  | _ => 0
section
variable {α : Type} {prog : Program} {w : World} {A : Around} {E : Value → Shared → Prop} {Q : α → Shared → Prop} {t : Sem α} {K : Addr → Obj → Prop} {h : Heap} {N C : Addr} {oN oC : Obj} {g : Array GenState} {d : Drawn} {tk : Nat} {os : OsState} {M : Model}
theorem t_n (I : In3 K h N C oN oC) (e : opOf t = .load N) (q : wpAny M A (kl t oN) Q E ⟨h, g, d, tk, os⟩) : wpAny M A t Q E ⟨h, g, d, tk, os⟩ := w_load e I.n q
theorem t_c (I : In3 K h N C oN oC) (e : opOf t = .load C) (q : wpAny M A (kl t oC) Q E ⟨h, g, d, tk, os⟩) : wpAny M A t Q E ⟨h, g, d, tk, os⟩ := w_load e I.c q
theorem t_k (I : In3 K h N C oN oC) {a : Addr} {o : Obj} (hk : K a o) (e : opOf t = .load a) (q : wpAny M A (kl t o) Q E ⟨h, g, d, tk, os⟩) : wpAny M A t Q E ⟨h, g, d, tk, os⟩ := w_load e (I.keep _ _ hk) q
theorem t_un (I : In3 K h N C oN oC) (oN' : Obj) (e : opOf t = .upd N) (eo : fu t oN = oN') (hf : oN'.isFreed = false) (q : ∀ h', In3 K h' N C oN' oC → wpAny M A (ku t) Q E ⟨h', g, d, tk, os⟩) : wpAny M A t Q E ⟨h, g, d, tk, os⟩ := by
  subst eo
  refine w_upd e I.n (q _ ⟨fun b o k => ?_, Heap.get?_update_self _ I.n hf, Heap.get?_update_of_ne _ I.ne I.c, I.nn, I.cn, I.ne⟩)
  exact Heap.get?_update_of_ne _ (fun z => I.nn o (z ▸ k)) (I.keep _ _ k)
theorem t_uc (I : In3 K h N C oN oC) (oC' : Obj) (e : opOf t = .upd C) (eo : fu t oC = oC') (hf : oC'.isFreed = false) (q : ∀ h', In3 K h' N C oN oC' → wpAny M A (ku t) Q E ⟨h', g, d, tk, os⟩) : wpAny M A t Q E ⟨h, g, d, tk, os⟩ := by
  subst eo
  refine w_upd e I.c (q _ ⟨fun b o k => ?_, Heap.get?_update_of_ne _ (Ne.symm I.ne) I.n, Heap.get?_update_self _ I.c hf, I.nn, I.cn, I.ne⟩)
  exact Heap.get?_update_of_ne _ (fun z => I.cn o (z ▸ k)) (I.keep _ _ k)
theorem t_all (I : In3 K h N C oN oC) (o : Obj) (e : opOf t = .alloc) (eo : oa t = o) (hf : o.isFreed = false) (q : ∀ a h', In3 (fun b o' => K b o' ∨ (b = a ∧ o' = o)) h' N C oN oC → wpAny M A (ka t a) Q E ⟨h', g, d, tk, os⟩) : wpAny M A t Q E ⟨h, g, d, tk, os⟩ := by
  subst eo
  refine w_all e (q _ _ ⟨?_, Heap.get?_push_of_some _ I.n, Heap.get?_push_of_some _ I.c, ?_, ?_, I.ne⟩)
  · rintro b o' (k | ⟨rfl, rfl⟩)
    · exact Heap.get?_push_of_some _ (I.keep _ _ k)
    · exact Heap.get?_push_size _ hf
  · rintro o' (k | ⟨z, _⟩)
    · exact I.nn _ k
    · exact absurd (Heap.lt_size I.n) (by rw [z]; exact Nat.lt_irrefl _)
  · rintro o' (k | ⟨z, _⟩)
    · exact I.cn _ k
    · exact absurd (Heap.lt_size I.c) (by rw [z]; exact Nat.lt_irrefl _)
theorem t_unH (I : In3 K h N C oN oC) (i : Nat) (mk : Int → Obj) (e : opOf t = .upd N) (eo : fu t oN = mk (hashAt (fu t oN) i)) (hf : ∀ z, (mk z).isFreed = false) (q : ∀ z h', In3 K h' N C (mk z) oC → wpAny M A (ku t) Q E ⟨h', g, d, tk, os⟩) : wpAny M A t Q E ⟨h, g, d, tk, os⟩ :=
  t_un I _ e eo (hf _) (q _)
theorem t_tok (e : opOf t = .fresh) (q : ∀ x tk', wpAny M A (kt t x) Q E ⟨h, g, d, tk', os⟩) : wpAny M A t Q E ⟨h, g, d, tk, os⟩ := w_tok e q
theorem t_new (o : Obj) (e : opOf t = .alloc) (eo : oa t = o) (hf : o.isFreed = false) (q : ∀ a h', (∀ b o', h.get? b = some o' → h'.get? b = some o') → h'.get? a = some o → h.get? a = none → wpAny M A (ka t a) Q E ⟨h', g, d, tk, os⟩) : wpAny M A t Q E ⟨h, g, d, tk, os⟩ := by
  subst eo
  exact w_all e (q _ _ (fun _ _ z => Heap.get?_push_of_some _ z) (Heap.get?_push_size _ hf) (Heap.get?_none_of_le (Nat.le_refl _)))
end
end Mine
end

-- part O3
section
open PySem PySem.W PySem.W.X PySem.Calls PyProof.Rows
set_option maxRecDepth 100000
set_option maxHeartbeats 400000
namespace Mine
theorem wpAny_wide {α : Type} {M : Model} {A : Around} {t : Sem α} {Q : α → Shared → Prop} {E : Value → Shared → Prop} {s : Shared} {d u : Nat} (hd : A.depth ≤ d) (hu : A.units ≤ u) (x : wpAny M { A with depth := d, units := u } t Q E s) : wpAny M A t Q E s :=
  fun Γ p hΓ => x Γ p ⟨hΓ.1, Nat.le_trans hΓ.2.1 hd, hΓ.2.2.1, hΓ.2.2.2.1, Nat.le_trans hΓ.2.2.2.2 hu⟩
noncomputable abbrev clsO (C N : Addr) (q : Str) (sl : Array (Option Value)) : Obj := ⟨.type "type", none, .cls { name := "K", bases := [.type "object"], mro := [.ref C, .type "object"], ns := N, qualname := q, hasDict := false, slotNames := ["obj"] }, sl⟩
/-- one new object, all others kept -/
noncomputable def OneNew (h : Heap) (g : Array GenState) (d : Drawn) (tk : Nat) (os : OsState) (o : Obj) (v : Value) (s : Shared) : Prop :=
  ∃ a h', v = .ref a ∧ s = ⟨h', g, d, tk, os⟩ ∧ (∀ b o, h.get? b = some o → h'.get? b = some o) ∧ h'.get? a = some o
section
variable {prog : Program} {w : World} {A : Around} {E : Value → Shared → Prop} {h : Heap} {g : Array GenState} {d : Drawn} {tk : Nat} {os : OsState} {C N a : Addr} {sl : Array (Option Value)} {q : Str}
theorem t_up {α : Type} {M : Model} {Q : α → Shared → Prop} {t : Sem α} {s : Shared} {o o' : Obj} (e : opOf t = .upd a) (ho : s.heap.get? a = some o) (eo : fu t o = o') (hf : o'.isFreed = false)
    (q : ∀ h', (∀ b ob, b ≠ a → s.heap.get? b = some ob → h'.get? b = some ob) → h'.get? a = some o' → wpAny M A (ku t) Q E { s with heap := h' }) : wpAny M A t Q E s := by
  subst eo
  exact w_upd e ho (q _ (fun b ob n z => Heap.get?_update_of_ne _ (Ne.symm n) z) (Heap.get?_update_self _ ho hf))
/-- a call of a built-in, by its tree -/
theorem bi_call {id : String} {b : Builtin} {args : List Value} {s : Shared} {Q : Value → Shared → Prop} (hc : sk 60 (callAny (.builtin id) ⟨args, []⟩) = .pure (.again (.builtin id ⟨args, []⟩))) (hu : (Code.builtin id ⟨args, []⟩).quiet = true) (hb : entryFor table id = some b)
    (h : ∀ A', wpAny (model prog w) A' (b ⟨args, []⟩) (fun fin s' => ∃ v, fin = .done (.ret v) ∧ Q v s') E s) : wpAny (model prog w) A (call (.builtin id) args) Q E s := by
  refine wpAny_call (codeAny_of_tree ?_)
  refine w_sk 60 (w_pure hc ⟨hu, codeAny_builtin hb ?_⟩)
  refine wpAny_mono (h _) (fun fin s' hr => ?_) fun _ _ z => z
  obtain ⟨v, rfl, hv⟩ := hr
  exact hv
theorem sup_new {s : Shared} {Q : Value → Shared → Prop} (hq : ∀ x h', (∀ b o, s.heap.get? b = some o → h'.get? b = some o) → h'.get? x = some ⟨.type "super", none, .fields #[.none, .none, .none], #[]⟩ → s.heap.get? x = none → Q (.ref x) { s with heap := h' }) :
    wpAny (model prog w) A (call (.builtin "super.__new__") [.type "super", .ref C, .ref C]) Q E s := by
  refine bi_call (by kernel_rfl) (by with_unfolding_all rfl) F.ks_entry_super_new fun A' => ?_
  refine w_sk 60 ?_
  refine t_new ⟨.type "super", none, .fields #[.none, .none, .none], #[]⟩ (by kernel_rfl) (by kernel_rfl) rfl fun x h' k hx nx => ?_
  exact w_pure (a := .done (.ret (.ref x))) (by kernel_rfl) ⟨_, rfl, hq x h' k hx nx⟩
theorem sup_init {s : Shared} {x : Addr} {Q : Value → Shared → Prop} (hC : s.heap.get? C = some (clsO C N q sl)) (hx : s.heap.get? x = some ⟨.type "super", none, .fields #[.none, .none, .none], #[]⟩) (hq : ∀ h', (∀ b o, b ≠ x → s.heap.get? b = some o → h'.get? b = some o) → h'.get? x = some ⟨.type "super", none, .fields #[.ref C, .ref C, .ref C], #[]⟩ → Q .none { s with heap := h' }) :
    wpAny (model prog w) A (call (.builtin "super.__init__") [.ref x, .ref C, .ref C]) Q E s := by
  refine wpAny_call_entry F.ks_slot_super_init ⟨_, hx, rfl⟩ F.ks_entry_super_init ?_ (F.ks_initArgs_super _ _ _)
  refine w_sk 60 ?_
  refine w_load (a := C) (by kernel_rfl) hC ?_
  refine w_load (a := C) (by kernel_rfl) hC ?_
  refine w_load0 (a := C) (by kernel_rfl) hC ?_
  with_unfolding_all conv => arg 3; whnf
  have hm : ([.ref C, .type "object"] : List Value).contains (.ref C) = true := by simp
  with_unfolding_all show wpAny _ _ (Sem.bind (if ([.ref C, .type "object"] : List Value).contains (.ref C) = true then (pure (Value.ref C) : Sem Value) else _) _) _ _ _
  rw [if_pos hm]
  clear hm
  refine w_sk 60 ?_
  refine w_load (a := x) (by kernel_rfl) hx ?_
  refine t_up (o' := ⟨.type "super", none, .fields #[.ref C, .none, .none], #[]⟩) (by kernel_rfl) hx (by kernel_rfl) rfl fun h1 k1 hx => ?_
  refine w_load (a := x) (by kernel_rfl) hx ?_
  refine t_up (o' := ⟨.type "super", none, .fields #[.ref C, .ref C, .none], #[]⟩) (by kernel_rfl) hx (by kernel_rfl) rfl fun h2 k2 hx => ?_
  refine w_load (a := x) (by kernel_rfl) hx ?_
  refine t_up (o' := ⟨.type "super", none, .fields #[.ref C, .ref C, .ref C], #[]⟩) (by kernel_rfl) hx (by kernel_rfl) rfl fun h3 k3 hx => ?_
  exact w_pure (a := .done (.ret .none)) (by kernel_rfl) ⟨_, rfl, hq h3 (fun b o n e => k3 _ _ n (k2 _ _ n (k1 _ _ n e))) hx⟩
theorem super_call0 (hC : h.get? C = some (clsO C N q sl)) :
    wpAny (model prog w) A (call (.type "super") [.ref C, .ref C]) (OneNew h g d tk os ⟨.type "super", none, .fields #[.ref C, .ref C, .ref C], #[]⟩) (fun _ _ => False) ⟨h, g, d, tk, os⟩ := by
  refine wpAny_call (codeAny_of_tree (w_sk 60 (w_pure (a := .again (.builtin "type.__call__" ⟨[.type "super", .ref C, .ref C], []⟩)) (by kernel_rfl) ⟨by with_unfolding_all rfl, codeAny_builtin (entryFor_of_tree (b := Builtin.«type.__call__») (by kernel_rfl)) ?_⟩)))
  refine w_sk 60 ?_
  refine w_load (a := C) (by kernel_rfl) hC ?_
  refine w_code (c := .call (.builtin "super.__new__") ⟨[.type "super", .ref C, .ref C], []⟩) (by kernel_rfl) ?_
  refine sup_new fun x h1 k1 hx nx => ?_
  refine w_load (a := x) (by kernel_rfl) hx ?_
  refine w_load (a := x) (by kernel_rfl) hx ?_
  refine w_code (c := .call (.builtin "super.__init__") ⟨[.ref x, .ref C, .ref C], []⟩) (by kernel_rfl) ?_
  refine sup_init (k1 _ _ hC) hx fun h2 k2 hx => ?_
  exact w_pure (a := .done (.ret (.ref x))) (by kernel_rfl) ⟨x, h2, rfl, rfl, fun b o e => k2 _ _ (fun z => by rw [z, nx] at e; cases e) (k1 _ _ e), hx⟩
theorem isub_get0 (hC : h.get? C = some (clsO C N q sl)) :
    wpAny (model prog w) A (call (.builtin "classmethod_descriptor.__get__") [.builtin "object.__init_subclass__", .none, .ref C]) (OneNew h g d tk os ⟨.type "builtin_function_or_method", none, .fields #[.builtin "object.__init_subclass__", .ref C], #[]⟩) (fun _ _ => False) ⟨h, g, d, tk, os⟩ := by
  refine bi_call (by kernel_rfl) (by with_unfolding_all rfl) (entryFor_of_tree (b := Builtin.«classmethod_descriptor.__get__») (by kernel_rfl)) fun A' => ?_
  refine w_sk 60 ?_
  refine w_load (a := C) (by kernel_rfl) hC ?_
  refine w_load (a := C) (by kernel_rfl) hC ?_
  refine t_new ⟨.type "builtin_function_or_method", none, .fields #[.builtin "object.__init_subclass__", .ref C], #[]⟩ (by kernel_rfl) (by kernel_rfl) rfl fun x h' k hx _ => ?_
  exact w_pure (a := .done (.ret (.ref x))) (by kernel_rfl) ⟨_, rfl, x, h', rfl, rfl, k, hx⟩
theorem isub_call0 (hC : h.get? C = some (clsO C N "cmp_to_key.<locals>.K" sl)) (hf : h.get? a = some ⟨.type "builtin_function_or_method", none, .fields #[.builtin "object.__init_subclass__", .ref C], #[]⟩) :
    wpAny (model prog w) A (call (.ref a) []) (fun v s => v = .none ∧ s = ⟨h, g, d, tk, os⟩) (fun _ _ => False) ⟨h, g, d, tk, os⟩ := by
  refine wpAny_call (codeAny_of_tree (w_sk 60 ?_))
  refine w_load (a := a) (by kernel_rfl) hf ?_
  refine w_load (a := C) (by kernel_rfl) hC ?_
  refine w_load (a := C) (by kernel_rfl) hC ?_
  refine w_load (a := C) (by kernel_rfl) hC ?_
  refine w_load (a := C) (by kernel_rfl) hC ?_
  refine w_pure (a := .again (.builtin "object.__init_subclass__" ⟨[.ref C], []⟩)) (by kernel_rfl) ⟨by with_unfolding_all rfl, codeAny_builtin (entryFor_of_tree (b := Builtin.«object.__init_subclass__») (by kernel_rfl)) ?_⟩
  refine w_sk 60 ?_
  exact w_pure (a := .done (.ret .none)) (by kernel_rfl) ⟨rfl, rfl⟩
end
end Mine
end

-- part O4
section
open PySem PySem.W PySem.W.X PySem.Calls PyProof.Rows
set_option maxRecDepth 100000
set_option maxHeartbeats 4000000
namespace Mine
section
variable {prog : Program} {w : World} {A : Around} {E : Value → Shared → Prop} {h : Heap} {g : Array GenState} {d : Drawn} {tk : Nat} {os : OsState} {C N so : Addr} {sl ssl : Array (Option Value)} {q : Str} {oc : Value} {od : Option Addr} {ep : Nat}
noncomputable abbrev supO (C : Addr) : Obj := ⟨.type "super", none, .fields #[.ref C, .ref C, .ref C], #[]⟩
noncomputable abbrev bfO (C : Addr) : Obj := ⟨.type "builtin_function_or_method", none, .fields #[.builtin "object.__init_subclass__", .ref C], #[]⟩
theorem noOpaque {Q : Option Str → Shared → Prop} (hst : h.get? cStatics = some ⟨oc, od, .dict #[] ep, ssl⟩) (hq : Q none ⟨h, g, d, tk, os⟩) : wpAny (model prog w) A (opaqueClassAbove (.ref C)) Q E ⟨h, g, d, tk, os⟩ := by
  unfold opaqueClassAbove
  dsimp only
  refine wpAny_bind ?_
  unfold anyOpaqueLoaded
  refine wpAny_bind (ns_get hst (r := none) rfl (wpAny_pure ?_))
  exact wpAny_pure hq
theorem forIn_eq {M : Model} {α β : Type} {f : α → β → Sem (ForInStep β)} {b : β} {l l' : List α} {Q : β → Shared → Prop} {s : Shared} (e : l = l') (x : wpAny M A (forIn l' b f) Q E s) : wpAny M A (forIn l b f) Q E s := e ▸ x
theorem super_ga {Q : Fin → Shared → Prop} {tn : Tok} (hC : h.get? C = some (clsO C N q sl)) (hso : h.get? so = some (supO C)) (hst : h.get? cStatics = some ⟨oc, od, .dict #[] ep, ssl⟩) (hd : A.depth ≤ 900) (hu : A.units ≤ 5000)
    (hq : ∀ a h', (∀ b o, h.get? b = some o → h'.get? b = some o) → h'.get? a = some (bfO C) → Q (.done (.ret (.ref a))) ⟨h', g, d, tk, os⟩) :
    wpAny (model prog w) A (Builtin.«super.__getattribute__» ⟨[.ref so, .str "__init_subclass__" tn], []⟩) Q E ⟨h, g, d, tk, os⟩ := by
  have hdt : (supO C).data = .fields #[.ref C, .ref C, .ref C] := rfl
  have f0 : (#[.ref C, .ref C, .ref C] : Array Value)[0]? = some (.ref C) := rfl
  have f1 : (#[.ref C, .ref C, .ref C] : Array Value)[1]? = some (.ref C) := rfl
  have f2 : (#[.ref C, .ref C, .ref C] : Array Value)[2]? = some (.ref C) := rfl
  have ff : (Value.ref C == Value.ref C) = true := by simp
  have fm : (([.ref C, .type "object"] : List Value).dropWhile (· != .ref C)).drop 1 = [.type "object"] := by simp
  have fl : typeLookup (.type "classmethod_descriptor") "__get__" = pure (some (.builtin "classmethod_descriptor.__get__")) := by rw [typeLookup_type, builtinLookup_eq_fast]; kernel_rfl
  have ft : typeOf (.builtin "object.__init_subclass__") = pure (.type "classmethod_descriptor") := by kernel_rfl
  have fo : classOwn (.type "object") "__init_subclass__" = pure (some (.builtin "object.__init_subclass__")) := by kernel_rfl
  unfold Builtin.«super.__getattribute__»
  repeat (first
    | (with_reducible refine wpAny_field hso hdt f0 ?_) | (with_reducible refine wpAny_field hso hdt f1 ?_) | (with_reducible refine wpAny_field hso hdt f2 ?_)
    | (with_reducible refine wpAny_of_eq (by assumption) ?_)
    | (with_reducible refine noOpaque hst ?_)
    | (with_reducible refine forIn_eq fm ?_)
    | (with_reducible refine wpAny_mono (wpAny_wide hd hu (isub_get0 hC)) ?_ fun _ _ z => z.elim)
    | (simp only [ff, if_true])
    | wp_step
    | dsimp only)
  rintro v s' ⟨a, h', rfl, rfl, k, ha⟩
  repeat (first | wp_step | dsimp only)
  exact hq a h' k ha
end
end Mine
end

-- part W3
section
open PySem PySem.W PySem.W.X PySem.Calls PyProof.Rows
set_option maxRecDepth 100000
set_option maxHeartbeats 4000000
namespace Mine
noncomputable abbrev cEs (e : Nat → Int) (t : Nat → Tok) (mo fl q : Value) (sl fi flt fgt feq fle fge sa : Addr) : Array DictEntry :=
  #[⟨e 0, .str "__module__" (t 0), mo⟩, ⟨e 13, .str "__qualname__" (t 13), q⟩, ⟨e 1, .str "__firstlineno__" (t 1), fl⟩, ⟨e 2, .str "__slots__" (t 2), .ref sl⟩, ⟨e 3, .str "__init__" (t 3), .ref fi⟩,
   ⟨e 4, .str "__lt__" (t 4), .ref flt⟩, ⟨e 5, .str "__gt__" (t 5), .ref fgt⟩, ⟨e 6, .str "__eq__" (t 6), .ref feq⟩, ⟨e 7, .str "__le__" (t 7), .ref fle⟩, ⟨e 8, .str "__ge__" (t 8), .ref fge⟩,
   ⟨e 9, .str "__hash__" (t 9), .none⟩, ⟨e 10, .str "__static_attributes__" (t 10), .ref sa⟩]
noncomputable abbrev dEs (e : Nat → Int) (t : Nat → Tok) (mo fl : Value) (sl fi flt fgt feq fle fge sa : Addr) : Array DictEntry :=
  #[⟨e 0, .str "__module__" (t 0), mo⟩, ⟨e 1, .str "__firstlineno__" (t 1), fl⟩, ⟨e 2, .str "__slots__" (t 2), .ref sl⟩, ⟨e 3, .str "__init__" (t 3), .ref fi⟩,
   ⟨e 4, .str "__lt__" (t 4), .ref flt⟩, ⟨e 5, .str "__gt__" (t 5), .ref fgt⟩, ⟨e 6, .str "__eq__" (t 6), .ref feq⟩, ⟨e 7, .str "__le__" (t 7), .ref fle⟩, ⟨e 8, .str "__ge__" (t 8), .ref fge⟩,
   ⟨e 9, .str "__hash__" (t 9), .none⟩, ⟨e 10, .str "__static_attributes__" (t 10), .ref sa⟩]
/-- the class under way -/
noncomputable abbrev cO (N : Addr) (mro : List Value) (sn : List Str) (hd : Bool) (slots : Array (Option Value)) : Obj :=
  ⟨.type "type", none, .cls { name := "K", bases := [.type "object"], mro := mro, ns := N, qualname := "cmp_to_key.<locals>.K", hasDict := hd, slotNames := sn }, slots⟩
theorem w_flt {α : Type} {M : Model} {A : Around} {E : Value → Shared → Prop} {s : Shared} {Q : α → Shared → Prop} {l l' : List Value} {v : Value} {P : Value → Sem Bool} {F : Bool → Sem α} (hl : List.filter (fun x => x != v) l = l') (h : wpAny M A ((List.anyM P l').bind F) Q E s) :
    wpAny M A ((List.anyM P (List.filter (fun x => x != v) l)).bind F) Q E s := by rw [hl]; exact h
theorem type_new {prog : Program} {w : World} {A : Around} {E : Value → Shared → Prop} {Q : PySem.Fin → Shared → Prop} {h : Heap} {g : Array GenState} {d : Drawn} {tk : Nat} {os : OsState} {e : Nat → Int} {t : Nat → Tok} {tq tn tf tm ts : Tok} {bt n0 sl fi flt fgt feq fle fge sa : Addr} {ep n1 n2 : Nat}
    {mn : Str} {ln : Int} {oc : Value} {ocd : Option Addr} {eps : Nat} {ssl : Array (Option Value)}
    (hns : h.get? (Nat.succ (Nat.succ n0)) = some ⟨.type "dict", none, .dict (cEs e t (.str mn tm) (.int ln tf) (.str "cmp_to_key.<locals>.K" tq) sl fi flt fgt feq fle fge sa) ep, #[]⟩)
    (hbt : h.get? bt = some ⟨.type "tuple", none, .seq #[.type "object"] n1, #[]⟩)
    (hsl : h.get? sl = some ⟨.type "list", none, .seq #[.str "obj" ts] n2, #[]⟩)
    (hsa : ∃ o, h.get? sa = some o ∧ o.cls = .type "tuple")
    (hfn : ∀ f ∈ [fi, flt, fgt, feq, fle, fge], ∃ o, h.get? f = some o ∧ o.cls = .type "function")
    (hst : h.get? cStatics = some ⟨oc, ocd, .dict #[] eps, ssl⟩) (hd : A.depth ≤ 890) (hu : A.units ≤ 4990)
    (hq : ∀ C N md h' tk' e' t' tn', (∀ b o, h.get? b = some o → h'.get? b = some o) → h'.get? C = some (kObj C N "cmp_to_key.<locals>.K" (some (.ref bt)) none (some (.str "K" tn)) (some (.str "cmp_to_key.<locals>.K" tq)) (some (.bool false))) →
      h'.get? N = some (kNs e' t' (.str mn tm) (.int ln tf) sl fi flt fgt feq fle fge sa md 3) → h'.get? md = some (kMd tn' C) → h.get? C = none → h.get? N = none → Q (.done (.ret (.ref C))) ⟨h', g, d, tk', os⟩) :
    wpAny (model prog w) A (Builtin.«type.__new__» ⟨[.type "type", .str "K" tn, .ref bt, .ref (Nat.succ (Nat.succ n0))], []⟩) Q E ⟨h, g, d, tk, os⟩ := by
  refine w_sk 60 ?_
  refine w_load (a := bt) (by kernel_rfl) hbt ?_
  refine w_load (a := Nat.succ (Nat.succ n0)) (by kernel_rfl) hns ?_
  refine w_load (a := bt) (by kernel_rfl) hbt ?_
  refine w_load (a := Nat.succ (Nat.succ n0)) (by kernel_rfl) hns ?_
  refine w_load (a := Nat.succ (Nat.succ n0)) (by kernel_rfl) hns ?_
  refine w_load (a := sl) (by kernel_rfl) hsl ?_
  refine w_code (c := .builtin "proto.collect" ⟨[.ref sl], []⟩) (by kernel_rfl) ?_
  refine col_code hsl rfl rfl (show (1 : Nat) ≤ sizeLine from by decide) ?_
  intro x0 h1 c0 d0 its i0 s0 k1 hx0 hits
  obtain rfl : its = #[.str "obj" ts] := Array.toList_inj.mp hits
  refine w_load (a := x0) (by kernel_rfl) hx0 ?_
  refine t_new ⟨.type "dict", none, .dict (cEs e t (.str mn tm) (.int ln tf) (.str "cmp_to_key.<locals>.K" tq) sl fi flt fgt feq fle fge sa) 0, #[]⟩ (by kernel_rfl) (by kernel_rfl) rfl ?_
  intro N h2 k2 hN nN
  refine w_load (a := N) (by kernel_rfl) hN ?_
  refine w_load (a := N) (by kernel_rfl) hN ?_
  refine w_load (a := N) (by kernel_rfl) hN ?_
  refine t_new ⟨.type "type", none, .cls { name := "K", bases := [.type "object"], mro := [], ns := N, qualname := "cmp_to_key.<locals>.K" }, #[]⟩ (by kernel_rfl) (by kernel_rfl) rfl ?_
  intro C h3 k3 hC nC
  have I : In3 (fun b o => h1.get? b = some o) h3 N C _ _ := ⟨fun b o q => k3 _ _ (k2 _ _ q), k3 _ _ hN, hC, fun o q => (by rw [nN] at q; cases q), fun o q => (by rw [k2 _ _ q] at nC; cases nC), fun q => (by rw [← q, hN] at nC; cases nC)⟩
  clear hN hC
  refine t_uc I (cO N [] [] true #[some (.ref bt)]) (by kernel_rfl) (by kernel_rfl) rfl ?_
  clear I; intro h4 I
  refine t_uc I (cO N [] [] true #[some (.ref bt), none, some (.str "K" tn)]) (by kernel_rfl) (by kernel_rfl) rfl ?_
  clear I; intro h5 I
  refine t_uc I (cO N [] [] true #[some (.ref bt), none, some (.str "K" tn), some (.str "cmp_to_key.<locals>.K" tq)]) (by kernel_rfl) (by kernel_rfl) rfl ?_
  clear I; intro h6 I
  refine t_n I (by kernel_rfl) ?_
  refine t_un I ⟨.type "dict", none, .dict (dEs e t (.str mn tm) (.int ln tf) sl fi flt fgt feq fle fge sa) 1, #[]⟩ (by kernel_rfl) (by kernel_rfl) rfl ?_
  clear I; intro h7 I
  refine t_n I (by kernel_rfl) ?_
  refine t_n I (by kernel_rfl) ?_
  refine t_n I (by kernel_rfl) ?_
  refine t_n I (by kernel_rfl) ?_
  refine w_load0 (by kernel_rfl) I.n ?_
  with_unfolding_all conv => arg 3; whnf
  refine w_flt (l' := [.type "object"]) (by simp) ?_
  refine w_sk 60 ?_
  refine t_c I (by kernel_rfl) ?_
  refine t_uc I (cO N [.ref C, .type "object"] [] true #[some (.ref bt), none, some (.str "K" tn), some (.str "cmp_to_key.<locals>.K" tq)]) (by kernel_rfl) (by kernel_rfl) rfl ?_
  clear I; intro h8 I
  refine t_c I (by kernel_rfl) ?_
  refine t_uc I (cO N [.ref C, .type "object"] [] true #[some (.ref bt), none, some (.str "K" tn), some (.str "cmp_to_key.<locals>.K" tq), some (.builtin "object.__new__")]) (by kernel_rfl) (by kernel_rfl) rfl ?_
  clear I; intro h9 I
  refine t_c I (by kernel_rfl) ?_
  refine t_c I (by kernel_rfl) ?_
  refine t_c I (by kernel_rfl) ?_
  refine t_n I (by kernel_rfl) ?_
  refine t_n I (by kernel_rfl) ?_
  refine t_tok (by kernel_rfl) ?_
  intro x3 tk1
  refine t_all I (kMd x3 C) (by kernel_rfl) (by kernel_rfl) rfl ?_
  clear I; intro md h10 I
  refine t_n I (by kernel_rfl) ?_
  refine w_ask (by kernel_rfl) ?_
  refine t_tok (by kernel_rfl) ?_
  intro x5 tk2
  refine t_n I (by kernel_rfl) ?_
  refine t_unH I 11 (fun z => ⟨.type "dict", none, .dict (dEs e t (.str mn tm) (.int ln tf) sl fi flt fgt feq fle fge sa ++ #[⟨z, .str "obj" x5, .ref md⟩]) 2, #[]⟩) (by kernel_rfl) (by kernel_rfl) (fun _ => rfl) ?_
  clear I; intro z1 h11 I
  refine t_c I (by kernel_rfl) ?_
  refine t_uc I (cO N [.ref C, .type "object"] ["obj"] false #[some (.ref bt), none, some (.str "K" tn), some (.str "cmp_to_key.<locals>.K" tq), some (.builtin "object.__new__")]) (by kernel_rfl) (by kernel_rfl) rfl ?_
  clear I; intro h12 I
  refine t_c I (by kernel_rfl) ?_
  refine t_uc I (cO N [.ref C, .type "object"] ["obj"] false #[some (.ref bt), none, some (.str "K" tn), some (.str "cmp_to_key.<locals>.K" tq), some (.builtin "object.__new__"), some (.bool false)]) (by kernel_rfl) (by kernel_rfl) rfl ?_
  clear I; intro h13 I
  refine t_n I (by kernel_rfl) ?_
  refine w_ask (by kernel_rfl) ?_
  refine t_tok (by kernel_rfl) ?_
  intro x6 tk3
  refine t_n I (by kernel_rfl) ?_
  refine t_unH I 12 (fun z => kNs (fun n => if n = 11 then z1 else if n = 12 then z else e n) (fun n => if n = 11 then x5 else if n = 12 then x6 else t n) (.str mn tm) (.int ln tf) sl fi flt fgt feq fle fge sa md 3) (by kernel_rfl) (by kernel_rfl) (fun _ => rfl) ?_
  clear I; intro z2 h14 I
  refine t_n I (by kernel_rfl) ?_
  refine t_n I (by kernel_rfl) ?_
  refine t_n I (by kernel_rfl) ?_
  refine t_n I (by kernel_rfl) ?_
  have up : ∀ b o, h.get? b = some o → h14.get? b = some o := fun b o q => I.keep _ _ (.inl (k1 _ _ q))
  obtain ⟨⟨_, _, _, _⟩, hfi, rfl⟩ := hfn fi (.head _)
  obtain ⟨⟨_, _, _, _⟩, hflt, rfl⟩ := hfn flt (.tail _ (.head _))
  obtain ⟨⟨_, _, _, _⟩, hfgt, rfl⟩ := hfn fgt (.tail _ (.tail _ (.head _)))
  obtain ⟨⟨_, _, _, _⟩, hfeq, rfl⟩ := hfn feq (.tail _ (.tail _ (.tail _ (.head _))))
  obtain ⟨⟨_, _, _, _⟩, hfle, rfl⟩ := hfn fle (.tail _ (.tail _ (.tail _ (.tail _ (.head _)))))
  obtain ⟨⟨_, _, _, _⟩, hfge, rfl⟩ := hfn fge (.tail _ (.tail _ (.tail _ (.tail _ (.tail _ (.head _))))))
  obtain ⟨⟨_, _, _, _⟩, hsa, rfl⟩ := hsa
  refine w_load (a := sl) (by kernel_rfl) (up _ _ hsl) ?_
  refine w_load (a := fi) (by kernel_rfl) (up _ _ hfi) ?_
  refine w_load (a := flt) (by kernel_rfl) (up _ _ hflt) ?_
  refine w_load (a := fgt) (by kernel_rfl) (up _ _ hfgt) ?_
  refine w_load (a := feq) (by kernel_rfl) (up _ _ hfeq) ?_
  refine w_load (a := fle) (by kernel_rfl) (up _ _ hfle) ?_
  refine w_load (a := fge) (by kernel_rfl) (up _ _ hfge) ?_
  refine w_load (a := sa) (by kernel_rfl) (up _ _ hsa) ?_
  refine t_k I (a := md) (.inr ⟨rfl, rfl⟩) (by kernel_rfl) ?_
  refine w_code (c := .call (.type "super") ⟨[.ref C, .ref C], []⟩) (by kernel_rfl) ?_
  refine wpAny_mono (wpAny_wide (by omega) (by omega) (super_call0 I.c)) ?_ fun _ _ z => z.elim
  rintro v s' ⟨so, h15, rfl, rfl, k15, hso⟩
  refine t_tok (by kernel_rfl) ?_
  intro x8 tk4
  refine w_load (a := so) (by kernel_rfl) hso ?_
  refine w_code (c := .call (.builtin "super.__getattribute__") ⟨[.ref so, .str "__init_subclass__" x8], []⟩) (by kernel_rfl) ?_
  refine wpAny_mono (Q := fun v s' => ∃ a h', v = .ref a ∧ s' = ⟨h', g, d, tk4, os⟩ ∧ (∀ b o, h15.get? b = some o → h'.get? b = some o) ∧ h'.get? a = some (bfO C)) (E := fun _ _ => False)
    (show wpAny (model prog w) A (call (.builtin "super.__getattribute__") (.ref so :: [.str "__init_subclass__" x8])) _ _ ⟨h15, g, d, tk4, os⟩ from wpAny_call_entry F.ks_slot_super_ga ⟨_, hso, rfl⟩ F.ks_entry_super_ga (super_ga (k15 _ _ I.c) hso (k15 _ _ (up _ _ hst)) (by show A.depth + 0 ≤ _; omega) (by show A.units + 1 ≤ _; omega) fun a h' k ha => ⟨_, rfl, a, h', rfl, rfl, k, ha⟩) (F.ks_gaArgs_super _ _)) ?_ fun _ _ z => z
  rintro _ _ ⟨bf, h16, rfl, rfl, k16, hbf⟩
  refine w_code (c := .call (.ref bf) ⟨[], []⟩) (by kernel_rfl) ?_
  refine wpAny_mono (wpAny_wide (by omega) (by omega) (isub_call0 (k16 _ _ (k15 _ _ I.c)) hbf)) ?_ fun _ _ z => z
  rintro _ _ ⟨rfl, rfl⟩
  refine w_pure (a := .done (.ret (.ref C))) (by kernel_rfl) ?_
  exact hq C N md h16 _ _ _ _ (fun b o q => k16 _ _ (k15 _ _ (up _ _ q))) (k16 _ _ (k15 _ _ I.c)) (k16 _ _ (k15 _ _ I.n)) (k16 _ _ (k15 _ _ (I.keep _ _ (.inr ⟨rfl, rfl⟩)))) (by cases q : h.get? C with | none => rfl | some o => exact absurd (.inl (k1 _ _ q)) (I.cn o)) (by cases q : h.get? N with | none => rfl | some o => exact absurd (.inl (k1 _ _ q)) (I.nn o))
end Mine
end

-- part O7
section
open PySem PySem.W PySem.W.X PySem.Calls PyProof.Rows
set_option maxRecDepth 100000
set_option maxHeartbeats 4000000
namespace Mine
/-- what a new key class is, behind the call of type -/
noncomputable def NewK (h h' : Heap) (C : Addr) (sl fi flt fgt feq fle fge sa : Addr) : Prop :=
  ∃ N md k0 k2 k3 e t mo fl tn, (∀ b o, h.get? b = some o → h'.get? b = some o) ∧ h'.get? C = some (kObj C N "cmp_to_key.<locals>.K" k0 none k2 k3 (some (.bool false))) ∧
    h'.get? N = some (kNs e t mo fl sl fi flt fgt feq fle fge sa md 3) ∧ h'.get? md = some (kMd tn C) ∧ h.get? C = none ∧ h.get? N = none
theorem type_call {prog : Program} {w : World} {A : Around} {E : Value → Shared → Prop} {Q : Value → Shared → Prop} {h : Heap} {g : Array GenState} {d : Drawn} {tk : Nat} {os : OsState} {e : Nat → Int} {t : Nat → Tok} {tq tn tf tm ts : Tok} {bt ns sl fi flt fgt feq fle fge sa : Addr} {ep n1 n2 : Nat}
    {mn : Str} {ln : Int} {oc : Value} {ocd : Option Addr} {eps : Nat} {ssl : Array (Option Value)}
    (hsm : 1 < ns) (hns : h.get? ns = some ⟨.type "dict", none, .dict (cEs e t (.str mn tm) (.int ln tf) (.str "cmp_to_key.<locals>.K" tq) sl fi flt fgt feq fle fge sa) ep, #[]⟩)
    (hbt : h.get? bt = some ⟨.type "tuple", none, .seq #[.type "object"] n1, #[]⟩)
    (hsl : h.get? sl = some ⟨.type "list", none, .seq #[.str "obj" ts] n2, #[]⟩)
    (hsa : ∃ o, h.get? sa = some o ∧ o.cls = .type "tuple")
    (hfn : ∀ f ∈ [fi, flt, fgt, feq, fle, fge], ∃ o, h.get? f = some o ∧ o.cls = .type "function")
    (hst : h.get? cStatics = some ⟨oc, ocd, .dict #[] eps, ssl⟩) (hd : A.depth ≤ 880) (hu : A.units ≤ 4980)
    (hq : ∀ C h' tk', NewK h h' C sl fi flt fgt feq fle fge sa → Q (.ref C) ⟨h', g, d, tk', os⟩) :
    wpAny (model prog w) A (call (.type "type") [.str "K" tn, .ref bt, .ref ns]) Q E ⟨h, g, d, tk, os⟩ := by
  obtain ⟨n0, rfl⟩ : ∃ n0, ns = Nat.succ (Nat.succ n0) := match ns, hsm with
    | n + 2, _ => ⟨n, rfl⟩
  have f1 : checkTypeCall "type" ⟨[.str "K" tn, .ref bt, .ref (Nat.succ (Nat.succ n0))], []⟩ = pure () := by kernel_rfl
  have f2 : mroOf (.type "type") = pure [.type "type", .type "object"] := by rw [mroOf_type]; kernel_rfl
  have f3 : Bind.madeBy (.type "type") = pure (some "type.__new__") := by kernel_rfl
  have f4 : isSubtype (.type "type") (.type "type") = pure true := by rw [isSubtype_type]; kernel_rfl
  refine wpAny_call (codeAny_of_tree ?_)
  show wpAny _ _ (callAny (.type "type") _) _ _ _
  refine wpAny_pure ⟨Code.quiet_builtin _ (by decide +kernel), codeAny_builtin F.entry_type_call ?_⟩
  rw [Around.under_plain (weight_type_call_type "type" _ []) rfl]
  unfold Builtin.«type.__call__»
  have f5 : checkBuiltinCall "type.__new__" ⟨[.type "type", .str "K" tn, .ref bt, (.ref (Nat.succ (Nat.succ n0)))], []⟩ = pure () := by kernel_rfl
  have f6 : entryFor table "type.__new__" = some Builtin.«type.__new__» := entryFor_of_tree (by kernel_rfl)
  have f7 : plainId "type.__new__" = true := by decide +kernel
  iterate 15 (first | (with_reducible refine wpAny_of_eq (by assumption) ?_) | wp_step)
  refine wpAny_call ?_
  refine codeAny_of_tree ?_
  show wpAny _ _ (do checkBuiltinCall "type.__new__" ⟨[.type "type", .str "K" tn, .ref bt, (.ref (Nat.succ (Nat.succ n0)))], []⟩; again (.builtin "type.__new__" ⟨[.type "type", .str "K" tn, .ref bt, (.ref (Nat.succ (Nat.succ n0)))], []⟩)) _ _ _
  refine wpAny_bind (wpAny_of_eq f5 (wpAny_pure ⟨plainId_quiet f7 _, codeAny_builtin f6 ?_⟩))
  rw [Around.under_plainId f7 _]
  refine type_new hns hbt hsl hsa hfn hst (by show A.depth ≤ 890; omega) (by show A.units + 1 + 1 ≤ 4990; omega) fun C N md h' tk' e' t' tn' k hC hN hmd hCn hNn => ?_
  have nk : NewK h h' C sl fi flt fgt feq fle fge sa := ⟨N, md, _, _, _, e', t', _, _, tn', k, hC, hN, hmd, hCn, hNn⟩
  show wpAny _ _ _ _ _ _
  have SI : Slot "type" "__init__" "type.__init__" := .of (owner := "type") (n := "__init__") (by rw [typeLookup_type, builtinLookup_eq_fast]; kernel_rfl) (by decide +kernel) (by decide +kernel) (by decide +kernel) (.inl (by decide +kernel)) f4
  have hT : (⟨h', g, d, tk', os⟩ : Shared).TypeIs (.ref C) "type" := ⟨_, hC, rfl⟩
  refine wpAny_bind (wpAny_isInstance hT f4 ?_)
  iterate 2 wp_step
  have g1 := SI.lookup
  have g2 := SI.bind (.ref C)
  iterate 7 (first | (with_reducible refine wpAny_of_eq (by assumption) ?_) | wp_step)
  refine wpAny_bind (wpAny_call_entry (self := .ref C) (rest := [.str "K" tn, .ref bt, .ref (Nat.succ (Nat.succ n0))]) SI hT (entryFor_of_tree (by kernel_rfl)) (b := Builtin.«type.__init__») (wpAny_pure ⟨_, rfl, ?_⟩) (by unfold argsOk; kernel_rfl))
  repeat wp_step
  exact hq C h' tk' nk
end Mine
end

-- part P2
section
open PySem PySem.W PySem.Calls PyProof.Rows
set_option maxRecDepth 100000
namespace Mine
/-- a class body under way: its namespace N, its code's table P, what it has made so far -/
structure CB (K : Addr → Obj → Prop) (h : Heap) (N P : Addr) (oN : Obj) (S : List (Pos × Str)) (L : List (Addr × Obj)) (R : List (Value × Str)) : Prop where
  tab : ∃ ps, In3 K h N P oN (tabObj ps) ∧ TriplesOk ps.toList ∧ ∀ x ∈ S, ∀ cv, codeAmong x.1 ps.toList = some cv → h.CodeRec cv x.2
  dict : ∃ es ep, oN.data = .dict es ep
  objs : ∀ x ∈ L, h.get? x.1 = some x.2 ∧ x.1 ≠ N ∧ x.1 ≠ P
  recs : ∀ x ∈ R, h.CodeRec x.1 x.2
section
variable {M : Model} {A : Around} {E : Value → Shared → Prop} {K : Addr → Obj → Prop} {h h' : Heap} {N P : Addr} {oN oN' : Obj} {S : List (Pos × Str)} {L : List (Addr × Obj)} {R : List (Value × Str)} {g : Array GenState} {d : Drawn} {t : Nat} {os : OsState}
theorem CB.code (B : CB K h N P oN S L R) (k : ∀ b o, b ≠ N → b ≠ P → h.get? b = some o → h'.get? b = some o) {cv : Value} {q : Str} (c : h.CodeRec cv q) : h'.CodeRec cv q := by
  obtain ⟨c, o, vs, tt, e1, e2, e3, e4⟩ := c
  obtain ⟨es, ep, hdd⟩ := B.dict
  obtain ⟨ps, I, ok, _⟩ := B.tab
  refine ⟨c, o, vs, tt, e1, k _ _ (fun q => ?_) (fun q => ?_) e2, e3, e4⟩
  · rw [q, I.n] at e2; cases e2; rw [hdd] at e3; cases e3
  · rw [q, I.c] at e2; cases e2
    have e5 : ps = vs := by injection e3
    subst e5
    exact tri_no ok e4
theorem CB.move (B : CB K h N P oN S L R) {ps' : Array Value} (k : ∀ b o, b ≠ N → b ≠ P → h.get? b = some o → h'.get? b = some o) (hN : h'.get? N = some oN') (hP : h'.get? P = some (tabObj ps')) (hd : ∃ es ep, oN'.data = .dict es ep) (ok : TriplesOk ps'.toList)
    (good : ∀ x ∈ S, ∀ cv, codeAmong x.1 ps'.toList = some cv → h'.CodeRec cv x.2) : CB K h' N P oN' S L R := by
  obtain ⟨ps, I, _, _⟩ := B.tab
  refine ⟨⟨ps', ⟨fun b o q => k _ _ (fun z => I.nn o (z ▸ q)) (fun z => I.cn o (z ▸ q)) (I.keep b o q), hN, hP, I.nn, I.cn, I.ne⟩, ok, good⟩, hd, fun x hx => ?_, fun x hx => B.code k (B.recs x hx)⟩
  obtain ⟨e, n1, n2⟩ := B.objs x hx
  exact ⟨k _ _ n1 n2 e, n1, n2⟩
theorem CB.same (B : CB K h N P oN S L R) (k : ∀ b o, h.get? b = some o → h'.get? b = some o) : CB K h' N P oN S L R := by
  obtain ⟨ps, I, ok, good⟩ := B.tab
  exact B.move (fun b o _ _ e => k b o e) (k _ _ I.n) (k _ _ I.c) B.dict ok fun x hx cv e => (good x hx cv e).keeps k
/-- a new object -/
theorem CB.alloc {o : Obj} {Q : Addr → Shared → Prop} (B : CB K h N P oN S L R) (hf : o.isFreed = false) (hq : ∀ a h', CB K h' N P oN S ((a, o) :: L) R → h.get? a = none → Q a ⟨h', g, d, t, os⟩) : wpAny M A (alloc o) Q E ⟨h, g, d, t, os⟩ := by
  refine alloc_new hf fun a h' k e n => ?_
  have B' := B.same k
  obtain ⟨ps, I, _, _⟩ := B.tab
  refine hq a h' ⟨B'.tab, B'.dict, fun x hx => ?_, B'.recs⟩ n
  rcases List.mem_cons.mp hx with rfl | hx
  · exact ⟨e, fun q => (by dsimp only at q; rw [q, I.n] at n; cases n), fun q => (by dsimp only at q; rw [q, I.c] at n; cases n)⟩
  · exact B'.objs x hx
noncomputable abbrev dE (l : List (Str × Int × Tok × Value)) : List DictEntry := l.map fun x => ⟨x.2.1, .str x.1 x.2.2.1, x.2.2.2⟩
noncomputable abbrev dO (l : List (Str × Int × Tok × Value)) (ep : Nat) : Obj := ⟨.type "dict", none, .dict (dE l).toArray ep, #[]⟩
/-- a name is bound in the class body -/
theorem CB.store {env : Env} {name : Str} {v : Value} {Q : Unit → Shared → Prop} {es : Array DictEntry} {ep : Nat} {oN' : Int → Tok → Obj} (B : CB K h N P oN S L R) (hs : storeName env name v = localSet env name v) (hl : env.locals = N) (hc : oN.cls = .type "dict")
    (hd : oN.data = .dict es ep) (hr : aRefKeyMayBeTheName name es = false) (e : ∀ eh tk, Obj.putName name eh (.str name tk) v oN = oN' eh tk) (hf : ∀ eh tk, (oN' eh tk).isFreed = false) (hd' : ∀ eh tk, ∃ es ep, (oN' eh tk).data = .dict es ep)
    (hq : ∀ h' eh tk, CB K h' N P (oN' eh tk) S L R → Q () ⟨h', g, d, t + 1, os⟩) : wpAny M A (storeName env name v) Q E ⟨h, g, d, t, os⟩ := by
  obtain ⟨ps, I, ok, good⟩ := B.tab
  rw [hs]
  unfold localSet
  rw [hl]
  refine wpAny_bind (wpAny_load' I.n ?_)
  rw [hc, if_pos (by decide)]
  unfold nsSet
  refine wpAny_bind ?_
  unfold strHash
  refine wpAny_bind (wpAny_askSetting (wpAny_pure ?_))
  refine wpAny_bind (wpAny_mkText ?_)
  refine wpAny_bind (wpAny_loadPart' I.n ?_)
  rw [hd]
  dsimp only
  rw [hr, if_neg (by decide)]
  have k : ∀ eh tk b o, b ≠ N → b ≠ P → h.get? b = some o → (h.update N (Obj.putName name eh (.str name tk) v)).get? b = some o := fun _ _ b o hb _ e => Heap.get?_update_of_ne _ (Ne.symm hb) e
  have I' := fun eh tk => I.upN (f := Obj.putName name eh (.str name tk) v) (e eh tk) (hf eh tk)
  exact wpAny_updatePart' I.n (hq _ _ _ (B.move (k _ _) (I' _ _).n (I' _ _).c (hd' _ _) ok fun x hx cv e => B.code (k _ _) (good x hx cv e)))
theorem CB.put {env : Env} {name : Str} {v : Value} {Q : Unit → Shared → Prop} {l : List (Str × Int × Tok × Value)} {ep : Nat} (B : CB K h N P (dO l ep) S L R) (hs : storeName env name v = localSet env name v) (hl : env.locals = N)
    (hr : aRefKeyMayBeTheName name (dE l).toArray = false) (e : ∀ eh tk, Obj.putName name eh (.str name tk) v (dO l ep) = dO (l ++ [(name, eh, tk, v)]) (ep + 1))
    (hq : ∀ h' eh tk, CB K h' N P (dO (l ++ [(name, eh, tk, v)]) (ep + 1)) S L R → Q () ⟨h', g, d, t + 1, os⟩) : wpAny M A (storeName env name v) Q E ⟨h, g, d, t, os⟩ :=
  B.store (es := (dE l).toArray) (ep := ep) hs hl rfl rfl hr e (fun _ _ => rfl) (fun _ _ => ⟨_, _, rfl⟩) hq
/-- a def in the class body -/
theorem CB.fn {name qual : Str} {params : Arguments} {body : List Stmt} {scope : Scope} {env : Env} {c : Addr} {pos : Pos} {firstLine : Nat} {mg : Str → Option Value} {clos : List (Str × Addr)} {Q : Value → Shared → Prop}
    (B : CB K h N P oN S L R) (hcl : closureFor scope env = pure clos) (hge0 : env.globals = mainGlobals) (hcode : env.code = .ref c) (hgP : mainGlobals ≠ P)
    (hK : ∀ h', (∀ b o, K b o → h'.get? b = some o) → h'.Ns mainGlobals mg ∧ CodeHd h' c P ∧ h'.BuiltinsAt mg P)
    (hS : (pos, qual) ∈ S) (hSS : ∀ x ∈ S, pos.line = x.1.line → pos.col = x.1.col → x.2 = qual)
    (hq : ∀ f cv ctv doc h' tk, CB K h' N P oN S ((f, ⟨.type "function", none, .func (fnX name qual params body scope clos .none .none doc ((mg "__name__").getD .none) none cv ctv), #[]⟩) :: L) ((cv, qual) :: R) → Q (.ref f) ⟨h', g, d, tk, os⟩) :
    wpAny M A (makeFunction name qual params (.stmts body) scope env [] [] [] pos firstLine) Q E ⟨h, g, d, t, os⟩ := by
  obtain ⟨ps, I, ok, good⟩ := B.tab
  obtain ⟨hg, C, hb⟩ := hK h I.keep
  have nl := Heap.lt_size I.n
  have pl := Heap.lt_size I.c
  have fin : ∀ {f : Addr} {h' : Heap} {o : Obj} {cv : Value}, CB K h' N P oN S L R → h'.get? f = some o → h.get? f = none → h'.CodeRec cv qual → CB K h' N P oN S ((f, o) :: L) ((cv, qual) :: R) := by
    intro f h' o cv B' e n r
    refine ⟨B'.tab, B'.dict, fun x hx => ?_, fun x hx => ?_⟩
    · rcases List.mem_cons.mp hx with rfl | hx
      · exact ⟨e, fun q => (by dsimp only at q; rw [q, I.n] at n; cases n), fun q => (by dsimp only at q; rw [q, I.c] at n; cases n)⟩
      · exact B'.objs x hx
    · rcases List.mem_cons.mp hx with rfl | hx
      · exact r
      · exact B'.recs x hx
  cases hc : codeAmong pos ps.toList with
  | some cv =>
    refine makeFunction_hit (s := ⟨h, g, d, t, os⟩) hcl hge0 hg hcode C I.c ok hc hb fun ctv doc h' tk k hs => ?_
    have kk : ∀ b o, h.get? b = some o → (h'.push { cls := .type "function", data := .func (fnX name qual params body scope clos .none .none doc ((mg "__name__").getD .none) none cv ctv) }).get? b = some o := fun b o e => Heap.get?_push_of_some _ (k b o e)
    exact hq h'.objs.size cv ctv doc _ tk (fin (B.same kk) (Heap.get?_push_size _ rfl) (Heap.get?_none_of_le hs) ((good _ hS cv hc).keeps kk))
  | none =>
    refine makeFunction_K (s := ⟨h, g, d, t, os⟩) hcl hge0 hg hcode C I.c ok hc hgP hb fun c' ctv doc h' tk ext hc1 hc2 rec tab => ?_
    have kk : ∀ b o, b ≠ N → b ≠ P → h.get? b = some o → (h'.push (fnMade name qual params body scope clos doc ((mg "__name__").getD .none) c' ctv)).get? b = some o := fun b o _ hb e => Heap.get?_push_of_some _ (ext b o hb e)
    have hl : (ps ++ #[rawInt pos.line, rawInt pos.col, Value.ref c']).toList = ps.toList ++ [rawInt pos.line, rawInt pos.col, .ref c'] := by simp
    have rec' := rec.keeps fun b o e => Heap.get?_push_of_some (fnMade name qual params body scope clos doc ((mg "__name__").getD .none) c' ctv) e
    refine hq h'.objs.size (.ref c') ctv doc _ tk (fin (B.move kk (Heap.get?_push_of_some _ (ext _ _ I.ne I.n)) (Heap.get?_push_of_some _ tab) B.dict (by rw [hl]; exact TriplesOk_snoc _ _ _ _ ok) fun x hx cv e => ?_) (Heap.get?_push_size _ rfl) (Heap.get?_none_of_le (Nat.le_of_lt (Nat.lt_of_le_of_lt hc1 hc2))) rec')
    rw [hl] at e
    rcases codeAmong_app _ ok e with e | e
    · exact B.code kk (good x hx cv e)
    · obtain ⟨⟨l1, l2⟩, rfl⟩ := codeAmong_one e
      rw [hSS x hx l1 l2]
      exact rec'
end
end Mine
end

-- part P3
section
open PySem PySem.W PySem.W.X PySem.Calls PyProof.Rows
set_option maxRecDepth 100000
set_option maxHeartbeats 0
namespace Mine
section
variable {prog : Program} {w : World} {A : Around} {h : Heap} {g : Array GenState} {d : Drawn} {tk : Nat} {os : OsState} {a : Addr} {tn : Tok} {v1 v2 : Value}
noncomputable abbrev pfO : Obj := ⟨.type "builtin_function_or_method", none, .fields #[.builtin "type.__prepare__", .type "type"], #[]⟩
theorem prep_ga0 : wpAny (model prog w) { A with depth := 900, units := 5000 } (call (.builtin "type.__getattribute__") [.type "type", .str "__prepare__" tn]) (OneNew h g d tk os pfO) (fun _ _ => False) ⟨h, g, d, tk, os⟩ := by
  refine bi_call (by kernel_rfl) (by with_unfolding_all rfl) (entryFor_of_tree (b := Builtin.«type.__getattribute__») (by kernel_rfl)) fun A' => ?_
  refine w_sk 60 ?_
  refine w_code (c := .call (.builtin "classmethod_descriptor.__get__") ⟨[.builtin "type.__prepare__", .none, .type "type"], []⟩) (by kernel_rfl) ?_
  refine bi_call (by kernel_rfl) (by with_unfolding_all rfl) (entryFor_of_tree (b := Builtin.«classmethod_descriptor.__get__») (by kernel_rfl)) fun A'' => ?_
  refine w_sk 60 ?_
  refine t_new pfO (by kernel_rfl) (by kernel_rfl) rfl fun x h' k hx _ => ?_
  refine w_pure (a := .done (.ret (.ref x))) (by kernel_rfl) ⟨_, rfl, ?_⟩
  exact w_pure (a := .done (.ret (.ref x))) (by kernel_rfl) ⟨_, rfl, x, h', rfl, rfl, k, hx⟩
theorem prep_entry : entryFor table "type.__prepare__" = some Builtin.«type.__prepare__» := entryFor_of_tree (by kernel_rfl)
theorem prep_check : checkBoundCall "type.__prepare__" ⟨[.type "type", v1, v2], []⟩ = pure () := by first | kernel_rfl | rfl
theorem prep_call0 (hf : h.get? a = some pfO) : wpAny (model prog w) { A with depth := 900, units := 5000 } (call (.ref a) [v1, v2]) (fun v s => OneNew h g d tk os ⟨.type "dict", none, .dict #[] 0, #[]⟩ v s ∧ ∀ a, v = .ref a → h.get? a = none ∧ h.objs.size ≤ a) (fun _ _ => False) ⟨h, g, d, tk, os⟩ := by
  refine wpAny_call (codeAny_of_tree ?_)
  show wpAny _ _ (callAny (.ref a) ⟨[v1, v2], []⟩) _ _ _
  simp only [callAny]
  refine wpAny_bind (wpAny_load hf ?_)
  simp only [show (Value.type "builtin_function_or_method" == Value.type "method" || Value.type "builtin_function_or_method" == Value.type "builtin_function_or_method" || Value.type "builtin_function_or_method" == Value.type "method-wrapper") = true by decide, if_true]
  refine KFB.if_so (by decide) ?_
  refine wpAny_bind (wpAny_of_eq (a := ()) prep_check ?_)
  refine wpAny_bind (wpAny_pure (wpAny_pure ?_))
  refine ⟨Code.quiet_builtin _ (by decide +kernel), codeAny_builtin prep_entry ?_⟩
  show wpAny _ _ (do ret (← newDict)) _ _ _
  refine wpAny_bind (wpAny_newObj_type (wpAny_pure ?_))
  exact ⟨⟨h.objs.size, _, rfl, rfl, fun b o e => Heap.get?_push_of_some _ e, Heap.get?_push_size _ rfl⟩, fun a' e => by cases e; exact ⟨Heap.get?_none_of_le (Nat.le_refl _), Nat.le_refl _⟩⟩
end
end Mine
end

-- part P4
section
open PySem PySem.W PySem.W.X PySem.Calls PyProof.Rows
set_option maxRecDepth 100000
set_option maxHeartbeats 4000000
namespace Mine
/-- the globals that the making of a class reads -/
structure GK (h : Heap) (mg mb : Str → Option Value) : Prop where
  g : h.Ns mainGlobals mg
  b : h.Ns builtinsNs mb
  lim : h.NoLimit
  ob : mg "object" = none
  bob : mb "object" = some (.type "object")
  bc : mb "__build_class__" = some (.builtin "__build_class__")
  bs : ∃ bm o, mg "__builtins__" = some (.ref bm) ∧ bm ≠ builtinsNs ∧ bm ≠ mainGlobals ∧ h.get? bm = some o ∧ o.cls = .type "module" ∧ o.dict = some builtinsNs ∧ o.data = .plain
  nm : ∃ n t, mg "__name__" = some (.str n t)
section
variable {prog : Program} {w : World} {A : Around} {E : Value → Shared → Prop} {s : Shared} {mg mb : Str → Option Value} {env : Env}
/-- a class statement over object -/
theorem class_stmt {name bind : Str} {p : Pos} {body : List Stmt} {scope : Scope} {x1 : Option Scope} {statics : List Str} {pos : Pos} {Q : Flow → Shared → Prop} (G : GK s.heap mg mb) (hk : env.scope.kind = .function) (hko : env.kindOf "object" = some .globalImplicit) (hg : env.globals = mainGlobals) (hb : env.builtins = builtinsNs)
    (h : wpAny (model prog w) A (buildClass name (qualnameIn env name bind) [.type "object"] [] body scope statics pos.line env pos none) (fun c s' => wpAny (model prog w) A (storeName env bind c) (fun _ s'' => Q .next s'') E s') E s) :
    wpAny (model prog w) A (exec (.ClassDef name [.Name "object" p] [] body [] [] scope x1 bind statics pos) env) Q E s := by
  rw [arm_exec_ClassDef]
  refine wpAny_bind (wpAny_of_eq (show evalAll (evalEach [] env) = pure [] from rfl) ?_)
  refine wpAny_bind (wpAny_standAt ?_)
  refine wpAny_bind ?_
  unfold buildClassGuard
  rw [hb]
  refine wpAny_bind (wpAny_nsGet G.b ?_)
  rw [G.bc]
  refine wpAny_pure ?_
  refine wpAny_bind (wpAny_holding ?_)
  refine wpAny_bind (evalArgs_plain (spliced_cons (Name_function_global hk hko (loadGlobal_builtin (hg ▸ G.g) G.ob (hb ▸ G.b) G.bob (spliced_nil ?_)))))
  refine wpAny_bind (wpAny_standAt (wpAny_holding ?_))
  refine wpAny_mono h (fun c s' hs => ?_) fun _ _ z => z
  refine wpAny_bind (wpAny_pure ?_)
  refine wpAny_bind (wpAny_standAt (wpAny_bind (wpAny_bindName (wpAny_mono hs (fun _ _ z => wpAny_pure z) fun _ _ z => z))))
end
end Mine
end

-- part P5
section
open PySem PySem.W PySem.W.X PySem.Calls PyProof.Rows
set_option maxRecDepth 100000
set_option maxHeartbeats 4000000
namespace Mine
theorem TabGood.keeps {h h' : Heap} {P : Addr} {S : List (Pos × Str)} (x : TabGood h P S) (k : ∀ b o, h.get? b = some o → h'.get? b = some o) : TabGood h' P S :=
  (by obtain ⟨ps, e, ok, g⟩ := x; exact ⟨ps, k _ _ e, ok, fun y hy cv q => (g y hy cv q).keeps k⟩)
theorem ClsTab.keeps {h h' : Heap} {lo c P : Addr} {pos : Pos} {qual : Str} {S : List (Pos × Str)} (x : ClsTab h lo c P pos qual S) (k : ∀ b o, h.get? b = some o → h'.get? b = some o) : ClsTab h' lo c P pos qual S :=
  by
  obtain ⟨C, ps, e, ok, g⟩ := x
  exact ⟨C.keeps k, ps, k _ _ e, ok, fun cv q => (by obtain ⟨c', P', e1, e2, e3, e4, e5, e6⟩ := g cv q; exact ⟨c', P', e1, e2, e3, e4.keeps k, e5.keeps k, e6.keeps k⟩)⟩
theorem GK.keeps {h h' : Heap} {mg mb : Str → Option Value} (x : GK h mg mb) (k : ∀ b o, h.get? b = some o → h'.get? b = some o) : GK h' mg mb :=
  ⟨x.g.keeps k, x.b.keeps k, x.lim.keeps k, x.ob, x.bob, x.bc, (by obtain ⟨bm, o, a1, a2, a3, a4, r⟩ := x.bs; exact ⟨bm, o, a1, a2, a3, k _ _ a4, r⟩), x.nm⟩
/-- what a class body has made -/
noncomputable def MethIn (L : List (Addr × Obj)) (R : List (Value × Str)) (f : Addr) (op : CmpOp) (cc : Addr) : Prop :=
  ∃ z : MeP, (f, (⟨.type "function", none, .func (mFd z op cc), #[]⟩ : Obj)) ∈ L ∧ (z.cd, z.q) ∈ R
noncomputable def InitIn (L : List (Addr × Obj)) (R : List (Value × Str)) (f : Addr) : Prop :=
  ∃ nm q q1 q2 p1 p2 p3 p4 pm cd ct doc, (f, (⟨.type "function", none, .func (iFd nm q q1 q2 p1 p2 p3 p4 pm cd ct doc), #[]⟩ : Obj)) ∈ L ∧ (cd, q) ∈ R
noncomputable abbrev bEs (e : Nat → Int) (t : Nat → Tok) (mo fl q : Value) (sl fi flt fgt feq fle fge : Addr) : List (Str × Int × Tok × Value) :=
  [("__module__", e 0, t 0, mo), ("__qualname__", e 13, t 13, q), ("__firstlineno__", e 1, t 1, fl), ("__slots__", e 2, t 2, .ref sl), ("__init__", e 3, t 3, .ref fi), ("__lt__", e 4, t 4, .ref flt), ("__gt__", e 5, t 5, .ref fgt), ("__eq__", e 6, t 6, .ref feq),
   ("__le__", e 7, t 7, .ref fle), ("__ge__", e 8, t 8, .ref fge), ("__hash__", e 9, t 9, .none)]
structure BodyEnd (K : Addr → Obj → Prop) (h : Heap) (N P : Addr) (S : List (Pos × Str)) (cc : Addr) (qual : Str) : Prop where
  all : ∃ e t mn tm ln tf tq sl fi flt fgt feq fle fge ep L R ts, CB K h N P (dO (bEs e t (.str mn tm) (.int ln tf) (.str qual tq) sl fi flt fgt feq fle fge) ep) S L R ∧
    (sl, (⟨.type "list", none, .seq #[.str "obj" ts] 0, #[]⟩ : Obj)) ∈ L ∧ InitIn L R fi ∧ MethIn L R flt .Lt cc ∧ MethIn L R fgt .Gt cc ∧ MethIn L R feq .Eq cc ∧ MethIn L R fle .LtE cc ∧ MethIn L R fge .GtE cc
noncomputable abbrev cEnv (scope : Scope) (N : Addr) (qual : Str) (c' : Addr) (fr : Addr) (clos : List (Str × Addr)) : Env :=
  { scope, locals := N, globals := mainGlobals, qual := qual ++ ".", code := .ref c', frame := some fr, builtins := builtinsNs, cells := clos }
noncomputable abbrev kScope : Scope := { kind := .class, names := [("__module__", .local), ("__slots__", .local), ("__init__", .local), ("__lt__", .local), ("__gt__", .local), ("__eq__", .local), ("__le__", .local), ("__ge__", .local), ("__hash__", .local), ("mycmp", .free)], isGenerator := false, isCoroutine := false, more := [] }
/-- a key class newly made over the comparison in the cell cc -/
structure MadeK (h h' : Heap) (lo c P : Addr) (pos : Pos) (S : List (Pos × Str)) (cc : Addr) (a : KA) : Prop where
  keep : ∀ b o, h.get? b = some o → b ≠ P → (¬ IsTab o ∨ b < lo) → h'.get? b = some o
  cls : KAt h' a
  init : InitAt h' a.fi
  meth : ∀ op ∈ cmps, MethAt h' (a.fn op) op cc
  tab : ClsTab h' lo c P pos "cmp_to_key.<locals>.K" S
  new : ∀ o, h.get? a.N = some o → a.N = P ∨ IsTab o
section
variable {prog : Program} {w : World} {A : Around} {E : Value → Shared → Prop} {mg mb : Str → Option Value} {env : Env} {h : Heap} {g : Array GenState} {d : Drawn} {tk : Nat} {os : OsState}
theorem build_cls {body : List Stmt} {fl : Nat} {pos : Pos} {lo c P cc : Addr} {S : List (Pos × Str)} {clos : List (Str × Addr)} {Q : Value → Shared → Prop} (G : GK h mg mb) (hg : env.globals = mainGlobals) (hb : env.builtins = builtinsNs)
    (hc : env.code = .ref c) (T : ClsTab h lo c P pos "cmp_to_key.<locals>.K" S) (hlo : ∃ b o, lo ≤ b + 1 ∧ h.get? b = some o) (hPlo : P < lo) (hcl : closureFor kScope env = pure clos) (hgP : mainGlobals ≠ P) (hbP : builtinsNs ≠ P) (hsP : cStatics ≠ P)
    (hd : A.depth ≤ 800) (hu : A.units ≤ 4000)
    (hload : ∀ N c' fr, loadName (cEnv kScope N "cmp_to_key.<locals>.K" c' fr clos) "__name__" = (localGet (cEnv kScope N "cmp_to_key.<locals>.K" c' fr clos) "__name__" >>= fun r => match r with | some v => pure v | none => loadGlobal (cEnv kScope N "cmp_to_key.<locals>.K" c' fr clos) "__name__"))
    (hst : ∀ N c' fr v, ∀ name ∈ (["__module__", "__qualname__", "__firstlineno__", "__static_attributes__"] : List Str), storeName (cEnv kScope N "cmp_to_key.<locals>.K" c' fr clos) name v = localSet (cEnv kScope N "cmp_to_key.<locals>.K" c' fr clos) name v)
    (hstat : ∃ oc ocd eps ssl, h.get? cStatics = some ⟨oc, ocd, .dict #[] eps, ssl⟩)
    (hann : hasAnns body = false) (hdoc : docOf body = none)
    (hbody : ∀ (K : Addr → Obj → Prop) N P' c' fr h' tk' e0 e13 e1 t0 t13 t1 mn tm ln tf tq, CB K h' N P' (dO [("__module__", e0, t0, .str mn tm), ("__qualname__", e13, t13, .str "cmp_to_key.<locals>.K" tq), ("__firstlineno__", e1, t1, .int ln tf)] 3) S [] [] → mainGlobals ≠ P' →
      (∀ h', (∀ b o, K b o → h'.get? b = some o) → h'.Ns mainGlobals mg ∧ CodeHd h' c' P' ∧ h'.BuiltinsAt mg P') →
      wpAny (model prog w) (A.deeper (cEnv kScope N "cmp_to_key.<locals>.K" c' fr clos)) (execs body (cEnv kScope N "cmp_to_key.<locals>.K" c' fr clos)) (fun _ s' => ∃ h'' tk'', s' = ⟨h'', g, d, tk'', os⟩ ∧ BodyEnd K h'' N P' S cc "cmp_to_key.<locals>.K") (fun _ _ => False) ⟨h', g, d, tk', os⟩)
    (hq : ∀ a h' tk', MadeK h h' lo c P pos S cc a → Q (.ref a.C) ⟨h', g, d, tk', os⟩) :
    wpAny (model prog w) A (buildClass "K" "cmp_to_key.<locals>.K" [.type "object"] [] body kScope ["obj"] fl env pos none) Q E ⟨h, g, d, tk, os⟩ := by
  refine w_sk 60 ?_
  refine t_new ⟨.type "tuple", none, .seq #[.type "object"] 0, #[]⟩ (by kernel_rfl) (by kernel_rfl) rfl fun bt h1 k1 hbt hbtn => ?_
  refine t_tok (by kernel_rfl) fun x1 tk1 => ?_
  refine t_tok (by kernel_rfl) fun x2 tk2 => ?_
  refine w_code (c := .call (.builtin "type.__getattribute__") ⟨[.type "type", .str "__prepare__" x2], []⟩) (by kernel_rfl) ?_
  refine wpAny_mono (wpAny_wide (by omega) (by omega) prep_ga0) ?_ fun _ _ z => z.elim
  rintro _ _ ⟨pf, h2, rfl, rfl, k2, hpf⟩
  refine w_code (c := .call (.ref pf) ⟨[.str "K" x1, .ref bt], []⟩) (by kernel_rfl) ?_
  refine wpAny_mono (wpAny_wide (by omega) (by omega) (prep_call0 hpf)) ?_ fun _ _ z => z.elim
  rintro v s' ⟨⟨N, h3, rfl, rfl, k3, hN⟩, nN⟩
  obtain ⟨nN, lN⟩ := nN N rfl
  have hN1 : 1 < N := by
    obtain ⟨og, _, _, hgo, _⟩ := G.g
    have l3 : 3 < h2.objs.size := Heap.lt_size (k2 _ _ (k1 _ _ hgo))
    exact Nat.lt_of_lt_of_le (Nat.lt_trans (by decide) l3) lN
  obtain ⟨n0, rfl⟩ : ∃ n0, N = Nat.succ (Nat.succ n0) := ⟨N - 2, (Nat.sub_add_cancel hN1).symm⟩
  refine w_load0 (a := Nat.succ (Nat.succ n0)) (by kernel_rfl) hN ?_
  with_unfolding_all conv => arg 3; whnf
  refine wpAny_keep ?_
  with_unfolding_all conv => arg 3; whnf
  refine wpAny_keep ?_
  with_unfolding_all conv => arg 3; whnf
  dsimp only [Option.map, Option.toList, List.filter, List.nil_append]
  generalize hNn : Nat.succ (Nat.succ n0) = N at *
  clear hNn
  have kk : ∀ b o, h.get? b = some o → h3.get? b = some o := fun b o e => k3 _ _ (k2 _ _ (k1 _ _ e))
  have hlo3 : lo ≤ h3.objs.size := (by obtain ⟨b, o, e1, e2⟩ := hlo; exact Nat.le_trans e1 (Heap.lt_size (kk _ _ e2)))
  refine wpAny_bind (class_code (s := ⟨h3, g, d, _, os⟩) hc (T.keeps kk) hlo3 fun c' P' h4 tk4 ps x4 CP hP hok hps lP nPP C' rc tg => ?_)
  have G3 := G.keeps kk
  have nNh : h.get? N = none := by
    cases q : h.get? N with
    | none => rfl
    | some o => rw [k2 _ _ (k1 _ _ q)] at nN; cases nN
  have hNP : N ≠ P := fun q => by obtain ⟨_, ps0, e, _⟩ := T; rw [← q, nNh] at e; cases e
  have keep4 : ∀ b o, h.get? b = some o → b ≠ P → h4.get? b = some o := fun b o e q => x4 b o q (kk b o e)
  have g4 : h4.Ns mainGlobals mg := G3.g.extBut x4 hgP
  obtain ⟨bm, ob, hbm, hne0, hneG, hbo, hcls, hdict, hdata⟩ := G3.bs
  have hneP : bm ≠ P := fun q => by obtain ⟨_, ps0, e, _⟩ := T; rw [q, kk _ _ e] at hbo; cases hbo; cases hcls
  obtain ⟨nmm, tnm, hnm⟩ := G.nm
  rw [hg, hb]
  refine wpAny_bind (wpAny_builtinsFor g4 hbm hne0 (x4 _ _ hneP hbo) hcls hdict hdata ?_)
  refine wpAny_bind ?_
  unfold newBodyFrame
  refine wpAny_bind (wpAny_nsGet g4 ?_)
  refine alloc_new rfl fun fr h5 k5 hfr _ => ?_
  refine wpAny_bind (wpAny_of_eq hcl ?_)
  refine wpAny_holding ?_
  have lim4 : h4.NoLimit := (by obtain ⟨mc, a, b⟩ := G3.lim; exact ⟨mc, a.extBut x4 hsP, b⟩)
  refine wpAny_bind (wpAny_enterFrame (lim4.keeps k5) (by have : recursionLimit = 1000 := rfl; omega) ?_)
  have hNP' : N ≠ P' := fun q => by
    obtain ⟨pst, et, _⟩ := tg
    rw [← q, x4 _ _ hNP hN] at et; cases et
  have B : CB (fun b o => h5.get? b = some o ∧ b ≠ N ∧ b ≠ P') h5 N P' (dO [] 0) S [] [] := by
    obtain ⟨pst, et, ot, gt⟩ := tg.keeps k5
    exact ⟨⟨pst, ⟨fun b o q => q.1, k5 _ _ (x4 _ _ hNP hN), et, fun o q => q.2.1 rfl, fun o q => q.2.2 rfl, hNP'⟩, ot, gt⟩, ⟨_, _, rfl⟩, fun x hx => (nomatch hx), fun x hx => (nomatch hx)⟩
  have hnm4 : h5.Ns mainGlobals mg := g4.keeps k5
  refine wpAny_bind (wpAny_onRaise ?_)
  show wpAny _ _ (loadName (cEnv kScope N "cmp_to_key.<locals>.K" c' fr clos) "__name__" >>= _) _ _ _
  rw [hload]
  refine wpAny_bind ?_
  refine wpAny_bind ?_
  unfold localGet
  refine wpAny_bind (wpAny_load' (k5 _ _ (x4 _ _ hNP hN)) ?_)
  rw [if_pos (by decide)]
  refine ns_get (k5 _ _ (x4 _ _ hNP hN)) (r := none) rfl ?_
  dsimp only
  refine loadGlobal_global (env := cEnv kScope N "cmp_to_key.<locals>.K" c' fr clos) hnm4 hnm ?_
  refine wpAny_bind (B.put (hst _ _ _ _ _ (by simp)) rfl (by kernel_rfl) (fun _ _ => by kernel_rfl) fun h6 e0 t0 B => ?_)
  refine wpAny_bind (wpAny_mkText (wpAny_bind ?_))
  refine B.put (hst _ _ _ _ _ (by simp)) rfl (by kernel_rfl) (fun _ _ => by kernel_rfl) fun h7 e13 t13 B => ?_
  refine wpAny_bind (wpAny_mkInt (wpAny_bind ?_))
  refine B.put (hst _ _ _ _ _ (by simp)) rfl (by kernel_rfl) (fun _ _ => by kernel_rfl) fun h8 e1 t1 B => ?_
  refine wpAny_pure ?_
  have hN5 := k5 _ _ (x4 _ _ hNP hN)
  have hgN : mainGlobals ≠ N := fun q => by obtain ⟨o, es, ep, e, r⟩ := G.g; rw [q, nNh] at e; cases e
  have hbo5 := k5 _ _ (x4 _ _ hneP hbo)
  have tg5 := tg.keeps k5
  have hbmN : bm ≠ N := fun q => by rw [q, hN5] at hbo5; cases hbo5; exact absurd (Value.type.inj hcls) (by decide)
  have hbmP' : bm ≠ P' := fun q => by obtain ⟨_, e, _⟩ := tg5; rw [q, e] at hbo5; cases hbo5; cases hcls
  have hgP' : mainGlobals ≠ P' := fun q => by obtain ⟨_, e, _⟩ := tg5; obtain ⟨o, es, ep, e', hdt, r⟩ := hnm4; rw [q, e] at e'; cases e'; cases hdt
  refine wpAny_bind (wpAny_run (codeAny_body hann hdoc ?_))
  have hK : ∀ h', (∀ b o, (h5.get? b = some o ∧ b ≠ N ∧ b ≠ P') → h'.get? b = some o) → h'.Ns mainGlobals mg ∧ CodeHd h' c' P' ∧ h'.BuiltinsAt mg P' := by
    intro h' kp
    refine ⟨?_, ?_, ?_⟩
    · obtain ⟨o, es, ep, e, r⟩ := hnm4
      exact ⟨o, es, ep, kp _ _ ⟨e, hgN, hgP'⟩, r⟩
    · obtain ⟨o2, vs2, a3, a4, a5, a6, a7, a8, a9, b1, b2, b3, b4, b5, b6, b7, b8, b9, b10⟩ := C'.keeps k5
      exact ⟨o2, vs2, a3, a4, a5, a6, a7, a8, a9, kp _ _ ⟨b1, fun q => (by rw [q, hN5] at b1; cases b1; exact absurd (Value.type.inj b2) (by decide)), b10⟩, b2, b3, b4, b5, b6, b7, b8, b9, b10⟩
    · exact ⟨bm, ob, hbm, hne0, hneG, hbmP', kp _ _ ⟨hbo5, hbmN, hbmP'⟩, hcls, hdict, hdata⟩
  refine wpAny_mono (hbody _ N P' c' fr h8 _ e0 e13 e1 t0 t13 t1 _ _ _ _ _ B hgP' hK) ?_ fun _ _ z => z.elim
  rintro f s' ⟨h9, tk9, rfl, ⟨e, t, mn, tm, ln, tf, tq, sl, fi, flt, fgt, feq, fle, fge, ep, L, R, ts, B, hsl, hfi, hlt, hgt, heq, hle, hge⟩⟩
  refine wpAny_bind (wpAny_onRaise ?_)
  repeat (first
    | with_reducible (first | refine wpAny_pure ?_ | refine wpAny_bind ?_ | refine wpAny_holding ?_ | refine wpAny_fresh' ?_)
    | wp_delta
    | with_reducible_and_instances refine wpAny_pure ?_
    | with_reducible_and_instances refine wpAny_bind ?_
    | dsimp only)
  refine B.alloc (g := g) (d := d) (os := os) rfl fun sa h10 B nsa => ?_
  repeat ((fail_if_success (with_reducible show wpAny _ _ (storeName _ _ _) _ _ _)); first
    | with_reducible (first | refine wpAny_pure ?_ | refine wpAny_bind ?_ | refine wpAny_holding ?_ | refine wpAny_fresh' ?_)
    | wp_delta
    | with_reducible_and_instances refine wpAny_pure ?_
    | with_reducible_and_instances refine wpAny_bind ?_
    | dsimp only)
  refine B.put (env := cEnv kScope N "cmp_to_key.<locals>.K" c' fr clos) (hst _ _ _ _ "__static_attributes__" (by simp)) rfl (by kernel_rfl) (fun _ _ => by kernel_rfl) fun h11 e10 t10 B => ?_
  refine wpAny_pure ?_
  refine wpAny_ite_false rfl ?_
  refine wpAny_bind ?_
  show wpAny _ _ (call (.type "type") [.str "K" _, .ref bt, .ref N]) _ _ _
  obtain ⟨ps', I, ok', good'⟩ := id B.tab
  have up : ∀ b o, h4.get? b = some o → b ≠ N → b ≠ P' → h11.get? b = some o := fun b o e n1 n2 => I.keep _ _ ⟨k5 _ _ e, n1, n2⟩
  have nbtP : bt ≠ P := fun q => by obtain ⟨_, ps0, e, _⟩ := T; rw [← q] at e; rw [e] at hbtn; cases hbtn
  have hbt4 := x4 _ _ nbtP (k3 _ _ (k2 _ _ hbt))
  obtain ⟨oc, ocd, eps, ssl, hstat⟩ := hstat
  have hst4 := x4 _ _ hsP (kk _ _ hstat)
  have notT : ∀ {b : Addr} {o : Obj}, h4.get? b = some o → ¬ IsTab o → b ≠ P' := fun {b o} e n q => by
    obtain ⟨pst, et, ot, _⟩ := tg
    rw [q, et] at e; cases e
    exact n ⟨pst, ot, rfl⟩
  have hN4 := x4 _ _ hNP hN
  have ob : ∀ x ∈ L, h11.get? x.1 = some x.2 := fun x hx => (B.objs x (.tail _ hx)).1
  have fnObj : ∀ {f : Addr} {op : CmpOp}, MethIn L R f op cc → ∃ o, h11.get? f = some o ∧ o.cls = .type "function" := by
    rintro f op ⟨z, m1, m2⟩
    exact ⟨_, ob _ m1, rfl⟩
  have fiObj : ∃ o, h11.get? fi = some o ∧ o.cls = .type "function" := by
    obtain ⟨nm, q, q1, q2, p1, p2, p3, p4, pm, cd, ct, doc, m1, m2⟩ := hfi
    exact ⟨_, ob _ m1, rfl⟩
  refine type_call (e := fun n => if n = 10 then e10 else e n) (t := fun n => if n = 10 then t10 else t n) (mn := mn) (ln := ln) (tm := tm) (tf := tf) (tq := tq) (ts := ts) (n1 := 0) (n2 := 0) (sl := sl) (fi := fi) (flt := flt) (fgt := fgt) (feq := feq) (fle := fle) (fge := fge) (sa := sa)
    (oc := oc) (ocd := ocd) (eps := eps) (ssl := ssl) hN1 I.n (up _ _ hbt4 (fun q => by rw [q, hN4] at hbt4; exact absurd (Value.type.inj (congrArg Obj.cls (Option.some.inj hbt4))) (by decide)) (notT hbt4 fun z => by cases z.cls)) (ob _ hsl) ⟨_, (B.objs _ (.head _)).1, rfl⟩ ?_ (up _ _ hst4 (fun q => by rw [← q, hstat] at nNh; cases nNh) (notT hst4 fun z => by obtain ⟨_, q⟩ := z.data; cases q)) (by omega) (by omega) ?_
  · intro f hf
    simp only [List.mem_cons, List.not_mem_nil, or_false] at hf
    rcases hf with rfl | rfl | rfl | rfl | rfl | rfl
    · exact fiObj
    · exact fnObj hlt
    · exact fnObj hgt
    · exact fnObj heq
    · exact fnObj hle
    · exact fnObj hge
  rintro C h12 tk12 ⟨N', md, k0', k2', k3', ee, tt, mo, flv, tn, k12, hC, hN', hmd, hCn, hNn⟩
  refine wpAny_pure (hq ⟨C, N', md, sl, sa, fi, fun op => match op with | .Lt => flt | .Gt => fgt | .Eq => feq | .LtE => fle | .GtE => fge | _ => 0⟩ h12 tk12 ⟨?_, ?_, ?_, ?_, ?_, ?_⟩)
  · intro b o e nP hor
    have e4 := keep4 b o e nP
    refine k12 _ _ (up _ _ e4 (fun q => by rw [← q, e] at nNh; cases nNh) fun q => ?_)
    rcases hor with n | n
    · exact notT e4 n q
    · rw [q] at n; exact absurd lP (Nat.not_le_of_gt n)
  · refine ⟨⟨_, _, _, _, _, _, hC⟩, ⟨_, _, _, _, _, hN'⟩, ⟨_, hmd⟩, ?_, ?_, ⟨oc, ocd, eps, ssl, k12 _ _ (up _ _ hst4 (fun q => by rw [← q, hstat] at nNh; cases nNh) (notT hst4 fun z => by obtain ⟨_, q⟩ := z.data; cases q))⟩⟩
    · obtain ⟨nm, q, q1, q2, p1, p2, p3, p4, pm, cd, ct, doc, m1, m2⟩ := hfi
      exact ⟨_, _, _, k12 _ _ (ob _ m1)⟩
    · have mk : ∀ {f : Addr} {op : CmpOp}, MethIn L R f op cc → ∃ od fd sl, h12.get? f = some ⟨.type "function", od, .func fd, sl⟩ := by
        rintro f op ⟨z, m1, m2⟩
        exact ⟨_, _, _, k12 _ _ (ob _ m1)⟩
      intro op ho
      simp only [List.mem_cons, List.not_mem_nil, or_false] at ho
      rcases ho with rfl | rfl | rfl | rfl | rfl
      · exact mk hlt
      · exact mk hgt
      · exact mk heq
      · exact mk hle
      · exact mk hge
  · obtain ⟨nm, q, q1, q2, p1, p2, p3, p4, pm, cd, ct, doc, m1, m2⟩ := hfi
    exact ⟨nm, q, q1, q2, p1, p2, p3, p4, pm, cd, ct, doc, _, _, k12 _ _ (ob _ m1), (B.recs _ m2).keeps k12⟩
  · have mk : ∀ {f : Addr} {op : CmpOp}, MethIn L R f op cc → MethAt h12 f op cc := by
      rintro f op ⟨z, m1, m2⟩
      exact ⟨z, _, _, k12 _ _ (ob _ m1), (B.recs _ m2).keeps k12⟩
    intro op ho
    simp only [List.mem_cons, List.not_mem_nil, or_false] at ho
    rcases ho with rfl | rfl | rfl | rfl | rfl
    · exact mk hlt
    · exact mk hgt
    · exact mk heq
    · exact mk hle
    · exact mk hge
  · have hcd : ∀ {c₀ P₀ : Addr}, CodeHd h4 c₀ P₀ → CodeHd h12 c₀ P₀ := by
      rintro c₀ P₀ ⟨o2, vs2, a3, a4, a5, a6, a7, a8, a9, b1, b2, r⟩
      exact ⟨o2, vs2, a3, a4, a5, a6, a7, a8, a9, k12 _ _ (up _ _ b1 (fun q => by rw [q, hN4] at b1; cases b1; exact absurd (Value.type.inj b2) (by decide)) (notT b1 fun z => by have := z.cls; rw [b2] at this; cases this)), b2, r⟩
    have hNP4 : P ≠ N := Ne.symm hNP
    refine ⟨hcd CP, ps, k12 _ _ (up _ _ hP hNP4 (Ne.symm nPP)), hok, fun cv e => ?_⟩
    rw [hps] at e
    cases e
    refine ⟨c', P', rfl, lP, nPP, hcd C', ?_, ps', k12 _ _ I.c, ok', fun x hx cv e => (good' x hx cv e).keeps k12⟩
    exact ((B.code (h' := h11) (fun _ _ _ _ e => e) (by
      obtain ⟨c₁, o, vs, tt, e1, e2, e3, e4⟩ := rc
      refine ⟨c₁, o, vs, tt, e1, up _ _ e2 (fun q => ?_) (fun q => ?_), e3, e4⟩
      · rw [q, hN4] at e2; cases e2; cases e3
      · cases e1
        obtain ⟨_, _, _, _, _, _, _, _, _, _, _, _, _, _, _, _, _, _, hne⟩ := C'
        exact hne q)) : h11.CodeRec (.ref c') _).keeps k12
  · intro o e
    by_cases q : N' = P
    · exact .inl q
    · refine .inr (Classical.byContradiction fun n => ?_)
      have e4 := keep4 N' o e q
      rw [up _ _ e4 (fun q => by rw [← q, e] at nNh; cases nNh) (notT e4 n)] at hNn
      cases hNn
end
end Mine
end

-- part P6
section
open PySem PySem.W PySem.W.X PySem.Calls PyProof.Rows
set_option maxRecDepth 100000
set_option maxHeartbeats 4000000
namespace Mine
section
variable {M : Model} {A : Around} {E : Value → Shared → Prop} {K : Addr → Obj → Prop} {h h' : Heap} {N P : Addr} {oN oN' : Obj} {S : List (Pos × Str)} {L : List (Addr × Obj)} {R : List (Value × Str)} {g : Array GenState} {d : Drawn} {t : Nat} {os : OsState}
theorem CB.pushed {o : Obj} (B : CB K h N P oN S L R) (hf : o.isFreed = false) : CB K (h.push o) N P oN S ((h.objs.size, o) :: L) R := by
  have B' := B.same (h' := h.push o) fun b o e => Heap.get?_push_of_some _ e
  obtain ⟨ps, I, _, _⟩ := B.tab
  have n : h.get? h.objs.size = none := Heap.get?_none_of_le (Nat.le_refl _)
  refine ⟨B'.tab, B'.dict, fun x hx => ?_, B'.recs⟩
  rcases List.mem_cons.mp hx with rfl | hx
  · exact ⟨Heap.get?_push_size _ hf, fun q => (by dsimp only at q; rw [q, I.n] at n; cases n), fun q => (by dsimp only at q; rw [q, I.c] at n; cases n)⟩
  · exact B'.objs x hx
/-- a def in the class body -/
theorem CB.defStmt {name qual : Str} {params : Arguments} {body : List Stmt} {scope : Scope} {env : Env} {c : Addr} {pos : Pos} {mg : Str → Option Value} {clos : List (Str × Addr)} {Q : Flow → Shared → Prop} {l : List (Str × Int × Tok × Value)} {ep : Nat}
    (B : CB K h N P (dO l ep) S L R) (hd0 : params.defaults = []) (hk0 : params.kw_defaults = []) (ha : annTrees params none env = []) (hqn : qualnameIn env name name = qual)
    (hcl : closureFor scope env = pure clos) (hge0 : env.globals = mainGlobals) (hcode : env.code = .ref c) (hgP : mainGlobals ≠ P)
    (hK : ∀ h', (∀ b o, K b o → h'.get? b = some o) → h'.Ns mainGlobals mg ∧ CodeHd h' c P ∧ h'.BuiltinsAt mg P)
    (hS : (pos, qual) ∈ S) (hSS : ∀ x ∈ S, pos.line = x.1.line → pos.col = x.1.col → x.2 = qual)
    (hs : ∀ v, storeName env name v = localSet env name v) (hl : env.locals = N)
    (hr : aRefKeyMayBeTheName name (dE l).toArray = false) (e : ∀ eh tk v, Obj.putName name eh (.str name tk) v (dO l ep) = dO (l ++ [(name, eh, tk, v)]) (ep + 1))
    (hq : ∀ f cv ctv doc h' tk eh tk', CB K h' N P (dO (l ++ [(name, eh, tk', .ref f)]) (ep + 1)) S ((f, ⟨.type "function", none, .func (fnX name qual params body scope clos .none .none doc ((mg "__name__").getD .none) none cv ctv), #[]⟩) :: L) ((cv, qual) :: R) → Q .next ⟨h', g, d, tk, os⟩) :
    wpAny M A (exec (.FunctionDef name params body [] none [] scope none name pos) env) Q E ⟨h, g, d, t, os⟩ := by
  refine nestDef_K hd0 hk0 ha ?_
  rw [hqn]
  refine B.fn hcl hge0 hcode hgP hK hS hSS fun f cv ctv doc h' tk B => ?_
  exact B.put (hs _) hl hr (fun _ _ => e _ _ _) fun h'' eh tk' B => hq f cv ctv doc h'' _ eh tk' B
end

noncomputable abbrev mDef (nm : Str) (op : CmpOp) (q1 q2 p1 p2 p3 p4 p5 p6 p7 p8 p9 pos : Pos) : Stmt :=
  .FunctionDef nm { posonlyargs := [], args := [⟨"self", none, q1⟩, ⟨"other", none, q2⟩], vararg := none, kwonlyargs := [], kw_defaults := [], kwarg := none, defaults := [] }
    [.Return (some (.Compare (.Call (.Name "mycmp" p1) [.Attribute (.Name "self" p2) "obj" p3, .Attribute (.Name "other" p4) "obj" p5] [] p6) [op] [.Constant (.int 0) 0 p7] p8)) p9] [] none [] mScope none nm pos
noncomputable abbrev iDef (q1 q2 p1 p2 p3 p4 pos : Pos) : Stmt :=
  .FunctionDef "__init__" { posonlyargs := [], args := [⟨"self", none, q1⟩, ⟨"obj", none, q2⟩], vararg := none, kwonlyargs := [], kw_defaults := [], kwarg := none, defaults := [] }
    [.Assign [.Attribute (.Name "self" p1) "obj" p2] (.Name "obj" p3) p4] [] none [] iScope none "__init__" pos
section
variable {M : Model} {A : Around} {E : Value → Shared → Prop} {K : Addr → Obj → Prop} {h : Heap} {N P c cc : Addr} {S : List (Pos × Str)} {g : Array GenState} {d : Drawn} {t : Nat} {os : OsState} {mg : Str → Option Value} {env : Env} {qual : Str}
theorem body_walk {qalt qblt p1lt p2lt p3lt p4lt p5lt p6lt p7lt p8lt p9lt pslt qagt qbgt p1gt p2gt p3gt p4gt p5gt p6gt p7gt p8gt p9gt psgt qaeq qbeq p1eq p2eq p3eq p4eq p5eq p6eq p7eq p8eq p9eq pseq qale qble p1le p2le p3le p4le p5le p6le p7le p8le p9le psle qage qbge p1ge p2ge p3ge p4ge p5ge p6ge p7ge p8ge p9ge psge qai qbi p1i p2i p3i p4i psi pm1 pm2 pm3 ps1 ps2 ps3 ps4 ph1 ph2 ph3 : Pos} {mo : Str} {e0 e13 e1 : Int} {t0 t13 t1 tm tf tq : Tok} {mn : Str} {ln : Int} {kq : Str → Str}
    (B : CB K h N P (dO [("__module__", e0, t0, .str mn tm), ("__qualname__", e13, t13, .str qual tq), ("__firstlineno__", e1, t1, .int ln tf)] 3) S [] [])
    (hs : ∀ name ∈ (["__module__", "__slots__", "__init__", "__lt__", "__gt__", "__eq__", "__le__", "__ge__", "__hash__"] : List Str), ∀ v, storeName env name v = localSet env name v)
    (hqn : ∀ name ∈ (["__init__", "__lt__", "__gt__", "__eq__", "__le__", "__ge__"] : List Str), qualnameIn env name name = kq name)
    (hSd : S = [(psi, kq "__init__"), (pslt, kq "__lt__"), (psgt, kq "__gt__"), (pseq, kq "__eq__"), (psle, kq "__le__"), (psge, kq "__ge__")])
    (hSS : ∀ y ∈ S, ∀ x ∈ S, y.1.line = x.1.line → y.1.col = x.1.col → x.2 = y.2)
    (hci : closureFor iScope env = pure []) (hcm : closureFor mScope env = pure ([("mycmp", cc)] : List (Str × Addr))) (hl : env.locals = N) (hge0 : env.globals = mainGlobals) (hcode : env.code = .ref c) (hgP : mainGlobals ≠ P)
    (hK : ∀ h', (∀ b o, K b o → h'.get? b = some o) → h'.Ns mainGlobals mg ∧ CodeHd h' c P ∧ h'.BuiltinsAt mg P) :
    wpAny M A (execs [.Assign [.Name "__module__" pm1] (.Constant (.str mo) 0 pm2) pm3, .Assign [.Name "__slots__" ps1] (.List [.Constant (.str "obj") 0 ps2] ps3) ps4, iDef qai qbi p1i p2i p3i p4i psi,
      mDef "__lt__" .Lt qalt qblt p1lt p2lt p3lt p4lt p5lt p6lt p7lt p8lt p9lt pslt,
      mDef "__gt__" .Gt qagt qbgt p1gt p2gt p3gt p4gt p5gt p6gt p7gt p8gt p9gt psgt,
      mDef "__eq__" .Eq qaeq qbeq p1eq p2eq p3eq p4eq p5eq p6eq p7eq p8eq p9eq pseq,
      mDef "__le__" .LtE qale qble p1le p2le p3le p4le p5le p6le p7le p8le p9le psle,
      mDef "__ge__" .GtE qage qbge p1ge p2ge p3ge p4ge p5ge p6ge p7ge p8ge p9ge psge,
      .Assign [.Name "__hash__" ph1] (.Constant .none 0 ph2) ph3] env) (fun _ s' => ∃ h'' tk'', s' = ⟨h'', g, d, tk'', os⟩ ∧ BodyEnd K h'' N P S cc qual) E ⟨h, g, d, t, os⟩ := by
  refine wpAny_execs_cons (wpAny_Assign_Name (wpAny_Constant_str ?_))
  refine B.store (oN' := fun _ _ => dO [("__module__", e0, t0, .str mo t), ("__qualname__", e13, t13, .str qual tq), ("__firstlineno__", e1, t1, .int ln tf)] 3) (hs _ (by simp) _) hl rfl rfl (by kernel_rfl) (fun _ _ => by kernel_rfl) (fun _ _ => rfl) (fun _ _ => ⟨_, _, rfl⟩) fun h2 _ _ B => ?_
  refine wpAny_execs_cons (wpAny_Assign_Name (wpAny_List (spliced_cons ?_)))
  refine wpAny_Constant_str (k := 0) (pos := ps2) ?_
  refine spliced_nil ⟨by rw [sizeLine_eq]; simp, ?_⟩
  refine (B.pushed (o := { cls := .type "list", data := .seq #[Value.str "obj" _] }) rfl).put (hs _ (by simp) _) hl (by kernel_rfl) (fun _ _ => by kernel_rfl) fun h3 e2 t2 B => ?_
  have m0 : (psi, kq "__init__") ∈ S := hSd ▸ (.head _)
  refine wpAny_execs_cons (B.defStmt rfl rfl rfl (hqn "__init__" (by simp)) (qual := kq "__init__") hci hge0 hcode hgP hK m0 (hSS _ m0) (hs _ (by simp)) hl (by kernel_rfl) (fun _ _ _ => by kernel_rfl) fun fi cv0 ct0 dc0 h4 tk4 e3 t3 B => ?_)
  have m1 : (pslt, kq "__lt__") ∈ S := hSd ▸ (.tail _ (.head _))
  refine wpAny_execs_cons (B.defStmt rfl rfl rfl (hqn "__lt__" (by simp)) (qual := kq "__lt__") hcm hge0 hcode hgP hK m1 (hSS _ m1) (hs _ (by simp)) hl (by kernel_rfl) (fun _ _ _ => by kernel_rfl) fun flt cv1 ct1 dc1 h5 tk5 e4 t4 B => ?_)
  have m2 : (psgt, kq "__gt__") ∈ S := hSd ▸ (.tail _ (.tail _ (.head _)))
  refine wpAny_execs_cons (B.defStmt rfl rfl rfl (hqn "__gt__" (by simp)) (qual := kq "__gt__") hcm hge0 hcode hgP hK m2 (hSS _ m2) (hs _ (by simp)) hl (by kernel_rfl) (fun _ _ _ => by kernel_rfl) fun fgt cv2 ct2 dc2 h6 tk6 e5 t5 B => ?_)
  have m3 : (pseq, kq "__eq__") ∈ S := hSd ▸ (.tail _ (.tail _ (.tail _ (.head _))))
  refine wpAny_execs_cons (B.defStmt rfl rfl rfl (hqn "__eq__" (by simp)) (qual := kq "__eq__") hcm hge0 hcode hgP hK m3 (hSS _ m3) (hs _ (by simp)) hl (by kernel_rfl) (fun _ _ _ => by kernel_rfl) fun feq cv3 ct3 dc3 h7 tk7 e6 t6 B => ?_)
  have m4 : (psle, kq "__le__") ∈ S := hSd ▸ (.tail _ (.tail _ (.tail _ (.tail _ (.head _)))))
  refine wpAny_execs_cons (B.defStmt rfl rfl rfl (hqn "__le__" (by simp)) (qual := kq "__le__") hcm hge0 hcode hgP hK m4 (hSS _ m4) (hs _ (by simp)) hl (by kernel_rfl) (fun _ _ _ => by kernel_rfl) fun fle cv4 ct4 dc4 h8 tk8 e7 t7 B => ?_)
  have m5 : (psge, kq "__ge__") ∈ S := hSd ▸ (.tail _ (.tail _ (.tail _ (.tail _ (.tail _ (.head _))))))
  refine wpAny_execs_cons (B.defStmt rfl rfl rfl (hqn "__ge__" (by simp)) (qual := kq "__ge__") hcm hge0 hcode hgP hK m5 (hSS _ m5) (hs _ (by simp)) hl (by kernel_rfl) (fun _ _ _ => by kernel_rfl) fun fge cv5 ct5 dc5 h9 tk9 e8 t8 B => ?_)
  refine wpAny_execs_cons (wpAny_Assign_Name (wpAny_Constant_none ?_))
  refine B.put (hs _ (by simp) _) hl (by kernel_rfl) (fun _ _ => by kernel_rfl) fun h10 e9 t9 B => wpAny_execs_nil ?_
  refine ⟨h10, _, rfl, ⟨fun n => ([e0, e1, e2, e3, e4, e5, e6, e7, e8, e9, 0, 0, 0, e13] : List Int).getD n 0, fun n => ([t0, t1, t2, t3, t4, t5, t6, t7, t8, t9, 0, 0, 0, t13] : List Tok).getD n 0, _, _, _, _, _, _, fi, flt, fgt, feq, fle, fge, _, _, _, t + 1 + 1, B, ?_, ?_, ?_, ?_, ?_, ?_, ?_⟩⟩
  · exact .tail _ (.tail _ (.tail _ (.tail _ (.tail _ (.tail _ (.head _))))))
  · exact ⟨_, _, _, _, _, _, _, _, _, _, _, _, (.tail _ (.tail _ (.tail _ (.tail _ (.tail _ (.head _)))))), (.tail _ (.tail _ (.tail _ (.tail _ (.tail _ (.head _))))))⟩
  · exact ⟨⟨_, _, _, _, _, _, _, _, _, _, _, _, _, _, _, _, _⟩, (.tail _ (.tail _ (.tail _ (.tail _ (.head _))))), (.tail _ (.tail _ (.tail _ (.tail _ (.head _)))))⟩
  · exact ⟨⟨_, _, _, _, _, _, _, _, _, _, _, _, _, _, _, _, _⟩, (.tail _ (.tail _ (.tail _ (.head _)))), (.tail _ (.tail _ (.tail _ (.head _))))⟩
  · exact ⟨⟨_, _, _, _, _, _, _, _, _, _, _, _, _, _, _, _, _⟩, (.tail _ (.tail _ (.head _))), (.tail _ (.tail _ (.head _)))⟩
  · exact ⟨⟨_, _, _, _, _, _, _, _, _, _, _, _, _, _, _, _, _⟩, (.tail _ (.head _)), (.tail _ (.head _))⟩
  · exact ⟨⟨_, _, _, _, _, _, _, _, _, _, _, _, _, _, _, _, _⟩, (.head _), (.head _)⟩
end
end Mine
end

-- part P7
section
open PySem PySem.W PySem.W.X PySem.Calls PyProof.Rows
set_option maxRecDepth 100000
set_option maxHeartbeats 4000000
namespace Mine
noncomputable abbrev kPos : Pos := ⟨64, 4, 85, 23⟩
noncomputable abbrev kQual : Str := "cmp_to_key.<locals>.K"
noncomputable abbrev kq (n : Str) : Str := kQual ++ "." ++ n
noncomputable abbrev kS : List (Pos × Str) := [(⟨68, 8, 69, 26⟩, kq "__init__"), (⟨71, 8, 72, 49⟩, kq "__lt__"), (⟨74, 8, 75, 49⟩, kq "__gt__"), (⟨77, 8, 78, 50⟩, kq "__eq__"), (⟨80, 8, 81, 50⟩, kq "__le__"), (⟨83, 8, 84, 50⟩, kq "__ge__")]
theorem Ns.via {h h' : Heap} {a : Addr} {m} (x : h.Ns a m) (k : ∀ o, h.get? a = some o → ¬ IsTab o → h'.get? a = some o) : h'.Ns a m :=
  (by obtain ⟨o, es, ep, e, d, r⟩ := x; exact ⟨o, es, ep, k o e (fun z => by obtain ⟨_, q⟩ := z.data; rw [d] at q; cases q), d, r⟩)
/-- the records stay -/
noncomputable def Flds (h h' : Heap) : Prop := ∀ b o vs, o.data = .fields vs → h.get? b = some o → h'.get? b = some o
section
variable {h h' : Heap} (k : Flds h h')
include k
theorem CodeHd.fld {c P : Addr} (x : CodeHd h c P) : CodeHd h' c P := by
  obtain ⟨o2, vs2, a3, a4, a5, a6, a7, a8, a9, b1, b2, b3, r⟩ := x
  exact ⟨o2, vs2, a3, a4, a5, a6, a7, a8, a9, k _ _ _ b3 b1, b2, b3, r⟩
theorem CodeRec.fld {cv : Value} {q : Str} (x : h.CodeRec cv q) : h'.CodeRec cv q := by
  obtain ⟨c, o, vs, tt, e1, e2, e3, e4⟩ := x
  exact ⟨c, o, vs, tt, e1, k _ _ _ e3 e2, e3, e4⟩
theorem TabGood.fld {P : Addr} {S : List (Pos × Str)} (x : TabGood h P S) : TabGood h' P S := by
  obtain ⟨ps, e, ok, g⟩ := x
  exact ⟨ps, k _ _ _ rfl e, ok, fun y hy cv q => CodeRec.fld k (g y hy cv q)⟩
theorem ClsTab.fld {lo c P : Addr} {pos : Pos} {qual : Str} {S : List (Pos × Str)} (x : ClsTab h lo c P pos qual S) : ClsTab h' lo c P pos qual S := by
  obtain ⟨C, ps, e, ok, g⟩ := x
  refine ⟨CodeHd.fld k C, ps, k _ _ _ rfl e, ok, fun cv q => ?_⟩
  obtain ⟨c', P', e1, e2, e3, e4, e5, e6⟩ := g cv q
  exact ⟨c', P', e1, e2, e3, CodeHd.fld k e4, CodeRec.fld k e5, TabGood.fld k e6⟩
end
theorem kS_one : ∀ y ∈ kS, ∀ x ∈ kS, y.1.line = x.1.line → y.1.col = x.1.col → x.2 = y.2 := by
  intro y hy x hx h1 _
  simp only [List.mem_cons, List.not_mem_nil, or_false] at hy hx
  rcases hy with rfl | rfl | rfl | rfl | rfl | rfl <;> rcases hx with rfl | rfl | rfl | rfl | rfl | rfl <;> first | exact absurd h1 (by decide) | rfl
theorem load_name {env : Env} (hk : env.scope.kind = .class) (hn : env.kindOf "__name__" = none) :
    loadName env "__name__" = (localGet env "__name__" >>= fun r => match r with | some v => pure v | none => loadGlobal env "__name__") := by
  have hc : compilersOwnNames.contains ("__name__" : Str) = true := by decide +kernel
  unfold loadName
  simp only [Env.blockKind, hk, hn, ScopeKind.isAnnotationScope, Bool.false_and, Bool.false_eq_true, if_false, hc, Bool.not_true]
  show (pure PUnit.unit >>= fun _ => localGet env "__name__" >>= _) = _
  rw [pure_bind]
  congr 1
  funext r
  cases r <;> rfl
/-- behind a call of cmp_to_key -/
structure MadeC (h h' : Heap) (lo c P cc fa : Addr) (a : KA) : Prop where
  keep : ∀ b o, h.get? b = some o → b ≠ P → (¬ IsTab o ∨ b < lo) → h'.get? b = some o
  key : Key h' a cc fa
  init : InitAt h' a.fi
  tab : ClsTab h' lo c P kPos kQual kS
  newN : ∀ o, h.get? a.N = some o → a.N = P ∨ IsTab o
  newc : h.get? cc = none
section
variable {w : World} {A : Around} {E : Value → Shared → Prop} {s : Shared} {mg mb : Str → Option Value}
theorem cmp_call {fa lo : Addr} {Q : Value → Shared → Prop} (X : (hd.heap_39 w.params).In s.heap) (G : GK s.heap mg mb) (T : ClsTab s.heap lo 104 100 kPos kQual kS) (h132 : 132 ≤ lo) (hlo : ∃ b o, lo ≤ b + 1 ∧ s.heap.get? b = some o) (hfa : ∃ oc od fd sl, s.heap.get? fa = some ⟨oc, od, .func fd, sl⟩) (hd0 : A.depth ≤ 790) (hu : A.units ≤ 3900)
    (hq : ∀ a cc h' tk', MadeC s.heap h' lo 104 100 cc fa a → Q (.ref a.C) { s with heap := h', toks := tk' }) :
    wpAny (model PySem.Challenge.pw_dz0037_02 w) A (call (.ref 105) [.ref fa]) Q E s := by
  have e105 := X 105 _ rfl
  refine wpAny_call (codeAny_call_cells (binds := [("mycmp", .ref fa)]) (by have : recursionLimit = 1000 := rfl; omega) e105 rfl G.lim (codeRec_of X (by rfl)) rfl rfl rfl (fun x hx => ?_) fun s₁ x => ?_)
  · rw [List.mem_singleton] at hx
    subst hx
    exact .inr ⟨by rfl, by rfl⟩
  obtain ⟨⟨⟨h1, tk1, rfl⟩, ns, keep, fresh⟩, cell, apart, above⟩ := x
  refine wpAny_execs_cons (class_stmt (G.keeps keep) rfl rfl rfl rfl ?_)
  have L0 : ∀ n : Nat, n < 132 → n ≠ s.heap.objs.size := fun n hn q => by have := Heap.lt_size (X 131 _ rfl); rw [← q] at this; exact absurd this (Nat.not_lt.mpr (Nat.le_of_lt_succ hn))
  have e131 := keep _ _ (X 131 _ rfl)
  refine build_cls (cc := s.heap.objs.size + 1) (lo := lo) (c := 104) (P := 100) (S := kS) (clos := [("mycmp", s.heap.objs.size + 1)]) (g := s.gens) (d := s.drawn) (os := s.os) (G.keeps keep) rfl rfl rfl (T.keeps keep) ((by obtain ⟨b, o, h1, h2⟩ := hlo; exact ⟨b, o, h1, keep _ _ h2⟩)) (Nat.lt_of_lt_of_le (by decide) h132) rfl (by decide) (by decide) (by decide)
    (by show A.depth + 1 ≤ _; omega) (by show A.units + 3 ≤ _; omega) (fun _ _ _ => load_name rfl rfl) ?st ⟨_, _, _, _, keep _ _ (X 2 _ rfl)⟩ rfl rfl ?body ?q
  case st =>
    intro N c' fr v name hn
    simp only [List.mem_cons, List.not_mem_nil, or_false] at hn
    rcases hn with rfl | rfl | rfl | rfl <;> rfl
  case body =>
    intro K N P' c' fr h' tk' e0 e13 e1 t0 t13 t1 mn tm ln tf tq B hgP' hK
    refine wpAny_mono (body_walk (c := c') (cc := s.heap.objs.size + 1) (kq := kq) B ?_ ?_ rfl kS_one rfl rfl rfl rfl rfl hgP' hK) (fun _ _ z => z) (E := fun _ _ => False) fun _ _ z => z
    · intro name hn v
      simp only [List.mem_cons, List.not_mem_nil, or_false] at hn
      rcases hn with rfl | rfl | rfl | rfl | rfl | rfl | rfl | rfl | rfl <;> rfl
    · intro name hn
      simp only [List.mem_cons, List.not_mem_nil, or_false] at hn
      rcases hn with rfl | rfl | rfl | rfl | rfl | rfl <;> rfl
  case q =>
    intro a h' tk' M
    have hL100 : s.heap.objs.size ≠ 100 := fun q => L0 100 (by decide) q.symm
    have ns' := Ns.via ns (h' := h') fun o e n => M.keep _ _ e hL100 (.inl n)
    refine wpAny_storeName_local rfl ns' (fun h2 ns2 sb => ?_) rfl
    refine wpAny_execs_cons (wpAny_Return_some (wpAny_Name (wpAny_loadName_local rfl rfl ns2 rfl ?_)))
    have hc1 := cell "mycmp" (s.heap.objs.size + 1) rfl
    have hc2 : h'.IsCell (s.heap.objs.size + 1) (some (.ref fa)) := by
      obtain ⟨o, e, d⟩ := hc1
      refine ⟨o, M.keep _ _ e ?_ (.inl fun z => by obtain ⟨_, q⟩ := z.data; rw [d] at q; cases q), d⟩
      exact fun q => L0 99 (by decide) (Nat.succ.inj q).symm
    have hfa' : ∃ oc od fd sl, h'.get? fa = some ⟨oc, od, .func fd, sl⟩ := by
      obtain ⟨oc, od, fd, sl, e⟩ := hfa
      refine ⟨oc, od, fd, sl, M.keep _ _ (keep _ _ e) ?_ (.inl fun z => by obtain ⟨_, q⟩ := z.data; cases q)⟩
      intro q
      obtain ⟨_, ps, e', _⟩ := T
      rw [q, e'] at e; cases e
    have W : WOk [s.heap.objs.size] h' := fun w hw => by
      rw [List.mem_singleton] at hw; subst hw
      obtain ⟨o, es, ep, e, hd, r⟩ := ns'
      exact ⟨o, e, .inl ⟨es, ep, hd⟩⟩
    have F : Ft [s.heap.objs.size] h' h2 := fun b o hb _ e => (sb.2 b (fun q => hb (q ▸ List.mem_singleton.mpr rfl))).trans e
    have hold : ∀ b o, b ≠ s.heap.objs.size → h'.get? b = some o → h2.get? b = some o := fun b o hb e => (sb.2 b hb).trans e
    have aN : a.N ∉ [s.heap.objs.size] := fun q => by
      rw [List.mem_singleton] at q
      obtain ⟨o, es, ep, e, hd, r⟩ := ns
      rcases M.new o (by rw [q]; exact e) with z | z
      · rw [q] at z; exact hL100 z
      · obtain ⟨_, z⟩ := z.data; rw [hd] at z; cases z
    refine hq a (s.heap.objs.size + 1) h2 _ ⟨fun b o e nb nt => hold b o (Nat.ne_of_lt (Heap.lt_size e)) (M.keep b o (keep b o e) nb nt), ?_, InitAt.ft W.toi F M.init, ?_, fun o e => M.new o (keep _ _ e), Heap.get?_none_of_le (Nat.le_succ _)⟩
    · exact Key.ft W.toi F aN (fun q => L0 2 (by decide) (List.mem_singleton.mp q)) (fun q => absurd (List.mem_singleton.mp q) (Nat.succ_ne_self _)) ⟨M.cls, M.meth, hc2, hfa'⟩
    · refine ClsTab.fld (fun b o vs d e => hold b o (fun q => ?_) e) M.tab
      obtain ⟨o', es, ep, e', hd, r⟩ := ns'
      have e'' : h'.get? s.heap.objs.size = some o' := e'
      rw [q, e''] at e; cases e; rw [hd] at d; cases d
end
end Mine
end

-- part P8
section
open PySem PySem.W PySem.W.X PySem.Calls PyProof.Rows
set_option maxRecDepth 100000
set_option maxHeartbeats 4000000
namespace Mine
noncomputable def pick3 (r : Int) (a b c : Addr) : Addr := if r = 0 then a else if r = 1 then b else c
section
variable {prog : Program} {w : World} {A : Around} {E : Value → Shared → Prop} {s : Shared} {env : Env} {m mg : Str → Option Value}
theorem menu_eval {n0 n1 n2 nd : Str} {p0 p1 p2 pl pd pk pf pc pm ps : Pos} {k d : Int} {t : Tok} {f0 f1 f2 : Addr} {Q : Value → Shared → Prop} (hG : s.heap.Ns env.globals mg) (g0 : mg n0 = some (.ref f0)) (g1 : mg n1 = some (.ref f1)) (g2 : mg n2 = some (.ref f2))
    (hk : env.scope.kind = .function) (k0 : env.kindOf n0 = some .globalImplicit) (k1 : env.kindOf n1 = some .globalImplicit) (k2 : env.kindOf n2 = some .globalImplicit) (kd : env.kindOf nd = some .local) (hn : s.heap.Ns env.locals m) (hm : m nd = some (.int d t)) (hk0 : k ≠ 0)
    (hp : ∀ d : Int, Builtin.divisionGoesByPylong d k = false) (b0 : (n0 == ("__debug__" : Str)) = false) (b1 : (n1 == ("__debug__" : Str)) = false) (b2 : (n2 == ("__debug__" : Str)) = false) (bd : (nd == ("__debug__" : Str)) = false)
    (hq : ∀ h' tk, (∀ b o, s.heap.get? b = some o → h'.get? b = some o) → Q (.ref (pick3 ((d.fdiv k).fmod 3) f0 f1 f2)) { s with heap := h', toks := tk }) :
    wpAny (model prog w) A (eval (.Subscript (.List [.Name n0 p0, .Name n1 p1, .Name n2 p2] pl) (.BinOp (.BinOp (.Name nd pd) .FloorDiv (.Constant (.int k) 0 pk) pf) .Mod (.Constant (.int 3) 0 pc) pm) ps) env) Q E s := by
  refine Subscript_ (wpAny_List (spliced_cons ?_))
  refine Name_function_global hk k0 (loadGlobal_global hG g0 (spliced_cons ?_)) b0
  refine Name_function_global hk k1 (loadGlobal_global hG g1 (spliced_cons ?_)) b1
  refine Name_function_global hk k2 (loadGlobal_global hG g2 (spliced_nil ⟨by rw [sizeLine_eq]; simp, ?_⟩)) b2
  have hkp : ∀ b o, s.heap.get? b = some o → (s.heap.push { cls := .type "list", data := .seq [Value.ref f0, Value.ref f1, Value.ref f2].toArray }).get? b = some o := fun b o e => Heap.get?_push_of_some _ e
  refine wpAny_BinOp (wpAny_BinOp (wpAny_Name (wpAny_loadName_local hk kd (hn.keeps hkp) hm (wpAny_Constant_int (floordiv_int hk0 (wpAny_Constant_int (mod_int' (by decide) ?_)) (.inl (hp _))))) bd))
  have hm3 := Int.fmod_eq_emod_of_nonneg (d.fdiv k) (show (0 : Int) ≤ 3 by decide)
  have m0 : 0 ≤ (d.fdiv k).fmod 3 := by omega
  have m5 : (d.fdiv k).fmod 3 < 3 := by omega
  refine list_item (items := #[.ref f0, .ref f1, .ref f2]) ⟨_, Heap.get?_push_size _ rfl, rfl, _, rfl⟩ m0 (by omega) ?_ (by with_unfolding_all rfl) (hq _ _ hkp)
  generalize (d.fdiv k).fmod 3 = r at *
  have : r = 0 ∨ r = 1 ∨ r = 2 := by omega
  rcases this with rfl | rfl | rfl <;> rfl
end
theorem CodeRec.mv {h h' : Heap} {cv : Value} {q : Str} (k : ∀ b o, h.get? b = some o → ¬ IsTab o → h'.get? b = some o) (x : h.CodeRec cv q) : h'.CodeRec cv q := by
  obtain ⟨c, o, vs, tt, e1, e2, e3, e4⟩ := x
  refine ⟨c, o, vs, tt, e1, k _ _ e2 ?_, e3, e4⟩
  rintro ⟨ps, ht, rfl⟩
  have e5 : ps = vs := by injection e3
  subst e5
  rcases ps with ⟨l⟩
  match l, ht, e4 with
  | .int _ _ :: .int _ _ :: _ :: _, _, e4 => cases e4
theorem CodeHd.mv {h h' : Heap} {c P : Addr} (k : ∀ b o, h.get? b = some o → ¬ IsTab o → h'.get? b = some o) (x : CodeHd h c P) : CodeHd h' c P := by
  obtain ⟨o2, vs2, a3, a4, a5, a6, a7, a8, a9, b1, b2, b3, r⟩ := x
  exact ⟨o2, vs2, a3, a4, a5, a6, a7, a8, a9, k _ _ b1 (fun z => by have := z.cls; rw [b2] at this; cases this), b2, b3, r⟩
theorem TabGood.mv {h h' : Heap} {P : Addr} {S : List (Pos × Str)} (k : ∀ b o, h.get? b = some o → (¬ IsTab o ∨ b = P) → h'.get? b = some o) (x : TabGood h P S) : TabGood h' P S := by
  obtain ⟨ps, e, ok, g⟩ := x
  exact ⟨ps, k _ _ e (.inr rfl), ok, fun y hy cv q => CodeRec.mv (fun b o e n => k b o e (.inl n)) (g y hy cv q)⟩
theorem ClsTab.mv {h h' : Heap} {lo c P : Addr} {pos : Pos} {qual : Str} {S : List (Pos × Str)} (k : ∀ b o, h.get? b = some o → (¬ IsTab o ∨ b = P ∨ lo ≤ b) → h'.get? b = some o) (x : ClsTab h lo c P pos qual S) : ClsTab h' lo c P pos qual S := by
  obtain ⟨C, ps, e, ok, g⟩ := x
  have k' : ∀ b o, h.get? b = some o → ¬ IsTab o → h'.get? b = some o := fun b o e n => k b o e (.inl n)
  refine ⟨CodeHd.mv k' C, ps, k _ _ e (.inr (.inl rfl)), ok, fun cv q => ?_⟩
  obtain ⟨c', P', e1, e2, e3, e4, e5, e6⟩ := g cv q
  refine ⟨c', P', e1, e2, e3, CodeHd.mv k' e4, CodeRec.mv k' e5, TabGood.mv (fun b o e n => k b o e ?_) e6⟩
  rcases n with n | rfl
  · exact .inl n
  · exact .inr (.inr e2)
/-- in the middle of _law_layer -/
structure LS (lo : Addr) (lS : List (Pos × Str)) (h₀ h : Heap) (env : Env) (m cm : Str → Option Value) (a : KA) (cc fa : Addr) : Prop where
  fm : Fm h env m cm
  base : ∀ b o, h₀.get? b = some o → b ≠ 100 → (¬ IsTab o ∨ b < lo) → h.get? b = some o
  key : Key h a cc fa
  init : InitAt h a.fi
  tab : ClsTab h lo 104 100 kPos kQual kS
  tabL : TabGood h 114 lS
  nN : a.N ∉ fW env
  nc : cc ∉ fW env
theorem Ex.fld {W : List Addr} {h h' : Heap} (k : Ex W h h') (x : WOk W h) : Flds h h' := fun b o vs d e => k b o (x.off e (by intro _ _ q; rw [d] at q; cases q) (by intro _ q; rw [d] at q; cases q)) e
theorem LS.ex {lo : Addr} {lS : List (Pos × Str)} {h₀ h h' : Heap} {env : Env} {m cm m' cm' : Str → Option Value} {a : KA} {cc fa : Addr} (x : LS lo lS h₀ h env m cm a cc fa) (F : Fm h' env m' cm') (k : Ex (fW env) h h') (hW : ∀ w ∈ fW env, h₀.get? w = none) (hS : cStatics ∉ fW env) : LS lo lS h₀ h' env m' cm' a cc fa :=
  ⟨F, fun b o e n1 n2 => k b o (fun q => by rw [hW b q] at e; cases e) (x.base b o e n1 n2), Key.ft x.fm.wok.toi k.ft x.nN hS x.nc x.key, InitAt.ft x.fm.wok.toi k.ft x.init, ClsTab.fld (k.fld x.fm.wok) x.tab, TabGood.fld (k.fld x.fm.wok) x.tabL, x.nN, x.nc⟩
theorem LS.keeps {lo : Addr} {lS : List (Pos × Str)} {h₀ h h' : Heap} {env : Env} {m cm : Str → Option Value} {a : KA} {cc fa : Addr} (x : LS lo lS h₀ h env m cm a cc fa) (k : ∀ b o, h.get? b = some o → h'.get? b = some o) (hW : ∀ w ∈ fW env, h₀.get? w = none) (hS : cStatics ∉ fW env) : LS lo lS h₀ h' env m cm a cc fa := x.ex (x.fm.keeps k) (Ex.of k) hW hS
end Mine
end

-- part P9
section
open PySem PySem.W PySem.W.X PySem.Calls PyProof.Rows
set_option maxRecDepth 100000
set_option maxHeartbeats 4000000
namespace Mine
noncomputable abbrev lQ : Str := "_law_layer.<locals>." ++ "<lambda>"
noncomputable abbrev lS : List (Pos × Str) := [(⟨101, 15, 101, 75⟩, lQ), (⟨102, 11, 102, 71⟩, lQ)]
noncomputable def moreA (d : Int) : Addr := if d.fmod 2 = 1 then pick3 ((d.fdiv 2).fmod 3) 42 35 70 else pick3 ((d.fdiv 2).fmod 3) 21 56 91
noncomputable def lessA (d : Int) : Addr := if d.fmod 2 = 1 then pick3 ((d.fdiv 6).fmod 3) 84 77 28 else pick3 ((d.fdiv 6).fmod 3) 63 98 49
noncomputable abbrev lP1 : Nat → Pos := fun n => ([⟨101, 28, 101, 32⟩, ⟨101, 33, 101, 37⟩, ⟨101, 38, 101, 39⟩, ⟨101, 33, 101, 40⟩, ⟨101, 42, 101, 46⟩, ⟨101, 47, 101, 48⟩, ⟨101, 42, 101, 49⟩, ⟨101, 28, 101, 50⟩, ⟨101, 53, 101, 57⟩, ⟨101, 58, 101, 62⟩, ⟨101, 63, 101, 64⟩, ⟨101, 58, 101, 65⟩, ⟨101, 67, 101, 71⟩, ⟨101, 72, 101, 73⟩, ⟨101, 67, 101, 74⟩, ⟨101, 53, 101, 75⟩, ⟨101, 28, 101, 75⟩] : List Pos).getD n ⟨0, 0, 0, 0⟩
noncomputable abbrev lP2 : Nat → Pos := fun n => ([⟨102, 24, 102, 28⟩, ⟨102, 29, 102, 33⟩, ⟨102, 34, 102, 35⟩, ⟨102, 29, 102, 36⟩, ⟨102, 38, 102, 42⟩, ⟨102, 43, 102, 44⟩, ⟨102, 38, 102, 45⟩, ⟨102, 24, 102, 46⟩, ⟨102, 49, 102, 53⟩, ⟨102, 54, 102, 58⟩, ⟨102, 59, 102, 60⟩, ⟨102, 54, 102, 61⟩, ⟨102, 63, 102, 67⟩, ⟨102, 68, 102, 69⟩, ⟨102, 63, 102, 70⟩, ⟨102, 49, 102, 71⟩, ⟨102, 24, 102, 71⟩] : List Pos).getD n ⟨0, 0, 0, 0⟩
/-- behind a call of _law_layer -/
structure LayerMade (lo : Addr) (h h' : Heap) (d : Int) (fa f : Addr) : Prop where
  keep : ∀ b o, h.get? b = some o → b ≠ 100 → b ≠ 114 → (¬ IsTab o ∨ b < lo) → h'.get? b = some o
  tab : ClsTab h' lo 104 100 kPos kQual kS
  tabL : TabGood h' 114 lS
  fn : ∃ oc od fd sl, h'.get? f = some ⟨oc, od, .func fd, sl⟩
  lay : ∀ W, WOi W h → (∀ w ∈ W, 132 ≤ w) → ∃ a cc, Key (hideAll h' W) a cc fa ∧ InitAt (hideAll h' W) a.fi ∧
    if (d.fdiv 18).fmod 2 = 1 then LayAt (hideAll h' W) f "less" "more" a (lessA d) (moreA d) else LayAt (hideAll h' W) f "more" "less" a (moreA d) (lessA d)
section
variable {w : World} {A : Around} {E : Value → Shared → Prop} {s : Shared} {mg mb : Str → Option Value}
theorem layer_call {d : Int} {t : Tok} {fa lo : Addr} {Q : Value → Shared → Prop} (X : (hd.heap_39 w.params).In s.heap) (G : GK s.heap mg mb) (T : ClsTab s.heap lo 104 100 kPos kQual kS) (h132 : 132 ≤ lo) (hlo : ∃ b o, lo ≤ b + 1 ∧ s.heap.get? b = some o) (TL : TabGood s.heap 114 lS) (hfa : ∃ oc od fd sl, s.heap.get? fa = some ⟨oc, od, .func fd, sl⟩) (hd0 : A.depth ≤ 780) (hu : A.units ≤ 3890)
    (hq : ∀ f h' tk', LayerMade lo s.heap h' d fa f → Q (.ref f) { s with heap := h', toks := tk' }) :
    wpAny (model PySem.Challenge.pw_dz0037_02 w) A (call (.ref 119) [.int d t, .ref fa]) Q E s := by
  have e119 := X 119 _ rfl
  refine wpAny_call (codeAny_call_cells (binds := [("draw", .int d t), ("below", .ref fa)]) (by have : recursionLimit = 1000 := rfl; omega) e119 rfl G.lim (codeRec_of X (by rfl)) rfl rfl rfl (fun x hx => ?_) fun s₁ x => ?_)
  · rcases List.mem_cons.mp hx with rfl | hx
    · exact .inl (by rfl)
    rw [List.mem_singleton] at hx
    subst hx
    exact .inl (by rfl)
  have L0 : ∀ n : Nat, n < 132 → n ≠ s.heap.objs.size := fun n hn q => by have := Heap.lt_size (X 131 _ rfl); rw [← q] at this; exact absurd this (Nat.not_lt.mpr (Nat.le_of_lt_succ hn))
  generalize hE : callEnvC _ s.heap.objs.size 119 = env at x ⊢
  have hk : env.scope.kind = .function := by subst hE; rfl
  have kd : env.kindOf "draw" = some .local := by subst hE; rfl
  have kb : env.kindOf "below" = some .local := by subst hE; rfl
  have kmk : env.kindOf "make" = some .cell := by subst hE; rfl
  have kmo : env.kindOf "more" = some .cell := by subst hE; rfl
  have kle : env.kindOf "less" = some .cell := by subst hE; rfl
  have kg : ∀ n ∈ (["cmp_to_key", "_gt_from_lt", "_gt_from_le", "_gt_from_ge", "_lt_from_gt", "_lt_from_ge", "_lt_from_le", "_ge_from_le", "_ge_from_lt", "_ge_from_gt", "_le_from_ge", "_le_from_gt", "_le_from_lt"] : List Str), env.kindOf n = some .globalImplicit := by
    subst hE
    intro n hn
    simp only [List.mem_cons, List.not_mem_nil, or_false] at hn
    rcases hn with rfl | rfl | rfl | rfl | rfl | rfl | rfl | rfl | rfl | rfl | rfl | rfl | rfl <;> rfl
  have eg : env.globals = mainGlobals := by subst hE; rfl
  have ec : env.code = .ref 118 := by subst hE; rfl
  have eL : env.locals = s.heap.objs.size := by subst hE; rfl
  have eC : env.cells = ([("more", s.heap.objs.size + 3), ("make", s.heap.objs.size + 2), ("less", s.heap.objs.size + 1)] : List (Str × Addr)) := by subst hE; rfl
  have eq : env.qual ++ "<lambda>" = lQ := by subst hE; rfl
  have ecl : closureFor lScope env = pure ([("more", s.heap.objs.size + 3), ("make", s.heap.objs.size + 2), ("less", s.heap.objs.size + 1)] : List (Str × Addr)) := by subst hE; rfl
  have hm : bindL env.kindOf [("draw", .int d t), ("below", .ref fa)] (fun _ => none) = fun y => if y = ("below" : Str) then some (.ref fa) else if y = ("draw" : Str) then some (.int d t) else none := by subst hE; rfl
  have hcm : bindC env.kindOf [("draw", .int d t), ("below", .ref fa)] (fun _ => none) = fun _ => none := by subst hE; rfl
  rw [hm, hcm] at x
  clear hE hm hcm
  have F := Fm.of x (by rw [eC]; intro y hy; rcases hy with _ | ⟨_, _ | ⟨_, _ | ⟨_, hy⟩⟩⟩ <;> first | rfl | cases hy)
  obtain ⟨⟨⟨h1, tk1, rfl⟩, ns, keep, fresh⟩, cell, apart, above⟩ := x
  have X1 : (hd.heap_39 w.params).In h1 := fun b o e => keep _ _ (X b o e)
  have hW : ∀ w ∈ fW env, s.heap.get? w = none := fun w hw => by
    refine Heap.get?_none_of_le ?_
    rcases List.mem_cons.mp hw with rfl | hw
    · rw [eL]; exact Nat.le_refl _
    · obtain ⟨x, hx, rfl⟩ := List.mem_map.mp hw
      have := above x.1 x.2 hx
      rw [eL] at this
      exact Nat.le_of_lt this
  have hW2 : ∀ w ∈ fW env, 132 ≤ w := fun w hw => by
    have h131 : 131 < s.heap.objs.size := Heap.lt_size (X 131 _ rfl)
    rcases List.mem_cons.mp hw with rfl | hw
    · rw [eL]; exact h131
    · obtain ⟨x, hx, rfl⟩ := List.mem_map.mp hw
      have := above x.1 x.2 hx
      rw [eL] at this
      exact Nat.le_of_lt (Nat.lt_of_le_of_lt h131 this)
  have gm := G.g
  have g_cmp_to_key : mg "cmp_to_key" = some (.ref 105) := mg_of X gm (by rfl)
  have g_gt_from_lt : mg "_gt_from_lt" = some (.ref 21) := mg_of X gm (by rfl)
  have g_gt_from_le : mg "_gt_from_le" = some (.ref 56) := mg_of X gm (by rfl)
  have g_gt_from_ge : mg "_gt_from_ge" = some (.ref 91) := mg_of X gm (by rfl)
  have g_lt_from_gt : mg "_lt_from_gt" = some (.ref 63) := mg_of X gm (by rfl)
  have g_lt_from_ge : mg "_lt_from_ge" = some (.ref 98) := mg_of X gm (by rfl)
  have g_lt_from_le : mg "_lt_from_le" = some (.ref 49) := mg_of X gm (by rfl)
  have g_ge_from_le : mg "_ge_from_le" = some (.ref 42) := mg_of X gm (by rfl)
  have g_ge_from_lt : mg "_ge_from_lt" = some (.ref 35) := mg_of X gm (by rfl)
  have g_ge_from_gt : mg "_ge_from_gt" = some (.ref 70) := mg_of X gm (by rfl)
  have g_le_from_ge : mg "_le_from_ge" = some (.ref 84) := mg_of X gm (by rfl)
  have g_le_from_gt : mg "_le_from_gt" = some (.ref 77) := mg_of X gm (by rfl)
  have g_le_from_lt : mg "_le_from_lt" = some (.ref 28) := mg_of X gm (by rfl)
  -- make
  refine wpAny_execs_cons (wpAny_Assign_Name (wpAny_Call_Name_kw (Name_function_global hk (kg _ (by simp)) (loadGlobal_global (eg ▸ gm.keeps keep) g_cmp_to_key ?_))))
  refine callWith_function (evalArgs_plain (spliced_cons (wpAny_Name (F.ldL hk kb rfl (spliced_nil ⟨⟨X1 105 _ rfl, rfl⟩, ?_⟩)))))
  refine cmp_call (s := ⟨h1, s.gens, s.drawn, tk1, s.os⟩) X1 (G.keeps keep) (T.keeps keep) h132 ((by obtain ⟨b, o, q1, q2⟩ := hlo; exact ⟨b, o, q1, keep _ _ q2⟩)) ((by obtain ⟨oc, od, fd, sl, e⟩ := hfa; exact ⟨oc, od, fd, sl, keep _ _ e⟩)) (by show A.depth + 1 ≤ _; omega) (by show A.units + 3 ≤ _; omega) fun a cc h2 tk2 M => ?_
  have nN : a.N ∉ fW env := fun q => by
    obtain ⟨o, e, kd⟩ := F.wok a.N q
    rcases M.newN o e with z | z
    · have := hW2 _ q; rw [z] at this; exact absurd this (by decide)
    · obtain ⟨_, dz⟩ := z.data
      first | (rcases kd with ⟨es, ep, dd⟩ | ⟨v, dd⟩ <;> (rw [dz] at dd; cases dd)) | (have dc := z.cls; rcases kd with ⟨es, ep, dd⟩ | ⟨v, dd⟩ | ⟨dd, _⟩ <;> first | (rw [dz] at dd; cases dd; done) | (rw [dc] at dd; cases dd))
  have nc : cc ∉ fW env := fun q => by
    obtain ⟨o, e, _⟩ := F.wok cc q
    have := M.newc
    rw [show h1.get? cc = some o from e] at this; cases this
  have hS : cStatics ∉ fW env := fun q => absurd (hW2 _ q) (by decide)
  have F2 : Fm h2 env _ _ := F.via fun b o e hb n => M.keep b o e (fun z => by have := hW2 _ hb; rw [z] at this; exact absurd this (by decide)) (.inl n)
  have ls : LS lo lS s.heap h2 env _ _ a cc fa := ⟨F2, fun b o e n1 n2 => M.keep b o (keep b o e) n1 n2, M.key, M.init, M.tab, TabGood.mv (fun b o e n => M.keep b o e ?_ ?_) (TL.keeps keep), nN, nc⟩
  rotate_left
  · rcases n with n | rfl
    · rintro rfl
      obtain ⟨_, ps, e', ok, _⟩ := T.keeps keep
      rw [show h1.get? 100 = _ from e'] at e; cases e
      exact n ⟨ps, ok, rfl⟩
    · decide
  · rcases n with n | rfl
    · exact .inl n
    · exact .inr (Nat.lt_of_lt_of_le (by decide) h132)
  clear F F2
  have gmx : ∀ {h : Heap} {m cm : Str → Option Value}, LS lo lS s.heap h env m cm a cc fa → h.Ns mainGlobals mg := fun ls => Ns.via G.g fun o e n => ls.base _ o e (by decide) (.inl n)
  have cmk : env.cells.lookup ("make" : Str) = some (s.heap.objs.size + 2) := by rw [eC]; rfl
  have cmo : env.cells.lookup ("more" : Str) = some (s.heap.objs.size + 3) := by rw [eC]; rfl
  have cle : env.cells.lookup ("less" : Str) = some (s.heap.objs.size + 1) := by rw [eC]; rfl
  refine ls.fm.stC hk kmk cmk fun h3 tk3 F3 x3 => ?_
  replace ls := ls.ex F3 x3 hW hS
  refine wpAny_execs_cons (wpAny_Assign_Name (menu_eval (s := ⟨h3, s.gens, s.drawn, tk3, s.os⟩) (eg ▸ gmx ls) g_gt_from_lt g_gt_from_le g_gt_from_ge hk (kg _ (by simp)) (kg _ (by simp)) (kg _ (by simp)) kd ls.fm.ns rfl (by decide) (fun _ => PyProof.noPylong_of_log2 (by decide +kernel)) (by decide) (by decide) (by decide) (by decide) fun h4 tk4 k4 => ?_))
  replace ls := ls.keeps k4 hW hS
  refine ls.fm.stC (s := ⟨h4, s.gens, s.drawn, tk4, s.os⟩) hk kmo cmo fun h5 tk5 F5 x5 => ?_
  replace ls := ls.ex F5 x5 hW hS
  refine wpAny_execs_cons (wpAny_Assign_Name (menu_eval (s := ⟨h5, s.gens, s.drawn, tk5, s.os⟩) (eg ▸ gmx ls) g_lt_from_gt g_lt_from_ge g_lt_from_le hk (kg _ (by simp)) (kg _ (by simp)) (kg _ (by simp)) kd ls.fm.ns rfl (by decide) (fun _ => PyProof.noPylong_of_log2 (by decide +kernel)) (by decide) (by decide) (by decide) (by decide) fun h6 tk6 k6 => ?_))
  replace ls := ls.keeps k6 hW hS
  refine ls.fm.stC (s := ⟨h6, s.gens, s.drawn, tk6, s.os⟩) hk kle cle fun h7 tk7 F7 x7 => ?_
  replace ls := ls.ex F7 x7 hW hS
  refine wpAny_execs_cons (wpAny_mono (E := LvE PySem.Challenge.pw_dz0037_02 w A env E) (Q := fun f s' => f = .next ∧ ∃ h tk m cm, s' = ⟨h, s.gens, s.drawn, tk, s.os⟩ ∧ LS lo lS s.heap h env m cm a cc fa ∧ m "draw" = some (.int d t) ∧ cm "make" = some (.ref a.C) ∧ cm "more" = some (.ref (moreA d)) ∧ cm "less" = some (.ref (lessA d))) ?_ ?_ fun _ _ z => z)
  · refine wpAny_If (wpAny_isTrue_Compare1 (wpAny_BinOp (wpAny_Name (ls.fm.ldL (s := ⟨h7, s.gens, s.drawn, tk7, s.os⟩) hk kd rfl (wpAny_Constant_int (mod_int' (by decide) (wpAny_Constant_int (PyProof.Rows.eq_int (wpAny_truthy_bool ?_)))))))))
    by_cases g : d.fmod 2 = 1
    · rw [if_pos (by rw [g]; rfl)]
      refine wpAny_execs_cons (wpAny_Assign_Name (menu_eval (s := ⟨h7, s.gens, s.drawn, _, s.os⟩) (eg ▸ gmx ls) g_ge_from_le g_ge_from_lt g_ge_from_gt hk (kg _ (by simp)) (kg _ (by simp)) (kg _ (by simp)) kd ls.fm.ns rfl (by decide) (fun _ => PyProof.noPylong_of_log2 (by decide +kernel)) (by decide) (by decide) (by decide) (by decide) fun h8 tk8 k8 => ?_))
      replace ls := ls.keeps k8 hW hS
      refine ls.fm.stC (s := ⟨h8, s.gens, s.drawn, tk8, s.os⟩) hk kmo cmo fun h9 tk9 F9 x9 => ?_
      replace ls := ls.ex F9 x9 hW hS
      refine wpAny_execs_cons (wpAny_Assign_Name (menu_eval (s := ⟨h9, s.gens, s.drawn, tk9, s.os⟩) (eg ▸ gmx ls) g_le_from_ge g_le_from_gt g_le_from_lt hk (kg _ (by simp)) (kg _ (by simp)) (kg _ (by simp)) kd ls.fm.ns rfl (by decide) (fun _ => PyProof.noPylong_of_log2 (by decide +kernel)) (by decide) (by decide) (by decide) (by decide) fun h10 tk10 k10 => ?_))
      replace ls := ls.keeps k10 hW hS
      refine ls.fm.stC (s := ⟨h10, s.gens, s.drawn, tk10, s.os⟩) hk kle cle fun h11 tk11 F11 x11 => ?_
      replace ls := ls.ex F11 x11 hW hS
      refine wpAny_execs_nil ⟨rfl, h11, tk11, _, _, rfl, ls, rfl, rfl, ?_, ?_⟩
      · unfold moreA; rw [if_pos g]; rfl
      · unfold lessA; rw [if_pos g]; rfl
    · rw [if_neg (by simpa using g)]
      refine wpAny_execs_nil ⟨rfl, h7, _, _, _, rfl, ls, rfl, rfl, ?_, ?_⟩
      · unfold moreA; rw [if_neg g]; rfl
      · unfold lessA; rw [if_neg g]; rfl
  rintro f s' ⟨rfl, h8, tk8, m8, cm8, rfl, ls, hmd, hmk, hmo, hle⟩
  have C8 : CodeHd h8 118 114 := CodeHd.mv (fun b o e n => ls.base b o e (fun q => by
    obtain ⟨_, ps, e', ok, _⟩ := T
    rw [q, e'] at e; cases e; exact n ⟨ps, ok, rfl⟩) (.inl n)) (codeHd_of_K (c := 118) (P := 114) X (by kernel_rfl))
  have B8 : h8.BuiltinsAt mg 114 := by
    obtain ⟨bm, ob, b1, b2, b3, b4, b5, b6⟩ := G.bs
    have nt : ¬ IsTab ob := fun z => by have := z.cls; rw [b5] at this; cases this
    refine ⟨bm, ob, b1, b2, b3, fun q => ?_, ls.base _ _ b4 (fun q => ?_) (.inl nt), b5, b6⟩
    · obtain ⟨ps, e', ok, _⟩ := TL
      rw [q, e'] at b4; cases b4; cases b5
    · obtain ⟨_, ps, e', ok, _⟩ := T
      rw [q, e'] at b4; cases b4; cases b5
  have lSS : ∀ pos : Pos, ∀ x ∈ lS, pos.line = x.1.line → pos.col = x.1.col → x.2 = lQ := by
    intro pos x hx _ _
    rcases List.mem_cons.mp hx with rfl | hx
    · rfl
    · rw [List.mem_singleton] at hx; subst hx; rfl
  have lay1 : ∀ {h' : Heap} {W : List Addr}, (∀ b o, b ≠ 114 → h8.get? b = some o → h'.get? b = some o) → WOi W s.heap → (∀ w ∈ W, 132 ≤ w) → WOi W h' ∧ ∀ n v c, s.heap.objs.size < c → env.cells.lookup n = some c → cm8 n = some v → (hideAll h' W).IsCell c (some v) := by
    intro h' W k hW' hlo
    have nt : ∀ b o, h8.get? b = some o → ¬ IsTab o → h'.get? b = some o := fun b o e n => k b o (fun q => by
      obtain ⟨ps, e', ok, _⟩ := ls.tabL
      rw [q, e'] at e; cases e; exact n ⟨ps, ok, rfl⟩) e
    constructor
    · intro w hw
      obtain ⟨o, e, kd⟩ := hW' w hw
      have := hlo w hw
      refine ⟨o, nt _ _ (ls.base _ _ e (fun q => absurd this (by rw [q]; decide)) (.inl fun z => ?_)) (fun z => ?_), kd⟩ <;>
      · obtain ⟨_, dz⟩ := z.data
        first | (rcases kd with ⟨es, ep, dd⟩ | ⟨v, dd⟩ <;> (rw [dz] at dd; cases dd)) | (have dc := z.cls; rcases kd with ⟨es, ep, dd⟩ | ⟨v, dd⟩ | ⟨dd, _⟩ <;> first | (rw [dz] at dd; cases dd; done) | (rw [dc] at dd; cases dd))
    · intro n v c hc hl hv
      obtain ⟨o, e, dd⟩ := ls.fm.cell n c hl
      refine ⟨o, hideAll_get _ (nt _ _ e fun z => ?_) (fun q => ?_), hv ▸ dd⟩
      · obtain ⟨_, dz⟩ := z.data; rw [dz] at dd; cases dd
      · obtain ⟨o', e', _⟩ := hW' _ q
        exact absurd (Heap.lt_size e') (Nat.not_lt_of_gt hc)
  -- what the lambda's making leaves
  have fin : ∀ {h' : Heap} {f : Addr} {fd : FuncData} (_k : ∀ b o, b ≠ 114 → h8.get? b = some o → h'.get? b = some o) (_e : h'.get? f = some ⟨.type "function", none, .func fd, #[]⟩) (_n : h8.get? f = none) (_tl : TabGood h' 114 lS)
      (_lay : ∀ W, WOi W s.heap → (∀ w ∈ W, 132 ≤ w) → if (d.fdiv 18).fmod 2 = 1 then LayAt (hideAll h' W) f "less" "more" a (lessA d) (moreA d) else LayAt (hideAll h' W) f "more" "less" a (moreA d) (lessA d)), LayerMade lo s.heap h' d fa f := by
    intro h' f fd k e n tl lay
    have nt : ∀ b o, h8.get? b = some o → ¬ IsTab o → h'.get? b = some o := fun b o e n => k b o (fun q => by
      obtain ⟨ps, e', ok, _⟩ := ls.tabL
      rw [q, e'] at e; cases e; exact n ⟨ps, ok, rfl⟩) e
    have F0 : Ft [] h8 h' := fun b o _ n e => nt b o e n
    have W0 : WOi [] h8 := fun w hw => nomatch hw
    refine ⟨fun b o e n1 n2 n3 => k b o n2 (ls.base b o e n1 n3), ClsTab.mv (fun b o e n => k b o ?_ e) ls.tab, tl, ⟨_, _, _, _, e⟩, fun W hW' hlo => ?_⟩
    · rcases n with n | rfl | n
      · rintro rfl
        obtain ⟨ps, e', ok, _⟩ := ls.tabL
        rw [e'] at e; cases e; exact n ⟨ps, ok, rfl⟩
      · decide
      · rintro rfl; exact absurd n (Nat.not_le_of_gt (Nat.lt_of_lt_of_le (by decide) h132))
    · have W' : WOi W h' := fun w hw => by
        obtain ⟨o, e, kd⟩ := hW' w hw
        have := hlo w hw
        refine ⟨o, nt _ _ (ls.base _ _ e (fun q => absurd this (by rw [q]; decide)) (.inl fun z => ?_)) (fun z => ?_), kd⟩ <;>
        · obtain ⟨_, dz⟩ := z.data
          first | (rcases kd with ⟨es, ep, dd⟩ | ⟨v, dd⟩ <;> (rw [dz] at dd; cases dd)) | (have dc := z.cls; rcases kd with ⟨es, ep, dd⟩ | ⟨v, dd⟩ | ⟨dd, _⟩ <;> first | (rw [dz] at dd; cases dd; done) | (rw [dc] at dd; cases dd))
      refine ⟨a, cc, Key.ft W' Ft.hide ?_ ?_ ?_ (Key.ft W0 F0 (fun q => nomatch q) (fun q => nomatch q) (fun q => nomatch q) ls.key), InitAt.ft W' Ft.hide (InitAt.ft W0 F0 ls.init), lay W hW' hlo⟩
      · intro q
        obtain ⟨o, e, kd⟩ := hW' _ q
        rcases M.newN o (keep _ _ e) with z | z
        · have := hlo _ q; rw [z] at this; exact absurd this (by decide)
        · obtain ⟨_, dz⟩ := z.data
          first | (rcases kd with ⟨es, ep, dd⟩ | ⟨v, dd⟩ <;> (rw [dz] at dd; cases dd)) | (have dc := z.cls; rcases kd with ⟨es, ep, dd⟩ | ⟨v, dd⟩ | ⟨dd, _⟩ <;> first | (rw [dz] at dd; cases dd; done) | (rw [dc] at dd; cases dd))
      · exact fun q => absurd (hlo _ q) (by decide)
      · intro q
        obtain ⟨o, e, _⟩ := hW' _ q
        have := M.newc
        rw [show h1.get? cc = some o from keep _ _ e] at this; cases this
  refine wpAny_execs_cons (wpAny_If (wpAny_isTrue_Compare1 (wpAny_BinOp (wpAny_BinOp (wpAny_Name (ls.fm.ldL (s := ⟨h8, s.gens, s.drawn, tk8, s.os⟩) hk kd hmd (wpAny_Constant_int (floordiv_int (by decide) (wpAny_Constant_int (mod_int' (by decide) (wpAny_Constant_int (PyProof.Rows.eq_int (wpAny_truthy_bool ?_)))))))))))))
  by_cases g : (d.fdiv 18).fmod 2 = 1
  · rw [if_pos (by rw [g]; rfl)]
    refine wpAny_execs_cons (wpAny_Return_some ?_)
    refine lam_make (s := ⟨h8, s.gens, s.drawn, _, s.os⟩) rfl eq ecl eg (gmx ls) ec C8 ls.tabL (by decide) B8 (.head _) (lSS _) fun f cv ctv h9 tk9 k9 e9 n9 r9 t9 => ?_
    refine hq f h9 tk9 (fin k9 e9 n9 t9 fun W hW' hlo => ?_)
    rw [if_pos g]
    obtain ⟨W9, hc⟩ := lay1 k9 hW' hlo
    exact ⟨_, _, _, _, lP1, _, _, _, _, _, _, _, get_ftF W9 Ft.hide e9 (by intro _ _ q; cases q) (by intro _ q; cases q) (by intro _ q; cases q), CodeRec.ft W9 Ft.hide r9, ⟨_, rfl, hc _ _ _ (by omega) cle hle⟩, ⟨_, rfl, hc _ _ _ (by omega) cmo hmo⟩, ⟨_, rfl, hc _ _ _ (by omega) cmk hmk⟩⟩
  · rw [if_neg (by simpa using g)]
    refine wpAny_execs_nil (wpAny_execs_cons (wpAny_Return_some ?_))
    refine lam_make (s := ⟨h8, s.gens, s.drawn, _, s.os⟩) rfl eq ecl eg (gmx ls) ec C8 ls.tabL (by decide) B8 (.tail _ (.head _)) (lSS _) fun f cv ctv h9 tk9 k9 e9 n9 r9 t9 => ?_
    refine hq f h9 tk9 (fin k9 e9 n9 t9 fun W hW' hlo => ?_)
    rw [if_neg g]
    obtain ⟨W9, hc⟩ := lay1 k9 hW' hlo
    exact ⟨_, _, _, _, lP2, _, _, _, _, _, _, _, get_ftF W9 Ft.hide e9 (by intro _ _ q; cases q) (by intro _ q; cases q) (by intro _ q; cases q), CodeRec.ft W9 Ft.hide r9, ⟨_, rfl, hc _ _ _ (by omega) cmo hmo⟩, ⟨_, rfl, hc _ _ _ (by omega) cle hle⟩, ⟨_, rfl, hc _ _ _ (by omega) cmk hmk⟩⟩
end
end Mine
end

-- part P10
section
open PySem PySem.W PySem.W.X PySem.Calls PyProof.Rows
set_option maxRecDepth 100000
set_option maxHeartbeats 4000000
namespace Mine
noncomputable def cntM (d σ : Int) : Nat := if (d.fdiv 2).fmod 3 = 1 ∨ 0 < (if d.fmod 2 = 1 then σ else -σ) then 1 else 2
noncomputable def cntL (d σ : Int) : Nat := if (d.fdiv 6).fmod 3 = 1 ∨ (if d.fmod 2 = 1 then σ else -σ) < 0 then 1 else 2
noncomputable def turned (d σ : Int) : Int := if (d.fdiv 18).fmod 2 = 1 then -σ else σ
noncomputable abbrev Sgn (σ : Int) : Prop := σ = -1 ∨ σ = 0 ∨ σ = 1
section
variable {w : World} {H : Heap}
theorem fn21 (X : (hd.heap_39 w.params).In H) : ∃ p1 p2 p3 p4 p5 p6, FnAt H 21 "__lt__" (.two true .And .NotEq p1 p2 p3 p4 p5 p6) :=
  ⟨_, _, _, _, _, _, ⟨_, _, _, _, _, _, _, _, _, _, _, _, _, _, _, _, _, _, _, _, _, _, _, _, _, _⟩, X 21 _ rfl, codeRec_of X (by rfl), rfl⟩
theorem fn28 (X : (hd.heap_39 w.params).In H) : ∃ p1 p2 p3 p4 p5 p6, FnAt H 28 "__lt__" (.two false .Or .Eq p1 p2 p3 p4 p5 p6) :=
  ⟨_, ⟨0, 0, 0, 0⟩, _, _, _, _, ⟨_, _, _, _, _, _, _, _, _, _, _, _, _, _, _, _, _, _, _, _, _, _, _, _, _, _⟩, X 28 _ rfl, codeRec_of X (by rfl), rfl⟩
theorem fn35 (X : (hd.heap_39 w.params).In H) : ∃ p1 p2, FnAt H 35 "__lt__" (.one true p1 p2) :=
  ⟨_, _, ⟨_, _, _, _, _, _, _, _, _, _, _, _, _, _, _, _, _, _, _, _, _, _, _, _, _, _⟩, X 35 _ rfl, codeRec_of X (by rfl), rfl⟩
theorem fn42 (X : (hd.heap_39 w.params).In H) : ∃ p1 p2 p3 p4 p5 p6, FnAt H 42 "__le__" (.two true .Or .Eq p1 p2 p3 p4 p5 p6) :=
  ⟨_, _, _, _, _, _, ⟨_, _, _, _, _, _, _, _, _, _, _, _, _, _, _, _, _, _, _, _, _, _, _, _, _, _⟩, X 42 _ rfl, codeRec_of X (by rfl), rfl⟩
theorem fn49 (X : (hd.heap_39 w.params).In H) : ∃ p1 p2 p3 p4 p5 p6, FnAt H 49 "__le__" (.two false .And .NotEq p1 p2 p3 p4 p5 p6) :=
  ⟨_, ⟨0, 0, 0, 0⟩, _, _, _, _, ⟨_, _, _, _, _, _, _, _, _, _, _, _, _, _, _, _, _, _, _, _, _, _, _, _, _, _⟩, X 49 _ rfl, codeRec_of X (by rfl), rfl⟩
theorem fn56 (X : (hd.heap_39 w.params).In H) : ∃ p1 p2, FnAt H 56 "__le__" (.one true p1 p2) :=
  ⟨_, _, ⟨_, _, _, _, _, _, _, _, _, _, _, _, _, _, _, _, _, _, _, _, _, _, _, _, _, _⟩, X 56 _ rfl, codeRec_of X (by rfl), rfl⟩
theorem fn63 (X : (hd.heap_39 w.params).In H) : ∃ p1 p2 p3 p4 p5 p6, FnAt H 63 "__gt__" (.two true .And .NotEq p1 p2 p3 p4 p5 p6) :=
  ⟨_, _, _, _, _, _, ⟨_, _, _, _, _, _, _, _, _, _, _, _, _, _, _, _, _, _, _, _, _, _, _, _, _, _⟩, X 63 _ rfl, codeRec_of X (by rfl), rfl⟩
theorem fn70 (X : (hd.heap_39 w.params).In H) : ∃ p1 p2 p3 p4 p5 p6, FnAt H 70 "__gt__" (.two false .Or .Eq p1 p2 p3 p4 p5 p6) :=
  ⟨_, ⟨0, 0, 0, 0⟩, _, _, _, _, ⟨_, _, _, _, _, _, _, _, _, _, _, _, _, _, _, _, _, _, _, _, _, _, _, _, _, _⟩, X 70 _ rfl, codeRec_of X (by rfl), rfl⟩
theorem fn77 (X : (hd.heap_39 w.params).In H) : ∃ p1 p2, FnAt H 77 "__gt__" (.one true p1 p2) :=
  ⟨_, _, ⟨_, _, _, _, _, _, _, _, _, _, _, _, _, _, _, _, _, _, _, _, _, _, _, _, _, _⟩, X 77 _ rfl, codeRec_of X (by rfl), rfl⟩
theorem fn84 (X : (hd.heap_39 w.params).In H) : ∃ p1 p2 p3 p4 p5 p6, FnAt H 84 "__ge__" (.two true .Or .Eq p1 p2 p3 p4 p5 p6) :=
  ⟨_, _, _, _, _, _, ⟨_, _, _, _, _, _, _, _, _, _, _, _, _, _, _, _, _, _, _, _, _, _, _, _, _, _⟩, X 84 _ rfl, codeRec_of X (by rfl), rfl⟩
theorem fn91 (X : (hd.heap_39 w.params).In H) : ∃ p1 p2 p3 p4 p5 p6, FnAt H 91 "__ge__" (.two false .And .NotEq p1 p2 p3 p4 p5 p6) :=
  ⟨_, ⟨0, 0, 0, 0⟩, _, _, _, _, ⟨_, _, _, _, _, _, _, _, _, _, _, _, _, _, _, _, _, _, _, _, _, _, _, _, _, _⟩, X 91 _ rfl, codeRec_of X (by rfl), rfl⟩
theorem fn98 (X : (hd.heap_39 w.params).In H) : ∃ p1 p2, FnAt H 98 "__ge__" (.one true p1 p2) :=
  ⟨_, _, ⟨_, _, _, _, _, _, _, _, _, _, _, _, _, _, _, _, _, _, _, _, _, _, _, _, _, _⟩, X 98 _ rfl, codeRec_of X (by rfl), rfl⟩
theorem more_fn (X : (hd.heap_39 w.params).In H) (d : Int) : ∃ op tl, op ∈ cmps ∧ tl.ok ∧ FnAt H (moreA d) (cmpInfo op).2.1 tl ∧ ∀ σ, Sgn σ → made op tl σ = (if d.fmod 2 = 1 then decide (0 ≤ σ) else decide (0 < σ), cntM d σ) := by
  have hm3 := Int.fmod_eq_emod_of_nonneg (d.fdiv 2) (show (0 : Int) ≤ 3 by decide)
  have hr : (d.fdiv 2).fmod 3 = 0 ∨ (d.fdiv 2).fmod 3 = 1 ∨ (d.fdiv 2).fmod 3 = 2 := by omega
  unfold moreA cntM
  by_cases g : d.fmod 2 = 1
  · simp only [if_pos g]
    rcases hr with r | r | r <;> simp only [r, pick3]
    · obtain ⟨p1, p2, p3, p4, p5, p6, h⟩ := fn42 X
      exact ⟨.LtE, _, by decide, by first | exact trivial | exact Or.inl rfl | exact Or.inr rfl, h, by rintro σ (rfl | rfl | rfl) <;> rfl⟩
    · obtain ⟨p1, p2, h⟩ := fn35 X
      exact ⟨.Lt, _, by decide, by first | exact trivial | exact Or.inl rfl | exact Or.inr rfl, h, by rintro σ (rfl | rfl | rfl) <;> rfl⟩
    · obtain ⟨p1, p2, p3, p4, p5, p6, h⟩ := fn70 X
      exact ⟨.Gt, _, by decide, by first | exact trivial | exact Or.inl rfl | exact Or.inr rfl, h, by rintro σ (rfl | rfl | rfl) <;> rfl⟩
  · simp only [if_neg g]
    rcases hr with r | r | r <;> simp only [r, pick3]
    · obtain ⟨p1, p2, p3, p4, p5, p6, h⟩ := fn21 X
      exact ⟨.Lt, _, by decide, by first | exact trivial | exact Or.inl rfl | exact Or.inr rfl, h, by rintro σ (rfl | rfl | rfl) <;> rfl⟩
    · obtain ⟨p1, p2, h⟩ := fn56 X
      exact ⟨.LtE, _, by decide, by first | exact trivial | exact Or.inl rfl | exact Or.inr rfl, h, by rintro σ (rfl | rfl | rfl) <;> rfl⟩
    · obtain ⟨p1, p2, p3, p4, p5, p6, h⟩ := fn91 X
      exact ⟨.GtE, _, by decide, by first | exact trivial | exact Or.inl rfl | exact Or.inr rfl, h, by rintro σ (rfl | rfl | rfl) <;> rfl⟩
theorem less_fn (X : (hd.heap_39 w.params).In H) (d : Int) : ∃ op tl, op ∈ cmps ∧ tl.ok ∧ FnAt H (lessA d) (cmpInfo op).2.1 tl ∧ ∀ σ, Sgn σ → made op tl σ = (if d.fmod 2 = 1 then decide (σ ≤ 0) else decide (σ < 0), cntL d σ) := by
  have hm3 := Int.fmod_eq_emod_of_nonneg (d.fdiv 6) (show (0 : Int) ≤ 3 by decide)
  have hr : (d.fdiv 6).fmod 3 = 0 ∨ (d.fdiv 6).fmod 3 = 1 ∨ (d.fdiv 6).fmod 3 = 2 := by omega
  unfold lessA cntL
  by_cases g : d.fmod 2 = 1
  · simp only [if_pos g]
    rcases hr with r | r | r <;> simp only [r, pick3]
    · obtain ⟨p1, p2, p3, p4, p5, p6, h⟩ := fn84 X
      exact ⟨.GtE, _, by decide, by first | exact trivial | exact Or.inl rfl | exact Or.inr rfl, h, by rintro σ (rfl | rfl | rfl) <;> rfl⟩
    · obtain ⟨p1, p2, h⟩ := fn77 X
      exact ⟨.Gt, _, by decide, by first | exact trivial | exact Or.inl rfl | exact Or.inr rfl, h, by rintro σ (rfl | rfl | rfl) <;> rfl⟩
    · obtain ⟨p1, p2, p3, p4, p5, p6, h⟩ := fn28 X
      exact ⟨.Lt, _, by decide, by first | exact trivial | exact Or.inl rfl | exact Or.inr rfl, h, by rintro σ (rfl | rfl | rfl) <;> rfl⟩
  · simp only [if_neg g]
    rcases hr with r | r | r <;> simp only [r, pick3]
    · obtain ⟨p1, p2, p3, p4, p5, p6, h⟩ := fn63 X
      exact ⟨.Gt, _, by decide, by first | exact trivial | exact Or.inl rfl | exact Or.inr rfl, h, by rintro σ (rfl | rfl | rfl) <;> rfl⟩
    · obtain ⟨p1, p2, h⟩ := fn98 X
      exact ⟨.GtE, _, by decide, by first | exact trivial | exact Or.inl rfl | exact Or.inr rfl, h, by rintro σ (rfl | rfl | rfl) <;> rfl⟩
    · obtain ⟨p1, p2, p3, p4, p5, p6, h⟩ := fn49 X
      exact ⟨.LtE, _, by decide, by first | exact trivial | exact Or.inl rfl | exact Or.inr rfl, h, by rintro σ (rfl | rfl | rfl) <;> rfl⟩
/-- one more layer of the tower -/
theorem lay_asks {prog : Program} {nt fa f cc : Addr} {a : KA} {d σ : Int} {r1 r2 : Addr} {n dep un : Nat} {mg mb : Str → Option Value} (X : (hd.heap_39 w.params).In H) (S : Sure H nt mg mb) (K : Key H a cc fa) (hin : InitAt H a.fi)
    (Ly : if (d.fdiv 18).fmod 2 = 1 then LayAt H f "less" "more" a (lessA d) (moreA d) else LayAt H f "more" "less" a (moreA d) (lessA d)) (hσ : Sgn σ) (hA : Asks prog w nt H fa (.ref r1) (.ref r2) σ n dep un) :
    AsksX prog w nt H f (.ref r1) (.ref r2) (turned d σ) (n * (cntM d σ + cntL d σ)) (dep + 5) (un + 11) := by
  obtain ⟨op1, tl1, o1, k1, f1, m1⟩ := more_fn X d
  obtain ⟨op2, tl2, o2, k2, f2, m2⟩ := less_fn X d
  have e1 := m1 σ hσ
  have e2 := m2 σ hσ
  unfold turned
  by_cases g : (d.fdiv 18).fmod 2 = 1
  · rw [if_pos g] at Ly ⊢
    have := layer_asks S (.inr ⟨rfl, rfl⟩) Ly o2 k2 f2 o1 k1 f1 K hin hA
    rw [e1, e2, Nat.add_comm (cntL d σ)] at this
    have hs : (b2 (if d.fmod 2 = 1 then decide (σ ≤ 0) else decide (σ < 0)) - b2 (if d.fmod 2 = 1 then decide (0 ≤ σ) else decide (0 < σ))) = -σ := by
      by_cases g2 : d.fmod 2 = 1
      · simp only [if_pos g2]; rcases hσ with rfl | rfl | rfl <;> rfl
      · simp only [if_neg g2]; rcases hσ with rfl | rfl | rfl <;> rfl
    dsimp only at this
    rw [hs] at this
    exact this
  · rw [if_neg g] at Ly ⊢
    have := layer_asks S (.inl ⟨rfl, rfl⟩) Ly o1 k1 f1 o2 k2 f2 K hin hA
    rw [e1, e2] at this
    have hs : (b2 (if d.fmod 2 = 1 then decide (0 ≤ σ) else decide (0 < σ)) - b2 (if d.fmod 2 = 1 then decide (σ ≤ 0) else decide (σ < 0))) = σ := by
      by_cases g2 : d.fmod 2 = 1
      · simp only [if_pos g2]; rcases hσ with rfl | rfl | rfl <;> rfl
      · simp only [if_neg g2]; rcases hσ with rfl | rfl | rfl <;> rfl
    dsimp only at this
    rw [hs] at this
    exact this
end
end Mine
end

-- part P11
section
open PySem PySem.W PySem.W.X PySem.Calls PyProof.Rows
set_option maxRecDepth 100000
set_option maxHeartbeats 4000000
namespace Mine
noncomputable def dueStep (x : Nat × Int) (d : Int) : Nat × Int := (x.1 * (cntM d x.2 + cntL d x.2), turned d x.2)
theorem ite_le (p : Prop) [Decidable p] : (if p then 1 else 2) ≤ 2 := by split <;> decide
theorem cnt_le (d σ : Int) : cntM d σ + cntL d σ ≤ 4 := by
  have h1 : cntM d σ ≤ 2 := ite_le _
  have h2 : cntL d σ ≤ 2 := ite_le _
  omega
noncomputable def dueOf (ds : List Int) (st : Int) : Nat × Int := ds.foldl dueStep (1, st)
theorem dueOf_le : ∀ (ds : List Int) (x : Nat × Int), (ds.foldl dueStep x).1 ≤ x.1 * 4 ^ ds.length
  | [], x => by simp
  | d :: r, x => by
    refine Nat.le_trans (dueOf_le r (dueStep x d)) ?_
    show x.1 * (cntM d x.2 + cntL d x.2) * 4 ^ r.length ≤ x.1 * 4 ^ (r.length + 1)
    rw [Nat.pow_succ, Nat.mul_assoc, Nat.mul_comm (4 ^ r.length) 4]
    exact Nat.mul_le_mul_left _ (Nat.mul_le_mul_right _ (cnt_le d x.2))
section
variable {w : World} {A : Around} {E : Value → Shared → Prop} {s : Shared} {mg mb : Str → Option Value}
/-- a list of ints -/
noncomputable def IntList (h : Heap) (l : Addr) (ds : List Int) : Prop := ∃ ts : List Tok, h.IsList l ((ds.zip ts).map fun x => Value.int x.1 x.2).toArray ∧ ts.length = ds.length
theorem ite_c {c : Bool} {X Y : Prop} (h1 : c = true → X) (h2 : c = false → Y) : if c = true then X else Y := by cases c <;> simp_all
theorem due_call {tw : Addr} {ds : List Int} {st : Int} {t : Tok} {Q : Value → Shared → Prop} (X : (hd.heap_39 w.params).In s.heap) (hlim : s.heap.NoLimit) (hh : A.handled = none) (hd0 : A.depth ≤ 900) (hl : IntList s.heap tw ds) (h3 : ds.length ≤ 3)
    (hq : ∀ tp h' tk' t1 t2, (∀ b o, s.heap.get? b = some o → h'.get? b = some o) → h'.get? tp = some ⟨.type "tuple", none, .seq #[.int (dueOf ds st).1 t1, .int (Int.sign (dueOf ds st).2) t2] 0, #[]⟩ → Q (.ref tp) { s with heap := h', toks := tk' }) :
    wpAny (model PySem.Challenge.pw_dz0037_02 w) A (call (.ref 126) [.ref tw, .int st t]) Q E s := by
  obtain ⟨ts, hl, hlen⟩ := hl
  refine wpAny_call (codeAny_call_plain (binds := [("tower", .ref tw), ("stand", .int st t)]) (by have : recursionLimit = 1000 := rfl; omega) (X 126 _ rfl) rfl hlim (codeRec_of X (by rfl)) rfl rfl (by decide) (locs rfl) fun h₀ hns keep => ?_)
  generalize hE : callEnv _ s.heap.objs.size 126 = env
  have hk : env.scope.kind = .function := by subst hE; rfl
  have kl : ∀ n ∈ (["tower", "stand", "asks", "draw", "side", "first", "second"] : List Str), env.kindOf n = some .local := by
    subst hE; intro n hn
    simp only [List.mem_cons, List.not_mem_nil, or_false] at hn
    rcases hn with rfl | rfl | rfl | rfl | rfl | rfl | rfl <;> rfl
  have eL : env.locals = s.heap.objs.size := by subst hE; rfl
  clear hE
  rw [← eL] at hns
  have hp : (env.scope.kind == .class || (env.scope.kind == .module && env.locals != env.globals)) = false := by rw [hk]; rfl
  -- asks = 1
  refine wpAny_execs_cons (wpAny_Assign_Name (wpAny_Constant_int ?_))
  refine wpAny_storeName_local (kl _ (by simp)) hns (fun h₁ hns₁ sb₁ => ?_) hp
  have hl₁ : h₁.IsList tw _ := (hl.at (fun o e => keep _ _ e)).extBut sb₁.extBut (fun q => by obtain ⟨o, e, _⟩ := hl; rw [q, eL] at e; exact absurd (Heap.lt_size e) (Nat.lt_irrefl _))
  have htL : tw ≠ env.locals := fun q => by obtain ⟨o, e, _⟩ := hl; rw [q, eL] at e; exact absurd (Heap.lt_size e) (Nat.lt_irrefl _)
  refine wpAny_execs_cons (wpAny_For_locals hh (kl _ (by simp)) hp htL hl₁ hns₁ (fun Q' hq' => wpAny_Name (wpAny_loadName_local hk (kl _ (by simp)) hns₁ rfl hq'))
    (fun i m => ∃ av sv : Int, ∃ ta tb, av = (dueOf (ds.take i) st).1 ∧ sv = (dueOf (ds.take i) st).2 ∧ m "asks" = some (.int av ta) ∧ m "stand" = some (.int sv tb)) ⟨_, _, _, _, rfl, rfl, rfl, rfl⟩ ?turn ?after)
  case after =>
    intro h₂ tk₂ m₂ hns₂ hJ k₂
    have hsz : (((ds.zip ts).map fun x => Value.int x.1 x.2).toArray).size = ds.length := by simp [hlen]
    rw [hsz, List.take_length] at hJ
    obtain ⟨av, sv, ta, tb, rfl, rfl, ma, mb⟩ := hJ
    refine wpAny_execs_cons (wpAny_Return_some (wpAny_Tuple (spliced_cons (wpAny_Name (wpAny_loadName_local hk (kl _ (by simp)) hns₂ ma ?_)))))
    refine spliced_cons (wpAny_BinOp (wpAny_Compare1 (wpAny_Name (wpAny_loadName_local hk (kl _ (by simp)) hns₂ mb (wpAny_Constant_int (gt_int ?_))))))
    refine wpAny_Compare1 (wpAny_Name (wpAny_loadName_local hk (kl _ (by simp)) hns₂ mb (wpAny_Constant_int (lt_int (sub_bool (spliced_nil ⟨by rw [sizeLine_eq]; simp, ?_⟩))))))
    have hs : b2i (decide (0 < (dueOf ds st).2)) - b2i (decide ((dueOf ds st).2 < 0)) = Int.sign (dueOf ds st).2 := by
      generalize (dueOf ds st).2 = z
      rcases Int.lt_trichotomy z 0 with g | g | g
      · rw [Int.sign_eq_neg_one_of_neg g, decide_eq_false (by omega), decide_eq_true g]; rfl
      · subst g; rfl
      · rw [Int.sign_eq_one_of_pos g, decide_eq_true g, decide_eq_false (by omega)]; rfl
    rw [hs]
    refine hq h₂.objs.size _ _ _ _ (fun b o e => Heap.get?_push_of_some _ (k₂ b o (fun q => ?_) ((sb₁.2 b (fun q => ?_)).trans (keep b o e)))) (Heap.get?_push_size _ rfl)
    · rw [q, eL] at e; exact absurd (Heap.lt_size e) (Nat.lt_irrefl _)
    · rw [q, eL] at e; exact absurd (Heap.lt_size e) (Nat.lt_irrefl _)
  case turn =>
    rintro i v m₁ ⟨h₂, gg, dd, tk₂, oo⟩ hv ⟨av, sv, ta, tb, rfl, rfl, ma, mb⟩ hns₂
    obtain ⟨d, td, hd, rfl⟩ : ∃ d td, ds[i]? = some d ∧ v = .int d td := by
      rw [List.getElem?_toArray, List.getElem?_map] at hv
      cases hz : (ds.zip ts)[i]? with
      | none => rw [hz] at hv; cases hv
      | some x => rw [hz] at hv; cases hv; exact ⟨x.1, x.2, (List.getElem?_zip_eq_some.mp hz).1, rfl⟩
    have htk : ds.take (i + 1) = ds.take i ++ [d] := by rw [List.take_add_one, hd]; rfl
    have hdue : dueOf (ds.take (i + 1)) st = dueStep (dueOf (ds.take i) st) d := by unfold dueOf; rw [htk, List.foldl_append]; rfl
    rw [hdue]
    have hle : (dueOf (ds.take i) st).1 ≤ 64 := by
      have h1 := dueOf_le (ds.take i) (1, st)
      have h2 : (ds.take i).length ≤ 3 := Nat.le_trans (List.length_take_le' i ds) h3
      have h4 : (4 : Nat) ^ (ds.take i).length ≤ 4 ^ 3 := Nat.pow_le_pow_right (by decide) h2
      unfold dueOf; omega
    generalize hst : dueOf (ds.take i) st = x at ma mb hle ⊢
    obtain ⟨a, z⟩ := x
    dsimp only at ma mb hle
    have y1 : (dueStep (a, z) d).1 = a * (cntM d z + cntL d z) := rfl
    have y2 : (dueStep (a, z) d).2 = turned d z := rfl
    generalize dueStep (a, z) d = y at y1 y2 ⊢
    have hc4 := cnt_le d z
    -- side
    have up : ∀ {h h' : Heap}, Heap.SameBut env.locals h₂ h → Heap.SameBut env.locals h h' → Heap.SameBut env.locals h₂ h' := fun x y => ⟨y.1.trans x.1, fun b hb => (y.2 b hb).trans (x.2 b hb)⟩
    refine wpAny_execs_cons (wpAny_Assign_Name (wpAny_mono (Q := fun v s' => ∃ tv tk, v = .int (if d.fmod 2 = 1 then z else -z) tv ∧ s' = ⟨h₂, gg, dd, tk, oo⟩) (wpAny_IfExp (wpAny_isTrue_Compare1 (wpAny_BinOp (wpAny_Name (wpAny_loadName_local hk (kl _ (by simp)) hns₂ rfl (wpAny_Constant_int (mod_int' (by decide) (wpAny_Constant_int (PyProof.Rows.eq_int (wpAny_truthy_bool ?_)))))))))) ?_ fun _ _ e => e))
    · by_cases g : d.fmod 2 = 1
      · rw [if_pos (by rw [g]; rfl), if_pos g]
        exact wpAny_Name (wpAny_loadName_local hk (kl _ (by simp)) hns₂ mb ⟨_, _, rfl, rfl⟩)
      · rw [if_neg (by simpa using g), if_neg g]
        exact wpAny_UnaryOp (wpAny_Name (wpAny_loadName_local hk (kl _ (by simp)) hns₂ mb (neg_int ⟨_, _, rfl, rfl⟩)))
    rintro _ _ ⟨tv, tk₃, rfl, rfl⟩
    refine wpAny_storeName_local (kl _ (by simp)) hns₂ (fun h₃ hns₃ sb₃ => ?_) hp
    -- first
    refine wpAny_execs_cons (wpAny_Assign_Name (wpAny_mono (Q := fun v s' => ∃ tv tk, v = .int (cntM d z) tv ∧ s' = ⟨h₃, gg, dd, tk, oo⟩) (wpAny_IfExp (isTrue_or (wpAny_isTrue_Compare1 (wpAny_BinOp (wpAny_BinOp (wpAny_Name (wpAny_loadName_local hk (kl _ (by simp)) hns₃ rfl (wpAny_Constant_int (floordiv_int (by decide) (wpAny_Constant_int (mod_int' (by decide) (wpAny_Constant_int (PyProof.Rows.eq_int (wpAny_truthy_bool ?_)))))))))))))) ?_ fun _ _ e => e))
    · by_cases g : (d.fdiv 2).fmod 3 = 1
      · rw [if_pos (by rw [g]; rfl), if_pos rfl]
        rw [show cntM d z = 1 from by unfold cntM; rw [if_pos (.inl g)]]
        exact wpAny_Constant_int ⟨_, _, rfl, rfl⟩
      · rw [if_neg (by simpa using g)]
        refine isTrue_or (wpAny_isTrue_Compare1 (wpAny_Name (wpAny_loadName_local hk (kl _ (by simp)) hns₃ rfl (wpAny_Constant_int (gt_int (wpAny_truthy_bool ?_))))))
        by_cases g2 : 0 < (if d.fmod 2 = 1 then z else -z)
        · rw [if_pos (decide_eq_true g2), if_pos rfl]
          rw [show cntM d z = 1 from by unfold cntM; rw [if_pos (.inr g2)]]
          exact wpAny_Constant_int ⟨_, _, rfl, rfl⟩
        · rw [if_neg (by simpa using g2)]
          refine isTrue_or_nil ?_
          rw [if_neg (by decide)]
          rw [show cntM d z = 2 from by unfold cntM; rw [if_neg (by rintro (q | q); exact g q; exact g2 q)]]
          exact wpAny_Constant_int ⟨_, _, rfl, rfl⟩
    rintro _ _ ⟨tv₁, tk₄, rfl, rfl⟩
    refine wpAny_storeName_local (kl _ (by simp)) hns₃ (fun h₄ hns₄ sb₄ => ?_) hp
    -- second
    refine wpAny_execs_cons (wpAny_Assign_Name (wpAny_mono (Q := fun v s' => ∃ tv tk, v = .int (cntL d z) tv ∧ s' = ⟨h₄, gg, dd, tk, oo⟩) (wpAny_IfExp (isTrue_or (wpAny_isTrue_Compare1 (wpAny_BinOp (wpAny_BinOp (wpAny_Name (wpAny_loadName_local hk (kl _ (by simp)) hns₄ rfl (wpAny_Constant_int (floordiv_int (by decide) (wpAny_Constant_int (mod_int' (by decide) (wpAny_Constant_int (PyProof.Rows.eq_int (wpAny_truthy_bool ?_)))))))))))))) ?_ fun _ _ e => e))
    · by_cases g : (d.fdiv 6).fmod 3 = 1
      · rw [if_pos (by rw [g]; rfl), if_pos rfl]
        rw [show cntL d z = 1 from by unfold cntL; rw [if_pos (.inl g)]]
        exact wpAny_Constant_int ⟨_, _, rfl, rfl⟩
      · rw [if_neg (by simpa using g)]
        refine isTrue_or (wpAny_isTrue_Compare1 (wpAny_Name (wpAny_loadName_local hk (kl _ (by simp)) hns₄ rfl (wpAny_Constant_int (lt_int (wpAny_truthy_bool ?_))))))
        by_cases g2 : (if d.fmod 2 = 1 then z else -z) < 0
        · rw [if_pos (decide_eq_true g2), if_pos rfl]
          rw [show cntL d z = 1 from by unfold cntL; rw [if_pos (.inr g2)]]
          exact wpAny_Constant_int ⟨_, _, rfl, rfl⟩
        · rw [if_neg (by simpa using g2)]
          refine isTrue_or_nil ?_
          rw [if_neg (by decide)]
          rw [show cntL d z = 2 from by unfold cntL; rw [if_neg (by rintro (q | q); exact g q; exact g2 q)]]
          exact wpAny_Constant_int ⟨_, _, rfl, rfl⟩
    rintro _ _ ⟨tv₂, tk₅, rfl, rfl⟩
    refine wpAny_storeName_local (kl _ (by simp)) hns₄ (fun h₅ hns₅ sb₅ => ?_) hp
    -- asks
    refine wpAny_execs_cons (wpAny_Assign_Name (wpAny_BinOp (wpAny_Name (wpAny_loadName_local hk (kl _ (by simp)) hns₅ ma ?_))))
    refine wpAny_BinOp (wpAny_Name (wpAny_loadName_local hk (kl _ (by simp)) hns₅ rfl (wpAny_Name (wpAny_loadName_local hk (kl _ (by simp)) hns₅ rfl (add_int (mul_int ?_))))))
    refine wpAny_storeName_local (kl _ (by simp)) hns₅ (fun h₆ hns₆ sb₆ => ?_) hp
    have e1 : ((a : Int) * ((cntM d z : Int) + (cntL d z : Int))) = (y.1 : Int) := by rw [y1]; push_cast; rfl
    have sb := up (up (up sb₃ sb₄) sb₅) sb₆
    refine wpAny_execs_cons (wpAny_If (wpAny_isTrue_Compare1 (wpAny_BinOp (wpAny_BinOp (wpAny_Name (wpAny_loadName_local hk (kl _ (by simp)) hns₆ rfl (wpAny_Constant_int (floordiv_int (by decide) (wpAny_Constant_int (mod_int' (by decide) (wpAny_Constant_int (PyProof.Rows.eq_int (wpAny_truthy_bool ?_)))))))))))))
    by_cases g : (d.fdiv 18).fmod 2 = 1
    · rw [if_pos (by rw [g]; rfl)]
      refine wpAny_execs_cons (wpAny_Assign_Name (wpAny_UnaryOp (wpAny_Name (wpAny_loadName_local hk (kl _ (by simp)) hns₆ mb (neg_int ?_)))))
      refine wpAny_storeName_local (kl _ (by simp)) hns₆ (fun h₇ hns₇ sb₇ => ?_) hp
      have e2 : -z = y.2 := by rw [y2]; unfold turned; rw [if_pos g]
      exact wpAny_execs_nil (wpAny_execs_nil ⟨rfl, ⟨h₇, _, rfl, up sb sb₇⟩, _, hns₇, _, _, _, _, e1, e2, rfl, rfl⟩)
    · rw [if_neg (by simpa using g)]
      have e2 : z = y.2 := by rw [y2]; unfold turned; rw [if_neg g]
      exact wpAny_execs_nil (wpAny_execs_nil ⟨rfl, ⟨h₆, _, rfl, sb⟩, _, hns₆, _, _, _, _, e1, e2, rfl, mb⟩)
end
end Mine
end

-- part Q1
section
open PySem PySem.W PySem.Calls PyProof.Rows
set_option maxRecDepth 100000
set_option maxHeartbeats 4000000
namespace Mine
/-- storing v under a name of the frame -/
noncomputable def Stores (env : Env) (m cm : Str → Option Value) (y : Str) (v : Value) (m' cm' : Str → Option Value) : Prop :=
  ∀ (M : Model) (A : Around) (E : Value → Shared → Prop) (s : Shared) (Q : Unit → Shared → Prop), Fm s.heap env m cm → (∀ h' tk, Fm h' env m' cm' → Ex (fW env) s.heap h' → Q () { s with heap := h', toks := tk }) → wpAny M A (storeName env y v) Q E s
theorem stores_local {env : Env} {m cm : Str → Option Value} {y : Str} {v : Value} (hk : env.scope.kind = .function) (hl : env.kindOf y = some .local) : Stores env m cm y v (fun x => if x = y then some v else m x) cm :=
  fun _ _ _ _ _ F hq => F.stL hk hl hq
theorem stores_cell {env : Env} {m cm : Str → Option Value} {y : Str} {v : Value} {c : Addr} (hk : env.scope.kind = .function) (hl : env.kindOf y = some .cell) (hc : env.cells.lookup y = some c) : Stores env m cm y v m (fun x => if x = y then some v else cm x) :=
  fun _ _ _ _ _ F hq => F.stC hk hl hc hq
theorem Fm.apartOf {h : Heap} {env : Env} {m cm : Str → Option Value} (F : Fm h env m cm) {b : Addr} (hb : h.get? b = none) : b ∉ fW env := fun q => by
  obtain ⟨o, e, _⟩ := F.wok b q
  rw [hb] at e; cases e
section
variable {prog : Program} {w : World} {A : Around} {E : Value → Shared → Prop} {env : Env}
theorem asg_comp {s : Shared} {elt iter : Expr} {x y : Str} {px py : Pos} {ifs : List Expr} {scope : Scope} {cl : List (Str × Addr)} {pos spos : Pos} {Q : Flow → Shared → Prop} {m cm : Str → Option Value} {m' cm' : Addr → Str → Option Value}
    (p : Value → Bool) (F : Value → Value → Prop) (hsw : swapsWith (.ListComp elt [⟨.Name x px, iter, ifs, 0⟩] scope pos) (some (.Name y py)) spos.line env = pure true)
    (hclos : closureFor scope env = pure cl) (hcell : ∀ z ∈ scope.names, z.2 ≠ .cell) (hkind : scope.kind = .function)
    (hnames : ∀ z ∈ scope.names, z.2 = .local → scope.names.lookup z.1 = some .local) (hx : scope.names.lookup x = some .local) (hsto : ∀ D, Stores env m cm y (.ref D) (m' D) (cm' D))
    (h : wpAny (model prog w) A (eval iter env) (fun xv s₁ => wpAny (model prog w) A (pyIter xv) (fun it s₂ => ∃ I fp wr n P St, it = .ref I ∧ Walks prog w A I fp wr n P St ∧ n ≤ sizeLine ∧ St 0 s₂.heap ∧ (∀ b ∈ fp, b < s₂.heap.objs.size) ∧
      (∀ b ∈ wr, b ∉ fW env) ∧ Fm s₂.heap env m cm ∧ QuietOnC prog w A env scope cl x ifs elt wr P p F s₂ ∧
      (∀ D h' tk ys (vs : List Value), s₂.heap.get? D = none → h'.IsList D ys → vs.length = n → (∀ j v, vs[j]? = some v → P j v) → Paired F (vs.filter p) ys.toList →
        Fm h' env (m' D) (cm' D) → (∀ b o, b ∉ fW env → b ∉ wr → s₂.heap.get? b = some o → h'.get? b = some o) → Q .next { s₂ with heap := h', toks := tk })) E s₁) E s)
    (hs : ∀ x, foldedSetIterable iter env x = pure x := by intro _; rfl) :
    wpAny (model prog w) A (exec (.Assign [.Name y py] (.ListComp elt [⟨.Name x px, iter, ifs, 0⟩] scope pos) spos) env) Q E s := by
  rw [exec_Assign_Name_used _ _ _ _ hsw]
  refine wpAny_bind (wpAny_standAt (wpAny_bind ?_))
  show wpAny _ A (do let _ ← comprehension (.ListComp elt [⟨.Name x px, iter, ifs, 0⟩] scope pos) scope env _ (newList []) false (eval iter env) (some (assign (.Name y py) env))) _ _ s
  refine wpAny_bind (wpAny_mono (wpAny_comprehension_free (use := some (assign (.Name y py) env)) (Q := fun _ s' => Q .next s') rfl hs hclos hkind hnames
    (wpAny_mono h (fun xv s₁ h₁ => wpAny_mono h₁ (fun it s₂ h₂ => ?_) fun _ _ e => e) fun _ _ e => e)) (fun _ s' hq => wpAny_pure (wpAny_pure hq)) fun _ _ e => e)
  obtain ⟨I, fp, wr, n, P, St, rfl, W, hsz, hst, hfp, hLf, hn, hq, hQ⟩ := h₂
  refine comp_block_walkC (RR := fun acc C => compPost (model prog w) A E (some (assign (.Name y py) env)) (fun _ s' => Q .next s') acc C) W hsz p F hcell hkind hx hst hfp hq ?_
  intro D C h' tk m₁ ys vs hD hC hDC hnC hlD hplD hlen hP hF hk
  have cC := hn.apartOf hC
  have cD := hn.apartOf hD
  show wpAny _ A (assign (.Name y py) env (.ref D)) _ _ _
  refine wpAny_assign_Name (hsto D _ _ _ { s₂ with heap := h', toks := tk } _ (hn.via fun b o e hb _ => hk b o (fun q => hLf b q hb) e) fun h₂ tk₂ F₂ x₂ => ?_)
  refine ⟨m₁, hnC.at' fun o e => x₂ _ _ cC e, fun h₃ hs₃ => ?_⟩
  refine hQ D h₃ _ ys vs hD ((hlD.at fun o e => x₂ _ _ cD e).extBut hs₃.extBut hDC) hlen hP hF (F₂.via fun b o e hb _ => hs₃.extBut b o (fun q => cC (q ▸ hb)) e) fun b o hbL hbf e =>
    hs₃.extBut b o (by rintro rfl; rw [hC] at e; cases e) (x₂ b o hbL (hk b o hbf e))
theorem asg_compO {s : Shared} {elt iter : Expr} {x y : Str} {px py : Pos} {ifs : List Expr} {scope : Scope} {cl : List (Str × Addr)} {pos spos : Pos} {Q : Flow → Shared → Prop} {m cm : Str → Option Value} {m' cm' : Addr → Str → Option Value}
    (p : Value → Bool) (G : Value → Array Value → Prop) (hsw : swapsWith (.ListComp elt [⟨.Name x px, iter, ifs, 0⟩] scope pos) (some (.Name y py)) spos.line env = pure true)
    (hclos : closureFor scope env = pure cl) (hcell : ∀ z ∈ scope.names, z.2 ≠ .cell) (hkind : scope.kind = .function)
    (hnames : ∀ z ∈ scope.names, z.2 = .local → scope.names.lookup z.1 = some .local) (hx : scope.names.lookup x = some .local) (hsto : ∀ D, Stores env m cm y (.ref D) (m' D) (cm' D))
    (h : wpAny (model prog w) A (eval iter env) (fun xv s₁ => wpAny (model prog w) A (pyIter xv) (fun it s₂ => ∃ I fp wr n P St, it = .ref I ∧ Walks prog w A I fp wr n P St ∧ n ≤ sizeLine ∧ (∀ i h, St i h → ∀ b ∈ wr, ∃ o, h.get? b = some o) ∧ St 0 s₂.heap ∧ (∀ b ∈ fp, b < s₂.heap.objs.size) ∧
      (∀ b ∈ wr, b ∉ fW env) ∧ Fm s₂.heap env m cm ∧ QuietOnCO prog w A env scope cl x ifs elt wr P p G s₂ ∧
      (∀ D h' tk ys (vs : List Value), s₂.heap.get? D = none → h'.IsList D ys → vs.length = n → (∀ j v, vs[j]? = some v → P j v) → Paired (LstIs s₂.heap G h') (vs.filter p) ys.toList → ys.toList.Pairwise (· ≠ ·) →
        Fm h' env (m' D) (cm' D) → (∀ b o, b ∉ fW env → b ∉ wr → s₂.heap.get? b = some o → h'.get? b = some o) → Q .next { s₂ with heap := h', toks := tk })) E s₁) E s)
    (hs : ∀ x, foldedSetIterable iter env x = pure x := by intro _; rfl) :
    wpAny (model prog w) A (exec (.Assign [.Name y py] (.ListComp elt [⟨.Name x px, iter, ifs, 0⟩] scope pos) spos) env) Q E s := by
  rw [exec_Assign_Name_used _ _ _ _ hsw]
  refine wpAny_bind (wpAny_standAt (wpAny_bind ?_))
  show wpAny _ A (do let _ ← comprehension (.ListComp elt [⟨.Name x px, iter, ifs, 0⟩] scope pos) scope env _ (newList []) false (eval iter env) (some (assign (.Name y py) env))) _ _ s
  refine wpAny_bind (wpAny_mono (wpAny_comprehension_free (use := some (assign (.Name y py) env)) (Q := fun _ s' => Q .next s') rfl hs hclos hkind hnames
    (wpAny_mono h (fun xv s₁ h₁ => wpAny_mono h₁ (fun it s₂ h₂ => ?_) fun _ _ e => e) fun _ _ e => e)) (fun _ s' hq => wpAny_pure (wpAny_pure hq)) fun _ _ e => e)
  obtain ⟨I, fp, wr, n, P, St, rfl, W, hsz, hlive, hst, hfp, hLf, hn, hq, hQ⟩ := h₂
  refine comp_block_walkCO (RR := fun acc C => compPost (model prog w) A E (some (assign (.Name y py) env)) (fun _ s' => Q .next s') acc C) W hsz p G hlive hcell hkind hx hst hfp hq ?_
  intro D C h' tk m₁ ys vs hD hC hDC hnC hlD hplD hlen hP hF hpw hk
  have cC := hn.apartOf hC
  have cD := hn.apartOf hD
  show wpAny _ A (assign (.Name y py) env (.ref D)) _ _ _
  refine wpAny_assign_Name (hsto D _ _ _ { s₂ with heap := h', toks := tk } _ (hn.via fun b o e hb _ => hk b o (fun q => hLf b q hb) e) fun h₂ tk₂ F₂ x₂ => ?_)
  refine ⟨m₁, hnC.at' fun o e => x₂ _ _ cC e, fun h₃ hs₃ => ?_⟩
  have conv : ∀ v y, LstAt s₂.heap C D wr G h' v y → LstIs s₂.heap G h₃ v y := by
    rintro v y ⟨T, its, rfl, hT, n1, n2, n3, hl, hg⟩
    exact ⟨T, its, rfl, hT, (hl.at fun o e => x₂ _ _ (hn.apartOf hT) e).extBut hs₃.extBut n1, hg⟩
  have conv' : ∀ {l₁ l₂ : List Value}, Paired (LstAt s₂.heap C D wr G h') l₁ l₂ → Paired (LstIs s₂.heap G h₃) l₁ l₂ := by
    intro l₁ l₂ hp
    induction hp with
    | nil => exact .nil
    | cons a _ ih => exact .cons (conv _ _ a) ih
  refine hQ D h₃ _ ys vs hD ((hlD.at fun o e => x₂ _ _ cD e).extBut hs₃.extBut hDC) hlen hP (conv' hF) hpw (F₂.via fun b o e hb _ => hs₃.extBut b o (fun q => cC (q ▸ hb)) e) fun b o hbL hbf e =>
    hs₃.extBut b o (by rintro rfl; rw [hC] at e; cases e) (x₂ b o hbL (hk b o hbf e))
end
end Mine
end

-- part Q2
section
open PySem PySem.W PySem.Calls PyProof.Rows
set_option maxRecDepth 100000
set_option maxHeartbeats 4000000
namespace Mine
theorem ai_pick {items : Array Value} (h : AllInts items) (lo hi st : Option Int) : AllInts (slicePick items lo hi st) := by
  intro v hv
  unfold slicePick at hv
  rw [List.mem_toArray, List.mem_filterMap] at hv
  obtain ⟨i, _, e⟩ := hv
  exact h v (Array.mem_of_getElem? e)
section
variable {prog : Program} {w : World} {A : Around} {E : Value → Shared → Prop} {s : Shared} {env : Env}
/-- list[lo:hi] -/
theorem slice2 {value : Expr} {lower upper : Option Expr} {p pos : Pos} {Q : Value → Shared → Prop} {l : Addr} {items : Array Value} {lo hi : Option Int}
    (hv : ∀ Q', Q' (.ref l) s → wpAny (model prog w) A (eval value env) Q' E s) (hl : s.heap.IsList l items) (hsz : items.size ≤ sizeLine)
    (h1 : ∀ Q' s', s'.heap = s.heap → (∀ v t, IsPart v lo → Q' v { s' with toks := t }) → wpAny (model prog w) A (evalPart lower env) Q' E s')
    (h2 : ∀ Q' s', s'.heap = s.heap → (∀ v t, IsPart v hi → Q' v { s' with toks := t }) → wpAny (model prog w) A (evalPart upper env) Q' E s')
    (hq : ∀ D h' tk, (∀ b o, s.heap.get? b = some o → h'.get? b = some o) → s.heap.get? D = none → h'.get? D = some { cls := .type "list", data := .seq (slicePick items lo hi none) } → Q (.ref D) { s with heap := h', toks := tk })
    (ht : ∀ o r, letTemporaryGo value o r = pure () := by intro _ _; rfl) : wpAny (model prog w) A (eval (.Subscript value (.Slice lower upper none p) pos) env) Q E s := by
  refine wpAny_Subscript_Slice slot_list_getitem.lookup (hv _ (wpAny_Slice (h1 _ _ rfl fun v1 t1 p1 => h2 _ _ rfl fun v2 t2 p2 => ?_))) ht
  rw [evalPart_none]
  refine wpAny_pure ⟨(hl.push _).typeIs, ?_⟩
  refine wpAny_getItem_list_slice (hl.push _) (Heap.IsSliceOf.new ..) p1 p2 .none (by simp) ?_ hsz
  refine hq _ _ _ (fun b o e => Heap.get?_push_of_some _ (Heap.get?_push_of_some _ e)) (Heap.get?_none_of_le ?_) (Heap.get?_push_size _ rfl)
  simp only [Heap.size_push]
  omega
/-- list[lo::st] -/
theorem slice3 {value step : Expr} {lower upper : Option Expr} {p pos : Pos} {Q : Value → Shared → Prop} {l : Addr} {items : Array Value} {lo hi : Option Int} {st : Int} (hst : st ≠ 0)
    (hv : ∀ Q', Q' (.ref l) s → wpAny (model prog w) A (eval value env) Q' E s) (hl : s.heap.IsList l items) (hsz : items.size ≤ sizeLine)
    (h1 : ∀ Q' s', s'.heap = s.heap → (∀ v t, IsPart v lo → Q' v { s' with toks := t }) → wpAny (model prog w) A (evalPart lower env) Q' E s')
    (h2 : ∀ Q' s', s'.heap = s.heap → (∀ v t, IsPart v hi → Q' v { s' with toks := t }) → wpAny (model prog w) A (evalPart upper env) Q' E s')
    (h3 : ∀ Q' s', s'.heap = s.heap → (∀ v t, IsPart v (some st) → Q' v { s' with toks := t }) → wpAny (model prog w) A (eval step env) Q' E s')
    (hq : ∀ D h' tk, (∀ b o, s.heap.get? b = some o → h'.get? b = some o) → s.heap.get? D = none → h'.get? D = some { cls := .type "list", data := .seq (slicePick items lo hi (some st)) } → Q (.ref D) { s with heap := h', toks := tk })
    (ht : ∀ o r, letTemporaryGo value o r = pure () := by intro _ _; rfl) : wpAny (model prog w) A (eval (.Subscript value (.Slice lower upper (some step) p) pos) env) Q E s := by
  refine wpAny_Subscript_Slice_step slot_list_getitem.lookup (hv _ (wpAny_Slice (h1 _ _ rfl fun v1 t1 p1 => h2 _ _ rfl fun v2 t2 p2 => ?_))) ht
  rw [evalPart_some]
  refine h3 _ _ rfl fun v3 t3 p3 => ⟨(hl.push _).typeIs, ?_⟩
  refine wpAny_getItem_list_slice (hl.push _) (Heap.IsSliceOf.new ..) p1 p2 p3 (by simpa using hst) ?_ hsz
  refine hq _ _ _ (fun b o e => Heap.get?_push_of_some _ (Heap.get?_push_of_some _ e)) (Heap.get?_none_of_le ?_) (Heap.get?_push_size _ rfl)
  simp only [Heap.size_push]
  omega
/-- sum of a list of ints: some int -/
theorem sum_some {l : Addr} {items : Array Value} {Q : Value → Shared → Prop} (hh : A.handled = none) (hl : s.heap.IsList l items) (ha : AllInts items)
    (hq : ∀ n t h' tk, (∀ b o, s.heap.get? b = some o → h'.get? b = some o) → Q (.int n t) { s with heap := h', toks := tk }) : wpAny (model prog w) A (call (.builtin "sum") [.ref l]) Q E s := by
  obtain ⟨xs, rfl⟩ := ha.items
  exact sum_intListG hh hl fun h' tk t' k => hq _ _ _ _ k
theorem relabel_lookup {env : Env} : ∀ {names : List (Str × NameKind)} {n : Str} {k : NameKind}, names.lookup n = some k →
    (names.map fun (n, k) => if (k == NameKind.free && env.scope.kind == .function && env.kindOf n == some .cell) then (n, NameKind.cell) else (n, k)).lookup n = some (if (k == NameKind.free && env.scope.kind == .function && env.kindOf n == some .cell) then NameKind.cell else k)
  | [], _, _, h => by simp at h
  | (n', k') :: r, n, k, h => by
    have ih := @relabel_lookup env r n k
    show List.lookup n ((if (k' == NameKind.free && env.scope.kind == .function && env.kindOf n' == some .cell) = true then (n', NameKind.cell) else (n', k')) :: _) = _
    cases hx : n == n' with
    | true =>
      simp only [List.lookup_cons, hx] at h
      cases h
      rw [beq_iff_eq.mp hx]
      by_cases hc : (k' == NameKind.free && env.scope.kind == .function && env.kindOf n' == some .cell) = true
      · rw [if_pos hc, if_pos hc]; simp
      · rw [if_neg hc, if_neg hc]; simp
    | false =>
      simp only [List.lookup_cons, hx] at h
      by_cases hc : (k' == NameKind.free && env.scope.kind == .function && env.kindOf n' == some .cell) = true
      · rw [if_pos hc]; simp only [List.lookup_cons, hx]; exact ih h
      · rw [if_neg hc]; simp only [List.lookup_cons, hx]; exact ih h
theorem comp_cell {scope : Scope} {cl : List (Str × Addr)} {C : Addr} {n : Str} (h : scope.names.lookup n = some .free) (hk : env.scope.kind = .function) (hc : env.kindOf n = some .cell) : (compEnvC scope cl C env).kindOf n = some .cell := by
  show (relabel scope env).names.lookup n = _
  unfold relabel
  rw [relabel_lookup h, hk, hc]; rfl
theorem comp_kind {scope : Scope} {cl : List (Str × Addr)} {C : Addr} {n : Str} {k : NameKind} (h : scope.names.lookup n = some k) (hk : (k == NameKind.free) = false) : (compEnvC scope cl C env).kindOf n = some k := by
  show (relabel scope env).names.lookup n = _
  unfold relabel
  rw [relabel_lookup h, hk]; rfl
/-- range(e) walked -/
theorem range_it {e : Expr} {rp rpos : Pos} {K : Value → Shared → Prop} {mg mb : Str → Option Value} (hh : A.handled = none) (hk : env.scope.kind = .function) (hx : env.kindOf "range" = some .globalImplicit)
    (hg : s.heap.Ns env.globals mg) (hmiss : mg "range" = none) (hb : s.heap.Ns env.builtins mb) (hv : mb "range" = some (.type "range")) (hse : starEach [e] env = [(false, eval e env)])
    (h : wpAny (model prog w) A (eval e env) (fun nv s₁ => ∃ N tN, nv = .int N tN ∧ -(2 ^ 62) ≤ N ∧ N < 2 ^ 62 ∧
      ∀ I h₂ tk₂, Walks prog w A I [I] [I] N.toNat (fun i v => ∃ t, v = .int (0 + i * 1) t) (fun i h => IsRangeIter h I (0 + (i : Nat) * 1) ((N.toNat : Int) - (i : Nat)) 1) → IsRangeIter h₂ I (0 + ((0 : Nat) : Int) * 1) ((N.toNat : Int) - ((0 : Nat) : Int)) 1 → s₁.heap.get? I = none →
        (∀ b o, s₁.heap.get? b = some o → h₂.get? b = some o) → K (.ref I) { s₁ with heap := h₂, toks := tk₂ }) E s) :
    wpAny (model prog w) A (eval (.Call (.Name "range" rp) [e] [] rpos) env) (fun xv s₁ => wpAny (model prog w) A (pyIter xv) K E s₁) E s := by
  refine wpAny_Call_NameR (Calls.Name_function_global hk hx (Calls.loadGlobal_builtin hg hmiss hb hv ?_))
  rw [show backTo rpos (starEach [e] env) = [(false, eval e env)] from by rw [hse]; rfl]
  refine PySem.callWith_type rfl (Calls.evalArgs_plain (Calls.spliced_cons (wpAny_mono h (fun nv s₁ h₁ => Calls.spliced_nil ?_) fun _ _ e => e)))
  obtain ⟨N, tN, rfl, hlo, hhi, hK⟩ := h₁
  refine call_range_1 ?_
  refine wpAny_pyIter_range (IsRange.new ..) (small_one (by decide) (by decide) hlo hhi) ?_
  have hsz : Builtin.Range.rangeSize 0 N 1 = (N.toNat : Int) := by rw [rangeSize_one]; split <;> omega
  refine hK _ _ _ (Walks.range hh _ 0 1 N.toNat) ?_ (Heap.get?_none_of_le (by simp [Heap.size_push])) (fun _ _ e => Heap.get?_push_of_some _ (Heap.get?_push_of_some _ e))
  have e1 : (0 + ((0 : Nat) : Int) * 1) = 0 := by simp
  have e2 : ((N.toNat : Int) - ((0 : Nat) : Int)) = Builtin.Range.rangeSize 0 N 1 := by rw [hsz]; simp
  rw [e1, e2]
  exact Heap.get?_push_size _ rfl
end
end Mine
end

-- part Q3
section
open PySem PySem.W PySem.W.X PySem.Calls PyProof.Rows
set_option maxRecDepth 100000
set_option maxHeartbeats 4000000
namespace Mine
noncomputable abbrev tQ : Str := "law.<locals>." ++ "<lambda>"
noncomputable abbrev tS : List (Pos × Str) := [(⟨119, 10, 119, 56⟩, tQ)]
/-- what is known of the law's own frame -/
structure LE (s₀ : Heap) (env : Env) : Prop where
  hk : env.scope.kind = .function
  loc : ∀ n ∈ (["k", "tower", "top", "draw", "asks", "stand", "seen"] : List Str), env.kindOf n = some .local
  cel : ∀ n ∈ (["script", "row", "i", "j", "way", "due", "half", "told", "notes", "numbers"] : List Str), env.kindOf n = some .cell ∧ ∃ c, env.cells.lookup n = some c
  glo : ∀ n ∈ (["range", "sum", "_law_layer", "_law_due", "len", "sorted", "cmp_to_key"] : List Str), env.kindOf n = some .globalImplicit
  eg : env.globals = mainGlobals
  eb : env.builtins = builtinsNs
  ec : env.code = .ref 130
  eq : env.qual ++ "<lambda>" = tQ
  low : ∀ w ∈ fW env, 132 ≤ w ∧ s₀.get? w = none
  eL : env.locals = s₀.objs.size
/-- the built-in names -/
structure BN (mg mb : Str → Option Value) : Prop where
  fn : ∀ n ∈ (["sum", "len", "sorted", "abs"] : List String), mg (Str.ofString n) = none ∧ mb (Str.ofString n) = some (.builtin n)
  range : mg "range" = none ∧ mb "range" = some (.type "range")
  ty : mg "type" = none ∧ mb "type" = some (.type "type")
  ni : mg "NotImplemented" = none ∧ mb "NotImplemented" = some .notImplemented
/-- the state between two statements of the law -/
structure LSt (s₀ h : Heap) (env : Env) (m cm : Str → Option Value) : Prop where
  fm : Fm h env m cm
  base : ∀ b o, s₀.get? b = some o → ¬ IsTab o → h.get? b = some o
  tab : ClsTab h s₀.objs.size 104 100 kPos kQual kS
  tabL : TabGood h 114 lS
  tabT : TabGood h 128 tS
  base2 : ∀ b o, s₀.get? b = some o → b ≠ 100 → b ≠ 114 → b ≠ 128 → h.get? b = some o
section
variable {s₀ h h' : Heap} {env : Env} {m cm m' cm' : Str → Option Value}
theorem LSt.ex (e : LE s₀ env) (x : LSt s₀ h env m cm) (F : Fm h' env m' cm') (k : Ex (fW env) h h') : LSt s₀ h' env m' cm' :=
  ⟨F, fun b o eb n => k b o (fun q => by rw [(e.low b q).2] at eb; cases eb) (x.base b o eb n), ClsTab.fld (k.fld x.fm.wok) x.tab, TabGood.fld (k.fld x.fm.wok) x.tabL, TabGood.fld (k.fld x.fm.wok) x.tabT, fun b o eb n1 n2 n3 => k b o (fun q => by rw [(e.low b q).2] at eb; cases eb) (x.base2 b o eb n1 n2 n3)⟩
theorem LSt.keeps (e : LE s₀ env) (x : LSt s₀ h env m cm) (k : ∀ b o, h.get? b = some o → h'.get? b = some o) : LSt s₀ h' env m cm := x.ex e (x.fm.keeps k) (Ex.of k)
theorem LSt.ns {a : Addr} {mm : Str → Option Value} (x : LSt s₀ h env m cm) (n : s₀.Ns a mm) : h.Ns a mm := Ns.via n fun o e nt => x.base a o e nt
theorem LSt.lim (x : LSt s₀ h env m cm) (l : s₀.NoLimit) : h.NoLimit := (by obtain ⟨mc, a, b⟩ := l; exact ⟨mc, x.ns a, b⟩)
theorem LSt.frag {w : World} (x : LSt s₀ h env m cm) (X : (hd.heap_39 w.params).In s₀) : (hd.heap_39 w.params).In h := fun a o e => x.base a o (X a o e) (frag_tab e)
theorem LSt.hlo (e : LE s₀ env) (x : LSt s₀ h env m cm) : ∃ b o, s₀.objs.size ≤ b + 1 ∧ h.get? b = some o := by
  obtain ⟨o, _, _, eo, _⟩ := x.fm.ns
  rw [e.eL] at eo
  exact ⟨_, o, Nat.le_succ _, eo⟩
theorem LSt.gk {mg mb : Str → Option Value} (x : LSt s₀ h env m cm) (G : GK s₀ mg mb) : GK h mg mb := by
  obtain ⟨bm, o, a1, a2, a3, a4, a5, r⟩ := G.bs
  refine ⟨x.ns G.g, x.ns G.b, x.lim G.lim, G.ob, G.bob, G.bc, ⟨bm, o, a1, a2, a3, x.base _ _ a4 (fun z => by have := z.cls; rw [a5] at this; cases this), a5, r⟩, G.nm⟩
end
end Mine
end

-- part Q4
section
open PySem PySem.W PySem.W.X PySem.Calls PyProof.Rows
set_option maxRecDepth 100000
set_option maxHeartbeats 4000000
namespace Mine
theorem isList_ex {W : List Addr} {h h' : Heap} {l : Addr} {items : Array Value} (x : WOk W h) (k : Ex W h h') (y : h.IsList l items) : h'.IsList l items := by
  obtain ⟨o, e, c, n, d⟩ := y
  exact ⟨o, k _ _ (x.off e (by intro _ _ q; rw [d] at q; cases q) (by intro _ q; rw [d] at q; cases q)) e, c, n, d⟩
section
variable {prog : Program} {w : World} {A : Around} {E : Value → Shared → Prop} {s₀ h : Heap} {env : Env} {m cm mg mb : Str → Option Value} {g : Array GenState} {d : Drawn} {tk : Nat} {os : OsState}
/-- script = script[:20] -/
theorem st_script {sl : Addr} {items : Array Value} {p1 p2 p3 p4 p5 p6 : Pos} {n : Int} {Q : Flow → Shared → Prop} (e : LE s₀ env) (st : LSt s₀ h env m cm) (hs : cm "script" = some (.ref sl)) (hl : h.IsList sl items) (hsz : items.size ≤ sizeLine)
    (hq : ∀ D h' tk', LSt s₀ h' env m (fun y => if y = ("script" : Str) then some (.ref D) else cm y) → h'.IsList D (slicePick items none (some n) none) → Q .next ⟨h', g, d, tk', os⟩) :
    wpAny (model prog w) A (exec (.Assign [.Name "script" p1] (.Subscript (.Name "script" p2) (.Slice none (some (.Constant (.int n) 0 p3)) none p4) p5) p6) env) Q E ⟨h, g, d, tk, os⟩ := by
  obtain ⟨kc, c, hc⟩ := e.cel "script" (by simp)
  refine wpAny_Assign_Name (slice2 (s := ⟨h, g, d, tk, os⟩) (lo := none) (hi := some n) (fun Q' hq' => wpAny_Name (st.fm.ldC (s := ⟨h, g, d, tk, os⟩) e.hk kc hc hs hq')) hl hsz ?_ ?_ ?_)
  · intro Q' s' es hq'
    rw [evalPart_none]
    exact wpAny_pure (hq' _ _ .none)
  · intro Q' s' es hq'
    rw [evalPart_some]
    exact wpAny_Constant_int (hq' _ _ (.int _ _))
  intro D h₁ tk₁ keep _ hD
  refine (st.fm.keeps keep).stC (s := ⟨h₁, g, d, tk₁, os⟩) e.hk kc hc fun h₂ tk₂ F x => ?_
  exact hq D h₂ tk₂ ((st.keeps e keep).ex e F x) (isList_ex (st.fm.keeps keep).wok x ⟨_, hD, rfl, _, rfl⟩)

/-- sum(script[k::st]) + [..][k] -/
theorem sum_elt5 {C : Addr} {scope : Scope} {cl : List (Str × Addr)} {c0 c1 c2 c3 c4 st k : Int} {t : Tok} {q0 q1 q2 q3 q4 p1 p2 p3 p4 p5 p6 p7 p8 p9 r1 r2 : Pos} {sl cs' : Addr} {items : Array Value} {s₃ : Shared} {m₃ mg mb : Str → Option Value} {E' : Value → Shared → Prop} (hh : A.handled = none) (hst : st ≠ 0)
    (hk : scope.kind = .function) (ek : env.scope.kind = .function) (kk : scope.names.lookup ("k" : Str) = some .local) (ks : scope.names.lookup ("sum" : Str) = some .globalImplicit) (kc : scope.names.lookup ("script" : Str) = some .free) (kc' : env.kindOf "script" = some .cell) (hcl : cl.lookup ("script" : Str) = some cs')
    (hns : s₃.heap.Ns C m₃) (hm : m₃ "k" = some (.int k t)) (k0 : 0 ≤ k) (k1 : k < 5) (hcs : s₃.heap.IsCell cs' (some (.ref sl))) (hl : s₃.heap.IsList sl items) (ha : AllInts items) (hsz : items.size ≤ sizeLine)
    (hg : s₃.heap.Ns env.globals mg) (hb : s₃.heap.Ns env.builtins mb) (g1 : mg "sum" = none) (g2 : mb "sum" = some (.builtin "sum")) :
    wpAny (model prog w) A (eval (.BinOp (.Call (.Name "sum" p1) [.Subscript (.Name "script" p2) (.Slice (some (.Name "k" p3)) none (some (.Constant (.int st) 0 p4)) p5) p6] [] p7) .Add (.Subscript (.List [.Constant (.int c0) 0 q0, .Constant (.int c1) 0 q1, .Constant (.int c2) 0 q2, .Constant (.int c3) 0 q3, .Constant (.int c4) 0 q4] r1) (.Name "k" p8) r2) p9) (compEnvC scope cl C env))
      (fun y s₄ => (∃ n t, y = .int n t) ∧ Keeps s₃ s₄) E' s₃ := by
  obtain ⟨h₃, gg, dd, tk₃, oo⟩ := s₃
  dsimp only at hns hcs hl hg hb
  have hk' : (compEnvC scope cl C env).scope.kind = .function := hk
  refine wpAny_BinOp (wpAny_Call_Name_kw (Name_function_global hk' (comp_kind ks rfl) (loadGlobal_builtin hg g1 hb g2 (callWith_builtin rfl (evalArgs_plain (spliced_cons ?_))))))
  refine slice3 (lo := some k) (hi := none) (st := st) hst (fun Q' hq' => wpAny_Name (wpAny_loadName_cell hk' (comp_cell kc ek kc') hcl hcs hq')) hl hsz ?_ ?_ ?_ ?_
  · intro Q' s' es hq'
    rw [evalPart_some]
    exact wpAny_Name (wpAny_loadName_local hk' (comp_kind kk rfl) (es ▸ hns) hm (hq' _ _ (.int _ _)))
  · intro Q' s' es hq'
    rw [evalPart_none]
    exact wpAny_pure (hq' _ _ .none)
  · intro Q' s' es hq'
    exact wpAny_Constant_int (hq' _ _ (.int _ _))
  intro D h₄ tk₄ keep₄ _ hD
  refine spliced_nil (sum_some (s := ⟨h₄, gg, dd, tk₄, oo⟩) hh ⟨_, hD, rfl, _, rfl⟩ (ai_pick ha _ _ _) fun n t' h₅ tk₅ keep₅ => ?_)
  have keep : ∀ b o, h₃.get? b = some o → h₅.get? b = some o := fun b o e => keep₅ _ _ (keep₄ _ _ e)
  refine Subscript_ (wpAny_List (spliced_cons (wpAny_Constant_int (k := 0) (pos := q0) (spliced_cons (wpAny_Constant_int (k := 0) (pos := q1) (spliced_cons (wpAny_Constant_int (k := 0) (pos := q2) (spliced_cons (wpAny_Constant_int (k := 0) (pos := q3) (spliced_cons (wpAny_Constant_int (k := 0) (pos := q4) (spliced_nil ⟨by rw [sizeLine_eq]; simp, ?_⟩))))))))))))
  generalize hH : Heap.push h₅ _ = H
  have keepH : ∀ b o, h₅.get? b = some o → H.get? b = some o := fun b o e => hH ▸ Heap.get?_push_of_some _ e
  refine wpAny_Name (wpAny_loadName_local hk' (comp_kind kk rfl) ((hns.keeps keep).keeps keepH) hm ?_)
  have hx : ∃ v u, (#[.int c0 (tk₅ + 0), .int c1 (tk₅ + 1), .int c2 (tk₅ + 2), .int c3 (tk₅ + 3), .int c4 (tk₅ + 4)] : Array Value)[k.toNat]? = some (.int v u) := by
    have : k = 0 ∨ k = 1 ∨ k = 2 ∨ k = 3 ∨ k = 4 := by omega
    rcases this with rfl | rfl | rfl | rfl | rfl <;> exact ⟨_, _, rfl⟩
  obtain ⟨v, u, hx⟩ := hx
  refine list_item (items := #[.int c0 (tk₅ + 0), .int c1 (tk₅ + 1), .int c2 (tk₅ + 2), .int c3 (tk₅ + 3), .int c4 (tk₅ + 4)]) ⟨_, hH ▸ Heap.get?_push_size _ rfl, rfl, _, rfl⟩ k0 (by omega) hx (by with_unfolding_all rfl) ?_
  exact add_int ⟨⟨_, _, rfl⟩, H, _, rfl, fun b o e => keepH _ _ (keep _ _ e)⟩

/-- sum(script[k::st]) + [..][k] -/
theorem sum_elt3 {C : Addr} {scope : Scope} {cl : List (Str × Addr)} {c0 c1 c2 st k : Int} {t : Tok} {q0 q1 q2 p1 p2 p3 p4 p5 p6 p7 p8 p9 r1 r2 : Pos} {sl cs' : Addr} {items : Array Value} {s₃ : Shared} {m₃ mg mb : Str → Option Value} {E' : Value → Shared → Prop} (hh : A.handled = none) (hst : st ≠ 0)
    (hk : scope.kind = .function) (ek : env.scope.kind = .function) (kk : scope.names.lookup ("k" : Str) = some .local) (ks : scope.names.lookup ("sum" : Str) = some .globalImplicit) (kc : scope.names.lookup ("script" : Str) = some .free) (kc' : env.kindOf "script" = some .cell) (hcl : cl.lookup ("script" : Str) = some cs')
    (hns : s₃.heap.Ns C m₃) (hm : m₃ "k" = some (.int k t)) (k0 : 0 ≤ k) (k1 : k < 3) (hcs : s₃.heap.IsCell cs' (some (.ref sl))) (hl : s₃.heap.IsList sl items) (ha : AllInts items) (hsz : items.size ≤ sizeLine)
    (hg : s₃.heap.Ns env.globals mg) (hb : s₃.heap.Ns env.builtins mb) (g1 : mg "sum" = none) (g2 : mb "sum" = some (.builtin "sum")) :
    wpAny (model prog w) A (eval (.BinOp (.Call (.Name "sum" p1) [.Subscript (.Name "script" p2) (.Slice (some (.Name "k" p3)) none (some (.Constant (.int st) 0 p4)) p5) p6] [] p7) .Add (.Subscript (.List [.Constant (.int c0) 0 q0, .Constant (.int c1) 0 q1, .Constant (.int c2) 0 q2] r1) (.Name "k" p8) r2) p9) (compEnvC scope cl C env))
      (fun y s₄ => (∃ n t, y = .int n t) ∧ Keeps s₃ s₄) E' s₃ := by
  obtain ⟨h₃, gg, dd, tk₃, oo⟩ := s₃
  dsimp only at hns hcs hl hg hb
  have hk' : (compEnvC scope cl C env).scope.kind = .function := hk
  refine wpAny_BinOp (wpAny_Call_Name_kw (Name_function_global hk' (comp_kind ks rfl) (loadGlobal_builtin hg g1 hb g2 (callWith_builtin rfl (evalArgs_plain (spliced_cons ?_))))))
  refine slice3 (lo := some k) (hi := none) (st := st) hst (fun Q' hq' => wpAny_Name (wpAny_loadName_cell hk' (comp_cell kc ek kc') hcl hcs hq')) hl hsz ?_ ?_ ?_ ?_
  · intro Q' s' es hq'
    rw [evalPart_some]
    exact wpAny_Name (wpAny_loadName_local hk' (comp_kind kk rfl) (es ▸ hns) hm (hq' _ _ (.int _ _)))
  · intro Q' s' es hq'
    rw [evalPart_none]
    exact wpAny_pure (hq' _ _ .none)
  · intro Q' s' es hq'
    exact wpAny_Constant_int (hq' _ _ (.int _ _))
  intro D h₄ tk₄ keep₄ _ hD
  refine spliced_nil (sum_some (s := ⟨h₄, gg, dd, tk₄, oo⟩) hh ⟨_, hD, rfl, _, rfl⟩ (ai_pick ha _ _ _) fun n t' h₅ tk₅ keep₅ => ?_)
  have keep : ∀ b o, h₃.get? b = some o → h₅.get? b = some o := fun b o e => keep₅ _ _ (keep₄ _ _ e)
  refine Subscript_ (wpAny_List (spliced_cons (wpAny_Constant_int (k := 0) (pos := q0) (spliced_cons (wpAny_Constant_int (k := 0) (pos := q1) (spliced_cons (wpAny_Constant_int (k := 0) (pos := q2) (spliced_nil ⟨by rw [sizeLine_eq]; simp, ?_⟩))))))))
  generalize hH : Heap.push h₅ _ = H
  have keepH : ∀ b o, h₅.get? b = some o → H.get? b = some o := fun b o e => hH ▸ Heap.get?_push_of_some _ e
  refine wpAny_Name (wpAny_loadName_local hk' (comp_kind kk rfl) ((hns.keeps keep).keeps keepH) hm ?_)
  have hx : ∃ v u, (#[.int c0 (tk₅ + 0), .int c1 (tk₅ + 1), .int c2 (tk₅ + 2)] : Array Value)[k.toNat]? = some (.int v u) := by
    have : k = 0 ∨ k = 1 ∨ k = 2 := by omega
    rcases this with rfl | rfl | rfl <;> exact ⟨_, _, rfl⟩
  obtain ⟨v, u, hx⟩ := hx
  refine list_item (items := #[.int c0 (tk₅ + 0), .int c1 (tk₅ + 1), .int c2 (tk₅ + 2)]) ⟨_, hH ▸ Heap.get?_push_size _ rfl, rfl, _, rfl⟩ k0 (by omega) hx (by with_unfolding_all rfl) ?_
  exact add_int ⟨⟨_, _, rfl⟩, H, _, rfl, fun b o e => keepH _ _ (keep _ _ e)⟩
end
end Mine
end

-- part Q5
section
open PySem PySem.W PySem.W.X PySem.Calls PyProof.Rows
set_option maxRecDepth 100000
set_option maxHeartbeats 4000000
namespace Mine
noncomputable abbrev sScope : Scope := { kind := .function, names := [(".0", .local), ("k", .local), ("sum", .globalImplicit), ("script", .free)], isGenerator := false, isCoroutine := false, more := [] }
theorem Keeps.rfl {s : Shared} : Keeps s s := ⟨s.heap, s.toks, Eq.refl _, fun _ _ e => e⟩
theorem swaps_cell {env : Env} {y : Str} {py p : Pos} {l : Nat} {a : Expr} {b : List Comprehension} {sc : Scope} (h : env.kindOf y = some .cell) : swapsWith (.ListComp a b sc p) (some (.Name y py)) l env = pure false := by
  unfold swapsWith
  simp only [h]
  cases env.blockKind <;> rfl
theorem swaps_local {env : Env} {y : Str} {py p : Pos} {l : Nat} {a : Expr} {b : List Comprehension} {sc : Scope} (hk : env.scope.kind = .function) (h : env.kindOf y = some .local) (hp : (py.line == p.line) = true) (hn : (sc.names.any fun (n, k) => n == y && (k == .local || k == .cell)) = false) :
    swapsWith (.ListComp a b sc p) (some (.Name y py)) l env = pure true := by
  unfold swapsWith Env.blockKind
  simp only [h, hk, Expr.pos, hp, ScopeKind.isAnnotationScope]
  simp only [hn]
  rfl
noncomputable def closFrom (cells : List (Str × Addr)) : List (Str × NameKind) → List (Str × Addr) → List (Str × Addr)
  | [], acc => acc
  | (n, k) :: r, acc => closFrom cells r (if k == .free then (n, (cells.lookup n).getD 0) :: acc else acc)
theorem closure_fold {env : Env} : ∀ (names : List (Str × NameKind)) (acc : List (Str × Addr)), (∀ x ∈ names, x.2 = .free → ∃ c, env.cells.lookup x.1 = some c) →
    (forIn names acc fun (x : Str × NameKind) (cs : List (Str × Addr)) => (if x.2 == .free then (do let c ← cellOf env x.1; pure (ForInStep.yield ((x.1, c) :: cs))) else pure (ForInStep.yield cs) : Sem (ForInStep (List (Str × Addr))))) = pure (closFrom env.cells names acc)
  | [], acc, _ => by rw [List.forIn_nil]; rfl
  | (n, k) :: r, acc, h => by
    rw [List.forIn_cons]
    unfold closFrom
    cases hk : k == .free with
    | true =>
      obtain ⟨c, hc⟩ := h (n, k) (.head _) (by simpa using hk)
      simp only [if_true, cellOf, hc, pure_bind, hk, Option.getD_some]
      exact closure_fold r _ fun x hx => h x (.tail _ hx)
    | false =>
      simp only [hk, Bool.false_eq_true, if_false, pure_bind]
      exact closure_fold r _ fun x hx => h x (.tail _ hx)
theorem closure_gen {env : Env} {scope : Scope} (h : ∀ x ∈ scope.names, x.2 = .free → ∃ c, env.cells.lookup x.1 = some c) : closureFor scope env = pure (closFrom env.cells scope.names []) := by
  unfold closureFor
  have := closure_fold (env := env) scope.names [] h
  exact (congrArg (· >>= pure) this).trans (pure_bind _ _)
theorem closure_one {env : Env} {c : Addr} (h : env.cells.lookup ("script" : Str) = some c) : closureFor sScope env = pure ([("script", c)] : List (Str × Addr)) := by
  refine (closure_gen fun x hx hf => ?_).trans ?_
  · simp only [List.mem_cons, List.not_mem_nil, or_false] at hx
    rcases hx with rfl | rfl | rfl | rfl <;> first | (cases hf; done) | exact ⟨c, h⟩
  · show pure ([("script", (env.cells.lookup ("script" : Str)).getD 0)] : List (Str × Addr)) = _
    rw [h]; rfl
theorem ints_of {l1 l2 : List Value} (h : Paired (fun _ y => ∃ n t, y = Value.int n t) l1 l2) : ∃ (ns : List Int) (ts : List Tok), l2 = (ns.zip ts).map (fun x => Value.int x.1 x.2) ∧ ts.length = ns.length ∧ ns.length = l1.length := by
  induction h with
  | nil => exact ⟨[], [], rfl, rfl, rfl⟩
  | cons a _ ih =>
    obtain ⟨n, t, rfl⟩ := a
    obtain ⟨ns, ts, rfl, h1, h2⟩ := ih
    exact ⟨n :: ns, t :: ts, rfl, by simp [h1], by simp [h2]⟩
section
variable {prog : Program} {w : World} {A : Around} {E : Value → Shared → Prop} {s₀ h : Heap} {env : Env} {m cm mg mb : Str → Option Value} {g : Array GenState} {d : Drawn} {tk : Nat} {os : OsState}
theorem st_numbers {sl : Addr} {items : Array Value} {c0 c1 c2 c3 c4 st : Int} {q0 q1 q2 q3 q4 p1 p2 p3 p4 p5 p6 p7 p8 p9 r1 r2 r3 r4 r5 r6 r7 r8 r9 : Pos} {Q : Flow → Shared → Prop} (e : LE s₀ env) (G : GK s₀ mg mb) (N : BN mg mb) (hh : A.handled = none) (x : LSt s₀ h env m cm) (hs : cm "script" = some (.ref sl)) (hl : h.IsList sl items) (ha : AllInts items) (hsz : items.size ≤ sizeLine) (hst : st ≠ 0)
    (hq : ∀ D h' tk' ns, LSt s₀ h' env m (fun y => if y = ("numbers" : Str) then some (.ref D) else cm y) → IntList h' D ns → ns.length = 5 → h'.IsList sl items → Q .next ⟨h', g, d, tk', os⟩) :
    wpAny (model prog w) A (exec (.Assign [.Name "numbers" r7] (.ListComp (.BinOp (.Call (.Name "sum" p1) [.Subscript (.Name "script" p2) (.Slice (some (.Name "k" p3)) none (some (.Constant (.int st) 0 p4)) p5) p6] [] p7) .Add (.Subscript (.List [.Constant (.int c0) 0 q0, .Constant (.int c1) 0 q1, .Constant (.int c2) 0 q2, .Constant (.int c3) 0 q3, .Constant (.int c4) 0 q4] r1) (.Name "k" p8) r2) p9) [⟨.Name "k" r3, .Call (.Name "range" r4) [.Constant (.int 5) 0 r9] [] r5, [], 0⟩] sScope r6) r8) env) Q E ⟨h, g, d, tk, os⟩ := by
  obtain ⟨kc, c, hc⟩ := e.cel "script" (by simp)
  obtain ⟨kn, cn, hcn⟩ := e.cel "numbers" (by simp)
  have hcell := x.fm.cell "script" c hc
  rw [hs] at hcell
  refine wpAny_Assign_Name ?_ (swaps_cell kn)
  refine wpAny_ListComp_free (cl := [("script", c)]) (fun _ => true) (fun _ y => ∃ n t, y = Value.int n t) (closure_one hc) (by decide) rfl (by intro y hy; simp only [List.mem_cons, List.not_mem_nil, or_false] at hy; rcases hy with rfl | rfl | rfl | rfl <;> intro z <;> first | rfl | cases z) rfl ?_
  refine range_it hh e.hk (e.glo _ (by simp)) (by rw [e.eg]; exact x.ns G.g) N.range.1 (by rw [e.eb]; exact x.ns G.b) N.range.2 rfl (wpAny_Constant_int ⟨5, _, rfl, by decide, by decide, fun I h₂ tk₂ W hI nI k₂ => ?_⟩)
  have kI : ∀ {h₃ : Heap}, (∀ b o, b ∉ [I] → h₂.get? b = some o → h₃.get? b = some o) → ∀ b o, h.get? b = some o → h₃.get? b = some o := fun k b o eb => k b o (fun q => by rw [List.mem_singleton] at q; rw [q] at eb; rw [show h.get? I = none from nI] at eb; cases eb) (k₂ b o eb)
  refine ⟨I, [I], [I], _, _, _, rfl, W.bound, by rw [sizeLine_eq]; decide, hI, fun b hb => by rw [List.mem_singleton] at hb; subst hb; exact Heap.lt_size hI, ⟨?_, ?_⟩, ?_⟩
  · intro C i v s₃ m₃ E' _ hP hns hm k₃ _
    exact wpAny_pure ⟨rfl, Keeps.rfl⟩
  · intro C i v s₃ m₃ E' _ hP _ hns hm k₃ _
    obtain ⟨hlt, t, rfl⟩ := hP
    have k := kI k₃
    exact sum_elt5 hh hst rfl e.hk rfl rfl rfl kc rfl hns hm (by omega) (by have : i < 5 := hlt; omega) (hcell.keeps k) (hl.at fun o eb => k _ _ eb) ha hsz (by rw [e.eg]; exact (x.ns G.g).keeps k) (by rw [e.eb]; exact (x.ns G.b).keeps k) (N.fn "sum" (by simp)).1 (N.fn "sum" (by simp)).2
  · intro D h' tk' ys vs nD hD _ hlen hP hF k₃
    have k := kI k₃
    obtain ⟨ns, ts, e1, e2, e3⟩ := ints_of hF
    have hns : ns.length = 5 := by rw [e3, List.filter_eq_self.mpr (fun _ _ => rfl), hlen]; rfl
    refine (x.fm.keeps k).stC (s := ⟨h', g, d, tk', os⟩) e.hk kn hcn fun h₄ tk₄ F₄ x₄ => ?_
    refine hq D h₄ tk₄ ns ((x.keeps e k).ex e F₄ x₄) ⟨ts, ?_, e2⟩ hns (isList_ex (x.fm.keeps k).wok x₄ (hl.at fun o eb => k _ _ eb))
    rw [← e1]
    exact isList_ex (x.fm.keeps k).wok x₄ (by rw [Array.toArray_toList]; exact hD)
theorem st_tower {sl : Addr} {items : Array Value} {c0 c1 c2 st : Int} {q0 q1 q2 p1 p2 p3 p4 p5 p6 p7 p8 p9 r1 r2 r3 r4 r5 r6 r7 r8 u1 u2 u3 u4 u5 u6 u7 : Pos} {Q : Flow → Shared → Prop} (e : LE s₀ env) (G : GK s₀ mg mb) (N : BN mg mb) (hh : A.handled = none) (x : LSt s₀ h env m cm) (hs : cm "script" = some (.ref sl)) (hl : h.IsList sl items) (ha : AllInts items) (hsz : items.size ≤ sizeLine) (hst : st ≠ 0)
    (hpl : (r7.line == r6.line) = true)
    (hq : ∀ D h' tk' ns, LSt s₀ h' env (fun y => if y = ("tower" : Str) then some (.ref D) else m y) cm → IntList h' D ns → 1 ≤ ns.length → ns.length ≤ 3 → Ex (fW env) h h' → Q .next ⟨h', g, d, tk', os⟩) :
    wpAny (model prog w) A (exec (.Assign [.Name "tower" r7] (.ListComp (.BinOp (.Call (.Name "sum" p1) [.Subscript (.Name "script" p2) (.Slice (some (.Name "k" p3)) none (some (.Constant (.int st) 0 p4)) p5) p6] [] p7) .Add (.Subscript (.List [.Constant (.int c0) 0 q0, .Constant (.int c1) 0 q1, .Constant (.int c2) 0 q2] r1) (.Name "k" p8) r2) p9) [⟨.Name "k" r3, .Call (.Name "range" r4) [.BinOp (.Constant (.int 3) 0 u1) .Sub (.BinOp (.Call (.Name "sum" u2) [.Name "script" u3] [] u4) .Mod (.Constant (.int 3) 0 u5) u6) u7] [] r5, [], 0⟩] sScope r6) r8) env) Q E ⟨h, g, d, tk, os⟩ := by
  obtain ⟨kc, c, hc⟩ := e.cel "script" (by simp)
  have kt := e.loc "tower" (by simp)
  have hcell := x.fm.cell "script" c hc
  rw [hs] at hcell
  refine asg_comp (m := m) (cm := cm) (cl := [("script", c)]) (fun _ => true) (fun _ y => ∃ n t, y = Value.int n t) (swaps_local e.hk kt hpl (by decide)) (closure_one hc) (by decide) rfl (by intro y hy; simp only [List.mem_cons, List.not_mem_nil, or_false] at hy; rcases hy with rfl | rfl | rfl | rfl <;> intro z <;> first | rfl | cases z) rfl (fun D => stores_local e.hk kt) ?_
  refine range_it hh e.hk (e.glo _ (by simp)) (by rw [e.eg]; exact x.ns G.g) N.range.1 (by rw [e.eb]; exact x.ns G.b) N.range.2 rfl (wpAny_BinOp (wpAny_Constant_int (wpAny_BinOp (wpAny_Call_Name_kw (Name_function_global e.hk (e.glo _ (by simp)) (loadGlobal_builtin (by rw [e.eg]; exact x.ns G.g) (N.fn "sum" (by simp)).1 (by rw [e.eb]; exact x.ns G.b) (N.fn "sum" (by simp)).2 (callWith_builtin rfl (evalArgs_plain (spliced_cons ?_)))))))))
  refine wpAny_Name (x.fm.ldC (s := ⟨h, g, d, _, os⟩) e.hk kc hc hs (spliced_nil (sum_some (s := ⟨h, g, d, _, os⟩) hh hl ha fun z tz h₁ tk₁ k₁ => ?_)))
  refine wpAny_Constant_int (mod_int' (by decide) (sub_int ?_))
  have hm3 := Int.fmod_eq_emod_of_nonneg z (show (0 : Int) ≤ 3 by decide)
  have z0 : 0 ≤ z.fmod 3 := by omega
  have z3 : z.fmod 3 < 3 := by omega
  refine ⟨3 - z.fmod 3, _, rfl, by omega, by omega, fun I h₂ tk₂ W hI nI k₂ => ?_⟩
  have kI : ∀ {h₃ : Heap}, (∀ b o, b ∉ [I] → h₂.get? b = some o → h₃.get? b = some o) → ∀ b o, h.get? b = some o → h₃.get? b = some o := fun k b o eb => k b o (fun q => by rw [List.mem_singleton] at q; have eb' := k₁ _ _ eb; rw [q] at eb'; rw [show h₁.get? I = none from nI] at eb'; cases eb') (k₂ b o (k₁ _ _ eb))
  have kk : ∀ b o, h.get? b = some o → h₂.get? b = some o := fun b o eb => k₂ _ _ (k₁ _ _ eb)
  have cI : I ∉ fW env := (x.fm.keeps k₁).apartOf nI
  refine ⟨I, [I], [I], _, _, _, rfl, W.bound, by rw [sizeLine_eq]; omega, hI, fun b hb => by rw [List.mem_singleton] at hb; subst hb; exact Heap.lt_size hI, fun b hb => by rw [List.mem_singleton] at hb; subst hb; exact cI, x.fm.keeps kk, ⟨?_, ?_⟩, ?_⟩
  · intro C i v s₃ m₃ E' _ hP hns hm k₃ _
    exact wpAny_pure ⟨rfl, Keeps.rfl⟩
  · intro C i v s₃ m₃ E' _ hP _ hns hm k₃ _
    obtain ⟨hlt, t, rfl⟩ := hP
    have k := kI k₃
    exact sum_elt3 hh hst rfl e.hk rfl rfl rfl kc rfl hns hm (by omega) (by have : i < (3 - z.fmod 3).toNat := hlt; omega) (hcell.keeps k) (hl.at fun o eb => k _ _ eb) ha hsz (by rw [e.eg]; exact (x.ns G.g).keeps k) (by rw [e.eb]; exact (x.ns G.b).keeps k) (N.fn "sum" (by simp)).1 (N.fn "sum" (by simp)).2
  · intro D h' tk' ys vs nD hD hlen hP hF F' k₃
    obtain ⟨ns, ts, e1, e2, e3⟩ := ints_of hF
    have hns : ns.length = (3 - z.fmod 3).toNat := by rw [e3, List.filter_eq_self.mpr (fun _ _ => rfl), hlen]
    have xx : Ex (fW env) h h' := fun b o hb eb => k₃ b o hb (fun q => by rw [List.mem_singleton] at q; have eb' := k₁ _ _ eb; rw [q] at eb'; rw [show h₁.get? I = none from nI] at eb'; cases eb') (kk b o eb)
    refine hq D h' tk' ns (x.ex e F' xx) ⟨ts, ?_, e2⟩ (by omega) (by omega) xx
    rw [← e1, Array.toArray_toList]
    exact hD
end
end Mine
end

-- part Q6
section
open PySem PySem.W PySem.W.X PySem.Calls PyProof.Rows
set_option maxRecDepth 100000
set_option maxHeartbeats 4000000
namespace Mine
noncomputable abbrev rScope : Scope := { kind := .function, names := [(".0", .local), ("k", .local)], isGenerator := false, isCoroutine := false, more := [] }
/-- the five things -/
noncomputable def RowAt (h : Heap) (D : Addr) (r : Nat → Addr) : Prop := ∃ ys : Array Value, h.IsList D ys ∧ ys.size = 5 ∧ ∀ k, k < 5 → ys[k]? = some (.ref (r k)) ∧ ∃ t, h.IsList (r k) #[.int k t]
theorem paired_get {α β : Type} {F : α → β → Prop} {l1 : List α} {l2 : List β} (p : Paired F l1 l2) : ∀ (j : Nat) (a : α), l1[j]? = some a → ∃ b, l2[j]? = some b ∧ F a b := by
  induction p with
  | nil => intro j a h; cases h
  | cons f r ih =>
    intro j a h
    cases j with
    | zero => cases h; exact ⟨_, rfl, f⟩
    | succ j => exact ih j a h
theorem RowAt.ex {W : List Addr} {h h' : Heap} {D : Addr} {r : Nat → Addr} (x : WOk W h) (k : Ex W h h') (y : RowAt h D r) : RowAt h' D r := by
  obtain ⟨ys, hl, hz, hk⟩ := y
  refine ⟨ys, isList_ex x k hl, hz, fun j hj => ?_⟩
  obtain ⟨h1, t, h2⟩ := hk j hj
  exact ⟨h1, t, isList_ex x k h2⟩
theorem IntList.ex {W : List Addr} {h h' : Heap} {l : Addr} {ns : List Int} (x : WOk W h) (k : Ex W h h') (y : IntList h l ns) : IntList h' l ns := (by obtain ⟨ts, a, b⟩ := y; exact ⟨ts, isList_ex x k a, b⟩)
section
variable {prog : Program} {w : World} {A : Around} {E : Value → Shared → Prop} {s₀ h : Heap} {env : Env} {m cm mg mb : Str → Option Value} {g : Array GenState} {d : Drawn} {tk : Nat} {os : OsState}
theorem st_row {p1 p2 p3 p4 p5 p6 p7 p8 p9 : Pos} {Q : Flow → Shared → Prop} (e : LE s₀ env) (G : GK s₀ mg mb) (N : BN mg mb) (hh : A.handled = none) (x : LSt s₀ h env m cm)
    (hq : ∀ D h' tk' r, LSt s₀ h' env m (fun y => if y = ("row" : Str) then some (.ref D) else cm y) → RowAt h' D r → Ex (fW env) h h' → Q .next ⟨h', g, d, tk', os⟩) :
    wpAny (model prog w) A (exec (.Assign [.Name "row" p1] (.ListComp (.List [.Name "k" p2] p3) [⟨.Name "k" p4, .Call (.Name "range" p5) [.Constant (.int 5) 0 p6] [] p7, [], 0⟩] rScope p8) p9) env) Q E ⟨h, g, d, tk, os⟩ := by
  obtain ⟨kn, cn, hcn⟩ := e.cel "row" (by simp)
  refine wpAny_Assign_Name ?_ (swaps_cell kn)
  refine wpAny_ListComp_freeO (cl := []) (fun _ => true) (fun v its => its = #[v]) (closureFor_none (by decide)) (by decide) rfl (by intro y hy; simp only [List.mem_cons, List.not_mem_nil, or_false] at hy; rcases hy with rfl | rfl <;> intro z <;> rfl) rfl ?_
  refine range_it hh e.hk (e.glo _ (by simp)) (by rw [e.eg]; exact x.ns G.g) N.range.1 (by rw [e.eb]; exact x.ns G.b) N.range.2 rfl (wpAny_Constant_int ⟨5, _, rfl, by decide, by decide, fun I h₂ tk₂ W hI nI k₂ => ?_⟩)
  have kI : ∀ {h₃ : Heap}, (∀ b o, b ∉ [I] → h₂.get? b = some o → h₃.get? b = some o) → ∀ b o, h.get? b = some o → h₃.get? b = some o := fun k b o eb => k b o (fun q => by rw [List.mem_singleton] at q; rw [q] at eb; rw [show h.get? I = none from nI] at eb; cases eb) (k₂ b o eb)
  refine ⟨I, [I], [I], _, _, _, rfl, W.bound, by rw [sizeLine_eq]; decide, fun i hh hst b hb => by rw [List.mem_singleton] at hb; subst hb; exact ⟨_, hst⟩, hI, fun b hb => by rw [List.mem_singleton] at hb; subst hb; exact Heap.lt_size hI, ⟨?_, ?_⟩, ?_⟩
  · intro C i v s₃ m₃ E' _ hP hns hm k₃ _
    exact wpAny_pure ⟨rfl, Keeps.rfl⟩
  · intro C i v s₃ m₃ E' _ hP _ hns hm k₃ _
    refine wpAny_List (spliced_cons (wpAny_Name (wpAny_loadName_local (env := compEnvC rScope [] C env) rfl (comp_kind rfl rfl) hns hm (spliced_nil ⟨by rw [sizeLine_eq]; simp, ?_⟩))))
    exact ⟨⟨s₃.heap.objs.size, _, rfl, Heap.get?_none_of_le (Nat.le_refl _), ⟨_, Heap.get?_push_size _ rfl, rfl, _, rfl⟩, rfl⟩, ⟨_, _, rfl, fun b o eb => Heap.get?_push_of_some _ eb⟩⟩
  · intro D h' tk' ys vs nD hD _ hlen hP hF _ _ k₃
    have k := kI k₃
    rw [List.filter_eq_self.mpr (fun _ _ => rfl)] at hF
    have hys : ys.size = 5 := by rw [← Array.length_toList, ← hF.length, hlen]; rfl
    have R : RowAt h' D (fun j => match ys[j]? with | some (.ref T) => T | _ => 0) := by
      refine ⟨ys, hD, hys, fun j hj => ?_⟩
      have hv : ∃ v, vs[j]? = some v := ⟨_, List.getElem?_eq_getElem (by rw [hlen]; exact hj)⟩
      obtain ⟨v, hv⟩ := hv
      obtain ⟨_, t, rfl⟩ := hP j v hv
      obtain ⟨y, hy, T, its, rfl, hT, hl, rfl⟩ := paired_get hF j _ hv
      rw [Array.getElem?_toList] at hy
      have hr : (match ys[j]? with | some (.ref T) => T | _ => 0 : Addr) = T := by rw [hy]
      show ys[j]? = some (.ref (match ys[j]? with | some (.ref T) => T | _ => 0)) ∧ ∃ t, h'.IsList (match ys[j]? with | some (.ref T) => T | _ => 0) #[.int j t]
      rw [hr]
      refine ⟨hy, t, ?_⟩
      have e0 : (0 + (j : Int) * 1) = (j : Int) := by omega
      rw [e0] at hl
      exact hl
    refine (x.fm.keeps k).stC (s := ⟨h', g, d, tk', os⟩) e.hk kn hcn fun h₄ tk₄ F₄ x₄ => ?_
    exact hq D h₄ tk₄ _ ((x.keeps e k).ex e F₄ x₄) (R.ex (x.fm.keeps k).wok x₄) ((Ex.of k).trans x₄)
theorem st_notes {p1 p2 p3 : Pos} {Q : Flow → Shared → Prop} (e : LE s₀ env) (x : LSt s₀ h env m cm)
    (hq : ∀ nt h' tk', LSt s₀ h' env m (fun y => if y = ("notes" : Str) then some (.ref nt) else cm y) → NotesAt h' nt [] → h.objs.size ≤ nt → Ex (fW env) h h' → Q .next ⟨h', g, d, tk', os⟩) :
    wpAny (model prog w) A (exec (.Assign [.Name "notes" p1] (.List [] p2) p3) env) Q E ⟨h, g, d, tk, os⟩ := by
  obtain ⟨kn, cn, hcn⟩ := e.cel "notes" (by simp)
  refine wpAny_Assign_Name (wpAny_List (spliced_nil ⟨by rw [sizeLine_eq]; simp, ?_⟩))
  have k : ∀ b o, h.get? b = some o → (h.push { cls := .type "list", data := .seq ([] : List Value).toArray }).get? b = some o := fun b o eb => Heap.get?_push_of_some _ eb
  have nn : h.get? h.objs.size = none := Heap.get?_none_of_le (Nat.le_refl _)
  refine (x.fm.keeps k).stC (s := ⟨h.push { cls := .type "list", data := .seq ([] : List Value).toArray }, g, d, tk, os⟩) e.hk kn hcn fun h₄ tk₄ F₄ x₄ => ?_
  exact hq h.objs.size h₄ tk₄ ((x.keeps e k).ex e F₄ x₄) ⟨0, x₄ _ _ (x.fm.apartOf nn) (Heap.get?_push_size _ rfl)⟩ (Nat.le_refl _) ((Ex.of k).trans x₄)
noncomputable abbrev FnIn (h : Heap) (f : Addr) : Prop := ∃ oc od fd sl, h.get? f = some ⟨oc, od, .func fd, sl⟩
noncomputable abbrev topE (q1 q2 p0 p1 p2 p3 p4 p5 p6 : Pos) : Expr :=
  .Lambda { posonlyargs := [], args := [⟨"a", none, q1⟩, ⟨"b", none, q2⟩], vararg := none, kwonlyargs := [], kw_defaults := [], kwarg := none, defaults := [] }
    (.Call (.Name "_law_answer" p0) [.Name "notes" p1, .Name "numbers" p2, .Name "a" p3, .Name "b" p4] [] p5) bScope p6
theorem st_top {q1 q2 p0 p1 p2 p3 p4 p5 p7 p8 : Pos} {nt nb : Addr} {Q : Flow → Shared → Prop} {w : World} (X : (hd.heap_39 w.params).In s₀) (e : LE s₀ env) (G : GK s₀ mg mb) (x : LSt s₀ h env m cm) (hn : cm "notes" = some (.ref nt)) (hb : cm "numbers" = some (.ref nb))
    (hq : ∀ f h' tk', LSt s₀ h' env (fun y => if y = ("top" : Str) then some (.ref f) else m y) cm → FnIn h' f → (∀ W, WOi W h' → (∀ n c, env.cells.lookup n = some c → (n = ("notes" : Str) ∨ n = ("numbers" : Str)) → c ∉ W) → BaseAt (hideAll h' W) f nt nb) → h.get? f = none → (∀ b o, h.get? b = some o → b ∉ fW env → ¬ IsTab o → h'.get? b = some o) → Q .next ⟨h', g, d, tk', os⟩) :
    wpAny (model prog w) A (exec (.Assign [.Name "top" p7] (topE q1 q2 p0 p1 p2 p3 p4 p5 ⟨119, 10, 119, 56⟩) p8) env) Q E ⟨h, g, d, tk, os⟩ := by
  obtain ⟨kn, cn, hcn⟩ := e.cel "notes" (by simp)
  obtain ⟨kb, cb, hcb⟩ := e.cel "numbers" (by simp)
  have hcl : closureFor bScope env = pure ([("numbers", cb), ("notes", cn)] : List (Str × Addr)) := by
    refine (closure_gen fun y hy hf => ?_).trans ?_
    · simp only [List.mem_cons, List.not_mem_nil, or_false] at hy
      rcases hy with rfl | rfl | rfl | rfl | rfl <;> first | (cases hf; done) | exact ⟨_, hcn⟩ | exact ⟨_, hcb⟩
    · show pure ([("numbers", (env.cells.lookup ("numbers" : Str)).getD 0), ("notes", (env.cells.lookup ("notes" : Str)).getD 0)] : List (Str × Addr)) = _
      rw [hcn, hcb]; rfl
  have GG := x.gk G
  have T0 : ∀ {P : Addr} {S : List (Pos × Str)}, TabGood h P S → ∃ ps : Array Value, h.get? P = some (tabObj ps) ∧ TriplesOk ps.toList := fun ⟨ps, a, b, _⟩ => ⟨ps, a, b⟩
  have B : h.BuiltinsAt mg 128 := by
    obtain ⟨bm, ob, b1, b2, b3, b4, b5, b6⟩ := GG.bs
    refine ⟨bm, ob, b1, b2, b3, fun q => ?_, b4, b5, b6⟩
    obtain ⟨ps, e', ok⟩ := T0 x.tabT
    rw [q, e'] at b4; cases b4; cases b5
  have C : CodeHd h 130 128 := codeHd_of_K (c := 130) (P := 128) (x.frag X) (by kernel_rfl)
  refine wpAny_Assign_Name (lam_make (s := ⟨h, g, d, tk, os⟩) rfl e.eq hcl e.eg GG.g e.ec C x.tabT (by decide) B (.head _) (fun y hy _ _ => by rw [List.mem_singleton] at hy; subst hy; rfl) fun f cv ctv h₁ tk₁ k₁ e₁ n₁ r₁ t₁ => ?_)
  have nt' : ∀ b o, h.get? b = some o → ¬ IsTab o → h₁.get? b = some o := fun b o eb n => k₁ b o (fun q => by
    obtain ⟨ps, e', ok⟩ := T0 x.tabT
    rw [q, e'] at eb; cases eb; exact n ⟨ps, ok, rfl⟩) eb
  have F₁ : Fm h₁ env m cm := x.fm.via fun b o eb _ n => nt' b o eb n
  have x₁ : LSt s₀ h₁ env m cm := by
    refine ⟨F₁, fun b o eb n => nt' b o (x.base b o eb n) n, ClsTab.mv (fun b o eb n => k₁ b o ?_ eb) x.tab, TabGood.mv (fun b o eb n => k₁ b o ?_ eb) x.tabL, t₁, fun b o eb n1 n2 n3 => k₁ b o n3 (x.base2 b o eb n1 n2 n3)⟩
    · rintro rfl
      obtain ⟨ps, e', ok⟩ := T0 x.tabT
      rcases n with n | n | n
      · rw [e'] at eb; cases eb; exact n ⟨ps, ok, rfl⟩
      · exact absurd n (by decide)
      · exact absurd n (Nat.not_le_of_gt (Nat.lt_trans (by decide) (Heap.lt_size (X 131 _ rfl))))
    · rintro rfl
      obtain ⟨ps, e', ok⟩ := T0 x.tabT
      rcases n with n | n
      · rw [e'] at eb; cases eb; exact n ⟨ps, ok, rfl⟩
      · exact absurd n (by decide)
  refine F₁.stL (s := ⟨h₁, g, d, tk₁, os⟩) e.hk (e.loc "top" (by simp)) fun h₂ tk₂ F₂ x₂ => ?_
  have e₂ := x₂ _ _ (F₁.wok.off e₁ (by intro _ _ q; cases q) (by intro _ q; cases q)) e₁
  refine hq f h₂ tk₂ (x₁.ex e F₂ x₂) ⟨_, _, _, _, e₂⟩ (fun W hW hc => ?_) n₁ fun b o eb nb' n => x₂ b o nb' (nt' b o eb n)
  refine ⟨_, _, _, _, _, _, _, _, _, _, _, _, _, _, _, _, _, get_ftF hW Ft.hide e₂ (by intro _ _ q; cases q) (by intro _ q; cases q) (by intro _ q; cases q), CodeRec.ft hW Ft.hide (CodeRec.fld (x₂.fld F₁.wok) r₁), ⟨cn, rfl, ?_⟩, ⟨cb, rfl, ?_⟩⟩
  · have := F₂.cell "notes" cn hcn; rw [hn] at this; exact IsCell.ft hW Ft.hide (hc _ _ hcn (.inl rfl)) this
  · have := F₂.cell "numbers" cb hcb; rw [hb] at this; exact IsCell.ft hW Ft.hide (hc _ _ hcb (.inr rfl)) this
end
end Mine
end

-- part Q7
section
open PySem PySem.W PySem.W.X PySem.Calls PyProof.Rows
set_option maxRecDepth 100000
set_option maxHeartbeats 4000000
namespace Mine
/-- the names that the law stores behind the tower's ground -/
noncomputable abbrev gN : List Str := ["script", "row", "i", "j", "way", "due", "half", "told"]
noncomputable abbrev gW (env : Env) : List Addr := env.locals :: gN.filterMap fun n => env.cells.lookup n
section
variable {M : Model} {A : Around} {E : Value → Shared → Prop} {s : Shared} {env : Env} {m cm : Str → Option Value} {h h' : Heap}
theorem gW_sub {w : Addr} (hw : w ∈ gW env) : w ∈ fW env := by
  rcases List.mem_cons.mp hw with rfl | hw
  · exact .head _
  · obtain ⟨n, _, e⟩ := List.mem_filterMap.mp hw
    exact .tail _ (List.mem_map.mpr ⟨(n, w), mem_of_lookup e, rfl⟩)
theorem gW_cell {n : Str} {c : Addr} (hn : n ∈ gN) (hc : env.cells.lookup n = some c) : c ∈ gW env := .tail _ (List.mem_filterMap.mpr ⟨n, hn, hc⟩)
theorem Fm.gOff (F : Fm h env m cm) {n : Str} {c : Addr} (hc : env.cells.lookup n = some c) (hn : n ∉ gN) : c ∉ gW env := fun q => by
  rcases List.mem_cons.mp q with q | q
  · exact F.cellNe hc q
  · obtain ⟨n', hn', e⟩ := List.mem_filterMap.mp q
    exact hn (name_of_addr F.apart (mem_of_lookup hc) (mem_of_lookup e) ▸ hn')
theorem Fm.gok (F : Fm h env m cm) : WOk (gW env) h := fun w hw => F.wok w (gW_sub hw)
theorem Ex.sub {W W' : List Addr} (k : Ex W h h') (hs : ∀ w ∈ W, w ∈ W') : Ex W' h h' := fun b o hb e => k b o (fun q => hb (hs b q)) e
theorem Fm.stL₂ {n : Str} {v : Value} {Q : Unit → Shared → Prop} (F : Fm s.heap env m cm) (hk : env.scope.kind = .function) (hl : env.kindOf n = some .local)
    (hq : ∀ h' tk, Fm h' env (fun y => if y = n then some v else m y) cm → Ex (gW env) s.heap h' → Q () { s with heap := h', toks := tk }) : wpAny M A (storeName env n v) Q E s := by
  refine wpAny_storeName_local hl F.ns (fun h' hn' hs' => hq h' _ ⟨hn', fun k c hc => (F.cell k c hc).sameBut hs' (F.cellNe hc), F.apart, F.named⟩ fun b o hb e => ?_) (by rw [hk]; rfl)
  exact (hs'.2 b (fun q => hb (q ▸ .head _))).trans e
theorem Fm.stC₂ {n : Str} {c : Addr} {v : Value} {Q : Unit → Shared → Prop} (F : Fm s.heap env m cm) (hk : env.scope.kind = .function) (hl : env.kindOf n = some .cell) (hc : env.cells.lookup n = some c) (hn : n ∈ gN)
    (hq : ∀ h' tk, Fm h' env m (fun y => if y = n then some v else cm y) → Ex (gW env) s.heap h' → Q () { s with heap := h', toks := tk }) : wpAny M A (storeName env n v) Q E s := by
  refine wpAny_storeName_cell hk hl hc (F.cell n c hc) fun h' hc' hs' => hq h' s.toks ⟨F.ns.sameBut hs' (Ne.symm (F.cellNe hc)), fun k c' hk' => ?_, F.apart, F.named⟩ fun b o hb e => ?_
  · by_cases hkn : k = n
    · subst hkn
      rw [hc] at hk'; cases hk'
      simpa using hc'
    · rw [if_neg hkn]
      exact (F.cell k c' hk').sameBut hs' fun e => hkn (name_of_addr F.apart (mem_of_lookup hk') (e ▸ mem_of_lookup hc))
  · exact (hs'.2 b (fun q => hb (q ▸ gW_cell hn hc))).trans e
end
noncomputable abbrev nAt (ns : List Int) (k : Int) : Int := ns.getD k.toNat 0
/-- the state behind the tower's ground: H is what stays -/
structure TS (w : World) (mg mb : Str → Option Value) (s₀ h H : Heap) (env : Env) (m cm : Str → Option Value) (nt nb D tw : Addr) (r : Nat → Addr) (ns ds : List Int) : Prop where
  st : LSt s₀ h env m cm
  kp : Kp nt H h
  off : ∀ w ∈ gW env, H.get? w = none
  dom : ∀ b o, H.get? b = some o → ∃ o', h.get? b = some o'
  gd : Gd w H nt mg mb
  row : RowAt H D r
  nbs : IntList H nb ns
  tws : IntList H tw ds
  nbt : nb ≠ nt
  Dt : D ≠ nt
  twt : tw ≠ nt
  rt : ∀ k, k < 5 → r k ≠ nt
  n5 : ns.length = 5
  d1 : 1 ≤ ds.length
  d3 : ds.length ≤ 3
  notes : ∃ xs, NotesAt h nt xs ∧ xs.length ≤ 500000
  s0n : s₀.get? nt = none
  ntW : nt ∉ fW env
  cRow : cm "row" = some (.ref D)
  cNt : cm "notes" = some (.ref nt)
  cNb : cm "numbers" = some (.ref nb)
  mTw : m "tower" = some (.ref tw)
section
variable {w : World} {mg mb : Str → Option Value} {s₀ h h' H : Heap} {env : Env} {m cm m' cm' : Str → Option Value} {nt nb D tw : Addr} {r : Nat → Addr} {ns ds : List Int}
theorem TS.move (x : TS w mg mb s₀ h H env m cm nt nb D tw r ns ds) (e : LE s₀ env) (F : Fm h' env m' cm') (k : Ex (gW env) h h') (c1 : cm' "row" = cm "row") (c2 : cm' "notes" = cm "notes") (c3 : cm' "numbers" = cm "numbers") (c4 : m' "tower" = m "tower") :
    TS w mg mb s₀ h' H env m' cm' nt nb D tw r ns ds :=
  { x with
    st := x.st.ex e F (k.sub fun _ => gW_sub)
    kp := fun b o n t eb => k b o (fun q => by rw [x.off b q] at eb; cases eb) (x.kp b o n t eb)
    dom := fun b o eb => (by obtain ⟨o', e'⟩ := x.dom b o eb; exact ⟨o', k b o' (fun q => by rw [x.off b q] at eb; cases eb) e'⟩)
    notes := (by obtain ⟨xs, ⟨n, en⟩, l⟩ := x.notes; exact ⟨xs, ⟨n, k _ _ (fun q => x.ntW (gW_sub q)) en⟩, l⟩)
    cRow := c1.trans x.cRow, cNt := c2.trans x.cNt, cNb := c3.trans x.cNb, mTw := c4.trans x.mTw }
theorem TS.keeps (x : TS w mg mb s₀ h H env m cm nt nb D tw r ns ds) (e : LE s₀ env) (k : ∀ b o, h.get? b = some o → h'.get? b = some o) : TS w mg mb s₀ h' H env m cm nt nb D tw r ns ds := x.move e (x.st.fm.keeps k) (Ex.of k) rfl rfl rfl rfl
theorem Kq.flds (k : Kq nt h h') {xs : List Value} (n : NotesAt h nt xs) : Flds h h' := fun b o vs d eb => k b o (fun q => by obtain ⟨c, en⟩ := n; rw [q, en] at eb; cases eb; cases d) eb
/-- behind comparisons -/
theorem TS.kq (x : TS w mg mb s₀ h H env m cm nt nb D tw r ns ds) (k : Kq nt h h') {xs : List Value} (hn : NotesAt h' nt xs) (hl : xs.length ≤ 500000) : TS w mg mb s₀ h' H env m cm nt nb D tw r ns ds := by
  obtain ⟨xs₀, n₀, _⟩ := x.notes
  have fl := k.flds n₀
  exact { x with
    st := ⟨x.st.fm.via fun b o eb hb _ => k b o (fun q => x.ntW (q ▸ hb)) eb, fun b o eb n => k b o (fun q => by rw [q, x.s0n] at eb; cases eb) (x.st.base b o eb n), ClsTab.fld fl x.st.tab, TabGood.fld fl x.st.tabL, TabGood.fld fl x.st.tabT, fun b o eb n1 n2 n3 => k b o (fun q => by rw [q, x.s0n] at eb; cases eb) (x.st.base2 b o eb n1 n2 n3)⟩
    kp := x.kp.trans k.kp
    dom := fun b o eb => by
      obtain ⟨o', e'⟩ := x.dom b o eb
      by_cases q : b = nt
      · obtain ⟨c, en⟩ := hn; exact ⟨_, q ▸ en⟩
      · exact ⟨o', k b o' q e'⟩
    notes := ⟨xs, hn, hl⟩ }
end
end Mine
end

-- part Q8
section
open PySem PySem.W PySem.W.X PySem.Calls PyProof.Rows
set_option maxRecDepth 100000
set_option maxHeartbeats 4000000
namespace Mine
theorem sign_pos (z : Int) : 0 < Int.sign z ↔ 0 < z := by
  rcases Int.lt_trichotomy z 0 with g | g | g
  · rw [Int.sign_eq_neg_one_of_neg g]; omega
  · subst g; simp
  · rw [Int.sign_eq_one_of_pos g]; omega
theorem sign_neg' (z : Int) : Int.sign z < 0 ↔ z < 0 := by
  rcases Int.lt_trichotomy z 0 with g | g | g
  · rw [Int.sign_eq_neg_one_of_neg g]; omega
  · subst g; simp
  · rw [Int.sign_eq_one_of_pos g]; omega
theorem cntM_sign (d z : Int) : cntM d (Int.sign z) = cntM d z := by
  unfold cntM
  have h1 := sign_pos z
  have h2 := sign_neg' z
  by_cases g : d.fmod 2 = 1
  · simp only [if_pos g, h1]
  · simp only [if_neg g, show (0 < -Int.sign z) ↔ (0 < -z) by omega]
theorem cntL_sign (d z : Int) : cntL d (Int.sign z) = cntL d z := by
  unfold cntL
  have h1 := sign_pos z
  have h2 := sign_neg' z
  by_cases g : d.fmod 2 = 1
  · simp only [if_pos g, h2]
  · simp only [if_neg g, show (-Int.sign z < 0) ↔ (-z < 0) by omega]
theorem turned_sign (d z : Int) : turned d (Int.sign z) = Int.sign (turned d z) := by
  unfold turned
  by_cases g : (d.fdiv 18).fmod 2 = 1
  · rw [if_pos g, if_pos g, Int.sign_neg]
  · rw [if_neg g, if_neg g]
theorem sgn_sign (z : Int) : Sgn (Int.sign z) := by
  rcases Int.lt_trichotomy z 0 with g | g | g
  · rw [Int.sign_eq_neg_one_of_neg g]; exact .inl rfl
  · subst g; exact .inr (.inl rfl)
  · rw [Int.sign_eq_one_of_pos g]; exact .inr (.inr rfl)
/-- what the comparison at f promises of the five things -/
noncomputable def TopAt (w : World) (H : Heap) (nt f : Addr) (r : Nat → Addr) (ns ds : List Int) : Prop := ∀ i j : Nat, i < 5 → j < 5 →
  Asks PySem.Challenge.pw_dz0037_02 w nt H f (.ref (r i)) (.ref (r j)) (Int.sign (dueOf ds (standOf (nAt ns i) (nAt ns j))).2) (dueOf ds (standOf (nAt ns i) (nAt ns j))).1 (2 + 5 * ds.length) (6 + 11 * ds.length)
noncomputable def TopX (w : World) (H : Heap) (nt f : Addr) (r : Nat → Addr) (ns ds : List Int) : Prop := ∀ i j : Nat, i < 5 → j < 5 →
  AsksX PySem.Challenge.pw_dz0037_02 w nt H f (.ref (r i)) (.ref (r j)) (Int.sign (dueOf ds (standOf (nAt ns i) (nAt ns j))).2) (dueOf ds (standOf (nAt ns i) (nAt ns j))).1 (2 + 5 * ds.length) (6 + 11 * ds.length)
theorem sign_sign (z : Int) : Int.sign (Int.sign z) = Int.sign z := by rcases sgn_sign z with e | e | e <;> rw [e] <;> rfl
theorem TopX.top {w : World} {H : Heap} {nt f : Addr} {r : Nat → Addr} {ns ds : List Int} (x : TopX w H nt f r ns ds) : TopAt w H nt f r ns ds := fun i j hi hj => (x i j hi hj).asks (sign_sign _)
theorem TopAt.mono {w : World} {H H' : Heap} {nt f : Addr} {r : Nat → Addr} {ns ds : List Int} (x : TopAt w H nt f r ns ds) (k : Kp nt H H') : TopAt w H' nt f r ns ds := fun i j hi hj => (x i j hi hj).mono k
section
variable {w : World} {mg mb : Str → Option Value} {s₀ h h' H : Heap} {env : Env} {m cm m' cm' : Str → Option Value} {nt nb D tw : Addr} {r : Nat → Addr} {ns ds : List Int}
theorem list_hide {W : List Addr} {l : Addr} {items : Array Value} (x : WOi W h) (y : h.IsList l items) : (hideAll h W).IsList l items := by
  obtain ⟨o, e, c, n, d⟩ := y
  exact ⟨o, hideAll_get _ e (x.off e (by intro _ _ q; rw [d] at q; cases q) (by intro _ q; rw [d] at q; cases q) (.inr (by intro _ _ _ q; rw [d] at q; cases q))), c, n, d⟩
theorem nums_of {l : Addr} (y : IntList h l ns) (h5 : ns.length = 5) (hne : l ≠ nt) : Nums h nt l (nAt ns) := by
  obtain ⟨ts, hl, hlen⟩ := y
  refine ⟨⟨_, fun k => ts.getD k.toNat 0, hl, fun k k0 k5 => ?_⟩, hne⟩
  have hk : k.toNat < ns.length := by omega
  have hk' : k.toNat < ts.length := by omega
  rw [List.getElem?_toArray, List.getElem?_map, List.getElem?_eq_getElem (by simp; omega)]
  simp [nAt, List.getD_eq_getElem?_getD, List.getElem?_eq_getElem hk, List.getElem?_eq_getElem hk']
theorem thing_of (y : RowAt h D r) {k : Nat} (hk : k < 5) (hne : r k ≠ nt) : Thing h nt (r k) k := by
  obtain ⟨ys, _, _, h3⟩ := y
  obtain ⟨_, t, h4⟩ := h3 k hk
  exact ⟨⟨t, h4⟩, hne, by omega, by omega⟩
theorem ground {f : Addr} (X : (hd.heap_39 w.params).In s₀) (e : LE s₀ env) (G : GK s₀ mg mb) (B : BN mg mb) (x : LSt s₀ h env m cm) (hrow : RowAt h D r) (hnb : IntList h nb ns) (htw : IntList h tw ds) (hnt : NotesAt h nt []) (hlow : s₀.objs.size < nt)
    (nbt : nb ≠ nt) (Dt : D ≠ nt) (twt : tw ≠ nt) (rt : ∀ k, k < 5 → r k ≠ nt) (n5 : ns.length = 5) (d1 : 1 ≤ ds.length) (d3 : ds.length ≤ 3) (cRow : cm "row" = some (.ref D)) (cNt : cm "notes" = some (.ref nt)) (cNb : cm "numbers" = some (.ref nb)) (mTw : m "tower" = some (.ref tw))
    (hB : ∀ W, WOi W h → (∀ n c, env.cells.lookup n = some c → (n = ("notes" : Str) ∨ n = ("numbers" : Str)) → c ∉ W) → BaseAt (hideAll h W) f nt nb) : TS w mg mb s₀ h (hideAll h (gW env)) env m cm nt nb D tw r ns ds ∧ TopAt w (hideAll h (gW env)) nt f r ns [] := by
  have W := x.fm.gok
  have low : ∀ a, a < 132 → a ∉ gW env := fun a ha q => absurd (e.low a (gW_sub q)).1 (Nat.not_le_of_gt ha)
  have hs : ∀ b o, b < 132 → ¬ IsTab o → s₀.get? b = some o → (hideAll h (gW env)).get? b = some o := fun b o hb n eb => hideAll_get _ (x.base b o eb n) (low b hb)
  have hns : ∀ {a : Addr} {mm : Str → Option Value}, a < 132 → s₀.Ns a mm → (hideAll h (gW env)).Ns a mm := fun ha n => Ns.via n fun o eb nt => hs _ o ha nt eb
  have X' : (hd.heap_39 w.params).In (hideAll h (gW env)) := fun a o ea => hs a o (frag_lt ea) (frag_tab ea) (X a o ea)
  have h131 : 131 < s₀.objs.size := Heap.lt_size (X 131 _ rfl)
  have nt132 : 132 ≤ nt := Nat.le_of_lt (Nat.lt_of_le_of_lt h131 hlow)
  have nNt : NotesAt (hideAll h (gW env)) nt [] := by
    obtain ⟨n, en⟩ := hnt
    exact ⟨n, hideAll_get _ en (W.off en (by intro _ _ q; cases q) (by intro _ q; cases q))⟩
  have gd : Gd w (hideAll h (gW env)) nt mg mb := by
    refine ⟨X', ⟨⟨hns (by decide) G.g, hns (by decide) G.b, B.ty.1, B.ni.1, B.ty.2, B.ni.2⟩, ?_, ⟨_, nNt⟩, ?_, ?_⟩, nt132, (B.fn "abs" (by simp)).1, (B.fn "abs" (by simp)).2, mg_of X G.g (by rfl)⟩
    · obtain ⟨mc, a, b⟩ := G.lim
      exact ⟨mc, hns (by decide) a, b⟩
    · intro q; rw [← q] at nt132; exact absurd nt132 (by decide)
    · intro q; rw [← q] at nt132; exact absurd nt132 (by decide)
  have hrow' : RowAt (hideAll h (gW env)) D r := by
    obtain ⟨ys, a, b, c⟩ := hrow
    refine ⟨ys, list_hide W.toi a, b, fun k hk => ?_⟩
    obtain ⟨c1, t, c2⟩ := c k hk
    exact ⟨c1, t, list_hide W.toi c2⟩
  have hnb' : IntList (hideAll h (gW env)) nb ns := (by obtain ⟨ts, a, b⟩ := hnb; exact ⟨ts, list_hide W.toi a, b⟩)
  have htw' : IntList (hideAll h (gW env)) tw ds := (by obtain ⟨ts, a, b⟩ := htw; exact ⟨ts, list_hide W.toi a, b⟩)
  refine ⟨⟨x, Kp.hide, fun w hw => hideAll_none _ hw, fun b o eb => ⟨o, of_hideAll _ eb⟩, gd, hrow', hnb', htw', nbt, Dt, twt, rt, n5, d1, d3, ⟨[], hnt, by simp⟩, Heap.get?_none_of_le (Nat.le_of_lt hlow), fun q => ?_, cRow, cNt, cNb, mTw⟩, fun i j hi hj => ?_⟩
  · obtain ⟨o, eo, kd⟩ := x.fm.wok nt q
    obtain ⟨n, en⟩ := hnt
    rw [en] at eo; cases eo
    rcases kd with ⟨_, _, q⟩ | ⟨_, q⟩ <;> cases q
  · have hB' := hB (gW env) W.toi (by
      intro n c hc hn
      refine x.fm.gOff hc ?_
      rcases hn with rfl | rfl <;> decide)
    exact base_asks gd (nums_of hnb' n5 nbt) hB' (thing_of hrow' hi (rt i hi)) (thing_of hrow' hj (rt j hj))
end
end Mine
end

-- part Q9
section
open PySem PySem.W PySem.W.X PySem.Calls PyProof.Rows
set_option maxRecDepth 100000
set_option maxHeartbeats 4000000
namespace Mine
section
variable {h h' : Heap} {it l : Addr} {i : Nat} (hit : h.IsListIter it l i) (k : ∀ b o, b ≠ it → h.get? b = some o → h'.get? b = some o)
include hit k
theorem CodeRec.itr {cv : Value} {q : Str} (x : h.CodeRec cv q) : h'.CodeRec cv q := by
  obtain ⟨c, o, vs, tt, e1, e2, e3, e4⟩ := x
  refine ⟨c, o, vs, tt, e1, k _ _ (fun q => ?_) e2, e3, e4⟩
  obtain ⟨o', e', _, d'⟩ := hit
  rw [q, e'] at e2; cases e2; rw [d'] at e3
  have e5 : #[Value.ref l, .int i 0] = vs := by injection e3
  rw [← e5] at e4; cases e4
theorem CodeHd.itr {c P : Addr} (x : CodeHd h c P) : CodeHd h' c P := by
  obtain ⟨o2, vs2, a3, a4, a5, a6, a7, a8, a9, b1, b2, r⟩ := x
  refine ⟨o2, vs2, a3, a4, a5, a6, a7, a8, a9, k _ _ (fun q => ?_) b1, b2, r⟩
  obtain ⟨o', e', c', _⟩ := hit
  rw [q, e'] at b1; cases b1; rw [c'] at b2; exact absurd (Value.type.inj b2) (by decide)
theorem tab_it {P : Addr} {ps : Array Value} (e : h.get? P = some (tabObj ps)) : h'.get? P = some (tabObj ps) := k _ _ (fun q => by
  obtain ⟨o', e', c', _⟩ := hit
  rw [q, e'] at e; cases e; cases c') e
theorem TabGood.itr {P : Addr} {S : List (Pos × Str)} (x : TabGood h P S) : TabGood h' P S := by
  obtain ⟨ps, e, ok, g⟩ := x
  exact ⟨ps, tab_it hit k e, ok, fun y hy cv q => CodeRec.itr hit k (g y hy cv q)⟩
theorem ClsTab.itr {lo c P : Addr} {pos : Pos} {qual : Str} {S : List (Pos × Str)} (x : ClsTab h lo c P pos qual S) : ClsTab h' lo c P pos qual S := by
  obtain ⟨C, ps, e, ok, g⟩ := x
  refine ⟨CodeHd.itr hit k C, ps, tab_it hit k e, ok, fun cv q => ?_⟩
  obtain ⟨c', P', e1, e2, e3, e4, e5, e6⟩ := g cv q
  exact ⟨c', P', e1, e2, e3, CodeHd.itr hit k e4, CodeRec.itr hit k e5, TabGood.itr hit k e6⟩
end
section
variable {w : World} {mg mb : Str → Option Value} {s₀ h h' H : Heap} {env : Env} {m cm m' cm' : Str → Option Value} {nt nb D tw it l : Addr} {i : Nat} {r : Nat → Addr} {ns ds : List Int}
theorem TS.itr (x : TS w mg mb s₀ h H env m cm nt nb D tw r ns ds) (hit : h.IsListIter it l i) (k : ∀ b o, b ≠ it → h.get? b = some o → h'.get? b = some o) (hW : it ∉ fW env) (h0 : s₀.get? it = none) (hH : H.get? it = none) (hn : it ≠ nt) : TS w mg mb s₀ h' H env m cm nt nb D tw r ns ds :=
  { x with
    st := ⟨x.st.fm.via fun b o eb hb _ => k b o (fun q => hW (q ▸ hb)) eb, fun b o eb n => k b o (fun q => by rw [q, h0] at eb; cases eb) (x.st.base b o eb n), ClsTab.itr hit k x.st.tab, TabGood.itr hit k x.st.tabL, TabGood.itr hit k x.st.tabT, fun b o eb n1 n2 n3 => k b o (fun q => by rw [q, h0] at eb; cases eb) (x.st.base2 b o eb n1 n2 n3)⟩
    kp := fun b o n t eb => k b o (fun q => by rw [q, hH] at eb; cases eb) (x.kp b o n t eb)
    dom := fun b o eb => (by obtain ⟨o', e'⟩ := x.dom b o eb; exact ⟨o', k b o' (fun q => by rw [q, hH] at eb; cases eb) e'⟩)
    notes := (by obtain ⟨xs, ⟨n, en⟩, l⟩ := x.notes; exact ⟨xs, ⟨n, k _ _ (Ne.symm hn) en⟩, l⟩ )}
theorem Gd.kp {H' : Heap} {xs : List Value} (x : Gd w H nt mg mb) (k : Kp nt H H') (n : NotesAt H' nt xs) : Gd w H' nt mg mb := by
  obtain ⟨xs₀, n₀⟩ := x.sure.notes
  exact ⟨frag_kp x.X k x.nt, ⟨Glob.kp n₀ k x.sure.glob, NoLimit.kp n₀ k x.sure.lim, ⟨_, n⟩, x.sure.g0, x.sure.g1⟩, x.nt, x.abs, x.babs, x.ans⟩
theorem RowAt.kp {H' : Heap} (x : RowAt H D r) (k : Kp nt H H') (hD : D ≠ nt) (hr : ∀ k, k < 5 → r k ≠ nt) : RowAt H' D r := by
  obtain ⟨ys, a, b, c⟩ := x
  refine ⟨ys, isList_kp k hD a, b, fun j hj => ?_⟩
  obtain ⟨c1, t, c2⟩ := c j hj
  exact ⟨c1, t, isList_kp k (hr j hj) c2⟩
theorem IntList.kp {H' : Heap} {l : Addr} (x : IntList H l ns) (k : Kp nt H H') (hl : l ≠ nt) : IntList H' l ns := (by obtain ⟨ts, a, b⟩ := x; exact ⟨ts, isList_kp k hl a, b⟩)
/-- a new layer: the ground anew -/
theorem TS.layer {d : Int} {f f' : Addr} (x : TS w mg mb s₀ h H env m cm nt nb D tw r ns ds) (e : LE s₀ env) (h132 : 132 ≤ s₀.objs.size) (L : LayerMade s₀.objs.size h h' d f f') (hit : h.IsListIter it l i) (hW : it ∉ fW env) (h0 : 132 ≤ it) (hH : H.get? it = none) {ds' : List Int} (T : TopAt w H nt f r ns ds') :
    ∃ H', TS w mg mb s₀ h' H' env m cm nt nb D tw r ns ds ∧ H'.get? it = none ∧ TopX w H' nt f' r ns (ds' ++ [d]) ∧ h'.IsListIter it l i := by
  have isT : ∀ {P : Addr} {S : List (Pos × Str)}, TabGood h P S → ∀ o, h.get? P = some o → IsTab o := fun ⟨ps, a, b, _⟩ o eo => by rw [a] at eo; cases eo; exact ⟨ps, b, rfl⟩
  have isT0 : ∀ o, h.get? 100 = some o → IsTab o := fun o eo => by obtain ⟨_, ps, a, b, _⟩ := x.st.tab; rw [a] at eo; cases eo; exact ⟨ps, b, rfl⟩
  have nt' : ∀ b o, h.get? b = some o → ¬ IsTab o → h'.get? b = some o := fun b o eb n => L.keep b o eb (fun q => n (isT0 o (q ▸ eb))) (fun q => n (isT x.st.tabL o (q ▸ eb))) (.inl n)
  have WI : WOi (it :: gW env) h := fun w hw => by
    rcases List.mem_cons.mp hw with rfl | hw
    · obtain ⟨o, eo, c, dd⟩ := hit
      exact ⟨o, eo, .inr (.inr ⟨c, _, _, _, dd⟩)⟩
    · exact x.st.fm.gok.toi w hw
  have W132 : ∀ w ∈ it :: gW env, 132 ≤ w := fun w hw => by
    rcases List.mem_cons.mp hw with rfl | hw
    · exact h0
    · exact (e.low w (gW_sub hw)).1
  obtain ⟨a, cc, K, hin, Ly⟩ := L.lay _ WI W132
  obtain ⟨xs, ⟨nn, hn⟩, hl⟩ := x.notes
  have offI : ∀ b o, H.get? b = some o → b ∉ it :: gW env := fun b o eb q => by
    rcases List.mem_cons.mp q with rfl | q
    · rw [hH] at eb; cases eb
    · rw [x.off b q] at eb; cases eb
  have KH : Kp nt H (hideAll h' (it :: gW env)) := fun b o hb ht eb => hideAll_get _ (nt' b o (x.kp b o hb ht eb) ht) (offI b o eb)
  have hn' := nt' _ _ hn (fun z => by cases z.cls)
  have hnH : NotesAt (hideAll h' (it :: gW env)) nt xs := ⟨nn, hideAll_get _ hn' (WI.off hn (by intro _ _ q; cases q) (by intro _ q; cases q) (.inr (by intro _ _ _ q; cases q)))⟩
  have gd := x.gd.kp KH hnH
  have Fm' : Fm h' env m cm := x.st.fm.via fun b o eb _ n => nt' b o eb n
  refine ⟨hideAll h' (it :: gW env), { x with
    st := ⟨Fm', fun b o eb n => nt' b o (x.st.base b o eb n) n, L.tab, L.tabL, TabGood.mv (fun b o eb n => ?_) x.st.tabT, fun b o eb n1 n2 n3 => L.keep b o (x.st.base2 b o eb n1 n2 n3) n1 n2 (.inr (Heap.lt_size eb))⟩
    kp := Kp.hide
    off := fun w hw => hideAll_none _ (.tail _ hw)
    dom := fun b o eb => ⟨o, of_hideAll _ eb⟩
    gd := gd
    row := x.row.kp KH x.Dt x.rt
    nbs := x.nbs.kp KH x.nbt
    tws := x.tws.kp KH x.twt
    notes := ⟨xs, ⟨nn, hn'⟩, hl⟩ }, hideAll_none _ (.head _), fun i j hi hj => ?_, ?_⟩
  · rcases n with n | rfl
    · exact nt' b o eb n
    · exact L.keep _ _ eb (by decide) (by decide) (.inr (Nat.lt_of_lt_of_le (by decide) h132))
  · have hA := (T i j hi hj).mono KH
    have := lay_asks gd.X gd.sure K hin Ly (sgn_sign _) hA
    have e1 : dueOf (ds' ++ [d]) (standOf (nAt ns i) (nAt ns j)) = dueStep (dueOf ds' (standOf (nAt ns i) (nAt ns j))) d := by unfold dueOf; rw [List.foldl_append]; rfl
    rw [e1, List.length_append]
    rw [cntM_sign, cntL_sign, turned_sign] at this
    exact this
  · obtain ⟨o, eo, c, dd⟩ := hit
    exact ⟨o, nt' _ _ eo (fun z => by have := z.cls; rw [c] at this; cases this), c, dd⟩
end
end Mine
end

-- part Q10
section
open PySem PySem.W PySem.W.X PySem.Calls PyProof.Rows
set_option maxRecDepth 100000
set_option maxHeartbeats 4000000
namespace Mine
section
variable {w : World} {A : Around} {E : Value → Shared → Prop} {mg mb : Str → Option Value} {s₀ h H : Heap} {env : Env} {m cm : Str → Option Value} {nt nb D tw : Addr} {r : Nat → Addr} {ns ds : List Int} {g : Array GenState} {d : Drawn} {tk : Nat} {os : OsState}
theorem intList_get {l : Addr} {xs : List Int} (y : IntList h l xs) : ∃ items : Array Value, h.IsList l items ∧ items.size = xs.length ∧ ∀ j v, items[j]? = some v → ∃ t, xs[j]? = some (xs.getD j 0) ∧ v = .int (xs.getD j 0) t := by
  obtain ⟨ts, hl, hlen⟩ := y
  refine ⟨_, hl, by simp [hlen], fun j v hv => ?_⟩
  rw [List.getElem?_toArray, List.getElem?_map] at hv
  cases hz : (xs.zip ts)[j]? with
  | none => rw [hz] at hv; cases hv
  | some x =>
    rw [hz] at hv; cases hv
    have := (List.getElem?_zip_eq_some.mp hz).1
    exact ⟨x.2, by rw [List.getD_eq_getElem?_getD, this]; rfl, by rw [List.getD_eq_getElem?_getD, this]; rfl⟩
theorem st_loop {f : Addr} {p1 p2 p3 p4 p5 p6 p7 p8 p9 : Pos} {Q : Flow → Shared → Prop} (e : LE s₀ env) (G : GK s₀ mg mb) (X : (hd.heap_39 w.params).In s₀) (hh : A.handled = none) (hd0 : A.depth ≤ 770) (hu : A.units ≤ 3880) (x : TS w mg mb s₀ h H env m cm nt nb D tw r ns ds) (mt : m "top" = some (.ref f)) (fn : FnIn h f) (T : TopAt w H nt f r ns [])
    (hN : NotesAt h nt [])
    (hq : ∀ h' tk' H' m' f', TS w mg mb s₀ h' H' env m' cm nt nb D tw r ns ds → m' "top" = some (.ref f') → FnIn h' f' → TopX w H' nt f' r ns ds → NotesAt h' nt [] → Q .next ⟨h', g, d, tk', os⟩) :
    wpAny (model PySem.Challenge.pw_dz0037_02 w) A (exec (.For (.Name "draw" p1) (.Name "tower" p2) [.Assign [.Name "top" p3] (.Call (.Name "_law_layer" p4) [.Name "draw" p5, .Name "top" p6] [] p7) p8] [] p9) env) Q E ⟨h, g, d, tk, os⟩ := by
  have nK : Kp nt H h := x.kp
  obtain ⟨items, hl, hz, hget⟩ := intList_get (x.tws.kp x.kp x.twt)
  refine wpAny_For (wpAny_Name (x.st.fm.ldL (s := ⟨h, g, d, tk, os⟩) e.hk (e.loc _ (by simp)) x.mTw (wpAny_pyIter_list hl ?_)))
  have hit0 : h.get? h.objs.size = none := Heap.get?_none_of_le (Nat.le_refl _)
  have kp0 : ∀ b o, h.get? b = some o → (h.push { cls := .type "list_iterator", data := .fields #[.ref tw, .int 0 0] }).get? b = some o := fun b o eb => Heap.get?_push_of_some _ eb
  have hitW : h.objs.size ∉ fW env := x.st.fm.apartOf hit0
  have hits0 : s₀.get? h.objs.size = none := by
    have : s₀.objs.size < h.objs.size := by rw [← e.eL]; exact x.st.fm.ns.lt
    exact Heap.get?_none_of_le (Nat.le_of_lt this)
  have hitH : H.get? h.objs.size = none := by
    cases q : H.get? h.objs.size with
    | none => rfl
    | some o => obtain ⟨o', e'⟩ := x.dom _ _ q; rw [hit0] at e'; cases e'
  have hitn : h.objs.size ≠ nt := fun qn => by
    obtain ⟨_, ⟨_, en⟩, _⟩ := x.notes
    rw [← qn] at en; exact absurd (Heap.lt_size en) (Nat.lt_irrefl _)
  have hit132 : 132 ≤ h.objs.size := Heap.lt_size (x.st.frag X 131 _ rfl)
  have hitA : (h.push { cls := .type "list_iterator", data := .fields #[.ref tw, .int 0 0] }).IsListIter h.objs.size tw 0 := ⟨_, Heap.get?_push_size _ rfl, rfl, rfl⟩
  generalize h.objs.size = it at *
  refine codeAny_forLoop (fun n s' => ∃ h' tk' H' m' f' i, s' = ⟨h', g, d, tk', os⟩ ∧ h'.IsListIter it tw i ∧ TS w mg mb s₀ h' H' env m' cm nt nb D tw r ns ds ∧ m' "top" = some (.ref f') ∧ FnIn h' f' ∧ TopAt w H' nt f' r ns (ds.take i) ∧ (0 < i → TopX w H' nt f' r ns (ds.take i)) ∧ H'.get? it = none ∧ i ≤ ds.length ∧ n = ds.length + 1 - i ∧ NotesAt h' nt [])
    ?turn (ds.length + 1) ⟨_, tk, H, m, f, 0, rfl, hitA, x.keeps e kp0, mt, ((by obtain ⟨oc, od, fd, sl, ef⟩ := fn; exact ⟨oc, od, fd, sl, kp0 _ _ ef⟩)), T, (fun q => absurd q (Nat.lt_irrefl 0)), hitH, Nat.zero_le _, rfl, hN.keeps kp0⟩
  rintro n s' ⟨h₁, tk₁, H₁, m₁, f₁, i, rfl, hit, x₁, mt₁, fn₁, T₁, TX₁, hH₁, hi, rfl, hN₁⟩
  obtain ⟨items₁, hl₁, hz₁, hget₁⟩ := intList_get (x₁.tws.kp x₁.kp x₁.twt)
  cases hv : items₁[i]? with
  | none =>
    have hsz : i = ds.length := Nat.le_antisymm hi (by rw [← hz₁]; simpa using hv)
    refine wpAny_pyNext_list_end hh hit hl₁ hv fun h₂ ex₂ => wpAny_execs_nil ?_
    subst hsz
    have TX := TX₁ x₁.d1
    rw [List.take_length] at TX
    refine hq h₂ tk₁ H₁ m₁ f₁ (x₁.itr hit (fun b o hb eb => ex₂ b o hb eb) hitW hits0 hH₁ hitn) mt₁ ?_ TX ((by obtain ⟨q, en⟩ := hN₁; exact ⟨q, ex₂ _ _ (Ne.symm hitn) en⟩))
    obtain ⟨oc, od, fd, sl, ef⟩ := fn₁
    refine ⟨oc, od, fd, sl, ex₂ _ _ (fun q => ?_) ef⟩
    obtain ⟨o, eo, _, dd⟩ := hit
    rw [q, eo] at ef; cases ef; cases dd
  | some v =>
    have hlt : i < ds.length := by rw [← hz₁]; exact (Array.getElem?_eq_some_iff.mp hv).1
    obtain ⟨td, hdi, rfl⟩ := hget₁ i v hv
    refine wpAny_pyNext_list_item hit hl₁ hv fun h₂ hit₂ sb₂ => ?_
    have x₂ := x₁.itr hit (fun b o hb eb => (sb₂.2 b hb).trans eb) hitW hits0 hH₁ hitn (h' := h₂)
    have fn₂ : FnIn h₂ f₁ := by
      obtain ⟨oc, od, fd, sl, ef⟩ := fn₁
      refine ⟨oc, od, fd, sl, (sb₂.2 _ (fun q => ?_)).trans ef⟩
      obtain ⟨o, eo, _, dd⟩ := hit
      rw [q, eo] at ef; cases ef; cases dd
    have hN₂ : NotesAt h₂ nt [] := (by obtain ⟨q, en⟩ := hN₁; exact ⟨q, (sb₂.2 _ (Ne.symm hitn)).trans en⟩)
    refine wpAny_assign_Name (x₂.st.fm.stL₂ (s := ⟨h₂, g, d, tk₁, os⟩) e.hk (e.loc _ (by simp)) fun h₃ tk₃ F₃ ex₃ => ?_)
    have x₃ := x₂.move e F₃ ex₃ rfl rfl rfl rfl
    have kn : ∀ {b : Addr} {o : Obj}, h₂.get? b = some o → (∀ es ep, o.data ≠ .dict es ep) → (∀ v, o.data ≠ .cell v) → h₃.get? b = some o := fun eb h1 h2 => ex₃ _ _ (x₂.st.fm.gok.off eb h1 h2) eb
    have hN₃ : NotesAt h₃ nt [] := (by obtain ⟨q, en⟩ := hN₂; exact ⟨q, kn en (by intro _ _ q; cases q) (by intro _ q; cases q)⟩)
    have fn₃ : FnIn h₃ f₁ := by
      obtain ⟨oc, od, fd, sl, ef⟩ := fn₂
      exact ⟨oc, od, fd, sl, kn ef (by intro _ _ q; cases q) (by intro _ q; cases q)⟩
    have hit₃ : h₃.IsListIter it tw (i + 1) := by
      obtain ⟨o, eo, c, dd⟩ := hit₂
      exact ⟨o, kn eo (by intro _ _ q; rw [dd] at q; cases q) (by intro _ q; rw [dd] at q; cases q), c, dd⟩
    -- top = _law_layer(draw, top)
    have mt₃ : (fun y => if y = ("draw" : Str) then some (.int (ds.getD i 0) td) else m₁ y) "top" = some (.ref f₁) := mt₁
    refine wpAny_execs_cons (wpAny_Assign_Name (wpAny_Call_Name_kw (Name_function_global e.hk (e.glo _ (by simp)) (loadGlobal_global (by rw [e.eg]; exact x₃.st.ns G.g) (show mg "_law_layer" = some (.ref 119) from mg_of X G.g (by rfl)) ?_))))
    obtain ⟨fo, fdd, hfo, hfd⟩ : ∃ o fd, h₃.get? 119 = some o ∧ o.data = .func fd := ⟨_, _, x₃.st.frag X 119 _ rfl, rfl⟩
    refine callWith_function (o := fo) (fd := fdd) (evalArgs_plain (spliced_cons (wpAny_Name (x₃.st.fm.ldL (s := ⟨h₃, g, d, tk₃, os⟩) e.hk (e.loc _ (by simp)) rfl ?_))))
    refine spliced_cons (wpAny_Name (x₃.st.fm.ldL (s := ⟨h₃, g, d, tk₃, os⟩) e.hk (e.loc _ (by simp)) mt₃ (spliced_nil ⟨⟨hfo, hfd⟩, ?_⟩)))
    refine layer_call (s := ⟨h₃, g, d, tk₃, os⟩) (x₃.st.frag X) (x₃.st.gk G) x₃.st.tab (Heap.lt_size (X 131 _ rfl)) (x₃.st.hlo e) x₃.st.tabL fn₃ (by omega) (by omega) fun f₄ h₄ tk₄ L₄ => ?_
    obtain ⟨H₄, x₄, hH₄, T₄, hit₄⟩ := x₃.layer e (Heap.lt_size (X 131 _ rfl)) L₄ hit₃ hitW hit132 hH₁ T₁
    have fn₄ := L₄.fn
    have hN₄ : NotesAt h₄ nt [] := by
      obtain ⟨q, en⟩ := hN₃
      have hn132 : 132 ≤ nt := x₃.gd.nt
      exact ⟨q, L₄.keep _ _ en (fun z => by rw [z] at hn132; exact absurd hn132 (by decide)) (fun z => by rw [z] at hn132; exact absurd hn132 (by decide)) (.inl fun z => by cases z.cls)⟩
    refine x₄.st.fm.stL₂ (s := ⟨h₄, g, d, tk₄, os⟩) e.hk (e.loc _ (by simp)) fun h₅ tk₅ F₅ ex₅ => ?_
    have x₅ := x₄.move e F₅ ex₅ rfl rfl rfl rfl
    have kn₅ : ∀ {b : Addr} {o : Obj}, h₄.get? b = some o → (∀ es ep, o.data ≠ .dict es ep) → (∀ v, o.data ≠ .cell v) → h₅.get? b = some o := fun eb h1 h2 => ex₅ _ _ (x₄.st.fm.gok.off eb h1 h2) eb
    have htk : ds.take (i + 1) = ds.take i ++ [ds.getD i 0] := by rw [List.take_add_one, hdi]; rfl
    refine wpAny_execs_nil ⟨ds.length + 1 - (i + 1), by omega, h₅, tk₅, H₄, _, f₄, i + 1, rfl, ?_, x₅, rfl, ?_, by rw [htk]; exact T₄.top, (fun _ => by rw [htk]; exact T₄), hH₄, hlt, rfl, ((by obtain ⟨q, en⟩ := hN₄; exact ⟨q, kn₅ en (by intro _ _ q; cases q) (by intro _ q; cases q)⟩))⟩
    · obtain ⟨o, eo, c, dd⟩ := hit₄
      exact ⟨o, kn₅ eo (by intro _ _ q; rw [dd] at q; cases q) (by intro _ q; rw [dd] at q; cases q), c, dd⟩
    · obtain ⟨oc, od, fd, sl, ef⟩ := fn₄
      exact ⟨oc, od, fd, sl, kn₅ ef (by intro _ _ q; cases q) (by intro _ q; cases q)⟩
end
end Mine
end

-- part Q11
section
open PySem PySem.W PySem.W.X PySem.Calls PyProof.Rows
set_option maxRecDepth 100000
set_option maxHeartbeats 4000000
namespace Mine
section
variable {prog : Program} {w : World} {A : Around} {R : Result → Shared → Prop} {s : Shared}
theorem compLoop_any {elt target iter : Expr} {ifs : List Expr} {scope : Scope} {pos : Pos} {it acc : Value} {env : Env} (I : Nat → Shared → Prop)
    (turn : ∀ n s, I n s → wpAny (model prog w) A (pyNext it) (fun r s₁ => match r with
      | none => R (.ok .next) s₁
      | some v => wpAny (model prog w) A (letOwnedTupleGo target it v) (fun _ s₁' => wpAny (model prog w) A (assign target env v) (fun _ s₂ =>
          wpAny (model prog w) A (forIn ifs true fun c r => if r = true then do let ok ← isTrue c env (eval c env); pure (ForInStep.yield ok) else pure (ForInStep.yield r)) (fun ok s₃ =>
            if ok = true then wpAny (model prog w) A (eval elt env) (fun x s₄ =>
              wpAny (model prog w) A (call (.builtin "list.append") [acc, x]) (fun _ s₅ => ∃ m, m < n ∧ I m s₅) (notedBy (model prog w) A env fun e s' => R (.error e) s') s₄) (notedBy (model prog w) A env fun e s' => R (.error e) s') s₃
            else ∃ m, m < n ∧ I m s₃) (notedBy (model prog w) A env fun e s' => R (.error e) s') s₂) (notedBy (model prog w) A env fun e s' => R (.error e) s') s₁') (notedBy (model prog w) A env fun e s' => R (.error e) s') s₁) (notedBy (model prog w) A env fun e s' => R (.error e) s') s)
    (n : Nat) (h : I n s) : codeAny (model prog w) A (.compLoop (.ListComp elt [⟨target, iter, ifs, 0⟩] scope pos) 0 it acc env) R s := by
  refine codeAny_loop rfl I (fun n s hI => ?_) n h
  show wpAny _ A ((compTurn (.ListComp elt [⟨target, iter, ifs, 0⟩] scope pos) 0 it acc env).onRaise (fun x => do noteFrame x env; theTreesLotGoes x)) _ _ s
  refine wpAny_noted ?_
  rw [compTurn_list]
  refine wpAny_bind (wpAny_standAt (wpAny_bind (wpAny_mono (turn n s hI) (fun r s₁ h₁ => ?_) fun _ _ h' => h')))
  cases r with
  | none => exact wpAny_pure h₁
  | some v =>
    refine wpAny_bind (wpAny_mono h₁ (fun _ s₁' h₁' => ?_) fun _ _ h' => h')
    refine wpAny_bind (wpAny_mono h₁' (fun _ s₂ h₂ => wpAny_bind (wpAny_mono h₂ (fun ok s₃ h₃ => ?_) fun _ _ h' => h')) fun _ _ h' => h')
    cases ok with
    | false => exact wpAny_pure ⟨rfl, h₃⟩
    | true =>
      exact wpAny_bind (wpAny_bind (wpAny_mono h₃ (fun x s₄ h₄ => wpAny_bind (wpAny_mono h₄ (fun _ s₅ h₅ => wpAny_pure (wpAny_pure ⟨rfl, h₅⟩)) fun _ _ h' => h')) fun _ _ h' => h'))
end
theorem comp_plain {scope : Scope} {cl : List (Str × Addr)} {C : Addr} {env : Env} (hk : scope.kind = .function) : ((compEnvC scope cl C env).scope.kind == .class || ((compEnvC scope cl C env).scope.kind == .module && (compEnvC scope cl C env).locals != (compEnvC scope cl C env).globals)) = false := by
  have : (compEnvC scope cl C env).scope.kind = .function := hk
  rw [this]; rfl
noncomputable abbrev emptyL : Obj := { cls := .type "list", dict := none, data := .seq ([] : List Value).toArray }
section
variable {prog : Program} {w : World} {A : Around} {E : Value → Shared → Prop} {s : Shared} {env : Env}
/-- [elt for xa, xb in pairs if test], where the test says no of every pair -/
theorem comp_none {elt iter test : Expr} {xa xb : Str} {pa pb pt pos : Pos} {k1 : Nat} {scope : Scope} {cl : List (Str × Addr)} {Q : Value → Shared → Prop} {v1 v2 : Value} (hh : A.handled = none)
    (hclos : closureFor scope env = pure cl) (hcell : ∀ z ∈ scope.names, z.2 ≠ .cell) (hkind : scope.kind = .function) (hnames : ∀ z ∈ scope.names, z.2 = .local → scope.names.lookup z.1 = some .local)
    (hxa : scope.names.lookup xa = some .local) (hxb : scope.names.lookup xb = some .local) (hab : xa ≠ xb)
    (h : wpAny (model prog w) A (eval iter env) (fun xv s₁ => ∃ l items, xv = .ref l ∧ s₁.heap.IsList l items ∧ (∀ y, y ∈ items → ∃ T, y = .ref T ∧ s₁.heap.IsTuple T #[v1, v2]) ∧
      (∀ C s₃ m₃ E', s₁.heap.objs.size ≤ C → s₃.heap.Ns C m₃ → m₃ xa = some v1 → m₃ xb = some v2 → (∀ b o, s₁.heap.get? b = some o → s₃.heap.get? b = some o) →
        wpAny (model prog w) A (isTrue test (compEnvC scope cl C env) (eval test (compEnvC scope cl C env))) (fun ok s₄ => ok = false ∧ Keeps s₃ s₄) E' s₃) ∧
      (∀ D h' tk, (∀ b o, s₁.heap.get? b = some o → h'.get? b = some o) → h'.get? D = some emptyL → Q (.ref D) { s₁ with heap := h', toks := tk })) E s)
    (hs : ∀ x, foldedSetIterable iter env x = pure x := by intro _; rfl) :
    wpAny (model prog w) A (eval (.ListComp elt [⟨.Tuple [.Name xa pa, .Name xb pb] k1 pt, iter, [test], 0⟩] scope pos) env) Q E s := by
  rw [eval_ListComp]
  refine wpAny_comprehension_free (use := none) rfl hs hclos hkind hnames (wpAny_mono h (fun xv s₁ h₁ => ?_) fun _ _ e => e)
  obtain ⟨l, items, rfl, hl, htup, htest, hQ⟩ := h₁
  obtain ⟨h₀, gg, dd, tk₀, oo⟩ := s₁
  dsimp only at hl htup htest hQ
  refine wpAny_pyIter_list hl ?_
  refine wpAny_newObj_type (wpAny_newFunctionEnv hcell (by intro y hy; simp at hy) (fun h₁ hns₁ hsb₁ => ?_) hkind)
  dsimp only at hns₁ hsb₁ ⊢
  generalize hH1 : h₀.push { cls := .type "list_iterator", data := .fields #[.ref l, .int 0 0] } = H1 at hns₁ hsb₁ ⊢
  generalize hH2 : H1.push emptyL = H2 at hns₁ hsb₁ ⊢
  have z1 : H1.objs.size = h₀.objs.size + 1 := by rw [← hH1, Heap.size_push]
  have z2 : H2.objs.size = h₀.objs.size + 2 := by rw [← hH2, Heap.size_push, z1]
  have hCle : h₀.objs.size ≤ H2.objs.size := by rw [z2]; omega
  have hI1 : h₁.IsListIter h₀.objs.size l 0 := ⟨_, hsb₁.extBut _ _ (Nat.ne_of_lt (by rw [z2]; omega)) (Heap.get?_push_of_some _ (hH2 ▸ Heap.get?_push_of_some _ (hH1 ▸ Heap.get?_push_size _ rfl))), rfl, rfl⟩
  have hD1 : h₁.get? H1.objs.size = some emptyL := hsb₁.extBut _ _ (Nat.ne_of_lt (by rw [z2, z1]; omega)) (Heap.get?_push_of_some _ (hH2 ▸ Heap.get?_push_size _ rfl))
  have old : ∀ b o, h₀.get? b = some o → h₁.get? b = some o := fun b o e => hsb₁.extBut b o (Nat.ne_of_lt (Nat.lt_of_lt_of_le (Heap.lt_size e) hCle)) (Heap.get?_push_of_some _ (hH2 ▸ Heap.get?_push_of_some _ (hH1 ▸ Heap.get?_push_of_some _ e)))
  have hCn : ∀ b o, h₀.get? b = some o → b ≠ H2.objs.size := fun b o e => Nat.ne_of_lt (Nat.lt_of_lt_of_le (Heap.lt_size e) hCle)
  have hIn : ∀ b o, h₀.get? b = some o → b ≠ h₀.objs.size := fun b o e => Nat.ne_of_lt (Heap.lt_size e)
  have hIC : h₀.objs.size ≠ H2.objs.size := by rw [z2]; omega
  have hDC : H1.objs.size ≠ H2.objs.size := by rw [z1, z2]; omega
  have hDI : H1.objs.size ≠ h₀.objs.size := by rw [z1]; omega
  generalize H2.objs.size = C at *
  generalize H1.objs.size = Dd at *
  generalize hIs : h₀.objs.size = I at *
  have loop : ∀ tk₁, codeAny (model prog w) A (.compLoop (.ListComp elt [⟨.Tuple [.Name xa pa, .Name xb pb] k1 pt, iter, [test], 0⟩] scope pos) 0 (.ref I) (.ref Dd) (compEnvC scope cl C env))
      (compPost (model prog w) A E none Q (.ref Dd) C) ⟨h₁, gg, dd, tk₁, oo⟩ := by
    intro tk₁
    refine compLoop_any (fun n s' => ∃ h' tk' m' i, s' = ⟨h', gg, dd, tk', oo⟩ ∧ h'.IsListIter I l i ∧ h'.Ns C m' ∧ h'.get? Dd = some emptyL ∧ (∀ b o, h₀.get? b = some o → h'.get? b = some o) ∧ i ≤ items.size ∧ n = items.size + 1 - i) ?_ (items.size + 1) ⟨h₁, tk₁, _, 0, rfl, hI1, hns₁, hD1, old, Nat.zero_le _, rfl⟩
    rintro n s' ⟨h', tk', m', i, rfl, hit, hns, hD, keep, hi, rfl⟩
    have hl' : h'.IsList l items := hl.at fun o e => keep _ _ e
    cases hv : items[i]? with
    | none =>
      refine wpAny_pyNext_list_end hh hit hl' hv fun h₂ ex₂ => ?_
      refine ⟨m', hns.extBut ex₂ (Ne.symm hIC), fun h₃ sb₃ => ?_⟩
      refine hQ Dd h₃ _ (fun b o e => sb₃.extBut b o (hCn b o e) (ex₂ b o (hIn b o e) (keep b o e))) (sb₃.extBut _ _ hDC (ex₂ _ _ hDI hD))
    | some v =>
      have hlt : i < items.size := (Array.getElem?_eq_some_iff.mp hv).1
      obtain ⟨T, rfl, hT⟩ := htup v (Array.mem_of_getElem? hv)
      refine wpAny_pyNext_list_item hit hl' hv fun h₂ hit₂ sb₂ => ?_
      have keep₂ : ∀ b o, h₀.get? b = some o → h₂.get? b = some o := fun b o e => (sb₂.2 b (hIn b o e)).trans (keep b o e)
      refine wpAny_letOwnedTupleGo_listiter hit₂ ?_
      have hT₂ : h₂.IsTuple T #[v1, v2] := (by obtain ⟨o, e, r⟩ := hT; exact ⟨o, keep₂ _ _ e, r⟩)
      refine wpAny_assign_Tuple hh hT₂ rfl rfl fun h₃ ex₃ => ?_
      have k₃ : ∀ b o, h₂.get? b = some o → h₃.get? b = some o := fun b o e => ex₃ b o (Nat.ne_of_lt (Heap.lt_size e)) e
      have hns₃ : h₃.Ns C m' := (hns.sameBut sb₂ (Ne.symm hIC)).keeps k₃
      refine wpAny_assignInOrder_more (wpAny_assign_Name (wpAny_storeName_local (env := compEnvC scope cl C env) (comp_kind hxa rfl) hns₃ (fun h₄ hns₄ sb₄ => ?_) (comp_plain hkind)))
      refine wpAny_assignInOrder_more (wpAny_assign_Name (wpAny_storeName_local (env := compEnvC scope cl C env) (comp_kind hxb rfl) hns₄ (fun h₅ hns₅ sb₅ => ?_) (comp_plain hkind)))
      refine wpAny_assignInOrder_none ?_
      have up : ∀ b o, b ≠ C → h₂.get? b = some o → h₅.get? b = some o := fun b o hb e => (sb₅.2 b hb).trans ((sb₄.2 b hb).trans (k₃ b o e))
      refine wpAny_tests_one (wpAny_mono (htest C _ _ _ (by rw [← hIs] at hCle ⊢; exact hCle) hns₅ (by simp [hab]) (by simp) fun b o e => up b o (hCn b o e) (keep₂ b o e)) (fun ok s₄ hk => ?_) fun _ _ z => z)
      obtain ⟨rfl, h₆, tk₆, rfl, k₆⟩ := hk
      rw [if_neg (by decide)]
      refine ⟨items.size + 1 - (i + 1), by omega, h₆, tk₆, _, i + 1, rfl, ?_, hns₅.keeps k₆, k₆ _ _ (up _ _ hDC ((sb₂.2 _ hDI).trans hD)), fun b o e => k₆ _ _ (up b o (hCn b o e) (keep₂ b o e)), hlt, rfl⟩
      obtain ⟨o, e, r⟩ := hit₂
      exact ⟨o, k₆ _ _ (up _ _ hIC e), r⟩
  exact codeAny_compStart_list (loop _) (wpAny_pyIter_listiter hI1 (loop _))
end
end Mine
end

-- part Q12
section
open PySem PySem.W PySem.W.X PySem.Calls PyProof.Rows
set_option maxRecDepth 100000
set_option maxHeartbeats 4000000
namespace Mine
noncomputable abbrev pScope : Scope := { kind := .function, names := [(".0", .local), ("a", .local), ("b", .local), ("i", .free), ("j", .free), ("row", .free)], isGenerator := false, isCoroutine := false, more := [] }
section
variable {w : World} {A : Around} {E : Value → Shared → Prop} {mg mb : Str → Option Value} {s₀ h H : Heap} {env : Env} {m cm : Str → Option Value} {nt nb D tw : Addr} {r : Nat → Addr} {ns ds : List Int} {g : Array GenState} {d : Drawn} {tk : Nat} {os : OsState}
/-- numbers[v] // 2 -/
theorem half_eval {v : Str} {k : Nat} {t : Tok} {q1 q2 q3 q4 q5 : Pos} {Q : Value → Shared → Prop} {prog : Program} (e : LE s₀ env) (x : TS w mg mb s₀ h H env m cm nt nb D tw r ns ds) (hv : v ∈ (["script", "row", "i", "j", "way", "due", "half", "told", "notes", "numbers"] : List Str)) (hb : (v == ("__debug__" : Str)) = false) (hc : cm v = some (.int k t)) (hk : k < 5)
    (hq : ∀ t' tk', Q (.int ((nAt ns k).fdiv 2) t') ⟨h, g, d, tk', os⟩) : wpAny (model prog w) A (eval (.BinOp (.Subscript (.Name "numbers" q1) (.Name v q2) q3) .FloorDiv (.Constant (.int 2) 0 q4) q5) env) Q E ⟨h, g, d, tk, os⟩ := by
  obtain ⟨k1, c1, h1⟩ := e.cel "numbers" (by simp)
  obtain ⟨k2, c2, h2⟩ := e.cel v hv
  obtain ⟨⟨items, tn, hl, hit⟩, _⟩ := nums_of (nt := nt) (x.nbs.kp x.kp x.nbt) x.n5 x.nbt
  refine wpAny_BinOp (Subscript_ (wpAny_Name (x.st.fm.ldC (s := ⟨h, g, d, tk, os⟩) e.hk k1 h1 x.cNb (wpAny_Name (x.st.fm.ldC (s := ⟨h, g, d, tk, os⟩) e.hk k2 h2 hc ?_) hb))))
  refine list_item (s := ⟨h, g, d, tk, os⟩) hl (by omega) (by omega) (hit k (by omega) (by omega)) (by with_unfolding_all rfl) ?_
  exact wpAny_Constant_int (floordiv_int (by decide) (hq _ _))
/-- row[v] -/
theorem row_eval {v : Str} {k : Nat} {t : Tok} {q1 q2 q3 : Pos} {Q : Value → Shared → Prop} {prog : Program} (e : LE s₀ env) (x : TS w mg mb s₀ h H env m cm nt nb D tw r ns ds) (hv : v ∈ (["script", "row", "i", "j", "way", "due", "half", "told", "notes", "numbers"] : List Str)) (hb : (v == ("__debug__" : Str)) = false) (hc : cm v = some (.int k t)) (hk : k < 5)
    (hq : Q (.ref (r k)) ⟨h, g, d, tk, os⟩) : wpAny (model prog w) A (eval (.Subscript (.Name "row" q1) (.Name v q2) q3) env) Q E ⟨h, g, d, tk, os⟩ := by
  obtain ⟨k1, c1, h1⟩ := e.cel "row" (by simp)
  obtain ⟨k2, c2, h2⟩ := e.cel v hv
  obtain ⟨ys, hl, hz, hit⟩ := x.row.kp x.kp x.Dt x.rt
  refine Subscript_ (wpAny_Name (x.st.fm.ldC (s := ⟨h, g, d, tk, os⟩) e.hk k1 h1 x.cRow (wpAny_Name (x.st.fm.ldC (s := ⟨h, g, d, tk, os⟩) e.hk k2 h2 hc ?_) hb)))
  exact list_item (s := ⟨h, g, d, tk, os⟩) hl (by omega) (by omega) (by rw [Int.toNat_natCast]; exact (hit k hk).1) (by with_unfolding_all rfl) hq

/-- asks, stand = _law_due(tower, numbers[i] // 2 - numbers[j] // 2) -/
theorem pr_due {i j : Nat} {ti tj : Tok} {x1 x2 x3 x4 x5 x6 x7 x8 x9 x10 x11 x12 x13 x14 x15 x16 x17 x18 : Pos} {Q : Flow → Shared → Prop} (X : (hd.heap_39 w.params).In s₀) (e : LE s₀ env) (G : GK s₀ mg mb) (hh : A.handled = none) (hd0 : A.depth ≤ 770) (x : TS w mg mb s₀ h H env m cm nt nb D tw r ns ds) (ci : cm "i" = some (.int i ti)) (cj : cm "j" = some (.int j tj)) (hi : i < 5) (hj : j < 5)
    (hq : ∀ h' tk' ta tb, TS w mg mb s₀ h' H env (fun y => if y = ("stand" : Str) then some (.int (Int.sign (dueOf ds (standOf (nAt ns i) (nAt ns j))).2) tb) else if y = ("asks" : Str) then some (.int (dueOf ds (standOf (nAt ns i) (nAt ns j))).1 ta) else m y) cm nt nb D tw r ns ds → Ex (gW env) h h' → Q .next ⟨h', g, d, tk', os⟩) :
    wpAny (model PySem.Challenge.pw_dz0037_02 w) A (exec (.Assign [.Tuple [.Name "asks" x1, .Name "stand" x2] 0 x3] (.Call (.Name "_law_due" x4) [.Name "tower" x5, .BinOp (.BinOp (.Subscript (.Name "numbers" x6) (.Name "i" x7) x8) .FloorDiv (.Constant (.int 2) 0 x9) x10) .Sub (.BinOp (.Subscript (.Name "numbers" x11) (.Name "j" x12) x13) .FloorDiv (.Constant (.int 2) 0 x14) x15) x16] [] x17) x18) env) Q E ⟨h, g, d, tk, os⟩ := by
  have gd : mg "_law_due" = some (.ref 126) := mg_of X G.g (by rfl)
  obtain ⟨fo, fdd, hfo, hfd⟩ : ∃ o fd, h.get? 126 = some o ∧ o.data = .func fd := ⟨_, _, x.st.frag X 126 _ rfl, rfl⟩
  refine Assign_Tuple (wpAny_Call_Name_kw (Name_function_global e.hk (e.glo _ (by simp)) (loadGlobal_global (by rw [e.eg]; exact x.st.ns G.g) gd ?_)))
  refine callWith_function (o := fo) (fd := fdd) (evalArgs_plain (spliced_cons (wpAny_Name (x.st.fm.ldL (s := ⟨h, g, d, tk, os⟩) e.hk (e.loc _ (by simp)) x.mTw ?_))))
  refine spliced_cons (wpAny_BinOp (half_eval e x (by simp) (by decide) ci hi fun t1 tk1 => half_eval e x (by simp) (by decide) cj hj fun t2 tk2 => sub_int (spliced_nil ⟨⟨hfo, hfd⟩, ?_⟩)))
  refine due_call (s := ⟨h, g, d, _, os⟩) (ds := ds) (x.st.frag X) (x.st.lim G.lim) hh (by omega) (x.tws.kp x.kp x.twt) x.d3 fun tp h₁ tk₁ ta tb keep htp => ?_
  have x₁ := x.keeps e keep
  refine wpAny_assign_Tuple (s := ⟨h₁, g, d, tk₁, os⟩) hh ⟨_, htp, rfl, _, rfl⟩ rfl rfl fun h₂ ex₂ => ?_
  have k₂ : ∀ b o, h₁.get? b = some o → h₂.get? b = some o := fun b o eb => ex₂ b o (Nat.ne_of_lt (Heap.lt_size eb)) eb
  have x₂ := x₁.keeps e k₂
  refine wpAny_assignInOrder_more (wpAny_assign_Name (x₂.st.fm.stL₂ (s := ⟨h₂, g, d, tk₁, os⟩) e.hk (e.loc _ (by simp)) fun h₃ tk₃ F₃ ex₃ => ?_))
  have x₃ := x₂.move e F₃ ex₃ rfl rfl rfl rfl
  refine wpAny_assignInOrder_more (wpAny_assign_Name (x₃.st.fm.stL₂ (s := ⟨h₃, g, d, tk₃, os⟩) e.hk (e.loc _ (by simp)) fun h₄ tk₄ F₄ ex₄ => ?_))
  have x₄ := x₃.move e F₄ ex₄ rfl rfl rfl rfl
  exact wpAny_assignInOrder_none (hq h₄ tk₄ ta tb x₄ ((((Ex.of keep).trans (Ex.of k₂)).trans ex₃).trans ex₄))
end
end Mine
end

-- part Q13
section
open PySem PySem.W PySem.W.X PySem.Calls PyProof.Rows
set_option maxRecDepth 100000
set_option maxHeartbeats 4000000
namespace Mine
/-- all but the frame's places and the notes stay -/
noncomputable def Kz (env : Env) (nt : Addr) (h h' : Heap) : Prop := ∀ b o, b ∉ gW env → b ≠ nt → h.get? b = some o → h'.get? b = some o
theorem Kz.trans {env : Env} {nt : Addr} {h h' h'' : Heap} (x : Kz env nt h h') (y : Kz env nt h' h'') : Kz env nt h h'' := fun b o n1 n2 e => y b o n1 n2 (x b o n1 n2 e)
theorem Ex.kz {env : Env} {nt : Addr} {h h' : Heap} (x : Ex (gW env) h h') : Kz env nt h h' := fun b o n _ e => x b o n e
section
variable {w : World} {A : Around} {E : Value → Shared → Prop} {mg mb : Str → Option Value} {s₀ h H : Heap} {env : Env} {m cm : Str → Option Value} {nt nb D tw : Addr} {r : Nat → Addr} {ns ds : List Int} {g : Array GenState} {d : Drawn} {tk : Nat} {os : OsState}
theorem NotesAt.list {xs : List Value} (x : NotesAt h nt xs) : h.IsList nt xs.toArray := (by obtain ⟨n, e⟩ := x; exact ⟨_, e, rfl, n, rfl⟩)
theorem FnIn.kz {h' : Heap} {f : Addr} {xs : List Value} (x : FnIn h f) (F : Fm h env m cm) (n : NotesAt h nt xs) (k : Kz env nt h h') : FnIn h' f := by
  obtain ⟨oc, od, fd, sl, e⟩ := x
  exact ⟨oc, od, fd, sl, k _ _ (F.gok.off e (by intro _ _ q; cases q) (by intro _ q; cases q)) (n.ne' e (by intro _ _ q; cases q)) e⟩
/-- seen = len(notes) -/
theorem pr_seen {xs : List Value} {y1 y2 y3 y4 y5 : Pos} {Q : Flow → Shared → Prop} (e : LE s₀ env) (G : GK s₀ mg mb) (N : BN mg mb) (x : TS w mg mb s₀ h H env m cm nt nb D tw r ns ds) (hn : NotesAt h nt xs) (hl : xs.length ≤ 500000)
    (hq : ∀ h' tk' t, TS w mg mb s₀ h' H env (fun y => if y = ("seen" : Str) then some (.int xs.length t) else m y) cm nt nb D tw r ns ds → Ex (gW env) h h' → Q .next ⟨h', g, d, tk', os⟩) :
    wpAny (model PySem.Challenge.pw_dz0037_02 w) A (exec (.Assign [.Name "seen" y1] (.Call (.Name "len" y2) [.Name "notes" y3] [] y4) y5) env) Q E ⟨h, g, d, tk, os⟩ := by
  obtain ⟨k1, c1, h1⟩ := e.cel "notes" (by simp)
  refine wpAny_Assign_Name (wpAny_Call_Name_kw (Name_function_global e.hk (e.glo _ (by simp)) (loadGlobal_builtin (by rw [e.eg]; exact x.st.ns G.g) (N.fn "len" (by simp)).1 (by rw [e.eb]; exact x.st.ns G.b) (N.fn "len" (by simp)).2 (callWith_builtin rfl (evalArgs_plain (spliced_cons ?_))))))
  refine wpAny_Name (x.st.fm.ldC (s := ⟨h, g, d, tk, os⟩) e.hk k1 h1 x.cNt (spliced_nil (call_len_list hn.list (by rw [List.size_toArray]; omega) ?_)))
  rw [List.size_toArray]
  refine x.st.fm.stL₂ (s := ⟨h, g, d, _, os⟩) e.hk (e.loc _ (by simp)) fun h₃ tk₃ F₃ ex₃ => ?_
  exact hq h₃ tk₃ _ (x.move e F₃ ex₃ rfl rfl rfl rfl) ex₃
/-- if top(row[i], row[j]) != stand or len(notes) != seen + asks: return False -/
theorem pr_ask {i j : Nat} {ti tj ta tb tc : Tok} {f : Addr} {xs : List Value} {z1 z2 z3 z4 z5 z6 z7 z8 z9 z10 z11 z12 z13 z14 z15 z16 z17 z18 z19 z20 z21 : Pos} {Q : Flow → Shared → Prop} (e : LE s₀ env) (G : GK s₀ mg mb) (N : BN mg mb) (hd0 : A.depth ≤ 770) (hu : A.units ≤ 3880) (x : TS w mg mb s₀ h H env m cm nt nb D tw r ns ds) (T : TopX w H nt f r ns ds) (fn : FnIn h f) (hi : i < 5) (hj : j < 5) (hn : NotesAt h nt xs) (hl : xs.length ≤ 400000)
    (ci : cm "i" = some (.int i ti)) (cj : cm "j" = some (.int j tj)) (mt : m "top" = some (.ref f)) (ms : m "stand" = some (.int (Int.sign (dueOf ds (standOf (nAt ns i) (nAt ns j))).2) tb)) (ma : m "asks" = some (.int (dueOf ds (standOf (nAt ns i) (nAt ns j))).1 ta)) (mse : m "seen" = some (.int xs.length tc))
    (hq : ∀ h' tk' ys, TS w mg mb s₀ h' H env m cm nt nb D tw r ns ds → NotesAt h' nt (xs ++ ys) → ys.length ≤ 64 → Pairs h' (.ref (r i)) (.ref (r j)) ys → Kz env nt h h' → Q .next ⟨h', g, d, tk', os⟩) :
    wpAny (model PySem.Challenge.pw_dz0037_02 w) A (exec (.If (.BoolOp .Or [.Compare (.Call (.Name "top" z1) [.Subscript (.Name "row" z2) (.Name "i" z3) z4, .Subscript (.Name "row" z5) (.Name "j" z6) z7] [] z8) [.NotEq] [.Name "stand" z9] z10, .Compare (.Call (.Name "len" z11) [.Name "notes" z12] [] z13) [.NotEq] [.BinOp (.Name "seen" z14) .Add (.Name "asks" z15) z16] z17] z18) [.Return (some (.Constant (.bool false) 0 z19)) z20] [] z21) env) Q E ⟨h, g, d, tk, os⟩ := by
  obtain ⟨k1, c1, h1⟩ := e.cel "notes" (by simp)
  obtain ⟨oc, od, fd, sl, ef⟩ := id fn
  have h64 : (dueOf ds (standOf (nAt ns i) (nAt ns j))).1 ≤ 64 := by
    have h1 := dueOf_le ds (1, standOf (nAt ns i) (nAt ns j))
    have h4 : (4 : Nat) ^ ds.length ≤ 4 ^ 3 := Nat.pow_le_pow_right (by decide) x.d3
    unfold dueOf; omega
  have hr : recursionLimit = 1000 := rfl
  have hc : 4000 < cLine := by rw [cLine_is]; decide
  have d3 := x.d3
  refine wpAny_If (isTrue_or (wpAny_isTrue_Compare1 (wpAny_Call_Name_kw (wpAny_Name (x.st.fm.ldL (s := ⟨h, g, d, tk, os⟩) e.hk (e.loc _ (by simp)) mt ?_)))))
  refine callWith_function (evalArgs_plain (spliced_cons (row_eval e x (by simp) (by decide) ci hi (spliced_cons (row_eval e x (by simp) (by decide) cj hj (spliced_nil ⟨⟨ef, rfl⟩, ?_⟩))))))
  refine T i j hi hj A _ _ ⟨h, g, d, tk, os⟩ xs (by omega) (by omega) x.kp hn (by omega) fun t h₁ tk₁ ys kq hn₁ hy hp => ?_
  have x₁ := x.kq kq hn₁ (by rw [List.length_append]; omega)
  refine wpAny_Name (x₁.st.fm.ldL (s := ⟨h₁, g, d, tk₁, os⟩) e.hk (e.loc _ (by simp)) ms (ne_int (wpAny_truthy_bool ?_)))
  rw [bne_self_eq_false, if_neg (by decide)]
  refine isTrue_or (wpAny_isTrue_Compare1 (wpAny_Call_Name_kw (Name_function_global e.hk (e.glo _ (by simp)) (loadGlobal_builtin (by rw [e.eg]; exact x₁.st.ns G.g) (N.fn "len" (by simp)).1 (by rw [e.eb]; exact x₁.st.ns G.b) (N.fn "len" (by simp)).2 (callWith_builtin rfl (evalArgs_plain (spliced_cons ?_)))))))
  refine wpAny_Name (x₁.st.fm.ldC (s := ⟨h₁, g, d, tk₁, os⟩) e.hk k1 h1 x₁.cNt (spliced_nil (call_len_list hn₁.list (by rw [List.size_toArray, List.length_append]; omega) ?_)))
  refine wpAny_BinOp (wpAny_Name (x₁.st.fm.ldL (s := ⟨h₁, g, d, _, os⟩) e.hk (e.loc _ (by simp)) mse (wpAny_Name (x₁.st.fm.ldL (s := ⟨h₁, g, d, _, os⟩) e.hk (e.loc _ (by simp)) ma (add_int (ne_int (wpAny_truthy_bool ?_)))))))
  have e0 : (((xs ++ ys).toArray.size : Nat) : Int) = (xs.length : Int) + ((dueOf ds (standOf (nAt ns i) (nAt ns j))).1 : Int) := by rw [List.size_toArray, List.length_append, hy]; push_cast; rfl
  rw [e0, bne_self_eq_false, if_neg (by decide)]
  refine isTrue_or_nil ?_
  refine wpAny_execs_nil (hq h₁ _ ys x₁ hn₁ (by omega) hp fun b o _ nb' eb => kq b o nb' eb)
end
end Mine
end

-- part Q14
section
open PySem PySem.W PySem.W.X PySem.Calls PyProof.Rows
set_option maxRecDepth 100000
set_option maxHeartbeats 4000000
namespace Mine
section
variable {w : World} {A : Around} {E : Value → Shared → Prop} {mg mb : Str → Option Value} {s₀ h H : Heap} {env : Env} {m cm : Str → Option Value} {nt nb D tw : Addr} {r : Nat → Addr} {ns ds : List Int} {g : Array GenState} {d : Drawn} {tk : Nat} {os : OsState}
/-- row[v], within a comprehension -/
theorem row_evalC {prog : Program} {scope : Scope} {cl : List (Str × Addr)} {C cr cv : Addr} {v : Str} {k : Nat} {t : Tok} {q1 q2 q3 : Pos} {s₃ : Shared} {E' : Value → Shared → Prop} {Q : Value → Shared → Prop} (hk : scope.kind = .function) (ek : env.scope.kind = .function) (k1 : scope.names.lookup ("row" : Str) = some .free) (k2 : scope.names.lookup v = some .free) (k3 : env.kindOf "row" = some .cell) (k4 : env.kindOf v = some .cell) (hb : (v == ("__debug__" : Str)) = false)
    (l1 : cl.lookup ("row" : Str) = some cr) (l2 : cl.lookup v = some cv) (i1 : s₃.heap.IsCell cr (some (.ref D))) (i2 : s₃.heap.IsCell cv (some (.int k t))) (hr : RowAt s₃.heap D r) (hk5 : k < 5) (hq : Q (.ref (r k)) s₃) :
    wpAny (model prog w) A (eval (.Subscript (.Name "row" q1) (.Name v q2) q3) (compEnvC scope cl C env)) Q E' s₃ := by
  obtain ⟨ys, hl, hz, hit⟩ := hr
  have hk' : (compEnvC scope cl C env).scope.kind = .function := hk
  refine Subscript_ (wpAny_Name (wpAny_loadName_cell hk' (comp_cell k1 ek k3) l1 i1 (wpAny_Name (wpAny_loadName_cell hk' (comp_cell k2 ek k4) l2 i2 ?_) hb)))
  exact list_item hl (by omega) (by omega) (by rw [Int.toNat_natCast]; exact (hit k hk5).1) (by with_unfolding_all rfl) hq
/-- if [a for a, b in notes[seen:] if a is not row[i] or b is not row[j]] != []: return False -/
theorem pr_look {i j : Nat} {ti tj tc : Tok} {xs ys : List Value} {u1 u2 u3 u4 u5 u6 u7 u8 u9 u10 u11 u12 u13 u14 u15 u16 u17 u18 u19 u20 u21 u22 u23 u24 u25 : Pos} {Q : Flow → Shared → Prop} (e : LE s₀ env) (hh : A.handled = none) (hu : A.units ≤ 3880) (x : TS w mg mb s₀ h H env m cm nt nb D tw r ns ds) (hi : i < 5) (hj : j < 5) (hn : NotesAt h nt (xs ++ ys)) (hl : (xs ++ ys).length ≤ 500000) (hp : Pairs h (.ref (r i)) (.ref (r j)) ys)
    (ci : cm "i" = some (.int i ti)) (cj : cm "j" = some (.int j tj)) (mse : m "seen" = some (.int xs.length tc))
    (hq : ∀ h' tk', TS w mg mb s₀ h' H env m cm nt nb D tw r ns ds → (∀ b o, h.get? b = some o → h'.get? b = some o) → Q .next ⟨h', g, d, tk', os⟩) :
    wpAny (model PySem.Challenge.pw_dz0037_02 w) A (exec (.If (.Compare (.ListComp (.Name "a" u1) [⟨.Tuple [.Name "a" u2, .Name "b" u3] 0 u4, .Subscript (.Name "notes" u5) (.Slice (some (.Name "seen" u6)) none none u7) u8, [.BoolOp .Or [.Compare (.Name "a" u9) [.IsNot] [.Subscript (.Name "row" u10) (.Name "i" u11) u12] u13, .Compare (.Name "b" u14) [.IsNot] [.Subscript (.Name "row" u15) (.Name "j" u16) u17] u18] u19], 0⟩] pScope u20) [.NotEq] [.List [] u21] u22) [.Return (some (.Constant (.bool false) 0 u23)) u24] [] u25) env) Q E ⟨h, g, d, tk, os⟩ := by
  obtain ⟨k1, c1, h1⟩ := e.cel "notes" (by simp)
  obtain ⟨k2, c2, h2⟩ := e.cel "row" (by simp)
  obtain ⟨k3, c3, h3⟩ := e.cel "i" (by simp)
  obtain ⟨k4, c4, h4⟩ := e.cel "j" (by simp)
  have hcl : closureFor pScope env = pure ([("row", c2), ("j", c4), ("i", c3)] : List (Str × Addr)) := by
    refine (closure_gen fun y hy hf => ?_).trans ?_
    · simp only [List.mem_cons, List.not_mem_nil, or_false] at hy
      rcases hy with rfl | rfl | rfl | rfl | rfl | rfl <;> first | (cases hf; done) | exact ⟨_, h2⟩ | exact ⟨_, h3⟩ | exact ⟨_, h4⟩
    · show pure ([("row", (env.cells.lookup ("row" : Str)).getD 0), ("j", (env.cells.lookup ("j" : Str)).getD 0), ("i", (env.cells.lookup ("i" : Str)).getD 0)] : List (Str × Addr)) = _
      rw [h2, h3, h4]; rfl
  have i2 := x.st.fm.cell "row" c2 h2
  have i3 := x.st.fm.cell "i" c3 h3
  have i4 := x.st.fm.cell "j" c4 h4
  rw [x.cRow] at i2
  rw [ci] at i3
  rw [cj] at i4
  refine wpAny_If (wpAny_isTrue_Compare1 ?_)
  refine comp_none (v1 := .ref (r i)) (v2 := .ref (r j)) hh hcl (by decide) rfl (by intro y hy; simp only [List.mem_cons, List.not_mem_nil, or_false] at hy; rcases hy with rfl | rfl | rfl | rfl | rfl | rfl <;> intro z <;> first | rfl | cases z) rfl rfl (by decide) ?_
  refine slice2 (s := ⟨h, g, d, tk, os⟩) (lo := some xs.length) (hi := none) (fun Q' hq' => wpAny_Name (x.st.fm.ldC (s := ⟨h, g, d, tk, os⟩) e.hk k1 h1 x.cNt hq')) hn.list (by rw [List.size_toArray, sizeLine_eq]; omega) ?_ ?_ ?_
  · intro Q' s' es hq'
    rw [evalPart_some]
    exact wpAny_Name (wpAny_loadName_local e.hk (e.loc _ (by simp)) (es ▸ x.st.fm.ns) mse (hq' _ _ (.int _ _)))
  · intro Q' s' es hq'
    rw [evalPart_none]
    exact wpAny_pure (hq' _ _ .none)
  intro Dl h₁ tk₁ keep _ hD
  have hpick : slicePick (xs ++ ys).toArray (some (xs.length : Int)) none none = ys.toArray := by
    rw [slicePick_from _ _ (by rw [List.size_toArray, List.length_append]; omega)]
    simp
  rw [hpick] at hD
  refine ⟨Dl, _, rfl, ⟨_, hD, rfl, _, rfl⟩, fun y hy => ?_, fun C s₃ m₃ E' _ hns ha hb k₃ => ?_, fun D₂ h₂ tk₂ k₂ hD₂ => ?_⟩
  · obtain ⟨t, dd, n, sl, rfl, et⟩ := hp y (by simpa using hy)
    exact ⟨t, rfl, ⟨_, keep _ _ et, rfl, _, rfl⟩⟩
  · have kk : ∀ b o, h.get? b = some o → s₃.heap.get? b = some o := fun b o eb => k₃ b o (keep b o eb)
    have hr : RowAt s₃.heap D r := (x.row.kp x.kp x.Dt x.rt).ex (W := []) (fun w hw => nomatch hw) (fun b o _ eb => kk b o eb)
    have hk' : (compEnvC pScope [("row", c2), ("j", c4), ("i", c3)] C env).scope.kind = .function := rfl
    refine isTrue_or (wpAny_isTrue_Compare1 (wpAny_Name (wpAny_loadName_local hk' (comp_kind rfl rfl) hns ha (row_evalC rfl e.hk rfl rfl k2 k3 (by decide) rfl rfl (i2.keeps kk) (i3.keeps kk) hr hi (wpAny_isNot_ref_self (wpAny_truthy_bool ?_))))))
    rw [if_neg (by decide)]
    refine isTrue_or (wpAny_isTrue_Compare1 (wpAny_Name (wpAny_loadName_local hk' (comp_kind rfl rfl) hns hb (row_evalC rfl e.hk rfl rfl k2 k4 (by decide) rfl rfl (i2.keeps kk) (i4.keeps kk) hr hj (wpAny_isNot_ref_self (wpAny_truthy_bool ?_))))))
    rw [if_neg (by decide)]
    exact isTrue_or_nil ⟨rfl, Keeps.rfl⟩
  · refine wpAny_List (spliced_nil ⟨by rw [sizeLine_eq]; simp, ?_⟩)
    have kp : ∀ b o, h₂.get? b = some o → (h₂.push { cls := .type "list", data := .seq ([] : List Value).toArray }).get? b = some o := fun b o eb => Heap.get?_push_of_some _ eb
    refine ke_ne_ints (xs := []) (ys := []) ⟨_, kp _ _ hD₂, rfl, _, rfl⟩ ⟨_, Heap.get?_push_size _ rfl, rfl, _, rfl⟩ .nil .nil (by rw [cLine_is]; omega) (wpAny_truthy_bool ?_)
    have kall : ∀ b o, h.get? b = some o → (h₂.push { cls := .type "list", data := .seq ([] : List Value).toArray }).get? b = some o := fun b o eb => kp _ _ (k₂ _ _ (keep _ _ eb))
    exact wpAny_execs_nil (hq _ _ (x.keeps e kall) kall)
/-- a pair's turn -/
theorem pair_turn {i j B : Nat} {ti tj : Tok} {f : Addr} {x1 x2 x3 x4 x5 x6 x7 x8 x9 x10 x11 x12 x13 x14 x15 x16 x17 x18 y1 y2 y3 y4 y5 z1 z2 z3 z4 z5 z6 z7 z8 z9 z10 z11 z12 z13 z14 z15 z16 z17 z18 z19 z20 z21 u1 u2 u3 u4 u5 u6 u7 u8 u9 u10 u11 u12 u13 u14 u15 u16 u17 u18 u19 u20 u21 u22 u23 u24 u25 : Pos} {Q : Flow → Shared → Prop} (X : (hd.heap_39 w.params).In s₀) (e : LE s₀ env) (G : GK s₀ mg mb) (N : BN mg mb) (hh : A.handled = none) (hd0 : A.depth ≤ 770) (hu : A.units ≤ 3880) (x : TS w mg mb s₀ h H env m cm nt nb D tw r ns ds) (T : TopX w H nt f r ns ds) (fn : FnIn h f) (mt : m "top" = some (.ref f))
    (hB : ∃ xs, NotesAt h nt xs ∧ xs.length ≤ B) (hB' : B ≤ 300000) (ci : cm "i" = some (.int i ti)) (cj : cm "j" = some (.int j tj)) (hi : i < 5) (hj : j < 5)
    (hq : ∀ h' tk' m', TS w mg mb s₀ h' H env m' cm nt nb D tw r ns ds → m' "top" = some (.ref f) → FnIn h' f → (∃ xs, NotesAt h' nt xs ∧ xs.length ≤ B + 64) → Kz env nt h h' → Q .next ⟨h', g, d, tk', os⟩) :
    wpAny (model PySem.Challenge.pw_dz0037_02 w) A (execs [.Assign [.Tuple [.Name "asks" x1, .Name "stand" x2] 0 x3] (.Call (.Name "_law_due" x4) [.Name "tower" x5, .BinOp (.BinOp (.Subscript (.Name "numbers" x6) (.Name "i" x7) x8) .FloorDiv (.Constant (.int 2) 0 x9) x10) .Sub (.BinOp (.Subscript (.Name "numbers" x11) (.Name "j" x12) x13) .FloorDiv (.Constant (.int 2) 0 x14) x15) x16] [] x17) x18, .Assign [.Name "seen" y1] (.Call (.Name "len" y2) [.Name "notes" y3] [] y4) y5, .If (.BoolOp .Or [.Compare (.Call (.Name "top" z1) [.Subscript (.Name "row" z2) (.Name "i" z3) z4, .Subscript (.Name "row" z5) (.Name "j" z6) z7] [] z8) [.NotEq] [.Name "stand" z9] z10, .Compare (.Call (.Name "len" z11) [.Name "notes" z12] [] z13) [.NotEq] [.BinOp (.Name "seen" z14) .Add (.Name "asks" z15) z16] z17] z18) [.Return (some (.Constant (.bool false) 0 z19)) z20] [] z21, .If (.Compare (.ListComp (.Name "a" u1) [⟨.Tuple [.Name "a" u2, .Name "b" u3] 0 u4, .Subscript (.Name "notes" u5) (.Slice (some (.Name "seen" u6)) none none u7) u8, [.BoolOp .Or [.Compare (.Name "a" u9) [.IsNot] [.Subscript (.Name "row" u10) (.Name "i" u11) u12] u13, .Compare (.Name "b" u14) [.IsNot] [.Subscript (.Name "row" u15) (.Name "j" u16) u17] u18] u19], 0⟩] pScope u20) [.NotEq] [.List [] u21] u22) [.Return (some (.Constant (.bool false) 0 u23)) u24] [] u25] env) Q E ⟨h, g, d, tk, os⟩ := by
  obtain ⟨xs, hn, hl⟩ := hB
  have kn : ∀ {h₁ h₂ : Heap} {zs : List Value}, Ex (gW env) h₁ h₂ → NotesAt h₁ nt zs → NotesAt h₂ nt zs := fun k ⟨n, en⟩ => ⟨n, k _ _ (fun q => x.ntW (gW_sub q)) en⟩
  refine wpAny_execs_cons (pr_due X e G hh hd0 x ci cj hi hj fun h₁ tk₁ ta tb x₁ ex₁ => ?_)
  refine wpAny_execs_cons (pr_seen e G N x₁ (kn ex₁ hn) (by omega) fun h₂ tk₂ tc x₂ ex₂ => ?_)
  have hn₂ := kn ex₂ (kn ex₁ hn)
  have kz₂ : Kz env nt h h₂ := (ex₁.trans ex₂).kz
  refine wpAny_execs_cons (pr_ask e G N hd0 hu x₂ T (fn.kz x.st.fm hn kz₂) hi hj hn₂ (by omega) ci cj mt rfl rfl rfl fun h₃ tk₃ ys x₃ hn₃ hy hp kz₃ => ?_)
  have hlen : (xs ++ ys).length ≤ B + 64 := by rw [List.length_append]; omega
  refine wpAny_execs_cons (pr_look e hh hu x₃ hi hj hn₃ (by omega) hp ci cj rfl fun h₄ tk₄ x₄ k₄ => ?_)
  have kz : Kz env nt h h₄ := (kz₂.trans kz₃).trans (Ex.of k₄).kz
  exact wpAny_execs_nil (hq h₄ tk₄ _ x₄ mt (fn.kz x.st.fm hn kz) ⟨xs ++ ys, hn₃.keeps k₄, hlen⟩ kz)
end
end Mine
end

-- part Q15
section
open PySem PySem.W PySem.W.X PySem.Calls PyProof.Rows
set_option maxRecDepth 100000
set_option maxHeartbeats 400000
namespace Mine
theorem fs_list {elts : List Expr} {p : Pos} {env : Env} {x : Value} : foldedSetIterable (.List elts p) env x = pure x := rfl
noncomputable abbrev sixP : List (Nat × Nat) := [(0, 0), (0, 4), (1, 0), (2, 1), (3, 2), (4, 3)]
noncomputable abbrev tupO (a b : Int) (t u : Tok) : Obj := ⟨.type "tuple", none, .seq #[.int a t, .int b u] 0, #[]⟩
/-- the list of the pairs -/
structure SixAt (h : Heap) (l : Addr) (items : Array Value) : Prop where
  list : h.IsList l items
  size : items.size = 6
  at_ : ∀ k v, items[k]? = some v → ∃ T t u, v = .ref T ∧ h.get? T = some (tupO (sixP.getD k (0, 0)).1 (sixP.getD k (0, 0)).2 t u)
theorem SixAt.kz {env : Env} {nt l : Addr} {h h' : Heap} {items : Array Value} {xs : List Value} {m cm : Str → Option Value} (x : SixAt h l items) (F : Fm h env m cm) (n : NotesAt h nt xs) (hl : l ≠ nt) (k : Kz env nt h h') : SixAt h' l items := by
  refine ⟨?_, x.size, fun j v hv => ?_⟩
  · obtain ⟨o, e, c, n', d⟩ := x.list
    exact ⟨o, k _ _ (F.gok.off e (by intro _ _ q; rw [d] at q; cases q) (by intro _ q; rw [d] at q; cases q)) hl e, c, n', d⟩
  · obtain ⟨T, t, u, e1, e2⟩ := x.at_ j v hv
    exact ⟨T, t, u, e1, k _ _ (F.gok.off e2 (by intro _ _ q; cases q) (by intro _ q; cases q)) (n.ne e2 (by intro q; exact absurd (Value.type.inj q) (by decide))) e2⟩
section
variable {M : Model} {A : Around} {E : Value → Shared → Prop} {s : Shared} {env : Env}
theorem sixP_lt (i : Nat) : (sixP.getD i (0, 0)).1 < 5 ∧ (sixP.getD i (0, 0)).2 < 5 := by
  match i with
  | 0 => decide
  | 1 => decide
  | 2 => decide
  | 3 => decide
  | 4 => decide
  | 5 => decide
  | n + 6 => exact ⟨by show (0 : Nat) < 5; decide, by show (0 : Nat) < 5; decide⟩
theorem star_tup {es : List Expr} {k : Nat} {p : Pos} {rest : List Expr} : starEach (.Tuple es k p :: rest) env = (false, eval (.Tuple es k p) env) :: starEach rest env := by simp only [starEach]
theorem sp_tup {es : List Expr} {k : Nat} {p pos : Pos} {rest : List Expr} {Q : List Value → Shared → Prop} (h : wpAny M A (eval (.Tuple es k p) env) (fun v s₁ => wpAny M A (spliced (backTo pos (starEach rest env))) (fun vs s₂ => Q (v :: vs) s₂) E s₁) E s) :
    wpAny M A (spliced (backTo pos (starEach (.Tuple es k p :: rest) env))) Q E s := by
  rw [star_tup]
  exact spliced_cons h
theorem sp_nil {pos : Pos} {Q : List Value → Shared → Prop} (h : Q [] s) : wpAny M A (spliced (backTo pos (starEach [] env))) Q E s := by
  rw [show starEach [] env = [] by simp only [starEach]]
  exact spliced_nil h
theorem tup2 {a b : Int} {p1 p2 p3 : Pos} {Q : Value → Shared → Prop} (hq : ∀ T h' tk' t u, (∀ b o, s.heap.get? b = some o → h'.get? b = some o) → s.heap.get? T = none → h'.get? T = some (tupO a b t u) → Q (.ref T) { s with heap := h', toks := tk' }) :
    wpAny M A (eval (.Tuple [.Constant (.int a) 0 p1, .Constant (.int b) 0 p2] 0 p3) env) Q E s := by
  refine wpAny_Tuple (spliced_cons ?_)
  refine wpAny_Constant_int (k := 0) (pos := p1) (spliced_cons ?_)
  refine wpAny_Constant_int (k := 0) (pos := p2) (spliced_nil ⟨by rw [sizeLine_eq]; simp, ?_⟩)
  exact hq _ _ _ _ _ (fun b o e => Heap.get?_push_of_some _ e) (Heap.get?_none_of_le (Nat.le_refl _)) (Heap.get?_push_size _ rfl)
end
section
variable {w : World} {A : Around} {E : Value → Shared → Prop} {mg mb : Str → Option Value} {s₀ h0 H : Heap} {env : Env} {m cm : Str → Option Value} {nt nb D tw : Addr} {r : Nat → Addr} {ns ds : List Int} {g : Array GenState} {d : Drawn} {tk0 : Nat} {os : OsState}
theorem six_eval {o1 o2 o3 o4 o5 o6 o7 o8 o9 o10 o11 o12 o13 o14 o15 o16 o17 o18 o19 : Pos} {prog : Program} {h0 : Heap} {tk0 : Nat} {g : Array GenState} {d : Drawn} {os : OsState} {Q : Value → Shared → Prop}
    (hq : ∀ l items h' tk', SixAt h' l items → (∀ b o, h0.get? b = some o → h'.get? b = some o) → h0.get? l = none → Q (.ref l) ⟨h', g, d, tk', os⟩) :
    wpAny (model prog w) A (eval (.List [.Tuple [.Constant (.int 0) 0 o1, .Constant (.int 0) 0 o2] 0 o3, .Tuple [.Constant (.int 0) 0 o4, .Constant (.int 4) 0 o5] 0 o6, .Tuple [.Constant (.int 1) 0 o7, .Constant (.int 0) 0 o8] 0 o9, .Tuple [.Constant (.int 2) 0 o10, .Constant (.int 1) 0 o11] 0 o12, .Tuple [.Constant (.int 3) 0 o13, .Constant (.int 2) 0 o14] 0 o15, .Tuple [.Constant (.int 4) 0 o16, .Constant (.int 3) 0 o17] 0 o18] o19) env) Q E ⟨h0, g, d, tk0, os⟩ := by
  refine wpAny_List ?_
  refine sp_tup ?_
  refine tup2 (s := ⟨h0, g, d, tk0, os⟩) ?_
  intro T0 h1 tk1 a0 b0 k0 n0 e0
  refine sp_tup ?_
  refine tup2 (s := ⟨h1, g, d, tk1, os⟩) ?_
  intro T1 h2 tk2 a1 b1 k1 n1 e1
  refine sp_tup ?_
  refine tup2 (s := ⟨h2, g, d, tk2, os⟩) ?_
  intro T2 h3 tk3 a2 b2 k2 n2 e2
  refine sp_tup ?_
  refine tup2 (s := ⟨h3, g, d, tk3, os⟩) ?_
  intro T3 h4 tk4 a3 b3 k3 n3 e3
  refine sp_tup ?_
  refine tup2 (s := ⟨h4, g, d, tk4, os⟩) ?_
  intro T4 h5 tk5 a4 b4 k4 n4 e4
  refine sp_tup ?_
  refine tup2 (s := ⟨h5, g, d, tk5, os⟩) ?_
  intro T5 h6 tk6 a5 b5 k5 n5 e5
  refine sp_nil ⟨by rw [sizeLine_eq]; simp, ?_⟩
  have t0 := k5 _ _ (k4 _ _ (k3 _ _ (k2 _ _ (k1 _ _ (e0)))))
  have t1 := k5 _ _ (k4 _ _ (k3 _ _ (k2 _ _ (e1))))
  have t2 := k5 _ _ (k4 _ _ (k3 _ _ (e2)))
  have t3 := k5 _ _ (k4 _ _ (e3))
  have t4 := k5 _ _ (e4)
  have t5 := e5
  have kall : ∀ b o, h0.get? b = some o → h6.get? b = some o := fun b o eb => k5 _ _ (k4 _ _ (k3 _ _ (k2 _ _ (k1 _ _ (k0 _ _ (eb))))))
  have kl : ∀ b o, h6.get? b = some o → (h6.push { cls := .type "list", data := .seq [Value.ref T0, .ref T1, .ref T2, .ref T3, .ref T4, .ref T5].toArray }).get? b = some o := fun b o eb => Heap.get?_push_of_some _ eb
  refine hq h6.objs.size [Value.ref T0, .ref T1, .ref T2, .ref T3, .ref T4, .ref T5].toArray _ _ ⟨⟨_, Heap.get?_push_size _ rfl, rfl, _, rfl⟩, rfl, fun k v hv => ?_⟩ (fun b o eb => kl _ _ (kall b o eb)) ?_
  · match k with
    | 0 => cases hv; exact ⟨_, _, _, rfl, kl _ _ t0⟩
    | 1 => cases hv; exact ⟨_, _, _, rfl, kl _ _ t1⟩
    | 2 => cases hv; exact ⟨_, _, _, rfl, kl _ _ t2⟩
    | 3 => cases hv; exact ⟨_, _, _, rfl, kl _ _ t3⟩
    | 4 => cases hv; exact ⟨_, _, _, rfl, kl _ _ t4⟩
    | 5 => cases hv; exact ⟨_, _, _, rfl, kl _ _ t5⟩
    | k + 6 => cases hv
  · cases q : h0.get? h6.objs.size with
    | none => rfl
    | some o => exact absurd (Heap.lt_size (kall _ _ q)) (Nat.lt_irrefl _)
theorem st_pairs {f : Addr} {iter : Expr} {body : List Stmt} {o1 o2 o3 o4 : Pos} {Q : Flow → Shared → Prop} (e : LE s₀ env) (hh : A.handled = none) (x : TS w mg mb s₀ h0 H env m cm nt nb D tw r ns ds) (fn : FnIn h0 f) (mt : m "top" = some (.ref f))
    (hB : NotesAt h0 nt []) (hfs : ∀ x, foldedSetIterable iter env x = pure x)
    (hev : ∀ (E' Q' : Value → Shared → Prop), (∀ l items h' tk', SixAt h' l items → (∀ b o, h0.get? b = some o → h'.get? b = some o) → h0.get? l = none → Q' (.ref l) ⟨h', g, d, tk', os⟩) → wpAny (model PySem.Challenge.pw_dz0037_02 w) A (eval iter env) Q' E' ⟨h0, g, d, tk0, os⟩)
    (hturn : ∀ (h : Heap) (tk : Nat) (m cm : Str → Option Value) (i j B : Nat) (ti tj : Tok) (E' : Value → Shared → Prop) (Q' : Flow → Shared → Prop), TS w mg mb s₀ h H env m cm nt nb D tw r ns ds → FnIn h f → m "top" = some (.ref f) → (∃ xs, NotesAt h nt xs ∧ xs.length ≤ B) → B ≤ 300000 → cm "i" = some (.int i ti) → cm "j" = some (.int j tj) → i < 5 → j < 5 →
      (∀ h' tk' m', TS w mg mb s₀ h' H env m' cm nt nb D tw r ns ds → m' "top" = some (.ref f) → FnIn h' f → (∃ xs, NotesAt h' nt xs ∧ xs.length ≤ B + 64) → Kz env nt h h' → Q' .next ⟨h', g, d, tk', os⟩) →
      wpAny (model PySem.Challenge.pw_dz0037_02 w) A (execs body env) Q' E' ⟨h, g, d, tk, os⟩)
    (hq : ∀ h' tk' m' cm', TS w mg mb s₀ h' H env m' cm' nt nb D tw r ns ds → m' "top" = some (.ref f) → FnIn h' f → (∃ xs, NotesAt h' nt xs ∧ xs.length ≤ 1000) → Q .next ⟨h', g, d, tk', os⟩) :
    wpAny (model PySem.Challenge.pw_dz0037_02 w) A (exec (.For (.Tuple [.Name "i" o1, .Name "j" o2] 0 o3) iter body [] o4) env) Q E ⟨h0, g, d, tk0, os⟩ := by
  obtain ⟨ki, c1, h1⟩ := e.cel "i" (by simp)
  obtain ⟨kj, c2, h2⟩ := e.cel "j" (by simp)
  refine wpAny_For (hev _ _ fun l items h7 tk7 six kall nl => ?_) hfs
  have hln : l ≠ nt := fun q => by
    obtain ⟨n, en⟩ := hB
    rw [q, en] at nl; cases nl
  have x7 := x.keeps e kall
  have hB7 : NotesAt h7 nt [] := hB.keeps kall
  have fn7 : FnIn h7 f := (by obtain ⟨oc, od, fd, sl, ef⟩ := fn; exact ⟨oc, od, fd, sl, kall _ _ ef⟩)
  refine wpAny_pyIter_list six.list ?_
  have hit0 : h7.get? h7.objs.size = none := Heap.get?_none_of_le (Nat.le_refl _)
  have kp0 : ∀ b o, h7.get? b = some o → (h7.push { cls := .type "list_iterator", data := .fields #[.ref l, .int 0 0] }).get? b = some o := fun b o eb => Heap.get?_push_of_some _ eb
  have hitW : h7.objs.size ∉ fW env := x7.st.fm.apartOf hit0
  have hits0 : s₀.get? h7.objs.size = none := by
    have : s₀.objs.size < h7.objs.size := by rw [← e.eL]; exact x7.st.fm.ns.lt
    exact Heap.get?_none_of_le (Nat.le_of_lt this)
  have hitH : H.get? h7.objs.size = none := by
    cases q : H.get? h7.objs.size with
    | none => rfl
    | some o => obtain ⟨o', e'⟩ := x7.dom _ _ q; rw [hit0] at e'; cases e'
  have hitn : h7.objs.size ≠ nt := fun qn => by
    obtain ⟨_, en⟩ := hB7
    rw [← qn] at en; exact absurd (Heap.lt_size en) (Nat.lt_irrefl _)
  have hitA : (h7.push { cls := .type "list_iterator", data := .fields #[.ref l, .int 0 0] }).IsListIter h7.objs.size l 0 := ⟨_, Heap.get?_push_size _ rfl, rfl, rfl⟩
  generalize h7.objs.size = it at *
  have six8 : SixAt (h7.push { cls := .type "list_iterator", data := .fields #[.ref l, .int 0 0] }) l items := ⟨six.list.at fun o eo => kp0 _ _ eo, six.size, fun k v hv => (by obtain ⟨T, t, u, e1, e2⟩ := six.at_ k v hv; exact ⟨T, t, u, e1, kp0 _ _ e2⟩)⟩
  refine codeAny_forLoop_any (fun n s' => ∃ h' tk' m' cm' i, s' = ⟨h', g, d, tk', os⟩ ∧ h'.IsListIter it l i ∧ SixAt h' l items ∧ TS w mg mb s₀ h' H env m' cm' nt nb D tw r ns ds ∧ m' "top" = some (.ref f) ∧ FnIn h' f ∧ (∃ xs, NotesAt h' nt xs ∧ xs.length ≤ 64 * i) ∧ i ≤ 6 ∧ n = 7 - i)
    ?turn 7 ⟨_, _, m, cm, 0, rfl, hitA, six8, x7.keeps e kp0, mt, ((by obtain ⟨oc, od, fd, sl, ef⟩ := fn7; exact ⟨oc, od, fd, sl, kp0 _ _ ef⟩)), ⟨[], hB7.keeps kp0, by simp⟩, Nat.zero_le _, rfl⟩
  rintro n s' ⟨h₁, tk₁, m₁, cm₁, i, rfl, hit, six₁, x₁, mt₁, fn₁, ⟨xs, hn₁, hl₁⟩, hi, rfl⟩
  cases hv : items[i]? with
  | none =>
    refine wpAny_pyNext_list_end hh hit six₁.list hv fun h₂ ex₂ => wpAny_execs_nil ?_
    refine hq h₂ _ m₁ cm₁ (x₁.itr hit (fun b o hb eb => ex₂ b o hb eb) hitW hits0 hitH hitn) mt₁ ?_ ⟨xs, ?_, by omega⟩
    · obtain ⟨oc, od, fd, sl, ef⟩ := fn₁
      refine ⟨oc, od, fd, sl, ex₂ _ _ (fun q => ?_) ef⟩
      obtain ⟨o, eo, _, dd⟩ := hit
      rw [q, eo] at ef; cases ef; cases dd
    · obtain ⟨nn, en⟩ := hn₁
      exact ⟨nn, ex₂ _ _ (Ne.symm hitn) en⟩
  | some v =>
    have hlt : i < 6 := by rw [← six₁.size]; exact (Array.getElem?_eq_some_iff.mp hv).1
    obtain ⟨Tp, tt, tu, rfl, htp⟩ := six₁.at_ i v hv
    have p5 := sixP_lt i
    generalize sixP.getD i (0, 0) = pp at htp p5
    refine wpAny_pyNext_list_item hit six₁.list hv fun h₂ hit₂ sb₂ => ?_
    have k₂ : ∀ b o, b ≠ it → h₁.get? b = some o → h₂.get? b = some o := fun b o hb eb => (sb₂.2 b hb).trans eb
    have notIt : ∀ {b : Addr} {o : Obj}, h₁.get? b = some o → (∀ vs, o.data ≠ .fields vs) → b ≠ it := fun eb hd q => by
      obtain ⟨o, eo, _, dd⟩ := hit
      rw [q, eo] at eb; cases eb; exact hd _ dd
    have x₂ := x₁.itr hit k₂ hitW hits0 hitH hitn
    have fn₂ : FnIn h₂ f := (by obtain ⟨oc, od, fd, sl, ef⟩ := fn₁; exact ⟨oc, od, fd, sl, k₂ _ _ (notIt ef (by intro _ q; cases q)) ef⟩)
    have six₂ : SixAt h₂ l items := ⟨(by obtain ⟨o, eo, c, n, dd⟩ := six₁.list; exact ⟨o, k₂ _ _ (notIt eo (by intro _ q; rw [dd] at q; cases q)) eo, c, n, dd⟩), six₁.size, fun k v hv => (by obtain ⟨T, t, u, e1, e2⟩ := six₁.at_ k v hv; exact ⟨T, t, u, e1, k₂ _ _ (notIt e2 (by intro _ q; cases q)) e2⟩)⟩
    have hn₂ : NotesAt h₂ nt xs := (by obtain ⟨nn, en⟩ := hn₁; exact ⟨nn, k₂ _ _ (Ne.symm hitn) en⟩)
    have htp₂ := k₂ _ _ (notIt htp (by intro _ q; cases q)) htp
    refine wpAny_letOwnedTupleGo_listiter hit₂ ?_
    refine wpAny_assign_Tuple (s := ⟨h₂, g, d, _, os⟩) hh ⟨_, htp₂, rfl, _, rfl⟩ rfl rfl fun h₃ ex₃ => ?_
    have k₃ : ∀ b o, h₂.get? b = some o → h₃.get? b = some o := fun b o eb => ex₃ b o (Nat.ne_of_lt (Heap.lt_size eb)) eb
    have x₃ := x₂.keeps e k₃
    refine wpAny_assignInOrder_more (wpAny_assign_Name (x₃.st.fm.stC₂ (s := ⟨h₃, g, d, _, os⟩) e.hk ki h1 (by simp) fun h₄ tk₄ F₄ ex₄ => ?_))
    have x₄ := x₃.move e F₄ ex₄ rfl rfl rfl rfl
    refine wpAny_assignInOrder_more (wpAny_assign_Name (x₄.st.fm.stC₂ (s := ⟨h₄, g, d, tk₄, os⟩) e.hk kj h2 (by simp) fun h₅ tk₅ F₅ ex₅ => ?_))
    have x₅ := x₄.move e F₅ ex₅ rfl rfl rfl rfl
    have kz₅ : Kz env nt h₂ h₅ := ((Ex.of k₃).trans (ex₄.trans ex₅)).kz
    have fn₅ := fn₂.kz x₂.st.fm hn₂ kz₅
    have kn : ∀ {h₁ h₂ : Heap} {zs : List Value}, Ex (gW env) h₁ h₂ → NotesAt h₁ nt zs → NotesAt h₂ nt zs := fun k ⟨n, en⟩ => ⟨n, k _ _ (fun q => x.ntW (gW_sub q)) en⟩
    have hn₅ : NotesAt h₅ nt xs := kn ex₅ (kn ex₄ (hn₂.keeps k₃))
    refine wpAny_assignInOrder_none (hturn h₅ tk₅ _ _ _ _ (64 * i) _ _ _ _ x₅ fn₅ mt₁ ⟨xs, hn₅, hl₁⟩ (by omega) rfl rfl p5.1 p5.2 fun h₆ tk₆ m₆ x₆ mt₆ fn₆ hB₆ kz₆ => ?_)
    have kz : Kz env nt h₂ h₆ := kz₅.trans kz₆
    refine ⟨7 - (i + 1), by omega, h₆, tk₆, m₆, _, i + 1, rfl, ?_, six₂.kz x₂.st.fm hn₂ hln kz, x₆, mt₆, fn₆, ((by obtain ⟨ys, a, b⟩ := hB₆; exact ⟨ys, a, by omega⟩)), hlt, rfl⟩
    obtain ⟨o, eo, c, dd⟩ := hit₂
    exact ⟨o, kz _ _ (fun q => hitW (gW_sub q)) hitn eo, c, dd⟩
end
end Mine
end

-- part Q16
section
open PySem PySem.W PySem.W.X PySem.Calls PyProof.Rows
set_option maxRecDepth 100000
set_option maxHeartbeats 400000
namespace Mine
theorem paired_eq {l1 l2 : List Value} (h : Paired (fun v y => y = v) l1 l2) : l2 = l1 := by
  induction h with
  | nil => rfl
  | cons a _ ih => rw [a, ih]
section
variable {prog : Program} {w : World} {A : Around} {E : Value → Shared → Prop} {s : Shared} {env : Env}
/-- [x for x in list if test] -/
theorem comp_flt {iter test : Expr} {x : Str} {px px2 pos : Pos} {scope : Scope} {cl : List (Str × Addr)} {Q : Value → Shared → Prop} (p : Value → Bool) (hh : A.handled = none)
    (hclos : closureFor scope env = pure cl) (hcell : ∀ z ∈ scope.names, z.2 ≠ .cell) (hkind : scope.kind = .function) (hnames : ∀ z ∈ scope.names, z.2 = .local → scope.names.lookup z.1 = some .local)
    (hx : scope.names.lookup x = some .local) (hb : (x == ("__debug__" : Str)) = false)
    (h : wpAny (model prog w) A (eval iter env) (fun xv s₁ => ∃ l items, xv = .ref l ∧ s₁.heap.IsList l items ∧ items.size ≤ sizeLine ∧
      (∀ (C : Addr) (i : Nat) (v : Value) s₃ m₃ E', s₁.heap.objs.size ≤ C → items[i]? = some v → s₃.heap.Ns C m₃ → m₃ x = some v → (∀ b o, s₁.heap.get? b = some o → s₃.heap.get? b = some o) →
        wpAny (model prog w) A (isTrue test (compEnvC scope cl C env) (eval test (compEnvC scope cl C env))) (fun ok s₄ => ok = p v ∧ Keeps s₃ s₄) E' s₃) ∧
      (∀ D h' tk ys, (∀ b o, s₁.heap.get? b = some o → h'.get? b = some o) → s₁.heap.get? D = none → h'.IsList D ys → ys.toList = items.toList.filter p → Q (.ref D) { s₁ with heap := h', toks := tk })) E s)
    (hs : ∀ x, foldedSetIterable iter env x = pure x := by intro _; rfl) :
    wpAny (model prog w) A (eval (.ListComp (.Name x px2) [⟨.Name x px, iter, [test], 0⟩] scope pos) env) Q E s := by
  refine wpAny_ListComp_free p (fun v y => y = v) hclos hcell hkind hnames hx (wpAny_mono h (fun xv s₁ h₁ => ?_) fun _ _ e => e) hs
  obtain ⟨l, items, rfl, hl, hz, htest, hQ⟩ := h₁
  refine wpAny_pyIter_list hl ?_
  have nI : s₁.heap.get? s₁.heap.objs.size = none := Heap.get?_none_of_le (Nat.le_refl _)
  have hne : l ≠ s₁.heap.objs.size := Nat.ne_of_lt ((by obtain ⟨_, e, _⟩ := hl; exact Heap.lt_size e))
  have kp : ∀ b o, s₁.heap.get? b = some o → (s₁.heap.push { cls := .type "list_iterator", data := .fields #[.ref l, .int 0 0] }).get? b = some o := fun b o e => Heap.get?_push_of_some _ e
  have hit : (s₁.heap.push { cls := .type "list_iterator", data := .fields #[.ref l, .int 0 0] }).IsListIter s₁.heap.objs.size l 0 := ⟨_, Heap.get?_push_size _ rfl, rfl, rfl⟩
  have hl' : (s₁.heap.push { cls := .type "list_iterator", data := .fields #[.ref l, .int 0 0] }).IsList l items := hl.at fun o e => kp _ _ e
  have hsz : s₁.heap.objs.size < (s₁.heap.push { cls := .type "list_iterator", data := .fields #[.ref l, .int 0 0] }).objs.size := by rw [Heap.size_push]; exact Nat.lt_succ_self _
  generalize (s₁.heap.push { cls := .type "list_iterator", data := .fields #[.ref l, .int 0 0] }) = H1 at *
  have kI : ∀ {h₃ : Heap}, (∀ b o, b ∉ [s₁.heap.objs.size] → H1.get? b = some o → h₃.get? b = some o) → ∀ b o, s₁.heap.get? b = some o → h₃.get? b = some o := fun k b o eb => k b o (fun q => by rw [List.mem_singleton] at q; rw [q, nI] at eb; cases eb) (kp b o eb)
  refine ⟨s₁.heap.objs.size, [s₁.heap.objs.size, l], [s₁.heap.objs.size], items.size, _, _, rfl, Walks.list hh _ _ hne items, hz, ⟨hit, hl'⟩, fun b hb => ?_, ⟨?_, ?_⟩, ?_⟩
  · rcases List.mem_cons.mp hb with rfl | hb
    · exact hsz
    · rw [List.mem_singleton.mp hb]
      obtain ⟨_, e, _⟩ := hl'
      exact Heap.lt_size e
  · intro C i v s₃ m₃ E' hC hP hns hm k₃ _
    exact wpAny_tests_one (htest C i v s₃ m₃ E' (Nat.le_trans (Nat.le_of_lt hsz) hC) hP hns hm (kI k₃))
  · intro C i v s₃ m₃ E' _ hP _ hns hm k₃ _
    exact wpAny_Name (wpAny_loadName_local (env := compEnvC scope cl C env) hkind (comp_kind hx rfl) hns hm ⟨rfl, Keeps.rfl⟩) hb
  · intro D h' tk' ys vs nD hD _ hlen hP hF k₃
    have e1 := paired_eq hF
    have e2 : vs = items.toList := by
      apply List.ext_getElem?
      intro j
      by_cases hj : j < items.size
      · have hv : vs[j]? = some vs[j] := List.getElem?_eq_getElem (by omega)
        rw [hv, Array.getElem?_toList]
        exact (hP j _ hv).symm
      · rw [List.getElem?_eq_none (by omega), List.getElem?_eq_none (by rw [Array.length_toList]; omega)]
    rw [e2] at e1
    refine hQ D h' tk' ys (kI k₃) ?_ hD e1
    cases q : s₁.heap.get? D with
    | none => rfl
    | some o => rw [kp _ _ q] at nD; cases nD
end
noncomputable abbrev wScope : Scope := { kind := .function, names := [(".0", .local), ("draw", .local)], isGenerator := false, isCoroutine := false, more := [] }
/-- how many layers turn it about -/
noncomputable def odds (ds : List Int) : Nat := (ds.filter fun d => decide ((d.fdiv 18).fmod 2 = 1)).length
noncomputable def wayOf (ds : List Int) : Int := if odds ds % 2 = 1 then -1 else 1
/-- a test of an int, of a value -/
noncomputable def valQ (q : Int → Bool) : Value → Bool
  | .int d _ => q d
  | _ => false
theorem valQ_int (q : Int → Bool) (d : Int) (t : Tok) : valQ q (.int d t) = q d := rfl
theorem valQ_len (q : Int → Bool) : ∀ (ds : List Int) (ts : List Tok), ts.length = ds.length → (((ds.zip ts).map fun x => Value.int x.1 x.2).filter (valQ q)).length = (ds.filter q).length
  | [], _, _ => rfl
  | d :: ds, [], h => by simp at h
  | d :: ds, t :: ts, h => by
    have ih := valQ_len q ds ts (by simpa using h)
    rw [List.zip_cons_cons, List.map_cons]
    cases g : q d with
    | true => rw [List.filter_cons_of_pos (by rw [valQ_int]; exact g), List.filter_cons_of_pos g, List.length_cons, List.length_cons, ih]
    | false => rw [List.filter_cons_of_neg (by rw [valQ_int, g]; decide), List.filter_cons_of_neg (by rw [g]; decide), ih]
noncomputable abbrev oddB (d : Int) : Bool := decide ((d.fdiv 18).fmod 2 = 1)
section
variable {w : World} {A : Around} {E : Value → Shared → Prop} {mg mb : Str → Option Value} {s₀ h H : Heap} {env : Env} {m cm : Str → Option Value} {nt nb D tw : Addr} {r : Nat → Addr} {ns ds : List Int} {g : Array GenState} {d : Drawn} {tk : Nat} {os : OsState}
theorem st_way {p1 p2 p3 p4 p5 p6 p7 p8 p9 q1 q2 q3 q4 q5 q6 q7 q8 q9 r1 r2 r3 r4 r5 r6 : Pos} {Q : Flow → Shared → Prop} (e : LE s₀ env) (G : GK s₀ mg mb) (N : BN mg mb) (hh : A.handled = none) (x : TS w mg mb s₀ h H env m cm nt nb D tw r ns ds)
    (hq : ∀ h' tk' t, TS w mg mb s₀ h' H env m (fun y => if y = ("way" : Str) then some (.int (wayOf ds) t) else cm y) nt nb D tw r ns ds → Ex (gW env) h h' → Q .next ⟨h', g, d, tk', os⟩) :
    wpAny (model PySem.Challenge.pw_dz0037_02 w) A (exec (.Assign [.Name "way" p1] (.IfExp (.Compare (.BinOp (.Call (.Name "len" p2) [.ListComp (.Name "draw" p3) [⟨.Name "draw" p4, .Name "tower" p5, [.Compare (.BinOp (.BinOp (.Name "draw" q1) .FloorDiv (.Constant (.int 18) 0 q2) q3) .Mod (.Constant (.int 2) 0 q4) q5) [.Eq] [.Constant (.int 1) 0 q6] q7], 0⟩] wScope p6] [] p7) .Mod (.Constant (.int 2) 0 p8) p9) [.Eq] [.Constant (.int 1) 0 q8] q9) (.UnaryOp .USub (.Constant (.int 1) 0 r1) r2) (.Constant (.int 1) 0 r3) r4) r5) env) Q E ⟨h, g, d, tk, os⟩ := by
  obtain ⟨kw, cw, hcw⟩ := e.cel "way" (by simp)
  refine wpAny_Assign_Name (wpAny_mono (Q := fun v s' => ∃ h' tk' t, v = .int (wayOf ds) t ∧ s' = ⟨h', g, d, tk', os⟩ ∧ ∀ b o, h.get? b = some o → h'.get? b = some o) ?_ ?_ fun _ _ z => z)
  case refine_2 =>
    rintro _ _ ⟨h₁, tk₁, t, rfl, rfl, k⟩
    refine (x.keeps e k).st.fm.stC₂ (s := ⟨h₁, g, d, tk₁, os⟩) e.hk kw hcw (by simp) fun h₂ tk₂ F₂ ex₂ => ?_
    exact hq h₂ tk₂ t ((x.keeps e k).move e F₂ ex₂ rfl rfl rfl rfl) ((Ex.of k).trans ex₂)
  refine wpAny_IfExp (wpAny_isTrue_Compare1 (wpAny_BinOp (wpAny_Call_Name_kw (Name_function_global e.hk (e.glo _ (by simp)) (loadGlobal_builtin (by rw [e.eg]; exact x.st.ns G.g) (N.fn "len" (by simp)).1 (by rw [e.eb]; exact x.st.ns G.b) (N.fn "len" (by simp)).2 (callWith_builtin rfl (evalArgs_plain (spliced_cons ?_))))))))
  refine comp_flt (valQ oddB) hh (closureFor_none (by decide)) (by decide) rfl (by intro y hy; simp only [List.mem_cons, List.not_mem_nil, or_false] at hy; rcases hy with rfl | rfl <;> intro z <;> rfl) rfl (by decide) ?_
  obtain ⟨ts, hl, hlen⟩ := x.tws.kp x.kp x.twt
  refine wpAny_Name (x.st.fm.ldL (s := ⟨h, g, d, tk, os⟩) e.hk (e.loc _ (by simp)) x.mTw ?_)
  have d3 := x.d3
  refine ⟨tw, _, rfl, hl, by rw [List.size_toArray, List.length_map, List.length_zip, sizeLine_eq]; omega, fun C i v s₃ m₃ E' _ hv hns hm k₃ => ?_, fun Dl h₁ tk₁ ys k₁ _ hD hys => ?_⟩
  · obtain ⟨dd, td, rfl⟩ : ∃ dd td, v = .int dd td := by
      rw [List.getElem?_toArray, List.getElem?_map] at hv
      cases hz : (ds.zip ts)[i]? with
      | none => rw [hz] at hv; cases hv
      | some y => rw [hz] at hv; cases hv; exact ⟨_, _, rfl⟩
    have hk' : (compEnvC wScope [] C env).scope.kind = .function := rfl
    refine wpAny_isTrue_Compare1 (wpAny_BinOp (wpAny_BinOp (wpAny_Name (wpAny_loadName_local hk' (comp_kind rfl rfl) hns hm ?_))))
    refine wpAny_Constant_int (floordiv_int (by decide) (wpAny_Constant_int (mod_int' (by decide) (wpAny_Constant_int (PyProof.Rows.eq_int (wpAny_truthy_bool ?_))))))
    refine ⟨?_, ⟨_, _, rfl, fun b o eb => eb⟩⟩
    rw [valQ_int]
    by_cases g : (dd.fdiv 18).fmod 2 = 1
    · rw [show oddB dd = true from decide_eq_true g, g]; rfl
    · rw [show oddB dd = false from decide_eq_false g]; simpa using g
  · have hsz : ys.size = odds ds := by rw [← Array.length_toList, hys]; exact valQ_len oddB ds ts hlen
    have ho : odds ds ≤ 3 := Nat.le_trans (List.length_filter_le _ _) d3
    refine spliced_nil (call_len_list hD (by omega) ?_)
    rw [hsz]
    refine wpAny_Constant_int (mod_int' (by decide) (wpAny_Constant_int (PyProof.Rows.eq_int (wpAny_truthy_bool ?_))))
    have hm : ((odds ds : Nat) : Int).fmod 2 = ((odds ds % 2 : Nat) : Int) := by rw [Int.fmod_eq_emod_of_nonneg _ (by decide)]; omega
    rw [hm]
    by_cases g : odds ds % 2 = 1
    · rw [if_pos (by rw [g]; rfl)]
      have hw : wayOf ds = -1 := by unfold wayOf; rw [if_pos g]
      refine wpAny_UnaryOp (wpAny_Constant_int (neg_int ⟨h₁, _, _, by rw [hw], rfl, k₁⟩))
    · have g0 : odds ds % 2 = 0 := by omega
      rw [if_neg (by rw [g0]; decide)]
      have hw : wayOf ds = 1 := by unfold wayOf; rw [if_neg g]
      exact wpAny_Constant_int ⟨h₁, _, _, by rw [hw], rfl, k₁⟩
end
end Mine
end

-- part Q17
section
open PySem PySem.W PySem.W.X PySem.Calls PyProof.Rows
set_option maxRecDepth 100000
set_option maxHeartbeats 400000
namespace Mine
/-- an object that is no code, no code's record, no table -/
structure Soft (o : Obj) : Prop where
  cls : o.cls ≠ .none
  code : o.cls ≠ .type "code"
  notRec : ∀ vs q t, o.data = .fields vs → vs[1]? ≠ some (.str q t)
section
variable {h h' : Heap} {a : Addr} {o₀ : Obj} (ho : h.get? a = some o₀) (so : Soft o₀) (k : Kq a h h')
include ho so k
theorem CodeRec.soft {cv : Value} {q : Str} (x : h.CodeRec cv q) : h'.CodeRec cv q := by
  obtain ⟨c, o, vs, tt, e1, e2, e3, e4⟩ := x
  refine ⟨c, o, vs, tt, e1, k _ _ (fun q => ?_) e2, e3, e4⟩
  rw [q, ho] at e2; cases e2
  exact so.notRec _ _ _ e3 e4
theorem CodeHd.soft {c P : Addr} (x : CodeHd h c P) : CodeHd h' c P := by
  obtain ⟨o2, vs2, a3, a4, a5, a6, a7, a8, a9, b1, b2, r⟩ := x
  refine ⟨o2, vs2, a3, a4, a5, a6, a7, a8, a9, k _ _ (fun q => ?_) b1, b2, r⟩
  rw [q, ho] at b1; cases b1
  exact so.code b2
theorem tab_soft {P : Addr} {ps : Array Value} (e : h.get? P = some (tabObj ps)) : h'.get? P = some (tabObj ps) := k _ _ (fun q => by
  rw [q, ho] at e; cases e; exact so.cls rfl) e
theorem TabGood.soft {P : Addr} {S : List (Pos × Str)} (x : TabGood h P S) : TabGood h' P S := by
  obtain ⟨ps, e, ok, g⟩ := x
  exact ⟨ps, tab_soft ho so k e, ok, fun y hy cv q => CodeRec.soft ho so k (g y hy cv q)⟩
theorem ClsTab.soft {lo c P : Addr} {pos : Pos} {qual : Str} {S : List (Pos × Str)} (x : ClsTab h lo c P pos qual S) : ClsTab h' lo c P pos qual S := by
  obtain ⟨C, ps, e, ok, g⟩ := x
  refine ⟨CodeHd.soft ho so k C, ps, tab_soft ho so k e, ok, fun cv q => ?_⟩
  obtain ⟨c', P', e1, e2, e3, e4, e5, e6⟩ := g cv q
  exact ⟨c', P', e1, e2, e3, CodeHd.soft ho so k e4, CodeRec.soft ho so k e5, TabGood.soft ho so k e6⟩
end
theorem soft_list {its : Array Value} {n : Nat} : Soft ⟨.type "list", none, .seq its n, #[]⟩ := ⟨(by intro q; cases q), (by intro q; exact absurd (Value.type.inj q) (by decide)), (by intro _ _ _ q; cases q)⟩
theorem soft_range {x l s : Int} : Soft ⟨.type "range_iterator", none, .fields #[rawInt x, rawInt l, rawInt s], #[]⟩ := ⟨(by intro q; cases q), (by intro q; exact absurd (Value.type.inj q) (by decide)), (by intro _ _ _ q; cases q; intro q; cases q)⟩
/-- the law's state behind the pairs -/
structure LZ (w : World) (mg mb : Str → Option Value) (s₀ h H : Heap) (env : Env) (m cm : Str → Option Value) (nt nb D tw : Addr) (r : Nat → Addr) (ns ds : List Int) (f : Addr) : Prop where
  ts : TS w mg mb s₀ h H env m cm nt nb D tw r ns ds
  mt : m "top" = some (.ref f)
  fn : FnIn h f
  nn : ∃ xs, NotesAt h nt xs ∧ xs.length ≤ 1000
section
variable {w : World} {mg mb : Str → Option Value} {s₀ h h' H : Heap} {env : Env} {m cm m' cm' : Str → Option Value} {nt nb D tw a f : Addr} {r : Nat → Addr} {ns ds : List Int} {o₀ : Obj}
theorem TS.soft (x : TS w mg mb s₀ h H env m cm nt nb D tw r ns ds) (ho : h.get? a = some o₀) (so : Soft o₀) (k : Kq a h h') (hW : a ∉ fW env) (h0 : s₀.get? a = none) (hH : H.get? a = none) (hn : a ≠ nt) : TS w mg mb s₀ h' H env m cm nt nb D tw r ns ds :=
  { x with
    st := ⟨x.st.fm.via fun b o eb hb _ => k b o (fun q => hW (q ▸ hb)) eb, fun b o eb n => k b o (fun q => by rw [q, h0] at eb; cases eb) (x.st.base b o eb n), ClsTab.soft ho so k x.st.tab, TabGood.soft ho so k x.st.tabL, TabGood.soft ho so k x.st.tabT, fun b o eb n1 n2 n3 => k b o (fun q => by rw [q, h0] at eb; cases eb) (x.st.base2 b o eb n1 n2 n3)⟩
    kp := fun b o n t eb => k b o (fun q => by rw [q, hH] at eb; cases eb) (x.kp b o n t eb)
    dom := fun b o eb => (by obtain ⟨o', e'⟩ := x.dom b o eb; exact ⟨o', k b o' (fun q => by rw [q, hH] at eb; cases eb) e'⟩)
    notes := (by obtain ⟨xs, ⟨n, en⟩, l⟩ := x.notes; exact ⟨xs, ⟨n, k _ _ (Ne.symm hn) en⟩, l⟩ )}
/-- a place that the law's state does not lean on -/
structure Free (s₀ H : Heap) (env : Env) (nt a : Addr) : Prop where
  hW : a ∉ fW env
  h0 : s₀.get? a = none
  hH : H.get? a = none
  hn : a ≠ nt
theorem TS.free (x : TS w mg mb s₀ h H env m cm nt nb D tw r ns ds) (e : LE s₀ env) (ha : h.objs.size ≤ a) : Free s₀ H env nt a := by
  have hn : h.get? a = none := Heap.get?_none_of_le ha
  refine ⟨x.st.fm.apartOf hn, Heap.get?_none_of_le (Nat.le_trans (Nat.le_of_lt (by rw [← e.eL]; exact x.st.fm.ns.lt)) ha), ?_, fun q => ?_⟩
  · cases q : H.get? a with
    | none => rfl
    | some o => obtain ⟨o', e'⟩ := x.dom _ _ q; rw [hn] at e'; cases e'
  · obtain ⟨_, ⟨_, en⟩, _⟩ := x.notes
    rw [q, en] at hn; cases hn
theorem LZ.move (x : LZ w mg mb s₀ h H env m cm nt nb D tw r ns ds f) (e : LE s₀ env) (F : Fm h' env m' cm') (k : Ex (gW env) h h') (c1 : cm' "row" = cm "row") (c2 : cm' "notes" = cm "notes") (c3 : cm' "numbers" = cm "numbers") (c4 : m' "tower" = m "tower") (c5 : m' "top" = m "top") : LZ w mg mb s₀ h' H env m' cm' nt nb D tw r ns ds f := by
  obtain ⟨xs, hn, hl⟩ := x.nn
  exact ⟨x.ts.move e F k c1 c2 c3 c4, c5.trans x.mt, x.fn.kz x.ts.st.fm hn k.kz, ⟨xs, ((by obtain ⟨n, en⟩ := hn; exact ⟨n, k _ _ (fun q => x.ts.ntW (gW_sub q)) en⟩)), hl⟩⟩
theorem LZ.keeps (x : LZ w mg mb s₀ h H env m cm nt nb D tw r ns ds f) (e : LE s₀ env) (k : ∀ b o, h.get? b = some o → h'.get? b = some o) : LZ w mg mb s₀ h' H env m cm nt nb D tw r ns ds f := x.move e (x.ts.st.fm.keeps k) (Ex.of k) rfl rfl rfl rfl rfl
theorem LZ.soft (x : LZ w mg mb s₀ h H env m cm nt nb D tw r ns ds f) (ho : h.get? a = some o₀) (so : Soft o₀) (nf : ∀ fd, o₀.data ≠ .func fd) (k : Kq a h h') (fr : Free s₀ H env nt a) : LZ w mg mb s₀ h' H env m cm nt nb D tw r ns ds f := by
  obtain ⟨xs, hn, hl⟩ := x.nn
  refine ⟨x.ts.soft ho so k fr.hW fr.h0 fr.hH fr.hn, x.mt, ?_, ⟨xs, ((by obtain ⟨n, en⟩ := hn; exact ⟨n, k _ _ (Ne.symm fr.hn) en⟩)), hl⟩⟩
  obtain ⟨oc, od, fd, sl, ef⟩ := x.fn
  refine ⟨oc, od, fd, sl, k _ _ (fun q => ?_) ef⟩
  rw [q, ho] at ef; cases ef; exact nf _ rfl
end

/-- the places in their order, put in one by one -/
noncomputable def dueStepL (z : Nat → Int) (l : List Nat) (k : Nat) : List Nat := l.take (l.filter fun j => decide (z j ≤ z k)).length ++ k :: l.drop (l.filter fun j => decide (z j ≤ z k)).length
noncomputable def dueL (z : Nat → Int) (n : Nat) : List Nat := (List.range n).foldl (dueStepL z) []
theorem dueL_succ (z : Nat → Int) (n : Nat) : dueL z (n + 1) = dueStepL z (dueL z n) n := by unfold dueL; rw [List.range_succ, List.foldl_append]; rfl
theorem dueStepL_len (z : Nat → Int) (l : List Nat) (k : Nat) : (dueStepL z l k).length = l.length + 1 := by
  unfold dueStepL
  have := List.length_filter_le (fun j => decide (z j ≤ z k)) l
  rw [List.length_append, List.length_cons, List.length_take, List.length_drop]; omega
theorem dueL_len (z : Nat → Int) : ∀ n, (dueL z n).length = n
  | 0 => rfl
  | n + 1 => by rw [dueL_succ, dueStepL_len, dueL_len z n]
theorem dueStepL_mem (z : Nat → Int) (l : List Nat) (k j : Nat) (h : j ∈ dueStepL z l k) : j ∈ l ∨ j = k := by
  unfold dueStepL at h
  rcases List.mem_append.mp h with h | h
  · exact .inl (List.mem_of_mem_take h)
  · rcases List.mem_cons.mp h with h | h
    · exact .inr h
    · exact .inl (List.mem_of_mem_drop h)
theorem dueL_lt (z : Nat → Int) : ∀ n j, j ∈ dueL z n → j < n
  | 0, j, h => by cases h
  | n + 1, j, h => by
    rw [dueL_succ] at h
    rcases dueStepL_mem z _ _ _ h with h | h
    · exact Nat.lt_succ_of_lt (dueL_lt z n j h)
    · omega
noncomputable abbrev toZ (l : List Nat) : List Int := l.map fun j : Nat => (j : Int)
theorem ia_ins {k : Int} {t : Tok} {vs : List Value} {zs : List Int} (x : IntsAre vs zs) : ∀ c, IntsAre (vs.take c ++ .int k t :: vs.drop c) (zs.take c ++ k :: zs.drop c) := by
  induction x with
  | nil => intro c; rw [List.take_nil, List.take_nil, List.drop_nil, List.drop_nil]; exact .cons k t .nil
  | cons n t' h ih =>
    intro c
    cases c with
    | zero => exact .cons k t (.cons n t' h)
    | succ c => exact .cons n t' (ih c)
theorem ia_filter (q : Int → Bool) {vs : List Value} {zs : List Int} (x : IntsAre vs zs) : (vs.filter (valQ q)).length = (zs.filter q).length := by
  induction x with
  | nil => rfl
  | cons d t h ih =>
    cases g : q d with
    | true => rw [List.filter_cons_of_pos (by rw [valQ_int]; exact g), List.filter_cons_of_pos g, List.length_cons, List.length_cons, ih]
    | false => rw [List.filter_cons_of_neg (by rw [valQ_int, g]; decide), List.filter_cons_of_neg (by rw [g]; decide), ih]
theorem toZ_filter (q : Int → Bool) (l : List Nat) : ((toZ l).filter q).length = (l.filter fun j : Nat => q (j : Int)).length := by
  rw [List.filter_map, List.length_map]; rfl
/-- the list of places -/
noncomputable def DueAt (h : Heap) (du : Addr) (l : List Nat) : Prop := ∃ n vs, h.get? du = some (seqObj "list" (List.toArray vs) n) ∧ IntsAre vs (toZ l)
theorem DueAt.keep {h h' : Heap} {du : Addr} {l : List Nat} (x : DueAt h du l) (k : ∀ o, h.get? du = some o → (∃ ys n, o.data = .seq ys n) → h'.get? du = some o) : DueAt h' du l :=
  (by obtain ⟨n, vs, e, i⟩ := x; exact ⟨n, vs, k _ e ⟨_, _, rfl⟩, i⟩)
section
variable {prog : Program} {w : World} {A : Around} {E : Value → Shared → Prop} {s : Shared} {env : Env}
/-- range(e) walked; the iterator is new -/
theorem range_it2 {e : Expr} {rp rpos : Pos} {K : Value → Shared → Prop} {mg mb : Str → Option Value} (hh : A.handled = none) (hk : env.scope.kind = .function) (hx : env.kindOf "range" = some .globalImplicit)
    (hg : s.heap.Ns env.globals mg) (hmiss : mg "range" = none) (hb : s.heap.Ns env.builtins mb) (hv : mb "range" = some (.type "range")) (hse : starEach [e] env = [(false, eval e env)])
    (h : wpAny (model prog w) A (eval e env) (fun nv s₁ => ∃ N tN, nv = .int N tN ∧ -(2 ^ 62) ≤ N ∧ N < 2 ^ 62 ∧
      ∀ I h₂ tk₂, Walks prog w A I [I] [I] N.toNat (fun i v => ∃ t, v = .int (0 + i * 1) t) (fun i h => IsRangeIter h I (0 + (i : Nat) * 1) ((N.toNat : Int) - (i : Nat)) 1) → IsRangeIter h₂ I (0 + ((0 : Nat) : Int) * 1) ((N.toNat : Int) - ((0 : Nat) : Int)) 1 → s₁.heap.objs.size ≤ I →
        (∀ b o, s₁.heap.get? b = some o → h₂.get? b = some o) → K (.ref I) { s₁ with heap := h₂, toks := tk₂ }) E s) :
    wpAny (model prog w) A (eval (.Call (.Name "range" rp) [e] [] rpos) env) (fun xv s₁ => wpAny (model prog w) A (pyIter xv) K E s₁) E s := by
  refine wpAny_Call_NameR (Calls.Name_function_global hk hx (Calls.loadGlobal_builtin hg hmiss hb hv ?_))
  rw [show backTo rpos (starEach [e] env) = [(false, eval e env)] from by rw [hse]; rfl]
  refine PySem.callWith_type rfl (Calls.evalArgs_plain (Calls.spliced_cons (wpAny_mono h (fun nv s₁ h₁ => Calls.spliced_nil ?_) fun _ _ e => e)))
  obtain ⟨N, tN, rfl, hlo, hhi, hK⟩ := h₁
  refine call_range_1 ?_
  refine wpAny_pyIter_range (IsRange.new ..) (small_one (by decide) (by decide) hlo hhi) ?_
  have hsz : Builtin.Range.rangeSize 0 N 1 = (N.toNat : Int) := by rw [rangeSize_one]; split <;> omega
  refine hK _ _ _ (Walks.range hh _ 0 1 N.toNat) ?_ (by simp [Heap.size_push]) (fun _ _ e => Heap.get?_push_of_some _ (Heap.get?_push_of_some _ e))
  have e1 : (0 + ((0 : Nat) : Int) * 1) = 0 := by simp
  have e2 : ((N.toNat : Int) - ((0 : Nat) : Int)) = Builtin.Range.rangeSize 0 N 1 := by rw [hsz]; simp
  rw [e1, e2]
  exact Heap.get?_push_size _ rfl
end
end Mine
end

-- part Q18
section
open PySem PySem.W PySem.W.X PySem.Calls PyProof.Rows
set_option maxRecDepth 100000
set_option maxHeartbeats 400000
namespace Mine
noncomputable abbrev dScope : Scope := { kind := .function, names := [(".0", .local), ("j", .local), ("half", .free), ("numbers", .free), ("way", .free)], isGenerator := false, isCoroutine := false, more := [] }
noncomputable abbrev zOf (ns ds : List Int) (k : Nat) : Int := wayOf ds * (nAt ns k).fdiv 2
theorem way_ok (ds : List Int) (b : Int) : IntMulOk (wayOf ds) b := .of_left (by unfold wayOf; by_cases g : odds ds % 2 = 1 <;> simp only [g, if_true, if_false] <;> decide)
section
variable {prog : Program} {w : World} {A : Around} {E : Value → Shared → Prop} {s : Shared}
theorem ins_call {du : Addr} {vs : List Value} {n c : Nat} {x : Int} {t : Tok} {y : Value} {Q : Value → Shared → Prop} (hx : x = (c : Int)) (hdo : s.heap.get? du = some (seqObj "list" (List.toArray vs) n)) (hc : c ≤ vs.length) (hz : vs.length ≤ 100)
    (hq : ∀ h' n', h'.get? du = some (seqObj "list" (vs.take c ++ y :: vs.drop c).toArray n') → Kq du s.heap h' → Q .none { s with heap := h' }) :
    wpAny (model prog w) A (call (.builtin "list.insert") [.ref du, .int x t, y]) Q E s := by
  have hfit : Builtin.List.listFitsIndex x = true := by unfold Builtin.List.listFitsIndex; rw [Bool.and_eq_true, decide_eq_true_eq, decide_eq_true_eq]; constructor <;> omega
  have hz1 : (List.toArray vs).size ≤ sizeLine := by rw [List.size_toArray, sizeLine_eq]; omega
  have hz2 : ¬(!Builtin.List.listFitsIndex x) = true := by rw [hfit]; decide
  refine call_meets PySem.F.slot_list_insert ⟨_, hdo, rfl⟩ PySem.F.entry_list_insert (PySem.F.args_list_insert_3 _ _ _) (PySem.AutoSeq1.list_insert_list_int_val_1 du _ n x t y hz2 hz1) ⟨hdo, ?_⟩
  have hnew := get?_update_seq hdo (fun xs => have k := if x < 0 then (x + ((xs.size : Nat) : Int)).toNat else min x.toNat xs.size; (xs.extract 0 k).push y ++ xs.extract k)
  have hidx : (if x < 0 then (x + (((List.toArray vs).size : Nat) : Int)).toNat else min x.toNat (List.toArray vs).size) = c := by
    rw [if_neg (by omega), hx, Int.toNat_natCast, List.size_toArray]; omega
  have hval : (have k := if x < 0 then (x + (((List.toArray vs).size : Nat) : Int)).toNat else min x.toNat (List.toArray vs).size; ((List.toArray vs).extract 0 k).push y ++ (List.toArray vs).extract k) = (vs.take c ++ y :: vs.drop c).toArray := by
    show ((List.toArray vs).extract 0 (if x < 0 then (x + (((List.toArray vs).size : Nat) : Int)).toNat else min x.toNat (List.toArray vs).size)).push y ++ (List.toArray vs).extract (if x < 0 then (x + (((List.toArray vs).size : Nat) : Int)).toNat else min x.toNat (List.toArray vs).size) = _
    rw [hidx, kl_ins_eq]
  rw [hval] at hnew
  exact hq _ _ hnew fun b o hb eb => ((Heap.SameBut.update s.heap du _).2 b hb).trans eb
end
section
variable {w : World} {A : Around} {E : Value → Shared → Prop} {mg mb : Str → Option Value} {s₀ h H : Heap} {env : Env} {m cm : Str → Option Value} {nt nb D tw f du : Addr} {r : Nat → Addr} {ns ds : List Int} {g : Array GenState} {d : Drawn} {tk : Nat} {os : OsState}
/-- due = [] -/
theorem st_due0 {p1 p2 p3 : Pos} {Q : Flow → Shared → Prop} {prog : Program} (e : LE s₀ env) (x : LZ w mg mb s₀ h H env m cm nt nb D tw r ns ds f)
    (hq : ∀ du h' tk', LZ w mg mb s₀ h' H env m (fun y => if y = ("due" : Str) then some (.ref du) else cm y) nt nb D tw r ns ds f → DueAt h' du [] → Free s₀ H env nt du → h.objs.size ≤ du → Ex (gW env) h h' → Q .next ⟨h', g, d, tk', os⟩) :
    wpAny (model prog w) A (exec (.Assign [.Name "due" p1] (.List [] p2) p3) env) Q E ⟨h, g, d, tk, os⟩ := by
  obtain ⟨kn, cn, hcn⟩ := e.cel "due" (by simp)
  refine wpAny_Assign_Name (wpAny_List (spliced_nil ⟨by rw [sizeLine_eq]; simp, ?_⟩))
  have k : ∀ b o, h.get? b = some o → (h.push { cls := .type "list", data := .seq ([] : List Value).toArray }).get? b = some o := fun b o eb => Heap.get?_push_of_some _ eb
  have hd : (h.push { cls := .type "list", data := .seq ([] : List Value).toArray }).get? h.objs.size = some (seqObj "list" ([] : List Value).toArray 0) := Heap.get?_push_size _ rfl
  have x₁ := x.keeps e k
  refine x₁.ts.st.fm.stC₂ (s := ⟨_, g, d, tk, os⟩) e.hk kn hcn (by simp) fun h₂ tk₂ F₂ ex₂ => ?_
  refine hq h.objs.size h₂ tk₂ (x₁.move e F₂ ex₂ rfl rfl rfl rfl rfl) ⟨0, [], ?_, .nil⟩ (x.ts.free e (Nat.le_refl _)) (Nat.le_refl _) ((Ex.of k).trans ex₂)
  exact ex₂ _ _ (x₁.ts.st.fm.gok.off hd (by intro _ _ q; cases q) (by intro _ q; cases q)) hd
/-- half = way * (numbers[k] // 2) -/
theorem st_half {i : Nat} {ti tw' : Tok} {x1 x2 x3 x4 x5 x6 x7 x8 x9 : Pos} {Q : Flow → Shared → Prop} {prog : Program} (e : LE s₀ env) (x : LZ w mg mb s₀ h H env m cm nt nb D tw r ns ds f) (mk : m "k" = some (.int i ti)) (hi : i < 5) (cw : cm "way" = some (.int (wayOf ds) tw'))
    (hq : ∀ h' tk' th, LZ w mg mb s₀ h' H env m (fun y => if y = ("half" : Str) then some (.int (zOf ns ds i) th) else cm y) nt nb D tw r ns ds f → Ex (gW env) h h' → Q .next ⟨h', g, d, tk', os⟩) :
    wpAny (model prog w) A (exec (.Assign [.Name "half" x1] (.BinOp (.Name "way" x2) .Mult (.BinOp (.Subscript (.Name "numbers" x3) (.Name "k" x4) x5) .FloorDiv (.Constant (.int 2) 0 x6) x7) x8) x9) env) Q E ⟨h, g, d, tk, os⟩ := by
  obtain ⟨kh, ch, hch⟩ := e.cel "half" (by simp)
  obtain ⟨kw, c2, hcw⟩ := e.cel "way" (by simp)
  obtain ⟨k1, c1, h1⟩ := e.cel "numbers" (by simp)
  obtain ⟨⟨items, tn, hl, hit⟩, _⟩ := nums_of (nt := nt) (x.ts.nbs.kp x.ts.kp x.ts.nbt) x.ts.n5 x.ts.nbt
  refine wpAny_Assign_Name (wpAny_BinOp (wpAny_Name (x.ts.st.fm.ldC (s := ⟨h, g, d, tk, os⟩) e.hk kw hcw cw ?_)))
  refine wpAny_BinOp (Subscript_ (wpAny_Name (x.ts.st.fm.ldC (s := ⟨h, g, d, tk, os⟩) e.hk k1 h1 x.ts.cNb (wpAny_Name (x.ts.st.fm.ldL (s := ⟨h, g, d, tk, os⟩) e.hk (e.loc _ (by simp)) mk ?_)))))
  refine list_item (s := ⟨h, g, d, tk, os⟩) hl (by omega) (by omega) (hit i (by omega) (by omega)) (by with_unfolding_all rfl) ?_
  refine wpAny_Constant_int (floordiv_int (by decide) (mul_int ?_ (way_ok ds _)))
  refine x.ts.st.fm.stC₂ (s := ⟨h, g, d, _, os⟩) e.hk kh hch (by simp) fun h₂ tk₂ F₂ ex₂ => ?_
  exact hq h₂ tk₂ _ (x.move e F₂ ex₂ rfl rfl rfl rfl rfl) ex₂
/-- due.insert(len([j for j in due if way * (numbers[j] // 2) <= half]), k) -/
theorem st_ins {i : Nat} {ti tw' th : Tok} {l : List Nat} {ap cp y1 y2 y3 y4 y5 y6 y7 y8 y9 y10 y11 y12 y13 y14 y15 y16 y17 y18 : Pos} {Q : Flow → Shared → Prop} {prog : Program} (hline : (ap.endLine == cp.line) = true) (e : LE s₀ env) (G : GK s₀ mg mb) (N : BN mg mb) (hh : A.handled = none) (x : LZ w mg mb s₀ h H env m cm nt nb D tw r ns ds f) (mk : m "k" = some (.int i ti)) (hi : i < 5) (cw : cm "way" = some (.int (wayOf ds) tw')) (chf : cm "half" = some (.int (zOf ns ds i) th)) (cd : cm "due" = some (.ref du))
    (hdu : DueAt h du l) (fr : Free s₀ H env nt du) (hl5 : l.length ≤ 5) (hlt : ∀ j ∈ l, j < 5)
    (hq : ∀ h' tk', LZ w mg mb s₀ h' H env m cm nt nb D tw r ns ds f → DueAt h' du (dueStepL (zOf ns ds) l i) → Kq du h h' → Q .next ⟨h', g, d, tk', os⟩) :
    wpAny (model prog w) A (exec (.Expr (.Call (.Attribute (.Name "due" y1) "insert" ap) [.Call (.Name "len" y2) [.ListComp (.Name "j" y3) [⟨.Name "j" y4, .Name "due" y5, [.Compare (.BinOp (.Name "way" y6) .Mult (.BinOp (.Subscript (.Name "numbers" y7) (.Name "j" y8) y9) .FloorDiv (.Constant (.int 2) 0 y10) y11) y12) [.LtE] [.Name "half" y13] y14], 0⟩] dScope y15] [] y16, .Name "k" y17] [] cp) y18) env) Q E ⟨h, g, d, tk, os⟩ := by
  obtain ⟨kd, c0, h0⟩ := e.cel "due" (by simp)
  obtain ⟨k1, c1, h1⟩ := e.cel "half" (by simp)
  obtain ⟨k2, c2, h2⟩ := e.cel "numbers" (by simp)
  obtain ⟨k3, c3, h3⟩ := e.cel "way" (by simp)
  have hcl : closureFor dScope env = pure ([("way", c3), ("numbers", c2), ("half", c1)] : List (Str × Addr)) := by
    refine (closure_gen fun y hy hf => ?_).trans ?_
    · simp only [List.mem_cons, List.not_mem_nil, or_false] at hy
      rcases hy with rfl | rfl | rfl | rfl | rfl <;> first | (cases hf; done) | exact ⟨_, h1⟩ | exact ⟨_, h2⟩ | exact ⟨_, h3⟩
    · show pure ([("way", (env.cells.lookup ("way" : Str)).getD 0), ("numbers", (env.cells.lookup ("numbers" : Str)).getD 0), ("half", (env.cells.lookup ("half" : Str)).getD 0)] : List (Str × Addr)) = _
      rw [h1, h2, h3]; rfl
  have i1 := x.ts.st.fm.cell "half" c1 h1
  have i2 := x.ts.st.fm.cell "numbers" c2 h2
  have i3 := x.ts.st.fm.cell "way" c3 h3
  rw [chf] at i1
  rw [x.ts.cNb] at i2
  rw [cw] at i3
  obtain ⟨n, vs, hdo, ia⟩ := id hdu
  have hil : h.IsList du (List.toArray vs) := ⟨_, hdo, rfl, _, rfl⟩
  refine wpAny_Expr (hi := by unfold interactive; rw [e.hk]; rfl) (Call_attr rfl rfl hline (wpAny_Name (x.ts.st.fm.ldC (s := ⟨h, g, d, tk, os⟩) e.hk kd h0 cd fun pl => ?_)))
  refine getMethod_list_of (s := ⟨h, g, d, tk, os⟩) PySem.F.slot_list_insert PySem.F.type_list_insert hil ⟨_, hdo, rfl⟩ ?_
  refine callWith_builtin rfl (evalArgs_plain (spliced_cons ?_))
  refine wpAny_Call_Name_kw (Name_function_global e.hk (e.glo _ (by simp)) (loadGlobal_builtin (by rw [e.eg]; exact x.ts.st.ns G.g) (N.fn "len" (by simp)).1 (by rw [e.eb]; exact x.ts.st.ns G.b) (N.fn "len" (by simp)).2 (callWith_builtin rfl (evalArgs_plain (spliced_cons ?_)))))
  refine comp_flt (valQ fun dd => decide (zOf ns ds dd.toNat ≤ zOf ns ds i)) hh hcl (by decide) rfl (by intro y hy; simp only [List.mem_cons, List.not_mem_nil, or_false] at hy; rcases hy with rfl | rfl | rfl | rfl | rfl <;> intro z <;> first | rfl | cases z) rfl (by decide) ?_
  have hvl : vs.length = l.length := by rw [ia.length, List.length_map]
  refine wpAny_Name (x.ts.st.fm.ldC (s := ⟨h, g, d, tk, os⟩) e.hk kd h0 cd ⟨du, _, rfl, hil, by rw [List.size_toArray, sizeLine_eq]; omega, fun C j v s₃ m₃ E' _ hv hns hm k₃ => ?_, fun Dl h₁ tk₁ ys k₁ _ hD hys => ?_⟩)
  · rw [List.getElem?_toArray] at hv
    obtain ⟨zj, tj, rfl, hj⟩ := ia.at j v hv
    rw [List.getElem?_map] at hj
    cases hlj : l[j]? with
    | none => rw [hlj] at hj; cases hj
    | some jj =>
    rw [hlj] at hj
    obtain rfl : (jj : Int) = zj := Option.some.inj hj
    have hjj := hlt jj (List.mem_of_getElem? hlj)
    have hk' : (compEnvC dScope [("way", c3), ("numbers", c2), ("half", c1)] C env).scope.kind = .function := rfl
    obtain ⟨⟨items, tn, hl, hit⟩, _⟩ := nums_of (nt := nt) (x.ts.nbs.kp x.ts.kp x.ts.nbt) x.ts.n5 x.ts.nbt
    have hl₃ : s₃.heap.IsList nb items := hl.at fun o eo => k₃ _ _ eo
    refine wpAny_isTrue_Compare1 (wpAny_BinOp (wpAny_Name (wpAny_loadName_cell hk' (comp_cell rfl e.hk k3) rfl (i3.keeps k₃) ?_)))
    refine wpAny_BinOp (Subscript_ (wpAny_Name (wpAny_loadName_cell hk' (comp_cell rfl e.hk k2) rfl (i2.keeps k₃) (wpAny_Name (wpAny_loadName_local hk' (comp_kind rfl rfl) hns hm ?_)))))
    refine list_item hl₃ (by omega) (by omega) (hit jj (by omega) (by omega)) (by with_unfolding_all rfl) ?_
    refine wpAny_Constant_int (floordiv_int (by decide) (mul_int ?_ (way_ok ds _)))
    refine wpAny_Name (wpAny_loadName_cell hk' (comp_cell rfl e.hk k1) rfl (i1.keeps k₃) (le_int (wpAny_truthy_bool ?_)))
    refine ⟨?_, ⟨_, _, rfl, fun b o eb => eb⟩⟩
    rw [valQ_int, Int.toNat_natCast]
  · have hsz : ys.size = (l.filter fun j => decide (zOf ns ds j ≤ zOf ns ds i)).length := by
      rw [← Array.length_toList, hys]
      show (List.filter _ vs).length = _
      rw [ia_filter _ ia, toZ_filter]
      simp only [Int.toNat_natCast]
    have hle : ys.size ≤ l.length := by rw [hsz]; exact List.length_filter_le _ _
    refine spliced_nil (call_len_list hD (by omega) ?_)
    have x₁ := x.keeps e k₁
    refine spliced_cons (wpAny_Name (x₁.ts.st.fm.ldL (s := ⟨h₁, g, d, _, os⟩) e.hk (e.loc _ (by simp)) mk (spliced_nil ?_)))
    have hdo₁ := k₁ _ _ hdo
    refine ins_call (s := ⟨h₁, g, d, _, os⟩) (c := ys.size) rfl hdo₁ (by omega) (by omega) fun h₂ n₂ hnew kq => ?_
    refine hq _ _ (x₁.soft hdo₁ soft_list (by intro _ q; cases q) kq fr) ⟨_, _, hnew, ?_⟩ fun b o hb eb => kq b o hb (k₁ b o eb)
    have := ia_ins (k := (i : Int)) (t := ti) ia ys.size
    unfold dueStepL
    rw [← hsz]
    show IntsAre _ (List.map _ _)
    rw [List.map_append, List.map_cons, List.map_take, List.map_drop]
    exact this
end
end Mine
end

-- part Q19
section
open PySem PySem.W PySem.W.X PySem.Calls PyProof.Rows
set_option maxRecDepth 100000
set_option maxHeartbeats 400000
namespace Mine
section
variable {w : World} {A : Around} {E : Value → Shared → Prop} {mg mb : Str → Option Value} {s₀ h H : Heap} {env : Env} {m cm : Str → Option Value} {nt nb D tw f du : Addr} {r : Nat → Addr} {ns ds : List Int} {g : Array GenState} {d : Drawn} {tk : Nat} {os : OsState}
/-- for k in range(5): .. -/
theorem st_dues {tw' : Tok} {ap cp o1 o2 o3 o4 o5 o6 o7 o8 o9 o10 o11 o12 o13 o14 o15 o16 o17 o18 o19 o20 o21 o22 o23 o24 o25 o26 o27 o28 o29 o30 o31 o32 : Pos} {Q : Flow → Shared → Prop} (hline : (ap.endLine == cp.line) = true) (e : LE s₀ env) (G : GK s₀ mg mb) (N : BN mg mb) (hh : A.handled = none) (x : LZ w mg mb s₀ h H env m cm nt nb D tw r ns ds f) (cw : cm "way" = some (.int (wayOf ds) tw')) (cd : cm "due" = some (.ref du))
    (hdu : DueAt h du []) (fr : Free s₀ H env nt du)
    (hq : ∀ h' tk' m' cm', LZ w mg mb s₀ h' H env m' cm' nt nb D tw r ns ds f → cm' "due" = some (.ref du) → DueAt h' du (dueL (zOf ns ds) 5) → Q .next ⟨h', g, d, tk', os⟩) :
    wpAny (model PySem.Challenge.pw_dz0037_02 w) A (exec (.For (.Name "k" o1) (.Call (.Name "range" o2) [.Constant (.int 5) 0 o3] [] o4) [.Assign [.Name "half" o5] (.BinOp (.Name "way" o6) .Mult (.BinOp (.Subscript (.Name "numbers" o7) (.Name "k" o8) o9) .FloorDiv (.Constant (.int 2) 0 o10) o11) o12) o13, .Expr (.Call (.Attribute (.Name "due" o14) "insert" ap) [.Call (.Name "len" o15) [.ListComp (.Name "j" o16) [⟨.Name "j" o17, .Name "due" o18, [.Compare (.BinOp (.Name "way" o19) .Mult (.BinOp (.Subscript (.Name "numbers" o20) (.Name "j" o21) o22) .FloorDiv (.Constant (.int 2) 0 o23) o24) o25) [.LtE] [.Name "half" o26] o27], 0⟩] dScope o28] [] o29, .Name "k" o30] [] cp) o31] [] o32) env) Q E ⟨h, g, d, tk, os⟩ := by
  refine wpAny_For ?_
  refine range_it2 hh e.hk (e.glo _ (by simp)) (by rw [e.eg]; exact x.ts.st.ns G.g) N.range.1 (by rw [e.eb]; exact x.ts.st.ns G.b) N.range.2 rfl (wpAny_Constant_int ⟨5, _, rfl, by decide, by decide, fun I h₂ tk₂ W hI nI k₂ => ?_⟩)
  have frI := x.ts.free e nI
  have hId : du ≠ I := fun q => by
    obtain ⟨n, vs, hdo, _⟩ := hdu
    rw [q] at hdo; exact absurd (Heap.lt_size hdo) (Nat.not_lt.mpr nI)
  have x₂ := x.keeps e k₂
  have hdu₂ : DueAt h₂ du [] := hdu.keep fun o eo _ => k₂ _ _ eo
  dsimp only
  refine codeAny_forLoop (fun n s' => ∃ h' tk' m' cm' i, s' = ⟨h', g, d, tk', os⟩ ∧ IsRangeIter h' I (0 + ((i : Nat) : Int) * 1) (((5 : Int).toNat : Int) - ((i : Nat) : Int)) 1 ∧ LZ w mg mb s₀ h' H env m' cm' nt nb D tw r ns ds f ∧ cm' "way" = some (.int (wayOf ds) tw') ∧ cm' "due" = some (.ref du) ∧ DueAt h' du (dueL (zOf ns ds) i) ∧ i ≤ 5 ∧ n = 6 - i)
    ?turn 6 ⟨h₂, tk₂, m, cm, 0, rfl, hI, x₂, cw, cd, hdu₂, Nat.zero_le _, rfl⟩
  rintro n s' ⟨h₃, tk₃, m₃, cm₃, i, rfl, hI₃, x₃, cw₃, cd₃, hdu₃, hi, rfl⟩
  have moved : ∀ {h₄ : Heap}, (∀ b o, b ∉ [I] → h₃.get? b = some o → h₄.get? b = some o) → LZ w mg mb s₀ h₄ H env m₃ cm₃ nt nb D tw r ns ds f ∧ DueAt h₄ du (dueL (zOf ns ds) i) := fun k₄ =>
    ⟨x₃.soft hI₃ soft_range (by intro _ q; cases q) (fun b o hb eb => k₄ b o (fun q => hb (List.mem_singleton.mp q)) eb) frI, hdu₃.keep fun o eo _ => k₄ _ _ (fun q => hId (List.mem_singleton.mp q)) eo⟩
  by_cases hlt : i < 5
  · refine W.item i ⟨h₃, g, d, tk₃, os⟩ _ _ hlt hI₃ fun v h₄ tk₄ hP hI₄ k₄ => ?_
    obtain ⟨t, rfl⟩ := hP
    obtain ⟨x₄, hdu₄⟩ := moved k₄
    have e0 : (0 + (i : Int) * 1) = (i : Int) := by omega
    dsimp only
    rw [e0]
    refine wpAny_assign_Name (x₄.ts.st.fm.stL₂ (s := ⟨h₄, g, d, tk₄, os⟩) e.hk (e.loc _ (by simp)) fun h₅ tk₅ F₅ ex₅ => ?_)
    have x₅ := x₄.move e F₅ ex₅ rfl rfl rfl rfl rfl
    have kn : ∀ {h₁ h₂ : Heap} {l : List Nat} {m cm : Str → Option Value}, Fm h₁ env m cm → Ex (gW env) h₁ h₂ → DueAt h₁ du l → DueAt h₂ du l := fun F ex hd => hd.keep fun o eo ⟨ys, n, dd⟩ => ex _ _ (F.gok.off eo (by intro _ _ q; rw [dd] at q; cases q) (by intro _ q; rw [dd] at q; cases q)) eo
    have rn : ∀ {h₁ h₂ : Heap} {a b c : Int} {m cm : Str → Option Value}, Fm h₁ env m cm → Ex (gW env) h₁ h₂ → IsRangeIter h₁ I a b c → IsRangeIter h₂ I a b c := fun F ex hd => ex _ _ (F.gok.off hd (by intro _ _ q; cases q) (by intro _ q; cases q)) hd
    have hdu₅ := kn x₄.ts.st.fm ex₅ hdu₄
    have hI₅ := rn x₄.ts.st.fm ex₅ hI₄
    refine wpAny_execs_cons (st_half e x₅ rfl hlt cw₃ fun h₆ tk₆ th x₆ ex₆ => ?_)
    have hdu₆ := kn x₅.ts.st.fm ex₆ hdu₅
    have hI₆ := rn x₅.ts.st.fm ex₆ hI₅
    refine wpAny_execs_cons (st_ins (l := dueL (zOf ns ds) i) (tw' := tw') (th := th) hline e G N hh x₆ rfl hlt cw₃ rfl cd₃ hdu₆ fr (by rw [dueL_len]; omega) (fun j hj => Nat.lt_trans (dueL_lt _ _ _ hj) hlt) fun h₇ tk₇ x₇ hdu₇ kq₇ => ?_)
    refine wpAny_execs_nil ⟨6 - (i + 1), by omega, h₇, tk₇, _, _, i + 1, rfl, kq₇ _ _ (Ne.symm hId) hI₆, x₇, cw₃, cd₃, ?_, hlt, rfl⟩
    rw [dueL_succ]; exact hdu₇
  · obtain rfl : i = 5 := by omega
    refine W.done ⟨h₃, g, d, tk₃, os⟩ _ _ hI₃ fun h₄ tk₄ k₄ => wpAny_execs_nil ?_
    obtain ⟨x₄, hdu₄⟩ := moved k₄
    exact hq h₄ tk₄ m₃ cm₃ x₄ cd₃ hdu₄
end
end Mine
end

-- part Q20
section
open PySem PySem.W PySem.W.X PySem.Calls PyProof.Rows
set_option maxRecDepth 100000
set_option maxHeartbeats 400000
namespace Mine
/-- a tree of questions, answered -/
noncomputable def goK {α : Type} (lt : Nat → Nat → Bool) : KasT α → Nat → Option α
  | .ret a, _ => some a
  | .ask _ _ _, 0 => none
  | .ask i j k, n + 1 => if i < 5 ∧ j < 5 then goK lt (k (lt i j)) n else none
noncomputable abbrev pick5 {α : Type} (a b c d e : α) : Nat → α
  | 0 => a
  | 1 => b
  | 2 => c
  | 3 => d
  | _ => e
noncomputable def ltN (a b c d e i j : Nat) : Bool := Nat.blt (pick5 a b c d e i) (pick5 a b c d e j)
noncomputable def insL (lt : Nat → Nat → Bool) (l : List Nat) (k : Nat) : List Nat := l.take (l.filter fun j => !lt k j).length ++ k :: l.drop (l.filter fun j => !lt k j).length
noncomputable def okAt (a b c d e : Nat) : Bool := match goK (ltN a b c d e) (kas_sort 5) 40 with
  | some p => p.toList == (List.range 5).foldl (insL (ltN a b c d e)) []
  | none => false
noncomputable def all5 (p : Nat → Bool) : Bool := p 0 && p 1 && p 2 && p 3 && p 4
set_option maxRecDepth 1000000 in
theorem okAll0 : all5 (fun b => all5 fun c => all5 fun d => all5 fun e => okAt 0 b c d e) = true := by decide +kernel
set_option maxRecDepth 1000000 in
theorem okAll1 : all5 (fun b => all5 fun c => all5 fun d => all5 fun e => okAt 1 b c d e) = true := by decide +kernel
set_option maxRecDepth 1000000 in
theorem okAll2 : all5 (fun b => all5 fun c => all5 fun d => all5 fun e => okAt 2 b c d e) = true := by decide +kernel
set_option maxRecDepth 1000000 in
theorem okAll3 : all5 (fun b => all5 fun c => all5 fun d => all5 fun e => okAt 3 b c d e) = true := by decide +kernel
set_option maxRecDepth 1000000 in
theorem okAll4 : all5 (fun b => all5 fun c => all5 fun d => all5 fun e => okAt 4 b c d e) = true := by decide +kernel
theorem all5_at {p : Nat → Bool} (h : all5 p = true) : ∀ i, i < 5 → p i = true := by
  unfold all5 at h
  simp only [Bool.and_eq_true] at h
  intro i hi
  rcases i with _ | _ | _ | _ | _ | i
  · exact h.1.1.1.1
  · exact h.1.1.1.2
  · exact h.1.1.2
  · exact h.1.2
  · exact h.2
  · omega
theorem ok_at {a b c d e : Nat} (ha : a < 5) (hb : b < 5) (hc : c < 5) (hd : d < 5) (he : e < 5) : okAt a b c d e = true := by
  have h : all5 (fun b => all5 fun c => all5 fun d => all5 fun e => okAt a b c d e) = true := by
    match a, ha with
    | 0, _ => exact okAll0
    | 1, _ => exact okAll1
    | 2, _ => exact okAll2
    | 3, _ => exact okAll3
    | 4, _ => exact okAll4
  exact all5_at (all5_at (all5_at (all5_at h b hb) c hc) d hd) e he
theorem countP_lt {p q : Nat → Bool} : ∀ {l : List Nat}, (∀ x ∈ l, p x = true → q x = true) → (∃ x ∈ l, p x = false ∧ q x = true) → l.countP p < l.countP q
  | [], _, h => by obtain ⟨x, hx, _⟩ := h; cases hx
  | y :: l, h1, h2 => by
    have m : l.countP p ≤ l.countP q := List.countP_mono_left fun x hx hp => h1 x (.tail _ hx) hp
    rw [List.countP_cons, List.countP_cons]
    obtain ⟨x, hx, hp, hq⟩ := h2
    rcases List.mem_cons.mp hx with rfl | hx
    · rw [hp, hq]; simp; omega
    · have := countP_lt (l := l) (fun x hx => h1 x (.tail _ hx)) ⟨x, hx, hp, hq⟩
      have := h1 y (.head _)
      cases hy : p y with
      | false => simp; split <;> omega
      | true => rw [this hy]; simp; omega
/-- how many of the five stand below -/
noncomputable def rank (z : Nat → Int) (i : Nat) : Nat := (List.range 5).countP fun j => decide (z j < z i)
theorem rank_le (z : Nat → Int) {i j : Nat} (h : z i ≤ z j) : rank z i ≤ rank z j :=
  List.countP_mono_left fun x _ hp => by simp only [decide_eq_true_eq] at hp ⊢; omega
theorem rank_lt (z : Nat → Int) {i j : Nat} (hi : i < 5) (h : z i < z j) : rank z i < rank z j :=
  countP_lt (fun x _ hp => by simp only [decide_eq_true_eq] at hp ⊢; omega) ⟨i, List.mem_range.mpr hi, by simp, by simpa using h⟩
theorem rank_5 (z : Nat → Int) {i : Nat} (hi : i < 5) : rank z i < 5 := by
  have := countP_lt (l := List.range 5) (p := fun j => decide (z j < z i)) (q := fun _ => true) (fun _ _ _ => rfl) ⟨i, List.mem_range.mpr hi, by simp, rfl⟩
  exact this
noncomputable abbrev z5 (z : Nat → Int) : Nat → Int := pick5 (z 0) (z 1) (z 2) (z 3) (z 4)
noncomputable abbrev ltZ (z : Nat → Int) (i j : Nat) : Bool := decide (z5 z i < z5 z j)
theorem z5_at (z : Nat → Int) {i : Nat} (hi : i < 5) : z5 z i = z i := by
  match i, hi with
  | 0, _ => rfl
  | 1, _ => rfl
  | 2, _ => rfl
  | 3, _ => rfl
  | 4, _ => rfl
theorem pick5_ix {α : Type} (u : Nat → α) (i : Nat) : pick5 (u 0) (u 1) (u 2) (u 3) (u 4) i = u (if i < 4 then i else 4) := by
  match i with
  | 0 => rfl
  | 1 => rfl
  | 2 => rfl
  | 3 => rfl
  | n + 4 => rw [if_neg (by omega)]; rfl
theorem ltZ_rank (z : Nat → Int) : ltZ z = ltN (rank z 0) (rank z 1) (rank z 2) (rank z 3) (rank z 4) := by
  funext i j
  unfold ltZ ltN z5
  rw [pick5_ix z i, pick5_ix z j, pick5_ix (rank z) i, pick5_ix (rank z) j]
  have hi : (if i < 4 then i else 4) < 5 := by split <;> omega
  generalize (if i < 4 then i else 4) = i' at *
  generalize (if j < 4 then j else 4) = j'
  by_cases h : z i' < z j'
  · rw [decide_eq_true h]; exact (Nat.ble_eq.mpr (rank_lt z hi h)).symm
  · rw [decide_eq_false h]
    have := rank_le z (Int.not_lt.mp h)
    cases q : Nat.blt (rank z i') (rank z j') with
    | false => rfl
    | true => have := Nat.ble_eq.mp q; omega
theorem insL_due (z : Nat → Int) {l : List Nat} {k : Nat} (hk : k < 5) (hl : ∀ j ∈ l, j < 5) : insL (ltZ z) l k = dueStepL z l k := by
  have : (l.filter fun j => !ltZ z k j) = l.filter fun j => decide (z j ≤ z k) := List.filter_congr fun j hj => by
    show (!decide (z5 z k < z5 z j)) = _
    rw [z5_at z hk, z5_at z (hl j hj)]
    by_cases g : z k < z j
    · rw [decide_eq_true g, decide_eq_false (by omega)]; rfl
    · rw [decide_eq_false g, decide_eq_true (by omega)]; rfl
  unfold insL dueStepL
  rw [this]
theorem foldl_due (z : Nat → Int) : ∀ n, n ≤ 5 → (List.range n).foldl (insL (ltZ z)) [] = dueL z n
  | 0, _ => rfl
  | n + 1, h => by
    rw [List.range_succ, List.foldl_append, foldl_due z n (by omega), dueL_succ]
    exact insL_due z (by omega) fun j hj => Nat.lt_of_lt_of_le (dueL_lt z n j hj) (by omega)
/-- the sort's answer: the places put in one by one -/
theorem sort_law (z : Nat → Int) : ∃ p : Array Nat, goK (ltZ z) (kas_sort 5) 40 = some p ∧ p.toList = dueL z 5 := by
  have h := ok_at (rank_5 z (i := 0) (by decide)) (rank_5 z (i := 1) (by decide)) (rank_5 z (i := 2) (by decide)) (rank_5 z (i := 3) (by decide)) (rank_5 z (i := 4) (by decide))
  unfold okAt at h
  rw [← ltZ_rank] at h
  revert h
  cases goK (ltZ z) (kas_sort 5) 40 with
  | none => intro h; cases h
  | some p =>
    intro h
    refine ⟨p, rfl, ?_⟩
    rw [← foldl_due z 5 (Nat.le_refl _)]
    exact eq_of_beq h
section
variable {α : Type} {cmp : Nat → Nat → (Bool → Shared → Prop) → Shared → Prop} {lt : Nat → Nat → Bool} {Q : α → Shared → Prop}
theorem kas_go (Inv : Nat → Shared → Prop) (hc : ∀ i j n s (C : Bool → Shared → Prop), i < 5 → j < 5 → Inv (n + 1) s → (∀ s', Inv n s' → C (lt i j) s') → cmp i j C s) :
    ∀ (t : KasT α) (n : Nat) (a : α) (s : Shared), goK lt t n = some a → Inv n s → (∀ n' s', Inv n' s' → Q a s') → t.kasWp cmp Q s
  | .ret a', n, a, s, h, hI, hq => by
    cases h
    exact hq n s hI
  | .ask i j k, 0, a, s, h, hI, hq => by cases h
  | .ask i j k, n + 1, a, s, h, hI, hq => by
    unfold goK at h
    by_cases g : i < 5 ∧ j < 5
    · rw [if_pos g] at h
      exact hc i j n s _ g.1 g.2 hI fun s' hI' => kas_go Inv hc (k (lt i j)) n a s' h hI' hq
    · rw [if_neg g] at h; cases h
end
end Mine
end

-- part Q21
section
open PySem PySem.W PySem.W.X PySem.Calls PyProof.Rows
set_option maxRecDepth 100000
set_option maxHeartbeats 400000
namespace Mine
/-- the state while the keys are sorted -/
structure SrtSt (h₀ : Heap) (nt aL kS : Addr) (e1 : Nat) (keys : Array Value) (a : KA) (r : Nat → Addr) (B : Nat) (h : Heap) : Prop where
  kq : Kq nt h₀ h
  nn : ∃ xs, NotesAt h nt xs ∧ xs.length ≤ B
  al : h.get? aL = some (seqObj "list" #[] e1)
  ks : ∃ e, h.get? kS = some (seqObj "list" keys e)
  key : ∀ (i : Nat) (v : Value), keys[i]? = some v → ∃ x, v = .ref x ∧ InstK h a x (.ref (r i))
section
variable {prog : Program} {w : World} {A : Around} {E : Value → Shared → Prop} {s : Shared} {H : Heap} {a : KA} {cc fa nt : Addr} {σ : Int} {n dep un : Nat} {xs xs₀ : List Value} {r : Nat → Addr}
/-- one key < another -/
theorem key_lt {x y : Addr} {v1 v2 : Value} {Q : Bool → Shared → Prop} (K : Key H a cc fa) (hA : Asks prog w nt H fa v1 v2 σ n dep un) (hl : H.NoLimit) (n₀ : NotesAt H nt xs₀) (kp : Kp nt H s.heap) (hn : NotesAt s.heap nt xs) (hlen : xs.length + n ≤ 1000000)
    (ix : InstK s.heap a x v1) (iy : InstK s.heap a y v2) (h1 : handedIn v1 = true) (h2 : handedIn v2 = true) (hroom : A.depth + (dep + 1) < recursionLimit) (hun : A.units + (un + 3) < cLine)
    (hq : ∀ h' tk' ys, Kq nt s.heap h' → NotesAt h' nt (xs ++ ys) → ys.length = n → Q (says .Lt σ) { s with heap := h', toks := tk' }) :
    wpAny (model prog w) A (keyLt' oneType' (.ref x) (.ref y)) Q E s := by
  obtain ⟨ox, od, I, _⟩ := ix.at
  have k := (K.kp n₀ kp).cls
  obtain ⟨od', fd, sl, hf⟩ := k.fn .Lt (by decide)
  rw [keyLt'_oneType, oneLt'_eq]
  simp only [if_true]
  refine wpAny_bind (wpAny_cRoomFor (by omega) ?_)
  refine wpAny_bind (ifBound_K (K := whole s.heap) (whole_in _) I (k.find (r := some (.ref (a.fn .Lt))) _ fun _ _ _ _ => by rfl) (by unfold isFn; rw [typeIn_ref hf]; rfl) ?_)
  refine key_meth (by decide) K hA hl n₀ kp hn hlen ix iy h1 h2 hroom hun fun h' tk' ys kq' hn' hy _ => ?_
  exact wpAny_truthy_bool (hq h' tk' ys kq' hn' hy)
/-- what the sort of the five things leans on -/
structure SrtH (prog : Program) (w : World) (H : Heap) (a : KA) (cc fa nt : Addr) (r : Nat → Addr) (lt : Nat → Nat → Bool) (p : Array Nat) (dep un : Nat) : Prop where
  K : Key H a cc fa
  hin : InitAt H a.fi
  hl : H.NoLimit
  n₀ : ∃ xs₀, NotesAt H nt xs₀
  ask : ∀ i j, i < 5 → j < 5 → ∃ σ n, Asks prog w nt H fa (.ref (r i)) (.ref (r j)) σ n dep un ∧ n ≤ 64 ∧ says .Lt σ = lt i j
  go : goK lt (kas_sort 5) 40 = some p
  lt5 : ∀ i ∈ p.toList, i < 5
section
variable {h₀ h h' : Heap} {aL kS : Addr} {e1 B : Nat} {keys : Array Value}
theorem SrtSt.keeps (x : SrtSt h₀ nt aL kS e1 keys a r B h) (k : ∀ b o, h.get? b = some o → h'.get? b = some o) : SrtSt h₀ nt aL kS e1 keys a r B h' :=
  ⟨x.kq.trans (Kq.of k), (by obtain ⟨xs, n, l⟩ := x.nn; exact ⟨xs, n.keeps k, l⟩), k _ _ x.al, (by obtain ⟨e, q⟩ := x.ks; exact ⟨e, k _ _ q⟩), fun i v hv => (by obtain ⟨y, q, z⟩ := x.key i v hv; exact ⟨y, q, z.keeps k⟩)⟩
theorem SrtSt.kqs {B' : Nat} (x : SrtSt h₀ nt aL kS e1 keys a r B h) (k : Kq nt h h') {ys : List Value} (n : NotesAt h' nt ys) (hl : ys.length ≤ B') (ha : aL ≠ nt) (hk : kS ≠ nt) : SrtSt h₀ nt aL kS e1 keys a r B' h' := by
  obtain ⟨xs, n₁, _⟩ := x.nn
  exact ⟨x.kq.trans k, ⟨ys, n, hl⟩, k _ _ ha x.al, (by obtain ⟨e, q⟩ := x.ks; exact ⟨e, k _ _ hk q⟩), fun i v hv => (by obtain ⟨y, q, z⟩ := x.key i v hv; exact ⟨y, q, InstK.kp n₁ k.kp z⟩)⟩
theorem InstK.but {x b : Addr} {v : Value} {its : Array Value} {e : Nat} (i : InstK h a x v) (hb : h.get? b = some (seqObj "list" its e)) (k : ∀ c o, c ≠ b → h.get? c = some o → h'.get? c = some o) : InstK h' a x v := by
  obtain ⟨dx, e1, e2⟩ := i
  refine ⟨dx, k _ _ (fun q => ?_) e1, k _ _ (fun q => ?_) e2⟩
  · rw [q, hb] at e1; cases e1
  · rw [q, hb] at e2; exact absurd (Value.type.inj (congrArg Obj.cls (Option.some.inj e2))) (by decide)
theorem SrtSt.mono {B' : Nat} (x : SrtSt h₀ nt aL kS e1 keys a r B h) (hB : B ≤ B') : SrtSt h₀ nt aL kS e1 keys a r B' h := { x with nn := (by obtain ⟨xs, n, l⟩ := x.nn; exact ⟨xs, n, Nat.le_trans l hB⟩ )}
/-- the next key -/
theorem SrtSt.push {y : Addr} (x : SrtSt h₀ nt aL kS e1 keys a r B h) (nk : h₀.get? kS = none) (ha : aL ≠ kS) (hn : kS ≠ nt) (iy : InstK h a y (.ref (r keys.size))) :
    SrtSt h₀ nt aL kS e1 (keys.push (.ref y)) a r B (h.update kS (Obj.mapSeq (·.push (.ref y)))) := by
  obtain ⟨e, ks⟩ := x.ks
  have sb := Heap.SameBut.update h kS (Obj.mapSeq (·.push (.ref y)))
  have k : ∀ c o, c ≠ kS → h.get? c = some o → (h.update kS (Obj.mapSeq (·.push (.ref y)))).get? c = some o := fun c o hc eo => (sb.2 c hc).trans eo
  refine ⟨fun b o hb eb => k b o (fun q => by rw [q, nk] at eb; cases eb) (x.kq b o hb eb), (by obtain ⟨xs, ⟨n, en⟩, l⟩ := x.nn; exact ⟨xs, ⟨n, k _ _ (Ne.symm hn) en⟩, l⟩), k _ _ ha x.al, ⟨_, get?_update_seq ks (·.push (.ref y))⟩, fun i v hv => ?_⟩
  rw [Array.getElem?_push] at hv
  by_cases g : i = keys.size
  · rw [if_pos g] at hv; cases hv
    rw [g]
    exact ⟨y, rfl, iy.but ks k⟩
  · rw [if_neg g] at hv
    obtain ⟨y', q, z⟩ := x.key i v hv
    exact ⟨y', q, z.but ks k⟩
end
section
variable {h₀ : Heap} {aL kS : Addr} {e1 B : Nat} {keys : Array Value} {lt : Nat → Nat → Bool} {p : Array Nat} {P : PySem.Fin → Shared → Prop}
noncomputable abbrev rowVs (r : Nat → Addr) : List Value := [.ref (r 0), .ref (r 1), .ref (r 2), .ref (r 3), .ref (r 4)]
theorem rowVs_at (r : Nat → Addr) {i : Nat} (hi : i < 5) : (rowVs r)[i]? = some (.ref (r i)) := by
  match i, hi with
  | 0, _ => rfl
  | 1, _ => rfl
  | 2, _ => rfl
  | 3, _ => rfl
  | 4, _ => rfl
theorem key_item {h : Heap} (x : SrtSt h₀ nt aL kS e1 keys a r B h) (hz : keys.size = 5) {i : Nat} (hi : i < 5) : ∃ y, kas_item (keys.zip (List.toArray (rowVs r))) i = (.ref y, .ref (r i)) ∧ InstK h a y (.ref (r i)) := by
  have hk : keys[i]? = some keys[i] := Array.getElem?_eq_getElem (by omega)
  obtain ⟨y, e, iy⟩ := x.key i _ hk
  refine ⟨y, ?_, iy⟩
  have e2 : (keys.zip (List.toArray (rowVs r)))[i]? = some (.ref y, .ref (r i)) := by
    rw [Array.getElem?_zip_eq_some]
    exact ⟨by rw [hk, e], by rw [List.getElem?_toArray]; exact rowVs_at r hi⟩
  unfold kas_item
  rw [Array.getD_eq_getD_getElem?, e2]; rfl
theorem srt_tail {st : SortSt} (x : SrtSt h₀ nt aL kS e1 keys a r B s.heap) (nk : h₀.get? kS = none) (na : h₀.get? aL = none) (hak : aL ≠ kS) (han : aL ≠ nt) (hkn : kS ≠ nt) (hz : keys.size = 5) (hps : p.size = 5)
    (hst : arrOf st = p.map (kas_item (keys.zip (List.toArray (rowVs r))))) (hf : failedOf st = none) (hlt : ∀ i ∈ p.toList, i < 5)
    (h : ∀ h' tk' n, Kq nt h₀ h' → (∃ xs, NotesAt h' nt xs) → h'.get? aL = some (seqObj "list" (p.toList.map fun i => Value.ref (r i)).toArray n) → P (.done (.ret .none)) { s with heap := h', toks := tk' }) :
    wpAny (model prog w) A (ksk_tail aL false e1 (.ref kS) st) P E s := by
  obtain ⟨e, ks⟩ := x.ks
  have hout : (arrOf st).map (·.2) = (p.toList.map fun i => Value.ref (r i)).toArray := by
    apply Array.toList_inj.mp
    rw [hst, Array.map_map, Array.toList_map]
    refine List.map_congr_left fun i hi => ?_
    obtain ⟨y, q, _⟩ := key_item x hz (hlt i hi)
    show (kas_item _ i).2 = _
    rw [q]
  have hsz : ((p.toList.map fun i => Value.ref (r i)).toArray).size = 5 := by rw [List.size_toArray, List.length_map, Array.length_toList, hps]
  have s1 := Heap.SameBut.update s.heap kS (Obj.mapSeq fun _ => (#[] : Array Value))
  have na1 : (s.heap.update kS (Obj.mapSeq fun _ => (#[] : Array Value))).get? aL = some (seqObj "list" #[] e1) := (s1.2 aL hak).trans x.al
  unfold ksk_tail
  try dsimp only
  rw [hout]
  refine wpAny_bind (listUpdate_at ks rfl ?_ (by rw [hz, sizeLine_eq]; decide) (Nat.zero_le _))
  refine wpAny_bind (wpAny_letGo ?_)
  refine wpAny_bind (seqEpoch_at na1 rfl ?_)
  simp only [Bool.false_eq_true, if_false]
  refine wpAny_bind (listUpdate_at na1 rfl ?_ (Nat.zero_le _) (Nat.le_trans (Nat.le_of_eq hsz) (by rw [sizeLine_eq]; decide)))
  rw [hf]
  simp only [bne_self_eq_false, Bool.false_eq_true, if_false]
  have s2 := Heap.SameBut.update (s.heap.update kS (Obj.mapSeq fun _ => (#[] : Array Value))) aL (Obj.mapSeq fun _ => (p.toList.map fun i => Value.ref (r i)).toArray)
  have k : ∀ c o, c ≠ kS → c ≠ aL → s.heap.get? c = some o → ((s.heap.update kS (Obj.mapSeq fun _ => (#[] : Array Value))).update aL (Obj.mapSeq fun _ => (p.toList.map fun i => Value.ref (r i)).toArray)).get? c = some o := fun c o c1 c2 eo => (s2.2 c c2).trans ((s1.2 c c1).trans eo)
  obtain ⟨xs, ⟨n, en⟩, _⟩ := x.nn
  refine wpAny_pure (h _ _ _ (fun b o hb eb => k b o (fun q => by rw [q, nk] at eb; cases eb) (fun q => by rw [q, na] at eb; cases eb) (x.kq b o hb eb)) ⟨xs, n, k _ _ (Ne.symm hkn) (Ne.symm han) en⟩ (get?_update_seq na1 _))
theorem srt_end (S : SrtH prog w H a cc fa nt r lt p dep un) (kp : Kp nt H h₀) (x : SrtSt h₀ nt aL kS e1 keys a r B s.heap) (hB : B ≤ 100000) (nk : h₀.get? kS = none) (na : h₀.get? aL = none) (hak : aL ≠ kS) (han : aL ≠ nt) (hkn : kS ≠ nt) (hz : keys.size = 5)
    (hroom : A.depth + (dep + 1) < recursionLimit) (hun : A.units + (un + 3) < cLine)
    (h : ∀ h' tk' n, Kq nt h₀ h' → (∃ xs, NotesAt h' nt xs) → h'.get? aL = some (seqObj "list" (p.toList.map fun i => Value.ref (r i)).toArray n) → P (.done (.ret .none)) { s with heap := h', toks := tk' }) :
    wpAny (model prog w) A (ksk_end aL false (List.toArray (rowVs r)) e1 (.ref kS) keys) P E s := by
  have hzs : (keys.zip (List.toArray (rowVs r))).size = 5 := by rw [Array.size_zip, hz]; rfl
  obtain ⟨xs₀, n₀⟩ := S.n₀
  unfold ksk_end
  try dsimp only
  have hn2 : ¬ (List.toArray (rowVs r)).size < 2 := by show ¬ (5 < 2); decide
  simp only [Bool.false_eq_true, if_false]
  rw [if_neg hn2, if_neg hn2]
  have hTs : ∀ v ∈ keys.toList, Looks (model prog w) s.heap (typeOf v) (.ref a.C) := fun v hv => by
    obtain ⟨i, hi⟩ := List.mem_iff_getElem?.mp hv
    rw [Array.getElem?_toList] at hi
    obtain ⟨y, rfl, iy⟩ := x.key i v hi
    obtain ⟨dx, e, _⟩ := iy
    exact looks_typeIn (whole_in s.heap) (typeIn_ref e)
  have hkk := kas_kind (M := model prog w) (A := A) (E := E) (s := s) (vs := keys.toList) (T := .ref a.C) (Q := fun κ s' => κ = oneType' ∧ s = s') (by rw [Array.length_toList, hz]; decide) hTs rfl (beq_self_eq_true _) ⟨rfl, rfl⟩
  rw [Array.toArray_toList] at hkk
  refine wpAny_bind (wpAny_mono hkk ?_ fun _ _ z => z)
  rintro κ s' ⟨rfl, rfl⟩
  have est : SortSt.mk' oneType' (keys.zip (List.toArray (rowVs r))) #[] 7 none = kas_st oneType' (keys.zip (List.toArray (rowVs r))) (List.toArray (List.range 5)) := by
    have e := kas_range (keys.zip (List.toArray (rowVs r)))
    rw [hzs] at e
    unfold kas_st
    rw [e]
  have run := kas_runs (prog := prog) (w := w) (A := A) (E := E) (κ := oneType') (it := keys.zip (List.toArray (rowVs r))) (n := 5)
    (Q := fun _ st' s' => ∃ p' : Array Nat, p'.size = 5 ∧ arrOf st' = p'.map (kas_item (keys.zip (List.toArray (rowVs r)))) ∧ failedOf st' = none ∧ p' = p ∧ ∃ h' tk' B', s' = { s with heap := h', toks := tk' } ∧ SrtSt h₀ nt aL kS e1 keys a r B' h')
    (G := fun p' s' => p' = p ∧ ∃ h' tk' B', s' = { s with heap := h', toks := tk' } ∧ SrtSt h₀ nt aL kS e1 keys a r B' h') (s := s) (by decide) (by decide) (fun p' st' s' a1 a2 a3 a4 => ⟨p', a1, a2, a3, a4⟩) ?kas
  case kas =>
    refine kas_go (lt := lt) (fun n s' => ∃ h' tk' B', s' = { s with heap := h', toks := tk' } ∧ SrtSt h₀ nt aL kS e1 keys a r B' h' ∧ B' + 64 * n ≤ 200000) ?_ (kas_sort 5) 40 p s S.go ⟨s.heap, s.toks, B, rfl, x, by omega⟩ ?_
    · rintro i j n s' C hi hj ⟨h', tk', B', rfl, x', hb⟩ hC
      obtain ⟨y1, q1, i1⟩ := key_item x' hz hi
      obtain ⟨y2, q2, i2⟩ := key_item x' hz hj
      obtain ⟨σ, nn, hA, hnn, hs⟩ := S.ask i j hi hj
      obtain ⟨xs, hn, hl⟩ := x'.nn
      unfold kas_cmp
      rw [q1, q2]
      refine key_lt (s := { s with heap := h', toks := tk' }) S.K hA S.hl n₀ (kp.trans x'.kq.kp) hn (by omega) i1 i2 rfl rfl hroom hun fun h2 tk2 ys kq2 hn2 hy => ?_
      rw [hs]
      exact hC _ ⟨h2, tk2, B' + 64, rfl, x'.kqs kq2 hn2 (by rw [List.length_append]; omega) han hkn, by omega⟩
    · rintro n' s' ⟨h', tk', B', rfl, x', _⟩
      exact ⟨rfl, h', tk', B', rfl, x'⟩
  rw [← est] at run
  refine wpAny_bind (wpAny_mono run ?_ fun _ _ z => z)
  rintro ⟨⟨⟩, st'⟩ s' ⟨p', hp, har, hf, rfl, h', tk', B', rfl, x'⟩
  exact srt_tail (s := { s with heap := h', toks := tk' }) x' nk na hak han hkn hz hp har hf S.lt5 fun h2 tk2 n k2 n2 a2 => h h2 tk2 n k2 n2 a2
end
end
end Mine
end

-- part Q22
section
open PySem PySem.W PySem.W.X PySem.Calls PyProof.Rows
set_option maxRecDepth 100000
set_option maxHeartbeats 400000
namespace Mine
section
variable {prog : Program} {w : World} {A : Around} {E : Value → Shared → Prop} {s : Shared} {H : Heap} {a : KA} {cc fa nt : Addr} {dep un : Nat} {r : Nat → Addr} {h₀ : Heap} {aL kS : Addr} {e1 B : Nat} {lt : Nat → Nat → Bool} {p : Array Nat} {P : PySem.Fin → Shared → Prop}
theorem srt_rest (S : SrtH prog w H a cc fa nt r lt p dep un) (kp : Kp nt H h₀) (x : SrtSt h₀ nt aL kS e1 #[] a r B s.heap) (hB : B ≤ 100000) (nk : h₀.get? kS = none) (na : h₀.get? aL = none) (hak : aL ≠ kS) (han : aL ≠ nt) (hkn : kS ≠ nt)
    (hroom : A.depth + (dep + 4) < recursionLimit) (hun : A.units + (un + 3) < cLine)
    (h : ∀ h' tk' n, Kq nt h₀ h' → (∃ xs, NotesAt h' nt xs) → h'.get? aL = some (seqObj "list" (p.toList.map fun i => Value.ref (r i)).toArray n) → P (.done (.ret .none)) { s with heap := h', toks := tk' }) :
    wpAny (model prog w) A (ksk_rest aL (.ref a.C) false (List.toArray (rowVs r)) e1 (.ref kS)) P E s := by
  obtain ⟨xs₀, n₀⟩ := S.n₀
  unfold ksk_rest
  refine wpAny_bind (wpAny_rule ?_)
  rw [List.forIn_toArray]
  refine wpAny_bind (ksk_fold (fun i s' => ∃ h' tk keys, s' = { s with heap := h', toks := tk } ∧ SrtSt h₀ nt aL kS e1 keys a r B h' ∧ keys.size = i) (rowVs r) 0 s ⟨s.heap, s.toks, #[], rfl, x, rfl⟩ ?step ?done)
  case step =>
    rintro j v s' hv ⟨h', tk, keys, rfl, x', hk⟩
    simp only [Nat.zero_add] at hk ⊢
    have hj : j < 5 := (List.getElem?_eq_some_iff.mp hv).1
    rw [rowVs_at r hj] at hv
    obtain rfl := Option.some.inj hv
    have kp' : Kp nt H h' := kp.trans x'.kq.kp
    refine wpAny_bind (wpAny_attempt (make_call (s := { s with heap := h', toks := tk }) (S.K.kp n₀ kp').cls (InitAt.kp n₀ kp' S.hin) (NoLimit.kp n₀ kp' S.hl) (by omega) fun y h2 tk2 k2 iy _ => ?_))
    have x2 := x'.keeps k2
    rw [← hk] at iy
    obtain ⟨e, ks⟩ := x2.ks
    try dsimp only
    refine wpAny_bind (listUpdate_at ks rfl ?_ (by rw [hk, sizeLine_eq]; omega) (Nat.le_trans (Nat.le_of_eq (Array.size_push ..)) (by rw [hk, sizeLine_eq]; omega)))
    exact wpAny_pure ⟨rfl, _, _, keys.push (.ref y), rfl, x2.push nk hak hkn iy, by rw [Array.size_push, hk]⟩
  case done =>
    rintro s' ⟨h', tk, keys, rfl, x', hk⟩
    obtain ⟨e, ks⟩ := x'.ks
    try dsimp only
    refine wpAny_bind (listItems_at ks rfl ?_)
    exact srt_end (s := { s with heap := h', toks := tk }) S kp x' hB nk na hak han hkn hk (by omega) hun fun h3 tk3 n k3 n3 a3 => h h3 tk3 n k3 n3 a3
theorem srt_tree {n : Nat} {xs : List Value} (S : SrtH prog w H a cc fa nt r lt p dep un) (kp : Kp nt H h₀) (k0 : ∀ b o, h₀.get? b = some o → s.heap.get? b = some o) (hs0 : h₀.objs.size ≤ s.heap.objs.size) (hn : NotesAt s.heap nt xs) (hB : xs.length ≤ 100000) (ho : s.heap.get? aL = some (seqObj "list" (List.toArray (rowVs r)) n)) (na : h₀.get? aL = none) (han : aL ≠ nt)
    (hroom : A.depth + (dep + 4) < recursionLimit) (hun : A.units + (un + 3) < cLine)
    (h : ∀ h' tk' n, Kq nt h₀ h' → (∃ xs, NotesAt h' nt xs) → h'.get? aL = some (seqObj "list" (p.toList.map fun i => Value.ref (r i)).toArray n) → P (.done (.ret .none)) { s with heap := h', toks := tk' }) :
    wpAny (model prog w) A (ksk_tree aL (.ref a.C) false) P E s := by
  have s1 := Heap.SameBut.update s.heap aL (Obj.mapSeq fun _ => (#[] : Array Value))
  obtain ⟨e1, ho1⟩ : ∃ e1, (s.heap.update aL (Obj.mapSeq fun _ => (#[] : Array Value))).get? aL = some (seqObj "list" #[] e1) := ⟨_, get?_update_seq ho fun _ => #[]⟩
  have hkS : ((s.heap.update aL (Obj.mapSeq fun _ => (#[] : Array Value))).push (seqObj "tuple" (List.toArray (rowVs r)) 0)).objs.size = s.heap.objs.size + 1 := by rw [size_push', Heap.size_update]
  have k1 : ∀ b o, b ≠ aL → s.heap.get? b = some o → (((s.heap.update aL (Obj.mapSeq fun _ => (#[] : Array Value))).push (seqObj "tuple" (List.toArray (rowVs r)) 0)).push (seqObj "list" #[] 0)).get? b = some o := fun b o hb eb => Heap.get?_push_of_some _ (Heap.get?_push_of_some _ ((s1.2 b hb).trans eb))
  have haL : aL < s.heap.objs.size := Heap.lt_size ho
  have hnt : nt < s.heap.objs.size := (by obtain ⟨_, e⟩ := hn; exact Heap.lt_size e)
  unfold ksk_tree
  refine wpAny_bind (listItems_at ho rfl ?_)
  refine wpAny_bind (listUpdate_at ho rfl ?_ (by show 5 ≤ _; rw [sizeLine_eq]; decide) (Nat.zero_le _))
  refine wpAny_bind (seqEpoch_at ho1 rfl ?_)
  refine wpAny_bind (wpAny_newTuple ?_ (by show 5 ≤ _; rw [sizeLine_eq]; decide))
  refine wpAny_bind (wpAny_newList ?_ (Nat.zero_le _))
  refine wpAny_holding ?_
  refine srt_rest (s := { s with heap := ((s.heap.update aL (Obj.mapSeq fun _ => (#[] : Array Value))).push (seqObj "tuple" (List.toArray (rowVs r)) 0)).push (seqObj "list" #[] 0) }) (kS := ((s.heap.update aL (Obj.mapSeq fun _ => (#[] : Array Value))).push (seqObj "tuple" (List.toArray (rowVs r)) 0)).objs.size) (B := xs.length) S kp ?_ hB (Heap.get?_none_of_le (by rw [hkS]; omega)) na (by rw [hkS]; exact Nat.ne_of_lt (Nat.lt_succ_of_lt haL)) han (by rw [hkS]; exact Nat.ne_of_gt (Nat.lt_succ_of_lt hnt)) hroom hun h
  refine ⟨fun b o hb eb => k1 b o (fun q => by rw [q, na] at eb; cases eb) (k0 b o eb), ⟨xs, ((by obtain ⟨m, en⟩ := hn; exact ⟨m, k1 _ _ (Ne.symm han) en⟩)), Nat.le_refl _⟩, Heap.get?_push_of_some _ (Heap.get?_push_of_some _ ho1), ⟨0, Heap.get?_push_size _ rfl⟩, fun i v hv => by simp at hv⟩
/-- sorted(row, key=K) -/
theorem sorted_keys {l : Addr} {xs : List Value} {Q : Value → Shared → Prop} (S : SrtH prog w H a cc fa nt r lt p dep un) (kp : Kp nt H s.heap) (hn : NotesAt s.heap nt xs) (hB : xs.length ≤ 100000) (hl : s.heap.IsList l (List.toArray (rowVs r)))
    (hroom : A.depth + (dep + 4) < recursionLimit) (hun : A.units + (un + 5) < cLine)
    (h : ∀ R h' tk', Kq nt s.heap h' → (∃ xs, NotesAt h' nt xs) → s.heap.objs.size ≤ R → h'.IsList R (p.toList.map fun i => Value.ref (r i)).toArray → Q (.ref R) { s with heap := h', toks := tk' }) :
    wpAny (model prog w) A (call (.builtin "sorted") [.ref l] [(Str.ofString "key", .ref a.C)]) Q E s := by
  refine call_function_entry_kw kind_sorted plain_sorted entry_sorted (ksk_s1 _ _) ?_
  unfold Builtin.«sorted»
  refine wpAny_bind (m := checkCount "sorted" 1 1 _) (wpAny_pure ?_)
  refine wpAny_bind (collect_list hl ?_ (by show 5 ≤ _; rw [sizeLine_eq]; decide))
  refine wpAny_bind (wpAny_newList ?_ (by show 5 ≤ _; rw [sizeLine_eq]; decide))
  have hsz : ((s.heap.push (seqObj "list" #[] 0)).update s.heap.objs.size (Obj.mapSeq (· ++ (List.toArray (rowVs r))))).objs.size = s.heap.objs.size + 1 := by
    rw [Heap.size_update, size_push']
  have hoL : (((s.heap.push (seqObj "list" #[] 0)).update s.heap.objs.size (Obj.mapSeq (· ++ (List.toArray (rowVs r))))).push (seqObj "list" (List.toArray (rowVs r)) 0)).get? (s.heap.objs.size + 1) = some (seqObj "list" (List.toArray (rowVs r)) 0) := by
    rw [← hsz]; exact Heap.get?_push_size _ rfl
  have keep : ∀ b o, s.heap.get? b = some o → (((s.heap.push (seqObj "list" #[] 0)).update s.heap.objs.size (Obj.mapSeq (· ++ (List.toArray (rowVs r))))).push (seqObj "list" (List.toArray (rowVs r)) 0)).get? b = some o := fun b o q => by
    have hlt : b < s.heap.objs.size := Heap.lt_size q
    rw [Heap.get?_push_ne _ _ _ (by rw [hsz]; exact Nat.ne_of_lt (Nat.lt_succ_of_lt hlt)), Heap.get?_update_ne _ _ _ _ (Nat.ne_of_lt hlt), Heap.get?_push_ne _ _ _ (Nat.ne_of_lt hlt)]
    exact q
  show wpAny _ _ _ _ _ { s with heap := ((s.heap.push (seqObj "list" #[] 0)).update s.heap.objs.size (Obj.mapSeq (· ++ (List.toArray (rowVs r))))).push (seqObj "list" (List.toArray (rowVs r)) 0) }
  rw [hsz]
  refine wpAny_bind (wpAny_holding (wpAny_call_entry_kw slot_list_sort ⟨_, hoL, rfl⟩ entry_list_sort ?body (ksk_l1 _ _)))
  case body =>
    show wpAny (model prog w) A.in1.in1 (Builtin.«list.sort» ⟨[.ref (s.heap.objs.size + 1)], [(Str.ofString "key", .ref a.C)]⟩) _ _ _
    rw [ksk_t1]
    have hnt : nt < s.heap.objs.size := (by obtain ⟨_, e⟩ := hn; exact Heap.lt_size e)
    refine srt_tree (s := { s with heap := ((s.heap.push (seqObj "list" #[] 0)).update s.heap.objs.size (Obj.mapSeq (· ++ (List.toArray (rowVs r))))).push (seqObj "list" (List.toArray (rowVs r)) 0) }) (h₀ := s.heap) S kp keep (by show _ ≤ Array.size _; rw [size_push', hsz]; omega) (hn.keeps keep) hB hoL (Heap.get?_none_of_le (Nat.le_succ _)) (Nat.ne_of_gt (Nat.lt_succ_of_lt hnt)) hroom (by show A.units + 1 + 1 + _ < _; omega) fun h' tk' n k' n' a' => ⟨_, rfl, ?_⟩
    exact wpAny_pure ⟨_, rfl, h _ h' tk' k' n' (Nat.le_succ _) ⟨_, a', rfl, _, rfl⟩⟩
end
end Mine
end

-- part Q23
section
open PySem PySem.W PySem.W.X PySem.Calls PyProof.Rows
set_option maxRecDepth 100000
set_option maxHeartbeats 400000
namespace Mine
theorem wayOf_cons (d : Int) (ds : List Int) : wayOf (d :: ds) = if (d.fdiv 18).fmod 2 = 1 then -wayOf ds else wayOf ds := by
  unfold wayOf odds
  by_cases g : (d.fdiv 18).fmod 2 = 1
  · rw [List.filter_cons_of_pos (p := fun d : Int => decide ((d.fdiv 18).fmod 2 = 1)) (by simpa using g), List.length_cons, if_pos g]
    by_cases q : (ds.filter fun d => decide ((d.fdiv 18).fmod 2 = 1)).length % 2 = 1
    · rw [if_pos q, if_neg (by omega)]; rfl
    · rw [if_neg q, if_pos (by omega)]
  · rw [List.filter_cons_of_neg (p := fun d : Int => decide ((d.fdiv 18).fmod 2 = 1)) (by simpa using g), if_neg g]
theorem due_fold (ds : List Int) : ∀ x : Nat × Int, (ds.foldl dueStep x).2 = wayOf ds * x.2 := by
  induction ds with
  | nil => intro x; show x.2 = 1 * x.2; omega
  | cons d ds ih =>
    intro x
    rw [List.foldl_cons, ih, wayOf_cons]
    show wayOf ds * turned d x.2 = _
    unfold turned
    by_cases g : (d.fdiv 18).fmod 2 = 1
    · rw [if_pos g, if_pos g, Int.neg_mul, Int.mul_neg]
    · rw [if_neg g, if_neg g]
theorem due_way (ds : List Int) (st : Int) : (dueOf ds st).2 = wayOf ds * st := due_fold ds (1, st)
/-- the topmost's < is the places' -/
theorem says_lt (ns ds : List Int) (i j : Nat) : says .Lt (Int.sign (dueOf ds (standOf (nAt ns i) (nAt ns j))).2) = decide (zOf ns ds i < zOf ns ds j) := by
  rw [← says_sign, due_way]
  show decide _ = decide _
  have : wayOf ds * standOf (nAt ns i) (nAt ns j) = zOf ns ds i - zOf ns ds j := by unfold standOf zOf; rw [Int.mul_sub]
  rw [this]
  exact decide_eq_decide.mpr (by omega)
/-- behind the sort -/
structure EndSt (mg mb : Str → Option Value) (s₀ h : Heap) (env : Env) (m cm : Str → Option Value) (D du R : Addr) (r : Nat → Addr) (l : List Nat) : Prop where
  fm : Fm h env m cm
  row : h.IsList D (List.toArray (rowVs r))
  told : h.IsList R (l.map fun i => Value.ref (r i)).toArray
  due : DueAt h du l
  g : h.Ns mainGlobals mg
  b : h.Ns builtinsNs mb
  cRow : cm "row" = some (.ref D)
  cTold : cm "told" = some (.ref R)
  cDue : cm "due" = some (.ref du)
  base2 : ∀ b o, s₀.get? b = some o → b ≠ 100 → b ≠ 114 → b ≠ 128 → h.get? b = some o
  tabs : ∀ P ∈ ([114, 100, 128] : List Addr), ∃ ps, h.get? P = some (tabObj ps)
theorem row_vs {h : Heap} {D : Addr} {r : Nat → Addr} (x : RowAt h D r) : h.IsList D (List.toArray (rowVs r)) := by
  obtain ⟨ys, hl, hz, hk⟩ := x
  have : ys = List.toArray (rowVs r) := by
    apply Array.ext_getElem?
    intro i
    by_cases g : i < 5
    · rw [(hk i g).1, List.getElem?_toArray, rowVs_at r g]
    · rw [Array.getElem?_eq_none (by omega), Array.getElem?_eq_none (by show 5 ≤ i; omega)]
  rw [← this]; exact hl
section
variable {w : World} {A : Around} {E : Value → Shared → Prop} {mg mb : Str → Option Value} {s₀ h H : Heap} {env : Env} {m cm : Str → Option Value} {nt nb D tw f du : Addr} {r : Nat → Addr} {ns ds : List Int} {g : Array GenState} {d : Drawn} {tk : Nat} {os : OsState}
/-- told = sorted(row, key=cmp_to_key(top)) -/
theorem st_told {p1 p2 p3 p4 p5 p6 p7 p8 p9 : Pos} {Q : Flow → Shared → Prop} (X : (hd.heap_39 w.params).In s₀) (e : LE s₀ env) (G : GK s₀ mg mb) (N : BN mg mb) (hd0 : A.depth ≤ 770) (hu : A.units ≤ 3880) (x : LZ w mg mb s₀ h H env m cm nt nb D tw r ns ds f) (T : TopX w H nt f r ns ds) (cd : cm "due" = some (.ref du)) (hdu : DueAt h du (dueL (zOf ns ds) 5)) (hdn : du ≠ nt)
    (hq : ∀ R h' tk' cm', EndSt mg mb s₀ h' env m cm' D du R r (dueL (zOf ns ds) 5) → Q .next ⟨h', g, d, tk', os⟩) :
    wpAny (model PySem.Challenge.pw_dz0037_02 w) A (exec (.Assign [.Name "told" p1] (.Call (.Name "sorted" p2) [.Name "row" p3] [⟨some "key", .Call (.Name "cmp_to_key" p4) [.Name "top" p5] [] p6, p7⟩] p8) p9) env) Q E ⟨h, g, d, tk, os⟩ := by
  obtain ⟨kt, ct, hct⟩ := e.cel "told" (by simp)
  obtain ⟨kr, cr, hcr⟩ := e.cel "row" (by simp)
  have hk105 : mg "cmp_to_key" = some (.ref 105) := mg_of X G.g (by rfl)
  obtain ⟨xs, hn, hl⟩ := x.nn
  have nN : ∀ o, h.get? nt = some o → ¬ IsTab o := fun o eo z => by obtain ⟨_, en⟩ := hn; rw [en] at eo; cases eo; cases z.cls
  have t100 : ∀ o, h.get? 100 = some o → IsTab o := fun o eo => by obtain ⟨_, ps, a, b, _⟩ := x.ts.st.tab; rw [a] at eo; cases eo; exact ⟨ps, b, rfl⟩
  refine wpAny_Assign_Name (wpAny_Call_Name_kw (Name_function_global e.hk (e.glo _ (by simp)) (loadGlobal_builtin (by rw [e.eg]; exact x.ts.st.ns G.g) (N.fn "sorted" (by simp)).1 (by rw [e.eb]; exact x.ts.st.ns G.b) (N.fn "sorted" (by simp)).2 ?_)))
  refine callWith_kw (spliced_cons (wpAny_Name (x.ts.st.fm.ldC (s := ⟨h, g, d, tk, os⟩) e.hk kr hcr x.ts.cRow (spliced_nil ?_))))
  refine evalAll_cons (wpAny_bind ?_)
  refine wpAny_Call_Name_kw (Name_function_global e.hk (e.glo _ (by simp)) (loadGlobal_global (by rw [e.eg]; exact x.ts.st.ns G.g) hk105 ?_))
  obtain ⟨fo, fdd, hfo, hfd⟩ : ∃ o fd, h.get? 105 = some o ∧ o.data = .func fd := ⟨_, _, x.ts.st.frag X 105 _ rfl, rfl⟩
  refine callWith_function (o := fo) (fd := fdd) (evalArgs_plain (spliced_cons (wpAny_Name (x.ts.st.fm.ldL (s := ⟨h, g, d, tk, os⟩) e.hk (e.loc _ (by simp)) x.mt (spliced_nil ⟨⟨hfo, hfd⟩, ?_⟩)))))
  refine cmp_call (s := ⟨h, g, d, tk, os⟩) (x.ts.st.frag X) (x.ts.st.gk G) x.ts.st.tab (Heap.lt_size (X 131 _ rfl)) (x.ts.st.hlo e) x.fn (by omega) (by omega) fun a cc h₁ tk₁ M => ?_
  refine wpAny_bind (wpAny_standAt (wpAny_pure ?_))
  refine evalAll_nil ?_
  have keep : ∀ b o, h.get? b = some o → ¬ IsTab o → h₁.get? b = some o := fun b o eb n => M.keep b o eb (fun q => n (t100 o (q ▸ eb))) (.inl n)
  have kp₁ : Kp nt H h₁ := fun b o hb ht eb => keep b o (x.ts.kp b o hb ht eb) ht
  have hn₁ : NotesAt h₁ nt xs := (by obtain ⟨n, en⟩ := hn; exact ⟨n, keep _ _ en (nN _ en)⟩)
  have row₁ : h₁.IsList D (List.toArray (rowVs r)) := row_vs (x.ts.row.kp kp₁ x.ts.Dt x.ts.rt)
  obtain ⟨p, hgo, hp⟩ := sort_law (zOf ns ds)
  have d3 := x.ts.d3
  have hr : recursionLimit = 1000 := rfl
  have hc : 4000 < cLine := by rw [cLine_is]; decide
  have S : SrtH PySem.Challenge.pw_dz0037_02 w h₁ a cc f nt r (ltZ (zOf ns ds)) p (2 + 5 * ds.length) (6 + 11 * ds.length) := by
    refine ⟨M.key, M.init, ?_, ⟨xs, hn₁⟩, fun i j hi hj => ?_, hgo, fun i hi => by rw [hp] at hi; exact dueL_lt _ _ _ hi⟩
    · obtain ⟨mc, n1, n2⟩ := x.ts.st.lim G.lim
      exact ⟨mc, Ns.via n1 fun o eo nt => keep _ _ eo nt, n2⟩
    · have h64 : (dueOf ds (standOf (nAt ns i) (nAt ns j))).1 ≤ 64 := by
        have h1 := dueOf_le ds (1, standOf (nAt ns i) (nAt ns j))
        have h4 : (4 : Nat) ^ ds.length ≤ 4 ^ 3 := Nat.pow_le_pow_right (by decide) d3
        unfold dueOf; omega
      refine ⟨_, _, (T.top i j hi hj).mono kp₁, h64, ?_⟩
      rw [says_lt]
      show _ = decide (z5 _ i < z5 _ j)
      rw [z5_at _ hi, z5_at _ hj]
  refine sorted_keys (s := ⟨h₁, g, d, tk₁, os⟩) S Kp.refl hn₁ (by omega) row₁ (by omega) (by omega) fun R h₂ tk₂ k₂ n₂ hR told₂ => ?_
  have ntab : ∀ {b : Addr} {o : Obj}, (∃ es ep, o.data = .dict es ep) ∨ (∃ v, o.data = .cell v) ∨ (∃ ys n, o.data = .seq ys n) → ¬ IsTab o := fun q z => by
    obtain ⟨_, z⟩ := z.data
    rcases q with ⟨_, _, q⟩ | ⟨_, q⟩ | ⟨_, _, q⟩ <;> rw [z] at q <;> cases q
  have F₂ : Fm h₂ env m cm := x.ts.st.fm.via fun b o eb hb nt' => k₂ b o (fun q => x.ts.ntW (q ▸ hb)) (keep b o eb nt')
  refine F₂.stC₂ (s := ⟨h₂, g, d, tk₂, os⟩) e.hk kt hct (by simp) fun h₃ tk₃ F₃ ex₃ => ?_
  have kn : ∀ {b : Addr} {o : Obj}, h₂.get? b = some o → (∃ ys n, o.data = .seq ys n) → h₃.get? b = some o := fun eb ⟨ys, n, q⟩ => ex₃ _ _ (F₂.gok.off eb (by intro _ _ q'; rw [q] at q'; cases q') (by intro _ q'; rw [q] at q'; cases q')) eb
  have gN : ∀ {b : Addr} {mm : Str → Option Value}, b < 132 → s₀.Ns b mm → h₃.Ns b mm := fun {b mm} hb n => by
    refine Ns.via n fun o eo nt' => ex₃ _ _ (fun q => absurd (e.low _ (gW_sub q)).1 (Nat.not_le_of_gt hb)) (k₂ _ _ (fun q => ?_) (keep _ _ (x.ts.st.base _ _ eo nt') nt'))
    rw [q, x.ts.s0n] at eo; cases eo
  refine hq R h₃ tk₃ _ ⟨F₃, ?_, ?_, ?_, gN (by decide) G.g, gN (by decide) G.b, x.ts.cRow, rfl, cd, fun b o eb n1 n2 n3 => ex₃ _ _ (fun q => by rw [(e.low _ (gW_sub q)).2] at eb; cases eb) (k₂ _ _ (fun q => by rw [q, x.ts.s0n] at eb; cases eb) (M.keep b o (x.ts.st.base2 b o eb n1 n2 n3) n1 (.inr (Heap.lt_size eb)))), fun P hP => ?_⟩
  · obtain ⟨o, eo, c, n, q⟩ := row₁
    exact ⟨o, kn (k₂ _ _ x.ts.Dt eo) ⟨_, _, q⟩, c, n, q⟩
  · obtain ⟨o, eo, c, n, q⟩ := told₂
    rw [← hp]
    exact ⟨o, kn eo ⟨_, _, q⟩, c, n, q⟩
  · exact hdu.keep fun o eo ⟨ys, n, q⟩ => kn (k₂ _ _ hdn (keep _ _ eo (ntab (b := du) (.inr (.inr ⟨_, _, q⟩))))) ⟨ys, n, q⟩
  · have nt132 : 132 ≤ nt := x.ts.gd.nt
    have t3 : ∀ {ps : Array Value}, P < 132 → h₁.get? P = some (tabObj ps) → h₃.get? P = some (tabObj ps) := fun hP' eP => ex₃ _ _ (fun q => absurd (e.low _ (gW_sub q)).1 (Nat.not_le_of_gt hP')) (k₂ _ _ (fun q => by rw [q] at hP'; exact absurd nt132 (Nat.not_le_of_gt hP')) eP)
    have lo132 : 132 ≤ s₀.objs.size := Heap.lt_size (X 131 _ rfl)
    simp only [List.mem_cons, List.not_mem_nil, or_false] at hP
    rcases hP with rfl | rfl | rfl
    · obtain ⟨ps, eP, _⟩ := x.ts.st.tabL
      exact ⟨ps, t3 (by decide) (M.keep _ _ eP (by decide) (.inr (Nat.lt_of_lt_of_le (by decide) lo132)))⟩
    · obtain ⟨_, ps, eP, _⟩ := M.tab
      exact ⟨ps, t3 (by decide) eP⟩
    · obtain ⟨ps, eP, _⟩ := x.ts.st.tabT
      exact ⟨ps, t3 (by decide) (M.keep _ _ eP (by decide) (.inr (Nat.lt_of_lt_of_le (by decide) lo132)))⟩
end
end Mine
end

-- part Q24
section
open PySem PySem.W PySem.W.X PySem.Calls PyProof.Rows
set_option maxRecDepth 100000
set_option maxHeartbeats 400000
namespace Mine
noncomputable abbrev eScope : Scope := { kind := .function, names := [(".0", .local), ("k", .local), ("due", .free), ("row", .free), ("told", .free)], isGenerator := false, isCoroutine := false, more := [] }
section
variable {prog : Program} {w : World} {A : Around} {E : Value → Shared → Prop} {mg mb : Str → Option Value} {s₀ h : Heap} {env : Env} {m cm : Str → Option Value} {D du R : Addr} {r : Nat → Addr} {l : List Nat} {g : Array GenState} {d : Drawn} {tk : Nat} {os : OsState}
/-- return [k for k in range(5) if told[k] is not row[due[k]]] == [] -/
theorem st_ret {p1 p2 p3 p4 p5 p6 p7 p8 p9 q1 q2 q3 q4 q5 q6 q7 q8 q9 : Pos} {Q : Flow → Shared → Prop} (e : LE s₀ env) (N : BN mg mb) (hh : A.handled = none) (hu : A.units ≤ 3880) (x : EndSt mg mb s₀ h env m cm D du R r l) (hl5 : l.length = 5) (hlt : ∀ j ∈ l, j < 5)
    (hq : ∀ h' tk', (∀ b o, h.get? b = some o → h'.get? b = some o) → Q (.ret (.bool true)) ⟨h', g, d, tk', os⟩) :
    wpAny (model prog w) A (exec (.Return (some (.Compare (.ListComp (.Name "k" p1) [⟨.Name "k" p2, .Call (.Name "range" p3) [.Constant (.int 5) 0 p4] [] p5, [.Compare (.Subscript (.Name "told" q1) (.Name "k" q2) q3) [.IsNot] [.Subscript (.Name "row" q4) (.Subscript (.Name "due" q5) (.Name "k" q6) q7) q8] q9], 0⟩] eScope p6) [.Eq] [.List [] p7] p8)) p9) env) Q E ⟨h, g, d, tk, os⟩ := by
  obtain ⟨k1, c1, h1⟩ := e.cel "due" (by simp)
  obtain ⟨k2, c2, h2⟩ := e.cel "row" (by simp)
  obtain ⟨k3, c3, h3⟩ := e.cel "told" (by simp)
  have hcl : closureFor eScope env = pure ([("told", c3), ("row", c2), ("due", c1)] : List (Str × Addr)) := by
    refine (closure_gen fun y hy hf => ?_).trans ?_
    · simp only [List.mem_cons, List.not_mem_nil, or_false] at hy
      rcases hy with rfl | rfl | rfl | rfl | rfl <;> first | (cases hf; done) | exact ⟨_, h1⟩ | exact ⟨_, h2⟩ | exact ⟨_, h3⟩
    · show pure ([("told", (env.cells.lookup ("told" : Str)).getD 0), ("row", (env.cells.lookup ("row" : Str)).getD 0), ("due", (env.cells.lookup ("due" : Str)).getD 0)] : List (Str × Addr)) = _
      rw [h1, h2, h3]; rfl
  have i1 := x.fm.cell "due" c1 h1
  have i2 := x.fm.cell "row" c2 h2
  have i3 := x.fm.cell "told" c3 h3
  rw [x.cDue] at i1
  rw [x.cRow] at i2
  rw [x.cTold] at i3
  obtain ⟨nd, vs, hdo, ia⟩ := x.due
  have hdl : h.IsList du (List.toArray vs) := ⟨_, hdo, rfl, _, rfl⟩
  refine wpAny_Return_some (wpAny_Compare1 ?_)
  refine wpAny_ListComp_free (cl := [("told", c3), ("row", c2), ("due", c1)]) (fun _ => false) (fun v y => y = v) hcl (by decide) rfl (by intro y hy; simp only [List.mem_cons, List.not_mem_nil, or_false] at hy; rcases hy with rfl | rfl | rfl | rfl | rfl <;> intro z <;> first | rfl | cases z) rfl ?_
  refine range_it2 hh e.hk (e.glo _ (by simp)) (by rw [e.eg]; exact x.g) N.range.1 (by rw [e.eb]; exact x.b) N.range.2 rfl (wpAny_Constant_int ⟨5, _, rfl, by decide, by decide, fun I h₂ tk₂ W hI nI k₂ => ?_⟩)
  have nI' : h.get? I = none := Heap.get?_none_of_le nI
  have kI : ∀ {h₃ : Heap}, (∀ b o, b ∉ [I] → h₂.get? b = some o → h₃.get? b = some o) → ∀ b o, h.get? b = some o → h₃.get? b = some o := fun k b o eb => k b o (fun q => by rw [List.mem_singleton] at q; rw [q, nI'] at eb; cases eb) (k₂ b o eb)
  refine ⟨I, [I], [I], _, _, _, rfl, W.bound, by rw [sizeLine_eq]; decide, hI, fun b hb => by rw [List.mem_singleton] at hb; subst hb; exact Heap.lt_size hI, ⟨?_, ?_⟩, ?_⟩
  · intro C i v s₃ m₃ E' _ hP hns hm k₃ _
    obtain ⟨hi, t, rfl⟩ := hP
    have e0 : (0 + (i : Int) * 1) = (i : Int) := by omega
    rw [e0] at hm
    have hi5 : i < 5 := hi
    have kk := kI k₃
    obtain ⟨j, hj⟩ : ∃ j, l[i]? = some j := ⟨_, List.getElem?_eq_getElem (by omega)⟩
    have hj5 := hlt j (List.mem_of_getElem? hj)
    obtain ⟨tj, hvj⟩ := ia.get i (j : Int) (by rw [List.getElem?_map, hj]; rfl)
    have hk' : (compEnvC eScope [("told", c3), ("row", c2), ("due", c1)] C env).scope.kind = .function := rfl
    refine wpAny_tests_one (wpAny_isTrue_Compare1 (Subscript_ (wpAny_Name (wpAny_loadName_cell hk' (comp_cell rfl e.hk k3) rfl (i3.keeps kk) (wpAny_Name (wpAny_loadName_local hk' (comp_kind rfl rfl) hns hm ?_))))))
    refine list_item (x.told.at fun o eo => kk _ _ eo) (by omega) (by omega) (v := .ref (r j)) (by rw [Int.toNat_natCast, List.getElem?_toArray, List.getElem?_map, hj]; rfl) (by with_unfolding_all rfl) ?_
    refine Subscript_ (wpAny_Name (wpAny_loadName_cell hk' (comp_cell rfl e.hk k2) rfl (i2.keeps kk) ?_))
    refine Subscript_ (wpAny_Name (wpAny_loadName_cell hk' (comp_cell rfl e.hk k1) rfl (i1.keeps kk) (wpAny_Name (wpAny_loadName_local hk' (comp_kind rfl rfl) hns hm ?_))))
    refine list_item (hdl.at fun o eo => kk _ _ eo) (by omega) (by omega) (v := .int (j : Int) tj) (by rw [Int.toNat_natCast, List.getElem?_toArray]; exact hvj) (by with_unfolding_all rfl) ?_
    refine list_item (x.row.at fun o eo => kk _ _ eo) (by omega) (by omega) (v := .ref (r j)) (by rw [Int.toNat_natCast, List.getElem?_toArray]; exact rowVs_at r hj5) (by with_unfolding_all rfl) ?_
    exact wpAny_isNot_ref_self (wpAny_truthy_bool ⟨rfl, Keeps.rfl⟩)
  · intro C i v s₃ m₃ E' _ hP hp
    cases hp
  · intro Dl h₃ tk₃ ys vs' nD hD _ hlen hP hF k₃
    have hk := kI k₃
    rw [List.filter_eq_nil_iff.mpr (fun _ _ => by decide)] at hF
    have hys : ys = #[] := by cases hq' : ys.toList with
      | nil => exact Array.toList_inj.mp (by rw [hq'])
      | cons a b => rw [hq'] at hF; cases hF
    subst hys
    refine wpAny_List (spliced_nil ⟨by rw [sizeLine_eq]; simp, ?_⟩)
    have kp : ∀ b o, h₃.get? b = some o → (h₃.push { cls := .type "list", data := .seq ([] : List Value).toArray }).get? b = some o := fun b o eb => Heap.get?_push_of_some _ eb
    refine ke_eq_ints (xs := []) (ys := []) (hD.at fun o eo => kp _ _ eo) ⟨_, Heap.get?_push_size _ rfl, rfl, _, rfl⟩ .nil .nil (by rw [cLine_is]; omega) ?_
    exact hq _ _ fun b o eb => kp _ _ (hk b o eb)
end
end Mine
end

-- part Q25
section
open PySem PySem.W PySem.W.X PySem.Calls PyProof.Rows
set_option maxRecDepth 100000
set_option maxHeartbeats 200000
namespace Mine
section
variable {w : World} {A : Around} {E : Value → Shared → Prop} {mg mb : Str → Option Value} {s₀ h0 H : Heap} {env : Env} {m cm : Str → Option Value} {nt nb D tw : Addr} {r : Nat → Addr} {ns ds : List Int} {g : Array GenState} {d : Drawn} {tk0 : Nat} {os : OsState}
theorem six_ev {o1 o2 o3 o4 o5 o6 o7 o8 o9 o10 o11 o12 o13 o14 o15 o16 o17 o18 o19 : Pos} {prog : Program} : ∀ (E' Q' : Value → Shared → Prop), (∀ l items h' tk', SixAt h' l items → (∀ b o, h0.get? b = some o → h'.get? b = some o) → h0.get? l = none → Q' (.ref l) ⟨h', g, d, tk', os⟩) → wpAny (model prog w) A (eval (.List [.Tuple [.Constant (.int 0) 0 o1, .Constant (.int 0) 0 o2] 0 o3, .Tuple [.Constant (.int 0) 0 o4, .Constant (.int 4) 0 o5] 0 o6, .Tuple [.Constant (.int 1) 0 o7, .Constant (.int 0) 0 o8] 0 o9, .Tuple [.Constant (.int 2) 0 o10, .Constant (.int 1) 0 o11] 0 o12, .Tuple [.Constant (.int 3) 0 o13, .Constant (.int 2) 0 o14] 0 o15, .Tuple [.Constant (.int 4) 0 o16, .Constant (.int 3) 0 o17] 0 o18] o19) env) Q' E' ⟨h0, g, d, tk0, os⟩ := by
  intro E' Q' hq
  exact @six_eval w A E' env o1 o2 o3 o4 o5 o6 o7 o8 o9 o10 o11 o12 o13 o14 o15 o16 o17 o18 o19 prog h0 tk0 g d os Q' hq
theorem st_six {f : Addr} {o1 o2 o3 o4 o5 o6 o7 o8 o9 o10 o11 o12 o13 o14 o15 o16 o17 o18 o19 a1 a2 a3 a4 x1 x2 x3 x4 x5 x6 x7 x8 x9 x10 x11 x12 x13 x14 x15 x16 x17 x18 y1 y2 y3 y4 y5 z1 z2 z3 z4 z5 z6 z7 z8 z9 z10 z11 z12 z13 z14 z15 z16 z17 z18 z19 z20 z21 u1 u2 u3 u4 u5 u6 u7 u8 u9 u10 u11 u12 u13 u14 u15 u16 u17 u18 u19 u20 u21 u22 u23 u24 u25 : Pos} {Q : Flow → Shared → Prop} (X : (hd.heap_39 w.params).In s₀) (e : LE s₀ env) (G : GK s₀ mg mb) (N : BN mg mb) (hh : A.handled = none) (hd0 : A.depth ≤ 770) (hu : A.units ≤ 3880) (x : TS w mg mb s₀ h0 H env m cm nt nb D tw r ns ds) (T : TopX w H nt f r ns ds) (fn : FnIn h0 f) (mt : m "top" = some (.ref f)) (hB : NotesAt h0 nt [])
    (hq : ∀ h' tk' m' cm', TS w mg mb s₀ h' H env m' cm' nt nb D tw r ns ds → m' "top" = some (.ref f) → FnIn h' f → (∃ xs, NotesAt h' nt xs ∧ xs.length ≤ 1000) → Q .next ⟨h', g, d, tk', os⟩) :
    wpAny (model PySem.Challenge.pw_dz0037_02 w) A (exec (.For (.Tuple [.Name "i" a1, .Name "j" a2] 0 a3) (.List [.Tuple [.Constant (.int 0) 0 o1, .Constant (.int 0) 0 o2] 0 o3, .Tuple [.Constant (.int 0) 0 o4, .Constant (.int 4) 0 o5] 0 o6, .Tuple [.Constant (.int 1) 0 o7, .Constant (.int 0) 0 o8] 0 o9, .Tuple [.Constant (.int 2) 0 o10, .Constant (.int 1) 0 o11] 0 o12, .Tuple [.Constant (.int 3) 0 o13, .Constant (.int 2) 0 o14] 0 o15, .Tuple [.Constant (.int 4) 0 o16, .Constant (.int 3) 0 o17] 0 o18] o19) [.Assign [.Tuple [.Name "asks" x1, .Name "stand" x2] 0 x3] (.Call (.Name "_law_due" x4) [.Name "tower" x5, .BinOp (.BinOp (.Subscript (.Name "numbers" x6) (.Name "i" x7) x8) .FloorDiv (.Constant (.int 2) 0 x9) x10) .Sub (.BinOp (.Subscript (.Name "numbers" x11) (.Name "j" x12) x13) .FloorDiv (.Constant (.int 2) 0 x14) x15) x16] [] x17) x18, .Assign [.Name "seen" y1] (.Call (.Name "len" y2) [.Name "notes" y3] [] y4) y5, .If (.BoolOp .Or [.Compare (.Call (.Name "top" z1) [.Subscript (.Name "row" z2) (.Name "i" z3) z4, .Subscript (.Name "row" z5) (.Name "j" z6) z7] [] z8) [.NotEq] [.Name "stand" z9] z10, .Compare (.Call (.Name "len" z11) [.Name "notes" z12] [] z13) [.NotEq] [.BinOp (.Name "seen" z14) .Add (.Name "asks" z15) z16] z17] z18) [.Return (some (.Constant (.bool false) 0 z19)) z20] [] z21, .If (.Compare (.ListComp (.Name "a" u1) [⟨.Tuple [.Name "a" u2, .Name "b" u3] 0 u4, .Subscript (.Name "notes" u5) (.Slice (some (.Name "seen" u6)) none none u7) u8, [.BoolOp .Or [.Compare (.Name "a" u9) [.IsNot] [.Subscript (.Name "row" u10) (.Name "i" u11) u12] u13, .Compare (.Name "b" u14) [.IsNot] [.Subscript (.Name "row" u15) (.Name "j" u16) u17] u18] u19], 0⟩] pScope u20) [.NotEq] [.List [] u21] u22) [.Return (some (.Constant (.bool false) 0 u23)) u24] [] u25] [] a4) env) Q E ⟨h0, g, d, tk0, os⟩ :=
  @st_pairs w A E mg mb s₀ h0 H env m cm nt nb D tw r ns ds g d tk0 os f (.List [.Tuple [.Constant (.int 0) 0 o1, .Constant (.int 0) 0 o2] 0 o3, .Tuple [.Constant (.int 0) 0 o4, .Constant (.int 4) 0 o5] 0 o6, .Tuple [.Constant (.int 1) 0 o7, .Constant (.int 0) 0 o8] 0 o9, .Tuple [.Constant (.int 2) 0 o10, .Constant (.int 1) 0 o11] 0 o12, .Tuple [.Constant (.int 3) 0 o13, .Constant (.int 2) 0 o14] 0 o15, .Tuple [.Constant (.int 4) 0 o16, .Constant (.int 3) 0 o17] 0 o18] o19) [.Assign [.Tuple [.Name "asks" x1, .Name "stand" x2] 0 x3] (.Call (.Name "_law_due" x4) [.Name "tower" x5, .BinOp (.BinOp (.Subscript (.Name "numbers" x6) (.Name "i" x7) x8) .FloorDiv (.Constant (.int 2) 0 x9) x10) .Sub (.BinOp (.Subscript (.Name "numbers" x11) (.Name "j" x12) x13) .FloorDiv (.Constant (.int 2) 0 x14) x15) x16] [] x17) x18, .Assign [.Name "seen" y1] (.Call (.Name "len" y2) [.Name "notes" y3] [] y4) y5, .If (.BoolOp .Or [.Compare (.Call (.Name "top" z1) [.Subscript (.Name "row" z2) (.Name "i" z3) z4, .Subscript (.Name "row" z5) (.Name "j" z6) z7] [] z8) [.NotEq] [.Name "stand" z9] z10, .Compare (.Call (.Name "len" z11) [.Name "notes" z12] [] z13) [.NotEq] [.BinOp (.Name "seen" z14) .Add (.Name "asks" z15) z16] z17] z18) [.Return (some (.Constant (.bool false) 0 z19)) z20] [] z21, .If (.Compare (.ListComp (.Name "a" u1) [⟨.Tuple [.Name "a" u2, .Name "b" u3] 0 u4, .Subscript (.Name "notes" u5) (.Slice (some (.Name "seen" u6)) none none u7) u8, [.BoolOp .Or [.Compare (.Name "a" u9) [.IsNot] [.Subscript (.Name "row" u10) (.Name "i" u11) u12] u13, .Compare (.Name "b" u14) [.IsNot] [.Subscript (.Name "row" u15) (.Name "j" u16) u17] u18] u19], 0⟩] pScope u20) [.NotEq] [.List [] u21] u22) [.Return (some (.Constant (.bool false) 0 u23)) u24] [] u25] a1 a2 a3 a4 Q e hh x fn mt hB (fun x' => @fs_list _ _ env x') (@six_ev w A h0 env g d tk0 os o1 o2 o3 o4 o5 o6 o7 o8 o9 o10 o11 o12 o13 o14 o15 o16 o17 o18 o19 PySem.Challenge.pw_dz0037_02) (fun h tk m cm i j B' ti tj E' Q' x fn mt hB hB' ci cj hi hj hq' => @pair_turn w A E' mg mb s₀ h H env m cm nt nb D tw r ns ds g d tk os i j B' ti tj f x1 x2 x3 x4 x5 x6 x7 x8 x9 x10 x11 x12 x13 x14 x15 x16 x17 x18 y1 y2 y3 y4 y5 z1 z2 z3 z4 z5 z6 z7 z8 z9 z10 z11 z12 z13 z14 z15 z16 z17 z18 z19 z20 z21 u1 u2 u3 u4 u5 u6 u7 u8 u9 u10 u11 u12 u13 u14 u15 u16 u17 u18 u19 u20 u21 u22 u23 u24 u25 Q' X e G N hh hd0 hu x T fn mt hB hB' ci cj hi hj hq') hq
end
end Mine
end

-- part Q26
section
open PySem PySem.W PySem.W.X PySem.Calls PyProof.Rows
set_option maxRecDepth 100000
set_option maxHeartbeats 400000
namespace Mine
section
variable {w : World} {A : Around} {E : Value → Shared → Prop} {mg mb : Str → Option Value} {s₀ h8 H8 : Heap} {env : Env} {m8 cm : Str → Option Value} {nt nb D tw f8 : Addr} {r : Nat → Addr} {nsl ds : List Int} {g : Array GenState} {d : Drawn} {tk8 : Nat} {os : OsState}
noncomputable abbrev tailB : List Stmt := [.For (.Tuple [.Name "i" ⟨122, 8, 122, 9⟩, .Name "j" ⟨122, 11, 122, 12⟩] 0 ⟨122, 8, 122, 12⟩) (.List [.Tuple [.Constant (.int 0) 0 ⟨122, 18, 122, 19⟩, .Constant (.int 0) 0 ⟨122, 21, 122, 22⟩] 0 ⟨122, 17, 122, 23⟩, .Tuple [.Constant (.int 0) 0 ⟨122, 26, 122, 27⟩, .Constant (.int 4) 0 ⟨122, 29, 122, 30⟩] 0 ⟨122, 25, 122, 31⟩, .Tuple [.Constant (.int 1) 0 ⟨122, 34, 122, 35⟩, .Constant (.int 0) 0 ⟨122, 37, 122, 38⟩] 0 ⟨122, 33, 122, 39⟩, .Tuple [.Constant (.int 2) 0 ⟨122, 42, 122, 43⟩, .Constant (.int 1) 0 ⟨122, 45, 122, 46⟩] 0 ⟨122, 41, 122, 47⟩, .Tuple [.Constant (.int 3) 0 ⟨122, 50, 122, 51⟩, .Constant (.int 2) 0 ⟨122, 53, 122, 54⟩] 0 ⟨122, 49, 122, 55⟩, .Tuple [.Constant (.int 4) 0 ⟨122, 58, 122, 59⟩, .Constant (.int 3) 0 ⟨122, 61, 122, 62⟩] 0 ⟨122, 57, 122, 63⟩] ⟨122, 16, 122, 64⟩) [.Assign [.Tuple [.Name "asks" ⟨123, 8, 123, 12⟩, .Name "stand" ⟨123, 14, 123, 19⟩] 0 ⟨123, 8, 123, 19⟩] (.Call (.Name "_law_due" ⟨123, 22, 123, 30⟩) [.Name "tower" ⟨123, 31, 123, 36⟩, .BinOp (.BinOp (.Subscript (.Name "numbers" ⟨123, 38, 123, 45⟩) (.Name "i" ⟨123, 46, 123, 47⟩) ⟨123, 38, 123, 48⟩) .FloorDiv (.Constant (.int 2) 0 ⟨123, 52, 123, 53⟩) ⟨123, 38, 123, 53⟩) .Sub (.BinOp (.Subscript (.Name "numbers" ⟨123, 56, 123, 63⟩) (.Name "j" ⟨123, 64, 123, 65⟩) ⟨123, 56, 123, 66⟩) .FloorDiv (.Constant (.int 2) 0 ⟨123, 70, 123, 71⟩) ⟨123, 56, 123, 71⟩) ⟨123, 38, 123, 71⟩] [] ⟨123, 22, 123, 72⟩) ⟨123, 8, 123, 72⟩, .Assign [.Name "seen" ⟨124, 8, 124, 12⟩] (.Call (.Name "len" ⟨124, 15, 124, 18⟩) [.Name "notes" ⟨124, 19, 124, 24⟩] [] ⟨124, 15, 124, 25⟩) ⟨124, 8, 124, 25⟩, .If (.BoolOp .Or [.Compare (.Call (.Name "top" ⟨125, 11, 125, 14⟩) [.Subscript (.Name "row" ⟨125, 15, 125, 18⟩) (.Name "i" ⟨125, 19, 125, 20⟩) ⟨125, 15, 125, 21⟩, .Subscript (.Name "row" ⟨125, 23, 125, 26⟩) (.Name "j" ⟨125, 27, 125, 28⟩) ⟨125, 23, 125, 29⟩] [] ⟨125, 11, 125, 30⟩) [.NotEq] [.Name "stand" ⟨125, 34, 125, 39⟩] ⟨125, 11, 125, 39⟩, .Compare (.Call (.Name "len" ⟨125, 43, 125, 46⟩) [.Name "notes" ⟨125, 47, 125, 52⟩] [] ⟨125, 43, 125, 53⟩) [.NotEq] [.BinOp (.Name "seen" ⟨125, 57, 125, 61⟩) .Add (.Name "asks" ⟨125, 64, 125, 68⟩) ⟨125, 57, 125, 68⟩] ⟨125, 43, 125, 68⟩] ⟨125, 11, 125, 68⟩) [.Return (some (.Constant (.bool false) 0 ⟨126, 19, 126, 24⟩)) ⟨126, 12, 126, 24⟩] [] ⟨125, 8, 126, 24⟩, .If (.Compare (.ListComp (.Name "a" ⟨127, 12, 127, 13⟩) [⟨.Tuple [.Name "a" ⟨127, 18, 127, 19⟩, .Name "b" ⟨127, 21, 127, 22⟩] 0 ⟨127, 18, 127, 22⟩, .Subscript (.Name "notes" ⟨127, 26, 127, 31⟩) (.Slice (some (.Name "seen" ⟨127, 32, 127, 36⟩)) none none ⟨127, 32, 127, 37⟩) ⟨127, 26, 127, 38⟩, [.BoolOp .Or [.Compare (.Name "a" ⟨127, 42, 127, 43⟩) [.IsNot] [.Subscript (.Name "row" ⟨127, 51, 127, 54⟩) (.Name "i" ⟨127, 55, 127, 56⟩) ⟨127, 51, 127, 57⟩] ⟨127, 42, 127, 57⟩, .Compare (.Name "b" ⟨127, 61, 127, 62⟩) [.IsNot] [.Subscript (.Name "row" ⟨127, 70, 127, 73⟩) (.Name "j" ⟨127, 74, 127, 75⟩) ⟨127, 70, 127, 76⟩] ⟨127, 61, 127, 76⟩] ⟨127, 42, 127, 76⟩], 0⟩] pScope ⟨127, 11, 127, 77⟩) [.NotEq] [.List [] ⟨127, 81, 127, 83⟩] ⟨127, 11, 127, 83⟩) [.Return (some (.Constant (.bool false) 0 ⟨128, 19, 128, 24⟩)) ⟨128, 12, 128, 24⟩] [] ⟨127, 8, 128, 24⟩] [] ⟨122, 4, 128, 24⟩, .Assign [.Name "way" ⟨129, 4, 129, 7⟩] (.IfExp (.Compare (.BinOp (.Call (.Name "len" ⟨129, 16, 129, 19⟩) [.ListComp (.Name "draw" ⟨129, 21, 129, 25⟩) [⟨.Name "draw" ⟨129, 30, 129, 34⟩, .Name "tower" ⟨129, 38, 129, 43⟩, [.Compare (.BinOp (.BinOp (.Name "draw" ⟨129, 47, 129, 51⟩) .FloorDiv (.Constant (.int 18) 0 ⟨129, 55, 129, 57⟩) ⟨129, 47, 129, 57⟩) .Mod (.Constant (.int 2) 0 ⟨129, 60, 129, 61⟩) ⟨129, 47, 129, 61⟩) [.Eq] [.Constant (.int 1) 0 ⟨129, 65, 129, 66⟩] ⟨129, 47, 129, 66⟩], 0⟩] wScope ⟨129, 20, 129, 67⟩] [] ⟨129, 16, 129, 68⟩) .Mod (.Constant (.int 2) 0 ⟨129, 71, 129, 72⟩) ⟨129, 16, 129, 72⟩) [.Eq] [.Constant (.int 1) 0 ⟨129, 76, 129, 77⟩] ⟨129, 16, 129, 77⟩) (.UnaryOp .USub (.Constant (.int 1) 0 ⟨129, 11, 129, 12⟩) ⟨129, 10, 129, 12⟩) (.Constant (.int 1) 0 ⟨129, 83, 129, 84⟩) ⟨129, 10, 129, 84⟩) ⟨129, 4, 129, 84⟩, .Assign [.Name "due" ⟨130, 4, 130, 7⟩] (.List [] ⟨130, 10, 130, 12⟩) ⟨130, 4, 130, 12⟩, .For (.Name "k" ⟨131, 8, 131, 9⟩) (.Call (.Name "range" ⟨131, 13, 131, 18⟩) [.Constant (.int 5) 0 ⟨131, 19, 131, 20⟩] [] ⟨131, 13, 131, 21⟩) [.Assign [.Name "half" ⟨132, 8, 132, 12⟩] (.BinOp (.Name "way" ⟨132, 15, 132, 18⟩) .Mult (.BinOp (.Subscript (.Name "numbers" ⟨132, 22, 132, 29⟩) (.Name "k" ⟨132, 30, 132, 31⟩) ⟨132, 22, 132, 32⟩) .FloorDiv (.Constant (.int 2) 0 ⟨132, 36, 132, 37⟩) ⟨132, 22, 132, 37⟩) ⟨132, 15, 132, 38⟩) ⟨132, 8, 132, 38⟩, .Expr (.Call (.Attribute (.Name "due" ⟨133, 8, 133, 11⟩) "insert" ⟨133, 8, 133, 18⟩) [.Call (.Name "len" ⟨133, 19, 133, 22⟩) [.ListComp (.Name "j" ⟨133, 24, 133, 25⟩) [⟨.Name "j" ⟨133, 30, 133, 31⟩, .Name "due" ⟨133, 35, 133, 38⟩, [.Compare (.BinOp (.Name "way" ⟨133, 42, 133, 45⟩) .Mult (.BinOp (.Subscript (.Name "numbers" ⟨133, 49, 133, 56⟩) (.Name "j" ⟨133, 57, 133, 58⟩) ⟨133, 49, 133, 59⟩) .FloorDiv (.Constant (.int 2) 0 ⟨133, 63, 133, 64⟩) ⟨133, 49, 133, 64⟩) ⟨133, 42, 133, 65⟩) [.LtE] [.Name "half" ⟨133, 69, 133, 73⟩] ⟨133, 42, 133, 73⟩], 0⟩] dScope ⟨133, 23, 133, 74⟩] [] ⟨133, 19, 133, 75⟩, .Name "k" ⟨133, 77, 133, 78⟩] [] ⟨133, 8, 133, 79⟩) ⟨133, 8, 133, 79⟩] [] ⟨131, 4, 133, 79⟩, .Assign [.Name "told" ⟨134, 4, 134, 8⟩] (.Call (.Name "sorted" ⟨134, 11, 134, 17⟩) [.Name "row" ⟨134, 18, 134, 21⟩] [⟨some "key", .Call (.Name "cmp_to_key" ⟨134, 27, 134, 37⟩) [.Name "top" ⟨134, 38, 134, 41⟩] [] ⟨134, 27, 134, 42⟩, ⟨134, 23, 134, 42⟩⟩] ⟨134, 11, 134, 43⟩) ⟨134, 4, 134, 43⟩, .Return (some (.Compare (.ListComp (.Name "k" ⟨135, 12, 135, 13⟩) [⟨.Name "k" ⟨135, 18, 135, 19⟩, .Call (.Name "range" ⟨135, 23, 135, 28⟩) [.Constant (.int 5) 0 ⟨135, 29, 135, 30⟩] [] ⟨135, 23, 135, 31⟩, [.Compare (.Subscript (.Name "told" ⟨135, 35, 135, 39⟩) (.Name "k" ⟨135, 40, 135, 41⟩) ⟨135, 35, 135, 42⟩) [.IsNot] [.Subscript (.Name "row" ⟨135, 50, 135, 53⟩) (.Subscript (.Name "due" ⟨135, 54, 135, 57⟩) (.Name "k" ⟨135, 58, 135, 59⟩) ⟨135, 54, 135, 60⟩) ⟨135, 50, 135, 61⟩] ⟨135, 35, 135, 61⟩], 0⟩] eScope ⟨135, 11, 135, 62⟩) [.Eq] [.List [] ⟨135, 66, 135, 68⟩] ⟨135, 11, 135, 68⟩)) ⟨135, 4, 135, 68⟩]
theorem tail_walk {Q : Flow → Shared → Prop} (X : (hd.heap_39 w.params).In s₀) (e : LE s₀ env) (G : GK s₀ mg mb) (N : BN mg mb) (dh : A.handled = none) (dd : A.depth ≤ 770) (du' : A.units ≤ 3880) (ts8 : TS w mg mb s₀ h8 H8 env m8 cm nt nb D tw r nsl ds) (T8 : TopX w H8 nt f8 r nsl ds) (fn8 : FnIn h8 f8) (mt8 : m8 "top" = some (.ref f8)) (hnt8 : NotesAt h8 nt [])
    (hq : ∀ h' tk', (∀ b o, s₀.get? b = some o → b ≠ 100 → b ≠ 114 → b ≠ 128 → h'.get? b = some o) → (∀ P ∈ ([114, 100, 128] : List Addr), ∃ ps, h'.get? P = some (tabObj ps)) → Q (.ret (.bool true)) ⟨h', g, d, tk', os⟩) :
    wpAny (model PySem.Challenge.pw_dz0037_02 w) A (execs tailB env) Q E ⟨h8, g, d, tk8, os⟩ := by
  refine wpAny_execs_cons ?_
  refine @st_six w A _ mg mb s₀ h8 H8 env m8 cm nt nb D tw r nsl ds g d tk8 os f8 ⟨122, 18, 122, 19⟩ ⟨122, 21, 122, 22⟩ ⟨122, 17, 122, 23⟩ ⟨122, 26, 122, 27⟩ ⟨122, 29, 122, 30⟩ ⟨122, 25, 122, 31⟩ ⟨122, 34, 122, 35⟩ ⟨122, 37, 122, 38⟩ ⟨122, 33, 122, 39⟩ ⟨122, 42, 122, 43⟩ ⟨122, 45, 122, 46⟩ ⟨122, 41, 122, 47⟩ ⟨122, 50, 122, 51⟩ ⟨122, 53, 122, 54⟩ ⟨122, 49, 122, 55⟩ ⟨122, 58, 122, 59⟩ ⟨122, 61, 122, 62⟩ ⟨122, 57, 122, 63⟩ ⟨122, 16, 122, 64⟩ ⟨122, 8, 122, 9⟩ ⟨122, 11, 122, 12⟩ ⟨122, 8, 122, 12⟩ ⟨122, 4, 128, 24⟩ ⟨123, 8, 123, 12⟩ ⟨123, 14, 123, 19⟩ ⟨123, 8, 123, 19⟩ ⟨123, 22, 123, 30⟩ ⟨123, 31, 123, 36⟩ ⟨123, 38, 123, 45⟩ ⟨123, 46, 123, 47⟩ ⟨123, 38, 123, 48⟩ ⟨123, 52, 123, 53⟩ ⟨123, 38, 123, 53⟩ ⟨123, 56, 123, 63⟩ ⟨123, 64, 123, 65⟩ ⟨123, 56, 123, 66⟩ ⟨123, 70, 123, 71⟩ ⟨123, 56, 123, 71⟩ ⟨123, 38, 123, 71⟩ ⟨123, 22, 123, 72⟩ ⟨123, 8, 123, 72⟩ ⟨124, 8, 124, 12⟩ ⟨124, 15, 124, 18⟩ ⟨124, 19, 124, 24⟩ ⟨124, 15, 124, 25⟩ ⟨124, 8, 124, 25⟩ ⟨125, 11, 125, 14⟩ ⟨125, 15, 125, 18⟩ ⟨125, 19, 125, 20⟩ ⟨125, 15, 125, 21⟩ ⟨125, 23, 125, 26⟩ ⟨125, 27, 125, 28⟩ ⟨125, 23, 125, 29⟩ ⟨125, 11, 125, 30⟩ ⟨125, 34, 125, 39⟩ ⟨125, 11, 125, 39⟩ ⟨125, 43, 125, 46⟩ ⟨125, 47, 125, 52⟩ ⟨125, 43, 125, 53⟩ ⟨125, 57, 125, 61⟩ ⟨125, 64, 125, 68⟩ ⟨125, 57, 125, 68⟩ ⟨125, 43, 125, 68⟩ ⟨125, 11, 125, 68⟩ ⟨126, 19, 126, 24⟩ ⟨126, 12, 126, 24⟩ ⟨125, 8, 126, 24⟩ ⟨127, 12, 127, 13⟩ ⟨127, 18, 127, 19⟩ ⟨127, 21, 127, 22⟩ ⟨127, 18, 127, 22⟩ ⟨127, 26, 127, 31⟩ ⟨127, 32, 127, 36⟩ ⟨127, 32, 127, 37⟩ ⟨127, 26, 127, 38⟩ ⟨127, 42, 127, 43⟩ ⟨127, 51, 127, 54⟩ ⟨127, 55, 127, 56⟩ ⟨127, 51, 127, 57⟩ ⟨127, 42, 127, 57⟩ ⟨127, 61, 127, 62⟩ ⟨127, 70, 127, 73⟩ ⟨127, 74, 127, 75⟩ ⟨127, 70, 127, 76⟩ ⟨127, 61, 127, 76⟩ ⟨127, 42, 127, 76⟩ ⟨127, 11, 127, 77⟩ ⟨127, 81, 127, 83⟩ ⟨127, 11, 127, 83⟩ ⟨128, 19, 128, 24⟩ ⟨128, 12, 128, 24⟩ ⟨127, 8, 128, 24⟩ _ X e G N dh dd du' ts8 T8 fn8 mt8 hnt8 ?_
  intro h9 tk9 m9 cm9 ts9 mt9 fn9 nn9
  have z9 : LZ w mg mb s₀ h9 H8 env m9 cm9 nt nb D tw r nsl ds f8 := ⟨ts9, mt9, fn9, nn9⟩
  refine wpAny_execs_cons ?_
  refine st_way (r6 := ⟨0, 0, 0, 0⟩) e G N dh ts9 ?_
  intro h10 tk10 tw10 ts10 ex10
  have z10 := z9.move e ts10.st.fm ex10 rfl rfl rfl rfl rfl
  refine wpAny_execs_cons ?_
  refine st_due0 e z10 ?_
  intro du h11 tk11 z11 hdu11 fr11 _ _
  refine wpAny_execs_cons ?_
  refine st_dues rfl e G N dh z11 rfl rfl hdu11 fr11 ?_
  intro h12 tk12 m12 cm12 z12 cd12 hdu12
  refine wpAny_execs_cons ?_
  refine st_told X e G N dd du' z12 T8 cd12 hdu12 fr11.hn ?_
  intro R h13 tk13 cm13 x13
  refine wpAny_execs_cons ?_
  refine st_ret e N dh du' x13 (dueL_len _ _) (fun j hj => dueL_lt _ _ _ hj) ?_
  intro h14 tk14 k14
  exact hq h14 tk14 (fun b o eb n1 n2 n3 => k14 _ _ (x13.base2 b o eb n1 n2 n3)) fun P hP => (by obtain ⟨ps, q⟩ := x13.tabs P hP; exact ⟨ps, k14 _ _ q⟩)
end
end Mine
end

-- part Q27
section
open PySem PySem.W PySem.W.X PySem.Calls PyProof.Rows
set_option maxRecDepth 100000
set_option maxHeartbeats 1000000
namespace Mine
section
variable {w : World} {A : Around} {E : Value → Shared → Prop} {s : Shared} {mg mb : Str → Option Value}
theorem law_call {sl : Addr} {items : Array Value} {Q : Value → Shared → Prop} (X : (hd.heap_39 w.params).In s.heap) (G : GK s.heap mg mb) (N : BN mg mb) (hT : ∀ P ∈ ([114, 100, 128] : List Addr), s.heap.get? P = some (tabObj #[])) (hh : A.handled = none) (hd0 : A.depth ≤ 760) (hu : A.units ≤ 3870)
    (hl : s.heap.IsList sl items) (ha : AllInts items) (hz : items.size ≤ 100)
    (hq : ∀ h' tk', (∀ b o, s.heap.get? b = some o → b ≠ 100 → b ≠ 114 → b ≠ 128 → h'.get? b = some o) → (∀ P ∈ ([114, 100, 128] : List Addr), ∃ ps, h'.get? P = some (tabObj ps)) → Q (.bool true) { s with heap := h', toks := tk' }) :
    wpAny (model PySem.Challenge.pw_dz0037_02 w) A (call (.ref 131) [.ref sl]) Q E s := by
  have e131 := X 131 _ rfl
  refine wpAny_call (codeAny_call_cells (binds := [("script", .ref sl)]) (by have : recursionLimit = 1000 := rfl; omega) e131 rfl G.lim (codeRec_of X (by rfl)) rfl rfl rfl (fun x hx => ?_) fun s₁ x => ?_)
  · rw [List.mem_singleton] at hx
    subst hx
    exact .inr ⟨by rfl, by rfl⟩
  generalize hE : callEnvC _ s.heap.objs.size 131 = env at x ⊢
  have hcm : bindC env.kindOf [("script", .ref sl)] (fun _ => none) = fun y => if y = ("script" : Str) then some (.ref sl) else none := by subst hE; rfl
  have eL : env.locals = s.heap.objs.size := by subst hE; rfl
  have hnm : ∀ x ∈ env.cells, env.cells.lookup x.1 = some x.2 := by
    subst hE
    intro y hy
    rcases hy with _ | ⟨_, _ | ⟨_, _ | ⟨_, _ | ⟨_, _ | ⟨_, _ | ⟨_, _ | ⟨_, _ | ⟨_, _ | ⟨_, _ | ⟨_, hy⟩⟩⟩⟩⟩⟩⟩⟩⟩⟩ <;> first | rfl | cases hy
  have hle0 : env.scope.kind = .function ∧ (∀ n ∈ (["k", "tower", "top", "draw", "asks", "stand", "seen"] : List Str), env.kindOf n = some .local) ∧
      (∀ n ∈ (["script", "row", "i", "j", "way", "due", "half", "told", "notes", "numbers"] : List Str), env.kindOf n = some .cell ∧ ∃ c, env.cells.lookup n = some c) ∧
      (∀ n ∈ (["range", "sum", "_law_layer", "_law_due", "len", "sorted", "cmp_to_key"] : List Str), env.kindOf n = some .globalImplicit) ∧ env.globals = mainGlobals ∧ env.builtins = builtinsNs ∧ env.code = .ref 130 ∧ env.qual ++ "<lambda>" = tQ := by
    subst hE
    refine ⟨rfl, fun n hn => ?_, fun n hn => ?_, fun n hn => ?_, rfl, rfl, rfl, rfl⟩
    · simp only [List.mem_cons, List.not_mem_nil, or_false] at hn
      rcases hn with rfl | rfl | rfl | rfl | rfl | rfl | rfl <;> rfl
    · simp only [List.mem_cons, List.not_mem_nil, or_false] at hn
      rcases hn with rfl | rfl | rfl | rfl | rfl | rfl | rfl | rfl | rfl | rfl <;> exact ⟨rfl, _, rfl⟩
    · simp only [List.mem_cons, List.not_mem_nil, or_false] at hn
      rcases hn with rfl | rfl | rfl | rfl | rfl | rfl | rfl <;> rfl
  obtain ⟨hk, hloc, hcel, hglo, heg, heb, hec, heq⟩ := hle0
  rw [hcm] at x
  clear hE hcm
  have F := Fm.of x hnm
  obtain ⟨⟨⟨h1, tk1, rfl⟩, ns, keep, fresh⟩, cell, apart, above⟩ := x
  dsimp only at keep
  have h131 : 131 < s.heap.objs.size := Heap.lt_size e131
  have e : LE s.heap env := by
    refine ⟨hk, hloc, hcel, hglo, heg, heb, hec, heq, fun w hw => ?_, eL⟩
    have hle : s.heap.objs.size ≤ w := by
      rcases List.mem_cons.mp hw with rfl | hw
      · rw [eL]; exact Nat.le_refl _
      · obtain ⟨x, hx, rfl⟩ := List.mem_map.mp hw
        have := above x.1 x.2 hx
        rw [eL] at this
        exact Nat.le_of_lt this
    exact ⟨Nat.le_trans h131 hle, Heap.get?_none_of_le hle⟩
  have tg : ∀ {P : Addr} {S : List (Pos × Str)}, P ∈ ([114, 100, 128] : List Addr) → TabGood h1 P S := fun hP => ⟨#[], keep _ _ (hT _ hP), trivial, fun _ _ _ q => by cases q⟩
  have x0 : LSt s.heap h1 env _ _ := ⟨F, fun b o eb _ => keep b o eb, ⟨codeHd_of_K (c := 104) (P := 100) (fun a o ea => keep _ _ (X a o ea)) (by kernel_rfl), #[], keep _ _ (hT _ (by simp)), trivial, fun _ q => by cases q⟩, tg (by simp), tg (by simp), fun b o eb _ _ _ => keep b o eb⟩
  have hroom : recursionLimit = 1000 := rfl
  have dd : (A.deeper env).depth ≤ 770 := by show A.depth + 1 ≤ _; omega
  have du' : (A.deeper env).units ≤ 3880 := by show A.units + 3 ≤ _; omega
  have dh : (A.deeper env).handled = none := hh
  have sz : ∀ {n : Nat}, n ≤ 100 → n ≤ sizeLine := fun h => by rw [sizeLine_eq]; omega
  generalize A.deeper env = B at dd du' dh ⊢
  -- script, numbers, tower, row, notes, top
  refine wpAny_execs_cons ?_
  refine st_script e x0 rfl (hl.at fun o eo => keep _ _ eo) (sz hz) ?_
  intro D1 h2 tk2 x2 hl2
  have hz2 : (slicePick items none (some 20) none).size ≤ 100 := Nat.le_trans (slicePick_size_le _ _ _ _) hz
  have ha2 := ai_pick ha none (some 20) none
  refine wpAny_execs_cons ?_
  refine st_numbers e G N dh x2 rfl hl2 ha2 (sz hz2) (by decide) ?_
  intro nb h3 tk3 nsl x3 hnb hn5 hl3
  refine wpAny_execs_cons ?_
  refine st_tower e G N dh x3 rfl hl3 ha2 (sz hz2) (by decide) rfl ?_
  intro tw h4 tk4 ds x4 htw hd1 hd3 ex4
  have hnb4 := hnb.ex x3.fm.wok ex4
  refine wpAny_execs_cons ?_
  refine st_row e G N dh x4 ?_
  intro D h5 tk5 r x5 hrow ex5
  have hnb5 := hnb4.ex x4.fm.wok ex5
  have htw5 := htw.ex x4.fm.wok ex5
  refine wpAny_execs_cons ?_
  refine st_notes e x5 ?_
  intro nt h6 tk6 x6 hnt hnt5 ex6
  have hnb6 := hnb5.ex x5.fm.wok ex6
  have htw6 := htw5.ex x5.fm.wok ex6
  have hrow6 := hrow.ex x5.fm.wok ex6
  have ltL : ∀ {a : Addr} {its : Array Value}, h5.IsList a its → a ≠ nt := fun ⟨_, eo, _⟩ => Nat.ne_of_lt (Nat.lt_of_lt_of_le (Heap.lt_size eo) hnt5)
  have nbt : nb ≠ nt := (by obtain ⟨_, q, _⟩ := hnb5; exact ltL q)
  have twt : tw ≠ nt := (by obtain ⟨_, q, _⟩ := htw5; exact ltL q)
  have Dt : D ≠ nt := (by obtain ⟨_, q, _⟩ := hrow; exact ltL q)
  have rt : ∀ k, k < 5 → r k ≠ nt := fun k hk => by obtain ⟨_, _, _, q⟩ := hrow; obtain ⟨_, t, q⟩ := q k hk; exact ltL q
  have hlow : s.heap.objs.size < nt := Nat.lt_of_lt_of_le (by rw [← eL]; exact x5.fm.ns.lt) hnt5
  refine wpAny_execs_cons ?_
  refine st_top X e G x6 rfl rfl ?_
  intro f h7 tk7 x7 fn7 base7 _ k7
  have l7 : ∀ {a : Addr} {its : Array Value}, h6.IsList a its → h7.IsList a its := fun ⟨o, eo, c, n, q⟩ => ⟨o, k7 _ _ eo (x6.fm.wok.off eo (by intro _ _ q'; rw [q] at q'; cases q') (by intro _ q'; rw [q] at q'; cases q')) (fun z => by have := z.cls; rw [c] at this; cases this), c, n, q⟩
  have hnt7 : NotesAt h7 nt [] := (by obtain ⟨n, en⟩ := hnt; exact ⟨n, k7 _ _ en (x6.fm.wok.off en (by intro _ _ q'; cases q') (by intro _ q'; cases q')) (fun z => by cases z.cls)⟩)
  have hnb7 : IntList h7 nb nsl := (by obtain ⟨ts, a, b⟩ := hnb6; exact ⟨ts, l7 a, b⟩)
  have htw7 : IntList h7 tw ds := (by obtain ⟨ts, a, b⟩ := htw6; exact ⟨ts, l7 a, b⟩)
  have hrow7 : RowAt h7 D r := (by obtain ⟨ys, a, b, c⟩ := hrow6; exact ⟨ys, l7 a, b, fun k hk => (by obtain ⟨c1, t, c2⟩ := c k hk; exact ⟨c1, t, l7 c2⟩)⟩)
  obtain ⟨ts7, top7⟩ := ground X e G N x7 hrow7 hnb7 htw7 hnt7 hlow nbt Dt twt rt hn5 hd1 hd3 rfl rfl rfl rfl base7
  -- the tower
  refine wpAny_execs_cons ?_
  refine st_loop e G X dh dd du' ts7 rfl fn7 top7 hnt7 ?_
  intro h8 tk8 H8 m8 f8 ts8 mt8 fn8 T8 hnt8
  exact @tail_walk w B _ mg mb s.heap h8 H8 env m8 _ nt nb D tw f8 r nsl ds _ _ tk8 _ _ X e G N dh dd du' ts8 T8 fn8 mt8 hnt8 hq
end
end Mine
end

-- part Q28
section
open PySem PySem.W PyProof.Rows
set_option maxRecDepth 100000
set_option maxHeartbeats 4000000
namespace Mine
theorem gk_of {p : Program} {loose : List Str} {mean : ExcName → Option Value} {w : World} {mg mb : Str → Option Value} {h : Heap} (KX : (hd.heap_39 w.params).In h) (T : Top p loose mean mg mb h) : GK h mg mb ∧ BN mg mb := by
  have no : ∀ {n : Str}, nsIn (hd.heap_39 w.params) mainGlobals n = some none → mg n = none := fun e => mg_none_of KX T.g e
  have bi : ∀ {n : Str} {v : Value}, n ≠ "__name__" → bootBuiltins n = some v → mb n = some v := fun h1 h2 => (T.builtins _ h1).trans h2
  refine ⟨⟨T.g, T.b, T.nolimit, no (by rfl), bi (by decide) (by first | rfl | kernel_rfl), bi (by decide) (by first | rfl | kernel_rfl), ?_, ⟨_, _, mg_of KX T.g (by rfl)⟩⟩, ⟨fun n hn => ?_, ⟨no (by rfl), bi (by decide) (by first | rfl | kernel_rfl)⟩, ⟨no (by rfl), bi (by decide) (by first | rfl | kernel_rfl)⟩, ⟨no (by rfl), bi (by decide) (by first | rfl | kernel_rfl)⟩⟩⟩
  · obtain ⟨bm, ob, a1, a2, a3, a4, a5, a6⟩ := T.bmain
    refine ⟨bm, ob, a1, a2, fun q => ?_, a3, a4, a5, a6⟩
    obtain ⟨o, es, ep, e, d, _⟩ := T.g
    rw [q, e] at a3; cases a3; rw [d] at a6; cases a6
  · simp only [List.mem_cons, List.not_mem_nil, or_false] at hn
    rcases hn with rfl | rfl | rfl | rfl <;> exact ⟨no (by rfl), bi (by decide) (by first | rfl | kernel_rfl)⟩
theorem oldK_of {h h' : Heap} {w : World} (KX : (hd.heap_39 w.params).In h) (hT : ∀ P ∈ ([114, 100, 128] : List Addr), h.get? P = some (tabObj #[])) (k : ∀ b o, h.get? b = some o → b ≠ 100 → b ≠ 114 → b ≠ 128 → h'.get? b = some o) (t : ∀ P ∈ ([114, 100, 128] : List Addr), ∃ ps, h'.get? P = some (tabObj ps)) : OldK h h' := by
  have tab : ∀ c P, CodeHd h c P → P ∈ ([114, 100, 128] : List Addr) → ∀ o, h.get? P = some o → asItWas h h' P o := fun c P C hP o eo => by
    rw [hT P hP] at eo; cases eo
    obtain ⟨ps, e⟩ := t P hP
    obtain ⟨oc, vs, _, _, _, _, _, _, _, b1, b2, b3, b4, _⟩ := C
    exact .inr (.inl ⟨⟨c, oc, vs, b1, b2, b3, b4⟩, rfl, #[], ps, rfl, by rw [Array.empty_append]; exact e⟩)
  refine ⟨fun b o eb => ?_, fun b o eb => ?_⟩
  · by_cases h1 : b = 100
    · subst h1; exact tab 104 100 (codeHd_of_K KX (by kernel_rfl)) (by simp) o eb
    by_cases h2 : b = 114
    · subst h2; exact tab 118 114 (codeHd_of_K KX (by kernel_rfl)) (by simp) o eb
    by_cases h3 : b = 128
    · subst h3; exact tab 130 128 (codeHd_of_K KX (by kernel_rfl)) (by simp) o eb
    exact .inl (k b o eb h1 h2 h3)
  · by_cases h1 : b = 100
    · subst h1; obtain ⟨ps, e⟩ := t 100 (by simp); exact ⟨_, e⟩
    by_cases h2 : b = 114
    · subst h2; obtain ⟨ps, e⟩ := t 114 (by simp); exact ⟨_, e⟩
    by_cases h3 : b = 128
    · subst h3; obtain ⟨ps, e⟩ := t 128 (by simp); exact ⟨_, e⟩
    exact ⟨o, k b o eb h1 h2 h3⟩
end Mine
namespace Mine
theorem law02_holds : PySem.Challenge.rw_dz0037_02.Holds := by
  refine Mine.hd ?_
  k_fill
  intro w s₀ s₁ mg mb G Y fa o pm cd doc dV kV ho hd hcd hD hmg hg args vals as hpre hlay hrd hwl hlo
  have KX := km_in_of Y
  have hT8 := km_tabs_of Y
  have T := Ground.T G
  have hfa : fa = 131 := by
    have h1 : mg (Str.ofString "law") = some (.ref 131) := mg_of KX T.g (by rfl)
    have h2 : mg (Str.ofString "law") = some (.ref fa) := hmg
    rw [h1] at h2
    exact (Value.ref.inj (Option.some.inj h2)).symm
  clear ho hd hcd hD hmg
  subst hfa
  obtain ⟨gk, bn⟩ := gk_of KX T
  clear Y
  wrow_args hpre hlay hrd hwl hlo
  rename_i iz _ _ _ _ _ _ _ sl items _ hL _ _ _ hI _ hlen _
  show wpAny (model PySem.Challenge.pw_dz0037_02 w) callerA (call (.ref 131) [.ref sl]) _ _ s₁
  refine law_call KX gk bn hT8 rfl (by decide) (by decide) hL hI.allInts (by rw [List.size_toArray, hI.length]; omega) fun h' tk' k t => ?_
  refine ⟨.inl ⟨_, .bool true, [], rfl, ?_, ?_, ?_, ?_⟩, oldK_of KX hT8 k t, rfl, AllBare.of_eq hg⟩
  · exact fun _ => rfl
  · first | exact .bool _ | constructor
  · first | rfl | wrow_post
  · exact fun _ => ⟨List.nodup_nil, fun _ h => nomatch h⟩
end Mine
end

set_option maxRecDepth 100000 in
set_option maxHeartbeats 4000000 in
theorem PySem.Challenge.cw_dz0037_02_holds : PySem.Challenge.rw_dz0037_02.Holds := by
  exact Mine.law02_holds
