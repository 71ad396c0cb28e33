import PyProof.Rows.All
import Wide.All
import OpenK.AllK
import Wide.FinOn
import KE.KFromBytes
import Lean
import PySem.Challenge.RW_dz0037_01
set_option Elab.async false
set_option linter.all false
set_option genInjectivity false
set_option genSizeOf false
-- part M1
section
open PySem PySem.W PySem.Calls PyProof.Rows
set_option maxRecDepth 100000
namespace Mine

/-- the whole heap as a fragment: so that the library's rules over a fragment serve at any heap -/
noncomputable def whole (h : Heap) : Frag := (List.range h.objs.size).filterMap fun a => (h.get? a).map fun o => (a, o)

theorem lookup_fm (h : Heap) (a : Addr) : ∀ l : List Nat, (l.filterMap fun b => (h.get? b).map fun o => (b, o)).lookup a = if a ∈ l then h.get? a else none
  | [] => rfl
  | b :: l => by
    rw [List.filterMap_cons]
    cases hb : h.get? b with
    | none =>
      simp only [Option.map_none]
      rw [lookup_fm h a l]
      by_cases e : a = b
      · subst e
        simp [hb]
      · simp [e]
    | some o =>
      simp only [Option.map_some, List.lookup_cons]
      by_cases e : a = b
      · subst e
        simp [hb]
      · have : (a == b) = false := by simp [e]
        rw [this]
        simp only [lookup_fm h a l, List.mem_cons, e, false_or]

theorem whole_lookup (h : Heap) (a : Addr) : (whole h).lookup a = h.get? a := by
  unfold whole
  rw [lookup_fm]
  by_cases q : a ∈ List.range h.objs.size
  · rw [if_pos q]
  · rw [if_neg q]
    cases e : h.get? a with
    | none => rfl
    | some o => exact absurd (List.mem_range.mpr (Heap.lt_size e)) q

theorem whole_in (h : Heap) : (whole h).In h := fun a o e => by rw [whole_lookup] at e; exact e

end Mine
end

-- part M2
section
open PySem PySem.W PySem.Calls PyProof.Rows
set_option maxRecDepth 100000
namespace Mine

/-- a key's class, as an object -/
noncomputable abbrev kObj (C N : Addr) (q : Str) (k0 k1 k2 k3 k5 : Option Value) : Obj :=
  excClassObj "K" q C N [.type "object"] [.type "object"] false ["obj"] [] false none none k0 k1 k2 k3 k5 "object.__new__"

/-- its namespace's entries -/
noncomputable abbrev kEs (e : Nat → Int) (t : Nat → Tok) (mo fl : Value) (sl fi flt fgt feq fle fge sa md : Addr) : List DictEntry :=
  [⟨e 0, .str "__module__" (t 0), mo⟩, ⟨e 1, .str "__firstlineno__" (t 1), fl⟩, ⟨e 2, .str "__slots__" (t 2), .ref sl⟩, ⟨e 3, .str "__init__" (t 3), .ref fi⟩,
   ⟨e 4, .str "__lt__" (t 4), .ref flt⟩, ⟨e 5, .str "__gt__" (t 5), .ref fgt⟩, ⟨e 6, .str "__eq__" (t 6), .ref feq⟩, ⟨e 7, .str "__le__" (t 7), .ref fle⟩, ⟨e 8, .str "__ge__" (t 8), .ref fge⟩,
   ⟨e 9, .str "__hash__" (t 9), .none⟩, ⟨e 10, .str "__static_attributes__" (t 10), .ref sa⟩, ⟨e 11, .str "obj" (t 11), .ref md⟩, ⟨e 12, .str "__doc__" (t 12), .none⟩]
noncomputable abbrev kNs (e : Nat → Int) (t : Nat → Tok) (mo fl : Value) (sl fi flt fgt feq fle fge sa md : Addr) (ep : Nat) : Obj :=
  ⟨.type "dict", none, .dict (kEs e t mo fl sl fi flt fgt feq fle fge sa md).toArray ep, #[]⟩
noncomputable abbrev kMd (tn : Tok) (C : Addr) : Obj := ⟨.type "member_descriptor", none, .fields #[.str "obj" tn, .ref C, .builtin "proto.slot", .builtin "proto.slot#set", rawInt 0], #[]⟩

/-- what is known of the class: addresses -/
structure KA where
  C : Addr
  N : Addr
  md : Addr
  sl : Addr
  sa : Addr
  fi : Addr
  fn : CmpOp → Addr
structure KAt (h : Heap) (a : KA) : Prop where
  cls : ∃ q k0 k1 k2 k3 k5, h.get? a.C = some (kObj a.C a.N q k0 k1 k2 k3 k5)
  ns : ∃ e t mo fl ep, h.get? a.N = some (kNs e t mo fl a.sl a.fi (a.fn .Lt) (a.fn .Gt) (a.fn .Eq) (a.fn .LtE) (a.fn .GtE) a.sa a.md ep)
  md : ∃ tn, h.get? a.md = some (kMd tn a.C)
  fi : ∃ od fd sl, h.get? a.fi = some ⟨.type "function", od, .func fd, sl⟩
  fn : ∀ op ∈ [CmpOp.Lt, .Gt, .Eq, .LtE, .GtE], ∃ od fd sl, h.get? (a.fn op) = some ⟨.type "function", od, .func fd, sl⟩
  st : ∃ oc od ep sl, h.get? cStatics = some ⟨oc, od, .dict #[] ep, sl⟩

theorem KAt.keeps {h h' : Heap} {a : KA} (x : KAt h a) (k : ∀ b o, h.get? b = some o → h'.get? b = some o) : KAt h' a :=
  by
  obtain ⟨⟨q, k0, k1, k2, k3, k5, e1⟩, ⟨e, t, mo, fl, ep, e2⟩, ⟨tn, e3⟩, ⟨od, fd, sl, e4⟩, e5, ⟨oc, od', ep', sl', e6⟩⟩ := x
  refine ⟨⟨q, k0, k1, k2, k3, k5, k _ _ e1⟩, ⟨e, t, mo, fl, ep, k _ _ e2⟩, ⟨tn, k _ _ e3⟩, ⟨od, fd, sl, k _ _ e4⟩, fun op ho => ?_, ⟨oc, od', ep', sl', k _ _ e6⟩⟩
  obtain ⟨od, fd, sl, q⟩ := e5 op ho
  exact ⟨od, fd, sl, k _ _ q⟩

/-- a key made -/
noncomputable def InstK (h : Heap) (a : KA) (x : Addr) (v : Value) : Prop := ∃ dx, h.get? x = some ⟨.ref a.C, some dx, .plain, #[some v]⟩ ∧ h.get? dx = some ⟨.type "dict", none, .dict #[], #[]⟩
theorem InstK.keeps {h h' : Heap} {a : KA} {x : Addr} {v : Value} (i : InstK h a x v) (k : ∀ b o, h.get? b = some o → h'.get? b = some o) : InstK h' a x v :=
  by
  obtain ⟨dx, p, q⟩ := i
  exact ⟨dx, k _ _ p, k _ _ q⟩

section
variable {prog : Program} {w : World} {A : Around} {E : Value → Shared → Prop} {s : Shared} {h : Heap} {a : KA} {x y : Addr} {v : Value}

/-- a name looked up along the class -/
theorem KAt.find (k : KAt h a) (name : Str) {r : Option Value}
    (e : ∀ e t mo fl, (match (kEs e t mo fl a.sl a.fi (a.fn .Lt) (a.fn .Gt) (a.fn .Eq) (a.fn .LtE) (a.fn .GtE) a.sa a.md).find? (·.key.isStr name) with | some e => some e.val | none => fastBuiltinOwn "object" name) = r) :
    findIn (whole h) (.ref a.C) name = some r := by
  obtain ⟨q, k0, k1, k2, k3, k5, hC⟩ := k.cls
  obtain ⟨ee, t, mo, fl, ep, hN⟩ := k.ns
  have e := e ee t mo fl
  unfold findIn
  simp only [whole_lookup, hC, alongIn, ownIn, nsIn, hN]
  revert e
  generalize (kEs ee t mo fl a.sl a.fi (a.fn .Lt) (a.fn .Gt) (a.fn .Eq) (a.fn .LtE) (a.fn .GtE) a.sa a.md).find? (·.key.isStr name) = z
  intro e
  cases z with
  | some en => simp only at e ⊢; rw [e]
  | none =>
    simp only [List.any_cons, List.any_nil, DictEntry.refKey, Bool.or_false, Bool.false_eq_true, if_false] at e ⊢
    cases hb : fastBuiltinOwn "object" name with
    | none => rw [hb] at e; rw [← e]
    | some v => rw [hb] at e; rw [← e]

theorem KAt.getattribute (k : KAt h a) : findIn (whole h) (.ref a.C) "__getattribute__" = some (some (.builtin "object.__getattribute__")) := k.find _ fun _ _ _ _ => by rfl
theorem KAt.getattr (k : KAt h a) : findIn (whole h) (.ref a.C) "__getattr__" = some none := k.find _ fun _ _ _ _ => by rfl
theorem KAt.obj (k : KAt h a) : findIn (whole h) (.ref a.C) "obj" = some (some (.ref a.md)) := k.find _ fun _ _ _ _ => by rfl
theorem KAt.clsIs (k : KAt h a) : ∃ cd, clsIn (whole h) a.C = some cd ∧ cd.hasDict = false ∧ cd.slotNames = (["obj"] : List Str) ∧ cd.mro = [.ref a.C, .type "object"] := by
  obtain ⟨q, k0, k1, k2, k3, k5, hC⟩ := k.cls
  exact ⟨_, by unfold clsIn; rw [whole_lookup, hC], rfl, rfl, rfl⟩
theorem InstK.at (i : InstK h a x v) : ∃ ox od, InstAt h x ox a.C od ∧ ox.slots = #[some v] := by
  obtain ⟨dx, p, q⟩ := i
  exact ⟨_, some _, ⟨p, rfl, rfl, q⟩, rfl⟩

theorem KAt.findObj (k : KAt h a) (od : Option Obj) : W.findObj (whole h) a.C od "obj" = some (.bind (.builtin "member_descriptor.__get__") (.ref a.md)) := by
  obtain ⟨cd, hcd, _⟩ := k.clsIs
  obtain ⟨tn, hm⟩ := k.md
  unfold W.findObj
  rw [hcd, k.obj]
  simp only [Option.bind_some]
  have h1 : ∀ n, specialIn (whole h) (.ref a.md) n = fastLookup "member_descriptor" n := fun n => by
    unfold specialIn typeIn
    simp only [whole_lookup, hm, Option.map_some, Option.bind_some]
    rfl
  rw [h1, show fastLookup "member_descriptor" "__get__" = some (some (.builtin "member_descriptor.__get__")) from by kernel_rfl]
  simp only [Option.bind_some]
  unfold takesIn
  rw [h1, show fastLookup "member_descriptor" "__set__" = some (some (.builtin "member_descriptor.__set__")) from by kernel_rfl]
  rfl
theorem KAt.slotIn (k : KAt h a) : W.slotIn (whole h) a.md a.C = some 0 := by
  obtain ⟨cd, hcd, _, h2, h3⟩ := k.clsIs
  obtain ⟨tn, hm⟩ := k.md
  have hr : recIn (whole h) a.md "member_descriptor" = some [.str "obj" tn, .ref a.C, .builtin "proto.slot", .builtin "proto.slot#set", rawInt 0] := by
    unfold recIn
    rw [whole_lookup, hm]
    rfl
  unfold W.slotIn
  rw [hcd, hr]
  show (if _ then some (cd.slotNames.length - 1 - 0) else none) = _
  rw [h2, h3, if_pos (by simp)]
  rfl

/-- x.obj -/
theorem obj_get {ex : Bool} {Q : Value → Shared → Prop} (k : KAt s.heap a) (i : InstK s.heap a x v) (hh : handedIn v = true) (hq : Q v { s with toks := s.toks + 1 }) :
    wpAny (model prog w) A (getAttr (.ref x) "obj" ex) Q E s := by
  obtain ⟨ox, od, I, hs⟩ := i.at
  refine get_bind (K := whole s.heap) (whole_in _) I k.getattribute (k.findObj od) k.getattr ?_
  refine wpAny_call (slot_get (K := whole s.heap) (s := { s with toks := s.toks + 1 }) (whole_in _) I k.slotIn (by rw [hs]; rfl) ?_)
  exact handed_on hh hq
end
end Mine
end

-- part M3
section
open PySem PySem.W PySem.Calls PyProof.Rows
set_option maxRecDepth 100000
namespace Mine

/-- a comparison's def, in the class -/
noncomputable abbrev mScope : Scope := { kind := .function, names := [("self", .local), ("other", .local), ("mycmp", .free)], isGenerator := false, isCoroutine := false, more := [] }
set_option genInjectivity false in
set_option genSizeOf false in
set_option genSizeOfSpec false in
structure MeP where
  nm : Str
  q : Str
  q1 : Pos
  q2 : Pos
  p1 : Pos
  p2 : Pos
  p3 : Pos
  p4 : Pos
  p5 : Pos
  p6 : Pos
  p7 : Pos
  p8 : Pos
  p9 : Pos
  pm : Value
  cd : Value
  ct : Value
  doc : Value
noncomputable abbrev mFd (z : MeP) (op : CmpOp) (cc : Addr) : FuncData :=
  { name := z.nm, qualname := z.q,
    params := { posonlyargs := [], args := [⟨"self", none, z.q1⟩, ⟨"other", none, z.q2⟩], vararg := none, kwonlyargs := [], kw_defaults := [], kwarg := none, defaults := [] },
    body := .stmts [.Return (some (.Compare (.Call (.Name "mycmp" z.p1) [.Attribute (.Name "self" z.p2) "obj" z.p3, .Attribute (.Name "other" z.p4) "obj" z.p5] [] z.p6) [op] [.Constant (.int 0) 0 z.p7] z.p8)) z.p9],
    scope := mScope, globals := mainGlobals, closure := [("mycmp", cc)], defaults := .none, kwdefaults := .none, pyModule := z.pm, code := z.cd, closureTuple := z.ct, doc := z.doc, builtins := builtinsNs }

noncomputable def MethAt (h : Heap) (f : Addr) (op : CmpOp) (cc : Addr) : Prop :=
  ∃ z od sl, h.get? f = some ⟨.type "function", od, .func (mFd z op cc), sl⟩ ∧ h.CodeRec z.cd z.q
theorem MethAt.keeps {h h' : Heap} {f cc : Addr} {op : CmpOp} (x : MethAt h f op cc) (k : ∀ b o, h.get? b = some o → h'.get? b = some o) : MethAt h' f op cc := by
  obtain ⟨z, od, sl, e, c⟩ := x
  exact ⟨z, od, sl, k _ _ e, c.keeps k⟩

/-- what an operator says of an int beside nought -/
noncomputable def says (op : CmpOp) (d : Int) : Bool := match op with
  | .Lt => decide (d < 0)
  | .Gt => decide (0 < d)
  | .Eq => d == 0
  | .LtE => decide (d ≤ 0)
  | .GtE => decide (0 ≤ d)
  | _ => false

section
variable {prog : Program} {w : World} {A : Around} {E : Value → Shared → Prop} {s : Shared} {a : KA} {x y : Addr} {v : Value}

theorem cmp_zero {op : CmpOp} (ho : op ∈ [CmpOp.Lt, .Gt, .Eq, .LtE, .GtE]) {d : Int} {t u : Tok} {Q : Value → Shared → Prop} (hq : Q (.bool (says op d)) s) :
    wpAny (model prog w) A (compareOp op (.int d t) (.int 0 u)) Q E s := by
  simp only [List.mem_cons, List.not_mem_nil, or_false] at ho
  rcases ho with rfl | rfl | rfl | rfl | rfl
  · exact lt_int hq
  · exact gt_int hq
  · exact PyProof.Rows.eq_int hq
  · exact le_int hq
  · exact ge_int hq

theorem binds2 {fd : FuncData} (a b : Value) (hp : ∃ q1 q2, fd.params = { posonlyargs := [], args := [⟨"self", none, q1⟩, ⟨"other", none, q2⟩], vararg := none, kwonlyargs := [], kw_defaults := [], kwarg := none, defaults := [] })
    (hd : fd.defaults = .none) : bindArgs fd ⟨[a, b], []⟩ = pure ([("self", a), ("other", b)] : List (Str × Value)) := by
  obtain ⟨nm, qq, params, body, scope, gl, cl, df, kd, doc, pm, an, cd, ct, bi⟩ := fd
  obtain ⟨q1, q2, e⟩ := hp
  dsimp only at e hd
  subst e hd
  rfl

end
end Mine
end

-- part M4
section
open PySem PySem.W PySem.Calls PyProof.Rows
set_option maxRecDepth 100000
namespace Mine

/-- a code's table -/
noncomputable def IsTab (o : Obj) : Prop := ∃ ps : Array Value, TriplesOk ps.toList ∧ o = tabObj ps
theorem tri_no {ps : Array Value} {q : Str} {t : Tok} (ht : TriplesOk ps.toList) (e : ps[1]? = some (.str q t)) : False := by
  rcases ps with ⟨_ | ⟨a, _ | ⟨b, l⟩⟩⟩
  · cases e
  · cases e
  · obtain rfl : b = .str q t := Option.some.inj e
    cases a <;> exact ht
theorem IsTab.data {o : Obj} (x : IsTab o) : ∃ ps, o.data = .fields ps := (by obtain ⟨ps, _, e⟩ := x; exact ⟨ps, e ▸ rfl⟩)
theorem IsTab.cls {o : Obj} (x : IsTab o) : o.cls = .none := (by obtain ⟨_, _, e⟩ := x; exact e ▸ rfl)
theorem nt_data {o : Obj} (h : ∀ vs, o.data ≠ .fields vs) : ¬ IsTab o := fun x => (by obtain ⟨_, e⟩ := x.data; exact h _ e)
theorem nt_cls {o : Obj} (h : o.cls ≠ .none) : ¬ IsTab o := fun x => h x.cls
/-- all but one object and the codes' tables stay -/
noncomputable def Kp (nt : Addr) (h h' : Heap) : Prop := ∀ b o, b ≠ nt → ¬ IsTab o → h.get? b = some o → h'.get? b = some o
/-- all but one object stay -/
noncomputable def Kq (nt : Addr) (h h' : Heap) : Prop := ∀ b o, b ≠ nt → h.get? b = some o → h'.get? b = some o
theorem Kq.kp {nt : Addr} {h h' : Heap} (x : Kq nt h h') : Kp nt h h' := fun b o n _ e => x b o n e
theorem Kq.of {nt : Addr} {h h' : Heap} (x : ∀ b o, h.get? b = some o → h'.get? b = some o) : Kq nt h h' := fun b o _ e => x b o e
theorem Ns.kp {nt a : Addr} {h h' : Heap} {m} (n : h.Ns a m) (k : Kp nt h h') (hne : a ≠ nt) : h'.Ns a m :=
  (by obtain ⟨o, es, ep, e, d, r⟩ := n; exact ⟨o, es, ep, k _ _ hne (fun x => by obtain ⟨ps, q⟩ := x.data; rw [d] at q; cases q) e, d, r⟩)

/-- an exception leaves a frame -/
noncomputable def LvE (prog : Program) (w : World) (A : Around) (env : Env) (E : Value → Shared → Prop) : Value → Shared → Prop :=
  fun e s' => wpAny (model prog w) (A.deeper env) (leaving env e) (fun _ s'' => E e s'') (fun e' s'' => E e' s'') s'

noncomputable abbrev fScope : Scope := { kind := .function, names := [("self", .local), ("other", .local), ("op_result", .local), ("type", .globalImplicit), ("NotImplemented", .globalImplicit)], isGenerator := false, isCoroutine := false, more := [] }

/-- the last line of a made comparison -/
inductive Tail where
  | one (neg : Bool) (p1 p2 : Pos)
  | two (neg : Bool) (b : BoolOp) (op : CmpOp) (p1 p2 p3 p4 p5 p6 : Pos)
noncomputable def Tail.neg : Tail → Bool
  | .one n .. => n
  | .two n .. => n
noncomputable def Tail.first (neg : Bool) (p1 p2 : Pos) : Expr := if neg then .UnaryOp .Not (.Name "op_result" p1) p2 else .Name "op_result" p1
noncomputable def Tail.expr : Tail → Expr
  | .one n p1 p2 => first n p1 p2
  | .two n b op p1 p2 p3 p4 p5 p6 => .BoolOp b [first n p1 p2, .Compare (.Name "self" p3) [op] [.Name "other" p4] p5] p6

set_option genInjectivity false in
set_option genSizeOf false in
set_option genSizeOfSpec false in
structure FnP where
  nm : Str
  q : Str
  q1 : Pos
  q2 : Pos
  p1 : Pos
  p2 : Pos
  p3 : Pos
  p4 : Pos
  p5 : Pos
  p6 : Pos
  p7 : Pos
  p8 : Pos
  p9 : Pos
  r1 : Pos
  r2 : Pos
  r3 : Pos
  r4 : Pos
  r5 : Pos
  r6 : Pos
  r7 : Pos
  pm : Value
  cd : Value
  doc : Value
  oc : Value
  od : Option Addr
  sl : Array (Option Value)
noncomputable abbrev fFd (z : FnP) (attr : Str) (tl : Tail) : FuncData :=
  { name := z.nm, qualname := z.q,
    params := { posonlyargs := [], args := [⟨"self", none, z.q1⟩, ⟨"other", none, z.q2⟩], vararg := none, kwonlyargs := [], kw_defaults := [], kwarg := none, defaults := [] },
    body := .stmts [.Assign [.Name "op_result" z.p1] (.Call (.Attribute (.Call (.Name "type" z.p2) [.Name "self" z.p3] [] z.p4) attr z.p5) [.Name "self" z.p6, .Name "other" z.p7] [] z.p8) z.p9,
      .If (.Compare (.Name "op_result" z.r1) [.Is] [.Name "NotImplemented" z.r2] z.r3) [.Return (some (.Name "op_result" z.r4)) z.r5] [] z.r6,
      .Return (some tl.expr) z.r7],
    scope := fScope, globals := mainGlobals, closure := [], defaults := .none, kwdefaults := .none, pyModule := z.pm, code := z.cd, doc := z.doc, builtins := builtinsNs }

noncomputable def FnAt (h : Heap) (f : Addr) (attr : Str) (tl : Tail) : Prop :=
  ∃ z : FnP, h.get? f = some ⟨z.oc, z.od, .func (fFd z attr tl), z.sl⟩ ∧ h.CodeRec z.cd z.q ∧ (z.p5.endLine == z.p8.line) = true

/-- the global names that the functions read -/
structure Glob (h : Heap) (mg mb : Str → Option Value) : Prop where
  g : h.Ns mainGlobals mg
  b : h.Ns builtinsNs mb
  ty : mg "type" = none
  ni : mg "NotImplemented" = none
  bty : mb "type" = some (.type "type")
  bni : mb "NotImplemented" = some .notImplemented

section
variable {prog : Program} {w : World} {A : Around} {E : Value → Shared → Prop} {s : Shared} {env : Env}

theorem Call_attr {o : Expr} {name : Str} {apos pos : Pos} {args : List Expr} {Q : Value → Shared → Prop}
    (hbase : attributeBase o name env (eval o env) = eval o env) (hfew : methodCallForm (args.length + ([] : List Keyword).length) (backTo pos (starEach args env)) (backToKw pos (keywordEach [] env)) = true) (hline : (apos.endLine == pos.line) = true)
    (h : wpAny (model prog w) A (eval o env) (fun ov s₁ => ∀ pl : Sem Bool, wpAny (model prog w) A (getMethod ov name pl) (fun p s₂ => wpAny (model prog w) A (callWith pos p.1 p.2 (backTo pos (starEach args env)) []) Q E s₂) E s₁) E s) :
    wpAny (model prog w) A (eval (.Call (.Attribute o name apos) args [] pos) env) Q E s := by
  rw [arm_eval_Call, hbase]
  refine wpAny_bind (wpAny_mono h (fun ov s₁ h₁ => wpAny_bind (wpAny_standAt ?_)) fun _ _ e => e)
  unfold methodCall
  rw [hfew]
  refine wpAny_bind (wpAny_holding ?_)
  unfold calleeOf
  rw [if_pos rfl]
  refine wpAny_mono (h₁ _) (fun p s₂ h₂ => ?_) fun _ _ e => e
  unfold methodCallPos
  rw [hline]
  exact wpAny_bind (wpAny_pure h₂)

/-- what is called: a function of the heap, or a built-in -/
noncomputable def Callee (h : Heap) (g : Value) : Prop := (∃ fa fo fd, g = .ref fa ∧ h.get? fa = some fo ∧ fo.data = .func fd) ∨ ∃ id, g = .builtin id

theorem callWith_any {pos : Pos} {g : Value} {args : List (Bool × Sem Value)} {Q : Value → Shared → Prop} (hplain : args.any (·.1) = false)
    (h : wpAny (model prog w) A (evalArgs g true args []) (fun x s₁ => Callee s₁.heap g ∧ wpAny (model prog w) A (call g x.pos x.kw) Q E s₁) E s)
    (hg : Callee s.heap g) : wpAny (model prog w) A (callWith pos g [] args []) Q E s := by
  rcases hg with ⟨fa, fo, fd, rfl, hf, hd⟩ | ⟨id, rfl⟩
  · unfold callWith
    refine wpAny_bind (wpAny_holding (wpAny_mono h (fun x s₁ h₁ => wpAny_bind (wpAny_standAt ?_)) fun _ _ e => e))
    obtain ⟨⟨fa', fo', fd', e, hf', hd'⟩ | ⟨id, e⟩, hc⟩ := h₁
    · cases e
      simp only [hplain, List.any_nil, Bool.or_false]
      refine wpAny_bind (m := keeperOf (.ref fa)) ?_
      unfold keeperOf
      refine wpAny_bind (wpAny_load hf' ?_)
      rw [hd']
      refine wpAny_pure ?_
      have tail : ∀ {t : Sem Value}, wpAny (model prog w) A t Q E s₁ → wpAny (model prog w) A (t >>= fun r => holding [r] point >>= fun _ => pure r) Q E s₁ :=
        fun ht => wpAny_bind (wpAny_mono ht (fun r s₂ hr => wpAny_bind (wpAny_holding (wpAny_point (wpAny_pure hr)))) fun _ _ x => x)
      first
        | refine wpAny_ite ?_
        | skip
      split <;> first
        | exact tail hc
        | exact tail (by unfold callMarked; exact wpAny_keep hc)
    · cases e
  · exact callWith_builtin hplain (wpAny_mono h (fun _ _ z => z.2) fun _ _ e => e)

/-- the truth at which a boolean operation stops -/
noncomputable def stopAt : BoolOp → Bool
  | .And => false
  | .Or => true
theorem boolOp_two {pos : Pos} {b : BoolOp} {e₁ e₂ : Expr} {Q : Value → Shared → Prop}
    (h : wpAny (model prog w) A (eval e₁ env) (fun v s₁ => ∃ c, v = .bool c ∧ (if c = stopAt b then Q (.bool c) s₁ else wpAny (model prog w) A (eval e₂ env) Q E s₁)) E s) :
    wpAny (model prog w) A (eval (.BoolOp b [e₁, e₂] pos) env) Q E s := by
  rw [arm_eval_BoolOp]
  show wpAny _ _ (boolOp pos b [eval e₁ env, eval e₂ env]) _ _ _
  unfold boolOp
  refine wpAny_bind (wpAny_mono h (fun v s₁ h₁ => ?_) fun _ _ e => e)
  obtain ⟨c, rfl, h₁⟩ := h₁
  refine wpAny_bind (wpAny_standAt (wpAny_bind (wpAny_holding (wpAny_truthy_bool ?_))))
  cases b <;> cases c <;> simp [stopAt] at h₁ ⊢ <;> first | exact wpAny_pure h₁ | exact h₁

end
end Mine
end

-- part M5
section
open PySem PySem.W PySem.Calls PyProof.Rows
set_option maxRecDepth 100000
namespace Mine
section
variable {prog : Program} {w : World} {A : Around} {E : Value → Shared → Prop} {s : Shared}

/-- what a made comparison ends with, once its root has said b -/
noncomputable def endOf (prog : Program) (w : World) (A : Around) (E : Value → Shared → Prop) (env : Env) (tl : Tail) (X Y : Value) (Q : Value → Shared → Prop) (b : Bool) (s : Shared) : Prop :=
  match tl with
  | .one n _ _ => Q (.bool (n ^^ b)) s
  | .two n bo op _ _ _ _ _ _ => if (n ^^ b) = stopAt bo then Q (.bool (n ^^ b)) s
      else wpAny (model prog w) (A.deeper env) (compareOp op X Y) Q (LvE prog w A env E) s

theorem first_eval {env : Env} {n : Bool} {p1 p2 : Pos} {b : Bool} {m : Str → Option Value} {Q : Value → Shared → Prop} (hk : env.scope.kind = .function) (hl : env.kindOf "op_result" = some .local) (hn : s.heap.Ns env.locals m)
    (hv : m "op_result" = some (.bool b)) (hq : Q (.bool (n ^^ b)) s) : wpAny (model prog w) A (eval (Tail.first n p1 p2) env) Q E s := by
  cases n with
  | false =>
    show wpAny _ _ (eval (.Name _ _) _) _ _ _
    refine wpAny_Name (wpAny_loadName_local hk hl hn hv ?_)
    simpa using hq
  | true =>
    show wpAny _ _ (eval (.UnaryOp .Not (.Name _ _) _) _) _ _ _
    rw [arm_eval_UnaryOp]
    refine wpAny_bind (wpAny_Name (wpAny_loadName_local hk hl hn hv (wpAny_bind (wpAny_standAt (wpAny_holding (not_of (wpAny_truthy_bool ?_)))))))
    simpa using hq

theorem fn_call {f nt : Addr} {attr : Str} {tl : Tail} {X Y T g : Value} {mg mb : Str → Option Value} {P : Bool → Heap → Prop} {PN : Heap → Prop} {Q : Value → Shared → Prop}
    (hf : FnAt s.heap f attr tl) (hG : Glob s.heap mg mb) (hlim : s.heap.NoLimit) (hroom : A.depth < recursionLimit) (hnt : nt < s.heap.objs.size) (hnt0 : mainGlobals ≠ nt) (hnt1 : builtinsNs ≠ nt)
    (hty : ∀ A' E' h₀ tk (Q' : Value → Shared → Prop), (∀ b o, s.heap.get? b = some o → h₀.get? b = some o) → (∀ tk', Q' T { s with heap := h₀, toks := tk' }) → wpAny (model prog w) A' (call (.type "type") [X]) Q' E' { s with heap := h₀, toks := tk })
    (hgm : ∀ A' E' h₀ tk pl (Q' : Value × List Value → Shared → Prop), (∀ b o, s.heap.get? b = some o → h₀.get? b = some o) → (∀ tk', Q' (g, []) { s with heap := h₀, toks := tk' }) → wpAny (model prog w) A' (getMethod T attr pl) Q' E' { s with heap := h₀, toks := tk })
    (hcal : Callee s.heap g)
    (hop : ∀ fd h₀ tk (Q' : Value → Shared → Prop), fd.scope.kind = .function → (∀ b o, s.heap.get? b = some o → h₀.get? b = some o) → (∃ m, h₀.Ns s.heap.objs.size m) →
      (∀ b h₁ tk₁, Kq nt h₀ h₁ → P b h₁ → Q' (.bool b) { s with heap := h₁, toks := tk₁ }) → (∀ h₁ tk₁, Kq nt h₀ h₁ → PN h₁ → Q' .notImplemented { s with heap := h₁, toks := tk₁ }) →
      wpAny (model prog w) (A.deeper (callEnv fd s.heap.objs.size f)) (call g [X, Y]) Q' (LvE prog w A (callEnv fd s.heap.objs.size f) E) { s with heap := h₀, toks := tk })
    (hP : ∀ b h h', P b h → (∃ m, h.Ns s.heap.objs.size m) → (∀ c o, c ≠ s.heap.objs.size → h.get? c = some o → h'.get? c = some o) → P b h') (hPN : ∀ h h', PN h → (∃ m, h.Ns s.heap.objs.size m) → (∀ c o, c ≠ s.heap.objs.size → h.get? c = some o → h'.get? c = some o) → PN h')
    (hend : ∀ fd b h₂ tk₂, fd.scope.kind = .function → Kq nt s.heap h₂ → (∃ m, h₂.Ns s.heap.objs.size m) → P b h₂ → endOf prog w A E (callEnv fd s.heap.objs.size f) tl X Y Q b { s with heap := h₂, toks := tk₂ })
    (hendN : ∀ h₂ tk₂, Kq nt s.heap h₂ → PN h₂ → Q .notImplemented { s with heap := h₂, toks := tk₂ }) :
    wpAny (model prog w) A (call (.ref f) [X, Y]) Q E s := by
  obtain ⟨z, hfo, hcd, hline⟩ := hf
  refine wpAny_call (codeAny_call_plain (binds := [("self", X), ("other", Y)]) hroom hfo rfl hlim hcd rfl (binds2 _ _ ⟨_, _, rfl⟩ rfl) (show ∀ x ∈ fScope.names, x.2 ≠ NameKind.cell from by decide) (locs rfl) fun h₀ hns keep => ?_)
  have hLn : s.heap.objs.size ≠ nt := Nat.ne_of_gt hnt
  refine wpAny_execs_cons (wpAny_Assign_Name (Call_attr rfl rfl hline (wpAny_Call_Name_kw (Name_function_global rfl rfl (loadGlobal_builtin (hG.g.keeps keep) hG.ty (hG.b.keeps keep) hG.bty ?_)))))
  -- type(self)
  have hcw : ∀ {Q' : Value → Shared → Prop} {E' : Value → Shared → Prop} {A' : Around} {tk : Nat} {X' : Value} {nn : Str} {pp pos : Pos} {env : Env}, env.scope.kind = .function → env.kindOf nn = some .local → h₀.Ns env.locals (fun x => ([("self", X), ("other", Y)] : List (Str × Value)).reverse.lookup x) → ([("self", X), ("other", Y)] : List (Str × Value)).reverse.lookup nn = some X' → ((nn == ("__debug__" : Str)) = false) →
      (wpAny (model prog w) A' (call (.type "type") [X']) Q' E' { s with heap := h₀, toks := tk }) →
      wpAny (model prog w) A' (callWith pos (.type "type") [] [(false, eval (.Name nn pp) env)] []) Q' E' { s with heap := h₀, toks := tk } := by
    intro Q' E' A' tk X' nn pp pos env hk hl hn hv hd hc
    unfold callWith
    refine wpAny_bind (wpAny_holding (evalArgs_plain (spliced_cons (wpAny_Name (wpAny_loadName_local hk hl hn hv (spliced_nil ?_)) hd))))
    refine wpAny_bind (wpAny_standAt (wpAny_bind (wpAny_pure ?_)))
    exact wpAny_bind (wpAny_mono hc (fun r s₂ hr => wpAny_bind (wpAny_holding (wpAny_point (wpAny_pure hr)))) fun _ _ x => x)
  refine hcw rfl rfl hns rfl (by decide) (hty _ _ _ _ _ keep fun tk' pl => hgm _ _ _ _ _ _ keep fun tk'' => ?_)
  refine callWith_any rfl (evalArgs_plain (spliced_cons (wpAny_Name (wpAny_loadName_local rfl rfl hns rfl ?_)))) ?_
  case refine_2 => rcases hcal with ⟨fa, fo, fd, e, h1, h2⟩ | e; exact .inl ⟨fa, fo, fd, e, keep _ _ h1, h2⟩; exact .inr e
  refine spliced_cons (wpAny_Name (wpAny_loadName_local rfl rfl hns rfl (spliced_nil ⟨?_, ?_⟩)))
  · rcases hcal with ⟨fa, fo, fd, e, h1, h2⟩ | e
    · exact .inl ⟨fa, fo, fd, e, keep _ _ h1, h2⟩
    · exact .inr e
  have hif : ∀ {Q' : Bool → Shared → Prop} {E' : Value → Shared → Prop} {r : Value} {h₂ : Heap} {tk : Nat} {m : Str → Option Value} {whole : Sem Value}, (plainIs r .notImplemented = true) → Kq nt s.heap h₂ → h₂.Ns s.heap.objs.size m → m "op_result" = some r →
      Q' (r == .notImplemented) { s with heap := h₂, toks := tk } →
      wpAny (model prog w) (A.deeper (callEnv (fFd z attr tl) s.heap.objs.size f))
        (isTrue (.Compare (.Name "op_result" z.r1) [.Is] [.Name "NotImplemented" z.r2] z.r3) (callEnv (fFd z attr tl) s.heap.objs.size f) whole) Q' E' { s with heap := h₂, toks := tk } := by
    intro Q' E' r h₂ tk m whole hp kp hn hv hq
    refine wpAny_isTrue_Compare1 (wpAny_Name (wpAny_loadName_local rfl rfl hn hv (Name_function_global rfl rfl (loadGlobal_builtin (Ns.kp hG.g kp.kp hnt0) hG.ni (Ns.kp hG.b kp.kp hnt1) hG.bni ?_))))
    exact wpAny_is_plain hp (wpAny_truthy_bool hq)
  refine hop _ h₀ _ _ rfl keep ⟨_, hns⟩ (fun b h₁ tk₁ kp hp => ?_) fun h₁ tk₁ kp hp => ?_
  · refine wpAny_storeName_local rfl (Ns.kp hns kp.kp hLn) (fun h₂ hns₂ hsb => ?_) rfl
    have st : ∀ c o, c ≠ s.heap.objs.size → h₁.get? c = some o → h₂.get? c = some o := fun c o hc e => (hsb.2 c hc).trans e
    have kp₂ : Kq nt s.heap h₂ := fun c o hc e => st c o (Nat.ne_of_lt (Heap.lt_size e)) (kp c o hc (keep c o e))
    refine wpAny_execs_cons (wpAny_If (hif rfl kp₂ hns₂ rfl ?_))
    refine wpAny_execs_nil (wpAny_execs_cons (wpAny_Return_some ?_))
    have he := hend (fFd z attr tl) b h₂ (tk₁ + 1) rfl kp₂ ⟨_, hns₂⟩ (hP b h₁ h₂ hp ⟨_, Ns.kp hns kp.kp hLn⟩ st)
    cases tl with
    | one n t1 t2 => exact first_eval rfl rfl hns₂ rfl he
    | two n bo op t1 t2 t3 t4 t5 t6 =>
      refine boolOp_two (first_eval rfl rfl hns₂ rfl ⟨_, rfl, ?_⟩)
      unfold endOf at he
      dsimp only at he
      by_cases hc : (n ^^ b) = stopAt bo
      · rw [if_pos hc] at he ⊢; exact he
      · rw [if_neg hc] at he ⊢
        refine wpAny_Compare1 (wpAny_Name (wpAny_loadName_local rfl rfl hns₂ rfl (wpAny_Name (wpAny_loadName_local rfl rfl hns₂ rfl ?_)))) (by cases op <;> rfl)
        exact he
  · refine wpAny_storeName_local rfl (Ns.kp hns kp.kp hLn) (fun h₂ hns₂ hsb => ?_) rfl
    have st : ∀ c o, c ≠ s.heap.objs.size → h₁.get? c = some o → h₂.get? c = some o := fun c o hc e => (hsb.2 c hc).trans e
    have kp₂ : Kq nt s.heap h₂ := fun c o hc e => st c o (Nat.ne_of_lt (Heap.lt_size e)) (kp c o hc (keep c o e))
    refine wpAny_execs_cons (wpAny_If (hif rfl kp₂ hns₂ rfl ?_))
    refine wpAny_execs_cons (wpAny_Return_some (wpAny_Name (wpAny_loadName_local rfl rfl hns₂ rfl ?_)))
    exact hendN h₂ _ kp₂ (hPN h₁ h₂ hp ⟨_, Ns.kp hns kp.kp hLn⟩ st)
end
end Mine
end

-- part M6
section
open PySem PySem.W PySem.Calls PyProof.Rows
set_option maxRecDepth 100000
namespace Mine








end Mine
end

-- part M7
section
open PySem PySem.W PySem.Calls PyProof.Rows
set_option maxRecDepth 100000
namespace Mine

noncomputable abbrev cmps : List CmpOp := [CmpOp.Lt, .Gt, .Eq, .LtE, .GtE]
/-- a class of keys over the comparison at fa -/
structure Key (h : Heap) (a : KA) (cc fa : Addr) : Prop where
  cls : KAt h a
  meth : ∀ op ∈ cmps, MethAt h (a.fn op) op cc
  cell : h.IsCell cc (some (.ref fa))
  fn : ∃ oc od fd sl, h.get? fa = some ⟨oc, od, .func fd, sl⟩


section
variable {prog : Program} {w : World} {A : Around} {E : Value → Shared → Prop} {s : Shared} {H : Heap} {a : KA} {cc fa nt x y : Addr} {v1 v2 : Value} {σ : Int} {n dep un : Nat} {xs xs₀ : List Value}



theorem strKeys_of {es : Array DictEntry} (h : (es.toList.all fun en => match en.key with | .str _ _ => true | _ => false) = true) : StrKeys es := fun en he => by
  have q := List.all_eq_true.mp h en (Array.mem_toList_iff.mpr he)
  cases hk : en.key with
  | str n t => exact ⟨n, t, rfl⟩
  | _ => rw [hk] at q; cases q
theorem nsK {h : Heap} {a : KA} (k : KAt h a) : ∃ mN, h.Ns a.N mN ∧ (∀ op ∈ cmps, mN (cmpInfo op).2.1 = some (.ref (a.fn op))) ∧ mN "__ne__" = none := by
  obtain ⟨e, t, mo, fl, ep, hN⟩ := k.ns
  refine ⟨_, ⟨_, _, ep, hN, rfl, strKeys_of rfl, fun _ => rfl⟩, fun op ho => ?_, ?_⟩
  · unfold nsFind findBy
    rw [List.find?_toArray]
    simp only [cmps, List.mem_cons, List.not_mem_nil, or_false] at ho
    rcases ho with rfl | rfl | rfl | rfl | rfl <;> rfl
  · unfold nsFind findBy
    rw [List.find?_toArray]
    rfl
theorem nsN {h : Heap} {a : KA} (k : KAt h a) : ∃ mN, h.Ns a.N mN ∧ mN "__eq__" = some (.ref (a.fn .Eq)) ∧ mN "__ne__" = none := by
  obtain ⟨mN, h1, h2, h3⟩ := nsK k
  exact ⟨mN, h1, h2 .Eq (by decide), h3⟩

theorem ownEq {h : Heap} (k : KAt h a) (ix : InstK h a x v1) : h.OwnEqNoNe x a.C (a.fn .Eq) "object" [.type "object"] := by
  obtain ⟨mN, hN, he, hne⟩ := nsN k
  obtain ⟨q, k0, k1, k2, k3, k5, hC⟩ := k.cls
  obtain ⟨od, fd, sl, hf⟩ := k.fn .Eq (by decide)
  obtain ⟨dx, hx, _⟩ := ix
  exact ⟨_, _, _, _, _, _, _, _, _, _, _, _, _, _, _, _, _, _, mN, _, hx, rfl, hC, hN, he, hf, rfl, F.cmp_object.mro, F.cmp_object.eq.lookup, hne⟩

end
end Mine
end

-- part M8
section
open PySem PySem.W PySem.Calls PyProof.Rows
set_option maxRecDepth 100000
namespace Mine
open Builtin Builtin.ObjectAttr Builtin.Getset_descriptor
theorem typeIn_ref {h : Heap} {b : Addr} {o : Obj} (e : h.get? b = some o) : typeIn (whole h) (.ref b) = some o.cls := by
  show ((whole h).lookup b).map (·.cls) = _
  rw [whole_lookup, e]; rfl
section
variable {prog : Program} {w : World} {A : Around} {E : Value → Shared → Prop} {s : Shared} {h : Heap} {a : KA}

theorem KAt.reads (k : KAt h a) : readsIn (whole h) a.C (.type "type") = true := by
  obtain ⟨q, k0, k1, k2, k3, k5, hC⟩ := k.cls
  obtain ⟨oc, od, ep, sl, hS⟩ := k.st
  have e1 : nsIn (whole h) cStatics "thirdparty.any" = some none := by
    unfold nsIn
    rw [whole_lookup, hS]
    rfl
  have e2 : typeIn (whole h) (.ref a.C) = some (.type "type") := typeIn_ref hC
  unfold readsIn
  rw [e1, e2]
  have e3 : findIn (whole h) (.type "type") "__getattribute__" = some (some (.builtin "type.__getattribute__")) := by
    show fastLookup "type" "__getattribute__" = _
    kernel_rfl
  have e4 : subIn (whole h) (.type "type") (.type "type") = some true := by
    first | rfl | kernel_rfl
  rw [e3, e4]
  rfl

theorem clsFn_of {name : Str} {f : Addr} {o : Obj} {mv : Value} (h1 : fastLookup "type" name = some (some mv)) (h2 : specialIn (whole h) mv "__get__" = some (some (.builtin "wrapper_descriptor.__get__"))) (h3 : takesIn (whole h) mv = some false)
    (h4 : findIn (whole h) (.ref a.C) name = some (some (.ref f))) (h5 : heldUnderItsOwnName name (.ref f) = false) (h6 : h.get? f = some o) (h7 : o.cls = .type "function") :
    findCls (whole h) (.ref a.C) (.type "type") name = some (.val (.ref f)) := by
  unfold findCls
  rw [show findIn (whole h) (.type "type") name = some (some mv) from h1]
  simp only [Option.bind_some, h2, h3, h4]
  rw [if_neg (by rw [h5]; decide)]
  rw [typeIn_ref h6, h7]
  rw [Option.bind_some, if_pos (by decide)]

theorem KAt.clsFn (k : KAt h a) {op : CmpOp} (ho : op ∈ cmps) : findCls (whole h) (.ref a.C) (.type "type") (cmpInfo op).2.1 = some (.val (.ref (a.fn op))) := by
  obtain ⟨od, fd, sl, hf⟩ := k.fn op ho
  simp only [cmps, List.mem_cons, List.not_mem_nil, or_false] at ho
  rcases ho with rfl | rfl | rfl | rfl | rfl
  · exact clsFn_of (mv := .builtin "object.__lt__") (by kernel_rfl) (by unfold specialIn typeIn; kernel_rfl) (by unfold takesIn specialIn typeIn; kernel_rfl) (k.find _ fun _ _ _ _ => by rfl) rfl hf rfl
  · exact clsFn_of (mv := .builtin "object.__gt__") (by kernel_rfl) (by unfold specialIn typeIn; kernel_rfl) (by unfold takesIn specialIn typeIn; kernel_rfl) (k.find _ fun _ _ _ _ => by rfl) rfl hf rfl
  · exact clsFn_of (mv := .builtin "object.__eq__") (by kernel_rfl) (by unfold specialIn typeIn; kernel_rfl) (by unfold takesIn specialIn typeIn; kernel_rfl) (k.find _ fun _ _ _ _ => by rfl) rfl hf rfl
  · exact clsFn_of (mv := .builtin "object.__le__") (by kernel_rfl) (by unfold specialIn typeIn; kernel_rfl) (by unfold takesIn specialIn typeIn; kernel_rfl) (k.find _ fun _ _ _ _ => by rfl) rfl hf rfl
  · exact clsFn_of (mv := .builtin "object.__ge__") (by kernel_rfl) (by unfold specialIn typeIn; kernel_rfl) (by unfold takesIn specialIn typeIn; kernel_rfl) (k.find _ fun _ _ _ _ => by rfl) rfl hf rfl

theorem cls_method (k : KAt s.heap a) {op : CmpOp} (ho : op ∈ cmps) {pl : Sem Bool} {Q : Value × List Value → Shared → Prop} (hq : Q (.ref (a.fn op), []) { s with toks := s.toks + 1 }) :
    wpAny (model prog w) A (getMethod (.ref a.C) (cmpInfo op).2.1 pl) Q E s := by
  refine method_cls (K := whole s.heap) (whole_in _) ?_ (cls_value (K := whole s.heap) (mc := .type "type") (whole_in _) k.reads (k.clsFn ho) rfl hq)
  obtain ⟨q, k0, k1, k2, k3, k5, hC⟩ := k.cls
  unfold specialIn
  rw [typeIn_ref hC]
  show fastLookup "type" "__getattribute__" = _
  kernel_rfl
end
end Mine
end

-- part M9
section
open PySem PySem.W PySem.Calls PyProof.Rows
set_option maxRecDepth 100000
namespace Mine
section
variable {prog : Program} {w : World} {A : Around} {E : Value → Shared → Prop} {s : Shared} {H : Heap} {a : KA} {cc fa nt x y : Addr} {v1 v2 : Value} {σ : Int} {n dep un : Nat} {xs xs₀ : List Value}

/-- the second comparison is == or != -/
noncomputable def Tail.ok : Tail → Prop
  | .one .. => True
  | .two _ _ co .. => co = .Eq ∨ co = .NotEq


end
end Mine
end

-- part M10
section
open PySem PySem.W PySem.Calls PyProof.Rows
set_option maxRecDepth 100000
namespace Mine
noncomputable abbrev iScope : Scope := { kind := .function, names := [("self", .local), ("obj", .local)], isGenerator := false, isCoroutine := false, more := [] }
noncomputable abbrev iFd (nm q : Str) (q1 q2 p1 p2 p3 p4 : Pos) (pm cd ct doc : Value) : FuncData :=
  { name := nm, qualname := q,
    params := { posonlyargs := [], args := [⟨"self", none, q1⟩, ⟨"obj", none, q2⟩], vararg := none, kwonlyargs := [], kw_defaults := [], kwarg := none, defaults := [] },
    body := .stmts [.Assign [.Attribute (.Name "self" p1) "obj" p2] (.Name "obj" p3) p4],
    scope := iScope, globals := mainGlobals, closure := [], defaults := .none, kwdefaults := .none, pyModule := pm, code := cd, closureTuple := ct, doc := doc, builtins := builtinsNs }
noncomputable def InitAt (h : Heap) (f : Addr) : Prop :=
  ∃ nm q q1 q2 p1 p2 p3 p4 pm cd ct doc od sl, h.get? f = some ⟨.type "function", od, .func (iFd nm q q1 q2 p1 p2 p3 p4 pm cd ct doc), sl⟩ ∧ h.CodeRec cd q
theorem InitAt.keeps {h h' : Heap} {f : Addr} (x : InitAt h f) (k : ∀ b o, h.get? b = some o → h'.get? b = some o) : InitAt h' f := by
  obtain ⟨nm, q, q1, q2, p1, p2, p3, p4, pm, cd, ct, doc, od, sl, e, c⟩ := x
  exact ⟨nm, q, q1, q2, p1, p2, p3, p4, pm, cd, ct, doc, od, sl, k _ _ e, c.keeps k⟩

section
variable {prog : Program} {w : World} {A : Around} {E : Value → Shared → Prop} {s : Shared} {h : Heap} {a : KA} {v : Value}

theorem KAt.makes (k : KAt h a) : makesIn (whole h) a.C = true := by
  obtain ⟨q, k0, k1, k2, k3, k5, hC⟩ := k.cls
  unfold makesIn
  rw [whole_lookup, hC]
  have e1 : specialIn (whole h) (.ref a.C) "__call__" = some (some (.builtin "type.__call__")) := by
    unfold specialIn; rw [typeIn_ref hC]; show fastLookup "type" "__call__" = _; kernel_rfl
  have e2 : instIn (whole h) (.ref a.C) (.type "type") = some true := by
    unfold instIn; rw [typeIn_ref hC]; show subIn (whole h) (.type "type") (.type "type") = _; first | rfl | kernel_rfl
  simp only [e1, e2]
  simp

theorem initBinds {fd : FuncData} (a b : Value) (hp : ∃ q1 q2, fd.params = { posonlyargs := [], args := [⟨"self", none, q1⟩, ⟨"obj", none, q2⟩], vararg := none, kwonlyargs := [], kw_defaults := [], kwarg := none, defaults := [] })
    (hd : fd.defaults = .none) : bindArgs fd ⟨[a, b], []⟩ = pure ([("self", a), ("obj", b)] : List (Str × Value)) := by
  obtain ⟨nm, qq, params, body, scope, gl, cl, df, kd, doc, pm, an, cd, ct, bi⟩ := fd
  obtain ⟨q1, q2, e⟩ := hp
  dsimp only at e hd
  subst e hd
  rfl

/-- K(v): a new key -/
theorem make_call {Q : Value → Shared → Prop} (k : KAt s.heap a) (hi : InitAt s.heap a.fi) (hl : s.heap.NoLimit) (hroom : A.depth + 3 < recursionLimit)
    (hq : ∀ x h' tk', (∀ b o, s.heap.get? b = some o → h'.get? b = some o) → InstK h' a x v → s.heap.get? x = none → Q (.ref x) { s with heap := h', toks := tk' }) :
    wpAny (model prog w) A (call (.ref a.C) [v]) Q E s := by
  obtain ⟨hh, g, d, t, os⟩ := s
  dsimp only at k hi hl hq
  obtain ⟨od0, fd0, sl0, hfi⟩ := k.fi
  refine wpAny_call (make_core (makes_of (whole_in hh) k.makes) (looks_findIn (whole_in hh) (k.find (r := some (.ref a.fi)) _ fun _ _ _ _ => by rfl)) (fun self => bind_fn (whole_in hh) self (typeIn_ref hfi)) (.inl rfl) ?_)
  have k1 : ∀ b o, hh.get? b = some o → ((hh.push emptyDict).push (instObj a.C hh.objs.size)).get? b = some o := fun b o e => Heap.get?_push_of_some _ (Heap.get?_push_of_some _ e)
  have hx : ((hh.push emptyDict).push (instObj a.C hh.objs.size)).get? (hh.objs.size + 1) = some (instObj a.C hh.objs.size) := by heap_get
  have hdx : ((hh.push emptyDict).push (instObj a.C hh.objs.size)).get? hh.objs.size = some emptyDict := Heap.get?_push_of_some _ (Heap.get?_push_size _ rfl)
  obtain ⟨nm, q, q1, q2, p1, p2, p3, p4, pm, cd, ct, doc, od, sl, hf, hcd⟩ := hi.keeps k1
  refine codeAny_call_plain (binds := [("self", .ref (hh.objs.size + 1)), ("obj", v)]) (by show A.depth + 1 + 0 + 0 + 0 < _; omega) hf rfl (hl.keeps k1) hcd rfl (initBinds _ _ ⟨_, _, rfl⟩ rfl) (show ∀ x ∈ iScope.names, x.2 ≠ NameKind.cell from by decide) (locs rfl) fun h₀ hns keep => ?_
  have hsz : ((hh.push emptyDict).push (instObj a.C hh.objs.size)).objs.size = hh.objs.size + 2 := by simp only [Heap.size_push]
  dsimp only at hns keep
  rw [hsz] at hns
  show wpAny _ _ _ _ _ _
  dsimp only
  rw [hsz]
  refine wpAny_execs_cons (plainObj_wpAny_Assign_Attribute (wpAny_Name (wpAny_loadName_local rfl rfl hns rfl (wpAny_Name (wpAny_loadName_local rfl rfl hns rfl ?_)))))
  have kk := k.keeps k1 |>.keeps keep
  have I : InstAt h₀ (hh.objs.size + 1) (instObj a.C hh.objs.size) a.C (some emptyDict) := ⟨keep _ _ hx, rfl, rfl, keep _ _ hdx⟩
  refine set_plain (K := whole h₀) (whole_in _) I (kk.find _ fun _ _ _ _ => by rfl) ?_
  obtain ⟨cdd, hcdd, _, _, hmro⟩ := kk.clsIs
  obtain ⟨tn, hmd⟩ := kk.md
  refine osa_descr (K := whole h₀) KF.slot_mset (whole_in _) I (by unfold plainOver; rw [hcdd]; show onlyObject cdd.mro = true; rw [hmro]; rfl) (p := a.md) ?_ (typeIn_ref hmd) ?_
  · unfold takerIn
    rw [kk.obj]
    have h1 : ∀ n, specialIn (whole h₀) (.ref a.md) n = fastLookup "member_descriptor" n := fun n => by
      unfold specialIn
      rw [typeIn_ref hmd]
      rfl
    show (takesIn (whole h₀) (.ref a.md)).map _ = _
    unfold takesIn
    rw [h1, show fastLookup "member_descriptor" "__set__" = some (some (.builtin "member_descriptor.__set__")) from by kernel_rfl]
    rfl
  have Fr0 : Fr hh (hh.objs.size + 2) h₀ _ := ⟨hns, fun b o e => keep _ _ (k1 _ _ e), by omega⟩
  have Nw : News hh (hh.objs.size + 2) h₀ ([] ++ (hh.objs.size + 1, instObj a.C hh.objs.size) :: [(hh.objs.size, emptyDict)]) := by
    intro p hp
    simp only [List.nil_append, List.mem_cons, List.not_mem_nil, or_false] at hp
    rcases hp with rfl | rfl
    · exact ⟨keep _ _ hx, by simp, Heap.get?_none_of_le (Nat.le_succ _)⟩
    · exact ⟨keep _ _ hdx, by simp, Heap.get?_none_of_le (Nat.le_refl _)⟩
  refine slot_set (K := whole h₀) (s := ⟨h₀, _, _, _, _⟩) Fr0 Nw (whole_in _) I kk.slotIn (by decide) (fun _ h => nomatch h) (fun p hp => by simp only [List.mem_cons, List.not_mem_nil, or_false] at hp; subst hp; simp) rfl rfl fun h' F' N' => ?_
  refine wpAny_execs_nil ?_
  refine ⟨rfl, hq _ h' _ F'.keep ⟨hh.objs.size, (N' (hh.objs.size + 1, ⟨.ref a.C, some hh.objs.size, .plain, #[some v]⟩) (by simp)).1, (N' (hh.objs.size, emptyDict) (by simp)).1⟩ (Heap.get?_none_of_le (Nat.le_succ _))⟩
end
end Mine
end

-- part M11
section
open PySem PySem.W PySem.Calls PyProof.Rows
set_option maxRecDepth 100000
namespace Mine
section
variable {prog : Program} {w : World} {A : Around} {E : Value → Shared → Prop} {s : Shared} {a : KA}

theorem codeAny_call_lam {R : Result → Shared → Prop} {f : Addr} {o : Obj} {fd : FuncData} {body : Expr} {vals : List Value} {binds : List (Str × Value)}
    (hroom : A.depth < recursionLimit) (ho : s.heap.get? f = some o) (hdata : o.data = .func fd) (hlim : s.heap.NoLimit) (hcd : s.heap.CodeRec fd.code fd.qualname)
    (hbody : fd.body = .expr body) (hbind : bindArgs fd ⟨vals, []⟩ = pure binds)
    (hcell : ∀ x ∈ fd.scope.names, x.2 ≠ .cell) (hloc : ∀ x ∈ binds, fd.scope.names.lookup x.1 = some .local)
    (h : ∀ h₀, h₀.Ns s.heap.objs.size (fun x => binds.reverse.lookup x) → (∀ b o, s.heap.get? b = some o → h₀.get? b = some o) →
      wpAny (model prog w) (A.deeper (callEnv fd s.heap.objs.size f)) (eval body (callEnv fd s.heap.objs.size f)) (fun v s' => R (.ok (.ret v)) s')
        (fun e s' => wpAny (model prog w) (A.deeper (callEnv fd s.heap.objs.size f)) (leaving (callEnv fd s.heap.objs.size f) e) (fun _ s'' => R (.error e) s'') (fun e' s'' => R (.error e') s'') s')
        { s with heap := h₀, toks := s.toks + binds.length })
    (hco : fd.scope.isCoroutine = false := by rfl) (hgen : fd.scope.isGenerator = false := by rfl) (hk : fd.scope.kind = .function := by rfl) :
    codeAny (model prog w) A (.call (.ref f) ⟨vals, []⟩) R s := by
  refine kla_callFunE hroom ho hdata hco hgen hbody hcd ?_
  rw [hbind]
  refine wpAny_pure (wpAny_newFunctionEnv hcell hloc (fun h₀ hns₀ hsb₀ => ⟨hlim.fresh _ hsb₀, kla_codeExpr (h h₀ hns₀ fun b o e => ?_)⟩) hk)
  exact hsb₀.extBut b o (Nat.ne_of_lt (Heap.lt_size e)) (Heap.get?_push_of_some _ e)

theorem callWith_cls {pos : Pos} {args : List (Bool × Sem Value)} {Q : Value → Shared → Prop} (hplain : args.any (·.1) = false)
    (h : wpAny (model prog w) A (evalArgs (.ref a.C) true args []) (fun x s₁ => KAt s₁.heap a ∧ wpAny (model prog w) A (call (.ref a.C) x.pos x.kw) Q E s₁) E s) :
    wpAny (model prog w) A (callWith pos (.ref a.C) [] args []) Q E s := by
  unfold callWith
  refine wpAny_bind (wpAny_holding (wpAny_mono h (fun x s₁ h₁ => wpAny_bind (wpAny_standAt ?_)) fun _ _ x => x))
  obtain ⟨k, hc⟩ := h₁
  simp only [hplain, List.any_nil, Bool.or_false]
  refine wpAny_bind (m := keeperOf (.ref a.C)) ?_
  obtain ⟨q, k0, k1, k2, k3, k5, hC⟩ := k.cls
  unfold keeperOf
  refine wpAny_bind (wpAny_load hC ?_)
  have e1 : specialIn (whole s₁.heap) (.ref a.C) "__call__" = some (some (.builtin "type.__call__")) := by
    unfold specialIn; rw [typeIn_ref hC]; show fastLookup "type" "__call__" = _; kernel_rfl
  refine wpAny_bind ((looks_specialIn (whole_in s₁.heap) e1).here (wpAny_pure ?_))
  rw [if_pos (by decide)]
  exact wpAny_bind (wpAny_mono hc (fun r s₂ hr => wpAny_bind (wpAny_holding (wpAny_point (wpAny_pure hr)))) fun _ _ x => x)
end



theorem lamBinds {fd : FuncData} (a b : Value) (hp : ∃ q1 q2, fd.params = { posonlyargs := [], args := [⟨"a", none, q1⟩, ⟨"b", none, q2⟩], vararg := none, kwonlyargs := [], kw_defaults := [], kwarg := none, defaults := [] })
    (hd : fd.defaults = .none) : bindArgs fd ⟨[a, b], []⟩ = pure ([("a", a), ("b", b)] : List (Str × Value)) := by
  obtain ⟨nm, qq, params, body, scope, gl, cl, df, kd, doc, pm, an, cd, ct, bi⟩ := fd
  obtain ⟨q1, q2, e⟩ := hp
  dsimp only at e hd
  subst e hd
  rfl
end Mine
end

-- part M12
section
open PySem PySem.W PySem.Calls PyProof.Rows
set_option maxRecDepth 100000
namespace Mine
section
variable {prog : Program} {w : World} {A : Around} {E : Value → Shared → Prop} {s : Shared} {H : Heap} {a : KA} {cc fa nt : Addr} {r1 r2 : Addr} {σ : Int} {n dep un : Nat} {xs xs₀ : List Value} {mg mb : Str → Option Value}



theorem FnAt.fn {h : Heap} {f : Addr} {attr : Str} {tl : Tail} (x : FnAt h f attr tl) : ∃ o fd, h.get? f = some o ∧ o.data = .func fd := by
  obtain ⟨z, e, c, l⟩ := x
  exact ⟨_, _, e, rfl⟩



end
end Mine
end

-- part P1
section
open PySem PySem.W PySem.Calls PyProof.Rows
set_option maxRecDepth 100000
namespace Mine
section
variable {M : Model} {A : Around} {E : Value → Shared → Prop} {s : Shared}
/-- a class's code, made for the first time -/
theorem class_miss {env : Env} {c P : Addr} {ps : Array Value} {pos : Pos} {fl : Nat} {name qual : Str} {scope : Scope} {Q : Value → Shared → Prop} (hc : env.code = .ref c) (C : CodeHd s.heap c P) (hP : s.heap.get? P = some (tabObj ps)) (ht : TriplesOk ps.toList) (hnf : codeAmong pos ps.toList = none)
    (hq : ∀ c' P' h' tk, Heap.ExtBut P s.heap h' → CodeHd h' c' P' → h'.get? P' = some (tabObj #[]) → h'.CodeRec (.ref c') qual → h'.get? P = some (tabObj (ps ++ #[rawInt pos.line, rawInt pos.col, .ref c'])) → s.heap.objs.size ≤ c' → s.heap.objs.size ≤ P' →
      Q (.ref c') { s with heap := h', toks := tk }) : wpAny M A (classCode env pos fl name qual scope) Q E s := by
  obtain ⟨o, vs, file, tf, flags, tg, inF, text, tt, e1, e2, e3, e4, f3, f4, f5, f6, f7, f11⟩ := id C
  unfold classCode codeAt
  rw [hc, if_neg (show ¬ ((Value.ref c == Value.none) = true) from Bool.false_ne_true)]
  refine wpAny_bind (wpAny_fieldsOf e1 e3 ?_)
  rw [f3]
  refine wpAny_bind (wpAny_fieldsOf hP rfl ?_)
  rw [hnf, f4, f5, f6, f7]
  refine wpAny_bind (wpAny_newCodeX fun c' P' h' tk hk hc' hP' hcode' htab' hrec' => ?_)
  have hP1 := hk _ _ hP
  refine wpAny_bind (wpAny_updateFieldsOfTheText hP1 rfl ?_)
  have e5 : Obj.mapFields (fun vs => if (codeAmong pos vs.toList).isSome = true then vs else vs ++ #[rawInt pos.line, rawInt pos.col, .ref c']) (tabObj ps) = tabObj (ps ++ #[rawInt pos.line, rawInt pos.col, .ref c']) := by
    show tabObj (if (codeAmong pos ps.toList).isSome = true then ps else _) = _
    rw [hnf]; rfl
  have hget := Heap.get?_update_self (h := h') (Obj.mapFields (fun vs => if (codeAmong pos vs.toList).isSome = true then vs else vs ++ #[rawInt pos.line, rawInt pos.col, .ref c'])) hP1 (by rw [e5]; rfl)
  rw [e5] at hget
  refine wpAny_bind (wpAny_fieldsOf hget rfl ?_)
  have hl : (ps ++ #[rawInt pos.line, rawInt pos.col, Value.ref c']).toList = ps.toList ++ [rawInt pos.line, rawInt pos.col, .ref c'] := by simp
  rw [hl, codeAmong_snoc _ ht hnf]
  have nc : s.heap.get? c' = none := Heap.get?_none_of_le hc'
  have nP : s.heap.get? P' = none := Heap.get?_none_of_le hP'
  have hcP : c' ≠ P := fun q => by rw [q, hP] at nc; cases nc
  have hPP : P' ≠ P := fun q => by rw [q, hP] at nP; cases nP
  have up : ∀ b o', b ≠ P → h'.get? b = some o' → (h'.update P (Obj.mapFields (fun vs => if (codeAmong pos vs.toList).isSome = true then vs else vs ++ #[rawInt pos.line, rawInt pos.col, .ref c']))).get? b = some o' := fun b o' hb e => Heap.get?_update_of_ne _ (Ne.symm hb) e
  refine wpAny_pure (hq c' P' _ _ (fun b o' hb e => up b o' hb (hk b o' e)) ?_ (up _ _ hPP htab'.2) ?_ hget hc' hP')
  · obtain ⟨o2, vs2, a3, a4, a5, a6, a7, a8, a9, b1, b2⟩ := CodeHd.of hcode' htab'
    exact ⟨o2, vs2, a3, a4, a5, a6, a7, a8, a9, up _ _ hcP b1, b2⟩
  · obtain ⟨c₂, o₂, vs₂, t₂, e₂, g₂, r₂⟩ := hrec'
    cases e₂
    exact ⟨_, o₂, vs₂, t₂, rfl, up _ _ hcP g₂, r₂⟩

/-- a code's table: what lies there for these places has these names -/
noncomputable def TabGood (h : Heap) (P : Addr) (S : List (Pos × Str)) : Prop := ∃ ps, h.get? P = some (tabObj ps) ∧ TriplesOk ps.toList ∧ ∀ x ∈ S, ∀ cv, codeAmong x.1 ps.toList = some cv → h.CodeRec cv x.2
/-- the table of the code that makes the class -/
noncomputable def ClsTab (h : Heap) (lo c P : Addr) (pos : Pos) (qual : Str) (S : List (Pos × Str)) : Prop :=
  CodeHd h c P ∧ ∃ ps, h.get? P = some (tabObj ps) ∧ TriplesOk ps.toList ∧ ∀ cv, codeAmong pos ps.toList = some cv → ∃ c' P', cv = .ref c' ∧ lo ≤ P' ∧ P' ≠ P ∧ CodeHd h c' P' ∧ h.CodeRec (.ref c') qual ∧ TabGood h P' S
theorem codeAmong_app {pos : Pos} {r : List Value} {cv : Value} (l : List Value) (hl : TriplesOk l) (h : codeAmong pos (l ++ r) = some cv) : codeAmong pos l = some cv ∨ codeAmong pos r = some cv := by
  fun_induction TriplesOk l with
  | case1 => exact .inr h
  | case3 => exact hl.elim
  | case2 a t b u c l ih =>
    rw [List.cons_append, List.cons_append, List.cons_append] at h
    rw [codeAmong] at h
    rw [codeAmong.eq_1 pos a t b u c l]
    by_cases q : (a == pos.line && b == pos.col) = true
    · rw [if_pos q] at h ⊢; exact .inl h
    · rw [if_neg q] at h ⊢; exact ih hl h
theorem codeAmong_one {pos q : Pos} {c cv : Value} (h : codeAmong pos [rawInt q.line, rawInt q.col, c] = some cv) : (q.line = pos.line ∧ q.col = pos.col) ∧ cv = c := by
  unfold rawInt codeAmong at h
  by_cases e : (((q.line : Int) == (pos.line : Int)) && ((q.col : Int) == (pos.col : Int))) = true
  · rw [if_pos e] at h
    simp only [Bool.and_eq_true, beq_iff_eq] at e
    exact ⟨⟨by omega, by omega⟩, (Option.some.inj h).symm⟩
  · rw [if_neg e] at h; cases h
theorem CodeRec.ext {h h' : Heap} {P : Addr} {ps : Array Value} {cv : Value} {q : Str} (hP : h.get? P = some (tabObj ps)) (ht : TriplesOk ps.toList) (x : Heap.ExtBut P h h') (c : h.CodeRec cv q) : h'.CodeRec cv q := by
  obtain ⟨c, o, vs, t, e1, e2, e3, e4⟩ := c
  refine ⟨c, o, vs, t, e1, x _ _ (fun z => ?_) e2, e3, e4⟩
  rw [z, hP] at e2; cases e2
  have e5 : ps = vs := by injection e3
  subst e5
  exact tri_no ht e4
/-- the class's code, for the first time or again -/
theorem class_code {env : Env} {lo c P : Addr} {pos : Pos} {fl : Nat} {name qual : Str} {scope : Scope} {S : List (Pos × Str)} {Q : Value → Shared → Prop} (hc : env.code = .ref c) (T : ClsTab s.heap lo c P pos qual S) (hlo : lo ≤ s.heap.objs.size)
    (hq : ∀ c' P' h' tk ps, Heap.ExtBut P s.heap h' → CodeHd h' c P → h'.get? P = some (tabObj ps) → TriplesOk ps.toList → codeAmong pos ps.toList = some (.ref c') → lo ≤ P' → P' ≠ P → CodeHd h' c' P' → h'.CodeRec (.ref c') qual → TabGood h' P' S →
      Q (.ref c') { s with heap := h', toks := tk }) : wpAny M A (classCode env pos fl name qual scope) Q E s := by
  obtain ⟨C, ps, hP, ht, good⟩ := T
  cases hn : codeAmong pos ps.toList with
  | none =>
    refine class_miss hc C hP ht hn fun c' P' h' tk x C' hP' r hPn l1 l2 => ?_
    have hl : (ps ++ #[rawInt pos.line, rawInt pos.col, Value.ref c']).toList = ps.toList ++ [rawInt pos.line, rawInt pos.col, .ref c'] := by simp
    have hPP : P' ≠ P := fun q => by have := Heap.lt_size hP; rw [← q] at this; exact absurd l2 (Nat.not_le_of_gt this)
    have C1 : CodeHd h' c P := by
      obtain ⟨o2, vs2, a3, a4, a5, a6, a7, a8, a9, b1, b2, b3, b4, b5, b6, b7, b8, b9, b10⟩ := C
      exact ⟨o2, vs2, a3, a4, a5, a6, a7, a8, a9, x _ _ b10 b1, b2, b3, b4, b5, b6, b7, b8, b9, b10⟩
    refine hq c' P' h' tk _ x C1 hPn (by rw [hl]; exact TriplesOk_snoc _ _ _ _ ht) (by rw [hl]; exact codeAmong_snoc _ ht hn) (Nat.le_trans hlo l2) hPP C' r ⟨_, hP', trivial, fun y _ cv e => by cases e⟩
  | some cv =>
    obtain ⟨c', P', rfl, l, hPP, C', r, G⟩ := good cv hn
    obtain ⟨o, vs, file, tf, flags, tg, inF, text, tt, e1, e2, e3, e4, f3, f4, f5, f6, f7, f11⟩ := id C
    unfold classCode codeAt
    rw [hc, if_neg (show ¬ ((Value.ref c == Value.none) = true) from Bool.false_ne_true)]
    refine wpAny_bind (wpAny_fieldsOf e1 e3 ?_)
    rw [f3]
    refine wpAny_bind (wpAny_fieldsOf hP rfl ?_)
    rw [hn]
    exact wpAny_pure (hq c' P' s.heap s.toks ps (fun _ _ _ e => e) C hP ht hn l hPP C' r G)
end
end Mine
end

-- part M13
section
open PySem PySem.W PySem.Calls PyProof.Rows
set_option maxRecDepth 100000
namespace Mine
/-- places that a frame writes: its names' dict, its cells -/
noncomputable def WOk (W : List Addr) (h : Heap) : Prop := ∀ w ∈ W, ∃ o, h.get? w = some o ∧ ((∃ es ep, o.data = .dict es ep) ∨ ∃ v, o.data = .cell v)
/-- .. or a list's iterator -/
noncomputable def WOi (W : List Addr) (h : Heap) : Prop := ∀ w ∈ W, ∃ o, h.get? w = some o ∧ ((∃ es ep, o.data = .dict es ep) ∨ (∃ v, o.data = .cell v) ∨ (o.cls = .type "list_iterator" ∧ ∃ a b t, o.data = .fields #[a, .int b t]))
theorem WOk.toi {W : List Addr} {h : Heap} (x : WOk W h) : WOi W h := fun w hw => (by obtain ⟨o, e, r⟩ := x w hw; exact ⟨o, e, r.imp id .inl⟩)
theorem WOi.off {W : List Addr} {h : Heap} {b : Addr} {o : Obj} (x : WOi W h) (e : h.get? b = some o) (h1 : ∀ es ep, o.data ≠ .dict es ep) (h2 : ∀ v, o.data ≠ .cell v) (h3 : o.cls ≠ .type "list_iterator" ∨ ∀ a b t, o.data ≠ .fields #[a, .int b t]) : b ∉ W := fun m => by
  obtain ⟨o', e', r⟩ := x b m
  rw [e] at e'; cases e'
  rcases r with ⟨es, ep, q⟩ | ⟨v, q⟩ | ⟨q1, a, c, t, q2⟩
  · exact h1 _ _ q
  · exact h2 _ q
  · rcases h3 with h3 | h3
    · exact h3 q1
    · exact h3 _ _ _ q2
/-- all but these places and the codes' tables stay -/
noncomputable def Ft (W : List Addr) (h h' : Heap) : Prop := ∀ b o, b ∉ W → ¬ IsTab o → h.get? b = some o → h'.get? b = some o
theorem WOk.off {W : List Addr} {h : Heap} {b : Addr} {o : Obj} (x : WOk W h) (e : h.get? b = some o) (h1 : ∀ es ep, o.data ≠ .dict es ep) (h2 : ∀ v, o.data ≠ .cell v) : b ∉ W := fun m => by
  obtain ⟨o', e', r⟩ := x b m
  rw [e] at e'; cases e'
  rcases r with ⟨es, ep, q⟩ | ⟨v, q⟩
  · exact h1 _ _ q
  · exact h2 _ q
theorem tri_one {l : List Value} (ht : TriplesOk l) {q : Str} {t : Tok} (e : l[1]? = some (.str q t)) : False := by
  rcases l with _ | ⟨a, _ | ⟨b, l⟩⟩
  · cases e
  · cases e
  · obtain rfl : b = .str q t := Option.some.inj e
    cases a <;> exact ht
section
variable {h h' : Heap} {W : List Addr} (x : WOi W h) (k : Ft W h h')
include x k
theorem get_ft {b : Addr} {o : Obj} (e : h.get? b = some o) (h1 : ∀ es ep, o.data ≠ .dict es ep) (h2 : ∀ v, o.data ≠ .cell v) (ht : ¬ IsTab o)
    (h3 : o.cls ≠ .type "list_iterator" ∨ ∀ a b t, o.data ≠ .fields #[a, .int b t]) : h'.get? b = some o := k _ _ (x.off e h1 h2 h3) ht e
theorem get_ftF {b : Addr} {o : Obj} (e : h.get? b = some o) (h1 : ∀ es ep, o.data ≠ .dict es ep) (h2 : ∀ v, o.data ≠ .cell v) (hf : ∀ vs, o.data ≠ .fields vs) : h'.get? b = some o := get_ft x k e h1 h2 (nt_data hf) (.inr fun _ _ _ => hf _)
theorem CodeRec.ft {cd : Value} {q : Str} (c : h.CodeRec cd q) : h'.CodeRec cd q := by
  obtain ⟨c, o, vs, t, e1, e2, e3, e4⟩ := c
  refine ⟨c, o, vs, t, e1, get_ft x k e2 (by intro _ _ q; rw [e3] at q; cases q) (by intro _ q; rw [e3] at q; cases q) ?_ (.inr fun a b t' q => ?_), e3, e4⟩
  rotate_left
  · rw [e3] at q
    have q' : vs = #[a, .int b t'] := by injection q
    rw [q'] at e4; cases e4
  rintro ⟨ps, ht, rfl⟩
  have e5 : ps = vs := by injection e3
  subst e5
  exact tri_one ht (by rw [Array.getElem?_toList]; exact e4)
theorem KAt.ft {a : KA} (hN : a.N ∉ W) (hS : cStatics ∉ W) (y : KAt h a) : KAt h' a :=
  ⟨(by obtain ⟨q, k0, k1, k2, k3, k5, e⟩ := y.cls; exact ⟨q, k0, k1, k2, k3, k5, get_ftF x k e (by intro _ _ q; cases q) (by intro _ q; cases q) (by intro _ q; cases q)⟩), (by obtain ⟨e, t, mo, fl, ep, q⟩ := y.ns; exact ⟨e, t, mo, fl, ep, k _ _ hN (fun z => by obtain ⟨_, q⟩ := z.data; cases q) q⟩),
   (by obtain ⟨tn, q⟩ := y.md; exact ⟨tn, get_ft x k q (by intro _ _ q; cases q) (by intro _ q; cases q) (nt_cls (by intro q; cases q)) (.inl (by intro q; exact absurd (Value.type.inj q) (by decide)))⟩),
   (by obtain ⟨od, fd, sl, q⟩ := y.fi; exact ⟨od, fd, sl, get_ftF x k q (by intro _ _ q; cases q) (by intro _ q; cases q) (by intro _ q; cases q)⟩), fun op ho => (by obtain ⟨od, fd, sl, q⟩ := y.fn op ho; exact ⟨od, fd, sl, get_ftF x k q (by intro _ _ q; cases q) (by intro _ q; cases q) (by intro _ q; cases q)⟩),
   (by obtain ⟨oc, od, ep, sl, q⟩ := y.st; exact ⟨oc, od, ep, sl, k _ _ hS (fun z => by obtain ⟨_, q⟩ := z.data; cases q) q⟩)⟩
theorem MethAt.ft {f cc : Addr} {op : CmpOp} (y : MethAt h f op cc) : MethAt h' f op cc := by
  obtain ⟨z, od, sl, e, c⟩ := y
  exact ⟨z, od, sl, get_ftF x k e (by intro _ _ q; cases q) (by intro _ q; cases q) (by intro _ q; cases q), CodeRec.ft x k c⟩
theorem InitAt.ft {f : Addr} (y : InitAt h f) : InitAt h' f := by
  obtain ⟨nm, q, q1, q2, p1, p2, p3, p4, pm, cd, ct, doc, od, sl, e, c⟩ := y
  exact ⟨nm, q, q1, q2, p1, p2, p3, p4, pm, cd, ct, doc, od, sl, get_ftF x k e (by intro _ _ q; cases q) (by intro _ q; cases q) (by intro _ q; cases q), CodeRec.ft x k c⟩
theorem IsCell.ft {c : Addr} {v : Option Value} (hc : c ∉ W) (y : h.IsCell c v) : h'.IsCell c v := by
  obtain ⟨o, e, d⟩ := y
  exact ⟨o, k _ _ hc (fun z => by obtain ⟨_, q⟩ := z.data; rw [d] at q; cases q) e, d⟩
theorem Key.ft {a : KA} {cc fa : Addr} (hN : a.N ∉ W) (hS : cStatics ∉ W) (hc : cc ∉ W) (y : Key h a cc fa) : Key h' a cc fa :=
  ⟨KAt.ft x k hN hS y.cls, fun op ho => MethAt.ft x k (y.meth op ho), IsCell.ft x k hc y.cell, (by obtain ⟨oc, od, fd, sl, e⟩ := y.fn; exact ⟨oc, od, fd, sl, get_ftF x k e (by intro _ _ q; cases q) (by intro _ q; cases q) (by intro _ q; cases q)⟩)⟩
end
theorem Ft.hide {h : Heap} {W : List Addr} : Ft W h (hideAll h W) := fun _ _ hb _ e => hideAll_get _ e hb
end Mine
end

-- part M14
section
open PySem PySem.W PySem.Calls PyProof.Rows
set_option maxRecDepth 100000
namespace Mine
/-- all but these places stay -/
noncomputable def Ex (W : List Addr) (h h' : Heap) : Prop := ∀ b o, b ∉ W → h.get? b = some o → h'.get? b = some o
theorem Ex.refl {W : List Addr} {h : Heap} : Ex W h h := fun _ _ _ e => e
theorem Ex.trans {W : List Addr} {h h' h'' : Heap} (x : Ex W h h') (y : Ex W h' h'') : Ex W h h'' := fun b o n e => y b o n (x b o n e)
theorem Ex.of {W : List Addr} {h h' : Heap} (k : ∀ b o, h.get? b = some o → h'.get? b = some o) : Ex W h h' := fun b o _ e => k b o e
/-- a frame: its names' dict, its cells -/
structure Fm (h : Heap) (env : Env) (m cm : Str → Option Value) : Prop where
  ns : h.Ns env.locals m
  cell : ∀ n c, env.cells.lookup n = some c → h.IsCell c (cm n)
  apart : env.cells.Pairwise fun x y => x.2 ≠ y.2
  named : ∀ x ∈ env.cells, env.cells.lookup x.1 = some x.2
noncomputable abbrev fW (env : Env) : List Addr := env.locals :: env.cells.map (·.2)
section
variable {M : Model} {A : Around} {E : Value → Shared → Prop} {s : Shared} {env : Env} {m cm : Str → Option Value} {h h' : Heap}
theorem Fm.wok (F : Fm h env m cm) : WOk (fW env) h := fun w hw => by
  rcases List.mem_cons.mp hw with rfl | hw
  · obtain ⟨o, es, ep, e, d, _⟩ := F.ns
    exact ⟨o, e, .inl ⟨es, ep, d⟩⟩
  · obtain ⟨x, hx, rfl⟩ := List.mem_map.mp hw
    obtain ⟨o, e, d⟩ := F.cell _ _ (F.named x hx)
    exact ⟨o, e, .inr ⟨_, d⟩⟩
theorem Fm.via (F : Fm h env m cm) (k : ∀ b o, h.get? b = some o → b ∈ fW env → ¬ IsTab o → h'.get? b = some o) : Fm h' env m cm := by
  refine ⟨?_, fun n c hc => ?_, F.apart, F.named⟩
  · obtain ⟨o, es, ep, e, d, r⟩ := F.ns
    exact ⟨o, es, ep, k _ o e (.head _) (fun z => by obtain ⟨_, q⟩ := z.data; rw [d] at q; cases q), d, r⟩
  · obtain ⟨o, e, d⟩ := F.cell n c hc
    exact ⟨o, k _ o e (.tail _ (List.mem_map.mpr ⟨(n, c), mem_of_lookup hc, rfl⟩)) (fun z => by obtain ⟨_, q⟩ := z.data; rw [d] at q; cases q), d⟩
theorem Fm.keeps (F : Fm h env m cm) (k : ∀ b o, h.get? b = some o → h'.get? b = some o) : Fm h' env m cm := F.via fun b o e _ _ => k b o e
theorem Fm.cellNe (F : Fm h env m cm) {n : Str} {c : Addr} (hc : env.cells.lookup n = some c) : c ≠ env.locals := fun q => by
  obtain ⟨o, e, d⟩ := F.cell n c hc
  obtain ⟨o', es, ep, e', d', _⟩ := F.ns
  rw [q, e'] at e; cases e; rw [d] at d'; cases d'
theorem Fm.ldL {n : Str} {v : Value} {Q : Value → Shared → Prop} (F : Fm s.heap env m cm) (hk : env.scope.kind = .function) (hl : env.kindOf n = some .local) (hv : m n = some v) (h : Q v s) : wpAny M A (loadName env n) Q E s := wpAny_loadName_local hk hl F.ns hv h
theorem Fm.ldC {n : Str} {c : Addr} {v : Value} {Q : Value → Shared → Prop} (F : Fm s.heap env m cm) (hk : env.scope.kind = .function) (hl : env.kindOf n = some .cell) (hc : env.cells.lookup n = some c) (hv : cm n = some v) (h : Q v s) : wpAny M A (loadName env n) Q E s :=
  wpAny_loadName_cell hk hl hc (hv ▸ F.cell n c hc) h
theorem Fm.stL {n : Str} {v : Value} {Q : Unit → Shared → Prop} (F : Fm s.heap env m cm) (hk : env.scope.kind = .function) (hl : env.kindOf n = some .local)
    (hq : ∀ h' tk, Fm h' env (fun y => if y = n then some v else m y) cm → Ex (fW env) s.heap h' → Q () { s with heap := h', toks := tk }) : wpAny M A (storeName env n v) Q E s := by
  refine wpAny_storeName_local hl F.ns (fun h' hn' hs' => hq h' _ ⟨hn', fun k c hc => (F.cell k c hc).sameBut hs' (F.cellNe hc), F.apart, F.named⟩ fun b o hb e => ?_) (by rw [hk]; rfl)
  exact (hs'.2 b (fun q => hb (q ▸ .head _))).trans e
theorem Fm.stC {n : Str} {c : Addr} {v : Value} {Q : Unit → Shared → Prop} (F : Fm s.heap env m cm) (hk : env.scope.kind = .function) (hl : env.kindOf n = some .cell) (hc : env.cells.lookup n = some c)
    (hq : ∀ h' tk, Fm h' env m (fun y => if y = n then some v else cm y) → Ex (fW env) s.heap h' → Q () { s with heap := h', toks := tk }) : wpAny M A (storeName env n v) Q E s := by
  refine wpAny_storeName_cell hk hl hc (F.cell n c hc) fun h' hc' hs' => hq h' s.toks ⟨F.ns.sameBut hs' (Ne.symm (F.cellNe hc)), fun k c' hk' => ?_, F.apart, F.named⟩ fun b o hb e => ?_
  · by_cases hkn : k = n
    · subst hkn
      rw [hc] at hk'; cases hk'
      simpa using hc'
    · rw [if_neg hkn]
      exact (F.cell k c' hk').sameBut hs' fun e => hkn (name_of_addr F.apart (mem_of_lookup hk') (e ▸ mem_of_lookup hc))
  · exact (hs'.2 b (fun q => hb (q ▸ .tail _ (List.mem_map.mpr ⟨(n, c), mem_of_lookup hc, rfl⟩)))).trans e
theorem Fm.of {s₀ s : Shared} (x : InCallC s₀ env.locals m env.cells cm s) (hn : ∀ x ∈ env.cells, env.cells.lookup x.1 = some x.2) : Fm s.heap env m cm := ⟨x.toInCall.ns, x.cell, x.apart, hn⟩
end
section
variable {M : Model} {A : Around} {E : Value → Shared → Prop} {s : Shared}
/-- a lambda, its code made or found -/
theorem lam_make {params : Arguments} {body : Expr} {scope : Scope} {pos : Pos} {env : Env} {c P : Addr} {S : List (Pos × Str)} {mg : Str → Option Value} {clos : List (Str × Addr)} {qual : Str} {Q : Value → Shared → Prop}
    (hdef : defaultsOf params env = ([], [])) (hqn : env.qual ++ "<lambda>" = qual) (hcl : closureFor scope env = pure clos) (hge0 : env.globals = mainGlobals) (hg : s.heap.Ns mainGlobals mg) (hcode : env.code = .ref c) (C : CodeHd s.heap c P) (T : TabGood s.heap P S)
    (hgP : mainGlobals ≠ P) (hb : s.heap.BuiltinsAt mg P) (hS : (pos, qual) ∈ S) (hSS : ∀ x ∈ S, pos.line = x.1.line → pos.col = x.1.col → x.2 = qual)
    (hq : ∀ f cv ctv h' tk, (∀ b o, b ≠ P → s.heap.get? b = some o → h'.get? b = some o) → h'.get? f = some ⟨.type "function", none, .func (kla_fn "<lambda>" qual params body scope clos ((mg "__name__").getD .none) cv ctv), #[]⟩ → s.heap.get? f = none → h'.CodeRec cv qual → TabGood h' P S →
      Q (.ref f) { s with heap := h', toks := tk }) : wpAny M A (eval (.Lambda params body scope pos) env) Q E s := by
  refine kla_eval hdef ?_
  rw [hqn]
  obtain ⟨ps, hP, ok, good⟩ := T
  cases hc : codeAmong pos ps.toList with
  | some cv =>
    refine kla_makeFunctionHit hcl hge0 hg hcode C hP ok hc hb fun ctv h' tk k hs => ?_
    have kk : ∀ b o, s.heap.get? b = some o → (h'.push { cls := .type "function", data := .func (kla_fn "<lambda>" qual params body scope clos ((mg "__name__").getD .none) cv ctv) }).get? b = some o := fun b o e => Heap.get?_push_of_some _ (k b o e)
    exact hq h'.objs.size cv ctv _ tk (fun b o _ e => kk b o e) (Heap.get?_push_size _ rfl) (Heap.get?_none_of_le hs) ((good _ hS cv hc).keeps kk) ⟨ps, kk _ _ hP, ok, fun x hx cv' e => (good x hx cv' e).keeps kk⟩
  | none =>
    refine kla_makeFunction hcl hge0 hg hcode C hP ok hc hgP hb fun c' ctv h' tk ext hc1 hc2 rec tab => ?_
    have pk : ∀ b o, h'.get? b = some o → (h'.push (kla_obj "<lambda>" qual params body scope clos ((mg "__name__").getD .none) c' ctv)).get? b = some o := fun b o e => Heap.get?_push_of_some _ e
    have hl : (ps ++ #[rawInt pos.line, rawInt pos.col, Value.ref c']).toList = ps.toList ++ [rawInt pos.line, rawInt pos.col, .ref c'] := by simp
    refine hq h'.objs.size (.ref c') ctv _ tk (fun b o hb e => pk _ _ (ext b o hb e)) (Heap.get?_push_size _ rfl) (Heap.get?_none_of_le (Nat.le_of_lt (Nat.lt_of_le_of_lt hc1 hc2))) (rec.keeps pk) ⟨_, pk _ _ tab, by rw [hl]; exact TriplesOk_snoc _ _ _ _ ok, fun x hx cv e => ?_⟩
    rw [hl] at e
    rcases codeAmong_app _ ok e with e | e
    · exact (CodeRec.ext hP ok ext (good x hx cv e)).keeps pk
    · obtain ⟨⟨l1, l2⟩, rfl⟩ := codeAmong_one e
      rw [hSS x hx l1 l2]
      exact rec.keeps pk
end
end Mine
end

-- part O2
section
open PySem PySem.W PySem.W.X PySem.Calls PyProof.Rows
set_option maxRecDepth 100000
namespace Mine
/-- two objects under way, all others kept -/
structure In3 (K : Addr → Obj → Prop) (h : Heap) (N C : Addr) (oN oC : Obj) : Prop where
  keep : ∀ b o, K b o → h.get? b = some o
  n : h.get? N = some oN
  c : h.get? C = some oC
  nn : ∀ o, ¬ K N o
  cn : ∀ o, ¬ K C o
  ne : N ≠ C
section
variable {M : Model} {A : Around} {E : Value → Shared → Prop} {K : Addr → Obj → Prop} {h : Heap} {N C a : Addr} {oN oC o oN' oC' : Obj} {g : Array GenState} {d : Drawn} {t : Nat} {os : OsState} {f : Obj → Obj} {p : Option Value} {name : Str} {v : Value}
theorem In3.upN (I : In3 K h N C oN oC) (e : f oN = oN') (hf : oN'.isFreed = false) : In3 K (h.update N f) N C oN' oC :=
  ⟨fun b o k => Heap.get?_update_of_ne _ (fun q => I.nn o (q ▸ k)) (I.keep b o k), e ▸ Heap.get?_update_self f I.n (e ▸ hf), Heap.get?_update_of_ne _ I.ne I.c, I.nn, I.cn, I.ne⟩
theorem ns_get {Q : Option Value → Shared → Prop} {r : Option Value} (ho : h.get? a = some o) (hr : nsLook name o = pure r) (hq : Q r ⟨h, g, d, t, os⟩) : wpAny M A (nsGet a name) Q E ⟨h, g, d, t, os⟩ := by
  unfold nsGet
  exact wpAny_bind (wpAny_loadPart' ho (wpAny_of_eq hr hq))
theorem alloc_new {Q : Addr → Shared → Prop} (hf : o.isFreed = false) (hq : ∀ a h', (∀ b o', h.get? b = some o' → h'.get? b = some o') → h'.get? a = some o → h.get? a = none → Q a ⟨h', g, d, t, os⟩) : wpAny M A (alloc o) Q E ⟨h, g, d, t, os⟩ :=
  wpAny_alloc' (hq _ _ (fun _ _ e => Heap.get?_push_of_some _ e) (Heap.get?_push_size _ hf) (Heap.get?_none_of_le (Nat.le_refl _)))
end
end Mine
end

-- part W1
section
open PySem PySem.W PySem.W.X PySem.Calls PyProof.Rows
open Sem (wp)
set_option maxRecDepth 100000
set_option maxHeartbeats 400000
namespace Mine
/-- what a tree does first -/
inductive Op where
  | load (a : Addr)
  | alloc
  | upd (a : Addr)
  | fresh
  | ask
  | code (c : Code)
  | other
noncomputable def opOf {α : Type} : Sem α → Op
  | .load a _ _ => .load a
  | .alloc _ _ => .alloc
  | .update a _ _ _ => .upd a
  | .fresh _ => .fresh
  | .ask _ => .ask
  | .call c none _ _ _ => .code c
  | _ => .other
/-- past what changes nothing -/
noncomputable def sk {α : Type} : Nat → Sem α → Sem α
  | 0, t => t
  | n + 1, .rule _ k => sk n (k ())
  | n + 1, .at _ k => sk n (k ())
  | n + 1, .point _ k => sk n (k ())
  | _ + 1, t => t
noncomputable def kl0 {α : Type} : Sem α → Obj → Sem α
  | .load _ _ k, o => k o
  | t, _ => t
noncomputable def kl {α : Type} : Sem α → Obj → Sem α
  | .load _ _ k, o => sk 60 (k o)
  | t, _ => t
noncomputable def ku {α : Type} : Sem α → Sem α
  | .update _ _ _ k => sk 60 (k ())
  | t => t
noncomputable def fu {α : Type} : Sem α → Obj → Obj
  | .update _ _ f _, o => f o
  | _, o => o
noncomputable def ka {α : Type} : Sem α → Addr → Sem α
  | .alloc _ k, a => sk 60 (k a)
  | t, _ => t
noncomputable def oa {α : Type} : Sem α → Obj
  | .alloc o _ => o
  | _ => ⟨.none, none, .plain, #[]⟩
noncomputable def kt {α : Type} : Sem α → Tok → Sem α
  | .fresh k, x => sk 60 (k x)
  | t, _ => t
noncomputable def kk {α : Type} : Sem α → Setting → Sem α
  | .ask k, x => sk 60 (k x)
  | t, _ => t
noncomputable def kr {α : Type} : Sem α → Value → Sem α
  | .call _ _ _ _ k, v => sk 60 (k (.ok (.ret v)))
  | t, _ => t
section
variable {α : Type} {prog : Program} {w : World} {A : Around} {E : Value → Shared → Prop} {s : Shared} {Q : α → Shared → Prop} {t : Sem α}
noncomputable def Shown (t : Sem α) : Op → Prop
  | .load a => ∃ p k, t = .load a p k
  | .alloc => ∃ o k, t = .alloc o k
  | .upd a => ∃ p f k, t = .update a p f k
  | .fresh => ∃ k, t = .fresh k
  | .ask => ∃ k, t = .ask k
  | .code c => ∃ g l k, t = .call c none g l k
  | .other => True
theorem shown (t : Sem α) : Shown t (opOf t) := by
  cases t with
  | load a p k => exact ⟨p, k, rfl⟩
  | alloc o k => exact ⟨o, k, rfl⟩
  | update a p f k => exact ⟨p, f, k, rfl⟩
  | fresh k => exact ⟨k, rfl⟩
  | ask k => exact ⟨k, rfl⟩
  | call c h g l k => cases h with
    | none => exact ⟨g, l, k, rfl⟩
    | some x => exact trivial
  | _ => exact trivial
theorem wp_sk {M : Model} {Γ : Ctx} {Q : α → Pos → Shared → Prop} {E : Value → Pos → Shared → Prop} {s : Shared} : ∀ (n : Nat) (t : Sem α), (∀ p, wp M Γ (sk n t) Q E p s) → ∀ p, wp M Γ t Q E p s
  | 0, _, h => h
  | n + 1, t, h => by
    cases t with
    | rule _ k => exact fun p => wp_sk n (k ()) h p
    | «at» p' k => exact fun _ => wp_sk n (k ()) h p'
    | point _ k => exact fun p => wp_sk n (k ()) h p
    | _ => exact h
theorem w_sk {M : Model} {t : Sem α} (n : Nat) (h : wpAny M A (sk n t) Q E s) : wpAny M A t Q E s := fun Γ p hΓ => wp_sk n t (fun p' => h Γ p' hΓ) p
theorem shown_of {o : Op} (e : opOf t = o) : Shown t o := e ▸ shown t
theorem w_load0 {M : Model} {a : Addr} {o : Obj} (e : opOf t = .load a) (ho : s.heap.get? a = some o) (h : wpAny M A (kl0 t o) Q E s) : wpAny M A t Q E s := by
  obtain ⟨p, k, rfl⟩ := shown_of e
  exact fun Γ p hΓ => ⟨o, ho, h Γ p hΓ⟩
theorem w_load {M : Model} {a : Addr} {o : Obj} (e : opOf t = .load a) (ho : s.heap.get? a = some o) (h : wpAny M A (kl t o) Q E s) : wpAny M A t Q E s := by
  obtain ⟨p, k, rfl⟩ := shown_of e
  exact fun Γ p hΓ => ⟨o, ho, wp_sk 60 (k o) (fun p' => h Γ p' hΓ) p⟩
theorem w_upd {M : Model} {a : Addr} {o : Obj} (e : opOf t = .upd a) (ho : s.heap.get? a = some o) (h : wpAny M A (ku t) Q E { s with heap := s.heap.update a (fu t) }) : wpAny M A t Q E s := by
  obtain ⟨p, f, k, rfl⟩ := shown_of e
  exact fun Γ p hΓ => ⟨by rw [ho]; rfl, wp_sk 60 (k ()) (fun p' => h Γ p' hΓ) p⟩
theorem w_all {M : Model} (e : opOf t = .alloc) (h : wpAny M A (ka t s.heap.objs.size) Q E { s with heap := s.heap.push (oa t) }) : wpAny M A t Q E s := by
  obtain ⟨o, k, rfl⟩ := shown_of e
  exact fun Γ p hΓ => wp_sk 60 (k _) (fun p' => h Γ p' hΓ) p
theorem w_tok {M : Model} (e : opOf t = .fresh) (h : ∀ x tk, wpAny M A (kt t x) Q E { s with toks := tk }) : wpAny M A t Q E s := by
  obtain ⟨k, rfl⟩ := shown_of e
  exact fun Γ p hΓ => wp_sk 60 (k _) (fun p' => h _ _ Γ p' hΓ) p
theorem w_ask (e : opOf t = .ask) (h : wpAny (model prog w) A (kk t ⟨prog, w.params⟩) Q E s) : wpAny (model prog w) A t Q E s := by
  obtain ⟨k, rfl⟩ := shown_of e
  exact fun Γ p hΓ => wp_sk 60 (k _) (fun p' => h Γ p' hΓ) p
theorem w_pure {M : Model} {a : α} (e : t = .pure a) (h : Q a s) : wpAny M A t Q E s := by
  subst e
  exact fun Γ p hΓ => h
theorem w_code {c : Code} (e : opOf t = .code c) (h : wpAny (model prog w) A (runValue c) (fun v s' => wpAny (model prog w) A (kr t v) Q E s') (fun _ _ => False) s) : wpAny (model prog w) A t Q E s := by
  obtain ⟨g, l, k, rfl⟩ := shown_of e
  intro Γ p hΓ
  refine wpCode_mono (fun r s' hr => ?_) (h Γ p hΓ)
  rcases r with x | (_ | _ | _ | v)
  · exact False.elim hr
  · exact False.elim hr
  · exact False.elim hr
  · exact False.elim hr
  · exact wp_sk 60 (k _) (fun p' => hr Γ p' hΓ) p
/-- what collect leaves -/
theorem col_code {l : Addr} {o : Obj} {items : Array Value} {n : Nat} {Q : Value → Shared → Prop} (ho : s.heap.get? l = some o) (hc : o.cls = .type "list") (hd : o.data = .seq items n) (hz : items.size ≤ sizeLine)
    (hq : ∀ a h' c d items' n' sl, (∀ b o', s.heap.get? b = some o' → h'.get? b = some o') → h'.get? a = some ⟨c, d, .seq items' n', sl⟩ → items'.toList = items.toList → Q (.ref a) { s with heap := h' }) :
    wpAny (model prog w) A (runValue (.builtin "proto.collect" ⟨[.ref l], []⟩)) Q (fun _ _ => False) s := by
  have h := wpAny_collect_seq (prog := prog) (w := w) (A := A) (E := fun _ _ => False) (Q := fun vs s' => vs = items.toList ∧ ∃ h', s' = { s with heap := h' } ∧ ∀ b o', s.heap.get? b = some o' → h'.get? b = some o') l (.inl rfl) ho hc hd (fun h' k => ⟨rfl, h', rfl, k⟩) hz
  intro Γ p hΓ
  refine wpCode_mono (fun r s' hr => ?_) (h Γ p hΓ)
  rcases r with x | (_ | _ | _ | v)
  · exact False.elim hr
  · exact False.elim hr
  · exact False.elim hr
  · exact False.elim hr
  · cases v <;> first | exact False.elim hr | skip
    rename_i a
    obtain ⟨⟨c, d, dat, sl⟩, e, hr⟩ := hr
    cases dat <;> first | exact False.elim hr | skip
    obtain ⟨q1, h', rfl, k⟩ := hr
    exact hq a h' c d _ _ sl k e q1
end
end Mine
end

-- part W2
section
open PySem PySem.W PySem.W.X PySem.Calls PyProof.Rows
set_option maxRecDepth 100000
set_option maxHeartbeats 400000
namespace Mine
noncomputable def hashAt (o : Obj) (i : Nat) : Int := match o.data with
  | .dict es _ => match es[i]? with
    | some e => e.hash
    | none => 0
  | _ => 0
section
variable {α : Type} {prog : Program} {w : World} {A : Around} {E : Value → Shared → Prop} {Q : α → Shared → Prop} {t : Sem α} {K : Addr → Obj → Prop} {h : Heap} {N C : Addr} {oN oC : Obj} {g : Array GenState} {d : Drawn} {tk : Nat} {os : OsState} {M : Model}
theorem t_n (I : In3 K h N C oN oC) (e : opOf t = .load N) (q : wpAny M A (kl t oN) Q E ⟨h, g, d, tk, os⟩) : wpAny M A t Q E ⟨h, g, d, tk, os⟩ := w_load e I.n q
theorem t_c (I : In3 K h N C oN oC) (e : opOf t = .load C) (q : wpAny M A (kl t oC) Q E ⟨h, g, d, tk, os⟩) : wpAny M A t Q E ⟨h, g, d, tk, os⟩ := w_load e I.c q
theorem t_k (I : In3 K h N C oN oC) {a : Addr} {o : Obj} (hk : K a o) (e : opOf t = .load a) (q : wpAny M A (kl t o) Q E ⟨h, g, d, tk, os⟩) : wpAny M A t Q E ⟨h, g, d, tk, os⟩ := w_load e (I.keep _ _ hk) q
theorem t_un (I : In3 K h N C oN oC) (oN' : Obj) (e : opOf t = .upd N) (eo : fu t oN = oN') (hf : oN'.isFreed = false) (q : ∀ h', In3 K h' N C oN' oC → wpAny M A (ku t) Q E ⟨h', g, d, tk, os⟩) : wpAny M A t Q E ⟨h, g, d, tk, os⟩ := by
  subst eo
  refine w_upd e I.n (q _ ⟨fun b o k => ?_, Heap.get?_update_self _ I.n hf, Heap.get?_update_of_ne _ I.ne I.c, I.nn, I.cn, I.ne⟩)
  exact Heap.get?_update_of_ne _ (fun z => I.nn o (z ▸ k)) (I.keep _ _ k)
theorem t_uc (I : In3 K h N C oN oC) (oC' : Obj) (e : opOf t = .upd C) (eo : fu t oC = oC') (hf : oC'.isFreed = false) (q : ∀ h', In3 K h' N C oN oC' → wpAny M A (ku t) Q E ⟨h', g, d, tk, os⟩) : wpAny M A t Q E ⟨h, g, d, tk, os⟩ := by
  subst eo
  refine w_upd e I.c (q _ ⟨fun b o k => ?_, Heap.get?_update_of_ne _ (Ne.symm I.ne) I.n, Heap.get?_update_self _ I.c hf, I.nn, I.cn, I.ne⟩)
  exact Heap.get?_update_of_ne _ (fun z => I.cn o (z ▸ k)) (I.keep _ _ k)
theorem t_all (I : In3 K h N C oN oC) (o : Obj) (e : opOf t = .alloc) (eo : oa t = o) (hf : o.isFreed = false) (q : ∀ a h', In3 (fun b o' => K b o' ∨ (b = a ∧ o' = o)) h' N C oN oC → wpAny M A (ka t a) Q E ⟨h', g, d, tk, os⟩) : wpAny M A t Q E ⟨h, g, d, tk, os⟩ := by
  subst eo
  refine w_all e (q _ _ ⟨?_, Heap.get?_push_of_some _ I.n, Heap.get?_push_of_some _ I.c, ?_, ?_, I.ne⟩)
  · rintro b o' (k | ⟨rfl, rfl⟩)
    · exact Heap.get?_push_of_some _ (I.keep _ _ k)
    · exact Heap.get?_push_size _ hf
  · rintro o' (k | ⟨z, _⟩)
    · exact I.nn _ k
    · exact absurd (Heap.lt_size I.n) (by rw [z]; exact Nat.lt_irrefl _)
  · rintro o' (k | ⟨z, _⟩)
    · exact I.cn _ k
    · exact absurd (Heap.lt_size I.c) (by rw [z]; exact Nat.lt_irrefl _)
theorem t_unH (I : In3 K h N C oN oC) (i : Nat) (mk : Int → Obj) (e : opOf t = .upd N) (eo : fu t oN = mk (hashAt (fu t oN) i)) (hf : ∀ z, (mk z).isFreed = false) (q : ∀ z h', In3 K h' N C (mk z) oC → wpAny M A (ku t) Q E ⟨h', g, d, tk, os⟩) : wpAny M A t Q E ⟨h, g, d, tk, os⟩ :=
  t_un I _ e eo (hf _) (q _)
theorem t_tok (e : opOf t = .fresh) (q : ∀ x tk', wpAny M A (kt t x) Q E ⟨h, g, d, tk', os⟩) : wpAny M A t Q E ⟨h, g, d, tk, os⟩ := w_tok e q
theorem t_new (o : Obj) (e : opOf t = .alloc) (eo : oa t = o) (hf : o.isFreed = false) (q : ∀ a h', (∀ b o', h.get? b = some o' → h'.get? b = some o') → h'.get? a = some o → h.get? a = none → wpAny M A (ka t a) Q E ⟨h', g, d, tk, os⟩) : wpAny M A t Q E ⟨h, g, d, tk, os⟩ := by
  subst eo
  exact w_all e (q _ _ (fun _ _ z => Heap.get?_push_of_some _ z) (Heap.get?_push_size _ hf) (Heap.get?_none_of_le (Nat.le_refl _)))
end
end Mine
end

-- part O3
section
open PySem PySem.W PySem.W.X PySem.Calls PyProof.Rows
set_option maxRecDepth 100000
set_option maxHeartbeats 400000
namespace Mine
theorem wpAny_wide {α : Type} {M : Model} {A : Around} {t : Sem α} {Q : α → Shared → Prop} {E : Value → Shared → Prop} {s : Shared} {d u : Nat} (hd : A.depth ≤ d) (hu : A.units ≤ u) (x : wpAny M { A with depth := d, units := u } t Q E s) : wpAny M A t Q E s :=
  fun Γ p hΓ => x Γ p ⟨hΓ.1, Nat.le_trans hΓ.2.1 hd, hΓ.2.2.1, hΓ.2.2.2.1, Nat.le_trans hΓ.2.2.2.2 hu⟩
noncomputable abbrev clsO (C N : Addr) (q : Str) (sl : Array (Option Value)) : Obj := ⟨.type "type", none, .cls { name := "K", bases := [.type "object"], mro := [.ref C, .type "object"], ns := N, qualname := q, hasDict := false, slotNames := ["obj"] }, sl⟩
/-- one new object, all others kept -/
noncomputable def OneNew (h : Heap) (g : Array GenState) (d : Drawn) (tk : Nat) (os : OsState) (o : Obj) (v : Value) (s : Shared) : Prop :=
  ∃ a h', v = .ref a ∧ s = ⟨h', g, d, tk, os⟩ ∧ (∀ b o, h.get? b = some o → h'.get? b = some o) ∧ h'.get? a = some o
section
variable {prog : Program} {w : World} {A : Around} {E : Value → Shared → Prop} {h : Heap} {g : Array GenState} {d : Drawn} {tk : Nat} {os : OsState} {C N a : Addr} {sl : Array (Option Value)} {q : Str}
theorem t_up {α : Type} {M : Model} {Q : α → Shared → Prop} {t : Sem α} {s : Shared} {o o' : Obj} (e : opOf t = .upd a) (ho : s.heap.get? a = some o) (eo : fu t o = o') (hf : o'.isFreed = false)
    (q : ∀ h', (∀ b ob, b ≠ a → s.heap.get? b = some ob → h'.get? b = some ob) → h'.get? a = some o' → wpAny M A (ku t) Q E { s with heap := h' }) : wpAny M A t Q E s := by
  subst eo
  exact w_upd e ho (q _ (fun b ob n z => Heap.get?_update_of_ne _ (Ne.symm n) z) (Heap.get?_update_self _ ho hf))
/-- a call of a built-in, by its tree -/
theorem bi_call {id : String} {b : Builtin} {args : List Value} {s : Shared} {Q : Value → Shared → Prop} (hc : sk 60 (callAny (.builtin id) ⟨args, []⟩) = .pure (.again (.builtin id ⟨args, []⟩))) (hu : (Code.builtin id ⟨args, []⟩).quiet = true) (hb : entryFor table id = some b)
    (h : ∀ A', wpAny (model prog w) A' (b ⟨args, []⟩) (fun fin s' => ∃ v, fin = .done (.ret v) ∧ Q v s') E s) : wpAny (model prog w) A (call (.builtin id) args) Q E s := by
  refine wpAny_call (codeAny_of_tree ?_)
  refine w_sk 60 (w_pure hc ⟨hu, codeAny_builtin hb ?_⟩)
  refine wpAny_mono (h _) (fun fin s' hr => ?_) fun _ _ z => z
  obtain ⟨v, rfl, hv⟩ := hr
  exact hv
theorem sup_new {s : Shared} {Q : Value → Shared → Prop} (hq : ∀ x h', (∀ b o, s.heap.get? b = some o → h'.get? b = some o) → h'.get? x = some ⟨.type "super", none, .fields #[.none, .none, .none], #[]⟩ → s.heap.get? x = none → Q (.ref x) { s with heap := h' }) :
    wpAny (model prog w) A (call (.builtin "super.__new__") [.type "super", .ref C, .ref C]) Q E s := by
  refine bi_call (by kernel_rfl) (by with_unfolding_all rfl) F.ks_entry_super_new fun A' => ?_
  refine w_sk 60 ?_
  refine t_new ⟨.type "super", none, .fields #[.none, .none, .none], #[]⟩ (by kernel_rfl) (by kernel_rfl) rfl fun x h' k hx nx => ?_
  exact w_pure (a := .done (.ret (.ref x))) (by kernel_rfl) ⟨_, rfl, hq x h' k hx nx⟩
theorem sup_init {s : Shared} {x : Addr} {Q : Value → Shared → Prop} (hC : s.heap.get? C = some (clsO C N q sl)) (hx : s.heap.get? x = some ⟨.type "super", none, .fields #[.none, .none, .none], #[]⟩) (hq : ∀ h', (∀ b o, b ≠ x → s.heap.get? b = some o → h'.get? b = some o) → h'.get? x = some ⟨.type "super", none, .fields #[.ref C, .ref C, .ref C], #[]⟩ → Q .none { s with heap := h' }) :
    wpAny (model prog w) A (call (.builtin "super.__init__") [.ref x, .ref C, .ref C]) Q E s := by
  refine wpAny_call_entry F.ks_slot_super_init ⟨_, hx, rfl⟩ F.ks_entry_super_init ?_ (F.ks_initArgs_super _ _ _)
  refine w_sk 60 ?_
  refine w_load (a := C) (by kernel_rfl) hC ?_
  refine w_load (a := C) (by kernel_rfl) hC ?_
  refine w_load0 (a := C) (by kernel_rfl) hC ?_
  with_unfolding_all conv => arg 3; whnf
  have hm : ([.ref C, .type "object"] : List Value).contains (.ref C) = true := by simp
  with_unfolding_all show wpAny _ _ (Sem.bind (if ([.ref C, .type "object"] : List Value).contains (.ref C) = true then (pure (Value.ref C) : Sem Value) else _) _) _ _ _
  rw [if_pos hm]
  clear hm
  refine w_sk 60 ?_
  refine w_load (a := x) (by kernel_rfl) hx ?_
  refine t_up (o' := ⟨.type "super", none, .fields #[.ref C, .none, .none], #[]⟩) (by kernel_rfl) hx (by kernel_rfl) rfl fun h1 k1 hx => ?_
  refine w_load (a := x) (by kernel_rfl) hx ?_
  refine t_up (o' := ⟨.type "super", none, .fields #[.ref C, .ref C, .none], #[]⟩) (by kernel_rfl) hx (by kernel_rfl) rfl fun h2 k2 hx => ?_
  refine w_load (a := x) (by kernel_rfl) hx ?_
  refine t_up (o' := ⟨.type "super", none, .fields #[.ref C, .ref C, .ref C], #[]⟩) (by kernel_rfl) hx (by kernel_rfl) rfl fun h3 k3 hx => ?_
  exact w_pure (a := .done (.ret .none)) (by kernel_rfl) ⟨_, rfl, hq h3 (fun b o n e => k3 _ _ n (k2 _ _ n (k1 _ _ n e))) hx⟩
theorem super_call0 (hC : h.get? C = some (clsO C N q sl)) :
    wpAny (model prog w) A (call (.type "super") [.ref C, .ref C]) (OneNew h g d tk os ⟨.type "super", none, .fields #[.ref C, .ref C, .ref C], #[]⟩) (fun _ _ => False) ⟨h, g, d, tk, os⟩ := by
  refine wpAny_call (codeAny_of_tree (w_sk 60 (w_pure (a := .again (.builtin "type.__call__" ⟨[.type "super", .ref C, .ref C], []⟩)) (by kernel_rfl) ⟨by with_unfolding_all rfl, codeAny_builtin (entryFor_of_tree (b := Builtin.«type.__call__») (by kernel_rfl)) ?_⟩)))
  refine w_sk 60 ?_
  refine w_load (a := C) (by kernel_rfl) hC ?_
  refine w_code (c := .call (.builtin "super.__new__") ⟨[.type "super", .ref C, .ref C], []⟩) (by kernel_rfl) ?_
  refine sup_new fun x h1 k1 hx nx => ?_
  refine w_load (a := x) (by kernel_rfl) hx ?_
  refine w_load (a := x) (by kernel_rfl) hx ?_
  refine w_code (c := .call (.builtin "super.__init__") ⟨[.ref x, .ref C, .ref C], []⟩) (by kernel_rfl) ?_
  refine sup_init (k1 _ _ hC) hx fun h2 k2 hx => ?_
  exact w_pure (a := .done (.ret (.ref x))) (by kernel_rfl) ⟨x, h2, rfl, rfl, fun b o e => k2 _ _ (fun z => by rw [z, nx] at e; cases e) (k1 _ _ e), hx⟩
theorem isub_get0 (hC : h.get? C = some (clsO C N q sl)) :
    wpAny (model prog w) A (call (.builtin "classmethod_descriptor.__get__") [.builtin "object.__init_subclass__", .none, .ref C]) (OneNew h g d tk os ⟨.type "builtin_function_or_method", none, .fields #[.builtin "object.__init_subclass__", .ref C], #[]⟩) (fun _ _ => False) ⟨h, g, d, tk, os⟩ := by
  refine bi_call (by kernel_rfl) (by with_unfolding_all rfl) (entryFor_of_tree (b := Builtin.«classmethod_descriptor.__get__») (by kernel_rfl)) fun A' => ?_
  refine w_sk 60 ?_
  refine w_load (a := C) (by kernel_rfl) hC ?_
  refine w_load (a := C) (by kernel_rfl) hC ?_
  refine t_new ⟨.type "builtin_function_or_method", none, .fields #[.builtin "object.__init_subclass__", .ref C], #[]⟩ (by kernel_rfl) (by kernel_rfl) rfl fun x h' k hx _ => ?_
  exact w_pure (a := .done (.ret (.ref x))) (by kernel_rfl) ⟨_, rfl, x, h', rfl, rfl, k, hx⟩
theorem isub_call0 (hC : h.get? C = some (clsO C N "cmp_to_key.<locals>.K" sl)) (hf : h.get? a = some ⟨.type "builtin_function_or_method", none, .fields #[.builtin "object.__init_subclass__", .ref C], #[]⟩) :
    wpAny (model prog w) A (call (.ref a) []) (fun v s => v = .none ∧ s = ⟨h, g, d, tk, os⟩) (fun _ _ => False) ⟨h, g, d, tk, os⟩ := by
  refine wpAny_call (codeAny_of_tree (w_sk 60 ?_))
  refine w_load (a := a) (by kernel_rfl) hf ?_
  refine w_load (a := C) (by kernel_rfl) hC ?_
  refine w_load (a := C) (by kernel_rfl) hC ?_
  refine w_load (a := C) (by kernel_rfl) hC ?_
  refine w_load (a := C) (by kernel_rfl) hC ?_
  refine w_pure (a := .again (.builtin "object.__init_subclass__" ⟨[.ref C], []⟩)) (by kernel_rfl) ⟨by with_unfolding_all rfl, codeAny_builtin (entryFor_of_tree (b := Builtin.«object.__init_subclass__») (by kernel_rfl)) ?_⟩
  refine w_sk 60 ?_
  exact w_pure (a := .done (.ret .none)) (by kernel_rfl) ⟨rfl, rfl⟩
end
end Mine
end

-- part O4
section
open PySem PySem.W PySem.W.X PySem.Calls PyProof.Rows
set_option maxRecDepth 100000
set_option maxHeartbeats 4000000
namespace Mine
section
variable {prog : Program} {w : World} {A : Around} {E : Value → Shared → Prop} {h : Heap} {g : Array GenState} {d : Drawn} {tk : Nat} {os : OsState} {C N so : Addr} {sl ssl : Array (Option Value)} {q : Str} {oc : Value} {od : Option Addr} {ep : Nat}
noncomputable abbrev supO (C : Addr) : Obj := ⟨.type "super", none, .fields #[.ref C, .ref C, .ref C], #[]⟩
noncomputable abbrev bfO (C : Addr) : Obj := ⟨.type "builtin_function_or_method", none, .fields #[.builtin "object.__init_subclass__", .ref C], #[]⟩
theorem noOpaque {Q : Option Str → Shared → Prop} (hst : h.get? cStatics = some ⟨oc, od, .dict #[] ep, ssl⟩) (hq : Q none ⟨h, g, d, tk, os⟩) : wpAny (model prog w) A (opaqueClassAbove (.ref C)) Q E ⟨h, g, d, tk, os⟩ := by
  unfold opaqueClassAbove
  dsimp only
  refine wpAny_bind ?_
  unfold anyOpaqueLoaded
  refine wpAny_bind (ns_get hst (r := none) rfl (wpAny_pure ?_))
  exact wpAny_pure hq
theorem forIn_eq {M : Model} {α β : Type} {f : α → β → Sem (ForInStep β)} {b : β} {l l' : List α} {Q : β → Shared → Prop} {s : Shared} (e : l = l') (x : wpAny M A (forIn l' b f) Q E s) : wpAny M A (forIn l b f) Q E s := e ▸ x
theorem super_ga {Q : Fin → Shared → Prop} {tn : Tok} (hC : h.get? C = some (clsO C N q sl)) (hso : h.get? so = some (supO C)) (hst : h.get? cStatics = some ⟨oc, od, .dict #[] ep, ssl⟩) (hd : A.depth ≤ 900) (hu : A.units ≤ 5000)
    (hq : ∀ a h', (∀ b o, h.get? b = some o → h'.get? b = some o) → h'.get? a = some (bfO C) → Q (.done (.ret (.ref a))) ⟨h', g, d, tk, os⟩) :
    wpAny (model prog w) A (Builtin.«super.__getattribute__» ⟨[.ref so, .str "__init_subclass__" tn], []⟩) Q E ⟨h, g, d, tk, os⟩ := by
  have hdt : (supO C).data = .fields #[.ref C, .ref C, .ref C] := rfl
  have f0 : (#[.ref C, .ref C, .ref C] : Array Value)[0]? = some (.ref C) := rfl
  have f1 : (#[.ref C, .ref C, .ref C] : Array Value)[1]? = some (.ref C) := rfl
  have f2 : (#[.ref C, .ref C, .ref C] : Array Value)[2]? = some (.ref C) := rfl
  have ff : (Value.ref C == Value.ref C) = true := by simp
  have fm : (([.ref C, .type "object"] : List Value).dropWhile (· != .ref C)).drop 1 = [.type "object"] := by simp
  have fl : typeLookup (.type "classmethod_descriptor") "__get__" = pure (some (.builtin "classmethod_descriptor.__get__")) := by rw [typeLookup_type, builtinLookup_eq_fast]; kernel_rfl
  have ft : typeOf (.builtin "object.__init_subclass__") = pure (.type "classmethod_descriptor") := by kernel_rfl
  have fo : classOwn (.type "object") "__init_subclass__" = pure (some (.builtin "object.__init_subclass__")) := by kernel_rfl
  unfold Builtin.«super.__getattribute__»
  repeat (first
    | (with_reducible refine wpAny_field hso hdt f0 ?_) | (with_reducible refine wpAny_field hso hdt f1 ?_) | (with_reducible refine wpAny_field hso hdt f2 ?_)
    | (with_reducible refine wpAny_of_eq (by assumption) ?_)
    | (with_reducible refine noOpaque hst ?_)
    | (with_reducible refine forIn_eq fm ?_)
    | (with_reducible refine wpAny_mono (wpAny_wide hd hu (isub_get0 hC)) ?_ fun _ _ z => z.elim)
    | (simp only [ff, if_true])
    | wp_step
    | dsimp only)
  rintro v s' ⟨a, h', rfl, rfl, k, ha⟩
  repeat (first | wp_step | dsimp only)
  exact hq a h' k ha
end
end Mine
end

-- part W3
section
open PySem PySem.W PySem.W.X PySem.Calls PyProof.Rows
set_option maxRecDepth 100000
set_option maxHeartbeats 4000000
namespace Mine
noncomputable abbrev cEs (e : Nat → Int) (t : Nat → Tok) (mo fl q : Value) (sl fi flt fgt feq fle fge sa : Addr) : Array DictEntry :=
  #[⟨e 0, .str "__module__" (t 0), mo⟩, ⟨e 13, .str "__qualname__" (t 13), q⟩, ⟨e 1, .str "__firstlineno__" (t 1), fl⟩, ⟨e 2, .str "__slots__" (t 2), .ref sl⟩, ⟨e 3, .str "__init__" (t 3), .ref fi⟩,
   ⟨e 4, .str "__lt__" (t 4), .ref flt⟩, ⟨e 5, .str "__gt__" (t 5), .ref fgt⟩, ⟨e 6, .str "__eq__" (t 6), .ref feq⟩, ⟨e 7, .str "__le__" (t 7), .ref fle⟩, ⟨e 8, .str "__ge__" (t 8), .ref fge⟩,
   ⟨e 9, .str "__hash__" (t 9), .none⟩, ⟨e 10, .str "__static_attributes__" (t 10), .ref sa⟩]
noncomputable abbrev dEs (e : Nat → Int) (t : Nat → Tok) (mo fl : Value) (sl fi flt fgt feq fle fge sa : Addr) : Array DictEntry :=
  #[⟨e 0, .str "__module__" (t 0), mo⟩, ⟨e 1, .str "__firstlineno__" (t 1), fl⟩, ⟨e 2, .str "__slots__" (t 2), .ref sl⟩, ⟨e 3, .str "__init__" (t 3), .ref fi⟩,
   ⟨e 4, .str "__lt__" (t 4), .ref flt⟩, ⟨e 5, .str "__gt__" (t 5), .ref fgt⟩, ⟨e 6, .str "__eq__" (t 6), .ref feq⟩, ⟨e 7, .str "__le__" (t 7), .ref fle⟩, ⟨e 8, .str "__ge__" (t 8), .ref fge⟩,
   ⟨e 9, .str "__hash__" (t 9), .none⟩, ⟨e 10, .str "__static_attributes__" (t 10), .ref sa⟩]
/-- the class under way -/
noncomputable abbrev cO (N : Addr) (mro : List Value) (sn : List Str) (hd : Bool) (slots : Array (Option Value)) : Obj :=
  ⟨.type "type", none, .cls { name := "K", bases := [.type "object"], mro := mro, ns := N, qualname := "cmp_to_key.<locals>.K", hasDict := hd, slotNames := sn }, slots⟩
theorem w_flt {α : Type} {M : Model} {A : Around} {E : Value → Shared → Prop} {s : Shared} {Q : α → Shared → Prop} {l l' : List Value} {v : Value} {P : Value → Sem Bool} {F : Bool → Sem α} (hl : List.filter (fun x => x != v) l = l') (h : wpAny M A ((List.anyM P l').bind F) Q E s) :
    wpAny M A ((List.anyM P (List.filter (fun x => x != v) l)).bind F) Q E s := by rw [hl]; exact h
theorem type_new {prog : Program} {w : World} {A : Around} {E : Value → Shared → Prop} {Q : PySem.Fin → Shared → Prop} {h : Heap} {g : Array GenState} {d : Drawn} {tk : Nat} {os : OsState} {e : Nat → Int} {t : Nat → Tok} {tq tn tf tm ts : Tok} {bt n0 sl fi flt fgt feq fle fge sa : Addr} {ep n1 n2 : Nat}
    {mn : Str} {ln : Int} {oc : Value} {ocd : Option Addr} {eps : Nat} {ssl : Array (Option Value)}
    (hns : h.get? (Nat.succ (Nat.succ n0)) = some ⟨.type "dict", none, .dict (cEs e t (.str mn tm) (.int ln tf) (.str "cmp_to_key.<locals>.K" tq) sl fi flt fgt feq fle fge sa) ep, #[]⟩)
    (hbt : h.get? bt = some ⟨.type "tuple", none, .seq #[.type "object"] n1, #[]⟩)
    (hsl : h.get? sl = some ⟨.type "list", none, .seq #[.str "obj" ts] n2, #[]⟩)
    (hsa : ∃ o, h.get? sa = some o ∧ o.cls = .type "tuple")
    (hfn : ∀ f ∈ [fi, flt, fgt, feq, fle, fge], ∃ o, h.get? f = some o ∧ o.cls = .type "function")
    (hst : h.get? cStatics = some ⟨oc, ocd, .dict #[] eps, ssl⟩) (hd : A.depth ≤ 890) (hu : A.units ≤ 4990)
    (hq : ∀ C N md h' tk' e' t' tn', (∀ b o, h.get? b = some o → h'.get? b = some o) → h'.get? C = some (kObj C N "cmp_to_key.<locals>.K" (some (.ref bt)) none (some (.str "K" tn)) (some (.str "cmp_to_key.<locals>.K" tq)) (some (.bool false))) →
      h'.get? N = some (kNs e' t' (.str mn tm) (.int ln tf) sl fi flt fgt feq fle fge sa md 3) → h'.get? md = some (kMd tn' C) → h.get? C = none → h.get? N = none → Q (.done (.ret (.ref C))) ⟨h', g, d, tk', os⟩) :
    wpAny (model prog w) A (Builtin.«type.__new__» ⟨[.type "type", .str "K" tn, .ref bt, .ref (Nat.succ (Nat.succ n0))], []⟩) Q E ⟨h, g, d, tk, os⟩ := by
  refine w_sk 60 ?_
  refine w_load (a := bt) (by kernel_rfl) hbt ?_
  refine w_load (a := Nat.succ (Nat.succ n0)) (by kernel_rfl) hns ?_
  refine w_load (a := bt) (by kernel_rfl) hbt ?_
  refine w_load (a := Nat.succ (Nat.succ n0)) (by kernel_rfl) hns ?_
  refine w_load (a := Nat.succ (Nat.succ n0)) (by kernel_rfl) hns ?_
  refine w_load (a := sl) (by kernel_rfl) hsl ?_
  refine w_code (c := .builtin "proto.collect" ⟨[.ref sl], []⟩) (by kernel_rfl) ?_
  refine col_code hsl rfl rfl (show (1 : Nat) ≤ sizeLine from by decide) ?_
  intro x0 h1 c0 d0 its i0 s0 k1 hx0 hits
  obtain rfl : its = #[.str "obj" ts] := Array.toList_inj.mp hits
  refine w_load (a := x0) (by kernel_rfl) hx0 ?_
  refine t_new ⟨.type "dict", none, .dict (cEs e t (.str mn tm) (.int ln tf) (.str "cmp_to_key.<locals>.K" tq) sl fi flt fgt feq fle fge sa) 0, #[]⟩ (by kernel_rfl) (by kernel_rfl) rfl ?_
  intro N h2 k2 hN nN
  refine w_load (a := N) (by kernel_rfl) hN ?_
  refine w_load (a := N) (by kernel_rfl) hN ?_
  refine w_load (a := N) (by kernel_rfl) hN ?_
  refine t_new ⟨.type "type", none, .cls { name := "K", bases := [.type "object"], mro := [], ns := N, qualname := "cmp_to_key.<locals>.K" }, #[]⟩ (by kernel_rfl) (by kernel_rfl) rfl ?_
  intro C h3 k3 hC nC
  have I : In3 (fun b o => h1.get? b = some o) h3 N C _ _ := ⟨fun b o q => k3 _ _ (k2 _ _ q), k3 _ _ hN, hC, fun o q => (by rw [nN] at q; cases q), fun o q => (by rw [k2 _ _ q] at nC; cases nC), fun q => (by rw [← q, hN] at nC; cases nC)⟩
  clear hN hC
  refine t_uc I (cO N [] [] true #[some (.ref bt)]) (by kernel_rfl) (by kernel_rfl) rfl ?_
  clear I; intro h4 I
  refine t_uc I (cO N [] [] true #[some (.ref bt), none, some (.str "K" tn)]) (by kernel_rfl) (by kernel_rfl) rfl ?_
  clear I; intro h5 I
  refine t_uc I (cO N [] [] true #[some (.ref bt), none, some (.str "K" tn), some (.str "cmp_to_key.<locals>.K" tq)]) (by kernel_rfl) (by kernel_rfl) rfl ?_
  clear I; intro h6 I
  refine t_n I (by kernel_rfl) ?_
  refine t_un I ⟨.type "dict", none, .dict (dEs e t (.str mn tm) (.int ln tf) sl fi flt fgt feq fle fge sa) 1, #[]⟩ (by kernel_rfl) (by kernel_rfl) rfl ?_
  clear I; intro h7 I
  refine t_n I (by kernel_rfl) ?_
  refine t_n I (by kernel_rfl) ?_
  refine t_n I (by kernel_rfl) ?_
  refine t_n I (by kernel_rfl) ?_
  refine w_load0 (by kernel_rfl) I.n ?_
  with_unfolding_all conv => arg 3; whnf
  refine w_flt (l' := [.type "object"]) (by simp) ?_
  refine w_sk 60 ?_
  refine t_c I (by kernel_rfl) ?_
  refine t_uc I (cO N [.ref C, .type "object"] [] true #[some (.ref bt), none, some (.str "K" tn), some (.str "cmp_to_key.<locals>.K" tq)]) (by kernel_rfl) (by kernel_rfl) rfl ?_
  clear I; intro h8 I
  refine t_c I (by kernel_rfl) ?_
  refine t_uc I (cO N [.ref C, .type "object"] [] true #[some (.ref bt), none, some (.str "K" tn), some (.str "cmp_to_key.<locals>.K" tq), some (.builtin "object.__new__")]) (by kernel_rfl) (by kernel_rfl) rfl ?_
  clear I; intro h9 I
  refine t_c I (by kernel_rfl) ?_
  refine t_c I (by kernel_rfl) ?_
  refine t_c I (by kernel_rfl) ?_
  refine t_n I (by kernel_rfl) ?_
  refine t_n I (by kernel_rfl) ?_
  refine t_tok (by kernel_rfl) ?_
  intro x3 tk1
  refine t_all I (kMd x3 C) (by kernel_rfl) (by kernel_rfl) rfl ?_
  clear I; intro md h10 I
  refine t_n I (by kernel_rfl) ?_
  refine w_ask (by kernel_rfl) ?_
  refine t_tok (by kernel_rfl) ?_
  intro x5 tk2
  refine t_n I (by kernel_rfl) ?_
  refine t_unH I 11 (fun z => ⟨.type "dict", none, .dict (dEs e t (.str mn tm) (.int ln tf) sl fi flt fgt feq fle fge sa ++ #[⟨z, .str "obj" x5, .ref md⟩]) 2, #[]⟩) (by kernel_rfl) (by kernel_rfl) (fun _ => rfl) ?_
  clear I; intro z1 h11 I
  refine t_c I (by kernel_rfl) ?_
  refine t_uc I (cO N [.ref C, .type "object"] ["obj"] false #[some (.ref bt), none, some (.str "K" tn), some (.str "cmp_to_key.<locals>.K" tq), some (.builtin "object.__new__")]) (by kernel_rfl) (by kernel_rfl) rfl ?_
  clear I; intro h12 I
  refine t_c I (by kernel_rfl) ?_
  refine t_uc I (cO N [.ref C, .type "object"] ["obj"] false #[some (.ref bt), none, some (.str "K" tn), some (.str "cmp_to_key.<locals>.K" tq), some (.builtin "object.__new__"), some (.bool false)]) (by kernel_rfl) (by kernel_rfl) rfl ?_
  clear I; intro h13 I
  refine t_n I (by kernel_rfl) ?_
  refine w_ask (by kernel_rfl) ?_
  refine t_tok (by kernel_rfl) ?_
  intro x6 tk3
  refine t_n I (by kernel_rfl) ?_
  refine t_unH I 12 (fun z => kNs (fun n => if n = 11 then z1 else if n = 12 then z else e n) (fun n => if n = 11 then x5 else if n = 12 then x6 else t n) (.str mn tm) (.int ln tf) sl fi flt fgt feq fle fge sa md 3) (by kernel_rfl) (by kernel_rfl) (fun _ => rfl) ?_
  clear I; intro z2 h14 I
  refine t_n I (by kernel_rfl) ?_
  refine t_n I (by kernel_rfl) ?_
  refine t_n I (by kernel_rfl) ?_
  refine t_n I (by kernel_rfl) ?_
  have up : ∀ b o, h.get? b = some o → h14.get? b = some o := fun b o q => I.keep _ _ (.inl (k1 _ _ q))
  obtain ⟨⟨_, _, _, _⟩, hfi, rfl⟩ := hfn fi (.head _)
  obtain ⟨⟨_, _, _, _⟩, hflt, rfl⟩ := hfn flt (.tail _ (.head _))
  obtain ⟨⟨_, _, _, _⟩, hfgt, rfl⟩ := hfn fgt (.tail _ (.tail _ (.head _)))
  obtain ⟨⟨_, _, _, _⟩, hfeq, rfl⟩ := hfn feq (.tail _ (.tail _ (.tail _ (.head _))))
  obtain ⟨⟨_, _, _, _⟩, hfle, rfl⟩ := hfn fle (.tail _ (.tail _ (.tail _ (.tail _ (.head _)))))
  obtain ⟨⟨_, _, _, _⟩, hfge, rfl⟩ := hfn fge (.tail _ (.tail _ (.tail _ (.tail _ (.tail _ (.head _))))))
  obtain ⟨⟨_, _, _, _⟩, hsa, rfl⟩ := hsa
  refine w_load (a := sl) (by kernel_rfl) (up _ _ hsl) ?_
  refine w_load (a := fi) (by kernel_rfl) (up _ _ hfi) ?_
  refine w_load (a := flt) (by kernel_rfl) (up _ _ hflt) ?_
  refine w_load (a := fgt) (by kernel_rfl) (up _ _ hfgt) ?_
  refine w_load (a := feq) (by kernel_rfl) (up _ _ hfeq) ?_
  refine w_load (a := fle) (by kernel_rfl) (up _ _ hfle) ?_
  refine w_load (a := fge) (by kernel_rfl) (up _ _ hfge) ?_
  refine w_load (a := sa) (by kernel_rfl) (up _ _ hsa) ?_
  refine t_k I (a := md) (.inr ⟨rfl, rfl⟩) (by kernel_rfl) ?_
  refine w_code (c := .call (.type "super") ⟨[.ref C, .ref C], []⟩) (by kernel_rfl) ?_
  refine wpAny_mono (wpAny_wide (by omega) (by omega) (super_call0 I.c)) ?_ fun _ _ z => z.elim
  rintro v s' ⟨so, h15, rfl, rfl, k15, hso⟩
  refine t_tok (by kernel_rfl) ?_
  intro x8 tk4
  refine w_load (a := so) (by kernel_rfl) hso ?_
  refine w_code (c := .call (.builtin "super.__getattribute__") ⟨[.ref so, .str "__init_subclass__" x8], []⟩) (by kernel_rfl) ?_
  refine wpAny_mono (Q := fun v s' => ∃ a h', v = .ref a ∧ s' = ⟨h', g, d, tk4, os⟩ ∧ (∀ b o, h15.get? b = some o → h'.get? b = some o) ∧ h'.get? a = some (bfO C)) (E := fun _ _ => False)
    (show wpAny (model prog w) A (call (.builtin "super.__getattribute__") (.ref so :: [.str "__init_subclass__" x8])) _ _ ⟨h15, g, d, tk4, os⟩ from wpAny_call_entry F.ks_slot_super_ga ⟨_, hso, rfl⟩ F.ks_entry_super_ga (super_ga (k15 _ _ I.c) hso (k15 _ _ (up _ _ hst)) (by show A.depth + 0 ≤ _; omega) (by show A.units + 1 ≤ _; omega) fun a h' k ha => ⟨_, rfl, a, h', rfl, rfl, k, ha⟩) (F.ks_gaArgs_super _ _)) ?_ fun _ _ z => z
  rintro _ _ ⟨bf, h16, rfl, rfl, k16, hbf⟩
  refine w_code (c := .call (.ref bf) ⟨[], []⟩) (by kernel_rfl) ?_
  refine wpAny_mono (wpAny_wide (by omega) (by omega) (isub_call0 (k16 _ _ (k15 _ _ I.c)) hbf)) ?_ fun _ _ z => z
  rintro _ _ ⟨rfl, rfl⟩
  refine w_pure (a := .done (.ret (.ref C))) (by kernel_rfl) ?_
  exact hq C N md h16 _ _ _ _ (fun b o q => k16 _ _ (k15 _ _ (up _ _ q))) (k16 _ _ (k15 _ _ I.c)) (k16 _ _ (k15 _ _ I.n)) (k16 _ _ (k15 _ _ (I.keep _ _ (.inr ⟨rfl, rfl⟩)))) (by cases q : h.get? C with | none => rfl | some o => exact absurd (.inl (k1 _ _ q)) (I.cn o)) (by cases q : h.get? N with | none => rfl | some o => exact absurd (.inl (k1 _ _ q)) (I.nn o))
end Mine
end

-- part O7
section
open PySem PySem.W PySem.W.X PySem.Calls PyProof.Rows
set_option maxRecDepth 100000
set_option maxHeartbeats 4000000
namespace Mine
/-- what a new key class is, behind the call of type -/
noncomputable def NewK (h h' : Heap) (C : Addr) (sl fi flt fgt feq fle fge sa : Addr) : Prop :=
  ∃ N md k0 k2 k3 e t mo fl tn, (∀ b o, h.get? b = some o → h'.get? b = some o) ∧ h'.get? C = some (kObj C N "cmp_to_key.<locals>.K" k0 none k2 k3 (some (.bool false))) ∧
    h'.get? N = some (kNs e t mo fl sl fi flt fgt feq fle fge sa md 3) ∧ h'.get? md = some (kMd tn C) ∧ h.get? C = none ∧ h.get? N = none
theorem type_call {prog : Program} {w : World} {A : Around} {E : Value → Shared → Prop} {Q : Value → Shared → Prop} {h : Heap} {g : Array GenState} {d : Drawn} {tk : Nat} {os : OsState} {e : Nat → Int} {t : Nat → Tok} {tq tn tf tm ts : Tok} {bt ns sl fi flt fgt feq fle fge sa : Addr} {ep n1 n2 : Nat}
    {mn : Str} {ln : Int} {oc : Value} {ocd : Option Addr} {eps : Nat} {ssl : Array (Option Value)}
    (hsm : 1 < ns) (hns : h.get? ns = some ⟨.type "dict", none, .dict (cEs e t (.str mn tm) (.int ln tf) (.str "cmp_to_key.<locals>.K" tq) sl fi flt fgt feq fle fge sa) ep, #[]⟩)
    (hbt : h.get? bt = some ⟨.type "tuple", none, .seq #[.type "object"] n1, #[]⟩)
    (hsl : h.get? sl = some ⟨.type "list", none, .seq #[.str "obj" ts] n2, #[]⟩)
    (hsa : ∃ o, h.get? sa = some o ∧ o.cls = .type "tuple")
    (hfn : ∀ f ∈ [fi, flt, fgt, feq, fle, fge], ∃ o, h.get? f = some o ∧ o.cls = .type "function")
    (hst : h.get? cStatics = some ⟨oc, ocd, .dict #[] eps, ssl⟩) (hd : A.depth ≤ 880) (hu : A.units ≤ 4980)
    (hq : ∀ C h' tk', NewK h h' C sl fi flt fgt feq fle fge sa → Q (.ref C) ⟨h', g, d, tk', os⟩) :
    wpAny (model prog w) A (call (.type "type") [.str "K" tn, .ref bt, .ref ns]) Q E ⟨h, g, d, tk, os⟩ := by
  obtain ⟨n0, rfl⟩ : ∃ n0, ns = Nat.succ (Nat.succ n0) := match ns, hsm with
    | n + 2, _ => ⟨n, rfl⟩
  have f1 : checkTypeCall "type" ⟨[.str "K" tn, .ref bt, .ref (Nat.succ (Nat.succ n0))], []⟩ = pure () := by kernel_rfl
  have f2 : mroOf (.type "type") = pure [.type "type", .type "object"] := by rw [mroOf_type]; kernel_rfl
  have f3 : Bind.madeBy (.type "type") = pure (some "type.__new__") := by kernel_rfl
  have f4 : isSubtype (.type "type") (.type "type") = pure true := by rw [isSubtype_type]; kernel_rfl
  refine wpAny_call (codeAny_of_tree ?_)
  show wpAny _ _ (callAny (.type "type") _) _ _ _
  refine wpAny_pure ⟨Code.quiet_builtin _ (by decide +kernel), codeAny_builtin F.entry_type_call ?_⟩
  rw [Around.under_plain (weight_type_call_type "type" _ []) rfl]
  unfold Builtin.«type.__call__»
  have f5 : checkBuiltinCall "type.__new__" ⟨[.type "type", .str "K" tn, .ref bt, (.ref (Nat.succ (Nat.succ n0)))], []⟩ = pure () := by kernel_rfl
  have f6 : entryFor table "type.__new__" = some Builtin.«type.__new__» := entryFor_of_tree (by kernel_rfl)
  have f7 : plainId "type.__new__" = true := by decide +kernel
  iterate 15 (first | (with_reducible refine wpAny_of_eq (by assumption) ?_) | wp_step)
  refine wpAny_call ?_
  refine codeAny_of_tree ?_
  show wpAny _ _ (do checkBuiltinCall "type.__new__" ⟨[.type "type", .str "K" tn, .ref bt, (.ref (Nat.succ (Nat.succ n0)))], []⟩; again (.builtin "type.__new__" ⟨[.type "type", .str "K" tn, .ref bt, (.ref (Nat.succ (Nat.succ n0)))], []⟩)) _ _ _
  refine wpAny_bind (wpAny_of_eq f5 (wpAny_pure ⟨plainId_quiet f7 _, codeAny_builtin f6 ?_⟩))
  rw [Around.under_plainId f7 _]
  refine type_new hns hbt hsl hsa hfn hst (by show A.depth ≤ 890; omega) (by show A.units + 1 + 1 ≤ 4990; omega) fun C N md h' tk' e' t' tn' k hC hN hmd hCn hNn => ?_
  have nk : NewK h h' C sl fi flt fgt feq fle fge sa := ⟨N, md, _, _, _, e', t', _, _, tn', k, hC, hN, hmd, hCn, hNn⟩
  show wpAny _ _ _ _ _ _
  have SI : Slot "type" "__init__" "type.__init__" := .of (owner := "type") (n := "__init__") (by rw [typeLookup_type, builtinLookup_eq_fast]; kernel_rfl) (by decide +kernel) (by decide +kernel) (by decide +kernel) (.inl (by decide +kernel)) f4
  have hT : (⟨h', g, d, tk', os⟩ : Shared).TypeIs (.ref C) "type" := ⟨_, hC, rfl⟩
  refine wpAny_bind (wpAny_isInstance hT f4 ?_)
  iterate 2 wp_step
  have g1 := SI.lookup
  have g2 := SI.bind (.ref C)
  iterate 7 (first | (with_reducible refine wpAny_of_eq (by assumption) ?_) | wp_step)
  refine wpAny_bind (wpAny_call_entry (self := .ref C) (rest := [.str "K" tn, .ref bt, .ref (Nat.succ (Nat.succ n0))]) SI hT (entryFor_of_tree (by kernel_rfl)) (b := Builtin.«type.__init__») (wpAny_pure ⟨_, rfl, ?_⟩) (by unfold argsOk; kernel_rfl))
  repeat wp_step
  exact hq C h' tk' nk
end Mine
end

-- part P2
section
open PySem PySem.W PySem.Calls PyProof.Rows
set_option maxRecDepth 100000
namespace Mine
/-- a class body under way: its namespace N, its code's table P, what it has made so far -/
structure CB (K : Addr → Obj → Prop) (h : Heap) (N P : Addr) (oN : Obj) (S : List (Pos × Str)) (L : List (Addr × Obj)) (R : List (Value × Str)) : Prop where
  tab : ∃ ps, In3 K h N P oN (tabObj ps) ∧ TriplesOk ps.toList ∧ ∀ x ∈ S, ∀ cv, codeAmong x.1 ps.toList = some cv → h.CodeRec cv x.2
  dict : ∃ es ep, oN.data = .dict es ep
  objs : ∀ x ∈ L, h.get? x.1 = some x.2 ∧ x.1 ≠ N ∧ x.1 ≠ P
  recs : ∀ x ∈ R, h.CodeRec x.1 x.2
section
variable {M : Model} {A : Around} {E : Value → Shared → Prop} {K : Addr → Obj → Prop} {h h' : Heap} {N P : Addr} {oN oN' : Obj} {S : List (Pos × Str)} {L : List (Addr × Obj)} {R : List (Value × Str)} {g : Array GenState} {d : Drawn} {t : Nat} {os : OsState}
theorem CB.code (B : CB K h N P oN S L R) (k : ∀ b o, b ≠ N → b ≠ P → h.get? b = some o → h'.get? b = some o) {cv : Value} {q : Str} (c : h.CodeRec cv q) : h'.CodeRec cv q := by
  obtain ⟨c, o, vs, tt, e1, e2, e3, e4⟩ := c
  obtain ⟨es, ep, hdd⟩ := B.dict
  obtain ⟨ps, I, ok, _⟩ := B.tab
  refine ⟨c, o, vs, tt, e1, k _ _ (fun q => ?_) (fun q => ?_) e2, e3, e4⟩
  · rw [q, I.n] at e2; cases e2; rw [hdd] at e3; cases e3
  · rw [q, I.c] at e2; cases e2
    have e5 : ps = vs := by injection e3
    subst e5
    exact tri_no ok e4
theorem CB.move (B : CB K h N P oN S L R) {ps' : Array Value} (k : ∀ b o, b ≠ N → b ≠ P → h.get? b = some o → h'.get? b = some o) (hN : h'.get? N = some oN') (hP : h'.get? P = some (tabObj ps')) (hd : ∃ es ep, oN'.data = .dict es ep) (ok : TriplesOk ps'.toList)
    (good : ∀ x ∈ S, ∀ cv, codeAmong x.1 ps'.toList = some cv → h'.CodeRec cv x.2) : CB K h' N P oN' S L R := by
  obtain ⟨ps, I, _, _⟩ := B.tab
  refine ⟨⟨ps', ⟨fun b o q => k _ _ (fun z => I.nn o (z ▸ q)) (fun z => I.cn o (z ▸ q)) (I.keep b o q), hN, hP, I.nn, I.cn, I.ne⟩, ok, good⟩, hd, fun x hx => ?_, fun x hx => B.code k (B.recs x hx)⟩
  obtain ⟨e, n1, n2⟩ := B.objs x hx
  exact ⟨k _ _ n1 n2 e, n1, n2⟩
theorem CB.same (B : CB K h N P oN S L R) (k : ∀ b o, h.get? b = some o → h'.get? b = some o) : CB K h' N P oN S L R := by
  obtain ⟨ps, I, ok, good⟩ := B.tab
  exact B.move (fun b o _ _ e => k b o e) (k _ _ I.n) (k _ _ I.c) B.dict ok fun x hx cv e => (good x hx cv e).keeps k
/-- a new object -/
theorem CB.alloc {o : Obj} {Q : Addr → Shared → Prop} (B : CB K h N P oN S L R) (hf : o.isFreed = false) (hq : ∀ a h', CB K h' N P oN S ((a, o) :: L) R → h.get? a = none → Q a ⟨h', g, d, t, os⟩) : wpAny M A (alloc o) Q E ⟨h, g, d, t, os⟩ := by
  refine alloc_new hf fun a h' k e n => ?_
  have B' := B.same k
  obtain ⟨ps, I, _, _⟩ := B.tab
  refine hq a h' ⟨B'.tab, B'.dict, fun x hx => ?_, B'.recs⟩ n
  rcases List.mem_cons.mp hx with rfl | hx
  · exact ⟨e, fun q => (by dsimp only at q; rw [q, I.n] at n; cases n), fun q => (by dsimp only at q; rw [q, I.c] at n; cases n)⟩
  · exact B'.objs x hx
noncomputable abbrev dE (l : List (Str × Int × Tok × Value)) : List DictEntry := l.map fun x => ⟨x.2.1, .str x.1 x.2.2.1, x.2.2.2⟩
noncomputable abbrev dO (l : List (Str × Int × Tok × Value)) (ep : Nat) : Obj := ⟨.type "dict", none, .dict (dE l).toArray ep, #[]⟩
/-- a name is bound in the class body -/
theorem CB.store {env : Env} {name : Str} {v : Value} {Q : Unit → Shared → Prop} {es : Array DictEntry} {ep : Nat} {oN' : Int → Tok → Obj} (B : CB K h N P oN S L R) (hs : storeName env name v = localSet env name v) (hl : env.locals = N) (hc : oN.cls = .type "dict")
    (hd : oN.data = .dict es ep) (hr : aRefKeyMayBeTheName name es = false) (e : ∀ eh tk, Obj.putName name eh (.str name tk) v oN = oN' eh tk) (hf : ∀ eh tk, (oN' eh tk).isFreed = false) (hd' : ∀ eh tk, ∃ es ep, (oN' eh tk).data = .dict es ep)
    (hq : ∀ h' eh tk, CB K h' N P (oN' eh tk) S L R → Q () ⟨h', g, d, t + 1, os⟩) : wpAny M A (storeName env name v) Q E ⟨h, g, d, t, os⟩ := by
  obtain ⟨ps, I, ok, good⟩ := B.tab
  rw [hs]
  unfold localSet
  rw [hl]
  refine wpAny_bind (wpAny_load' I.n ?_)
  rw [hc, if_pos (by decide)]
  unfold nsSet
  refine wpAny_bind ?_
  unfold strHash
  refine wpAny_bind (wpAny_askSetting (wpAny_pure ?_))
  refine wpAny_bind (wpAny_mkText ?_)
  refine wpAny_bind (wpAny_loadPart' I.n ?_)
  rw [hd]
  dsimp only
  rw [hr, if_neg (by decide)]
  have k : ∀ eh tk b o, b ≠ N → b ≠ P → h.get? b = some o → (h.update N (Obj.putName name eh (.str name tk) v)).get? b = some o := fun _ _ b o hb _ e => Heap.get?_update_of_ne _ (Ne.symm hb) e
  have I' := fun eh tk => I.upN (f := Obj.putName name eh (.str name tk) v) (e eh tk) (hf eh tk)
  exact wpAny_updatePart' I.n (hq _ _ _ (B.move (k _ _) (I' _ _).n (I' _ _).c (hd' _ _) ok fun x hx cv e => B.code (k _ _) (good x hx cv e)))
theorem CB.put {env : Env} {name : Str} {v : Value} {Q : Unit → Shared → Prop} {l : List (Str × Int × Tok × Value)} {ep : Nat} (B : CB K h N P (dO l ep) S L R) (hs : storeName env name v = localSet env name v) (hl : env.locals = N)
    (hr : aRefKeyMayBeTheName name (dE l).toArray = false) (e : ∀ eh tk, Obj.putName name eh (.str name tk) v (dO l ep) = dO (l ++ [(name, eh, tk, v)]) (ep + 1))
    (hq : ∀ h' eh tk, CB K h' N P (dO (l ++ [(name, eh, tk, v)]) (ep + 1)) S L R → Q () ⟨h', g, d, t + 1, os⟩) : wpAny M A (storeName env name v) Q E ⟨h, g, d, t, os⟩ :=
  B.store (es := (dE l).toArray) (ep := ep) hs hl rfl rfl hr e (fun _ _ => rfl) (fun _ _ => ⟨_, _, rfl⟩) hq
/-- a def in the class body -/
theorem CB.fn {name qual : Str} {params : Arguments} {body : List Stmt} {scope : Scope} {env : Env} {c : Addr} {pos : Pos} {firstLine : Nat} {mg : Str → Option Value} {clos : List (Str × Addr)} {Q : Value → Shared → Prop}
    (B : CB K h N P oN S L R) (hcl : closureFor scope env = pure clos) (hge0 : env.globals = mainGlobals) (hcode : env.code = .ref c) (hgP : mainGlobals ≠ P)
    (hK : ∀ h', (∀ b o, K b o → h'.get? b = some o) → h'.Ns mainGlobals mg ∧ CodeHd h' c P ∧ h'.BuiltinsAt mg P)
    (hS : (pos, qual) ∈ S) (hSS : ∀ x ∈ S, pos.line = x.1.line → pos.col = x.1.col → x.2 = qual)
    (hq : ∀ f cv ctv doc h' tk, CB K h' N P oN S ((f, ⟨.type "function", none, .func (fnX name qual params body scope clos .none .none doc ((mg "__name__").getD .none) none cv ctv), #[]⟩) :: L) ((cv, qual) :: R) → Q (.ref f) ⟨h', g, d, tk, os⟩) :
    wpAny M A (makeFunction name qual params (.stmts body) scope env [] [] [] pos firstLine) Q E ⟨h, g, d, t, os⟩ := by
  obtain ⟨ps, I, ok, good⟩ := B.tab
  obtain ⟨hg, C, hb⟩ := hK h I.keep
  have nl := Heap.lt_size I.n
  have pl := Heap.lt_size I.c
  have fin : ∀ {f : Addr} {h' : Heap} {o : Obj} {cv : Value}, CB K h' N P oN S L R → h'.get? f = some o → h.get? f = none → h'.CodeRec cv qual → CB K h' N P oN S ((f, o) :: L) ((cv, qual) :: R) := by
    intro f h' o cv B' e n r
    refine ⟨B'.tab, B'.dict, fun x hx => ?_, fun x hx => ?_⟩
    · rcases List.mem_cons.mp hx with rfl | hx
      · exact ⟨e, fun q => (by dsimp only at q; rw [q, I.n] at n; cases n), fun q => (by dsimp only at q; rw [q, I.c] at n; cases n)⟩
      · exact B'.objs x hx
    · rcases List.mem_cons.mp hx with rfl | hx
      · exact r
      · exact B'.recs x hx
  cases hc : codeAmong pos ps.toList with
  | some cv =>
    refine makeFunction_hit (s := ⟨h, g, d, t, os⟩) hcl hge0 hg hcode C I.c ok hc hb fun ctv doc h' tk k hs => ?_
    have kk : ∀ b o, h.get? b = some o → (h'.push { cls := .type "function", data := .func (fnX name qual params body scope clos .none .none doc ((mg "__name__").getD .none) none cv ctv) }).get? b = some o := fun b o e => Heap.get?_push_of_some _ (k b o e)
    exact hq h'.objs.size cv ctv doc _ tk (fin (B.same kk) (Heap.get?_push_size _ rfl) (Heap.get?_none_of_le hs) ((good _ hS cv hc).keeps kk))
  | none =>
    refine makeFunction_K (s := ⟨h, g, d, t, os⟩) hcl hge0 hg hcode C I.c ok hc hgP hb fun c' ctv doc h' tk ext hc1 hc2 rec tab => ?_
    have kk : ∀ b o, b ≠ N → b ≠ P → h.get? b = some o → (h'.push (fnMade name qual params body scope clos doc ((mg "__name__").getD .none) c' ctv)).get? b = some o := fun b o _ hb e => Heap.get?_push_of_some _ (ext b o hb e)
    have hl : (ps ++ #[rawInt pos.line, rawInt pos.col, Value.ref c']).toList = ps.toList ++ [rawInt pos.line, rawInt pos.col, .ref c'] := by simp
    have rec' := rec.keeps fun b o e => Heap.get?_push_of_some (fnMade name qual params body scope clos doc ((mg "__name__").getD .none) c' ctv) e
    refine hq h'.objs.size (.ref c') ctv doc _ tk (fin (B.move kk (Heap.get?_push_of_some _ (ext _ _ I.ne I.n)) (Heap.get?_push_of_some _ tab) B.dict (by rw [hl]; exact TriplesOk_snoc _ _ _ _ ok) fun x hx cv e => ?_) (Heap.get?_push_size _ rfl) (Heap.get?_none_of_le (Nat.le_of_lt (Nat.lt_of_le_of_lt hc1 hc2))) rec')
    rw [hl] at e
    rcases codeAmong_app _ ok e with e | e
    · exact B.code kk (good x hx cv e)
    · obtain ⟨⟨l1, l2⟩, rfl⟩ := codeAmong_one e
      rw [hSS x hx l1 l2]
      exact rec'
end
end Mine
end

-- part P3
section
open PySem PySem.W PySem.W.X PySem.Calls PyProof.Rows
set_option maxRecDepth 100000
set_option maxHeartbeats 0
namespace Mine
section
variable {prog : Program} {w : World} {A : Around} {h : Heap} {g : Array GenState} {d : Drawn} {tk : Nat} {os : OsState} {a : Addr} {tn : Tok} {v1 v2 : Value}
noncomputable abbrev pfO : Obj := ⟨.type "builtin_function_or_method", none, .fields #[.builtin "type.__prepare__", .type "type"], #[]⟩
theorem prep_ga0 : wpAny (model prog w) { A with depth := 900, units := 5000 } (call (.builtin "type.__getattribute__") [.type "type", .str "__prepare__" tn]) (OneNew h g d tk os pfO) (fun _ _ => False) ⟨h, g, d, tk, os⟩ := by
  refine bi_call (by kernel_rfl) (by with_unfolding_all rfl) (entryFor_of_tree (b := Builtin.«type.__getattribute__») (by kernel_rfl)) fun A' => ?_
  refine w_sk 60 ?_
  refine w_code (c := .call (.builtin "classmethod_descriptor.__get__") ⟨[.builtin "type.__prepare__", .none, .type "type"], []⟩) (by kernel_rfl) ?_
  refine bi_call (by kernel_rfl) (by with_unfolding_all rfl) (entryFor_of_tree (b := Builtin.«classmethod_descriptor.__get__») (by kernel_rfl)) fun A'' => ?_
  refine w_sk 60 ?_
  refine t_new pfO (by kernel_rfl) (by kernel_rfl) rfl fun x h' k hx _ => ?_
  refine w_pure (a := .done (.ret (.ref x))) (by kernel_rfl) ⟨_, rfl, ?_⟩
  exact w_pure (a := .done (.ret (.ref x))) (by kernel_rfl) ⟨_, rfl, x, h', rfl, rfl, k, hx⟩
theorem prep_entry : entryFor table "type.__prepare__" = some Builtin.«type.__prepare__» := entryFor_of_tree (by kernel_rfl)
theorem prep_check : checkBoundCall "type.__prepare__" ⟨[.type "type", v1, v2], []⟩ = pure () := by first | kernel_rfl | rfl
theorem prep_call0 (hf : h.get? a = some pfO) : wpAny (model prog w) { A with depth := 900, units := 5000 } (call (.ref a) [v1, v2]) (fun v s => OneNew h g d tk os ⟨.type "dict", none, .dict #[] 0, #[]⟩ v s ∧ ∀ a, v = .ref a → h.get? a = none ∧ h.objs.size ≤ a) (fun _ _ => False) ⟨h, g, d, tk, os⟩ := by
  refine wpAny_call (codeAny_of_tree ?_)
  show wpAny _ _ (callAny (.ref a) ⟨[v1, v2], []⟩) _ _ _
  unfold callAny
  refine wpAny_bind (wpAny_load hf ?_)
  simp only [show (Value.type "builtin_function_or_method" == Value.type "method" || Value.type "builtin_function_or_method" == Value.type "builtin_function_or_method" || Value.type "builtin_function_or_method" == Value.type "method-wrapper") = true by decide, if_true]
  refine KFB.if_so (by decide) ?_
  refine wpAny_bind (wpAny_of_eq (a := ()) prep_check ?_)
  refine wpAny_bind (wpAny_pure (wpAny_pure ?_))
  refine ⟨Code.quiet_builtin _ (by decide +kernel), codeAny_builtin prep_entry ?_⟩
  show wpAny _ _ (do ret (← newDict)) _ _ _
  refine wpAny_bind (wpAny_newObj_type (wpAny_pure ?_))
  exact ⟨⟨h.objs.size, _, rfl, rfl, fun b o e => Heap.get?_push_of_some _ e, Heap.get?_push_size _ rfl⟩, fun a' e => by cases e; exact ⟨Heap.get?_none_of_le (Nat.le_refl _), Nat.le_refl _⟩⟩
end
end Mine
end

-- part P4
section
open PySem PySem.W PySem.W.X PySem.Calls PyProof.Rows
set_option maxRecDepth 100000
set_option maxHeartbeats 4000000
namespace Mine
/-- the globals that the making of a class reads -/
structure GK (h : Heap) (mg mb : Str → Option Value) : Prop where
  g : h.Ns mainGlobals mg
  b : h.Ns builtinsNs mb
  lim : h.NoLimit
  ob : mg "object" = none
  bob : mb "object" = some (.type "object")
  bc : mb "__build_class__" = some (.builtin "__build_class__")
  bs : ∃ bm o, mg "__builtins__" = some (.ref bm) ∧ bm ≠ builtinsNs ∧ bm ≠ mainGlobals ∧ h.get? bm = some o ∧ o.cls = .type "module" ∧ o.dict = some builtinsNs ∧ o.data = .plain
  nm : ∃ n t, mg "__name__" = some (.str n t)
section
variable {prog : Program} {w : World} {A : Around} {E : Value → Shared → Prop} {s : Shared} {mg mb : Str → Option Value} {env : Env}
/-- a class statement over object -/
theorem class_stmt {name bind : Str} {p : Pos} {body : List Stmt} {scope : Scope} {x1 : Option Scope} {statics : List Str} {pos : Pos} {Q : Flow → Shared → Prop} (G : GK s.heap mg mb) (hk : env.scope.kind = .function) (hko : env.kindOf "object" = some .globalImplicit) (hg : env.globals = mainGlobals) (hb : env.builtins = builtinsNs)
    (h : wpAny (model prog w) A (buildClass name (qualnameIn env name bind) [.type "object"] [] body scope statics pos.line env pos none) (fun c s' => wpAny (model prog w) A (storeName env bind c) (fun _ s'' => Q .next s'') E s') E s) :
    wpAny (model prog w) A (exec (.ClassDef name [.Name "object" p] [] body [] [] scope x1 bind statics pos) env) Q E s := by
  rw [arm_exec_ClassDef]
  refine wpAny_bind (wpAny_of_eq (show evalAll (evalEach [] env) = pure [] from rfl) ?_)
  refine wpAny_bind (wpAny_standAt ?_)
  refine wpAny_bind ?_
  unfold buildClassGuard
  rw [hb]
  refine wpAny_bind (wpAny_nsGet G.b ?_)
  rw [G.bc]
  refine wpAny_pure ?_
  refine wpAny_bind (wpAny_holding ?_)
  refine wpAny_bind (evalArgs_plain (spliced_cons (Name_function_global hk hko (loadGlobal_builtin (hg ▸ G.g) G.ob (hb ▸ G.b) G.bob (spliced_nil ?_)))))
  refine wpAny_bind (wpAny_standAt (wpAny_holding ?_))
  refine wpAny_mono h (fun c s' hs => ?_) fun _ _ z => z
  refine wpAny_bind (wpAny_pure ?_)
  refine wpAny_bind (wpAny_standAt (wpAny_bind (wpAny_bindName (wpAny_mono hs (fun _ _ z => wpAny_pure z) fun _ _ z => z))))
end
end Mine
end

-- part P5
section
open PySem PySem.W PySem.W.X PySem.Calls PyProof.Rows
set_option maxRecDepth 100000
set_option maxHeartbeats 4000000
namespace Mine
theorem TabGood.keeps {h h' : Heap} {P : Addr} {S : List (Pos × Str)} (x : TabGood h P S) (k : ∀ b o, h.get? b = some o → h'.get? b = some o) : TabGood h' P S :=
  (by obtain ⟨ps, e, ok, g⟩ := x; exact ⟨ps, k _ _ e, ok, fun y hy cv q => (g y hy cv q).keeps k⟩)
theorem ClsTab.keeps {h h' : Heap} {lo c P : Addr} {pos : Pos} {qual : Str} {S : List (Pos × Str)} (x : ClsTab h lo c P pos qual S) (k : ∀ b o, h.get? b = some o → h'.get? b = some o) : ClsTab h' lo c P pos qual S :=
  by
  obtain ⟨C, ps, e, ok, g⟩ := x
  exact ⟨C.keeps k, ps, k _ _ e, ok, fun cv q => (by obtain ⟨c', P', e1, e2, e3, e4, e5, e6⟩ := g cv q; exact ⟨c', P', e1, e2, e3, e4.keeps k, e5.keeps k, e6.keeps k⟩)⟩
theorem GK.keeps {h h' : Heap} {mg mb : Str → Option Value} (x : GK h mg mb) (k : ∀ b o, h.get? b = some o → h'.get? b = some o) : GK h' mg mb :=
  ⟨x.g.keeps k, x.b.keeps k, x.lim.keeps k, x.ob, x.bob, x.bc, (by obtain ⟨bm, o, a1, a2, a3, a4, r⟩ := x.bs; exact ⟨bm, o, a1, a2, a3, k _ _ a4, r⟩), x.nm⟩
/-- what a class body has made -/
noncomputable def MethIn (L : List (Addr × Obj)) (R : List (Value × Str)) (f : Addr) (op : CmpOp) (cc : Addr) : Prop :=
  ∃ z : MeP, (f, (⟨.type "function", none, .func (mFd z op cc), #[]⟩ : Obj)) ∈ L ∧ (z.cd, z.q) ∈ R
noncomputable def InitIn (L : List (Addr × Obj)) (R : List (Value × Str)) (f : Addr) : Prop :=
  ∃ nm q q1 q2 p1 p2 p3 p4 pm cd ct doc, (f, (⟨.type "function", none, .func (iFd nm q q1 q2 p1 p2 p3 p4 pm cd ct doc), #[]⟩ : Obj)) ∈ L ∧ (cd, q) ∈ R
noncomputable abbrev bEs (e : Nat → Int) (t : Nat → Tok) (mo fl q : Value) (sl fi flt fgt feq fle fge : Addr) : List (Str × Int × Tok × Value) :=
  [("__module__", e 0, t 0, mo), ("__qualname__", e 13, t 13, q), ("__firstlineno__", e 1, t 1, fl), ("__slots__", e 2, t 2, .ref sl), ("__init__", e 3, t 3, .ref fi), ("__lt__", e 4, t 4, .ref flt), ("__gt__", e 5, t 5, .ref fgt), ("__eq__", e 6, t 6, .ref feq),
   ("__le__", e 7, t 7, .ref fle), ("__ge__", e 8, t 8, .ref fge), ("__hash__", e 9, t 9, .none)]
structure BodyEnd (K : Addr → Obj → Prop) (h : Heap) (N P : Addr) (S : List (Pos × Str)) (cc : Addr) (qual : Str) : Prop where
  all : ∃ e t mn tm ln tf tq sl fi flt fgt feq fle fge ep L R ts, CB K h N P (dO (bEs e t (.str mn tm) (.int ln tf) (.str qual tq) sl fi flt fgt feq fle fge) ep) S L R ∧
    (sl, (⟨.type "list", none, .seq #[.str "obj" ts] 0, #[]⟩ : Obj)) ∈ L ∧ InitIn L R fi ∧ MethIn L R flt .Lt cc ∧ MethIn L R fgt .Gt cc ∧ MethIn L R feq .Eq cc ∧ MethIn L R fle .LtE cc ∧ MethIn L R fge .GtE cc
noncomputable abbrev cEnv (scope : Scope) (N : Addr) (qual : Str) (c' : Addr) (fr : Addr) (clos : List (Str × Addr)) : Env :=
  { scope, locals := N, globals := mainGlobals, qual := qual ++ ".", code := .ref c', frame := some fr, builtins := builtinsNs, cells := clos }
noncomputable abbrev kScope : Scope := { kind := .class, names := [("__module__", .local), ("__slots__", .local), ("__init__", .local), ("__lt__", .local), ("__gt__", .local), ("__eq__", .local), ("__le__", .local), ("__ge__", .local), ("__hash__", .local), ("mycmp", .free)], isGenerator := false, isCoroutine := false, more := [] }
/-- a key class newly made over the comparison in the cell cc -/
structure MadeK (h h' : Heap) (lo c P : Addr) (pos : Pos) (S : List (Pos × Str)) (cc : Addr) (a : KA) : Prop where
  keep : ∀ b o, h.get? b = some o → b ≠ P → (¬ IsTab o ∨ b < lo) → h'.get? b = some o
  cls : KAt h' a
  init : InitAt h' a.fi
  meth : ∀ op ∈ cmps, MethAt h' (a.fn op) op cc
  tab : ClsTab h' lo c P pos "cmp_to_key.<locals>.K" S
  new : ∀ o, h.get? a.N = some o → a.N = P ∨ IsTab o
section
variable {prog : Program} {w : World} {A : Around} {E : Value → Shared → Prop} {mg mb : Str → Option Value} {env : Env} {h : Heap} {g : Array GenState} {d : Drawn} {tk : Nat} {os : OsState}
theorem build_cls {body : List Stmt} {fl : Nat} {pos : Pos} {lo c P cc : Addr} {S : List (Pos × Str)} {clos : List (Str × Addr)} {Q : Value → Shared → Prop} (G : GK h mg mb) (hg : env.globals = mainGlobals) (hb : env.builtins = builtinsNs)
    (hc : env.code = .ref c) (T : ClsTab h lo c P pos "cmp_to_key.<locals>.K" S) (hlo : ∃ b o, lo ≤ b + 1 ∧ h.get? b = some o) (hPlo : P < lo) (hcl : closureFor kScope env = pure clos) (hgP : mainGlobals ≠ P) (hbP : builtinsNs ≠ P) (hsP : cStatics ≠ P)
    (hd : A.depth ≤ 800) (hu : A.units ≤ 4000)
    (hload : ∀ N c' fr, loadName (cEnv kScope N "cmp_to_key.<locals>.K" c' fr clos) "__name__" = (localGet (cEnv kScope N "cmp_to_key.<locals>.K" c' fr clos) "__name__" >>= fun r => match r with | some v => pure v | none => loadGlobal (cEnv kScope N "cmp_to_key.<locals>.K" c' fr clos) "__name__"))
    (hst : ∀ N c' fr v, ∀ name ∈ (["__module__", "__qualname__", "__firstlineno__", "__static_attributes__"] : List Str), storeName (cEnv kScope N "cmp_to_key.<locals>.K" c' fr clos) name v = localSet (cEnv kScope N "cmp_to_key.<locals>.K" c' fr clos) name v)
    (hstat : ∃ oc ocd eps ssl, h.get? cStatics = some ⟨oc, ocd, .dict #[] eps, ssl⟩)
    (hann : hasAnns body = false) (hdoc : docOf body = none)
    (hbody : ∀ (K : Addr → Obj → Prop) N P' c' fr h' tk' e0 e13 e1 t0 t13 t1 mn tm ln tf tq, CB K h' N P' (dO [("__module__", e0, t0, .str mn tm), ("__qualname__", e13, t13, .str "cmp_to_key.<locals>.K" tq), ("__firstlineno__", e1, t1, .int ln tf)] 3) S [] [] → mainGlobals ≠ P' →
      (∀ h', (∀ b o, K b o → h'.get? b = some o) → h'.Ns mainGlobals mg ∧ CodeHd h' c' P' ∧ h'.BuiltinsAt mg P') →
      wpAny (model prog w) (A.deeper (cEnv kScope N "cmp_to_key.<locals>.K" c' fr clos)) (execs body (cEnv kScope N "cmp_to_key.<locals>.K" c' fr clos)) (fun _ s' => ∃ h'' tk'', s' = ⟨h'', g, d, tk'', os⟩ ∧ BodyEnd K h'' N P' S cc "cmp_to_key.<locals>.K") (fun _ _ => False) ⟨h', g, d, tk', os⟩)
    (hq : ∀ a h' tk', MadeK h h' lo c P pos S cc a → Q (.ref a.C) ⟨h', g, d, tk', os⟩) :
    wpAny (model prog w) A (buildClass "K" "cmp_to_key.<locals>.K" [.type "object"] [] body kScope ["obj"] fl env pos none) Q E ⟨h, g, d, tk, os⟩ := by
  refine w_sk 60 ?_
  refine t_new ⟨.type "tuple", none, .seq #[.type "object"] 0, #[]⟩ (by kernel_rfl) (by kernel_rfl) rfl fun bt h1 k1 hbt hbtn => ?_
  refine t_tok (by kernel_rfl) fun x1 tk1 => ?_
  refine t_tok (by kernel_rfl) fun x2 tk2 => ?_
  refine w_code (c := .call (.builtin "type.__getattribute__") ⟨[.type "type", .str "__prepare__" x2], []⟩) (by kernel_rfl) ?_
  refine wpAny_mono (wpAny_wide (by omega) (by omega) prep_ga0) ?_ fun _ _ z => z.elim
  rintro _ _ ⟨pf, h2, rfl, rfl, k2, hpf⟩
  refine w_code (c := .call (.ref pf) ⟨[.str "K" x1, .ref bt], []⟩) (by kernel_rfl) ?_
  refine wpAny_mono (wpAny_wide (by omega) (by omega) (prep_call0 hpf)) ?_ fun _ _ z => z.elim
  rintro v s' ⟨⟨N, h3, rfl, rfl, k3, hN⟩, nN⟩
  obtain ⟨nN, lN⟩ := nN N rfl
  have hN1 : 1 < N := by
    obtain ⟨og, _, _, hgo, _⟩ := G.g
    have l3 : 3 < h2.objs.size := Heap.lt_size (k2 _ _ (k1 _ _ hgo))
    exact Nat.lt_of_lt_of_le (Nat.lt_trans (by decide) l3) lN
  obtain ⟨n0, rfl⟩ : ∃ n0, N = Nat.succ (Nat.succ n0) := ⟨N - 2, (Nat.sub_add_cancel hN1).symm⟩
  refine w_load0 (a := Nat.succ (Nat.succ n0)) (by kernel_rfl) hN ?_
  with_unfolding_all conv => arg 3; whnf
  refine wpAny_keep ?_
  with_unfolding_all conv => arg 3; whnf
  refine wpAny_keep ?_
  with_unfolding_all conv => arg 3; whnf
  dsimp only [Option.map, Option.toList, List.filter, List.nil_append]
  generalize hNn : Nat.succ (Nat.succ n0) = N at *
  clear hNn
  have kk : ∀ b o, h.get? b = some o → h3.get? b = some o := fun b o e => k3 _ _ (k2 _ _ (k1 _ _ e))
  have hlo3 : lo ≤ h3.objs.size := (by obtain ⟨b, o, e1, e2⟩ := hlo; exact Nat.le_trans e1 (Heap.lt_size (kk _ _ e2)))
  refine wpAny_bind (class_code (s := ⟨h3, g, d, _, os⟩) hc (T.keeps kk) hlo3 fun c' P' h4 tk4 ps x4 CP hP hok hps lP nPP C' rc tg => ?_)
  have G3 := G.keeps kk
  have nNh : h.get? N = none := by
    cases q : h.get? N with
    | none => rfl
    | some o => rw [k2 _ _ (k1 _ _ q)] at nN; cases nN
  have hNP : N ≠ P := fun q => by obtain ⟨_, ps0, e, _⟩ := T; rw [← q, nNh] at e; cases e
  have keep4 : ∀ b o, h.get? b = some o → b ≠ P → h4.get? b = some o := fun b o e q => x4 b o q (kk b o e)
  have g4 : h4.Ns mainGlobals mg := G3.g.extBut x4 hgP
  obtain ⟨bm, ob, hbm, hne0, hneG, hbo, hcls, hdict, hdata⟩ := G3.bs
  have hneP : bm ≠ P := fun q => by obtain ⟨_, ps0, e, _⟩ := T; rw [q, kk _ _ e] at hbo; cases hbo; cases hcls
  obtain ⟨nmm, tnm, hnm⟩ := G.nm
  rw [hg, hb]
  refine wpAny_bind (wpAny_builtinsFor g4 hbm hne0 (x4 _ _ hneP hbo) hcls hdict hdata ?_)
  refine wpAny_bind ?_
  unfold newBodyFrame
  refine wpAny_bind (wpAny_nsGet g4 ?_)
  refine alloc_new rfl fun fr h5 k5 hfr _ => ?_
  refine wpAny_bind (wpAny_of_eq hcl ?_)
  refine wpAny_holding ?_
  have lim4 : h4.NoLimit := (by obtain ⟨mc, a, b⟩ := G3.lim; exact ⟨mc, a.extBut x4 hsP, b⟩)
  refine wpAny_bind (wpAny_enterFrame (lim4.keeps k5) (by have : recursionLimit = 1000 := rfl; omega) ?_)
  have hNP' : N ≠ P' := fun q => by
    obtain ⟨pst, et, _⟩ := tg
    rw [← q, x4 _ _ hNP hN] at et; cases et
  have B : CB (fun b o => h5.get? b = some o ∧ b ≠ N ∧ b ≠ P') h5 N P' (dO [] 0) S [] [] := by
    obtain ⟨pst, et, ot, gt⟩ := tg.keeps k5
    exact ⟨⟨pst, ⟨fun b o q => q.1, k5 _ _ (x4 _ _ hNP hN), et, fun o q => q.2.1 rfl, fun o q => q.2.2 rfl, hNP'⟩, ot, gt⟩, ⟨_, _, rfl⟩, fun x hx => (nomatch hx), fun x hx => (nomatch hx)⟩
  have hnm4 : h5.Ns mainGlobals mg := g4.keeps k5
  refine wpAny_bind (wpAny_onRaise ?_)
  show wpAny _ _ (loadName (cEnv kScope N "cmp_to_key.<locals>.K" c' fr clos) "__name__" >>= _) _ _ _
  rw [hload]
  refine wpAny_bind ?_
  refine wpAny_bind ?_
  unfold localGet
  refine wpAny_bind (wpAny_load' (k5 _ _ (x4 _ _ hNP hN)) ?_)
  rw [if_pos (by decide)]
  refine ns_get (k5 _ _ (x4 _ _ hNP hN)) (r := none) rfl ?_
  dsimp only
  refine loadGlobal_global (env := cEnv kScope N "cmp_to_key.<locals>.K" c' fr clos) hnm4 hnm ?_
  refine wpAny_bind (B.put (hst _ _ _ _ _ (by simp)) rfl (by kernel_rfl) (fun _ _ => by kernel_rfl) fun h6 e0 t0 B => ?_)
  refine wpAny_bind (wpAny_mkText (wpAny_bind ?_))
  refine B.put (hst _ _ _ _ _ (by simp)) rfl (by kernel_rfl) (fun _ _ => by kernel_rfl) fun h7 e13 t13 B => ?_
  refine wpAny_bind (wpAny_mkInt (wpAny_bind ?_))
  refine B.put (hst _ _ _ _ _ (by simp)) rfl (by kernel_rfl) (fun _ _ => by kernel_rfl) fun h8 e1 t1 B => ?_
  refine wpAny_pure ?_
  have hN5 := k5 _ _ (x4 _ _ hNP hN)
  have hgN : mainGlobals ≠ N := fun q => by obtain ⟨o, es, ep, e, r⟩ := G.g; rw [q, nNh] at e; cases e
  have hbo5 := k5 _ _ (x4 _ _ hneP hbo)
  have tg5 := tg.keeps k5
  have hbmN : bm ≠ N := fun q => by rw [q, hN5] at hbo5; cases hbo5; exact absurd (Value.type.inj hcls) (by decide)
  have hbmP' : bm ≠ P' := fun q => by obtain ⟨_, e, _⟩ := tg5; rw [q, e] at hbo5; cases hbo5; cases hcls
  have hgP' : mainGlobals ≠ P' := fun q => by obtain ⟨_, e, _⟩ := tg5; obtain ⟨o, es, ep, e', hdt, r⟩ := hnm4; rw [q, e] at e'; cases e'; cases hdt
  refine wpAny_bind (wpAny_run (codeAny_body hann hdoc ?_))
  have hK : ∀ h', (∀ b o, (h5.get? b = some o ∧ b ≠ N ∧ b ≠ P') → h'.get? b = some o) → h'.Ns mainGlobals mg ∧ CodeHd h' c' P' ∧ h'.BuiltinsAt mg P' := by
    intro h' kp
    refine ⟨?_, ?_, ?_⟩
    · obtain ⟨o, es, ep, e, r⟩ := hnm4
      exact ⟨o, es, ep, kp _ _ ⟨e, hgN, hgP'⟩, r⟩
    · obtain ⟨o2, vs2, a3, a4, a5, a6, a7, a8, a9, b1, b2, b3, b4, b5, b6, b7, b8, b9, b10⟩ := C'.keeps k5
      exact ⟨o2, vs2, a3, a4, a5, a6, a7, a8, a9, kp _ _ ⟨b1, fun q => (by rw [q, hN5] at b1; cases b1; exact absurd (Value.type.inj b2) (by decide)), b10⟩, b2, b3, b4, b5, b6, b7, b8, b9, b10⟩
    · exact ⟨bm, ob, hbm, hne0, hneG, hbmP', kp _ _ ⟨hbo5, hbmN, hbmP'⟩, hcls, hdict, hdata⟩
  refine wpAny_mono (hbody _ N P' c' fr h8 _ e0 e13 e1 t0 t13 t1 _ _ _ _ _ B hgP' hK) ?_ fun _ _ z => z.elim
  rintro f s' ⟨h9, tk9, rfl, ⟨e, t, mn, tm, ln, tf, tq, sl, fi, flt, fgt, feq, fle, fge, ep, L, R, ts, B, hsl, hfi, hlt, hgt, heq, hle, hge⟩⟩
  refine wpAny_bind (wpAny_onRaise ?_)
  repeat (first
    | with_reducible (first | refine wpAny_pure ?_ | refine wpAny_bind ?_ | refine wpAny_holding ?_ | refine wpAny_fresh' ?_)
    | wp_delta
    | with_reducible_and_instances refine wpAny_pure ?_
    | with_reducible_and_instances refine wpAny_bind ?_
    | dsimp only)
  refine B.alloc (g := g) (d := d) (os := os) rfl fun sa h10 B nsa => ?_
  repeat ((fail_if_success (with_reducible show wpAny _ _ (storeName _ _ _) _ _ _)); first
    | with_reducible (first | refine wpAny_pure ?_ | refine wpAny_bind ?_ | refine wpAny_holding ?_ | refine wpAny_fresh' ?_)
    | wp_delta
    | with_reducible_and_instances refine wpAny_pure ?_
    | with_reducible_and_instances refine wpAny_bind ?_
    | dsimp only)
  refine B.put (env := cEnv kScope N "cmp_to_key.<locals>.K" c' fr clos) (hst _ _ _ _ "__static_attributes__" (by simp)) rfl (by kernel_rfl) (fun _ _ => by kernel_rfl) fun h11 e10 t10 B => ?_
  refine wpAny_pure ?_
  refine wpAny_ite_false rfl ?_
  refine wpAny_bind ?_
  show wpAny _ _ (call (.type "type") [.str "K" _, .ref bt, .ref N]) _ _ _
  obtain ⟨ps', I, ok', good'⟩ := id B.tab
  have up : ∀ b o, h4.get? b = some o → b ≠ N → b ≠ P' → h11.get? b = some o := fun b o e n1 n2 => I.keep _ _ ⟨k5 _ _ e, n1, n2⟩
  have nbtP : bt ≠ P := fun q => by obtain ⟨_, ps0, e, _⟩ := T; rw [← q] at e; rw [e] at hbtn; cases hbtn
  have hbt4 := x4 _ _ nbtP (k3 _ _ (k2 _ _ hbt))
  obtain ⟨oc, ocd, eps, ssl, hstat⟩ := hstat
  have hst4 := x4 _ _ hsP (kk _ _ hstat)
  have notT : ∀ {b : Addr} {o : Obj}, h4.get? b = some o → ¬ IsTab o → b ≠ P' := fun {b o} e n q => by
    obtain ⟨pst, et, ot, _⟩ := tg
    rw [q, et] at e; cases e
    exact n ⟨pst, ot, rfl⟩
  have hN4 := x4 _ _ hNP hN
  have ob : ∀ x ∈ L, h11.get? x.1 = some x.2 := fun x hx => (B.objs x (.tail _ hx)).1
  have fnObj : ∀ {f : Addr} {op : CmpOp}, MethIn L R f op cc → ∃ o, h11.get? f = some o ∧ o.cls = .type "function" := by
    rintro f op ⟨z, m1, m2⟩
    exact ⟨_, ob _ m1, rfl⟩
  have fiObj : ∃ o, h11.get? fi = some o ∧ o.cls = .type "function" := by
    obtain ⟨nm, q, q1, q2, p1, p2, p3, p4, pm, cd, ct, doc, m1, m2⟩ := hfi
    exact ⟨_, ob _ m1, rfl⟩
  refine type_call (e := fun n => if n = 10 then e10 else e n) (t := fun n => if n = 10 then t10 else t n) (mn := mn) (ln := ln) (tm := tm) (tf := tf) (tq := tq) (ts := ts) (n1 := 0) (n2 := 0) (sl := sl) (fi := fi) (flt := flt) (fgt := fgt) (feq := feq) (fle := fle) (fge := fge) (sa := sa)
    (oc := oc) (ocd := ocd) (eps := eps) (ssl := ssl) hN1 I.n (up _ _ hbt4 (fun q => by rw [q, hN4] at hbt4; exact absurd (Value.type.inj (congrArg Obj.cls (Option.some.inj hbt4))) (by decide)) (notT hbt4 fun z => by cases z.cls)) (ob _ hsl) ⟨_, (B.objs _ (.head _)).1, rfl⟩ ?_ (up _ _ hst4 (fun q => by rw [← q, hstat] at nNh; cases nNh) (notT hst4 fun z => by obtain ⟨_, q⟩ := z.data; cases q)) (by omega) (by omega) ?_
  · intro f hf
    simp only [List.mem_cons, List.not_mem_nil, or_false] at hf
    rcases hf with rfl | rfl | rfl | rfl | rfl | rfl
    · exact fiObj
    · exact fnObj hlt
    · exact fnObj hgt
    · exact fnObj heq
    · exact fnObj hle
    · exact fnObj hge
  rintro C h12 tk12 ⟨N', md, k0', k2', k3', ee, tt, mo, flv, tn, k12, hC, hN', hmd, hCn, hNn⟩
  refine wpAny_pure (hq ⟨C, N', md, sl, sa, fi, fun op => match op with | .Lt => flt | .Gt => fgt | .Eq => feq | .LtE => fle | .GtE => fge | _ => 0⟩ h12 tk12 ⟨?_, ?_, ?_, ?_, ?_, ?_⟩)
  · intro b o e nP hor
    have e4 := keep4 b o e nP
    refine k12 _ _ (up _ _ e4 (fun q => by rw [← q, e] at nNh; cases nNh) fun q => ?_)
    rcases hor with n | n
    · exact notT e4 n q
    · rw [q] at n; exact absurd lP (Nat.not_le_of_gt n)
  · refine ⟨⟨_, _, _, _, _, _, hC⟩, ⟨_, _, _, _, _, hN'⟩, ⟨_, hmd⟩, ?_, ?_, ⟨oc, ocd, eps, ssl, k12 _ _ (up _ _ hst4 (fun q => by rw [← q, hstat] at nNh; cases nNh) (notT hst4 fun z => by obtain ⟨_, q⟩ := z.data; cases q))⟩⟩
    · obtain ⟨nm, q, q1, q2, p1, p2, p3, p4, pm, cd, ct, doc, m1, m2⟩ := hfi
      exact ⟨_, _, _, k12 _ _ (ob _ m1)⟩
    · have mk : ∀ {f : Addr} {op : CmpOp}, MethIn L R f op cc → ∃ od fd sl, h12.get? f = some ⟨.type "function", od, .func fd, sl⟩ := by
        rintro f op ⟨z, m1, m2⟩
        exact ⟨_, _, _, k12 _ _ (ob _ m1)⟩
      intro op ho
      simp only [List.mem_cons, List.not_mem_nil, or_false] at ho
      rcases ho with rfl | rfl | rfl | rfl | rfl
      · exact mk hlt
      · exact mk hgt
      · exact mk heq
      · exact mk hle
      · exact mk hge
  · obtain ⟨nm, q, q1, q2, p1, p2, p3, p4, pm, cd, ct, doc, m1, m2⟩ := hfi
    exact ⟨nm, q, q1, q2, p1, p2, p3, p4, pm, cd, ct, doc, _, _, k12 _ _ (ob _ m1), (B.recs _ m2).keeps k12⟩
  · have mk : ∀ {f : Addr} {op : CmpOp}, MethIn L R f op cc → MethAt h12 f op cc := by
      rintro f op ⟨z, m1, m2⟩
      exact ⟨z, _, _, k12 _ _ (ob _ m1), (B.recs _ m2).keeps k12⟩
    intro op ho
    simp only [List.mem_cons, List.not_mem_nil, or_false] at ho
    rcases ho with rfl | rfl | rfl | rfl | rfl
    · exact mk hlt
    · exact mk hgt
    · exact mk heq
    · exact mk hle
    · exact mk hge
  · have hcd : ∀ {c₀ P₀ : Addr}, CodeHd h4 c₀ P₀ → CodeHd h12 c₀ P₀ := by
      rintro c₀ P₀ ⟨o2, vs2, a3, a4, a5, a6, a7, a8, a9, b1, b2, r⟩
      exact ⟨o2, vs2, a3, a4, a5, a6, a7, a8, a9, k12 _ _ (up _ _ b1 (fun q => by rw [q, hN4] at b1; cases b1; exact absurd (Value.type.inj b2) (by decide)) (notT b1 fun z => by have := z.cls; rw [b2] at this; cases this)), b2, r⟩
    have hNP4 : P ≠ N := Ne.symm hNP
    refine ⟨hcd CP, ps, k12 _ _ (up _ _ hP hNP4 (Ne.symm nPP)), hok, fun cv e => ?_⟩
    rw [hps] at e
    cases e
    refine ⟨c', P', rfl, lP, nPP, hcd C', ?_, ps', k12 _ _ I.c, ok', fun x hx cv e => (good' x hx cv e).keeps k12⟩
    exact ((B.code (h' := h11) (fun _ _ _ _ e => e) (by
      obtain ⟨c₁, o, vs, tt, e1, e2, e3, e4⟩ := rc
      refine ⟨c₁, o, vs, tt, e1, up _ _ e2 (fun q => ?_) (fun q => ?_), e3, e4⟩
      · rw [q, hN4] at e2; cases e2; cases e3
      · cases e1
        obtain ⟨_, _, _, _, _, _, _, _, _, _, _, _, _, _, _, _, _, _, hne⟩ := C'
        exact hne q)) : h11.CodeRec (.ref c') _).keeps k12
  · intro o e
    by_cases q : N' = P
    · exact .inl q
    · refine .inr (Classical.byContradiction fun n => ?_)
      have e4 := keep4 N' o e q
      rw [up _ _ e4 (fun q => by rw [← q, e] at nNh; cases nNh) (notT e4 n)] at hNn
      cases hNn
end
end Mine
end

-- part P6
section
open PySem PySem.W PySem.W.X PySem.Calls PyProof.Rows
set_option maxRecDepth 100000
set_option maxHeartbeats 4000000
namespace Mine
section
variable {M : Model} {A : Around} {E : Value → Shared → Prop} {K : Addr → Obj → Prop} {h h' : Heap} {N P : Addr} {oN oN' : Obj} {S : List (Pos × Str)} {L : List (Addr × Obj)} {R : List (Value × Str)} {g : Array GenState} {d : Drawn} {t : Nat} {os : OsState}
theorem CB.pushed {o : Obj} (B : CB K h N P oN S L R) (hf : o.isFreed = false) : CB K (h.push o) N P oN S ((h.objs.size, o) :: L) R := by
  have B' := B.same (h' := h.push o) fun b o e => Heap.get?_push_of_some _ e
  obtain ⟨ps, I, _, _⟩ := B.tab
  have n : h.get? h.objs.size = none := Heap.get?_none_of_le (Nat.le_refl _)
  refine ⟨B'.tab, B'.dict, fun x hx => ?_, B'.recs⟩
  rcases List.mem_cons.mp hx with rfl | hx
  · exact ⟨Heap.get?_push_size _ hf, fun q => (by dsimp only at q; rw [q, I.n] at n; cases n), fun q => (by dsimp only at q; rw [q, I.c] at n; cases n)⟩
  · exact B'.objs x hx
/-- a def in the class body -/
theorem CB.defStmt {name qual : Str} {params : Arguments} {body : List Stmt} {scope : Scope} {env : Env} {c : Addr} {pos : Pos} {mg : Str → Option Value} {clos : List (Str × Addr)} {Q : Flow → Shared → Prop} {l : List (Str × Int × Tok × Value)} {ep : Nat}
    (B : CB K h N P (dO l ep) S L R) (hd0 : params.defaults = []) (hk0 : params.kw_defaults = []) (ha : annTrees params none env = []) (hqn : qualnameIn env name name = qual)
    (hcl : closureFor scope env = pure clos) (hge0 : env.globals = mainGlobals) (hcode : env.code = .ref c) (hgP : mainGlobals ≠ P)
    (hK : ∀ h', (∀ b o, K b o → h'.get? b = some o) → h'.Ns mainGlobals mg ∧ CodeHd h' c P ∧ h'.BuiltinsAt mg P)
    (hS : (pos, qual) ∈ S) (hSS : ∀ x ∈ S, pos.line = x.1.line → pos.col = x.1.col → x.2 = qual)
    (hs : ∀ v, storeName env name v = localSet env name v) (hl : env.locals = N)
    (hr : aRefKeyMayBeTheName name (dE l).toArray = false) (e : ∀ eh tk v, Obj.putName name eh (.str name tk) v (dO l ep) = dO (l ++ [(name, eh, tk, v)]) (ep + 1))
    (hq : ∀ f cv ctv doc h' tk eh tk', CB K h' N P (dO (l ++ [(name, eh, tk', .ref f)]) (ep + 1)) S ((f, ⟨.type "function", none, .func (fnX name qual params body scope clos .none .none doc ((mg "__name__").getD .none) none cv ctv), #[]⟩) :: L) ((cv, qual) :: R) → Q .next ⟨h', g, d, tk, os⟩) :
    wpAny M A (exec (.FunctionDef name params body [] none [] scope none name pos) env) Q E ⟨h, g, d, t, os⟩ := by
  refine nestDef_K hd0 hk0 ha ?_
  rw [hqn]
  refine B.fn hcl hge0 hcode hgP hK hS hSS fun f cv ctv doc h' tk B => ?_
  exact B.put (hs _) hl hr (fun _ _ => e _ _ _) fun h'' eh tk' B => hq f cv ctv doc h'' _ eh tk' B
end

noncomputable abbrev mDef (nm : Str) (op : CmpOp) (q1 q2 p1 p2 p3 p4 p5 p6 p7 p8 p9 pos : Pos) : Stmt :=
  .FunctionDef nm { posonlyargs := [], args := [⟨"self", none, q1⟩, ⟨"other", none, q2⟩], vararg := none, kwonlyargs := [], kw_defaults := [], kwarg := none, defaults := [] }
    [.Return (some (.Compare (.Call (.Name "mycmp" p1) [.Attribute (.Name "self" p2) "obj" p3, .Attribute (.Name "other" p4) "obj" p5] [] p6) [op] [.Constant (.int 0) 0 p7] p8)) p9] [] none [] mScope none nm pos
noncomputable abbrev iDef (q1 q2 p1 p2 p3 p4 pos : Pos) : Stmt :=
  .FunctionDef "__init__" { posonlyargs := [], args := [⟨"self", none, q1⟩, ⟨"obj", none, q2⟩], vararg := none, kwonlyargs := [], kw_defaults := [], kwarg := none, defaults := [] }
    [.Assign [.Attribute (.Name "self" p1) "obj" p2] (.Name "obj" p3) p4] [] none [] iScope none "__init__" pos
section
variable {M : Model} {A : Around} {E : Value → Shared → Prop} {K : Addr → Obj → Prop} {h : Heap} {N P c cc : Addr} {S : List (Pos × Str)} {g : Array GenState} {d : Drawn} {t : Nat} {os : OsState} {mg : Str → Option Value} {env : Env} {qual : Str}
theorem body_walk {qalt qblt p1lt p2lt p3lt p4lt p5lt p6lt p7lt p8lt p9lt pslt qagt qbgt p1gt p2gt p3gt p4gt p5gt p6gt p7gt p8gt p9gt psgt qaeq qbeq p1eq p2eq p3eq p4eq p5eq p6eq p7eq p8eq p9eq pseq qale qble p1le p2le p3le p4le p5le p6le p7le p8le p9le psle qage qbge p1ge p2ge p3ge p4ge p5ge p6ge p7ge p8ge p9ge psge qai qbi p1i p2i p3i p4i psi pm1 pm2 pm3 ps1 ps2 ps3 ps4 ph1 ph2 ph3 : Pos} {mo : Str} {e0 e13 e1 : Int} {t0 t13 t1 tm tf tq : Tok} {mn : Str} {ln : Int} {kq : Str → Str}
    (B : CB K h N P (dO [("__module__", e0, t0, .str mn tm), ("__qualname__", e13, t13, .str qual tq), ("__firstlineno__", e1, t1, .int ln tf)] 3) S [] [])
    (hs : ∀ name ∈ (["__module__", "__slots__", "__init__", "__lt__", "__gt__", "__eq__", "__le__", "__ge__", "__hash__"] : List Str), ∀ v, storeName env name v = localSet env name v)
    (hqn : ∀ name ∈ (["__init__", "__lt__", "__gt__", "__eq__", "__le__", "__ge__"] : List Str), qualnameIn env name name = kq name)
    (hSd : S = [(psi, kq "__init__"), (pslt, kq "__lt__"), (psgt, kq "__gt__"), (pseq, kq "__eq__"), (psle, kq "__le__"), (psge, kq "__ge__")])
    (hSS : ∀ y ∈ S, ∀ x ∈ S, y.1.line = x.1.line → y.1.col = x.1.col → x.2 = y.2)
    (hci : closureFor iScope env = pure []) (hcm : closureFor mScope env = pure ([("mycmp", cc)] : List (Str × Addr))) (hl : env.locals = N) (hge0 : env.globals = mainGlobals) (hcode : env.code = .ref c) (hgP : mainGlobals ≠ P)
    (hK : ∀ h', (∀ b o, K b o → h'.get? b = some o) → h'.Ns mainGlobals mg ∧ CodeHd h' c P ∧ h'.BuiltinsAt mg P) :
    wpAny M A (execs [.Assign [.Name "__module__" pm1] (.Constant (.str mo) 0 pm2) pm3, .Assign [.Name "__slots__" ps1] (.List [.Constant (.str "obj") 0 ps2] ps3) ps4, iDef qai qbi p1i p2i p3i p4i psi,
      mDef "__lt__" .Lt qalt qblt p1lt p2lt p3lt p4lt p5lt p6lt p7lt p8lt p9lt pslt,
      mDef "__gt__" .Gt qagt qbgt p1gt p2gt p3gt p4gt p5gt p6gt p7gt p8gt p9gt psgt,
      mDef "__eq__" .Eq qaeq qbeq p1eq p2eq p3eq p4eq p5eq p6eq p7eq p8eq p9eq pseq,
      mDef "__le__" .LtE qale qble p1le p2le p3le p4le p5le p6le p7le p8le p9le psle,
      mDef "__ge__" .GtE qage qbge p1ge p2ge p3ge p4ge p5ge p6ge p7ge p8ge p9ge psge,
      .Assign [.Name "__hash__" ph1] (.Constant .none 0 ph2) ph3] env) (fun _ s' => ∃ h'' tk'', s' = ⟨h'', g, d, tk'', os⟩ ∧ BodyEnd K h'' N P S cc qual) E ⟨h, g, d, t, os⟩ := by
  refine wpAny_execs_cons (wpAny_Assign_Name (wpAny_Constant_str ?_))
  refine B.store (oN' := fun _ _ => dO [("__module__", e0, t0, .str mo t), ("__qualname__", e13, t13, .str qual tq), ("__firstlineno__", e1, t1, .int ln tf)] 3) (hs _ (by simp) _) hl rfl rfl (by kernel_rfl) (fun _ _ => by kernel_rfl) (fun _ _ => rfl) (fun _ _ => ⟨_, _, rfl⟩) fun h2 _ _ B => ?_
  refine wpAny_execs_cons (wpAny_Assign_Name (wpAny_List (spliced_cons ?_)))
  refine wpAny_Constant_str (k := 0) (pos := ps2) ?_
  refine spliced_nil ⟨by rw [sizeLine_eq]; simp, ?_⟩
  refine (B.pushed (o := { cls := .type "list", data := .seq #[Value.str "obj" _] }) rfl).put (hs _ (by simp) _) hl (by kernel_rfl) (fun _ _ => by kernel_rfl) fun h3 e2 t2 B => ?_
  have m0 : (psi, kq "__init__") ∈ S := hSd ▸ (.head _)
  refine wpAny_execs_cons (B.defStmt rfl rfl rfl (hqn "__init__" (by simp)) (qual := kq "__init__") hci hge0 hcode hgP hK m0 (hSS _ m0) (hs _ (by simp)) hl (by kernel_rfl) (fun _ _ _ => by kernel_rfl) fun fi cv0 ct0 dc0 h4 tk4 e3 t3 B => ?_)
  have m1 : (pslt, kq "__lt__") ∈ S := hSd ▸ (.tail _ (.head _))
  refine wpAny_execs_cons (B.defStmt rfl rfl rfl (hqn "__lt__" (by simp)) (qual := kq "__lt__") hcm hge0 hcode hgP hK m1 (hSS _ m1) (hs _ (by simp)) hl (by kernel_rfl) (fun _ _ _ => by kernel_rfl) fun flt cv1 ct1 dc1 h5 tk5 e4 t4 B => ?_)
  have m2 : (psgt, kq "__gt__") ∈ S := hSd ▸ (.tail _ (.tail _ (.head _)))
  refine wpAny_execs_cons (B.defStmt rfl rfl rfl (hqn "__gt__" (by simp)) (qual := kq "__gt__") hcm hge0 hcode hgP hK m2 (hSS _ m2) (hs _ (by simp)) hl (by kernel_rfl) (fun _ _ _ => by kernel_rfl) fun fgt cv2 ct2 dc2 h6 tk6 e5 t5 B => ?_)
  have m3 : (pseq, kq "__eq__") ∈ S := hSd ▸ (.tail _ (.tail _ (.tail _ (.head _))))
  refine wpAny_execs_cons (B.defStmt rfl rfl rfl (hqn "__eq__" (by simp)) (qual := kq "__eq__") hcm hge0 hcode hgP hK m3 (hSS _ m3) (hs _ (by simp)) hl (by kernel_rfl) (fun _ _ _ => by kernel_rfl) fun feq cv3 ct3 dc3 h7 tk7 e6 t6 B => ?_)
  have m4 : (psle, kq "__le__") ∈ S := hSd ▸ (.tail _ (.tail _ (.tail _ (.tail _ (.head _)))))
  refine wpAny_execs_cons (B.defStmt rfl rfl rfl (hqn "__le__" (by simp)) (qual := kq "__le__") hcm hge0 hcode hgP hK m4 (hSS _ m4) (hs _ (by simp)) hl (by kernel_rfl) (fun _ _ _ => by kernel_rfl) fun fle cv4 ct4 dc4 h8 tk8 e7 t7 B => ?_)
  have m5 : (psge, kq "__ge__") ∈ S := hSd ▸ (.tail _ (.tail _ (.tail _ (.tail _ (.tail _ (.head _))))))
  refine wpAny_execs_cons (B.defStmt rfl rfl rfl (hqn "__ge__" (by simp)) (qual := kq "__ge__") hcm hge0 hcode hgP hK m5 (hSS _ m5) (hs _ (by simp)) hl (by kernel_rfl) (fun _ _ _ => by kernel_rfl) fun fge cv5 ct5 dc5 h9 tk9 e8 t8 B => ?_)
  refine wpAny_execs_cons (wpAny_Assign_Name (wpAny_Constant_none ?_))
  refine B.put (hs _ (by simp) _) hl (by kernel_rfl) (fun _ _ => by kernel_rfl) fun h10 e9 t9 B => wpAny_execs_nil ?_
  refine ⟨h10, _, rfl, ⟨fun n => ([e0, e1, e2, e3, e4, e5, e6, e7, e8, e9, 0, 0, 0, e13] : List Int).getD n 0, fun n => ([t0, t1, t2, t3, t4, t5, t6, t7, t8, t9, 0, 0, 0, t13] : List Tok).getD n 0, _, _, _, _, _, _, fi, flt, fgt, feq, fle, fge, _, _, _, t + 1 + 1, B, ?_, ?_, ?_, ?_, ?_, ?_, ?_⟩⟩
  · exact .tail _ (.tail _ (.tail _ (.tail _ (.tail _ (.tail _ (.head _))))))
  · exact ⟨_, _, _, _, _, _, _, _, _, _, _, _, (.tail _ (.tail _ (.tail _ (.tail _ (.tail _ (.head _)))))), (.tail _ (.tail _ (.tail _ (.tail _ (.tail _ (.head _))))))⟩
  · exact ⟨⟨_, _, _, _, _, _, _, _, _, _, _, _, _, _, _, _, _⟩, (.tail _ (.tail _ (.tail _ (.tail _ (.head _))))), (.tail _ (.tail _ (.tail _ (.tail _ (.head _)))))⟩
  · exact ⟨⟨_, _, _, _, _, _, _, _, _, _, _, _, _, _, _, _, _⟩, (.tail _ (.tail _ (.tail _ (.head _)))), (.tail _ (.tail _ (.tail _ (.head _))))⟩
  · exact ⟨⟨_, _, _, _, _, _, _, _, _, _, _, _, _, _, _, _, _⟩, (.tail _ (.tail _ (.head _))), (.tail _ (.tail _ (.head _)))⟩
  · exact ⟨⟨_, _, _, _, _, _, _, _, _, _, _, _, _, _, _, _, _⟩, (.tail _ (.head _)), (.tail _ (.head _))⟩
  · exact ⟨⟨_, _, _, _, _, _, _, _, _, _, _, _, _, _, _, _, _⟩, (.head _), (.head _)⟩
end
end Mine
end

-- part Hd1
section
open PySem PySem.W PyProof.Rows
set_option Elab.async false
set_option maxRecDepth 100000
set_option maxHeartbeats 8000000
namespace Mine
open_top hd for PySem.Challenge.rw_dz0037_01
end Mine
end

-- part R0
section
open PySem PySem.W PySem.W.X PySem.Calls PyProof.Rows
namespace Mine
theorem turn_lt {N i : Nat} (h : i < N) : N + 1 - (i + 1) < N + 1 - i := by omega
theorem turn_end {N i : Nat} (h : i ≤ N) (n : ¬ i < N) : i = N := Nat.le_antisymm h (Nat.not_lt.mp n)
theorem turn_ix (i : Nat) : (0 + (i : Int) * 1) = (i : Int) := by rw [Int.mul_one, Int.zero_add]
theorem small_ix {i n : Nat} (h : i < n) (hn : n ≤ 1000) : (i : Int) < 2 ^ 63 := by omega
theorem nat_hi {n : Nat} (h : n ≤ 1000) : (n : Int) < 2 ^ 62 := by omega
theorem nat_fit {n : Nat} (h : n ≤ 1000) : (n : Int) < 2 ^ 63 := by omega
theorem nat_lo (n : Nat) : -(2 ^ 62) ≤ (n : Int) := Int.le_trans (by decide) (Int.natCast_nonneg n)
theorem le_line {n : Nat} (h : n ≤ 1000) : n ≤ sizeLine := by rw [sizeLine_eq]; omega
theorem step_len {i n : Nat} : i + (n + 1) = i + 1 + n := Nat.add_right_comm i n 1
theorem three_ne {a b : Int} (h : a ≠ b) : 3 * (a - b) ≠ 0 := by omega
theorem len_iff {m n i a b : Nat} (e1 : m = i + a) (e2 : n = i + b) : (m ≤ n) ↔ (a ≤ b) := by rw [e1, e2]; exact Nat.add_le_add_iff_left
theorem both_no {m n : Nat} (h : m ≠ n) : ¬ m ≤ n ∨ ¬ n ≤ m := (Nat.lt_or_gt_of_ne h).symm.imp Nat.not_le_of_gt Nat.not_le_of_gt
end Mine
end

-- part R1
section
open PySem PySem.W PySem.Calls PyProof.Rows
set_option maxRecDepth 100000
namespace Mine
/-- all of h stays in h' -/
noncomputable abbrev Kpt (h h' : Heap) : Prop := ∀ b o, h.get? b = some o → h'.get? b = some o
theorem Kpt.rfl {h : Heap} : Kpt h h := fun _ _ e => e
theorem Kpt.trans {h h' h'' : Heap} (x : Kpt h h') (y : Kpt h' h'') : Kpt h h'' := fun b o e => y b o (x b o e)
/-- room for a call, and a base under which an exception may fly -/
structure Rm (A : Around) (B : Heap) (s : Shared) (dep un : Nat) : Prop where
  depth : A.depth + dep < recursionLimit
  units : A.units + un < cLine
  hand : A.handled = none
  below : ∃ outer, Below A B outer s.heap
/-- an exception of class X comes out of a call that began at s -/
noncomputable def Flew (A : Around) (B : Heap) (s : Shared) (X : String) : Value → Shared → Prop := fun v s' =>
  ∃ e h' tk' a0 outer, v = .ref e ∧ s' = { s with heap := h', toks := tk' } ∧ A.frames = some outer ∧ Heap.FlyingW B outer e (.type X) a0 h' ∧ s.heap.UpToSlots h'
inductive Out where
  | ret (P : Value → Prop)
  | exc (X : String)
noncomputable def Ends (A : Around) (B : Heap) (s : Shared) (Q E : Value → Shared → Prop) : Out → Prop
  | .ret P => ∀ v h' tk', P v → Kpt s.heap h' → Q v { s with heap := h', toks := tk' }
  | .exc X => ∀ v s', Flew A B s X v s' → E v s'
/-- wherever H stands, the tree ends so -/
noncomputable def Does (prog : Program) (w : World) (H : Heap) (t : Sem Value) (r : Out) (dep un : Nat) : Prop :=
  ∀ A B E Q s, Rm A B s dep un → Kpt H s.heap → Ends A B s Q E r → wpAny (model prog w) A t Q E s
section
variable {prog : Program} {w : World} {A : Around} {B : Heap} {s : Shared} {dep un : Nat}
theorem Rm.keeps (R : Rm A B s dep un) {h' : Heap} {tk' : Nat} (k : Kpt s.heap h') : Rm A B { s with heap := h', toks := tk' } dep un := by
  obtain ⟨outer, K⟩ := R.below
  exact ⟨R.depth, R.units, R.hand, outer, K.stack, fun b o e => k b o (K.stays b o e), K.frames.of_keeps fun b o e _ => ⟨o, k b o e, rfl⟩⟩
theorem Rm.less (R : Rm A B s dep un) {d u : Nat} (hd : d ≤ dep) (hu : u ≤ un) : Rm A B s d u :=
  ⟨Nat.lt_of_le_of_lt (Nat.add_le_add_left hd _) R.depth, Nat.lt_of_le_of_lt (Nat.add_le_add_left hu _) R.units, R.hand, R.below⟩
/-- a new frame -/
structure NewFm (env : Env) (s : Shared) (h₀ : Heap) : Prop where
  kind : env.scope.kind = .function
  frame : env.frame = some env.locals
  loc : env.locals = s.heap.objs.size
  ns : ∃ m, h₀.Ns env.locals m
  keep : Kpt s.heap h₀
theorem Rm.push {env : Env} {h₀ : Heap} {tk : Nat} (R : Rm A B s (dep + 1) (un + 3)) (N : NewFm env s h₀) : Rm (A.deeper env) B { s with heap := h₀, toks := tk } dep un := by
  obtain ⟨outer, K⟩ := R.below
  refine ⟨by show A.depth + 1 + dep < _; have := R.depth; omega, by show A.units + 3 + un < _; have := R.units; omega, R.hand, env :: outer, Around.frames_deeper K.stack, fun b o e => N.keep b o (K.stays b o e), ?_⟩
  obtain ⟨m, o, es, ep, e, d, _⟩ := N.ns
  refine ⟨by rw [N.kind]; decide, ⟨env.locals, o, N.frame, ?_, e, fun vs q => by rw [d] at q; cases q⟩, K.frames.of_keeps fun b o e _ => ⟨o, N.keep b o e, rfl⟩⟩
  cases hq : B.get? env.locals with
  | none => rfl
  | some o => exact absurd (Heap.lt_size (K.stays _ o hq)) (by rw [N.loc]; exact Nat.lt_irrefl _)
/-- an exception leaves a called frame -/
theorem Flew.leave {E : Value → Shared → Prop} {env : Env} {h₁ : Heap} {tk₁ : Nat} {X : String} {v : Value} {s' : Shared} (R : Rm A B s dep un) (hf : env.frame = some env.locals) (k : Kpt s.heap h₁)
    (x : Flew (A.deeper env) B { s with heap := h₁, toks := tk₁ } X v s') (hE : ∀ v s', Flew A B s X v s' → E v s') : LvE prog w A env E v s' := by
  obtain ⟨outer, K⟩ := R.below
  obtain ⟨e, h', tk', a0, outer', rfl, rfl, hfr, hfl, up⟩ := x
  rw [Around.frames_deeper K.stack] at hfr
  cases hfr
  exact wpAny_leaves_onW (Around.frames_deeper K.stack) hf hfl fun h'' x1 x2 => hE _ _ ⟨e, h'', tk', a0, outer, rfl, rfl, K.stack, x1, (Heap.UpToSlots.of_keeps k).trans (up.trans x2)⟩
/-- an exception just made -/
structure Fresh (h h' : Heap) (e : Addr) (X : String) : Prop where
  keeps : Kpt h h'
  new : h.get? e = none
  there : ∃ ob vs a0, h'.get? e = some ob ∧ ob.cls = .type X ∧ ob.data = .fields vs ∧ vs[1]? = some .none ∧ vs[0]? = some a0
theorem Fresh.of_new {h h' : Heap} {e : Addr} {X : String} (x : Heap.NewExcOf h h' e X) : Fresh h h' e X := by
  obtain ⟨ob, vs, e1, e2, e3, e4⟩ := x.there
  have : 1 < vs.size := (Array.getElem?_eq_some_iff.mp e4).1
  exact ⟨x.keeps, x.new, ob, vs, vs[0], e1, e2, e3, e4, Array.getElem?_eq_getElem _⟩
/-- .. leaves the frame in which it was made -/
theorem Fresh.leave {E : Value → Shared → Prop} {env : Env} {h₁ h₂ : Heap} {tk₂ : Nat} {X : String} {e : Addr} (R : Rm A B s (dep + 1) (un + 3)) (N : NewFm env s h₁)
    (x : Fresh h₁ h₂ e X) (hE : ∀ v s', Flew A B s X v s' → E v s') : LvE prog w A env E (.ref e) { s with heap := h₂, toks := tk₂ } := by
  obtain ⟨outer, st, fl, fr⟩ := (R.push (tk := tk₂) N).below
  obtain ⟨outer', K⟩ := R.below
  obtain ⟨ob, vs, a0, e1, e2, e3, e4, e5⟩ := x.there
  have hk : A.frames.map (env :: ·) = some outer := st
  rw [K.stack] at hk
  cases hk
  have hen : B.get? e = none := by
    cases hq : B.get? e with
    | none => rfl
    | some o => have := fl e o hq; rw [x.new] at this; cases this
  refine wpAny_leaving_firstW (s := { s with heap := h₂, toks := tk₂ }) st (fr.of_keeps fun b o e _ => ⟨o, x.keeps b o e, rfl⟩) N.frame e1 (fun b o hb => x.keeps b o (fl b o hb)) hen e3 e4 e5 fun h' hL => ?_
  obtain ⟨k1, ⟨_, _, k2⟩, k3, k4⟩ := hL
  rw [e2] at k3
  exact hE _ _ ⟨e, h', tk₂, a0, outer', rfl, rfl, K.stack, ⟨k1, hen, k2, k3⟩, (Heap.UpToSlots.of_keeps (N.keep.trans x.keeps)).trans fun b o hb hn => k4 b o hb hn⟩
end
end Mine
end

-- part R2
section
open PySem PySem.W PySem.Calls PyProof.Rows
set_option maxRecDepth 100000
namespace Mine
/-- what a comparison comes to -/
inductive Res where
  | bool (b : Bool)
  | ni
  | exc (X : String)
noncomputable def Res.out : Res → Out
  | .bool b => .ret (· = .bool b)
  | .ni => .ret (· = .notImplemented)
  | .exc X => .exc X
/-- what a made comparison comes to, its root's and its second's answers known -/
noncomputable def madeRes (o : CmpOp → Res) (op : CmpOp) (tl : Tail) : Res := match o op with
  | .bool b => match tl with
    | .one n _ _ => .bool (n ^^ b)
    | .two n bo co _ _ _ _ _ _ => if (n ^^ b) = stopAt bo then .bool (n ^^ b) else o co
  | r => r
noncomputable abbrev four : List CmpOp := [.Lt, .Gt, .LtE, .GtE]
/-- X beside Y: what each comparison comes to -/
structure Cmp (prog : Program) (w : World) (H : Heap) (X Y : Value) (o : CmpOp → Res) (dep un : Nat) : Prop where
  root : ∃ T, (∀ A E s (Q : Value → Shared → Prop), Kpt H s.heap → Q T s → wpAny (model prog w) A (call (.type "type") [X]) Q E s) ∧
    ∀ op ∈ four, ∃ g, (∀ A E s pl (Q : Value × List Value → Shared → Prop), Kpt H s.heap → (∀ tk', Q (g, []) { s with toks := tk' }) → wpAny (model prog w) A (getMethod T (cmpInfo op).2.1 pl) Q E s) ∧
      Callee H g ∧ Does prog w H (call g [X, Y]) (o op).out dep un
  eqs : ∀ op b, op ∈ four → o op = .bool b → ∀ co, co = .Eq ∨ co = .NotEq → Does prog w H (compareOp co X Y) (o co).out dep un
theorem Callee.keeps {h h' : Heap} {g : Value} (x : Callee h g) (k : Kpt h h') : Callee h' g := by
  rcases x with ⟨fa, fo, fd, e, h1, h2⟩ | e
  · exact .inl ⟨fa, fo, fd, e, k _ _ h1, h2⟩
  · exact .inr e
theorem FnAt.keeps {h h' : Heap} {f : Addr} {attr : Str} {tl : Tail} (x : FnAt h f attr tl) (k : Kpt h h') : FnAt h' f attr tl := by
  obtain ⟨z, e, c, l⟩ := x
  exact ⟨z, k _ _ e, c.keeps k, l⟩
theorem Glob.keeps {h h' : Heap} {mg mb : Str → Option Value} (x : Glob h mg mb) (k : Kpt h h') : Glob h' mg mb := ⟨x.g.keeps k, x.b.keeps k, x.ty, x.ni, x.bty, x.bni⟩
theorem NoLimit.keeps {h h' : Heap} (x : h.NoLimit) (k : Kpt h h') : h'.NoLimit := (by obtain ⟨mc, a, b⟩ := x; exact ⟨mc, a.keeps k, b⟩)
section
variable {prog : Program} {w : World} {H : Heap} {X Y : Value} {o : CmpOp → Res} {dep un : Nat} {mg mb : Str → Option Value}
theorem fn_does {f : Addr} {op : CmpOp} {tl : Tail} (C : Cmp prog w H X Y o dep un) (hop : op ∈ four) (htl : tl.ok) (hf : FnAt H f (cmpInfo op).2.1 tl) (hG : Glob H mg mb) (hl : H.NoLimit)
    (hn : ∃ nt ob, H.get? nt = some ob ∧ mainGlobals ≠ nt ∧ builtinsNs ≠ nt) : Does prog w H (call (.ref f) [X, Y]) (madeRes o op tl).out (dep + 1) (un + 3) := by
  intro A B E Q s R kp e
  obtain ⟨nt, ob, hnt, hn0, hn1⟩ := hn
  obtain ⟨T, hT, hroot⟩ := C.root
  obtain ⟨g, hg, hcal, hdo⟩ := hroot op hop
  have nf : ∀ {fd : FuncData} {h₀ : Heap}, fd.scope.kind = .function → (∃ m, h₀.Ns s.heap.objs.size m) → Kpt s.heap h₀ → NewFm (callEnv fd s.heap.objs.size f) s h₀ :=
    fun hk hm k => ⟨hk, rfl, rfl, hm, k⟩
  refine fn_call (T := T) (g := g) (nt := nt) (P := fun b h => o op = .bool b ∧ Kpt s.heap h) (PN := fun h => o op = .ni ∧ Kpt s.heap h) (hf.keeps kp) (hG.keeps kp) (NoLimit.keeps hl kp) (by have := R.depth; omega) (Heap.lt_size (kp _ _ hnt)) hn0 hn1
    (fun A' E' h₀ tk Q' keep hq => hT A' E' _ Q' (kp.trans keep) (hq tk)) (fun A' E' h₀ tk pl Q' keep hq => hg A' E' _ pl Q' (kp.trans keep) fun tk' => hq tk') (hcal.keeps kp) ?op ?hP ?hPN ?hend ?hendN
  case op =>
    intro fd h₀ tk Q' hk keep hm hb hni
    refine hdo _ B _ _ _ ((R.push (nf hk hm keep))) (kp.trans keep) ?_
    cases ho : o op with
    | bool b => exact fun v h' tk' hv k => hv ▸ hb b h' tk' (Kq.of k) ⟨ho, Kpt.trans keep k⟩
    | ni => exact fun v h' tk' hv k => hv ▸ hni h' tk' (Kq.of k) ⟨ho, Kpt.trans keep k⟩
    | exc X =>
      refine fun v s' hv => Flew.leave R (nf hk hm keep).frame keep hv fun v s' hv' => ?_
      have : (madeRes o op tl).out = .exc X := by unfold madeRes; rw [ho]; rfl
      rw [this] at e
      exact e v s' hv'
  case hP =>
    rintro b h h' ⟨hb, k⟩ _ st
    exact ⟨hb, fun c ob hc => st c ob (Nat.ne_of_lt (Heap.lt_size hc)) (k c ob hc)⟩
  case hPN =>
    rintro h h' ⟨hb, k⟩ _ st
    exact ⟨hb, fun c ob hc => st c ob (Nat.ne_of_lt (Heap.lt_size hc)) (k c ob hc)⟩
  case hend =>
    rintro fd b h₂ tk₂ hk _ hm ⟨ho, k₂⟩
    unfold endOf
    cases tl with
    | one n t1 t2 =>
      have : (madeRes o op (.one n t1 t2)).out = .ret (· = .bool (n ^^ b)) := by unfold madeRes; rw [ho]; rfl
      rw [this] at e
      exact e _ h₂ tk₂ rfl k₂
    | two n bo co t1 t2 t3 t4 t5 t6 =>
      dsimp only
      by_cases hc : (n ^^ b) = stopAt bo
      · have : (madeRes o op (.two n bo co t1 t2 t3 t4 t5 t6)).out = .ret (· = .bool (n ^^ b)) := by unfold madeRes; rw [ho]; dsimp only; rw [if_pos hc]; rfl
        rw [this] at e
        rw [if_pos hc]
        exact e _ h₂ tk₂ rfl k₂
      · have : (madeRes o op (.two n bo co t1 t2 t3 t4 t5 t6)) = o co := by unfold madeRes; rw [ho]; dsimp only; rw [if_neg hc]
        rw [this] at e
        rw [if_neg hc]
        refine C.eqs op b hop ho co htl _ B _ _ _ (R.push (nf hk hm k₂)) (kp.trans k₂) ?_
        cases hoc : o co with
        | bool b' => rw [hoc] at e; exact fun v h' tk' hv k => e v h' tk' hv (k₂.trans k)
        | ni => rw [hoc] at e; exact fun v h' tk' hv k => e v h' tk' hv (k₂.trans k)
        | exc X => rw [hoc] at e; exact fun v s' hv => Flew.leave R (nf hk hm k₂).frame k₂ hv e
  case hendN =>
    rintro h₂ tk₂ _ ⟨ho, k₂⟩
    have : (madeRes o op tl).out = .ret (· = .notImplemented) := by unfold madeRes; rw [ho]; rfl
    rw [this] at e
    exact e _ h₂ tk₂ rfl k₂
end
end Mine
end

-- part R3
section
open PySem PySem.W PySem.Calls PyProof.Rows
set_option maxRecDepth 100000
namespace Mine
/-- just one of the two leaves 4 by 5 -/
noncomputable def refuse (a b : Int) : Bool := (a.fmod 5 == 4) != (b.fmod 5 == 4)
noncomputable def intOut : Option Int → Out
  | none => .exc "KeyError"
  | some d => .ret fun v => ∃ t, v = .int d t
/-- what the comparison under the keys tells -/
noncomputable def ans (a b : Int) : Option Int := if refuse a b = true then none else some (3 * (a.fdiv 2 - b.fdiv 2))
/-- the names that the comparison reads -/
structure GE (H : Heap) (mg mb : Str → Option Value) : Prop where
  g : H.Ns mainGlobals mg
  b : H.Ns builtinsNs mb
  lim : H.NoLimit
  ke : mg "KeyError" = none
  bke : mb "KeyError" = some (.type "KeyError")
theorem GE.keeps {H H' : Heap} {mg mb : Str → Option Value} (x : GE H mg mb) (k : Kpt H H') : GE H' mg mb := ⟨x.g.keeps k, x.b.keeps k, NoLimit.keeps x.lim k, x.ke, x.bke⟩
section
variable {prog : Program} {w : World} {H : Heap} {mg mb : Str → Option Value}
theorem answer_does {a b : Int} {t u : Tok} (X : (hd.heap_39 w.params).In H) (G : GE H mg mb) : Does prog w H (call (.ref 112) [.int a t, .int b u]) (intOut (ans a b)) 1 3 := by
  intro A B E Q s R kp e
  have G' := G.keeps kp
  refine wpAny_call (codeAny_call_plain (binds := [("a", .int a t), ("b", .int b u)]) (by have := R.depth; omega) (kp _ _ (X 112 _ rfl)) rfl G'.lim ((codeRec_of X (by rfl)).keeps kp) rfl rfl (by decide) (locs rfl) fun h₀ hns keep => ?_)
  refine wpAny_execs_cons (wpAny_If (wpAny_isTrue_Compare1 (wpAny_Compare1 (wpAny_BinOp (wpAny_Name (wpAny_loadName_local rfl rfl hns rfl (wpAny_Constant_int (mod_int' (by decide) (wpAny_Constant_int (PyProof.Rows.eq_int ?_)))))))))) 
  refine wpAny_Compare1 (wpAny_BinOp (wpAny_Name (wpAny_loadName_local rfl rfl hns rfl (wpAny_Constant_int (mod_int' (by decide) (wpAny_Constant_int (PyProof.Rows.eq_int ?_)))))))
  refine ne_bool (wpAny_truthy_bool ?_)
  have hr : ans a b = if ((a.fmod 5 == 4) != (b.fmod 5 == 4)) = true then none else some (3 * (a.fdiv 2 - b.fdiv 2)) := rfl
  by_cases c : ((a.fmod 5 == 4) != (b.fmod 5 == 4)) = true
  · rw [if_pos c] at hr ⊢
    rw [hr] at e
    refine wpAny_execs_cons (Raise_new R.hand (wpAny_Call_Name_kw (Name_function_global rfl rfl (loadGlobal_builtin (G'.g.keeps keep) G.ke (G'.b.keeps keep) G.bke ?_))))
    refine callWith_excType rfl (evalArgs_plain (spliced_cons (wpAny_Name (wpAny_loadName_local rfl rfl hns rfl (spliced_nil ?_)))))
    refine call_exc_raise excClass_KeyError (fun h' x hx => ?_) (by rw [sizeLine_eq]; simp)
    exact Fresh.leave (s := s) (h₁ := h₀) R ⟨rfl, rfl, rfl, ⟨_, hns⟩, keep⟩ (Fresh.of_new hx.of) e
  · rw [if_neg c] at hr ⊢
    rw [hr] at e
    refine wpAny_execs_nil (wpAny_execs_cons (wpAny_Return_some (wpAny_BinOp (wpAny_Constant_int (wpAny_BinOp (wpAny_BinOp (wpAny_Name (wpAny_loadName_local rfl rfl hns rfl (wpAny_Constant_int (floordiv_int (by decide) ?_)))))))))) 
    refine wpAny_BinOp (wpAny_Name (wpAny_loadName_local rfl rfl hns rfl (wpAny_Constant_int (floordiv_int (by decide) (sub_int (mul_int ?_))))))
    exact e _ h₀ _ ⟨_, rfl⟩ keep
end
end Mine
end

-- part R4
section
open PySem PySem.W PySem.Calls PyProof.Rows
set_option maxRecDepth 100000
namespace Mine
noncomputable def keyRes (r : Option Int) (op : CmpOp) : Res := match r with
  | none => .exc "KeyError"
  | some d => .bool (match op with | .NotEq => !says .Eq d | _ => says op d)
theorem keyRes_out {r : Option Int} {op : CmpOp} (ho : op ∈ cmps) : (keyRes r op).out = match r with | none => .exc "KeyError" | some d => .ret (· = .bool (says op d)) := by
  cases r with
  | none => rfl
  | some d => cases op <;> first | rfl | exact absurd ho (by decide)
theorem Key.keeps {h h' : Heap} {a : KA} {cc fa : Addr} (x : Key h a cc fa) (k : Kpt h h') : Key h' a cc fa :=
  ⟨x.cls.keeps k, fun op ho => (x.meth op ho).keeps k, x.cell.keeps k, (by obtain ⟨oc, od, fd, sl, e⟩ := x.fn; exact ⟨oc, od, fd, sl, k _ _ e⟩)⟩
/-- Y has no .obj -/
noncomputable def NoObj (prog : Program) (w : World) (H : Heap) (Y : Value) : Prop := ∀ (A : Around) (E : Value → Shared → Prop) (s : Shared) (Q : Value → Shared → Prop), A.handled = none → Kpt H s.heap →
  (∀ h' tk e, Fresh s.heap h' e "AttributeError" → E (.ref e) { s with heap := h', toks := tk }) → wpAny (model prog w) A (getAttr Y "obj" true) Q E s
section
variable {prog : Program} {w : World} {H : Heap} {a : KA} {cc fa x y : Addr} {v1 v2 Y : Value} {r : Option Int} {dep un : Nat}
theorem Rm.in1 {A : Around} {B : Heap} {s : Shared} (R : Rm A B s dep (un + 1)) : Rm A.in1 B s dep un := by
  obtain ⟨outer, K⟩ := R.below
  exact ⟨R.depth, by show A.units + 1 + un < _; have := R.units; omega, R.hand, outer, K.stack, K.stays, K.frames⟩
theorem meth_does {op : CmpOp} (ho : op ∈ cmps) (K : Key H a cc fa) (hl : H.NoLimit) (hA : Does prog w H (call (.ref fa) [v1, v2]) (intOut r) dep un) (ix : InstK H a x v1) (iy : InstK H a y v2) (h1 : handedIn v1 = true) (h2 : handedIn v2 = true) :
    Does prog w H (call (.ref (a.fn op)) [.ref x, .ref y]) (keyRes r op).out (dep + 1) (un + 3) := by
  intro A B E Q s R kp e
  have K' := K.keeps kp
  obtain ⟨z, od, sl, hf, hcd⟩ := K'.meth op ho
  obtain ⟨foc, fod, fdd, fsl, hfa⟩ := K'.fn
  refine wpAny_call (codeAny_call_plain (binds := [("self", .ref x), ("other", .ref y)]) (by have := R.depth; omega) hf rfl (NoLimit.keeps hl kp) hcd rfl (binds2 _ _ ⟨_, _, rfl⟩ rfl) (show ∀ x ∈ mScope.names, x.2 ≠ NameKind.cell from by decide) (locs rfl) fun h₀ hns keep => ?_)
  have N : NewFm (callEnv (mFd z op cc) s.heap.objs.size (a.fn op)) s h₀ := ⟨rfl, rfl, rfl, ⟨_, hns⟩, keep⟩
  refine wpAny_execs_cons (wpAny_Return_some (wpAny_Compare1 (wpAny_Call_Name_kw (wpAny_Name (wpAny_loadName_free (c := cc) (v := .ref fa) rfl rfl rfl (K'.cell.keeps keep) ?_)))))
  refine callWith_function (o := ⟨foc, fod, .func fdd, fsl⟩) (fd := fdd) (evalArgs_plain (spliced_cons (Attribute_name (wpAny_Name (wpAny_loadName_local rfl rfl hns rfl ?_)))))
  refine obj_get (K'.cls.keeps keep) ((ix.keeps kp).keeps keep) h1 ?_
  refine spliced_cons (Attribute_name (wpAny_Name (wpAny_loadName_local rfl rfl hns rfl ?_)))
  refine obj_get (s := { s with heap := h₀, toks := s.toks + 2 + 1 }) (K'.cls.keeps keep) ((iy.keeps kp).keeps keep) h2 ?_
  refine spliced_nil ⟨⟨keep _ _ hfa, rfl⟩, ?_⟩
  refine hA _ B _ _ _ (R.push N) (kp.trans keep) ?_
  rw [keyRes_out ho] at e
  cases r with
  | none => exact fun v s' hv => Flew.leave R rfl keep hv e
  | some d =>
    rintro v h' tk' ⟨t, rfl⟩ k
    exact wpAny_Constant_int (cmp_zero ho (e _ h' _ rfl (Kpt.trans keep k)))
theorem meth_miss {op : CmpOp} (ho : op ∈ cmps) (K : Key H a cc fa) (hl : H.NoLimit) (ix : InstK H a x v1) (h1 : handedIn v1 = true) (nY : NoObj prog w H Y) :
    Does prog w H (call (.ref (a.fn op)) [.ref x, Y]) (.exc "AttributeError") 1 3 := by
  intro A B E Q s R kp e
  have K' := K.keeps kp
  obtain ⟨z, od, sl, hf, hcd⟩ := K'.meth op ho
  obtain ⟨foc, fod, fdd, fsl, hfa⟩ := K'.fn
  refine wpAny_call (codeAny_call_plain (binds := [("self", .ref x), ("other", Y)]) (by have := R.depth; omega) hf rfl (NoLimit.keeps hl kp) hcd rfl (binds2 _ _ ⟨_, _, rfl⟩ rfl) (show ∀ x ∈ mScope.names, x.2 ≠ NameKind.cell from by decide) (locs rfl) fun h₀ hns keep => ?_)
  have N : NewFm (callEnv (mFd z op cc) s.heap.objs.size (a.fn op)) s h₀ := ⟨rfl, rfl, rfl, ⟨_, hns⟩, keep⟩
  refine wpAny_execs_cons (wpAny_Return_some (wpAny_Compare1 (wpAny_Call_Name_kw (wpAny_Name (wpAny_loadName_free (c := cc) (v := .ref fa) rfl rfl rfl (K'.cell.keeps keep) ?_)))))
  refine callWith_function (o := ⟨foc, fod, .func fdd, fsl⟩) (fd := fdd) (evalArgs_plain (spliced_cons (Attribute_name (wpAny_Name (wpAny_loadName_local rfl rfl hns rfl ?_)))))
  refine obj_get (K'.cls.keeps keep) ((ix.keeps kp).keeps keep) h1 ?_
  refine spliced_cons (Attribute_name (wpAny_Name (wpAny_loadName_local rfl rfl hns rfl ?_)))
  refine nY _ _ { s with heap := h₀, toks := s.toks + 2 + 1 } _ R.hand (kp.trans keep) fun h' tk e' hx => ?_
  exact Fresh.leave (s := s) R N hx e
theorem ownOp {h : Heap} {op : CmpOp} (k : KAt h a) (ix : InstK h a x v1) (ho : op ∈ cmps) : h.OwnSpecial x a.C (a.fn op) "object" (cmpInfo op).2.1 := by
  obtain ⟨q, k0, k1, k2, k3, k5, hC⟩ := k.cls
  obtain ⟨od, fd, sl, hf⟩ := k.fn op ho
  obtain ⟨dx, hx, _⟩ := ix
  obtain ⟨mN, hn, hm', _⟩ := nsK k
  have hm := hm' op ho
  have hB : ∃ y, typeLookup (.type "object") (cmpInfo op).2.1 = pure y := by
    simp only [cmps, List.mem_cons, List.not_mem_nil, or_false] at ho
    rw [typeLookup_type, builtinLookup_eq_fast]
    rcases ho with rfl | rfl | rfl | rfl | rfl
    · exact ⟨some (.builtin "object.__lt__"), by kernel_rfl⟩
    · exact ⟨some (.builtin "object.__gt__"), by kernel_rfl⟩
    · exact ⟨some (.builtin "object.__eq__"), by kernel_rfl⟩
    · exact ⟨some (.builtin "object.__le__"), by kernel_rfl⟩
    · exact ⟨some (.builtin "object.__ge__"), by kernel_rfl⟩
  obtain ⟨yv, hy⟩ := hB
  exact ⟨_, _, _, _, _, _, _, _, _, _, _, _, _, _, _, _, _, _, _, mN, _, hx, rfl, hC, hn, hm, hf, rfl, F.cmp_object.mro, hy⟩
theorem key_eqs (K : Key H a cc fa) (hl : H.NoLimit) (hA : Does prog w H (call (.ref fa) [v1, v2]) (intOut r) dep un) (ix : InstK H a x v1) (iy : InstK H a y v2) (h1 : handedIn v1 = true) (h2 : handedIn v2 = true) {co : CmpOp} (hco : co ∈ cmps ∨ co = .NotEq) :
    Does prog w H (compareOp co (.ref x) (.ref y)) (keyRes r co).out (dep + 1) (un + 4) := by
  intro A B E Q s R kp e
  have K' := K.keeps kp
  obtain ⟨dy, hy1, _⟩ := iy.keeps kp
  obtain ⟨hp, g, d, t, os⟩ := s
  have own : ∀ {op : CmpOp}, op ∈ cmps → hp.OwnSpecial x a.C (a.fn op) "object" (cmpInfo op).2.1 := fun ho => ownOp K'.cls (ix.keeps kp) ho
  rcases hco with ho | rfl
  · have hm := meth_does ho K hl hA ix iy h1 h2
    refine compareOp_own_same (op := co) (h := hp) rfl (by revert ho; cases co <;> decide) (own ho) hy1 rfl (by have := R.units; omega) ?_
    refine hm A B _ _ _ (R.less (Nat.le_refl _) (Nat.le_succ _)) kp ?_
    rw [keyRes_out ho] at e ⊢
    cases r with
    | none => exact e
    | some d => exact fun v h' tk' hv k => ⟨_, hv, e _ h' tk' rfl k⟩
  · have hm := meth_does (op := .Eq) (by decide) K hl hA ix iy h1 h2
    refine compareOp_ne_ownEq (h := hp) F.cmp_object (ownEq K'.cls (ix.keeps kp)) hy1 rfl (by have := R.units; omega) ?_
    refine hm A.in1 B _ _ _ R.in1 kp ?_
    rw [keyRes_out (by decide)]
    cases r with
    | none => exact e
    | some d => exact fun v h' tk' hv k => ⟨_, hv, e _ h' tk' rfl k⟩
theorem keyT (K : KAt H a) (ix : InstK H a x v1) : ∀ (A : Around) (E : Value → Shared → Prop) s (Q : Value → Shared → Prop), Kpt H s.heap → Q (.ref a.C) s → wpAny (model prog w) A (call (.type "type") [.ref x]) Q E s := by
  intro A E s Q kp hq
  obtain ⟨ox, od, I, _⟩ := (ix.keeps kp).at
  exact kto_own I hq
theorem keyG (K : KAt H a) {op : CmpOp} (ho : op ∈ cmps) : (∀ (A : Around) (E : Value → Shared → Prop) s pl (Q : Value × List Value → Shared → Prop), Kpt H s.heap → (∀ tk', Q (.ref (a.fn op), []) { s with toks := tk' }) → wpAny (model prog w) A (getMethod (.ref a.C) (cmpInfo op).2.1 pl) Q E s) ∧ Callee H (.ref (a.fn op)) := by
  refine ⟨fun A E s pl Q kp hq => cls_method (K.keeps kp) ho (hq _), ?_⟩
  obtain ⟨od, fd, sl, e⟩ := K.fn op ho
  exact .inl ⟨_, _, _, rfl, e, rfl⟩
theorem four_cmps {op : CmpOp} (h : op ∈ four) : op ∈ cmps := by
  simp only [four, List.mem_cons, List.not_mem_nil, or_false] at h
  rcases h with rfl | rfl | rfl | rfl <;> decide
theorem Does.more {t : Sem Value} {o : Out} {d u d' u' : Nat} (x : Does prog w H t o d u) (hd : d ≤ d') (hu : u ≤ u') : Does prog w H t o d' u' :=
  fun A B E Q s R kp e => x A B E Q s (R.less hd hu) kp e
/-- two keys -/
theorem key_cmp (K : Key H a cc fa) (hl : H.NoLimit) (hA : Does prog w H (call (.ref fa) [v1, v2]) (intOut r) dep un) (ix : InstK H a x v1) (iy : InstK H a y v2) (h1 : handedIn v1 = true) (h2 : handedIn v2 = true) :
    Cmp prog w H (.ref x) (.ref y) (keyRes r) (dep + 1) (un + 4) :=
  ⟨⟨.ref a.C, keyT K.cls ix, fun op ho => ⟨.ref (a.fn op), (keyG K.cls (four_cmps ho)).1, (keyG (prog := prog) (w := w) K.cls (four_cmps ho)).2, (meth_does (four_cmps ho) K hl hA ix iy h1 h2).more (Nat.le_refl _) (Nat.le_succ _)⟩⟩,
   fun _ _ _ _ co hco => key_eqs K hl hA ix iy h1 h2 (by rcases hco with rfl | rfl; exact .inl (by decide); exact .inr rfl)⟩
/-- a key beside what is none -/
theorem key_miss (K : Key H a cc fa) (hl : H.NoLimit) (ix : InstK H a x v1) (h1 : handedIn v1 = true) (nY : NoObj prog w H Y) :
    Cmp prog w H (.ref x) Y (fun _ => .exc "AttributeError") 1 3 :=
  ⟨⟨.ref a.C, keyT K.cls ix, fun op ho => ⟨.ref (a.fn op), (keyG K.cls (four_cmps ho)).1, (keyG (prog := prog) (w := w) K.cls (four_cmps ho)).2, meth_miss (four_cmps ho) K hl ix h1 nY⟩⟩,
   fun _ _ _ h => by cases h⟩
end
end Mine
end

-- part R5
section
open PySem PySem.W PySem.W.X PySem.Calls PyProof.Rows
set_option maxRecDepth 100000
namespace Mine
noncomputable abbrev six : List CmpOp := [.Lt, .Gt, .LtE, .GtE, .Eq, .NotEq]
theorem four_six {op : CmpOp} (h : op ∈ four) : op ∈ six := by
  simp only [four, List.mem_cons, List.not_mem_nil, or_false] at h
  rcases h with rfl | rfl | rfl | rfl <;> decide
/-- a built-in type's comparisons -/
structure TF (T : String) (id : CmpOp → String) : Prop where
  ty : typeOf (.type T) = pure (.type "type")
  stub : Manifest.isStub T = false
  nb : (Value.type T == Value.type "builtin_function_or_method") = false
  find : ∀ op ∈ four, findCls [] (.type T) (.type "type") (cmpInfo op).2.1 = some (.val (.builtin (id op)))
  slot : ∀ op ∈ six, Slot T (cmpInfo op).2.1 (id op)
  hand : ∀ op ∈ four, handedIn (.builtin (id op)) = true
  args : ∀ op ∈ six, ∀ a b : Value, argsOk (id op) ⟨[a, b], []⟩
section
variable {prog : Program} {w : World} {H : Heap} {X Y : Value} {o : CmpOp → Res} {dep un : Nat} {T : String} {id : CmpOp → String} {mg : Str → Option Value}
theorem six_cmp {op : CmpOp} (h : op ∈ six) (a b : Value) : compareOp op a b = richCompare op a b := by
  simp only [six, List.mem_cons, List.not_mem_nil, or_false] at h
  rcases h with rfl | rfl | rfl | rfl | rfl | rfl <;> rfl
theorem empty_in (h : Heap) : Frag.In [] h := fun _ _ e => by cases e
theorem bi_root (F : TF T id) (hX : ∀ s : Shared, Kpt H s.heap → s.TypeIs X T) (hns : H.Ns mainGlobals mg) (hd : ∀ op ∈ four, Does prog w H (call (.builtin (id op)) [X, Y]) (o op).out dep un) :
    ∃ T, (∀ A E s (Q : Value → Shared → Prop), Kpt H s.heap → Q T s → wpAny (model prog w) A (call (.type "type") [X]) Q E s) ∧
    ∀ op ∈ four, ∃ g, (∀ A E s pl (Q : Value × List Value → Shared → Prop), Kpt H s.heap → (∀ tk', Q (g, []) { s with toks := tk' }) → wpAny (model prog w) A (getMethod T (cmpInfo op).2.1 pl) Q E s) ∧
      Callee H g ∧ Does prog w H (call g [X, Y]) (o op).out dep un := by
  refine ⟨.type T, fun A E s Q kp hq => call_type_of (hX s kp) F.nb hq, fun op ho => ⟨.builtin (id op), fun A E s pl Q kp hq => ?_, .inr ⟨_, rfl⟩, hd op ho⟩⟩
  have Fr0 : Fr { objs := #[] } mainGlobals s.heap mg := ⟨hns.keeps kp, fun b o e => by simp [Heap.get?] at e, Nat.zero_le _⟩
  exact method_type Fr0 (empty_in _) F.ty F.stub (F.find op ho) (F.hand op ho) (hq _)
theorem bi_ni (F : TF T id) (hX : ∀ s : Shared, Kpt H s.heap → s.TypeIs X T) (hns : H.Ns mainGlobals mg) (hd : ∀ op ∈ four, Does prog w H (call (.builtin (id op)) [X, Y]) (.ret (· = .notImplemented)) dep un) :
    Cmp prog w H X Y (fun _ => .ni) dep un := ⟨bi_root F hX hns hd, fun _ _ _ h => by cases h⟩
theorem bi_cmp (F : TF T id) (hX : ∀ s : Shared, Kpt H s.heap → s.TypeIs X T) (hY : ∀ s : Shared, Kpt H s.heap → s.TypeIs Y T) (hns : H.Ns mainGlobals mg) (hd : ∀ op ∈ four, Does prog w H (call (.builtin (id op)) [X, Y]) (o op).out dep un)
    (he : (∃ op b, op ∈ four ∧ o op = .bool b) → ∀ co, co = .Eq ∨ co = .NotEq → (∃ b, o co = .bool b) ∧ Does prog w H (call (.builtin (id co)) [X, Y]) (o co).out dep un) : Cmp prog w H X Y o dep un := by
  refine ⟨bi_root F hX hns hd, fun op b ho hb co hco => ?_⟩
  obtain ⟨⟨c, hc⟩, hD⟩ := he ⟨op, b, ho, hb⟩ co hco
  have h6 : co ∈ six := by rcases hco with rfl | rfl <;> decide
  intro A B E Q s R kp e
  rw [six_cmp h6]
  refine wpAny_richCompare_same_or (hX s kp) (hY s kp) (F.slot co h6) ?_ (.inr (by have := R.units; omega))
  rw [hc] at e
  refine hD A B E _ s R kp ?_
  rw [hc]
  rintro v h' tk' rfl k
  exact ⟨by simp, e _ h' tk' rfl k⟩
end
end Mine
end

-- part R6
section
open PySem PySem.W PySem.W.X PySem.Calls PyProof.Rows
set_option maxRecDepth 100000
namespace Mine
theorem of_six {P : CmpOp → Prop} (h1 : P .Lt) (h2 : P .Gt) (h3 : P .LtE) (h4 : P .GtE) (h5 : P .Eq) (h6 : P .NotEq) : ∀ op ∈ six, P op := by
  intro op h
  simp only [six, List.mem_cons, List.not_mem_nil, or_false] at h
  rcases h with rfl | rfl | rfl | rfl | rfl | rfl <;> assumption
theorem of_four {P : CmpOp → Prop} (h1 : P .Lt) (h2 : P .Gt) (h3 : P .LtE) (h4 : P .GtE) : ∀ op ∈ four, P op := by
  intro op h
  simp only [four, List.mem_cons, List.not_mem_nil, or_false] at h
  rcases h with rfl | rfl | rfl | rfl <;> assumption
noncomputable def idI : CmpOp → String
  | .Lt => "int.__lt__" | .Gt => "int.__gt__" | .LtE => "int.__le__" | .GtE => "int.__ge__" | .Eq => "int.__eq__" | _ => "int.__ne__"
noncomputable def idL : CmpOp → String
  | .Lt => "list.__lt__" | .Gt => "list.__gt__" | .LtE => "list.__le__" | .GtE => "list.__ge__" | .Eq => "list.__eq__" | _ => "list.__ne__"
noncomputable def idT : CmpOp → String
  | .Lt => "tuple.__lt__" | .Gt => "tuple.__gt__" | .LtE => "tuple.__le__" | .GtE => "tuple.__ge__" | .Eq => "tuple.__eq__" | _ => "tuple.__ne__"
noncomputable def idS : CmpOp → String
  | .Lt => "set.__lt__" | .Gt => "set.__gt__" | .LtE => "set.__le__" | .GtE => "set.__ge__" | .Eq => "set.__eq__" | _ => "set.__ne__"
theorem tfI : TF "int" idI :=
  ⟨by first | rfl | kernel_rfl, by decide +kernel, by rfl, of_four (by kernel_rfl) (by kernel_rfl) (by kernel_rfl) (by kernel_rfl), of_six F.slot_int_lt F.slot_int_gt F.slot_int_le F.slot_int_ge F.slot_int_eq F.slot_int_ne, of_four (by decide +kernel) (by decide +kernel) (by decide +kernel) (by decide +kernel),
    of_six F.args_int_lt_2 F.args_int_gt_2 F.args_int_le_2 F.args_int_ge_2 F.args_int_eq_2 F.args_int_ne_2⟩
theorem tfL : TF "list" idL :=
  ⟨by first | rfl | kernel_rfl, by decide +kernel, by rfl, of_four (by kernel_rfl) (by kernel_rfl) (by kernel_rfl) (by kernel_rfl), of_six F.slot_list_lt F.slot_list_gt F.slot_list_le F.slot_list_ge F.slot_list_eq F.slot_list_ne, of_four (by decide +kernel) (by decide +kernel) (by decide +kernel) (by decide +kernel),
    of_six F.args_list_lt_2 F.args_list_gt_2 F.args_list_le_2 F.args_list_ge_2 F.args_list_eq_2 F.args_list_ne_2⟩
theorem tfT : TF "tuple" idT :=
  ⟨by first | rfl | kernel_rfl, by decide +kernel, by rfl, of_four (by kernel_rfl) (by kernel_rfl) (by kernel_rfl) (by kernel_rfl), of_six F.slot_tuple_lt F.slot_tuple_gt F.slot_tuple_le F.slot_tuple_ge F.slot_tuple_eq F.slot_tuple_ne, of_four (by decide +kernel) (by decide +kernel) (by decide +kernel) (by decide +kernel),
    of_six F.args_tuple_lt_2 F.args_tuple_gt_2 F.args_tuple_le_2 F.args_tuple_ge_2 F.args_tuple_eq_2 F.args_tuple_ne_2⟩
theorem tfS : TF "set" idS :=
  ⟨by first | rfl | kernel_rfl, by decide +kernel, by rfl, of_four (by kernel_rfl) (by kernel_rfl) (by kernel_rfl) (by kernel_rfl), of_six F.slot_set_lt F.slot_set_gt F.slot_set_le F.slot_set_ge F.slot_set_eq F.slot_set_ne, of_four (by decide +kernel) (by decide +kernel) (by decide +kernel) (by decide +kernel),
    of_six F.args_set_lt_2 F.args_set_gt_2 F.args_set_le_2 F.args_set_ge_2 F.args_set_eq_2 F.args_set_ne_2⟩
end Mine
end

-- part R7
section
open PySem PySem.W PySem.W.X PySem.Calls PyProof.Rows
set_option maxRecDepth 100000
set_option linter.unusedVariables false
namespace Mine
noncomputable def bI : CmpOp → Builtin
  | .Lt => Builtin.«int.__lt__» | .Gt => Builtin.«int.__gt__» | .LtE => Builtin.«int.__le__» | .GtE => Builtin.«int.__ge__» | .Eq => Builtin.«int.__eq__» | _ => Builtin.«int.__ne__»
noncomputable def bL : CmpOp → Builtin
  | .Lt => Builtin.«list.__lt__» | .Gt => Builtin.«list.__gt__» | .LtE => Builtin.«list.__le__» | .GtE => Builtin.«list.__ge__» | .Eq => Builtin.«list.__eq__» | _ => Builtin.«list.__ne__»
noncomputable def bT : CmpOp → Builtin
  | .Lt => Builtin.«tuple.__lt__» | .Gt => Builtin.«tuple.__gt__» | .LtE => Builtin.«tuple.__le__» | .GtE => Builtin.«tuple.__ge__» | .Eq => Builtin.«tuple.__eq__» | _ => Builtin.«tuple.__ne__»
noncomputable def bS : CmpOp → Builtin
  | .Lt => Builtin.«frozenset.__lt__» | .Gt => Builtin.«frozenset.__gt__» | .LtE => Builtin.«frozenset.__le__» | .GtE => Builtin.«frozenset.__ge__» | .Eq => Builtin.«frozenset.__eq__» | _ => Builtin.«frozenset.__ne__»
noncomputable abbrev Ents (id : CmpOp → String) (b : CmpOp → Builtin) : Prop := ∀ op ∈ six, entryFor table (id op) = some (b op)
theorem enI : Ents idI bI := of_six F.entry_int_lt F.entry_int_gt F.entry_int_le F.entry_int_ge F.entry_int_eq F.entry_int_ne
theorem enL : Ents idL bL := of_six F.entry_list_lt F.entry_list_gt F.entry_list_le F.entry_list_ge F.entry_list_eq F.entry_list_ne
theorem enT : Ents idT bT := of_six F.entry_tuple_lt F.entry_tuple_gt F.entry_tuple_le F.entry_tuple_ge F.entry_tuple_eq F.entry_tuple_ne
theorem enS : Ents idS bS := by
  refine of_six ?_ ?_ ?_ ?_ ?_ ?_
  · exact entryFor_alias (id' := "frozenset.__lt__") (by kernel_rfl) (by decide +kernel) (by decide +kernel) (by kernel_rfl)
  · exact entryFor_alias (id' := "frozenset.__gt__") (by kernel_rfl) (by decide +kernel) (by decide +kernel) (by kernel_rfl)
  · exact entryFor_alias (id' := "frozenset.__le__") (by kernel_rfl) (by decide +kernel) (by decide +kernel) (by kernel_rfl)
  · exact entryFor_alias (id' := "frozenset.__ge__") (by kernel_rfl) (by decide +kernel) (by decide +kernel) (by kernel_rfl)
  · exact entryFor_alias (id' := "frozenset.__eq__") (by kernel_rfl) (by decide +kernel) (by decide +kernel) (by kernel_rfl)
  · exact entryFor_alias (id' := "frozenset.__ne__") (by kernel_rfl) (by decide +kernel) (by decide +kernel) (by kernel_rfl)
/-- what is of no heap class but a key's -/
inductive Shp (H : Heap) : Value → String → Prop
  | int (n : Int) (t : Tok) : Shp H (.int n t) "int"
  | list (l : Addr) (xs : Array Value) (n : Nat) (sl : Array (Option Value)) : H.get? l = some ⟨.type "list", none, .seq xs n, sl⟩ → Shp H (.ref l) "list"
  | tup (l : Addr) (xs : Array Value) (n : Nat) (sl : Array (Option Value)) : H.get? l = some ⟨.type "tuple", none, .seq xs n, sl⟩ → Shp H (.ref l) "tuple"
  | set (l : Addr) (es : Array (Int × Value)) (n : Nat) (t : SetTable) (sl : Array (Option Value)) : H.get? l = some ⟨.type "set", none, .set es n t, sl⟩ → Shp H (.ref l) "set"
  | key (l C N : Addr) (q : Str) (k0 k1 k2 k3 k5 : Option Value) (d : Option Addr) (sl : Array (Option Value)) : H.get? l = some ⟨.ref C, d, .plain, sl⟩ → H.get? C = some (kObj C N q k0 k1 k2 k3 k5) → Shp H (.ref l) "K"
/-- the tree says: not implemented -/
noncomputable abbrev Tni (prog : Program) (w : World) (H : Heap) (b : Builtin) (X Y : Value) : Prop := ∀ (A : Around) (E : Value → Shared → Prop) (s : Shared) (Q : Fin → Shared → Prop), Kpt H s.heap → Q (.done (.ret .notImplemented)) s → wpAny (model prog w) A (b ⟨[X, Y], []⟩) Q E s
section
variable {prog : Program} {w : World} {H : Heap} {X Y : Value}
theorem ni_does {T : String} {id : CmpOp → String} {b : CmpOp → Builtin} (F : TF T id) (en : Ents id b) (hX : ∀ s : Shared, Kpt H s.heap → s.TypeIs X T) (tr : ∀ op ∈ four, Tni prog w H (b op) X Y) :
    ∀ op ∈ four, Does prog w H (call (.builtin (id op)) [X, Y]) (.ret (· = .notImplemented)) 0 0 := fun op ho A B E Q s R kp e =>
  wpAny_call_entry (F.slot op (four_six ho)) (hX s kp) (en op (four_six ho)) (tr op ho _ _ _ _ kp ⟨_, rfl, e _ _ _ rfl Kpt.rfl⟩) (F.args op (four_six ho) _ _)
theorem tI {n : Int} {t : Tok} {T : String} (y : Shp H Y T) (hT : T ≠ "int") : ∀ op ∈ four, Tni prog w H (bI op) (.int n t) Y := by
  cases y with
  | int => exact absurd rfl hT
  | list l xs n sl e => refine of_four ?_ ?_ ?_ ?_ <;> exact fun _ _ _ _ kp hq => w_sk 60 (w_load (a := l) (by kernel_rfl) (kp _ _ e) (w_pure (by kernel_rfl) hq))
  | tup l xs n sl e => refine of_four ?_ ?_ ?_ ?_ <;> exact fun _ _ _ _ kp hq => w_sk 60 (w_load (a := l) (by kernel_rfl) (kp _ _ e) (w_pure (by kernel_rfl) hq))
  | set l es n st sl e => refine of_four ?_ ?_ ?_ ?_ <;> exact fun _ _ _ _ kp hq => w_sk 60 (w_load (a := l) (by kernel_rfl) (kp _ _ e) (w_pure (by kernel_rfl) hq))
  | key l C N q k0 k1 k2 k3 k5 d sl e eC => refine of_four ?_ ?_ ?_ ?_ <;> exact fun _ _ _ _ kp hq => w_sk 60 (w_load (a := l) (by kernel_rfl) (kp _ _ e) (w_pure (by kernel_rfl) hq))
theorem tL {m : Addr} {T : String} (y : Shp H Y T) (hT : T ≠ "list") : ∀ op ∈ four, Tni prog w H (bL op) (.ref m) Y := by
  cases y with
  | int => refine of_four ?_ ?_ ?_ ?_ <;> exact fun _ _ _ _ kp hq => w_sk 60 (w_pure (by kernel_rfl) hq)
  | list l xs n sl e => exact absurd rfl hT
  | tup l xs n sl e => refine of_four ?_ ?_ ?_ ?_ <;> exact fun _ _ _ _ kp hq => w_sk 60 (w_load (a := l) (by kernel_rfl) (kp _ _ e) (w_pure (by kernel_rfl) hq))
  | set l es n st sl e => refine of_four ?_ ?_ ?_ ?_ <;> exact fun _ _ _ _ kp hq => w_sk 60 (w_load (a := l) (by kernel_rfl) (kp _ _ e) (w_pure (by kernel_rfl) hq))
  | key l C N q k0 k1 k2 k3 k5 d sl e eC => refine of_four ?_ ?_ ?_ ?_ <;> exact fun _ _ _ _ kp hq => w_sk 60 (w_load (a := l) (by kernel_rfl) (kp _ _ e) (w_load (a := C) (by kernel_rfl) (kp _ _ eC) (w_pure (by kernel_rfl) hq)))
theorem tT {m : Addr} {T : String} (y : Shp H Y T) (hT : T ≠ "tuple") : ∀ op ∈ four, Tni prog w H (bT op) (.ref m) Y := by
  cases y with
  | int => refine of_four ?_ ?_ ?_ ?_ <;> exact fun _ _ _ _ kp hq => w_sk 60 (w_pure (by kernel_rfl) hq)
  | list l xs n sl e => refine of_four ?_ ?_ ?_ ?_ <;> exact fun _ _ _ _ kp hq => w_sk 60 (w_load (a := l) (by kernel_rfl) (kp _ _ e) (w_pure (by kernel_rfl) hq))
  | tup l xs n sl e => exact absurd rfl hT
  | set l es n st sl e => refine of_four ?_ ?_ ?_ ?_ <;> exact fun _ _ _ _ kp hq => w_sk 60 (w_load (a := l) (by kernel_rfl) (kp _ _ e) (w_pure (by kernel_rfl) hq))
  | key l C N q k0 k1 k2 k3 k5 d sl e eC => refine of_four ?_ ?_ ?_ ?_ <;> exact fun _ _ _ _ kp hq => w_sk 60 (w_load (a := l) (by kernel_rfl) (kp _ _ e) (w_load (a := C) (by kernel_rfl) (kp _ _ eC) (w_pure (by kernel_rfl) hq)))
theorem tS {m : Addr} {T : String} (y : Shp H Y T) (hT : T ≠ "set") : ∀ op ∈ four, Tni prog w H (bS op) (.ref m) Y := by
  cases y with
  | int => refine of_four ?_ ?_ ?_ ?_ <;> exact fun _ _ _ _ kp hq => w_sk 60 (w_pure (by kernel_rfl) hq)
  | list l xs n sl e => refine of_four ?_ ?_ ?_ ?_ <;> exact fun _ _ _ _ kp hq => w_sk 60 (w_load (a := l) (by kernel_rfl) (kp _ _ e) (w_load (a := l) (by kernel_rfl) (kp _ _ e) (w_pure (by kernel_rfl) hq)))
  | tup l xs n sl e => refine of_four ?_ ?_ ?_ ?_ <;> exact fun _ _ _ _ kp hq => w_sk 60 (w_load (a := l) (by kernel_rfl) (kp _ _ e) (w_load (a := l) (by kernel_rfl) (kp _ _ e) (w_pure (by kernel_rfl) hq)))
  | set l es n st sl e => exact absurd rfl hT
  | key l C N q k0 k1 k2 k3 k5 d sl e eC => refine of_four ?_ ?_ ?_ ?_ <;> exact fun _ _ _ _ kp hq => w_sk 60 (w_load (a := l) (by kernel_rfl) (kp _ _ e) (w_load (a := C) (by kernel_rfl) (kp _ _ eC) (w_load (a := l) (by kernel_rfl) (kp _ _ e) (w_load (a := C) (by kernel_rfl) (kp _ _ eC) (w_pure (by kernel_rfl) hq)))))
end
end Mine
end

-- part R8
section
open PySem PySem.W PySem.W.X PySem.Calls PyProof.Rows
set_option maxRecDepth 100000
namespace Mine
theorem am_set_getattr_none : typeLookup (.type "set") "__getattr__" = pure none := am_miss_of_fast (by kernel_rfl)
theorem am_entry_set_getattribute : entryFor table "set.__getattribute__" = some Builtin.«object.__getattribute__» :=
  entryFor_alias (id' := "object.__getattribute__") (by kernel_rfl) (by decide +kernel) (by decide +kernel) (by kernel_rfl)
theorem set_no_obj : typeLookup (.type "set") "obj" = pure none := am_miss_of_fast (by kernel_rfl)
theorem meets_miss_set (a : Addr) (es : Array (Int × Value)) (n : Nat) (t : SetTable) (sl : Array (Option Value)) (u : Tok) :
    Meets (Builtin.«object.__getattribute__» ⟨[.ref a, .str "obj" u], []⟩) (fun A R s => s.heap.get? a = some { cls := .type "set", dict := none, data := .set es n t, slots := sl } ∧ raisesAttr (.ref a) "obj" A R s) :=
  Meets.of_wp fun prog w A R s hs => by
    obtain ⟨hp, g, d, tk, os⟩ := s
    obtain ⟨hx, hs⟩ := hs
    have hT : (⟨hp, g, d, tk, os⟩ : Shared).TypeIs (.ref a) "set" := ⟨_, hx, rfl⟩
    have hm := set_no_obj
    unfold Builtin.«object.__getattribute__»
    repeat (any_goals (first | assumption | wp_step))
    exact wpAny_raiseAttrError hs.1 hs.2 (attrMsg_fits (by decide +kernel) (by rw [sizeLine_eq]; decide))
section
variable {prog : Program} {w : World} {H : Heap} {Y : Value}
theorem miss_set {A : Around} {E : Value → Shared → Prop} {s : Shared} {a : Addr} {es : Array (Int × Value)} {n : Nat} {t : SetTable} {sl : Array (Option Value)} {Q : Value → Shared → Prop} (hx : s.heap.get? a = some { cls := .type "set", dict := none, data := .set es n t, slots := sl }) (hA : A.handled = none)
    (h : ∀ h' tk e, Heap.NewExcOf s.heap h' e "AttributeError" → E (.ref e) { s with heap := h', toks := tk }) : wpAny (model prog w) A (getAttr (.ref a) "obj" true) Q E s := by
  obtain ⟨hp, g, d, tk, os⟩ := s
  have hT : ∀ tk', (⟨hp, g, d, tk', os⟩ : Shared).TypeIs (.ref a) "set" := fun _ => ⟨_, hx, rfl⟩
  have f1 := sub_AttributeError
  have f3 := F.slot_set_getattribute.lookup
  have f4 := F.slot_set_getattribute.bind (.ref a)
  have f5 := am_set_getattr_none
  unfold getAttr getAttrBy
  repeat (any_goals (first | assumption | exact hT _ | ((with_reducible show wpAny _ _ (call (Value.builtin "set.__getattribute__") _ _) _ _ _); refine call_meets F.slot_set_getattribute (hT _) am_entry_set_getattribute (F.args_set_getattribute_2 _ _) (meets_miss_set a es n t sl _) ⟨hx, hA, fun h' tk' e hx' => ?_⟩) | wp_step))
  obtain ⟨t', u', he⟩ := hx'.there
  show wpAny _ _ (getattributeRaised _ _ _ _ _ _ _) _ _ _
  unfold getattributeRaised
  repeat (any_goals (first | assumption | wp_step))
  exact h _ _ _ hx'.of
theorem noObj {T : String} (y : Shp H Y T) (hT : T ≠ "K") : NoObj prog w H Y := by
  intro A E s Q hA kp hq
  have hz : ("obj" : Str).length + 100 ≤ sizeLine := by rw [sizeLine_eq]; decide
  cases y with
  | int n t => exact getAttr_miss_int (am_miss_of_fast (by kernel_rfl)) hA (fun h' tk e x => hq h' tk e (Fresh.of_new x)) hz
  | list l xs n sl e => exact getAttr_miss_list (kp _ _ e) rfl rfl rfl (am_miss_of_fast (by kernel_rfl)) (by decide) hA (fun h' tk e x => hq h' tk e (Fresh.of_new x)) hz
  | tup l xs n sl e => exact getAttr_miss_tuple (kp _ _ e) rfl rfl rfl (am_miss_of_fast (by kernel_rfl)) (by decide) hA (fun h' tk e x => hq h' tk e (Fresh.of_new x)) hz
  | set l es n t sl e => exact miss_set (kp _ _ e) hA fun h' tk e x => hq h' tk e (Fresh.of_new x)
  | key => exact absurd rfl hT
end
end Mine
end

-- part R9
section
open PySem PySem.W PySem.W.X PySem.Calls PyProof.Rows
set_option maxRecDepth 100000
set_option linter.unusedVariables false
namespace Mine
/-- the keys of these ints, in order -/
noncomputable abbrev KeysAt (H : Heap) (a : KA) (ks : List Int) (xs : List Value) : Prop := Paired (fun k X => ∃ x t, X = .ref x ∧ InstK H a x (.int k t)) ks xs
/-- how two rows of ints stand: is the first within the second, around it -/
noncomputable def standL : List Int → List Int → Option (Bool × Bool)
  | k :: l, m :: r => if refuse k m = true then none else if k.fdiv 2 ≠ m.fdiv 2 then some (decide (k < m), decide (m < k)) else standL l r
  | l, r => some (decide (l.length ≤ r.length), decide (r.length ≤ l.length))
noncomputable def opB (op : CmpOp) (u v : Bool) : Bool := match op with
  | .Lt => u && !v | .Gt => v && !u | .LtE => u | .GtE => v | .Eq => u && v | _ => !(u && v)
noncomputable def standRes (z : Option (Bool × Bool)) (op : CmpOp) : Res := match z with
  | none => .exc "KeyError"
  | some (u, v) => .bool (opB op u v)
theorem standRes_one {k m : Int} {l r : List Int} (h : refuse k m = false) (hn : k.fdiv 2 ≠ m.fdiv 2) {op : CmpOp} (ho : op ∈ six) : standRes (standL (k :: l) (m :: r)) op = keyRes (ans k m) op := by
  have e1 : standL (k :: l) (m :: r) = some (decide (k < m), decide (m < k)) := by rw [standL, if_neg (by rw [h]; decide), if_pos hn]
  have e2 : ans k m = some (3 * (k.fdiv 2 - m.fdiv 2)) := by unfold ans; rw [if_neg (by rw [h]; decide)]
  rw [e1, e2]
  have hd : k.fdiv 2 = k / 2 ∧ m.fdiv 2 = m / 2 := ⟨Int.fdiv_eq_ediv_of_nonneg _ (by decide), Int.fdiv_eq_ediv_of_nonneg _ (by decide)⟩
  rw [hd.1, hd.2] at hn ⊢
  have hc : (k < m ∧ k / 2 < m / 2) ∨ (m < k ∧ m / 2 < k / 2) := by omega
  revert op
  rcases hc with ⟨h1, h2⟩ | ⟨h1, h2⟩
  · rw [decide_eq_true h1, decide_eq_false (Int.not_lt.mpr (Int.le_of_lt h1))]
    have hs : 3 * (k / 2 - m / 2) < 0 := by omega
    generalize 3 * (k / 2 - m / 2) = z at hs
    exact of_six (congrArg Res.bool (decide_eq_true hs).symm) (congrArg Res.bool (decide_eq_false (Int.not_lt.mpr (Int.le_of_lt hs))).symm) (congrArg Res.bool (decide_eq_true (Int.le_of_lt hs)).symm) (congrArg Res.bool (decide_eq_false (Int.not_le.mpr hs)).symm) (congrArg Res.bool (beq_eq_false_iff_ne.mpr (Int.ne_of_lt hs)).symm) (congrArg (fun b => Res.bool !b) (beq_eq_false_iff_ne.mpr (Int.ne_of_lt hs)).symm)
  · rw [decide_eq_true h1, decide_eq_false (Int.not_lt.mpr (Int.le_of_lt h1))]
    have hs : 0 < 3 * (k / 2 - m / 2) := by omega
    generalize 3 * (k / 2 - m / 2) = z at hs
    exact of_six (congrArg Res.bool (decide_eq_false (Int.not_lt.mpr (Int.le_of_lt hs))).symm) (congrArg Res.bool (decide_eq_true hs).symm) (congrArg Res.bool (decide_eq_false (Int.not_le.mpr hs)).symm) (congrArg Res.bool (decide_eq_true (Int.le_of_lt hs)).symm) (congrArg Res.bool (beq_eq_false_iff_ne.mpr (Int.ne_of_gt hs)).symm) (congrArg (fun b => Res.bool !b) (beq_eq_false_iff_ne.mpr (Int.ne_of_gt hs)).symm)
theorem standL_more {k m : Int} {l r : List Int} (h : refuse k m = false) (hn : k.fdiv 2 = m.fdiv 2) : standL (k :: l) (m :: r) = standL l r := by
  rw [standL, if_neg (by rw [h]; decide), if_neg (by rw [hn]; exact fun q => q rfl)]
theorem standL_none {k m : Int} {l r : List Int} (h : refuse k m = true) : standL (k :: l) (m :: r) = none := by
  rw [standL, if_pos h]
section
variable {prog : Program} {w : World} {H : Heap} {a : KA} {cc fa : Addr}
theorem truthDropped {M : Model} {A : Around} {E : Value → Shared → Prop} {s : Shared} {b : Bool} {Q : Bool → Shared → Prop} (h : Q b s) : wpAny M A (truthOfDropped (.bool b)) Q E s := wpAny_truthy_bool h
/-- what stands under the comparing of keys -/
structure Und (prog : Program) (w : World) (H : Heap) (a : KA) (cc fa : Addr) : Prop where
  key : Key H a cc fa
  lim : H.NoLimit
  ask : ∀ k m t u, Does prog w H (call (.ref fa) [.int k t, .int m u]) (intOut (ans k m)) 1 3
theorem eqKey {A : Around} {B : Heap} {s : Shared} {E : Value → Shared → Prop} {Q : Bool → Shared → Prop} {x y : Addr} {k m : Int} {t u : Tok} (U : Und prog w H a cc fa) (R : Rm A B s 2 7) (kp : Kpt H s.heap) (ix : InstK H a x (.int k t)) (iy : InstK H a y (.int m u))
    (hq : match ans k m with | none => ∀ v s', Flew A B s "KeyError" v s' → E v s' | some d => ∀ h' tk', Kpt s.heap h' → Q (d == 0) { s with heap := h', toks := tk' }) : wpAny (model prog w) A (eqBool (.ref x) (.ref y)) Q E s := by
  unfold eqBool
  try with_reducible refine wpAny_holding ?_
  show wpAny _ _ (if (Value.ref x == Value.ref y) = true then _ else _) Q E s
  by_cases hxy : x = y
  · subst hxy
    rw [if_pos (by simp)]
    obtain ⟨d1, e1, _⟩ := ix
    obtain ⟨d2, e2, _⟩ := iy
    rw [e1] at e2
    cases e2
    have h0 : ans k k = some 0 := by
      unfold ans refuse
      rw [if_neg (by simp), Int.sub_self]; rfl
    rw [h0] at hq
    exact wpAny_bind (wpAny_rule (wpAny_pure (hq s.heap s.toks Kpt.rfl)))
  · rw [if_neg (by simpa using hxy)]
    refine wpAny_bind (m := richCompare .Eq (.ref x) (.ref y)) ?_
    have hk := key_eqs U.key U.lim (U.ask k m t u) ix iy rfl rfl (co := .Eq) (.inl (by decide))
    rw [six_cmp (by decide)] at hk
    refine hk A B E _ s R kp ?_
    rw [keyRes_out (by decide)]
    cases hr : ans k m with
    | none => rw [hr] at hq; exact hq
    | some d => rw [hr] at hq; rintro v h' tk' rfl kk; exact truthDropped (hq h' tk' kk)
noncomputable def codeOf : CmpOp → Int | .Lt => 0 | .LtE => 1 | .Eq => 2 | .NotEq => 3 | .Gt => 4 | _ => 5
theorem ret_eq {M : Model} {A : Around} {E : Value → Shared → Prop} {s : Shared} {v v' : Value} {Q : Fin → Shared → Prop} (e : v = v') (h : Q (.done (.ret v')) s) : wpAny M A (ret v) Q E s := wpAny_pure (e ▸ h)
theorem drop_get {xs : List Value} {i : Nat} {x : Value} {r : List Value} (h : xs.drop i = x :: r) : xs[i]? = some x ∧ xs.drop (i + 1) = r := by
  have h1 : (xs.drop i)[0]? = some x := by rw [h]; rfl
  rw [List.getElem?_drop] at h1
  refine ⟨by simpa using h1, ?_⟩
  rw [← List.drop_drop, h]; rfl
noncomputable def IsL (h : Heap) (T : String) (l : Addr) (xs : Array Value) : Prop := ∃ n sl, h.get? l = some ⟨.type T, none, .seq xs n, sl⟩
theorem six_cases {op : CmpOp} (h : op ∈ six) : op = .Lt ∨ op = .Gt ∨ op = .LtE ∨ op = .GtE ∨ op = .Eq ∨ op = .NotEq := by
  simpa only [six, List.mem_cons, List.not_mem_nil, or_false] using h
theorem cmpSizes {op : CmpOp} (ho : op ∈ six) {f : CmpOp → Nat → Nat → Value} {m n : Nat} (h1 : f .Lt m n = .bool (decide (m < n))) (h2 : f .Gt m n = .bool (decide (m > n))) (h3 : f .LtE m n = .bool (decide (m ≤ n))) (h4 : f .GtE m n = .bool (decide (m ≥ n))) (h5 : f .Eq m n = .bool (m == n)) (h6 : f .NotEq m n = .bool (m != n)) :
    f op m n = .bool (opB op (decide (m ≤ n)) (decide (n ≤ m))) := by
  rcases six_cases ho with rfl | rfl | rfl | rfl | rfl | rfl
  · rw [h1]; simp only [opB, Value.bool.injEq]; rcases Nat.lt_trichotomy m n with h | h | h <;> simp [h, Nat.le_of_lt, Nat.not_le_of_gt, Nat.not_lt_of_gt] <;> omega
  · rw [h2]; simp only [opB, Value.bool.injEq]; rcases Nat.lt_trichotomy m n with h | h | h <;> simp [h, Nat.le_of_lt, Nat.not_le_of_gt, Nat.not_lt_of_gt] <;> omega
  · rw [h3]; rfl
  · rw [h4]; rfl
  · rw [h5]; simp only [opB, Value.bool.injEq]; rcases Nat.lt_trichotomy m n with h | h | h <;> simp [h, Nat.le_of_lt, Nat.not_le_of_gt, Nat.not_lt_of_gt] <;> omega
  · rw [h6]; simp only [opB, Value.bool.injEq]; rcases Nat.lt_trichotomy m n with h | h | h <;> simp [h, Nat.le_of_lt, Nat.not_le_of_gt, Nat.not_lt_of_gt] <;> omega
/-- what comes of an unlike pair -/
noncomputable def UnL (prog : Program) (w : World) (A : Around) (E : Value → Shared → Prop) (op : CmpOp) (x y : Value) (P : Value → Shared → Prop) (s : Shared) : Prop := match op with
  | .Eq => P (.bool false) s
  | .NotEq => P (.bool true) s
  | op => wpAny (model prog w) A (richCompare op x y) P E s
theorem list_turn {l r : Addr} {xs ys : Array Value} {op : CmpOp} {i : Nat} {s : Shared} {A : Around} {E : Value → Shared → Prop} {P : Fin → Shared → Prop} (ho : op ∈ six) (hl : IsL s.heap "list" l xs) (hr : IsL s.heap "list" r ys)
    (h : match xs[i]?, ys[i]? with
      | some x, some y => wpAny (model prog w) A (eqBool x y) (fun b s' => if b = true then P (.again (.builtin "list.__eq__.loop" ⟨[.ref l, .ref r, rawInt ((i : Int) + 1), rawInt (codeOf op)], []⟩)) s' else
          IsL s'.heap "list" l xs ∧ IsL s'.heap "list" r ys ∧ UnL prog w A E op x y (fun v s' => P (.done (.ret v)) s') s') E s
      | _, _ => P (.done (.ret (.bool (opB op (decide (xs.size ≤ ys.size)) (decide (ys.size ≤ xs.size)))))) s) :
    wpAny (model prog w) A (Builtin.«list.__eq__.loop» ⟨[.ref l, .ref r, rawInt i, rawInt (codeOf op)], []⟩) P E s := by
  obtain ⟨nl, sll, el⟩ := hl
  obtain ⟨nr, slr, er⟩ := hr
  unfold Builtin.«list.__eq__.loop»
  dsimp only [rawInt]
  generalize hq : (_ : List CmpOp)[(codeOf op).toNat]? = q
  have e : q = some op := by
    rw [← hq]
    rcases six_cases ho with rfl | rfl | rfl | rfl | rfl | rfl <;> rfl
  subst e
  dsimp only
  refine wpAny_bind (wpAny_listItems el rfl (wpAny_bind (wpAny_listItems er rfl ?_)))
  rw [show ((i : Int)).toNat = i from Int.toNat_natCast i]
  cases hx : xs[i]? with
  | none =>
    rw [hx] at h
    refine wpAny_bind (wpAny_listItems el rfl (wpAny_bind (wpAny_listItems er rfl (ret_eq (v' := .bool (opB op (decide (xs.size ≤ ys.size)) (decide (ys.size ≤ xs.size)))) ?_ h))))
    exact cmpSizes ho rfl rfl rfl rfl rfl rfl
  | some x =>
    cases hy : ys[i]? with
    | none =>
      rw [hx, hy] at h
      refine wpAny_bind (wpAny_listItems el rfl (wpAny_bind (wpAny_listItems er rfl (ret_eq (v' := .bool (opB op (decide (xs.size ≤ ys.size)) (decide (ys.size ≤ xs.size)))) ?_ h))))
      exact cmpSizes ho rfl rfl rfl rfl rfl rfl
    | some y =>
      rw [hx, hy] at h
      refine wpAny_bind (wpAny_mono h (fun b s' hb => ?_) fun _ _ z => z)
      cases b with
      | true => exact wpAny_pure hb
      | false =>
        obtain ⟨⟨n1, s1, e1⟩, ⟨n2, s2, e2⟩, hb⟩ := hb
        rw [if_neg (by decide)]
        refine wpAny_bind (wpAny_listItems e1 rfl (wpAny_bind (wpAny_listItems e2 rfl ?_)))
        rw [hx, hy]
        clear hq h
        rcases six_cases ho with rfl | rfl | rfl | rfl | rfl | rfl
        · exact wpAny_bind (wpAny_mono hb (fun _ _ z => wpAny_pure z) fun _ _ z => z)
        · exact wpAny_bind (wpAny_mono hb (fun _ _ z => wpAny_pure z) fun _ _ z => z)
        · exact wpAny_bind (wpAny_mono hb (fun _ _ z => wpAny_pure z) fun _ _ z => z)
        · exact wpAny_bind (wpAny_mono hb (fun _ _ z => wpAny_pure z) fun _ _ z => z)
        · exact wpAny_pure hb
        · exact wpAny_pure hb
end
end Mine
end

-- part R10
section
open PySem PySem.W PySem.W.X PySem.Calls PyProof.Rows
set_option maxRecDepth 100000
set_option linter.unusedVariables false
namespace Mine
noncomputable def resB (r : Res) : Bool := match r with | .bool b => b | _ => false
section
variable {prog : Program} {w : World} {H : Heap} {a : KA} {cc fa : Addr}
theorem IsL.keeps {h h' : Heap} {T : String} {l : Addr} {xs : Array Value} (x : IsL h T l xs) (k : Kpt h h') : IsL h' T l xs := (by obtain ⟨n, sl, e⟩ := x; exact ⟨n, sl, k _ _ e⟩)
theorem unl {A : Around} {B : Heap} {s : Shared} {E P : Value → Shared → Prop} {x y : Addr} {k m d : Int} {t u : Tok} {op : CmpOp} (ho : op ∈ six) (U : Und prog w H a cc fa) (R : Rm A B s 2 7) (kp : Kpt H s.heap) (ix : InstK H a x (.int k t)) (iy : InstK H a y (.int m u))
    (hd : ans k m = some d) (h0 : d ≠ 0) (hq : ∀ h' tk', Kpt s.heap h' → P (.bool (resB (keyRes (some d) op))) { s with heap := h', toks := tk' }) : UnL prog w A E op (.ref x) (.ref y) P s := by
  have hc : ∀ op, op ∈ four → (∀ h' tk', Kpt s.heap h' → P (.bool (says op d)) { s with heap := h', toks := tk' }) → wpAny (model prog w) A (richCompare op (.ref x) (.ref y)) P E s := by
    intro op ho hp
    have hk := key_eqs U.key U.lim (U.ask k m t u) ix iy rfl rfl (co := op) (.inl (four_cmps ho))
    rw [six_cmp (four_six ho)] at hk
    refine hk A B E _ s R kp ?_
    rw [keyRes_out (four_cmps ho), hd]
    rintro v h' tk' rfl kk
    exact hp h' tk' kk
  have h00 : (d == 0) = false := by simpa using h0
  rcases six_cases ho with rfl | rfl | rfl | rfl | rfl | rfl
  · exact hc .Lt (by decide) hq
  · exact hc .Gt (by decide) hq
  · exact hc .LtE (by decide) hq
  · exact hc .GtE (by decide) hq
  · have e1 : resB (keyRes (some d) .Eq) = false := h00
    rw [e1] at hq
    exact hq s.heap s.toks Kpt.rfl
  · have e1 : resB (keyRes (some d) .NotEq) = true := by show (!(d == 0)) = true; rw [h00]; rfl
    rw [e1] at hq
    exact hq s.heap s.toks Kpt.rfl
theorem standL_end {ks ms : List Int} (h : ks = [] ∨ ms = []) : standL ks ms = some (decide (ks.length ≤ ms.length), decide (ms.length ≤ ks.length)) := by
  rcases h with rfl | rfl
  · cases ms <;> simp [standL]
  · cases ks <;> simp [standL]
theorem pair_dec {k m d : Int} (h : ans k m = some d) : refuse k m = false ∧ d = 3 * (k.fdiv 2 - m.fdiv 2) := by
  unfold ans at h
  by_cases c : refuse k m = true
  · rw [if_pos c] at h; cases h
  · rw [if_neg c] at h; exact ⟨by simpa using c, (Option.some.inj h).symm⟩
theorem list_loop {l r : Addr} {xs ys : Array Value} {op : CmpOp} (ho : op ∈ six) (U : Und prog w H a cc fa) (hl : IsL H "list" l xs) (hr : IsL H "list" r ys) {A : Around} {B : Heap} {E Q : Value → Shared → Prop} :
    ∀ (ks ms : List Int) (i : Nat) (s : Shared), KeysAt H a ks (xs.toList.drop i) → KeysAt H a ms (ys.toList.drop i) → xs.size = i + ks.length → ys.size = i + ms.length → Rm A B s 2 8 → Kpt H s.heap → Ends A B s Q E (standRes (standL ks ms) op).out →
      codeAny (model prog w) A (.builtin "list.__eq__.loop" ⟨[.ref l, .ref r, rawInt i, rawInt (codeOf op)], []⟩) (wants Q E) s := by
  intro ks
  induction ks with
  | nil =>
    intro ms i s hks hms h1 h2 R kp e
    refine codeAny_builtin MeetsSeq3.entry_eq_loop ?_
    rw [Around.under_plainId MeetsSeq3.plain_eq_loop]
    refine list_turn ho (hl.keeps kp) (hr.keeps kp) ?_
    rw [show xs[i]? = none from by simp at h1; simp [h1]]
    rw [standL_end (.inl rfl)] at e
    have e' := e _ s.heap s.toks rfl Kpt.rfl
    have s1 : decide (xs.size ≤ ys.size) = decide (([] : List Int).length ≤ ms.length) := decide_eq_decide.mpr (len_iff h1 h2)
    have s2 : decide (ys.size ≤ xs.size) = decide (ms.length ≤ ([] : List Int).length) := decide_eq_decide.mpr (len_iff h2 h1)
    dsimp only
    rw [s1, s2]
    exact e'
  | cons k ks ih =>
    intro ms i s hks hms h1 h2 R kp e
    refine codeAny_builtin MeetsSeq3.entry_eq_loop ?_
    rw [Around.under_plainId MeetsSeq3.plain_eq_loop]
    refine list_turn ho (hl.keeps kp) (hr.keeps kp) ?_
    cases ms with
    | nil =>
      rw [show ys[i]? = none from by simp at h2; simp [h2]]
      rw [standL_end (.inr rfl)] at e
      have e' := e _ s.heap s.toks rfl Kpt.rfl
      have s1 : decide (xs.size ≤ ys.size) = decide ((k :: ks).length ≤ ([] : List Int).length) := decide_eq_decide.mpr (len_iff h1 h2)
      have s2 : decide (ys.size ≤ xs.size) = decide (([] : List Int).length ≤ (k :: ks).length) := decide_eq_decide.mpr (len_iff h2 h1)
      cases xs[i]? <;> (dsimp only; rw [s1, s2]; exact e')
    | cons m ms =>
      obtain ⟨X, lx, ex⟩ : ∃ X lx, xs.toList.drop i = X :: lx := by cases hh : xs.toList.drop i with | nil => rw [hh] at hks; cases hks | cons X lx => exact ⟨X, lx, rfl⟩
      obtain ⟨Y, ly, ey⟩ : ∃ Y ly, ys.toList.drop i = Y :: ly := by cases hh : ys.toList.drop i with | nil => rw [hh] at hms; cases hms | cons X lx => exact ⟨X, lx, rfl⟩
      obtain ⟨gx, dx⟩ := drop_get ex
      obtain ⟨gy, dy⟩ := drop_get ey
      rw [Array.getElem?_toList] at gx gy
      rw [ex] at hks
      rw [ey] at hms
      obtain ⟨x, t, rfl, ix⟩ : ∃ x t, X = .ref x ∧ InstK H a x (.int k t) := by cases hks; assumption
      obtain ⟨y, u, rfl, iy⟩ : ∃ y u, Y = .ref y ∧ InstK H a y (.int m u) := by cases hms; assumption
      have tks : KeysAt H a ks lx := by cases hks; assumption
      have tms : KeysAt H a ms ly := by cases hms; assumption
      rw [gx, gy]
      refine eqKey U R.in1 kp ix iy ?_
      cases hd : ans k m with
      | none =>
        have hr : refuse k m = true := by unfold ans at hd; by_cases c : refuse k m = true; exact c; rw [if_neg c] at hd; cases hd
        rw [standL_none hr] at e
        exact e
      | some d =>
        intro h' tk' kk
        obtain ⟨hrf, rfl⟩ := pair_dec hd
        by_cases c : k.fdiv 2 = m.fdiv 2
        · rw [c, Int.sub_self, if_pos (by rfl)]
          rw [standL_more hrf c] at e
          refine ⟨plainId_quiet MeetsSeq3.plain_eq_loop _, ?_⟩
          rw [show ((i : Int) + 1) = ((i + 1 : Nat) : Int) from by push_cast; rfl]
          refine ih ms (i + 1) _ (by rw [dx]; exact tks) (by rw [dy]; exact tms) (h1.trans step_len) (h2.trans step_len) (R.keeps kk) (kp.trans kk) ?_
          cases hz : standL ks ms with
          | none =>
            rw [hz] at e
            rintro v s' ⟨e', h'', tk'', a0, outer, rfl, rfl, f1, f2, f3⟩
            exact e _ _ ⟨e', h'', tk'', a0, outer, rfl, rfl, f1, f2, (Heap.UpToSlots.of_keeps kk).trans f3⟩
          | some uv =>
            rw [hz] at e
            exact fun v h'' tk'' hv kk' => e v h'' tk'' hv (Kpt.trans kk kk')
        · have h0 : (3 * (k.fdiv 2 - m.fdiv 2)) ≠ 0 := three_ne c
          rw [if_neg (by simpa using h0)]
          refine ⟨(hl.keeps kp).keeps kk, (hr.keeps kp).keeps kk, unl ho U (R.in1.keeps kk) (kp.trans kk) ix iy hd h0 fun h'' tk'' kk' => ?_⟩
          rw [standRes_one hrf c ho, hd] at e
          cases hres : keyRes (some (3 * (k.fdiv 2 - m.fdiv 2))) op with
          | bool b => rw [hres] at e; exact e _ h'' tk'' rfl (Kpt.trans kk kk')
          | ni => cases hres
          | exc X => cases hres
end
end Mine
end

-- part R11
section
open PySem PySem.W PySem.W.X PySem.Calls PyProof.Rows
set_option maxRecDepth 100000
set_option linter.unusedVariables false
namespace Mine
section
variable {prog : Program} {w : World} {H : Heap} {a : KA} {cc fa : Addr}
theorem Ends.keep {A : Around} {B : Heap} {s : Shared} {Q E : Value → Shared → Prop} {r : Out} {h' : Heap} {tk' : Nat} (e : Ends A B s Q E r) (kk : Kpt s.heap h') : Ends A B { s with heap := h', toks := tk' } Q E r := by
  cases r with
  | exc X =>
    rintro v s' ⟨e', h'', tk'', a0, outer, rfl, rfl, f1, f2, f3⟩
    exact e _ _ ⟨e', h'', tk'', a0, outer, rfl, rfl, f1, f2, (Heap.UpToSlots.of_keeps kk).trans f3⟩
  | ret P => exact fun v h'' tk'' hv kk' => e v h'' tk'' hv (Kpt.trans kk kk')
noncomputable def finV (Q : Value → Shared → Prop) : Fin → Shared → Prop
  | .done (.ret v), s => Q v s
  | _, _ => False
/-- the turn of a tuple's comparison -/
noncomputable abbrev TupTurn (prog : Program) (w : World) (op : CmpOp) (A : Around) (E : Value → Shared → Prop) (f : Value × Value → Option Fin × Unit → Sem (ForInStep (Option Fin × Unit))) : Prop :=
  ∀ x y z s (P : ForInStep (Option Fin × Unit) → Shared → Prop), wpAny (model prog w) A (eqBool x y) (fun b s' => if b = true then P (.yield (none, ())) s' else UnL prog w A E op x y (fun v s'' => P (.done (some (.done (.ret v)), ())) s'') s') E s → wpAny (model prog w) A (f (x, y) z) P E s
theorem tup_loop {op : CmpOp} (ho : op ∈ six) (U : Und prog w H a cc fa) {A : Around} {B : Heap} {E Q : Value → Shared → Prop} {f : Value × Value → Option Fin × Unit → Sem (ForInStep (Option Fin × Unit))} (hf : TupTurn prog w op A E f) {m n : Nat} {P : Option Fin × Unit → Shared → Prop}
    (h1 : ∀ v s, Q v s → P (some (.done (.ret v)), ()) s) (h2 : ∀ s, Q (.bool (opB op (decide (m ≤ n)) (decide (n ≤ m)))) s → P (none, ()) s) :
    ∀ (ks ms : List Int) (i : Nat) (lx ly : List Value) (s : Shared), KeysAt H a ks lx → KeysAt H a ms ly → m = i + ks.length → n = i + ms.length → Rm A B s 2 7 → Kpt H s.heap → Ends A B s Q E (standRes (standL ks ms) op).out →
      wpAny (model prog w) A (forIn (lx.zip ly) ((none, ()) : Option Fin × Unit) f) P E s := by
  have fin : ∀ (ks ms : List Int) (i : Nat) s, m = i + ks.length → n = i + ms.length → (ks = [] ∨ ms = []) → Ends A B s Q E (standRes (standL ks ms) op).out → P (none, ()) s := by
    intro ks ms i s e1 e2 hn e
    rw [standL_end hn] at e
    have e' := e _ s.heap s.toks rfl Kpt.rfl
    refine h2 s ?_
    have s1 : decide (m ≤ n) = decide (ks.length ≤ ms.length) := decide_eq_decide.mpr (len_iff e1 e2)
    have s2 : decide (n ≤ m) = decide (ms.length ≤ ks.length) := decide_eq_decide.mpr (len_iff e2 e1)
    rw [s1, s2]
    exact e'
  intro ks
  induction ks with
  | nil =>
    intro ms i lx ly s hks hms e1 e2 R kp e
    cases hks
    exact wpAny_pure (fin [] ms i s e1 e2 (.inl rfl) e)
  | cons k ks ih =>
    intro ms i lx ly s hks hms e1 e2 R kp e
    cases ms with
    | nil =>
      cases hms
      rw [List.zip_nil_right]
      exact wpAny_pure (fin (k :: ks) [] i s e1 e2 (.inr rfl) e)
    | cons m' ms =>
      cases hks with
      | cons hx tks =>
        cases hms with
        | cons hy tms =>
          obtain ⟨x, t, rfl, ix⟩ := hx
          obtain ⟨y, u, rfl, iy⟩ := hy
          rw [List.zip_cons_cons, List.forIn_cons]
          refine wpAny_bind (hf _ _ _ _ _ (eqKey U R kp ix iy ?_))
          cases hd : ans k m' with
          | none =>
            have hr : refuse k m' = true := by unfold ans at hd; by_cases c : refuse k m' = true; exact c; rw [if_neg c] at hd; cases hd
            rw [standL_none hr] at e
            exact e
          | some d =>
            intro h' tk' kk
            obtain ⟨hrf, rfl⟩ := pair_dec hd
            by_cases c : k.fdiv 2 = m'.fdiv 2
            · rw [c, Int.sub_self, if_pos (by rfl)]
              rw [standL_more hrf c] at e
              exact ih ms (i + 1) _ _ _ tks tms (e1.trans step_len) (e2.trans step_len) (R.keeps kk) (kp.trans kk) (e.keep kk)
            · have h0 : (3 * (k.fdiv 2 - m'.fdiv 2)) ≠ 0 := three_ne c
              rw [if_neg (by simpa using h0)]
              refine unl ho U (R.keeps kk) (kp.trans kk) ix iy hd h0 fun h'' tk'' kk' => ?_
              rw [standRes_one hrf c ho, hd] at e
              cases hres : keyRes (some (3 * (k.fdiv 2 - m'.fdiv 2))) op with
              | bool b => rw [hres] at e; exact wpAny_pure (h1 _ _ (e _ h'' tk'' rfl (Kpt.trans kk kk')))
              | ni => cases hres
              | exc X => cases hres
theorem stand_len : ∀ (ks ms : List Int) (uv : Bool × Bool), standL ks ms = some uv → ks.length ≠ ms.length → (uv.1 && uv.2) = false := by
  intro ks
  induction ks with
  | nil =>
    intro ms uv h hc
    rw [standL_end (.inl rfl)] at h
    cases h
    simp only [Bool.and_eq_false_iff, decide_eq_false_iff_not]
    exact both_no hc
  | cons k ks ih =>
    intro ms uv h hc
    cases ms with
    | nil =>
      rw [standL_end (.inr rfl)] at h
      cases h
      simp only [Bool.and_eq_false_iff, decide_eq_false_iff_not]
      exact both_no hc
    | cons m ms =>
      unfold standL at h
      by_cases c : refuse k m = true
      · rw [if_pos c] at h; cases h
      · rw [if_neg c] at h
        by_cases c2 : k.fdiv 2 ≠ m.fdiv 2
        · rw [if_pos c2] at h
          cases h
          simp only [Bool.and_eq_false_iff, decide_eq_false_iff_not]
          omega
        · rw [if_neg c2] at h
          exact ih ms uv h (by simpa using hc)
theorem TF.call {T : String} {id : CmpOp → String} {b : CmpOp → Builtin} {op : CmpOp} {X Y : Value} {A : Around} {E Q : Value → Shared → Prop} {s : Shared} (F : TF T id) (en : Ents id b) (ho : op ∈ six) (hX : s.TypeIs X T)
    (h : wpAny (model prog w) A.in1 (b op ⟨[X, Y], []⟩) (fun fin s' => match fin with | .done f => wants Q E (.ok f) s' | .again c' => c'.quiet = true ∧ codeAny (model prog w) A c' (wants Q E) s') E s) : wpAny (model prog w) A (call (.builtin (id op)) [X, Y]) Q E s :=
  wpAny_call (codeAny_call_builtin (F.slot op ho).plain (en op ho) ((F.slot op ho).check _ _ _ _ _ _ _ _ hX (F.args op ho _ _) h))
section
variable {l r : Addr} {xs ys : Array Value} {ks ms : List Int} (U : Und prog w H a cc fa) (hks : KeysAt H a ks xs.toList) (hms : KeysAt H a ms ys.toList)
include U hks hms
theorem sz_of {ks : List Int} {xs : Array Value} (h : KeysAt H a ks xs.toList) : xs.size = 0 + ks.length := by rw [Nat.zero_add, ← Array.length_toList, ← h.length]
theorem stand_ne {op : CmpOp} (hne : standL ks ms ≠ none) (c : xs.size ≠ ys.size) : ∃ uv, standL ks ms = some uv ∧ opB .Eq uv.1 uv.2 = false ∧ opB .NotEq uv.1 uv.2 = true := by
  have hc : ks.length ≠ ms.length := fun q => c (by rw [sz_of U hks hms hks, sz_of U hks hms hms, q])
  cases h : standL ks ms with
  | none => exact absurd h hne
  | some uv =>
    have hu := stand_len ks ms uv h hc
    refine ⟨uv, rfl, ?_, ?_⟩
    · show (uv.1 && uv.2) = false; exact hu
    · show (!(uv.1 && uv.2)) = true; rw [hu]; rfl
theorem list_does {op : CmpOp} (ho : op ∈ six) (hl : IsL H "list" l xs) (hr : IsL H "list" r ys) (hn : op ∈ four ∨ standL ks ms ≠ none) : Does prog w H (call (.builtin (idL op)) [.ref l, .ref r]) (standRes (standL ks ms) op).out 2 8 := by
  intro A B E Q s R kp e
  obtain ⟨nl, sll, el⟩ := hl.keeps kp
  obtain ⟨nr, slr, er⟩ := hr.keeps kp
  refine TF.call tfL enL ho ⟨_, el, rfl⟩ ?_
  have lp := list_loop ho U hl hr (A := A) (B := B) (E := E) (Q := Q) ks ms 0 s hks hms (sz_of U hks hms hks) (sz_of U hks hms hms) R kp e
  have q := plainId_quiet MeetsSeq3.plain_eq_loop ⟨[.ref l, .ref r, rawInt ((0 : Nat) : Int), rawInt (codeOf op)], []⟩
  rcases six_cases ho with rfl | rfl | rfl | rfl | rfl | rfl
  · exact w_sk 60 (w_load (a := r) (by kernel_rfl) er (w_pure (a := .again (.builtin "list.__eq__.loop" ⟨[.ref l, .ref r, rawInt ((0 : Nat) : Int), rawInt (codeOf .Lt)], []⟩)) (by kernel_rfl) ⟨q, lp⟩))
  · exact w_sk 60 (w_load (a := r) (by kernel_rfl) er (w_pure (a := .again (.builtin "list.__eq__.loop" ⟨[.ref l, .ref r, rawInt ((0 : Nat) : Int), rawInt (codeOf .Gt)], []⟩)) (by kernel_rfl) ⟨q, lp⟩))
  · exact w_sk 60 (w_load (a := r) (by kernel_rfl) er (w_pure (a := .again (.builtin "list.__eq__.loop" ⟨[.ref l, .ref r, rawInt ((0 : Nat) : Int), rawInt (codeOf .LtE)], []⟩)) (by kernel_rfl) ⟨q, lp⟩))
  · exact w_sk 60 (w_load (a := r) (by kernel_rfl) er (w_pure (a := .again (.builtin "list.__eq__.loop" ⟨[.ref l, .ref r, rawInt ((0 : Nat) : Int), rawInt (codeOf .GtE)], []⟩)) (by kernel_rfl) ⟨q, lp⟩))
  · have hne : standL ks ms ≠ none := by rcases hn with h | h; exact absurd h (by decide); exact h
    show wpAny _ _ (isInstance (.ref r) (.type "list") >>= _) _ _ s
    refine wpAny_bind (wpAny_isInstance ⟨_, er, rfl⟩ F.sub_list_list ?_)
    simp only [Bool.not_true, Bool.false_eq_true, if_false]
    show wpAny _ _ (Builtin.List.listItems (.ref l) >>= _) _ _ s
    refine wpAny_bind (wpAny_listItems el rfl (wpAny_bind (wpAny_listItems er rfl ?_)))
    by_cases c : xs.size = ys.size
    · rw [if_neg (by simpa using c)]
      exact w_sk 60 (w_pure (a := .again (.builtin "list.__eq__.loop" ⟨[.ref l, .ref r, rawInt ((0 : Nat) : Int), rawInt (codeOf .Eq)], []⟩)) (by kernel_rfl) ⟨q, lp⟩)
    · rw [if_pos (by simpa using c)]
      obtain ⟨⟨u1, v1⟩, hb, e1, _⟩ := stand_ne U hks hms (op := .Eq) hne c
      rw [hb] at e
      have e2 := e _ s.heap s.toks rfl Kpt.rfl
      dsimp only at e1 e2
      rw [e1] at e2
      exact w_sk 60 (w_pure (a := .done (.ret (.bool false))) (by kernel_rfl) e2)
  · have hne : standL ks ms ≠ none := by rcases hn with h | h; exact absurd h (by decide); exact h
    show wpAny _ _ (isInstance (.ref r) (.type "list") >>= _) _ _ s
    refine wpAny_bind (wpAny_isInstance ⟨_, er, rfl⟩ F.sub_list_list ?_)
    simp only [Bool.not_true, Bool.false_eq_true, if_false]
    show wpAny _ _ (Builtin.List.listItems (.ref l) >>= _) _ _ s
    refine wpAny_bind (wpAny_listItems el rfl (wpAny_bind (wpAny_listItems er rfl ?_)))
    by_cases c : xs.size = ys.size
    · rw [if_neg (by simpa using c)]
      exact w_sk 60 (w_pure (a := .again (.builtin "list.__eq__.loop" ⟨[.ref l, .ref r, rawInt ((0 : Nat) : Int), rawInt (codeOf .NotEq)], []⟩)) (by kernel_rfl) ⟨q, lp⟩)
    · rw [if_pos (by simpa using c)]
      obtain ⟨⟨u1, v1⟩, hb, _, e1⟩ := stand_ne U hks hms (op := .Eq) hne c
      rw [hb] at e
      have e2 := e _ s.heap s.toks rfl Kpt.rfl
      dsimp only at e1 e2
      rw [e1] at e2
      exact w_sk 60 (w_pure (a := .done (.ret (.bool true))) (by kernel_rfl) e2)
theorem tup_does {op : CmpOp} (ho : op ∈ six) (hl : IsL H "tuple" l xs) (hr : IsL H "tuple" r ys) : Does prog w H (call (.builtin (idT op)) [.ref l, .ref r]) (standRes (standL ks ms) op).out 2 8 := by
  intro A B E Q s R kp e
  obtain ⟨nl, sll, el⟩ := hl.keeps kp
  obtain ⟨nr, slr, er⟩ := hr.keeps kp
  refine TF.call tfT enT ho ⟨_, el, rfl⟩ ?_
  have go : ∀ f, TupTurn prog w op A.in1 E f → wpAny (model prog w) A.in1 (forIn (xs.toList.zip ys.toList) ((none, ()) : Option Fin × Unit) f) (fun z s' => (match z.1 with | none => Q (.bool (opB op (decide (xs.size ≤ ys.size)) (decide (ys.size ≤ xs.size)))) s' | some f => finV Q f s')) E s :=
    fun f hf => tup_loop ho U hf (fun _ _ z => z) (fun _ z => z) ks ms 0 _ _ s hks hms (sz_of U hks hms hks) (sz_of U hks hms hms) R.in1 kp e
  have finN : ∀ s', Q (.bool (opB op (decide (xs.size ≤ ys.size)) (decide (ys.size ≤ xs.size)))) s' → wpAny (model prog w) A.in1 (ret (Builtin.Tuple.tupleCompareSizes op xs.size ys.size)) (fun fin s' => match fin with | .done f => wants Q E (.ok f) s' | .again c' => c'.quiet = true ∧ codeAny (model prog w) A c' (wants Q E) s') E s' :=
    fun s' hz => ret_eq (cmpSizes ho rfl rfl rfl rfl rfl rfl) hz
  have finS : ∀ (f : Fin) s', finV Q f s' → wpAny (model prog w) A.in1 (pure f : Sem Fin) (fun fin s' => match fin with | .done f => wants Q E (.ok f) s' | .again c' => c'.quiet = true ∧ codeAny (model prog w) A c' (wants Q E) s') E s' := by
    intro f s' hz
    cases f with
    | done fl => cases fl with
      | ret v => exact wpAny_pure hz
      | _ => exact hz.elim
    | again c => exact hz.elim
  rcases six_cases ho with rfl | rfl | rfl | rfl | rfl | rfl
  · show wpAny _ _ (isInstance (.ref r) (.type "tuple") >>= _) _ _ s
    refine wpAny_bind (wpAny_isInstance ⟨_, er, rfl⟩ isSubtype_tuple_tuple ?_)
    simp only [Bool.not_true, Bool.false_eq_true, if_false]
    refine wpAny_bind (wpAny_tupleItemsOf el rfl (wpAny_bind (wpAny_tupleItemsOf er rfl ?_)))
    refine wpAny_bind (wpAny_mono (go _ fun x y z s P h => ?_) (fun z s' hz => (by rcases z with ⟨_ | f, _⟩; exact finN s' hz; exact finS f s' hz)) fun _ _ z => z)
    refine wpAny_bind (wpAny_mono h (fun b s' hb => ?_) fun _ _ z => z)
    cases b with
    | true => exact wpAny_pure hb
    | false => exact wpAny_bind (wpAny_rule (wpAny_bind (wpAny_mono hb (fun v s2 hv => wpAny_bind (wpAny_pure (wpAny_pure hv))) fun _ _ z => z)))
  · show wpAny _ _ (isInstance (.ref r) (.type "tuple") >>= _) _ _ s
    refine wpAny_bind (wpAny_isInstance ⟨_, er, rfl⟩ isSubtype_tuple_tuple ?_)
    simp only [Bool.not_true, Bool.false_eq_true, if_false]
    refine wpAny_bind (wpAny_tupleItemsOf el rfl (wpAny_bind (wpAny_tupleItemsOf er rfl ?_)))
    refine wpAny_bind (wpAny_mono (go _ fun x y z s P h => ?_) (fun z s' hz => (by rcases z with ⟨_ | f, _⟩; exact finN s' hz; exact finS f s' hz)) fun _ _ z => z)
    refine wpAny_bind (wpAny_mono h (fun b s' hb => ?_) fun _ _ z => z)
    cases b with
    | true => exact wpAny_pure hb
    | false => exact wpAny_bind (wpAny_rule (wpAny_bind (wpAny_mono hb (fun v s2 hv => wpAny_bind (wpAny_pure (wpAny_pure hv))) fun _ _ z => z)))
  · show wpAny _ _ (isInstance (.ref r) (.type "tuple") >>= _) _ _ s
    refine wpAny_bind (wpAny_isInstance ⟨_, er, rfl⟩ isSubtype_tuple_tuple ?_)
    simp only [Bool.not_true, Bool.false_eq_true, if_false]
    refine wpAny_bind (wpAny_tupleItemsOf el rfl (wpAny_bind (wpAny_tupleItemsOf er rfl ?_)))
    refine wpAny_bind (wpAny_mono (go _ fun x y z s P h => ?_) (fun z s' hz => (by rcases z with ⟨_ | f, _⟩; exact finN s' hz; exact finS f s' hz)) fun _ _ z => z)
    refine wpAny_bind (wpAny_mono h (fun b s' hb => ?_) fun _ _ z => z)
    cases b with
    | true => exact wpAny_pure hb
    | false => exact wpAny_bind (wpAny_rule (wpAny_bind (wpAny_mono hb (fun v s2 hv => wpAny_bind (wpAny_pure (wpAny_pure hv))) fun _ _ z => z)))
  · show wpAny _ _ (isInstance (.ref r) (.type "tuple") >>= _) _ _ s
    refine wpAny_bind (wpAny_isInstance ⟨_, er, rfl⟩ isSubtype_tuple_tuple ?_)
    simp only [Bool.not_true, Bool.false_eq_true, if_false]
    refine wpAny_bind (wpAny_tupleItemsOf el rfl (wpAny_bind (wpAny_tupleItemsOf er rfl ?_)))
    refine wpAny_bind (wpAny_mono (go _ fun x y z s P h => ?_) (fun z s' hz => (by rcases z with ⟨_ | f, _⟩; exact finN s' hz; exact finS f s' hz)) fun _ _ z => z)
    refine wpAny_bind (wpAny_mono h (fun b s' hb => ?_) fun _ _ z => z)
    cases b with
    | true => exact wpAny_pure hb
    | false => exact wpAny_bind (wpAny_rule (wpAny_bind (wpAny_mono hb (fun v s2 hv => wpAny_bind (wpAny_pure (wpAny_pure hv))) fun _ _ z => z)))
  · show wpAny _ _ (isInstance (.ref r) (.type "tuple") >>= _) _ _ s
    refine wpAny_bind (wpAny_isInstance ⟨_, er, rfl⟩ isSubtype_tuple_tuple ?_)
    simp only [Bool.not_true, Bool.false_eq_true, if_false]
    refine wpAny_bind (wpAny_tupleItemsOf el rfl (wpAny_bind (wpAny_tupleItemsOf er rfl ?_)))
    refine wpAny_bind (wpAny_mono (go _ fun x y z s P h => ?_) (fun z s' hz => (by rcases z with ⟨_ | f, _⟩; exact finN s' hz; exact finS f s' hz)) fun _ _ z => z)
    refine wpAny_bind (wpAny_mono h (fun b s' hb => ?_) fun _ _ z => z)
    cases b with
    | true => exact wpAny_pure hb
    | false => exact wpAny_bind (wpAny_pure (wpAny_pure hb))
  · show wpAny _ _ (isInstance (.ref r) (.type "tuple") >>= _) _ _ s
    refine wpAny_bind (wpAny_isInstance ⟨_, er, rfl⟩ isSubtype_tuple_tuple ?_)
    simp only [Bool.not_true, Bool.false_eq_true, if_false]
    refine wpAny_bind (wpAny_tupleItemsOf el rfl (wpAny_bind (wpAny_tupleItemsOf er rfl ?_)))
    refine wpAny_bind (wpAny_mono (go _ fun x y z s P h => ?_) (fun z s' hz => (by rcases z with ⟨_ | f, _⟩; exact finN s' hz; exact finS f s' hz)) fun _ _ z => z)
    refine wpAny_bind (wpAny_mono h (fun b s' hb => ?_) fun _ _ z => z)
    cases b with
    | true => exact wpAny_pure hb
    | false => exact wpAny_bind (wpAny_pure (wpAny_pure hb))
end
end
end Mine
end

-- part R12
section
open PySem PySem.W PySem.W.X PySem.Calls PyProof.Rows
set_option maxRecDepth 100000
set_option linter.unusedVariables false
namespace Mine
section
variable {prog : Program} {w : World} {A : Around} {E : Value → Shared → Prop} {s : Shared} {v z : Addr} {S T : Int → Bool} {n m : Nat}
theorem quiet_elems {es : List (Int × Value)} (h : ElemsOf (intKind prog w) es) : ∀ e ∈ es, ∃ k t, e.1 = hashInt k ∧ e.2 = .int k t := fun e he => by
  obtain ⟨⟨k, hk, hh⟩, _⟩ := h e he
  obtain ⟨t, ht⟩ := Value.isInt_shape hk
  exact ⟨k, t, hh, ht⟩
theorem subset_wp {nm : String} {Q : Bool → Shared → Prop} (hv : s.heap.SetOf (intKind prog w) v S n) (hz : s.heap.SetOf (intKind prog w) z T m)
    (hq : ∀ b : Bool, (b = true ↔ n ≤ m ∧ ∀ k, S k = true → T k = true) → Q b s) : wpAny (model prog w) A (Builtin.Frozenset.subsetOf nm v z) Q E s := by
  obtain ⟨o1, es, ep, t, ho, hx1, hd, hel, hmem, hb, hf, hn⟩ := id hv
  obtain ⟨o2, es2, ep2, t2, ho2, hx2, hd2, hel2, hmem2, hb2, hf2, hn2⟩ := id hz
  have e1 : ∀ {E : Value → Shared → Prop} {Q : Array (Int × Value) → Shared → Prop}, Q es s → wpAny (model prog w) A (setEntries v) Q E s := fun h => wpAny_setEntries_of ho hd hf h
  have e2 : ∀ {E : Value → Shared → Prop} {Q : Array (Int × Value) → Shared → Prop}, Q es2 s → wpAny (model prog w) A (setEntries z) Q E s := fun h => wpAny_setEntries_of ho2 hd2 hf2 h
  unfold Builtin.Frozenset.subsetOf Builtin.Frozenset.sizeOf Builtin.Frozenset.walkUnseen
  refine wpAny_bind (wpAny_bind (e1 (wpAny_pure (wpAny_bind (wpAny_bind (e2 (wpAny_pure ?_)))))))
  rw [hn, hn2]
  by_cases hc : n > m
  · rw [if_pos (by simpa using hc)]
    refine wpAny_pure (hq false ?_)
    simp only [Bool.false_eq_true, false_iff, not_and]
    exact fun h => absurd h (by omega)
  rw [if_neg (by simpa using hc)]
  refine wpAny_bind (wpAny_setEpoch_of ho hd hf (wpAny_bind (wpAny_bind (e1 (wpAny_bind (e2 ?_))))))
  have qs : ∀ e ∈ es.toList ++ es2.toList, ∃ k t, e.1 = hashInt k ∧ e.2 = .int k t := fun e he => by
    rcases List.mem_append.mp he with h | h
    · exact quiet_elems hel e h
    · exact quiet_elems hel2 e h
  have q1 := quiet_elems hel
  have memS : ∀ k, S k = true ↔ ∃ t, ∃ h, (h, Value.int k t) ∈ es.toList := fun k => by
    rw [hmem k]
    constructor
    · rintro ⟨⟨h, x⟩, he, hk⟩
      obtain ⟨t, rfl⟩ := Value.isInt_shape hk
      exact ⟨t, h, he⟩
    · rintro ⟨t, h, he⟩
      exact ⟨_, he, by simp [intKind, Value.isInt]⟩
  refine wpAny_bind ?_
  refine wpAny_forIn_list _ (fun rest r s' => s' = s ∧ r.1 = none ∧ ∀ e ∈ rest, ∃ k t, e.1 = hashInt k ∧ e.2 = .int k t) _ ?_ ?_ _ _ ⟨rfl, rfl, qs⟩
  · rintro ⟨h, x⟩ rest r s' ⟨rfl, hr, hm⟩
    obtain ⟨k, t, rfl, rfl⟩ := hm _ (.head _)
    refine wpAny_bind (m := Builtin.Frozenset.quietEq _) (wpAny_pure ?_)
    rw [if_neg (by decide)]
    exact wpAny_pure ⟨rfl, rfl, fun e he => hm e (.tail _ he)⟩
  rintro ⟨r, u⟩ s' ⟨hs, hr, _⟩
  obtain rfl : s = s' := hs.symm
  dsimp only at hr
  subst hr
  refine wpAny_pure ?_
  refine wpAny_bind ?_
  refine wpAny_forIn_list _ (fun rest r s' => s' = s ∧ r.1 = none ∧ (∀ e ∈ rest, ∃ k t, e.1 = hashInt k ∧ e.2 = .int k t) ∧ ((∀ k t h, (h, Value.int k t) ∈ rest → T k = true) ↔ ∀ k, S k = true → T k = true)) _ ?_ ?_ _ _ ⟨rfl, rfl, q1, ?_⟩
  · rintro ⟨h, x⟩ rest r s' ⟨rfl, hr, hm, hi⟩
    obtain ⟨k, t, rfl, rfl⟩ := hm _ (.head _)
    dsimp only
    refine wpAny_bind (wpAny_holding (wpAny_setFind_of (knd := intKind prog w) (k := k) (by simp [intKind, Value.isInt]) rfl hz fun r hr => ?_))
    cases hT : T k with
    | false =>
      rw [hT] at hr
      rw [if_pos (by cases r; rfl; cases hr)]
      refine wpAny_pure (wpAny_pure (hq false ?_))
      simp only [Bool.false_eq_true, false_iff, not_and]
      intro _ hall
      have := hi.mpr hall k t _ (.head _)
      rw [hT] at this
      cases this
    | true =>
      rw [hT] at hr
      rw [if_neg (by cases r; cases hr; exact Bool.false_ne_true)]
      unfold Builtin.Frozenset.unchanged
      refine wpAny_bind (wpAny_bind (wpAny_setEpoch_of ho hd hf ?_))
      rw [if_neg (by simp)]
      refine wpAny_pure (wpAny_pure ⟨rfl, rfl, fun e he => hm e (.tail _ he), ?_⟩)
      rw [← hi]
      constructor
      · intro h k' t' h' hm'
        rcases List.mem_cons.mp hm' with q | q
        · cases q; exact hT
        · exact h k' t' h' q
      · exact fun h k' t' h' hm' => h k' t' h' (.tail _ hm')
  · rintro ⟨r, u⟩ s' ⟨rfl, hr, _, hi⟩
    dsimp only at hr
    subst hr
    refine wpAny_pure (hq true ?_)
    simp only [true_iff]
    exact ⟨Nat.not_lt.mp hc, hi.mp fun _ _ _ h => by cases h⟩
  · constructor
    · intro h k hk
      obtain ⟨t, hh, he⟩ := (memS k).mp hk
      exact h k t hh he
    · intro h k t hh he
      exact h k ((memS k).mpr ⟨t, hh, he⟩)
end
/-- two sets: is the first within the second (u), around it (v) -/
structure Beside (S T : Int → Bool) (n m : Nat) (u v : Bool) : Prop where
  iu : u = true ↔ ∀ k, S k = true → T k = true
  iv : v = true ↔ ∀ k, T k = true → S k = true
  le : u = true → n ≤ m
  ge : v = true → m ≤ n
  up : u = true → n = m → v = true
  dn : v = true → n = m → u = true
section
variable {prog : Program} {w : World} {H : Heap} {x z : Addr} {S T : Int → Bool} {n m : Nat} {u v : Bool}
theorem SetOf.keeps {h h' : Heap} (y : h.SetOf (intKind prog w) x S n) (k : Kpt h h') : h'.SetOf (intKind prog w) x S n := by
  obtain ⟨o, es, ep, t, ho, r⟩ := y
  exact ⟨o, es, ep, t, k _ _ ho, r⟩
theorem set_does {op : CmpOp} (ho : op ∈ six) (hx : H.SetOf (intKind prog w) x S n) (hz : H.SetOf (intKind prog w) z T m) (b : Beside S T n m u v) :
    Does prog w H (call (.builtin (idS op)) [.ref x, .ref z]) (.ret (· = .bool (opB op u v))) 0 0 := by
  intro A B E Q s R kp e
  have hx := SetOf.keeps hx kp
  have hz := SetOf.keeps hz kp
  obtain ⟨o1, es1, ep1, t1, ho1, ⟨c1, d1, l1⟩, hd1, _, _, _, hf1, hn1⟩ := id hx
  obtain ⟨o2, es2, ep2, t2, ho2, ⟨c2, d2, l2⟩, hd2, _, _, _, hf2, hn2⟩ := id hz
  have e1 : ∀ {A : Around} {E : Value → Shared → Prop} {Q : Array (Int × Value) → Shared → Prop}, Q es1 s → wpAny (model prog w) A (setEntries x) Q E s := fun h => wpAny_setEntries_of ho1 hd1 hf1 h
  have e2 : ∀ {A : Around} {E : Value → Shared → Prop} {Q : Array (Int × Value) → Shared → Prop}, Q es2 s → wpAny (model prog w) A (setEntries z) Q E s := fun h => wpAny_setEntries_of ho2 hd2 hf2 h
  have fin : ∀ c : Bool, c = opB op u v → Q (.bool c) s := fun c hc => hc ▸ e _ s.heap s.toks rfl Kpt.rfl
  have sub1 : ∀ (c : Bool), (c = true ↔ n ≤ m ∧ ∀ k, S k = true → T k = true) → c = u := fun c h => by
    rw [← b.iu] at h
    cases c <;> cases hu : u
    · rfl
    · have := h.mpr ⟨b.le hu, hu⟩; cases this
    · have := (h.mp rfl).2; rw [hu] at this; cases this
    · rfl
  have sub2 : ∀ (c : Bool), (c = true ↔ m ≤ n ∧ ∀ k, T k = true → S k = true) → c = v := fun c h => by
    rw [← b.iv] at h
    cases c <;> cases hv : v
    · rfl
    · have := h.mpr ⟨b.ge hv, hv⟩; cases this
    · have := (h.mp rfl).2; rw [hv] at this; cases this
    · rfl
  refine TF.call tfS enS ho ⟨_, ho1, c1⟩ ?_
  have head : ∀ {Q' : Bool → Shared → Prop}, Q' true s → wpAny (model prog w) A.in1 (isInstance (.ref z) (.type "set")) Q' E s := fun h => wpAny_isInstance ⟨_, ho2, c2⟩ F.sub_set_set h
  rcases six_cases ho with rfl | rfl | rfl | rfl | rfl | rfl
  · show wpAny _ _ (Builtin.Frozenset.isAnySet (.ref z) >>= _) _ _ s
    refine wpAny_bind (wpAny_bind (head (wpAny_pure ?_)))
    rw [if_neg (by decide)]
    refine wpAny_bind (m := Builtin.Frozenset.addrOf _) (wpAny_pure (wpAny_bind (m := Builtin.Frozenset.addrOf _) (wpAny_pure ?_)))
    refine wpAny_bind (m := Builtin.Frozenset.sizeOf _) (wpAny_bind (e1 (wpAny_pure (wpAny_bind (m := Builtin.Frozenset.sizeOf _) (wpAny_bind (e2 (wpAny_pure ?_)))))))
    show wpAny _ _ (if es1.size ≥ es2.size then ret (.bool false) else _) _ _ _
    rw [hn1, hn2]
    by_cases hc : n ≥ m
    · rw [if_pos hc]
      refine wpAny_pure (fin false ?_)
      show false = (u && !v)
      cases hu : u with
      | false => rfl
      | true => rw [b.up hu (Nat.le_antisymm (b.le hu) hc)]; rfl
    · rw [if_neg hc]
      refine wpAny_bind (subset_wp hx hz fun c h => wpAny_pure (fin c ?_))
      rw [sub1 c h]
      show u = (u && !v)
      cases hv : v with
      | false => simp
      | true => exact absurd (b.ge hv) (by omega)
  · show wpAny _ _ (Builtin.Frozenset.isAnySet (.ref z) >>= _) _ _ s
    refine wpAny_bind (wpAny_bind (head (wpAny_pure ?_)))
    rw [if_neg (by decide)]
    refine wpAny_bind (m := Builtin.Frozenset.addrOf _) (wpAny_pure (wpAny_bind (m := Builtin.Frozenset.addrOf _) (wpAny_pure ?_)))
    refine wpAny_bind (m := Builtin.Frozenset.sizeOf _) (wpAny_bind (e1 (wpAny_pure (wpAny_bind (m := Builtin.Frozenset.sizeOf _) (wpAny_bind (e2 (wpAny_pure ?_)))))))
    show wpAny _ _ (if es1.size ≤ es2.size then ret (.bool false) else _) _ _ _
    rw [hn1, hn2]
    by_cases hc : n ≤ m
    · rw [if_pos hc]
      refine wpAny_pure (fin false ?_)
      show false = (v && !u)
      cases hv : v with
      | false => rfl
      | true => rw [b.dn hv (Nat.le_antisymm hc (b.ge hv))]; rfl
    · rw [if_neg hc]
      refine wpAny_bind (subset_wp hz hx fun c h => wpAny_pure (fin c ?_))
      rw [sub2 c h]
      show v = (v && !u)
      cases hu : u with
      | false => simp
      | true => exact absurd (b.le hu) (by omega)
  · show wpAny _ _ (Builtin.Frozenset.isAnySet (.ref z) >>= _) _ _ s
    refine wpAny_bind (wpAny_bind (head (wpAny_pure ?_)))
    rw [if_neg (by decide)]
    refine wpAny_bind (m := Builtin.Frozenset.addrOf _) (wpAny_pure (wpAny_bind (m := Builtin.Frozenset.addrOf _) (wpAny_pure ?_)))
    refine wpAny_bind (m := Builtin.Frozenset.sizeOf _) (wpAny_bind (e1 (wpAny_pure (wpAny_bind (m := Builtin.Frozenset.sizeOf _) (wpAny_bind (e2 (wpAny_pure ?_)))))))
    exact wpAny_bind (subset_wp hx hz fun c h => wpAny_pure (fin c (sub1 c h)))
  · show wpAny _ _ (Builtin.Frozenset.isAnySet (.ref z) >>= _) _ _ s
    refine wpAny_bind (wpAny_bind (head (wpAny_pure ?_)))
    rw [if_neg (by decide)]
    refine wpAny_bind (m := Builtin.Frozenset.addrOf _) (wpAny_pure (wpAny_bind (m := Builtin.Frozenset.addrOf _) (wpAny_pure ?_)))
    refine wpAny_bind (m := Builtin.Frozenset.sizeOf _) (wpAny_bind (e1 (wpAny_pure (wpAny_bind (m := Builtin.Frozenset.sizeOf _) (wpAny_bind (e2 (wpAny_pure ?_)))))))
    exact wpAny_bind (subset_wp hz hx fun c h => wpAny_pure (fin c (sub2 c h)))
  · show wpAny _ _ (Builtin.Frozenset.isAnySet (.ref z) >>= _) _ _ s
    refine wpAny_bind (wpAny_bind (head (wpAny_pure ?_)))
    rw [if_neg (by decide)]
    refine wpAny_bind (m := Builtin.Frozenset.addrOf _) (wpAny_pure (wpAny_bind (m := Builtin.Frozenset.addrOf _) (wpAny_pure ?_)))
    refine wpAny_bind (m := Builtin.Frozenset.sizeOf _) (wpAny_bind (e1 (wpAny_pure (wpAny_bind (m := Builtin.Frozenset.sizeOf _) (wpAny_bind (e2 (wpAny_pure ?_)))))))
    refine wpAny_bind (m := if (es1.size != es2.size) = true then pure false else _) ?_
    rw [hn1, hn2]
    by_cases hc : n = m
    · rw [if_neg (by simpa using hc)]
      refine wpAny_bind (wpAny_bind (wpAny_isInstance ⟨_, ho1, c1⟩ F.sub_set_frozenset (wpAny_pure ?_)))
      rw [if_neg (by decide)]
      refine subset_wp hx hz fun c h => wpAny_pure (fin (c) ?_)
      rw [sub1 c h]
      show u = (u && v)
      cases hu : u with
      | false => rfl
      | true => rw [b.up hu hc]; rfl
    · rw [if_pos (by simpa using hc)]
      refine wpAny_pure (wpAny_pure (fin false ?_))
      show false = (u && v)
      cases hu : u with
      | false => rfl
      | true => cases hv : v with
        | false => rfl
        | true => exact absurd (Nat.le_antisymm (b.le hu) (b.ge hv)) hc
  · show wpAny _ _ (Builtin.Frozenset.isAnySet (.ref z) >>= _) _ _ s
    refine wpAny_bind (wpAny_bind (head (wpAny_pure ?_)))
    rw [if_neg (by decide)]
    refine wpAny_bind (m := Builtin.Frozenset.addrOf _) (wpAny_pure (wpAny_bind (m := Builtin.Frozenset.addrOf _) (wpAny_pure ?_)))
    refine wpAny_bind (m := Builtin.Frozenset.sizeOf _) (wpAny_bind (e1 (wpAny_pure (wpAny_bind (m := Builtin.Frozenset.sizeOf _) (wpAny_bind (e2 (wpAny_pure ?_)))))))
    refine wpAny_bind (m := if (es1.size != es2.size) = true then pure false else _) ?_
    rw [hn1, hn2]
    by_cases hc : n = m
    · rw [if_neg (by simpa using hc)]
      refine wpAny_bind (wpAny_bind (wpAny_isInstance ⟨_, ho1, c1⟩ F.sub_set_frozenset (wpAny_pure ?_)))
      rw [if_neg (by decide)]
      refine subset_wp hx hz fun c h => wpAny_pure (fin (!c) ?_)
      rw [sub1 c h]
      show (!u) = (!(u && v))
      cases hu : u with
      | false => rfl
      | true => rw [b.up hu hc]; rfl
    · rw [if_pos (by simpa using hc)]
      refine wpAny_pure (wpAny_pure (fin (!false) ?_))
      show (!false) = (!(u && v))
      cases hu : u with
      | false => rfl
      | true => cases hv : v with
        | false => rfl
        | true => exact absurd (Nat.le_antisymm (b.le hu) (b.ge hv)) hc
end
end Mine
end

-- part R13
section
open PySem PySem.W PySem.W.X PySem.Calls PyProof.Rows
set_option maxRecDepth 100000
set_option linter.unusedVariables false
namespace Mine
/-- the place k of y's last binary digits -/
noncomputable def bitZ (y : Int) (k : Int) : Bool := (y.fdiv (2 ^ k.toNat)).fmod 2 == 1
noncomputable def bitS (y : Int) (k : Int) : Bool := decide (0 ≤ k) && decide (k < 5) && bitZ y k
noncomputable def cardS (y : Int) (i : Nat) : Nat := (List.range i).countP fun (k : Nat) => bitZ y (k : Int)
noncomputable def subS (y z : Int) : Bool := (Builtin.bitAnd y (Builtin.bitNot z)).fmod 32 == 0
noncomputable def nb (a k : Nat) : Bool := a / 2 ^ k % 2 == 1
noncomputable def nu (a b : Nat) : Bool := a - (a &&& b) == 0
noncomputable def nc (a : Nat) : Nat := (List.range 5).countP (nb a)
noncomputable def chk (a b : Nat) : Bool := (nu a b == (List.range 5).all fun k => !nb a k || nb b k) && (!nu a b || Nat.ble (nc a) (nc b)) && (!nu a b || !(nc a == nc b) || nu b a) && Nat.ble (a &&& b) a && (a - (a &&& b) == (a &&& (31 - b))) && (31 - (a ||| b) == ((31 - a) &&& (31 - b))) && Nat.blt (a ||| b) 32
theorem chk_all : ((List.range 32).all fun a => (List.range 32).all (chk a)) = true := by decide +kernel
theorem fin32 (a : Nat) (ha : a < 32) (b : Nat) (hb : b < 32) : (nu a b = true ↔ ∀ k < 5, nb a k = true → nb b k = true) ∧ (nu a b = true → nc a ≤ nc b) ∧ (nu a b = true → nc a = nc b → nu b a = true) ∧ (a &&& b) ≤ a ∧ a - (a &&& b) = (a &&& (31 - b)) ∧ 31 - (a ||| b) = ((31 - a) &&& (31 - b)) ∧ (a ||| b) < 32 := by
  have h := List.all_eq_true.mp (List.all_eq_true.mp chk_all a (List.mem_range.mpr ha)) b (List.mem_range.mpr hb)
  unfold chk at h
  simp only [Bool.and_eq_true] at h
  obtain ⟨⟨⟨⟨⟨⟨h1, h2⟩, h3⟩, h4⟩, h5⟩, h6⟩, h7⟩ := h
  refine ⟨?_, fun q => ?_, fun q e => ?_, Nat.le_of_ble_eq_true h4, beq_iff_eq.mp h5, beq_iff_eq.mp h6, Nat.le_of_ble_eq_true h7⟩
  · rw [beq_iff_eq.mp h1, List.all_eq_true]
    constructor
    · intro h k hk hn
      have := h k (List.mem_range.mpr hk)
      rw [hn] at this
      exact this
    · intro h k hk
      cases hn : nb a k with
      | false => rfl
      | true => exact h k (List.mem_range.mp hk) hn
  · rw [q] at h2; exact Nat.le_of_ble_eq_true h2
  · rw [q, beq_iff_eq.mpr e] at h3; exact h3
theorem modN (y : Int) : ∃ a : Nat, a < 32 ∧ y % 32 = a := by
  obtain ⟨a, ha⟩ := Int.eq_ofNat_of_zero_le (Int.emod_nonneg y (show (32 : Int) ≠ 0 by decide))
  exact ⟨a, Int.ofNat_lt.mp (ha ▸ Int.emod_lt_of_pos y (show (0 : Int) < 32 by decide)), ha⟩
theorem negm (a : Nat) : (-(a : Int) - 1) % 32 = ((31 - a % 32 : Nat) : Int) := by omega
theorem posm (n : Nat) : (n : Int) % 32 = ((n % 32 : Nat) : Int) := rfl
theorem subm {x y : Nat} (h : y ≤ x) (h' : y % 32 ≤ x % 32) : (x - y) % 32 = x % 32 - y % 32 := by omega
theorem neg_form {z : Int} (h : ¬ 0 ≤ z) : ∃ b : Nat, z = -(b : Int) - 1 := ⟨(-z - 1).toNat, by omega⟩
theorem not_neg (b : Nat) : (Builtin.bitNot (-(b : Int) - 1)).toNat = b := by show (-(-(b : Int) - 1) - 1).toNat = b; omega
theorem and_pn (a b : Nat) (hz : ¬ 0 ≤ -(b : Int) - 1) : Builtin.bitAnd a (-(b : Int) - 1) % 32 = ((a % 32 &&& (31 - b % 32) : Nat) : Int) := by
  have am : (a &&& b) % 32 = (a % 32) &&& (b % 32) := Nat.and_mod_two_pow (n := 5)
  obtain ⟨_, _, _, f1, f2, _⟩ := fin32 (a % 32) (Nat.mod_lt _ (by decide)) (b % 32) (Nat.mod_lt _ (by decide))
  rw [bitAnd_pn (Int.natCast_nonneg a) hz, not_neg, Int.toNat_natCast, ← Int.ofNat_sub Nat.and_le_left, posm, subm Nat.and_le_left (by rw [am]; exact f1), am, f2]
theorem and32 (y z : Int) : Builtin.bitAnd y z % 32 = (((y % 32).toNat &&& (z % 32).toNat : Nat) : Int) := by
  by_cases hy : 0 ≤ y
  · obtain ⟨a, rfl⟩ := Int.eq_ofNat_of_zero_le hy
    by_cases hz : 0 ≤ z
    · obtain ⟨b, rfl⟩ := Int.eq_ofNat_of_zero_le hz
      rw [bitAnd_pp hy hz, posm, posm, posm]
      simp only [Int.toNat_natCast]
      rw [show (a &&& b) % 32 = (a % 32) &&& (b % 32) from Nat.and_mod_two_pow (n := 5)]
    · obtain ⟨b, rfl⟩ := neg_form hz
      rw [and_pn a b hz, posm, negm, Int.toNat_natCast, Int.toNat_natCast]
  · obtain ⟨a, rfl⟩ := neg_form hy
    by_cases hz : 0 ≤ z
    · obtain ⟨b, rfl⟩ := Int.eq_ofNat_of_zero_le hz
      rw [bitAnd_comm, and_pn b a hy, posm, negm, Int.toNat_natCast, Int.toNat_natCast, Nat.and_comm]
    · obtain ⟨b, rfl⟩ := neg_form hz
      obtain ⟨_, _, _, _, _, f3, f4⟩ := fin32 (a % 32) (Nat.mod_lt _ (by decide)) (b % 32) (Nat.mod_lt _ (by decide))
      rw [bitAnd_nn hy hz, not_neg, not_neg, negm, negm, Int.toNat_natCast, Int.toNat_natCast, ← f3]
      show (-((a ||| b : Nat) : Int) - 1) % 32 = _
      rw [negm, show (a ||| b) % 32 = (a % 32) ||| (b % 32) from Nat.or_mod_two_pow (n := 5)]
theorem subS_nu (y z : Int) : subS y z = nu (y % 32).toNat (z % 32).toNat := by
  unfold subS nu
  rw [Int.fmod_eq_emod_of_nonneg _ (by decide), bitAnd_not]
  have h := and32 y z
  obtain ⟨a, ha, ea⟩ := modN y
  obtain ⟨b, hb, eb⟩ := modN z
  obtain ⟨_, _, _, f1, _⟩ := fin32 a ha b hb
  rw [ea, eb, Int.toNat_natCast, Int.toNat_natCast] at h
  rw [ea, eb, Int.toNat_natCast, Int.toNat_natCast]
  rw [Bool.eq_iff_iff]
  simp only [beq_iff_eq]
  constructor
  · intro q
    have e := Int.emod_eq_emod_iff_emod_sub_eq_zero.mpr q
    rw [ea, h] at e
    exact Nat.sub_eq_zero_iff_le.mpr (Nat.le_of_eq (Int.ofNat.inj e))
  · intro q
    have e := Nat.le_antisymm (Nat.sub_eq_zero_iff_le.mp q) f1
    exact Int.emod_eq_emod_iff_emod_sub_eq_zero.mp (by rw [ea, h, ← e])
theorem bit_gen {y : Int} {a : Nat} {n r : Int} (ea : y % 32 = a) (hn : n ≠ 0) (h : (32 : Int) = n * (2 * r)) : y / n % 2 = (a : Int) / n % 2 := by
  obtain ⟨q, rfl⟩ : ∃ q, y = a + 32 * q := ⟨y / 32, by rw [← ea]; exact (Int.emod_add_mul_ediv y 32).symm⟩
  clear ea
  rw [h, Int.mul_assoc, Int.add_mul_ediv_left _ _ hn, Int.mul_assoc, Int.add_mul_emod_self_left]
theorem five_nat {k : Nat} (h : k < 5) : k = 0 ∨ k = 1 ∨ k = 2 ∨ k = 3 ∨ k = 4 := (by decide : ∀ k, k < 5 → k = 0 ∨ k = 1 ∨ k = 2 ∨ k = 3 ∨ k = 4) k h
theorem bitZ_nb (y : Int) (k : Nat) (hk : k < 5) : bitZ y k = nb (y % 32).toNat k := by
  unfold bitZ nb
  obtain ⟨a, ha, ea⟩ := modN y
  rw [ea, Int.toNat_natCast, Int.toNat_natCast, Int.fmod_eq_emod_of_nonneg _ (by decide), Bool.eq_iff_iff]
  simp only [beq_iff_eq]
  have go : ∀ n r : Nat, (n : Int) ≠ 0 → (32 : Int) = n * (2 * r) → (y.fdiv n % 2 = 1 ↔ a / n % 2 = 1) := fun n r hn h => by
    rw [Int.fdiv_eq_ediv_of_nonneg _ (Int.natCast_nonneg n), bit_gen ea hn h]
    exact ⟨fun q => Int.ofNat.inj q, fun q => congrArg Int.ofNat q⟩
  rcases five_nat hk with rfl | rfl | rfl | rfl | rfl
  · exact go 1 16 (by decide) (by decide)
  · exact go 2 8 (by decide) (by decide)
  · exact go 4 4 (by decide) (by decide)
  · exact go 8 2 (by decide) (by decide)
  · exact go 16 1 (by decide) (by decide)
theorem lt32 (y : Int) : (y % 32).toNat < 32 := by
  obtain ⟨a, ha, ea⟩ := modN y
  rw [ea, Int.toNat_natCast]; exact ha
theorem bits_beside (y z : Int) : Beside (bitS y) (bitS z) (cardS y 5) (cardS z 5) (subS y z) (subS z y) := by
  have ha := lt32 y
  have hb := lt32 z
  obtain ⟨f1, f2, f3, _⟩ := fin32 _ ha _ hb
  obtain ⟨g1, g2, g3, _⟩ := fin32 _ hb _ ha
  have card : ∀ y : Int, cardS y 5 = nc (y % 32).toNat := fun y => by
    unfold cardS nc
    refine List.countP_congr fun k hk => ?_
    rw [bitZ_nb y k (by simpa using hk)]
  have sub : ∀ y z : Int, (∀ k < 5, nb (y % 32).toNat k = true → nb (z % 32).toNat k = true) ↔ ∀ k, bitS y k = true → bitS z k = true := by
    intro y z
    constructor
    · intro h k hk
      simp only [bitS, Bool.and_eq_true, decide_eq_true_eq] at hk ⊢
      obtain ⟨j, rfl⟩ := Int.eq_ofNat_of_zero_le hk.1.1
      have hj : j < 5 := Int.ofNat_lt.mp hk.1.2
      refine ⟨hk.1, ?_⟩
      rw [bitZ_nb z j hj]
      exact h j hj (by rw [← bitZ_nb y j hj]; exact hk.2)
    · intro h k hk hb
      have := h k (by simp only [bitS, Bool.and_eq_true, decide_eq_true_eq]; exact ⟨⟨Int.natCast_nonneg k, Int.ofNat_lt.mpr hk⟩, by rw [bitZ_nb y k hk]; exact hb⟩)
      simp only [bitS, Bool.and_eq_true, decide_eq_true_eq] at this
      rw [← bitZ_nb z k hk]
      exact this.2
  refine ⟨?_, ?_, ?_, ?_, ?_, ?_⟩ <;> (try rw [subS_nu y z]) <;> (try rw [subS_nu z y]) <;> (try rw [card y, card z])
  · exact f1.trans (sub y z)
  · exact g1.trans (sub z y)
  · exact f2
  · exact g2
  · exact f3
  · exact fun h e => g3 h e.symm
end Mine
end

-- part R14
section
open PySem PySem.W PySem.W.X PySem.Calls PyProof.Rows
set_option maxRecDepth 100000
set_option linter.unusedVariables false
namespace Mine
/-- the figures of y of which a list's or a tuple's keys are made -/
noncomputable def rowOf (y : Int) : List Int := [y.fmod 5, (y.fdiv 5).fmod 5, y.fdiv 25].take (1 + (y.fdiv 5).fmod 3).toNat
noncomputable def standOfK (kind : Int) (y z : Int) : Option (Bool × Bool) :=
  if kind = 0 then some (decide (y ≤ z), decide (z ≤ y)) else if kind = 4 then some (subS y z, subS z y) else if kind = 1 then standL [y] [z] else standL (rowOf y) (rowOf z)
/-- a value of a kind -/
noncomputable def VAt (prog : Program) (w : World) (H : Heap) (a : KA) (kind y : Int) (X : Value) : Prop :=
  if kind = 0 then ∃ t, X = .int y t
  else if kind = 1 then ∃ x t, X = .ref x ∧ InstK H a x (.int y t)
  else if kind = 4 then ∃ z, X = .ref z ∧ H.SetOf (intKind prog w) z (bitS y) (cardS y 5)
  else ∃ l xs, X = .ref l ∧ IsL H (if kind = 2 then "list" else "tuple") l xs ∧ KeysAt H a (rowOf y) xs.toList
theorem five {kind : Int} (h0 : 0 ≤ kind) (h5 : kind < 5) : kind = 0 ∨ kind = 1 ∨ kind = 2 ∨ kind = 3 ∨ kind = 4 := by
  obtain ⟨k, rfl⟩ := Int.eq_ofNat_of_zero_le h0
  rcases five_nat (Int.ofNat_lt.mp h5) with rfl | rfl | rfl | rfl | rfl
  · exact .inl rfl
  · exact .inr (.inl rfl)
  · exact .inr (.inr (.inl rfl))
  · exact .inr (.inr (.inr (.inl rfl)))
  · exact .inr (.inr (.inr (.inr rfl)))
section
variable {prog : Program} {w : World} {H : Heap} {a : KA} {cc fa : Addr} {X Y : Value} {kind k1 k2 y z : Int} {mg : Str → Option Value}
theorem Cmp.congr {o o' : CmpOp → Res} {d u : Nat} (h : ∀ op ∈ six, o op = o' op) (C : Cmp prog w H X Y o d u) : Cmp prog w H X Y o' d u := by
  obtain ⟨⟨T, h1, h2⟩, h3⟩ := C
  refine ⟨⟨T, h1, fun op ho => ?_⟩, fun op b ho hb co hco => ?_⟩
  · rw [← h op (four_six ho)]; exact h2 op ho
  · rw [← h co (by rcases hco with rfl | rfl <;> decide)]
    exact h3 op b ho (by rw [h op (four_six ho)]; exact hb) co hco
theorem Cmp.more {o : CmpOp → Res} {d u d' u' : Nat} (C : Cmp prog w H X Y o d u) (hd : d ≤ d') (hu : u ≤ u') : Cmp prog w H X Y o d' u' := by
  obtain ⟨⟨T, h1, h2⟩, h3⟩ := C
  refine ⟨⟨T, h1, fun op ho => ?_⟩, fun op b ho hb co hco => (h3 op b ho hb co hco).more hd hu⟩
  obtain ⟨g, g1, g2, g3⟩ := h2 op ho
  exact ⟨g, g1, g2, g3.more hd hu⟩
theorem int_does {op : CmpOp} (ho : op ∈ six) {t u : Tok} : Does prog w H (call (.builtin (idI op)) [.int y t, .int z u]) (.ret (· = .bool (opB op (decide (y ≤ z)) (decide (z ≤ y))))) 0 0 := by
  intro A B E Q s R kp e
  have hz := e _ s.heap s.toks rfl Kpt.rfl
  have c : ∀ {b : Bool}, b = opB op (decide (y ≤ z)) (decide (z ≤ y)) → Q (.bool b) s := fun h => h ▸ hz
  refine TF.call tfI enI ho rfl ?_
  have fin : ∀ b : Bool, b = opB op (decide (y ≤ z)) (decide (z ≤ y)) → wants Q E (.ok (.ret (.bool b))) s := fun b h => h ▸ hz
  rcases six_cases ho with rfl | rfl | rfl | rfl | rfl | rfl
  · exact w_sk 60 (w_pure (a := .done (.ret (.bool (decide (y < z))))) (by kernel_rfl) (fin _ (by unfold opB; rw [Bool.eq_iff_iff]; simp; omega)))
  · exact w_sk 60 (w_pure (a := .done (.ret (.bool (decide (y > z))))) (by kernel_rfl) (fin _ (by unfold opB; rw [Bool.eq_iff_iff]; simp; omega)))
  · exact w_sk 60 (w_pure (a := .done (.ret (.bool (decide (y ≤ z))))) (by kernel_rfl) (fin _ rfl))
  · exact w_sk 60 (w_pure (a := .done (.ret (.bool (decide (y ≥ z))))) (by kernel_rfl) (fin _ rfl))
  · exact w_sk 60 (w_pure (a := .done (.ret (.bool (y == z)))) (by kernel_rfl) (fin _ (by unfold opB; rw [Bool.eq_iff_iff]; simp; omega)))
  · exact w_sk 60 (w_pure (a := .done (.ret (.bool (y != z)))) (by kernel_rfl) (fin _ (by unfold opB; rw [Bool.eq_iff_iff]; simp; omega)))
theorem keyStand {k m : Int} {op : CmpOp} (ho : op ∈ six) : keyRes (ans k m) op = standRes (standL [k] [m]) op := by
  cases hr : refuse k m with
  | true =>
    rw [standL_none hr]
    unfold ans
    rw [if_pos hr]; rfl
  | false =>
    by_cases c : k.fdiv 2 = m.fdiv 2
    · rw [standL_more hr c]
      unfold ans
      rw [if_neg (by rw [hr]; decide), c, Int.sub_self]
      rcases six_cases ho with rfl | rfl | rfl | rfl | rfl | rfl <;> rfl
    · rw [standRes_one hr c ho]
theorem VAt.shp (h0 : 0 ≤ kind) (h5 : kind < 5) (K : KAt H a) (x : VAt prog w H a kind y X) : Shp H X (if kind = 0 then "int" else if kind = 1 then "K" else if kind = 4 then "set" else if kind = 2 then "list" else "tuple") := by
  unfold VAt at x
  rcases five h0 h5 with rfl | rfl | rfl | rfl | rfl
  · obtain ⟨t, rfl⟩ := x; exact .int _ _
  · obtain ⟨x, t, rfl, dx, e, _⟩ := x
    obtain ⟨q, k0, k1, k2, k3, k5, e2⟩ := K.cls
    exact .key _ _ _ _ _ _ _ _ _ _ _ e e2
  · obtain ⟨l, xs, rfl, ⟨n, sl, e⟩, _⟩ := x; exact .list _ _ _ _ e
  · obtain ⟨l, xs, rfl, ⟨n, sl, e⟩, _⟩ := x; exact .tup _ _ _ _ e
  · obtain ⟨z, rfl, ⟨c, d, dat, sl⟩, es, ep, t, e, ⟨rfl, rfl, rfl⟩, rfl, _⟩ := x
    exact .set _ _ _ _ _ e
/-- two values of one kind -/
theorem cmp_same (h0 : 0 ≤ kind) (h5 : kind < 5) (U : Und prog w H a cc fa) (hns : H.Ns mainGlobals mg) (x : VAt prog w H a kind y X) (x' : VAt prog w H a kind z Y) : Cmp prog w H X Y (standRes (standOfK kind y z)) 2 9 := by
  have hT : ∀ {T : String} {l : Addr} {xs : Array Value}, IsL H T l xs → ∀ s : Shared, Kpt H s.heap → s.TypeIs (.ref l) T := fun ⟨n, sl, e⟩ s kp => ⟨_, kp _ _ e, rfl⟩
  have hS : ∀ {l : Addr} {S : Int → Bool} {n : Nat}, H.SetOf (intKind prog w) l S n → ∀ s : Shared, Kpt H s.heap → s.TypeIs (.ref l) "set" := fun h s kp => (SetOf.keeps h kp).typeIs
  unfold VAt at x x'
  rcases five h0 h5 with rfl | rfl | rfl | rfl | rfl
  · obtain ⟨t, rfl⟩ := x
    obtain ⟨u, rfl⟩ := x'
    exact (bi_cmp tfI (fun s _ => typeIs_int s _ _) (fun s _ => typeIs_int s _ _) hns (fun op ho => int_does (four_six ho)) (fun _ co hco => ⟨⟨_, rfl⟩, int_does (by rcases hco with rfl | rfl <;> decide)⟩)).more (by decide) (by decide)
  · obtain ⟨x, t, rfl, ix⟩ := x
    obtain ⟨x', u, rfl, iy⟩ := x'
    exact ((key_cmp U.key U.lim (U.ask y z t u) ix iy rfl rfl).congr fun op ho => keyStand ho).more (by decide) (by decide)
  · obtain ⟨l, xs, rfl, il, ks⟩ := x
    obtain ⟨r, ys, rfl, ir, ms⟩ := x'
    refine (bi_cmp tfL (hT il) (hT ir) hns (fun op ho => list_does U ks ms (four_six ho) il ir (.inl ho)) (fun ⟨op, b, ho, hb⟩ co hco => ?_)).more (by decide) (by decide)
    have hn : standL (rowOf y) (rowOf z) ≠ none := fun q => by
      have hb' : standRes (standL (rowOf y) (rowOf z)) op = .bool b := hb
      rw [q] at hb'; cases hb'
    refine ⟨?_, list_does U ks ms (by rcases hco with rfl | rfl <;> decide) il ir (.inr hn)⟩
    show ∃ b, standRes (standL (rowOf y) (rowOf z)) co = .bool b
    cases q : standL (rowOf y) (rowOf z) with
    | none => exact absurd q hn
    | some uv => exact ⟨_, rfl⟩
  · obtain ⟨l, xs, rfl, il, ks⟩ := x
    obtain ⟨r, ys, rfl, ir, ms⟩ := x'
    refine (bi_cmp tfT (hT il) (hT ir) hns (fun op ho => tup_does U ks ms (four_six ho) il ir) (fun ⟨op, b, ho, hb⟩ co hco => ?_)).more (by decide) (by decide)
    refine ⟨?_, tup_does U ks ms (by rcases hco with rfl | rfl <;> decide) il ir⟩
    have hb' : standRes (standL (rowOf y) (rowOf z)) op = .bool b := hb
    show ∃ b, standRes (standL (rowOf y) (rowOf z)) co = .bool b
    cases q : standL (rowOf y) (rowOf z) with
    | none => rw [q] at hb'; cases hb'
    | some uv => exact ⟨_, rfl⟩
  · obtain ⟨l, rfl, il⟩ := x
    obtain ⟨r, rfl, ir⟩ := x'
    exact (bi_cmp tfS (hS il) (hS ir) hns (fun op ho => set_does (four_six ho) il ir (bits_beside y z)) (fun _ co hco => ⟨⟨_, rfl⟩, set_does (by rcases hco with rfl | rfl <;> decide) il ir (bits_beside y z)⟩)).more (by decide) (by decide)
noncomputable def crossRes (k1 : Int) : Res := if k1 = 1 then .exc "AttributeError" else .ni
/-- two values of unlike kinds -/
theorem cmp_cross (h0 : 0 ≤ k1) (h5 : k1 < 5) (g0 : 0 ≤ k2) (g5 : k2 < 5) (hne : k1 ≠ k2) (U : Und prog w H a cc fa) (hns : H.Ns mainGlobals mg) (x : VAt prog w H a k1 y X) (x' : VAt prog w H a k2 z Y) : Cmp prog w H X Y (fun _ => crossRes k1) 2 9 := by
  have sy := x'.shp g0 g5 U.key.cls
  have hT : ∀ {T : String} {l : Addr} {xs : Array Value}, IsL H T l xs → ∀ s : Shared, Kpt H s.heap → s.TypeIs (.ref l) T := fun ⟨n, sl, e⟩ s kp => ⟨_, kp _ _ e, rfl⟩
  have hS : ∀ {l : Addr} {S : Int → Bool} {n : Nat}, H.SetOf (intKind prog w) l S n → ∀ s : Shared, Kpt H s.heap → s.TypeIs (.ref l) "set" := fun h s kp => (SetOf.keeps h kp).typeIs
  unfold VAt at x
  rcases five h0 h5 with rfl | rfl | rfl | rfl | rfl
  · obtain ⟨t, rfl⟩ := x
    exact (bi_ni tfI (fun s _ => typeIs_int s _ _) hns (ni_does tfI enI (fun s _ => typeIs_int s _ _) (tI sy (by rcases five g0 g5 with rfl | rfl | rfl | rfl | rfl <;> first | exact absurd rfl hne | decide)))).more (by decide) (by decide)
  · obtain ⟨x, t, rfl, ix⟩ := x
    exact (key_miss U.key U.lim ix rfl (noObj sy (by rcases five g0 g5 with rfl | rfl | rfl | rfl | rfl <;> first | exact absurd rfl hne | decide))).more (by decide) (by decide)
  · obtain ⟨l, xs, rfl, il, ks⟩ := x
    exact (bi_ni tfL (hT il) hns (ni_does tfL enL (hT il) (tL sy (by rcases five g0 g5 with rfl | rfl | rfl | rfl | rfl <;> first | exact absurd rfl hne | decide)))).more (by decide) (by decide)
  · obtain ⟨l, xs, rfl, il, ks⟩ := x
    exact (bi_ni tfT (hT il) hns (ni_does tfT enT (hT il) (tT sy (by rcases five g0 g5 with rfl | rfl | rfl | rfl | rfl <;> first | exact absurd rfl hne | decide)))).more (by decide) (by decide)
  · obtain ⟨l, rfl, il⟩ := x
    exact (bi_ni tfS (hS il) hns (ni_does tfS enS (hS il) (tS sy (by rcases five g0 g5 with rfl | rfl | rfl | rfl | rfl <;> first | exact absurd rfl hne | decide)))).more (by decide) (by decide)
end
end Mine
end

-- part R15
section
open PySem PySem.W PySem.W.X PySem.Calls PyProof.Rows
set_option maxRecDepth 100000
set_option linter.unusedVariables false
namespace Mine
noncomputable def nmK (k : Nat) : Str := (["_lt_from_le", "_lt_from_gt", "_lt_from_ge", "_le_from_lt", "_le_from_gt", "_le_from_ge", "_gt_from_lt", "_gt_from_le", "_gt_from_ge", "_ge_from_lt", "_ge_from_le", "_ge_from_gt"] : List Str).getD k ""
noncomputable def adK (k : Nat) : Addr := ([49, 63, 98, 28, 77, 84, 21, 56, 91, 35, 42, 70] : List Addr).getD k 0
/-- what the k-th of them is due to say -/
noncomputable def dueB (k : Nat) (u v : Bool) : Bool := match k with
  | 0 => u && !v | 1 => !v | 2 => !v | 3 => u | 4 => !(v && !u) | 5 => !(v && !u) | 6 => !u | 7 => !u | 8 => v && !u | 9 => !(u && !v) | 10 => !(u && !v) | _ => v
noncomputable def dueRes (z : Option (Bool × Bool)) (k : Nat) : Res := match z with
  | none => .exc "KeyError"
  | some (u, v) => .bool (dueB k u v)
theorem twelve {k : Nat} (h : k < 12) : k = 0 ∨ k = 1 ∨ k = 2 ∨ k = 3 ∨ k = 4 ∨ k = 5 ∨ k = 6 ∨ k = 7 ∨ k = 8 ∨ k = 9 ∨ k = 10 ∨ k = 11 := (by decide : ∀ k, k < 12 → k = 0 ∨ k = 1 ∨ k = 2 ∨ k = 3 ∨ k = 4 ∨ k = 5 ∨ k = 6 ∨ k = 7 ∨ k = 8 ∨ k = 9 ∨ k = 10 ∨ k = 11) k h
theorem made_flat {r : Res} (h : ∀ b, r ≠ .bool b) {op : CmpOp} {tl : Tail} : madeRes (fun _ => r) op tl = r := by
  cases r with
  | bool b => exact absurd rfl (h b)
  | ni => rfl
  | exc X => rfl
theorem made_due {k : Nat} {op : CmpOp} {tl : Tail} (h : ∀ u v, madeRes (fun op => .bool (opB op u v)) op tl = .bool (dueB k u v)) (z : Option (Bool × Bool)) : madeRes (standRes z) op tl = dueRes z k := by
  rcases z with _ | ⟨u, v⟩
  · rfl
  · exact h u v
theorem bools {P : Bool → Bool → Prop} (h1 : P true true) (h2 : P true false) (h3 : P false true) (h4 : P false false) : ∀ u v, P u v := fun u v => by cases u <;> cases v <;> assumption
section
variable {w : World} {H : Heap}
/-- the k-th made comparison's function -/
theorem fnK (X : (hd.heap_39 w.params).In H) {k : Nat} (hk : k < 12) : ∃ op tl, op ∈ four ∧ tl.ok ∧ FnAt H (adK k) (cmpInfo op).2.1 tl ∧ ∀ z, madeRes (standRes z) op tl = dueRes z k := by
  rcases twelve hk with rfl | rfl | rfl | rfl | rfl | rfl | rfl | rfl | rfl | rfl | rfl | rfl
  · exact ⟨.LtE, (.two false .And .NotEq _ ⟨0, 0, 0, 0⟩ _ _ _ _), by decide, .inr rfl, ⟨⟨_, _, _, _, _, _, _, _, _, _, _, _, _, _, _, _, _, _, _, _, _, _, _, _, _, _⟩, X 49 _ rfl, codeRec_of X (by rfl), rfl⟩, made_due (bools rfl rfl rfl rfl)⟩
  · exact ⟨.Gt, (.two true .And .NotEq _ _ _ _ _ _), by decide, .inr rfl, ⟨⟨_, _, _, _, _, _, _, _, _, _, _, _, _, _, _, _, _, _, _, _, _, _, _, _, _, _⟩, X 63 _ rfl, codeRec_of X (by rfl), rfl⟩, made_due (bools rfl rfl rfl rfl)⟩
  · exact ⟨.GtE, (.one true _ _), by decide, trivial, ⟨⟨_, _, _, _, _, _, _, _, _, _, _, _, _, _, _, _, _, _, _, _, _, _, _, _, _, _⟩, X 98 _ rfl, codeRec_of X (by rfl), rfl⟩, made_due (bools rfl rfl rfl rfl)⟩
  · exact ⟨.Lt, (.two false .Or .Eq _ ⟨0, 0, 0, 0⟩ _ _ _ _), by decide, .inl rfl, ⟨⟨_, _, _, _, _, _, _, _, _, _, _, _, _, _, _, _, _, _, _, _, _, _, _, _, _, _⟩, X 28 _ rfl, codeRec_of X (by rfl), rfl⟩, made_due (bools rfl rfl rfl rfl)⟩
  · exact ⟨.Gt, (.one true _ _), by decide, trivial, ⟨⟨_, _, _, _, _, _, _, _, _, _, _, _, _, _, _, _, _, _, _, _, _, _, _, _, _, _⟩, X 77 _ rfl, codeRec_of X (by rfl), rfl⟩, made_due (bools rfl rfl rfl rfl)⟩
  · exact ⟨.GtE, (.two true .Or .Eq _ _ _ _ _ _), by decide, .inl rfl, ⟨⟨_, _, _, _, _, _, _, _, _, _, _, _, _, _, _, _, _, _, _, _, _, _, _, _, _, _⟩, X 84 _ rfl, codeRec_of X (by rfl), rfl⟩, made_due (bools rfl rfl rfl rfl)⟩
  · exact ⟨.Lt, (.two true .And .NotEq _ _ _ _ _ _), by decide, .inr rfl, ⟨⟨_, _, _, _, _, _, _, _, _, _, _, _, _, _, _, _, _, _, _, _, _, _, _, _, _, _⟩, X 21 _ rfl, codeRec_of X (by rfl), rfl⟩, made_due (bools rfl rfl rfl rfl)⟩
  · exact ⟨.LtE, (.one true _ _), by decide, trivial, ⟨⟨_, _, _, _, _, _, _, _, _, _, _, _, _, _, _, _, _, _, _, _, _, _, _, _, _, _⟩, X 56 _ rfl, codeRec_of X (by rfl), rfl⟩, made_due (bools rfl rfl rfl rfl)⟩
  · exact ⟨.GtE, (.two false .And .NotEq _ ⟨0, 0, 0, 0⟩ _ _ _ _), by decide, .inr rfl, ⟨⟨_, _, _, _, _, _, _, _, _, _, _, _, _, _, _, _, _, _, _, _, _, _, _, _, _, _⟩, X 91 _ rfl, codeRec_of X (by rfl), rfl⟩, made_due (bools rfl rfl rfl rfl)⟩
  · exact ⟨.Lt, (.one true _ _), by decide, trivial, ⟨⟨_, _, _, _, _, _, _, _, _, _, _, _, _, _, _, _, _, _, _, _, _, _, _, _, _, _⟩, X 35 _ rfl, codeRec_of X (by rfl), rfl⟩, made_due (bools rfl rfl rfl rfl)⟩
  · exact ⟨.LtE, (.two true .Or .Eq _ _ _ _ _ _), by decide, .inl rfl, ⟨⟨_, _, _, _, _, _, _, _, _, _, _, _, _, _, _, _, _, _, _, _, _, _, _, _, _, _⟩, X 42 _ rfl, codeRec_of X (by rfl), rfl⟩, made_due (bools rfl rfl rfl rfl)⟩
  · exact ⟨.Gt, (.two false .Or .Eq _ ⟨0, 0, 0, 0⟩ _ _ _ _), by decide, .inl rfl, ⟨⟨_, _, _, _, _, _, _, _, _, _, _, _, _, _, _, _, _, _, _, _, _, _, _, _, _, _⟩, X 70 _ rfl, codeRec_of X (by rfl), rfl⟩, made_due (bools rfl rfl rfl rfl)⟩
end
end Mine
end

-- part R16
section
open PySem PySem.W PySem.W.X PySem.Calls PyProof.Rows
set_option maxRecDepth 100000
set_option linter.unusedVariables false
namespace Mine
noncomputable abbrev lmScope (n : Str) : Scope := { kind := .function, names := [("a", .local), ("b", .local), (n, .globalImplicit)], isGenerator := false, isCoroutine := false, more := [] }
noncomputable abbrev lmArgs (q1 q2 : Pos) : Arguments := { posonlyargs := [], args := [⟨"a", none, q1⟩, ⟨"b", none, q2⟩], vararg := none, kwonlyargs := [], kw_defaults := [], kwarg := none, defaults := [] }
noncomputable abbrev lmBody (n : Str) (p0 p1 p2 p3 : Pos) : Expr := .Call (.Name n p0) [.Name "a" p1, .Name "b" p2] [] p3
/-- lambda a, b: n(a, b) -/
noncomputable def LamAt (h : Heap) (f : Addr) (n : Str) : Prop := ∃ qual q1 q2 p0 p1 p2 p3 pm cv ctv, h.get? f = some ⟨.type "function", none, .func (kla_fn "<lambda>" qual (lmArgs q1 q2) (lmBody n p0 p1 p2 p3) (lmScope n) [] pm cv ctv), #[]⟩ ∧ h.CodeRec cv qual
theorem LamAt.keeps {h h' : Heap} {f : Addr} {n : Str} (x : LamAt h f n) (k : Kpt h h') : LamAt h' f n := by
  obtain ⟨qual, q1, q2, p0, p1, p2, p3, pm, cv, ctv, e, c⟩ := x
  exact ⟨qual, q1, q2, p0, p1, p2, p3, pm, cv, ctv, k _ _ e, c.keeps k⟩
structure NmOk (n : Str) : Prop where
  a : (n == ("a" : Str)) = false
  b : (n == ("b" : Str)) = false
  d : (n == ("__debug__" : Str)) = false
theorem nmK_ok {k : Nat} (hk : k < 12) : NmOk (nmK k) := by
  rcases twelve hk with rfl | rfl | rfl | rfl | rfl | rfl | rfl | rfl | rfl | rfl | rfl | rfl <;> exact ⟨rfl, rfl, rfl⟩
theorem lm_kind {n : Str} (o : NmOk n) : (lmScope n).names.lookup n = some .globalImplicit := by
  show List.lookup n [(("a" : Str), NameKind.local), ("b", .local), (n, .globalImplicit)] = _
  rw [List.lookup_cons, o.a, List.lookup_cons, o.b, List.lookup_cons]
  simp
section
variable {prog : Program} {w : World} {H : Heap} {X Y : Value} {mg mb : Str → Option Value} {dep un : Nat}
theorem lam_does {f g : Addr} {n : Str} {r : Out} (o : NmOk n) (L : LamAt H f n) (hg : H.Ns mainGlobals mg) (hl : H.NoLimit) (hm : mg n = some (.ref g)) (hf : ∃ fo fd, H.get? g = some fo ∧ fo.data = .func fd) (D : Does prog w H (call (.ref g) [X, Y]) r dep un) :
    Does prog w H (call (.ref f) [X, Y]) r (dep + 1) (un + 3) := by
  intro A B E Q s R kp e
  obtain ⟨qual, q1, q2, p0, p1, p2, p3, pm, cv, ctv, hfo, hcd⟩ := L.keeps kp
  obtain ⟨fo, fd, hfo', hfd⟩ := hf
  refine wpAny_call (codeAny_call_lam (binds := [("a", X), ("b", Y)]) (by have := R.depth; omega) hfo rfl (NoLimit.keeps hl kp) hcd rfl (lamBinds _ _ ⟨_, _, rfl⟩ rfl) (fun x hx => ?_) (locs (by rfl)) fun h₀ hns keep => ?_)
  · have hx' : x ∈ (lmScope n).names := hx
    simp only [List.mem_cons, List.not_mem_nil, or_false] at hx'
    rcases hx' with rfl | rfl | rfl <;> (intro q; cases q)
  have N : NewFm (callEnv (kla_fn "<lambda>" qual (lmArgs q1 q2) (lmBody n p0 p1 p2 p3) (lmScope n) [] pm cv ctv) s.heap.objs.size f) s h₀ := ⟨rfl, rfl, rfl, ⟨_, hns⟩, keep⟩
  refine wpAny_Call_Name_kw (Name_function_global rfl (lm_kind o) (loadGlobal_global ((hg.keeps kp).keeps keep) hm ?_) o.d) 
  refine callWith_function (o := fo) (fd := fd) (evalArgs_plain (spliced_cons (wpAny_Name (wpAny_loadName_local rfl rfl hns rfl (spliced_cons (wpAny_Name (wpAny_loadName_local rfl rfl hns rfl (spliced_nil ⟨⟨keep _ _ (kp _ _ hfo'), hfd⟩, ?_⟩))))))))
  refine D _ B _ _ _ (R.push N) (kp.trans keep) ?_
  cases r with
  | ret P => exact fun v h' tk' hv k => e v h' tk' hv (Kpt.trans keep k)
  | exc X => exact fun v s' hv => Flew.leave R rfl keep hv e
/-- the twelve functions of the list made -/
structure Twelve (w : World) (H : Heap) (mg mb : Str → Option Value) (fs : Nat → Addr) : Prop where
  X : (hd.heap_39 w.params).In H
  glob : Glob H mg mb
  lim : H.NoLimit
  lam : ∀ k, k < 12 → LamAt H (fs k) (nmK k)
theorem nmK_ad (X' : (hd.heap_39 w.params).In H) (hg : H.Ns mainGlobals mg) {k : Nat} (hk : k < 12) : mg (nmK k) = some (.ref (adK k)) := by
  rcases twelve hk with rfl | rfl | rfl | rfl | rfl | rfl | rfl | rfl | rfl | rfl | rfl | rfl <;> exact mg_of X' hg (by rfl)
theorem twelve_does {fs : Nat → Addr} {o : CmpOp → Res} {k : Nat} (T : Twelve w H mg mb fs) (hk : k < 12) (C : Cmp prog w H X Y o dep un) {res : Res} (hr : ∀ op tl, (∀ z, madeRes (standRes z) op tl = dueRes z k) → madeRes o op tl = res) :
    Does prog w H (call (.ref (fs k)) [X, Y]) res.out (dep + 2) (un + 6) := by
  obtain ⟨op, tl, ho, htl, hf, hm⟩ := fnK T.X hk
  rw [← hr op tl hm]
  obtain ⟨fo, fd, e1, e2⟩ := hf.fn
  exact lam_does (nmK_ok hk) (T.lam k hk) T.glob.g T.lim (nmK_ad T.X T.glob.g hk) ⟨fo, fd, e1, e2⟩ (fn_does C ho htl hf T.glob T.lim ⟨112, _, T.X 112 _ rfl, by decide, by decide⟩)
end
end Mine
end

-- part Q1
section
open PySem PySem.W PySem.Calls PyProof.Rows
set_option maxRecDepth 100000
set_option maxHeartbeats 4000000
namespace Mine
theorem Fm.apartOf {h : Heap} {env : Env} {m cm : Str → Option Value} (F : Fm h env m cm) {b : Addr} (hb : h.get? b = none) : b ∉ fW env := fun q => by
  obtain ⟨o, e, _⟩ := F.wok b q
  rw [hb] at e; cases e

end Mine
end

-- part RQ
section
open PySem PySem.W PySem.Calls PyProof.Rows
set_option maxRecDepth 100000
set_option maxHeartbeats 4000000
namespace Mine
theorem ai_pick {items : Array Value} (h : AllInts items) (lo hi st : Option Int) : AllInts (slicePick items lo hi st) := by
  intro v hv
  unfold slicePick at hv
  rw [List.mem_toArray, List.mem_filterMap] at hv
  obtain ⟨i, _, e⟩ := hv
  exact h v (Array.mem_of_getElem? e)
section
variable {prog : Program} {w : World} {A : Around} {E : Value → Shared → Prop} {s : Shared} {env : Env}
theorem list_item {value slice : Expr} {l : Addr} {items : Array Value} {k : Int} {t : Tok} {v : Value} {Q : Value → Shared → Prop} (hl : s.heap.IsList l items) (h0 : 0 ≤ k) (hk : k < 2 ^ 63) (hx : items[k.toNat]? = some v)
    (hs : subscripted slice false (.ref l) (.int k t) = operate [.ref l, .int k t] (getItem (.ref l) (.int k t))) (h : Q v s) :
    wpAny (model prog w) A (subscriptTail value slice (.ref l) (.int k t)) Q E s :=
  tail_any hl.typeIs slot_list_getitem.lookup (wpAny_getItem_list hl h0 hk hx h) hs


/-- list[lo:hi] -/
theorem slice2 {value : Expr} {lower upper : Option Expr} {p pos : Pos} {Q : Value → Shared → Prop} {l : Addr} {items : Array Value} {lo hi : Option Int}
    (hv : ∀ Q', Q' (.ref l) s → wpAny (model prog w) A (eval value env) Q' E s) (hl : s.heap.IsList l items) (hsz : items.size ≤ sizeLine)
    (h1 : ∀ Q' s', s'.heap = s.heap → (∀ v t, IsPart v lo → Q' v { s' with toks := t }) → wpAny (model prog w) A (evalPart lower env) Q' E s')
    (h2 : ∀ Q' s', s'.heap = s.heap → (∀ v t, IsPart v hi → Q' v { s' with toks := t }) → wpAny (model prog w) A (evalPart upper env) Q' E s')
    (hq : ∀ D h' tk, (∀ b o, s.heap.get? b = some o → h'.get? b = some o) → s.heap.get? D = none → h'.get? D = some { cls := .type "list", data := .seq (slicePick items lo hi none) } → Q (.ref D) { s with heap := h', toks := tk })
    (ht : ∀ o r, letTemporaryGo value o r = pure () := by intro _ _; rfl) : wpAny (model prog w) A (eval (.Subscript value (.Slice lower upper none p) pos) env) Q E s := by
  refine wpAny_Subscript_Slice slot_list_getitem.lookup (hv _ (wpAny_Slice (h1 _ _ rfl fun v1 t1 p1 => h2 _ _ rfl fun v2 t2 p2 => ?_))) ht
  rw [evalPart_none]
  refine wpAny_pure ⟨(hl.push _).typeIs, ?_⟩
  refine wpAny_getItem_list_slice (hl.push _) (Heap.IsSliceOf.new ..) p1 p2 .none (by simp) ?_ hsz
  refine hq _ _ _ (fun b o e => Heap.get?_push_of_some _ (Heap.get?_push_of_some _ e)) (Heap.get?_none_of_le ?_) (Heap.get?_push_size _ rfl)
  simp only [Heap.size_push]
  omega
/-- list[lo::st] -/
theorem slice3 {value step : Expr} {lower upper : Option Expr} {p pos : Pos} {Q : Value → Shared → Prop} {l : Addr} {items : Array Value} {lo hi : Option Int} {st : Int} (hst : st ≠ 0)
    (hv : ∀ Q', Q' (.ref l) s → wpAny (model prog w) A (eval value env) Q' E s) (hl : s.heap.IsList l items) (hsz : items.size ≤ sizeLine)
    (h1 : ∀ Q' s', s'.heap = s.heap → (∀ v t, IsPart v lo → Q' v { s' with toks := t }) → wpAny (model prog w) A (evalPart lower env) Q' E s')
    (h2 : ∀ Q' s', s'.heap = s.heap → (∀ v t, IsPart v hi → Q' v { s' with toks := t }) → wpAny (model prog w) A (evalPart upper env) Q' E s')
    (h3 : ∀ Q' s', s'.heap = s.heap → (∀ v t, IsPart v (some st) → Q' v { s' with toks := t }) → wpAny (model prog w) A (eval step env) Q' E s')
    (hq : ∀ D h' tk, (∀ b o, s.heap.get? b = some o → h'.get? b = some o) → s.heap.get? D = none → h'.get? D = some { cls := .type "list", data := .seq (slicePick items lo hi (some st)) } → Q (.ref D) { s with heap := h', toks := tk })
    (ht : ∀ o r, letTemporaryGo value o r = pure () := by intro _ _; rfl) : wpAny (model prog w) A (eval (.Subscript value (.Slice lower upper (some step) p) pos) env) Q E s := by
  refine wpAny_Subscript_Slice_step slot_list_getitem.lookup (hv _ (wpAny_Slice (h1 _ _ rfl fun v1 t1 p1 => h2 _ _ rfl fun v2 t2 p2 => ?_))) ht
  rw [evalPart_some]
  refine h3 _ _ rfl fun v3 t3 p3 => ⟨(hl.push _).typeIs, ?_⟩
  refine wpAny_getItem_list_slice (hl.push _) (Heap.IsSliceOf.new ..) p1 p2 p3 (by simpa using hst) ?_ hsz
  refine hq _ _ _ (fun b o e => Heap.get?_push_of_some _ (Heap.get?_push_of_some _ e)) (Heap.get?_none_of_le ?_) (Heap.get?_push_size _ rfl)
  simp only [Heap.size_push]
  omega
/-- sum of a list of ints: some int -/
theorem sum_some {l : Addr} {items : Array Value} {Q : Value → Shared → Prop} (hh : A.handled = none) (hl : s.heap.IsList l items) (ha : AllInts items)
    (hq : ∀ n t h' tk, (∀ b o, s.heap.get? b = some o → h'.get? b = some o) → Q (.int n t) { s with heap := h', toks := tk }) : wpAny (model prog w) A (call (.builtin "sum") [.ref l]) Q E s := by
  obtain ⟨xs, rfl⟩ := ha.items
  exact sum_intListG hh hl fun h' tk t' k => hq _ _ _ _ k
theorem relabel_lookup {env : Env} : ∀ {names : List (Str × NameKind)} {n : Str} {k : NameKind}, names.lookup n = some k →
    (names.map fun (n, k) => if (k == NameKind.free && env.scope.kind == .function && env.kindOf n == some .cell) then (n, NameKind.cell) else (n, k)).lookup n = some (if (k == NameKind.free && env.scope.kind == .function && env.kindOf n == some .cell) then NameKind.cell else k)
  | [], _, _, h => by simp at h
  | (n', k') :: r, n, k, h => by
    have ih := @relabel_lookup env r n k
    show List.lookup n ((if (k' == NameKind.free && env.scope.kind == .function && env.kindOf n' == some .cell) = true then (n', NameKind.cell) else (n', k')) :: _) = _
    cases hx : n == n' with
    | true =>
      simp only [List.lookup_cons, hx] at h
      cases h
      rw [beq_iff_eq.mp hx]
      by_cases hc : (k' == NameKind.free && env.scope.kind == .function && env.kindOf n' == some .cell) = true
      · rw [if_pos hc, if_pos hc]; simp
      · rw [if_neg hc, if_neg hc]; simp
    | false =>
      simp only [List.lookup_cons, hx] at h
      by_cases hc : (k' == NameKind.free && env.scope.kind == .function && env.kindOf n' == some .cell) = true
      · rw [if_pos hc]; simp only [List.lookup_cons, hx]; exact ih h
      · rw [if_neg hc]; simp only [List.lookup_cons, hx]; exact ih h
theorem comp_cell {scope : Scope} {cl : List (Str × Addr)} {C : Addr} {n : Str} (h : scope.names.lookup n = some .free) (hk : env.scope.kind = .function) (hc : env.kindOf n = some .cell) : (compEnvC scope cl C env).kindOf n = some .cell := by
  show (relabel scope env).names.lookup n = _
  unfold relabel
  rw [relabel_lookup h, hk, hc]; rfl
theorem comp_kind {scope : Scope} {cl : List (Str × Addr)} {C : Addr} {n : Str} {k : NameKind} (h : scope.names.lookup n = some k) (hk : (k == NameKind.free) = false) : (compEnvC scope cl C env).kindOf n = some k := by
  show (relabel scope env).names.lookup n = _
  unfold relabel
  rw [relabel_lookup h, hk]; rfl
/-- range(e) walked -/
theorem range_it {e : Expr} {rp rpos : Pos} {K : Value → Shared → Prop} {mg mb : Str → Option Value} (hh : A.handled = none) (hk : env.scope.kind = .function) (hx : env.kindOf "range" = some .globalImplicit)
    (hg : s.heap.Ns env.globals mg) (hmiss : mg "range" = none) (hb : s.heap.Ns env.builtins mb) (hv : mb "range" = some (.type "range")) (hse : starEach [e] env = [(false, eval e env)])
    (h : wpAny (model prog w) A (eval e env) (fun nv s₁ => ∃ N tN, nv = .int N tN ∧ -(2 ^ 62) ≤ N ∧ N < 2 ^ 62 ∧
      ∀ I h₂ tk₂, Walks prog w A I [I] [I] N.toNat (fun i v => ∃ t, v = .int (0 + i * 1) t) (fun i h => IsRangeIter h I (0 + (i : Nat) * 1) ((N.toNat : Int) - (i : Nat)) 1) → IsRangeIter h₂ I (0 + ((0 : Nat) : Int) * 1) ((N.toNat : Int) - ((0 : Nat) : Int)) 1 → s₁.heap.get? I = none →
        (∀ b o, s₁.heap.get? b = some o → h₂.get? b = some o) → K (.ref I) { s₁ with heap := h₂, toks := tk₂ }) E s) :
    wpAny (model prog w) A (eval (.Call (.Name "range" rp) [e] [] rpos) env) (fun xv s₁ => wpAny (model prog w) A (pyIter xv) K E s₁) E s := by
  refine wpAny_Call_NameR (Calls.Name_function_global hk hx (Calls.loadGlobal_builtin hg hmiss hb hv ?_))
  rw [show backTo rpos (starEach [e] env) = [(false, eval e env)] from by rw [hse]; rfl]
  refine PySem.callWith_type rfl (Calls.evalArgs_plain (Calls.spliced_cons (wpAny_mono h (fun nv s₁ h₁ => Calls.spliced_nil ?_) fun _ _ e => e)))
  obtain ⟨N, tN, rfl, hlo, hhi, hK⟩ := h₁
  refine call_range_1 ?_
  refine wpAny_pyIter_range (IsRange.new ..) (small_one (by decide) (by decide) hlo hhi) ?_
  have hsz : Builtin.Range.rangeSize 0 N 1 = (N.toNat : Int) := by rw [rangeSize_one]; split <;> omega
  refine hK _ _ _ (Walks.range hh _ 0 1 N.toNat) ?_ (Heap.get?_none_of_le (by simp [Heap.size_push])) (fun _ _ e => Heap.get?_push_of_some _ (Heap.get?_push_of_some _ e))
  have e1 : (0 + ((0 : Nat) : Int) * 1) = 0 := by simp
  have e2 : ((N.toNat : Int) - ((0 : Nat) : Int)) = Builtin.Range.rangeSize 0 N 1 := by rw [hsz]; simp
  rw [e1, e2]
  exact Heap.get?_push_size _ rfl
end
end Mine
end

-- part R17
section
open PySem PySem.W PySem.W.X PySem.Calls PyProof.Rows
set_option maxRecDepth 100000
set_option linter.unusedVariables false
set_option maxHeartbeats 1000000
namespace Mine
/-- a list of ints -/
noncomputable abbrev IntsAt (ks : List Int) (xs : List Value) : Prop := Paired (fun k X => ∃ t, X = Value.int k t) ks xs
noncomputable abbrev oneB (y : Int) : Int := 1 + (y.fdiv 5).fmod 3
section
variable {prog : Program} {w : World} {A : Around} {E : Value → Shared → Prop} {s : Shared} {env : Env}
theorem ep_some {e : Expr} {Q : Value → Shared → Prop} (h : wpAny (model prog w) A (eval e env) Q E s) : wpAny (model prog w) A (evalPart (some e) env) Q E s := by rw [evalPart_some]; exact h
theorem slice_new {value : Expr} {upper : Option Expr} {p pos : Pos} {Q : Value → Shared → Prop} {hi : Option Int}
    (h : wpAny (model prog w) A (eval value env) (fun v s₁ => ∃ l items, v = .ref l ∧ s₁.heap.IsList l items ∧ items.size ≤ sizeLine ∧
      wpAny (model prog w) A (evalPart upper env) (fun v' s₂ => IsPart v' hi ∧ ∃ tk, s₂ = { s₁ with toks := tk }) E s₁ ∧
      ∀ D h' tk, Kpt s₁.heap h' → s₁.heap.get? D = none → h'.get? D = some { cls := .type "list", data := .seq (slicePick items none hi none) } → Q (.ref D) { s₁ with heap := h', toks := tk }) E s) : wpAny (model prog w) A (eval (.Subscript value (.Slice none upper none p) pos) env) Q E s := by
  refine Subscript_ (wpAny_mono h (fun v s₁ hv => ?_) fun _ _ z => z)
  obtain ⟨l, items, rfl, hl, hsz, h2, hq⟩ := hv
  refine wpAny_Slice ?_
  rw [evalPart_none]
  refine wpAny_pure (wpAny_mono h2 (fun v' s₂ hv => ?_) fun _ _ z => z)
  obtain ⟨p2, tk, rfl⟩ := hv
  refine wpAny_pure (tail_any (hl.push _).typeIs slot_list_getitem.lookup ?_ rfl)
  refine wpAny_getItem_list_slice (hl.push _) (Heap.IsSliceOf.new ..) .none p2 .none (by simp) ?_ hsz
  refine hq _ _ _ (fun b o e => Heap.get?_push_of_some _ (Heap.get?_push_of_some _ e)) (Heap.get?_none_of_le ?_) (Heap.get?_push_size _ rfl)
  simp only [Heap.size_push]
  omega
theorem row_call {y : Int} {t : Tok} {Q : Value → Shared → Prop} (X : (hd.heap_39 w.params).In s.heap) (hl : s.heap.NoLimit) (hroom : A.depth < recursionLimit)
    (hq : ∀ D h' tk' xs, Kpt s.heap h' → s.heap.get? D = none → h'.get? D = some ⟨.type "list", none, .seq xs 0, #[]⟩ → IntsAt (rowOf y) xs.toList → Q (.ref D) { s with heap := h', toks := tk' }) :
    wpAny (model prog w) A (call (.ref 119) [.int y t]) Q E s := by
  refine wpAny_call (codeAny_call_plain (binds := [("y", .int y t)]) hroom (X 119 _ rfl) rfl hl (codeRec_of X (by rfl)) rfl rfl (by decide) (locs rfl) fun h₀ hns keep => ?_)
  have hm3 := Int.fmod_eq_emod_of_nonneg (y.fdiv 5) (show (0 : Int) ≤ 3 by decide)
  have n3 : oneB y = 1 ∨ oneB y = 2 ∨ oneB y = 3 := by unfold oneB; omega
  refine wpAny_execs_cons (wpAny_Return_some (slice_new (hi := some (oneB y)) ?_))
  refine wpAny_List (spliced_cons (wpAny_BinOp (wpAny_Name (wpAny_loadName_local rfl rfl hns rfl (wpAny_Constant_int (mod_int' (by decide) ?_))))))
  refine spliced_cons (wpAny_BinOp (wpAny_BinOp (wpAny_Name (wpAny_loadName_local rfl rfl hns rfl (wpAny_Constant_int (floordiv_int (by decide) (wpAny_Constant_int (mod_int' (by decide) ?_))))))))
  refine spliced_cons (wpAny_BinOp (wpAny_Name (wpAny_loadName_local rfl rfl hns rfl (wpAny_Constant_int (floordiv_int (by decide) (spliced_nil ⟨by rw [sizeLine_eq]; simp, ?_⟩))))))
  have hp : ∀ o, Kpt h₀ (h₀.push o) := fun o b ob e => Heap.get?_push_of_some _ e
  refine ⟨_, _, rfl, ⟨_, Heap.get?_push_size _ rfl, rfl, _, rfl⟩, by rw [sizeLine_eq]; simp, ?_, fun D h' tk kk nD eD => ?_⟩
  · refine ep_some (wpAny_BinOp (wpAny_Constant_int (wpAny_BinOp (wpAny_BinOp (wpAny_Name (wpAny_loadName_local rfl rfl (hns.keeps (hp _)) rfl (wpAny_Constant_int (floordiv_int (by decide) (wpAny_Constant_int (mod_int' (by decide) (add_int ?_)))))))))))
    exact ⟨.int _ _, _, rfl⟩
  · refine hq D h' tk _ (Kpt.trans keep (Kpt.trans (hp _) kk)) ?_ eD ?_
    · cases q : s.heap.get? D with
      | none => rfl
      | some o => rw [hp _ _ _ (keep _ _ q)] at nD; cases nD
    · unfold rowOf
      rw [show (1 + (y.fdiv 5).fmod 3) = oneB y from rfl]
      rcases n3 with e | e | e <;> rw [e]
      · exact .cons ⟨_, rfl⟩ .nil
      · exact .cons ⟨_, rfl⟩ (.cons ⟨_, rfl⟩ .nil)
      · exact .cons ⟨_, rfl⟩ (.cons ⟨_, rfl⟩ (.cons ⟨_, rfl⟩ .nil))
end
end Mine
end

-- part R18
section
open PySem PySem.W PySem.W.X PySem.Calls PyProof.Rows
set_option maxRecDepth 100000
set_option linter.unusedVariables false
set_option maxHeartbeats 1000000
namespace Mine
/-- the built-in names -/
structure BN (mg mb : Str → Option Value) : Prop where
  ty : ∀ n ∈ (["zip", "range", "tuple", "KeyError", "AttributeError", "type"] : List String), mg (Str.ofString n) = none ∧ mb (Str.ofString n) = some (.type n)
  fn : ∀ n ∈ (["len", "sum", "min"] : List String), mg (Str.ofString n) = none ∧ mb (Str.ofString n) = some (.builtin n)
  ni : mg "NotImplemented" = none ∧ mb "NotImplemented" = some .notImplemented
/-- what _law_stand gives -/
noncomputable def StandV (h : Heap) (v : Value) : Option (Bool × Bool) → Prop
  | none => v = .none
  | some (a, b) => ∃ t, v = .ref t ∧ h.IsTuple t #[.bool a, .bool b]
noncomputable abbrev sLoc : List Str := ["kind", "y", "z", "left", "right", "a", "b"]
/-- its frame -/
structure SE (env : Env) : Prop where
  hk : env.scope.kind = .function
  loc : ∀ n ∈ sLoc, env.kindOf n = some .local
  glo : ∀ n ∈ (["_law_row", "zip", "len"] : List Str), env.kindOf n = some .globalImplicit
  eg : env.globals = mainGlobals
  eb : env.builtins = builtinsNs
noncomputable abbrev upd (m : Str → Option Value) (n : Str) (v : Value) : Str → Option Value := fun y => if y = n then some v else m y
section
variable {prog : Program} {w : World} {A : Around} {E : Value → Shared → Prop} {env : Env} {m mg mb : Str → Option Value}
theorem ld {s : Shared} {n : Str} {p : Pos} {v : Value} {Q : Value → Shared → Prop} (e : SE env) (hn : n ∈ sLoc) (hns : s.heap.Ns env.locals m) (hm : m n = some v) (hq : Q v s) (hd : (n == ("__debug__" : Str)) = false := by decide) : wpAny (model prog w) A (eval (.Name n p) env) Q E s :=
  wpAny_Name (wpAny_loadName_local e.hk (e.loc n hn) hns hm hq) hd
theorem st {s : Shared} {n : Str} {v : Value} {Q : Unit → Shared → Prop} (e : SE env) (hn : n ∈ sLoc) (hns : s.heap.Ns env.locals m) (hq : ∀ h' tk', h'.Ns env.locals (upd m n v) → Heap.SameBut env.locals s.heap h' → Q () { s with heap := h', toks := tk' }) : wpAny (model prog w) A (storeName env n v) Q E s :=
  wpAny_storeName_local (e.loc n hn) hns (fun h' hns' sb => hq h' _ hns' sb) (by rw [e.hk]; rfl)
/-- [v] if kind == 1 else _law_row(v) -/
theorem side_eval {s : Shared} {n : Str} {kind y : Int} {t u : Tok} {p1 p2 p3 p4 p5 p6 p7 p8 p9 : Pos} {Q : Value → Shared → Prop} (e : SE env) (hn : n = "y" ∨ n = "z") (X : (hd.heap_39 w.params).In s.heap) (hl : s.heap.NoLimit) (hg : s.heap.Ns mainGlobals mg) (hroom : A.depth < recursionLimit)
    (hns : s.heap.Ns env.locals m) (hm : m n = some (.int y t)) (hk : m "kind" = some (.int kind u))
    (hq : ∀ D h' tk' xs, Kpt s.heap h' → s.heap.get? D = none → h'.get? D = some ⟨.type "list", none, .seq xs 0, #[]⟩ → IntsAt (if kind = 1 then [y] else rowOf y) xs.toList → Q (.ref D) { s with heap := h', toks := tk' }) :
    wpAny (model prog w) A (eval (.IfExp (.Compare (.Name "kind" p1) [.Eq] [.Constant (.int 1) 0 p2] p3) (.List [.Name n p4] p5) (.Call (.Name "_law_row" p6) [.Name n p7] [] p8) p9) env) Q E s := by
  have hnl : n ∈ sLoc := by rcases hn with rfl | rfl <;> decide
  have hnd : (n == ("__debug__" : Str)) = false := by rcases hn with rfl | rfl <;> decide
  refine wpAny_IfExp (wpAny_isTrue_Compare1 (ld e (by decide) hns hk (wpAny_Constant_int (PyProof.Rows.eq_int (wpAny_truthy_bool ?_)))))
  by_cases c : kind = 1
  · rw [if_pos c] at hq
    rw [if_pos (by simpa using c)]
    refine wpAny_List ?_
    refine spliced_cons (ld e hnl hns hm (spliced_nil ⟨by rw [sizeLine_eq]; simp, ?_⟩) hnd)
    exact hq _ _ _ _ (fun b ob eb => Heap.get?_push_of_some _ eb) (Heap.get?_none_of_le (Nat.le_refl _)) (Heap.get?_push_size _ rfl) (.cons ⟨_, rfl⟩ .nil)
  · rw [if_neg c] at hq
    rw [if_neg (by simpa using c)]
    refine wpAny_Call_Name_kw (Name_function_global e.hk (e.glo _ (by decide)) (loadGlobal_global (by rw [e.eg]; exact hg) (show mg "_law_row" = some (.ref 119) from mg_of X hg (by rfl)) ?_))
    obtain ⟨fo, fdd, hfo, hfd⟩ : ∃ o fd, s.heap.get? 119 = some o ∧ o.data = .func fd := ⟨_, _, X 119 _ rfl, rfl⟩
    refine callWith_function (o := fo) (fd := fdd) (evalArgs_plain ?_)
    refine spliced_cons (ld e hnl hns hm (spliced_nil ⟨⟨hfo, hfd⟩, ?_⟩) hnd)
    exact row_call X hl hroom hq
end
end Mine
end

-- part R19
section
open PySem PySem.W PySem.W.X PySem.Calls PyProof.Rows
set_option maxRecDepth 100000
set_option linter.unusedVariables false
set_option maxHeartbeats 1000000
namespace Mine
theorem ints_get {ks : List Int} {xs : Array Value} (h : IntsAt ks xs.toList) : xs.size = ks.length ∧ ∀ (i : Nat) (x : Value), xs[i]? = some x → ∃ k t, ks[i]? = some k ∧ x = .int k t := by
  refine ⟨by rw [← Array.length_toList, ← h.length], ?_⟩
  generalize hx : xs.toList = l at h
  have : ∀ i : Nat, xs[i]? = l[i]? := fun i => by rw [← hx, Array.getElem?_toList]
  intro i x hi
  rw [this] at hi
  clear this hx
  induction h generalizing i with
  | nil => cases hi
  | cons a _ ih =>
    cases i with
    | zero => obtain ⟨t, rfl⟩ := a; cases hi; exact ⟨_, t, rfl, rfl⟩
    | succ i => exact ih i hi
theorem standL_drop {l r : List Int} {i : Nat} {k m : Int} (hl : l[i]? = some k) (hr : r[i]? = some m) : standL (l.drop i) (r.drop i) = standL (k :: l.drop (i + 1)) (m :: r.drop (i + 1)) := by
  obtain ⟨h1, rfl⟩ := List.getElem?_eq_some_iff.mp hl
  obtain ⟨h2, rfl⟩ := List.getElem?_eq_some_iff.mp hr
  rw [List.drop_eq_getElem_cons h1, List.drop_eq_getElem_cons h2]
section
variable {prog : Program} {w : World} {A : Around} {E : Value → Shared → Prop} {env : Env} {m mg mb : Str → Option Value}
/-- a tuple of two answers -/
theorem two_bools {e1 e2 : Expr} {p : Pos} {b1 b2 : Bool} {s : Shared} {Q : Value → Shared → Prop} (hs : backTo p (starEach [e1, e2] env) = [(false, eval e1 env), (false, eval e2 env)])
    (h1 : ∀ {Q' : Value → Shared → Prop} {E' : Value → Shared → Prop} {s' : Shared}, s'.heap = s.heap → (∀ tk, Q' (.bool b1) { s' with toks := tk }) → wpAny (model prog w) A (eval e1 env) Q' E' s')
    (h2 : ∀ {Q' : Value → Shared → Prop} {E' : Value → Shared → Prop} {s' : Shared}, s'.heap = s.heap → (∀ tk, Q' (.bool b2) { s' with toks := tk }) → wpAny (model prog w) A (eval e2 env) Q' E' s')
    (hq : ∀ v h' tk, Kpt s.heap h' → StandV h' v (some (b1, b2)) → Q v { s with heap := h', toks := tk }) : wpAny (model prog w) A (eval (.Tuple [e1, e2] 0 p) env) Q E s := by
  refine wpAny_Tuple ?_
  rw [hs]
  refine spliced_cons (h1 rfl fun tk1 => spliced_cons (h2 rfl fun tk2 => spliced_nil ⟨by rw [sizeLine_eq]; simp, ?_⟩))
  exact hq _ _ _ (fun b o e => Heap.get?_push_of_some _ e) ⟨_, rfl, _, Heap.get?_push_size _ rfl, rfl, _, rfl⟩
noncomputable abbrev modE (n : Str) (p1 p2 p3 p4 p5 : Pos) : Expr := .Compare (.BinOp (.Name n p1) .Mod (.Constant (.int 5) 0 p2) p3) [.Eq] [.Constant (.int 4) 0 p4] p5
noncomputable abbrev halfE (n : Str) (p1 p2 p3 : Pos) : Expr := .BinOp (.Name n p1) .FloorDiv (.Constant (.int 2) 0 p2) p3
noncomputable abbrev posL (l : List Pos) : Nat → Pos := fun n => l.getD n ⟨0, 0, 0, 0⟩
noncomputable abbrev sP : Nat → Pos := posL [⟨111, 12, 111, 13⟩, ⟨111, 16, 111, 17⟩, ⟨111, 12, 111, 17⟩, ⟨111, 21, 111, 22⟩, ⟨111, 12, 111, 22⟩, ⟨111, 28, 111, 29⟩, ⟨111, 32, 111, 33⟩, ⟨111, 28, 111, 33⟩, ⟨111, 37, 111, 38⟩, ⟨111, 28, 111, 38⟩, ⟨111, 11, 111, 39⟩, ⟨112, 19, 112, 23⟩, ⟨112, 12, 112, 23⟩, ⟨111, 8, 112, 23⟩, ⟨113, 11, 113, 12⟩, ⟨113, 16, 113, 17⟩, ⟨113, 11, 113, 17⟩, ⟨113, 21, 113, 22⟩, ⟨113, 26, 113, 27⟩, ⟨113, 21, 113, 27⟩, ⟨113, 11, 113, 27⟩, ⟨114, 20, 114, 21⟩, ⟨114, 24, 114, 25⟩, ⟨114, 20, 114, 25⟩, ⟨114, 27, 114, 28⟩, ⟨114, 31, 114, 32⟩, ⟨114, 27, 114, 32⟩, ⟨114, 19, 114, 33⟩, ⟨114, 12, 114, 33⟩, ⟨113, 8, 114, 33⟩]
noncomputable abbrev turnB (p : Nat → Pos) : List Stmt :=
  [.If (.Compare (modE "a" (p 0) (p 1) (p 2) (p 3) (p 4)) [.NotEq] [modE "b" (p 5) (p 6) (p 7) (p 8) (p 9)] (p 10)) [.Return (some (.Constant .none 0 (p 11))) (p 12)] [] (p 13),
   .If (.Compare (halfE "a" (p 14) (p 15) (p 16)) [.NotEq] [halfE "b" (p 17) (p 18) (p 19)] (p 20)) [.Return (some (.Tuple [.Compare (.Name "a" (p 21)) [.Lt] [.Name "b" (p 22)] (p 23), .Compare (.Name "a" (p 24)) [.Gt] [.Name "b" (p 25)] (p 26)] 0 (p 27))) (p 28)] [] (p 29)]
theorem turn_walk {s : Shared} {k l : Int} {t u : Tok} {Q : Flow → Shared → Prop} (e : SE env) (hns : s.heap.Ns env.locals m) (ha : m "a" = some (.int k t)) (hb : m "b" = some (.int l u))
    (h1 : refuse k l = true → ∀ tk, Q (.ret .none) { s with toks := tk })
    (h2 : refuse k l = false → k.fdiv 2 ≠ l.fdiv 2 → ∀ v h' tk, Kpt s.heap h' → StandV h' v (some (decide (k < l), decide (l < k))) → Q (.ret v) { s with heap := h', toks := tk })
    (h3 : refuse k l = false → k.fdiv 2 = l.fdiv 2 → ∀ tk, Q .next { s with toks := tk }) : wpAny (model prog w) A (execs (turnB sP) env) Q E s := by
  obtain ⟨h, g, d, tk, os⟩ := s
  dsimp only at hns
  refine wpAny_execs_cons (wpAny_If (wpAny_isTrue_Compare1 (wpAny_Compare1 (wpAny_BinOp (ld (s := ⟨h, g, d, _, os⟩) e (by decide) hns ha (wpAny_Constant_int (mod_int' (by decide) (wpAny_Constant_int (PyProof.Rows.eq_int ?_)))))))))
  refine wpAny_Compare1 (wpAny_BinOp (ld (s := ⟨h, g, d, _, os⟩) e (by decide) hns hb (wpAny_Constant_int (mod_int' (by decide) (wpAny_Constant_int (PyProof.Rows.eq_int ?_))))))
  refine ne_bool (wpAny_truthy_bool ?_)
  cases hr : refuse k l with
  | true =>
    have hr' : ((k.fmod 5 == 4) != (l.fmod 5 == 4)) = true := hr
    rw [if_pos hr']
    exact wpAny_execs_cons (wpAny_Return_some (wpAny_Constant_none (h1 hr _)))
  | false =>
    have hr' : ((k.fmod 5 == 4) != (l.fmod 5 == 4)) = false := hr
    rw [if_neg (by rw [hr']; exact Bool.false_ne_true)]
    refine wpAny_execs_nil (wpAny_execs_cons (wpAny_If (wpAny_isTrue_Compare1 (wpAny_BinOp (ld (s := ⟨h, g, d, _, os⟩) e (by decide) hns ha (wpAny_Constant_int (floordiv_int (by decide) ?_)))))))
    refine wpAny_BinOp (ld (s := ⟨h, g, d, _, os⟩) e (by decide) hns hb (wpAny_Constant_int (floordiv_int (by decide) ?_)))
    refine ne_int (wpAny_truthy_bool ?_)
    by_cases c : k.fdiv 2 = l.fdiv 2
    · rw [if_neg (by simpa using c)]
      exact wpAny_execs_nil (wpAny_execs_nil (h3 hr c _))
    · rw [if_pos (by simpa using c)]
      refine wpAny_execs_cons (wpAny_Return_some (two_bools (b1 := decide (k < l)) (b2 := decide (l < k)) rfl ?_ ?_ fun v h' tk kk hv => h2 hr c v h' tk kk hv))
      · intro Q' E' s' hh hq
        obtain ⟨h', g', d', tk', os'⟩ := s'
        obtain rfl : h' = h := hh
        exact wpAny_Compare1 (ld (s := ⟨h', g', d', _, os'⟩) e (by decide) hns ha (ld (s := ⟨h', g', d', _, os'⟩) e (by decide) hns hb (lt_int (hq _))))
      · intro Q' E' s' hh hq
        obtain ⟨h', g', d', tk', os'⟩ := s'
        obtain rfl : h' = h := hh
        exact wpAny_Compare1 (ld (s := ⟨h', g', d', _, os'⟩) e (by decide) hns ha (ld (s := ⟨h', g', d', _, os'⟩) e (by decide) hns hb (gt_int (hq _))))
end
end Mine
end

-- part R20
section
open PySem PySem.W PySem.W.X PySem.Calls PyProof.Rows
set_option maxRecDepth 100000
set_option linter.unusedVariables false
set_option maxHeartbeats 1000000
namespace Mine
section
variable {prog : Program} {w : World} {A : Around} {E : Value → Shared → Prop} {env : Env} {m mg mb : Str → Option Value} {s₀ h : Heap} {g : Array GenState} {d : Drawn} {tk : Nat} {os : OsState}
theorem stand_loop {R : Result → Shared → Prop} {q1 q2 q3 : Pos} {I : Addr} {fp wr : List Addr} {xs ys : Array Value} {l r : List Int} {v1 v2 : Value} {St : Nat → Heap → Prop} {Mid : Nat → Addr → Heap → Prop} (e : SE env) (hh : A.handled = none)
    (W : WalksT prog w A I fp wr (min xs.size ys.size) (fun i vals => ∃ x y, xs[i]? = some x ∧ ys[i]? = some y ∧ vals = #[x, y]) St Mid)
    (hx : IntsAt l xs.toList) (hy : IntsAt r ys.toList) (hL : env.locals ∉ fp) (hLs : s₀.get? env.locals = none) (hw : ∀ b ∈ wr, s₀.get? b = none)
    (hns : h.Ns env.locals m) (h1 : m "left" = some v1) (h2 : m "right" = some v2) (hst : St 0 h) (k0 : Kpt s₀ h)
    (hret : ∀ v h' tk', Kpt s₀ h' → StandV h' v (standL l r) → R (.ok (.ret v)) ⟨h', g, d, tk', os⟩)
    (hend : ∀ h' tk' m', Kpt s₀ h' → (∀ b o, b ∉ wr → b ≠ env.locals → h.get? b = some o → h'.get? b = some o) → h'.Ns env.locals m' → m' "left" = some v1 → m' "right" = some v2 → standL l r = some (decide (l.length ≤ r.length), decide (r.length ≤ l.length)) → R (.ok .next) ⟨h', g, d, tk', os⟩) :
    codeAny (model prog w) A (.forLoop (.Tuple [.Name "a" q1, .Name "b" q2] 0 q3) (.ref I) (turnB sP) [] env) R ⟨h, g, d, tk, os⟩ := by
  obtain ⟨zx, gx⟩ := ints_get hx
  obtain ⟨zy, gy⟩ := ints_get hy
  have hLw : env.locals ∉ wr := fun q => hL (W.sub _ q)
  refine codeAny_forLoop_any (fun n s' => ∃ h' tk' m' i, s' = ⟨h', g, d, tk', os⟩ ∧ St i h' ∧ h'.Ns env.locals m' ∧ m' "left" = some v1 ∧ m' "right" = some v2 ∧ Kpt s₀ h' ∧ (∀ b o, b ∉ wr → b ≠ env.locals → h.get? b = some o → h'.get? b = some o) ∧ standL (l.drop i) (r.drop i) = standL l r ∧ i ≤ min xs.size ys.size ∧ n = xs.size + 1 - i)
    ?turn (xs.size + 1) ⟨h, tk, m, 0, rfl, hst, hns, h1, h2, k0, fun _ _ _ _ eb => eb, rfl, Nat.zero_le _, rfl⟩
  rintro n s' ⟨h', tk', m', i, rfl, hst', hns', hm1, hm2, kk, ks, hstand, hi, rfl⟩
  by_cases hlt : i < min xs.size ys.size
  · refine W.item i _ _ _ hlt hst' fun T vals h1' tk1 hp hT hTup hMid k1 => ?_
    obtain ⟨x, y, hxi, hyi, rfl⟩ := hp
    obtain ⟨k, t, hk, rfl⟩ := gx i x hxi
    obtain ⟨z, u, hz, rfl⟩ := gy i y hyi
    refine W.go _ _ _ i T _ _ _ hMid fun h2' hst2 k2 => ?_
    have hTw := W.apart i T _ hMid
    have hTup2 : h2'.IsTuple T #[.int k t, .int z u] := (by obtain ⟨o, eo, r⟩ := hTup; exact ⟨o, k2 _ _ hTw eo, r⟩)
    have hns2 : h2'.Ns env.locals m' := (hns'.at' fun o eo => k1 _ _ hLw eo).at' fun o eo => k2 _ _ hLw eo
    have kk2 : Kpt s₀ h2' := fun b o eb => k2 b o (fun q => by rw [hw b q] at eb; cases eb) (k1 b o (fun q => by rw [hw b q] at eb; cases eb) (kk b o eb))
    refine wpAny_assign_Tuple (s := ⟨h2', g, d, tk1, os⟩) hh hTup2 rfl rfl fun h3 ex3 => ?_
    have k3 : Kpt h2' h3 := fun b o eb => ex3 b o (Nat.ne_of_lt (Heap.lt_size eb)) eb
    refine wpAny_assignInOrder_more (wpAny_assign_Name (st (s := ⟨h3, g, d, tk1, os⟩) e (by decide) (hns2.keeps k3) fun h4 tk4 hns4 sb4 => ?_))
    refine wpAny_assignInOrder_more (wpAny_assign_Name (st (s := ⟨h4, g, d, tk4, os⟩) e (by decide) hns4 fun h5 tk5 hns5 sb5 => ?_))
    refine wpAny_assignInOrder_none ?_
    have up : ∀ b o, b ≠ env.locals → h2'.get? b = some o → h5.get? b = some o := fun b o hb eb => (sb5.2 b hb).trans ((sb4.2 b hb).trans (k3 b o eb))
    have kk5 : Kpt s₀ h5 := fun b o eb => up b o (fun q => by rw [q, hLs] at eb; cases eb) (kk2 b o eb)
    have ks5 : ∀ b o, b ∉ wr → b ≠ env.locals → h.get? b = some o → h5.get? b = some o := fun b o n1 n2 eb => up b o n2 (k2 b o n1 (k1 b o n1 (ks b o n1 n2 eb)))
    have hst5 : St (i + 1) h5 := W.frame _ _ _ hst2 fun b hb o eb => up b o (fun q => hL (q ▸ hb)) eb
    have hs := (standL_drop hk hz).symm.trans hstand
    refine turn_walk (s := ⟨h5, g, d, tk5, os⟩) (k := k) (l := z) e hns5 rfl rfl (fun hr tk6 => ?_) (fun hr hne v h6 tk6 k6 hv => ?_) (fun hr heq tk6 => ?_)
    · rw [standL_none hr] at hs
      exact hret _ h5 tk6 kk5 (by rw [← hs]; rfl)
    · rw [standL, if_neg (by rw [hr]; decide), if_pos hne] at hs
      exact hret v h6 tk6 (Kpt.trans kk5 k6) (by rw [← hs]; exact hv)
    · rw [standL_more hr heq] at hs
      exact ⟨xs.size + 1 - (i + 1), turn_lt (Nat.lt_of_lt_of_le hlt (Nat.min_le_left ..)), h5, tk6, _, i + 1, rfl, hst5, hns5, hm1, hm2, kk5, ks5, hs, hlt, rfl⟩
  · have hie : i = min xs.size ys.size := Nat.le_antisymm hi (Nat.not_lt.mp hlt)
    rw [hie] at hst'
    refine W.done _ _ _ hst' fun h1' tk1 k1 => wpAny_execs_nil ?_
    have hnil : l.drop i = [] ∨ r.drop i = [] := by
      rcases Nat.le_total xs.size ys.size with q | q
      · exact .inl (List.drop_eq_nil_iff.mpr (by rw [hie, Nat.min_eq_left q, zx]; exact Nat.le_refl _))
      · exact .inr (List.drop_eq_nil_iff.mpr (by rw [hie, Nat.min_eq_right q, zy]; exact Nat.le_refl _))
    rw [standL_end hnil] at hstand
    refine hend h1' tk1 m' (fun b o eb => k1 b o (fun q => by rw [hw b q] at eb; cases eb) (kk b o eb)) (fun b o n1 n2 eb => k1 b o n1 (ks b o n1 n2 eb)) (hns'.at' fun o eo => k1 _ _ hLw eo) hm1 hm2 (hstand.symm.trans ?_)
    have hil : i ≤ l.length := by rw [← zx]; exact Nat.le_trans hi (Nat.min_le_left ..)
    have hir : i ≤ r.length := by rw [← zy]; exact Nat.le_trans hi (Nat.min_le_right ..)
    rw [List.length_drop, List.length_drop]
    congr 2
    · exact decide_eq_decide.mpr (Nat.sub_le_sub_iff_right hir)
    · exact decide_eq_decide.mpr (Nat.sub_le_sub_iff_right hil)
end
end Mine
end

-- part R21
section
open PySem PySem.W PySem.W.X PySem.Calls PyProof.Rows
set_option maxRecDepth 100000
set_option linter.unusedVariables false
set_option maxHeartbeats 1000000
namespace Mine
section
variable {prog : Program} {w : World} {A : Around} {E : Value → Shared → Prop} {env : Env} {m mg mb : Str → Option Value} {s : Shared}
theorem zipApart (n : Nat) {l1 l2 : Addr} (h1 : l1 < n) (h2 : l2 < n) : ZipApart (n + 4) (n + 2) (n + 3) n (n + 1) l1 l2 := by
  have lt : ∀ {a b : Nat}, a < b → (a : Addr) ≠ b := fun h => Nat.ne_of_lt h
  have gt : ∀ {a b : Nat}, b < a → (a : Addr) ≠ b := fun h => Nat.ne_of_gt h
  have p : ∀ k, n < n + (k + 1) := fun k => Nat.lt_add_of_pos_right (Nat.succ_pos k)
  have c : ∀ {i j}, i < j → n + i < n + j := fun h => Nat.add_lt_add_left h n
  exact ⟨lt (c (by decide)), lt (c (by decide)), lt (p 3), lt (c (by decide)), lt (c (by decide)), gt (p 1), gt (c (by decide)), gt (p 2), gt (c (by decide)), lt (p 0),
    lt (Nat.lt_trans h1 (p 3)), lt (Nat.lt_trans h1 (p 2)), lt h1, lt (Nat.lt_trans h1 (p 0)), lt (Nat.lt_trans h2 (p 3)), lt (Nat.lt_trans h2 (p 2)), lt h2, lt (Nat.lt_trans h2 (p 0))⟩
theorem stand_call {kind y z : Int} {t u v : Tok} {Q : Value → Shared → Prop} (X : (hd.heap_39 w.params).In s.heap) (hl : s.heap.NoLimit) (hg : s.heap.Ns mainGlobals mg) (hb : s.heap.Ns builtinsNs mb) (N : BN mg mb) (hroom : A.depth + 1 < recursionLimit) (hh : A.handled = none)
    (hq : ∀ v h' tk', Kpt s.heap h' → StandV h' v (standOfK kind y z) → Q v { s with heap := h', toks := tk' }) :
    wpAny (model prog w) A (call (.ref 131) [.int kind t, .int y u, .int z v]) Q E s := by
  refine wpAny_call (codeAny_call_plain (binds := [("kind", .int kind t), ("y", .int y u), ("z", .int z v)]) (by omega) (X 131 _ rfl) rfl hl (codeRec_of X (by rfl)) rfl rfl (by decide) (locs rfl) fun h₀ hns keep => ?_)
  generalize hE : callEnv _ s.heap.objs.size 131 = env
  have e : SE env := by
    subst hE
    refine ⟨rfl, fun n hn => ?_, fun n hn => ?_, rfl, rfl⟩
    · simp only [sLoc, List.mem_cons, List.not_mem_nil, or_false] at hn
      rcases hn with rfl | rfl | rfl | rfl | rfl | rfl | rfl <;> rfl
    · simp only [List.mem_cons, List.not_mem_nil, or_false] at hn
      rcases hn with rfl | rfl | rfl <;> rfl
  have eL : env.locals = s.heap.objs.size := by subst hE; rfl
  rw [← eL] at hns
  clear hE
  obtain ⟨h, g, d, tk, os⟩ := s
  dsimp only at X hl hg hb hq hns keep eL ⊢
  have X₀ : (hd.heap_39 w.params).In h₀ := fun a o ea => keep _ _ (X a o ea)
  have n3 : ∀ {v : Value} {h' : Heap} {tk' : Nat}, Kpt h₀ h' → StandV h' v (standOfK kind y z) → Q v ⟨h', g, d, tk', os⟩ := fun k hv => hq _ _ _ (Kpt.trans keep k) hv
  refine wpAny_execs_cons (wpAny_If (wpAny_isTrue_Compare1 (ld (s := ⟨h₀, g, d, _, os⟩) e (by decide) hns rfl (wpAny_Constant_int (PyProof.Rows.eq_int (wpAny_truthy_bool ?_))))))
  by_cases c0 : kind = 0
  · rw [if_pos (by simpa using c0)]
    have hs : standOfK kind y z = some (decide (y ≤ z), decide (z ≤ y)) := if_pos c0
    rw [hs] at n3
    refine wpAny_execs_cons (wpAny_Return_some (two_bools (b1 := decide (y ≤ z)) (b2 := decide (z ≤ y)) rfl ?_ ?_ fun v h' tk' k hv => n3 k hv))
    · intro Q' E' s' eh hq'
      obtain ⟨h', g', d', tk', os'⟩ := s'
      obtain rfl : h' = h₀ := eh
      exact wpAny_Compare1 (ld (s := ⟨h', g', d', _, os'⟩) e (by decide) hns rfl (ld (s := ⟨h', g', d', _, os'⟩) e (by decide) hns rfl (le_int (hq' _))))
    · intro Q' E' s' eh hq'
      obtain ⟨h', g', d', tk', os'⟩ := s'
      obtain rfl : h' = h₀ := eh
      exact wpAny_Compare1 (ld (s := ⟨h', g', d', _, os'⟩) e (by decide) hns rfl (ld (s := ⟨h', g', d', _, os'⟩) e (by decide) hns rfl (ge_int (hq' _))))
  rw [if_neg (by simpa using c0)]
  refine wpAny_execs_nil (wpAny_execs_cons (wpAny_If (wpAny_isTrue_Compare1 (ld (s := ⟨h₀, g, d, _, os⟩) e (by decide) hns rfl (wpAny_Constant_int (PyProof.Rows.eq_int (wpAny_truthy_bool ?_)))))))
  by_cases c4 : kind = 4
  · rw [if_pos (by simpa using c4)]
    have hs : standOfK kind y z = some (subS y z, subS z y) := (if_neg c0).trans (if_pos c4)
    rw [hs] at n3
    refine wpAny_execs_cons (wpAny_Return_some (two_bools (b1 := subS y z) (b2 := subS z y) rfl ?_ ?_ fun v h' tk' k hv => n3 k hv))
    · intro Q' E' s' eh hq'
      obtain ⟨h', g', d', tk', os'⟩ := s'
      obtain rfl : h' = h₀ := eh
      exact wpAny_Compare1 (wpAny_BinOp (wpAny_BinOp (ld (s := ⟨h', g', d', _, os'⟩) e (by decide) hns rfl (wpAny_UnaryOp (ld (s := ⟨h', g', d', _, os'⟩) e (by decide) hns rfl (invert_int (and_int (wpAny_Constant_int (mod_int' (by decide) (wpAny_Constant_int (PyProof.Rows.eq_int (hq' _))))))))))))
    · intro Q' E' s' eh hq'
      obtain ⟨h', g', d', tk', os'⟩ := s'
      obtain rfl : h' = h₀ := eh
      exact wpAny_Compare1 (wpAny_BinOp (wpAny_BinOp (ld (s := ⟨h', g', d', _, os'⟩) e (by decide) hns rfl (wpAny_UnaryOp (ld (s := ⟨h', g', d', _, os'⟩) e (by decide) hns rfl (invert_int (and_int (wpAny_Constant_int (mod_int' (by decide) (wpAny_Constant_int (PyProof.Rows.eq_int (hq' _))))))))))))
  rw [if_neg (by simpa using c4)]
  have hs : standOfK kind y z = standL (if kind = 1 then [y] else rowOf y) (if kind = 1 then [z] else rowOf z) := by
    unfold standOfK
    rw [if_neg c0, if_neg c4]
    by_cases c1 : kind = 1
    · rw [if_pos c1, if_pos c1, if_pos c1]
    · rw [if_neg c1, if_neg c1, if_neg c1]
  rw [hs] at hq
  clear hs n3
  have dd : (A.deeper env).depth < recursionLimit := hroom
  have dh : (A.deeper env).handled = none := hh
  have nL : h.get? env.locals = none := by rw [eL]; exact Heap.get?_none_of_le (Nat.le_refl _)
  generalize hl1 : (if kind = 1 then [y] else rowOf y) = l1 at hq
  generalize hl2 : (if kind = 1 then [z] else rowOf z) = l2 at hq
  refine wpAny_execs_nil (wpAny_execs_cons (wpAny_Assign_Name (side_eval (s := ⟨h₀, g, d, _, os⟩) e (.inl rfl) X₀ (NoLimit.keeps hl keep) (hg.keeps keep) dd hns rfl rfl fun D1 h1 tk1 xs k1 nD1 eD1 ix => ?_)))
  rw [hl1] at ix
  refine st (s := ⟨h1, g, d, tk1, os⟩) e (by decide) (hns.keeps k1) fun h2 tk2 hns2 sb2 => ?_
  have K2 : Kpt h h2 := fun b o eb => (sb2.2 b (fun q => by rw [q, nL] at eb; cases eb)).trans (k1 _ _ (keep _ _ eb))
  have nd1 : D1 ≠ env.locals := fun q => by obtain ⟨o, _, _, eo, _⟩ := hns; rw [← q] at eo; rw [show h₀.get? D1 = none from nD1] at eo; cases eo
  refine wpAny_execs_cons (wpAny_Assign_Name (side_eval (s := ⟨h2, g, d, tk2, os⟩) e (.inr rfl) (fun a o ea => K2 _ _ (X a o ea)) (NoLimit.keeps hl K2) (hg.keeps K2) dd hns2 rfl rfl fun D2 h3 tk3 ys k3 nD2 eD2 iy => ?_))
  rw [hl2] at iy
  refine st (s := ⟨h3, g, d, tk3, os⟩) e (by decide) (hns2.keeps k3) fun h4 tk4 hns4 sb4 => ?_
  have K4 : Kpt h h4 := fun b o eb => (sb4.2 b (fun q => by rw [q, nL] at eb; cases eb)).trans (k3 _ _ (K2 _ _ eb))
  have nd2 : D2 ≠ env.locals := fun q => by obtain ⟨o, _, _, eo, _⟩ := hns2; rw [← q] at eo; rw [show h2.get? D2 = none from nD2] at eo; cases eo
  have L1 : h4.IsList D1 xs := ⟨_, (sb4.2 _ nd1).trans (k3 _ _ ((sb2.2 _ nd1).trans eD1)), rfl, _, rfl⟩
  have L2 : h4.IsList D2 ys := ⟨_, (sb4.2 _ nd2).trans eD2, rfl, _, rfl⟩
  have z1 : xs.size = l1.length := (ints_get ix).1
  have z2 : ys.size = l2.length := (ints_get iy).1
  have small : ∀ k, (if kind = 1 then [k] else rowOf k).length ≤ 3 := fun k => by
    by_cases c : kind = 1
    · rw [if_pos c]; exact (by decide : 1 ≤ 3)
    · rw [if_neg c]; unfold rowOf; rw [List.length_take]; exact Nat.min_le_right _ _
  have s1 := hl1 ▸ small y
  have s2 := hl2 ▸ small z
  refine wpAny_execs_cons (wpAny_For (wpAny_Call_NameR (Name_function_global e.hk (e.glo _ (by decide)) (loadGlobal_builtin (by rw [e.eg]; exact hg.keeps K4) (N.ty "zip" (by decide)).1 (by rw [e.eb]; exact hb.keeps K4) (N.ty "zip" (by decide)).2 ?_))))
  refine PySem.callWith_type rfl (evalArgs_plain (spliced_cons (ld (s := ⟨h4, g, d, _, os⟩) e (by decide) hns4 rfl (spliced_cons (ld (s := ⟨h4, g, d, _, os⟩) e (by decide) hns4 rfl (spliced_nil ?_))))))
  refine call_zip_2 (s := ⟨h4, g, d, _, os⟩) L1 L2 fun h5 hz hTI hTO hi1 hi2 hsz k5 => ?_
  refine wpAny_pyIter_zip hz ?_
  have lt1 : D1 < h4.objs.size := (by obtain ⟨o, eo, _⟩ := L1; exact Heap.lt_size eo)
  have lt2 : D2 < h4.objs.size := (by obtain ⟨o, eo, _⟩ := L2; exact Heap.lt_size eo)
  have ltL : env.locals < h4.objs.size := hns4.lt
  have ne : ∀ (b : Addr) (j : Nat), b < h4.objs.size → b ≠ h4.objs.size + j := fun b j hb => Nat.ne_of_lt (Nat.lt_of_lt_of_le hb (Nat.le_add_right _ _))
  have up : ∀ {l : Addr} {v : Array Value}, h4.IsList l v → h5.IsList l v := fun hL => hL.at fun o eo => k5 _ _ eo
  refine stand_loop (s₀ := h) (St := _) (Mid := _) e dh (WalksT.zip2 dh _ _ _ _ _ D1 D2 (zipApart h4.objs.size lt1 lt2) xs ys) ix iy ?_ nL ?_ (hns4.keeps k5) rfl rfl ⟨hz, hTI, ⟨_, _, hTO⟩, hi1, hi2, up L1, up L2⟩ (Kpt.trans K4 k5) ?_ ?_
  · simp only [List.mem_cons, List.not_mem_nil, or_false, not_or]
    exact ⟨ne _ 4 ltL, ne _ 2 ltL, ne _ 3 ltL, ne _ 0 ltL, ne _ 1 ltL, fun q => nd1 q.symm, fun q => nd2 q.symm⟩
  · intro b hb
    cases q : h.get? b with
    | none => rfl
    | some o =>
      have lb := Heap.lt_size (K4 b o q)
      simp only [List.mem_cons, List.not_mem_nil, or_false] at hb
      rcases hb with hb | hb | hb | hb
      · exact absurd hb (ne _ 4 lb)
      · exact absurd hb (ne _ 3 lb)
      · exact absurd hb (ne _ 0 lb)
      · exact absurd hb (ne _ 1 lb)
  · exact fun v h' tk' k hv => hq v h' tk' k hv
  · intro h6 tk6 m6 K6 ks6 hns6 hm1 hm2 hend
    rw [hend] at hq
    have keepL : ∀ {l : Addr} {v : Array Value}, l ≠ env.locals → h5.IsList l v → l < h4.objs.size → h6.IsList l v := fun nl hL lt => hL.at fun o eo => ks6 _ _ (by
      simp only [List.mem_cons, List.not_mem_nil, or_false, not_or]
      exact ⟨ne _ 4 lt, ne _ 3 lt, ne _ 0 lt, ne _ 1 lt⟩) nl eo
    have M1 := keepL nd1 (up L1) lt1
    have M2 := keepL nd2 (up L2) lt2
    have g6 := hg.keeps K6
    have b6 := hb.keeps K6
    have sz : ∀ {l : List Int} {v : Array Value}, v.size = l.length → l.length ≤ 3 → (v.size : Int) < 2 ^ 63 := fun e1 e2 => nat_fit (Nat.le_trans (e1 ▸ e2) (by decide))
    have d1 : decide ((xs.size : Int) ≤ (ys.size : Int)) = decide (l1.length ≤ l2.length) := decide_eq_decide.mpr (by rw [z1, z2]; exact Int.ofNat_le)
    have d2 : decide ((ys.size : Int) ≤ (xs.size : Int)) = decide (l2.length ≤ l1.length) := decide_eq_decide.mpr (by rw [z1, z2]; exact Int.ofNat_le)
    have len : ∀ {n : Str} {p1 p2 p3 : Pos} {l : Addr} {v : Array Value} {Q' E' : Value → Shared → Prop} {g : Array GenState} {d : Drawn} {tk : Nat} {os : OsState}, n ∈ sLoc → (n == ("__debug__" : Str)) = false → m6 n = some (.ref l) → h6.IsList l v → (v.size : Int) < 2 ^ 63 → (∀ t tk', Q' (.int v.size t) ⟨h6, g, d, tk', os⟩) →
        wpAny (model prog w) (A.deeper env) (eval (.Call (.Name "len" p1) [.Name n p2] [] p3) env) Q' E' ⟨h6, g, d, tk, os⟩ := by
      intro n p1 p2 p3 l v Q' E' g d tk os hn hnd hm hL hz hq'
      refine wpAny_Call_Name_kw (Name_function_global e.hk (e.glo _ (by decide)) (loadGlobal_builtin (by rw [e.eg]; exact g6) (N.fn "len" (by decide)).1 (by rw [e.eb]; exact b6) (N.fn "len" (by decide)).2 ?_))
      refine callWith_builtin rfl (evalArgs_plain (spliced_cons (ld (s := ⟨h6, g, d, _, os⟩) e hn hns6 hm (spliced_nil (call_len_list (s := ⟨h6, g, d, _, os⟩) hL hz (hq' _ _))) hnd)))
    refine wpAny_execs_cons (wpAny_Return_some (two_bools (s := ⟨h6, g, d, tk6, os⟩) (b1 := decide (l1.length ≤ l2.length)) (b2 := decide (l2.length ≤ l1.length)) rfl ?_ ?_ fun v h' tk' k hv => hq v h' tk' (Kpt.trans K6 k) hv))
    · intro Q' E' s' eh hq'
      obtain ⟨h', g', d', tk', os'⟩ := s'
      obtain rfl : h' = h6 := eh
      rw [← d1] at hq'
      exact wpAny_Compare1 (len (by decide) (by decide) hm1 M1 (sz z1 s1) fun t1 tk1 => len (by decide) (by decide) hm2 M2 (sz z2 s2) fun t2 tk2 => le_int (hq' _))
    · intro Q' E' s' eh hq'
      obtain ⟨h', g', d', tk', os'⟩ := s'
      obtain rfl : h' = h6 := eh
      rw [← d2] at hq'
      exact wpAny_Compare1 (len (by decide) (by decide) hm1 M1 (sz z1 s1) fun t1 tk1 => len (by decide) (by decide) hm2 M2 (sz z2 s2) fun t2 tk2 => ge_int (hq' _))
end
end Mine
end

-- part RQ2
section
open PySem PySem.W PySem.W.X PySem.Calls PyProof.Rows
set_option maxRecDepth 100000
set_option maxHeartbeats 4000000
namespace Mine
theorem swaps_local {env : Env} {y : Str} {py p : Pos} {l : Nat} {a : Expr} {b : List Comprehension} {sc : Scope} (hk : env.scope.kind = .function) (h : env.kindOf y = some .local) (hp : (py.line == p.line) = true) (hn : (sc.names.any fun (n, k) => n == y && (k == .local || k == .cell)) = false) :
    swapsWith (.ListComp a b sc p) (some (.Name y py)) l env = pure true := by
  have e : swapsWith (.ListComp a b sc p) (some (.Name y py)) l env = (pure (env.blockKind == .function && env.kindOf y == some .local && py.line == p.line && !(sc.names.any fun (n, k) => n == y && (k == .local || k == .cell))) : Sem Bool) := rfl
  rw [e, hn, h, hp]
  unfold Env.blockKind
  rw [hk]
  rfl
noncomputable def closFrom (cells : List (Str × Addr)) : List (Str × NameKind) → List (Str × Addr) → List (Str × Addr)
  | [], acc => acc
  | (n, k) :: r, acc => closFrom cells r (if k == .free then (n, (cells.lookup n).getD 0) :: acc else acc)
theorem closure_fold {env : Env} : ∀ (names : List (Str × NameKind)) (acc : List (Str × Addr)), (∀ x ∈ names, x.2 = .free → ∃ c, env.cells.lookup x.1 = some c) →
    (forIn names acc fun (x : Str × NameKind) (cs : List (Str × Addr)) => (if x.2 == .free then (do let c ← cellOf env x.1; pure (ForInStep.yield ((x.1, c) :: cs))) else pure (ForInStep.yield cs) : Sem (ForInStep (List (Str × Addr))))) = pure (closFrom env.cells names acc)
  | [], acc, _ => by rw [List.forIn_nil]; rfl
  | (n, k) :: r, acc, h => by
    rw [List.forIn_cons]
    unfold closFrom
    cases hk : k == .free with
    | true =>
      obtain ⟨c, hc⟩ := h (n, k) (.head _) (by simpa using hk)
      simp only [if_true, cellOf, hc, pure_bind, hk, Option.getD_some]
      exact closure_fold r _ fun x hx => h x (.tail _ hx)
    | false =>
      simp only [hk, Bool.false_eq_true, if_false, pure_bind]
      exact closure_fold r _ fun x hx => h x (.tail _ hx)
theorem closure_gen {env : Env} {scope : Scope} (h : ∀ x ∈ scope.names, x.2 = .free → ∃ c, env.cells.lookup x.1 = some c) : closureFor scope env = pure (closFrom env.cells scope.names []) := by
  unfold closureFor
  have := closure_fold (env := env) scope.names [] h
  exact (congrArg (· >>= pure) this).trans (pure_bind _ _)
section
variable {prog : Program} {w : World} {A : Around} {R : Result → Shared → Prop} {s : Shared}
theorem compLoop_any {elt target iter : Expr} {ifs : List Expr} {scope : Scope} {pos : Pos} {it acc : Value} {env : Env} (I : Nat → Shared → Prop)
    (turn : ∀ n s, I n s → wpAny (model prog w) A (pyNext it) (fun r s₁ => match r with
      | none => R (.ok .next) s₁
      | some v => wpAny (model prog w) A (letOwnedTupleGo target it v) (fun _ s₁' => wpAny (model prog w) A (assign target env v) (fun _ s₂ =>
          wpAny (model prog w) A (forIn ifs true fun c r => if r = true then do let ok ← isTrue c env (eval c env); pure (ForInStep.yield ok) else pure (ForInStep.yield r)) (fun ok s₃ =>
            if ok = true then wpAny (model prog w) A (eval elt env) (fun x s₄ =>
              wpAny (model prog w) A (call (.builtin "list.append") [acc, x]) (fun _ s₅ => ∃ m, m < n ∧ I m s₅) (notedBy (model prog w) A env fun e s' => R (.error e) s') s₄) (notedBy (model prog w) A env fun e s' => R (.error e) s') s₃
            else ∃ m, m < n ∧ I m s₃) (notedBy (model prog w) A env fun e s' => R (.error e) s') s₂) (notedBy (model prog w) A env fun e s' => R (.error e) s') s₁') (notedBy (model prog w) A env fun e s' => R (.error e) s') s₁) (notedBy (model prog w) A env fun e s' => R (.error e) s') s)
    (n : Nat) (h : I n s) : codeAny (model prog w) A (.compLoop (.ListComp elt [⟨target, iter, ifs, 0⟩] scope pos) 0 it acc env) R s := by
  refine codeAny_loop rfl I (fun n s hI => ?_) n h
  show wpAny _ A ((compTurn (.ListComp elt [⟨target, iter, ifs, 0⟩] scope pos) 0 it acc env).onRaise (fun x => do noteFrame x env; theTreesLotGoes x)) _ _ s
  refine wpAny_noted ?_
  rw [compTurn_list]
  refine wpAny_bind (wpAny_standAt (wpAny_bind (wpAny_mono (turn n s hI) (fun r s₁ h₁ => ?_) fun _ _ h' => h')))
  cases r with
  | none => exact wpAny_pure h₁
  | some v =>
    refine wpAny_bind (wpAny_mono h₁ (fun _ s₁' h₁' => ?_) fun _ _ h' => h')
    refine wpAny_bind (wpAny_mono h₁' (fun _ s₂ h₂ => wpAny_bind (wpAny_mono h₂ (fun ok s₃ h₃ => ?_) fun _ _ h' => h')) fun _ _ h' => h')
    cases ok with
    | false => exact wpAny_pure ⟨rfl, h₃⟩
    | true =>
      exact wpAny_bind (wpAny_bind (wpAny_mono h₃ (fun x s₄ h₄ => wpAny_bind (wpAny_mono h₄ (fun _ s₅ h₅ => wpAny_pure (wpAny_pure ⟨rfl, h₅⟩)) fun _ _ h' => h')) fun _ _ h' => h'))
end
theorem comp_plain {scope : Scope} {cl : List (Str × Addr)} {C : Addr} {env : Env} (hk : scope.kind = .function) : ((compEnvC scope cl C env).scope.kind == .class || ((compEnvC scope cl C env).scope.kind == .module && (compEnvC scope cl C env).locals != (compEnvC scope cl C env).globals)) = false := by
  have : (compEnvC scope cl C env).scope.kind = .function := hk
  rw [this]; rfl
end Mine
end

-- part R22
section
open PySem PySem.W PySem.W.X PySem.Calls PyProof.Rows
set_option maxRecDepth 100000
set_option linter.unusedVariables false
set_option maxHeartbeats 1000000
namespace Mine
section
variable {prog : Program} {w : World} {A : Around} {R : Result → Shared → Prop} {E : Value → Shared → Prop} {s : Shared} {env : Env}
theorem setLoop_any {elt target iter : Expr} {ifs : List Expr} {scope : Scope} {pos : Pos} {it acc : Value} (I : Nat → Shared → Prop)
    (turn : ∀ n s, I n s → wpAny (model prog w) A (pyNext it) (fun r s₁ => match r with
      | none => R (.ok .next) s₁
      | some v => wpAny (model prog w) A (letOwnedTupleGo target it v) (fun _ s₁' => wpAny (model prog w) A (assign target env v) (fun _ s₂ =>
          wpAny (model prog w) A (forIn ifs true fun c r => if r = true then do let ok ← isTrue c env (eval c env); pure (ForInStep.yield ok) else pure (ForInStep.yield r)) (fun ok s₃ =>
            if ok = true then wpAny (model prog w) A (eval elt env) (fun x s₄ =>
              wpAny (model prog w) A (call (.builtin "set.add") [acc, x]) (fun _ s₅ => ∃ m, m < n ∧ I m s₅) (notedBy (model prog w) A env fun e s' => R (.error e) s') s₄) (notedBy (model prog w) A env fun e s' => R (.error e) s') s₃
            else ∃ m, m < n ∧ I m s₃) (notedBy (model prog w) A env fun e s' => R (.error e) s') s₂) (notedBy (model prog w) A env fun e s' => R (.error e) s') s₁') (notedBy (model prog w) A env fun e s' => R (.error e) s') s₁) (notedBy (model prog w) A env fun e s' => R (.error e) s') s)
    (n : Nat) (h : I n s) : codeAny (model prog w) A (.compLoop (.SetComp elt [⟨target, iter, ifs, 0⟩] scope pos) 0 it acc env) R s := by
  refine codeAny_loop rfl I (fun n s hI => ?_) n h
  show wpAny _ A ((compTurn (.SetComp elt [⟨target, iter, ifs, 0⟩] scope pos) 0 it acc env).onRaise (fun x => do noteFrame x env; theTreesLotGoes x)) _ _ s
  refine wpAny_noted ?_
  show wpAny _ A (standAt iter.pos >>= fun _ => pyNext it >>= _) _ _ s
  refine wpAny_bind (wpAny_standAt (wpAny_bind (wpAny_mono (turn n s hI) (fun r s₁ h₁ => ?_) fun _ _ h' => h')))
  cases r with
  | none => exact wpAny_pure h₁
  | some v =>
    refine wpAny_bind (wpAny_mono h₁ (fun _ s₁' h₁' => ?_) fun _ _ h' => h')
    refine wpAny_bind (wpAny_mono h₁' (fun _ s₂ h₂ => wpAny_bind (wpAny_mono h₂ (fun ok s₃ h₃ => ?_) fun _ _ h' => h')) fun _ _ h' => h')
    cases ok with
    | false => exact wpAny_pure ⟨rfl, h₃⟩
    | true =>
      exact wpAny_bind (wpAny_bind (wpAny_mono h₃ (fun x s₄ h₄ => wpAny_bind (wpAny_standAt (wpAny_bind (wpAny_mono h₄ (fun _ s₅ h₅ => wpAny_pure (wpAny_pure ⟨rfl, h₅⟩)) fun _ _ h' => h')))) fun _ _ h' => h'))
theorem compStart_set {elt target iter : Expr} {ifs : List Expr} {scope : Scope} {pos : Pos} {it acc : Value}
    (h0 : codeAny (model prog w) A (.compLoop (.SetComp elt [⟨target, iter, ifs, 0⟩] scope pos) 0 it acc env) R s)
    (h : wpAny (model prog w) A (pyIter it) (fun it' s' => codeAny (model prog w) A (.compLoop (.SetComp elt [⟨target, iter, ifs, 0⟩] scope pos) 0 it' acc env) R s') (notedBy (model prog w) A env fun x s' => R (.error x) s') s) :
    codeAny (model prog w) A (.compStart (.SetComp elt [⟨target, iter, ifs, 0⟩] scope pos) 0 it acc env) R s := by
  refine codeAny_of_tree ?_
  show wpAny _ _ ((compStart (.SetComp elt [⟨target, iter, ifs, 0⟩] scope pos) 0 it acc env).onRaise (fun x => do noteFrame x env; standAt theWindowsPlace)) _ _ s
  refine wpAny_notedAt ?_
  unfold compStart
  refine wpAny_bind (wpAny_askSetting ?_)
  refine wpAny_ite ?_
  split
  · exact wpAny_pure ⟨rfl, h0⟩
  · refine wpAny_bind (wpAny_rule ?_)
    show wpAny _ _ (standAt iter.pos >>= _) _ _ s
    exact wpAny_bind (wpAny_standAt (wpAny_bind (wpAny_mono h (fun it' s' h' => wpAny_pure (And.intro rfl h')) fun _ _ x => x)))
end
end Mine
end

-- part R23
section
open PySem PySem.W PySem.W.X PySem.Calls PyProof.Rows
set_option maxRecDepth 100000
set_option linter.unusedVariables false
set_option maxHeartbeats 1000000
namespace Mine
noncomputable abbrev emptyL : Obj := { cls := .type "list", dict := none, data := .seq ([] : List Value).toArray }
noncomputable abbrev kyScope : Scope := { kind := .function, names := [(".0", .local), ("t", .local), ("make", .free)], isGenerator := false, isCoroutine := false, more := [] }
/-- of the objects that are a key's -/
noncomputable abbrev OfKey (o : Obj) : Prop := o.data = .plain ∨ o.data = .dict #[] 0
theorem InstK.off {h h' : Heap} {a : KA} {x : Addr} {v : Value} (i : InstK h a x v) (k : ∀ b o, OfKey o → h.get? b = some o → h'.get? b = some o) : InstK h' a x v := by
  obtain ⟨dx, p, q⟩ := i
  exact ⟨dx, k _ _ (.inl rfl) p, k _ _ (.inr rfl) q⟩
theorem KeysAt.off {h h' : Heap} {a : KA} {ks : List Int} {ys : List Value} (i : KeysAt h a ks ys) (k : ∀ b o, OfKey o → h.get? b = some o → h'.get? b = some o) : KeysAt h' a ks ys := by
  induction i with
  | nil => exact .nil
  | cons x _ ih => obtain ⟨x, t, e, i⟩ := x; exact .cons ⟨x, t, e, i.off k⟩ ih
theorem ns_notkey {h : Heap} {L : Addr} {m : Str → Option Value} {n : Str} {v : Value} {o : Obj} (x : h.Ns L m) (hm : m n = some v) (e : h.get? L = some o) : ¬ OfKey o := by
  obtain ⟨o', es, ep, e', d, _, f⟩ := x
  rw [e'] at e; cases e
  rintro (q | q)
  · rw [d] at q; cases q
  · rw [d] at q
    have q' : es = #[] := by injection q
    subst q'
    rw [← f] at hm
    cases hm
theorem closure_make {env : Env} {c : Addr} (h : env.cells.lookup ("make" : Str) = some c) : closureFor kyScope env = pure ([("make", c)] : List (Str × Addr)) := by
  refine (closure_gen fun x hx hf => ?_).trans ?_
  · simp only [List.mem_cons, List.not_mem_nil, or_false] at hx
    rcases hx with rfl | rfl | rfl <;> first | (cases hf; done) | exact ⟨c, h⟩
  · show pure ([("make", (env.cells.lookup ("make" : Str)).getD 0)] : List (Str × Addr)) = _
    rw [h]; rfl
section
variable {prog : Program} {w : World} {A : Around} {E : Value → Shared → Prop} {env : Env} {m : Str → Option Value}
/-- keys = [make(t) for t in ..] -/
theorem comp_keys {s : Shared} {a : KA} {c : Addr} {ks : List Int} {Q : Flow → Shared → Prop} (hh : A.handled = none) (hd : A.depth + 3 < recursionLimit) (hk : env.scope.kind = .function) (hky : env.kindOf "keys" = some .local) (hmk : env.kindOf "make" = some .cell) (hc : env.cells.lookup ("make" : Str) = some c) (hcL : c ≠ env.locals)
    (hpl : ((⟨101, 4, 101, 8⟩ : Pos).line == (⟨101, 11, 101, 41⟩ : Pos).line) = true) {nb : Str} {vb : Value} (hmb : m nb = some vb)
    (h : wpAny (model prog w) A (eval (.Call (.Name "_law_row" ⟨101, 29, 101, 37⟩) [.Name "y" ⟨101, 38, 101, 39⟩] [] ⟨101, 29, 101, 40⟩) env) (fun xv s₁ => ∃ l xs, xv = .ref l ∧ s₁.heap.IsList l xs ∧ IntsAt ks xs.toList ∧ s₁.heap.Ns env.locals m ∧ s₁.heap.IsCell c (some (.ref a.C)) ∧ KAt s₁.heap a ∧ InitAt s₁.heap a.fi ∧ s₁.heap.NoLimit ∧
      ∀ D h' tk' ys, (∀ b o, b ≠ env.locals → s₁.heap.get? b = some o → h'.get? b = some o) → h'.Ns env.locals (upd m "keys" (.ref D)) → IsL h' "list" D ys → KeysAt h' a ks ys.toList → Q .next { s₁ with heap := h', toks := tk' }) E s)
    (hs : ∀ x, foldedSetIterable (.Call (.Name "_law_row" ⟨101, 29, 101, 37⟩) [.Name "y" ⟨101, 38, 101, 39⟩] [] ⟨101, 29, 101, 40⟩) env x = pure x := by intro _; rfl) (hzk : ks.length ≤ 1000) (hk0 : ks.length ≠ 0) :
    wpAny (model prog w) A (exec (.Assign [.Name "keys" (⟨101, 4, 101, 8⟩ : Pos)] (.ListComp (.Call (.Name "make" (⟨101, 12, 101, 16⟩ : Pos)) [.Name "t" (⟨101, 17, 101, 18⟩ : Pos)] [] (⟨101, 12, 101, 19⟩ : Pos)) [⟨.Name "t" (⟨101, 24, 101, 25⟩ : Pos), (.Call (.Name "_law_row" ⟨101, 29, 101, 37⟩) [.Name "y" ⟨101, 38, 101, 39⟩] [] ⟨101, 29, 101, 40⟩), [], 0⟩] kyScope (⟨101, 11, 101, 41⟩ : Pos)) (⟨101, 4, 101, 41⟩ : Pos)) env) Q E s := by
  rw [exec_Assign_Name_used _ _ _ _ (swaps_local hk hky hpl (by decide))]
  refine wpAny_bind (wpAny_standAt (wpAny_bind ?_))
  show wpAny _ A (do let _ ← comprehension (.ListComp (.Call (.Name "make" (⟨101, 12, 101, 16⟩ : Pos)) [.Name "t" (⟨101, 17, 101, 18⟩ : Pos)] [] (⟨101, 12, 101, 19⟩ : Pos)) [⟨.Name "t" (⟨101, 24, 101, 25⟩ : Pos), (.Call (.Name "_law_row" ⟨101, 29, 101, 37⟩) [.Name "y" ⟨101, 38, 101, 39⟩] [] ⟨101, 29, 101, 40⟩), [], 0⟩] kyScope (⟨101, 11, 101, 41⟩ : Pos)) kyScope env _ (newList []) false (eval (.Call (.Name "_law_row" ⟨101, 29, 101, 37⟩) [.Name "y" ⟨101, 38, 101, 39⟩] [] ⟨101, 29, 101, 40⟩) env) (some (assign (.Name "keys" (⟨101, 4, 101, 8⟩ : Pos)) env))) _ _ s
  refine wpAny_bind (wpAny_mono (wpAny_comprehension_free (use := some (assign (.Name "keys" (⟨101, 4, 101, 8⟩ : Pos)) env)) (Q := fun _ s' => Q .next s') rfl hs (closure_make hc) rfl
    (by intro y hy; simp only [List.mem_cons, List.not_mem_nil, or_false] at hy; rcases hy with rfl | rfl | rfl <;> intro z <;> first | rfl | cases z)
    (wpAny_mono h (fun xv s₁ h₁ => ?_) fun _ _ e => e)) (fun _ s' hq => wpAny_pure (wpAny_pure hq)) fun _ _ e => e)
  obtain ⟨l, xs, rfl, hl, hints, hns, hcell, K, hin, hlim, hQ⟩ := h₁
  obtain ⟨h₀, gg, dd, tk₀, oo⟩ := s₁
  dsimp only at hl hns hcell K hin hlim hQ
  obtain ⟨zx, gx⟩ := ints_get hints
  have hpos : xs.size ≠ 0 := by rw [zx]; exact hk0
  have hz : xs.size ≤ 1000 := by rw [zx]; exact hzk
  refine wpAny_pyIter_list hl ?_
  refine wpAny_newObj_type (wpAny_newFunctionEnv (by decide) (by intro y hy; simp at hy) (fun h₁ hns₁ hsb₁ => ?_) rfl)
  dsimp only at hns₁ hsb₁ ⊢
  generalize hH1 : h₀.push { cls := .type "list_iterator", data := .fields #[.ref l, .int 0 0] } = H1 at hns₁ hsb₁ ⊢
  generalize hH2 : H1.push emptyL = H2 at hns₁ hsb₁ ⊢
  have z1 : H1.objs.size = h₀.objs.size + 1 := by rw [← hH1, Heap.size_push]
  have z2 : H2.objs.size = h₀.objs.size + 2 := by rw [← hH2, Heap.size_push, z1]
  have hCle : h₀.objs.size ≤ H2.objs.size := by rw [z2]; exact Nat.le_add_right _ 2
  have hI1 : h₁.IsListIter h₀.objs.size l 0 := ⟨_, hsb₁.extBut _ _ (Nat.ne_of_lt (by rw [z2]; exact Nat.lt_add_of_pos_right (by decide))) (Heap.get?_push_of_some _ (hH2 ▸ Heap.get?_push_of_some _ (hH1 ▸ Heap.get?_push_size _ rfl))), rfl, rfl⟩
  have hD1 : h₁.get? H1.objs.size = some emptyL := hsb₁.extBut _ _ (Nat.ne_of_lt (by rw [z2, z1]; exact Nat.lt_succ_self _)) (Heap.get?_push_of_some _ (hH2 ▸ Heap.get?_push_size _ rfl))
  have old : Kpt h₀ h₁ := fun b o e => hsb₁.extBut b o (Nat.ne_of_lt (Nat.lt_of_lt_of_le (Heap.lt_size e) hCle)) (Heap.get?_push_of_some _ (hH2 ▸ Heap.get?_push_of_some _ (hH1 ▸ Heap.get?_push_of_some _ e)))
  have hCn : ∀ b o, h₀.get? b = some o → b ≠ H2.objs.size := fun b o e => Nat.ne_of_lt (Nat.lt_of_lt_of_le (Heap.lt_size e) hCle)
  have hIn : ∀ b o, h₀.get? b = some o → b ≠ h₀.objs.size := fun b o e => Nat.ne_of_lt (Heap.lt_size e)
  have hDn : ∀ b o, h₀.get? b = some o → b ≠ H1.objs.size := fun b o e => Nat.ne_of_lt (Nat.lt_of_lt_of_le (Heap.lt_size e) (by rw [z1]; exact Nat.le_succ _))
  have hIC : h₀.objs.size ≠ H2.objs.size := by rw [z2]; exact Nat.ne_of_lt (Nat.lt_add_of_pos_right (by decide))
  have hDC : H1.objs.size ≠ H2.objs.size := by rw [z1, z2]; exact Nat.ne_of_lt (Nat.lt_succ_self _)
  have hDI : H1.objs.size ≠ h₀.objs.size := by rw [z1]; exact Nat.ne_of_gt (Nat.lt_succ_self _)
  generalize H2.objs.size = C at *
  generalize H1.objs.size = Dd at *
  generalize hIs : h₀.objs.size = I at *
  have loop : ∀ tk₁, codeAny (model prog w) A (.compLoop (.ListComp (.Call (.Name "make" (⟨101, 12, 101, 16⟩ : Pos)) [.Name "t" (⟨101, 17, 101, 18⟩ : Pos)] [] (⟨101, 12, 101, 19⟩ : Pos)) [⟨.Name "t" (⟨101, 24, 101, 25⟩ : Pos), (.Call (.Name "_law_row" ⟨101, 29, 101, 37⟩) [.Name "y" ⟨101, 38, 101, 39⟩] [] ⟨101, 29, 101, 40⟩), [], 0⟩] kyScope (⟨101, 11, 101, 41⟩ : Pos)) 0 (.ref I) (.ref Dd) (compEnvC kyScope [("make", c)] C env))
      (compPost (model prog w) A E (some (assign (.Name "keys" (⟨101, 4, 101, 8⟩ : Pos)) env)) (fun _ s' => Q .next s') (.ref Dd) C) ⟨h₁, gg, dd, tk₁, oo⟩ := by
    intro tk₁
    refine compLoop_any (fun n s' => ∃ h' tk' m' i ys, s' = ⟨h', gg, dd, tk', oo⟩ ∧ h'.IsListIter I l i ∧ h'.Ns C m' ∧ (0 < i → ∃ v, m' "t" = some v) ∧ h'.PlainList Dd ys ∧ KeysAt h' a (ks.take i) ys.toList ∧ Kpt h₀ h' ∧ i ≤ xs.size ∧ n = xs.size + 1 - i) ?_ (xs.size + 1)
      ⟨h₁, tk₁, _, 0, #[], rfl, hI1, hns₁, (fun q => absurd q (Nat.lt_irrefl 0)), ⟨_, hD1⟩, .nil, old, Nat.zero_le _, rfl⟩
    rintro n s' ⟨h', tk', m', i, ys, rfl, hit, hns', ht, hD, hkeys, keep, hi, rfl⟩
    have hl' : h'.IsList l xs := hl.at fun o e => keep _ _ e
    have offI : ∀ b o, OfKey o → h'.get? b = some o → b ≠ I := fun b o ok e q => by
      obtain ⟨o', e', _, d'⟩ := hit
      rw [q, e'] at e; cases e
      rcases ok with ok | ok <;> (rw [d'] at ok; cases ok)
    cases hv : xs[i]? with
    | none =>
      have hsz : i = xs.size := Nat.le_antisymm hi (by simpa using hv)
      refine wpAny_pyNext_list_end hh hit hl' hv fun h₂ ex₂ => ?_
      have htake : ks.take i = ks := List.take_of_length_le (by rw [hsz, zx]; exact Nat.le_refl _)
      rw [htake] at hkeys
      have k2 : Kpt h₀ h₂ := fun b o e => ex₂ b o (hIn b o e) (keep b o e)
      show wpAny _ A (assign (.Name "keys" (⟨101, 4, 101, 8⟩ : Pos)) env (.ref Dd)) _ _ _
      refine wpAny_assign_Name (wpAny_storeName_local hky (hns.keeps k2) (fun h₃ hns₃ sb₃ => ?_) (by rw [hk]; rfl))
      obtain ⟨oL, _, _, eL, _⟩ := id hns
      have lC : env.locals ≠ C := hCn _ _ eL
      have lD : env.locals ≠ Dd := hDn _ _ eL
      have lI : env.locals ≠ I := hIn _ _ eL
      refine ⟨m', ((hns'.extBut ex₂ (Ne.symm hIC)).sameBut sb₃ (Ne.symm lC)), fun h₄ sb₄ => ?_⟩
      obtain ⟨nD, eD⟩ := hD
      refine hQ Dd h₄ _ ys (fun b o nb e => sb₄.extBut b o (hCn b o e) ((sb₃.2 b nb).trans (k2 b o e))) (hns₃.sameBut sb₄ lC) ⟨nD, #[], sb₄.extBut _ _ hDC ((sb₃.2 _ (Ne.symm lD)).trans (ex₂ _ _ hDI eD))⟩ (hkeys.off fun b o ok e => ?_)
      have e2 := ex₂ b o (offI b o ok e) e
      have nL : b ≠ env.locals := fun q => ns_notkey (hns.keeps k2) hmb (q ▸ e2) ok
      have e3 := (sb₃.2 b nL).trans e2
      rcases Nat.eq_zero_or_pos i with q | q
      · exact absurd q (by rw [hsz]; exact hpos)
      · obtain ⟨v, hv⟩ := ht q
        exact sb₄.extBut b o (fun qc => ns_notkey ((hns'.extBut ex₂ (Ne.symm hIC)).sameBut sb₃ (Ne.symm lC)) hv (qc ▸ e3) ok) e3
    | some v =>
      have hlt : i < xs.size := (Array.getElem?_eq_some_iff.mp hv).1
      obtain ⟨k, t, hki, rfl⟩ := gx i v hv
      refine wpAny_pyNext_list_item hit hl' hv fun h₂ hit₂ sb₂ => ?_
      have k2 : Kpt h₀ h₂ := fun b o e => (sb₂.2 b (hIn b o e)).trans (keep b o e)
      refine wpAny_pure ?_
      have hns2 := hns'.sameBut sb₂ (Ne.symm hIC)
      refine wpAny_assign_Name (wpAny_storeName_local (env := compEnvC kyScope [("make", c)] C env) (comp_kind rfl rfl) hns2 (fun h₃ hns₃ sb₃ => ?_) (comp_plain rfl))
      have k3 : Kpt h₀ h₃ := fun b o e => (sb₃.2 b (hCn b o e)).trans (k2 b o e)
      have hit₃ : h₃.IsListIter I l (i + 1) := (by obtain ⟨o, e, r⟩ := hit₂; exact ⟨o, (sb₃.2 _ hIC).trans e, r⟩)
      have hD₃ : h₃.PlainList Dd ys := (by obtain ⟨nD, e⟩ := hD; exact ⟨nD, (sb₃.2 _ hDC).trans ((sb₂.2 _ hDI).trans e)⟩)
      have hk₃ : KeysAt h₃ a (ks.take i) ys.toList := by
        rcases Nat.eq_zero_or_pos i with q | q
        · subst q
          rw [List.take_zero] at hkeys ⊢
          cases hys : ys.toList with
          | nil => exact .nil
          | cons x r => rw [hys] at hkeys; cases hkeys
        · obtain ⟨v, hv⟩ := ht q
          refine hkeys.off fun b o ok e => ?_
          have e2 := (sb₂.2 b (offI b o ok e)).trans e
          exact (sb₃.2 b (fun qc => ns_notkey hns2 hv (show h₂.get? C = some o from (show b = C from qc) ▸ e2) ok)).trans e2
      refine wpAny_pure ?_
      rw [if_pos rfl]
      refine wpAny_Call_Name_kw (wpAny_Name (wpAny_loadName_cell (env := compEnvC kyScope [("make", c)] C env) (c := c) rfl (comp_cell rfl hk hmk) rfl (hcell.keeps k3) ?_))
      refine callWith_cls rfl (evalArgs_plain (spliced_cons (wpAny_Name (wpAny_loadName_local (env := compEnvC kyScope [("make", c)] C env) rfl (comp_kind rfl rfl) hns₃ rfl (spliced_nil ⟨K.keeps k3, ?_⟩)))))
      refine make_call (s := ⟨h₃, gg, dd, _, oo⟩) (K.keeps k3) (hin.keeps k3) (NoLimit.keeps hlim k3) hd fun x h₄ tk₄ k4 ix nx => ?_
      have hys : ys.size ≤ ks.length := by
        rw [← Array.length_toList, ← hkeys.length, List.length_take]; exact Nat.min_le_right _ _
      refine wpAny_list_append_plain (s := ⟨h₄, gg, dd, tk₄, oo⟩) (hsz := by rw [sizeLine_eq]; omega) (show h₄.PlainList Dd ys from (by obtain ⟨nD, e⟩ := hD₃; exact ⟨nD, k4 _ _ e⟩)) fun h₅ hD₅ sb₅ => ?_
      have offD : ∀ b o, OfKey o → h₄.get? b = some o → b ≠ Dd := fun b o ok e q => by
        obtain ⟨nD, e'⟩ := hD₃
        rw [q, k4 _ _ e'] at e; cases e
        rcases ok with ok | ok <;> cases ok
      have hI5 : h₅.IsListIter I l (i + 1) := (by obtain ⟨o, e, r⟩ := hit₃; exact ⟨o, (sb₅.2 _ (Ne.symm hDI)).trans (k4 _ _ e), r⟩)
      have hkk : ks.take (i + 1) = ks.take i ++ [k] := by rw [List.take_add_one, hki]; rfl
      refine ⟨xs.size + 1 - (i + 1), turn_lt hlt, h₅, tk₄, _, i + 1, ys.push (.ref x), rfl, hI5, (hns₃.keeps k4).sameBut sb₅ (Ne.symm hDC), fun _ => ⟨_, rfl⟩, hD₅, ?_, fun b o e => (sb₅.2 b (hDn b o e)).trans (k4 _ _ (k3 b o e)), hlt, rfl⟩
      rw [hkk, Array.toList_push]
      exact ((hk₃.off fun b o _ e => k4 b o e).off fun b o ok e => (sb₅.2 b (offD b o ok e)).trans e).snoc ⟨x, t, rfl, ix.off fun b o ok e => (sb₅.2 b (offD b o ok e)).trans e⟩
  exact codeAny_compStart_list (loop _) (wpAny_pyIter_listiter hI1 (loop _))
end
end Mine
end

-- part R24
section
open PySem PySem.W PySem.W.X PySem.Calls PyProof.Rows
set_option maxRecDepth 100000
set_option linter.unusedVariables false
set_option maxHeartbeats 1000000
namespace Mine
noncomputable abbrev zScope : Scope := { kind := .function, names := [(".0", .local), ("k", .local), ("y", .free)], isGenerator := false, isCoroutine := false, more := [] }
theorem closure_y {env : Env} {c : Addr} (h : env.cells.lookup ("y" : Str) = some c) : closureFor zScope env = pure ([("y", c)] : List (Str × Addr)) := by
  refine (closure_gen fun x hx hf => ?_).trans ?_
  · simp only [List.mem_cons, List.not_mem_nil, or_false] at hx
    rcases hx with rfl | rfl | rfl <;> first | (cases hf; done) | exact ⟨c, h⟩
  · show pure ([("y", (env.cells.lookup ("y" : Str)).getD 0)] : List (Str × Addr)) = _
    rw [h]; rfl
noncomputable abbrev bitE (p1 p2 p3 p4 p5 p6 p7 : Pos) : Expr := .Compare (.BinOp (.BinOp (.Name "y" p1) .RShift (.Name "k" p2) p3) .Mod (.Constant (.int 2) 0 p4) p5) [.Eq] [.Constant (.int 1) 0 p6] p7
section
variable {prog : Program} {w : World} {A : Around} {E : Value → Shared → Prop} {env : Env}
/-- the places so far -/
noncomputable def bitTo (y : Int) (i : Nat) (k : Int) : Bool := decide (0 ≤ k) && decide (k < i) && bitZ y k
theorem card_succ (y : Int) (i : Nat) : cardS y (i + 1) = cardS y i + if bitZ y (i : Int) then 1 else 0 := by
  unfold cardS
  rw [List.range_succ, List.countP_append, List.countP_singleton]
theorem bitTo_in {y : Int} {i : Nat} (h : bitZ y (i : Int) = true) : (fun k => bitTo y i k || decide (k = (i : Int))) = bitTo y (i + 1) := by
  funext k
  unfold bitTo
  rw [Bool.eq_iff_iff]
  simp only [Bool.or_eq_true, Bool.and_eq_true, decide_eq_true_eq]
  constructor
  · rintro (⟨⟨a, b⟩, c⟩ | rfl)
    · exact ⟨⟨a, by omega⟩, c⟩
    · exact ⟨⟨by omega, by omega⟩, h⟩
  · rintro ⟨⟨a, b⟩, c⟩
    by_cases q : k = i
    · exact .inr q
    · exact .inl ⟨⟨a, by omega⟩, c⟩
theorem bitTo_out {y : Int} {i : Nat} (h : bitZ y (i : Int) = false) : bitTo y i = bitTo y (i + 1) := by
  funext k
  unfold bitTo
  rw [Bool.eq_iff_iff]
  simp only [Bool.and_eq_true, decide_eq_true_eq]
  constructor
  · rintro ⟨⟨a, b⟩, c⟩; exact ⟨⟨a, by omega⟩, c⟩
  · rintro ⟨⟨a, b⟩, c⟩
    refine ⟨⟨a, ?_⟩, c⟩
    have : k ≠ i := fun q => by rw [q, h] at c; cases c
    omega
theorem SetOf.off {h h' : Heap} {z : Addr} {S : Int → Bool} {n : Nat} (x : h.SetOf (intKind prog w) z S n) (k : ∀ o, h.get? z = some o → o.cls = .type "set" → h'.get? z = some o) : h'.SetOf (intKind prog w) z S n := by
  obtain ⟨o, es, ep, t, ho, hx, r⟩ := x
  exact ⟨o, es, ep, t, k _ ho hx.1, hx, r⟩
/-- {k for k in range(5) if (y >> k) % 2 == 1} -/
theorem comp_bits {s : Shared} {y : Int} {t : Tok} {c : Addr} {mg mb : Str → Option Value} {Q : Value → Shared → Prop} (hh : A.handled = none) (hk : env.scope.kind = .function) (hyk : env.kindOf "y" = some .cell) (hc : env.cells.lookup ("y" : Str) = some c) (hr : env.kindOf "range" = some .globalImplicit)
    (hg : s.heap.Ns env.globals mg) (hb : s.heap.Ns env.builtins mb) (N : BN mg mb) (hcell : s.heap.IsCell c (some (.int y t)))
    (hQ : ∀ D h' tk', Kpt s.heap h' → h'.SetOf (intKind prog w) D (bitS y) (cardS y 5) → Q (.ref D) { s with heap := h', toks := tk' }) :
    wpAny (model prog w) A (eval (.SetComp (.Name "k" (⟨100, 16, 100, 17⟩ : Pos)) [⟨.Name "k" (⟨100, 22, 100, 23⟩ : Pos), .Call (.Name "range" (⟨100, 27, 100, 32⟩ : Pos)) [.Constant (.int 5) 0 (⟨100, 33, 100, 34⟩ : Pos)] [] (⟨100, 27, 100, 35⟩ : Pos), [bitE (⟨100, 40, 100, 41⟩ : Pos) (⟨100, 45, 100, 46⟩ : Pos) (⟨100, 40, 100, 46⟩ : Pos) (⟨100, 50, 100, 51⟩ : Pos) (⟨100, 39, 100, 51⟩ : Pos) (⟨100, 55, 100, 56⟩ : Pos) (⟨100, 39, 100, 56⟩ : Pos)], 0⟩] zScope (⟨100, 15, 100, 57⟩ : Pos)) env) Q E s := by
  show wpAny _ A (comprehension (.SetComp (.Name "k" (⟨100, 16, 100, 17⟩ : Pos)) [⟨.Name "k" (⟨100, 22, 100, 23⟩ : Pos), .Call (.Name "range" (⟨100, 27, 100, 32⟩ : Pos)) [.Constant (.int 5) 0 (⟨100, 33, 100, 34⟩ : Pos)] [] (⟨100, 27, 100, 35⟩ : Pos), [bitE (⟨100, 40, 100, 41⟩ : Pos) (⟨100, 45, 100, 46⟩ : Pos) (⟨100, 40, 100, 46⟩ : Pos) (⟨100, 50, 100, 51⟩ : Pos) (⟨100, 39, 100, 51⟩ : Pos) (⟨100, 55, 100, 56⟩ : Pos) (⟨100, 39, 100, 56⟩ : Pos)], 0⟩] zScope (⟨100, 15, 100, 57⟩ : Pos)) zScope env _ (newSet (.type "set")) false (eval (.Call (.Name "range" (⟨100, 27, 100, 32⟩ : Pos)) [.Constant (.int 5) 0 (⟨100, 33, 100, 34⟩ : Pos)] [] (⟨100, 27, 100, 35⟩ : Pos)) env) none) _ _ s
  refine wpAny_comprehension_free (use := none) rfl (by intro _; rfl) (closure_y hc) rfl (by intro y hy; simp only [List.mem_cons, List.not_mem_nil, or_false] at hy; rcases hy with rfl | rfl | rfl <;> intro z <;> first | rfl | cases z) ?_
  obtain ⟨h₀, gg, dd, tk₀, oo⟩ := s
  dsimp only at hg hb hcell hQ
  refine range_it hh hk hr hg (N.ty "range" (by decide)).1 hb (N.ty "range" (by decide)).2 rfl (wpAny_Constant_int ⟨5, _, rfl, by decide, by decide, fun I h₂ tk₂ W hI nI k₂ => ?_⟩)
  refine wpAny_newSet_of (knd := intKind prog w) fun led hset => ?_
  dsimp only at hset ⊢
  refine wpAny_newFunctionEnv (by decide) (by intro y hy; simp at hy) (fun h₁ hns₁ hsb₁ => ?_) rfl
  dsimp only at hns₁ hsb₁ ⊢
  have kH : Kpt h₂ (h₂.push { cls := .type "set", dict := none, data := .set #[] 0 (.fresh 0 0 led) }) := fun b o e => Heap.get?_push_of_some _ e
  have zH : h₂.objs.size < (h₂.push { cls := .type "set", dict := none, data := .set #[] 0 (.fresh 0 0 led) }).objs.size := by rw [Heap.size_push]; exact Nat.lt_succ_self _
  have kI0 := kH I _ hI
  generalize h₂.push { cls := .type "set", dict := none, data := .set #[] 0 (.fresh 0 0 led) } = H at *
  have ltI : I < h₂.objs.size := Heap.lt_size hI
  have k1 : Kpt H h₁ := fun b o e => hsb₁.extBut b o (Nat.ne_of_lt (Heap.lt_size e)) (Heap.get?_push_of_some _ e)
  have k01 : Kpt h₀ h₁ := fun b o e => k1 _ _ (kH _ _ (k₂ b o e))
  have nC : ∀ b o, h₀.get? b = some o → b ≠ H.objs.size := fun b o e => Nat.ne_of_lt (Heap.lt_size (kH _ _ (k₂ b o e)))
  have nI : ∀ b o, h₀.get? b = some o → b ≠ I := fun b o e q => by rw [q] at e; rw [show h₀.get? I = none from nI] at e; cases e
  have nD : ∀ b o, h₀.get? b = some o → b ≠ h₂.objs.size := fun b o e => Nat.ne_of_lt (Heap.lt_size (k₂ b o e))
  have hIC : I ≠ H.objs.size := Nat.ne_of_lt (Nat.lt_trans ltI zH)
  have hDI : h₂.objs.size ≠ I := Nat.ne_of_gt ltI
  have hDC : h₂.objs.size ≠ H.objs.size := Nat.ne_of_lt zH
  have hset₁ : h₁.SetOf (intKind prog w) h₂.objs.size (bitTo y 0) (cardS y 0) := by
    have e0 : bitTo y 0 = fun _ => false := by
      funext k
      unfold bitTo
      rw [Bool.eq_false_iff]
      simp only [ne_eq, Bool.and_eq_true, decide_eq_true_eq]
      omega
    rw [e0]
    exact SetOf.keeps hset k1
  have hI1 := k1 I _ kI0
  generalize H.objs.size = C at *
  generalize h₂.objs.size = D at *
  have loop : ∀ tk₁, codeAny (model prog w) A (.compLoop (.SetComp (.Name "k" (⟨100, 16, 100, 17⟩ : Pos)) [⟨.Name "k" (⟨100, 22, 100, 23⟩ : Pos), .Call (.Name "range" (⟨100, 27, 100, 32⟩ : Pos)) [.Constant (.int 5) 0 (⟨100, 33, 100, 34⟩ : Pos)] [] (⟨100, 27, 100, 35⟩ : Pos), [bitE (⟨100, 40, 100, 41⟩ : Pos) (⟨100, 45, 100, 46⟩ : Pos) (⟨100, 40, 100, 46⟩ : Pos) (⟨100, 50, 100, 51⟩ : Pos) (⟨100, 39, 100, 51⟩ : Pos) (⟨100, 55, 100, 56⟩ : Pos) (⟨100, 39, 100, 56⟩ : Pos)], 0⟩] zScope (⟨100, 15, 100, 57⟩ : Pos)) 0 (.ref I) (.ref D) (compEnvC zScope [("y", c)] C env))
      (compPost (model prog w) A E none Q (.ref D) C) ⟨h₁, gg, dd, tk₁, oo⟩ := by
    intro tk₁
    refine setLoop_any (fun n s' => ∃ h' tk' m' i, s' = ⟨h', gg, dd, tk', oo⟩ ∧ IsRangeIter h' I (0 + (i : Nat) * 1) (((5 : Int).toNat : Int) - (i : Nat)) 1 ∧ h'.Ns C m' ∧ h'.SetOf (intKind prog w) D (bitTo y i) (cardS y i) ∧ Kpt h₀ h' ∧ i ≤ 5 ∧ n = 6 - i) ?_ 6
      ⟨h₁, tk₁, _, 0, rfl, hI1, hns₁, hset₁, k01, Nat.zero_le _, rfl⟩
    rintro n s' ⟨h', tk', m', i, rfl, hit, hns', hs', keep, hi, rfl⟩
    by_cases hlt : i < 5
    · refine W.item i _ _ _ hlt hit fun v h2' tk2 hp hit2 ks => ?_
      obtain ⟨tv, rfl⟩ := hp
      rw [show (0 + (i : Int) * 1) = (i : Int) from turn_ix i]
      have ks' : ∀ b o, b ≠ I → h'.get? b = some o → h2'.get? b = some o := fun b o nb => ks b o (by rw [List.mem_singleton]; exact nb)
      have k2' : Kpt h₀ h2' := fun b o e => ks' b o (nI b o e) (keep b o e)
      have hns2 : h2'.Ns C m' := hns'.at' fun o eo => ks' _ _ (Ne.symm hIC) eo
      have hs2 : h2'.SetOf (intKind prog w) D (bitTo y i) (cardS y i) := SetOf.off hs' fun o eo _ => ks' _ _ hDI eo
      refine wpAny_pure ?_
      refine wpAny_assign_Name (wpAny_storeName_local (env := compEnvC zScope [("y", c)] C env) (comp_kind rfl rfl) hns2 (fun h₃ hns₃ sb₃ => ?_) (comp_plain rfl))
      have k3 : Kpt h₀ h₃ := fun b o e => (sb₃.2 b (nC b o e)).trans (k2' b o e)
      have hs3 : h₃.SetOf (intKind prog w) D (bitTo y i) (cardS y i) := SetOf.off hs2 fun o eo _ => (sb₃.2 _ hDC).trans eo
      have hit3 := (sb₃.2 _ hIC).trans hit2
      refine wpAny_tests_one (wpAny_isTrue_Compare1 (wpAny_BinOp (wpAny_BinOp (wpAny_Name (wpAny_loadName_cell (env := compEnvC zScope [("y", c)] C env) (c := c) rfl (comp_cell rfl hk hyk) rfl (hcell.keeps k3) ?_)))))
      refine wpAny_Name (wpAny_loadName_local (env := compEnvC zScope [("y", c)] C env) rfl (comp_kind rfl rfl) hns₃ rfl (rshift_int (Int.natCast_nonneg i) (wpAny_Constant_int (mod_int' (by decide) (wpAny_Constant_int (PyProof.Rows.eq_int (wpAny_truthy_bool ?_)))))))
      show if bitZ y (i : Int) = true then _ else _
      have go : ∀ h5 tk5, h5.SetOf (intKind prog w) D (bitTo y (i + 1)) (cardS y (i + 1)) → (∀ b o, b ≠ D → h₃.get? b = some o → h5.get? b = some o) → ∃ m, m < 6 - i ∧ ∃ h' tk' m' j, (⟨h5, gg, dd, tk5, oo⟩ : Shared) = ⟨h', gg, dd, tk', oo⟩ ∧ IsRangeIter h' I (0 + (j : Nat) * 1) (((5 : Int).toNat : Int) - (j : Nat)) 1 ∧ h'.Ns C m' ∧ h'.SetOf (intKind prog w) D (bitTo y j) (cardS y j) ∧ Kpt h₀ h' ∧ j ≤ 5 ∧ m = 6 - j :=
        fun h5 tk5 hs5 k5 => ⟨6 - (i + 1), turn_lt (N := 5) hlt, h5, tk5, _, i + 1, rfl, k5 _ _ (Ne.symm hDI) hit3, hns₃.at' fun o eo => k5 _ _ (Ne.symm hDC) eo, hs5, fun b o e => k5 b o (nD b o e) (k3 b o e), hlt, rfl⟩
      cases hbit : bitZ y (i : Int) with
      | false =>
        rw [if_neg (by decide)]
        refine go h₃ _ ?_ (fun _ _ _ e => e)
        rw [← bitTo_out hbit, card_succ, hbit]
        exact hs3
      | true =>
        rw [if_pos rfl]
        refine wpAny_Name (wpAny_loadName_local (env := compEnvC zScope [("y", c)] C env) rfl (comp_kind rfl rfl) hns₃ rfl ?_)
        refine call_set_add (knd := intKind prog w) (k := (i : Int)) (by simp [intKind, Value.isInt]) rfl hs3 ?_ fun h5 sb5 hs5 => ?_
        · have : cardS y i ≤ i := by unfold cardS; exact Nat.le_trans (List.countP_le_length ..) (by rw [List.length_range]; exact Nat.le_refl _)
          show cardS y i + 1 < 4096
          omega
        · refine go h5 _ ?_ (fun b o nb e => (sb5.2 b nb).trans e)
          have hnot : bitTo y i (i : Int) = false := by unfold bitTo; rw [Bool.eq_false_iff]; simp only [ne_eq, Bool.and_eq_true, decide_eq_true_eq]; omega
          rw [bitTo_in hbit, hnot] at hs5
          rw [card_succ, hbit]
          exact hs5
    · have hie : i = 5 := turn_end hi hlt
      subst hie
      refine W.done _ _ _ hit fun h2' tk2 ks => ?_
      have ks' : ∀ b o, b ≠ I → h'.get? b = some o → h2'.get? b = some o := fun b o nb => ks b o (by rw [List.mem_singleton]; exact nb)
      refine ⟨m', hns'.at' fun o eo => ks' _ _ (Ne.symm hIC) eo, fun h₄ sb₄ => ?_⟩
      refine hQ D h₄ _ (fun b o e => (sb₄.2 b (nC b o e)).trans (ks' b o (nI b o e) (keep b o e))) ?_
      have hb5 : bitS y = bitTo y 5 := rfl
      rw [hb5]
      exact SetOf.off (SetOf.off hs' fun o eo _ => ks' _ _ hDI eo) fun o eo _ => (sb₄.2 _ hDC).trans eo
  exact compStart_set (loop _) (W.self 0 _ _ _ hI1 (loop _))
end
end Mine
end

-- part R25
section
open PySem PySem.W PySem.W.X PySem.Calls PyProof.Rows
set_option maxRecDepth 100000
set_option linter.unusedVariables false
set_option maxHeartbeats 1000000
namespace Mine
section
variable {prog : Program} {w : World} {A : Around} {E : Value → Shared → Prop} {s : Shared} {mg mb : Str → Option Value} {a : KA} {cc fa : Addr}
theorem value_call {kind y : Int} {t u : Tok} {Q : Value → Shared → Prop} (X : (hd.heap_39 w.params).In s.heap) (hl : s.heap.NoLimit) (hg : s.heap.Ns mainGlobals mg) (hb : s.heap.Ns builtinsNs mb) (N : BN mg mb) (K : KAt s.heap a) (hi : InitAt s.heap a.fi) (hroom : A.depth + 4 < recursionLimit) (hh : A.handled = none)
    (h0 : 0 ≤ kind) (h5 : kind < 5) (hq : ∀ v h' tk', Kpt s.heap h' → VAt prog w h' a kind y v → Q v { s with heap := h', toks := tk' }) :
    wpAny (model prog w) A (call (.ref 124) [.ref a.C, .int kind t, .int y u]) Q E s := by
  refine wpAny_call (codeAny_call_cells (binds := [("make", .ref a.C), ("kind", .int kind t), ("y", .int y u)]) (by omega) (X 124 _ rfl) rfl hl (codeRec_of X (by rfl)) rfl rfl rfl (fun x hx => ?_) fun s₁ x => ?_)
  · simp only [List.mem_cons, List.not_mem_nil, or_false] at hx
    rcases hx with rfl | rfl | rfl
    · exact .inr ⟨by rfl, by rfl⟩
    · exact .inl (by rfl)
    · exact .inr ⟨by rfl, by rfl⟩
  generalize hE : callEnvC _ s.heap.objs.size 124 = env at x ⊢
  have hk : env.scope.kind = .function := by subst hE; rfl
  have eg : env.globals = mainGlobals ∧ env.builtins = builtinsNs := by subst hE; exact ⟨rfl, rfl⟩
  have kk : env.kindOf "kind" = some .local ∧ env.kindOf "keys" = some .local ∧ env.kindOf "make" = some .cell ∧ env.kindOf "y" = some .cell ∧ env.kindOf "range" = some .globalImplicit ∧ env.kindOf "_law_row" = some .globalImplicit ∧ env.kindOf "tuple" = some .globalImplicit := by subst hE; exact ⟨rfl, rfl, rfl, rfl, rfl, rfl, rfl⟩
  have hcl : ∃ c1 c2, env.cells.lookup ("make" : Str) = some c1 ∧ env.cells.lookup ("y" : Str) = some c2 := by subst hE; exact ⟨_, _, rfl, rfl⟩
  have hm : bindL env.kindOf [("make", .ref a.C), ("kind", .int kind t), ("y", .int y u)] (fun _ => none) "kind" = some (.int kind t) := by subst hE; rfl
  have hc : bindC env.kindOf [("make", .ref a.C), ("kind", .int kind t), ("y", .int y u)] (fun _ => none) "make" = some (.ref a.C) ∧ bindC env.kindOf [("make", .ref a.C), ("kind", .int kind t), ("y", .int y u)] (fun _ => none) "y" = some (.int y u) := by subst hE; exact ⟨rfl, rfl⟩
  have eL : env.locals = s.heap.objs.size := by subst hE; rfl
  generalize bindL env.kindOf [("make", .ref a.C), ("kind", .int kind t), ("y", .int y u)] (fun _ => none) = m at x hm
  generalize bindC env.kindOf [("make", .ref a.C), ("kind", .int kind t), ("y", .int y u)] (fun _ => none) = cm at x hc
  clear hE
  obtain ⟨⟨⟨h1, tk1, rfl⟩, ns, keep, fresh⟩, cell, apart, above⟩ := x
  obtain ⟨h, g, d, tk, os⟩ := s
  dsimp only at X hl hg hb K hi hq ns keep eL cell above ⊢
  obtain ⟨c1, c2, l1, l2⟩ := hcl
  have cell1 := cell _ _ l1
  have cell2 := cell _ _ l2
  rw [hc.1] at cell1
  rw [hc.2] at cell2
  obtain ⟨kk1, kk2, kk3, kk4, kk5, kk6, kk7⟩ := kk
  have n3 : ∀ {v : Value} {h' : Heap} {tk' : Nat}, Kpt h1 h' → VAt prog w h' a kind y v → Q v ⟨h', g, d, tk', os⟩ := fun k hv => hq _ _ _ (Kpt.trans keep k) hv
  refine wpAny_execs_cons (wpAny_If (wpAny_isTrue_Compare1 (wpAny_Name (wpAny_loadName_local (s := ⟨h1, g, d, _, os⟩) hk kk1 ns hm (wpAny_Constant_int (PyProof.Rows.eq_int (wpAny_truthy_bool ?_)))))))
  by_cases c0 : kind = 0
  · rw [if_pos (by simpa using c0)]
    exact wpAny_execs_cons (wpAny_Return_some (wpAny_Name (wpAny_loadName_cell (s := ⟨h1, g, d, _, os⟩) hk kk4 l2 cell2 (n3 Kpt.rfl (by unfold VAt; rw [if_pos c0]; exact ⟨_, rfl⟩)))))
  rw [if_neg (by simpa using c0)]
  refine wpAny_execs_nil (wpAny_execs_cons (wpAny_If (wpAny_isTrue_Compare1 (wpAny_Name (wpAny_loadName_local (s := ⟨h1, g, d, _, os⟩) hk kk1 ns hm (wpAny_Constant_int (PyProof.Rows.eq_int (wpAny_truthy_bool ?_))))))))
  by_cases c1' : kind = 1
  · rw [if_pos (by simpa using c1')]
    refine wpAny_execs_cons (wpAny_Return_some (wpAny_Call_Name_kw (wpAny_Name (wpAny_loadName_cell (s := ⟨h1, g, d, _, os⟩) hk kk3 l1 cell1 ?_))))
    refine callWith_cls rfl (evalArgs_plain (spliced_cons (wpAny_Name (wpAny_loadName_cell (s := ⟨h1, g, d, _, os⟩) hk kk4 l2 cell2 (spliced_nil ⟨K.keeps keep, ?_⟩)))))
    refine make_call (s := ⟨h1, g, d, _, os⟩) (K.keeps keep) (hi.keeps keep) (NoLimit.keeps hl keep) (by show A.depth + 1 + 3 < _; omega) fun x h4 tk4 k4 ix nx => ?_
    exact n3 k4 (by unfold VAt; rw [if_neg c0, if_pos c1']; exact ⟨_, _, rfl, ix⟩)
  rw [if_neg (by simpa using c1')]
  refine wpAny_execs_nil (wpAny_execs_cons (wpAny_If (wpAny_isTrue_Compare1 (wpAny_Name (wpAny_loadName_local (s := ⟨h1, g, d, _, os⟩) hk kk1 ns hm (wpAny_Constant_int (PyProof.Rows.eq_int (wpAny_truthy_bool ?_))))))))
  by_cases c4 : kind = 4
  · rw [if_pos (by simpa using c4)]
    refine wpAny_execs_cons (wpAny_Return_some (comp_bits (s := ⟨h1, g, d, _, os⟩) hh hk kk4 l2 kk5 (by rw [eg.1]; exact hg.keeps keep) (by rw [eg.2]; exact hb.keeps keep) N cell2 fun D h' tk' k hs => ?_))
    exact n3 k (by unfold VAt; rw [if_neg c0, if_neg c1', if_pos c4]; exact ⟨_, rfl, hs⟩)
  rw [if_neg (by simpa using c4)]
  have gr : mg "_law_row" = some (.ref 119) := mg_of X hg (by rfl)
  have X1 : (hd.heap_39 w.params).In h1 := fun a o ea => keep _ _ (X a o ea)
  have rl : (rowOf y).length ≤ 3 ∧ (rowOf y).length ≠ 0 := by
    unfold rowOf
    rw [List.length_take]
    have := Int.fmod_nonneg_of_pos (y.fdiv 5) (show (0 : Int) < 3 by decide)
    exact ⟨Nat.min_le_right _ _, Nat.ne_of_gt (Nat.lt_min.mpr ⟨Int.lt_toNat.mpr (by omega), Nat.succ_pos _⟩)⟩
  refine wpAny_execs_nil (wpAny_execs_cons (comp_keys (s := ⟨h1, g, d, _, os⟩) (a := a) (ks := rowOf y) hh (by show A.depth + 1 + 3 < _; omega) hk kk2 kk3 l1 (fun q => by obtain ⟨o, eo, dd⟩ := cell1; obtain ⟨o', es, ep, e', d', _⟩ := ns; rw [q, e'] at eo; cases eo; rw [d'] at dd; cases dd) rfl hm ?_ (by intro _; rfl) (by omega) rl.2))
  refine wpAny_Call_Name_kw (Name_function_global hk kk6 (loadGlobal_global (by rw [eg.1]; exact hg.keeps keep) gr ?_))
  obtain ⟨fo, fdd, hfo, hfd⟩ : ∃ o fd, h1.get? 119 = some o ∧ o.data = .func fd := ⟨_, _, X1 119 _ rfl, rfl⟩
  refine callWith_function (o := fo) (fd := fdd) (evalArgs_plain (spliced_cons (wpAny_Name (wpAny_loadName_cell (s := ⟨h1, g, d, _, os⟩) hk kk4 l2 cell2 (spliced_nil ⟨⟨hfo, hfd⟩, ?_⟩)))))
  refine row_call (s := ⟨h1, g, d, _, os⟩) X1 (NoLimit.keeps hl keep) (by show A.depth + 1 < _; omega) fun D h2 tk2 xs k2 nD eD ix => ?_
  have K2 : Kpt h h2 := Kpt.trans keep k2
  refine ⟨D, xs, rfl, ⟨_, eD, rfl, _, rfl⟩, ix, ns.keeps k2, cell1.keeps k2, K.keeps K2, hi.keeps K2, NoLimit.keeps hl K2, fun D' h3 tk3 ys k3 ns3 hL hkeys => ?_⟩
  have K3 : Kpt h h3 := fun b o eb => k3 b o (fun q => by rw [q, eL, Heap.get?_none_of_le (Nat.le_refl _)] at eb; cases eb) (K2 b o eb)
  have hv : VAt prog w h3 a 2 y (.ref D') := ⟨_, _, rfl, hL, hkeys⟩
  refine wpAny_execs_cons (wpAny_Return_some (wpAny_IfExp (wpAny_isTrue_Compare1 (wpAny_Name (wpAny_loadName_local (s := ⟨h3, g, d, _, os⟩) hk kk1 ns3 hm (wpAny_Constant_int (PyProof.Rows.eq_int (wpAny_truthy_bool ?_))))))))
  by_cases c2' : kind = 2
  · rw [if_pos (by simpa using c2')]
    subst c2'
    exact wpAny_Name (wpAny_loadName_local (s := ⟨h3, g, d, _, os⟩) hk kk2 ns3 rfl (hq _ h3 _ K3 hv))
  rw [if_neg (by simpa using c2')]
  have hk3 : kind = 3 := ((((five h0 h5).resolve_left c0).resolve_left c1').resolve_left c2').resolve_right c4
  subst hk3
  refine wpAny_Call_NameR (Name_function_global hk kk7 (loadGlobal_builtin (by rw [eg.1]; exact hg.keeps K3) (N.ty "tuple" (by decide)).1 (by rw [eg.2]; exact hb.keeps K3) (N.ty "tuple" (by decide)).2 ?_))
  refine PySem.callWith_type rfl (evalArgs_plain (spliced_cons (wpAny_Name (wpAny_loadName_local (s := ⟨h3, g, d, _, os⟩) hk kk2 ns3 rfl (spliced_nil ?_)))))
  obtain ⟨nL, slL, eL'⟩ := id hL
  have hz : ys.size ≤ 3 := by rw [← Array.length_toList, ← hkeys.length]; exact rl.1
  refine call_tuple_list (s := ⟨h3, g, d, _, os⟩) (items := ys) ⟨_, eL', rfl, _, rfl⟩ (fun h4 k4 => ?_) (le_line (Nat.le_trans hz (by decide)))
  have k5 : Kpt h3 (h4.push { cls := .type "tuple", data := .seq ys }) := fun b o eb => Heap.get?_push_of_some _ (k4 b o eb)
  refine hq _ _ _ (Kpt.trans K3 k5) ?_
  exact ⟨_, ys, rfl, ⟨0, #[], Heap.get?_push_size _ rfl⟩, hkeys.off fun b o _ eb => k5 b o eb⟩
end
end Mine
end

-- part P7a
section
open PySem PySem.W PySem.W.X PySem.Calls PyProof.Rows
set_option maxRecDepth 100000
set_option maxHeartbeats 4000000
namespace Mine
noncomputable abbrev kPos : Pos := ⟨64, 4, 85, 23⟩
noncomputable abbrev kQual : Str := "cmp_to_key.<locals>.K"
noncomputable abbrev kq (n : Str) : Str := kQual ++ "." ++ n
noncomputable abbrev kS : List (Pos × Str) := [(⟨68, 8, 69, 26⟩, kq "__init__"), (⟨71, 8, 72, 49⟩, kq "__lt__"), (⟨74, 8, 75, 49⟩, kq "__gt__"), (⟨77, 8, 78, 50⟩, kq "__eq__"), (⟨80, 8, 81, 50⟩, kq "__le__"), (⟨83, 8, 84, 50⟩, kq "__ge__")]
theorem Ns.via {h h' : Heap} {a : Addr} {m} (x : h.Ns a m) (k : ∀ o, h.get? a = some o → ¬ IsTab o → h'.get? a = some o) : h'.Ns a m :=
  (by obtain ⟨o, es, ep, e, d, r⟩ := x; exact ⟨o, es, ep, k o e (fun z => by obtain ⟨_, q⟩ := z.data; rw [d] at q; cases q), d, r⟩)
/-- the records stay -/
noncomputable def Flds (h h' : Heap) : Prop := ∀ b o vs, o.data = .fields vs → h.get? b = some o → h'.get? b = some o
section
variable {h h' : Heap} (k : Flds h h')
include k
theorem CodeHd.fld {c P : Addr} (x : CodeHd h c P) : CodeHd h' c P := by
  obtain ⟨o2, vs2, a3, a4, a5, a6, a7, a8, a9, b1, b2, b3, r⟩ := x
  exact ⟨o2, vs2, a3, a4, a5, a6, a7, a8, a9, k _ _ _ b3 b1, b2, b3, r⟩
theorem CodeRec.fld {cv : Value} {q : Str} (x : h.CodeRec cv q) : h'.CodeRec cv q := by
  obtain ⟨c, o, vs, tt, e1, e2, e3, e4⟩ := x
  exact ⟨c, o, vs, tt, e1, k _ _ _ e3 e2, e3, e4⟩
theorem TabGood.fld {P : Addr} {S : List (Pos × Str)} (x : TabGood h P S) : TabGood h' P S := by
  obtain ⟨ps, e, ok, g⟩ := x
  exact ⟨ps, k _ _ _ rfl e, ok, fun y hy cv q => CodeRec.fld k (g y hy cv q)⟩
theorem ClsTab.fld {lo c P : Addr} {pos : Pos} {qual : Str} {S : List (Pos × Str)} (x : ClsTab h lo c P pos qual S) : ClsTab h' lo c P pos qual S := by
  obtain ⟨C, ps, e, ok, g⟩ := x
  refine ⟨CodeHd.fld k C, ps, k _ _ _ rfl e, ok, fun cv q => ?_⟩
  obtain ⟨c', P', e1, e2, e3, e4, e5, e6⟩ := g cv q
  exact ⟨c', P', e1, e2, e3, CodeHd.fld k e4, CodeRec.fld k e5, TabGood.fld k e6⟩
end
theorem kS_one : ∀ y ∈ kS, ∀ x ∈ kS, y.1.line = x.1.line → y.1.col = x.1.col → x.2 = y.2 := by decide +kernel
theorem load_name {env : Env} (hk : env.scope.kind = .class) (hn : env.kindOf "__name__" = none) :
    loadName env "__name__" = (localGet env "__name__" >>= fun r => match r with | some v => pure v | none => loadGlobal env "__name__") := by
  have hc : compilersOwnNames.contains ("__name__" : Str) = true := by decide +kernel
  unfold loadName
  simp only [Env.blockKind, hk, hn, ScopeKind.isAnnotationScope, Bool.false_and, Bool.false_eq_true, if_false, hc, Bool.not_true]
  show (pure PUnit.unit >>= fun _ => localGet env "__name__" >>= _) = _
  rw [pure_bind]
  congr 1
  funext r
  cases r <;> rfl
/-- behind a call of cmp_to_key -/
structure MadeC (h h' : Heap) (lo c P cc fa : Addr) (a : KA) : Prop where
  keep : ∀ b o, h.get? b = some o → b ≠ P → (¬ IsTab o ∨ b < lo) → h'.get? b = some o
  key : Key h' a cc fa
  init : InitAt h' a.fi
  tab : ClsTab h' lo c P kPos kQual kS
  newN : ∀ o, h.get? a.N = some o → a.N = P ∨ IsTab o
  newc : h.get? cc = none
section
variable {w : World} {A : Around} {E : Value → Shared → Prop} {s : Shared} {mg mb : Str → Option Value}
theorem cmp_call {fa lo : Addr} {Q : Value → Shared → Prop} (X : (hd.heap_39 w.params).In s.heap) (G : GK s.heap mg mb) (T : ClsTab s.heap lo 104 100 kPos kQual kS) (h132 : 132 ≤ lo) (hlo : ∃ b o, lo ≤ b + 1 ∧ s.heap.get? b = some o) (hfa : ∃ oc od fd sl, s.heap.get? fa = some ⟨oc, od, .func fd, sl⟩) (hd0 : A.depth ≤ 790) (hu : A.units ≤ 3900)
    (hq : ∀ a cc h' tk', MadeC s.heap h' lo 104 100 cc fa a → Q (.ref a.C) { s with heap := h', toks := tk' }) :
    wpAny (model PySem.Challenge.pw_dz0037_01 w) A (call (.ref 105) [.ref fa]) Q E s := by
  have e105 := X 105 _ rfl
  refine wpAny_call (codeAny_call_cells (binds := [("mycmp", .ref fa)]) (by have : recursionLimit = 1000 := rfl; omega) e105 rfl G.lim (codeRec_of X (by rfl)) rfl rfl rfl (fun x hx => ?_) fun s₁ x => ?_)
  · rw [List.mem_singleton] at hx
    subst hx
    exact .inr ⟨by rfl, by rfl⟩
  obtain ⟨⟨⟨h1, tk1, rfl⟩, ns, keep, fresh⟩, cell, apart, above⟩ := x
  refine wpAny_execs_cons (class_stmt (G.keeps keep) rfl rfl rfl rfl ?_)
  have L0 : ∀ n : Nat, n < 132 → n ≠ s.heap.objs.size := fun n hn q => by have := Heap.lt_size (X 131 _ rfl); rw [← q] at this; exact absurd this (Nat.not_lt.mpr (Nat.le_of_lt_succ hn))
  have e131 := keep _ _ (X 131 _ rfl)
  refine build_cls (cc := s.heap.objs.size + 1) (lo := lo) (c := 104) (P := 100) (S := kS) (clos := [("mycmp", s.heap.objs.size + 1)]) (g := s.gens) (d := s.drawn) (os := s.os) (G.keeps keep) rfl rfl rfl (T.keeps keep) ((by obtain ⟨b, o, h1, h2⟩ := hlo; exact ⟨b, o, h1, keep _ _ h2⟩)) (Nat.lt_of_lt_of_le (by decide) h132) rfl (by decide) (by decide) (by decide)
    (by show A.depth + 1 ≤ _; omega) (by show A.units + 3 ≤ _; omega) (fun _ _ _ => load_name rfl rfl) ?st ⟨_, _, _, _, keep _ _ (X 2 _ rfl)⟩ rfl rfl ?body ?q
  case st =>
    intro N c' fr v name hn
    simp only [List.mem_cons, List.not_mem_nil, or_false] at hn
    rcases hn with rfl | rfl | rfl | rfl <;> rfl
  case body =>
    intro K N P' c' fr h' tk' e0 e13 e1 t0 t13 t1 mn tm ln tf tq B hgP' hK
    refine wpAny_mono (body_walk (c := c') (cc := s.heap.objs.size + 1) (kq := kq) B ?_ ?_ rfl kS_one rfl rfl rfl rfl rfl hgP' hK) (fun _ _ z => z) (E := fun _ _ => False) fun _ _ z => z
    · intro name hn v
      simp only [List.mem_cons, List.not_mem_nil, or_false] at hn
      rcases hn with rfl | rfl | rfl | rfl | rfl | rfl | rfl | rfl | rfl <;> rfl
    · intro name hn
      simp only [List.mem_cons, List.not_mem_nil, or_false] at hn
      rcases hn with rfl | rfl | rfl | rfl | rfl | rfl <;> rfl
  case q =>
    intro a h' tk' M
    have hL100 : s.heap.objs.size ≠ 100 := fun q => L0 100 (by decide) q.symm
    have ns' := Ns.via ns (h' := h') fun o e n => M.keep _ _ e hL100 (.inl n)
    refine wpAny_storeName_local rfl ns' (fun h2 ns2 sb => ?_) rfl
    refine wpAny_execs_cons (wpAny_Return_some (wpAny_Name (wpAny_loadName_local rfl rfl ns2 rfl ?_)))
    have hc1 := cell "mycmp" (s.heap.objs.size + 1) rfl
    have hc2 : h'.IsCell (s.heap.objs.size + 1) (some (.ref fa)) := by
      obtain ⟨o, e, d⟩ := hc1
      refine ⟨o, M.keep _ _ e ?_ (.inl fun z => by obtain ⟨_, q⟩ := z.data; rw [d] at q; cases q), d⟩
      exact fun q => L0 99 (by decide) (Nat.succ.inj q).symm
    have hfa' : ∃ oc od fd sl, h'.get? fa = some ⟨oc, od, .func fd, sl⟩ := by
      obtain ⟨oc, od, fd, sl, e⟩ := hfa
      refine ⟨oc, od, fd, sl, M.keep _ _ (keep _ _ e) ?_ (.inl fun z => by obtain ⟨_, q⟩ := z.data; cases q)⟩
      intro q
      obtain ⟨_, ps, e', _⟩ := T
      rw [q, e'] at e; cases e
    have W : WOk [s.heap.objs.size] h' := fun w hw => by
      rw [List.mem_singleton] at hw; subst hw
      obtain ⟨o, es, ep, e, hd, r⟩ := ns'
      exact ⟨o, e, .inl ⟨es, ep, hd⟩⟩
    have F : Ft [s.heap.objs.size] h' h2 := fun b o hb _ e => (sb.2 b (fun q => hb (q ▸ List.mem_singleton.mpr rfl))).trans e
    have hold : ∀ b o, b ≠ s.heap.objs.size → h'.get? b = some o → h2.get? b = some o := fun b o hb e => (sb.2 b hb).trans e
    have aN : a.N ∉ [s.heap.objs.size] := fun q => by
      rw [List.mem_singleton] at q
      obtain ⟨o, es, ep, e, hd, r⟩ := ns
      rcases M.new o (by rw [q]; exact e) with z | z
      · rw [q] at z; exact hL100 z
      · obtain ⟨_, z⟩ := z.data; rw [hd] at z; cases z
    refine hq a (s.heap.objs.size + 1) h2 _ ⟨fun b o e nb nt => hold b o (Nat.ne_of_lt (Heap.lt_size e)) (M.keep b o (keep b o e) nb nt), ?_, InitAt.ft W.toi F M.init, ?_, fun o e => M.new o (keep _ _ e), Heap.get?_none_of_le (Nat.le_succ _)⟩
    · exact Key.ft W.toi F aN (fun q => L0 2 (by decide) (List.mem_singleton.mp q)) (fun q => absurd (List.mem_singleton.mp q) (Nat.succ_ne_self _)) ⟨M.cls, M.meth, hc2, hfa'⟩
    · refine ClsTab.fld (fun b o vs d e => hold b o (fun q => ?_) e) M.tab
      obtain ⟨o', es, ep, e', hd, r⟩ := ns'
      have e'' : h'.get? s.heap.objs.size = some o' := e'
      rw [q, e''] at e; cases e; rw [hd] at d; cases d
end
end Mine
end

-- part R26
section
open PySem PySem.W PySem.W.X PySem.Calls PyProof.Rows
set_option maxRecDepth 100000
set_option linter.unusedVariables false
set_option maxHeartbeats 1000000
namespace Mine
/-- what the law holds beside what was told -/
noncomputable def dueV : Res → Value
  | .bool b => .bool b
  | .ni => .notImplemented
  | .exc X => .type X
section
variable {prog : Program} {w : World} {A : Around} {E : Value → Shared → Prop} {s : Shared} {env : Env} {m cm mg mb : Str → Option Value}
theorem Call_sub {v sl : Expr} {p pos : Pos} {args : List Expr} {Q : Value → Shared → Prop}
    (h : wpAny (model prog w) A (eval (.Subscript v sl p) env) (fun f s₁ => wpAny (model prog w) A (callWith pos f [] (backTo pos (starEach args env)) []) Q E s₁) E s) :
    wpAny (model prog w) A (eval (.Call (.Subscript v sl p) args [] pos) env) Q E s := by
  show wpAny _ A (do callWith pos (← eval (.Subscript v sl p) env) [] (backTo pos (starEach args env)) (backToKw pos (keywordEach [] env))) Q E s
  exact wpAny_bind h
theorem Fm.slots {h h' : Heap} (F : Fm h env m cm) (u : h.UpToSlots h') : Fm h' env m cm := by
  refine ⟨u.ns F.ns, fun n c hc => ?_, F.apart, F.named⟩
  obtain ⟨o, e, d⟩ := F.cell n c hc
  obtain ⟨sl, e'⟩ := u c o e fun vs q => by rw [d] at q; cases q
  exact ⟨_, e', d⟩
/-- a handler's suite: told = X -/
theorem suite_walk {X : String} {B : Heap} {x : Addr} {a0 : Value} {q1 q2 q3 : Pos} {Q : Flow → Shared → Prop} (hk : env.scope.kind = .function) (ht : env.kindOf "told" = some .local) (hX : env.kindOf (Str.ofString X) = some .globalImplicit) (hxd : (Str.ofString X == ("__debug__" : Str)) = false)
    (hg : s.heap.Ns env.globals mg) (hb : s.heap.Ns env.builtins mb) (n1 : mg (Str.ofString X) = none) (n2 : mb (Str.ofString X) = some (.type X)) (F : Fm s.heap env m cm) (hq : ∀ h' tk', Fm h' env (upd m "told" (.type X)) cm → Ex (fW env) s.heap h' → Q .next { s with heap := h', toks := tk' }) :
    wpAny (model prog w) A (execs [.Assign [.Name "told" q1] (.Name (Str.ofString X) q2) q3] env) Q E s :=
  wpAny_execs_cons (wpAny_Assign_Name (Name_function_global hk hX (loadGlobal_builtin hg n1 hb n2 (F.stL hk ht fun h' tk' F' x' => wpAny_execs_nil (hq h' tk' F' x'))) hxd))
end
end Mine
end

-- part R27
section
open PySem PySem.W PySem.W.X PySem.Calls PyProof.Rows
set_option maxRecDepth 100000
set_option linter.unusedVariables false
set_option maxHeartbeats 1000000
namespace Mine
noncomputable abbrev hdl (X : String) (q0 q1 q2 q3 q4 : Pos) : ExceptHandler := .ExceptHandler (some (.Name (Str.ofString X) q0)) none [.Assign [.Name "told" q1] (.Name (Str.ofString X) q2) q3] q4
/-- the law's frame, as far as its try reads it -/
structure TE (env : Env) (mg mb : Str → Option Value) : Prop where
  hk : env.scope.kind = .function
  fr : env.frame = some env.locals
  eg : env.globals = mainGlobals
  eb : env.builtins = builtinsNs
  told : env.kindOf "told" = some .local
  made : env.kindOf "made" = some .local
  k : env.kindOf "k" = some .local
  one : env.kindOf "one" = some .local
  two : env.kindOf "two" = some .local
  ke : env.kindOf "KeyError" = some .globalImplicit
  ae : env.kindOf "AttributeError" = some .globalImplicit
theorem sub_KA : isSubtype (.type "AttributeError") (.type "KeyError") = pure false := by rw [isSubtype_type]; kernel_rfl
theorem sub_KK : isSubtype (.type "KeyError") (.type "KeyError") = pure true := by rw [isSubtype_type]; kernel_rfl
theorem sub_KB : isSubtype (.type "KeyError") (.type "BaseException") = pure true := by rw [isSubtype_type]; kernel_rfl
theorem sub_AB : isSubtype (.type "AttributeError") (.type "BaseException") = pure true := by rw [isSubtype_type]; kernel_rfl
theorem meta_K : isSubtype (.type ((Manifest.find? "KeyError").elim "type" fun x => x.metatype)) (.type "tuple") = pure false := by rw [isSubtype_type]; kernel_rfl
theorem meta_A : isSubtype (.type ((Manifest.find? "AttributeError").elim "type" fun x => x.metatype)) (.type "tuple") = pure false := by rw [isSubtype_type]; kernel_rfl
section
variable {prog : Program} {w : World} {A : Around} {E : Value → Shared → Prop} {s : Shared} {env : Env} {m cm mg mb : Str → Option Value} {H : Heap}
/-- one handler that takes X -/
theorem takes {X : String} {e : Addr} {a0 : Value} {outer : List Env} {q0 q1 q2 q3 q4 : Pos} {rest : List ExceptHandler} {Q : Flow → Shared → Prop} (T : TE env mg mb) (hexc : isSubtype (.type X) (.type "BaseException") = pure true) (hnt : isSubtype (.type ((Manifest.find? X).elim "type" fun x => x.metatype)) (.type "tuple") = pure false) (hsub : isSubtype (.type X) (.type X) = pure true)
    (hX : env.kindOf (Str.ofString X) = some .globalImplicit) (hxd : (Str.ofString X == ("__debug__" : Str)) = false) (n1 : mg (Str.ofString X) = none) (n2 : mb (Str.ofString X) = some (.type X)) (hg : H.Ns mainGlobals mg) (hb : H.Ns builtinsNs mb)
    (no : ∀ b ∈ fW env, H.get? b = none) (fl : Heap.FlyingW H outer e (.type X) a0 s.heap) (F : Fm s.heap env m cm) (hq : ∀ h' tk', Kpt H h' → Fm h' env (upd m "told" (.type X)) cm → Q .next { s with heap := h', toks := tk' }) :
    wpAny (model prog w) A (handleBy (.ref e) env (hdl X q0 q1 q2 q3 q4 :: rest)) Q E s := by
  obtain ⟨ob, hob, hobc⟩ := fl.there
  refine wpAny_handleBy_builtin (X := X) (T := X) (b := true) hexc hnt hsub (Name_function_global T.hk hX (loadGlobal_builtin (by rw [T.eg]; exact hg.keeps fl.1) n1 (by rw [T.eb]; exact hb.keeps fl.1) n2 ⟨rfl, ⟨ob, hob, hobc⟩, ?_⟩) hxd)
  rw [if_pos rfl]
  refine lands_againW fl fun h₁ fl₁ up₁ => ?_
  refine suite_walk (s := { s with heap := h₁ }) (B := H) (x := e) (a0 := a0) T.hk T.told hX hxd (by rw [T.eg]; exact hg.keeps fl₁.1) (by rw [T.eb]; exact hb.keeps fl₁.1) n1 n2 (F.slots up₁) fun h' tk' F' x' => ?_
  exact hq h' tk' (fun b o eb => x' b o (fun q => by rw [no b q] at eb; cases eb) (fl₁.1 b o eb)) F'
/-- a handler that lets an AttributeError pass on to the next -/
theorem passes {e : Addr} {a0 : Value} {outer : List Env} {q0 q1 q2 q3 q4 : Pos} {rest : List ExceptHandler} {Q : Flow → Shared → Prop} (T : TE env mg mb)
    (n1 : mg "KeyError" = none) (n2 : mb "KeyError" = some (.type "KeyError")) (hg : H.Ns mainGlobals mg) (hb : H.Ns builtinsNs mb)
    (fl : Heap.FlyingW H outer e (.type "AttributeError") a0 s.heap) (h : wpAny (model prog w) A (handleBy (.ref e) env rest) Q E s) :
    wpAny (model prog w) A (handleBy (.ref e) env (hdl "KeyError" q0 q1 q2 q3 q4 :: rest)) Q E s := by
  obtain ⟨ob, hob, hobc⟩ := fl.there
  refine wpAny_handleBy_builtin (X := "AttributeError") (T := "KeyError") (b := false) sub_KB meta_K sub_KA (Name_function_global T.hk T.ke (loadGlobal_builtin (by rw [T.eg]; exact hg.keeps fl.1) n1 (by rw [T.eb]; exact hb.keeps fl.1) n2 ⟨rfl, ⟨ob, hob, hobc⟩, ?_⟩))
  rw [if_neg (by decide)]
  exact h
/-- told = made[k](one, two), and what is told if that is refused -/
theorem try_walk {k : Nat} {t : Tok} {X Y : Value} {f md : Addr} {items : Array Value} {res : Res} {dep un : Nat} {Q : Flow → Shared → Prop} (T : TE env mg mb) (N : BN mg mb) (hA : A.frames = some [env]) (hh : A.handled = none)
    (hd : A.depth + dep < recursionLimit) (hu : A.units + un < cLine) (hres : ∀ X, res = .exc X → X = "KeyError" ∨ X = "AttributeError")
    (F : Fm s.heap env m cm) (kp : Kpt H s.heap) (no : ∀ b ∈ fW env, H.get? b = none) (hg : H.Ns mainGlobals mg) (hb : H.Ns builtinsNs mb)
    (hm : m "made" = some (.ref md)) (hl : H.IsList md items) (hf : items[k]? = some (.ref f)) (hfo : ∃ fo fd, H.get? f = some fo ∧ fo.data = .func fd) (hk : m "k" = some (.int k t)) (hk12 : k < 12) (h1 : m "one" = some X) (h2 : m "two" = some Y)
    (D : Does prog w H (call (.ref f) [X, Y]) res.out dep un)
    (hq : ∀ h' tk', Fm h' env (upd m "told" (dueV res)) cm → Ex (fW env) s.heap h' → Q .next { s with heap := h', toks := tk' }) :
    wpAny (model prog w) A (exec (.Try [.Assign [.Name "told" ⟨154, 20, 154, 24⟩] (.Call (.Subscript (.Name "made" ⟨154, 27, 154, 31⟩) (.Name "k" ⟨154, 32, 154, 33⟩) ⟨154, 27, 154, 34⟩) [.Name "one" ⟨154, 35, 154, 38⟩, .Name "two" ⟨154, 40, 154, 43⟩] [] ⟨154, 27, 154, 44⟩) ⟨154, 20, 154, 44⟩] [hdl "KeyError" ⟨155, 23, 155, 31⟩ ⟨156, 20, 156, 24⟩ ⟨156, 27, 156, 35⟩ ⟨156, 20, 156, 35⟩ ⟨155, 16, 156, 35⟩, hdl "AttributeError" ⟨157, 23, 157, 37⟩ ⟨158, 20, 158, 24⟩ ⟨158, 27, 158, 41⟩ ⟨158, 20, 158, 41⟩ ⟨157, 16, 158, 41⟩] [] [] ⟨153, 16, 158, 41⟩) env) Q E s := by
  obtain ⟨h, g, d, tk, os⟩ := s
  dsimp only at F kp hq
  have hH : Kpt H (hideAll h (fW env)) := fun b o eb => hideAll_get _ (kp b o eb) fun q => by rw [no b q] at eb; cases eb
  have ex : ∀ {h'}, Kpt (hideAll h (fW env)) h' → Ex (fW env) h h' := fun k b o nb eb => k b o (hideAll_get _ eb nb)
  have none' : ∀ b ∈ fW env, (hideAll h (fW env)).get? b = none := fun b hb => hideAll_none _ hb
  obtain ⟨fo, fd, hfo, hfd⟩ := hfo
  refine wpAny_Try_except (wpAny_execs_cons (wpAny_Assign_Name (Call_sub (Subscript_ (wpAny_Name (F.ldL (s := ⟨h, g, d, tk, os⟩) T.hk T.made hm (wpAny_Name (F.ldL (s := ⟨h, g, d, tk, os⟩) T.hk T.k hk ?_)))))))) 
  refine list_item (s := ⟨h, g, d, tk, os⟩) (hl.at fun o eo => kp _ _ eo) (by omega) (by omega) (by rw [Int.toNat_natCast]; exact hf) (by with_unfolding_all rfl) ?_
  refine callWith_function (o := fo) (fd := fd) (evalArgs_plain (spliced_cons (wpAny_Name (F.ldL (s := ⟨h, g, d, tk, os⟩) T.hk T.one h1 (spliced_cons (wpAny_Name (F.ldL (s := ⟨h, g, d, tk, os⟩) T.hk T.two h2 (spliced_nil ⟨⟨kp _ _ hfo, hfd⟩, ?_⟩))))))))
  have R : Rm A (hideAll h (fW env)) ⟨h, g, d, tk, os⟩ dep un := by
    refine ⟨hd, hu, hh, [env], hA, fun b o eb => of_hideAll _ eb, ?_⟩
    obtain ⟨o, es, ep, eo, dd, _⟩ := F.ns
    exact ⟨by rw [T.hk]; decide, ⟨env.locals, o, T.fr, none' _ (.head _), eo, fun vs q => by rw [dd] at q; cases q⟩, trivial⟩
  refine D A _ _ _ _ R kp ?_
  cases hr : res with
  | bool b =>
    subst hr
    rintro v h' tk' rfl kk
    refine (F.keeps kk).stL (s := ⟨h', g, d, tk', os⟩) T.hk T.told fun h'' tk'' F' x' => wpAny_execs_nil (wpAny_execs_nil (hq h'' tk'' F' ((Ex.of kk).trans x')))
  | ni =>
    subst hr
    rintro v h' tk' rfl kk
    refine (F.keeps kk).stL (s := ⟨h', g, d, tk', os⟩) T.hk T.told fun h'' tk'' F' x' => wpAny_execs_nil (wpAny_execs_nil (hq h'' tk'' F' ((Ex.of kk).trans x')))
  | exc X' =>
    rintro v s' ⟨e, h', tk', a0, outer, rfl, rfl, hfr, hfl, up⟩
    rw [hA] at hfr
    cases hfr
    refine wpAny_looks_onW (s := ⟨h', g, d, tk', os⟩) hA T.fr hfl fun h₁ held up₁ => ?_
    refine wpAny_landsW (s := ⟨h₁, g, d, tk', os⟩) held fun h₂ fl₂ up₂ => ?_
    have F₂ : Fm h₂ env m cm := F.slots ((up.trans up₁).trans up₂)
    rcases hres X' hr with rfl | rfl
    · exact takes (s := ⟨h₂, g, d, tk', os⟩) (X := "KeyError") T sub_KB meta_K sub_KK T.ke (by decide) (N.ty "KeyError" (by decide)).1 (N.ty "KeyError" (by decide)).2 (hg.keeps hH) (hb.keeps hH) none' fl₂ F₂ fun h'' tk'' k F' => hq h'' tk'' (by rw [hr]; exact F') (ex k)
    · refine passes (s := ⟨h₂, g, d, tk', os⟩) T (N.ty "KeyError" (by decide)).1 (N.ty "KeyError" (by decide)).2 (hg.keeps hH) (hb.keeps hH) fl₂ ?_
      exact takes (s := ⟨h₂, g, d, tk', os⟩) (X := "AttributeError") T sub_AB meta_A sub_AttributeError T.ae (by decide) (N.ty "AttributeError" (by decide)).1 (N.ty "AttributeError" (by decide)).2 (hg.keeps hH) (hb.keeps hH) none' fl₂ F₂ fun h'' tk'' k F' => hq h'' tk'' (by rw [hr]; exact F') (ex k)
end
end Mine
end

-- part R28
section
open PySem PySem.W PySem.W.X PySem.Calls PyProof.Rows
set_option maxRecDepth 100000
set_option linter.unusedVariables false
set_option maxHeartbeats 1000000
namespace Mine
theorem isnot_due {M : Model} {A : Around} {E : Value → Shared → Prop} {s : Shared} {r : Res} {Q : Value → Shared → Prop} (h : Q (.bool false) s) : wpAny M A (compareOp .IsNot (dueV r) (dueV r)) Q E s := by
  cases r with
  | bool b =>
    have e : (!(Value.bool b == Value.bool b)) = false := by simp
    exact wpAny_pure (a := Value.bool (!(Value.bool b == Value.bool b))) (by rw [e]; exact h)
  | ni => exact wpAny_pure (a := Value.bool (!(Value.notImplemented == Value.notImplemented))) h
  | exc X => exact isnot_type_same h
section
variable {prog : Program} {w : World} {A : Around} {E : Value → Shared → Prop} {env : Env} {m cm mg mb : Str → Option Value} {H h : Heap} {g : Array GenState} {d : Drawn} {tk : Nat} {os : OsState}
/-- for k in range(12) .. -/
theorem k_loop {X Y : Value} {fs : Nat → Addr} {md du : Addr} {items dits : Array Value} {res : Nat → Res} {dep un : Nat} {Q : Flow → Shared → Prop} (T : TE env mg mb) (kd : env.kindOf "due" = some .local) (kr : env.kindOf "range" = some .globalImplicit) (N : BN mg mb) (hA : A.frames = some [env]) (hh : A.handled = none)
    (hd : A.depth + dep < recursionLimit) (hu : A.units + un < cLine) (hres : ∀ k, k < 12 → ∀ X, res k = .exc X → X = "KeyError" ∨ X = "AttributeError")
    (F : Fm h env m cm) (kp : Kpt H h) (no : ∀ b ∈ fW env, H.get? b = none) (hg : H.Ns mainGlobals mg) (hb : H.Ns builtinsNs mb)
    (hm : m "made" = some (.ref md)) (hl : H.IsList md items) (hf : ∀ k, k < 12 → items[k]? = some (.ref (fs k)) ∧ (∃ fo fd, H.get? (fs k) = some fo ∧ fo.data = .func fd)) (h1 : m "one" = some X) (h2 : m "two" = some Y)
    (hmd : m "due" = some (.ref du)) (hDl : H.IsList du dits) (hdu : ∀ k, k < 12 → dits[k]? = some (dueV (res k)))
    (D : ∀ k, k < 12 → Does prog w H (call (.ref (fs k)) [X, Y]) (res k).out dep un)
    (hq : ∀ h' tk' m', Fm h' env m' cm → (∀ n, n ≠ ("k" : Str) → n ≠ ("told" : Str) → m' n = m n) → Ex (fW env) h h' → Q .next ⟨h', g, d, tk', os⟩) :
    wpAny (model prog w) A (exec (.For (.Name "k" ⟨152, 16, 152, 17⟩) (.Call (.Name "range" ⟨152, 21, 152, 26⟩) [.Constant (.int 12) 0 ⟨152, 27, 152, 29⟩] [] ⟨152, 21, 152, 30⟩)
      [.Try [.Assign [.Name "told" ⟨154, 20, 154, 24⟩] (.Call (.Subscript (.Name "made" ⟨154, 27, 154, 31⟩) (.Name "k" ⟨154, 32, 154, 33⟩) ⟨154, 27, 154, 34⟩) [.Name "one" ⟨154, 35, 154, 38⟩, .Name "two" ⟨154, 40, 154, 43⟩] [] ⟨154, 27, 154, 44⟩) ⟨154, 20, 154, 44⟩] [hdl "KeyError" ⟨155, 23, 155, 31⟩ ⟨156, 20, 156, 24⟩ ⟨156, 27, 156, 35⟩ ⟨156, 20, 156, 35⟩ ⟨155, 16, 156, 35⟩, hdl "AttributeError" ⟨157, 23, 157, 37⟩ ⟨158, 20, 158, 24⟩ ⟨158, 27, 158, 41⟩ ⟨158, 20, 158, 41⟩ ⟨157, 16, 158, 41⟩] [] [] ⟨153, 16, 158, 41⟩,
       .If (.Compare (.Name "told" ⟨159, 19, 159, 23⟩) [.IsNot] [.Subscript (.Name "due" ⟨159, 31, 159, 34⟩) (.Name "k" ⟨159, 35, 159, 36⟩) ⟨159, 31, 159, 37⟩] ⟨159, 19, 159, 37⟩) [.Return (some (.Constant (.bool false) 0 ⟨160, 27, 160, 32⟩)) ⟨160, 20, 160, 32⟩] [] ⟨159, 16, 160, 32⟩] [] ⟨152, 12, 160, 32⟩) env) Q E ⟨h, g, d, tk, os⟩ := by
  refine wpAny_For (range_it (s := ⟨h, g, d, tk, os⟩) hh T.hk kr (by rw [T.eg]; exact hg.keeps kp) (N.ty "range" (by decide)).1 (by rw [T.eb]; exact hb.keeps kp) (N.ty "range" (by decide)).2 rfl (wpAny_Constant_int ⟨12, _, rfl, by decide, by decide, fun I h₂ tk₂ W hI nI k₂ => ?_⟩))
  dsimp only at nI k₂
  have IW : I ∉ fW env := F.apartOf nI
  refine codeAny_forLoop (fun n s' => ∃ h' tk' m' i, s' = ⟨h', g, d, tk', os⟩ ∧ IsRangeIter h' I (0 + (i : Nat) * 1) (((12 : Int).toNat : Int) - (i : Nat)) 1 ∧ Fm h' env m' cm ∧ (∀ n, n ≠ ("k" : Str) → n ≠ ("told" : Str) → m' n = m n) ∧ (∀ b o, b ∉ fW env → b ≠ I → h.get? b = some o → h'.get? b = some o) ∧ i ≤ 12 ∧ n = 13 - i)
    ?turn 13 ⟨h₂, tk₂, m, 0, rfl, hI, F.keeps k₂, fun _ _ _ => rfl, fun b o _ _ eb => k₂ b o eb, Nat.zero_le _, rfl⟩
  rintro n s' ⟨h', tk', m', i, rfl, hit, F', hm', keep, hi, rfl⟩
  by_cases hlt : i < 12
  · refine W.item i _ _ _ hlt hit fun v h2' tk2 hp hit2 ks => ?_
    obtain ⟨tv, rfl⟩ := hp
    rw [show (0 + (i : Int) * 1) = (i : Int) from turn_ix i]
    have ks' : ∀ b o, b ≠ I → h'.get? b = some o → h2'.get? b = some o := fun b o nb => ks b o (by rw [List.mem_singleton]; exact nb)
    have F2 : Fm h2' env m' cm := F'.via fun b o eb hb _ => ks' b o (fun q => IW (q ▸ hb)) eb
    refine wpAny_assign_Name (F2.stL (s := ⟨h2', g, d, tk2, os⟩) T.hk T.k fun h3 tk3 F3 x3 => ?_)
    have nH : ∀ b o, H.get? b = some o → b ∉ fW env ∧ b ≠ I := fun b o eb => ⟨(fun q => by rw [no b q] at eb; cases eb), (fun q => by rw [q] at eb; have := kp _ _ eb; rw [show h.get? I = none from nI] at this; cases this)⟩
    have kp3 : Kpt H h3 := fun b o eb => x3 b o (nH b o eb).1 (ks' b o (nH b o eb).2 (keep b o (nH b o eb).1 (nH b o eb).2 (kp b o eb)))
    have hit3 := x3 _ _ IW hit2
    refine wpAny_execs_cons (try_walk (s := ⟨h3, g, d, tk3, os⟩) (k := i) (t := tv) T N hA hh hd hu (hres i hlt) F3 kp3 no hg hb ((hm' "made" (by decide) (by decide)).trans hm) hl (hf i hlt).1 (hf i hlt).2 rfl hlt ((hm' "one" (by decide) (by decide)).trans h1) ((hm' "two" (by decide) (by decide)).trans h2) (D i hlt) fun h4 tk4 F4 x4 => ?_)
    have kp4 : Kpt H h4 := fun b o eb => x4 b o (nH b o eb).1 (kp3 b o eb)
    refine wpAny_execs_cons (wpAny_If (wpAny_isTrue_Compare1 (wpAny_Name (F4.ldL (s := ⟨h4, g, d, tk4, os⟩) T.hk T.told rfl (Subscript_ (wpAny_Name (F4.ldL (s := ⟨h4, g, d, tk4, os⟩) T.hk kd ((hm' "due" (by decide) (by decide)).trans hmd) (wpAny_Name (F4.ldL (s := ⟨h4, g, d, tk4, os⟩) T.hk T.k rfl ?_)))))))))
    refine list_item (s := ⟨h4, g, d, tk4, os⟩) (hDl.at fun o eo => kp4 _ _ eo) (Int.natCast_nonneg i) (small_ix hlt (by decide)) (by rw [Int.toNat_natCast]; exact hdu i hlt) (by with_unfolding_all rfl) (isnot_due (wpAny_truthy_bool ?_))
    rw [if_neg Bool.false_ne_true]
    refine wpAny_execs_nil (wpAny_execs_nil ⟨13 - (i + 1), turn_lt (N := 12) hlt, h4, tk4, _, i + 1, rfl, x4 _ _ IW hit3, F4, fun n n1 n2 => ?_, fun b o n1 n2 eb => x4 b o n1 (x3 b o n1 (ks' b o n2 (keep b o n1 n2 eb))), hlt, rfl⟩)
    show (if n = "told" then _ else if n = "k" then _ else m' n) = m n
    rw [if_neg n2, if_neg n1, hm' n n1 n2]
  · have hie : i = 12 := turn_end hi hlt
    subst hie
    refine W.done _ _ _ hit fun h2' tk2 ks => wpAny_execs_nil ?_
    have ks' : ∀ b o, b ≠ I → h'.get? b = some o → h2'.get? b = some o := fun b o nb => ks b o (by rw [List.mem_singleton]; exact nb)
    exact hq h2' tk2 m' (F'.via fun b o eb hb _ => ks' b o (fun q => IW (q ▸ hb)) eb) hm' fun b o n1 eb => by
      have n2 : b ≠ I := fun q => by rw [q, show h.get? I = none from nI] at eb; cases eb
      exact ks' b o n2 (keep b o n1 n2 eb)
end
end Mine
end

-- part R29
section
open PySem PySem.W PySem.W.X PySem.Calls PyProof.Rows
set_option maxRecDepth 100000
set_option linter.unusedVariables false
set_option maxHeartbeats 1000000
namespace Mine
/-- all objects but one, as news -/
noncomputable def newsAll (h : Heap) (L : Addr) : List (Addr × Obj) := (whole h).filter fun p => p.1 != L
theorem newsAll_mem {h : Heap} {L b : Addr} {o : Obj} (e : h.get? b = some o) (n : b ≠ L) : (b, o) ∈ newsAll h L := by
  unfold newsAll
  refine List.mem_filter.mpr ⟨?_, by simpa using n⟩
  rw [← whole_lookup] at e
  exact mem_of_lookupK e
theorem newsAll_ok (h : Heap) (L : Addr) : News { objs := #[] } L h (newsAll h L) := by
  intro p hp
  obtain ⟨h1, h2⟩ := List.mem_filter.mp hp
  refine ⟨?_, by simpa using h2, by simp [Heap.get?]⟩
  unfold whole at h1
  obtain ⟨a, _, ha⟩ := List.mem_filterMap.mp h1
  cases q : h.get? a with
  | none => rw [q] at ha; cases ha
  | some o => rw [q] at ha; cases ha; exact q
section
variable {prog : Program} {w : World} {A : Around} {E : Value → Shared → Prop} {s : Shared} {env : Env} {m cm mg mb : Str → Option Value}
theorem fr0 {h : Heap} {L : Addr} (n : h.Ns L m) : Fr { objs := #[] } L h m := ⟨n, fun b o e => by simp [Heap.get?] at e, Nat.zero_le _⟩
theorem Fm.newL {h h' : Heap} (F : Fm h env m cm) (n : h'.Ns env.locals m) (k : ∀ b o, b ≠ env.locals → h.get? b = some o → h'.get? b = some o) : Fm h' env m cm := by
  refine ⟨n, fun c a hc => ?_, F.apart, F.named⟩
  obtain ⟨o, e, d⟩ := F.cell c a hc
  exact ⟨o, k _ _ (F.cellNe hc) e, d⟩
/-- l + b -/
theorem add_ls {l b : Addr} {vs ws : List Value} {Q : Value → Shared → Prop} (F : Fm s.heap env m cm) (hl : s.heap.IsList l vs.toArray) (hb : s.heap.IsList b ws.toArray) (hz : vs.length + ws.length ≤ 1000)
    (hq : ∀ D h', Fm h' env m cm → Ex (fW env) s.heap h' → s.heap.get? D = none → h'.get? D = some ⟨.type "list", none, .seq (vs ++ ws).toArray 0, #[]⟩ → Q (.ref D) { s with heap := h' }) : wpAny (model prog w) A (binaryOp .Add (.ref l) (.ref b)) Q E s := by
  refine add_lists (fr0 F.ns) (newsAll_ok s.heap env.locals) hl hb (fun h' F' N' => ?_) (by rw [sizeLine_eq]; omega)
  have k : ∀ b o, b ≠ env.locals → s.heap.get? b = some o → h'.get? b = some o := fun b o n e => (N' (b, o) (.tail _ (newsAll_mem e n))).1
  exact hq _ h' (F.newL F'.ns k) (fun b o n e => k b o (fun q => n (q ▸ .head _)) e) (Heap.get?_none_of_le (Nat.le_refl _)) (N' (_, _) (.head _)).1
/-- [v] * 12 -/
theorem mul12 {l : Addr} {v : Value} {u : Tok} {Q : Value → Shared → Prop} (F : Fm s.heap env m cm) (hl : s.heap.get? l = some ⟨.type "list", none, .seq #[v] 0, #[]⟩)
    (hq : ∀ D h', Fm h' env m cm → Ex (fW env) s.heap h' → s.heap.get? D = none → h'.get? D = some ⟨.type "list", none, .seq #[v, v, v, v, v, v, v, v, v, v, v, v] 0, #[]⟩ → Q (.ref D) { s with heap := h' }) : wpAny (model prog w) A (binaryOp .Mult (.ref l) (.int 12 u)) Q E s := by
  refine mul_list (fr0 F.ns) (newsAll_ok s.heap env.locals) hl (by decide) (by decide) (by simp) fun h' F' N' => ?_
  have k : ∀ b o, b ≠ env.locals → s.heap.get? b = some o → h'.get? b = some o := fun b o n e => (N' (b, o) (.tail _ (newsAll_mem e n))).1
  exact hq _ h' (F.newL F'.ns k) (fun b o n e => k b o (fun q => n (q ▸ .head _)) e) (Heap.get?_none_of_le (Nat.le_refl _)) (N' (_, _) (.head _)).1
end
end Mine
end

-- part R30
section
open PySem PySem.W PySem.W.X PySem.Calls PyProof.Rows
set_option maxRecDepth 100000
set_option linter.unusedVariables false
set_option maxHeartbeats 1000000
namespace Mine
noncomputable abbrev lLoc : List Str := ["k", "numbers", "make", "made", "place", "x", "w", "kind", "due", "stand", "within", "around", "less", "more", "one", "two", "told"]
noncomputable abbrev lGlo : List Str := ["range", "min", "len", "cmp_to_key", "_law_answer", "AttributeError", "NotImplemented", "_law_stand", "KeyError", "_law_value"]
/-- the law's own frame -/
structure LE (env : Env) : Prop where
  hk : env.scope.kind = .function
  fr : env.frame = some env.locals
  eg : env.globals = mainGlobals
  eb : env.builtins = builtinsNs
  loc : ∀ n ∈ lLoc, env.kindOf n = some .local
  glo : ∀ n ∈ lGlo, env.kindOf n = some .globalImplicit
  cel : env.kindOf "script" = some .cell ∧ ∃ c, env.cells.lookup ("script" : Str) = some c
  ec : env.code = .ref 135
  eq : env.qual ++ "<lambda>" = "law.<locals>.<lambda>"
theorem LE.te {env : Env} {mg mb : Str → Option Value} (e : LE env) : TE env mg mb :=
  ⟨e.hk, e.fr, e.eg, e.eb, e.loc _ (by decide), e.loc _ (by decide), e.loc _ (by decide), e.loc _ (by decide), e.loc _ (by decide), e.glo _ (by decide), e.glo _ (by decide)⟩
/-- a list of the twelve answers due -/
noncomputable def DueAt (h : Heap) (D : Addr) (res : Nat → Res) : Prop := ∃ dits, h.IsList D dits ∧ ∀ k, k < 12 → dits[k]? = some (dueV (res k))
theorem due_flat {h : Heap} {D : Addr} {v : Value} {r : Res} (hv : v = dueV r) (e : h.get? D = some ⟨.type "list", none, .seq #[v, v, v, v, v, v, v, v, v, v, v, v] 0, #[]⟩) : DueAt h D fun _ => r := by
  subst hv
  refine ⟨_, ⟨_, e, rfl, _, rfl⟩, fun k hk => ?_⟩
  rcases twelve hk with rfl | rfl | rfl | rfl | rfl | rfl | rfl | rfl | rfl | rfl | rfl | rfl <;> rfl
theorem Fm.wokF {h : Heap} {env : Env} {m cm : Str → Option Value} (F : Fm h env m cm) {b : Addr} {o : Obj} (e : h.get? b = some o) (h1 : ∀ es ep, o.data ≠ .dict es ep) (h2 : ∀ v, o.data ≠ .cell v) : b ∉ fW env := F.wok.off e h1 h2
theorem isList_fm {h h' : Heap} {env : Env} {m cm : Str → Option Value} {l : Addr} {xs : Array Value} (F : Fm h env m cm) (k : Ex (fW env) h h') (y : h.IsList l xs) : h'.IsList l xs := by
  obtain ⟨o, e, c, n, d⟩ := y
  exact ⟨o, k _ _ (F.wokF e (by intro _ _ q; rw [d] at q; cases q) (by intro _ q; rw [d] at q; cases q)) e, c, n, d⟩
theorem DueAt.ex {h h' : Heap} {env : Env} {m cm : Str → Option Value} {D : Addr} {res : Nat → Res} (F : Fm h env m cm) (k : Ex (fW env) h h') (y : DueAt h D res) : DueAt h' D res := by
  obtain ⟨dits, hl, hk⟩ := y
  exact ⟨dits, isList_fm F k hl, hk⟩
section
variable {prog : Program} {w : World} {A : Around} {E : Value → Shared → Prop} {env : Env} {m cm mg mb : Str → Option Value} {h : Heap} {g : Array GenState} {d : Drawn} {tk : Nat} {os : OsState}
theorem lv {n : Str} {p : Pos} {v : Value} {Q : Value → Shared → Prop} (e : LE env) (F : Fm h env m cm) (hn : n ∈ lLoc) (hm : m n = some v) (hq : Q v ⟨h, g, d, tk, os⟩) (hd : (n == ("__debug__" : Str)) = false := by decide) : wpAny (model prog w) A (eval (.Name n p) env) Q E ⟨h, g, d, tk, os⟩ :=
  wpAny_Name (F.ldL (s := ⟨h, g, d, tk, os⟩) e.hk (e.loc n hn) hm hq) hd
theorem sv {n : Str} {v : Value} {Q : Unit → Shared → Prop} (e : LE env) (F : Fm h env m cm) (hn : n ∈ lLoc) (hq : ∀ h' tk', Fm h' env (upd m n v) cm → Ex (fW env) h h' → Q () ⟨h', g, d, tk', os⟩) : wpAny (model prog w) A (storeName env n v) Q E ⟨h, g, d, tk, os⟩ :=
  F.stL (s := ⟨h, g, d, tk, os⟩) e.hk (e.loc n hn) hq
/-- a built-in class by its name -/
theorem gv {X : String} {p : Pos} {Q : Value → Shared → Prop} (e : LE env) (N : BN mg mb) (hg : h.Ns mainGlobals mg) (hb : h.Ns builtinsNs mb) (hn : Str.ofString X ∈ lGlo) (hX : X ∈ (["zip", "range", "tuple", "KeyError", "AttributeError", "type"] : List String)) (hq : Q (.type X) ⟨h, g, d, tk, os⟩) (hd : (Str.ofString X == ("__debug__" : Str)) = false := by decide) :
    wpAny (model prog w) A (eval (.Name (Str.ofString X) p) env) Q E ⟨h, g, d, tk, os⟩ :=
  Name_function_global e.hk (e.glo _ hn) (loadGlobal_builtin (by rw [e.eg]; exact hg) (N.ty X hX).1 (by rw [e.eb]; exact hb) (N.ty X hX).2 hq) hd
/-- due = [v] * 12 -/
theorem st_flat {v : Value} {r : Res} {ve : Expr} {p1 p2 p3 p4 p5 : Pos} {Q : Flow → Shared → Prop} (e : LE env) (F : Fm h env m cm) (hv : v = dueV r) (hse : backTo p2 (starEach [ve] env) = [(false, eval ve env)])
    (hve : ∀ (Q' : Value → Shared → Prop) (tk : Nat), (∀ tk', Q' v ⟨h, g, d, tk', os⟩) → wpAny (model prog w) A (eval ve env) Q' E ⟨h, g, d, tk, os⟩)
    (hq : ∀ D h' tk', Fm h' env (upd m "due" (.ref D)) cm → Ex (fW env) h h' → DueAt h' D (fun _ => r) → Q .next ⟨h', g, d, tk', os⟩) :
    wpAny (model prog w) A (exec (.Assign [.Name "due" p1] (.BinOp (.List [ve] p2) .Mult (.Constant (.int 12) 0 p3) p4) p5) env) Q E ⟨h, g, d, tk, os⟩ := by
  refine wpAny_Assign_Name (wpAny_BinOp (wpAny_List ?_))
  rw [hse]
  refine spliced_cons (hve _ _ fun tk' => spliced_nil ⟨by rw [sizeLine_eq]; simp, wpAny_Constant_int ?_⟩)
  have k1 : Kpt h (h.push { cls := .type "list", data := .seq [v].toArray }) := fun b o eb => Heap.get?_push_of_some _ eb
  have F1 := F.keeps k1
  refine mul12 (s := ⟨h.push { cls := .type "list", data := .seq [v].toArray }, g, d, _, os⟩) F1 (Heap.get?_push_size _ rfl) fun D h2 F2 x2 n2 e2 => ?_
  refine sv e F2 (by decide) fun h3 tk3 F3 x3 => ?_
  exact hq D h3 tk3 F3 (((Ex.of k1).trans x2).trans x3) ((due_flat hv e2).ex F2 x3)
end
end Mine
end

-- part R31
section
open PySem PySem.W PySem.W.X PySem.Calls PyProof.Rows
set_option maxRecDepth 100000
set_option linter.unusedVariables false
set_option maxHeartbeats 1000000
namespace Mine
section
variable {prog : Program} {w : World} {A : Around} {E : Value → Shared → Prop} {env : Env} {m cm mg mb : Str → Option Value} {h : Heap} {g : Array GenState} {d : Drawn} {tk : Nat} {os : OsState}
/-- a name, not a name: of a bool -/
theorem nv {n : Str} {p q : Pos} {b : Bool} {Q : Value → Shared → Prop} (e : LE env) (F : Fm h env m cm) (hn : n ∈ lLoc) (hm : m n = some (.bool b)) (hq : Q (.bool (!b)) ⟨h, g, d, tk, os⟩) (hd : (n == ("__debug__" : Str)) = false := by decide) : wpAny (model prog w) A (eval (.UnaryOp .Not (.Name n p) q) env) Q E ⟨h, g, d, tk, os⟩ :=
  wpAny_UnaryOp (lv e F hn hm (not_of (wpAny_truthy_bool hq)) hd)
/-- n = a and not b -/
theorem st_and {n n1 n2 : Str} {u v : Bool} {p1 p2 p3 p4 p5 p6 : Pos} {Q : Flow → Shared → Prop} (e : LE env) (F : Fm h env m cm) (hn : n ∈ lLoc) (hn1 : n1 ∈ lLoc) (hn2 : n2 ∈ lLoc) (h1 : m n1 = some (.bool u)) (h2 : m n2 = some (.bool v))
    (hq : ∀ h' tk', Fm h' env (upd m n (.bool (u && !v))) cm → Ex (fW env) h h' → Q .next ⟨h', g, d, tk', os⟩) (hd1 : (n1 == ("__debug__" : Str)) = false := by decide) (hd2 : (n2 == ("__debug__" : Str)) = false := by decide) :
    wpAny (model prog w) A (exec (.Assign [.Name n p1] (.BoolOp .And [.Name n1 p2, .UnaryOp .Not (.Name n2 p3) p4] p5) p6) env) Q E ⟨h, g, d, tk, os⟩ := by
  refine wpAny_Assign_Name (boolOp_two (lv e F hn1 h1 ⟨u, rfl, ?_⟩ hd1))
  cases u with
  | false => rw [if_pos (by rfl)]; exact sv e F hn fun h' tk' F' x' => hq h' tk' F' x'
  | true => rw [if_neg (by decide)]; exact nv e F hn2 h2 (sv e F hn fun h' tk' F' x' => hq h' tk' F' x') hd2
noncomputable abbrev notE (n : Str) (p q : Pos) : Expr := .UnaryOp .Not (.Name n p) q
theorem due_bools {D : Addr} {u v : Bool} (e : h.get? D = some ⟨.type "list", none, .seq (([.bool (u && !v), .bool (!v), .bool (!v), .bool u, .bool (!(v && !u)), .bool (!(v && !u))] : List Value) ++ ([.bool (!u), .bool (!u), .bool (v && !u), .bool (!(u && !v)), .bool (!(u && !v)), .bool v] : List Value)).toArray 0, #[]⟩) : DueAt h D (dueRes (some (u, v))) := by
  refine ⟨_, ⟨_, e, rfl, _, rfl⟩, fun k hk => ?_⟩
  rcases twelve hk with rfl | rfl | rfl | rfl | rfl | rfl | rfl | rfl | rfl | rfl | rfl | rfl <;> rfl
/-- within, around = stand; .. -/
theorem st_bools {t : Addr} {u v : Bool} {Q : Flow → Shared → Prop} (e : LE env) (hh : A.handled = none) (F : Fm h env m cm) (hs : m "stand" = some (.ref t)) (ht : h.IsTuple t #[.bool u, .bool v])
    (hq : ∀ D h' tk' m', Fm h' env m' cm → (∀ n, n ∉ (["within", "around", "less", "more", "due"] : List Str) → m' n = m n) → m' "due" = some (.ref D) → Ex (fW env) h h' → DueAt h' D (dueRes (some (u, v))) → Q .next ⟨h', g, d, tk', os⟩) :
    wpAny (model prog w) A (execs [.Assign [.Tuple [.Name "within" ⟨145, 20, 145, 26⟩, .Name "around" ⟨145, 28, 145, 34⟩] 0 ⟨145, 20, 145, 34⟩] (.Name "stand" ⟨145, 37, 145, 42⟩) ⟨145, 20, 145, 42⟩,
      .Assign [.Name "less" ⟨146, 20, 146, 24⟩] (.BoolOp .And [.Name "within" ⟨146, 27, 146, 33⟩, .UnaryOp .Not (.Name "around" ⟨146, 43, 146, 49⟩) ⟨146, 39, 146, 49⟩] ⟨146, 27, 146, 50⟩) ⟨146, 20, 146, 50⟩,
      .Assign [.Name "more" ⟨147, 20, 147, 24⟩] (.BoolOp .And [.Name "around" ⟨147, 27, 147, 33⟩, .UnaryOp .Not (.Name "within" ⟨147, 43, 147, 49⟩) ⟨147, 39, 147, 49⟩] ⟨147, 27, 147, 50⟩) ⟨147, 20, 147, 50⟩,
      .Assign [.Name "due" ⟨148, 20, 148, 23⟩] (.List [.Name "less" ⟨148, 27, 148, 31⟩, notE "around" ⟨148, 37, 148, 43⟩ ⟨148, 33, 148, 43⟩, notE "around" ⟨148, 49, 148, 55⟩ ⟨148, 45, 148, 55⟩, .Name "within" ⟨148, 57, 148, 63⟩, notE "more" ⟨148, 69, 148, 73⟩ ⟨148, 65, 148, 73⟩, notE "more" ⟨148, 79, 148, 83⟩ ⟨148, 75, 148, 83⟩] ⟨148, 26, 148, 84⟩) ⟨148, 20, 148, 84⟩,
      .Assign [.Name "due" ⟨149, 20, 149, 23⟩] (.BinOp (.Name "due" ⟨149, 26, 149, 29⟩) .Add (.List [notE "within" ⟨149, 37, 149, 43⟩ ⟨149, 33, 149, 43⟩, notE "within" ⟨149, 49, 149, 55⟩ ⟨149, 45, 149, 55⟩, .Name "more" ⟨149, 57, 149, 61⟩, notE "less" ⟨149, 67, 149, 71⟩ ⟨149, 63, 149, 71⟩, notE "less" ⟨149, 77, 149, 81⟩ ⟨149, 73, 149, 81⟩, .Name "around" ⟨149, 83, 149, 89⟩] ⟨149, 32, 149, 90⟩) ⟨149, 26, 149, 90⟩) ⟨149, 20, 149, 90⟩] env) Q E ⟨h, g, d, tk, os⟩ := by
  have hs' : ∀ {n : Str} {v' : Value} {m : Str → Option Value} {x : Str}, x ≠ n → upd m n v' x = m x := fun hne => if_neg hne
  refine wpAny_execs_cons (Assign_Tuple (lv e F (by decide) hs (wpAny_assign_Tuple (s := ⟨h, g, d, tk, os⟩) hh ht rfl rfl fun h1 ex1 => ?_)))
  have k1 : Kpt h h1 := fun b o eb => ex1 b o (Nat.ne_of_lt (Heap.lt_size eb)) eb
  refine wpAny_assignInOrder_more (wpAny_assign_Name (sv e (F.keeps k1) (by decide) fun h2 tk2 F2 x2 => ?_))
  refine wpAny_assignInOrder_more (wpAny_assign_Name (sv e F2 (by decide) fun h3 tk3 F3 x3 => wpAny_assignInOrder_none ?_))
  refine wpAny_execs_cons (st_and e F3 (by decide) (by decide) (by decide) rfl rfl fun h4 tk4 F4 x4 => ?_)
  refine wpAny_execs_cons (st_and e F4 (by decide) (by decide) (by decide) rfl rfl fun h5 tk5 F5 x5 => ?_)
  refine wpAny_execs_cons (wpAny_Assign_Name (wpAny_List ?_))
  refine spliced_cons (lv e F5 (by decide) rfl (spliced_cons (nv e F5 (by decide) rfl (spliced_cons (nv e F5 (by decide) rfl (spliced_cons (lv e F5 (by decide) rfl (spliced_cons (nv e F5 (by decide) rfl (spliced_cons (nv e F5 (by decide) rfl (spliced_nil ⟨by rw [sizeLine_eq]; simp, ?_⟩))))))))))))
  have kp : ∀ o, Kpt h5 (h5.push o) := fun o b ob eb => Heap.get?_push_of_some _ eb
  refine sv e (F5.keeps (kp _)) (by decide) fun h6 tk6 F6 x6 => ?_
  have n6 : h5.objs.size ∉ fW env := F5.apartOf (Heap.get?_none_of_le (Nat.le_refl _))
  have e6 := x6 _ _ n6 (Heap.get?_push_size _ rfl)
  refine wpAny_execs_cons (wpAny_Assign_Name (wpAny_BinOp (lv e F6 (by decide) rfl (wpAny_List ?_))))
  refine spliced_cons (nv e F6 (by decide) rfl (spliced_cons (nv e F6 (by decide) rfl (spliced_cons (lv e F6 (by decide) rfl (spliced_cons (nv e F6 (by decide) rfl (spliced_cons (nv e F6 (by decide) rfl (spliced_cons (lv e F6 (by decide) rfl (spliced_nil ⟨by rw [sizeLine_eq]; simp, ?_⟩))))))))))))
  have kp' : ∀ o, Kpt h6 (h6.push o) := fun o b ob eb => Heap.get?_push_of_some _ eb
  refine add_ls (s := ⟨h6.push _, g, d, _, os⟩) (F6.keeps (kp' _)) ⟨_, kp' _ _ _ e6, rfl, _, rfl⟩ ⟨_, Heap.get?_push_size _ rfl, rfl, _, rfl⟩ (by simp) fun D h7 F7 x7 n7 e7 => ?_
  refine sv e F7 (by decide) fun h8 tk8 F8 x8 => wpAny_execs_nil ?_
  refine hq D h8 tk8 _ F8 (fun n hn => ?_) rfl ((((((((Ex.of k1).trans x2).trans x3).trans x4).trans x5).trans ((Ex.of (kp _)).trans x6)).trans ((Ex.of (kp' _)).trans x7)).trans x8) ((due_bools e7).ex F7 x8)
  simp only [List.mem_cons, List.not_mem_nil, or_false, not_or] at hn
  obtain ⟨n1, n2, n3, n4, n5⟩ := hn
  rw [hs' n5, hs' n5, hs' n4, hs' n3, hs' n2, hs' n1]
end
end Mine
end

-- part R32
section
open PySem PySem.W PySem.W.X PySem.Calls PyProof.Rows
set_option maxRecDepth 100000
set_option linter.unusedVariables false
set_option maxHeartbeats 1000000
namespace Mine
/-- what stays of the law's things through all turns -/
structure SB (w : World) (H : Heap) (env : Env) (mg mb : Str → Option Value) (a : KA) (cc nb md : Addr) (fs : Nat → Addr) (ns : List Int) : Prop where
  no : ∀ b ∈ fW env, H.get? b = none
  tw : Twelve w H mg mb fs
  key : Key H a cc 112
  ini : InitAt H a.fi
  num : ∃ xs, H.IsList nb xs ∧ IntsAt ns xs.toList
  made : ∃ items, H.IsList md items ∧ ∀ k, k < 12 → items[k]? = some (.ref (fs k))
  bn : BN mg mb
/-- objects that no frame is made of -/
noncomputable def Stat (o : Obj) : Prop := (∀ v, o.data ≠ .cell v) ∧ ∀ es ep, o.data = .dict es ep → es = #[]
noncomputable def KptS (h h' : Heap) : Prop := ∀ b o, Stat o → h.get? b = some o → h'.get? b = some o
section
variable {prog : Program} {w : World} {H h h' : Heap} {env : Env} {m cm mg mb : Str → Option Value} {a : KA} {cc nb md : Addr} {fs : Nat → Addr} {ns : List Int} {kind y : Int} {X : Value}
theorem VAt.offS (k : KptS h h') (x : VAt prog w h a kind y X) : VAt prog w h' a kind y X := by
  have ki : ∀ b o, OfKey o → h.get? b = some o → h'.get? b = some o := fun b o ok e => k b o (by
    rcases ok with q | q
    · exact ⟨fun v z => (by rw [q] at z; cases z), fun es ep z => (by rw [q] at z; cases z)⟩
    · exact ⟨fun v z => (by rw [q] at z; cases z), fun es ep z => (by rw [q] at z; cases z; rfl)⟩) e
  unfold VAt at x ⊢
  by_cases c0 : kind = 0
  · rw [if_pos c0] at x ⊢; exact x
  rw [if_neg c0] at x ⊢
  by_cases c1 : kind = 1
  · rw [if_pos c1] at x ⊢; obtain ⟨x, t, e, i⟩ := x; exact ⟨x, t, e, i.off ki⟩
  rw [if_neg c1] at x ⊢
  by_cases c4 : kind = 4
  · rw [if_pos c4] at x ⊢
    obtain ⟨z, e, o, es, ep, t, ho, hx, hd, r⟩ := x
    exact ⟨z, e, o, es, ep, t, k _ _ ⟨fun v z => (by rw [hd] at z; cases z), fun es ep z => (by rw [hd] at z; cases z)⟩ ho, hx, hd, r⟩
  rw [if_neg c4] at x ⊢
  obtain ⟨l, xs, e, ⟨n, sl, i⟩, j⟩ := x
  exact ⟨l, xs, e, ⟨n, sl, k _ _ ⟨fun v z => (by cases z), fun es ep z => (by cases z)⟩ i⟩, j.off ki⟩
theorem Fm.stat (F : Fm h env m cm) {n : Str} {v : Value} (hm : m n = some v) {b : Addr} {o : Obj} (s : Stat o) (e : h.get? b = some o) : b ∉ fW env := fun q => by
  rcases List.mem_cons.mp q with rfl | q
  · obtain ⟨o', es, ep, e', d, _, f⟩ := F.ns
    rw [e'] at e; cases e
    have := s.2 _ _ d
    subst this
    rw [← f] at hm; cases hm
  · obtain ⟨x, hx, rfl⟩ := List.mem_map.mp q
    obtain ⟨o', e', d⟩ := F.cell _ _ (F.named x hx)
    rw [e'] at e; cases e
    exact s.1 _ d
theorem Fm.kptS (F : Fm h env m cm) {n : Str} {v : Value} (hm : m n = some v) (x : Ex (fW env) h h') : KptS h h' := fun b o s e => x b o (F.stat hm s e) e
theorem Fm.hideS (F : Fm h env m cm) {n : Str} {v : Value} (hm : m n = some v) : KptS h (hideAll h (fW env)) := fun b o s e => hideAll_get _ e (F.stat hm s e)
theorem SB.grow (S : SB w H env mg mb a cc nb md fs ns) {H' : Heap} (k : Kpt H H') (no : ∀ b ∈ fW env, H'.get? b = none) : SB w H' env mg mb a cc nb md fs ns := by
  obtain ⟨xs, n1, n2⟩ := S.num
  obtain ⟨is, m1, m2⟩ := S.made
  exact ⟨no, ⟨fun b o e => k b o (S.tw.X b o e), S.tw.glob.keeps k, NoLimit.keeps S.tw.lim k, fun j hj => (S.tw.lam j hj).keeps k⟩, S.key.keeps k, S.ini.keeps k, ⟨xs, n1.at fun o e => k _ _ e, n2⟩, ⟨is, m1.at fun o e => k _ _ e, m2⟩, S.bn⟩
theorem SB.und (S : SB w H env mg mb a cc nb md fs ns) : Und prog w H a cc 112 :=
  ⟨S.key, S.tw.lim, fun k j t u => answer_does S.tw.X ⟨S.tw.glob.g, S.tw.glob.b, S.tw.lim, (S.bn.ty "KeyError" (by decide)).1, (S.bn.ty "KeyError" (by decide)).2⟩⟩
theorem SB.kp (S : SB w H env mg mb a cc nb md fs ns) (kp : Kpt H h) (x : Ex (fW env) h h') : Kpt H h' := fun b o e => x b o (fun q => by rw [S.no b q] at e; cases e) (kp b o e)
theorem SB.hid (S : SB w H env mg mb a cc nb md fs ns) (kp : Kpt H h) : SB w (hideAll h (fW env)) env mg mb a cc nb md fs ns :=
  S.grow (fun b o e => hideAll_get _ (kp b o e) fun q => by rw [S.no b q] at e; cases e) fun b hb => hideAll_none _ hb
/-- what the twelve say of two values -/
noncomputable def resK (kx kd x w : Int) (k : Nat) : Res := if kd = kx then dueRes (standOfK kd x w) k else crossRes kx
theorem resK_exc {kx kd x w : Int} {k : Nat} {X : String} (h : resK kx kd x w k = .exc X) : X = "KeyError" ∨ X = "AttributeError" := by
  unfold resK at h
  by_cases c : kd = kx
  · rw [if_pos c] at h
    cases q : standOfK kd x w with
    | none => rw [q] at h; cases h; exact .inl rfl
    | some uv => rw [q] at h; cases h
  · rw [if_neg c] at h
    unfold crossRes at h
    by_cases c1 : kx = 1
    · rw [if_pos c1] at h; cases h; exact .inr rfl
    · rw [if_neg c1] at h; cases h
theorem all_does {kx kd x w' : Int} {X Y : Value} (S : SB w H env mg mb a cc nb md fs ns) (h0 : 0 ≤ kx) (h5 : kx < 5) (g0 : 0 ≤ kd) (g5 : kd < 5) (vx : VAt prog w H a kx x X) (vy : VAt prog w H a kd w' Y) (k : Nat) (hk : k < 12) :
    Does prog w H (call (.ref (fs k)) [X, Y]) (resK kx kd x w' k).out 4 15 := by
  unfold resK
  by_cases c : kd = kx
  · subst c
    rw [if_pos rfl]
    exact twelve_does S.tw hk (cmp_same g0 g5 S.und S.tw.glob.g vx vy) fun op tl h => h _
  · rw [if_neg c]
    refine twelve_does S.tw hk (cmp_cross h0 h5 g0 g5 (fun q => c q.symm) S.und S.tw.glob.g vx vy) fun op tl h => made_flat fun b q => ?_
    unfold crossRes at q
    by_cases c1 : kx = 1
    · rw [if_pos c1] at q; cases q
    · rw [if_neg c1] at q; cases q
end
end Mine
end

-- part R33
section
open PySem PySem.W PySem.W.X PySem.Calls PyProof.Rows
set_option maxRecDepth 100000
set_option linter.unusedVariables false
set_option maxHeartbeats 1000000
namespace Mine
noncomputable abbrev lWr : List Str := ["within", "around", "less", "more", "due", "stand"]
section
variable {w : World} {A : Around} {E : Value → Shared → Prop} {H h : Heap} {env : Env} {m cm mg mb : Str → Option Value} {a : KA} {cc nb md : Addr} {fs : Nat → Addr} {ns : List Int} {g : Array GenState} {d : Drawn} {tk : Nat} {os : OsState} {x y kd : Int} {tx ty tkd : Tok}
theorem vmod {prog : Program} {n : Str} {x : Int} {t : Tok} {p1 p2 p3 : Pos} {Q : Value → Shared → Prop} (e : LE env) (F : Fm h env m cm) (hn : n ∈ lLoc) (hm : m n = some (.int x t)) (hq : ∀ t' tk', Q (.int (x.fmod 5) t') ⟨h, g, d, tk', os⟩) (hd : (n == ("__debug__" : Str)) = false := by decide) :
    wpAny (model prog w) A (eval (.BinOp (.Name n p1) .Mod (.Constant (.int 5) 0 p2) p3) env) Q E ⟨h, g, d, tk, os⟩ :=
  wpAny_BinOp (lv e F hn hm (wpAny_Constant_int (mod_int' (by decide) (hq _ _))) hd)
theorem vdiv {prog : Program} {n : Str} {x : Int} {t : Tok} {p1 p2 p3 : Pos} {Q : Value → Shared → Prop} (e : LE env) (F : Fm h env m cm) (hn : n ∈ lLoc) (hm : m n = some (.int x t)) (hq : ∀ t' tk', Q (.int (x.fdiv 5) t') ⟨h, g, d, tk', os⟩) (hd : (n == ("__debug__" : Str)) = false := by decide) :
    wpAny (model prog w) A (eval (.BinOp (.Name n p1) .FloorDiv (.Constant (.int 5) 0 p2) p3) env) Q E ⟨h, g, d, tk, os⟩ :=
  wpAny_BinOp (lv e F hn hm (wpAny_Constant_int (floordiv_int (by decide) (hq _ _))) hd)
/-- if kind == x % 5: .. -/
theorem st_if {D0 : Addr} {Q : Flow → Shared → Prop} (e : LE env) (S : SB w H env mg mb a cc nb md fs ns) (hh : A.handled = none) (hr : A.depth + 1 < recursionLimit)
    (F : Fm h env m cm) (kp : Kpt H h) (hx : m "x" = some (.int x tx)) (hw : m "w" = some (.int y ty)) (hk : m "kind" = some (.int kd tkd)) (hdu : m "due" = some (.ref D0)) (hD : DueAt h D0 fun _ => crossRes (x.fmod 5))
    (hq : ∀ D h' tk' m', Fm h' env m' cm → (∀ n, n ∉ lWr → m' n = m n) → m' "due" = some (.ref D) → Ex (fW env) h h' → DueAt h' D (resK (x.fmod 5) kd (x.fdiv 5) (y.fdiv 5)) → Q .next ⟨h', g, d, tk', os⟩) :
    wpAny (model PySem.Challenge.pw_dz0037_01 w) A (exec (.If (.Compare (.Name "kind" ⟨141, 15, 141, 19⟩) [.Eq] [.BinOp (.Name "x" ⟨141, 23, 141, 24⟩) .Mod (.Constant (.int 5) 0 ⟨141, 27, 141, 28⟩) ⟨141, 23, 141, 28⟩] ⟨141, 15, 141, 28⟩)
      [.Assign [.Name "stand" ⟨142, 16, 142, 21⟩] (.Call (.Name "_law_stand" ⟨142, 24, 142, 34⟩) [.Name "kind" ⟨142, 35, 142, 39⟩, .BinOp (.Name "x" ⟨142, 41, 142, 42⟩) .FloorDiv (.Constant (.int 5) 0 ⟨142, 46, 142, 47⟩) ⟨142, 41, 142, 47⟩, .BinOp (.Name "w" ⟨142, 49, 142, 50⟩) .FloorDiv (.Constant (.int 5) 0 ⟨142, 54, 142, 55⟩) ⟨142, 49, 142, 55⟩] [] ⟨142, 24, 142, 56⟩) ⟨142, 16, 142, 56⟩,
       .Assign [.Name "due" ⟨143, 16, 143, 19⟩] (.BinOp (.List [.Name "KeyError" ⟨143, 23, 143, 31⟩] ⟨143, 22, 143, 32⟩) .Mult (.Constant (.int 12) 0 ⟨143, 35, 143, 37⟩) ⟨143, 22, 143, 37⟩) ⟨143, 16, 143, 37⟩,
       .If (.Compare (.Name "stand" ⟨144, 19, 144, 24⟩) [.IsNot] [.Constant .none 0 ⟨144, 32, 144, 36⟩] ⟨144, 19, 144, 36⟩)
        [.Assign [.Tuple [.Name "within" ⟨145, 20, 145, 26⟩, .Name "around" ⟨145, 28, 145, 34⟩] 0 ⟨145, 20, 145, 34⟩] (.Name "stand" ⟨145, 37, 145, 42⟩) ⟨145, 20, 145, 42⟩,
         .Assign [.Name "less" ⟨146, 20, 146, 24⟩] (.BoolOp .And [.Name "within" ⟨146, 27, 146, 33⟩, .UnaryOp .Not (.Name "around" ⟨146, 43, 146, 49⟩) ⟨146, 39, 146, 49⟩] ⟨146, 27, 146, 50⟩) ⟨146, 20, 146, 50⟩,
         .Assign [.Name "more" ⟨147, 20, 147, 24⟩] (.BoolOp .And [.Name "around" ⟨147, 27, 147, 33⟩, .UnaryOp .Not (.Name "within" ⟨147, 43, 147, 49⟩) ⟨147, 39, 147, 49⟩] ⟨147, 27, 147, 50⟩) ⟨147, 20, 147, 50⟩,
         .Assign [.Name "due" ⟨148, 20, 148, 23⟩] (.List [.Name "less" ⟨148, 27, 148, 31⟩, notE "around" ⟨148, 37, 148, 43⟩ ⟨148, 33, 148, 43⟩, notE "around" ⟨148, 49, 148, 55⟩ ⟨148, 45, 148, 55⟩, .Name "within" ⟨148, 57, 148, 63⟩, notE "more" ⟨148, 69, 148, 73⟩ ⟨148, 65, 148, 73⟩, notE "more" ⟨148, 79, 148, 83⟩ ⟨148, 75, 148, 83⟩] ⟨148, 26, 148, 84⟩) ⟨148, 20, 148, 84⟩,
         .Assign [.Name "due" ⟨149, 20, 149, 23⟩] (.BinOp (.Name "due" ⟨149, 26, 149, 29⟩) .Add (.List [notE "within" ⟨149, 37, 149, 43⟩ ⟨149, 33, 149, 43⟩, notE "within" ⟨149, 49, 149, 55⟩ ⟨149, 45, 149, 55⟩, .Name "more" ⟨149, 57, 149, 61⟩, notE "less" ⟨149, 67, 149, 71⟩ ⟨149, 63, 149, 71⟩, notE "less" ⟨149, 77, 149, 81⟩ ⟨149, 73, 149, 81⟩, .Name "around" ⟨149, 83, 149, 89⟩] ⟨149, 32, 149, 90⟩) ⟨149, 26, 149, 90⟩) ⟨149, 20, 149, 90⟩] [] ⟨144, 16, 149, 90⟩] [] ⟨141, 12, 149, 90⟩) env) Q E ⟨h, g, d, tk, os⟩ := by
  refine wpAny_If (wpAny_isTrue_Compare1 (lv e F (by decide) hk (vmod e F (by decide) hx fun t1 tk1 => PyProof.Rows.eq_int (wpAny_truthy_bool ?_))))
  by_cases c : kd = x.fmod 5
  · rw [if_pos (by simpa using c)]
    have GG := S.tw.glob.keeps kp
    have hX : (hd.heap_39 w.params).In h := fun b o eb => kp _ _ (S.tw.X b o eb)
    have hres : resK (x.fmod 5) kd (x.fdiv 5) (y.fdiv 5) = dueRes (standOfK kd (x.fdiv 5) (y.fdiv 5)) := by funext k; unfold resK; rw [if_pos c]
    rw [hres] at hq
    have up : ∀ {n : Str} {v' : Value} {m : Str → Option Value} {z : Str}, z ≠ n → upd m n v' z = m z := fun hne => if_neg hne
    refine wpAny_execs_cons (wpAny_Assign_Name (wpAny_Call_Name_kw (Name_function_global e.hk (e.glo _ (by decide)) (loadGlobal_global (by rw [e.eg]; exact GG.g) (show mg "_law_stand" = some (.ref 131) from mg_of hX GG.g (by rfl)) ?_))))
    obtain ⟨fo, fdd, hfo, hfd⟩ : ∃ o fd, h.get? 131 = some o ∧ o.data = .func fd := ⟨_, _, hX 131 _ rfl, rfl⟩
    refine callWith_function (o := fo) (fd := fdd) (evalArgs_plain (spliced_cons (lv e F (by decide) hk (spliced_cons (vdiv e F (by decide) hx fun t2 tk2 => spliced_cons (vdiv e F (by decide) hw fun t3 tk3 => spliced_nil ⟨⟨hfo, hfd⟩, ?_⟩))))))
    refine stand_call (s := ⟨h, g, d, _, os⟩) hX (NoLimit.keeps S.tw.lim kp) GG.g GG.b S.bn hr hh fun v h1 tk1 k1 hv => ?_
    refine sv e (F.keeps k1) (by decide) fun h2 tk2 F2 x2 => ?_
    have k12 : Ex (fW env) h h2 := (Ex.of k1).trans x2
    have kp2 := S.kp kp k12
    refine wpAny_execs_cons (st_flat (r := .exc "KeyError") e F2 rfl rfl (fun Q' tk hq' => gv e S.bn (S.tw.glob.g.keeps kp2) (S.tw.glob.b.keeps kp2) (by decide) (by decide) (hq' _)) fun D h3 tk3 F3 x3 D3 => ?_)
    refine wpAny_execs_cons (wpAny_If (wpAny_isTrue_Compare1 (lv e F3 (by decide) rfl (wpAny_Constant_none ?_))))
    cases hz : standOfK kd (x.fdiv 5) (y.fdiv 5) with
    | none =>
      rw [hz] at hv hq
      obtain rfl : v = .none := hv
      refine isnot_none_none (wpAny_truthy_bool ?_)
      rw [if_neg Bool.false_ne_true]
      refine wpAny_execs_nil (wpAny_execs_nil (hq D h3 _ _ F3 (fun n hn => ?_) rfl (k12.trans x3) D3))
      simp only [List.mem_cons, List.not_mem_nil, or_false, not_or] at hn
      rw [up hn.2.2.2.2.1, up hn.2.2.2.2.2]
    | some uv =>
      obtain ⟨u, v'⟩ := uv
      rw [hz] at hv hq
      obtain ⟨t, rfl, ht⟩ := hv
      refine isnot_ref_none (wpAny_truthy_bool ?_)
      rw [if_pos rfl]
      have ht3 : h3.IsTuple t #[.bool u, .bool v'] := by
        obtain ⟨o, eo, c, n, dd⟩ := ht
        have e2 := x2 _ _ ((F.keeps k1).wokF eo (by intro _ _ q; rw [dd] at q; cases q) (by intro _ q; rw [dd] at q; cases q)) eo
        exact ⟨o, x3 _ _ (F2.wokF e2 (by intro _ _ q; rw [dd] at q; cases q) (by intro _ q; rw [dd] at q; cases q)) e2, c, n, dd⟩
      refine wpAny_mono (st_bools e hh F3 rfl ht3 (Q := fun f s' => match f with | .next => wpAny (model PySem.Challenge.pw_dz0037_01 w) A (execs [] env) Q E s' | f => Q f s') fun D h' tk' m' F' hm' hd' x' D' => wpAny_execs_nil ?_) (fun _ _ z => z) fun _ _ z => z
      refine hq D h' tk' m' F' (fun n hn => ?_) hd' ((k12.trans x3).trans x') D'
      simp only [List.mem_cons, List.not_mem_nil, or_false, not_or] at hn
      rw [hm' n (by simp only [List.mem_cons, List.not_mem_nil, or_false, not_or]; exact ⟨hn.1, hn.2.1, hn.2.2.1, hn.2.2.2.1, hn.2.2.2.2.1⟩), up hn.2.2.2.2.1, up hn.2.2.2.2.2]
  · rw [if_neg (by simpa using c)]
    have : resK (x.fmod 5) kd (x.fdiv 5) (y.fdiv 5) = fun _ => crossRes (x.fmod 5) := by funext k; unfold resK; rw [if_neg c]
    exact wpAny_execs_nil (hq D0 h _ m F (fun _ _ => rfl) hdu Ex.refl (by rw [this]; exact hD))
end
end Mine
end

-- part R34
section
open PySem PySem.W PySem.W.X PySem.Calls PyProof.Rows
set_option maxRecDepth 100000
set_option linter.unusedVariables false
set_option maxHeartbeats 1000000
namespace Mine
/-- the law's things, by their names -/
structure Vars (m : Str → Option Value) (a : KA) (nb md : Addr) : Prop where
  num : m "numbers" = some (.ref nb)
  make : m "make" = some (.ref a.C)
  made : m "made" = some (.ref md)
theorem Vars.of {m m' : Str → Option Value} {a : KA} {nb md : Addr} (V : Vars m a nb md) (h1 : m' "numbers" = m "numbers") (h2 : m' "make" = m "make") (h3 : m' "made" = m "made") : Vars m' a nb md := ⟨h1.trans V.num, h2.trans V.make, h3.trans V.made⟩
theorem spliced_eq {M : Model} {A : Around} {E : Value → Shared → Prop} {s : Shared} {xs ys : List (Bool × Sem Value)} {f : List Value → Shared → Prop} (h : xs = ys) (q : wpAny M A (spliced ys) f E s) : wpAny M A (spliced xs) f E s := h ▸ q
section
variable {w : World} {A : Around} {E : Value → Shared → Prop} {H h : Heap} {env : Env} {m cm mg mb : Str → Option Value} {a : KA} {cc nb md : Addr} {fs : Nat → Addr} {ns : List Int} {g : Array GenState} {d : Drawn} {tk : Nat} {os : OsState} {x y kd : Int} {tx ty tkd : Tok}
/-- n = _law_value(make, .., ..) -/
theorem st_val {n : Str} {kd y : Int} {ke ye : Expr} {p1 p2 p3 p4 p5 : Pos} {Q : Flow → Shared → Prop} (e : LE env) (S : SB w H env mg mb a cc nb md fs ns) (hh : A.handled = none) (hr : A.depth + 4 < recursionLimit) (F : Fm h env m cm) (kp : Kpt H h) (hn : n ∈ lLoc) (hm : m "make" = some (.ref a.C)) (h0 : 0 ≤ kd) (h5 : kd < 5)
    (hse : backTo p4 (starEach [.Name "make" p3, ke, ye] env) = [(false, eval (.Name "make" p3) env), (false, eval ke env), (false, eval ye env)])
    (hke : ∀ (Q' : Value → Shared → Prop) (E' : Value → Shared → Prop) (tk : Nat), (∀ t tk', Q' (.int kd t) ⟨h, g, d, tk', os⟩) → wpAny (model PySem.Challenge.pw_dz0037_01 w) A (eval ke env) Q' E' ⟨h, g, d, tk, os⟩)
    (hye : ∀ (Q' : Value → Shared → Prop) (E' : Value → Shared → Prop) (tk : Nat), (∀ t tk', Q' (.int y t) ⟨h, g, d, tk', os⟩) → wpAny (model PySem.Challenge.pw_dz0037_01 w) A (eval ye env) Q' E' ⟨h, g, d, tk, os⟩)
    (hq : ∀ v h' tk', Fm h' env (upd m n v) cm → Ex (fW env) h h' → VAt PySem.Challenge.pw_dz0037_01 w h' a kd y v → Q .next ⟨h', g, d, tk', os⟩) :
    wpAny (model PySem.Challenge.pw_dz0037_01 w) A (exec (.Assign [.Name n p1] (.Call (.Name "_law_value" p2) [.Name "make" p3, ke, ye] [] p4) p5) env) Q E ⟨h, g, d, tk, os⟩ := by
  have GG := S.tw.glob.keeps kp
  have hX : (hd.heap_39 w.params).In h := fun b o eb => kp _ _ (S.tw.X b o eb)
  refine wpAny_Assign_Name (wpAny_Call_Name_kw (Name_function_global e.hk (e.glo _ (by decide)) (loadGlobal_global (by rw [e.eg]; exact GG.g) (show mg "_law_value" = some (.ref 124) from mg_of hX GG.g (by rfl)) ?_)))
  obtain ⟨fo, fdd, hfo, hfd⟩ : ∃ o fd, h.get? 124 = some o ∧ o.data = .func fd := ⟨_, _, hX 124 _ rfl, rfl⟩
  refine callWith_function (o := fo) (fd := fdd) (evalArgs_plain ?_)
  refine spliced_eq hse ?_
  refine spliced_cons (lv e F (by decide) hm (spliced_cons (hke _ _ _ fun t1 tk1 => spliced_cons (hye _ _ _ fun t2 tk2 => spliced_nil ⟨⟨hfo, hfd⟩, ?_⟩))))
  refine value_call (s := ⟨h, g, d, _, os⟩) hX (NoLimit.keeps S.tw.lim kp) GG.g GG.b S.bn (S.key.cls.keeps kp) (S.ini.keeps kp) hr hh h0 h5 fun v h1 tk1 k1 hv => ?_
  refine sv e (F.keeps k1) hn fun h2 tk2 F2 x2 => ?_
  exact hq v h2 tk2 F2 ((Ex.of k1).trans x2) (hv.offS ((F.keeps k1).kptS hm x2))
/-- for kind in [.., ..] -/
theorem kind_loop {k1 k2 : Int} {e1 e2 : Expr} {body : List Stmt} {p1 p2 p3 : Pos} {Q : Flow → Shared → Prop} (e : LE env) (S : SB w H env mg mb a cc nb md fs ns) (hh : A.handled = none) (F : Fm h env m cm) (kp : Kpt H h) (V : Vars m a nb md) (h10 : 0 ≤ k1) (h15 : k1 < 5) (h20 : 0 ≤ k2) (h25 : k2 < 5)
    (hse : backTo p2 (starEach [e1, e2] env) = [(false, eval e1 env), (false, eval e2 env)])
    (he1 : ∀ (Q' : Value → Shared → Prop) (E' : Value → Shared → Prop) (tk : Nat), (∀ t tk', Q' (.int k1 t) ⟨h, g, d, tk', os⟩) → wpAny (model PySem.Challenge.pw_dz0037_01 w) A (eval e1 env) Q' E' ⟨h, g, d, tk, os⟩)
    (he2 : ∀ (Q' : Value → Shared → Prop) (E' : Value → Shared → Prop) (tk : Nat), (∀ t tk', Q' (.int k2 t) ⟨h, g, d, tk', os⟩) → wpAny (model PySem.Challenge.pw_dz0037_01 w) A (eval e2 env) Q' E' ⟨h, g, d, tk, os⟩)
    (hbody : ∀ kd tkd h tk m' E' (Q' : Flow → Shared → Prop), (kd = k1 ∨ kd = k2) → 0 ≤ kd → kd < 5 → Fm h env m' cm → Kpt H h → Vars m' a nb md → m' "x" = m "x" → m' "w" = m "w" → m' "kind" = some (.int kd tkd) →
      (∀ h' tk' m'', Fm h' env m'' cm → Vars m'' a nb md → m'' "x" = m "x" → m'' "w" = m "w" → Ex (fW env) h h' → Q' .next ⟨h', g, d, tk', os⟩) → wpAny (model PySem.Challenge.pw_dz0037_01 w) A (execs body env) Q' E' ⟨h, g, d, tk, os⟩)
    (hq : ∀ h' tk' m', Fm h' env m' cm → Vars m' a nb md → Ex (fW env) h h' → Q .next ⟨h', g, d, tk', os⟩) :
    wpAny (model PySem.Challenge.pw_dz0037_01 w) A (exec (.For (.Name "kind" p1) (.List [e1, e2] p2) body [] p3) env) Q E ⟨h, g, d, tk, os⟩ := by
  refine wpAny_For (wpAny_List ?_) (fun _ => rfl)
  rw [hse]
  refine spliced_cons (he1 _ _ _ fun t1 tk1 => spliced_cons (he2 _ _ _ fun t2 tk2 => spliced_nil ⟨by rw [sizeLine_eq]; simp, ?_⟩))
  have nL : h.get? h.objs.size = none := Heap.get?_none_of_le (Nat.le_refl _)
  have LW : h.objs.size ∉ fW env := F.apartOf nL
  have kH : Kpt h (h.push { cls := .type "list", data := .seq [Value.int k1 t1, .int k2 t2].toArray }) := fun b o eb => Heap.get?_push_of_some _ eb
  have hl : (h.push { cls := .type "list", data := .seq [Value.int k1 t1, .int k2 t2].toArray }).get? h.objs.size = some { cls := .type "list", data := .seq [Value.int k1 t1, .int k2 t2].toArray } := Heap.get?_push_size _ rfl
  generalize h.push { cls := .type "list", data := .seq [Value.int k1 t1, .int k2 t2].toArray } = h1 at *
  generalize h.objs.size = l at *
  refine wpAny_pyIter_list (s := ⟨h1, g, d, _, os⟩) ⟨_, hl, rfl, _, rfl⟩ ?_
  have nI : h1.get? h1.objs.size = none := Heap.get?_none_of_le (Nat.le_refl _)
  have IW : h1.objs.size ∉ fW env := (F.keeps kH).apartOf nI
  have kI : Kpt h1 (h1.push { cls := .type "list_iterator", data := .fields #[.ref l, .int 0 0] }) := fun b o eb => Heap.get?_push_of_some _ eb
  have hit : (h1.push { cls := .type "list_iterator", data := .fields #[.ref l, .int 0 0] }).IsListIter h1.objs.size l 0 := ⟨_, Heap.get?_push_size _ rfl, rfl, rfl⟩
  show codeAny _ A (.forLoop (.Name "kind" p1) (.ref h1.objs.size) body [] env) _ ⟨h1.push { cls := .type "list_iterator", data := .fields #[.ref l, .int 0 0] }, _, _, _, _⟩
  generalize h1.push { cls := .type "list_iterator", data := .fields #[.ref l, .int 0 0] } = h2 at *
  have lI : l ≠ h1.objs.size := Nat.ne_of_lt (Heap.lt_size hl)
  generalize h1.objs.size = I at *
  refine codeAny_forLoop (fun n s' => ∃ h' tk' m' i, s' = ⟨h', g, d, tk', os⟩ ∧ h'.IsListIter I l i ∧ Fm h' env m' cm ∧ Vars m' a nb md ∧ m' "x" = m "x" ∧ m' "w" = m "w" ∧ (∀ b o, b ∉ fW env → b ≠ I → h1.get? b = some o → h'.get? b = some o) ∧ i ≤ 2 ∧ n = 3 - i)
    ?turn 3 ⟨h2, _, m, 0, rfl, hit, (F.keeps kH).keeps kI, V, rfl, rfl, fun b o _ _ eb => kI b o eb, Nat.zero_le _, rfl⟩
  rintro n s' ⟨h', tk', m', i, rfl, hit', F', V', hx', hw', keep, hi, rfl⟩
  have hl' : h'.IsList l [Value.int k1 t1, .int k2 t2].toArray := ⟨_, keep _ _ LW lI hl, rfl, _, rfl⟩
  have nH : ∀ b o, H.get? b = some o → b ∉ fW env ∧ b ≠ I := fun b o eb => ⟨(fun q => by rw [S.no b q] at eb; cases eb), (fun q => by rw [q] at eb; have := kH _ _ (kp _ _ eb); rw [nI] at this; cases this)⟩
  by_cases hlt : i < 2
  · have hv : ∃ kd t, ([Value.int k1 t1, .int k2 t2].toArray)[i]? = some (.int kd t) ∧ (kd = k1 ∨ kd = k2) ∧ 0 ≤ kd ∧ kd < 5 := by
      have : i = 0 ∨ i = 1 := by omega
      rcases this with rfl | rfl
      · exact ⟨k1, t1, rfl, .inl rfl, h10, h15⟩
      · exact ⟨k2, t2, rfl, .inr rfl, h20, h25⟩
    obtain ⟨kd, t, hv, hor, g0, g5⟩ := hv
    refine wpAny_pyNext_list_item hit' hl' hv fun h3 hit3 sb3 => ?_
    have F3 : Fm h3 env m' cm := F'.via fun b o eb hb _ => (sb3.2 b (fun q => IW (q ▸ hb))).trans eb
    refine wpAny_assign_Name (sv e F3 (by decide) fun h4 tk4 F4 x4 => ?_)
    have k4 : ∀ b o, b ∉ fW env → b ≠ I → h1.get? b = some o → h4.get? b = some o := fun b o n1 n2 eb => x4 b o n1 ((sb3.2 b n2).trans (keep b o n1 n2 eb))
    have hit4 : h4.IsListIter I l (i + 1) := (by obtain ⟨o, eo, r⟩ := hit3; exact ⟨o, x4 _ _ IW eo, r⟩)
    refine hbody kd t h4 tk4 _ _ _ hor g0 g5 F4 (fun b o eb => k4 b o (nH b o eb).1 (nH b o eb).2 (kH _ _ (kp _ _ eb))) (V'.of rfl rfl rfl) hx' hw' rfl fun h5 tk5 m5 F5 V5 hx5 hw5 x5 => ?_
    exact ⟨3 - (i + 1), turn_lt (N := 2) hlt, h5, tk5, m5, i + 1, rfl, (by obtain ⟨o, eo, r⟩ := hit4; exact ⟨o, x5 _ _ IW eo, r⟩), F5, V5, hx5, hw5, fun b o n1 n2 eb => x5 b o n1 (k4 b o n1 n2 eb), hlt, rfl⟩
  · have hie : i = 2 := turn_end hi hlt
    subst hie
    refine wpAny_pyNext_list_end hh hit' hl' rfl fun h3 ex3 => wpAny_execs_nil ?_
    refine hq h3 tk' m' (F'.via fun b o eb hb _ => ex3 b o (fun q => IW (q ▸ hb)) eb) V' fun b o n1 eb => ?_
    have n2 : b ≠ I := fun q => by rw [q] at eb; have := kH _ _ eb; rw [nI] at this; cases this
    exact ex3 b o n2 (keep b o n1 n2 (kH b o eb))
end
end Mine
end

-- part R35
section
open PySem PySem.W PySem.W.X PySem.Calls PyProof.Rows
set_option maxRecDepth 100000
set_option linter.unusedVariables false
set_option maxHeartbeats 1000000
namespace Mine
section
variable {w : World} {A : Around} {E : Value → Shared → Prop} {H h : Heap} {env : Env} {m cm mg mb : Str → Option Value} {a : KA} {cc nb md : Addr} {fs : Nat → Addr} {ns : List Int} {g : Array GenState} {d : Drawn} {tk : Nat} {os : OsState} {x y kd : Int} {tx ty tkd : Tok}
/-- [AttributeError if x % 5 == 1 else NotImplemented]: its one -/
theorem due_one {p1 p2 p3 p4 p5 p6 p7 p8 : Pos} {Q : Value → Shared → Prop} (e : LE env) (S : SB w H env mg mb a cc nb md fs ns) (F : Fm h env m cm) (kp : Kpt H h) (hx : m "x" = some (.int x tx)) (hq : ∀ tk', Q (dueV (crossRes (x.fmod 5))) ⟨h, g, d, tk', os⟩) :
    wpAny (model PySem.Challenge.pw_dz0037_01 w) A (eval (.IfExp (.Compare (.BinOp (.Name "x" p1) .Mod (.Constant (.int 5) 0 p2) p3) [.Eq] [.Constant (.int 1) 0 p4] p5) (.Name "AttributeError" p6) (.Name "NotImplemented" p7) p8) env) Q E ⟨h, g, d, tk, os⟩ := by
  have hg := S.tw.glob.g.keeps kp
  have hb := S.tw.glob.b.keeps kp
  refine wpAny_IfExp (wpAny_isTrue_Compare1 (vmod e F (by decide) hx fun t tk => wpAny_Constant_int (PyProof.Rows.eq_int (wpAny_truthy_bool ?_))))
  unfold crossRes at hq
  by_cases c : x.fmod 5 = 1
  · rw [if_pos c] at hq
    rw [if_pos (by simpa using c)]
    exact gv e S.bn hg hb (by decide) (by decide) (hq _)
  · rw [if_neg c] at hq
    rw [if_neg (by simpa using c)]
    exact Name_function_global e.hk (e.glo _ (by decide)) (loadGlobal_builtin (by rw [e.eg]; exact hg) S.bn.ni.1 (by rw [e.eb]; exact hb) S.bn.ni.2 (hq _))
theorem fmod5 (z : Int) : 0 ≤ z.fmod 5 ∧ z.fmod 5 < 5 := ⟨Int.fmod_nonneg_of_pos z (by decide), Int.fmod_lt_of_pos z (by decide)⟩
theorem kind_body {Q : Flow → Shared → Prop} (e : LE env) (S : SB w H env mg mb a cc nb md fs ns) (hA : A.frames = some [env]) (hh : A.handled = none) (hd0 : A.depth ≤ 770) (hu : A.units ≤ 3880) (F : Fm h env m cm) (kp : Kpt H h) (V : Vars m a nb md)
    (hx : m "x" = some (.int x tx)) (hw : m "w" = some (.int y ty)) (hk : m "kind" = some (.int kd tkd)) (g0 : 0 ≤ kd) (g5 : kd < 5)
    (hq : ∀ h' tk' m', Fm h' env m' cm → Vars m' a nb md → m' "x" = m "x" → m' "w" = m "w" → Ex (fW env) h h' → Q .next ⟨h', g, d, tk', os⟩) :
    wpAny (model PySem.Challenge.pw_dz0037_01 w) A (execs [(Stmt.Assign (targets := [(Expr.Name "due" ⟨140, 12, 140, 15⟩)]) (value := (Expr.BinOp (left := (Expr.List (elts := [ (Expr.IfExp (test := (Expr.Compare (left := (Expr.BinOp (left := (Expr.Name "x" ⟨140, 37, 140, 38⟩)) (op := Operator.Mod) (right := (Expr.Constant (Const.int 5) 0 ⟨140, 41, 140, 42⟩)) (pos := ⟨140, 37, 140, 42⟩))) (ops := [CmpOp.Eq]) (comparators := [(Expr.Constant (Const.int 1) 0 ⟨140, 46, 140, 47⟩)]) (pos := ⟨140, 37, 140, 47⟩))) (body := (Expr.Name "AttributeError" ⟨140, 19, 140, 33⟩)) (orelse := (Expr.Name "NotImplemented" ⟨140, 53, 140, 67⟩)) (pos := ⟨140, 19, 140, 67⟩))]) (pos := ⟨140, 18, 140, 68⟩))) (op := Operator.Mult) (right := (Expr.Constant (Const.int 12) 0 ⟨140, 71, 140, 73⟩)) (pos := ⟨140, 18, 140, 73⟩))) (pos := ⟨140, 12, 140, 73⟩)), (Stmt.If (test := (Expr.Compare (left := (Expr.Name "kind" ⟨141, 15, 141, 19⟩)) (ops := [CmpOp.Eq]) (comparators := [ (Expr.BinOp (left := (Expr.Name "x" ⟨141, 23, 141, 24⟩)) (op := Operator.Mod) (right := (Expr.Constant (Const.int 5) 0 ⟨141, 27, 141, 28⟩)) (pos := ⟨141, 23, 141, 28⟩))]) (pos := ⟨141, 15, 141, 28⟩))) (body := [ (Stmt.Assign (targets := [(Expr.Name "stand" ⟨142, 16, 142, 21⟩)]) (value := (Expr.Call (func := (Expr.Name "_law_stand" ⟨142, 24, 142, 34⟩)) (args := [ (Expr.Name "kind" ⟨142, 35, 142, 39⟩), (Expr.BinOp (left := (Expr.Name "x" ⟨142, 41, 142, 42⟩)) (op := Operator.FloorDiv) (right := (Expr.Constant (Const.int 5) 0 ⟨142, 46, 142, 47⟩)) (pos := ⟨142, 41, 142, 47⟩)), (Expr.BinOp (left := (Expr.Name "w" ⟨142, 49, 142, 50⟩)) (op := Operator.FloorDiv) (right := (Expr.Constant (Const.int 5) 0 ⟨142, 54, 142, 55⟩)) (pos := ⟨142, 49, 142, 55⟩))]) (keywords := []) (pos := ⟨142, 24, 142, 56⟩))) (pos := ⟨142, 16, 142, 56⟩)), (Stmt.Assign (targets := [(Expr.Name "due" ⟨143, 16, 143, 19⟩)]) (value := (Expr.BinOp (left := (Expr.List [(Expr.Name "KeyError" ⟨143, 23, 143, 31⟩)] ⟨143, 22, 143, 32⟩)) (op := Operator.Mult) (right := (Expr.Constant (Const.int 12) 0 ⟨143, 35, 143, 37⟩)) (pos := ⟨143, 22, 143, 37⟩))) (pos := ⟨143, 16, 143, 37⟩)), (Stmt.If (test := (Expr.Compare (left := (Expr.Name "stand" ⟨144, 19, 144, 24⟩)) (ops := [CmpOp.IsNot]) (comparators := [(Expr.Constant Const.none 0 ⟨144, 32, 144, 36⟩)]) (pos := ⟨144, 19, 144, 36⟩))) (body := [ (Stmt.Assign (targets := [ (Expr.Tuple (elts := [(Expr.Name "within" ⟨145, 20, 145, 26⟩), (Expr.Name "around" ⟨145, 28, 145, 34⟩)]) (k := 0) (pos := ⟨145, 20, 145, 34⟩))]) (value := (Expr.Name "stand" ⟨145, 37, 145, 42⟩)) (pos := ⟨145, 20, 145, 42⟩)), (Stmt.Assign (targets := [(Expr.Name "less" ⟨146, 20, 146, 24⟩)]) (value := (Expr.BoolOp (op := BoolOp.And) (values := [ (Expr.Name "within" ⟨146, 27, 146, 33⟩), (Expr.UnaryOp UnaryOp.Not (Expr.Name "around" ⟨146, 43, 146, 49⟩) ⟨146, 39, 146, 49⟩)]) (pos := ⟨146, 27, 146, 50⟩))) (pos := ⟨146, 20, 146, 50⟩)), (Stmt.Assign (targets := [(Expr.Name "more" ⟨147, 20, 147, 24⟩)]) (value := (Expr.BoolOp (op := BoolOp.And) (values := [ (Expr.Name "around" ⟨147, 27, 147, 33⟩), (Expr.UnaryOp UnaryOp.Not (Expr.Name "within" ⟨147, 43, 147, 49⟩) ⟨147, 39, 147, 49⟩)]) (pos := ⟨147, 27, 147, 50⟩))) (pos := ⟨147, 20, 147, 50⟩)), (Stmt.Assign (targets := [(Expr.Name "due" ⟨148, 20, 148, 23⟩)]) (value := (Expr.List (elts := [ (Expr.Name "less" ⟨148, 27, 148, 31⟩), (Expr.UnaryOp UnaryOp.Not (Expr.Name "around" ⟨148, 37, 148, 43⟩) ⟨148, 33, 148, 43⟩), (Expr.UnaryOp UnaryOp.Not (Expr.Name "around" ⟨148, 49, 148, 55⟩) ⟨148, 45, 148, 55⟩), (Expr.Name "within" ⟨148, 57, 148, 63⟩), (Expr.UnaryOp UnaryOp.Not (Expr.Name "more" ⟨148, 69, 148, 73⟩) ⟨148, 65, 148, 73⟩), (Expr.UnaryOp UnaryOp.Not (Expr.Name "more" ⟨148, 79, 148, 83⟩) ⟨148, 75, 148, 83⟩)]) (pos := ⟨148, 26, 148, 84⟩))) (pos := ⟨148, 20, 148, 84⟩)), (Stmt.Assign (targets := [(Expr.Name "due" ⟨149, 20, 149, 23⟩)]) (value := (Expr.BinOp (left := (Expr.Name "due" ⟨149, 26, 149, 29⟩)) (op := Operator.Add) (right := (Expr.List (elts := [ (Expr.UnaryOp UnaryOp.Not (Expr.Name "within" ⟨149, 37, 149, 43⟩) ⟨149, 33, 149, 43⟩), (Expr.UnaryOp UnaryOp.Not (Expr.Name "within" ⟨149, 49, 149, 55⟩) ⟨149, 45, 149, 55⟩), (Expr.Name "more" ⟨149, 57, 149, 61⟩), (Expr.UnaryOp UnaryOp.Not (Expr.Name "less" ⟨149, 67, 149, 71⟩) ⟨149, 63, 149, 71⟩), (Expr.UnaryOp UnaryOp.Not (Expr.Name "less" ⟨149, 77, 149, 81⟩) ⟨149, 73, 149, 81⟩), (Expr.Name "around" ⟨149, 83, 149, 89⟩)]) (pos := ⟨149, 32, 149, 90⟩))) (pos := ⟨149, 26, 149, 90⟩))) (pos := ⟨149, 20, 149, 90⟩))]) (orelse := []) (pos := ⟨144, 16, 149, 90⟩))]) (orelse := []) (pos := ⟨141, 12, 149, 90⟩)), (Stmt.Assign (targets := [(Expr.Name "one" ⟨150, 12, 150, 15⟩)]) (value := (Expr.Call (func := (Expr.Name "_law_value" ⟨150, 18, 150, 28⟩)) (args := [ (Expr.Name "make" ⟨150, 29, 150, 33⟩), (Expr.BinOp (left := (Expr.Name "x" ⟨150, 35, 150, 36⟩)) (op := Operator.Mod) (right := (Expr.Constant (Const.int 5) 0 ⟨150, 39, 150, 40⟩)) (pos := ⟨150, 35, 150, 40⟩)), (Expr.BinOp (left := (Expr.Name "x" ⟨150, 42, 150, 43⟩)) (op := Operator.FloorDiv) (right := (Expr.Constant (Const.int 5) 0 ⟨150, 47, 150, 48⟩)) (pos := ⟨150, 42, 150, 48⟩))]) (keywords := []) (pos := ⟨150, 18, 150, 49⟩))) (pos := ⟨150, 12, 150, 49⟩)), (Stmt.Assign (targets := [(Expr.Name "two" ⟨151, 12, 151, 15⟩)]) (value := (Expr.Call (func := (Expr.Name "_law_value" ⟨151, 18, 151, 28⟩)) (args := [ (Expr.Name "make" ⟨151, 29, 151, 33⟩), (Expr.Name "kind" ⟨151, 35, 151, 39⟩), (Expr.BinOp (left := (Expr.Name "w" ⟨151, 41, 151, 42⟩)) (op := Operator.FloorDiv) (right := (Expr.Constant (Const.int 5) 0 ⟨151, 46, 151, 47⟩)) (pos := ⟨151, 41, 151, 47⟩))]) (keywords := []) (pos := ⟨151, 18, 151, 48⟩))) (pos := ⟨151, 12, 151, 48⟩)), (Stmt.For (target := (Expr.Name "k" ⟨152, 16, 152, 17⟩)) (iter := (Expr.Call (func := (Expr.Name "range" ⟨152, 21, 152, 26⟩)) (args := [(Expr.Constant (Const.int 12) 0 ⟨152, 27, 152, 29⟩)]) (keywords := []) (pos := ⟨152, 21, 152, 30⟩))) (body := [ (Stmt.Try (body := [ (Stmt.Assign (targets := [(Expr.Name "told" ⟨154, 20, 154, 24⟩)]) (value := (Expr.Call (func := (Expr.Subscript (value := (Expr.Name "made" ⟨154, 27, 154, 31⟩)) (slice := (Expr.Name "k" ⟨154, 32, 154, 33⟩)) (pos := ⟨154, 27, 154, 34⟩))) (args := [(Expr.Name "one" ⟨154, 35, 154, 38⟩), (Expr.Name "two" ⟨154, 40, 154, 43⟩)]) (keywords := []) (pos := ⟨154, 27, 154, 44⟩))) (pos := ⟨154, 20, 154, 44⟩))]) (handlers := [ (ExceptHandler.ExceptHandler (type := (some (Expr.Name "KeyError" ⟨155, 23, 155, 31⟩))) (name := none) (body := [ (Stmt.Assign (targets := [(Expr.Name "told" ⟨156, 20, 156, 24⟩)]) (value := (Expr.Name "KeyError" ⟨156, 27, 156, 35⟩)) (pos := ⟨156, 20, 156, 35⟩))]) (pos := ⟨155, 16, 156, 35⟩)), (ExceptHandler.ExceptHandler (type := (some (Expr.Name "AttributeError" ⟨157, 23, 157, 37⟩))) (name := none) (body := [ (Stmt.Assign (targets := [(Expr.Name "told" ⟨158, 20, 158, 24⟩)]) (value := (Expr.Name "AttributeError" ⟨158, 27, 158, 41⟩)) (pos := ⟨158, 20, 158, 41⟩))]) (pos := ⟨157, 16, 158, 41⟩))]) (orelse := []) (finalbody := []) (pos := ⟨153, 16, 158, 41⟩)), (Stmt.If (test := (Expr.Compare (left := (Expr.Name "told" ⟨159, 19, 159, 23⟩)) (ops := [CmpOp.IsNot]) (comparators := [ (Expr.Subscript (value := (Expr.Name "due" ⟨159, 31, 159, 34⟩)) (slice := (Expr.Name "k" ⟨159, 35, 159, 36⟩)) (pos := ⟨159, 31, 159, 37⟩))]) (pos := ⟨159, 19, 159, 37⟩))) (body := [ (Stmt.Return (value := (some (Expr.Constant (Const.bool false) 0 ⟨160, 27, 160, 32⟩))) (pos := ⟨160, 20, 160, 32⟩))]) (orelse := []) (pos := ⟨159, 16, 160, 32⟩))]) (orelse := []) (pos := ⟨152, 12, 160, 32⟩))] env) Q E ⟨h, g, d, tk, os⟩ := by
  have rl : recursionLimit = 1000 := rfl
  refine wpAny_execs_cons (st_flat (r := crossRes (x.fmod 5)) e F rfl rfl (fun Q' tk hq' => due_one e S F kp hx hq') fun D h1 tk1 F1 x1 D1 => ?_)
  have kp1 := S.kp kp x1
  refine wpAny_execs_cons (st_if e S hh (by omega) F1 kp1 hx hw hk rfl D1 fun D h2 tk2 m2 F2 hm2 hd2 x2 D2 => ?_)
  have kp2 := S.kp kp1 x2
  have V2 : Vars m2 a nb md := V.of (hm2 _ (by decide)) (hm2 _ (by decide)) (hm2 _ (by decide))
  have hx2 : m2 "x" = some (.int x tx) := (hm2 _ (by decide)).trans hx
  have hw2 : m2 "w" = some (.int y ty) := (hm2 _ (by decide)).trans hw
  have hk2 : m2 "kind" = some (.int kd tkd) := (hm2 _ (by decide)).trans hk
  clear hm2 F1 F
  refine wpAny_execs_cons (st_val (n := "one") (kd := x.fmod 5) (y := x.fdiv 5) e S hh (by omega) F2 kp2 (by decide) V2.make (fmod5 x).1 (fmod5 x).2 rfl (fun Q' E' tk hq' => vmod e F2 (by decide) hx2 hq') (fun Q' E' tk hq' => vdiv e F2 (by decide) hx2 hq') fun v1 h3 tk3 F3 x3 W1 => ?_)
  have kp3 := S.kp kp2 x3
  refine wpAny_execs_cons (st_val (n := "two") (kd := kd) (y := y.fdiv 5) e S hh (by omega) F3 kp3 (by decide) V2.make g0 g5 rfl (fun Q' E' tk hq' => lv e F3 (by decide) hk2 (hq' _ _)) (fun Q' E' tk hq' => vdiv e F3 (by decide) hw2 hq') fun v2 h4 tk4 F4 x4 W2 => ?_)
  have kp4 := S.kp kp3 x4
  have W1' := W1.offS (F3.kptS (n := "make") V2.make x4)
  have S' := S.hid kp4
  have U1 := W1'.offS (F4.hideS (n := "make") V2.make)
  have U2 := W2.offS (F4.hideS (n := "make") V2.make)
  have D4 := ((D2.ex F2 x3).ex F3 x4)
  obtain ⟨dits, hDl, hdu⟩ := D4
  obtain ⟨items, hl, hf⟩ := S'.made
  have hDl' : (hideAll h4 (fW env)).IsList D dits := by
    obtain ⟨o, eo, c, n, dd⟩ := hDl
    exact ⟨o, hideAll_get _ eo (F4.wokF eo (by intro _ _ q; rw [dd] at q; cases q) (by intro _ q; rw [dd] at q; cases q)), c, n, dd⟩
  refine wpAny_execs_cons (k_loop (X := v1) (Y := v2) (fs := fs) (res := resK (x.fmod 5) kd (x.fdiv 5) (y.fdiv 5)) (dep := 4) (un := 15) e.te (e.loc _ (by decide)) (e.glo _ (by decide)) S.bn hA hh (by omega) (by have : cLine = 9900 := rfl; omega) (fun k _ X q => resK_exc q) F4 (fun _ _ q => of_hideAll _ q) S'.no S'.tw.glob.g S'.tw.glob.b V2.made hl
    (fun k hk => ⟨hf k hk, ?_⟩) rfl rfl hd2 hDl' hdu (fun k hk => all_does S' (fmod5 x).1 (fmod5 x).2 g0 g5 U1 U2 k hk) fun h5 tk5 m5 F5 hm5 x5 => wpAny_execs_nil ?_)
  · obtain ⟨qual, q1, q2, p0, p1, p2, p3, pm, cv, ctv, e', _⟩ := S'.tw.lam k hk
    exact ⟨_, _, e', rfl⟩
  · exact hq h5 tk5 m5 F5 (V2.of (hm5 _ (by decide) (by decide)) (hm5 _ (by decide) (by decide)) (hm5 _ (by decide) (by decide))) ((hm5 _ (by decide) (by decide)).trans (hx2.trans hx.symm)) ((hm5 _ (by decide) (by decide)).trans (hw2.trans hw.symm)) ((((x1.trans x2).trans x3).trans x4).trans x5)
end
end Mine
end

-- part R36
section
open PySem PySem.W PySem.W.X PySem.Calls PyProof.Rows
set_option maxRecDepth 100000
set_option linter.unusedVariables false
set_option maxHeartbeats 1000000
namespace Mine
section
variable {w : World} {A : Around} {E : Value → Shared → Prop} {H h : Heap} {env : Env} {m cm mg mb : Str → Option Value} {a : KA} {cc nb md : Addr} {fs : Nat → Addr} {ns : List Int} {g : Array GenState} {d : Drawn} {tk : Nat} {os : OsState}
theorem prev_item {prog : Program} {value slice : Expr} {l : Addr} {items : Array Value} {i : Nat} {t : Tok} {Q : Value → Shared → Prop} {s : Shared} (hl : s.heap.IsList l items) (hi : i < items.size) (hz : items.size ≤ 100) (hs : ∀ k, subscripted slice false (.ref l) (.int k t) = operate [.ref l, .int k t] (getItem (.ref l) (.int k t))) (h : ∀ v, (∃ j : Nat, items[j]? = some v) → Q v s) :
    wpAny (model prog w) A (subscriptTail value slice (.ref l) (.int ((i : Int) - 1) t)) Q E s := by
  cases i with
  | zero => exact tail_any hl.typeIs slot_list_getitem.lookup (wpAny_getItem_list_neg hl (by decide) (by omega) (by decide) (Array.getElem?_eq_getElem (show (((0 : Nat) : Int) - 1 + items.size).toNat < items.size by omega)) (h _ ⟨_, Array.getElem?_eq_getElem _⟩)) (hs _)
  | succ i =>
    have e : ((i + 1 : Nat) : Int) - 1 = i := Int.add_sub_cancel (i : Int) 1
    rw [e]
    have hi' := Nat.lt_of_succ_lt hi
    exact list_item hl (Int.natCast_nonneg i) (small_ix hi' (Nat.le_trans hz (by decide))) (by rw [Int.toNat_natCast]; exact Array.getElem?_eq_getElem hi') (hs _) (h _ ⟨_, Array.getElem?_eq_getElem hi'⟩)
theorem place_loop {Q : Flow → Shared → Prop} (e : LE env) (S : SB w H env mg mb a cc nb md fs ns) (hA : A.frames = some [env]) (hh : A.handled = none) (hd0 : A.depth ≤ 770) (hu : A.units ≤ 3880) (hn : ns.length ≤ 100) (F : Fm h env m cm) (kp : Kpt H h) (V : Vars m a nb md)
    (hq : ∀ h' tk' m', Fm h' env m' cm → Ex (fW env) h h' → Q .next ⟨h', g, d, tk', os⟩) :
    wpAny (model PySem.Challenge.pw_dz0037_01 w) A (exec (Stmt.For (target := (Expr.Name "place" ⟨136, 8, 136, 13⟩)) (iter := (Expr.Call (func := (Expr.Name "range" ⟨136, 17, 136, 22⟩)) (args := [ (Expr.Call (func := (Expr.Name "len" ⟨136, 23, 136, 26⟩)) (args := [(Expr.Name "numbers" ⟨136, 27, 136, 34⟩)]) (keywords := []) (pos := ⟨136, 23, 136, 35⟩))]) (keywords := []) (pos := ⟨136, 17, 136, 36⟩))) (body := [ (Stmt.Assign (targets := [(Expr.Name "x" ⟨137, 8, 137, 9⟩)]) (value := (Expr.Subscript (value := (Expr.Name "numbers" ⟨137, 12, 137, 19⟩)) (slice := (Expr.Name "place" ⟨137, 20, 137, 25⟩)) (pos := ⟨137, 12, 137, 26⟩))) (pos := ⟨137, 8, 137, 26⟩)), (Stmt.Assign (targets := [(Expr.Name "w" ⟨138, 8, 138, 9⟩)]) (value := (Expr.Subscript (value := (Expr.Name "numbers" ⟨138, 12, 138, 19⟩)) (slice := (Expr.BinOp (left := (Expr.Name "place" ⟨138, 20, 138, 25⟩)) (op := Operator.Sub) (right := (Expr.Constant (Const.int 1) 0 ⟨138, 28, 138, 29⟩)) (pos := ⟨138, 20, 138, 29⟩))) (pos := ⟨138, 12, 138, 30⟩))) (pos := ⟨138, 8, 138, 30⟩)), (Stmt.For (target := (Expr.Name "kind" ⟨139, 12, 139, 16⟩)) (iter := (Expr.List (elts := [ (Expr.BinOp (left := (Expr.Name "x" ⟨139, 21, 139, 22⟩)) (op := Operator.Mod) (right := (Expr.Constant (Const.int 5) 0 ⟨139, 25, 139, 26⟩)) (pos := ⟨139, 21, 139, 26⟩)), (Expr.BinOp (left := (Expr.Name "w" ⟨139, 28, 139, 29⟩)) (op := Operator.Mod) (right := (Expr.Constant (Const.int 5) 0 ⟨139, 32, 139, 33⟩)) (pos := ⟨139, 28, 139, 33⟩))]) (pos := ⟨139, 20, 139, 34⟩))) (body := [ (Stmt.Assign (targets := [(Expr.Name "due" ⟨140, 12, 140, 15⟩)]) (value := (Expr.BinOp (left := (Expr.List (elts := [ (Expr.IfExp (test := (Expr.Compare (left := (Expr.BinOp (left := (Expr.Name "x" ⟨140, 37, 140, 38⟩)) (op := Operator.Mod) (right := (Expr.Constant (Const.int 5) 0 ⟨140, 41, 140, 42⟩)) (pos := ⟨140, 37, 140, 42⟩))) (ops := [CmpOp.Eq]) (comparators := [(Expr.Constant (Const.int 1) 0 ⟨140, 46, 140, 47⟩)]) (pos := ⟨140, 37, 140, 47⟩))) (body := (Expr.Name "AttributeError" ⟨140, 19, 140, 33⟩)) (orelse := (Expr.Name "NotImplemented" ⟨140, 53, 140, 67⟩)) (pos := ⟨140, 19, 140, 67⟩))]) (pos := ⟨140, 18, 140, 68⟩))) (op := Operator.Mult) (right := (Expr.Constant (Const.int 12) 0 ⟨140, 71, 140, 73⟩)) (pos := ⟨140, 18, 140, 73⟩))) (pos := ⟨140, 12, 140, 73⟩)), (Stmt.If (test := (Expr.Compare (left := (Expr.Name "kind" ⟨141, 15, 141, 19⟩)) (ops := [CmpOp.Eq]) (comparators := [ (Expr.BinOp (left := (Expr.Name "x" ⟨141, 23, 141, 24⟩)) (op := Operator.Mod) (right := (Expr.Constant (Const.int 5) 0 ⟨141, 27, 141, 28⟩)) (pos := ⟨141, 23, 141, 28⟩))]) (pos := ⟨141, 15, 141, 28⟩))) (body := [ (Stmt.Assign (targets := [(Expr.Name "stand" ⟨142, 16, 142, 21⟩)]) (value := (Expr.Call (func := (Expr.Name "_law_stand" ⟨142, 24, 142, 34⟩)) (args := [ (Expr.Name "kind" ⟨142, 35, 142, 39⟩), (Expr.BinOp (left := (Expr.Name "x" ⟨142, 41, 142, 42⟩)) (op := Operator.FloorDiv) (right := (Expr.Constant (Const.int 5) 0 ⟨142, 46, 142, 47⟩)) (pos := ⟨142, 41, 142, 47⟩)), (Expr.BinOp (left := (Expr.Name "w" ⟨142, 49, 142, 50⟩)) (op := Operator.FloorDiv) (right := (Expr.Constant (Const.int 5) 0 ⟨142, 54, 142, 55⟩)) (pos := ⟨142, 49, 142, 55⟩))]) (keywords := []) (pos := ⟨142, 24, 142, 56⟩))) (pos := ⟨142, 16, 142, 56⟩)), (Stmt.Assign (targets := [(Expr.Name "due" ⟨143, 16, 143, 19⟩)]) (value := (Expr.BinOp (left := (Expr.List [(Expr.Name "KeyError" ⟨143, 23, 143, 31⟩)] ⟨143, 22, 143, 32⟩)) (op := Operator.Mult) (right := (Expr.Constant (Const.int 12) 0 ⟨143, 35, 143, 37⟩)) (pos := ⟨143, 22, 143, 37⟩))) (pos := ⟨143, 16, 143, 37⟩)), (Stmt.If (test := (Expr.Compare (left := (Expr.Name "stand" ⟨144, 19, 144, 24⟩)) (ops := [CmpOp.IsNot]) (comparators := [(Expr.Constant Const.none 0 ⟨144, 32, 144, 36⟩)]) (pos := ⟨144, 19, 144, 36⟩))) (body := [ (Stmt.Assign (targets := [ (Expr.Tuple (elts := [(Expr.Name "within" ⟨145, 20, 145, 26⟩), (Expr.Name "around" ⟨145, 28, 145, 34⟩)]) (k := 0) (pos := ⟨145, 20, 145, 34⟩))]) (value := (Expr.Name "stand" ⟨145, 37, 145, 42⟩)) (pos := ⟨145, 20, 145, 42⟩)), (Stmt.Assign (targets := [(Expr.Name "less" ⟨146, 20, 146, 24⟩)]) (value := (Expr.BoolOp (op := BoolOp.And) (values := [ (Expr.Name "within" ⟨146, 27, 146, 33⟩), (Expr.UnaryOp UnaryOp.Not (Expr.Name "around" ⟨146, 43, 146, 49⟩) ⟨146, 39, 146, 49⟩)]) (pos := ⟨146, 27, 146, 50⟩))) (pos := ⟨146, 20, 146, 50⟩)), (Stmt.Assign (targets := [(Expr.Name "more" ⟨147, 20, 147, 24⟩)]) (value := (Expr.BoolOp (op := BoolOp.And) (values := [ (Expr.Name "around" ⟨147, 27, 147, 33⟩), (Expr.UnaryOp UnaryOp.Not (Expr.Name "within" ⟨147, 43, 147, 49⟩) ⟨147, 39, 147, 49⟩)]) (pos := ⟨147, 27, 147, 50⟩))) (pos := ⟨147, 20, 147, 50⟩)), (Stmt.Assign (targets := [(Expr.Name "due" ⟨148, 20, 148, 23⟩)]) (value := (Expr.List (elts := [ (Expr.Name "less" ⟨148, 27, 148, 31⟩), (Expr.UnaryOp UnaryOp.Not (Expr.Name "around" ⟨148, 37, 148, 43⟩) ⟨148, 33, 148, 43⟩), (Expr.UnaryOp UnaryOp.Not (Expr.Name "around" ⟨148, 49, 148, 55⟩) ⟨148, 45, 148, 55⟩), (Expr.Name "within" ⟨148, 57, 148, 63⟩), (Expr.UnaryOp UnaryOp.Not (Expr.Name "more" ⟨148, 69, 148, 73⟩) ⟨148, 65, 148, 73⟩), (Expr.UnaryOp UnaryOp.Not (Expr.Name "more" ⟨148, 79, 148, 83⟩) ⟨148, 75, 148, 83⟩)]) (pos := ⟨148, 26, 148, 84⟩))) (pos := ⟨148, 20, 148, 84⟩)), (Stmt.Assign (targets := [(Expr.Name "due" ⟨149, 20, 149, 23⟩)]) (value := (Expr.BinOp (left := (Expr.Name "due" ⟨149, 26, 149, 29⟩)) (op := Operator.Add) (right := (Expr.List (elts := [ (Expr.UnaryOp UnaryOp.Not (Expr.Name "within" ⟨149, 37, 149, 43⟩) ⟨149, 33, 149, 43⟩), (Expr.UnaryOp UnaryOp.Not (Expr.Name "within" ⟨149, 49, 149, 55⟩) ⟨149, 45, 149, 55⟩), (Expr.Name "more" ⟨149, 57, 149, 61⟩), (Expr.UnaryOp UnaryOp.Not (Expr.Name "less" ⟨149, 67, 149, 71⟩) ⟨149, 63, 149, 71⟩), (Expr.UnaryOp UnaryOp.Not (Expr.Name "less" ⟨149, 77, 149, 81⟩) ⟨149, 73, 149, 81⟩), (Expr.Name "around" ⟨149, 83, 149, 89⟩)]) (pos := ⟨149, 32, 149, 90⟩))) (pos := ⟨149, 26, 149, 90⟩))) (pos := ⟨149, 20, 149, 90⟩))]) (orelse := []) (pos := ⟨144, 16, 149, 90⟩))]) (orelse := []) (pos := ⟨141, 12, 149, 90⟩)), (Stmt.Assign (targets := [(Expr.Name "one" ⟨150, 12, 150, 15⟩)]) (value := (Expr.Call (func := (Expr.Name "_law_value" ⟨150, 18, 150, 28⟩)) (args := [ (Expr.Name "make" ⟨150, 29, 150, 33⟩), (Expr.BinOp (left := (Expr.Name "x" ⟨150, 35, 150, 36⟩)) (op := Operator.Mod) (right := (Expr.Constant (Const.int 5) 0 ⟨150, 39, 150, 40⟩)) (pos := ⟨150, 35, 150, 40⟩)), (Expr.BinOp (left := (Expr.Name "x" ⟨150, 42, 150, 43⟩)) (op := Operator.FloorDiv) (right := (Expr.Constant (Const.int 5) 0 ⟨150, 47, 150, 48⟩)) (pos := ⟨150, 42, 150, 48⟩))]) (keywords := []) (pos := ⟨150, 18, 150, 49⟩))) (pos := ⟨150, 12, 150, 49⟩)), (Stmt.Assign (targets := [(Expr.Name "two" ⟨151, 12, 151, 15⟩)]) (value := (Expr.Call (func := (Expr.Name "_law_value" ⟨151, 18, 151, 28⟩)) (args := [ (Expr.Name "make" ⟨151, 29, 151, 33⟩), (Expr.Name "kind" ⟨151, 35, 151, 39⟩), (Expr.BinOp (left := (Expr.Name "w" ⟨151, 41, 151, 42⟩)) (op := Operator.FloorDiv) (right := (Expr.Constant (Const.int 5) 0 ⟨151, 46, 151, 47⟩)) (pos := ⟨151, 41, 151, 47⟩))]) (keywords := []) (pos := ⟨151, 18, 151, 48⟩))) (pos := ⟨151, 12, 151, 48⟩)), (Stmt.For (target := (Expr.Name "k" ⟨152, 16, 152, 17⟩)) (iter := (Expr.Call (func := (Expr.Name "range" ⟨152, 21, 152, 26⟩)) (args := [(Expr.Constant (Const.int 12) 0 ⟨152, 27, 152, 29⟩)]) (keywords := []) (pos := ⟨152, 21, 152, 30⟩))) (body := [ (Stmt.Try (body := [ (Stmt.Assign (targets := [(Expr.Name "told" ⟨154, 20, 154, 24⟩)]) (value := (Expr.Call (func := (Expr.Subscript (value := (Expr.Name "made" ⟨154, 27, 154, 31⟩)) (slice := (Expr.Name "k" ⟨154, 32, 154, 33⟩)) (pos := ⟨154, 27, 154, 34⟩))) (args := [(Expr.Name "one" ⟨154, 35, 154, 38⟩), (Expr.Name "two" ⟨154, 40, 154, 43⟩)]) (keywords := []) (pos := ⟨154, 27, 154, 44⟩))) (pos := ⟨154, 20, 154, 44⟩))]) (handlers := [ (ExceptHandler.ExceptHandler (type := (some (Expr.Name "KeyError" ⟨155, 23, 155, 31⟩))) (name := none) (body := [ (Stmt.Assign (targets := [(Expr.Name "told" ⟨156, 20, 156, 24⟩)]) (value := (Expr.Name "KeyError" ⟨156, 27, 156, 35⟩)) (pos := ⟨156, 20, 156, 35⟩))]) (pos := ⟨155, 16, 156, 35⟩)), (ExceptHandler.ExceptHandler (type := (some (Expr.Name "AttributeError" ⟨157, 23, 157, 37⟩))) (name := none) (body := [ (Stmt.Assign (targets := [(Expr.Name "told" ⟨158, 20, 158, 24⟩)]) (value := (Expr.Name "AttributeError" ⟨158, 27, 158, 41⟩)) (pos := ⟨158, 20, 158, 41⟩))]) (pos := ⟨157, 16, 158, 41⟩))]) (orelse := []) (finalbody := []) (pos := ⟨153, 16, 158, 41⟩)), (Stmt.If (test := (Expr.Compare (left := (Expr.Name "told" ⟨159, 19, 159, 23⟩)) (ops := [CmpOp.IsNot]) (comparators := [ (Expr.Subscript (value := (Expr.Name "due" ⟨159, 31, 159, 34⟩)) (slice := (Expr.Name "k" ⟨159, 35, 159, 36⟩)) (pos := ⟨159, 31, 159, 37⟩))]) (pos := ⟨159, 19, 159, 37⟩))) (body := [ (Stmt.Return (value := (some (Expr.Constant (Const.bool false) 0 ⟨160, 27, 160, 32⟩))) (pos := ⟨160, 20, 160, 32⟩))]) (orelse := []) (pos := ⟨159, 16, 160, 32⟩))]) (orelse := []) (pos := ⟨152, 12, 160, 32⟩))]) (orelse := []) (pos := ⟨139, 8, 160, 32⟩))]) (orelse := []) (pos := ⟨136, 4, 160, 32⟩)) env) Q E ⟨h, g, d, tk, os⟩ := by
  obtain ⟨xs, hxs, hin⟩ := S.num
  obtain ⟨hsz, hget⟩ := ints_get hin
  have hz100 : xs.size ≤ 100 := hsz ▸ hn
  have hz : xs.size ≤ 1000 := Nat.le_trans hz100 (by decide)
  refine wpAny_For (range_it (s := ⟨h, g, d, tk, os⟩) hh e.hk (e.glo _ (by decide)) (by rw [e.eg]; exact S.tw.glob.g.keeps kp) (S.bn.ty "range" (by decide)).1 (by rw [e.eb]; exact S.tw.glob.b.keeps kp) (S.bn.ty "range" (by decide)).2 rfl ?_)
  refine wpAny_Call_Name_kw (Name_function_global e.hk (e.glo _ (by decide)) (loadGlobal_builtin (by rw [e.eg]; exact S.tw.glob.g.keeps kp) (S.bn.fn "len" (by decide)).1 (by rw [e.eb]; exact S.tw.glob.b.keeps kp) (S.bn.fn "len" (by decide)).2 ?_))
  refine callWith_builtin rfl (evalArgs_plain (spliced_cons (lv e F (by decide) V.num (spliced_nil (call_len_list (s := ⟨h, g, d, _, os⟩) (hxs.at fun o eo => kp _ _ eo) (nat_fit hz) ?_)))))
  refine ⟨_, _, rfl, nat_lo _, nat_hi hz, fun I h₂ tk₂ W hI nI k₂ => ?_⟩
  rw [Int.toNat_natCast] at W hI
  dsimp only at nI k₂
  have IW : I ∉ fW env := F.apartOf nI
  have nH : ∀ b o, H.get? b = some o → b ∉ fW env ∧ b ≠ I := fun b o eb => ⟨(fun q => by rw [S.no b q] at eb; cases eb), (fun q => by rw [q] at eb; have := kp _ _ eb; rw [show h.get? I = none from nI] at this; cases this)⟩
  generalize hN : xs.size = N at W hI
  refine codeAny_forLoop (fun n s' => ∃ h' tk' m' i, s' = ⟨h', g, d, tk', os⟩ ∧ IsRangeIter h' I (0 + (i : Nat) * 1) ((N : Int) - (i : Nat)) 1 ∧ Fm h' env m' cm ∧ Vars m' a nb md ∧ (∀ b o, b ∉ fW env → b ≠ I → h.get? b = some o → h'.get? b = some o) ∧ i ≤ N ∧ n = N + 1 - i)
    ?turn (N + 1) ⟨h₂, tk₂, m, 0, rfl, hI, F.keeps k₂, V, fun b o _ _ eb => k₂ b o eb, Nat.zero_le _, rfl⟩
  rintro n s' ⟨h', tk', m', i, rfl, hit, F', V', keep, hi, rfl⟩
  by_cases hlt : i < N
  · refine W.item i _ _ _ hlt hit fun v h2' tk2 hp hit2 ks => ?_
    obtain ⟨tv, rfl⟩ := hp
    rw [show (0 + (i : Int) * 1) = (i : Int) from turn_ix i]
    have ks' : ∀ b o, b ≠ I → h'.get? b = some o → h2'.get? b = some o := fun b o nb => ks b o (by rw [List.mem_singleton]; exact nb)
    have F2 : Fm h2' env m' cm := F'.via fun b o eb hb _ => ks' b o (fun q => IW (q ▸ hb)) eb
    refine wpAny_assign_Name (sv e F2 (by decide) fun h3 tk3 F3 x3 => ?_)
    have kp3 : Kpt H h3 := fun b o eb => x3 b o (nH b o eb).1 (ks' b o (nH b o eb).2 (keep b o (nH b o eb).1 (nH b o eb).2 (kp b o eb)))
    have hiz : i < xs.size := hN ▸ hlt
    refine wpAny_execs_cons (wpAny_Assign_Name (Subscript_ (lv e F3 (by decide) V'.num (lv e F3 (by decide) rfl ?_))))
    obtain ⟨x, tx, _, ex⟩ := hget i _ (Array.getElem?_eq_getElem hiz)
    refine list_item (s := ⟨h3, g, d, _, os⟩) (hxs.at fun o eo => kp3 _ _ eo) (Int.natCast_nonneg i) (small_ix hiz hz) (by rw [Int.toNat_natCast, Array.getElem?_eq_getElem hiz, ex]) (by with_unfolding_all rfl) ?_
    refine sv e F3 (by decide) fun h4 tk4 F4 x4 => ?_
    have kp4 := S.kp kp3 x4
    refine wpAny_execs_cons (wpAny_Assign_Name (Subscript_ (lv e F4 (by decide) V'.num (wpAny_BinOp (lv e F4 (by decide) rfl (wpAny_Constant_int (sub_int ?_)))))))
    refine prev_item (s := ⟨h4, g, d, _, os⟩) (hxs.at fun o eo => kp4 _ _ eo) hiz hz100 (fun k => by with_unfolding_all rfl) fun v hv => ?_
    obtain ⟨j, hv⟩ := hv
    obtain ⟨y, ty, _, rfl⟩ := hget j _ hv
    refine sv e F4 (by decide) fun h5 tk5 F5 x5 => ?_
    have kp5 := S.kp kp4 x5
    refine wpAny_execs_cons (kind_loop (k1 := x.fmod 5) (k2 := y.fmod 5) e S hh F5 kp5 (V'.of rfl rfl rfl) (fmod5 x).1 (fmod5 x).2 (fmod5 y).1 (fmod5 y).2 rfl (fun Q' E' tk hq' => vmod e F5 (by decide) rfl hq') (fun Q' E' tk hq' => vmod e F5 (by decide) rfl hq') ?_ fun h6 tk6 m6 F6 V6 x6 => wpAny_execs_nil ?_)
    · intro kd tkd h tk m7 E' Q' _ g0 g5 F7 kp7 V7 hx7 hw7 hk7 hq7
      exact kind_body e S hA hh hd0 hu F7 kp7 V7 hx7 hw7 hk7 g0 g5 fun h' tk' m' F' V' ex ew x' => hq7 h' tk' m' F' V' (ex.trans hx7) (ew.trans hw7) x'
    · have xx := ((x3.trans x4).trans x5).trans x6
      exact ⟨N + 1 - (i + 1), turn_lt hlt, h6, tk6, m6, i + 1, rfl, xx _ _ IW hit2, F6, V6, fun b o n1 n2 eb => xx b o n1 (ks' b o n2 (keep b o n1 n2 eb)), hlt, rfl⟩
  · have hie : i = N := turn_end hi hlt
    subst hie
    refine W.done _ _ _ hit fun h2' tk2 ks => wpAny_execs_nil ?_
    have ks' : ∀ b o, b ≠ I → h'.get? b = some o → h2'.get? b = some o := fun b o nb => ks b o (by rw [List.mem_singleton]; exact nb)
    exact hq h2' tk2 m' (F'.via fun b o eb hb _ => ks' b o (fun q => IW (q ▸ hb)) eb) fun b o n1 eb => by
      have n2 : b ≠ I := fun q => by rw [q, show h.get? I = none from nI] at eb; cases eb
      exact ks' b o n2 (keep b o n1 n2 eb)
end
end Mine
end

-- part R37
section
open PySem PySem.W PySem.W.X PySem.Calls PyProof.Rows
set_option maxRecDepth 100000
set_option linter.unusedVariables false
set_option maxHeartbeats 1000000
namespace Mine
noncomputable abbrev sScope : Scope := { kind := .function, names := [(".0", .local), ("k", .local), ("sum", .globalImplicit), ("script", .free)], isGenerator := false, isCoroutine := false, more := [] }
theorem Keeps.rfl {s : Shared} : Keeps s s := ⟨s.heap, s.toks, Eq.refl _, fun _ _ e => e⟩
theorem closure_one {env : Env} {c : Addr} (h : env.cells.lookup ("script" : Str) = some c) : closureFor sScope env = pure ([("script", c)] : List (Str × Addr)) := by
  refine (closure_gen fun x hx hf => ?_).trans ?_
  · simp only [List.mem_cons, List.not_mem_nil, or_false] at hx
    rcases hx with rfl | rfl | rfl | rfl <;> first | (cases hf; done) | exact ⟨c, h⟩
  · show pure ([("script", (env.cells.lookup ("script" : Str)).getD 0)] : List (Str × Addr)) = _
    rw [h]; rfl
theorem ints_of {l1 l2 : List Value} (h : Paired (fun _ y => ∃ n t, y = Value.int n t) l1 l2) : ∃ ns : List Int, IntsAt ns l2 ∧ ns.length = l1.length := by
  induction h with
  | nil => exact ⟨[], .nil, rfl⟩
  | cons a _ ih =>
    obtain ⟨n, t, rfl⟩ := a
    obtain ⟨ns, h1, h2⟩ := ih
    exact ⟨n :: ns, .cons ⟨t, rfl⟩ h1, by rw [List.length_cons, List.length_cons, h2]⟩
theorem paired_app {α β : Type} {F : α → β → Prop} {l1 l3 : List α} {l2 l4 : List β} (p : Paired F l1 l2) (q : Paired F l3 l4) : Paired F (l1 ++ l3) (l2 ++ l4) := by
  induction p with
  | nil => exact q
  | cons a _ ih => exact .cons a ih
theorem isList_ex {W : List Addr} {h h' : Heap} {l : Addr} {items : Array Value} (x : WOk W h) (k : Ex W h h') (y : h.IsList l items) : h'.IsList l items := by
  obtain ⟨o, e, c, n, d⟩ := y
  exact ⟨o, k _ _ (x.off e (by intro _ _ q; rw [d] at q; cases q) (by intro _ q; rw [d] at q; cases q)) e, c, n, d⟩
section
variable {prog : Program} {w : World} {A : Around} {E : Value → Shared → Prop} {h : Heap} {env : Env} {m cm mg mb : Str → Option Value} {g : Array GenState} {d : Drawn} {tk : Nat} {os : OsState}
/-- script = script[:21] -/
theorem st_script {sl : Addr} {items : Array Value} {p1 p2 p3 p4 p5 p6 : Pos} {n : Int} {Q : Flow → Shared → Prop} (e : LE env) (F : Fm h env m cm) (hs : cm "script" = some (.ref sl)) (hl : h.IsList sl items) (hsz : items.size ≤ sizeLine)
    (hq : ∀ D h' tk', Fm h' env m (fun y => if y = ("script" : Str) then some (.ref D) else cm y) → Ex (fW env) h h' → h'.IsList D (slicePick items none (some n) none) → Q .next ⟨h', g, d, tk', os⟩) :
    wpAny (model prog w) A (exec (.Assign [.Name "script" p1] (.Subscript (.Name "script" p2) (.Slice none (some (.Constant (.int n) 0 p3)) none p4) p5) p6) env) Q E ⟨h, g, d, tk, os⟩ := by
  obtain ⟨kc, c, hc⟩ := e.cel
  refine wpAny_Assign_Name (slice2 (s := ⟨h, g, d, tk, os⟩) (lo := none) (hi := some n) (fun Q' hq' => wpAny_Name (F.ldC (s := ⟨h, g, d, tk, os⟩) e.hk kc hc hs hq')) hl hsz ?_ ?_ ?_)
  · intro Q' s' es hq'
    rw [evalPart_none]
    exact wpAny_pure (hq' _ _ .none)
  · intro Q' s' es hq'
    rw [evalPart_some]
    exact wpAny_Constant_int (hq' _ _ (.int _ _))
  intro D h₁ tk₁ keep _ hD
  refine (F.keeps keep).stC (s := ⟨h₁, g, d, tk₁, os⟩) e.hk kc hc fun h₂ tk₂ F₂ x => ?_
  exact hq D h₂ tk₂ F₂ ((Ex.of keep).trans x) (isList_ex (F.keeps keep).wok x ⟨_, hD, rfl, _, rfl⟩)
/-- sum(script[k::st]) -/
theorem sum_elt {C : Addr} {scope : Scope} {cl : List (Str × Addr)} {st k : Int} {t : Tok} {p1 p2 p3 p4 p5 p6 p7 : Pos} {sl cs' : Addr} {items : Array Value} {s₃ : Shared} {m₃ mg mb : Str → Option Value} {E' : Value → Shared → Prop} (hh : A.handled = none) (hst : st ≠ 0)
    (hk : scope.kind = .function) (ek : env.scope.kind = .function) (kk : scope.names.lookup ("k" : Str) = some .local) (ks : scope.names.lookup ("sum" : Str) = some .globalImplicit) (kc : scope.names.lookup ("script" : Str) = some .free) (kc' : env.kindOf "script" = some .cell) (hcl : cl.lookup ("script" : Str) = some cs')
    (hns : s₃.heap.Ns C m₃) (hm : m₃ "k" = some (.int k t)) (hcs : s₃.heap.IsCell cs' (some (.ref sl))) (hl : s₃.heap.IsList sl items) (ha : AllInts items) (hsz : items.size ≤ sizeLine)
    (hg : s₃.heap.Ns env.globals mg) (hb : s₃.heap.Ns env.builtins mb) (g1 : mg "sum" = none) (g2 : mb "sum" = some (.builtin "sum")) :
    wpAny (model prog w) A (eval (.Call (.Name "sum" p1) [.Subscript (.Name "script" p2) (.Slice (some (.Name "k" p3)) none (some (.Constant (.int st) 0 p4)) p5) p6] [] p7) (compEnvC scope cl C env))
      (fun y s₄ => (∃ n t, y = .int n t) ∧ Keeps s₃ s₄) E' s₃ := by
  obtain ⟨h₃, gg, dd, tk₃, oo⟩ := s₃
  dsimp only at hns hcs hl hg hb
  have hk' : (compEnvC scope cl C env).scope.kind = .function := hk
  refine wpAny_Call_Name_kw (Name_function_global hk' (comp_kind ks rfl) (loadGlobal_builtin hg g1 hb g2 (callWith_builtin rfl (evalArgs_plain (spliced_cons ?_)))))
  refine slice3 (lo := some k) (hi := none) (st := st) hst (fun Q' hq' => wpAny_Name (wpAny_loadName_cell hk' (comp_cell kc ek kc') hcl hcs hq')) hl hsz ?_ ?_ ?_ ?_
  · intro Q' s' es hq'
    rw [evalPart_some]
    exact wpAny_Name (wpAny_loadName_local hk' (comp_kind kk rfl) (es ▸ hns) hm (hq' _ _ (.int _ _)))
  · intro Q' s' es hq'
    rw [evalPart_none]
    exact wpAny_pure (hq' _ _ .none)
  · intro Q' s' es hq'
    exact wpAny_Constant_int (hq' _ _ (.int _ _))
  intro D h₄ tk₄ keep₄ _ hD
  refine spliced_nil (sum_some (s := ⟨h₄, gg, dd, tk₄, oo⟩) hh ⟨_, hD, rfl, _, rfl⟩ (ai_pick ha _ _ _) fun n t' h₅ tk₅ keep₅ => ?_)
  exact ⟨⟨_, _, rfl⟩, h₅, _, rfl, fun b o e => keep₅ _ _ (keep₄ _ _ e)⟩
theorem ite_int {n : Nat} {t u : Tok} : ∃ N tN, (if (3 : Int) < (n : Int) then Value.int 3 u else Value.int n t) = .int N tN ∧ 0 ≤ N ∧ N ≤ 3 := by
  by_cases c : (3 : Int) < n
  · exact ⟨3, u, by rw [if_pos c], by decide, by decide⟩
  · exact ⟨n, t, by rw [if_neg c], Int.natCast_nonneg n, by omega⟩
/-- numbers = [..] + [43, 37, 46, 34, 15] -/
theorem st_numbers {sl : Addr} {items : Array Value} {st c0 c1 c2 c3 c4 : Int} {Q : Flow → Shared → Prop} (e : LE env) (N : BN mg mb) (hg : h.Ns mainGlobals mg) (hb : h.Ns builtinsNs mb) (hh : A.handled = none) (F : Fm h env m cm) (hs : cm "script" = some (.ref sl)) (hl : h.IsList sl items) (ha : AllInts items) (hsz : items.size ≤ 100) (hst : st ≠ 0)
    (hq : ∀ D h' tk' ns xs, Fm h' env (upd m "numbers" (.ref D)) cm → Ex (fW env) h h' → h'.IsList D xs → IntsAt ns xs.toList → ns.length ≤ 100 → Q .next ⟨h', g, d, tk', os⟩) :
    wpAny (model prog w) A (exec (.Assign [.Name "numbers" ⟨118, 4, 118, 11⟩] (.BinOp (.ListComp (.Call (.Name "sum" ⟨118, 15, 118, 18⟩) [.Subscript (.Name "script" ⟨118, 19, 118, 25⟩) (.Slice (some (.Name "k" ⟨118, 26, 118, 27⟩)) none (some (.Constant (.int st) 0 ⟨118, 29, 118, 30⟩)) ⟨118, 26, 118, 30⟩) ⟨118, 19, 118, 31⟩] [] ⟨118, 15, 118, 32⟩) [⟨.Name "k" ⟨118, 37, 118, 38⟩, .Call (.Name "range" ⟨118, 42, 118, 47⟩) [.Call (.Name "min" ⟨118, 48, 118, 51⟩) [.Call (.Name "len" ⟨118, 52, 118, 55⟩) [.Name "script" ⟨118, 56, 118, 62⟩] [] ⟨118, 52, 118, 63⟩, .Constant (.int 3) 0 ⟨118, 65, 118, 66⟩] [] ⟨118, 48, 118, 67⟩] [] ⟨118, 42, 118, 68⟩, [], 0⟩] sScope ⟨118, 14, 118, 69⟩) .Add (.List [.Constant (.int c0) 0 ⟨118, 73, 118, 75⟩, .Constant (.int c1) 0 ⟨118, 77, 118, 79⟩, .Constant (.int c2) 0 ⟨118, 81, 118, 83⟩, .Constant (.int c3) 0 ⟨118, 85, 118, 87⟩, .Constant (.int c4) 0 ⟨118, 89, 118, 91⟩] ⟨118, 72, 118, 92⟩) ⟨118, 14, 118, 92⟩) ⟨118, 4, 118, 92⟩) env) Q E ⟨h, g, d, tk, os⟩ := by
  obtain ⟨kc, c, hc⟩ := e.cel
  have hcell := F.cell "script" c hc
  rw [hs] at hcell
  have sz : ∀ {n : Nat}, n ≤ 100 → n ≤ sizeLine := fun h => le_line (Nat.le_trans h (by decide))
  refine wpAny_Assign_Name (wpAny_BinOp ?_)
  refine wpAny_ListComp_free (cl := [("script", c)]) (fun _ => true) (fun _ y => ∃ n t, y = Value.int n t) (closure_one hc) (by decide) rfl (by intro y hy; simp only [List.mem_cons, List.not_mem_nil, or_false] at hy; rcases hy with rfl | rfl | rfl | rfl <;> intro z <;> first | rfl | cases z) rfl ?_
  refine range_it hh e.hk (e.glo _ (by decide)) (by rw [e.eg]; exact hg) (N.ty "range" (by decide)).1 (by rw [e.eb]; exact hb) (N.ty "range" (by decide)).2 rfl ?_
  refine wpAny_Call_Name_kw (Name_function_global e.hk (e.glo _ (by decide)) (loadGlobal_builtin (by rw [e.eg]; exact hg) (N.fn "min" (by decide)).1 (by rw [e.eb]; exact hb) (N.fn "min" (by decide)).2 (callWith_builtin rfl (evalArgs_plain (spliced_cons ?_)))))
  refine wpAny_Call_Name_kw (Name_function_global e.hk (e.glo _ (by decide)) (loadGlobal_builtin (by rw [e.eg]; exact hg) (N.fn "len" (by decide)).1 (by rw [e.eb]; exact hb) (N.fn "len" (by decide)).2 (callWith_builtin rfl (evalArgs_plain (spliced_cons (wpAny_Name (F.ldC (s := ⟨h, g, d, _, os⟩) e.hk kc hc hs (spliced_nil (call_len_list (s := ⟨h, g, d, _, os⟩) hl (by omega) ?_)))))))))
  refine spliced_cons (wpAny_Constant_int (k := 0) (pos := ⟨118, 65, 118, 66⟩) (spliced_nil (min_two_ints hh fun h₁ tk₁ k₁ => ?_)))
  dsimp only at k₁
  obtain ⟨n3, tn3, hn3, n0, n3'⟩ := ite_int (n := items.size)
  refine ⟨n3, tn3, hn3, Int.le_trans (by decide) n0, Int.lt_of_le_of_lt n3' (by decide), fun I h₂ tk₂ W hI nI k₂ => ?_⟩
  dsimp only at nI k₂
  have kI : ∀ {h₃ : Heap}, (∀ b o, b ∉ [I] → h₂.get? b = some o → h₃.get? b = some o) → ∀ b o, h.get? b = some o → h₃.get? b = some o := fun k b o eb => k b o (fun q => by rw [List.mem_singleton] at q; have eb' := k₁ _ _ eb; rw [q, nI] at eb'; cases eb') (k₂ b o (k₁ _ _ eb))
  refine ⟨I, [I], [I], _, _, _, rfl, W.bound, le_line (Nat.le_trans (Int.toNat_le.mpr n3') (by decide)), hI, fun b hb => by rw [List.mem_singleton] at hb; subst hb; exact Heap.lt_size hI, ⟨?_, ?_⟩, ?_⟩
  · intro C i v s₃ m₃ E' _ hP hns hm k₃ _
    exact wpAny_pure ⟨rfl, Keeps.rfl⟩
  · intro C i v s₃ m₃ E' _ hP _ hns hm k₃ _
    obtain ⟨hlt, t, rfl⟩ := hP
    have k := kI k₃
    exact sum_elt hh hst rfl e.hk rfl rfl rfl kc rfl hns hm (hcell.keeps k) (hl.at fun o eb => k _ _ eb) ha (sz hsz) (by rw [e.eg]; exact hg.keeps k) (by rw [e.eb]; exact hb.keeps k) (N.fn "sum" (by decide)).1 (N.fn "sum" (by decide)).2
  · intro D h' tk' ys vs nD hD _ hlen hP hF k₃
    have k := kI k₃
    obtain ⟨ns, hi, hz⟩ := ints_of hF
    have hns : ns.length ≤ 3 := by rw [hz, List.filter_eq_self.mpr (fun _ _ => rfl), hlen]; exact Int.toNat_le.mpr n3'
    refine wpAny_List (spliced_cons (wpAny_Constant_int (k := 0) (pos := ⟨118, 73, 118, 75⟩) (spliced_cons (wpAny_Constant_int (k := 0) (pos := ⟨118, 77, 118, 79⟩) (spliced_cons (wpAny_Constant_int (k := 0) (pos := ⟨118, 81, 118, 83⟩) (spliced_cons (wpAny_Constant_int (k := 0) (pos := ⟨118, 85, 118, 87⟩) (spliced_cons (wpAny_Constant_int (k := 0) (pos := ⟨118, 89, 118, 91⟩) (spliced_nil ⟨by rw [sizeLine_eq]; simp, ?_⟩)))))))))))
    have kp : ∀ o, Kpt h' (h'.push o) := fun o b ob eb => Heap.get?_push_of_some _ eb
    have hD' : h'.IsList D ys.toList.toArray := by rw [Array.toArray_toList]; exact hD
    refine add_ls (s := ⟨h'.push _, g, d, _, os⟩) ((F.keeps k).keeps (kp _)) (hD'.at fun o eo => kp _ _ _ eo) ⟨_, Heap.get?_push_size _ rfl, rfl, _, rfl⟩ (by rw [← hi.length]; simp; omega) fun D2 h4 F4 x4 n4 e4 => ?_
    refine sv e F4 (by decide) fun h5 tk5 F5 x5 => ?_
    refine hq D2 h5 tk5 (ns ++ [c0, c1, c2, c3, c4]) _ F5 (((Ex.of k).trans ((Ex.of (kp _)).trans x4)).trans x5) (isList_ex F4.wok x5 ⟨_, e4, rfl, _, rfl⟩) ?_ (by rw [List.length_append]; simp; omega)
    exact paired_app hi (.cons ⟨_, rfl⟩ (.cons ⟨_, rfl⟩ (.cons ⟨_, rfl⟩ (.cons ⟨_, rfl⟩ (.cons ⟨_, rfl⟩ .nil)))))
end
end Mine
end

-- part R38
section
open PySem PySem.W PySem.W.X PySem.Calls PyProof.Rows
set_option maxRecDepth 100000
set_option linter.unusedVariables false
set_option maxHeartbeats 1000000
namespace Mine
theorem frag_tab {P : Params} {a : Addr} {o : Obj} (e : (hd.heap_39 P).lookup a = some o) : ¬ IsTab o := by
  have h2 := List.all_eq_true.mp (show noTabs (hd.heap_39 P) = true from by kernel_rfl) (a, o) (mem_of_lookupK e)
  rintro ⟨ps, _, rfl⟩
  exact absurd (show false = true from h2) Bool.false_ne_true
noncomputable abbrev lQ : Str := "law.<locals>.<lambda>"
/-- the heap that the law came upon -/
structure G0 (w : World) (s₀ : Heap) (mg mb : Str → Option Value) (env : Env) : Prop where
  X : (hd.heap_39 w.params).In s₀
  G : GK s₀ mg mb
  N : BN mg mb
  no : ∀ b ∈ fW env, s₀.get? b = none
  t1 : s₀.get? 100 = some (tabObj #[])
  t2 : s₀.get? 133 = some (tabObj #[])
  eL : env.locals = s₀.objs.size
/-- the state between two of the law's first statements -/
structure MS (s₀ h : Heap) (env : Env) (m cm : Str → Option Value) (S : List (Pos × Str)) : Prop where
  fm : Fm h env m cm
  base : ∀ b o, s₀.get? b = some o → b ≠ 100 → b ≠ 133 → h.get? b = some o
  tabC : ∃ ps, h.get? 100 = some (tabObj ps)
  tabT : TabGood h 133 S
theorem tab0 : IsTab (tabObj #[]) := ⟨#[], trivial, rfl⟩
section
variable {w : World} {s₀ h h' : Heap} {env : Env} {m cm m' cm' mg mb : Str → Option Value} {S : List (Pos × Str)}
theorem G0.nt (g0 : G0 w s₀ mg mb env) {b : Addr} {o : Obj} (e : s₀.get? b = some o) (n : ¬ IsTab o) : b ≠ 100 ∧ b ≠ 133 :=
  ⟨fun q => by rw [q, g0.t1] at e; cases e; exact n tab0, fun q => by rw [q, g0.t2] at e; cases e; exact n tab0⟩
theorem MS.nt (x : MS s₀ h env m cm S) (g0 : G0 w s₀ mg mb env) {b : Addr} {o : Obj} (e : s₀.get? b = some o) (n : ¬ IsTab o) : h.get? b = some o := x.base b o e (g0.nt e n).1 (g0.nt e n).2
theorem MS.ns {a : Addr} {mm : Str → Option Value} (x : MS s₀ h env m cm S) (g0 : G0 w s₀ mg mb env) (n : s₀.Ns a mm) : h.Ns a mm := Ns.via n fun o e nt => x.nt g0 e nt
theorem MS.frag (x : MS s₀ h env m cm S) (g0 : G0 w s₀ mg mb env) : (hd.heap_39 w.params).In h := fun a o e => x.nt g0 (g0.X a o e) (frag_tab e)
theorem MS.ex (x : MS s₀ h env m cm S) (g0 : G0 w s₀ mg mb env) (F : Fm h' env m' cm') (k : Ex (fW env) h h') : MS s₀ h' env m' cm' S := by
  have n1 : (100 : Addr) ∉ fW env := fun q => by have := g0.no _ q; rw [g0.t1] at this; cases this
  refine ⟨F, fun b o e h1 h2 => k b o (fun q => by rw [g0.no b q] at e; cases e) (x.base b o e h1 h2), (by obtain ⟨ps, e⟩ := x.tabC; exact ⟨ps, k _ _ n1 e⟩), TabGood.fld (fun b o vs d e => k b o (x.fm.wokF e (by intro _ _ q; rw [d] at q; cases q) (by intro _ q; rw [d] at q; cases q)) e) x.tabT⟩
theorem MS.ft (x : MS s₀ h env m cm S) (k : ∀ b o, b ≠ 133 → h.get? b = some o → h'.get? b = some o) : Ft (fW env) h h' := fun b o _ n e => k b o (fun q => by
  obtain ⟨ps, e', ok, _⟩ := x.tabT
  rw [q, e'] at e; cases e; exact n ⟨ps, ok, rfl⟩) e
theorem Ft.trans {W : List Addr} {h'' : Heap} (k : Ft W h h') (k' : Ft W h' h'') : Ft W h h'' := fun b o hb n e => k' b o hb n (k b o hb n e)
theorem Ft.of {W : List Addr} (k : Ex W h h') : Ft W h h' := fun b o hb _ e => k b o hb e
theorem LamAt.ft {f : Addr} {n : Str} (F : Fm h env m cm) (k : Ft (fW env) h h') (y : LamAt h f n) : LamAt h' f n := by
  obtain ⟨qual, q1, q2, p0, p1, p2, p3, pm, cv, ctv, e, c⟩ := y
  exact ⟨qual, q1, q2, p0, p1, p2, p3, pm, cv, ctv, get_ftF F.wok.toi k e (by intro _ _ q; cases q) (by intro _ q; cases q) (by intro _ q; cases q), CodeRec.ft F.wok.toi k c⟩
theorem isList_ft {l : Addr} {xs : Array Value} (F : Fm h env m cm) (k : Ft (fW env) h h') (y : h.IsList l xs) : h'.IsList l xs := by
  obtain ⟨o, e, c, n, d⟩ := y
  exact ⟨o, get_ftF F.wok.toi k e (by intro _ _ q; rw [d] at q; cases q) (by intro _ q; rw [d] at q; cases q) (by intro _ q; rw [d] at q; cases q), c, n, d⟩
/-- a list of lambdas, one for each name -/
noncomputable def MadeL (h : Heap) (D : Addr) (names : List Str) : Prop := ∃ vs : List Value, h.IsList D vs.toArray ∧ Paired (fun n v => ∃ f, v = .ref f ∧ LamAt h f n) names vs
theorem paired_imp {α β : Type} {F G : α → β → Prop} (i : ∀ a b, F a b → G a b) {l1 : List α} {l2 : List β} (p : Paired F l1 l2) : Paired G l1 l2 := by
  induction p with
  | nil => exact .nil
  | cons a _ ih => exact .cons (i _ _ a) ih
theorem MadeL.ft {D : Addr} {names : List Str} (F : Fm h env m cm) (k : Ft (fW env) h h') (y : MadeL h D names) : MadeL h' D names := by
  obtain ⟨vs, hl, hp⟩ := y
  exact ⟨vs, isList_ft F k hl, paired_imp (fun n v ⟨f, e, l⟩ => ⟨f, e, l.ft F k⟩) hp⟩
theorem MS.gk (x : MS s₀ h env m cm S) (g0 : G0 w s₀ mg mb env) : GK h mg mb := by
  obtain ⟨bm, o, a1, a2, a3, a4, a5, r⟩ := g0.G.bs
  obtain ⟨mc, a, b⟩ := g0.G.lim
  exact ⟨x.ns g0 g0.G.g, x.ns g0 g0.G.b, ⟨mc, x.ns g0 a, b⟩, g0.G.ob, g0.G.bob, g0.G.bc, ⟨bm, o, a1, a2, a3, x.nt g0 a4 (fun z => by have := z.cls; rw [a5] at this; cases this), a5, r⟩, g0.G.nm⟩
end
section
variable {w : World} {A : Around} {E : Value → Shared → Prop} {s₀ h : Heap} {env : Env} {m cm mg mb : Str → Option Value} {S : List (Pos × Str)} {g : Array GenState} {d : Drawn} {tk : Nat} {os : OsState}
noncomputable abbrev lamE (n : Str) (q1 q2 p0 p1 p2 p3 pos : Pos) : Expr := .Lambda (lmArgs q1 q2) (lmBody n p0 p1 p2 p3) (lmScope n) pos
theorem lam_one {n : Str} {q1 q2 p0 p1 p2 p3 pos : Pos} {Q : Value → Shared → Prop} (e : LE env) (g0 : G0 w s₀ mg mb env) (x : MS s₀ h env m cm S) (hSq : ∀ y ∈ S, y.2 = lQ) (hS : (pos, lQ) ∈ S)
    (hq : ∀ f h' tk', MS s₀ h' env m cm S → Ft (fW env) h h' → LamAt h' f n → Q (.ref f) ⟨h', g, d, tk', os⟩) :
    wpAny (model PySem.Challenge.pw_dz0037_01 w) A (eval (lamE n q1 q2 p0 p1 p2 p3 pos) env) Q E ⟨h, g, d, tk, os⟩ := by
  have GG := x.gk g0
  have B : h.BuiltinsAt mg 133 := by
    obtain ⟨bm, ob, b1, b2, b3, b4, b5, b6⟩ := GG.bs
    refine ⟨bm, ob, b1, b2, b3, fun q => ?_, b4, b5, b6⟩
    obtain ⟨ps, e', ok, _⟩ := x.tabT
    rw [q, e'] at b4; cases b4; cases b5
  have hcl : closureFor (lmScope n) env = pure [] := closureFor_none fun y hy => by
    simp only [List.mem_cons, List.not_mem_nil, or_false] at hy
    rcases hy with rfl | rfl | rfl <;> (intro q; cases q)
  refine lam_make (s := ⟨h, g, d, tk, os⟩) rfl e.eq hcl e.eg GG.g e.ec (codeHd_of_K (c := 135) (P := 133) (x.frag g0) (by kernel_rfl)) x.tabT (by decide) B hS (fun y hy _ _ => hSq y hy) fun f cv ctv h₁ tk₁ k₁ e₁ n₁ r₁ t₁ => ?_
  have k := x.ft k₁
  exact hq f h₁ tk₁ ⟨x.fm.via fun b o eb _ n => k₁ b o (fun q => by
    obtain ⟨ps, e', ok, _⟩ := x.tabT
    rw [show b = 133 from q, e'] at eb; cases eb; exact n ⟨ps, ok, rfl⟩) eb, fun b o eb n1 n2 => k₁ b o n2 (x.base b o eb n1 n2), (by obtain ⟨ps, e⟩ := x.tabC; exact ⟨ps, k₁ _ _ (by decide) e⟩), t₁⟩ k ⟨_, _, _, _, _, _, _, _, _, _, e₁, r₁⟩
theorem lam_three {n0 n1 n2 : Str} {a1 a2 a3 a4 a5 a6 a7 b1 b2 b3 b4 b5 b6 b7 c1 c2 c3 c4 c5 c6 c7 p : Pos} {Q : Value → Shared → Prop} (e : LE env) (g0 : G0 w s₀ mg mb env) (x : MS s₀ h env m cm S) (hSq : ∀ y ∈ S, y.2 = lQ) (hS0 : (a7, lQ) ∈ S) (hS1 : (b7, lQ) ∈ S) (hS2 : (c7, lQ) ∈ S)
    (hq : ∀ D h' tk', MS s₀ h' env m cm S → Ft (fW env) h h' → MadeL h' D [n0, n1, n2] → Q (.ref D) ⟨h', g, d, tk', os⟩) :
    wpAny (model PySem.Challenge.pw_dz0037_01 w) A (eval (.List [lamE n0 a1 a2 a3 a4 a5 a6 a7, lamE n1 b1 b2 b3 b4 b5 b6 b7, lamE n2 c1 c2 c3 c4 c5 c6 c7] p) env) Q E ⟨h, g, d, tk, os⟩ := by
  refine wpAny_List (spliced_cons (lam_one e g0 x hSq hS0 fun f0 h1 tk1 x1 k1 l0 => spliced_cons (lam_one e g0 x1 hSq hS1 fun f1 h2 tk2 x2 k2 l1 => spliced_cons (lam_one e g0 x2 hSq hS2 fun f2 h3 tk3 x3 k3 l2 => spliced_nil ⟨by rw [sizeLine_eq]; simp, ?_⟩))))
  have kp : ∀ o, Kpt h3 (h3.push o) := fun o b ob eb => Heap.get?_push_of_some _ eb
  have kf : ∀ o, Ft (fW env) h3 (h3.push o) := fun o => Ft.of (Ex.of (kp o))
  exact hq _ _ _ (x3.ex g0 (x3.fm.keeps (kp _)) (Ex.of (kp _))) (((k1.trans k2).trans k3).trans (kf _)) ⟨_, ⟨_, Heap.get?_push_size _ rfl, rfl, _, rfl⟩,
    .cons ⟨_, rfl, l0.ft x1.fm ((k2.trans k3).trans (kf _))⟩ (.cons ⟨_, rfl, l1.ft x2.fm (k3.trans (kf _))⟩ (.cons ⟨_, rfl, l2.ft x3.fm (kf _)⟩ .nil))⟩
/-- made = [.., .., ..] -/
theorem st_made0 {n0 n1 n2 : Str} {a1 a2 a3 a4 a5 a6 a7 b1 b2 b3 b4 b5 b6 b7 c1 c2 c3 c4 c5 c6 c7 p p1 p2 : Pos} {Q : Flow → Shared → Prop} (e : LE env) (g0 : G0 w s₀ mg mb env) (x : MS s₀ h env m cm S) (hSq : ∀ y ∈ S, y.2 = lQ) (hS0 : (a7, lQ) ∈ S) (hS1 : (b7, lQ) ∈ S) (hS2 : (c7, lQ) ∈ S)
    (hq : ∀ D h' tk', MS s₀ h' env (upd m "made" (.ref D)) cm S → Ft (fW env) h h' → MadeL h' D [n0, n1, n2] → Q .next ⟨h', g, d, tk', os⟩) :
    wpAny (model PySem.Challenge.pw_dz0037_01 w) A (exec (.Assign [.Name "made" p1] (.List [lamE n0 a1 a2 a3 a4 a5 a6 a7, lamE n1 b1 b2 b3 b4 b5 b6 b7, lamE n2 c1 c2 c3 c4 c5 c6 c7] p) p2) env) Q E ⟨h, g, d, tk, os⟩ := by
  refine wpAny_Assign_Name (lam_three e g0 x hSq hS0 hS1 hS2 fun D h1 tk1 x1 k1 l1 => sv e x1.fm (by decide) fun h2 tk2 F2 x2 => ?_)
  exact hq D h2 tk2 (x1.ex g0 F2 x2) (k1.trans (Ft.of x2)) (l1.ft x1.fm (Ft.of x2))
/-- made = made + [.., .., ..] -/
theorem st_madeN {n0 n1 n2 : Str} {names : List Str} {D0 : Addr} {a1 a2 a3 a4 a5 a6 a7 b1 b2 b3 b4 b5 b6 b7 c1 c2 c3 c4 c5 c6 c7 p p1 p2 p3 p4 : Pos} {Q : Flow → Shared → Prop} (e : LE env) (g0 : G0 w s₀ mg mb env) (x : MS s₀ h env m cm S) (hSq : ∀ y ∈ S, y.2 = lQ) (hS0 : (a7, lQ) ∈ S) (hS1 : (b7, lQ) ∈ S) (hS2 : (c7, lQ) ∈ S)
    (hm : m "made" = some (.ref D0)) (l0 : MadeL h D0 names) (hz : names.length ≤ 100)
    (hq : ∀ D h' tk', MS s₀ h' env (upd m "made" (.ref D)) cm S → Ft (fW env) h h' → MadeL h' D (names ++ [n0, n1, n2]) → Q .next ⟨h', g, d, tk', os⟩) :
    wpAny (model PySem.Challenge.pw_dz0037_01 w) A (exec (.Assign [.Name "made" p1] (.BinOp (.Name "made" p3) .Add (.List [lamE n0 a1 a2 a3 a4 a5 a6 a7, lamE n1 b1 b2 b3 b4 b5 b6 b7, lamE n2 c1 c2 c3 c4 c5 c6 c7] p) p4) p2) env) Q E ⟨h, g, d, tk, os⟩ := by
  refine wpAny_Assign_Name (wpAny_BinOp (lv e x.fm (by decide) hm (lam_three e g0 x hSq hS0 hS1 hS2 fun D h1 tk1 x1 k1 l1 => ?_)))
  obtain ⟨vs0, i0, q0⟩ := l0.ft x.fm k1
  obtain ⟨vs1, i1, q1⟩ := l1
  refine add_ls (s := ⟨h1, g, d, _, os⟩) x1.fm i0 i1 (by rw [← q0.length, ← q1.length]; simp; omega) fun D2 h2 F2 x2 n2 e2 => ?_
  refine sv e F2 (by decide) fun h3 tk3 F3 x3 => ?_
  have kk := x2.trans x3
  refine hq D2 h3 tk3 (x1.ex g0 F3 kk) (k1.trans (Ft.of kk)) ⟨_, isList_ex F2.wok x3 ⟨_, e2, rfl, _, rfl⟩, paired_imp (fun n v ⟨f, e, l⟩ => ⟨f, e, l.ft x1.fm (Ft.of kk)⟩) (paired_app q0 q1)⟩
/-- make = cmp_to_key(_law_answer) -/
theorem st_make {p1 p2 p3 p4 p5 : Pos} {Q : Flow → Shared → Prop} (e : LE env) (g0 : G0 w s₀ mg mb env) (F : Fm h env m cm) (kp : Kpt s₀ h) (hd0 : A.depth ≤ 790) (hu : A.units ≤ 3900)
    (hq : ∀ a cc h' tk', MS s₀ h' env (upd m "make" (.ref a.C)) cm S → Ft (fW env) h h' → Key h' a cc 112 → InitAt h' a.fi → a.N ∉ fW env → cc ∉ fW env → Q .next ⟨h', g, d, tk', os⟩) :
    wpAny (model PySem.Challenge.pw_dz0037_01 w) A (exec (.Assign [.Name "make" p1] (.Call (.Name "cmp_to_key" p2) [.Name "_law_answer" p3] [] p4) p5) env) Q E ⟨h, g, d, tk, os⟩ := by
  have hX : (hd.heap_39 w.params).In h := fun b o eb => kp _ _ (g0.X b o eb)
  have hg := g0.G.g.keeps kp
  obtain ⟨fo, fdd, hfo, hfd⟩ : ∃ o fd, h.get? 105 = some o ∧ o.data = .func fd := ⟨_, _, hX 105 _ rfl, rfl⟩
  refine wpAny_Assign_Name (wpAny_Call_Name_kw (Name_function_global e.hk (e.glo _ (by decide)) (loadGlobal_global (by rw [e.eg]; exact hg) (show mg "cmp_to_key" = some (.ref 105) from mg_of hX hg (by rfl)) ?_)))
  refine callWith_function (o := fo) (fd := fdd) (evalArgs_plain (spliced_cons (Name_function_global e.hk (e.glo _ (by decide)) (loadGlobal_global (by rw [e.eg]; exact hg) (show mg "_law_answer" = some (.ref 112) from mg_of hX hg (by rfl)) (spliced_nil ⟨⟨hfo, hfd⟩, ?_⟩)))))
  have t1 := kp _ _ g0.t1
  have l136 : 136 < s₀.objs.size := Heap.lt_size (g0.X 136 _ rfl)
  refine cmp_call (s := ⟨h, g, d, tk, os⟩) (lo := s₀.objs.size) hX (g0.G.keeps kp) ⟨codeHd_of_K (c := 104) (P := 100) hX (by kernel_rfl), #[], t1, trivial, fun _ q => by cases q⟩ (Nat.le_trans (by decide) (Nat.le_of_lt l136)) ?_ ⟨_, _, _, _, hX 112 _ rfl⟩ hd0 hu fun a cc h1 tk1 M => ?_
  · obtain ⟨o, _, _, eo, _⟩ := F.ns
    rw [g0.eL] at eo
    exact ⟨_, o, Nat.le_succ _, eo⟩
  have n1 : (100 : Addr) ∉ fW env := fun q => by have := g0.no _ q; rw [g0.t1] at this; cases this
  have aN : a.N ∉ fW env := fun q => by
    obtain ⟨o, eo, r⟩ := F.wok _ q
    rcases M.newN o eo with z | z
    · exact n1 (z ▸ q)
    · obtain ⟨_, z⟩ := z.data
      rcases r with ⟨_, _, r⟩ | ⟨_, r⟩ <;> (rw [z] at r; cases r)
  have hcc : cc ∉ fW env := F.apartOf M.newc
  have nt : ∀ b o, h.get? b = some o → ¬ IsTab o → h1.get? b = some o := fun b o eb n => M.keep b o eb (fun q => by rw [q, t1] at eb; cases eb; exact n tab0) (.inl n)
  have F1 : Fm h1 env m cm := F.via fun b o eb _ n => nt b o eb n
  have x1 : MS s₀ h1 env m cm S := ⟨F1, fun b o eb h1 _ => M.keep b o (kp _ _ eb) h1 (.inr (Heap.lt_size eb)), (by obtain ⟨_, ps, e', _⟩ := M.tab; exact ⟨ps, e'⟩), ⟨#[], M.keep _ _ (kp _ _ g0.t2) (by decide) (.inr (Heap.lt_size g0.t2)), trivial, fun _ _ _ q => by cases q⟩⟩
  refine sv e F1 (by decide) fun h2 tk2 F2 x2 => ?_
  have n2 : cStatics ∉ fW env := fun q => by have e2 := g0.X 2 _ rfl; have z : s₀.get? 2 = none := g0.no _ q; rw [e2] at z; cases z
  exact hq a cc h2 tk2 (x1.ex g0 F2 x2) (fun b o hb n eb => x2 b o hb (nt b o eb n)) (Key.ft F1.wok.toi (Ft.of x2) aN n2 hcc M.key) (InitAt.ft F1.wok.toi (Ft.of x2) M.init) aN hcc
end
end Mine
end

-- part R39
section
open PySem PySem.W PySem.W.X PySem.Calls PyProof.Rows
set_option maxRecDepth 100000
set_option linter.unusedVariables false
set_option maxHeartbeats 1000000
namespace Mine
theorem paired_get {α β : Type} {F : α → β → Prop} {l1 : List α} {l2 : List β} (p : Paired F l1 l2) : ∀ (j : Nat) (a : α), l1[j]? = some a → ∃ b, l2[j]? = some b ∧ F a b := by
  induction p with
  | nil => intro j a h; cases h
  | cons f r ih =>
    intro j a h
    cases j with
    | zero => cases h; exact ⟨_, rfl, f⟩
    | succ j => exact ih j a h
/-- the functions' places -/
noncomputable def fsOf (vs : List Value) (k : Nat) : Addr := match vs[k]? with
  | some (.ref f) => f
  | _ => 0
noncomputable abbrev names12 : List Str := [("_lt_from_le" : Str), "_lt_from_gt", "_lt_from_ge", "_le_from_lt", "_le_from_gt", "_le_from_ge", "_gt_from_lt", "_gt_from_le", "_gt_from_ge", "_ge_from_lt", "_ge_from_le", "_ge_from_gt"]
theorem names_k {k : Nat} (hk : k < 12) : names12[k]? = some (nmK k) := by
  rcases twelve hk with rfl | rfl | rfl | rfl | rfl | rfl | rfl | rfl | rfl | rfl | rfl | rfl <;> rfl
section
variable {w : World} {s₀ h : Heap} {env : Env} {m cm mg mb : Str → Option Value} {S : List (Pos × Str)} {a : KA} {cc nb md : Addr} {ns : List Int}
/-- what stays through all turns stands -/
theorem ground (g0 : G0 w s₀ mg mb env) (x : MS s₀ h env m cm S) (K : Key h a cc 112) (I : InitAt h a.fi) (aN : a.N ∉ fW env) (hcc : cc ∉ fW env) (num : ∃ xs, h.IsList nb xs ∧ IntsAt ns xs.toList) (made : MadeL h md names12) :
    ∃ fs, SB w (hideAll h (fW env)) env mg mb a cc nb md fs ns := by
  have W := x.fm.wok.toi
  have F := Ft.hide (h := h) (W := fW env)
  have nt : ∀ b o, s₀.get? b = some o → ¬ IsTab o → (hideAll h (fW env)).get? b = some o := fun b o e n => hideAll_get _ (x.nt g0 e n) fun q => by rw [g0.no b q] at e; cases e
  have hns : ∀ {a : Addr} {mm : Str → Option Value}, s₀.Ns a mm → (hideAll h (fW env)).Ns a mm := fun n => Ns.via n fun o eb n => nt _ o eb n
  have n2 : cStatics ∉ fW env := fun q => by have e2 := g0.X 2 _ rfl; have z : s₀.get? 2 = none := g0.no _ q; rw [e2] at z; cases z
  obtain ⟨vs, hl, hp⟩ := made
  obtain ⟨xs, h1, h2⟩ := num
  obtain ⟨mc, l1, l2⟩ := g0.G.lim
  refine ⟨fsOf vs, fun b hb => hideAll_none _ hb, ⟨fun b o e => nt b o (g0.X b o e) (frag_tab e), ?glob, ⟨mc, hns l1, l2⟩, fun k hk => ?_⟩, Key.ft W F aN n2 hcc K, InitAt.ft W F I, ⟨xs, isList_ft x.fm F h1, h2⟩, ⟨_, isList_ft x.fm F hl, fun k hk => ?_⟩, g0.N⟩
  case glob => exact ⟨hns g0.G.g, hns g0.G.b, (g0.N.ty "type" (by decide)).1, g0.N.ni.1, (g0.N.ty "type" (by decide)).2, g0.N.ni.2⟩
  · obtain ⟨v, e, f, rfl, l⟩ := paired_get hp k _ (names_k hk)
    have : fsOf vs k = f := by unfold fsOf; rw [e]
    rw [this]
    exact l.ft x.fm F
  · obtain ⟨v, e, f, rfl, l⟩ := paired_get hp k _ (names_k hk)
    have : fsOf vs k = f := by unfold fsOf; rw [e]
    rw [this, List.getElem?_toArray]
    exact e
end
end Mine
end

-- part R40
section
open PySem PySem.W PySem.W.X PySem.Calls PyProof.Rows
set_option maxRecDepth 100000
set_option linter.unusedVariables false
set_option maxHeartbeats 1000000
namespace Mine
noncomputable abbrev lS : List (Pos × Str) := [(⟨121, 0, 121, 30⟩, lQ), (⟨122, 0, 122, 30⟩, lQ), (⟨123, 0, 123, 30⟩, lQ), (⟨125, 0, 125, 30⟩, lQ), (⟨126, 0, 126, 30⟩, lQ), (⟨127, 0, 127, 30⟩, lQ), (⟨129, 0, 129, 30⟩, lQ), (⟨130, 0, 130, 30⟩, lQ), (⟨131, 0, 131, 30⟩, lQ), (⟨133, 0, 133, 30⟩, lQ), (⟨134, 0, 134, 30⟩, lQ), (⟨135, 0, 135, 30⟩, lQ)]
theorem lS_q : ∀ y ∈ lS, y.2 = lQ := by
  intro y hy
  simp only [List.mem_cons, List.not_mem_nil, or_false] at hy
  rcases hy with rfl | rfl | rfl | rfl | rfl | rfl | rfl | rfl | rfl | rfl | rfl | rfl <;> rfl
section
variable {w : World} {A : Around} {E : Value → Shared → Prop} {s : Shared} {mg mb : Str → Option Value}
theorem law_call {sl : Addr} {items : Array Value} {Q : Value → Shared → Prop} (X : (hd.heap_39 w.params).In s.heap) (G : GK s.heap mg mb) (N : BN mg mb) (t1 : s.heap.get? 100 = some (tabObj #[])) (t2 : s.heap.get? 133 = some (tabObj #[])) (hA : A.frames = some []) (hh : A.handled = none) (hd0 : A.depth ≤ 760) (hu : A.units ≤ 3870)
    (hl : s.heap.IsList sl items) (ha : AllInts items) (hz : items.size ≤ 100)
    (hq : ∀ h' tk', (∀ b o, s.heap.get? b = some o → b ≠ 100 → b ≠ 133 → h'.get? b = some o) → (∃ ps, h'.get? 100 = some (tabObj ps)) → (∃ ps, h'.get? 133 = some (tabObj ps)) → Q (.bool true) { s with heap := h', toks := tk' }) :
    wpAny (model PySem.Challenge.pw_dz0037_01 w) A (call (.ref 136) [.ref sl]) Q E s := by
  have e136 := X 136 _ rfl
  refine wpAny_call (codeAny_call_cells (binds := [("script", .ref sl)]) (by have : recursionLimit = 1000 := rfl; omega) e136 rfl G.lim (codeRec_of X (by rfl)) rfl rfl rfl (fun x hx => ?_) fun s₁ x => ?_)
  · rw [List.mem_singleton] at hx
    subst hx
    exact .inr ⟨by rfl, by rfl⟩
  generalize hE : callEnvC _ s.heap.objs.size 136 = env at x ⊢
  have hcm : bindC env.kindOf [("script", .ref sl)] (fun _ => none) = fun y => if y = ("script" : Str) then some (.ref sl) else none := by subst hE; rfl
  have eL : env.locals = s.heap.objs.size := by subst hE; rfl
  have hnm : ∀ x ∈ env.cells, env.cells.lookup x.1 = some x.2 := by
    subst hE
    intro y hy
    rcases hy with _ | ⟨_, hy⟩ <;> first | rfl | cases hy
  have e : LE env := by
    subst hE
    refine ⟨rfl, rfl, rfl, rfl, fun n hn => ?_, fun n hn => ?_, ⟨rfl, _, rfl⟩, rfl, rfl⟩
    · simp only [List.mem_cons, List.not_mem_nil, or_false] at hn
      rcases hn with rfl | rfl | rfl | rfl | rfl | rfl | rfl | rfl | rfl | rfl | rfl | rfl | rfl | rfl | rfl | rfl | rfl <;> rfl
    · simp only [List.mem_cons, List.not_mem_nil, or_false] at hn
      rcases hn with rfl | rfl | rfl | rfl | rfl | rfl | rfl | rfl | rfl | rfl <;> rfl
  rw [hcm] at x
  clear hE hcm
  have F := Fm.of x hnm
  obtain ⟨⟨⟨h1, tk1, rfl⟩, ns, keep, fresh⟩, cell, apart, above⟩ := x
  dsimp only at keep
  have no : ∀ b ∈ fW env, s.heap.get? b = none := fun w hw => by
    have hle : s.heap.objs.size ≤ w := by
      rcases List.mem_cons.mp hw with rfl | hw
      · rw [eL]; exact Nat.le_refl _
      · obtain ⟨x, hx, rfl⟩ := List.mem_map.mp hw
        have := above x.1 x.2 hx
        rw [eL] at this
        exact Nat.le_of_lt this
    exact Heap.get?_none_of_le hle
  have g0 : G0 w s.heap mg mb env := ⟨X, G, N, no, t1, t2, eL⟩
  have hroom : recursionLimit = 1000 := rfl
  have dd : (A.deeper env).depth ≤ 770 := by show A.depth + 1 ≤ _; omega
  have du' : (A.deeper env).units ≤ 3880 := by show A.units + 3 ≤ _; omega
  have dh : (A.deeper env).handled = none := hh
  have dA : (A.deeper env).frames = some [env] := by show A.frames.map _ = _; rw [hA]; rfl
  have sz : ∀ {n : Nat}, n ≤ 100 → n ≤ sizeLine := fun h => by rw [sizeLine_eq]; omega
  have ups : ∀ {h h' : Heap}, Kpt s.heap h → Ex (fW env) h h' → Kpt s.heap h' := fun kp k b o eb => k b o (fun q => by rw [no b q] at eb; cases eb) (kp b o eb)
  generalize A.deeper env = B at dd du' dh dA ⊢
  refine wpAny_execs_cons ?_
  refine st_script e F rfl (hl.at fun o eo => keep _ _ eo) (sz hz) ?_
  intro D1 h2 tk2 F2 x2 hl2
  have k2 := ups keep x2
  have hz2 : (slicePick items none (some 21) none).size ≤ 100 := Nat.le_trans (slicePick_size_le _ _ _ _) hz
  have ha2 := ai_pick ha none (some 21) none
  refine wpAny_execs_cons ?_
  refine st_numbers e N (G.g.keeps k2) (G.b.keeps k2) dh F2 rfl hl2 ha2 hz2 (by decide) ?_
  intro nb h3 tk3 nsl xs F3 x3 hnb hin hn
  have k3 := ups k2 x3
  refine wpAny_execs_cons ?_
  refine st_make (S := lS) e g0 F3 k3 (by omega) (by omega) ?_
  intro a cc h4 tk4 x4 f4 K4 I4 aN hcc
  have nb4 := isList_ft F3 f4 hnb
  refine wpAny_execs_cons ?_
  refine st_made0 e g0 x4 lS_q (by decide) (by decide) (by decide) ?_
  intro m5 h5 tk5 x5 f5 l5
  refine wpAny_execs_cons ?_
  refine st_madeN e g0 x5 lS_q (by decide) (by decide) (by decide) rfl l5 (by decide) ?_
  intro m6 h6 tk6 x6 f6 l6
  refine wpAny_execs_cons ?_
  refine st_madeN e g0 x6 lS_q (by decide) (by decide) (by decide) rfl l6 (by decide) ?_
  intro m7 h7 tk7 x7 f7 l7
  refine wpAny_execs_cons ?_
  refine st_madeN e g0 x7 lS_q (by decide) (by decide) (by decide) rfl l7 (by decide) ?_
  intro m8 h8 tk8 x8 f8 l8
  have f48 : Ft (fW env) h4 h8 := ((f5.trans f6).trans f7).trans f8
  have n2 : cStatics ∉ fW env := fun q => by have e2 := X 2 _ rfl; have z : s.heap.get? 2 = none := no _ q; rw [e2] at z; cases z
  obtain ⟨fs, SS⟩ := ground g0 x8 (Key.ft x4.fm.wok.toi f48 aN n2 hcc K4) (InitAt.ft x4.fm.wok.toi f48 I4) aN hcc ⟨xs, isList_ft x4.fm f48 nb4, hin⟩ l8
  refine wpAny_execs_cons ?_
  refine place_loop e SS dA dh dd du' hn x8.fm (fun _ _ q => of_hideAll _ q) ⟨rfl, rfl, rfl⟩ ?_
  intro h9 tk9 m9 F9 x9
  have x9' := x8.ex g0 F9 x9
  refine wpAny_execs_cons (wpAny_Return_some (wpAny_Constant_bool ?_))
  exact hq h9 _ x9'.base x9'.tabC (by obtain ⟨ps, e', _⟩ := x9'.tabT; exact ⟨ps, e'⟩)
end
end Mine
end

-- part R41
section
open PySem PySem.W PyProof.Rows
set_option maxRecDepth 100000
set_option maxHeartbeats 4000000
namespace Mine
theorem gk_of {p : Program} {loose : List Str} {mean : ExcName → Option Value} {w : World} {mg mb : Str → Option Value} {h : Heap} (KX : (hd.heap_39 w.params).In h) (T : Top p loose mean mg mb h) : GK h mg mb ∧ BN mg mb := by
  have no : ∀ {n : Str}, nsIn (hd.heap_39 w.params) mainGlobals n = some none → mg n = none := fun e => mg_none_of KX T.g e
  have bi : ∀ {n : Str} {v : Value}, n ≠ "__name__" → bootBuiltins n = some v → mb n = some v := fun h1 h2 => (T.builtins _ h1).trans h2
  refine ⟨⟨T.g, T.b, T.nolimit, no (by rfl), bi (by decide) (by first | rfl | kernel_rfl), bi (by decide) (by first | rfl | kernel_rfl), ?_, ⟨_, _, mg_of KX T.g (by rfl)⟩⟩, ⟨fun n hn => ?_, fun n hn => ?_, ⟨no (by rfl), bi (by decide) (by first | rfl | kernel_rfl)⟩⟩⟩
  · obtain ⟨bm, ob, a1, a2, a3, a4, a5, a6⟩ := T.bmain
    refine ⟨bm, ob, a1, a2, fun q => ?_, a3, a4, a5, a6⟩
    obtain ⟨o, es, ep, e, d, _⟩ := T.g
    rw [q, e] at a3; cases a3; rw [d] at a6; cases a6
  · simp only [List.mem_cons, List.not_mem_nil, or_false] at hn
    rcases hn with rfl | rfl | rfl | rfl | rfl | rfl <;> exact ⟨no (by rfl), bi (by decide) (by first | rfl | kernel_rfl)⟩
  · simp only [List.mem_cons, List.not_mem_nil, or_false] at hn
    rcases hn with rfl | rfl | rfl <;> exact ⟨no (by rfl), bi (by decide) (by first | rfl | kernel_rfl)⟩
theorem oldK_of {h h' : Heap} {w : World} (KX : (hd.heap_39 w.params).In h) (t1 : h.get? 100 = some (tabObj #[])) (t2 : h.get? 133 = some (tabObj #[])) (k : ∀ b o, h.get? b = some o → b ≠ 100 → b ≠ 133 → h'.get? b = some o) (u1 : ∃ ps, h'.get? 100 = some (tabObj ps)) (u2 : ∃ ps, h'.get? 133 = some (tabObj ps)) : OldK h h' := by
  have tab : ∀ c P, CodeHd h c P → h.get? P = some (tabObj #[]) → (∃ ps, h'.get? P = some (tabObj ps)) → ∀ o, h.get? P = some o → asItWas h h' P o := fun c P C hP hu o eo => by
    rw [hP] at eo; cases eo
    obtain ⟨ps, e⟩ := hu
    obtain ⟨oc, vs, _, _, _, _, _, _, _, b1, b2, b3, b4, _⟩ := C
    exact .inr (.inl ⟨⟨c, oc, vs, b1, b2, b3, b4⟩, rfl, #[], ps, rfl, by rw [Array.empty_append]; exact e⟩)
  refine ⟨fun b o eb => ?_, fun b o eb => ?_⟩
  · by_cases h1 : b = 100
    · subst h1; exact tab 104 100 (codeHd_of_K KX (by kernel_rfl)) t1 u1 o eb
    by_cases h2 : b = 133
    · subst h2; exact tab 135 133 (codeHd_of_K KX (by kernel_rfl)) t2 u2 o eb
    exact .inl (k b o eb h1 h2)
  · by_cases h1 : b = 100
    · subst h1; obtain ⟨ps, e⟩ := u1; exact ⟨_, e⟩
    by_cases h2 : b = 133
    · subst h2; obtain ⟨ps, e⟩ := u2; exact ⟨_, e⟩
    exact ⟨o, k b o eb h1 h2⟩
end Mine
namespace Mine
theorem law01_holds : PySem.Challenge.rw_dz0037_01.Holds := by
  refine Mine.hd ?_
  k_fill
  intro w s₀ s₁ mg mb G Y fa o pm cd doc dV kV ho hd hcd hD hmg hg args vals as hpre hlay hrd hwl hlo
  have KX := km_in_of Y
  have hT8 := km_tabs_of Y
  have T := Ground.T G
  have hfa : fa = 136 := by
    have h1 : mg (Str.ofString "law") = some (.ref 136) := mg_of KX T.g (by rfl)
    have h2 : mg (Str.ofString "law") = some (.ref fa) := hmg
    rw [h1] at h2
    exact (Value.ref.inj (Option.some.inj h2)).symm
  clear ho hd hcd hD hmg
  subst hfa
  obtain ⟨gk, bn⟩ := gk_of KX T
  clear Y
  wrow_args hpre hlay hrd hwl hlo
  rename_i iz _ _ _ _ _ _ _ sl items _ hL _ _ _ hI _ hlen _
  show wpAny (model PySem.Challenge.pw_dz0037_01 w) callerA (call (.ref 136) [.ref sl]) _ _ s₁
  refine law_call KX gk bn (hT8 100 (by simp)) (hT8 133 (by simp)) rfl rfl (by decide) (by decide) hL hI.allInts (by rw [List.size_toArray, hI.length]; omega) fun h' tk' k u1 u2 => ?_
  refine ⟨.inl ⟨_, .bool true, [], rfl, ?_, ?_, ?_, ?_⟩, oldK_of KX (hT8 100 (by simp)) (hT8 133 (by simp)) k u1 u2, rfl, AllBare.of_eq hg⟩
  · exact fun _ => rfl
  · first | exact .bool _ | constructor
  · first | rfl | wrow_post
  · exact fun _ => ⟨List.nodup_nil, fun _ h => nomatch h⟩
end Mine
end

set_option maxRecDepth 100000 in
set_option maxHeartbeats 4000000 in
theorem PySem.Challenge.cw_dz0037_01_holds : PySem.Challenge.rw_dz0037_01.Holds := by
  exact Mine.law01_holds
