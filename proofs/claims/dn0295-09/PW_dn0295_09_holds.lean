import PyProof.Rows.All
import Wide.All
import OpenK.AllK
import Wide.FinOn
import KE.KSortTup
import KE.KIntText
import KE.KLam
import KE.KRevSl
import PySem.Challenge.RW_dn0295_09
set_option Elab.async false
set_option maxRecDepth 100000
set_option linter.unusedSimpArgs false
set_option linter.unusedVariables false
set_option maxHeartbeats 8000000
namespace Mini
open PySem PySem.W PyProof.Rows PySem.Calls
structure GB where
  src : Str
  x : Str
  pre : List Stmt
  cond : Expr
  params : List Str
  names : List (Str × NameKind)
  deriving Inhabited
structure LB where
  body : Expr
  params : List Str
  names : List (Str × NameKind)
  deriving Inhabited
inductive AVal where
  | none
  | bool (b : Bool)
  | int (i : Int)
  | str (s : Str)
  | bytes (b : Array UInt8)
  | tup (vs : List AVal)
  | ref (i : Nat)
  | scr (ns : List Int)
  | fn (x : Str)
  | cls
  | bi (id : String)
  | ty (n : String)
  | rng (a b c : Int)
  | slc (a b : Option Int)
  | gfn (k : GB) (xs : List Str) (vs : List AVal)
  | lam (k : LB) (xs : List Str) (vs : List AVal)
  | sd (ks : List Str) (vs : List AVal)
  deriving Inhabited
inductive AIt where
  | seq (v : AVal) (i : Nat)
  | rng (cur left step : Int)
  | tup (vs : List AVal) (i : Nat)
  | chars (s : Str) (i : Nat)
  | obj (i : Nat)
  | dkeys (v : AVal) (n i : Nat)
  deriving Inhabited
inductive GSt where
  | fresh | susp (it : AIt) | run | done
  deriving Inhabited
noncomputable abbrev Vars := Str → Option AVal
noncomputable def Vars.set (ρ : Vars) (x : Str) (v : AVal) : Vars := fun y => if y = x then some v else ρ y
inductive AObj where
  | list (vs : List AVal)
  | dict (kvs : List (Int × AVal))
  | sdict (kvs : List (Str × AVal))
  | inst (ats : List (Str × AVal))
  | liter (v : AVal) (i : Nat)
  | lend
  | gen (k : GB) (ρ : Vars) (st : GSt)
  deriving Inhabited
noncomputable abbrev St := List AObj
structure Loc where
  a : Addr
  ps : List Addr := []
  g : Option Nat := .none
structure Fn where
  addr : Addr
  fd : FuncData
  body : List Stmt
  params : List Str
noncomputable def GLoop (k : GB) (lb : List Stmt) : Prop := ∃ y1 y2 y3 y4, lb = k.pre ++ [.If k.cond [.Expr (.Yield (some (.Name k.x y1)) y2) y3] [] y4]
noncomputable def GBody (k : GB) (body : List Stmt) : Prop := ∃ px ps lb pf, body = [.For (.Name k.x px) (.Name k.src ps) lb [] pf] ∧ GLoop k lb
structure Cx where
  prog : Program
  w : World
  K : Frag
  B : Heap
  mg : Str → Option Value
  mb : Str → Option Value
  C : Addr
  fns : Str → Option Fn
  tabs : List (Addr × Addr)
  tq : Addr → Str
  frz : Str → Bool
noncomputable def foot (c : Cx) (φ : List Loc) : List Addr := c.tabs.map (·.2) ++ φ.flatMap fun l => l.a :: l.ps
noncomputable abbrev Imm := Addr → Option Obj
structure GB.Names (k : GB) : Prop where
  xl : k.names.lookup k.x = some .local
  xd : (k.x == ("__debug__" : Str)) = false
  sl : k.names.lookup k.src = some .local
  sd : (k.src == ("__debug__" : Str)) = false
structure GFn (G : Imm) (k : GB) (fd : FuncData) : Prop where
  body : ∃ body, fd.body = .stmts body ∧ GBody k body
  nm : fd.scope.names = k.names
  co : fd.scope.isCoroutine = false
  gen : fd.scope.isGenerator = true
  kind : fd.scope.kind = .function
  glob : fd.globals = mainGlobals
  bi : fd.builtins = builtinsNs
  nocell : ∀ p ∈ k.names, p.2 ≠ .cell
  code : ∃ ca oc vs t, fd.code = .ref ca ∧ G ca = some oc ∧ oc.data = .fields vs ∧ vs[1]? = some (.str fd.qualname t)
  bind : ∀ vs', vs'.length = k.params.length → bindArgs fd ⟨vs', []⟩ = pure (k.params.zip vs')
  pk : ∀ x ∈ k.params, k.names.lookup x = some .local
  nodup : k.params.Nodup
  nx : k.Names
structure LFn (G : Imm) (k : LB) (fd : FuncData) : Prop where
  body : fd.body = .expr k.body
  nm : fd.scope.names = k.names
  co : fd.scope.isCoroutine = false
  gen : fd.scope.isGenerator = false
  kind : fd.scope.kind = .function
  glob : fd.globals = mainGlobals
  bi : fd.builtins = builtinsNs
  nocell : ∀ p ∈ k.names, p.2 ≠ .cell
  code : ∃ ca oc vs t, fd.code = .ref ca ∧ G ca = some oc ∧ oc.data = .fields vs ∧ vs[1]? = some (.str fd.qualname t)
  bind : ∀ vs', vs'.length = k.params.length → bindArgs fd ⟨vs', []⟩ = pure (k.params.zip vs')
  pk : ∀ x ∈ k.params, k.names.lookup x = some .local
  nodup : k.params.Nodup
mutual
inductive VRel (c : Cx) (G : Imm) (φ : List Loc) : AVal → Value → Prop
  | none : VRel c G φ .none .none
  | bool (b : Bool) : VRel c G φ (.bool b) (.bool b)
  | int (i : Int) (t : Tok) : VRel c G φ (.int i) (.int i t)
  | str (s : Str) (t : Tok) : VRel c G φ (.str s) (.str s t)
  | bytes (b : Array UInt8) (t : Tok) : VRel c G φ (.bytes b) (.bytes b t)
  | tup {vs : List AVal} {items : List Value} {a : Addr} (n : Nat) (e : G a = some { cls := .type "tuple", data := .seq items.toArray n }) (r : VsRel c G φ vs items) : VRel c G φ (.tup vs) (.ref a)
  | ref {i : Nat} {l : Loc} (e : φ[i]? = some l) : VRel c G φ (.ref i) (.ref l.a)
  | scr {ns : List Int} {items : List Value} {a : Addr} {o : Obj} (e : G a = some o) (hc : o.cls = .type "list") (n : Nat) (hd : o.data = .seq items.toArray n) (r : IntsAre items ns) : VRel c G φ (.scr ns) (.ref a)
  | fn {x : Str} {f : Fn} (e : c.fns x = some f) : VRel c G φ (.fn x) (.ref f.addr)
  | cls : VRel c G φ .cls (.ref c.C)
  | bi (id : String) : VRel c G φ (.bi id) (.builtin id)
  | ty (n : String) : VRel c G φ (.ty n) (.type n)
  | rng {a b s : Int} {r : Addr} (t u v : Tok) (e : G r = some { cls := .type "range", data := .fields #[.int a t, .int b u, .int s v] }) : VRel c G φ (.rng a b s) (.ref r)
  | slc {a b : Option Int} {r : Addr} {o : Obj} (l u : Option (Int × Tok)) (hl : l.map (·.1) = a) (hu : u.map (·.1) = b) (e : G r = some o) (hc : o.cls = .type "slice") (hd : o.data = .fields #[partValue l, partValue u, .none]) : VRel c G φ (.slc a b) (.ref r)
  | gfn {k : GB} {xs : List Str} {vs : List AVal} {vs' : List Value} {a : Addr} {o : Obj} {fd : FuncData} (e : G a = some o) (hd : o.data = .func fd) (hf : GFn G k fd) (hx : ∀ x ∈ xs, k.names.lookup x = some .free) (hg : ∀ p ∈ fd.closure, (G p.2).isSome)
      (hc : ∀ (i : Nat) (x : Str) (v' : Value), xs[i]? = some x → vs'[i]? = some v' → ∃ ca oc, fd.closure.lookup x = some ca ∧ G ca = some oc ∧ oc.data = .cell (some v')) (r : VsRel c G φ vs vs') : VRel c G φ (.gfn k xs vs) (.ref a)
  | lam {k : LB} {xs : List Str} {vs : List AVal} {vs' : List Value} {a : Addr} {o : Obj} {fd : FuncData} (e : G a = some o) (hd : o.data = .func fd) (hf : LFn G k fd) (hx : ∀ x ∈ xs, k.names.lookup x = some .free) (hg : ∀ p ∈ fd.closure, (G p.2).isSome)
      (hc : ∀ (i : Nat) (x : Str) (v' : Value), xs[i]? = some x → vs'[i]? = some v' → ∃ ca oc, fd.closure.lookup x = some ca ∧ G ca = some oc ∧ oc.data = .cell (some v')) (r : VsRel c G φ vs vs') : VRel c G φ (.lam k xs vs) (.ref a)
  | sd {ks : List Str} {vs : List AVal} {vs' : List Value} {a : Addr} {o : Obj} (e : G a = some o) (hd : ∃ kvs : List (Str × Value), o.IsDictOf (strKind c.prog c.w) kvs ∧ kvs.map (·.1) = ks ∧ kvs.map (·.2) = vs') (sm : (a == sysModules) = false) (r : VsRel c G φ vs vs') : VRel c G φ (.sd ks vs) (.ref a)
inductive VsRel (c : Cx) (G : Imm) (φ : List Loc) : List AVal → List Value → Prop
  | nil : VsRel c G φ [] []
  | cons {v : AVal} {v' : Value} {vs : List AVal} {vs' : List Value} (h : VRel c G φ v v') (t : VsRel c G φ vs vs') : VsRel c G φ (v :: vs) (v' :: vs')
end
noncomputable def listOf? (σ : St) : AVal → Option (List AVal)
  | .ref i => match σ[i]? with
    | some (.list vs) => some vs
    | _ => .none
  | .scr ns => some (ns.map .int)
  | _ => .none
noncomputable def instOf? (σ : St) : AVal → Option (List (Str × AVal))
  | .ref i => match σ[i]? with
    | some (.inst ats) => some ats
    | _ => .none
  | _ => .none
noncomputable def lim : Nat := 1000000
inductive Flw where
  | next | brk | cont | ret (v : AVal)
inductive PlainE : Expr → Prop
  | name {x p} : PlainE (.Name x p)
  | sub {a b p} : PlainE (.Subscript a b p)
  | attr {a x p} : PlainE (.Attribute a x p)
noncomputable def notStar : Expr → Bool
  | .Starred .. => false
  | _ => true
noncomputable def notSet : Expr → Bool
  | .Set .. => false
  | _ => true
noncomputable def notBi : AVal → Bool
  | .bi _ => false
  | _ => true
noncomputable abbrev Kinds := Str → Option NameKind
noncomputable def noSwap (kd : Kinds) : Expr → Expr → Bool
  | .Tuple ts _ _, .Tuple .. => ts.any fun
    | .Name x _ => kd x != some .local
    | _ => false
  | .List .., .Tuple .. => false
  | .Starred .., _ => false
  | _, _ => true
noncomputable def isComp : Expr → Bool
  | .ListComp .. | .SetComp .. | .DictComp .. => true
  | _ => false
noncomputable def putAt (x : Str) (v : AVal) : List (Str × AVal) → List (Str × AVal)
  | [] => [(x, v)]
  | (y, w) :: r => if y = x then (y, v) :: r else (y, w) :: putAt x v r
noncomputable def AIt.kd : AIt → Nat
  | .seq .. => 0
  | .rng .. => 1
  | .tup .. => 2
  | .chars .. => 3
  | .obj .. => 4
  | .dkeys .. => 5
noncomputable def genIt (it : AIt) : Bool := it.kd == 0 || it.kd == 4
inductive LoopT : Expr → AIt → Prop
  | name {x p it} : LoopT (.Name x p) it
  | tup {es k p it} (h : it.kd = 0) : LoopT (.Tuple es k p) it
noncomputable def Kinds.isVar (kd : Kinds) (x : Str) : Bool := match kd x with
  | some .local | some .cell | some .free => true
  | _ => false
structure PI where
  glob : Str → Option AVal
  fn : Str → Option (List Str × List Stmt × List (Str × NameKind))
  maker : Str → Option Str
  attrOk : Str → Bool
  init : List Str × List Stmt × List (Str × NameKind)
  frz : Str → Bool := fun _ => false
  clsNone : Str → Bool := fun _ => false
  callAttr : Str → Bool := fun _ => false
noncomputable def bindAll : List Str → List AVal → Vars
  | x :: xs, v :: vs => fun y => if y = x then some v else bindAll xs vs y
  | _, _ => fun _ => .none
noncomputable def relabelK (names : List (Str × NameKind)) (kd : Kinds) : Kinds := fun x =>
  (names.map fun (n, k) => if (k == .free && kd n == some .cell) then (n, NameKind.cell) else (n, k)).lookup x
noncomputable def compOk (scope : Scope) (kd : Kinds) (ρ : Vars) (x : Str) : Bool :=
  scope.kind == .function && scope.names.all (fun p => p.2 != .cell && (p.2 != .local || scope.names.lookup p.1 == some .local) && (p.2 != .free || ((kd p.1 == some .cell || kd p.1 == some .free) && (ρ p.1).isSome))) &&
    scope.names.lookup x == some .local
noncomputable def freeVars (kd : Kinds) (ρ : Vars) : Vars := fun y => match kd y with
  | some .cell | some .free => ρ y
  | _ => .none
noncomputable def freeNames (names : List (Str × NameKind)) : List Str := (names.filter fun p => p.2 == .free).map (·.1)
end Mini
namespace Mini
open PySem PySem.W PySem.W.X PyProof.Rows PySem.Calls
structure CxOk (c : Cx) : Prop where
  x : c.K.In c.B
  g : c.B.Ns mainGlobals c.mg
  b : c.B.Ns builtinsNs c.mb
  nolimit : c.B.NoLimit
noncomputable def Ext (φ φ' : List Loc) : Prop := ∀ (i : Nat) (l : Loc), φ[i]? = some l → ∃ l' : Loc, φ'[i]? = some l' ∧ l'.a = l.a ∧ l'.g = l.g
theorem Ext.refl (φ : List Loc) : Ext φ φ := fun _ l e => ⟨l, e, rfl, rfl⟩
theorem Ext.trans {φ₁ φ₂ φ₃ : List Loc} (x : Ext φ₁ φ₂) (y : Ext φ₂ φ₃) : Ext φ₁ φ₃ := fun i l e => by
  obtain ⟨l', e', h', g'⟩ := x i l e
  obtain ⟨l'', e'', h'', g''⟩ := y i l' e'
  exact ⟨l'', e'', h''.trans h', g''.trans g'⟩
theorem Ext.append (φ φ' : List Loc) : Ext φ (φ ++ φ') := fun i l e => by
  refine ⟨l, ?_, rfl, rfl⟩
  rw [List.getElem?_append_left (List.getElem?_eq_some_iff.mp e).1]; exact e
noncomputable def Imm.Sub (G G' : Imm) : Prop := ∀ a o, G a = some o → G' a = some o
theorem GFn.mono {G G' : Imm} {k : GB} {fd : FuncData} (hG : Imm.Sub G G') (h : GFn G k fd) : GFn G' k fd :=
  { h with code := let ⟨ca, oc, vs, t, e, g, r⟩ := h.code; ⟨ca, oc, vs, t, e, hG _ _ g, r⟩ }
theorem LFn.mono {G G' : Imm} {k : LB} {fd : FuncData} (hG : Imm.Sub G G') (h : LFn G k fd) : LFn G' k fd :=
  { h with code := let ⟨ca, oc, vs, t, e, g, r⟩ := h.code; ⟨ca, oc, vs, t, e, hG _ _ g, r⟩ }
theorem VRel.mono {c : Cx} {G G' : Imm} {φ φ' : List Loc} (hG : Imm.Sub G G') (hφ : Ext φ φ') {v : AVal} {v' : Value} (h : VRel c G φ v v') : VRel c G' φ' v v' :=
  VRel.rec (motive_1 := fun v v' _ => VRel c G' φ' v v') (motive_2 := fun v v' _ => VsRel c G' φ' v v') .none .bool .int .str .bytes (fun n e _ r => .tup n (hG _ _ e) r)
    (fun e => let ⟨l', e', h, _⟩ := hφ _ _ e; h ▸ .ref e') (fun e hc n hd r => .scr (hG _ _ e) hc n hd r) .fn .cls .bi .ty (fun t u v e => .rng t u v (hG _ _ e)) (fun l u hl hu e hc hd => .slc l u hl hu (hG _ _ e) hc hd)
    (fun e hd hf hx hg hc _ r => .gfn (hG _ _ e) hd (hf.mono hG) hx (fun p hp => Option.isSome_iff_exists.mpr ((Option.isSome_iff_exists.mp (hg p hp)).imp fun o ho => hG _ _ ho)) (fun i x v' h1 h2 => let ⟨ca, oc, q1, q2, q3⟩ := hc i x v' h1 h2; ⟨ca, oc, q1, hG _ _ q2, q3⟩) r)
    (fun e hd hf hx hg hc _ r => .lam (hG _ _ e) hd (hf.mono hG) hx (fun p hp => Option.isSome_iff_exists.mpr ((Option.isSome_iff_exists.mp (hg p hp)).imp fun o ho => hG _ _ ho)) (fun i x v' h1 h2 => let ⟨ca, oc, q1, q2, q3⟩ := hc i x v' h1 h2; ⟨ca, oc, q1, hG _ _ q2, q3⟩) r)
    (fun e hd sm _ r => .sd (hG _ _ e) hd sm r)
    .nil (fun _ _ h t => .cons h t) h
section
variable {c : Cx} {G : Imm} {φ : List Loc}
theorem VRel.noneE {motive : ∀ v', VRel c G φ .none v' → Prop} (none : motive .none .none) {v' : Value} (h : VRel c G φ .none v') : motive v' h := by cases h; exact none
theorem VRel.boolE {b : Bool} {motive : ∀ v', VRel c G φ (.bool b) v' → Prop} (bool : motive (.bool b) (.bool b)) {v' : Value} (h : VRel c G φ (.bool b) v') : motive v' h := by cases h; exact bool
theorem VRel.intE {i : Int} {motive : ∀ v', VRel c G φ (.int i) v' → Prop} (int : ∀ t, motive (.int i t) (.int i t)) {v' : Value} (h : VRel c G φ (.int i) v') : motive v' h := by cases h; exact int _
theorem VRel.strE {s : Str} {motive : ∀ v', VRel c G φ (.str s) v' → Prop} (str : ∀ t, motive (.str s t) (.str s t)) {v' : Value} (h : VRel c G φ (.str s) v') : motive v' h := by cases h; exact str _
theorem VRel.bytesE {s : Array UInt8} {motive : ∀ v', VRel c G φ (.bytes s) v' → Prop} (bytes : ∀ t, motive (.bytes s t) (.bytes s t)) {v' : Value} (h : VRel c G φ (.bytes s) v') : motive v' h := by cases h; exact bytes _
theorem VRel.tupE {vs : List AVal} {motive : ∀ v', VRel c G φ (.tup vs) v' → Prop} (tup : ∀ {items : List Value} {a : Addr} (n : Nat) (e : G a = some { cls := .type "tuple", data := .seq items.toArray n }) (r : VsRel c G φ vs items), motive (.ref a) (.tup n e r)) {v' : Value} (h : VRel c G φ (.tup vs) v') : motive v' h := by cases h with | tup n e r => exact tup n e r
theorem VRel.refE {i : Nat} {motive : ∀ v', VRel c G φ (.ref i) v' → Prop} (ref : ∀ {l : Loc} (e : φ[i]? = some l), motive (.ref l.a) (.ref e)) {v' : Value} (h : VRel c G φ (.ref i) v') : motive v' h := by cases h with | ref e => exact ref e
theorem VRel.scrE {ns : List Int} {motive : ∀ v', VRel c G φ (.scr ns) v' → Prop} (scr : ∀ {items : List Value} {a : Addr} {o : Obj} (e : G a = some o) (hc : o.cls = .type "list") (n : Nat) (hd : o.data = .seq items.toArray n) (r : IntsAre items ns), motive (.ref a) (.scr e hc n hd r)) {v' : Value} (h : VRel c G φ (.scr ns) v') : motive v' h := by cases h with | scr e hc n hd r => exact scr e hc n hd r
theorem VRel.fnE {x : Str} {motive : ∀ v', VRel c G φ (.fn x) v' → Prop} (fn : ∀ {f : Fn} (e : c.fns x = some f), motive (.ref f.addr) (.fn e)) {v' : Value} (h : VRel c G φ (.fn x) v') : motive v' h := by cases h with | fn e => exact fn e
theorem VRel.clsE {motive : ∀ v', VRel c G φ .cls v' → Prop} (cls : motive (.ref c.C) .cls) {v' : Value} (h : VRel c G φ .cls v') : motive v' h := by cases h; exact cls
theorem VRel.biE {n : String} {motive : ∀ v', VRel c G φ (.bi n) v' → Prop} (bi : motive (.builtin n) (.bi n)) {v' : Value} (h : VRel c G φ (.bi n) v') : motive v' h := by cases h; exact bi
theorem VRel.tyE {n : String} {motive : ∀ v', VRel c G φ (.ty n) v' → Prop} (ty : motive (.type n) (.ty n)) {v' : Value} (h : VRel c G φ (.ty n) v') : motive v' h := by cases h; exact ty
theorem VRel.rngE {a b s : Int} {motive : ∀ v', VRel c G φ (.rng a b s) v' → Prop} (rng : ∀ {r : Addr} (t u v : Tok) (e : G r = some { cls := .type "range", data := .fields #[.int a t, .int b u, .int s v] }), motive (.ref r) (.rng t u v e)) {v' : Value} (h : VRel c G φ (.rng a b s) v') : motive v' h := by cases h with | rng t u v e => exact rng t u v e
theorem VsRel.nilE {motive : ∀ v', VsRel c G φ [] v' → Prop} (nil : motive [] .nil) {v' : List Value} (h : VsRel c G φ [] v') : motive v' h := by cases h; exact nil
theorem VsRel.consE {v : AVal} {vs : List AVal} {motive : ∀ v', VsRel c G φ (v :: vs) v' → Prop} (cons : ∀ {v' : Value} {vs' : List Value} (h : VRel c G φ v v') (t : VsRel c G φ vs vs'), motive (v' :: vs') (.cons h t)) {v' : List Value} (h : VsRel c G φ (v :: vs) v') : motive v' h := by cases h with | cons h t => exact cons h t
end
theorem VsRel.mono {c : Cx} {G G' : Imm} {φ φ' : List Loc} (hG : Imm.Sub G G') (hφ : Ext φ φ') : ∀ {v : List AVal} {v' : List Value}, VsRel c G φ v v' → VsRel c G' φ' v v' := fun {v} => by
  induction v with
  | nil => intro v' h; cases h using VsRel.nilE; exact .nil
  | cons x r ih => intro v' h; cases h using VsRel.consE with | cons h t => exact .cons (h.mono hG hφ) (ih t)
theorem VsRel.length {c : Cx} {G : Imm} {φ : List Loc} : ∀ {vs : List AVal} {vs' : List Value}, VsRel c G φ vs vs' → vs.length = vs'.length
  | _, _, .nil => rfl
  | _, _, .cons _ t => by simp [VsRel.length t]
theorem VsRel.get {c : Cx} {G : Imm} {φ : List Loc} : ∀ {vs : List AVal} {vs' : List Value}, VsRel c G φ vs vs' → ∀ {i : Nat} {v : AVal}, vs[i]? = some v → ∃ v', vs'[i]? = some v' ∧ VRel c G φ v v'
  | _, _, .nil, i, v, e => by simp at e
  | _, _, .cons h t, 0, v, e => by simp at e; subst e; exact ⟨_, rfl, h⟩
  | _, _, .cons h t, i + 1, v, e => by simp at e; simpa using VsRel.get t e
theorem VsRel.get_none {c : Cx} {G : Imm} {φ : List Loc} {vs : List AVal} {vs' : List Value} (r : VsRel c G φ vs vs') {i : Nat} (e : vs[i]? = none) : vs'[i]? = none := by
  rw [List.getElem?_eq_none_iff] at e ⊢; rw [← r.length]; exact e
theorem VsRel.append {c : Cx} {G : Imm} {φ : List Loc} : ∀ {a : List AVal} {a' : List Value} {b : List AVal} {b' : List Value}, VsRel c G φ a a' → VsRel c G φ b b' → VsRel c G φ (a ++ b) (a' ++ b')
  | _, _, _, _, .nil, y => y
  | _, _, _, _, .cons h t, y => .cons h (VsRel.append t y)
theorem VsRel.ints {c : Cx} {G : Imm} {φ : List Loc} : ∀ {vs : List Value} {ns : List Int}, IntsAre vs ns → VsRel c G φ (ns.map .int) vs
  | _, _, .nil => .nil
  | _, _, .cons _ _ h => .cons (.int _ _) (VsRel.ints h)
structure GEnv (c : Cx) (G : Imm) (φ : List Loc) (k : GB) (ρ : Vars) (env : Env) (h : Heap) : Prop where
  kind : env.scope.kind = .function
  glob : env.globals = mainGlobals
  bi : env.builtins = builtinsNs
  nm : env.scope.names = k.names
  co : env.scope.isCoroutine = false
  nocell : ∀ p ∈ k.names, p.2 ≠ .cell
  ns : ∃ m, h.Ns env.locals m ∧ ∀ x v, k.names.lookup x = some .local → ρ x = some v → ∃ v', m x = some v' ∧ VRel c G φ v v'
  cell : ∀ x v, k.names.lookup x = some .free → ρ x = some v → ∃ a o v', env.cells.lookup x = some a ∧ G a = some o ∧ o.data = .cell (some v') ∧ VRel c G φ v v'
  cg : ∀ p ∈ env.cells, (G p.2).isSome
  nx : k.Names
  ff : env.frame = some env.locals
theorem GEnv.mono {c : Cx} {G G' : Imm} {φ φ' : List Loc} {k : GB} {ρ : Vars} {env : Env} {h h' : Heap} (x : GEnv c G φ k ρ env h) (hG : Imm.Sub G G') (hφ : Ext φ φ') (hk : ∀ o, h.get? env.locals = some o → h'.get? env.locals = some o) : GEnv c G' φ' k ρ env h' where
  kind := x.kind
  glob := x.glob
  bi := x.bi
  nm := x.nm
  co := x.co
  nocell := x.nocell
  ns := by
    obtain ⟨m, hn, hv⟩ := x.ns
    obtain ⟨o, es, ep, ho, hr⟩ := hn
    exact ⟨m, ⟨o, es, ep, hk _ ho, hr⟩, fun y v h1 h2 => let ⟨v', e, r⟩ := hv y v h1 h2; ⟨v', e, r.mono hG hφ⟩⟩
  cell := fun y v h1 h2 => by
    obtain ⟨a, o, v', e, g, hd, r⟩ := x.cell y v h1 h2
    exact ⟨a, o, v', e, hG _ _ g, hd, r.mono hG hφ⟩
  cg := fun p hp => by
    obtain ⟨o, ho⟩ := Option.isSome_iff_exists.mp (x.cg p hp)
    rw [hG _ _ ho]; rfl
  nx := x.nx
  ff := x.ff
inductive ItRaw (c : Cx) (G : Imm) (φ : List Loc) (h : Heap) : AIt → Value → List Addr → Prop
  | seq {v : AVal} {i : Nat} {I l : Addr} (hI : h.IsListIter I l i) (V : VRel c G φ v (.ref l)) : ItRaw c G φ h (.seq v i) (.ref I) [I]
  | obj {i : Nat} {l : Loc} (e : φ[i]? = some l) : ItRaw c G φ h (.obj i) (.ref l.a) []
theorem ItRaw.mono {c : Cx} {G G' : Imm} {φ φ' : List Loc} {h h' : Heap} {it : AIt} {it' : Value} {pr : List Addr} (x : ItRaw c G φ h it it' pr) (hG : Imm.Sub G G') (hφ : Ext φ φ') (hk : ∀ a ∈ pr, ∀ o, h.get? a = some o → h'.get? a = some o) : ItRaw c G' φ' h' it it' pr := by
  cases x with
  | seq hI V =>
    obtain ⟨o, ho, r⟩ := hI
    exact .seq ⟨o, hk _ (.head _) _ ho, r⟩ (V.mono hG hφ)
  | obj e =>
    obtain ⟨l', e', ha, _⟩ := hφ _ _ e
    rw [← ha]; exact .obj e'
structure FsOk (c : Cx) (env : Env) (fs : List Frame) : Prop where
  fin : ∀ A Φ s cd', Φ (.ret (.ok (.ret .none))) s → SegX (model c.prog c.w) A cd' (leafOf (.ok .next)) fs s Φ
  sp : splitAtGen fs = none
  gu : fs.any Frame.guarded = false
  hd : (marksOver fs (none, none)).1 = none
  fc : frameCount (fs.map Frame.where_) ≤ 2
  un : unitsOf (fs.map Frame.where_) ≤ 20
  ev : envsOf (fs.map Frame.where_) = [env]
  err : ∃ cdF, ∀ A Φ s cd' e, wpAny (model c.prog c.w) (A.over cdF []) (do
      if (← field e 1) == Value.none then unsupported "frame.own-activation:exception-without-traceback"
      setFlight e env.frame) (fun _ s₁ => wpAny (model c.prog c.w) (A.over cdF []) (leaving env e) (fun _ s₂ => Φ (.ret (.error e)) s₂) (fun _ _ => False) s₁) (fun _ _ => False) s → SegX (model c.prog c.w) A cd' (leafOf (.error e)) fs s Φ
noncomputable def GSusp (c : Cx) (k : GB) (env : Env) (it' : Value) (gs : GenState) : Prop :=
  ∃ kk l0 cd p fs px lb, gs = .suspended kk l0 cd p fs false ∧ GLoop k lb ∧ FsOk c env fs ∧
    ∀ A Φ s, SegX (model c.prog c.w) A (.forLoop (.Name k.x px) it' lb [] env) (denote table (.forLoop (.Name k.x px) it' lb [] env)) fs s Φ → SegX (model c.prog c.w) A cd (kk (.send .none)) fs s Φ
inductive ListO (c : Cx) (G : Imm) (φ : List Loc) (l : Loc) (vs : List AVal) (s : Shared) : Prop
  | mk (h1 : l.ps = []) (h2 : l.g = none) (items : List Value) (n : Nat) (e : s.heap.get? l.a = some { cls := .type "list", data := .seq items.toArray n }) (r : VsRel c G φ vs items)
inductive DictO {K : Type} [DecidableEq K] (c : Cx) (knd : KeyKind c.prog c.w K) (G : Imm) (φ : List Loc) (l : Loc) (kvs : List (K × AVal)) (s : Shared) : Prop
  | mk (h1 : l.ps = []) (h2 : l.g = none) (es : List (K × Value)) (e : s.heap.DictAt knd l.a es es.length) (hk : es.map (·.1) = kvs.map (·.1)) (r : VsRel c G φ (kvs.map (·.2)) (es.map (·.2))) (sm : (l.a == sysModules) = false)
noncomputable def AtsOk (c : Cx) (G : Imm) (φ : List Loc) (ats : List (Str × AVal)) (es : List DictEntry) : Prop :=
      ∀ x, match ats.lookup x with
        | some v => ∃ v', getL x es = some (some v') ∧ handedIn v' = true ∧ VRel c G φ v v'
        | .none => getL x es = some .none
inductive InstO (c : Cx) (G : Imm) (φ : List Loc) (l : Loc) (ats : List (Str × AVal)) (s : Shared) : Prop
  | mk (h1 : l.g = none) (d : Addr) (es : List DictEntry) (n : Nat) (h2 : l.ps = [d]) (h3 : s.heap.get? l.a = some (instObj c.C d)) (h4 : s.heap.get? d = some (dictOf es n)) (h5 : es.length = ats.length) (h6 : AtsOk c G φ ats es)
noncomputable def ORel (c : Cx) (G : Imm) (φ : List Loc) (l : Loc) (o : AObj) (s : Shared) : Prop :=
  match o with
  | .list vs => ListO c G φ l vs s
  | .inst ats => InstO c G φ l ats s
  | .dict kvs => DictO c (intKind c.prog c.w) G φ l kvs s
  | .sdict kvs => DictO c (strKind c.prog c.w) G φ l kvs s
  | .liter v i => l.ps = [] ∧ l.g = none ∧ ∃ la, VRel c G φ v (.ref la) ∧ s.heap.IsListIter l.a la i
  | .lend => l.ps = [] ∧ l.g = none ∧ ∃ o i, s.heap.get? l.a = some o ∧ o.cls = .type "list_iterator" ∧ o.data = .fields #[.none, i]
  | .gen k ρ st => ∃ g, l.g = some g ∧ s.heap.IsGen l.a g ∧ match st with
    | .done => l.ps = [] ∧ s.gens[g]? = some .finished
    | .run => l.ps = [] ∧ s.gens[g]? = some .running
    | .fresh => ∃ env body, s.gens[g]? = some (.fresh (.func body env)) ∧ l.ps = [env.locals] ∧ GBody k body ∧ GEnv c G φ k ρ env s.heap
    | .susp it => ∃ env it' pr gs, s.gens[g]? = some gs ∧ l.ps = env.locals :: pr ∧ GEnv c G φ k ρ env s.heap ∧ ItRaw c G φ s.heap it it' pr ∧ GSusp c k env it' gs
noncomputable def gfoot (φ : List Loc) : List Nat := φ.filterMap (·.g)
theorem mem_gfoot {φ : List Loc} {i : Nat} {l : Loc} {g : Nat} (h : φ[i]? = some l) (hg : l.g = some g) : g ∈ gfoot φ := List.mem_filterMap.mpr ⟨l, List.mem_of_getElem? h, hg⟩
noncomputable def TabOk (c : Cx) (G : Imm) (P : Addr) (h : Heap) : Prop := ∃ ps, h.get? P = some (tabObj ps) ∧ TriplesOk ps.toList ∧ ∀ pos cv, codeAmong pos ps.toList = some cv →
  ∃ ca oc vs t, cv = .ref ca ∧ G ca = some oc ∧ oc.data = .fields vs ∧ vs[1]? = some (.str (c.tq P) t)
theorem TabOk.mono {c : Cx} {G G' : Imm} {P : Addr} {h h' : Heap} (x : TabOk c G P h) (hG : Imm.Sub G G') (hk : ∀ o, h.get? P = some o → h'.get? P = some o) : TabOk c G' P h' :=
  let ⟨ps, e, t, r⟩ := x; ⟨ps, hk _ e, t, fun pos cv h1 => let ⟨ca, oc, vs, t, e, g, q⟩ := r pos cv h1; ⟨ca, oc, vs, t, e, hG _ _ g, q⟩⟩
structure Rel (c : Cx) (G : Imm) (φ : List Loc) (σ : St) (s : Shared) : Prop where
  gB : ∀ a o, c.B.get? a = some o → G a = some o
  gh : ∀ a o, G a = some o → s.heap.get? a = some o
  gf : ∀ a, a ∈ foot c φ → G a = none
  len : φ.length = σ.length
  nodup : (foot c φ).Nodup
  live : ∀ a ∈ foot c φ, (s.heap.get? a).isSome
  obj : ∀ (i : Nat) (l : Loc) (o : AObj), φ[i]? = some l → σ[i]? = some o → ORel c G φ l o s
  gn : (gfoot φ).Nodup
  bare : ∀ x ∈ s.gens, x.bare = true
  tab : ∀ q ∈ c.tabs, TabOk c G q.2 s.heap
structure Step (c : Cx) (own : List Addr) (G : Imm) (φ : List Loc) (s : Shared) (G' : Imm) (φ' : List Loc) (s' : Shared) : Prop where
  g : Imm.Sub G G'
  ext : Ext φ φ'
  foot : ∀ b ∈ foot c φ', b ∈ Mini.foot c φ ∨ s.heap.get? b = none
  dom : ∀ b o, G' b = some o → G b = some o ∨ s.heap.get? b = none
  frame : ∀ b o, b ∉ Mini.foot c φ → b ∉ own → s.heap.get? b = some o → s'.heap.get? b = some o
  keep : ∀ b, (s.heap.get? b).isSome → (s'.heap.get? b).isSome
  os : s'.os = s.os
  gsz : s.gens.size ≤ s'.gens.size
  gfr : ∀ k, k ∉ gfoot φ → k < s.gens.size → s'.gens[k]? = s.gens[k]?
  gft : ∀ k ∈ gfoot φ', k ∈ gfoot φ ∨ s.gens.size ≤ k
theorem Step.refl (c : Cx) (own : List Addr) (G : Imm) (φ : List Loc) (s : Shared) : Step c own G φ s G φ s :=
  ⟨fun _ _ e => e, .refl _, fun _ h => .inl h, fun _ _ e => .inl e, fun _ _ _ _ e => e, fun _ h => h, rfl, Nat.le_refl _, fun _ _ _ => rfl, fun _ h => .inl h⟩
theorem none_of_isSome {α : Type} {x : Option α} {P : Prop} (h : x.isSome = true) (e : x = none) : P := by rw [e] at h; cases h
theorem Step.trans {c : Cx} {own own' : List Addr} {G₁ G₂ G₃ : Imm} {φ₁ φ₂ φ₃ : List Loc} {s₁ s₂ s₃ : Shared} (x : Step c own G₁ φ₁ s₁ G₂ φ₂ s₂) (y : Step c own' G₂ φ₂ s₂ G₃ φ₃ s₃)
    (ho : ∀ b ∈ own', b ∈ own ∨ s₁.heap.get? b = none) : Step c own G₁ φ₁ s₁ G₃ φ₃ s₃ where
  g := fun a o e => y.g a o (x.g a o e)
  ext := x.ext.trans y.ext
  foot := fun b h => by
    rcases y.foot b h with h | h
    · exact x.foot b h
    · refine .inr ?_
      cases q : s₁.heap.get? b with
      | none => rfl
      | some o => exact none_of_isSome (x.keep b (by rw [q]; rfl)) h
  dom := fun b o e => by
    rcases y.dom b o e with h | h
    · exact x.dom b o h
    · refine .inr ?_
      cases q : s₁.heap.get? b with
      | none => rfl
      | some o => exact none_of_isSome (x.keep b (by rw [q]; rfl)) h
  frame := fun b o h1 h2 e => by
    refine y.frame b o (fun h => ?_) (fun h => ?_) (x.frame b o h1 h2 e)
    · rcases x.foot b h with h | h
      · exact h1 h
      · rw [h] at e; cases e
    · rcases ho b h with h | h
      · exact h2 h
      · rw [h] at e; cases e
  keep := fun b h => y.keep b (x.keep b h)
  os := y.os.trans x.os
  gsz := Nat.le_trans x.gsz y.gsz
  gfr := fun k h1 h2 => by
    refine (y.gfr k (fun q => ?_) (Nat.lt_of_lt_of_le h2 x.gsz)).trans (x.gfr k h1 h2)
    rcases x.gft k q with q | q
    · exact h1 q
    · lia
  gft := fun k h => by
    rcases y.gft k h with h | h
    · exact x.gft k h
    · exact .inr (Nat.le_trans x.gsz h)
theorem Step.trans' {c : Cx} {own : List Addr} {G₁ G₂ G₃ : Imm} {φ₁ φ₂ φ₃ : List Loc} {s₁ s₂ s₃ : Shared} (x : Step c own G₁ φ₁ s₁ G₂ φ₂ s₂) (y : Step c own G₂ φ₂ s₂ G₃ φ₃ s₃) : Step c own G₁ φ₁ s₁ G₃ φ₃ s₃ :=
  x.trans y fun _ h => .inl h
theorem Step.weaken {c : Cx} {own own' : List Addr} {G₁ G₂ : Imm} {φ₁ φ₂ : List Loc} {s₁ s₂ : Shared} (x : Step c own G₁ φ₁ s₁ G₂ φ₂ s₂) (h : ∀ b ∈ own, b ∈ own') : Step c own' G₁ φ₁ s₁ G₂ φ₂ s₂ :=
  { x with frame := fun b o h1 h2 e => x.frame b o h1 (fun q => h2 (h b q)) e }
noncomputable def OwnOk (c : Cx) (G : Imm) (φ : List Loc) (own : List Addr) (s : Shared) : Prop := ∀ a ∈ own, a ∉ foot c φ ∧ G a = none ∧ (s.heap.get? a).isSome
theorem OwnOk.step {c : Cx} {own own' : List Addr} {G₁ G₂ : Imm} {φ₁ φ₂ : List Loc} {s₁ s₂ : Shared} (h : OwnOk c G₁ φ₁ own s₁) (x : Step c own' G₁ φ₁ s₁ G₂ φ₂ s₂) : OwnOk c G₂ φ₂ own s₂ := fun a ha => by
  obtain ⟨h1, h2, h3⟩ := h a ha
  refine ⟨fun q => ?_, ?_, x.keep a h3⟩
  · rcases x.foot a q with q | q
    · exact h1 q
    · exact none_of_isSome h3 q
  · cases q : G₂ a with
    | none => rfl
    | some o =>
      rcases x.dom a o q with q | q
      · rw [h2] at q; cases q
      · exact none_of_isSome h3 q
theorem DictO.frame {K : Type} [DecidableEq K] {c : Cx} {knd : KeyKind c.prog c.w K} {G G' : Imm} {φ φ' : List Loc} {l : Loc} {kvs : List (K × AVal)} {s s' : Shared} (hG : Imm.Sub G G') (hφ : Ext φ φ') (h : DictO c knd G φ l kvs s)
    (k : ∀ o, s.heap.get? l.a = some o → s'.heap.get? l.a = some o) : DictO c knd G' φ' l kvs s' := by
  obtain ⟨h1, h2, es, e, hk, r, sm⟩ := h
  obtain ⟨o, en, ho, hr⟩ := e
  exact ⟨h1, h2, es, ⟨o, en, k o ho, hr⟩, hk, r.mono hG hφ, sm⟩
theorem ORel.frame {c : Cx} {G G' : Imm} {φ φ' : List Loc} {l : Loc} {o : AObj} {s s' : Shared} (hG : Imm.Sub G G') (hφ : Ext φ φ') (h : ORel c G φ l o s)
    (k : ∀ a o, a ∈ l.a :: l.ps → s.heap.get? a = some o → s'.heap.get? a = some o) (kg : ∀ g, l.g = some g → s'.gens[g]? = s.gens[g]?) : ORel c G' φ' l o s' := by
  cases o with
  | list vs =>
    obtain ⟨h1, h2, items, n, h3, h4⟩ := h
    exact ⟨h1, h2, items, n, k _ _ (.head _) h3, h4.mono hG hφ⟩
  | dict kvs => exact DictO.frame hG hφ h fun o e => k _ o (.head _) e
  | sdict kvs => exact DictO.frame hG hφ h fun o e => k _ o (.head _) e
  | inst ats =>
    obtain ⟨h1, d, es, n, h2, h3, h4, h5, h6⟩ := h
    refine ⟨h1, d, es, n, h2, k _ _ (.head _) h3, k _ _ (by rw [h2]; exact .tail _ (.head _)) h4, h5, fun x => ?_⟩
    have h7 := h6 x
    cases q : ats.lookup x with
    | none => rw [q] at h7; exact h7
    | some v => rw [q] at h7; obtain ⟨v', e1, e2, e3⟩ := h7; exact ⟨v', e1, e2, e3.mono hG hφ⟩
  | liter v i =>
    obtain ⟨h1, h2, la, h3, h4⟩ := h
    obtain ⟨o, ho, hr⟩ := h4
    exact ⟨h1, h2, la, h3.mono hG hφ, o, k _ _ (.head _) ho, hr⟩
  | lend =>
    obtain ⟨h1, h2, o, i, ho, hr⟩ := h
    exact ⟨h1, h2, o, i, k _ _ (.head _) ho, hr⟩
  | gen b ρ st =>
    obtain ⟨g, h1, h2, h3⟩ := h
    obtain ⟨oo, nm, qn, ho, hr⟩ := h2
    refine ⟨g, h1, ⟨oo, nm, qn, k _ _ (.head _) ho, hr⟩, ?_⟩
    have e := kg g h1
    cases st with
    | done => exact ⟨h3.1, e.trans h3.2⟩
    | run => exact ⟨h3.1, e.trans h3.2⟩
    | fresh =>
      obtain ⟨env, body, q1, q2, q3, q4⟩ := h3
      exact ⟨env, body, e.trans q1, q2, q3, q4.mono hG hφ fun o => k _ o (by rw [q2]; exact .tail _ (.head _))⟩
    | susp it =>
      obtain ⟨env, it', pr, gs, q1, q2, q3, q4, q5⟩ := h3
      exact ⟨env, it', pr, gs, e.trans q1, q2, q3.mono hG hφ (fun o => k _ o (by rw [q2]; exact .tail _ (.head _))), q4.mono hG hφ (fun a ha o => k _ o (by rw [q2]; exact .tail _ (.tail _ ha))), q5⟩
theorem mem_foot {c : Cx} {φ : List Loc} {i : Nat} {l : Loc} (h : φ[i]? = some l) {a : Addr} (ha : a ∈ l.a :: l.ps) : a ∈ foot c φ :=
  List.mem_append_right _ (List.mem_flatMap.mpr ⟨l, List.mem_of_getElem? h, ha⟩)
theorem mem_tab {c : Cx} {φ : List Loc} {q : Addr × Addr} (h : q ∈ c.tabs) : q.2 ∈ foot c φ := List.mem_append_left _ (List.mem_map_of_mem h)
theorem Rel.same {c : Cx} {G : Imm} {φ : List Loc} {σ : St} {s s' : Shared} (R : Rel c G φ σ s)
    (k : ∀ a o, (a ∈ foot c φ ∨ (G a).isSome) → s.heap.get? a = some o → s'.heap.get? a = some o) (hg : s'.gens = s.gens := by rfl) : Rel c G φ σ s' where
  gB := R.gB
  gh := fun a o e => k a o (.inr (by rw [e]; rfl)) (R.gh a o e)
  gf := R.gf
  len := R.len
  nodup := R.nodup
  live := fun a ha => by
    obtain ⟨o, ho⟩ := Option.isSome_iff_exists.mp (R.live a ha)
    rw [k a o (.inl ha) ho]; rfl
  obj := fun i l o h1 h2 => (R.obj i l o h1 h2).frame (fun _ _ e => e) (.refl _) (fun a o' ha e => k a o' (.inl (mem_foot h1 ha)) e) fun _ _ => by rw [hg]
  gn := R.gn
  bare := by rw [hg]; exact R.bare
  tab := fun q hq => (R.tab q hq).mono (fun _ _ e => e) fun o e => k _ o (.inl (mem_tab hq)) e
theorem Rel.keepB {c : Cx} {G : Imm} {φ : List Loc} {σ : St} {s : Shared} (R : Rel c G φ σ s) : ∀ b o, c.B.get? b = some o → s.heap.get? b = some o := fun b o e => R.gh b o (R.gB b o e)
theorem Rel.push {c : Cx} {G : Imm} {φ : List Loc} {σ : St} {s : Shared} (R : Rel c G φ σ s) (o : Obj) : Rel c G φ σ { s with heap := s.heap.push o } :=
  R.same fun _ _ _ e => Heap.get?_push_of_some _ e
theorem Rel.toks {c : Cx} {G : Imm} {φ : List Loc} {σ : St} {s : Shared} (R : Rel c G φ σ s) (t : Nat) : Rel c G φ σ { s with toks := t } := R.same fun _ _ _ e => e
theorem get?_size (h : Heap) : h.get? h.objs.size = none := by
  cases q : h.get? h.objs.size with
  | none => rfl
  | some o => exact absurd (Heap.lt_size q) (Nat.lt_irrefl _)
noncomputable def Imm.add (G : Imm) (a : Addr) (o : Obj) : Imm := fun b => if b = a then some o else G b
theorem Imm.add_self (G : Imm) (a : Addr) (o : Obj) : (G.add a o) a = some o := by simp [Imm.add]
theorem Rel.fresh_G {c : Cx} {G : Imm} {φ : List Loc} {σ : St} {s : Shared} (R : Rel c G φ σ s) {a : Addr} (h : s.heap.get? a = none) : G a = none := by
  cases q : G a with
  | none => rfl
  | some o => rw [R.gh a o q] at h; cases h
theorem Rel.fresh_foot {c : Cx} {G : Imm} {φ : List Loc} {σ : St} {s : Shared} (R : Rel c G φ σ s) {a : Addr} (h : s.heap.get? a = none) : a ∉ foot c φ := fun q => none_of_isSome (R.live a q) h
theorem Rel.pushG {c : Cx} {G : Imm} {φ : List Loc} {σ : St} {s : Shared} (R : Rel c G φ σ s) (o : Obj) (hf : o.isFreed = false) :
    Rel c (G.add s.heap.objs.size o) φ σ { s with heap := s.heap.push o } where
  gB := fun a o' e => by
    unfold Imm.add
    split
    · rename_i h; subst h; have q := R.gB _ _ e; rw [R.fresh_G (get?_size _)] at q; cases q
    · exact R.gB a o' e
  gh := fun a o' e => by
    unfold Imm.add at e
    split at e
    · rename_i h; subst h; cases e; exact Heap.get?_push_size _ hf
    · exact Heap.get?_push_of_some _ (R.gh a o' e)
  gf := fun a ha => by
    unfold Imm.add
    split
    · rename_i h; subst h; exact absurd ha (R.fresh_foot (get?_size _))
    · exact R.gf a ha
  len := R.len
  nodup := R.nodup
  live := (R.push o).live
  obj := fun i l o' h1 h2 => ((R.push o).obj i l o' h1 h2).frame (fun a x e => by
      unfold Imm.add
      split
      · rename_i h; subst h; rw [R.fresh_G (get?_size _)] at e; cases e
      · exact e) (.refl _) (fun _ _ _ e => e) fun _ _ => rfl
  gn := R.gn
  bare := R.bare
  tab := fun q hq => ((R.push o).tab q hq).mono (fun a x e => by
      unfold Imm.add
      split
      · rename_i h; subst h; rw [R.fresh_G (get?_size _)] at e; cases e
      · exact e) fun _ e => e
theorem Imm.sub_add {G : Imm} {a : Addr} {o : Obj} (h : G a = none) : Imm.Sub G (G.add a o) := fun b x e => by
  unfold Imm.add
  split
  · rename_i q; subst q; rw [h] at e; cases e
  · exact e
theorem step_pushG {c : Cx} {own : List Addr} {G : Imm} {φ : List Loc} {σ : St} {s : Shared} (R : Rel c G φ σ s) (o : Obj) : Step c own G φ s (G.add s.heap.objs.size o) φ { s with heap := s.heap.push o } where
  g := Imm.sub_add (R.fresh_G (get?_size _))
  ext := .refl _
  foot := fun _ h => .inl h
  dom := fun b o' e => by
    unfold Imm.add at e
    split at e
    · rename_i h; subst h; exact .inr (get?_size _)
    · exact .inl e
  frame := fun b o' _ _ e => Heap.get?_push_of_some _ e
  keep := fun b h => by obtain ⟨x, hx⟩ := Option.isSome_iff_exists.mp h; rw [Heap.get?_push_of_some _ hx]; rfl
  os := rfl
  gsz := Nat.le_refl _
  gfr := fun _ _ _ => rfl
  gft := fun _ h => .inl h
theorem step_push {c : Cx} {own : List Addr} {G : Imm} {φ : List Loc} {s : Shared} (o : Obj) : Step c own G φ s G φ { s with heap := s.heap.push o } where
  g := fun _ _ e => e
  ext := .refl _
  foot := fun _ h => .inl h
  dom := fun _ _ e => .inl e
  frame := fun b o' _ _ e => Heap.get?_push_of_some _ e
  keep := fun b h => by obtain ⟨x, hx⟩ := Option.isSome_iff_exists.mp h; rw [Heap.get?_push_of_some _ hx]; rfl
  os := rfl
  gsz := Nat.le_refl _
  gfr := fun _ _ _ => rfl
  gft := fun _ h => .inl h
theorem step_toks {c : Cx} {own : List Addr} {G : Imm} {φ : List Loc} {s : Shared} (t : Nat) : Step c own G φ s G φ { s with toks := t } := { Step.refl c own G φ s with }
theorem Rel.glt {c : Cx} {G : Imm} {φ : List Loc} {σ : St} {s : Shared} (R : Rel c G φ σ s) {k : Nat} (h : k ∈ gfoot φ) : k < s.gens.size := by
  obtain ⟨l, hl, hg⟩ := List.mem_filterMap.mp h
  obtain ⟨i, hi⟩ := List.getElem?_of_mem hl
  have hlt := (List.getElem?_eq_some_iff.mp hi).1
  rw [R.len] at hlt
  have q := R.obj i l σ[i] hi (List.getElem?_eq_getElem hlt)
  have lt : ∀ {x : GenState}, s.gens[k]? = some x → k < s.gens.size := fun e => (Array.getElem?_eq_some_iff.mp e).1
  cases ho : σ[i] with
  | list vs => rw [ho] at q; obtain ⟨_, h2, _⟩ := q; rw [h2] at hg; cases hg
  | dict vs => rw [ho] at q; obtain ⟨_, h2, _⟩ := q; rw [h2] at hg; cases hg
  | sdict vs => rw [ho] at q; obtain ⟨_, h2, _⟩ := q; rw [h2] at hg; cases hg
  | inst ats => rw [ho] at q; obtain ⟨h1, _⟩ := q; rw [h1] at hg; cases hg
  | liter v j => rw [ho] at q; rw [q.2.1] at hg; cases hg
  | lend => rw [ho] at q; rw [q.2.1] at hg; cases hg
  | gen b ρ st =>
    rw [ho] at q
    obtain ⟨g, e, _, q⟩ := q
    rw [hg] at e; cases e
    cases st with
    | done => exact lt q.2
    | run => exact lt q.2
    | fresh => obtain ⟨_, _, e, _⟩ := q; exact lt e
    | susp it => obtain ⟨_, _, _, _, e, _⟩ := q; exact lt e
theorem foot_append (c : Cx) (φ : List Loc) (l : Loc) : foot c (φ ++ [l]) = foot c φ ++ (l.a :: l.ps) := by simp [foot]
theorem Rel.add {c : Cx} {G : Imm} {φ : List Loc} {σ : St} {s s' : Shared} (R : Rel c G φ σ s) {l : Loc} {o : AObj}
    (k : ∀ a x, s.heap.get? a = some x → s'.heap.get? a = some x) (hn : ∀ a ∈ l.a :: l.ps, s.heap.get? a = none) (hd : (l.a :: l.ps).Nodup) (hl : ∀ a ∈ l.a :: l.ps, (s'.heap.get? a).isSome)
    (ho : ORel c G (φ ++ [l]) l o s') (hb : (∀ x ∈ s.gens, x.bare = true) → ∀ x ∈ s'.gens, x.bare = true := by exact fun h => h) (hg : ∀ k, k < s.gens.size → s'.gens[k]? = s.gens[k]? := by exact fun _ _ => rfl) (hln : ∀ g, l.g = some g → s.gens.size ≤ g := by exact fun _ h => nomatch h) : Rel c G (φ ++ [l]) (σ ++ [o]) s' where
  gB := R.gB
  gh := fun a x e => k a x (R.gh a x e)
  gf := fun a ha => by
    rw [foot_append] at ha
    rcases List.mem_append.mp ha with ha | ha
    · exact R.gf a ha
    · exact R.fresh_G (hn a ha)
  len := by simp [R.len]
  nodup := by
    rw [foot_append]
    refine List.nodup_append.mpr ⟨R.nodup, hd, fun a ha b hb e => ?_⟩
    subst e
    exact R.fresh_foot (hn a hb) ha
  live := fun a ha => by
    rw [foot_append] at ha
    rcases List.mem_append.mp ha with ha | ha
    · obtain ⟨x, hx⟩ := Option.isSome_iff_exists.mp (R.live a ha)
      rw [k a x hx]; rfl
    · exact hl a ha
  obj := fun i l' o' h1 h2 => by
    by_cases hi : i < φ.length
    · rw [List.getElem?_append_left hi] at h1
      rw [List.getElem?_append_left (by rw [← R.len]; exact hi)] at h2
      exact (R.obj i l' o' h1 h2).frame (fun _ _ e => e) (.append _ _) (fun a x _ e => k a x e) fun g hl => hg g (R.glt (mem_gfoot h1 hl))
    · have hi' := Nat.le_of_not_lt hi
      rw [List.getElem?_append_right hi'] at h1
      rw [List.getElem?_append_right (by rw [← R.len]; exact hi')] at h2
      rw [← R.len] at h2
      cases q : i - φ.length with
      | zero => rw [q] at h1 h2; simp at h1 h2; subst h1; subst h2; exact ho
      | succ j => rw [q] at h1; simp at h1
  gn := by
    unfold gfoot
    rw [List.filterMap_append]
    refine List.nodup_append.mpr ⟨R.gn, ?_, fun a ha b hb e => ?_⟩
    · cases q : l.g <;> simp [q]
    · subst e
      have h1 := R.glt ha
      simp only [List.filterMap_cons, List.filterMap_nil] at hb
      cases q : l.g with
      | none => rw [q] at hb; cases hb
      | some g =>
        rw [q] at hb
        cases List.mem_singleton.mp hb
        have := hln _ q
        lia
  bare := hb R.bare
  tab := fun q hq => (R.tab q hq).mono (fun _ _ e => e) fun o e => k _ o e
theorem step_add {c : Cx} {own : List Addr} {G : Imm} {φ : List Loc} {s s' : Shared} {l : Loc}
    (k : ∀ a x, s.heap.get? a = some x → s'.heap.get? a = some x) (hn : ∀ a ∈ l.a :: l.ps, s.heap.get? a = none) (os : s'.os = s.os) (hg : ∀ k, k < s.gens.size → s'.gens[k]? = s.gens[k]? := by exact fun _ _ => rfl) (hz : s.gens.size ≤ s'.gens.size := by exact Nat.le_refl _) (hln : ∀ g, l.g = some g → s.gens.size ≤ g := by exact fun _ h => nomatch h) : Step c own G φ s G (φ ++ [l]) s' where
  g := fun _ _ e => e
  ext := .append _ _
  foot := fun b h => by
    rw [foot_append] at h
    rcases List.mem_append.mp h with h | h
    · exact .inl h
    · exact .inr (hn b h)
  dom := fun _ _ e => .inl e
  frame := fun b o _ _ e => k b o e
  keep := fun b h => by obtain ⟨x, hx⟩ := Option.isSome_iff_exists.mp h; rw [k b x hx]; rfl
  os := os
  gsz := hz
  gfr := fun k _ h => hg k h
  gft := fun k h => by
    unfold gfoot at h
    rw [List.filterMap_append] at h
    rcases List.mem_append.mp h with h | h
    · exact .inl h
    · refine .inr ?_
      simp only [List.filterMap_cons, List.filterMap_nil] at h
      cases q : l.g with
      | none => rw [q] at h; cases h
      | some g =>
        rw [q] at h
        cases List.mem_singleton.mp h
        exact hln _ q
structure LocRel (c : Cx) (G : Imm) (φ : List Loc) (env : Env) (ρ : Vars) (h : Heap) : Prop where
  kind : env.scope.kind = .function
  glob : env.globals = mainGlobals
  bi : env.builtins = builtinsNs
  ns : ∃ m, h.Ns env.locals m ∧ ∀ x v, env.kindOf x = some .local → ρ x = some v → ∃ v', m x = some v' ∧ VRel c G φ v v'
  cell : ∀ x v, (env.kindOf x = some .cell ∨ env.kindOf x = some .free) → ρ x = some v → ∃ a v', env.cells.lookup x = some a ∧ h.IsCell a (some v') ∧ VRel c G φ v v'
theorem LocRel.keeps {c : Cx} {G G' : Imm} {φ φ' : List Loc} {env : Env} {ρ : Vars} {h h' : Heap} (R : LocRel c G φ env ρ h) (hG : Imm.Sub G G') (hφ : Ext φ φ')
    (k : ∀ a o, (a = env.locals ∨ ∃ x, env.cells.lookup x = some a) → h.get? a = some o → h'.get? a = some o) : LocRel c G' φ' env ρ h' where
  kind := R.kind
  glob := R.glob
  bi := R.bi
  ns := by
    obtain ⟨m, hn, hv⟩ := R.ns
    obtain ⟨o, es, ep, ho, hr⟩ := hn
    exact ⟨m, ⟨o, es, ep, k _ _ (.inl rfl) ho, hr⟩, fun x v h1 h2 => let ⟨v', e, r⟩ := hv x v h1 h2; ⟨v', e, r.mono hG hφ⟩⟩
  cell := fun x v h1 h2 => by
    obtain ⟨a, v', e, ⟨o, ho, hd⟩, r⟩ := R.cell x v h1 h2
    exact ⟨a, v', e, ⟨o, k _ _ (.inr ⟨x, e⟩) ho, hd⟩, r.mono hG hφ⟩
noncomputable def owns (env : Env) : List Addr := env.locals :: env.cells.filterMap fun p => env.cells.lookup p.1
theorem mem_of_look {x : Str} {a : Addr} : ∀ {l : List (Str × Addr)}, l.lookup x = some a → (x, a) ∈ l
  | [], h => by cases h
  | p :: r, h => by
    rw [List.lookup_cons] at h
    split at h
    · rename_i q; cases h; have := eq_of_beq q; subst this; exact .head _
    · exact .tail _ (mem_of_look h)
theorem mem_owns {env : Env} {a : Addr} (h : a = env.locals ∨ ∃ x, env.cells.lookup x = some a) : a ∈ owns env := by
  rcases h with rfl | ⟨x, h⟩
  · exact .head _
  · exact .tail _ (List.mem_filterMap.mpr ⟨(x, a), mem_of_look h, h⟩)
theorem of_owns {env : Env} {a : Addr} (h : a ∈ owns env) : a = env.locals ∨ ∃ x, env.cells.lookup x = some a := by
  rcases List.mem_cons.mp h with rfl | h
  · exact .inl rfl
  · obtain ⟨p, _, hp⟩ := List.mem_filterMap.mp h
    exact .inr ⟨p.1, hp⟩
structure Owns (c : Cx) (G : Imm) (φ : List Loc) (env : Env) (s : Shared) : Prop where
  loc : OwnOk c G φ [env.locals] s
  cel : ∀ x a, env.cells.lookup x = some a → a ∉ foot c φ ∧ (s.heap.get? a).isSome ∧ (env.kindOf x = some .cell → if c.frz x = true then (G a).isSome = true else G a = none)
theorem Owns.away {c : Cx} {G : Imm} {φ : List Loc} {env : Env} {s : Shared} (O : Owns c G φ env s) {a : Addr} (h : a ∈ owns env) : a ∉ foot c φ ∧ (s.heap.get? a).isSome := by
  rcases of_owns h with rfl | ⟨x, h⟩
  · exact ⟨(O.loc _ (.head _)).1, (O.loc _ (.head _)).2.2⟩
  · exact ⟨(O.cel x a h).1, (O.cel x a h).2.1⟩
theorem Owns.step {c : Cx} {own' : List Addr} {G₁ G₂ : Imm} {φ₁ φ₂ : List Loc} {env : Env} {s₁ s₂ : Shared} (h : Owns c G₁ φ₁ env s₁) (x : Step c own' G₁ φ₁ s₁ G₂ φ₂ s₂) : Owns c G₂ φ₂ env s₂ where
  loc := h.loc.step x
  cel := fun y a ha => by
    obtain ⟨h1, h3, h2⟩ := h.cel y a ha
    refine ⟨fun q => ?_, x.keep a h3, fun hk => ?_⟩
    · rcases x.foot a q with q | q
      · exact h1 q
      · exact none_of_isSome h3 q
    · have h2 := h2 hk
      split at h2
      · rename_i hf
        rw [if_pos hf]
        obtain ⟨o, ho⟩ := Option.isSome_iff_exists.mp h2
        rw [x.g _ _ ho]; rfl
      · rename_i hf
        rw [if_neg hf]
        cases q : G₂ a with
        | none => rfl
        | some o =>
          rcases x.dom a o q with q | q
          · rw [h2] at q; cases q
          · exact none_of_isSome h3 q
theorem LocRel.step {c : Cx} {G G' : Imm} {φ φ' : List Loc} {env : Env} {ρ : Vars} {s s' : Shared} (L : LocRel c G φ env ρ s.heap) (O : Owns c G φ env s) (S : Step c [] G φ s G' φ' s') : LocRel c G' φ' env ρ s'.heap :=
  L.keeps S.g S.ext fun a o ha e => S.frame a o (O.away (mem_owns ha)).1 (fun h => nomatch h) e
end Mini
namespace Mini
open PySem PySem.W PyProof PyProof.Rows PySem.Calls
structure GoodA (d : Nat) (A : Around) : Prop where
  hh : A.handled = none
  depth : A.depth + 4 * d < 900
  units : A.units + 40 * d < 9000
theorem GoodA.room {d : Nat} {A : Around} (h : GoodA d A) : A.depth < recursionLimit := by have := h.depth; unfold recursionLimit; lia
structure FnOk (c : Cx) (f : Fn) (ps : List Str) (body : List Stmt) (names : List (Str × NameKind)) : Prop where
  o : ∃ o, c.B.get? f.addr = some o ∧ o.data = .func f.fd
  code : c.B.CodeRec f.fd.code f.fd.qualname
  body : f.fd.body = .stmts body
  clo : f.fd.closure = []
  nm : f.fd.scope.names = names
  co : f.fd.scope.isCoroutine = false
  gen : f.fd.scope.isGenerator = false
  kind : f.fd.scope.kind = .function
  glob : f.fd.globals = mainGlobals
  bi : f.fd.builtins = builtinsNs
  bind : ∀ vs', vs'.length = ps.length → bindArgs f.fd ⟨vs', []⟩ = pure (ps.zip vs')
  nodup : ps.Nodup
  pk : ∀ x ∈ ps, names.lookup x = some .local ∨ names.lookup x = some .cell
  nofree : ∀ x, names.lookup x ≠ some .free
  cells : ∀ x, names.lookup x = some .cell → ∀ n, ((cellsFrom n names []).lookup x).isSome = true
structure MkOk (c : Cx) (f : Fn) (nm : Str) (q : Addr × Addr) : Prop where
  mem : q ∈ c.tabs
  code : f.fd.code = .ref q.1
  hd : CodeHd c.B q.1 q.2
  tq : c.tq q.2 = f.fd.qualname ++ ".<locals>." ++ nm
  bi : c.B.BuiltinsAt c.mg q.2
  ng : mainGlobals ≠ q.2
  own : ∀ L p, p ∈ cellsFrom L f.fd.scope.names [] → (cellsFrom L f.fd.scope.names []).lookup p.1 = some p.2 → f.fd.scope.names.lookup p.1 = some .cell
structure COk (c : Cx) (P : PI) : Prop where
  ok : CxOk c
  glob : ∀ x v, P.glob x = some v → ∃ v', (c.mg x = some v' ∨ (c.mg x = none ∧ c.mb x = some v')) ∧ ∀ G φ, VRel c G φ v v'
  ga : findIn c.K (.ref c.C) "__getattribute__" = some (some (.builtin "object.__getattribute__"))
  sa : findIn c.K (.ref c.C) "__setattr__" = some (some (.builtin "object.__setattr__"))
  po : plainOver c.K c.C = true
  hd : hasDictIn c.K c.C = true
  attr : ∀ x, P.attrOk x = true → takerIn c.K c.C x = some none ∧ ∃ a, findIn c.K (.ref c.C) x = some a ∧ noGet c.K a = true
  fn : ∀ x ps body names, P.fn x = some (ps, body, names) → ∃ f, c.fns x = some f ∧ FnOk c f ps body names
  maker : ∀ x nm f, P.maker x = some nm → c.fns x = some f → ∃ q, MkOk c f nm q
  fo : ∀ x f, c.fns x = some f → ∃ o fd, c.B.get? f.addr = some o ∧ o.data = .func fd
  mi : makesIn c.K c.C = true
  cls : ∃ cd, clsIn c.K c.C = some cd ∧ cd.name.cps.foldl (fun k c => k + (Str.utf8Of c).length) 0 ≤ 100 ∧ cd.name.toString.length ≤ 60
  frz : c.frz = P.frz
  cn : ∀ x, P.clsNone x = true → findIn c.K (.ref c.C) x = some (some .none) ∧ specialIn c.K .none "__get__" = some none ∧ copiedNames.contains x = false
  ca : ∀ x, P.callAttr x = true → findIn c.K (.ref c.C) x = some none ∧ findIn c.K (.ref c.C) "__getattr__" = some none
  init : ∃ fi : Fn, findIn c.K (.ref c.C) "__init__" = some (some (.ref fi.addr)) ∧ typeIn c.K (.ref fi.addr) = some (.type "function") ∧ FnOk c fi P.init.1 P.init.2.1 P.init.2.2
noncomputable abbrev Md (c : Cx) : Model := model c.prog c.w
inductive GP (c : Cx) (G : Imm) (φ : List Loc) (s : Shared) (v : AVal) (σ' : St) (v' : Value) (s' : Shared) : Prop
  | mk (G' : Imm) (φ' : List Loc) (R : Rel c G' φ' σ' s') (V : VRel c G' φ' v v') (S : Step c [] G φ s G' φ' s')
inductive GPL (c : Cx) (G : Imm) (φ : List Loc) (s : Shared) (vs : List AVal) (σ' : St) (vs' : List Value) (s' : Shared) : Prop
  | mk (G' : Imm) (φ' : List Loc) (R : Rel c G' φ' σ' s') (V : VsRel c G' φ' vs vs') (S : Step c [] G φ s G' φ' s')
inductive GPB (c : Cx) (G : Imm) (φ : List Loc) (s : Shared) (b : Bool) (σ' : St) (b' : Bool) (s' : Shared) : Prop
  | mk (e : b' = b) (G' : Imm) (φ' : List Loc) (R : Rel c G' φ' σ' s') (S : Step c [] G φ s G' φ' s')
noncomputable def Gives (c : Cx) (A : Around) (G : Imm) (φ : List Loc) (s : Shared) (t : Sem Value) (v : AVal) (σ' : St) : Prop :=
  wpAny (Md c) A t (GP c G φ s v σ') (fun _ _ => False) s
noncomputable def GivesL (c : Cx) (A : Around) (G : Imm) (φ : List Loc) (s : Shared) (t : Sem (List Value)) (vs : List AVal) (σ' : St) : Prop :=
  wpAny (Md c) A t (GPL c G φ s vs σ') (fun _ _ => False) s
noncomputable def GivesB (c : Cx) (A : Around) (G : Imm) (φ : List Loc) (s : Shared) (t : Sem Bool) (b : Bool) (σ' : St) : Prop :=
  wpAny (Md c) A t (GPB c G φ s b σ') (fun _ _ => False) s
section
variable {c : Cx} {A : Around} {G G₁ : Imm} {φ φ₁ : List Loc} {s s₁ : Shared} {σ σ' : St} {v : AVal} {t : Sem Value}
theorem Gives.after (h : Gives c A G₁ φ₁ s₁ t v σ') (S : Step c [] G φ s G₁ φ₁ s₁) :
    wpAny (Md c) A t (GP c G φ s v σ') (fun _ _ => False) s₁ :=
  wpAny_mono h (fun _ _ ⟨G', φ', R, V, S'⟩ => ⟨G', φ', R, V, S.trans' S'⟩) fun _ _ e => e
theorem GivesB.after {t : Sem Bool} {b : Bool} (h : GivesB c A G₁ φ₁ s₁ t b σ') (S : Step c [] G φ s G₁ φ₁ s₁) :
    wpAny (Md c) A t (GPB c G φ s b σ') (fun _ _ => False) s₁ :=
  wpAny_mono h (fun _ _ ⟨e, G', φ', R, S'⟩ => ⟨e, G', φ', R, S.trans' S'⟩) fun _ _ e => e
theorem gives_here {v' : Value} (R : Rel c G φ σ s) (V : VRel c G φ v v') : GP c G φ s v σ v' s := ⟨G, φ, R, V, .refl ..⟩
theorem gives_toks {v' : Value} {n : Nat} (R : Rel c G φ σ s) (V : VRel c G φ v v') : GP c G φ s v σ v' { s with toks := n } :=
  ⟨G, φ, R.toks n, V, step_toks n⟩
theorem noE {α : Type} {t : Sem α} {Q : α → Shared → Prop} {E : Value → Shared → Prop} {M : Model} (h : wpAny M A t Q (fun _ _ => False) s) : wpAny M A t Q E s := wpAny_mono h (fun _ _ x => x) fun _ _ x => x.elim
end
structure Here (c : Cx) (P : PI) (d : Nat) (A : Around) (env : Env) (kd : Kinds) (ρ : Vars) (G : Imm) (φ : List Loc) (σ : St) (s : Shared) : Prop where
  ok : COk c P
  a : GoodA d A
  kd : kd = env.kindOf
  r : Rel c G φ σ s
  l : LocRel c G φ env ρ s.heap
  o : Owns c G φ env s
theorem Here.step {c : Cx} {P : PI} {d : Nat} {A : Around} {env : Env} {kd : Kinds} {ρ : Vars} {G G' : Imm} {φ φ' : List Loc} {σ σ' : St} {s s' : Shared} (H : Here c P d A env kd ρ G φ σ s)
    (R : Rel c G' φ' σ' s') (S : Step c [] G φ s G' φ' s') : Here c P d A env kd ρ G' φ' σ' s' :=
  ⟨H.ok, H.a, H.kd, R, H.l.step H.o S, H.o.step S⟩
structure EvE (P : PI) (d : Nat) (kd : Kinds) (ρ : Vars) (e : Expr) (σ : St) (v : AVal) (σ' : St) : Prop where
  intro ::
  run : ∀ {c A env G φ s}, Here c P d A env kd ρ G φ σ s → Gives c A G φ s (PySem.eval e env) v σ'
structure EvT (P : PI) (d : Nat) (kd : Kinds) (ρ : Vars) (e : Expr) (σ : St) (b : Bool) (σ' : St) : Prop where
  intro ::
  run : ∀ {c A env G φ s}, Here c P d A env kd ρ G φ σ s → GivesB c A G φ s (isTrue e env (PySem.eval e env)) b σ'
inductive EvEs (P : PI) (d : Nat) (kd : Kinds) (ρ : Vars) : List Expr → St → List AVal → St → Prop
  | nil {σ : St} : EvEs P d kd ρ [] σ [] σ
  | cons {e : Expr} {es : List Expr} {v : AVal} {vs : List AVal} {σ σ₁ σ₂ : St} (h0 : notStar e = true) (h1 : EvE P d kd ρ e σ v σ₁) (h2 : EvEs P d kd ρ es σ₁ vs σ₂) : EvEs P d kd ρ (e :: es) σ (v :: vs) σ₂
inductive EvTs (P : PI) (d : Nat) (kd : Kinds) (ρ : Vars) : BoolOp → List Expr → St → Bool → St → Prop
  | nil {op : BoolOp} {σ : St} : EvTs P d kd ρ op [] σ (op == .And) σ
  | andF {e : Expr} {es : List Expr} {σ σ₁ : St} (h1 : EvT P d kd ρ e σ false σ₁) : EvTs P d kd ρ .And (e :: es) σ false σ₁
  | andT {e : Expr} {es : List Expr} {σ σ₁ σ₂ : St} {z : Bool} (h1 : EvT P d kd ρ e σ true σ₁) (h2 : EvTs P d kd ρ .And es σ₁ z σ₂) : EvTs P d kd ρ .And (e :: es) σ z σ₂
  | orT {e : Expr} {es : List Expr} {σ σ₁ : St} (h1 : EvT P d kd ρ e σ true σ₁) : EvTs P d kd ρ .Or (e :: es) σ true σ₁
  | orF {e : Expr} {es : List Expr} {σ σ₁ σ₂ : St} {z : Bool} (h1 : EvT P d kd ρ e σ false σ₁) (h2 : EvTs P d kd ρ .Or es σ₁ z σ₂) : EvTs P d kd ρ .Or (e :: es) σ z σ₂
structure BinR (op : Operator) (a b : AVal) (σ : St) (v : AVal) (σ' : St) : Prop where
  intro ::
  run : ∀ {c A G φ s a' b'}, Rel c G φ σ s → VRel c G φ a a' → VRel c G φ b b' → Gives c A G φ s (binaryOp op a' b') v σ'
structure CmpR (op : CmpOp) (a b : AVal) (σ : St) (z : Bool) : Prop where
  intro ::
  run : ∀ {c A d G φ s a' b'} {Q : Value → Shared → Prop} {E : Value → Shared → Prop}, GoodA d A → Rel c G φ σ s → VRel c G φ a a' → VRel c G φ b b' →
  (∀ s', Rel c G φ σ s' → Step c [] G φ s G φ s' → Q (.bool z) s') → wpAny (Md c) A (compareOp op a' b') Q E s
structure ItemR (σ : St) (a b r : AVal) : Prop where
  intro ::
  run : ∀ {c A G φ s a' b' x i} {Q : Value → Shared → Prop} {E : Value → Shared → Prop}, Rel c G φ σ s → VRel c G φ a a' → VRel c G φ b b' →
  (∀ v' s', Rel c G φ σ s' → Step c [] G φ s G φ s' → VRel c G φ r v' → Q v' s') → wpAny (Md c) A (subscriptTail x i a' b') Q E s
section
variable {c : Cx} {P : PI} {n d : Nat} {A : Around} {env : Env} {kd : Kinds} {ρ : Vars} {G : Imm} {φ : List Loc} {σ σ' : St} {s : Shared} {v : AVal}
inductive LstV (c : Cx) (G : Imm) (φ : List Loc) (s : Shared) (vs : List AVal) (v' : Value) : Prop
  | mk (a : Addr) (o : Obj) (items : List Value) (n : Nat) (e : v' = .ref a) (g : s.heap.get? a = some o) (hc : o.cls = .type "list") (hd : o.data = .seq (List.toArray items) n) (r : VsRel c G φ vs items)
theorem Rel.isList {v : AVal} {v' : Value} {vs : List AVal} (R : Rel c G φ σ s) (V : VRel c G φ v v') (h : listOf? σ v = some vs) :
    LstV c G φ s vs v' := by
  cases v with
  | ref i =>
    unfold listOf? at h
    simp only at h
    split at h
    · rename_i vs' e
      cases h
      cases V using VRel.refE with
      | ref hl =>
        obtain ⟨_, _, items, n, h3, h4⟩ := R.obj _ _ _ hl e
        exact ⟨_, _, items, n, rfl, h3, rfl, rfl, h4⟩
    · cases h
  | scr ns =>
    cases h
    cases V using VRel.scrE with
    | scr e hc n hd r => exact ⟨_, _, _, n, rfl, R.gh _ _ e, hc, hd, VsRel.ints r⟩
  | _ => cases h
theorem lim_le {n : Nat} (h : n ≤ lim) : n ≤ sizeLine := by rw [sizeLine_eq]; unfold lim at h; lia
theorem Rel.newList {vs : List AVal} {items : List Value} (R : Rel c G φ σ s) (V : VsRel c G φ vs items) :
    GP c G φ s (.ref σ.length) (σ ++ [.list vs]) (.ref s.heap.objs.size) { s with heap := s.heap.push { cls := .type "list", data := .seq items.toArray } } := by
  have hn : ∀ a ∈ (⟨s.heap.objs.size, [], none⟩ : Loc).a :: (⟨s.heap.objs.size, [], none⟩ : Loc).ps, s.heap.get? a = none := fun a ha => by
    rcases List.mem_cons.mp ha with rfl | ha
    · exact get?_size _
    · cases ha
  refine ⟨G, φ ++ [⟨s.heap.objs.size, [], none⟩], R.add (fun a x e => Heap.get?_push_of_some _ e) hn (by simp) (fun a ha => ?_) ⟨rfl, rfl, items, 0, Heap.get?_push_size _ rfl, V.mono (fun _ _ e => e) (.append _ _)⟩, ?_, step_add (fun a x e => Heap.get?_push_of_some _ e) hn rfl⟩
  · rcases List.mem_cons.mp ha with rfl | ha
    · rw [Heap.get?_push_size _ rfl]; rfl
    · cases ha
  · refine VRel.ref (l := ⟨s.heap.objs.size, [], none⟩) ?_
    rw [← R.len]; simp
end
theorem flat_inj {α β : Type} (f : α → List β) : ∀ {l : List α} {i j : Nat} {x y : α} {a : β}, (l.flatMap f).Nodup → l[i]? = some x → l[j]? = some y → a ∈ f x → a ∈ f y → i = j
  | [], _, _, _, _, _, _, h, _, _, _ => by simp at h
  | z :: r, i, j, x, y, a, hd, hx, hy, ax, ay => by
    rw [List.flatMap_cons] at hd
    obtain ⟨_, h2, h3⟩ := List.nodup_append.mp hd
    cases i with
    | zero =>
      cases j with
      | zero => rfl
      | succ j =>
        simp at hx hy
        subst hx
        exact absurd rfl (h3 a ax a (List.mem_flatMap.mpr ⟨y, List.mem_of_getElem? hy, ay⟩))
    | succ i =>
      cases j with
      | zero =>
        simp at hx hy
        subst hy
        exact absurd rfl (h3 a ay a (List.mem_flatMap.mpr ⟨x, List.mem_of_getElem? hx, ax⟩))
      | succ j =>
        simp at hx hy
        rw [flat_inj f h2 hx hy ax ay]
section
variable {c : Cx} {P : PI} {n d : Nat} {A : Around} {env : Env} {kd : Kinds} {ρ : Vars} {G : Imm} {φ : List Loc} {σ σ' : St} {s : Shared} {v : AVal}
theorem Rel.loc_inj {i j : Nat} {l l' : Loc} {a : Addr} (R : Rel c G φ σ s) (h : φ[i]? = some l) (h' : φ[j]? = some l') (ha : a ∈ l.a :: l.ps) (ha' : a ∈ l'.a :: l'.ps) : i = j :=
  flat_inj (fun l : Loc => l.a :: l.ps) (List.nodup_append.mp R.nodup).2.1 h h' ha ha'
end
noncomputable def nmOk (x : Str) : Bool := !(x == ("__debug__" : Str) || x == ("__classdict__" : Str))
theorem nmOk_of {x : Str} (h : nmOk x = true) : (x == ("__debug__" : Str)) = false ∧ (x == ("__classdict__" : Str)) = false := by
  unfold nmOk at h
  cases q1 : (x == ("__debug__" : Str)) <;> cases q2 : (x == ("__classdict__" : Str)) <;> simp_all
section
variable {P : PI} {d : Nat} {kd : Kinds} {ρ ρ₁ ρ₂ ρ₃ ρ' : Vars} {σ σ₁ σ₂ σ₃ σ' : St} {v a b : AVal} {p : Pos}
theorem e_int {i : Int} {k} : EvE P d kd ρ (.Constant (.int i) k p) σ (.int i) σ := .intro fun H => wpAny_Constant_int (gives_toks H.r (.int _ _))
theorem e_str {s : Str} {k} : EvE P d kd ρ (.Constant (.str s) k p) σ (.str s) σ := .intro fun H => wpAny_Constant_str (gives_toks H.r (.str _ _))
theorem e_bool {s : Bool} {k} : EvE P d kd ρ (.Constant (.bool s) k p) σ (.bool s) σ := .intro fun H => wpAny_Constant_bool (gives_here H.r (.bool _))
theorem e_none {k} : EvE P d kd ρ (.Constant .none k p) σ .none σ := .intro fun H => wpAny_Constant_none (gives_here H.r .none)
theorem e_var {x : Str} (h1 : (nmOk x && Kinds.isVar kd x) = true) (h : ρ x = some v) : EvE P d kd ρ (.Name x p) σ v σ := .intro fun {c A env G φ s} H => by
  rw [Bool.and_eq_true] at h1
  obtain ⟨hx, hx'⟩ := nmOk_of h1.1
  refine wpAny_Name ?_ hx
  have hv := h1.2
  unfold Kinds.isVar at hv
  rw [H.kd] at hv
  split at hv
  · rename_i hk
    obtain ⟨m, hn, hv⟩ := H.l.ns
    obtain ⟨v', e, V⟩ := hv x v hk h
    exact wpAny_loadName_local H.l.kind hk hn e (gives_here H.r V)
  · rename_i hk
    obtain ⟨ca, v', e, hc, V⟩ := H.l.cell x v (.inl hk) h
    exact wpAny_loadName_cell H.l.kind hk e hc (gives_here H.r V)
  · rename_i hk
    obtain ⟨ca, v', e, hc, V⟩ := H.l.cell x v (.inr hk) h
    exact wpAny_loadName_free H.l.kind hk e hc (gives_here H.r V) hx'
  · (cases hv)
theorem e_glob {x : Str} (h1 : (nmOk x && (kd x == some .globalImplicit)) = true) (h : P.glob x = some v) : EvE P d kd ρ (.Name x p) σ v σ := .intro fun {c A env G φ s} H => by
  rw [Bool.and_eq_true] at h1
  obtain ⟨hx, hx'⟩ := nmOk_of h1.1
  have hk := eq_of_beq h1.2
  rw [H.kd] at hk
  refine wpAny_Name ?_ hx
  obtain ⟨v', hv, V⟩ := H.ok.glob x v h
  have hg := H.ok.ok.g.keeps H.r.keepB
  have hb := H.ok.ok.b.keeps H.r.keepB
  have hbk : env.blockKind = .function := by unfold Env.blockKind; rw [H.l.kind]; rfl
  have han : env.scope.kind.isAnnotationScope = false := by rw [H.l.kind]; rfl
  unfold loadName
  rw [han]
  simp only [Bool.false_and, Bool.false_eq_true, if_false, hbk, hk]
  unfold loadGlobal
  rw [H.l.glob, H.l.bi]
  refine wpAny_bind (wpAny_nsGet hg ?_)
  rcases hv with hv | ⟨hv, hv'⟩
  · rw [hv]; exact wpAny_pure (gives_here H.r (V _ _))
  · rw [hv]
    refine wpAny_bind (wpAny_nsGet hb ?_)
    rw [hv']; exact wpAny_pure (gives_here H.r (V _ _))
theorem e_binop {l r : Expr} {op : Operator} (h1 : EvE P d kd ρ l σ a σ₁) (h2 : EvE P d kd ρ r σ₁ b σ₂) (h3 : BinR op a b σ₂ v σ') : EvE P d kd ρ (.BinOp l op r p) σ v σ' := .intro fun H =>
  wpAny_BinOp (wpAny_mono (h1.run H) (fun a' s₁ ⟨G₁, φ₁, R₁, V₁, S₁⟩ => wpAny_mono (h2.run (H.step R₁ S₁)) (fun b' s₂ ⟨G₂, φ₂, R₂, V₂, S₂⟩ => (Gives.after (h3.run R₂ (V₁.mono S₂.g S₂.ext) V₂) (S₁.trans' S₂))) fun _ _ e => e) fun _ _ e => e)
theorem bo_add {a b : Int} : BinR .Add (.int a) (.int b) σ (.int (a + b)) σ := .intro fun R Va Vb => by (cases Va using VRel.intE); (cases Vb using VRel.intE); exact wpAny_add_int (gives_toks R (.int _ _))
theorem bo_sub {a b : Int} : BinR .Sub (.int a) (.int b) σ (.int (a - b)) σ := .intro fun R Va Vb => by (cases Va using VRel.intE); (cases Vb using VRel.intE); exact PySem.P.sub_int (gives_toks R (.int _ _))
theorem bo_mod {a b : Int} (h : b ≠ 0) : BinR .Mod (.int a) (.int b) σ (.int (a.fmod b)) σ := .intro fun R Va Vb => by (cases Va using VRel.intE); (cases Vb using VRel.intE); exact mod_int' h (gives_toks R (.int _ _))
theorem bo_list {v w : AVal} {xs ys : List AVal} (h1 : listOf? σ v = some xs) (h2 : listOf? σ w = some ys) (h : xs.length + ys.length ≤ lim) : BinR .Add v w σ (.ref σ.length) (σ ++ [.list (xs ++ ys)]) := .intro fun {c A G φ s a' b'} R Va Vb => by
  obtain ⟨la, oa, ia, na, rfl, ga, ca, da, ra⟩ := R.isList Va h1
  obtain ⟨lb, ob, ib, nb, rfl, gb, cb, db, rb⟩ := R.isList Vb h2
  obtain ⟨oac, oad, oadt, oas⟩ := oa
  obtain ⟨obc, obd, obdt, obs⟩ := ob
  dsimp only at ca da cb db
  subst ca da cb db
  have hlen : ia.length + ib.length ≤ sizeLine := lim_le (by rw [← ra.length, ← rb.length]; exact h)
  refine concat_meets ⟨_, ga, rfl⟩ ⟨_, gb, rfl⟩ noFill_list_add seq_list_add PySem.F.slot_list_add PySem.F.entry_list_add (PySem.F.args_list_add_2 _ _) (list_addW la lb ia.toArray ib.toArray na nb oad obd oas obs (by simpa using hlen)) ⟨ga, gb, ?_⟩
  rw [show ia.toArray ++ ib.toArray = (ia ++ ib).toArray by simp]
  exact R.newList (ra.append rb)
theorem GoodA.eq {d : Nat} {A : Around} (h : GoodA d A) : A.units + 64 < cLine := by have := h.units; unfold cLine; lia
theorem t_cmp {l r : Expr} {op : CmpOp} {z : Bool} (h0 : behindInMarks op r = false) (h1 : EvE P d kd ρ l σ a σ₁) (h2 : EvE P d kd ρ r σ₁ b σ₂) (h3 : CmpR op a b σ₂ z) : EvT P d kd ρ (.Compare l [op] [r] p) σ z σ₂ := .intro fun H =>
  wpAny_isTrue_Compare1 (wpAny_mono (h1.run H) (fun a' s₁ ⟨G₁, φ₁, R₁, V₁, S₁⟩ => wpAny_mono (h2.run (H.step R₁ S₁)) (fun b' s₂ ⟨G₂, φ₂, R₂, V₂, S₂⟩ => h3.run H.a R₂ (V₁.mono S₂.g S₂.ext) V₂ fun s' R' S' => wpAny_truthy_bool ⟨rfl, G₂, φ₂, R', (S₁.trans' S₂).trans' S'⟩) fun _ _ e => e) fun _ _ e => e) h0
section
variable {x y : Int} {s t : Str} {q : Bool}
theorem c_gt (h : decide (y < x) = q) : CmpR .Gt (.int x) (.int y) σ q := .intro fun _ R Va Vb k => by subst h; (cases Va using VRel.intE); (cases Vb using VRel.intE); exact PyProof.Rows.gt_int (k _ R (.refl ..))
theorem c_seq (h : (s == t) = q) : CmpR .Eq (.str s) (.str t) σ q := .intro fun _ R Va Vb k => by subst h; (cases Va using VRel.strE); (cases Vb using VRel.strE); exact PyProof.Rows.eq_str (k _ R (.refl ..))
theorem c_sne (h : (s != t) = q) : CmpR .NotEq (.str s) (.str t) σ q := .intro fun _ R Va Vb k => by subst h; (cases Va using VRel.strE); (cases Vb using VRel.strE); exact PyProof.Rows.ne_str (k _ R (.refl ..))
theorem c_nseq : CmpR .Eq .none (.str t) σ false := .intro fun _ R Va Vb k => by (cases Va using VRel.noneE); (cases Vb using VRel.strE); exact PySem.EqNone.eq_none_str (k _ R (.refl ..))
theorem c_inNN : CmpR .IsNot .none .none σ false := .intro fun _ R Va Vb k => by (cases Va using VRel.noneE); (cases Vb using VRel.noneE); exact wpAny_isNot_self rfl (k _ R (.refl ..))
end
end
end Mini
namespace Mini
open PySem PySem.W PyProof PyProof.Rows PySem.Calls
section
variable {P : PI} {d : Nat} {kd : Kinds} {ρ ρ₁ ρ₂ ρ₃ ρ' : Vars} {σ σ₁ σ₂ σ₃ σ' : St} {v a b : AVal} {p : Pos}
theorem e_ifT {t x y : Expr} (h1 : EvT P d kd ρ t σ true σ₁) (h2 : EvE P d kd ρ x σ₁ v σ') : EvE P d kd ρ (.IfExp t x y p) σ v σ' := .intro fun H =>
  wpAny_IfExp (wpAny_mono (h1.run H) (fun z' s₁ ⟨e, G₁, φ₁, R₁, S₁⟩ => by subst e; exact Gives.after (h2.run (H.step R₁ S₁)) S₁) fun _ _ e => e)
theorem e_ifF {t x y : Expr} (h1 : EvT P d kd ρ t σ false σ₁) (h2 : EvE P d kd ρ y σ₁ v σ') : EvE P d kd ρ (.IfExp t x y p) σ v σ' := .intro fun H =>
  wpAny_IfExp (wpAny_mono (h1.run H) (fun z' s₁ ⟨e, G₁, φ₁, R₁, S₁⟩ => by subst e; exact Gives.after (h2.run (H.step R₁ S₁)) S₁) fun _ _ e => e)
theorem starEach_cons {env : Env} {e : Expr} {es : List Expr} (h : notStar e = true) : starEach (e :: es) env = (false, PySem.eval e env) :: starEach es env := by
  cases e <;> first | rfl | cases h
theorem es_nil : EvEs P d kd ρ [] σ [] σ := .nil
theorem es_cons {e : Expr} {es : List Expr} {vs : List AVal} (h0 : notStar e = true) (h1 : EvE P d kd ρ e σ v σ₁) (h2 : EvEs P d kd ρ es σ₁ vs σ₂) : EvEs P d kd ρ (e :: es) σ (v :: vs) σ₂ := .cons h0 h1 h2
theorem EvEs.run {es : List Expr} {vs : List AVal} (h : EvEs P d kd ρ es σ vs σ') : ∀ {c A env G φ s} (pos : Pos), Here c P d A env kd ρ G φ σ s → GivesL c A G φ s (spliced (backTo pos (starEach es env))) vs σ' := by
  induction h with
  | nil => intro c A env G φ s pos H; exact wpAny_items_nil ⟨G, φ, H.r, .nil, .refl ..⟩
  | cons h0 h1 h2 ih =>
    intro c A env G φ s pos H
    refine wpAny_items_cons (wpAny_mono (h1.run H) (fun v' s₁ ⟨G₁, φ₁, R₁, V₁, S₁⟩ => wpAny_mono (ih pos (H.step R₁ S₁)) (fun vs'' s₂ ⟨G₂, φ₂, R₂, V₂, S₂⟩ => ?_) fun _ _ e => e) fun _ _ e => e) (starEach_cons h0)
    exact ⟨G₂, φ₂, R₂, .cons (V₁.mono S₂.g S₂.ext) V₂, S₁.trans' S₂⟩
theorem e_list {es : List Expr} {vs : List AVal} (h1 : EvEs P d kd ρ es σ vs σ₁) (h2 : vs.length ≤ lim) : EvE P d kd ρ (.List es p) σ (.ref σ₁.length) (σ₁ ++ [.list vs]) := .intro fun H => by
  refine wpAny_List_spliced (wpAny_mono (h1.run p H) (fun vs' s₁ ⟨G₁, φ₁, R₁, V₁, S₁⟩ => ⟨by rw [← V₁.length]; exact lim_le h2, ?_⟩) fun _ _ e => e)
  obtain ⟨G', φ', R', V', S'⟩ := R₁.newList V₁
  exact ⟨G', φ', R', V', S₁.trans' S'⟩
theorem e_tuple {es : List Expr} {vs : List AVal} {k} (h1 : EvEs P d kd ρ es σ vs σ₁) (h2 : vs.length ≤ lim) : EvE P d kd ρ (.Tuple es k p) σ (.tup vs) σ₁ := .intro fun H => by
  refine wpAny_Tuple_spliced (wpAny_mono (h1.run p H) (fun vs' s₁ ⟨G₁, φ₁, R₁, V₁, S₁⟩ => ⟨by rw [← V₁.length]; exact lim_le h2, ?_⟩) fun _ _ e => e)
  have S' := step_pushG (own := []) R₁ { cls := .type "tuple", data := .seq vs'.toArray }
  exact ⟨_, _, R₁.pushG _ rfl, .tup 0 (Imm.add_self ..) (V₁.mono S'.g S'.ext), S₁.trans' S'⟩
theorem subscripted_any (slice : Expr) (o i : Value) : ∃ ops, subscripted slice false o i = operate ops (getItem o i) := by
  unfold subscripted
  split
  · exact ⟨_, rfl⟩
  · rename_i h; cases h
  · exact ⟨_, rfl⟩
theorem it_list {v w : AVal} {vs : List AVal} {a : Int} (h1 : listOf? σ v = some vs) (h0 : 0 ≤ a) (h2 : vs[a.toNat]? = some w) (hl : a < 2 ^ 63) : ItemR σ v (.int a) w := .intro fun {c A G φ s a' b' x i Q E} R Va Vb q => by
  cases Vb using VRel.intE with
  | int tk =>
    obtain ⟨la, o, items, m, rfl, g, cc, dd, rr⟩ := R.isList Va h1
    obtain ⟨v', hv', V'⟩ := rr.get h2
    obtain ⟨ops, hs⟩ := subscripted_any i (.ref la) (.int a tk)
    exact tail_any (T := "list") ⟨_, g, cc⟩ slot_list_getitem.lookup (wpAny_getItem_list (items := items.toArray) ⟨_, g, cc, _, dd⟩ h0 hl (by simpa using hv') (q _ _ R (.refl ..) V')) hs
theorem it_str {sx : Str} {ch : Nat} {a : Int} (h0 : 0 ≤ a) (hl : sx.length ≤ lim) (h2 : sx.cps[a.toNat]? = some ch) (hl' : a < 2 ^ 63) : ItemR σ (.str sx) (.int a) (.str ⟨#[ch]⟩) := .intro fun {c A G φ s a' b' x i Q E} R Va Vb q => by
  cases Vb using VRel.intE with
  | int tk =>
    cases Va using VRel.strE with
    | str t =>
      obtain ⟨ops, hs⟩ := subscripted_any i (.str sx t) (.int a tk)
      have hj := (Array.getElem?_eq_some_iff.mp h2).1
      refine tail_any (T := "str") (typeIs_str _ _ _) F.slot_str_getitem.lookup (PyProof.Rows.getItem_str (c := ch) (by
        have h1 : ¬ a < -(2 ^ 63 : Int) := by lia
        have h2 : ¬ a ≥ (2 ^ 63 : Int) := by lia
        simp; lia) ?_ (q _ _ (R.toks _) (step_toks _) (.str _ _))) hs
      have : seqIndex? a sx.length = some a.toNat := by
        unfold seqIndex?
        have h1 : ¬ a < 0 := by lia
        have h2 : a < (sx.length : Int) := by
          have : sx.cps.size = sx.length := rfl
          lia
        simp [h1, h0, h2]
      rw [this]; exact h2
theorem it_slc {sx : Str} {l h : Option Int} (hz : sx.length ≤ lim) : ItemR σ (.str sx) (.slc l h) (.str (Txt.slice sx l h)) := .intro fun {c A G φ s a' b' x i Q E} R Va Vb q => by
  cases Vb with
  | @slc _ _ r o l' u' hl hu e hc hd =>
    cases Va using VRel.strE with
    | str t =>
      obtain ⟨ops, hs⟩ := subscripted_any i (.str sx t) (.ref r)
      refine tail_any (T := "str") (typeIs_str _ _ _) F.slot_str_getitem.lookup (wpAny_getItem_str_slice (l := l') (u := u') (st := none) ⟨_, R.gh _ _ e, hc, hd⟩ rfl ?_) hs
      subst hl hu
      exact post_val_or_str ⟨Nat.le_trans (Txt.slice_le sx _ _) (lim_le hz), fun t' k => q _ _ (R.toks k) (step_toks k) (.str _ _)⟩
theorem e_item {o i : Expr} (h1 : EvE P d kd ρ o σ a σ₁) (h2 : EvE P d kd ρ i σ₁ b σ₂) (h3 : ItemR σ₂ a b v) : EvE P d kd ρ (.Subscript o i p) σ v σ₂ := .intro fun H =>
  Subscript_ (wpAny_mono (h1.run H) (fun a' s₁ ⟨G₁, φ₁, R₁, V₁, S₁⟩ => wpAny_mono (h2.run (H.step R₁ S₁)) (fun b' s₂ ⟨G₂, φ₂, R₂, V₂, S₂⟩ => h3.run R₂ (V₁.mono S₂.g S₂.ext) V₂ fun v' s' R' S' V' => ⟨G₂, φ₂, R', V', (S₁.trans' S₂).trans' S'⟩) fun _ _ e => e) fun _ _ e => e)
theorem e_neg {e : Expr} {i : Int} (h1 : EvE P d kd ρ e σ (.int i) σ₁) : EvE P d kd ρ (.UnaryOp .USub e p) σ (.int (-i)) σ₁ := .intro fun H =>
  wpAny_UnaryOp (wpAny_mono (h1.run H) (fun a' s₁ ⟨G₁, φ₁, R₁, V₁, S₁⟩ => by (cases V₁ using VRel.intE); exact PyProof.Rows.neg_int ⟨G₁, φ₁, R₁.toks _, .int _ _, S₁.trans' (step_toks _)⟩) fun _ _ e => e)
inductive OptInt : AVal → Option Int → Prop
  | none : OptInt .none .none
  | int {i : Int} : OptInt (.int i) (some i)
theorem oi_int {i : Int} : OptInt (.int i) (some i) := .int
theorem oi_none : OptInt .none .none := .none
theorem OptInt.part {c : Cx} {G : Imm} {φ : List Loc} {a' : Value} {i : Option Int} (h : OptInt a i) (V : VRel c G φ a a') : ∃ l, l.map (·.1) = i ∧ a' = partValue l := by
  cases h with
  | none => (cases V using VRel.noneE); exact ⟨.none, rfl, rfl⟩
  | int => cases V using VRel.intE with
    | int t => exact ⟨some (_, t), rfl, rfl⟩
inductive OP (c : Cx) (G : Imm) (φ : List Loc) (s : Shared) (v : Option Int) (σ' : St) (v' : Value) (s' : Shared) : Prop
  | mk (G' : Imm) (φ' : List Loc) (l : Option (Int × Tok)) (R : Rel c G' φ' σ' s') (S : Step c [] G φ s G' φ' s') (e : v' = partValue l) (h : l.map (·.1) = v)
structure EvO (P : PI) (d : Nat) (kd : Kinds) (ρ : Vars) (e : Option Expr) (σ : St) (v : Option Int) (σ' : St) : Prop where
  intro ::
  run : ∀ {c A env G φ s}, Here c P d A env kd ρ G φ σ s →
  wpAny (Md c) A (evalPart e env) (OP c G φ s v σ') (fun _ _ => False) s
theorem o_none : EvO P d kd ρ .none σ .none σ := .intro fun {c A env G φ s} H => evalPart_none_step ⟨G, φ, none, H.r, .refl .., rfl, rfl⟩
theorem o_some {e : Expr} {i : Option Int} (h1 : EvE P d kd ρ e σ v σ₁) (h2 : OptInt v i) : EvO P d kd ρ (some e) σ i σ₁ := .intro fun H =>
  evalPart_some_step (wpAny_mono (h1.run H) (fun w' s₁ ⟨G₁, φ₁, R₁, V₁, S₁⟩ => by
    obtain ⟨l, hl, e⟩ := h2.part V₁
    exact ⟨G₁, φ₁, l, R₁, S₁, e, hl⟩) fun _ _ e => e)
theorem e_slice {nm : Str} {lo hi : Option Expr} {sx : Str} {l h : Option Int} {q q0 : Pos} (h1 : EvE P d kd ρ (.Name nm q0) σ (.str sx) σ₁) (h2 : EvO P d kd ρ lo σ₁ l σ₂) (h3 : EvO P d kd ρ hi σ₂ h σ₃) (h4 : sx.length ≤ lim) :
    EvE P d kd ρ (.Subscript (.Name nm q0) (.Slice lo hi .none q) p) σ (.str (Txt.slice sx l h)) σ₃ := .intro fun {c A env G φ s} H => by
  refine Subscript_Slice (wpAny_mono (h1.run H) (fun a' s₁ ⟨G₁, φ₁, R₁, V₁, S₁⟩ => ?_) fun _ _ e => e) fun _ _ => rfl
  have H₁ := H.step R₁ S₁
  show wpAny _ _ (evalPart lo env >>= _) _ _ _
  refine wpAny_bind (wpAny_mono (h2.run H₁) (fun l' s₂ ⟨G₂, φ₂, pl, R₂, S₂, el, hl⟩ => ?_) fun _ _ e => e)
  have H₂ := H₁.step R₂ S₂
  refine wpAny_bind (wpAny_holding (wpAny_mono (h3.run H₂) (fun u' s₃ ⟨G₃, φ₃, pu, R₃, S₃, eu, hu⟩ => ?_) fun _ _ e => e))
  subst el eu hl hu
  refine wpAny_bind (wpAny_holding (evalPart_none_step (env := env) ?_))
  show wpAny _ _ (newFields "slice" [partValue pl, partValue pu, .none]) _ _ _
  simp only [newFields]
  refine wpAny_newObj_type ?_ (by size_fits)
  (cases V₁ using VRel.strE)
  have SS := ((S₁.trans' S₂).trans' S₃).trans' (step_push { cls := .type "slice", data := .fields #[partValue pl, partValue pu, .none] })
  refine ⟨"str", _, F.slot_str_getitem.lookup, typeIs_str _ _ _, wpAny_getItem_str_slice (l := pl) (u := pu) (st := none) ⟨_, Heap.get?_push_size _ rfl, rfl, rfl⟩ rfl (post_val_or_str ⟨Nat.le_trans (Txt.slice_le sx _ _) (lim_le h4), fun t' k => ⟨G₃, φ₃, (R₃.push _).toks k, .str _ _, SS.trans' (step_toks k)⟩⟩)⟩
theorem t_val {e : Expr} {z : Bool} (h0 : PlainE e) (h1 : EvE P d kd ρ e σ (.bool z) σ₁) : EvT P d kd ρ e σ z σ₁ := .intro fun {c A env G φ s} H => by
  refine wpAny_isTrue_value (wpAny_mono (h1.run H) (fun w' s₁ ⟨G₁, φ₁, R₁, V₁, S₁⟩ => ?_) fun _ _ e => e) (by cases h0 <;> rfl)
  (cases V₁ using VRel.boolE)
  exact wpAny_truthy_bool ⟨rfl, G₁, φ₁, R₁, S₁⟩
theorem t_call {f : Expr} {as : List Expr} {ks : List Keyword} {z : Bool} (h1 : EvE P d kd ρ (.Call f as ks p) σ (.bool z) σ₁) : EvT P d kd ρ (.Call f as ks p) σ z σ₁ := .intro fun {c A env G φ s} H => by
  refine wpAny_isTrue_value (wpAny_mono (h1.run H) (fun w' s₁ ⟨G₁, φ₁, R₁, V₁, S₁⟩ => ?_) fun _ _ e => e)
  (cases V₁ using VRel.boolE)
  exact wpAny_truthy_bool ⟨rfl, G₁, φ₁, R₁, S₁⟩
theorem t_not {e : Expr} {z : Bool} (h1 : EvT P d kd ρ e σ z σ₁) : EvT P d kd ρ (.UnaryOp .Not e p) σ (!z) σ₁ := .intro fun H =>
  wpAny_isTrue_Not (wpAny_mono (h1.run H) (fun z' s₁ ⟨e, G₁, φ₁, R₁, S₁⟩ => ⟨by rw [e], G₁, φ₁, R₁, S₁⟩) fun _ _ e => e)
theorem ts_nil {op : BoolOp} : EvTs P d kd ρ op [] σ (op == .And) σ := .nil
theorem ts_andF {e : Expr} {es : List Expr} (h1 : EvT P d kd ρ e σ false σ₁) : EvTs P d kd ρ .And (e :: es) σ false σ₁ := .andF h1
theorem ts_andT {e : Expr} {es : List Expr} {z : Bool} (h1 : EvT P d kd ρ e σ true σ₁) (h2 : EvTs P d kd ρ .And es σ₁ z σ₂) : EvTs P d kd ρ .And (e :: es) σ z σ₂ := .andT h1 h2
theorem ts_orT {e : Expr} {es : List Expr} (h1 : EvT P d kd ρ e σ true σ₁) : EvTs P d kd ρ .Or (e :: es) σ true σ₁ := .orT h1
theorem ts_orF {e : Expr} {es : List Expr} {z : Bool} (h1 : EvT P d kd ρ e σ false σ₁) (h2 : EvTs P d kd ρ .Or es σ₁ z σ₂) : EvTs P d kd ρ .Or (e :: es) σ z σ₂ := .orF h1 h2
theorem and_last {e : Expr} {z : Bool} (h1 : EvT P d kd ρ e σ z σ₁) : EvTs P d kd ρ .And [e] σ z σ₁ := by
  cases z with
  | true => exact ts_andT h1 ts_nil
  | false => exact ts_andF h1
theorem or_last {e : Expr} {z : Bool} (h1 : EvT P d kd ρ e σ z σ₁) : EvTs P d kd ρ .Or [e] σ z σ₁ := by
  cases z with
  | true => exact ts_orT h1
  | false => exact ts_orF h1 ts_nil
theorem EvTs.run {op : BoolOp} {es : List Expr} {z : Bool} (h : EvTs P d kd ρ op es σ z σ') : ∀ {c A env G φ s}, Here c P d A env kd ρ G φ σ s → GivesB c A G φ s (allTrue op es env) z σ' := by
  induction h with
  | @nil op σ =>
    intro c A env G φ s H
    cases op with
    | And => exact wpAny_allTrue_And_nil ⟨rfl, G, φ, H.r, .refl ..⟩
    | Or => exact wpAny_allTrue_Or_nil ⟨rfl, G, φ, H.r, .refl ..⟩
  | andF h1 =>
    intro c A env G φ s H
    refine wpAny_allTrue_And_cons (wpAny_mono (h1.run H) (fun z' s₁ ⟨e, G₁, φ₁, R₁, S₁⟩ => ?_) fun _ _ e => e)
    subst e
    exact ⟨rfl, G₁, φ₁, R₁, S₁⟩
  | andT h1 h2 ih =>
    intro c A env G φ s H
    refine wpAny_allTrue_And_cons (wpAny_mono (h1.run H) (fun z' s₁ ⟨e, G₁, φ₁, R₁, S₁⟩ => ?_) fun _ _ e => e)
    subst e
    exact GivesB.after (ih (H.step R₁ S₁)) S₁
  | orT h1 =>
    intro c A env G φ s H
    refine wpAny_allTrue_Or_cons (wpAny_mono (h1.run H) (fun z' s₁ ⟨e, G₁, φ₁, R₁, S₁⟩ => ?_) fun _ _ e => e)
    subst e
    exact ⟨rfl, G₁, φ₁, R₁, S₁⟩
  | orF h1 h2 ih =>
    intro c A env G φ s H
    refine wpAny_allTrue_Or_cons (wpAny_mono (h1.run H) (fun z' s₁ ⟨e, G₁, φ₁, R₁, S₁⟩ => ?_) fun _ _ e => e)
    subst e
    exact GivesB.after (ih (H.step R₁ S₁)) S₁
theorem t_bool {op : BoolOp} {es : List Expr} {z : Bool} (h1 : EvTs P d kd ρ op es σ z σ₁) : EvT P d kd ρ (.BoolOp op es p) σ z σ₁ := .intro fun H => wpAny_isTrue_BoolOp (h1.run H)
end
structure FrOk (env : Env) (h : Heap) : Prop where
  ex : ∀ x, env.kindOf x = some .cell → ∃ a v₀, env.cells.lookup x = some a ∧ h.IsCell a v₀
  apart : ∀ x y a, env.kindOf x = some .cell → env.cells.lookup x = some a → env.cells.lookup y = some a → y = x
  nl : ∀ n a, (n, a) ∈ env.cells → a ≠ env.locals
theorem FrOk.keeps {env : Env} {h h' : Heap} (F : FrOk env h) (k : ∀ a o, a ∈ owns env → h.get? a = some o → h'.get? a = some o) : FrOk env h' :=
  ⟨fun x hx => let ⟨a, v, e, o, ho, hd⟩ := F.ex x hx; ⟨a, v, e, o, k a o (mem_owns (.inr ⟨x, e⟩)) ho, hd⟩, F.apart, F.nl⟩
theorem FrOk.step {c : Cx} {G G' : Imm} {φ φ' : List Loc} {env : Env} {s s' : Shared} (F : FrOk env s.heap) (O : Owns c G φ env s) (S : Step c [] G φ s G' φ' s') : FrOk env s'.heap :=
  F.keeps fun a o ha e => S.frame a o (O.away ha).1 (fun h => nomatch h) e
inductive FRel (c : Cx) (G : Imm) (φ : List Loc) : Flw → Flow → Prop
  | next : FRel c G φ .next .next
  | brk : FRel c G φ .brk .brk
  | cont : FRel c G φ .cont .cont
  | ret {v : AVal} {v' : Value} (h : VRel c G φ v v') : FRel c G φ (.ret v) (.ret v')
inductive After (c : Cx) (env : Env) (G : Imm) (φ : List Loc) (s : Shared) (ρ' : Vars) (σ' : St) (s' : Shared) (K : Imm → List Loc → Prop) : Prop
  | mk (G' : Imm) (φ' : List Loc) (R : Rel c G' φ' σ' s') (L : LocRel c G' φ' env ρ' s'.heap) (F : FrOk env s'.heap) (S : Step c (owns env) G φ s G' φ' s') (k : K G' φ')
theorem After.after {c : Cx} {env : Env} {G G₁ : Imm} {φ φ₁ : List Loc} {s s₁ : Shared} {ρ' : Vars} {σ' : St} {s' : Shared} {K : Imm → List Loc → Prop}
    (h : After c env G₁ φ₁ s₁ ρ' σ' s' K) (S : Step c (owns env) G φ s G₁ φ₁ s₁) : After c env G φ s ρ' σ' s' K :=
  let ⟨G', φ', R, L, F, S', k⟩ := h; ⟨G', φ', R, L, F, S.trans' S', k⟩
noncomputable def Does (c : Cx) (A : Around) (env : Env) (G : Imm) (φ : List Loc) (s : Shared) (t : Sem Flow) (f : Flw) (ρ' : Vars) (σ' : St) : Prop :=
  wpAny (Md c) A t (fun f' s' => After c env G φ s ρ' σ' s' fun G' φ' => FRel c G' φ' f f') (fun _ _ => False) s
noncomputable def DoesU (c : Cx) (A : Around) (env : Env) (G : Imm) (φ : List Loc) (s : Shared) (t : Sem Unit) (ρ' : Vars) (σ' : St) : Prop :=
  wpAny (Md c) A t (fun _ s' => After c env G φ s ρ' σ' s' fun _ _ => True) (fun _ _ => False) s
theorem Does.after {c : Cx} {A : Around} {env : Env} {G G₁ : Imm} {φ φ₁ : List Loc} {s s₁ : Shared} {t : Sem Flow} {f : Flw} {ρ' : Vars} {σ' : St} (h : Does c A env G₁ φ₁ s₁ t f ρ' σ') (S : Step c (owns env) G φ s G₁ φ₁ s₁) :
    wpAny (Md c) A t (fun f' s' => After c env G φ s ρ' σ' s' fun G' φ' => FRel c G' φ' f f') (fun _ _ => False) s₁ :=
  wpAny_mono h (fun _ _ q => After.after q S) fun _ _ e => e
theorem DoesU.after {c : Cx} {A : Around} {env : Env} {G G₁ : Imm} {φ φ₁ : List Loc} {s s₁ : Shared} {t : Sem Unit} {ρ' : Vars} {σ' : St} (h : DoesU c A env G₁ φ₁ s₁ t ρ' σ') (S : Step c (owns env) G φ s G₁ φ₁ s₁) :
    wpAny (Md c) A t (fun _ s' => After c env G φ s ρ' σ' s' fun _ _ => True) (fun _ _ => False) s₁ :=
  wpAny_mono h (fun _ _ q => After.after q S) fun _ _ e => e
structure HereX (c : Cx) (P : PI) (d : Nat) (A : Around) (env : Env) (kd : Kinds) (ρ : Vars) (G : Imm) (φ : List Loc) (σ : St) (s : Shared) : Prop extends Here c P d A env kd ρ G φ σ s where
  f : FrOk env s.heap
theorem HereX.step {c : Cx} {P : PI} {d : Nat} {A : Around} {env : Env} {kd : Kinds} {ρ : Vars} {G G' : Imm} {φ φ' : List Loc} {σ σ' : St} {s s' : Shared} (H : HereX c P d A env kd ρ G φ σ s)
    (R : Rel c G' φ' σ' s') (S : Step c [] G φ s G' φ' s') : HereX c P d A env kd ρ G' φ' σ' s' := ⟨H.toHere.step R S, H.f.step H.o S⟩
theorem HereX.then {c : Cx} {P : PI} {d : Nat} {A : Around} {env : Env} {kd : Kinds} {ρ ρ' : Vars} {G G' : Imm} {φ φ' : List Loc} {σ σ' : St} {s s' : Shared} (H : HereX c P d A env kd ρ G φ σ s)
    (R : Rel c G' φ' σ' s') (L : LocRel c G' φ' env ρ' s'.heap) (F : FrOk env s'.heap) (S : Step c (owns env) G φ s G' φ' s') : HereX c P d A env kd ρ' G' φ' σ' s' :=
  ⟨⟨H.ok, H.a, H.kd, R, L, H.o.step S⟩, F⟩
section
variable {c : Cx} {P : PI} {n d : Nat} {A : Around} {env : Env} {kd : Kinds} {ρ ρ' : Vars} {G : Imm} {φ : List Loc} {σ σ' : St} {s : Shared} {v : AVal}
theorem step_own {own : List Addr} {a : Addr} (ha : a ∈ own) {h' : Heap} {tk : Nat} (hs : Heap.SameBut a s.heap h') (hl : (h'.get? a).isSome) : Step c own G φ s G φ { s with heap := h', toks := tk } where
  g := fun _ _ e => e
  ext := .refl _
  foot := fun _ h => .inl h
  dom := fun _ _ e => .inl e
  frame := fun b o _ hb e => (hs.2 b (fun q => hb (q ▸ ha))).trans e
  keep := fun b h => by
    by_cases q : b = a
    · subst q; exact hl
    · show (h'.get? b).isSome; rw [hs.2 b q]; exact h
  os := rfl
  gsz := Nat.le_refl _
  gfr := fun _ _ _ => rfl
  gft := fun _ h => .inl h
theorem rel_own {a : Addr} (R : Rel c G φ σ s) (h1 : a ∉ foot c φ) (h2 : G a = none) {h' : Heap} {tk : Nat} (hs : Heap.SameBut a s.heap h') : Rel c G φ σ { s with heap := h', toks := tk } :=
  R.same fun b o hb e => (hs.2 b (fun q => by
    subst q
    rcases hb with hb | hb
    · exact h1 hb
    · rw [h2] at hb; cases hb)).trans e
theorem sim_store {B : Around} {x : Str} {v' : Value} (hk : kd x = some .local ∨ (kd x = some .cell ∧ P.frz x = false)) (H : HereX c P d A env kd ρ G φ σ s) (V : VRel c G φ v v') : DoesU c B env G φ s (storeName env x v') (Vars.set ρ x v) σ := by
  rw [H.kd] at hk
  rcases hk with hk | ⟨hk, hz⟩
  · obtain ⟨m, hn, hv⟩ := H.l.ns
    refine wpAny_storeName_local hk hn (fun h' hn' hs => ?_) (by rw [H.l.kind]; rfl)
    have hl : (h'.get? env.locals).isSome := by obtain ⟨o, _, _, e, _⟩ := hn'; rw [e]; rfl
    refine ⟨G, φ, rel_own H.r (H.o.loc _ (.head _)).1 (H.o.loc _ (.head _)).2.1 hs, ⟨H.l.kind, H.l.glob, H.l.bi, ⟨_, hn', fun y w h1 h2 => ?_⟩, fun y w h1 h2 => ?_⟩, ?_, step_own (.head _) hs hl, trivial⟩
    · unfold Vars.set at h2
      split at h2
      · rename_i q; subst q; (cases h2); exact ⟨v', by simp, V⟩
      · rename_i q
        obtain ⟨w', e, r⟩ := hv y w h1 h2
        exact ⟨w', by simp [q, e], r⟩
    · unfold Vars.set at h2
      split at h2
      · rename_i q; subst q; rw [hk] at h1; rcases h1 with h1 | h1 <;> (cases h1)
      · obtain ⟨a, w', e, hc, r⟩ := H.l.cell y w h1 h2
        exact ⟨a, w', e, hc.sameBut hs (H.f.nl _ _ (mem_of_lookup e)), r⟩
    · refine ⟨fun y hy => ?_, H.f.apart, H.f.nl⟩
      obtain ⟨a, v₀, e, hc⟩ := H.f.ex y hy
      exact ⟨a, v₀, e, hc.sameBut hs (H.f.nl _ _ (mem_of_lookup e))⟩
  · obtain ⟨a, v₀, e, hc⟩ := H.f.ex x hk
    refine wpAny_storeName_cell H.l.kind hk e hc fun h' hc' hs => ?_
    have hl : (h'.get? a).isSome := by obtain ⟨o, e, _⟩ := hc'; rw [e]; rfl
    have ha : a ∈ owns env := mem_owns (.inr ⟨x, e⟩)
    have hne := H.f.nl _ _ (mem_of_lookup e)
    refine ⟨G, φ, rel_own H.r (H.o.cel x a e).1 (by have := (H.o.cel x a e).2.2 hk; rw [H.ok.frz, hz, if_neg (by decide)] at this; exact this) hs, ⟨H.l.kind, H.l.glob, H.l.bi, ?_, fun y w h1 h2 => ?_⟩, ?_, step_own (tk := s.toks) ha hs hl, trivial⟩
    · obtain ⟨m, ⟨o, es, ep, ho, hr⟩, hv⟩ := H.l.ns
      refine ⟨m, ⟨o, es, ep, (hs.2 _ (Ne.symm hne)).trans ho, hr⟩, fun y w h1 h2 => ?_⟩
      unfold Vars.set at h2
      split at h2
      · rename_i q; subst q; rw [hk] at h1; (cases h1)
      · exact hv y w h1 h2
    · unfold Vars.set at h2
      split at h2
      · rename_i q; subst q; (cases h2); exact ⟨a, v', e, hc', V⟩
      · rename_i q
        obtain ⟨a₂, w', e₂, hc₂, r⟩ := H.l.cell y w h1 h2
        refine ⟨a₂, w', e₂, hc₂.sameBut hs (fun z => q ?_), r⟩
        subst z
        exact H.f.apart x y _ hk e e₂
    · refine ⟨fun y hy => ?_, H.f.apart, H.f.nl⟩
      by_cases q : y = x
      · subst q; exact ⟨a, _, e, hc'⟩
      · obtain ⟨a₂, v₂, e₂, hc₂⟩ := H.f.ex y hy
        refine ⟨a₂, v₂, e₂, hc₂.sameBut hs fun z => q ?_⟩
        subst z
        exact H.f.apart x y _ hk e e₂
end
section
variable {c : Cx} {P : PI} {n d : Nat} {A : Around} {env : Env} {kd : Kinds} {ρ ρ' : Vars} {G : Imm} {φ : List Loc} {σ σ' : St} {s s' : Shared} {v : AVal}
theorem filter_inj {α β : Type} {f : α → Option β} : ∀ {l : List α} {i j : Nat} {x y : α} {b : β}, (l.filterMap f).Nodup → l[i]? = some x → l[j]? = some y → f x = some b → f y = some b → i = j
  | [], _, _, _, _, _, _, h, _, _, _ => by simp at h
  | z :: r, i, j, x, y, b, hd, hx, hy, bx, by_ => by
    have tail : (r.filterMap f).Nodup := by
      rw [List.filterMap_cons] at hd
      split at hd
      · exact hd
      · exact (List.nodup_cons.mp hd).2
    have head : ∀ {k : Nat} {w : α}, f z = some b → r[k]? = some w → f w = some b → False := fun h1 h2 h3 => by
      rw [List.filterMap_cons, h1] at hd
      exact (List.nodup_cons.mp hd).1 (List.mem_filterMap.mpr ⟨_, List.mem_of_getElem? h2, h3⟩)
    cases i with
    | zero =>
      cases j with
      | zero => rfl
      | succ j => simp at hx hy; subst hx; exact (head bx hy by_).elim
    | succ i =>
      cases j with
      | zero => simp at hx hy; subst hy; exact (head by_ hx bx).elim
      | succ j => simp at hx hy; rw [filter_inj tail hx hy bx by_]
theorem Rel.g_inj {i j : Nat} {l l' : Loc} {g : Nat} (R : Rel c G φ σ s) (h : φ[i]? = some l) (h' : φ[j]? = some l') (hg : l.g = some g) (hg' : l'.g = some g) : i = j := filter_inj R.gn h h' hg hg'
theorem Rel.tab_away {i : Nat} {l : Loc} (R : Rel c G φ σ s) (h : φ[i]? = some l) {q : Addr × Addr} (hq : q ∈ c.tabs) : q.2 ∉ l.a :: l.ps := fun ha =>
  absurd rfl ((List.nodup_append.mp R.nodup).2.2 q.2 (List.mem_map_of_mem hq) q.2 (List.mem_flatMap.mpr ⟨l, List.mem_of_getElem? h, ha⟩))
theorem Rel.set {i : Nat} {l : Loc} {o' : AObj} (R : Rel c G φ σ s) (hl : φ[i]? = some l) (k : ∀ b x, b ∉ l.a :: l.ps → (b ∈ foot c φ ∨ (G b).isSome) → s.heap.get? b = some x → s'.heap.get? b = some x)
    (lv : ∀ a ∈ l.a :: l.ps, (s'.heap.get? a).isSome) (ho : ORel c G φ l o' s') (hb : (∀ x ∈ s.gens, x.bare = true) → ∀ x ∈ s'.gens, x.bare = true := by exact fun h => h) (hg : ∀ k, l.g ≠ some k → s'.gens[k]? = s.gens[k]? := by exact fun _ _ => rfl) : Rel c G φ (σ.set i o') s' where
  gB := R.gB
  gh := fun a x e => k a x (fun h => by have := R.gf a (mem_foot hl h); rw [e] at this; cases this) (.inr (by rw [e]; rfl)) (R.gh a x e)
  gf := R.gf
  len := by rw [List.length_set]; exact R.len
  nodup := R.nodup
  live := fun a ha => by
    by_cases q : a ∈ l.a :: l.ps
    · exact lv a q
    · obtain ⟨x, hx⟩ := Option.isSome_iff_exists.mp (R.live a ha)
      rw [k a x q (.inl ha) hx]; rfl
  obj := fun j l' o h1 h2 => by
    by_cases q : i = j
    · subst q
      rw [hl] at h1; (cases h1)
      have hlt := (List.getElem?_eq_some_iff.mp hl).1
      rw [R.len] at hlt
      rw [List.getElem?_set_self hlt] at h2
      (cases h2); exact ho
    · rw [List.getElem?_set_ne q] at h2
      exact (R.obj j l' o h1 h2).frame (fun _ _ e => e) (.refl _) (fun a x ha e => k a x (fun h => q (R.loc_inj hl h1 h ha)) (.inl (mem_foot h1 ha)) e) fun g hgl => hg g fun z => q (R.g_inj hl h1 z hgl)
  gn := R.gn
  bare := hb R.bare
  tab := fun q hq => (R.tab q hq).mono (fun _ _ e => e) fun o e => k _ o (R.tab_away hl hq) (.inl (mem_tab hq)) e
theorem step_set {own : List Addr} {i : Nat} {l : Loc} (hl : φ[i]? = some l) (k : ∀ b x, b ∉ l.a :: l.ps → b ∉ own → s.heap.get? b = some x → s'.heap.get? b = some x) (lv : ∀ b, (s.heap.get? b).isSome → (s'.heap.get? b).isSome) (os : s'.os = s.os) (hz : s.gens.size ≤ s'.gens.size := by exact Nat.le_refl _) (hg : ∀ k, k ∉ gfoot φ → k < s.gens.size → s'.gens[k]? = s.gens[k]? := by exact fun _ _ _ => rfl) :
    Step c own G φ s G φ s' where
  g := fun _ _ e => e
  ext := .refl _
  foot := fun _ h => .inl h
  dom := fun _ _ e => .inl e
  frame := fun b o h1 h2 e => k b o (fun h => h1 (mem_foot hl h)) h2 e
  keep := lv
  os := os
  gsz := hz
  gfr := hg
  gft := fun _ h => .inl h
theorem handed {v : AVal} {v' : Value} (V : VRel c G φ v v') (h : notBi v = true) : handedIn v' = true := by
  cases V <;> first | rfl | cases h
theorem Rel.instAt {i : Nat} {l : Loc} {ats : List (Str × AVal)} (R : Rel c G φ σ s) (hl : φ[i]? = some l) (ho : σ[i]? = some (.inst ats)) :
    ∃ d es n, l.ps = [d] ∧ InstAt s.heap l.a (instObj c.C d) c.C (some (dictOf es n)) ∧ s.heap.get? d = some (dictOf es n) ∧ es.length = ats.length ∧
      ∀ x, match ats.lookup x with
        | some v => ∃ v', getL x es = some (some v') ∧ handedIn v' = true ∧ VRel c G φ v v'
        | .none => getL x es = some .none := by
  obtain ⟨_, d, es, n, h2, h3, h4, h5, h6⟩ := R.obj i l _ hl ho
  exact ⟨d, es, n, h2, ⟨h3, rfl, rfl, h4⟩, h4, h5, h6⟩
theorem e_attr {o : Expr} {x : Str} {a : AVal} {ats : List (Str × AVal)} {σ₁ : St} {p : Pos} (h0 : PlainE o) (h0' : P.attrOk x = true) (h1 : EvE P d kd ρ o σ a σ₁) (h2 : instOf? σ₁ a = some ats) (h3 : ats.lookup x = some v) : EvE P d kd ρ (.Attribute o x p) σ v σ₁ := .intro fun {c A env G φ s} H => by
  refine Attribute_any_ (wpAny_mono (h1.run H) (fun a' s₁ ⟨G₁, φ₁, R₁, V₁, S₁⟩ => ?_) fun _ _ e => e) (by
    cases h0 <;> with_unfolding_all rfl)
  cases a with
  | ref i =>
    unfold instOf? at h2
    simp only at h2
    split at h2
    · rename_i q
      (cases h2)
      cases V₁ using VRel.refE with
      | ref hl =>
        obtain ⟨d, es, n, _, I, _, _, h6⟩ := R₁.instAt hl q
        have h7 := h6 x
        rw [h3] at h7
        obtain ⟨v', e1, e2, e3⟩ := h7
        obtain ⟨_, at_, ha, hn⟩ := H.ok.attr x h0'
        exact get_value (H.ok.ok.x.keeps R₁.keepB) I H.ok.ga (findObj_own H.ok.hd ha hn (by rw [lookIn_dict]; exact e1)) e2 ⟨G₁, φ₁, R₁.toks _, e3, S₁.trans' (step_toks _)⟩
    · (cases h2)
  | _ => (cases h2)
end
end Mini
namespace Mini
open PySem PySem.W PyProof PyProof.Rows PySem.Calls
noncomputable def objsBut (h : Heap) (L d : Addr) : List (Addr × Obj) := (List.range h.objs.size).filterMap fun a => if a = L ∨ a = d then none else (h.get? a).map fun o => (a, o)
theorem mem_objsBut {h : Heap} {L d a : Addr} {o : Obj} : (a, o) ∈ objsBut h L d ↔ a ≠ L ∧ a ≠ d ∧ h.get? a = some o := by
  unfold objsBut
  rw [List.mem_filterMap]
  constructor
  · rintro ⟨b, _, e⟩
    split at e
    · cases e
    · rename_i hb
      obtain ⟨x, hx, e⟩ := Option.map_eq_some_iff.mp e
      cases e
      exact ⟨fun q => hb (.inl q), fun q => hb (.inr q), hx⟩
  · rintro ⟨h1, h2, h3⟩
    exact ⟨a, List.mem_range.mpr (Heap.lt_size h3), by rw [if_neg (by rintro (q | q); exact h1 q; exact h2 q), h3]; rfl⟩
theorem empty_get (b : Addr) : ({} : Heap).get? b = none := by
  cases q : ({} : Heap).get? b with
  | none => rfl
  | some o => exact absurd (Heap.lt_size q) (Nat.not_lt_zero _)
theorem fr_empty {h : Heap} {L : Addr} {m : Str → Option Value} (hn : h.Ns L m) : Fr {} L h m := ⟨hn, (fun b o e => by rw [empty_get] at e; cases e), Nat.zero_le _⟩
theorem news_all {h : Heap} {L d : Addr} {o : Obj} (hd : h.get? d = some o) (hne : d ≠ L) : News {} L h ([] ++ (d, o) :: objsBut h L d) := fun p hp => by
  rcases List.mem_cons.mp hp with rfl | hp
  · exact ⟨hd, hne, empty_get _⟩
  · obtain ⟨h1, _, h3⟩ := mem_objsBut.mp (show (p.1, p.2) ∈ _ from hp)
    exact ⟨h3, h1, empty_get _⟩
theorem nat_le_sum {x : Nat} : ∀ {l : List Nat}, x ∈ l → x ≤ l.sum
  | y :: r, h => by
    rw [List.sum_cons]
    rcases List.mem_cons.mp h with rfl | h
    · lia
    · have := nat_le_sum h; lia
theorem getL_put (name : Str) (hsh : Int) (v : Value) (tk : Tok) : ∀ (es : List DictEntry) (y : Str), (∀ z, (getL z es).isSome = true) →
    getL y (putL name hsh (.str name tk) v es) = if y = name then some (some v) else getL y es := by
  intro es
  induction es with
  | nil =>
    intro y _
    unfold putL getL
    by_cases q : y = name
    · subst q; simp [Value.isStr]
    · have : (name == y) = false := beq_eq_false_iff_ne.mpr (Ne.symm q)
      simp [Value.isStr, q, this, DictEntry.refKey]
  | cons e r ih =>
    intro y hz
    have nr : (e :: r).any (·.refKey) = false := by
      cases q : (e :: r).any (·.refKey) with
      | false => rfl
      | true =>
        exfalso
        -- a name that no key bears
        have key : ∀ (l : List DictEntry), ∃ z : Str, ∀ x ∈ l, x.key.isStr z = false := by
          intro l
          refine ⟨⟨((l.map fun x => match x.key with | .str u _ => u.cps.toList.sum + 1 | _ => 0).sum + 1) :: [] |>.toArray⟩, fun x hx => ?_⟩
          cases hk : x.key with
          | str u t =>
            show (u == _) = false
            refine beq_eq_false_iff_ne.mpr fun q => ?_
            have h1 : u.cps.toList.sum + 1 ≤ (l.map fun x => match x.key with | .str u _ => u.cps.toList.sum + 1 | _ => 0).sum := by
              have : u.cps.toList.sum + 1 ∈ l.map fun x => match x.key with | .str u _ => u.cps.toList.sum + 1 | _ => 0 := List.mem_map.mpr ⟨x, hx, by rw [hk]⟩
              exact nat_le_sum this
            rw [q] at h1
            simp at h1
            lia
          | _ => rfl
        obtain ⟨z, hzz⟩ := key (e :: r)
        have h1 := hz z
        unfold getL at h1
        rw [show (e :: r).find? (fun x => x.key.isStr z) = none from List.find?_eq_none.mpr fun x hx => by rw [hzz x hx]; simp, q] at h1
        simp at h1
    have hr : ∀ z, (getL z r).isSome = true := fun z => by
      unfold getL
      split
      · rfl
      · have : r.any (·.refKey) = false := by
          rw [List.any_cons, Bool.or_eq_false_iff] at nr
          exact nr.2
        rw [this]; rfl
    have hcons : ∀ (w : DictEntry) (l : List DictEntry), w.refKey = false → getL y (w :: l) = if w.key.isStr y = true then some (some w.val) else getL y l := by
      intro w l hw
      unfold getL
      rw [List.find?_cons]
      cases q : w.key.isStr y with
      | true => simp
      | false => simp [List.any_cons, hw]
    have ne : e.refKey = false := by rw [List.any_cons, Bool.or_eq_false_iff] at nr; exact nr.1
    unfold putL
    split
    · rename_i hk
      have ne' : (DictEntry.mk e.hash e.key v).refKey = false := ne
      rw [hcons _ _ ne', hcons _ _ ne]
      have eqk : e.key.isStr y = true ↔ y = name := by
        cases hkey : e.key with
        | str u t =>
          rw [hkey] at hk
          have e1 : u = name := eq_of_beq hk
          subst e1
          show (u == y) = true ↔ _
          rw [beq_iff_eq]
          exact ⟨fun q => q.symm, fun q => q.symm⟩
        | _ => rw [hkey] at hk; cases hk
      by_cases q : y = name
      · rw [if_pos (eqk.mpr q), if_pos q]
      · rw [if_neg (fun z => q (eqk.mp z)), if_neg q, if_neg (fun z => q (eqk.mp z))]
    · rename_i hk
      rw [hcons _ _ ne, hcons _ _ ne, ih y hr]
      by_cases q : e.key.isStr y = true
      · rw [if_pos q, if_pos q]
        have : y ≠ name := fun z => hk (by rw [← z]; exact q)
        rw [if_neg this]
      · rw [if_neg q, if_neg q]
theorem putL_length (name : Str) (hsh : Int) (k v : Value) : ∀ es : List DictEntry, (putL name hsh k v es).length = if es.any (·.key.isStr name) then es.length else es.length + 1
  | [] => rfl
  | e :: r => by
    unfold putL
    split
    · rename_i h; simp [h]
    · rename_i h
      rw [List.length_cons, putL_length name hsh k v r]
      simp only [List.any_cons, h, Bool.false_or]
      split <;> simp
theorem lookup_putAt (x : Str) (v : AVal) : ∀ (l : List (Str × AVal)) (y : Str), (putAt x v l).lookup y = if y = x then some v else l.lookup y
  | [], y => by
    unfold putAt
    rw [List.lookup_cons]
    by_cases q : y = x
    · simp [q]
    · simp [q, beq_eq_false_iff_ne.mpr q]
  | (z, w) :: r, y => by
    unfold putAt
    split
    · rename_i h
      subst h
      rw [List.lookup_cons, List.lookup_cons]
      by_cases q : y = z
      · simp [q]
      · simp [q, beq_eq_false_iff_ne.mpr q]
    · rename_i h
      rw [List.lookup_cons, List.lookup_cons, lookup_putAt x v r y]
      by_cases q : y = z
      · subst q; simp [h]
      · simp [beq_eq_false_iff_ne.mpr q]
theorem length_putAt (x : Str) (v : AVal) : ∀ (l : List (Str × AVal)), (putAt x v l).length = if (l.lookup x).isSome then l.length else l.length + 1
  | [] => rfl
  | (z, w) :: r => by
    unfold putAt
    rw [List.lookup_cons]
    split
    · rename_i h; subst h; simp
    · rename_i h
      rw [beq_eq_false_iff_ne.mpr (Ne.symm h)]
      simp only [List.length_cons, length_putAt x v r]
      split <;> simp
theorem getL_any {x : Str} {es : List DictEntry} : (∃ v, getL x es = some (some v)) ↔ es.any (·.key.isStr x) = true := by
  unfold getL
  constructor
  · rintro ⟨v, h⟩
    split at h
    · rename_i e he
      exact List.any_eq_true.mpr ⟨e, List.mem_of_find?_eq_some he, by simpa using List.find?_some he⟩
    · split at h <;> cases h
  · intro h
    obtain ⟨e, he, hk⟩ := List.any_eq_true.mp h
    cases q : es.find? (·.key.isStr x) with
    | none => exact absurd hk (by simpa using List.find?_eq_none.mp q e he)
    | some e' => exact ⟨e'.val, rfl⟩
theorem flat_nodup {α β : Type} (f : α → List β) {x : α} : ∀ {l : List α}, (l.flatMap f).Nodup → x ∈ l → (f x).Nodup
  | z :: r, h, hx => by
    rw [List.flatMap_cons] at h
    obtain ⟨h1, h2, _⟩ := List.nodup_append.mp h
    rcases List.mem_cons.mp hx with rfl | hx
    · exact h1
    · exact flat_nodup f h2 hx
section
variable {c : Cx} {P : PI} {n d : Nat} {A : Around} {env : Env} {kd : Kinds} {ρ ρ' : Vars} {G : Imm} {φ : List Loc} {σ σ' : St} {s s' : Shared} {v : AVal}
theorem set_attr {L : Addr} {m : Str → Option Value} {i : Nat} {l : Loc} {ats : List (Str × AVal)} {x : Str} {v' : Value} {Q : Unit → Shared → Prop} {E : Value → Shared → Prop} (ok : COk c P) (R : Rel c G φ σ s) (hl : φ[i]? = some l) (ho : σ[i]? = some (.inst ats))
    (hn : s.heap.Ns L m) (hL : L ∉ foot c φ) (hG : G L = none) (hx : P.attrOk x = true) (hb : notBi v = true) (hz : ats.length ≤ 10) (V : VRel c G φ v v')
    (q : ∀ h' tk, Rel c G φ (σ.set i (.inst (putAt x v ats))) { s with heap := h', toks := tk } → h'.Ns L m → (∀ b o, b ≠ L → b ∉ l.a :: l.ps → s.heap.get? b = some o → h'.get? b = some o) → (∀ b, (s.heap.get? b).isSome → (h'.get? b).isSome) → Q () { s with heap := h', toks := tk }) :
    wpAny (Md c) A (setAttr (.ref l.a) x v') Q E s := by
  obtain ⟨dd, es, nn, hps, I, hd, hlen, hall⟩ := R.instAt hl ho
  have hne : dd ≠ L := fun z => hL (mem_foot hl (by rw [hps, ← z]; exact .tail _ (.head _)))
  obtain ⟨ht, _⟩ := ok.attr x hx
  have hsome : ∀ z, (getL z es).isSome = true := fun z => by
    have h1 := hall z
    cases q : ats.lookup z with
    | none => rw [q] at h1; rw [h1]; rfl
    | some w => rw [q] at h1; obtain ⟨w', e, _⟩ := h1; rw [e]; rfl
  have X := ok.ok.x.keeps R.keepB
  refine set_plain X I ok.sa (osa_dict (s := { s with toks := s.toks + 1 }) (fr_empty hn) (news_all hd hne) X I rfl ok.po ht ok.hd (by rw [lookIn_dict]; exact hsome x) (fun p hp => nomatch hp) (fun p hp => (mem_objsBut.mp (show (p.1, p.2) ∈ _ from hp)).2.1)
    (by rw [putName_dict]) rfl ?_ fun h' F' N' => ?_)
  · rw [putL_length]
    split <;> lia
  · have hd' := (N' (dd, _) (.head _)).1
    have keep : ∀ b o, b ≠ L → b ≠ dd → s.heap.get? b = some o → h'.get? b = some o := fun b o h1 h2 e => (N' (b, o) (.tail _ (mem_objsBut.mpr ⟨h1, h2, e⟩))).1
    have hns := F'.ns
    have hlive : ∀ b, (s.heap.get? b).isSome → (h'.get? b).isSome := fun b hb => by
      obtain ⟨o, ho⟩ := Option.isSome_iff_exists.mp hb
      by_cases q1 : b = L
      · subst q1; obtain ⟨oL, _, _, e, _⟩ := hns; rw [e]; rfl
      · by_cases q2 : b = dd
        · subst q2; rw [hd']; rfl
        · rw [keep b o q1 q2 ho]; rfl
    have hla : l.a ≠ dd := fun z => by
      have h2 : (l.a :: l.ps).Nodup := flat_nodup (fun l : Loc => l.a :: l.ps) (List.nodup_append.mp R.nodup).2.1 (List.mem_of_getElem? hl)
      rw [hps, ← z] at h2
      simp at h2
    have hlL : l.a ≠ L := fun z => hL (mem_foot hl (by rw [← z]; exact .head _))
    refine q h' _ (R.set hl (fun b o h1 h2 e => keep b o (fun z => ?_) (fun z => h1 (by rw [hps, z]; exact .tail _ (.head _))) e) (fun a ha => hlive a ?_) ?_) hns (fun b o h1 h2 e => keep b o h1 (fun z => h2 (by rw [hps, z]; exact .tail _ (.head _))) e) hlive
    · subst z
      rcases h2 with h2 | h2
      · exact hL h2
      · rw [hG] at h2; cases h2
    · exact R.live a (mem_foot hl ha)
    · refine ⟨(R.obj i l _ hl ho).1, dd, _, _, hps, keep _ _ hlL hla I.at_, hd', ?_, fun y => ?_⟩
      · rw [putL_length, length_putAt, hlen]
        have h1 := hall x
        have h2 := getL_any (x := x) (es := es)
        cases q : ats.lookup x with
        | none =>
          rw [q] at h1
          have : es.any (·.key.isStr x) = false := by
            cases q2 : es.any (·.key.isStr x) with
            | false => rfl
            | true => obtain ⟨w, e⟩ := h2.mpr q2; rw [h1] at e; cases e
          simp [this]
        | some w =>
          rw [q] at h1
          obtain ⟨w', e, _⟩ := h1
          simp [h2.mp ⟨w', e⟩]
      · rw [lookup_putAt, getL_put _ _ _ _ _ _ hsome]
        by_cases q : y = x
        · simp only [q, if_true]
          exact ⟨v', rfl, handed V hb, V⟩
        · simp only [q, if_false]
          exact hall y
end
end Mini
namespace Mini
open PySem PySem.W PyProof PyProof.Rows PySem.Calls
structure EvX (P : PI) (d : Nat) (kd : Kinds) (ρ : Vars) (st : Stmt) (σ : St) (f : Flw) (ρ' : Vars) (σ' : St) : Prop where
  intro ::
  run : ∀ {c A env G φ s}, HereX c P d A env kd ρ G φ σ s → Does c A env G φ s (PySem.exec st env) f ρ' σ'
structure EvXs (P : PI) (d : Nat) (kd : Kinds) (ρ : Vars) (ss : List Stmt) (σ : St) (f : Flw) (ρ' : Vars) (σ' : St) : Prop where
  intro ::
  run : ∀ {c A env G φ s}, HereX c P d A env kd ρ G φ σ s → Does c A env G φ s (PySem.execs ss env) f ρ' σ'
noncomputable def EvA (P : PI) (d : Nat) (kd : Kinds) (ρ : Vars) (t : Expr) (v : AVal) (σ : St) (ρ' : Vars) (σ' : St) : Prop := notStar t = true ∧ ∀ {c A env G φ s v'}, HereX c P d A env kd ρ G φ σ s → VRel c G φ v v' → DoesU c A env G φ s (PySem.assign t env v') ρ' σ'
inductive EvAs (P : PI) (d : Nat) (kd : Kinds) : Vars → List Expr → List AVal → St → Vars → St → Prop
  | nil {ρ : Vars} {σ : St} : EvAs P d kd ρ [] [] σ ρ σ
  | cons {ρ ρ₁ ρ' : Vars} {t : Expr} {ts : List Expr} {v : AVal} {vs : List AVal} {σ σ₁ σ' : St} (h1 : EvA P d kd ρ t v σ ρ₁ σ₁) (h2 : EvAs P d kd ρ₁ ts vs σ₁ ρ' σ') : EvAs P d kd ρ (t :: ts) (v :: vs) σ ρ' σ'
section
variable {c : Cx} {P : PI} {n d : Nat} {A : Around} {env : Env} {kd : Kinds} {ρ ρ' : Vars} {G : Imm} {φ : List Loc} {σ σ' : St} {s s' : Shared} {v : AVal}
theorem rel_ext (R : Rel c G φ σ s) {h' : Heap} {tk : Nat} (k : ∀ b o, s.heap.get? b = some o → h'.get? b = some o) : Rel c G φ σ { s with heap := h', toks := tk } := R.same fun b o _ e => k b o e
theorem step_ext {own : List Addr} {h' : Heap} {tk : Nat} (k : ∀ b o, s.heap.get? b = some o → h'.get? b = some o) : Step c own G φ s G φ { s with heap := h', toks := tk } where
  g := fun _ _ e => e
  ext := .refl _
  foot := fun _ h => .inl h
  dom := fun _ _ e => .inl e
  frame := fun b o _ _ e => k b o e
  keep := fun b h => by obtain ⟨x, hx⟩ := Option.isSome_iff_exists.mp h; show (h'.get? b).isSome; rw [k b x hx]; rfl
  os := rfl
  gsz := Nat.le_refl _
  gfr := fun _ _ _ => rfl
  gft := fun _ h => .inl h
theorem assignEach_cons {t : Expr} {ts : List Expr} (h : notStar t = true) : assignEach (t :: ts) env = (false, PySem.assign t env) :: assignEach ts env := by
  cases t <;> first | rfl | cases h
theorem assignEach_length : ∀ {ts : List Expr}, (assignEach ts env).length = ts.length
  | [] => rfl
  | t :: ts => by
    have ih := @assignEach_length ts
    cases t <;> simp [assignEach, ih]
theorem assignEach_noStar : ∀ {ts : List Expr}, (∀ t ∈ ts, notStar t = true) → (assignEach ts env).findIdx? (·.1) = none
  | [], _ => rfl
  | t :: ts, h => by
    rw [assignEach_cons (h t (.head _)), List.findIdx?_cons]
    simp [assignEach_noStar fun t ht => h t (.tail _ ht)]
theorem notModule (L : LocRel c G φ env ρ s.heap) : interactive env = false := by unfold interactive; rw [L.kind]; rfl
theorem swaps_no {e : Expr} {t : Option Expr} {k : Nat} (h : isComp e = false) : swapsWith e t k env = pure false := by
  cases e <;> first | rfl | cases h
theorem filter_short {α β : Type} {f : α → Option β} : ∀ {l : List α} {x : α}, x ∈ l → f x = none → (l.filterMap f).length < l.length
  | y :: r, x, h, e => by
    rw [List.filterMap_cons]
    rcases List.mem_cons.mp h with rfl | h
    · rw [e]; exact Nat.lt_succ_of_le (List.length_filterMap_le _ _)
    · have := filter_short h e
      split
      · rw [List.length_cons]; lia
      · rw [List.length_cons, List.length_cons]; lia
theorem swapped_no {t e : Expr} (h : noSwap env.kindOf t e = true) : swappedStores [t] e env = pure none := by
  cases t <;> first | rfl | (cases e <;> first | rfl | cases h | skip)
  rename_i ts k p vs k' p'
  obtain ⟨x, hx, hk⟩ := List.any_eq_true.mp (show (ts.any _) = true from h)
  unfold swappedStores
  simp only
  split
  · rfl
  · split
    · rfl
    · have hl := filter_short (f := fun | .Name id pos => if env.kindOf id == some .local && pos.line == (ts.head?.map (·.pos.line)).getD 0 then some id else none | _ => none) hx (by
        cases x <;> first | rfl | skip
        simp only [bne_iff_ne, ne_eq] at hk
        simp [hk])
      rw [if_pos]
      rw [Bool.or_eq_true]
      exact .inl (by simp only [bne_iff_ne, ne_eq]; exact Nat.ne_of_lt hl)
theorem noSwap_star {t e : Expr} (h : noSwap kd t e = true) : notStar t = true := by
  cases t <;> first | rfl | cases h
end
section
variable {P : PI} {d : Nat} {kd : Kinds} {ρ ρ₁ ρ₂ ρ₃ ρ' : Vars} {σ σ₁ σ₂ σ₃ σ' : St} {v a b : AVal} {p : Pos}
theorem a_name {x : Str} {q : Pos} (h : (kd x == some .local || (kd x == some .cell && !P.frz x)) = true) : EvA P d kd ρ (.Name x q) v σ (Vars.set ρ x v) σ := ⟨rfl, fun H V => by
  rw [Bool.or_eq_true] at h
  exact wpAny_assign_Name (sim_store (h.elim (fun h => .inl (eq_of_beq h)) fun h => .inr (by rw [Bool.and_eq_true, Bool.not_eq_true'] at h; exact ⟨eq_of_beq h.1, h.2⟩)) H V)⟩
theorem as_nil : EvAs P d kd ρ [] [] σ ρ σ := .nil
theorem as_cons {t : Expr} {ts : List Expr} {vs : List AVal} (h1 : EvA P d kd ρ t v σ ρ₁ σ₁) (h2 : EvAs P d kd ρ₁ ts vs σ₁ ρ' σ') : EvAs P d kd ρ (t :: ts) (v :: vs) σ ρ' σ' := .cons h1 h2
theorem EvAs.noStar {ts : List Expr} {vs : List AVal} (h : EvAs P d kd ρ ts vs σ ρ' σ') : ∀ t ∈ ts, notStar t = true := by
  induction h with
  | nil => exact fun _ ht => nomatch ht
  | cons h1 h2 ih => exact fun t ht => (List.mem_cons.mp ht).elim (fun e => e ▸ h1.1) (ih t)
theorem EvAs.run {ts : List Expr} {vs : List AVal} (h : EvAs P d kd ρ ts vs σ ρ' σ') : ∀ {c A env G φ s vs'}, HereX c P d A env kd ρ G φ σ s → VsRel c G φ vs vs' → DoesU c A env G φ s (assignInOrder ((assignEach ts env).map (·.2)) vs') ρ' σ' := by
  induction h with
  | nil =>
    intro c A env G φ s vs' H V
    (cases V using VsRel.nilE)
    exact wpAny_assignInOrder_none ⟨G, φ, H.r, H.l, H.f, .refl .., trivial⟩
  | cons h1 h2 ih =>
    intro c A env G φ s vs' H V
    cases V with
    | cons hv hvs =>
      rw [assignEach_cons h1.1]
      refine wpAny_assignInOrder_more (wpAny_mono (h1.2 H hv) (fun _ s₁ ⟨G₁, φ₁, R₁, L₁, F₁, S₁, _⟩ => ?_) fun _ _ e => e)
      exact DoesU.after (ih (H.then R₁ L₁ F₁ S₁) (hvs.mono S₁.g S₁.ext)) S₁
theorem a_tuple {ts : List Expr} {vs : List AVal} {k} {q : Pos} (h0 : ts.length = vs.length) (h : EvAs P d kd ρ ts vs σ ρ' σ') : EvA P d kd ρ (.Tuple ts k q) (.tup vs) σ ρ' σ' := ⟨rfl, fun {c A env G φ s v'} H V => by
  cases V using VRel.tupE with
  | tup nn e r =>
    rename_i items a
    refine wpAny_assign_Tuple (items := items.toArray) H.a.hh ⟨_, H.r.gh _ _ e, rfl, _, rfl⟩ (by rw [assignEach_length]; simp [h0, r.length]) (assignEach_noStar h.noStar) fun h' hx => ?_
    have k : ∀ b o, s.heap.get? b = some o → h'.get? b = some o := fun b o e => hx b o (fun q => by rw [q, get?_size] at e; cases e) e
    have S : Step c [] G φ s G φ { s with heap := h' } := step_ext (tk := s.toks) k
    have R : Rel c G φ σ { s with heap := h' } := rel_ext (tk := s.toks) H.r k
    simpa using DoesU.after (h.run (H.step R S) (r.mono (fun _ _ e => e) (.refl _))) (S.weaken fun _ h => nomatch h)⟩
theorem a_attr {o : Expr} {x : Str} {q : Pos} {i : Nat} {ats : List (Str × AVal)} (h0 : (P.attrOk x && notBi v) = true) (h1 : EvE P d kd ρ o σ (.ref i) σ₁) (h2 : σ₁[i]? = some (.inst ats)) (h3 : ats.length ≤ 10) : EvA P d kd ρ (.Attribute o x q) v σ ρ (σ₁.set i (.inst (putAt x v ats))) := ⟨rfl, fun {c A env G φ s v'} H V => by
  rw [Bool.and_eq_true] at h0
  show wpAny _ _ (do
    let ov ← holding [v'] (PySem.eval o env)
    standAt q.atName
    holding [v', ov] (setAttr ov x v')
    release [v', ov] []) _ _ _
  refine wpAny_bind (wpAny_holding (wpAny_mono (h1.run H.toHere) (fun ov s₁ ⟨G₁, φ₁, R₁, V₁, S₁⟩ => wpAny_bind (wpAny_standAt (wpAny_bind (wpAny_holding ?_)))) fun _ _ e => e))
  have H₁ := H.step R₁ S₁
  cases V₁ using VRel.refE with
  | ref hl =>
    obtain ⟨m, hn, hv⟩ := H₁.l.ns
    obtain ⟨q1, q2, q3⟩ := H₁.o.loc env.locals (.head _)
    refine set_attr H.ok R₁ hl h2 hn q1 q2 h0.1 h0.2 h3 (V.mono S₁.g S₁.ext) fun h' tk R₂ hn₂ k lv => wpAny_release ?_
    have SS : Step c (owns env) G₁ φ₁ s₁ G₁ φ₁ { s₁ with heap := h', toks := tk } := step_set hl (fun b x hb ho e => k b x (fun z => ho (by rw [z]; exact .head _)) hb e) lv rfl
    have own : ∀ a o, a ∈ owns env → a ≠ env.locals → s₁.heap.get? a = some o → h'.get? a = some o := fun a o ha hne e => k a o hne (fun z => (H₁.o.away ha).1 (mem_foot hl z)) e
    refine ⟨G₁, φ₁, R₂, ⟨H₁.l.kind, H₁.l.glob, H₁.l.bi, ⟨m, hn₂, hv⟩, fun y w h1 h2 => ?_⟩, ⟨fun y hy => ?_, H.f.apart, H.f.nl⟩, (S₁.weaken fun _ h => nomatch h).trans' SS, trivial⟩
    · obtain ⟨a, w', e, ⟨oo, ho, hd⟩, r⟩ := H₁.l.cell y w h1 h2
      exact ⟨a, w', e, ⟨oo, own a oo (mem_owns (.inr ⟨y, e⟩)) (H.f.nl _ _ (mem_of_lookup e)) ho, hd⟩, r⟩
    · obtain ⟨a, v₀, e, oo, ho, hd⟩ := H₁.f.ex y hy
      exact ⟨a, v₀, e, oo, own a oo (mem_owns (.inr ⟨y, e⟩)) (H.f.nl _ _ (mem_of_lookup e)) ho, hd⟩⟩
theorem xs_nil : EvXs P d kd ρ [] σ .next ρ σ := .intro fun {c A env G φ s} H => wpAny_execs_nil ⟨G, φ, H.r, H.l, H.f, .refl .., .next⟩
theorem xs_cons {st : Stmt} {ss : List Stmt} {f : Flw} (h1 : EvX P d kd ρ st σ .next ρ₁ σ₁) (h2 : EvXs P d kd ρ₁ ss σ₁ f ρ' σ') : EvXs P d kd ρ (st :: ss) σ f ρ' σ' := .intro fun H => by
  refine wpAny_execs_cons (wpAny_mono (h1.run H) (fun f' s₁ ⟨G₁, φ₁, R₁, L₁, F₁, S₁, FR⟩ => ?_) fun _ _ e => e)
  cases FR
  exact Does.after (h2.run (H.then R₁ L₁ F₁ S₁)) S₁
theorem xs_ret {st : Stmt} {ss : List Stmt} (h1 : EvX P d kd ρ st σ (.ret v) ρ₁ σ₁) : EvXs P d kd ρ (st :: ss) σ (.ret v) ρ₁ σ₁ := .intro fun H => by
  refine wpAny_execs_cons (wpAny_mono (h1.run H) (fun f' s₁ ⟨G₁, φ₁, R₁, L₁, F₁, S₁, FR⟩ => ?_) fun _ _ e => e)
  cases FR with
  | ret hv => exact ⟨G₁, φ₁, R₁, L₁, F₁, S₁, .ret hv⟩
theorem x_assign {t e : Expr} (h0 : (noSwap kd t e && !isComp e) = true) (h1 : EvE P d kd ρ e σ v σ₁) (h2 : EvA P d kd ρ t v σ₁ ρ' σ') : EvX P d kd ρ (.Assign [t] e p) σ .next ρ' σ' := .intro fun {c A env G φ s} H => by
  rw [Bool.and_eq_true, Bool.not_eq_true'] at h0
  refine wpAny_Assign_stores (wpAny_mono (h1.run H.toHere) (fun v' s₁ ⟨G₁, φ₁, R₁, V₁, S₁⟩ => ?_) fun _ _ e => e) (swaps_no h0.2) (swapped_no (by rw [← H.kd]; exact h0.1))
  rw [assignEach_cons (noSwap_star h0.1)]
  show wpAny _ _ (PySem.assign t env v') _ _ _
  have S₁' := S₁.weaken (own' := owns env) fun _ h => nomatch h
  refine wpAny_mono (h2.2 (H.step R₁ S₁) V₁) (fun _ s₂ q => ?_) fun _ _ e => e
  obtain ⟨G₂, φ₂, R₂, L₂, F₂, S₂, _⟩ := q
  exact ⟨G₂, φ₂, R₂, L₂, F₂, S₁'.trans' S₂, .next⟩
theorem x_return {e : Expr} (h1 : EvE P d kd ρ e σ v σ₁) : EvX P d kd ρ (.Return (some e) p) σ (.ret v) ρ σ₁ := .intro fun H => by
  refine wpAny_Return_some (wpAny_mono (h1.run H.toHere) (fun v' s₁ ⟨G₁, φ₁, R₁, V₁, S₁⟩ => ?_) fun _ _ e => e)
  have H₁ := H.step R₁ S₁
  exact ⟨G₁, φ₁, R₁, H₁.l, H₁.f, S₁.weaken (fun _ h => nomatch h), .ret V₁⟩
theorem x_expr {e : Expr} (h0 : isComp e = false) (h1 : EvE P d kd ρ e σ v σ₁) : EvX P d kd ρ (.Expr e p) σ .next ρ σ₁ := .intro fun H => by
  refine wpAny_Expr_any (wpAny_mono (h1.run H.toHere) (fun v' s₁ ⟨G₁, φ₁, R₁, V₁, S₁⟩ => ?_) fun _ _ e => e) (notModule H.l) (swaps_no h0)
  have H₁ := H.step R₁ S₁
  exact ⟨G₁, φ₁, R₁, H₁.l, H₁.f, S₁.weaken (fun _ h => nomatch h), .next⟩
theorem x_if {t : Expr} {x y : List Stmt} {f : Flw} {z : Bool} (h1 : EvT P d kd ρ t σ z σ₁) (h2 : EvXs P d kd ρ (if z then x else y) σ₁ f ρ' σ') : EvX P d kd ρ (.If t x y p) σ f ρ' σ' := .intro fun {c A env G φ s} H => by
  refine wpAny_If (wpAny_mono (h1.run H.toHere) (fun z' s₁ ⟨e, G₁, φ₁, R₁, S₁⟩ => ?_) fun _ _ e => e)
  subst e
  have S₁' := S₁.weaken (own' := owns env) fun _ h => nomatch h
  cases z' with
  | true => exact Does.after (h2.run (H.step R₁ S₁)) S₁'
  | false => exact Does.after (h2.run (H.step R₁ S₁)) S₁'
theorem x_ifT {t : Expr} {x y : List Stmt} {f : Flw} (h1 : EvT P d kd ρ t σ true σ₁) (h2 : EvXs P d kd ρ x σ₁ f ρ' σ') : EvX P d kd ρ (.If t x y p) σ f ρ' σ' := x_if h1 h2
theorem x_ifF {t : Expr} {x y : List Stmt} {f : Flw} (h1 : EvT P d kd ρ t σ false σ₁) (h2 : EvXs P d kd ρ y σ₁ f ρ' σ') : EvX P d kd ρ (.If t x y p) σ f ρ' σ' := x_if h1 h2
inductive EvWn (P : PI) (d : Nat) (kd : Kinds) (t : Expr) (b : List Stmt) : Nat → Vars → St → Flw → Vars → St → Prop
  | fin {ρ : Vars} {σ σ₁ : St} {n : Nat} (h1 : EvT P d kd ρ t σ false σ₁) : EvWn P d kd t b n ρ σ .next ρ σ₁
  | more {ρ ρ₁ ρ' : Vars} {σ σ₁ σ₂ σ' : St} {f : Flw} {n : Nat} (h1 : EvT P d kd ρ t σ true σ₁) (h2 : EvXs P d kd ρ b σ₁ .next ρ₁ σ₂) (h3 : EvWn P d kd t b n ρ₁ σ₂ f ρ' σ') : EvWn P d kd t b (n + 1) ρ σ f ρ' σ'
  | ret {ρ ρ₁ : Vars} {σ σ₁ σ₂ : St} {v : AVal} {n : Nat} (h1 : EvT P d kd ρ t σ true σ₁) (h2 : EvXs P d kd ρ b σ₁ (.ret v) ρ₁ σ₂) : EvWn P d kd t b n ρ σ (.ret v) ρ₁ σ₂
noncomputable def EvW (P : PI) (d : Nat) (kd : Kinds) (ρ : Vars) (t : Expr) (b : List Stmt) (σ : St) (f : Flw) (ρ' : Vars) (σ' : St) : Prop := ∃ n, EvWn P d kd t b n ρ σ f ρ' σ'
inductive WhInv (c : Cx) (P : PI) (d : Nat) (A : Around) (env : Env) (kd : Kinds) (t : Expr) (b : List Stmt) (f : Flw) (ρ' : Vars) (σ' : St) (G : Imm) (φ : List Loc) (s : Shared) (k : Nat) (s₁ : Shared) : Prop
  | mk (ρ₁ : Vars) (σ₁ : St) (G₁ : Imm) (φ₁ : List Loc) (hw : EvWn P d kd t b k ρ₁ σ₁ f ρ' σ') (H : HereX c P d A env kd ρ₁ G₁ φ₁ σ₁ s₁) (S : Step c (owns env) G φ s G₁ φ₁ s₁)
theorem x_while {t : Expr} {b : List Stmt} {f : Flw} (h1 : EvW P d kd ρ t b σ f ρ' σ') : EvX P d kd ρ (.While t b [] p) σ f ρ' σ' := .intro fun {c A env G φ s} H => by
  obtain ⟨n, h⟩ := h1
  refine wpAny_While (codeAny_whileLoop (WhInv c P d A env kd t b f ρ' σ' G φ s) ?_ n ⟨ρ, σ, G, φ, h, H, .refl ..⟩)
  rintro k s₁ ⟨ρ₁, σ₁, G₁, φ₁, hw, H₁, S₁⟩
  cases hw with
  | fin h1 =>
    refine noE (wpAny_mono (h1.run H₁.toHere) (fun z' s₂ ⟨e, G₂, φ₂, R₂, S₂⟩ => ?_) fun _ _ e => e)
    subst e
    have H₂ := H₁.step R₂ S₂
    exact wpAny_execs_nil ⟨G₂, φ₂, R₂, H₂.l, H₂.f, S₁.trans' (S₂.weaken fun _ h => nomatch h), .next⟩
  | more h1 h2 h3 =>
    refine noE (wpAny_mono (h1.run H₁.toHere) (fun z' s₂ ⟨e, G₂, φ₂, R₂, S₂⟩ => ?_) fun _ _ e => e)
    subst e
    have H₂ := H₁.step R₂ S₂
    refine noE (wpAny_mono (h2.run H₂) (fun f' s₃ ⟨G₃, φ₃, R₃, L₃, F₃, S₃, FR⟩ => ?_) fun _ _ e => e)
    have S := (S₁.trans' (S₂.weaken fun _ h => nomatch h)).trans' S₃
    cases FR
    exact ⟨_, Nat.lt_succ_self _, _, _, G₃, φ₃, h3, H₂.then R₃ L₃ F₃ S₃, S⟩
  | ret h1 h2 =>
    refine noE (wpAny_mono (h1.run H₁.toHere) (fun z' s₂ ⟨e, G₂, φ₂, R₂, S₂⟩ => ?_) fun _ _ e => e)
    subst e
    have H₂ := H₁.step R₂ S₂
    refine noE (wpAny_mono (h2.run H₂) (fun f' s₃ ⟨G₃, φ₃, R₃, L₃, F₃, S₃, FR⟩ => ?_) fun _ _ e => e)
    have S := (S₁.trans' (S₂.weaken fun _ h => nomatch h)).trans' S₃
    cases FR with
    | ret hv => exact ⟨G₃, φ₃, R₃, L₃, F₃, S, .ret hv⟩
end
end Mini
namespace Mini
open PySem PySem.W PyProof PyProof.Rows PySem.Calls
inductive ItRel (c : Cx) (G : Imm) (φ : List Loc) (s : Shared) : AIt → Value → List Addr → Prop
  | seq {v : AVal} {i : Nat} {I l : Addr} (hI : s.heap.IsListIter I l i) (V : VRel c G φ v (.ref l)) (o : OwnOk c G φ [I] s) : ItRel c G φ s (.seq v i) (.ref I) [I]
  | rng {x k st : Int} {I : Addr} (hI : IsRangeIter s.heap I x k st) (o : OwnOk c G φ [I] s) : ItRel c G φ s (.rng x k st) (.ref I) [I]
  | tup {vs : List AVal} {i : Nat} {I t : Addr} (hI : s.heap.IsTupleIter I t i) (V : VRel c G φ (.tup vs) (.ref t)) (o : OwnOk c G φ [I] s) : ItRel c G φ s (.tup vs i) (.ref I) [I]
  | chars {x : Str} {t : Tok} {i : Nat} {I : Addr} (hI : s.heap.IsStrIter I "str_ascii_iterator" x t i) (o : OwnOk c G φ [I] s) : ItRel c G φ s (.chars x i) (.ref I) [I]
  | obj {i : Nat} {l : Loc} (h : φ[i]? = some l) : ItRel c G φ s (.obj i) (.ref l.a) []
  | dkeys {v : AVal} {n i : Nat} {I l : Addr} {ep : Nat} (hI : s.heap.IsKeyIter I l i n ep) (V : VRel c G φ v (.ref l)) (h1 : ∀ j, v = .ref j → ep = n) (h2 : ∀ ks vs, v = .sd ks vs → ∃ o es, G l = some o ∧ o.data = .dict es ep) (o : OwnOk c G φ [I] s) : ItRel c G φ s (.dkeys v n i) (.ref I) [I]
section
variable {c : Cx} {G : Imm} {φ : List Loc} {s : Shared}
theorem ItRel.seqE {v : AVal} {i : Nat} {motive : ∀ v' pr, ItRel c G φ s (.seq v i) v' pr → Prop} (seq : ∀ {I l : Addr} (hI : s.heap.IsListIter I l i) (V : VRel c G φ v (.ref l)) (o : OwnOk c G φ [I] s), motive (.ref I) [I] (.seq hI V o)) {v' : Value} {pr : List Addr} (h : ItRel c G φ s (.seq v i) v' pr) : motive v' pr h := by cases h with | seq hI V o => exact seq hI V o
theorem ItRel.rngE {x k st : Int} {motive : ∀ v' pr, ItRel c G φ s (.rng x k st) v' pr → Prop} (rng : ∀ {I : Addr} (hI : IsRangeIter s.heap I x k st) (o : OwnOk c G φ [I] s), motive (.ref I) [I] (.rng hI o)) {v' : Value} {pr : List Addr} (h : ItRel c G φ s (.rng x k st) v' pr) : motive v' pr h := by cases h with | rng hI o => exact rng hI o
theorem ItRel.dkeysE {v : AVal} {n i : Nat} {motive : ∀ v' pr, ItRel c G φ s (.dkeys v n i) v' pr → Prop} (dkeys : ∀ {I l : Addr} {ep : Nat} (hI : s.heap.IsKeyIter I l i n ep) (V : VRel c G φ v (.ref l)) (h1 : ∀ j, v = .ref j → ep = n) (h2 : ∀ ks vs, v = .sd ks vs → ∃ o es, G l = some o ∧ o.data = .dict es ep) (o : OwnOk c G φ [I] s), motive (.ref I) [I] (.dkeys hI V h1 h2 o)) {v' : Value} {pr : List Addr} (h : ItRel c G φ s (.dkeys v n i) v' pr) : motive v' pr h := by cases h with | dkeys hI V h1 h2 o => exact dkeys hI V h1 h2 o
theorem ItRel.objE {i : Nat} {motive : ∀ v' pr, ItRel c G φ s (.obj i) v' pr → Prop} (obj : ∀ {l : Loc} (h : φ[i]? = some l), motive (.ref l.a) [] (.obj h)) {v' : Value} {pr : List Addr} (h : ItRel c G φ s (.obj i) v' pr) : motive v' pr h := by cases h with | obj h => exact obj h
end
theorem ItRel.own {c : Cx} {G : Imm} {φ : List Loc} {s : Shared} {it : AIt} {it' : Value} {pr : List Addr} (h : ItRel c G φ s it it' pr) : OwnOk c G φ pr s := by
  cases h with
  | seq _ _ o => exact o
  | rng _ o => exact o
  | tup _ _ o => exact o
  | chars _ o => exact o
  | obj _ => exact fun _ h => nomatch h
  | dkeys _ _ _ _ o => exact o
theorem ItRel.step {c : Cx} {G G' : Imm} {φ φ' : List Loc} {s s' : Shared} {it : AIt} {it' : Value} {pr own : List Addr} (h : ItRel c G φ s it it' pr) (S : Step c own G φ s G' φ' s') (hd : ∀ a ∈ pr, a ∉ own) : ItRel c G' φ' s' it it' pr := by
  have O := h.own.step S
  cases h with
  | seq hI V o =>
    obtain ⟨x, hx, r⟩ := hI
    exact .seq ⟨x, S.frame _ _ (o _ (.head _)).1 (hd _ (.head _)) hx, r⟩ (V.mono S.g S.ext) O
  | rng hI o => exact .rng (S.frame _ _ (o _ (.head _)).1 (hd _ (.head _)) hI) O
  | tup hI V o =>
    obtain ⟨x, hx, r⟩ := hI
    exact .tup ⟨x, S.frame _ _ (o _ (.head _)).1 (hd _ (.head _)) hx, r⟩ (V.mono S.g S.ext) O
  | chars hI o =>
    obtain ⟨x, hx, r⟩ := hI
    exact .chars ⟨x, S.frame _ _ (o _ (.head _)).1 (hd _ (.head _)) hx, r⟩ O
  | obj h =>
    obtain ⟨l', e, ha, _⟩ := S.ext _ _ h
    rw [← ha]; exact .obj e
  | dkeys hI V h1 h2 o =>
    obtain ⟨x, hx, r⟩ := hI
    exact .dkeys ⟨x, S.frame _ _ (o _ (.head _)).1 (hd _ (.head _)) hx, r⟩ (V.mono S.g S.ext) h1 (fun ks vs q => let ⟨o, es, q1, q2⟩ := h2 ks vs q; ⟨o, es, S.g _ _ q1, q2⟩) O
structure StepE (c : Cx) (pr : List Addr) (G : Imm) (φ : List Loc) (s : Shared) (G' : Imm) (φ' : List Loc) (s' : Shared) : Prop where
  g : Imm.Sub G G'
  ext : Ext φ φ'
  foot : ∀ b ∈ foot c φ', b ∈ Mini.foot c φ ∨ s.heap.get? b = none
  dom : ∀ b o, G' b = some o → G b = some o ∨ s.heap.get? b = none
  frame : ∀ b o, b ∉ Mini.foot c φ → b ∉ pr → s.heap.get? b = some o → s'.heap.get? b = some o
  keep : ∀ b, b ∉ pr → (s.heap.get? b).isSome → (s'.heap.get? b).isSome
  os : s'.os = s.os
  gsz : s.gens.size ≤ s'.gens.size
  gfr : ∀ k, k ∉ gfoot φ → k < s.gens.size → s'.gens[k]? = s.gens[k]?
  gft : ∀ k ∈ gfoot φ', k ∈ gfoot φ ∨ s.gens.size ≤ k
theorem Step.toE {c : Cx} {pr : List Addr} {G G' : Imm} {φ φ' : List Loc} {s s' : Shared} (x : Step c pr G φ s G' φ' s') : StepE c pr G φ s G' φ' s' := ⟨x.g, x.ext, x.foot, x.dom, x.frame, fun b _ h => x.keep b h, x.os, x.gsz, x.gfr, x.gft⟩
theorem Step.transE {c : Cx} {own pr : List Addr} {G₁ G₂ G₃ : Imm} {φ₁ φ₂ φ₃ : List Loc} {s₁ s₂ s₃ : Shared} (x : Step c own G₁ φ₁ s₁ G₂ φ₂ s₂) (y : StepE c pr G₂ φ₂ s₂ G₃ φ₃ s₃)
    (hp : ∀ b ∈ pr, s₁.heap.get? b = none) : Step c own G₁ φ₁ s₁ G₃ φ₃ s₃ where
  g := fun a o e => y.g a o (x.g a o e)
  ext := x.ext.trans y.ext
  foot := fun b h => by
    rcases y.foot b h with h | h
    · exact x.foot b h
    · refine .inr ?_
      cases q : s₁.heap.get? b with
      | none => rfl
      | some o => exact none_of_isSome (x.keep b (by rw [q]; rfl)) h
  dom := fun b o e => by
    rcases y.dom b o e with h | h
    · exact x.dom b o h
    · refine .inr ?_
      cases q : s₁.heap.get? b with
      | none => rfl
      | some o => exact none_of_isSome (x.keep b (by rw [q]; rfl)) h
  frame := fun b o h1 h2 e => by
    refine y.frame b o (fun h => ?_) (fun h => ?_) (x.frame b o h1 h2 e)
    · rcases x.foot b h with h | h
      · exact h1 h
      · rw [h] at e; cases e
    · rw [hp b h] at e; cases e
  keep := fun b h => y.keep b (fun q => none_of_isSome h (hp b q)) (x.keep b h)
  os := y.os.trans x.os
  gsz := Nat.le_trans x.gsz y.gsz
  gfr := fun k h1 h2 => by
    refine (y.gfr k (fun q => ?_) (Nat.lt_of_lt_of_le h2 x.gsz)).trans (x.gfr k h1 h2)
    rcases x.gft k q with q | q
    · exact h1 q
    · lia
  gft := fun k h => by
    rcases y.gft k h with h | h
    · exact x.gft k h
    · exact .inr (Nat.le_trans x.gsz h)
theorem stepE_priv {c : Cx} {G : Imm} {φ : List Loc} {s : Shared} {I : Addr} {h' : Heap} {tk : Nat} (k : ∀ b x, b ≠ I → s.heap.get? b = some x → h'.get? b = some x) : StepE c [I] G φ s G φ { s with heap := h', toks := tk } where
  g := fun _ _ e => e
  ext := .refl _
  foot := fun _ h => .inl h
  dom := fun _ _ e => .inl e
  frame := fun b x _ hb e => k b x (fun q => hb (by rw [q]; exact .head _)) e
  keep := fun b hb h => by
    obtain ⟨x, hx⟩ := Option.isSome_iff_exists.mp h
    show (h'.get? b).isSome
    rw [k b x (fun q => hb (by rw [q]; exact .head _)) hx]; rfl
  os := rfl
  gsz := Nat.le_refl _
  gfr := fun _ _ _ => rfl
  gft := fun _ h => .inl h
noncomputable def optRel (c : Cx) (G : Imm) (φ : List Loc) : Option AVal → Option Value → Prop
  | .none, .none => True
  | some v, some v' => VRel c G φ v v'
  | _, _ => False
inductive ObP (c : Cx) (G : Imm) (φ : List Loc) (s : Shared) (r : Option AVal) (σ' : St) (r' : Option Value) (s' : Shared) : Prop
  | mk (G' : Imm) (φ' : List Loc) (R : Rel c G' φ' σ' s') (S : Step c [] G φ s G' φ' s') (o : optRel c G' φ' r r')
inductive SelfIt (σ : St) (i : Nat) : Prop
  | liter {v : AVal} {j : Nat} (h : σ[i]? = some (.liter v j))
  | lend (h : σ[i]? = some .lend)
  | gen {k : GB} {ρ : Vars} {st : GSt} (h : σ[i]? = some (.gen k ρ st))
noncomputable def EvOb (P : PI) (d : Nat) (i : Nat) (σ : St) (r : Option AVal) (σ' : St) : Prop := SelfIt σ i ∧ ∀ {c A G φ s l}, COk c P → GoodA d A → Rel c G φ σ s → φ[i]? = some l →
  wpAny (Md c) A (pyNext (.ref l.a)) (ObP c G φ s r σ') (fun _ _ => False) s
noncomputable def NextPost (c : Cx) (G : Imm) (φ : List Loc) (s : Shared) (it : AIt) (it' : Value) (pr : List Addr) (σ' : St) (r : Option (AVal × AIt)) (r' : Option Value) (s' : Shared) : Prop := ∃ G' φ', Rel c G' φ' σ' s' ∧ match r, r' with
    | .none, .none => StepE c pr G φ s G' φ' s' ∧ (genIt it = true → Step c pr G φ s G' φ' s')
    | some (v, it₂), some v' => Step c pr G φ s G' φ' s' ∧ VRel c G' φ' v v' ∧ ItRel c G' φ' s' it₂ it' pr
    | _, _ => False
structure EvN (P : PI) (d : Nat) (it : AIt) (σ : St) (r : Option (AVal × AIt)) (σ' : St) : Prop where
  intro ::
  run : ∀ {c A G φ s it' pr}, COk c P → GoodA d A → Rel c G φ σ s → ItRel c G φ s it it' pr → wpAny (Md c) A (pyNext it') (NextPost c G φ s it it' pr σ' r) (fun _ _ => False) s
  kd : ∀ w it₂, r = some (w, it₂) → it₂.kd = it.kd
section
variable {c : Cx} {P : PI} {n d : Nat} {A : Around} {env : Env} {kd : Kinds} {ρ ρ' : Vars} {G : Imm} {φ : List Loc} {σ σ' : St} {s s' : Shared} {v : AVal}
theorem rel_priv {I : Addr} (R : Rel c G φ σ s) (o : OwnOk c G φ [I] s) {h' : Heap} {tk : Nat} (k : ∀ b x, b ≠ I → s.heap.get? b = some x → h'.get? b = some x) : Rel c G φ σ { s with heap := h', toks := tk } :=
  R.same fun b x hb e => k b x (fun q => by
    subst q
    obtain ⟨h1, h2, _⟩ := o b (.head _)
    rcases hb with hb | hb
    · exact h1 hb
    · rw [h2] at hb; cases hb) e
theorem step_priv {I : Addr} {h' : Heap} {tk : Nat} (k : ∀ b x, b ≠ I → s.heap.get? b = some x → h'.get? b = some x) (hl : (h'.get? I).isSome) : Step c [I] G φ s G φ { s with heap := h', toks := tk } where
  g := fun _ _ e => e
  ext := .refl _
  foot := fun _ h => .inl h
  dom := fun _ _ e => .inl e
  frame := fun b x _ hb e => k b x (fun q => hb (by rw [q]; exact .head _)) e
  keep := fun b h => by
    by_cases q : b = I
    · subst q; exact hl
    · obtain ⟨x, hx⟩ := Option.isSome_iff_exists.mp h; show (h'.get? b).isSome; rw [k b x q hx]; rfl
  os := rfl
  gsz := Nat.le_refl _
  gfr := fun _ _ _ => rfl
  gft := fun _ h => .inl h
theorem next_list_end {it l : Addr} {i : Nat} {items : Array Value} {Q : Option Value → Shared → Prop} {E : Value → Shared → Prop} {prog : Program} {w : World} (hh : A.handled = none) (hit : s.heap.IsListIter it l i) (hl : s.heap.IsList l items) (hx : items[i]? = none)
    (hQ : ∀ h', (∀ b x, b ≠ it → s.heap.get? b = some x → h'.get? b = some x) → (∃ o, h'.get? it = some o ∧ o.cls = .type "list_iterator" ∧ o.data = .fields #[.none, .int i 0]) → Q none { s with heap := h' }) :
    wpAny (model prog w) A (pyNext (.ref it)) Q E s := by
  obtain ⟨o, ho, hc, hd⟩ := id hit
  obtain ⟨ol, hol, _, nl, hdl⟩ := hl
  unfold pyNext
  refine wpAny_bind (wpAny_attempt (wpAny_callSpecial?_slot (name := Str.ofString "__next__") hit.typeIs slot_listiter_next
    (wpAny_call_entry slot_listiter_next hit.typeIs entry_listiter_next ?_ (args_listiter_next _))))
  show wpAny _ _ (field (.ref it) 0 >>= _) _ _ s
  refine wpAny_bind (wpAny_field ho hd (x := .ref l) rfl ?_)
  show wpAny _ _ (if (Value.ref l == Value.none) = true then _ else _) _ _ s
  rw [if_neg (show ¬ ((Value.ref l == Value.none) = true) from Bool.false_ne_true)]
  show wpAny _ _ (field (.ref it) 1 >>= _) _ _ s
  refine wpAny_bind (wpAny_field ho hd (x := .int i 0) rfl ?_)
  show wpAny _ _ (seqItems? (.ref l) >>= _) _ _ s
  refine wpAny_bind (wpAny_seqItems hol hdl ?_)
  simp only [Int.toNat_natCast, hx]
  refine wpAny_bind (wpAny_rule (wpAny_bind (wpAny_setField ho hd (by simp) ?_)))
  show wpAny _ _ (newExc (.type "StopIteration") [] >>= _) _ _ _
  refine wpAny_bind ?_
  simp only [newExc, newTuple]
  refine wpAny_bind (wpAny_newObj_type ?_ (by size_fits))
  refine wpAny_bind (m := firstArgMember _ _) (wpAny_of_eq (a := Value.none) (by first | rfl | (simp only [firstArgMember]; rfl)) ?_)
  refine wpAny_newObj_type ?_ (by size_fits)
  simp only [raiseNew]
  refine wpAny_bind (wpAny_handled ?_)
  rw [show A.in1.handled = none from hh]
  refine wpAny_bind (wpAny_pure (wpAny_throw ?_))
  refine wpAny_bind (wpAny_isInstance (T := "StopIteration") (b := true) ⟨_, Heap.get?_push_size _ rfl, rfl⟩ isSubtype_stop ?_)
  have h2 := Heap.get?_update_self (Obj.mapFields (·.setIfInBounds 0 Value.none)) ho (Obj.isFreed_of_fields (Obj.data_mapFields hd _))
  refine wpAny_pure (hQ _ (fun b x hb e => Heap.get?_push_of_some _ (Heap.get?_push_of_some _ ((Heap.SameBut.update ..).extBut b x hb e))) ⟨_, Heap.get?_push_of_some _ (Heap.get?_push_of_some _ h2), (Obj.cls_mapFields ..).trans hc, ?_⟩)
  rw [Obj.data_mapFields hd]; simp
theorem n_seq {w v : AVal} {i : Nat} {vs : List AVal} (h1 : listOf? σ w = some vs) (h2 : vs[i]? = some v) : EvN P d (.seq w i) σ (some (v, .seq w (i + 1))) σ := by
  refine .intro (fun {c A G φ s it' pr} ok ha R I => ?_) (fun _ _ e => by cases e; rfl)
  cases I using ItRel.seqE with
  | seq hI V o =>
    obtain ⟨la, ob, items, m, e, g, cc, dd, rr⟩ := R.isList V h1
    cases e
    obtain ⟨x', hx', Vx⟩ := rr.get h2
    refine wpAny_pyNext_list_item (items := items.toArray) hI ⟨_, g, cc, _, dd⟩ (by simpa using hx') fun h' hI' hs => ?_
    have S : Step c [_] G φ s G φ { s with heap := h' } := step_priv (tk := s.toks) (fun b x hb e => (hs.2 b hb).trans e) (by obtain ⟨oo, e, _⟩ := hI'; rw [e]; rfl)
    exact ⟨G, φ, rel_priv (tk := s.toks) R o fun b x hb e => (hs.2 b hb).trans e, S, Vx, .seq hI' V (o.step S)⟩
theorem n_seqEnd {w : AVal} {i : Nat} {vs : List AVal} (h1 : listOf? σ w = some vs) (h2 : vs[i]? = none) : EvN P d (.seq w i) σ none σ := by
  refine .intro (fun {c A G φ s it' pr} ok ha R I => ?_) (fun _ _ e => by cases e)
  cases I using ItRel.seqE with
  | seq hI V o =>
    obtain ⟨la, ob, items, m, e, g, cc, dd, rr⟩ := R.isList V h1
    cases e
    refine next_list_end (items := items.toArray) ha.hh hI ⟨_, g, cc, _, dd⟩ (by simpa using rr.get_none h2) fun h' k hk => ?_
    exact ⟨G, φ, rel_priv (tk := s.toks) R o k, stepE_priv (tk := s.toks) k, fun _ => step_priv (tk := s.toks) k (by obtain ⟨oo, e, _⟩ := hk; rw [e]; rfl)⟩
theorem n_rng {x l s : Int} (hl : 0 < l) : EvN P d (.rng x l s) σ (some (.int x, .rng (x + s) (l - 1) s)) σ := by
  refine .intro (fun {c A G φ s it' pr} ok ha R I => ?_) (fun _ _ e => by cases e; rfl)
  cases I using ItRel.rngE with
  | rng hI o =>
    refine wpAny_pyNext_range_item hI hl fun h' hI' hs => ?_
    have S : Step c [_] G φ s G φ { s with heap := h', toks := s.toks + 1 } := step_priv (fun b x hb e => (hs.2 b hb).trans e) (by rw [hI']; rfl)
    exact ⟨G, φ, rel_priv R o fun b x hb e => (hs.2 b hb).trans e, S, .int _ _, .rng hI' (o.step S)⟩
theorem n_rngEnd {x l s : Int} (hl : ¬ 0 < l) : EvN P d (.rng x l s) σ none σ := by
  refine .intro (fun {c A G φ s it' pr} ok ha R I => ?_) (fun _ _ e => by cases e)
  cases I using ItRel.rngE with
  | rng hI o =>
    exact wpAny_pyNext_range_end ha.hh hI (by lia) fun h' hx => ⟨G, φ, rel_priv (tk := s.toks) R o fun b x hb e => hx b x hb e, stepE_priv (tk := s.toks) fun b x hb e => hx b x hb e, fun h => nomatch h⟩
theorem n_obj {i : Nat} {v : AVal} {σ₁ : St} (ho : EvOb P d i σ (some v) σ₁) : EvN P d (.obj i) σ (some (v, .obj i)) σ₁ := by
  refine .intro (fun {c A G φ s it' pr} ok ha R I => ?_) (fun _ _ e => by cases e; rfl)
  cases I using ItRel.objE with
  | obj hl =>
    refine wpAny_mono (ho.2 ok ha R hl) (fun r' s' ⟨G', φ', R', S', q⟩ => ?_) fun _ _ e => e
    cases r' with
    | none => exact (show False from q).elim
    | some v' =>
      obtain ⟨l', e, hae, _⟩ := S'.ext _ _ hl
      exact ⟨G', φ', R', S', q, by rw [← hae]; exact .obj e⟩
theorem n_objEnd {i : Nat} {σ₁ : St} (ho : EvOb P d i σ none σ₁) : EvN P d (.obj i) σ none σ₁ := by
  refine .intro (fun {c A G φ s it' pr} ok ha R I => ?_) (fun _ _ e => by cases e)
  cases I using ItRel.objE with
  | obj hl =>
    refine wpAny_mono (ho.2 ok ha R hl) (fun r' s' ⟨G', φ', R', S', q⟩ => ?_) fun _ _ e => e
    cases r' with
    | none => exact ⟨G', φ', R', S'.toE, fun _ => S'⟩
    | some v' => exact (show False from q).elim
theorem EvN.loopOk {it it₂ : AIt} {w : AVal} (h : EvN P d it σ (some (w, it₂)) σ') {t : Expr} (hok : LoopT t it) : LoopT t it₂ := by
  have e := h.kd _ _ rfl
  cases hok with
  | name => exact .name
  | tup h => exact .tup (e.trans h)
theorem EvN.genIt {it it₂ : AIt} {w : AVal} (h : EvN P d it σ (some (w, it₂)) σ') (hok : Mini.genIt it = true) : Mini.genIt it₂ = true := by
  have e := h.kd _ _ rfl
  unfold Mini.genIt at *
  rw [e]; exact hok
theorem own_new (R : Rel c G φ σ s) (o : Obj) (hf : o.isFreed = false) : OwnOk c G φ [s.heap.objs.size] { s with heap := s.heap.push o } := fun a ha => by
  cases List.mem_singleton.mp ha
  exact ⟨R.fresh_foot (get?_size _), R.fresh_G (get?_size _), by rw [Heap.get?_push_size _ hf]; rfl⟩
theorem new_only : ∀ a ∈ [s.heap.objs.size], s.heap.get? a = none := fun a ha => by cases List.mem_singleton.mp ha; exact get?_size _
theorem iterObj {i : Nat} {l : Loc} {Q : Value → Shared → Prop} {E : Value → Shared → Prop} (h : SelfIt σ i) (R : Rel c G φ σ s) (hl : φ[i]? = some l) (q : Q (.ref l.a) s) : wpAny (Md c) A (pyIter (.ref l.a)) Q E s := by
  cases h with
  | liter q' =>
    obtain ⟨_, _, la, _, h4⟩ := R.obj _ _ _ hl q'
    exact wpAny_pyIter_listiter h4 q
  | lend q' =>
    obtain ⟨_, _, o, j, ho, hc, hd⟩ := R.obj _ _ _ hl q'
    have hT : s.TypeIs (.ref _) "list_iterator" := ⟨o, ho, hc⟩
    refine wpAny_pyIter_slot hT slot_listiter_iter (wpAny_call_entry slot_listiter_iter hT entry_listiter_iter ?_ (args_listiter_iter _))
    show wpAny _ _ (ret (.ref _)) _ _ s
    exact wpAny_pure ⟨_, rfl, "list_iterator", _, hT, slot_listiter_next.lookup, q⟩
  | gen q' =>
    obtain ⟨g, _, hg, _⟩ := R.obj _ _ _ hl q'
    exact wpAny_pyIter_gen hg q
theorem iterType {i : Nat} {l : Loc} (h : SelfIt σ i) (R : Rel c G φ σ s) (hl : φ[i]? = some l) : ∃ T id, s.TypeIs (.ref l.a) T ∧ typeLookup (.type T) "__next__" = pure (some (.builtin id)) := by
  cases h with
  | liter ho =>
    obtain ⟨_, _, la, _, hI⟩ := R.obj i l _ hl ho
    exact ⟨_, _, hI.typeIs, slot_listiter_next.lookup⟩
  | lend ho =>
    obtain ⟨_, _, o, j, e, hc, hd⟩ := R.obj i l _ hl ho
    exact ⟨_, _, ⟨o, e, hc⟩, slot_listiter_next.lookup⟩
  | gen ho =>
    obtain ⟨g, _, hG, _⟩ := R.obj i l _ hl ho
    exact ⟨_, _, hG.typeIs, slot_gen_next.lookup⟩
inductive ItP (c : Cx) (G : Imm) (φ : List Loc) (s : Shared) (σ : St) (it : AIt) (it' : Value) (s' : Shared) : Prop
  | mk (pr : List Addr) (R : Rel c G φ σ s') (I : ItRel c G φ s' it it' pr) (S : Step c [] G φ s G φ s') (h : ∀ a ∈ pr, s.heap.get? a = none)
structure IterR (σ : St) (v : AVal) (it : AIt) : Prop where
  intro ::
  run : ∀ {c A G φ s v'}, Rel c G φ σ s → VRel c G φ v v' → wpAny (Md c) A (pyIter v') (ItP c G φ s σ it) (fun _ _ => False) s
  self : ∀ i, it = .obj i → SelfIt σ i
theorem mk_scr {ns : List Int} : IterR σ (.scr ns) (.seq (.scr ns) 0) := .intro (fun {c A G φ s v'} R V => by
    cases V using VRel.scrE with
    | scr e hc nn hd r => exact wpAny_pyIter_list ⟨_, R.gh _ _ e, hc, _, hd⟩ ⟨_, R.push _, .seq ⟨_, Heap.get?_push_size _ rfl, rfl, rfl⟩ (.scr e hc nn hd r) (own_new R _ rfl), step_push _, new_only⟩) fun _ e => by cases e
theorem mk_rng {a b c : Int} (hs : Builtin.Range.small a b c = true) : IterR σ (.rng a b c) (.rng a (Builtin.Range.rangeSize a b c) c) := .intro (fun {c A G φ s v'} R V => by
    cases V using VRel.rngE with
    | rng t u w e => exact wpAny_pyIter_range (R.gh _ _ e) hs ⟨_, R.push _, .rng (Heap.get?_push_size _ rfl) (own_new R _ rfl), step_push _, new_only⟩) fun _ e => by cases e
theorem mk_self {i : Nat} (h : SelfIt σ i) : IterR σ (.ref i) (.obj i) := .intro (fun {c A G φ s v'} R V => by
    cases V using VRel.refE with
    | ref hl => exact iterObj h R hl ⟨[], R, .obj hl, .refl .., fun _ h => nomatch h⟩) fun _ e => by cases e; exact h
theorem folded_no {e : Expr} (h : notSet e = true) (x : Value) : foldedSetIterable e env x = pure x := by
  cases e <;> first | rfl | cases h
theorem letGo_ok {t : Expr} {it : AIt} {it' v' : Value} {pr : List Addr} {s₁ : Shared} {G₁ : Imm} {φ₁ : List Loc} {Q : Unit → Shared → Prop} {E : Value → Shared → Prop} (h : LoopT t it) (I : ItRel c G₁ φ₁ s₁ it it' pr) (q : Q () s₁) :
    wpAny (Md c) A (letOwnedTupleGo t it' v') Q E s₁ := by
  cases h with
  | name => exact wpAny_pure q
  | tup hk =>
    cases I with
    | seq hI _ _ =>
      cases v' with
      | ref T => exact wpAny_letOwnedTupleGo_listiter hI q
      | _ => exact wpAny_pure q
    | _ => cases hk
inductive EvFn (P : PI) (d : Nat) (kd : Kinds) (t : Expr) (b : List Stmt) : Nat → Vars → AIt → St → Flw → Vars → St → Prop
  | fin {ρ : Vars} {it : AIt} {σ σ₁ : St} {n : Nat} (h1 : EvN P d it σ none σ₁) : EvFn P d kd t b n ρ it σ .next ρ σ₁
  | more {ρ ρ₁ ρ₂ ρ' : Vars} {it it' : AIt} {v : AVal} {σ σ₁ σ₂ σ₃ σ' : St} {f : Flw} {n : Nat} (h1 : EvN P d it σ (some (v, it')) σ₁) (h2 : EvA P d kd ρ t v σ₁ ρ₁ σ₂) (h3 : EvXs P d kd ρ₁ b σ₂ .next ρ₂ σ₃) (h4 : EvFn P d kd t b n ρ₂ it' σ₃ f ρ' σ') : EvFn P d kd t b (n + 1) ρ it σ f ρ' σ'
  | ret {ρ ρ₁ ρ₂ : Vars} {it it' : AIt} {v w : AVal} {σ σ₁ σ₂ σ₃ : St} {n : Nat} (h1 : EvN P d it σ (some (w, it')) σ₁) (h2 : EvA P d kd ρ t w σ₁ ρ₁ σ₂) (h3 : EvXs P d kd ρ₁ b σ₂ (.ret v) ρ₂ σ₃) : EvFn P d kd t b n ρ it σ (.ret v) ρ₂ σ₃
noncomputable def EvF (P : PI) (d : Nat) (kd : Kinds) (ρ : Vars) (t : Expr) (b : List Stmt) (it : AIt) (σ : St) (f : Flw) (ρ' : Vars) (σ' : St) : Prop := ∃ n, EvFn P d kd t b n ρ it σ f ρ' σ'
end
section
variable {P : PI} {d : Nat} {kd : Kinds} {ρ ρ₁ ρ₂ ρ₃ ρ' : Vars} {σ σ₁ σ₂ σ₃ σ' : St} {v a b : AVal} {p : Pos}
theorem f_end {t : Expr} {x : List Stmt} {it : AIt} (h1 : EvN P d it σ none σ₁) : EvF P d kd ρ t x it σ .next ρ σ₁ := ⟨0, .fin h1⟩
theorem f_more {t : Expr} {x : List Stmt} {it it' : AIt} {f : Flw} (h1 : EvN P d it σ (some (v, it')) σ₁) (h2 : EvA P d kd ρ t v σ₁ ρ₁ σ₂) (h3 : EvXs P d kd ρ₁ x σ₂ .next ρ₂ σ₃) (h4 : EvF P d kd ρ₂ t x it' σ₃ f ρ' σ') : EvF P d kd ρ t x it σ f ρ' σ' :=
  let ⟨n, h⟩ := h4; ⟨n + 1, .more h1 h2 h3 h⟩
inductive ForInv (c : Cx) (P : PI) (d : Nat) (A : Around) (env : Env) (kd : Kinds) (t : Expr) (b : List Stmt) (f : Flw) (ρ' : Vars) (σ' : St) (it' : Value) (pr : List Addr) (G : Imm) (φ : List Loc) (s : Shared) (k : Nat) (s₃ : Shared) : Prop
  | mk (ρ₃ : Vars) (σ₃ : St) (it₃ : AIt) (G₃ : Imm) (φ₃ : List Loc) (hok : LoopT t it₃) (hf : EvFn P d kd t b k ρ₃ it₃ σ₃ f ρ' σ') (H : HereX c P d A env kd ρ₃ G₃ φ₃ σ₃ s₃) (I : ItRel c G₃ φ₃ s₃ it₃ it' pr) (S : Step c (owns env) G φ s G₃ φ₃ s₃)
theorem x_for {t i : Expr} {b : List Stmt} {f : Flw} {it : AIt} (h0 : notSet i = true) (h1 : EvE P d kd ρ i σ v σ₁) (h2 : IterR σ₁ v it) (hok : LoopT t it) (h4 : EvF P d kd ρ t b it σ₁ f ρ' σ') : EvX P d kd ρ (.For t i b [] p) σ f ρ' σ' := .intro fun {c A env G φ s} H => by
  obtain ⟨n, h3⟩ := h4
  refine wpAny_For (wpAny_mono (h1.run H.toHere) (fun a' s₁ ⟨G₁, φ₁, R₁, V₁, S₁⟩ => wpAny_mono (h2.run R₁ V₁) (fun it' s₂ ⟨pr, R₂, I₂, S₂, hpr⟩ => ?_) fun _ _ e => e) fun _ _ e => e) (folded_no h0)
  have H₁ := H.step R₁ S₁
  have hps : ∀ a ∈ pr, s.heap.get? a = none := fun a ha => by
    cases q : s.heap.get? a with
    | none => rfl
    | some o => exact none_of_isSome (S₁.keep a (by rw [q]; rfl)) (hpr a ha)
  have hpo : ∀ a ∈ pr, a ∉ owns env := fun a ha q => none_of_isSome (H.o.away q).2 (hps a ha)
  have S₀ : Step c (owns env) G φ s G₁ φ₁ s₂ := (S₁.trans' S₂).weaken fun _ h => nomatch h
  have turn : ∀ {ρ₃ it₃ σ₃ G₃ φ₃ s₃ v it₄ σ₄ ρ₁ σ₅ fl ρ₂ σ₆} {K : Flow → Shared → Prop}, LoopT t it₃ → HereX c P d A env kd ρ₃ G₃ φ₃ σ₃ s₃ → ItRel c G₃ φ₃ s₃ it₃ it' pr → Step c (owns env) G φ s G₃ φ₃ s₃ → EvN P d it₃ σ₃ (some (v, it₄)) σ₄ → EvA P d kd ρ₃ t v σ₄ ρ₁ σ₅ → EvXs P d kd ρ₁ b σ₅ fl ρ₂ σ₆ →
      (∀ f' G₆ φ₆ s₆, FRel c G₆ φ₆ fl f' → HereX c P d A env kd ρ₂ G₆ φ₆ σ₆ s₆ → ItRel c G₆ φ₆ s₆ it₄ it' pr → Step c (owns env) G φ s G₆ φ₆ s₆ → K f' s₆) → ∀ {E E1 E2 E3 : Value → Shared → Prop} {Kn : Shared → Prop}, wpAny (Md c) A (pyNext it') (fun r s₁ => match r with
        | none => Kn s₁
        | some v => wpAny (Md c) A (letOwnedTupleGo t it' v) (fun _ s₁' => wpAny (Md c) A (PySem.assign t env v) (fun _ s₂ => wpAny (Md c) A (PySem.execs b env) K E3 s₂) E2 s₁') E1 s₁) E s₃ := by
    intro ρ₃ it₃ σ₃ G₃ φ₃ s₃ v it₄ σ₄ ρ₁ σ₅ fl ρ₂ σ₆ K hok₃ H₃ I₃ S₃ hn h5 h6 hK E E1 E2 E3 Kn
    refine noE (wpAny_mono (hn.run H.ok H.a H₃.r I₃) (fun r' s₄ q => ?_) fun _ _ e => e)
    obtain ⟨G₄, φ₄, R₄, q⟩ := q
    cases r' with
    | none => exact q.elim
    | some w' =>
      have S₄ := q.1
      have V₄ := q.2.1
      have I₄ := q.2.2
      refine letGo_ok (hn.loopOk hok₃) I₄ ?_
      have O₄ : ∀ a o, a ∈ owns env → s₃.heap.get? a = some o → s₄.heap.get? a = some o := fun a o ha e => S₄.frame a o (H₃.o.away ha).1 (fun z => hpo a z ha) e
      have H₄ : HereX c P d A env kd ρ₃ G₄ φ₄ σ₄ s₄ := ⟨⟨H.ok, H.a, H.kd, R₄, H₃.l.keeps S₄.g S₄.ext (fun a o ha e => O₄ a o (mem_owns ha) e), H₃.o.step S₄⟩, H₃.f.keeps O₄⟩
      refine noE (wpAny_mono (h5.2 H₄ V₄) (fun _ s₅ ⟨G₅, φ₅, R₅, L₅, F₅, S₅, _⟩ => ?_) fun _ _ e => e)
      have H₅ := H₄.then R₅ L₅ F₅ S₅
      exact noE (wpAny_mono (h6.run H₅) (fun f' s₆ ⟨G₆, φ₆, R₆, L₆, F₆, S₆, FR⟩ => hK f' G₆ φ₆ s₆ FR (H₅.then R₆ L₆ F₆ S₆) ((I₄.step S₅ hpo).step S₆ hpo) (((S₃.trans S₄ fun b hb => .inr (hps b hb)).trans' S₅).trans' S₆)) fun _ _ e => e)
  refine codeAny_forLoop_any (ForInv c P d A env kd t b f ρ' σ' it' pr G φ s) ?_ n
    ⟨ρ, σ₁, it, G₁, φ₁, hok, h3, H₁.step R₂ S₂, I₂, S₀⟩
  rintro k s₃ ⟨ρ₃, σ₃, it₃, G₃, φ₃, hok₃, hf, H₃, I₃, S₃⟩
  cases hf with
  | fin hn =>
    refine noE (wpAny_mono (hn.run H.ok H.a H₃.r I₃) (fun r' s₄ q => ?_) fun _ _ e => e)
    obtain ⟨G₄, φ₄, R₄, q⟩ := q
    cases r' with
    | some _ => exact q.elim
    | none =>
      have q := q.1
      have S₄ := S₃.transE q hps
      have O₄ : ∀ a o, a ∈ owns env → s₃.heap.get? a = some o → s₄.heap.get? a = some o := fun a o ha e => q.frame a o (H₃.o.away ha).1 (fun z => hpo a z ha) e
      exact noE (wpAny_execs_nil ⟨G₄, φ₄, R₄, H₃.l.keeps q.g q.ext (fun a o ha e => O₄ a o (mem_owns ha) e), H₃.f.keeps O₄, S₄, .next⟩)
  | more hn h5 h6 hf =>
    refine wpAny_mono (turn hok₃ H₃ I₃ S₃ hn h5 h6 fun f' G₆ φ₆ s₆ FR H₆ I₆ S₆ => ?_) (fun r s h => h) fun _ _ e => e
    cases FR
    exact ⟨_, Nat.lt_succ_self _, _, _, _, G₆, φ₆, hn.loopOk hok₃, hf, H₆, I₆, S₆⟩
  | ret hn h5 h6 =>
    refine wpAny_mono (turn hok₃ H₃ I₃ S₃ hn h5 h6 fun f' G₆ φ₆ s₆ FR H₆ I₆ S₆ => ?_) (fun r s h => h) fun _ _ e => e
    cases FR with
    | ret hv => exact ⟨G₆, φ₆, H₆.r, H₆.l, H₆.f, S₆, .ret hv⟩
end
end Mini
namespace Mini
open PySem PySem.W PyProof PyProof.Rows PySem.Calls
noncomputable def clos (env : Env) : List (Str × NameKind) → List (Str × Addr) → List (Str × Addr)
  | [], acc => acc
  | (n, k) :: r, acc => if k == .free then clos env r ((n, (env.cells.lookup n).getD 0) :: acc) else clos env r acc
theorem closureFor_eq {env : Env} {scope : Scope} (h : ∀ p ∈ scope.names, p.2 = .free → (env.cells.lookup p.1).isSome = true) : closureFor scope env = pure (clos env scope.names []) := by
  unfold closureFor
  have go : ∀ (l : List (Str × NameKind)) (acc : List (Str × Addr)), (∀ p ∈ l, p.2 = .free → (env.cells.lookup p.1).isSome = true) →
      (forIn l acc fun (x : Str × NameKind) (cs : List (Str × Addr)) => if x.2 == .free then (do let a ← cellOf env x.1; pure (ForInStep.yield ((x.1, a) :: cs))) else pure (ForInStep.yield cs) : Sem _) = pure (clos env l acc) := by
    intro l
    induction l with
    | nil => intro acc _; rfl
    | cons p r ih =>
      intro acc hp
      obtain ⟨n, k⟩ := p
      rw [List.forIn_cons]
      unfold clos
      by_cases q : (k == .free) = true
      · rw [if_pos q]
        have q' : k = .free := eq_of_beq q
        obtain ⟨a, ha⟩ := Option.isSome_iff_exists.mp (hp (n, k) (.head _) q')
        have e : cellOf env n = pure a := by unfold cellOf; rw [ha]
        simp only [q, if_true, ha, Option.getD_some]
        show ((cellOf env n >>= fun a => pure (ForInStep.yield ((n, a) :: acc))) >>= _) = _
        rw [e]
        exact ih _ fun p hp' => hp p (.tail _ hp')
      · have q2 : (k == NameKind.free) = false := by simpa using q
        simp only [q2, Bool.false_eq_true, if_false]
        exact ih _ fun p hp' => hp p (.tail _ hp')
  have := go scope.names [] h
  first
    | exact this
    | (show ((forIn scope.names [] _ : Sem _) >>= fun cs => pure cs) = _; rw [this]; rfl)
    | (simp only [bind_pure] ; exact this)
theorem clos_from {env : Env} {y : Str} {a : Addr} : ∀ (l : List (Str × NameKind)) (acc : List (Str × Addr)), (∀ p ∈ l, p.2 = .free → (env.cells.lookup p.1).isSome = true) → (∀ a, acc.lookup y = some a → env.cells.lookup y = some a) →
    (clos env l acc).lookup y = some a → env.cells.lookup y = some a
  | [], acc, _, h, e => h a e
  | (n, k) :: r, acc, hs, h, e => by
    unfold clos at e
    split at e
    · rename_i q
      refine clos_from r _ (fun p hp => hs p (.tail _ hp)) (fun b hb => ?_) e
      rw [List.lookup_cons] at hb
      split at hb
      · rename_i q2
        cases hb
        have := eq_of_beq q2
        subst this
        obtain ⟨x, hx⟩ := Option.isSome_iff_exists.mp (hs (y, k) (.head _) (eq_of_beq q))
        rw [hx]; rfl
      · exact h b hb
    · exact clos_from r acc (fun p hp => hs p (.tail _ hp)) h e
theorem clos_has {env : Env} {y : Str} : ∀ (l : List (Str × NameKind)) (acc : List (Str × Addr)), ((y, NameKind.free) ∈ l ∨ (acc.lookup y).isSome = true) → ((clos env l acc).lookup y).isSome = true
  | [], acc, h => by
    rcases h with h | h
    · cases h
    · exact h
  | (n, k) :: r, acc, h => by
    unfold clos
    split
    · rename_i q
      refine clos_has r _ ?_
      rcases h with h | h
      · rcases List.mem_cons.mp h with e | h
        · cases e; exact .inr (by rw [List.lookup_cons]; simp)
        · exact .inl h
      · refine .inr ?_
        rw [List.lookup_cons]
        split
        · rfl
        · exact h
    · rename_i q
      refine clos_has r acc ?_
      rcases h with h | h
      · rcases List.mem_cons.mp h with e | h
        · cases e; exact absurd rfl q
        · exact .inl h
      · exact .inr h
theorem clos_mem {env : Env} {p : Str × Addr} : ∀ (l : List (Str × NameKind)) (acc : List (Str × Addr)), (∀ p ∈ l, p.2 = .free → (env.cells.lookup p.1).isSome = true) → p ∈ clos env l acc → p ∈ acc ∨ env.cells.lookup p.1 = some p.2
  | [], acc, _, h => .inl h
  | (n, k) :: r, acc, hs, h => by
    unfold clos at h
    split at h
    · rename_i q
      rcases clos_mem r _ (fun p hp => hs p (.tail _ hp)) h with h | h
      · rcases List.mem_cons.mp h with rfl | h
        · obtain ⟨x, hx⟩ := Option.isSome_iff_exists.mp (hs (n, k) (.head _) (eq_of_beq q))
          refine .inr ?_
          dsimp only at hx ⊢
          rw [hx]; rfl
        · exact .inl h
      · exact .inr h
    · exact clos_mem r acc (fun p hp => hs p (.tail _ hp)) h
section
variable {c : Cx} {P : PI} {n d : Nat} {A : Around} {env : Env} {kd : Kinds} {ρ ρ' : Vars} {G : Imm} {φ : List Loc} {σ σ' : St} {s s' : Shared} {v : AVal}
theorem sim_append {i : Nat} {l : Loc} {vs : List AVal} {y : AVal} {y' : Value} {Q : Value → Shared → Prop} {E : Value → Shared → Prop} (R : Rel c G φ σ s) (hl : φ[i]? = some l) (ho : σ[i]? = some (.list vs)) (V : VRel c G φ y y') (hz : vs.length ≤ lim)
    (q : ∀ s', Rel c G φ (σ.set i (.list (vs ++ [y]))) s' → Step c [] G φ s G φ s' → Q .none s') : wpAny (Md c) A (call (.builtin "list.append") [.ref l.a, y']) Q E s := by
  obtain ⟨h1, h2, items, m, h3, h4⟩ := R.obj i l _ hl ho
  refine wpAny_list_append_plain (items := items.toArray) ⟨m, h3⟩ (fun h' hp hs => ?_) (by rw [List.size_toArray, ← h4.length]; exact lim_le hz)
  obtain ⟨m', e'⟩ := hp
  have ne : ∀ b, b ∉ l.a :: l.ps → b ≠ l.a := fun b hb z => hb (by rw [z]; exact .head _)
  refine q _ (R.set hl (fun b x hb _ e => (hs.2 b (ne b hb)).trans e) (fun a ha => ?_) ⟨h1, h2, items ++ [y'], m', ?_, h4.append (.cons V .nil)⟩) (step_set hl (fun b x hb _ e => (hs.2 b (ne b hb)).trans e) (fun b hb => ?_) rfl)
  · rw [h1] at ha
    cases List.mem_singleton.mp ha
    show (h'.get? _).isSome
    rw [e']; rfl
  · show h'.get? l.a = _
    rw [e']; simp
  · by_cases z : b = l.a
    · subst z; show (h'.get? _).isSome; rw [e']; rfl
    · show (h'.get? b).isSome; rw [hs.2 b z]; exact hb
theorem sim_store_local {x : Str} {v' : Value} {Q : Unit → Shared → Prop} {E : Value → Shared → Prop} (hk : env.kindOf x = some .local) (H : Here c P d A env kd ρ G φ σ s) (nl : ∀ n a, (n, a) ∈ env.cells → a ≠ env.locals) (V : VRel c G φ v v')
    (q : ∀ s', Rel c G φ σ s' → LocRel c G φ env (Vars.set ρ x v) s'.heap → Step c [env.locals] G φ s G φ s' → Q () s') : wpAny (Md c) A (storeName env x v') Q E s := by
  obtain ⟨m, hn, hv⟩ := H.l.ns
  refine wpAny_storeName_local hk hn (fun h' hn' hs => ?_) (by rw [H.l.kind]; rfl)
  have hl : (h'.get? env.locals).isSome := by obtain ⟨o, _, _, e, _⟩ := hn'; rw [e]; rfl
  refine q _ (rel_own H.r (H.o.loc _ (.head _)).1 (H.o.loc _ (.head _)).2.1 hs) ⟨H.l.kind, H.l.glob, H.l.bi, ⟨_, hn', fun y w h1 h2 => ?_⟩, fun y w h1 h2 => ?_⟩ (step_own (.head _) hs hl)
  · unfold Vars.set at h2
    split at h2
    · rename_i z; subst z; cases h2; exact ⟨v', by simp, V⟩
    · rename_i z
      obtain ⟨w', e, r⟩ := hv y w h1 h2
      exact ⟨w', by simp [z, e], r⟩
  · unfold Vars.set at h2
    split at h2
    · rename_i z; subst z; rw [hk] at h1; rcases h1 with h1 | h1 <;> cases h1
    · obtain ⟨a, w', e, hc, r⟩ := H.l.cell y w h1 h2
      exact ⟨a, w', e, hc.sameBut hs (nl _ _ (mem_of_lookup e)), r⟩
theorem forIn_false {es : List Expr} : (forIn es false fun c r => if r = true then do let ok ← isTrue c env (PySem.eval c env); pure (ForInStep.yield ok) else pure (ForInStep.yield r) : Sem Bool) = pure false := by
  induction es with
  | nil => rfl
  | cons e r ih => rw [List.forIn_cons]; simp only [Bool.false_eq_true, if_false]; exact ih
theorem EvTs.ifs {es : List Expr} {z : Bool} {op : BoolOp} (h : EvTs P d kd ρ op es σ z σ') (ho : op = .And) : ∀ {c A env G φ s}, Here c P d A env kd ρ G φ σ s →
    GivesB c A G φ s (forIn es true fun c r => if r = true then do let ok ← isTrue c env (PySem.eval c env); pure (ForInStep.yield ok) else pure (ForInStep.yield r)) z σ' := by
  induction h with
  | nil => subst ho; intro c A env G φ s H; exact wpAny_pure ⟨rfl, G, φ, H.r, .refl ..⟩
  | andF h1 =>
    intro c A env G φ s H
    unfold GivesB
    rw [List.forIn_cons]
    simp only [if_true]
    refine wpAny_bind (wpAny_bind (wpAny_mono (h1.run H) (fun z' s₁ ⟨e', G₁, φ₁, R₁, S₁⟩ => wpAny_pure ?_) fun _ _ e => e))
    subst e'
    dsimp only
    rw [forIn_false]
    exact wpAny_pure ⟨rfl, G₁, φ₁, R₁, S₁⟩
  | andT h1 h2 ih =>
    intro c A env G φ s H
    unfold GivesB
    rw [List.forIn_cons]
    simp only [if_true]
    refine wpAny_bind (wpAny_bind (wpAny_mono (h1.run H) (fun z' s₁ ⟨e', G₁, φ₁, R₁, S₁⟩ => wpAny_pure ?_) fun _ _ e => e))
    subst e'
    exact GivesB.after (ih rfl (H.step R₁ S₁)) S₁
  | orT => cases ho
  | orF => cases ho
inductive EvCn (P : PI) (d : Nat) (kd : Kinds) (ρ : Vars) (x : Str) (elt : Expr) (ifs : List Expr) (acc : Nat) : Nat → AIt → St → St → Prop
  | fin {n : Nat} {it : AIt} {σ σ₁ : St} (h1 : EvN P d it σ none σ₁) : EvCn P d kd ρ x elt ifs acc n it σ σ₁
  | take {n : Nat} {it it' : AIt} {a v : AVal} {vs : List AVal} {σ σ₁ σ₂ σ₃ σ' : St} (h1 : EvN P d it σ (some (a, it')) σ₁) (h2 : EvTs P d kd (Vars.set ρ x a) .And ifs σ₁ true σ₂) (h3 : EvE P d kd (Vars.set ρ x a) elt σ₂ v σ₃) (h4 : σ₃[acc]? = some (.list vs)) (h5 : vs.length ≤ lim)
      (h6 : EvCn P d kd ρ x elt ifs acc n it' (σ₃.set acc (.list (vs ++ [v]))) σ') : EvCn P d kd ρ x elt ifs acc (n + 1) it σ σ'
  | skip {n : Nat} {it it' : AIt} {a : AVal} {σ σ₁ σ₂ σ' : St} (h1 : EvN P d it σ (some (a, it')) σ₁) (h2 : EvTs P d kd (Vars.set ρ x a) .And ifs σ₁ false σ₂) (h6 : EvCn P d kd ρ x elt ifs acc n it' σ₂ σ') : EvCn P d kd ρ x elt ifs acc (n + 1) it σ σ'
noncomputable def EvCm (P : PI) (d : Nat) (kd : Kinds) (ρ : Vars) (x : Str) (elt : Expr) (ifs : List Expr) (acc : Nat) (it : AIt) (σ : St) (σ' : St) : Prop := ∃ n, EvCn P d kd ρ x elt ifs acc n it σ σ'
theorem cm_end {x elt ifs acc it} {σ₁ : St} (h1 : EvN P d it σ .none σ₁) : EvCm P d kd ρ x elt ifs acc it σ σ₁ := ⟨0, .fin h1⟩
theorem cm_take {x elt ifs acc it it' vs} {a : AVal} {σ₁ σ₂ σ₃ : St} (h1 : EvN P d it σ (some (a, it')) σ₁) (h2 : EvTs P d kd (Vars.set ρ x a) .And ifs σ₁ true σ₂) (h3 : EvE P d kd (Vars.set ρ x a) elt σ₂ v σ₃) (h4 : σ₃[acc]? = some (.list vs)) (h5 : vs.length ≤ lim)
    (h6 : EvCm P d kd ρ x elt ifs acc it' (σ₃.set acc (.list (vs ++ [v]))) σ') : EvCm P d kd ρ x elt ifs acc it σ σ' := let ⟨n, h⟩ := h6; ⟨n + 1, .take h1 h2 h3 h4 h5 h⟩
theorem cm_skip {x elt ifs acc it it'} {a : AVal} {σ₁ σ₂ : St} (h1 : EvN P d it σ (some (a, it')) σ₁) (h2 : EvTs P d kd (Vars.set ρ x a) .And ifs σ₁ false σ₂) (h6 : EvCm P d kd ρ x elt ifs acc it' σ₂ σ') : EvCm P d kd ρ x elt ifs acc it σ σ' := let ⟨n, h⟩ := h6; ⟨n + 1, .skip h1 h2 h⟩
theorem relabelK_eq (scope : Scope) (hk : env.scope.kind = .function) (hkd : kd = env.kindOf) (y : Str) : relabelK scope.names kd y = (relabel scope env).names.lookup y := by
  subst hkd
  unfold relabelK relabel
  congr 1
  refine List.map_congr_left fun p _ => ?_
  rw [hk]
  cases p.2 <;> simp
inductive CompEnd (c : Cx) (G : Imm) (φ : List Loc) (s : Shared) (acc : Nat) (accA C : Addr) (σ' : St) (s' : Shared) : Prop
  | mk (G' : Imm) (φ' : List Loc) (R : Rel c G' φ' σ' s') (S : Step c [] G φ s G' φ' s') (a : ∃ la : Loc, φ'[acc]? = some la ∧ la.a = accA) (n : ∃ m, s'.heap.Ns C m) (o : OwnOk c G' φ' [C] s')
inductive CmInv (c : Cx) (P : PI) (d : Nat) (A : Around) (cenv : Env) (kd' : Kinds) (ρ₀ : Vars) (x : Str) (elt : Expr) (ifs : List Expr) (acc : Nat) (accA : Addr) (it' : Value) (pr : List Addr) (σ' : St) (G : Imm) (φ : List Loc) (s : Shared) (k : Nat) (s₂ : Shared) : Prop
  | mk (σ₂ : St) (it₂ : AIt) (G₂ : Imm) (φ₂ : List Loc) (h : EvCn P d kd' ρ₀ x elt ifs acc k it₂ σ₂ σ') (H : Here c P d A cenv kd' ρ₀ G₂ φ₂ σ₂ s₂) (I : ItRel c G₂ φ₂ s₂ it₂ it' pr) (S : Step c [] G φ s G₂ φ₂ s₂) (la : Loc) (h1 : φ₂[acc]? = some la) (h2 : la.a = accA)
theorem comp_loop {x : Str} {px pos : Pos} {elt iter : Expr} {ifs : List Expr} {scope : Scope} {acc : Nat} {accA : Addr} {it : AIt} {it' : Value} {pr : List Addr} {cenv : Env} {kd' : Kinds} {ρ₀ : Vars} {G₁ : Imm} {φ₁ : List Loc} {σ₁ : St} {s₁ : Shared} {R : Result → Shared → Prop}
    (h : EvCm P d kd' ρ₀ x elt ifs acc it σ₁ σ') (H : Here c P d A cenv kd' ρ₀ G₁ φ₁ σ₁ s₁) (I : ItRel c G₁ φ₁ s₁ it it' pr) (S : Step c [] G φ s G₁ φ₁ s₁) (ha : ∃ la : Loc, φ₁[acc]? = some la ∧ la.a = accA)
    (hx : cenv.kindOf x = some .local) (hx0 : ρ₀ x = none) (nl : ∀ n a, (n, a) ∈ cenv.cells → a ≠ cenv.locals) (hC : s.heap.get? cenv.locals = none) (hp : ∀ a ∈ pr, s.heap.get? a = none) (hpc : ∀ a ∈ pr, a ∉ owns cenv)
    (hR : ∀ s', CompEnd c G φ s acc accA cenv.locals σ' s' → R (.ok .next) s') :
    codeAny (Md c) A (.compLoop (.ListComp elt [⟨.Name x px, iter, ifs, 0⟩] scope pos) 0 it' (.ref accA) cenv) R s₁ := by
  obtain ⟨n, h⟩ := h
  obtain ⟨la₀, ha₁, ha₂⟩ := ha
  refine codeAny_compLoop_tests (CmInv c P d A cenv kd' ρ₀ x elt ifs acc accA it' pr σ' G φ s) ?_ n
    ⟨σ₁, it, G₁, φ₁, h, H, I, S, la₀, ha₁, ha₂⟩
  rintro k s₂ ⟨σ₂, it₂, G₂, φ₂, hc, H₂, I₂, S₂, la, hla, hae⟩
  have noown : ∀ (a : Addr), a ∈ pr → a ∉ ([] : List Addr) := fun _ _ h => nomatch h
  have hdp : ∀ a ∈ pr, a ∉ [cenv.locals] := fun a ha z => hpc a ha (by rw [List.mem_singleton.mp z]; exact .head _)
  have back : ∀ {w G₆ φ₆ σ₆ s₆}, Rel c G₆ φ₆ σ₆ s₆ → LocRel c G₆ φ₆ cenv (Vars.set ρ₀ x w) s₆.heap → Owns c G₆ φ₆ cenv s₆ → Here c P d A cenv kd' ρ₀ G₆ φ₆ σ₆ s₆ := fun R₆ L₆ O₆ =>
    ⟨H.ok, H.a, H.kd, R₆, ⟨L₆.kind, L₆.glob, L₆.bi, (let ⟨m, hn, hv⟩ := L₆.ns; ⟨m, hn, fun y u h1 h2 => hv y u h1 (by
        unfold Vars.set
        split
        · rename_i z; subst z; rw [hx0] at h2; cases h2
        · exact h2)⟩), fun y u h1 h2 => L₆.cell y u h1 (by
        unfold Vars.set
        split
        · rename_i z; subst z; rw [hx0] at h2; cases h2
        · exact h2)⟩, O₆⟩
  -- one element is taken and bound
  have turn : ∀ {w it₃ σ₃} {K : Shared → Prop}, EvN P d it₂ σ₂ (some (w, it₃)) σ₃ → (∀ G₃ φ₃ s₄, Here c P d A cenv kd' (Vars.set ρ₀ x w) G₃ φ₃ σ₃ s₄ → ItRel c G₃ φ₃ s₄ it₃ it' pr → Step c [] G φ s G₃ φ₃ s₄ → (∃ la : Loc, φ₃[acc]? = some la ∧ la.a = accA) → K s₄) →
      ∀ {E : Value → Shared → Prop} {Kn : Shared → Prop}, wpAny (Md c) A (pyNext it') (fun r s₃ => match r with
        | none => Kn s₃
        | some v => wpAny (Md c) A (PySem.assign (.Name x px) cenv v) (fun _ s₄ => K s₄) E s₃) E s₂ := by
    intro w it₃ σ₃ K hn hK E Kn
    refine noE (wpAny_mono (hn.run H.ok H.a H₂.r I₂) (fun r' s₃ q => ?_) fun _ _ e => e)
    obtain ⟨G₃, φ₃, R₃, q⟩ := q
    cases r' with
    | none => exact q.elim
    | some w' =>
      obtain ⟨S₃, V₃, I₃⟩ := q
      have O₃ : ∀ a o, a ∈ owns cenv → s₂.heap.get? a = some o → s₃.heap.get? a = some o := fun a o ha e => S₃.frame a o (H₂.o.away ha).1 (fun z => hpc a z ha) e
      have H₃ : Here c P d A cenv kd' ρ₀ G₃ φ₃ σ₃ s₃ := ⟨H.ok, H.a, H.kd, R₃, H₂.l.keeps S₃.g S₃.ext (fun a o ha e => O₃ a o (mem_owns ha) e), H₂.o.step S₃⟩
      refine wpAny_assign_Name (sim_store_local hx H₃ nl V₃ fun s₄ R₄ L₄ S₄ => ?_)
      obtain ⟨la₃, e₃, ha₃, _⟩ := S₃.ext _ _ hla
      exact hK G₃ φ₃ s₄ ⟨H.ok, H.a, H.kd, R₄, L₄, H₃.o.step S₄⟩ (I₃.step S₄ hdp) ((S₂.trans S₃ fun b hb => .inr (hp b hb)).trans S₄ fun b hb => .inr (by rw [List.mem_singleton.mp hb]; exact hC)) ⟨la₃, e₃, ha₃.trans hae⟩
  cases hc with
  | fin hn =>
    refine noE (wpAny_mono (hn.run H.ok H.a H₂.r I₂) (fun r' s₃ q => ?_) fun _ _ e => e)
    obtain ⟨G₃, φ₃, R₃, q⟩ := q
    cases r' with
    | some _ => exact q.elim
    | none =>
      have q := q.1
      obtain ⟨la', e', ha', _⟩ := q.ext _ _ hla
      obtain ⟨mm, ⟨o, es, ep, ho, hr⟩, _⟩ := H₂.l.ns
      have hC₂ := H₂.o.loc cenv.locals (.head _)
      have hCp : cenv.locals ∉ pr := fun z => hpc _ z (.head _)
      have hCs := q.frame _ _ hC₂.1 hCp ho
      refine hR _ ⟨G₃, φ₃, R₃, S₂.transE q hp, ⟨la', e', ha'.trans hae⟩, ⟨mm, o, es, ep, hCs, hr⟩, fun a ha => ?_⟩
      cases List.mem_singleton.mp ha
      refine ⟨fun z => ?_, ?_, by rw [hCs]; rfl⟩
      · rcases q.foot _ z with z | z
        · exact hC₂.1 z
        · exact none_of_isSome hC₂.2.2 z
      · cases z : G₃ cenv.locals with
        | none => rfl
        | some o' =>
          rcases q.dom _ _ z with z | z
          · rw [hC₂.2.1] at z; cases z
          · exact none_of_isSome hC₂.2.2 z
  | take hn h2 h3 h4 h5 h6 =>
    refine wpAny_mono (turn hn fun G₃ φ₃ s₄ H₄ I₄ SS₄ hla₃ => noE (wpAny_mono (h2.ifs rfl H₄) (fun ok' s₅ ⟨e, G₅, φ₅, R₅, S₅⟩ => ?_) fun _ _ e => e)) (fun r s h => h) fun _ _ e => e
    subst e
    have H₅ := H₄.step R₅ S₅
    obtain ⟨la₃, e₃, ha₃⟩ := hla₃
    obtain ⟨la₅, e₅, ha₅, _⟩ := S₅.ext _ _ e₃
    simp only [if_true]
    refine noE (wpAny_mono (h3.run H₅) (fun y' s₆ ⟨G₆, φ₆, R₆, V₆, S₆⟩ => ?_) fun _ _ e => e)
    have H₆ := H₅.step R₆ S₆
    obtain ⟨la₆, e₆, ha₆, _⟩ := S₆.ext _ _ e₅
    have ha₆' : la₆.a = accA := ha₆.trans (ha₅.trans ha₃)
    rw [← ha₆']
    refine sim_append R₆ e₆ h4 V₆ h5 fun s₇ R₇ S₇ => ?_
    have H₇ := H₆.step R₇ S₇
    exact ⟨_, Nat.lt_succ_self _, _, _, G₆, φ₆, h6, back R₇ H₇.l H₇.o, ((I₄.step S₅ noown).step S₆ noown).step S₇ noown, ((SS₄.trans' S₅).trans' S₆).trans' S₇, la₆, e₆, rfl⟩
  | skip hn h2 h6 =>
    refine wpAny_mono (turn hn fun G₃ φ₃ s₄ H₄ I₄ SS₄ hla₃ => noE (wpAny_mono (h2.ifs rfl H₄) (fun ok' s₅ ⟨e, G₅, φ₅, R₅, S₅⟩ => ?_) fun _ _ e => e)) (fun r s h => h) fun _ _ e => e
    subst e
    have H₅ := H₄.step R₅ S₅
    obtain ⟨la₃, e₃, ha₃⟩ := hla₃
    obtain ⟨la₅, e₅, ha₅, _⟩ := S₅.ext _ _ e₃
    simp only [Bool.false_eq_true, if_false]
    exact ⟨_, Nat.lt_succ_self _, _, _, G₅, φ₅, h6, back R₅ H₅.l H₅.o, I₄.step S₅ noown, SS₄.trans' S₅, la₅, e₅, ha₅.trans ha₃⟩
end
end Mini
namespace Mini
open PySem PySem.W PyProof PyProof.Rows PySem.Calls
section
variable {c : Cx} {P : PI} {n d : Nat} {A : Around} {env : Env} {kd : Kinds} {ρ ρ' : Vars} {G : Imm} {φ : List Loc} {σ σ' σ₁ : St} {s s' : Shared} {v a : AVal}
theorem iterSelf {it : AIt} {it' : Value} {pr : List Addr} {Q : Value → Shared → Prop} {E : Value → Shared → Prop} (R : Rel c G φ σ s) (I : ItRel c G φ s it it' pr) (hm : ∀ i, it = .obj i → SelfIt σ i) (q : Q it' s) : wpAny (Md c) A (pyIter it') Q E s := by
  cases I with
  | seq hI _ _ => exact wpAny_pyIter_listiter hI q
  | rng hI _ => exact wpAny_pyIter_rangeiter hI q
  | tup hI _ _ => exact wpAny_pyIter_tupleiter hI q
  | chars hI _ => exact wpAny_pyIter_striter_ascii hI q
  | obj hl => exact iterObj (hm _ rfl) R hl q
  | dkeys hI _ _ _ _ => exact wpAny_pyIter_keyiter hI q
theorem SelfIt.grow {i : Nat} (h : SelfIt σ i) (o : AObj) : SelfIt (σ ++ [o]) i := by
  have k : ∀ {x : AObj}, σ[i]? = some x → (σ ++ [o])[i]? = some x := fun e => by rw [List.getElem?_append_left (List.getElem?_eq_some_iff.mp e).1]; exact e
  cases h with
  | liter q => exact .liter (k q)
  | lend q => exact .lend (k q)
  | gen q => exact .gen (k q)
theorem all_mem {α : Type} {p : α → Bool} {l : List α} (h : l.all p = true) {x : α} (hx : x ∈ l) : p x = true := List.all_eq_true.mp h x hx
theorem comp_run {x : Str} {px pos : Pos} {elt iter : Expr} {ifs : List Expr} {scope : Scope} {it : AIt} {use : Option (Value → Sem Unit)} {Q : Value → Shared → Prop} {pos' : Pos}
    (hok' : compOk scope kd ρ x = true) (hset : notSet iter = true) (h1 : EvE P d kd ρ iter σ a σ₁) (h2 : IterR σ₁ a it)
    (h3 : EvCm P d (relabelK scope.names kd) (freeVars (relabelK scope.names kd) ρ) x elt ifs σ₁.length it (σ₁ ++ [.list []]) σ') (H : Here c P d A env kd ρ G φ σ s)
    (hQ : ∀ accA C s', s.heap.get? C = none → CompEnd c G φ s σ₁.length accA C σ' s' → compPost (Md c) A (fun _ _ => False) use Q (.ref accA) C (.ok .next) s') :
    wpAny (Md c) A (comprehension (.ListComp elt [⟨.Name x px, iter, ifs, 0⟩] scope pos) scope env pos' (PySem.newList []) false (PySem.eval iter env) use) Q (fun _ _ => False) s := by
  unfold compOk at hok'
  simp only [Bool.and_eq_true] at hok'
  obtain ⟨⟨hk, hall⟩, hxl⟩ := hok'
  have hk := eq_of_beq hk
  have hxl := eq_of_beq hxl
  have hfree : ∀ p ∈ scope.names, p.2 = .free → (kd p.1 = some .cell ∨ kd p.1 = some .free) ∧ (ρ p.1).isSome = true := fun p hp hf => by
    have := all_mem hall hp
    simp only [Bool.and_eq_true, Bool.or_eq_true, bne_iff_ne, ne_eq, beq_iff_eq] at this
    rcases this.2 with z | z
    · exact absurd hf z
    · exact z
  have hcell : ∀ p ∈ scope.names, p.2 ≠ .cell := fun p hp => by
    have := all_mem hall hp
    simp only [Bool.and_eq_true, bne_iff_ne, ne_eq] at this
    exact this.1.1
  have hnames : ∀ p ∈ scope.names, p.2 = .local → scope.names.lookup p.1 = some .local := fun p hp hl => by
    have := all_mem hall hp
    simp only [Bool.and_eq_true, Bool.or_eq_true, bne_iff_ne, ne_eq, beq_iff_eq] at this
    rcases this.1.2 with z | z
    · exact absurd hl z
    · exact z
  have hlook : ∀ p ∈ scope.names, p.2 = .free → (env.cells.lookup p.1).isSome = true := fun p hp hf => by
    obtain ⟨h1, h2⟩ := hfree p hp hf
    obtain ⟨w, hw⟩ := Option.isSome_iff_exists.mp h2
    rw [H.kd] at h1
    obtain ⟨ca, _, e, _⟩ := H.l.cell p.1 w h1 hw
    rw [e]; rfl
  refine wpAny_comprehension_free rfl (folded_no hset) (closureFor_eq hlook) hk hnames ?_
  refine wpAny_mono (h1.run H) (fun a' s₁ ⟨G₁, φ₁, R₁, V₁, S₁⟩ => wpAny_mono (h2.run R₁ V₁) (fun it' s₂ ⟨pr, R₂, I₂, S₂, hpr⟩ => ?_) fun _ _ e => e) fun _ _ e => e
  have H₂ := (H.step R₁ S₁).step R₂ S₂
  refine wpAny_newList ?_ (by rw [sizeLine_eq]; exact Nat.zero_le _)
  obtain ⟨G₃, φ₃, R₃, V₃, S₃⟩ := R₂.newList (vs := []) (items := []) .nil
  have H₃ := H₂.step R₃ S₃
  refine wpAny_newFunctionEnv hcell (fun _ hb => nomatch hb) (fun h' hn hs => ?_) hk
  -- the block's own names
  generalize hs₃ : ({ s₂ with heap := s₂.heap.push { cls := .type "list", data := .seq ([] : List Value).toArray } } : Shared) = s₃ at *
  have k4 : ∀ b o, s₃.heap.get? b = some o → h'.get? b = some o := fun b o e => hs.extBut b o (fun z => by rw [z, get?_size] at e; cases e) (Heap.get?_push_of_some _ e)
  have S₄ : Step c [] G₃ φ₃ s₃ G₃ φ₃ { s₃ with heap := h', toks := s₃.toks + ([] : List (Str × Value)).length } := step_ext k4
  have R₄ := rel_ext (tk := s₃.toks + ([] : List (Str × Value)).length) R₃ k4
  have H₄ := H₃.step R₄ S₄
  have SS : Step c [] G φ s G₃ φ₃ { s₃ with heap := h', toks := s₃.toks + ([] : List (Str × Value)).length } := ((S₁.trans' S₂).trans' S₃).trans' S₄
  have dead : ∀ {b : Addr}, s₁.heap.get? b = none → s.heap.get? b = none := fun {b} e => by
    cases q : s.heap.get? b with
    | none => rfl
    | some o => exact none_of_isSome (S₁.keep b (by rw [q]; rfl)) e
  have dead3 : s.heap.get? s₃.heap.objs.size = none := by
    cases q : s.heap.get? s₃.heap.objs.size with
    | none => rfl
    | some o => exact none_of_isSome (((S₁.trans' S₂).trans' S₃).keep _ (by rw [q]; rfl)) (get?_size _)
  have hCl : (h'.get? s₃.heap.objs.size).isSome := by obtain ⟨o, _, _, e, _⟩ := hn; rw [e]; rfl
  have hcs : ∀ p ∈ clos env scope.names [], env.cells.lookup p.1 = some p.2 := fun p hp => (clos_mem _ _ hlook hp).elim (fun z => nomatch z) id
  have hcl : ∀ p ∈ clos env scope.names [], p.2 ≠ s₃.heap.objs.size := fun p hp z => by
    have := (H₃.o.cel _ _ (hcs p hp)).2.1
    rw [z, get?_size] at this; cases this
  let cenv : Env := { newEnv scope s₃.heap.objs.size env.globals (clos env scope.names []) env.qual none .none (some env) builtinsNs with scope := relabel scope env }
  have hkd : relabelK scope.names kd = cenv.kindOf := funext fun y => relabelK_eq scope H.l.kind H.kd y
  have hlocal : ∀ y, scope.names.lookup y = some .local → cenv.kindOf y = some .local := fun y hy => lookup_relabel_local hy
  have hfreeOf : ∀ y, (cenv.kindOf y = some .cell ∨ cenv.kindOf y = some .free) → (y, NameKind.free) ∈ scope.names := fun y hy => by
    have hm : ∃ k, (y, k) ∈ (relabel scope env).names ∧ (k = .cell ∨ k = .free) := by
      rcases hy with hy | hy
      · exact ⟨_, mem_of_lookup hy, .inl rfl⟩
      · exact ⟨_, mem_of_lookup hy, .inr rfl⟩
    obtain ⟨k, hm, hkk⟩ := hm
    obtain ⟨⟨y', k'⟩, hp, e⟩ := List.mem_map.mp hm
    dsimp only at e
    split at e
    · rename_i q
      simp only [Bool.and_eq_true] at q
      cases e
      have := eq_of_beq q.1.1
      subst this
      exact hp
    · cases e
      rcases hkk with z | z
      · exact absurd z (hcell _ hp)
      · subst z; exact hp
  have L₄ : LocRel c G₃ φ₃ cenv (freeVars (relabelK scope.names kd) ρ) h' := by
    refine ⟨hk, H.l.glob, H.l.bi, ⟨_, hn, fun y w h1 h2 => ?_⟩, fun y w h1 h2 => ?_⟩
    · unfold freeVars at h2
      rw [hkd, h1] at h2
      (cases h2)
    · have hy := hfreeOf y h1
      have h2' : ρ y = some w := by
        unfold freeVars at h2
        rw [hkd] at h2
        rcases h1 with z | z <;> (rw [z] at h2; exact h2)
      obtain ⟨hko, _⟩ := hfree _ hy rfl
      rw [H.kd] at hko
      obtain ⟨ca, w', e, hc, r⟩ := H₄.l.cell y w hko h2'
      obtain ⟨ca', e'⟩ := Option.isSome_iff_exists.mp (clos_has (env := env) scope.names [] (.inl hy))
      have := clos_from scope.names [] hlook (fun _ z => by cases z) e'
      rw [e] at this
      cases this
      exact ⟨ca, w', e', hc, r⟩
  have hcellOf : ∀ y, cenv.kindOf y = some .cell → env.kindOf y = some .cell := fun y hy => by
    obtain ⟨⟨y', k'⟩, hp, e⟩ := List.mem_map.mp (show (y, NameKind.cell) ∈ (relabel scope env).names from mem_of_lookup hy)
    dsimp only at e
    split at e
    · rename_i q
      simp only [Bool.and_eq_true] at q
      cases e
      first
        | exact eq_of_beq q.2
        | exact eq_of_beq q.1.2
    · cases e
      exact absurd rfl (hcell _ hp)
  have O₄ : Owns c G₃ φ₃ cenv { s₃ with heap := h', toks := s₃.toks + ([] : List (Str × Value)).length } := by
    refine ⟨fun b hb => ?_, fun y b hb => ?_⟩
    · cases List.mem_singleton.mp hb
      exact ⟨R₃.fresh_foot (get?_size _), R₃.fresh_G (get?_size _), hCl⟩
    · obtain ⟨z1, z2, z3⟩ := H₄.o.cel y b (hcs (y, b) (mem_of_look hb))
      exact ⟨z1, z2, fun hy => z3 (hcellOf y hy)⟩
  have HC : Here c P d A cenv (relabelK scope.names kd) (freeVars (relabelK scope.names kd) ρ) G₃ φ₃ (σ₁ ++ [.list []]) { s₃ with heap := h', toks := s₃.toks + ([] : List (Str × Value)).length } := ⟨H.ok, H.a, hkd, R₄, L₄, O₄⟩
  have noown : ∀ (a : Addr), a ∈ pr → a ∉ ([] : List Addr) := fun _ _ h => nomatch h
  have I₄ := (I₂.step S₃ noown).step S₄ noown
  have hla : ∃ la : Loc, φ₃[σ₁.length]? = some la ∧ la.a = s₂.heap.objs.size := by
    generalize hv : (Value.ref s₂.heap.objs.size) = vv at V₃
    cases V₃ using VRel.refE with
    | ref e => exact ⟨_, e, (Value.ref.inj hv).symm⟩
  have hpc : ∀ b ∈ pr, b ∉ owns cenv := fun b hb z => by
    have hb1 := hpr b hb
    rcases of_owns z with z | ⟨x, z⟩
    · subst z
      have := (I₂.step S₃ noown).own _ hb
      exact none_of_isSome this.2.2 (get?_size _)
    · have := ((H.step R₁ S₁).o.cel x b (hcs (x, b) (mem_of_look z))).2.1
      exact none_of_isSome this hb1
  have loop : ∀ {it'' : Value} (_ : it'' = it'), codeAny (Md c) A (.compLoop (.ListComp elt [⟨.Name x px, iter, ifs, 0⟩] scope pos) 0 it'' (.ref s₂.heap.objs.size) cenv) (compPost (Md c) A (fun _ _ => False) use Q (.ref s₂.heap.objs.size) cenv.locals) { s₃ with heap := h', toks := s₃.toks + ([] : List (Str × Value)).length } := by
    intro it'' e
    subst e
    refine comp_loop h3 HC I₄ SS hla (hlocal x hxl) ?_ (fun n a hm => hcl (n, a) hm) dead3 (fun a ha => dead (hpr a ha)) hpc fun s' hs' => hQ _ _ s' dead3 hs'
    unfold freeVars
    rw [hkd, hlocal x hxl]
  refine codeAny_compStart_list (loop rfl) ?_
  exact noE (iterSelf R₄ I₄ (fun i hi => by subst hi; exact (h2.self _ rfl).grow _) (loop rfl))
end
section
variable {P : PI} {d : Nat} {kd : Kinds} {ρ ρ₁ ρ₂ ρ₃ ρ' : Vars} {σ σ₁ σ₂ σ₃ σ' : St} {v a b : AVal} {p : Pos}
theorem e_comp {elt iter : Expr} {x : Str} {px : Pos} {ifs : List Expr} {scope : Scope} {it : AIt} (h0 : compOk scope kd ρ x = true) (h0' : notSet iter = true) (h1 : EvE P d kd ρ iter σ a σ₁) (h2 : IterR σ₁ a it)
    (h3 : EvCm P d (relabelK scope.names kd) (freeVars (relabelK scope.names kd) ρ) x elt ifs σ₁.length it (σ₁ ++ [.list []]) σ') : EvE P d kd ρ (.ListComp elt [⟨.Name x px, iter, ifs, 0⟩] scope p) σ (.ref σ₁.length) σ' := .intro fun {c A env G φ s} H => by
  show wpAny (Md c) A (comprehension (.ListComp elt [⟨.Name x px, iter, ifs, 0⟩] scope p) scope env _ (PySem.newList []) false (PySem.eval iter env) none) _ _ s
  refine comp_run h0 h0' h1 h2 h3 H fun accA C s' hC ⟨G', φ', R', S', ⟨la, hla, hae⟩, ⟨m, hm⟩, O⟩ => ⟨m, hm, fun h' hs => ?_⟩
  have k : ∀ b o, b ≠ C → s'.heap.get? b = some o → h'.get? b = some o := fun b o hb e => (hs.2 b hb).trans e
  refine ⟨G', φ', rel_priv (tk := s'.toks) R' O k, by rw [← hae]; exact .ref hla, S'.transE (stepE_priv (tk := s'.toks) k) fun b hb => by cases List.mem_singleton.mp hb; exact hC⟩
end
end Mini
namespace Mini
open PySem PySem.W PySem.W.X PyProof PyProof.Rows PySem.Calls
theorem bindL_out {kindOf : Str → Option NameKind} {y : Str} : ∀ (b : List (Str × Value)) (m : Str → Option Value), (∀ p ∈ b, p.1 ≠ y) → bindL kindOf b m y = m y
  | [], _, _ => rfl
  | (n, v) :: r, m, h => by
    unfold bindL
    rw [bindL_out r _ fun p hp => h p (.tail _ hp)]
    split
    · have := h (n, v) (.head _)
      simp [Ne.symm this]
    · rfl
theorem bindC_out {kindOf : Str → Option NameKind} {y : Str} : ∀ (b : List (Str × Value)) (m : Str → Option Value), (∀ p ∈ b, p.1 ≠ y) → bindC kindOf b m y = m y
  | [], _, _ => rfl
  | (n, v) :: r, m, h => by
    unfold bindC
    rw [bindC_out r _ fun p hp => h p (.tail _ hp)]
    split
    · rfl
    · have := h (n, v) (.head _)
      simp [Ne.symm this]
theorem zip_keys {ps : List Str} {vs : List Value} {p : Str × Value} (h : p ∈ ps.zip vs) : p.1 ∈ ps := (List.of_mem_zip (show (p.1, p.2) ∈ ps.zip vs from h)).1
theorem bind_local {c : Cx} {G : Imm} {φ : List Loc} {kindOf : Str → Option NameKind} {y : Str} {w : AVal} (hk : kindOf y = some .local) : ∀ (ps : List Str) (vs : List AVal) (vs' : List Value) (m : Str → Option Value), ps.Nodup → VsRel c G φ vs vs' → bindAll ps vs y = some w →
    ∃ w', bindL kindOf (ps.zip vs') m y = some w' ∧ VRel c G φ w w'
  | [], _, _, _, _, _, h => by simp [bindAll] at h
  | p :: ps, [], _, _, _, _, h => by simp [bindAll] at h
  | p :: ps, v :: vs, _, m, hn, .cons hv hvs, h => by
    obtain ⟨h1, h2⟩ := List.nodup_cons.mp hn
    rw [List.zip_cons_cons]
    unfold bindL
    unfold bindAll at h
    split at h
    · rename_i q
      subst q
      cases h
      refine ⟨_, ?_, hv⟩
      rw [bindL_out _ _ fun p hp q => h1 (by rw [← q]; exact zip_keys hp)]
      simp [hk]
    · exact bind_local hk ps vs _ _ h2 hvs h
theorem bind_cell {c : Cx} {G : Imm} {φ : List Loc} {kindOf : Str → Option NameKind} {y : Str} {w : AVal} (hk : kindOf y ≠ some .local) : ∀ (ps : List Str) (vs : List AVal) (vs' : List Value) (m : Str → Option Value), ps.Nodup → VsRel c G φ vs vs' → bindAll ps vs y = some w →
    ∃ w', bindC kindOf (ps.zip vs') m y = some w' ∧ VRel c G φ w w'
  | [], _, _, _, _, _, h => by simp [bindAll] at h
  | p :: ps, [], _, _, _, _, h => by simp [bindAll] at h
  | p :: ps, v :: vs, _, m, hn, .cons hv hvs, h => by
    obtain ⟨h1, h2⟩ := List.nodup_cons.mp hn
    rw [List.zip_cons_cons]
    unfold bindC
    unfold bindAll at h
    split at h
    · rename_i q
      subst q
      cases h
      refine ⟨_, ?_, hv⟩
      rw [bindC_out _ _ fun p hp q => h1 (by rw [← q]; exact zip_keys hp)]
      simp [hk]
    · exact bind_cell hk ps vs _ _ h2 hvs h
noncomputable def callable : AVal → Bool
  | .fn _ | .cls | .gfn .. | .bi _ | .ty _ | .lam .. => true
  | _ => false
noncomputable def EvC (P : PI) (d : Nat) (fv : AVal) (vs : List AVal) (σ : St) (v : AVal) (σ' : St) : Prop := callable fv = true ∧ ∀ {c A G φ s f' vs'}, COk c P → GoodA d A → Rel c G φ σ s → VRel c G φ fv f' → VsRel c G φ vs vs' → Gives c A G φ s (call f' vs') v σ'
section
variable {c : Cx} {P : PI} {n d : Nat} {A : Around} {env : Env} {kd : Kinds} {ρ ρ' : Vars} {G : Imm} {φ : List Loc} {σ σ' : St} {s s' : Shared} {v : AVal}
theorem GoodA.deeper {d : Nat} {A : Around} (h : GoodA (d + 1) A) (env : Env) : GoodA d (A.deeper env) :=
  ⟨h.hh, by show A.depth + 1 + 4 * d < 900; have := h.depth; lia, by show A.units + 3 + 40 * d < 9000; have := h.units; lia⟩
noncomputable def retOf : Flw → Option AVal
  | .ret w => some w
  | .next => some .none
  | _ => .none
noncomputable def Imm.over (G G₀ : Imm) : Imm := fun a => match G₀ a with
  | some o => some o
  | .none => G a
theorem Rel.addG {G₀ : Imm} (R : Rel c G φ σ s) (h1 : ∀ a o, G₀ a = some o → s.heap.get? a = some o) (h2 : ∀ a o, G₀ a = some o → a ∉ foot c φ ∧ G a = none) : Rel c (G.over G₀) φ σ s ∧ Imm.Sub G (G.over G₀) := by
  have sub : Imm.Sub G (G.over G₀) := fun a o e => by
    unfold Imm.over
    split
    · rename_i q; rw [(h2 a _ q).2] at e; cases e
    · exact e
  refine ⟨⟨fun a o e => sub a o (R.gB a o e), fun a o e => ?_, fun a ha => ?_, R.len, R.nodup, R.live, fun i l o e1 e2 => (R.obj i l o e1 e2).frame sub (.refl _) (fun _ _ _ e => e) fun _ _ => rfl, R.gn, R.bare, fun q hq => (R.tab q hq).mono sub fun _ e => e⟩, sub⟩
  · unfold Imm.over at e
    split at e
    · rename_i q; cases e; exact h1 a _ q
    · exact R.gh a o e
  · unfold Imm.over
    split
    · rename_i q; exact absurd ha (h2 a _ q).1
    · exact R.gf a ha
theorem fn_enterE {f : Fn} {ps : List Str} {body : List Stmt} {names : List (Str × NameKind)} {vs : List AVal} {vs' : List Value} (F : FnOk c f ps body names) (hlen : ps.length = vs.length)
    (ok : COk c P) (ha : GoodA (d + 1) A) (R : Rel c G φ σ s) (V : VsRel c G φ vs vs') {Q : Value → Shared → Prop} {E : Value → Shared → Prop}
    (h : ∀ env s₁ G₁, env = callEnvC f.fd s.heap.objs.size f.addr → HereX c P d (A.deeper env) env (fun x => names.lookup x) (bindAll ps vs) G₁ φ σ s₁ → Step c [] G φ s G₁ φ s₁ → (∀ a ∈ owns env, s.heap.get? a = none) →
      wpAny (Md c) (A.deeper env) (PySem.execs body env) (fun fl s₂ => Q (match fl with | .ret v => v | _ => .none) s₂) (fun e s' => wpAny (Md c) (A.deeper env) (leaving env e) (fun _ s'' => E e s'') (fun e' s'' => E e' s'') s') s₁) :
    codeAny (Md c) A (.call (.ref f.addr) ⟨vs', []⟩) (fun r s' => match r with | .ok (.ret v) => Q v s' | .ok _ => False | .error e => E e s') s := by
  obtain ⟨o, ho, hd⟩ := F.o
  have hL : vs'.length = ps.length := by rw [← V.length, hlen]
  refine codeAny_call_cells ha.room (R.keepB _ _ ho) hd (ok.ok.nolimit.keeps R.keepB) (F.code.keeps R.keepB) F.body (F.bind vs' hL) F.clo (fun x hx => ?_) (fun s₁ IC => ?_) F.co F.gen F.kind
  · rw [F.nm]
    rcases F.pk x.1 (zip_keys hx) with z | z
    · exact .inl z
    · exact .inr ⟨z, F.cells _ z _⟩
  · let env : Env := callEnvC f.fd s.heap.objs.size f.addr
    have hkd : (fun x => names.lookup x) = env.kindOf := funext fun x => by
      show names.lookup x = f.fd.scope.names.lookup x
      rw [F.nm]
    obtain ⟨h₁, tk, e, keep⟩ := IC.done
    have S : Step c [] G φ s G φ s₁ := by rw [e]; exact step_ext keep
    have R₁ : Rel c G φ σ s₁ := by rw [e]; exact rel_ext R keep
    have hcell : ∀ x a, env.cells.lookup x = some a → s₁.heap.IsCell a (bindC env.kindOf (ps.zip vs') (fun _ => none) x) := fun x a hx => IC.cell x a hx
    have fresh : ∀ a ∈ owns env, s.heap.get? a = none := fun a ha => by
      have hge : s.heap.objs.size ≤ a := by
        rcases of_owns ha with rfl | ⟨x, ha⟩
        · exact Nat.le_refl _
        · exact Nat.le_of_lt (IC.above x a (mem_of_look ha))
      cases z : s.heap.get? a with
      | none => rfl
      | some o => exact absurd (Heap.lt_size z) (Nat.not_lt.mpr hge)
    have alive : ∀ a ∈ owns env, (s₁.heap.get? a).isSome := fun a ha => by
      rcases of_owns ha with rfl | ⟨x, ha⟩
      · obtain ⟨o, _, _, e, _⟩ := IC.toInCall.ns
        show (s₁.heap.get? (callEnvC f.fd s.heap.objs.size f.addr).locals).isSome
        rw [e]; rfl
      · obtain ⟨o, ho, _⟩ := hcell _ _ ha
        rw [ho]; rfl
    have O : OwnOk c G φ (owns env) s₁ := fun a ha => ⟨R.fresh_foot (fresh a ha), R.fresh_G (fresh a ha), alive a ha⟩
    have L : LocRel c G φ env (bindAll ps vs) s₁.heap := by
      refine ⟨F.kind, F.glob, F.bi, ⟨_, IC.toInCall.ns, fun y w h1 h2 => bind_local h1 ps vs vs' _ F.nodup V h2⟩, fun y w h1 h2 => ?_⟩
      have hk : env.kindOf y = some .cell := by
        rcases h1 with z | z
        · exact z
        · rw [← hkd] at z; exact absurd z (F.nofree y)
      have hc : (env.cells.lookup y).isSome = true := by
        show ((cellsFrom _ f.fd.scope.names []).lookup y).isSome = true
        rw [F.nm]
        exact F.cells y (by rw [← hkd] at hk; exact hk) _
      obtain ⟨a, hca⟩ := Option.isSome_iff_exists.mp hc
      obtain ⟨w', e, r⟩ := bind_cell (kindOf := env.kindOf) (by rw [hk]; simp) ps vs vs' (fun _ => none) F.nodup V h2
      exact ⟨a, w', hca, e ▸ hcell y a hca, r⟩
    have FO : FrOk env s₁.heap := by
      refine ⟨fun x hx => ?_, fun x y a _ e1 e2 => name_of_addr IC.apart (mem_of_lookup e2) (mem_of_lookup e1), fun n a hm => Nat.ne_of_gt (IC.above n a hm)⟩
      have hc : (env.cells.lookup x).isSome = true := by
        show ((cellsFrom _ f.fd.scope.names []).lookup x).isSome = true
        rw [F.nm]
        exact F.cells x (by rw [← hkd] at hx; exact hx) _
      obtain ⟨a, hca⟩ := Option.isSome_iff_exists.mp hc
      exact ⟨a, _, hca, hcell x a hca⟩
    let G₀ : Imm := fun a => if a ∈ (env.cells.filter fun p => c.frz p.1 && (env.kindOf p.1 == some .cell && env.cells.lookup p.1 == some p.2)).map (·.2) then s₁.heap.get? a else none
    have hin : ∀ a o, G₀ a = some o → s₁.heap.get? a = some o ∧ a ∈ owns env ∧ ∃ x, (x, a) ∈ env.cells ∧ c.frz x = true := fun a o e => by
      unfold G₀ at e
      split at e
      · rename_i hm
        obtain ⟨p, hp, rfl⟩ := List.mem_map.mp hm
        obtain ⟨h1, h2⟩ := List.mem_filter.mp hp
        rw [Bool.and_eq_true, Bool.and_eq_true] at h2
        exact ⟨e, mem_owns (.inr ⟨p.1, eq_of_beq h2.2.2⟩), p.1, h1, h2.1⟩
      · cases e
    obtain ⟨R₂, sub⟩ := R₁.addG (G₀ := G₀) (fun a o e => (hin a o e).1) (fun a o e => ⟨(O a (hin a o e).2.1).1, (O a (hin a o e).2.1).2.1⟩)
    have S₂ : Step c [] G φ s (G.over G₀) φ s₁ := by
      refine ⟨fun a o e => sub a o e, S.ext, S.foot, fun b o e => ?_, S.frame, S.keep, S.os, S.gsz, S.gfr, S.gft⟩
      unfold Imm.over at e
      split at e
      · rename_i q; exact .inr (fresh b (hin b _ q).2.1)
      · exact .inl e
    have O₂ : Owns c (G.over G₀) φ env s₁ := by
      refine ⟨fun a ha => ?_, fun x a hx => ?_⟩
      · cases List.mem_singleton.mp ha
        obtain ⟨o1, o2, o3⟩ := O env.locals (List.mem_cons_self ..)
        refine ⟨o1, ?_, o3⟩
        unfold Imm.over
        split
        · rename_i q
          obtain ⟨_, _, x, hx, _⟩ := hin _ _ q
          exact absurd rfl (FO.nl x _ hx)
        · exact o2
      · obtain ⟨o1, o2, o3⟩ := O a (mem_owns (.inr ⟨x, hx⟩))
        refine ⟨o1, o3, fun hk => ?_⟩
        split
        · rename_i hz
          obtain ⟨o, ho⟩ := Option.isSome_iff_exists.mp o3
          have : G₀ a = some o := by
            unfold G₀
            rw [if_pos (List.mem_map.mpr ⟨(x, a), List.mem_filter.mpr ⟨mem_of_look hx, by rw [hz, hk, hx, beq_self_eq_true]; simp⟩, rfl⟩)]
            exact ho
          unfold Imm.over
          rw [this]; rfl
        · rename_i hz
          unfold Imm.over
          split
          · rename_i q
            obtain ⟨_, _, y, hy, hzy⟩ := hin _ _ q
            have e := name_of_addr IC.apart hy (mem_of_look hx)
            rw [e] at hzy
            exact absurd hzy hz
          · exact o2
    have H : HereX c P d (A.deeper env) env (fun x => names.lookup x) (bindAll ps vs) (G.over G₀) φ σ s₁ := ⟨⟨ok, ha.deeper env, hkd, R₂, L.keeps sub (.refl _) fun _ _ _ e => e, O₂⟩, FO⟩
    refine wpAny_mono (h env s₁ _ rfl H S₂ fresh) (fun f' s₂ hq => ?_) fun _ _ e => e
    cases f' <;> exact hq
theorem fn_enter {f : Fn} {ps : List Str} {body : List Stmt} {names : List (Str × NameKind)} {vs : List AVal} {vs' : List Value} (F : FnOk c f ps body names) (hlen : ps.length = vs.length)
    (ok : COk c P) (ha : GoodA (d + 1) A) (R : Rel c G φ σ s) (V : VsRel c G φ vs vs') {Q : Value → Shared → Prop} {E : Value → Shared → Prop}
    (h : ∀ env s₁ G₁, env = callEnvC f.fd s.heap.objs.size f.addr → HereX c P d (A.deeper env) env (fun x => names.lookup x) (bindAll ps vs) G₁ φ σ s₁ → Step c [] G φ s G₁ φ s₁ → (∀ a ∈ owns env, s.heap.get? a = none) →
      wpAny (Md c) (A.deeper env) (PySem.execs body env) (fun fl s₂ => Q (match fl with | .ret v => v | _ => .none) s₂) (fun _ _ => False) s₁) :
    codeAny (Md c) A (.call (.ref f.addr) ⟨vs', []⟩) (fun r s' => match r with | .ok (.ret v) => Q v s' | .ok _ => False | .error e => E e s') s :=
  fn_enterE F hlen ok ha R V fun env s₁ G₁ e H S fr => noE (h env s₁ G₁ e H S fr)
theorem callFn {f : Fn} {ps : List Str} {body : List Stmt} {names : List (Str × NameKind)} {vs : List AVal} {vs' : List Value} {fl : Flw} {ρ' : Vars} (F : FnOk c f ps body names)
    (h : EvXs P d (fun x => names.lookup x) (bindAll ps vs) body σ fl ρ' σ') (hlen : ps.length = vs.length) (hfl : retOf fl = some v)
    (ok : COk c P) (ha : GoodA (d + 1) A) (R : Rel c G φ σ s) (V : VsRel c G φ vs vs') {Q : Value → Shared → Prop} {E : Value → Shared → Prop} (q : ∀ v' s' G' φ', Rel c G' φ' σ' s' → VRel c G' φ' v v' → Step c [] G φ s G' φ' s' → Q v' s') :
    codeAny (Md c) A (.call (.ref f.addr) ⟨vs', []⟩) (fun r s' => match r with | .ok (.ret v) => Q v s' | .ok _ => False | .error e => E e s') s := by
  refine fn_enter F hlen ok ha R V fun env s₁ _ _ H S fresh => wpAny_mono (h.run H) (fun f' s₂ ⟨G₂, φ₂, R₂, _, _, S₂, FR⟩ => ?_) fun _ _ e => e
  have SS : Step c [] G φ s G₂ φ₂ s₂ := S.trans S₂ fun b hb => .inr (fresh b hb)
  cases FR with
  | next => cases hfl; exact q _ _ _ _ R₂ .none SS
  | ret hv => cases hfl; exact q _ _ _ _ R₂ hv SS
  | brk => cases hfl
  | cont => cases hfl
end
section
variable {P : PI} {d : Nat} {ρ' : Vars} {σ σ' : St} {v : AVal}
theorem c_fnAny {x : Str} {ps : List Str} {body : List Stmt} {names : List (Str × NameKind)} {vs : List AVal} {fl : Flw} (h0 : P.fn x = some (ps, body, names)) (h2 : ps.length = vs.length) (hr : retOf fl = some v)
    (h3 : EvXs P d (fun x => names.lookup x) (bindAll ps vs) body σ fl ρ' σ') : EvC P (d + 1) (.fn x) vs σ v σ' := ⟨rfl, fun ok ha R Vf V => by
  obtain ⟨f, hf, F⟩ := ok.fn x ps body names h0
  cases Vf using VRel.fnE with
  | fn e =>
    rw [hf] at e; cases e
    exact wpAny_call (callFn F h3 h2 hr ok ha R V fun v' s' G' φ' R' V' S' => ⟨G', φ', R', V', S'⟩)⟩
theorem c_fn {x : Str} {ps : List Str} {body : List Stmt} {names : List (Str × NameKind)} {vs : List AVal} (h0 : P.fn x = some (ps, body, names)) (h1 : P.maker x = none) (h2 : ps.length = vs.length)
    (h3 : EvXs P d (fun x => names.lookup x) (bindAll ps vs) body σ (.ret v) ρ' σ') : EvC P (d + 1) (.fn x) vs σ v σ' := c_fnAny h0 h2 rfl h3
end
end Mini
namespace Mini
open PySem PySem.W PySem.W.X PyProof PyProof.Rows PySem.Calls
section
variable {prog : Program} {w : World} {A : Around} {E : Value → Shared → Prop} {s : Shared} {Q : Option Value → Shared → Prop}
noncomputable def nextPost (Q : Option Value → Shared → Prop) (g : Nat) (e : End) (s₁ : Shared) : Prop := match e with
  | .ret r => r = .ok (.ret .none) ∧ ∀ h', (∀ b o, s₁.heap.get? b = some o → h'.get? b = some o) → Q none { s₁.setGen g .finished with heap := h' }
  | .susp v gd l k c p fs => Q (some v) (s₁.setGen g (End.susp v gd l k c p fs).genState)
theorem next_gen {a : Addr} {g : Nat} {gs : GenState} {c₀ : Code} {t₀ : Sem PySem.Fin} {fs₀ : List Frame} (hh : A.handled = none) (hl : s.heap.NoLimit) (hroom : A.depth < recursionLimit) (hg : s.heap.IsGen a g) (hgs : s.gens[g]? = some gs)
    (hst : (gs = .fresh c₀ ∧ t₀ = denote table c₀ ∧ fs₀ = []) ∨ ∃ k₀ l₀ p₀ cl, gs = .suspended k₀ l₀ c₀ p₀ fs₀ cl ∧ t₀ = k₀ (.send .none))
    (x : SegX (model prog w) A.in1 c₀ t₀ fs₀ (s.setGen g .running) (nextPost Q g)) :
    wpAny (model prog w) A (pyNext (.ref a)) Q E s := by
  unfold pyNext
  refine wpAny_bind (wpAny_attempt (wpAny_callSpecial?_slot (name := Str.ofString "__next__") hg.typeIs slot_gen_next
    (wpAny_call_entry slot_gen_next hg.typeIs entry_gen_next ?_ (args_gen_next _))))
  show wpAny _ _ (Builtin.Generator.genWake (.ref a) (.send .none)) _ _ s
  unfold Builtin.Generator.genWake
  refine wpAny_bind (wpAny_holding (wpAny_genNumber hg (wpAny_bind (wpAny_genState hgs ?_))))
  have hst' : (gs = .fresh c₀ ∧ (Resume.send Value.none) = .send .none ∧ t₀ = denote table c₀ ∧ fs₀ = []) ∨ ∃ k₀ l₀ p₀ cl, gs = .suspended k₀ l₀ c₀ p₀ fs₀ cl ∧ t₀ = k₀ (.send .none) := by
    rcases hst with ⟨h1, h2, h3⟩ | h
    · exact .inl ⟨h1, rfl, h2, h3⟩
    · exact .inr h
  have go : ∀ {α : Type} {Q' : α → Shared → Prop} {E' : Value → Shared → Prop} {k : GenResult → Sem α}, (∀ e s₁, nextPost Q g e s₁ → wpAny (model prog w) A.in1 (k e.result) Q' E' (s₁.setGen g e.genState)) → wpAny (model prog w) A.in1 (.resume g (.send .none) [] k) Q' E' s := by
    intro α Q' E' k hk Γ p hΓ
    exact wake_any α prog w hgs hst' (fun Γ => Γ.In A.in1) (fun _ h => h) (x.mono fun e s₁ h Γ p hΓ => hk e s₁ h Γ p hΓ) Γ p hΓ
  cases gs with
  | running => rcases hst with ⟨h, _⟩ | ⟨_, _, _, _, h, _⟩ <;> cases h
  | finished => rcases hst with ⟨h, _⟩ | ⟨_, _, _, _, h, _⟩ <;> cases h
  | _ =>
    refine wpAny_bind (wpAny_roomToWake hl hroom ?_)
    show wpAny _ _ (.resume g (.send .none) [] _) _ _ s
    refine go fun e s₁ he => ?_
    cases e with
    | ret r =>
      obtain ⟨rfl, hp⟩ := he
      show wpAny _ _ (newExc (.type "StopIteration") [] >>= _) _ _ _
      refine wpAny_bind ?_
      simp only [newExc, newTuple]
      refine wpAny_bind (wpAny_newObj_type ?_ (by size_fits))
      refine wpAny_bind (m := firstArgMember _ _) (wpAny_of_eq (a := Value.none) (by first | rfl | (simp only [firstArgMember]; rfl)) ?_)
      refine wpAny_newObj_type ?_ (by size_fits)
      simp only [raiseNew]
      refine wpAny_bind (wpAny_bind (wpAny_handled ?_))
      first | rw [show A.in1.handled = none from hh] | rw [hh]
      refine wpAny_throw ?_
      refine wpAny_bind (wpAny_isInstance (T := "StopIteration") (b := true) ⟨_, Heap.get?_push_size _ rfl, rfl⟩ isSubtype_stop ?_)
      exact wpAny_pure (hp _ fun b o hb => Heap.get?_push_of_some _ (Heap.get?_push_of_some _ hb))
    | susp v gd l k c p fs => exact wpAny_pure ⟨v, rfl, wpAny_pure he⟩
theorem next_gen_over {a : Addr} {g : Nat} (hh : A.handled = none) (hg : s.heap.IsGen a g) (hgs : s.gens[g]? = some .finished)
    (hQ : ∀ h', (∀ b o, s.heap.get? b = some o → h'.get? b = some o) → Q none { s with heap := h' }) :
    wpAny (model prog w) A (pyNext (.ref a)) Q E s := by
  unfold pyNext
  refine wpAny_bind (wpAny_attempt (wpAny_callSpecial?_slot (name := Str.ofString "__next__") hg.typeIs slot_gen_next
    (wpAny_call_entry slot_gen_next hg.typeIs entry_gen_next ?_ (args_gen_next _))))
  show wpAny _ _ (Builtin.Generator.genWake (.ref a) (.send .none)) _ _ s
  unfold Builtin.Generator.genWake
  refine wpAny_bind (wpAny_holding (wpAny_genNumber hg (wpAny_bind (wpAny_genState hgs ?_))))
  show wpAny _ _ (.resume g (.send .none) [] _) _ _ s
  intro Γ p hΓ
  rw [Sem.wp_resume]
  refine ⟨.finished, s, by unfold Wakes; rw [hgs]; exact ⟨rfl, rfl⟩, ?_⟩
  revert Γ p hΓ
  show wpAny _ A.in1 (newExc (.type "StopIteration") [] >>= _) _ _ _
  refine wpAny_bind ?_
  simp only [newExc, newTuple]
  refine wpAny_bind (wpAny_newObj_type ?_ (by size_fits))
  refine wpAny_bind (m := firstArgMember _ _) (wpAny_of_eq (a := Value.none) (by first | rfl | (simp only [firstArgMember]; rfl)) ?_)
  refine wpAny_newObj_type ?_ (by size_fits)
  simp only [raiseNew]
  refine wpAny_bind (wpAny_handled ?_)
  first | rw [show A.in1.handled = none from hh] | rw [hh]
  refine wpAny_throw ?_
  refine wpAny_bind (wpAny_isInstance (T := "StopIteration") (b := true) ⟨_, Heap.get?_push_size _ rfl, rfl⟩ isSubtype_stop ?_)
  exact wpAny_pure (hQ _ fun b o hb => Heap.get?_push_of_some _ (Heap.get?_push_of_some _ hb))
end
section
variable {prog : Program} {w : World} {A : Around} {c : Code} {fs : List Frame} {Φ : End → Shared → Prop} {s : Shared} {env : Env} {K : Flow → Sem PySem.Fin} {H : Value → Sem PySem.Fin} {gd : Bool → Bool} {lv : List Value → List Value}
theorem sx_wrap {α : Type} {m : Sem α} {K : α → Sem PySem.Fin} {H : Value → Sem PySem.Fin} (h : wpAny (model prog w) (A.over c fs) m (fun a s' => SegX (model prog w) A c (K a) fs s' Φ) (fun x s' => SegX (model prog w) A c (H x) fs s' Φ) s) :
    SegX (model prog w) A c (m.wrap K H gd lv) fs s Φ := by
  rintro Γ p rfl hΓ
  obtain ⟨e, s', hr, hq⟩ := runs_wrap_of_wp (Φ := fun e s' => e.quiet = true ∧ Φ e s') K H gd lv m (h (Γ.over fs) p (hΓ.over fs)) (fun a p' s' h' => h' Γ p' rfl hΓ) (fun x p' s' h' => h' Γ p' rfl hΓ)
  exact ⟨e, s', hr, hq⟩
theorem sx_wrap' {α : Type} {m : Sem α} {K : α → Sem PySem.Fin} {H : Value → Sem PySem.Fin} (h : wpAny (model prog w) (A.over c fs) m (fun a s' => SegX (model prog w) A c (K a) fs s' Φ) (fun _ _ => False) s) :
    SegX (model prog w) A c (m.wrap K H gd lv) fs s Φ := sx_wrap (wpAny_mono h (fun _ _ x => x) fun _ _ x => x.elim)
theorem sx_at {p' : Pos} {k : Unit → Sem PySem.Fin} (h : SegX (model prog w) A c (k ()) fs s Φ) : SegX (model prog w) A c (.at p' k) fs s Φ :=
  sx_wrap (m := standAt p') (K := k) (H := .raise) (gd := id) (lv := id) (wpAny_standAt h)
theorem sx_point {l : List Value} {k : Unit → Sem PySem.Fin} (h : SegX (model prog w) A c (k ()) fs s Φ) : SegX (model prog w) A c (.point l k) fs s Φ :=
  sx_wrap (m := point) (K := k) (H := .raise) (gd := id) (lv := fun _ => l) (wpAny_point h)
theorem sx_execs_cons {st : Stmt} {rest : List Stmt}
    (h : SegX (model prog w) A c ((PySem.exec st env).wrap (fun f => match f with | .next => (PySem.execs rest env).wrap K H gd lv | f => K f) H gd lv) fs s Φ) :
    SegX (model prog w) A c ((PySem.execs (st :: rest) env).wrap K H gd lv) fs s Φ := by rw [execs_cons_wrap]; exact h
theorem sx_If {t : Expr} {b o : List Stmt} {pos : Pos} (h : wpAny (model prog w) (A.over c fs) (isTrue t env (PySem.eval t env)) (fun z s₁ => SegX (model prog w) A c ((if z = true then PySem.execs b env else PySem.execs o env).wrap K H gd lv) fs s₁ Φ) (fun _ _ => False) s) :
    SegX (model prog w) A c ((PySem.exec (.If t b o pos) env).wrap K H gd lv) fs s Φ := by
  rw [exec_If]
  show SegX _ A c (.at pos fun _ => ((isTrue t env (PySem.eval t env) >>= fun z => if z = true then PySem.execs b env else PySem.execs o env)).wrap K H gd lv) fs s Φ
  refine sx_at ?_
  rw [Sem.bind_eq_wrap', Sem.wrap_wrap]
  exact sx_wrap' h
theorem sx_yield {e : Expr} {ypos pos : Pos} (hfs : splitAtGen fs = none) (hgd : gd false = false) (hfg : fs.any Frame.guarded = false) (hco : env.scope.isCoroutine = false) (hi : interactive env = false)
    (h : wpAny (model prog w) (A.over c fs) (PySem.eval e env) (fun v s' => ∀ kk l p, (∀ A' Φ' s'', SegX (model prog w) A' c (K .next) fs s'' Φ' → SegX (model prog w) A' c (kk (.send .none)) fs s'' Φ') → Φ (.susp v false l kk c p fs) s') (fun _ _ => False) s) :
    SegX (model prog w) A c ((PySem.exec (.Expr (.Yield (some e) ypos) pos) env).wrap K H gd lv) fs s Φ := by
  rw [exec_Expr env _ pos hi rfl]
  show SegX _ A c (.at pos fun _ => ((PySem.eval e env >>= fun v => (standAt ypos >>= fun _ => yieldOut env v)) >>= fun x =>
    dropValue (.Yield (some e) ypos) pos x).wrap K H gd lv) fs s Φ
  have hy : ∀ v, yieldOut env v = yieldValue v := fun v => by simp only [yieldOut, hco, Bool.false_eq_true, if_false]
  simp only [hy]
  refine sx_at ?_
  rw [Sem.bind_eq_wrap', Sem.bind_eq_wrap', Sem.wrap_wrap, Sem.wrap_wrap]
  refine sx_wrap' (wpAny_mono h (fun v s' h' => ?_) fun _ _ x => x)
  refine sx_at ?_
  show SegX _ A c (.yield v (gd false) _ _) fs s' Φ
  rw [hgd]
  refine s_yield prog w A c fs Φ s' v _ _ hfs hfg fun p => h' _ _ p fun A' Φ' s'' hx => ?_
  exact hx
theorem sx_func {body : List Stmt}
    (h : SegX (model prog w) A (.func body env) ((PySem.execs body env).wrap (fun f => .pure (.done (.ret (match f with | .ret v => v | _ => .none))))
      (fun e => (leaving env e).wrap (fun _ => .raise e) .raise id id) id id) fs s Φ) :
    SegX (model prog w) A (.func body env) (denote table (.func body env)) fs s Φ := by
  show SegX _ A _ (.point [] fun _ => ((PySem.execs body env).onRaise (leaving env)) >>= _) fs s Φ
  refine sx_point ?_
  rw [Sem.onRaise_eq_wrap, Sem.bind_eq_wrap', Sem.wrap_wrap]
  rw [Sem.wrap_congr (PySem.execs body env) _ _ (K' := fun f => .pure (.done (.ret (match f with | .ret v => v | _ => .none))))
    (H' := fun e => (leaving env e).wrap (fun _ => .raise e) .raise id id) (fun f => by cases f <;> rfl)
    (fun e => by rw [Sem.bind_eq_wrap, Sem.wrap_wrap]; rfl)]
  exact h
noncomputable def loopFrame (env : Env) (K : Flow → Sem PySem.Fin) (H : Value → Sem PySem.Fin) (gd : Bool → Bool) (lv : List Value → List Value) (c : Code) (p : Pos) : Frame :=
  .ret (fun r => ((match r with | .ok f => (.pure f : Sem Flow) | .error e => .raise e).onRaise fun (x : Value) => do
        if (← field x 1) == Value.none then unsupported "frame.own-activation:exception-without-traceback"
        setFlight x env.frame).wrap K H gd lv) none (gd false) (lv []) c p []
theorem sx_For {target iter : Expr} {body orelse : List Stmt} {pos : Pos} (hs : ∀ x, foldedSetIterable iter env x = pure x)
    (h : wpAny (model prog w) (A.over c fs) (PySem.eval iter env) (fun x s₁ => wpAny (model prog w) (A.over c fs) (pyIter x) (fun it s₂ => ∀ p,
      SegX (model prog w) A (.forLoop target it body orelse env) (denote table (.forLoop target it body orelse env)) (loopFrame env K H gd lv c p :: fs) s₂ Φ) (fun _ _ => False) s₁) (fun _ _ => False) s) :
    SegX (model prog w) A c ((PySem.exec (.For target iter body orelse pos) env).wrap K H gd lv) fs s Φ := by
  rw [exec_For]
  show SegX _ A c (.at pos fun _ => ((PySem.eval iter env >>= fun y => foldedSetIterable iter env y >>= fun x => (standAt iter.pos >>= fun _ => holding [x] (pyIter x) >>= fun it => runOwn (.forLoop target it body orelse env) env)).wrap K H gd lv)) fs s Φ
  refine sx_at ?_
  rw [Sem.bind_eq_wrap', Sem.wrap_wrap]
  refine sx_wrap' (wpAny_mono h (fun x s₁ h₁ => ?_) fun _ _ e => e)
  rw [hs x]
  show SegX _ A c (.at iter.pos fun _ => ((holding [x] (pyIter x) >>= fun it => runOwn (.forLoop target it body orelse env) env).wrap K H gd lv)) fs s₁ Φ
  refine sx_at ?_
  rw [Sem.bind_eq_wrap', Sem.wrap_wrap]
  refine sx_wrap' (wpAny_holding (wpAny_mono h₁ (fun it s₂ h₂ => ?_) fun _ _ e => e))
  exact s_call prog w A c fs Φ s₂ _ _ _ _ _ fun p => h₂ p
theorem sx_forTurn {x : Str} {px : Pos} {it : Value} {body : List Stmt}
    (h : wpAny (model prog w) (A.over (.forLoop (.Name x px) it body [] env) fs) (pyNext it) (fun r s₁ => match r with
      | none => SegX (model prog w) A (.block [] env) (leafOf (.ok .next)) fs s₁ Φ
      | some v => wpAny (model prog w) (A.over (.forLoop (.Name x px) it body [] env) fs) (storeName env x v) (fun _ s₂ =>
          SegX (model prog w) A (.forLoop (.Name x px) it body [] env) ((PySem.execs body env).wrap (fun f => match f with
            | .next | .cont => .pure (.again (.forLoop (.Name x px) it body [] env))
            | .brk => .pure (.done .next)
            | .ret v => .pure (.done (.ret v))) (fun e => (do noteFrame e env; theTreesLotGoes e : Sem Unit).wrap (fun _ => .raise e) .raise id id) id id) fs s₂ Φ) (fun _ _ => False) s₁) (fun _ _ => False) s) :
    SegX (model prog w) A (.forLoop (.Name x px) it body [] env) (denote table (.forLoop (.Name x px) it body [] env)) fs s Φ := by
  show SegX _ A _ ((forTurn (.Name x px) it body [] env).onRaise (fun x => do noteFrame x env; theTreesLotGoes x)) fs s Φ
  unfold forTurn
  rw [Sem.onRaise_eq_wrap]
  show SegX _ A _ (.at px fun _ => ((((pyNext it).onRaise (fun _ => standAt { px with line := 0 })) >>= _).wrap _ _ _ _)) fs s Φ
  refine sx_at ?_
  rw [Sem.bind_eq_wrap', Sem.wrap_wrap]
  refine sx_wrap' (wpAny_onRaise (wpAny_mono h (fun r s₁ h₁ => ?_) fun _ _ e => e.elim))
  cases r with
  | none => exact s_again prog w A _ fs Φ s₁ _ rfl h₁
  | some v =>
    show SegX _ A _ ((letOwnedTupleGo (.Name x px) it v >>= fun _ => PySem.assign (.Name x px) env v >>= fun _ => PySem.execs body env >>= _).wrap _ _ _ _) fs s₁ Φ
    rw [show letOwnedTupleGo (.Name x px) it v = pure () from rfl]
    show SegX _ A _ ((PySem.assign (.Name x px) env v >>= fun _ => PySem.execs body env >>= _).wrap _ _ _ _) fs s₁ Φ
    rw [Sem.bind_eq_wrap', Sem.wrap_wrap]
    refine sx_wrap' (wpAny_assign_Name (wpAny_mono h₁ (fun _ s₂ h₂ => ?_) fun _ _ e => e))
    rw [Sem.bind_eq_wrap', Sem.wrap_wrap]
    rw [Sem.wrap_congr (PySem.execs body env) _ _ (K' := fun f => match f with
            | .next | .cont => .pure (.again (.forLoop (.Name x px) it body [] env))
            | .brk => .pure (.done .next)
            | .ret v => .pure (.done (.ret v))) (H' := (fun e => (do noteFrame e env; theTreesLotGoes e : Sem Unit).wrap (fun _ => .raise e) .raise id id))
        (fun f => by cases f <;> rfl)
        (fun e => by first | exact Sem.bind_eq_wrap _ _ | (show (do noteFrame e env; theTreesLotGoes e : Sem Unit).bind (fun _ => .raise e) = _; rw [Sem.bind_eq_wrap]))]
    exact h₂
end
theorem mem_set_flat {α β : Type} {f : α → List β} {y : α} {a : β} : ∀ {l : List α} {i : Nat}, a ∈ (l.set i y).flatMap f → a ∈ f y ∨ ∃ j z, j ≠ i ∧ l[j]? = some z ∧ a ∈ f z
  | [], i, h => by simp at h
  | x :: r, 0, h => by
    rw [List.set_cons_zero, List.flatMap_cons] at h
    rcases List.mem_append.mp h with h | h
    · exact .inl h
    · obtain ⟨z, hz, ha⟩ := List.mem_flatMap.mp h
      obtain ⟨j, hj⟩ := List.getElem?_of_mem hz
      exact .inr ⟨j + 1, z, by lia, by simpa using hj, ha⟩
  | x :: r, i + 1, h => by
    rw [List.set_cons_succ, List.flatMap_cons] at h
    rcases List.mem_append.mp h with h | h
    · exact .inr ⟨0, x, by lia, rfl, h⟩
    · rcases mem_set_flat h with h | ⟨j, z, hj, hz, ha⟩
      · exact .inl h
      · exact .inr ⟨j + 1, z, by lia, by simpa using hz, ha⟩
theorem nodup_set_flat {α β : Type} {f : α → List β} {y x : α} : ∀ {l : List α} {i : Nat}, (l.flatMap f).Nodup → l[i]? = some x → (f y).Nodup → (∀ a ∈ f y, a ∈ f x ∨ a ∉ l.flatMap f) → ((l.set i y).flatMap f).Nodup
  | [], i, _, h, _, _ => by simp at h
  | z :: r, 0, hd, hx, hy, hm => by
    simp at hx
    subst hx
    rw [List.flatMap_cons] at hd
    obtain ⟨h1, h2, h3⟩ := List.nodup_append.mp hd
    rw [List.set_cons_zero, List.flatMap_cons]
    refine List.nodup_append.mpr ⟨hy, h2, fun a ha b hb e => ?_⟩
    subst e
    rcases hm a ha with q | q
    · exact h3 a q a hb rfl
    · exact q (by rw [List.flatMap_cons]; exact List.mem_append_right _ hb)
  | z :: r, i + 1, hd, hx, hy, hm => by
    simp at hx
    rw [List.flatMap_cons] at hd
    obtain ⟨h1, h2, h3⟩ := List.nodup_append.mp hd
    rw [List.set_cons_succ, List.flatMap_cons]
    have hm' : ∀ a ∈ f y, a ∈ f x ∨ a ∉ r.flatMap f := fun a ha => (hm a ha).imp id fun q z => q (by rw [List.flatMap_cons]; exact List.mem_append_right _ z)
    refine List.nodup_append.mpr ⟨h1, nodup_set_flat h2 hx hy hm', fun a ha b hb e => ?_⟩
    subst e
    have hx' : ∀ w ∈ f x, w ∈ r.flatMap f := fun w hw => List.mem_flatMap.mpr ⟨x, List.mem_of_getElem? hx, hw⟩
    rcases mem_set_flat hb with q | ⟨j, w, hj, hw, hq⟩
    · rcases hm a q with q' | q'
      · exact h3 a ha a (hx' a q') rfl
      · exact q' (by rw [List.flatMap_cons]; exact List.mem_append_left _ ha)
    · exact h3 a ha a (List.mem_flatMap.mpr ⟨w, List.mem_of_getElem? hw, hq⟩) rfl
theorem filterMap_set_same {α β : Type} {f : α → Option β} {y x : α} (h : f y = f x) : ∀ {l : List α} {i : Nat}, l[i]? = some x → (l.set i y).filterMap f = l.filterMap f
  | [], i, hx => by simp at hx
  | z :: r, 0, hx => by simp at hx; subst hx; rw [List.set_cons_zero, List.filterMap_cons, List.filterMap_cons, h]
  | z :: r, i + 1, hx => by simp at hx; rw [List.set_cons_succ, List.filterMap_cons, List.filterMap_cons, filterMap_set_same h hx]
section
variable {c : Cx} {P : PI} {n d : Nat} {A : Around} {env : Env} {kd : Kinds} {ρ ρ' : Vars} {G G' : Imm} {φ φ' : List Loc} {σ σ' : St} {s s' : Shared} {v : AVal}
theorem ext_set {i : Nat} {l l' : Loc} (hl : φ[i]? = some l) (ha : l'.a = l.a) (hg : l'.g = l.g) : Ext φ (φ.set i l') := fun j m e => by
  by_cases q : i = j
  · subst q
    rw [hl] at e; cases e
    exact ⟨l', List.getElem?_set_self (List.getElem?_eq_some_iff.mp hl).1, ha, hg⟩
  · exact ⟨m, by rw [List.getElem?_set_ne q]; exact e, rfl, rfl⟩
theorem gfoot_set {i : Nat} {l l' : Loc} (hl : φ[i]? = some l) (hg : l'.g = l.g) : gfoot (φ.set i l') = gfoot φ := filterMap_set_same hg hl
theorem mem_foot_set {i : Nat} {l' : Loc} {a : Addr} (h : a ∈ foot c (φ.set i l')) : a ∈ l'.a :: l'.ps ∨ a ∈ foot c φ := by
  rcases List.mem_append.mp h with h | h
  · exact .inr (List.mem_append_left _ h)
  · rcases mem_set_flat h with h | ⟨j, z, _, hz, ha⟩
    · exact .inl h
    · exact .inr (mem_foot hz ha)
theorem Rel.turn {i : Nat} {l l' : Loc} {o' : AObj} (R : Rel c G φ σ s) (hl : φ[i]? = some l) (ha : l'.a = l.a) (hlg : l'.g = l.g) (hn : ∀ a ∈ l'.ps, a ∈ l.ps ∨ (a ∉ foot c φ ∧ G a = none)) (hd : (l'.a :: l'.ps).Nodup)
    (k : ∀ b x, b ∉ l.a :: l.ps → (b ∈ foot c φ ∨ (G b).isSome) → s.heap.get? b = some x → s'.heap.get? b = some x) (lv : ∀ a ∈ l'.a :: l'.ps, (s'.heap.get? a).isSome) (ho : ORel c G (φ.set i l') l' o' s')
    (hb : (∀ x ∈ s.gens, x.bare = true) → ∀ x ∈ s'.gens, x.bare = true) (hg : ∀ k, l.g ≠ some k → s'.gens[k]? = s.gens[k]?) : Rel c G (φ.set i l') (σ.set i o') s' where
  gB := R.gB
  gh := fun a x e => k a x (fun h => by have := R.gf a (mem_foot hl h); rw [e] at this; cases this) (.inr (by rw [e]; rfl)) (R.gh a x e)
  gf := fun a q => by
    rcases mem_foot_set q with q | q
    · rcases List.mem_cons.mp q with rfl | q
      · exact R.gf _ (by rw [ha]; exact mem_foot hl (.head _))
      · rcases hn a q with q | q
        · exact R.gf a (mem_foot hl (.tail _ q))
        · exact q.2
    · exact R.gf a q
  len := by rw [List.length_set, List.length_set]; exact R.len
  nodup := by
    obtain ⟨h1, h2, h3⟩ := List.nodup_append.mp R.nodup
    have hm : ∀ a ∈ l'.a :: l'.ps, a ∈ l.a :: l.ps ∨ a ∉ foot c φ := fun a q => by
      rcases List.mem_cons.mp q with rfl | q
      · exact .inl (by rw [ha]; exact .head _)
      · rcases hn a q with q | q
        · exact .inl (.tail _ q)
        · exact .inr q.1
    refine List.nodup_append.mpr ⟨h1, nodup_set_flat (f := fun l : Loc => l.a :: l.ps) h2 hl hd (fun a q => (hm a q).imp id fun z y => z (List.mem_append_right _ y)), fun a q b q' e => ?_⟩
    subst e
    rcases mem_set_flat (f := fun l : Loc => l.a :: l.ps) q' with q' | ⟨j, z, _, hz, hq⟩
    · rcases hm a q' with q' | q'
      · exact h3 a q a (List.mem_flatMap.mpr ⟨l, List.mem_of_getElem? hl, q'⟩) rfl
      · exact q' (List.mem_append_left _ q)
    · exact h3 a q a (List.mem_flatMap.mpr ⟨z, List.mem_of_getElem? hz, hq⟩) rfl
  live := fun a q => by
    by_cases q' : a ∈ l'.a :: l'.ps
    · exact lv a q'
    · rcases List.mem_append.mp q with q | q
      · obtain ⟨w, hw, e⟩ := List.mem_map.mp q
        have hf : a ∈ foot c φ := List.mem_append_left _ q
        obtain ⟨x, hx⟩ := Option.isSome_iff_exists.mp (R.live a hf)
        rw [k a x (by rw [← e]; exact R.tab_away hl hw) (.inl hf) hx]; rfl
      · rcases mem_set_flat (f := fun l : Loc => l.a :: l.ps) q with q | ⟨j, z, hj, hz, hq⟩
        · exact absurd q q'
        · have hf : a ∈ foot c φ := mem_foot hz hq
          obtain ⟨x, hx⟩ := Option.isSome_iff_exists.mp (R.live a hf)
          rw [k a x (fun h => hj (R.loc_inj hz hl hq h)) (.inl hf) hx]; rfl
  obj := fun j m o h1 h2 => by
    by_cases q : i = j
    · subst q
      rw [List.getElem?_set_self (List.getElem?_eq_some_iff.mp hl).1] at h1; cases h1
      have hlt := (List.getElem?_eq_some_iff.mp hl).1
      rw [R.len] at hlt
      rw [List.getElem?_set_self hlt] at h2
      cases h2; exact ho
    · rw [List.getElem?_set_ne q] at h1 h2
      exact (R.obj j m o h1 h2).frame (fun _ _ e => e) (ext_set hl ha hlg) (fun a x q' e => k a x (fun h => q (R.loc_inj hl h1 h q')) (.inl (mem_foot h1 q')) e) fun g hgl => hg g fun z => q (R.g_inj hl h1 z hgl)
  gn := by rw [gfoot_set hl hlg]; exact R.gn
  bare := hb R.bare
  tab := fun q hq => (R.tab q hq).mono (fun _ _ e => e) fun o e => k _ o (R.tab_away hl hq) (.inl (mem_tab hq)) e
theorem setGen_other {k g : Nat} {gs : GenState} (h : k ≠ g) : (s.setGen g gs).gens[k]? = s.gens[k]? := by
  unfold Shared.setGen
  first
    | (simp only [Array.getElem?_setIfInBounds]; rw [if_neg (Ne.symm h)])
    | simp [Array.getElem?_setIfInBounds, Ne.symm h]
theorem setGen_size {g : Nat} {gs : GenState} : (s.setGen g gs).gens.size = s.gens.size := by unfold Shared.setGen; simp
theorem setGen_bare {g : Nat} {gs : GenState} (hb : gs.bare = true) (h : ∀ x ∈ s.gens, x.bare = true) : ∀ x ∈ (s.setGen g gs).gens, x.bare = true := fun x hx => by
  obtain ⟨i, hi, hxe⟩ := Array.mem_iff_getElem.mp hx
  have h1 : (s.setGen g gs).gens[i]? = some x := by rw [Array.getElem?_eq_getElem hi, hxe]
  by_cases e : i = g
  · subst e
    have : i < s.gens.size := by rw [setGen_size] at hi; exact hi
    rw [PySem.setGen_self (gs := s.gens[i]) (Array.getElem?_eq_getElem this)] at h1
    cases h1; exact hb
  · rw [setGen_other e] at h1
    exact h x (Array.mem_of_getElem? h1)
structure GStat (G : Imm) (k : GB) (env : Env) : Prop where
  nm : env.scope.names = k.names
  co : env.scope.isCoroutine = false
  nocell : ∀ p ∈ k.names, p.2 ≠ .cell
  cg : ∀ p ∈ env.cells, (G p.2).isSome
  nx : k.Names
  ff : env.frame = some env.locals
theorem GStat.mono {k : GB} (x : GStat G k env) (hG : Imm.Sub G G') : GStat G' k env :=
  { x with cg := fun p hp => by obtain ⟨o, ho⟩ := Option.isSome_iff_exists.mp (x.cg p hp); rw [hG _ _ ho]; rfl }
theorem GStat.look {k : GB} (x : GStat G k env) (y : Str) : env.kindOf y = k.names.lookup y := by
  show env.scope.names.lookup y = _
  rw [x.nm]
theorem GStat.kds {k : GB} (x : GStat G k env) : (fun y => k.names.lookup y) = env.kindOf := funext fun y => (x.look y).symm
theorem GStat.notCell {k : GB} (x : GStat G k env) (y : Str) : env.kindOf y ≠ some .cell := fun h => by
  rw [x.look] at h
  exact x.nocell _ (mem_of_lookup h) rfl
theorem GEnv.stat {k : GB} {h : Heap} (x : GEnv c G φ k ρ env h) : GStat G k env := ⟨x.nm, x.co, x.nocell, x.cg, x.nx, x.ff⟩
theorem GEnv.loc {k : GB} (x : GEnv c G φ k ρ env s.heap) (R : Rel c G φ σ s) : LocRel c G φ env ρ s.heap where
  kind := x.kind
  glob := x.glob
  bi := x.bi
  ns := by
    obtain ⟨m, hn, hv⟩ := x.ns
    exact ⟨m, hn, fun y v h1 h2 => hv y v (by rw [x.stat.look] at h1; exact h1) h2⟩
  cell := fun y v h1 h2 => by
    rcases h1 with h1 | h1
    · exact absurd h1 (x.stat.notCell y)
    · rw [x.stat.look] at h1
      obtain ⟨a, o, v', e, g, hd, r⟩ := x.cell y v h1 h2
      exact ⟨a, v', e, ⟨o, R.gh _ _ g, hd⟩, r⟩
theorem GEnv.of {k : GB} (x : GStat G k env) (R : Rel c G φ σ s) (L : LocRel c G φ env ρ s.heap) : GEnv c G φ k ρ env s.heap where
  kind := L.kind
  glob := L.glob
  bi := L.bi
  nm := x.nm
  co := x.co
  nocell := x.nocell
  ns := by
    obtain ⟨m, hn, hv⟩ := L.ns
    exact ⟨m, hn, fun y v h1 h2 => hv y v (by rw [x.look]; exact h1) h2⟩
  cell := fun y v h1 h2 => by
    obtain ⟨a, v', e, ⟨o, ho, hd⟩, r⟩ := L.cell y v (.inr (by rw [x.look]; exact h1)) h2
    obtain ⟨o', ho'⟩ := Option.isSome_iff_exists.mp (x.cg _ (mem_of_lookup e))
    have := R.gh _ _ ho'
    dsimp only at this ho'
    rw [ho] at this; cases this
    exact ⟨a, o, v', e, ho', hd, r⟩
  cg := x.cg
  nx := x.nx
  ff := x.ff
theorem gen_here {k : GB} (ok : COk c P) (ha : GoodA d A) (x : GStat G k env) (R : Rel c G φ σ s) (L : LocRel c G φ env ρ s.heap) (O : OwnOk c G φ [env.locals] s) : HereX c P d A env (fun y => k.names.lookup y) ρ G φ σ s where
  ok := ok
  a := ha
  kd := x.kds
  r := R
  l := L
  o := ⟨O, fun y a e => by
    obtain ⟨o, ho⟩ := Option.isSome_iff_exists.mp (x.cg _ (mem_of_lookup e))
    dsimp only at ho
    refine ⟨fun q => ?_, by rw [R.gh _ _ ho]; rfl, fun h => absurd h (x.notCell y)⟩
    rw [R.gf a q] at ho; cases ho⟩
  f := ⟨fun y h => absurd h (x.notCell y), fun y _ _ h => absurd h (x.notCell y), fun n a hm z => by
    obtain ⟨o, ho⟩ := Option.isSome_iff_exists.mp (x.cg _ hm)
    dsimp only at ho
    rw [z, (O _ (.head _)).2.1] at ho; cases ho⟩
theorem Step.strip {k : GB} (S : Step c (owns env) G φ s G' φ' s') (R : Rel c G φ σ s) (R' : Rel c G' φ' σ' s') (x : GStat G k env) : Step c [env.locals] G φ s G' φ' s' where
  g := S.g
  ext := S.ext
  foot := S.foot
  dom := S.dom
  frame := fun b o h1 h2 e => by
    by_cases q : b ∈ owns env
    · rcases of_owns q with q | ⟨y, q⟩
      · exact absurd (List.mem_singleton.mpr q) h2
      · obtain ⟨o', ho'⟩ := Option.isSome_iff_exists.mp (x.cg _ (mem_of_lookup q))
        dsimp only at ho'
        have := R.gh _ _ ho'
        rw [e] at this; cases this
        exact R'.gh _ _ (S.g _ _ ho')
    · exact S.frame b o h1 q e
  keep := S.keep
  os := S.os
  gsz := S.gsz
  gfr := S.gfr
  gft := S.gft
theorem ItRaw.rel {it : AIt} {it' : Value} {pr : List Addr} (x : ItRaw c G φ s.heap it it' pr) (o : OwnOk c G φ pr s) : ItRel c G φ s it it' pr := by
  cases x with
  | seq hI V => exact .seq hI V o
  | obj e => exact .obj e
theorem ItRel.raw {it : AIt} {it' : Value} {pr : List Addr} (x : ItRel c G φ s it it' pr) (h : genIt it = true) : ItRaw c G φ s.heap it it' pr := by
  cases x with
  | seq hI V o => exact .seq hI V
  | obj e => exact .obj e
  | rng => cases h
  | tup => cases h
  | chars => cases h
  | dkeys => cases h
theorem FsOk.goodA {fs : List Frame} {x : Str} {px : Pos} {it' : Value} {lb : List Stmt} (F : FsOk c env fs) (h : GoodA (d + 1) A) : GoodA d (A.in1.over (.forLoop (.Name x px) it' lb [] env) fs) where
  hh := by
    show (marksOver fs (A.in1.handled, A.in1.handled)).1 = none
    rw [show A.in1.handled = none from h.hh]; exact F.hd
  depth := by
    show A.in1.depth + frameCount (fs.map Frame.where_) + 0 + 4 * d < 900
    have h1 := h.depth
    have h2 := F.fc
    have h3 : A.in1.depth ≤ A.depth + 1 := by first | exact Nat.le_refl _ | exact Nat.le_succ _
    lia
  units := by
    show A.in1.units + unitsOf (fs.map Frame.where_) + (Code.forLoop (.Name x px) it' lb [] env).cUnits + 40 * d < 9000
    have h1 := h.units
    have h2 := F.un
    have h3 : A.in1.units ≤ A.units + 5 := by first | exact Nat.le_refl _ | exact Nat.le_succ _ | (show A.units + _ ≤ _; lia)
    have h4 : (Code.forLoop (.Name x px) it' lb [] env).cUnits ≤ 10 := by first | exact Nat.le_refl _ | decide | exact Nat.zero_le _
    lia
end
end Mini
namespace Mini
open PySem PySem.W PySem.W.X PyProof PyProof.Rows PySem.Calls
section
variable {c : Cx} {P : PI} {n d : Nat} {A : Around} {env : Env} {kd : Kinds} {ρ ρ' : Vars} {G G' : Imm} {φ φ' : List Loc} {σ σ' : St} {s s' : Shared} {v : AVal}
noncomputable def PullEnd (c : Cx) (k : GB) (env : Env) (it' : Value) (pr : List Addr) (i : Nat) (G : Imm) (φ : List Loc) (s : Shared) (r : Option AVal) (σ' : St) (e : End) (s' : Shared) : Prop :=
  ∃ G' φ' σ₁, Rel c G' φ' σ₁ s' ∧ Step c (env.locals :: pr) G φ s G' φ' s' ∧ (∃ kk ρρ, σ₁[i]? = some (.gen kk ρρ .run)) ∧ match r with
  | .none => e = .ret (.ok (.ret .none)) ∧ ∃ ρ₁, σ' = σ₁.set i (.gen k ρ₁ .done)
  | some v => ∃ v' l kk c' p fs', e = .susp v' false l kk c' p fs' ∧ fs'.any Frame.guarded = false ∧ VRel c G' φ' v v' ∧ ∃ ρ₁ it₁, σ' = σ₁.set i (.gen k ρ₁ (.susp it₁)) ∧ GEnv c G' φ' k ρ₁ env s'.heap ∧ ItRaw c G' φ' s'.heap it₁ it' pr ∧
      OwnOk c G' φ' (env.locals :: pr) s' ∧ GSusp c k env it' e.genState
theorem PullEnd.after {k : GB} {it' : Value} {pr : List Addr} {i : Nat} {G₁ : Imm} {φ₁ : List Loc} {s₁ : Shared} {r : Option AVal} {e : End} (h : PullEnd c k env it' pr i G₁ φ₁ s₁ r σ' e s') (S : Step c (env.locals :: pr) G φ s G₁ φ₁ s₁) :
    PullEnd c k env it' pr i G φ s r σ' e s' := by
  obtain ⟨G', φ', σ₁, R, S', q⟩ := h
  exact ⟨G', φ', σ₁, R, S.trans' S', q⟩
end
inductive EvPre (P : PI) (d : Nat) (kd : Kinds) (ρ : Vars) : List Stmt → St → Vars → St → Prop
  | nil {σ : St} : EvPre P d kd ρ [] σ ρ σ
  | one {p : Stmt} {σ σ₁ : St} {ρ₁ : Vars} (h : EvX P d kd ρ p σ .next ρ₁ σ₁) : EvPre P d kd ρ [p] σ ρ₁ σ₁
inductive EvP (P : PI) (d : Nat) (k : GB) : Vars → AIt → Nat → St → Option AVal → St → Prop
  | fin {ρ : Vars} {it : AIt} {i : Nat} {k' : GB} {ρ'' : Vars} {σ σ₁ : St} (h1 : EvN P d it σ none σ₁) (h2 : σ₁[i]? = some (.gen k' ρ'' .run)) : EvP P d k ρ it i σ none (σ₁.set i (.gen k ρ .done))
  | hit {ρ ρ₁ : Vars} {it it' : AIt} {i : Nat} {k' : GB} {ρ'' : Vars} {v w : AVal} {σ σ₁ σ₂ σ₃ : St} (h1 : EvN P d it σ (some (v, it')) σ₁) (h2 : EvPre P d (fun x => k.names.lookup x) (Vars.set ρ k.x v) k.pre σ₁ ρ₁ σ₂) (h3 : EvT P d (fun x => k.names.lookup x) ρ₁ k.cond σ₂ true σ₃) (h4 : ρ₁ k.x = some w)
      (h5 : σ₃[i]? = some (.gen k' ρ'' .run)) : EvP P d k ρ it i σ (some w) (σ₃.set i (.gen k ρ₁ (.susp it')))
  | miss {ρ ρ₁ : Vars} {it it' : AIt} {i : Nat} {v : AVal} {r : Option AVal} {σ σ₁ σ₂ σ₃ σ' : St} (h1 : EvN P d it σ (some (v, it')) σ₁) (h2 : EvPre P d (fun x => k.names.lookup x) (Vars.set ρ k.x v) k.pre σ₁ ρ₁ σ₂) (h3 : EvT P d (fun x => k.names.lookup x) ρ₁ k.cond σ₂ false σ₃)
      (h4 : EvP P d k ρ₁ it' i σ₃ r σ') : EvP P d k ρ it i σ r σ'
section
variable {P : PI} {d : Nat} {ρ ρ₁ : Vars} {σ σ₁ σ₂ σ₃ σ' : St} {v : AVal}
theorem p_end {k : GB} {it : AIt} {i : Nat} {k' ρ''} (h1 : EvN P d it σ none σ₁) (h2 : σ₁[i]? = some (.gen k' ρ'' .run)) : EvP P d k ρ it i σ none (σ₁.set i (.gen k ρ .done)) := .fin h1 h2
theorem p_hit {k : GB} {it it' : AIt} {i : Nat} {k' ρ'' w} (h1 : EvN P d it σ (some (v, it')) σ₁) (h2 : EvPre P d (fun x => k.names.lookup x) (Vars.set ρ k.x v) k.pre σ₁ ρ₁ σ₂) (h3 : EvT P d (fun x => k.names.lookup x) ρ₁ k.cond σ₂ true σ₃) (h4 : ρ₁ k.x = some w)
    (h5 : σ₃[i]? = some (.gen k' ρ'' .run)) : EvP P d k ρ it i σ (some w) (σ₃.set i (.gen k ρ₁ (.susp it'))) := .hit h1 h2 h3 h4 h5
theorem p_miss {k : GB} {it it' : AIt} {i : Nat} {r : Option AVal} (h1 : EvN P d it σ (some (v, it')) σ₁) (h2 : EvPre P d (fun x => k.names.lookup x) (Vars.set ρ k.x v) k.pre σ₁ ρ₁ σ₂) (h3 : EvT P d (fun x => k.names.lookup x) ρ₁ k.cond σ₂ false σ₃)
    (h4 : EvP P d k ρ₁ it' i σ₃ r σ') : EvP P d k ρ it i σ r σ' := .miss h1 h2 h3 h4
end
section
variable {c : Cx} {P : PI} {n d : Nat} {A : Around} {env : Env} {kd : Kinds} {G G' : Imm} {φ φ' : List Loc} {s s' : Shared}
noncomputable abbrev Turn (env : Env) (k : GB) (px : Pos) (it' : Value) (lb : List Stmt) (ss : List Stmt) : Sem PySem.Fin := (PySem.execs ss env).wrap (fun f => match f with
      | .next | .cont => .pure (.again (.forLoop (.Name k.x px) it' lb [] env))
      | .brk => .pure (.done .next)
      | .ret v => .pure (.done (.ret v))) (fun e => (do noteFrame e env; theTreesLotGoes e : Sem Unit).wrap (fun _ => .raise e) .raise id id) id id
theorem EvP.run {B : Around} {fs : List Frame} {px : Pos} {lb : List Stmt} {it' : Value} {k : GB} {i : Nat} {ρ : Vars} {it : AIt} {σ σ' : St} {r : Option AVal} (h : EvP P d k ρ it i σ r σ') (ok : COk c P) (F : FsOk c env fs)
    (hbody : GLoop k lb) (hB : GoodA d (B.over (.forLoop (.Name k.x px) it' lb [] env) fs)) {pr : List Addr} (hpr : env.locals ∉ pr) :
    ∀ {G φ s}, Rel c G φ σ s → GStat G k env → LocRel c G φ env ρ s.heap → OwnOk c G φ (env.locals :: pr) s → ItRel c G φ s it it' pr → genIt it = true →
      SegX (Md c) B (.forLoop (.Name k.x px) it' lb [] env) (denote table (.forLoop (.Name k.x px) it' lb [] env)) fs s (PullEnd c k env it' pr i G φ s r σ') := by
  obtain ⟨y1, y2, y3, y4, hlb⟩ := id hbody
  have hnot : ∀ a ∈ pr, a ∉ [env.locals] := fun a ha z => hpr (by rw [← List.mem_singleton.mp z]; exact ha)
  -- up to the test of the turn
  have turn : ∀ {ρ it σ v it₂ σ₂ ρ₁ σ₃ z σ₅ Φ G φ s}, EvN P d it σ (some (v, it₂)) σ₂ → EvPre P d (fun x => k.names.lookup x) (Vars.set ρ k.x v) k.pre σ₂ ρ₁ σ₃ → EvT P d (fun x => k.names.lookup x) ρ₁ k.cond σ₃ z σ₅ →
      Rel c G φ σ s → GStat G k env → LocRel c G φ env ρ s.heap → OwnOk c G φ (env.locals :: pr) s → ItRel c G φ s it it' pr → genIt it = true →
      (∀ G₅ φ₅ s₅, Rel c G₅ φ₅ σ₅ s₅ → GStat G₅ k env → LocRel c G₅ φ₅ env ρ₁ s₅.heap → OwnOk c G₅ φ₅ (env.locals :: pr) s₅ → ItRel c G₅ φ₅ s₅ it₂ it' pr → genIt it₂ = true → Step c (env.locals :: pr) G φ s G₅ φ₅ s₅ →
        SegX (Md c) B (.forLoop (.Name k.x px) it' lb [] env) ((if z = true then PySem.execs [.Expr (.Yield (some (.Name k.x y1)) y2) y3] env else PySem.execs [] env).wrap (fun f => match f with | .next => Turn env k px it' lb [] | f => (match f with
      | .next | .cont => .pure (.again (.forLoop (.Name k.x px) it' lb [] env))
      | .brk => .pure (.done .next)
      | .ret v => .pure (.done (.ret v)))) (fun e => (do noteFrame e env; theTreesLotGoes e : Sem Unit).wrap (fun _ => .raise e) .raise id id) id id) fs s₅ Φ) →
      SegX (Md c) B (.forLoop (.Name k.x px) it' lb [] env) (denote table (.forLoop (.Name k.x px) it' lb [] env)) fs s Φ := by
    intro ρ it σ v it₂ σ₂ ρ₁ σ₃ z σ₅ Φ G φ s hn h2 h3 R T L O I hgi hK
    refine sx_forTurn (wpAny_mono (hn.run ok hB R I) (fun r' s₂ q => ?_) fun _ _ e => e)
    obtain ⟨G₂, φ₂, R₂, q⟩ := q
    cases r' with
    | none => exact q.elim
    | some w' =>
      obtain ⟨S₂, V₂, I₂⟩ := q
      have hgi₂ := hn.genIt hgi
      have T₂ := T.mono S₂.g
      have O₂ := O.step S₂
      have O₂l : OwnOk c G₂ φ₂ [env.locals] s₂ := fun a ha => by cases List.mem_singleton.mp ha; exact O₂ _ (.head _)
      have L₂ : LocRel c G₂ φ₂ env ρ s₂.heap := by
        refine L.keeps S₂.g S₂.ext fun a o ha e => ?_
        rcases ha with rfl | ⟨y, ha⟩
        · exact S₂.frame _ _ (O _ (.head _)).1 hpr e
        · obtain ⟨o', ho'⟩ := Option.isSome_iff_exists.mp (T.cg _ (mem_of_lookup ha))
          dsimp only at ho'
          have := R.gh _ _ ho'
          rw [e] at this; cases this
          exact R₂.gh _ _ (S₂.g _ _ ho')
      have H₂ := gen_here ok hB T₂ R₂ L₂ O₂l
      refine wpAny_mono (sim_store (.inl T.nx.xl) H₂ V₂) (fun _ s₃ ⟨G₃, φ₃, R₃, L₃, F₃, S₃, _⟩ => ?_) fun _ _ e => e
      have S₃' := S₃.strip R₂ R₃ T₂
      have H₃ := H₂.then R₃ L₃ F₃ S₃
      have I₃ := I₂.step S₃' hnot
      have SS₃ : Step c (env.locals :: pr) G φ s G₃ φ₃ s₃ := (S₂.weaken fun b hb => .tail _ hb).trans' (S₃'.weaken fun b hb => by rw [List.mem_singleton.mp hb]; exact .head _)
      have last : ∀ {G₄ φ₄ s₄}, Rel c G₄ φ₄ σ₃ s₄ → LocRel c G₄ φ₄ env ρ₁ s₄.heap → Step c (env.locals :: pr) G φ s G₄ φ₄ s₄ → ItRel c G₄ φ₄ s₄ it₂ it' pr →
          SegX (Md c) B (.forLoop (.Name k.x px) it' lb [] env) (Turn env k px it' lb [.If k.cond [.Expr (.Yield (some (.Name k.x y1)) y2) y3] [] y4]) fs s₄ Φ := by
        intro G₄ φ₄ s₄ R₄ L₄ SS₄ I₄
        have T₄ := T.mono SS₄.g
        have O₄ := O.step SS₄
        have O₄l : OwnOk c G₄ φ₄ [env.locals] s₄ := fun a ha => by cases List.mem_singleton.mp ha; exact O₄ _ (.head _)
        have H₄ := gen_here ok hB T₄ R₄ L₄ O₄l
        refine sx_execs_cons (sx_If (wpAny_mono (h3.run H₄.toHere) (fun z' s₅ ⟨e, G₅, φ₅, R₅, S₅⟩ => ?_) fun _ _ e => e))
        subst e
        have H₅ := H₄.step R₅ S₅
        have SS₅ : Step c (env.locals :: pr) G φ s G₅ φ₅ s₅ := SS₄.trans' (S₅.weaken fun _ h => nomatch h)
        exact hK G₅ φ₅ s₅ R₅ (T.mono SS₅.g) H₅.l (O.step SS₅) (I₄.step S₅ fun _ _ h => nomatch h) hgi₂ SS₅
      have hlb' : PySem.execs lb env = PySem.execs (k.pre ++ [.If k.cond [.Expr (.Yield (some (.Name k.x y1)) y2) y3] [] y4]) env := by
        rw [hlb]
      rw [hlb']
      generalize k.pre = pre at h2 ⊢
      cases h2 with
      | nil => exact last R₃ L₃ SS₃ I₃
      | one h =>
        refine sx_execs_cons (sx_wrap' (wpAny_mono (h.run H₃) (fun f' s₄ ⟨G₄, φ₄, R₄, L₄, F₄, S₄, FR⟩ => ?_) fun _ _ e => e))
        have S₄' := S₄.strip R₃ R₄ (T.mono SS₃.g)
        cases FR
        exact last R₄ L₄ (SS₃.trans' (S₄'.weaken fun b hb => by rw [List.mem_singleton.mp hb]; exact .head _)) (I₃.step S₄' hnot)
  induction h with
  | fin h1 h2 =>
    intro G φ s R T L O I hgi
    refine sx_forTurn (wpAny_mono (h1.run ok hB R I) (fun r' s₂ q => ?_) fun _ _ e => e)
    obtain ⟨G₂, φ₂, R₂, q⟩ := q
    cases r' with
    | some _ => exact q.elim
    | none => exact F.fin _ _ _ _ ⟨G₂, φ₂, _, R₂, (q.2 hgi).weaken fun b hb => .tail _ hb, ⟨_, _, h2⟩, rfl, _, rfl⟩
  | hit h1 h2 h3 h4 h5 =>
    intro G φ s R T L O I hgi
    refine turn h1 h2 h3 R T L O I hgi fun G₅ φ₅ s₅ R₅ T₅ L₅ O₅ I₅ hgi₂ SS₅ => ?_
    simp only [if_true]
    refine sx_execs_cons (sx_yield F.sp rfl F.gu T.co (by unfold interactive; rw [L₅.kind]; rfl) (wpAny_Name ?_ T.nx.xd))
    obtain ⟨mm, hn, hv⟩ := L₅.ns
    obtain ⟨u', e', U⟩ := hv k.x _ (by rw [T₅.look]; exact T.nx.xl) h4
    refine wpAny_loadName_local L₅.kind (by rw [T₅.look]; exact T.nx.xl) hn e' fun kk l p hkk => ?_
    refine ⟨G₅, φ₅, _, R₅, SS₅, ⟨_, _, h5⟩, u', l, kk, _, p, fs, rfl, F.gu, U, _, _, rfl, GEnv.of T₅ R₅ L₅, I₅.raw hgi₂, O₅, ?_⟩
    refine ⟨kk, l, _, p, fs, px, lb, by simp [End.genState, F.gu], hbody, F, fun A Φ s hx => hkk A Φ s ?_⟩
    exact s_again _ _ _ _ _ _ _ _ rfl hx
  | miss h1 h2 h3 h4 ih =>
    intro G φ s R T L O I hgi
    refine turn h1 h2 h3 R T L O I hgi fun G₅ φ₅ s₅ R₅ T₅ L₅ O₅ I₅ hgi₂ SS₅ => ?_
    simp only [Bool.false_eq_true, if_false]
    exact s_again _ _ _ _ _ _ _ _ rfl ((ih R₅ T₅ L₅ O₅ I₅ hgi₂).mono fun e s' he => he.after SS₅)
end
end Mini
namespace Mini
open PySem PySem.W PySem.W.X PyProof PyProof.Rows PySem.Calls
section
variable {c : Cx} {P : PI} {n d : Nat} {A : Around} {env : Env} {kd : Kinds} {ρ ρ' : Vars} {G G' G₂ : Imm} {φ φ' φ₂ : List Loc} {σ σ' σ₂ : St} {s s' s₂ s₃ : Shared} {v : AVal}
theorem fsOk {body : List Stmt} {p : Pos} : FsOk c env [loopFrame env (fun f => match f with
    | .next => (PySem.execs [] env).wrap (fun f => .pure (.done (.ret (match f with | .ret v => v | _ => .none)))) (fun e => (leaving env e).wrap (fun _ => .raise e) .raise id id) id id
    | f => (fun f : Flow => (.pure (.done (.ret (match f with | .ret v => v | _ => .none))) : Sem PySem.Fin)) f) (fun e => (leaving env e).wrap (fun _ => .raise e) .raise id id) id id (.func body env) p] where
  fin := fun A Φ s cd' h => s_pop _ _ _ _ _ _ _ _ _ rfl _ _ _ _ _ _ _ (s_end _ _ _ _ _ _ (.ok (.ret .none)) _ rfl h)
  sp := rfl
  gu := rfl
  hd := rfl
  fc := by first | exact Nat.le_refl _ | decide | (show (1 : Nat) ≤ 2; lia)
  un := by show (Code.func body env).cUnits + 0 ≤ 20; (simp only [Code.cUnits]; show 3 * 1 + 0 ≤ 20; decide)
  ev := rfl
  err := ⟨.func body env, fun A Φ s cd' e h => s_pop _ _ _ _ _ _ _ (.error e) _ rfl _ _ _ _ _ _ _ (by
    show SegX _ A (.func body env) (((do
      if (← field e 1) == Value.none then unsupported "frame.own-activation:exception-without-traceback"
      setFlight e env.frame : Sem Unit).bind fun _ => (.raise e : Sem Flow)).wrap _ (fun e => (leaving env e).wrap (fun _ => .raise e) .raise id id) id id) [] s Φ
    rw [Sem.bind_eq_wrap, Sem.wrap_wrap]
    refine sx_wrap' (wpAny_mono h (fun _ s₁ h₁ => ?_) fun _ _ x => x)
    show SegX _ A (.func body env) ((leaving env e).wrap (fun _ => .raise e) .raise id id) [] s₁ Φ
    exact sx_wrap' (wpAny_mono h₁ (fun _ s₂ h₂ => s_end _ _ _ _ _ _ (.error e) _ rfl h₂) fun _ _ x => x))⟩
theorem away_set {i : Nat} {l l' : Loc} {a : Addr} (R : Rel c G φ σ s) (hl : φ[i]? = some l) (ha : a ∈ l.a :: l.ps) (hn : a ∉ l'.a :: l'.ps) : a ∉ foot c (φ.set i l') := fun q => by
  rcases List.mem_append.mp q with q | q
  · obtain ⟨w, hw, e⟩ := List.mem_map.mp q
    exact R.tab_away hl hw (by rw [e]; exact ha)
  · rcases mem_set_flat (f := fun l : Loc => l.a :: l.ps) q with q | ⟨j, z, hj, hz, hq⟩
    · exact hn q
    · exact hj (R.loc_inj hz hl hq ha)
theorem Rel.locNodup {i : Nat} {l : Loc} (R : Rel c G φ σ s) (hl : φ[i]? = some l) : (l.a :: l.ps).Nodup := flat_nodup (fun l : Loc => l.a :: l.ps) (List.nodup_append.mp R.nodup).2.1 (List.mem_of_getElem? hl)
theorem gen_enter {i g : Nat} {l : Loc} {k : GB} {st : GSt} {gs : GenState} (R : Rel c G φ σ s) (hl : φ[i]? = some l) (ho : σ[i]? = some (.gen k ρ st)) (hg : l.g = some g) (hgs : s.gens[g]? = some gs) :
    Rel c G (φ.set i { l with ps := [] }) (σ.set i (.gen k ρ .run)) (s.setGen g .running) ∧ OwnOk c G (φ.set i { l with ps := [] }) l.ps (s.setGen g .running) := by
  obtain ⟨g', e, hG, _⟩ := R.obj i l _ hl ho
  rw [hg] at e; cases e
  have hd := R.locNodup hl
  refine ⟨R.turn hl rfl rfl (fun _ h => nomatch h) (by simp) (fun b x _ _ e => e) (fun a ha => ?_) ⟨g, hg, hG, rfl, PySem.setGen_self hgs⟩ (setGen_bare rfl) (fun k hk => setGen_other fun z => hk (by rw [hg, z])), fun a ha => ⟨?_, R.gf a (mem_foot hl (.tail _ ha)), R.live a (mem_foot hl (.tail _ ha))⟩⟩
  · cases List.mem_singleton.mp ha; exact R.live _ (mem_foot hl (.head _))
  · refine away_set R hl (.tail _ ha) fun q => ?_
    cases List.mem_singleton.mp q
    exact (List.nodup_cons.mp hd).1 ha
theorem gen_exit {i g : Nat} {l₂ : Loc} {ps : List Addr} {gs : GenState} {o' : AObj} {k : GB} {ρ : Vars} (R : Rel c G φ σ s) (hl : φ[i]? = some l₂) (ho : σ[i]? = some (.gen k ρ .run)) (hg : l₂.g = some g) (O : OwnOk c G φ ps s) (hd : ps.Nodup) (hb : gs.bare = true)
    (hh : ∀ b o, s.heap.get? b = some o → s'.heap.get? b = some o) (hgs : s'.gens = (s.setGen g gs).gens) (hO : ORel c G (φ.set i { l₂ with ps := ps }) { l₂ with ps := ps } o' s') :
    Rel c G (φ.set i { l₂ with ps := ps }) (σ.set i o') s' := by
  refine R.turn hl rfl rfl (fun a ha => .inr ⟨(O a ha).1, (O a ha).2.1⟩) (List.nodup_cons.mpr ⟨fun q => (O _ q).1 (mem_foot hl (.head _)), hd⟩) (fun b x _ _ e => hh b x e) (fun a ha => ?_) hO (fun h => by rw [hgs]; exact setGen_bare hb h) (fun k hk => by rw [hgs]; exact setGen_other fun z => hk (by rw [hg, z]))
  have : (s.heap.get? a).isSome := by
    rcases List.mem_cons.mp ha with rfl | ha
    · exact R.live _ (mem_foot hl (.head _))
    · exact (O a ha).2.2
  obtain ⟨x, hx⟩ := Option.isSome_iff_exists.mp this
  rw [hh a x hx]; rfl
theorem gen_step {i g : Nat} {l l₂ : Loc} {own ps : List Addr} {gs : GenState} (R : Rel c G φ σ s) (hl : φ[i]? = some l) (hg : l.g = some g) (S : Step c own G (φ.set i { l with ps := [] }) (s.setGen g .running) G₂ φ₂ s₂) (hl₂ : φ₂[i]? = some l₂) (hown : ∀ a ∈ own, a ∈ l.ps ∨ s.heap.get? a = none)
    (hps : ∀ a ∈ ps, a ∈ own) (hh : ∀ b o, s₂.heap.get? b = some o → s₃.heap.get? b = some o) (hgs : s₃.gens = (s₂.setGen g gs).gens) (os : s₃.os = s₂.os) :
    Step c [] G φ s G₂ (φ₂.set i { l₂ with ps := ps }) s₃ where
  g := S.g
  ext := ((ext_set (l' := { l with ps := [] }) hl rfl rfl).trans S.ext).trans (ext_set (l' := { l₂ with ps := ps }) hl₂ rfl rfl)
  foot := fun b hb => by
    have mid : b ∈ Mini.foot c φ₂ → b ∈ Mini.foot c φ ∨ s.heap.get? b = none := fun q => by
      rcases S.foot b q with q | q
      · rcases mem_foot_set q with q | q
        · cases List.mem_singleton.mp q; exact .inl (mem_foot hl (.head _))
        · exact .inl q
      · exact .inr q
    rcases mem_foot_set hb with q | q
    · rcases List.mem_cons.mp q with rfl | q
      · exact mid (mem_foot hl₂ (.head _))
      · rcases hown b (hps b q) with q | q
        · exact .inl (mem_foot hl (.tail _ q))
        · exact .inr q
    · exact mid q
  dom := S.dom
  frame := fun b o h1 _ e => by
    refine hh b o (S.frame b o (fun q => ?_) (fun q => ?_) e)
    · rcases mem_foot_set q with q | q
      · cases List.mem_singleton.mp q; exact h1 (mem_foot hl (.head _))
      · exact h1 q
    · rcases hown b q with q | q
      · exact h1 (mem_foot hl (.tail _ q))
      · rw [q] at e; cases e
  keep := fun b h => by
    obtain ⟨x, hx⟩ := Option.isSome_iff_exists.mp (S.keep b h)
    rw [hh b x hx]; rfl
  os := os.trans S.os
  gsz := by
    have := S.gsz
    rw [setGen_size] at this
    rw [hgs, setGen_size]; exact this
  gfr := fun k h1 h2 => by
    have hk : k ≠ g := fun z => h1 (by rw [z]; exact mem_gfoot hl hg)
    rw [hgs, setGen_other hk]
    have := S.gfr k (by rw [gfoot_set (l' := { l with ps := [] }) hl rfl]; exact h1) (by rw [setGen_size]; exact h2)
    rw [this, setGen_other hk]
  gft := fun k h => by
    rw [gfoot_set (l' := { l₂ with ps := ps }) hl₂ rfl] at h
    have := S.gft k h
    rw [gfoot_set (l' := { l with ps := [] }) hl rfl, setGen_size] at this
    exact this
theorem gen_after {i g : Nat} {l : Loc} {k : GB} {it' : Value} {pr : List Addr} {r : Option AVal} {e : End} {s₁ : Shared} (R : Rel c G φ σ s) (hl : φ[i]? = some l) (hg : l.g = some g) (hpr : env.locals ∉ pr) (hpd : pr.Nodup)
    (hown : ∀ a ∈ env.locals :: pr, a ∈ l.ps ∨ s.heap.get? a = none) (hE : PullEnd c k env it' pr i G (φ.set i { l with ps := [] }) (s.setGen g .running) r σ' e s₁) :
    nextPost (ObP c G φ s r σ') g e s₁ := by
  obtain ⟨G₂, φ₂, σ₁, R₂, S₂, ⟨kk, ρρ, hrun⟩, q⟩ := hE
  obtain ⟨l₂, hl₂, ha₂, hg₂⟩ := ((ext_set (l' := { l with ps := [] }) hl rfl rfl).trans S₂.ext) i l hl
  have hg₂' : l₂.g = some g := hg₂.trans hg
  obtain ⟨g', eg, hG, hps, hgr⟩ := R₂.obj i l₂ _ hl₂ hrun
  rw [hg₂'] at eg; cases eg
  cases r with
  | none =>
    obtain ⟨rfl, ρ₁, rfl⟩ := q
    refine ⟨rfl, fun h' hk => ⟨G₂, φ₂.set i { l₂ with ps := [] }, gen_exit (gs := .finished) R₂ hl₂ hrun hg₂' (fun _ h => nomatch h) List.nodup_nil rfl hk rfl ?_, gen_step R hl hg S₂ hl₂ hown (fun _ h => nomatch h) hk rfl rfl, trivial⟩⟩
    exact ⟨g, hg₂', (let ⟨o, nm, qn, ho, hr⟩ := hG; ⟨o, nm, qn, hk _ _ ho, hr⟩), rfl, PySem.setGen_self hgr⟩
  | some v =>
    obtain ⟨v', l', k', c', p, fs', rfl, hgu, V, ρ₁, it₁, rfl, E, I, O, U⟩ := q
    have hb : (End.susp v' false l' k' c' p fs').genState.bare = true := by simp [End.genState, GenState.bare, hgu]
    have X := ext_set (l' := { l₂ with ps := env.locals :: pr }) hl₂ rfl rfl
    refine ⟨G₂, φ₂.set i { l₂ with ps := env.locals :: pr }, gen_exit R₂ hl₂ hrun hg₂' O (List.nodup_cons.mpr ⟨hpr, hpd⟩) hb (fun _ _ e => e) rfl ?_, gen_step R hl hg S₂ hl₂ hown (fun _ h => h) (fun _ _ e => e) rfl rfl, V.mono (fun _ _ e => e) X⟩
    exact ⟨g, hg₂', hG, env, it', pr, _, PySem.setGen_self hgr, rfl, E.mono (fun _ _ e => e) X (fun _ e => e), I.mono (fun _ _ e => e) X (fun _ _ _ e => e), U⟩
end
section
variable {P : PI} {d : Nat} {ρ ρ₁ : Vars} {σ σ₁ σ₂ σ₃ σ' : St} {v : AVal}
theorem lv_of {s : Shared} {l : Loc} {h' : Heap} (hk : ∀ b x, b ≠ l.a → s.heap.get? b = some x → h'.get? b = some x) (hl : (h'.get? l.a).isSome) : ∀ b, (s.heap.get? b).isSome → (h'.get? b).isSome := fun b hb => by
  by_cases q : b = l.a
  · rw [q]; exact hl
  · obtain ⟨x, hx⟩ := Option.isSome_iff_exists.mp hb
    rw [hk b x q hx]; rfl
theorem ob_list {i j : Nat} {w : AVal} {vs : List AVal} (h0 : σ[i]? = some (.liter w j)) (h1 : listOf? σ w = some vs) (h2 : vs[j]? = some v) : EvOb P d i σ (some v) (σ.set i (.liter w (j + 1))) := ⟨.liter h0, fun {c A G φ s l} ok ha R hl => by
  obtain ⟨p1, p2, la, V, hI⟩ := R.obj i l _ hl h0
  obtain ⟨la', ob, items, m, e, g, cc, dd, rr⟩ := R.isList V h1
  cases e
  have ne : ∀ b, b ∉ l.a :: l.ps → b ≠ l.a := fun b hb z => hb (by rw [z]; exact .head _)
  obtain ⟨x', hx', Vx⟩ := rr.get h2
  refine wpAny_pyNext_list_item (items := items.toArray) hI ⟨_, g, cc, _, dd⟩ (by simpa using hx') fun h' hI' hs => ?_
  have alive : (h'.get? l.a).isSome := by obtain ⟨oo, e, _⟩ := hI'; rw [e]; rfl
  have hk : ∀ b x, b ≠ l.a → s.heap.get? b = some x → h'.get? b = some x := fun b x hb e => (hs.2 b hb).trans e
  exact ⟨G, φ, R.set hl (fun b x hb _ e => hk b x (ne b hb) e) (fun a ha => lv_of hk alive a (R.live a (mem_foot hl ha))) ⟨p1, p2, la, V, hI'⟩, step_set hl (fun b x hb _ e => hk b x (ne b hb) e) (lv_of hk alive) rfl, Vx⟩⟩
theorem ob_listEnd {i j : Nat} {w : AVal} {vs : List AVal} (h0 : σ[i]? = some (.liter w j)) (h1 : listOf? σ w = some vs) (h2 : vs[j]? = none) : EvOb P d i σ none (σ.set i .lend) := ⟨.liter h0, fun {c A G φ s l} ok ha R hl => by
  obtain ⟨p1, p2, la, V, hI⟩ := R.obj i l _ hl h0
  obtain ⟨la', ob, items, m, e, g, cc, dd, rr⟩ := R.isList V h1
  cases e
  have ne : ∀ b, b ∉ l.a :: l.ps → b ≠ l.a := fun b hb z => hb (by rw [z]; exact .head _)
  refine next_list_end (items := items.toArray) ha.hh hI ⟨_, g, cc, _, dd⟩ (by simpa using rr.get_none h2) fun h' hk ⟨o, e, hc, hd⟩ => ?_
  have alive : (h'.get? l.a).isSome := by rw [e]; rfl
  exact ⟨G, φ, R.set hl (fun b x hb _ e => hk b x (ne b hb) e) (fun a ha => lv_of hk alive a (R.live a (mem_foot hl ha))) ⟨p1, p2, o, _, e, hc, hd⟩, step_set hl (fun b x hb _ e => hk b x (ne b hb) e) (lv_of hk alive) rfl, trivial⟩⟩
theorem ob_done {i : Nat} {k ρ} (h0 : σ[i]? = some (.gen k ρ .done)) : EvOb P d i σ none σ := ⟨.gen h0, fun {c A G φ s l} ok ha R hl => by
  obtain ⟨g, hg, hG, _, hgs⟩ := R.obj i l _ hl h0
  exact next_gen_over ha.hh hG hgs fun h' hk => ⟨G, φ, rel_ext (tk := s.toks) R hk, step_ext (tk := s.toks) hk, trivial⟩⟩
theorem ob_fresh {i : Nat} {k : GB} {src : AVal} {it : AIt} {r : Option AVal} (ho : σ[i]? = some (.gen k ρ .fresh)) (hsrc : ρ k.src = some src) (hit : IterR (σ.set i (.gen k ρ .run)) src it) (hgi : genIt it = true)
    (h : EvP P d k ρ it i (σ.set i (.gen k ρ .run)) r σ') : EvOb P (d + 1) i σ r σ' := ⟨.gen ho, fun {c A G φ s l} ok ha R hl => by
  obtain ⟨g, hg, hG, env, body, hgs, hps, hbody, E⟩ := R.obj i l _ hl ho
  obtain ⟨px, ps, lb, pf, hb, hlb⟩ := hbody
  obtain ⟨R₁, O₁⟩ := gen_enter R hl ho hg hgs
  have X := ext_set (l' := { l with ps := [] }) hl rfl rfl
  have E₁ : GEnv c G (φ.set i { l with ps := [] }) k ρ env (s.setGen g .running).heap := E.mono (fun _ _ e => e) X (fun _ e => e)
  have hnl : s.heap.NoLimit := ok.ok.nolimit.keeps R.keepB
  refine next_gen ha.hh hnl ha.room hG hgs (.inl ⟨rfl, rfl, rfl⟩) (sx_func ?_)
  rw [hb]
  refine sx_execs_cons (sx_For (fun _ => rfl) (wpAny_Name ?_ E.nx.sd))
  obtain ⟨mm, hn, hv⟩ := (E₁.loc R₁).ns
  obtain ⟨src', e', V⟩ := hv k.src src (by rw [E₁.stat.look]; exact E.nx.sl) hsrc
  refine wpAny_loadName_local E.kind (by rw [E₁.stat.look]; exact E.nx.sl) hn e' ?_
  refine wpAny_mono (hit.run R₁ V) (fun it' s₂ ⟨pr, R₂, I₂, S₂, hpr⟩ p => ?_) fun _ _ e => e
  have hO : OwnOk c G (φ.set i { l with ps := [] }) [env.locals] (s.setGen g .running) := by rw [← hps]; exact O₁
  have hpn : env.locals ∉ pr := fun q => none_of_isSome (hO _ (.head _)).2.2 (hpr _ q)
  have hO₂ : OwnOk c G (φ.set i { l with ps := [] }) (env.locals :: pr) s₂ := fun a ha => by
    rcases List.mem_cons.mp ha with rfl | ha
    · exact hO.step S₂ _ (.head _)
    · exact I₂.own a ha
  have L₂ : LocRel c G (φ.set i { l with ps := [] }) env ρ s₂.heap := (GEnv.mono E₁ (fun _ _ e => e) (.refl _) (fun o e => S₂.frame _ _ (hO _ (.head _)).1 (fun h => nomatch h) e)).loc R₂
  have hpd : pr.Nodup := by cases I₂ <;> simp
  refine (h.run ok fsOk hlb (FsOk.goodA (c := c) fsOk ha) hpn R₂ E₁.stat L₂ hO₂ I₂ hgi).mono fun e s' he => ?_
  refine gen_after R hl hg hpn hpd (fun a ha => ?_) (he.after (S₂.weaken fun _ h => nomatch h))
  rcases List.mem_cons.mp ha with rfl | ha
  · exact .inl (by rw [hps]; exact .head _)
  · exact .inr (hpr a ha)⟩
theorem ob_susp {i : Nat} {k : GB} {it : AIt} {r : Option AVal} (ho : σ[i]? = some (.gen k ρ (.susp it))) (h : EvP P d k ρ it i (σ.set i (.gen k ρ .run)) r σ') : EvOb P (d + 1) i σ r σ' := ⟨.gen ho, fun {c A G φ s l} ok ha R hl => by
  obtain ⟨g, hg, hG, env, it', pr, gs, hgs, hps, E, I, U⟩ := R.obj i l _ hl ho
  obtain ⟨kk, l0, cd, p, fs, px, lb, rfl, hbody, F, hres⟩ := U
  obtain ⟨R₁, O₁⟩ := gen_enter R hl ho hg hgs
  have X := ext_set (l' := { l with ps := [] }) hl rfl rfl
  have E₁ : GEnv c G (φ.set i { l with ps := [] }) k ρ env (s.setGen g .running).heap := E.mono (fun _ _ e => e) X (fun _ e => e)
  have hnl : s.heap.NoLimit := ok.ok.nolimit.keeps R.keepB
  refine next_gen ha.hh hnl ha.room hG hgs (.inr ⟨kk, l0, p, false, rfl, rfl⟩) (hres _ _ _ ?_)
  rw [hps] at O₁
  have hnd := R.locNodup hl
  rw [hps] at hnd
  have hnd' := (List.nodup_cons.mp (List.nodup_cons.mp hnd).2)
  have I₁ : ItRaw c G (φ.set i { l with ps := [] }) (s.setGen g .running).heap it it' pr := I.mono (fun _ _ e => e) X fun _ _ _ e => e
  have hgi : genIt it = true := by cases I <;> rfl
  refine (h.run ok F hbody (F.goodA ha) hnd'.1 R₁ E₁.stat (E₁.loc R₁) O₁ (I₁.rel fun a ha => O₁ a (.tail _ ha)) hgi).mono fun e s' he => ?_
  exact gen_after R hl hg hnd'.1 hnd'.2 (fun a ha => .inl (by rw [hps]; exact ha)) he⟩
end
end Mini
namespace Mini
open PySem PySem.W PySem.W.X PyProof PyProof.Rows PySem.Calls
structure EnvMk (c : Cx) (env : Env) (nm : Str) (q : Addr × Addr) : Prop where
  mem : q ∈ c.tabs
  code : env.code = .ref q.1
  hd : CodeHd c.B q.1 q.2
  tq : c.tq q.2 = env.qual ++ nm
  bi : c.B.BuiltinsAt c.mg q.2
  ng : mainGlobals ≠ q.2
  own : ∀ p ∈ env.cells, env.cells.lookup p.1 = some p.2 → env.kindOf p.1 = some .cell
section
variable {c : Cx} {P : PI} {n d : Nat} {A : Around} {env : Env} {kd : Kinds} {ρ ρ' : Vars} {G G' G₂ : Imm} {φ φ' φ₂ : List Loc} {σ σ' σ₂ : St} {s s' s₂ s₃ : Shared} {v : AVal}
inductive GfnPre (c : Cx) (env : Env) (G : Imm) (φ : List Loc) (s : Shared) (fa : Addr) (v : AVal) : Prop
  | mk (k : GB) (xs : List Str) (vs : List AVal) (vs' : List Value) (o : Obj) (fd : FuncData) (e : v = .gfn k xs vs) (g : G fa = some o) (hd : o.data = .func fd) (hf : GFn G k fd) (hx : ∀ x ∈ xs, k.names.lookup x = some .free) (V : VsRel c G φ vs vs') (hc : ∀ p ∈ fd.closure, ∃ x, env.kindOf x = some .cell ∧ env.cells.lookup x = some p.2)
    (h : ∀ (i : Nat) (x : Str) (v' : Value), xs[i]? = some x → vs'[i]? = some v' → ∃ ca, fd.closure.lookup x = some ca ∧ s.heap.IsCell ca (some v'))
inductive DefEnd (c : Cx) (env : Env) (G : Imm) (φ : List Loc) (s : Shared) (nm : Str) (v : AVal) (σ' : St) (f : Flow) (s' : Shared) : Prop
  | mk (e : f = .next) (G' : Imm) (φ' : List Loc) (R : Rel c G' φ' σ' s') (S : Step c (owns env) G φ s G' φ' s') (O : Owns c G' φ' env s') (m : Str → Option Value) (fa : Addr) (n : s'.heap.Ns env.locals m) (h : m nm = some (.ref fa)) (g : GfnPre c env G' φ' s' fa v)
theorem DefEnd.after {G₁ : Imm} {φ₁ : List Loc} {s₁ : Shared} {nm : Str} {f : Flow} (h : DefEnd c env G₁ φ₁ s₁ nm v σ' f s') (S : Step c (owns env) G φ s G₁ φ₁ s₁) : DefEnd c env G φ s nm v σ' f s' := by
  obtain ⟨e, G', φ', R, S', O, m, fa, n, q, g⟩ := h
  exact ⟨e, G', φ', R, S.trans' S', O, m, fa, n, q, g⟩
theorem mapM_some {f : Str → Option AVal} : ∀ {xs : List Str} {vs : List AVal}, xs.mapM f = some vs → ∀ (i : Nat) (x : Str), xs[i]? = some x → ∃ w, f x = some w ∧ vs[i]? = some w
  | [], vs, h, i, x, hx => by simp at hx
  | y :: r, vs, h, i, x, hx => by
    simp only [List.mapM_cons, Option.bind_eq_bind, Option.bind_eq_some_iff] at h
    obtain ⟨w, hw, ws, hws, h⟩ := h
    cases h
    cases i with
    | zero => simp at hx; subst hx; exact ⟨w, hw, rfl⟩
    | succ i => simp at hx; simpa using mapM_some hws i x hx
theorem mapM_len {f : Str → Option AVal} : ∀ {xs : List Str} {vs : List AVal}, xs.mapM f = some vs → vs.length = xs.length
  | [], vs, h => by simp at h; subst h; rfl
  | y :: r, vs, h => by
    simp only [List.mapM_cons, Option.bind_eq_bind, Option.bind_eq_some_iff] at h
    obtain ⟨w, hw, ws, hws, h⟩ := h
    cases h
    simp [mapM_len hws]
theorem cells_of {h : Heap} {xs : List Str} : ∀ {vs : List AVal}, vs.length = xs.length → (∀ (i : Nat) (x : Str), xs[i]? = some x → ∃ w, vs[i]? = some w ∧ ∃ a v', env.cells.lookup x = some a ∧ h.IsCell a (some v') ∧ VRel c G φ w v') →
    ∃ vs', VsRel c G φ vs vs' ∧ ∀ (i : Nat) (x : Str) (v' : Value), xs[i]? = some x → vs'[i]? = some v' → ∃ a, env.cells.lookup x = some a ∧ h.IsCell a (some v') := by
  induction xs with
  | nil =>
    intro vs hl _
    cases vs with
    | nil => exact ⟨[], .nil, fun i x v' hx => by simp at hx⟩
    | cons => cases hl
  | cons y r ih =>
    intro vs hl hall
    cases vs with
    | nil => cases hl
    | cons w ws =>
      obtain ⟨ws', V, hc⟩ := ih (by simpa using hl) (fun i x hx => by simpa using hall (i + 1) x (by simpa using hx))
      obtain ⟨w₀, hw, a, v', e, hI, Vw⟩ := hall 0 y rfl
      simp at hw; subst hw
      refine ⟨v' :: ws', .cons Vw V, fun i x u hx hu => ?_⟩
      cases i with
      | zero => simp at hx hu; subst hx hu; exact ⟨a, e, hI⟩
      | succ i => simp at hx hu; exact hc i x u hx hu
theorem mem_freeNames {names : List (Str × NameKind)} {x : Str} (h : (x, NameKind.free) ∈ names) : x ∈ freeNames names := List.mem_map.mpr ⟨(x, .free), List.mem_filter.mpr ⟨h, rfl⟩, rfl⟩
theorem codeAmong_more {pos : Pos} {a b : Int} {x cv : Value} (l : List Value) (h : TriplesOk l) (hn : codeAmong pos (l ++ [rawInt a, rawInt b, x]) = some cv) : codeAmong pos l = some cv ∨ cv = x := by
  fun_induction TriplesOk l with
  | case1 =>
    simp only [List.nil_append, codeAmong, rawInt] at hn
    split at hn
    · cases hn; exact .inr rfl
    · cases hn
  | case2 a' t b' u y rest ih =>
    simp only [List.cons_append, codeAmong] at hn ⊢
    split at hn
    · rename_i hc; rw [if_pos hc]; exact .inl hn
    · rename_i hc; rw [if_neg hc]; exact ih h hn
  | case3 l h1 h2 => exact h.elim
theorem Rel.tabled {q : Addr × Addr} {c' : Addr} {oc : Obj} {h' : Heap} {tk : Nat} (R : Rel c G φ σ s) (hq : q ∈ c.tabs) (hx : ∀ b o, b ≠ q.2 → s.heap.get? b = some o → h'.get? b = some o) (hc : s.heap.get? c' = none) (hoc : h'.get? c' = some oc) (ht : TabOk c (G.add c' oc) q.2 h') :
    Rel c (G.add c' oc) φ σ { s with heap := h', toks := tk } ∧ Step c [] G φ s (G.add c' oc) φ { s with heap := h', toks := tk } := by
  have hP : q.2 ∈ foot c φ := mem_tab hq
  have sub : Imm.Sub G (G.add c' oc) := Imm.sub_add (R.fresh_G hc)
  have alive : (h'.get? q.2).isSome := by obtain ⟨ps, e, _⟩ := ht; rw [e]; rfl
  have neG : ∀ a o, G a = some o → a ≠ q.2 := fun a o e z => by rw [z, R.gf _ hP] at e; cases e
  refine ⟨⟨fun a o e => sub a o (R.gB a o e), fun a o e => ?_, fun a ha => ?_, R.len, R.nodup, fun a ha => ?_, fun i l o e1 e2 => ?_, R.gn, R.bare, fun q' hq' => ?_⟩, ⟨sub, .refl _, fun _ h => .inl h, fun b o e => ?_, fun b o h1 _ e => hx b o (fun z => h1 (by rw [z]; exact hP)) e, fun b h => ?_, rfl, Nat.le_refl _, fun _ _ _ => rfl, fun _ h => .inl h⟩⟩
  · unfold Imm.add at e
    split at e
    · rename_i z; cases e; rw [z]; exact hoc
    · exact hx a o (neG a o e) (R.gh a o e)
  · unfold Imm.add
    split
    · rename_i z; rw [z] at ha; exact absurd ha (R.fresh_foot hc)
    · exact R.gf a ha
  · by_cases z : a = q.2
    · rw [z]; exact alive
    · obtain ⟨x, hx'⟩ := Option.isSome_iff_exists.mp (R.live a ha)
      show (h'.get? a).isSome
      rw [hx a x z hx']; rfl
  · exact (R.obj i l o e1 e2).frame sub (.refl _) (fun a x ha e => hx a x (fun z => R.tab_away e1 hq (by rw [← z]; exact ha)) e) fun _ _ => rfl
  · by_cases z : q'.2 = q.2
    · rw [z]; exact ht
    · exact (R.tab q' hq').mono sub fun o e => hx _ o z e
  · unfold Imm.add at e
    split at e
    · rename_i z; rw [z]; exact .inr hc
    · exact .inl e
  · by_cases z : b = q.2
    · rw [z]; exact alive
    · obtain ⟨x, hx'⟩ := Option.isSome_iff_exists.mp h
      show (h'.get? b).isSome
      rw [hx b x z hx']; rfl
noncomputable def gfnOk (nm : Str) (scope : Scope) (kd : Kinds) (x src : Str) : Bool :=
  scope.kind == .function && !scope.isCoroutine && scope.isGenerator && scope.names.lookup ("context" : Str) == some .local && scope.names.lookup ("result" : Str) == some .local && scope.names.all (fun p => p.2 != .cell) &&
    (freeNames scope.names).all (fun y => scope.names.lookup y == some .free && kd y == some .cell) && kd nm == some .local && scope.names.lookup x == some .local && scope.names.lookup src == some .local && !(x == ("__debug__" : Str)) && !(src == ("__debug__" : Str))
theorem make_gfn {name : Str} {p1 p2 pos : Pos} {body : List Stmt} {scope : Scope} {src x : Str} {pre : List Stmt} {cond : Expr} {vs : List AVal} {q : Addr × Addr} (hbody : GBody ⟨src, x, pre, cond, ["context", "result"], scope.names⟩ body) (hall : gfnOk name scope kd x src = true) (hvs : (freeNames scope.names).mapM ρ = some vs) (M : EnvMk c env name q) (H : HereX c P d A env kd ρ G φ σ s) :
    wpAny (Md c) A (PySem.exec (.FunctionDef name ⟨[], [⟨"context", .none, p1⟩, ⟨"result", .none, p2⟩], .none, [], [], .none, []⟩ body [] .none [] scope .none name pos) env) (DefEnd c env G φ s name (.gfn ⟨src, x, pre, cond, ["context", "result"], scope.names⟩ (freeNames scope.names) vs) σ) (fun _ _ => False) s := by
  unfold gfnOk at hall
  simp only [Bool.and_eq_true, Bool.not_eq_true', beq_iff_eq, List.all_eq_true, bne_iff_ne, ne_eq] at hall
  obtain ⟨⟨⟨⟨⟨⟨⟨⟨⟨⟨⟨hk, hco⟩, hgen⟩, hl1⟩, hl2⟩, hnc⟩, hfree⟩, hkn⟩, hx⟩, hsrc⟩, hxd0⟩, hsd0⟩ := hall
  have hxd : (x == ("__debug__" : Str)) = false := by simpa using hxd0
  have hsd : (src == ("__debug__" : Str)) = false := by simpa using hsd0
  rw [H.kd] at hkn
  have hfree' : ∀ y ∈ freeNames scope.names, scope.names.lookup y = some .free ∧ env.kindOf y = some .cell := fun y hy => by rw [← H.kd]; exact hfree y hy
  have hcells : ∀ (i : Nat) (y : Str), (freeNames scope.names)[i]? = some y → ∃ w, vs[i]? = some w ∧ ∃ a v', env.cells.lookup y = some a ∧ s.heap.IsCell a (some v') ∧ VRel c G φ w v' := fun i y hy => by
    obtain ⟨w, hw, hi⟩ := mapM_some hvs i y hy
    obtain ⟨a, v', e, hc, r⟩ := H.l.cell y w (.inl (hfree' y (List.mem_of_getElem? hy)).2) hw
    exact ⟨w, hi, a, v', e, hc, r⟩
  have hlook : ∀ p ∈ scope.names, p.2 = .free → (env.cells.lookup p.1).isSome = true := fun p hp hf => by
    have hm : p.1 ∈ freeNames scope.names := mem_freeNames (by rw [← hf]; exact hp)
    obtain ⟨i, hi⟩ := List.getElem?_of_mem hm
    obtain ⟨w, _, a, v', e, _⟩ := hcells i p.1 hi
    rw [e]; rfl
  obtain ⟨vs', V, hcv⟩ := cells_of (mapM_len hvs) hcells
  refine nestDef_K rfl rfl rfl ?_
  have hqual : qualnameIn env name name = c.tq q.2 := by
    unfold qualnameIn
    rw [hkn, M.tq]; rfl
  have hcl := closureFor_eq hlook
  obtain ⟨ps, hP, ht, hhit⟩ := H.r.tab q M.mem
  have hg := H.ok.ok.g.keeps H.r.keepB
  have hhd := M.hd.keeps H.r.keepB
  have hbi := M.bi.keeps H.r.keepB
  have hclos : ∀ p ∈ clos env scope.names [], env.cells.lookup p.1 = some p.2 := fun p hp => (clos_mem _ _ hlook hp).elim (fun z => nomatch z) id
  have hclos' : ∀ p ∈ clos env scope.names [], ∃ y, env.kindOf y = some .cell ∧ env.cells.lookup y = some p.2 := fun p hp => ⟨p.1, M.own p (mem_of_look (hclos p hp)) (hclos p hp), hclos p hp⟩
  have hQP : q.2 ∈ foot c φ := mem_tab M.mem
  -- what is left once the function object stands
  have fin : ∀ {G₁ : Imm} {φ₁ : List Loc} {s₁ : Shared} {fa : Addr} {o : Obj} {doc pm ctv cv : Value}, Rel c G₁ φ₁ σ s₁ → Step c [] G φ s G₁ φ₁ s₁ → G₁ fa = some o → o.data = .func (fnX name (qualnameIn env name name) ⟨[], [⟨"context", .none, p1⟩, ⟨"result", .none, p2⟩], .none, [], [], .none, []⟩ body scope (clos env scope.names []) .none .none doc pm none cv ctv) →
      (∃ ca oc vs t, cv = .ref ca ∧ G₁ ca = some oc ∧ oc.data = .fields vs ∧ vs[1]? = some (.str (c.tq q.2) t)) → wpAny (Md c) A (storeName env name (.ref fa)) (fun _ s'' => DefEnd c env G φ s name (.gfn ⟨src, x, pre, cond, ["context", "result"], scope.names⟩ (freeNames scope.names) vs) σ .next s'') (fun _ _ => False) s₁ := by
    intro G₁ φ₁ s₁ fa o doc pm ctv cv R₁ S₁ hfa hd hcode
    have H₁ := H.step R₁ S₁
    obtain ⟨m, hn, hv⟩ := H₁.l.ns
    refine wpAny_storeName_local hkn hn (fun h' hn' hs => ?_) (by rw [H.l.kind]; rfl)
    have hl : (h'.get? env.locals).isSome := by obtain ⟨o, _, _, e, _⟩ := hn'; rw [e]; rfl
    have S₂ : Step c (owns env) G₁ φ₁ s₁ G₁ φ₁ { s₁ with heap := h', toks := s₁.toks + 1 } := step_own (.head _) hs hl
    refine ⟨rfl, G₁, φ₁, rel_own R₁ (H₁.o.loc _ (.head _)).1 (H₁.o.loc _ (.head _)).2.1 hs, (S₁.weaken fun _ h => nomatch h).trans' S₂, H₁.o.step S₂, _, fa, hn', by simp, ?_⟩
    refine ⟨_, _, vs, vs', o, _, rfl, hfa, hd, ⟨⟨body, rfl, hbody⟩, rfl, hco, hgen, hk, rfl, rfl, hnc, ?_, fun ws hws => ?_, fun y hy => ?_, ?_, ⟨hx, hxd, hsrc, hsd⟩⟩, fun y hy => (hfree' y hy).1, V.mono S₁.g S₁.ext, hclos', fun i y u hy hu => ?_⟩
    · obtain ⟨ca, oc, ws, t, e1, e2, e3, e4⟩ := hcode
      exact ⟨ca, oc, ws, t, e1, e2, e3, by rw [show (fnX name (qualnameIn env name name) _ _ _ _ _ _ _ _ _ _ _).qualname = qualnameIn env name name from rfl, hqual]; exact e4⟩
    · match ws, hws with
      | [w1, w2], _ => first | rfl | exact bind_two w1 w2
    · rcases List.mem_cons.mp hy with rfl | hy
      · exact hl1
      · cases List.mem_singleton.mp hy; exact hl2
    · show [("context" : Str), "result"].Nodup; decide
    · obtain ⟨a, e, oc, ho, hdc⟩ := hcv i y u hy hu
      obtain ⟨a', e'⟩ := Option.isSome_iff_exists.mp (clos_has (env := env) scope.names [] (y := y) (.inl (mem_of_lookup (hfree' y (List.mem_of_getElem? hy)).1)))
      have := clos_from scope.names [] hlook (fun _ z => by cases z) e'
      rw [e] at this; cases this
      refine ⟨a, e', oc, ?_, hdc⟩
      have hne : a ≠ env.locals := H.f.nl _ _ (mem_of_lookup e)
      show h'.get? a = some oc
      rw [hs.2 a hne]
      exact S₁.frame a oc (H.o.cel y a e).1 (fun h => nomatch h) ho
  cases hnf : codeAmong pos ps.toList with
  | some cv =>
    refine makeFunction_hit (cv := cv) hcl H.l.glob hg M.code hhd hP ht hnf hbi fun ctv doc h' tk hk' hsz => ?_
    have R₁ : Rel c G φ σ { s with heap := h', toks := tk } := rel_ext H.r hk'
    have S₁ : Step c [] G φ s G φ { s with heap := h', toks := tk } := step_ext hk'
    refine fin (R₁.pushG _ rfl) (S₁.trans' (step_pushG R₁ _)) (Imm.add_self ..) rfl ?_
    obtain ⟨ca, oc, ws, t, e1, e2, e3, e4⟩ := hhit pos cv hnf
    exact ⟨ca, oc, ws, t, e1, (step_pushG (own := []) R₁ _).g _ _ e2, e3, e4⟩
  | none =>
    refine makeFunction_K hcl H.l.glob hg M.code hhd hP ht hnf M.ng hbi fun c' ctv doc h' tk hx' hge hlt hrec htb => ?_
    obtain ⟨c₂, oc, ws, t, e2, hoc, hd, hv⟩ := hrec
    cases e2
    have hc0 : s.heap.get? c' = none := Heap.get?_none_of_le hge
    rw [hqual] at hv
    obtain ⟨R₁, S₁⟩ := H.r.tabled (tk := tk) M.mem hx' hc0 hoc ⟨_, htb, by simpa using TriplesOk_snoc _ _ _ _ ht, fun pos' cv hcv' => by
      rcases codeAmong_more ps.toList ht (by simpa using hcv') with z | z
      · obtain ⟨ca, o1, ws1, t1, e1, e2, e3, e4⟩ := hhit pos' cv z
        exact ⟨ca, o1, ws1, t1, e1, Imm.sub_add (H.r.fresh_G hc0) _ _ e2, e3, e4⟩
      · exact ⟨c', oc, ws, t, z, Imm.add_self .., hd, hv⟩⟩
    refine fin (R₁.pushG _ rfl) (S₁.trans' (step_pushG R₁ _)) (Imm.add_self ..) rfl ?_
    exact ⟨c', oc, ws, t, rfl, (step_pushG (own := []) R₁ _).g _ _ (Imm.add_self ..), hd, hv⟩
inductive MadeEnd (c : Cx) (env : Env) (G : Imm) (φ : List Loc) (s : Shared) (v : AVal) (σ' : St) (f : Flow) (s' : Shared) : Prop
  | mk (G' : Imm) (φ' : List Loc) (fa : Addr) (e : f = .ret (.ref fa)) (R : Rel c G' φ' σ' s') (S : Step c (owns env) G φ s G' φ' s') (O : Owns c G' φ' env s') (g : GfnPre c env G' φ' s' fa v)
theorem made_freeze {fa : Addr} {s₁ : Shared} {G₁ : Imm} (S₁ : Step c [] G φ s G₁ φ s₁) (fresh : ∀ a ∈ owns env, s.heap.get? a = none) (R : Rel c G' φ' σ' s') (S : Step c (owns env) G₁ φ s₁ G' φ' s') (O : Owns c G' φ' env s') (X : GfnPre c env G' φ' s' fa v) :
    ∃ G'', Rel c G'' φ' σ' s' ∧ VRel c G'' φ' v (.ref fa) ∧ Step c [] G φ s G'' φ' s' := by
  obtain ⟨k, xs, vs, vs', o, fd, rfl, hfa, hd, hF, hx, V, hcl, hc⟩ := X
  let G₀ : Imm := fun a => if a ∈ fd.closure.map (·.2) ∧ G' a = none then s'.heap.get? a else none
  have hin : ∀ a o, G₀ a = some o → s'.heap.get? a = some o ∧ G' a = none ∧ ∃ x, env.kindOf x = some .cell ∧ env.cells.lookup x = some a := fun a o e => by
    unfold G₀ at e
    split at e
    · rename_i hm
      obtain ⟨p, hp, rfl⟩ := List.mem_map.mp hm.1
      exact ⟨e, hm.2, hcl p hp⟩
    · cases e
  have gin : ∀ a o, a ∈ fd.closure.map (·.2) → s'.heap.get? a = some o → G'.over G₀ a = some o := fun a o hm ho => by
    unfold Imm.over
    cases q : G' a with
    | none =>
      have : G₀ a = some o := by unfold G₀; rw [if_pos ⟨hm, q⟩]; exact ho
      rw [this]
    | some o' =>
      have : G₀ a = none := by unfold G₀; rw [if_neg fun z => by rw [q] at z; cases z.2]
      rw [this]
      rw [R.gh _ _ q] at ho
      exact ho
  obtain ⟨R'', sub⟩ := R.addG (G₀ := G₀) (fun a o e => (hin a o e).1) (fun a o e => by
    obtain ⟨_, hn, x, hk, hl⟩ := hin a o e
    exact ⟨(O.cel x a hl).1, hn⟩)
  have SS := S₁.trans S fun b hb => .inr (fresh b hb)
  refine ⟨_, R'', .gfn (sub _ _ hfa) hd (hF.mono sub) hx (fun p hp => ?_) (fun i x v' h1 h2 => ?_) (V.mono sub (.refl _)), ⟨fun a o e => sub a o (SS.g a o e), SS.ext, SS.foot, fun b o e => ?_, SS.frame, SS.keep, SS.os, SS.gsz, SS.gfr, SS.gft⟩⟩
  · obtain ⟨x, hk, hl⟩ := hcl p hp
    obtain ⟨oc, ho⟩ := Option.isSome_iff_exists.mp (O.cel x _ hl).2.1
    rw [gin _ _ (List.mem_map_of_mem hp) ho]; rfl
  · obtain ⟨ca, e, oc, ho, hdc⟩ := hc i x v' h1 h2
    refine ⟨ca, oc, e, ?_, hdc⟩
    have hm : ca ∈ fd.closure.map (·.2) := List.mem_map.mpr ⟨(x, ca), mem_of_look e, rfl⟩
    exact gin _ _ hm ho
  · unfold Imm.over at e
    split at e
    · rename_i q
      obtain ⟨_, _, x, hk, hl⟩ := hin b _ q
      exact .inr (fresh b (mem_owns (.inr ⟨x, hl⟩)))
    · exact SS.dom b o e
end
structure EvDf (P : PI) (d : Nat) (nm : Str) (kd : Kinds) (ρ : Vars) (ss : List Stmt) (σ : St) (v : AVal) (σ' : St) : Prop where
  intro ::
  run : ∀ {c A env G φ s q}, EnvMk c env nm q → HereX c P d A env kd ρ G φ σ s → wpAny (Md c) A (PySem.execs ss env) (DefEnd c env G φ s nm v σ') (fun _ _ => False) s
structure EvMk (P : PI) (d : Nat) (nm : Str) (kd : Kinds) (ρ : Vars) (ss : List Stmt) (σ : St) (v : AVal) (σ' : St) : Prop where
  intro ::
  run : ∀ {c A env G φ s q}, EnvMk c env nm q → HereX c P d A env kd ρ G φ σ s → wpAny (Md c) A (PySem.execs ss env) (MadeEnd c env G φ s v σ') (fun _ _ => False) s
section
variable {P : PI} {d : Nat} {kd : Kinds} {ρ ρ₁ ρ' : Vars} {σ σ₁ σ₂ σ' : St} {v : AVal} {p : Pos}
theorem df_if {nm : Str} {t : Expr} {x y : List Stmt} {z : Bool} (h1 : EvT P d kd ρ t σ z σ₁) (h2 : EvDf P d nm kd ρ (if z then x else y) σ₁ v σ') : EvDf P d nm kd ρ [.If t x y p] σ v σ' := .intro fun {c A env G φ s q} M H => by
  refine wpAny_execs_cons (wpAny_If (wpAny_mono (h1.run H.toHere) (fun z' s₁ ⟨e, G₁, φ₁, R₁, S₁⟩ => ?_) fun _ _ e => e))
  subst e
  have S₁' := S₁.weaken (own' := owns env) fun _ h => nomatch h
  have fin : wpAny (Md c) A (PySem.execs (if z' = true then x else y) env) (fun f s₂ => match f with | .next => wpAny (Md c) A (PySem.execs [] env) (DefEnd c env G φ s nm v σ') (fun _ _ => False) s₂ | f => DefEnd c env G φ s nm v σ' f s₂) (fun _ _ => False) s₁ :=
    wpAny_mono (h2.run M (H.step R₁ S₁)) (fun f s₂ hq => by
      have e := hq.1
      subst e
      exact wpAny_execs_nil (hq.after S₁')) fun _ _ e => e
  cases z' with
  | true => exact fin
  | false => exact fin
theorem df_ifT {nm : Str} {t : Expr} {x y : List Stmt} (h1 : EvT P d kd ρ t σ true σ₁) (h2 : EvDf P d nm kd ρ x σ₁ v σ') : EvDf P d nm kd ρ [.If t x y p] σ v σ' := df_if h1 h2
theorem df_ifF {nm : Str} {t : Expr} {x y : List Stmt} (h1 : EvT P d kd ρ t σ false σ₁) (h2 : EvDf P d nm kd ρ y σ₁ v σ') : EvDf P d nm kd ρ [.If t x y p] σ v σ' := df_if h1 h2
theorem df_def {name : Str} {p1 p2 pos : Pos} {body : List Stmt} {scope : Scope} {k : GB} {xs : List Str} {vs : List AVal} (hbody : GBody k body) (hk : k.params = [Str.ofString "context", Str.ofString "result"] ∧ k.names = scope.names) (hall : gfnOk name scope kd k.x k.src = true) (hxs : freeNames scope.names = xs) (hvs : xs.mapM ρ = some vs) :
    EvDf P d name kd ρ [.FunctionDef name ⟨[], [⟨"context", .none, p1⟩, ⟨"result", .none, p2⟩], .none, [], [], .none, []⟩ body [] .none [] scope .none name pos] σ (.gfn k xs vs) σ := .intro fun {c A env G φ s q} M H => by
  subst hxs
  refine wpAny_execs_cons (wpAny_mono (make_gfn hbody hall hvs M H) (fun f s₂ hq => ?_) fun _ _ e => e)
  have e := hq.1
  subst e
  obtain ⟨ks, kx, kp, kc, kps, kn⟩ := k
  obtain ⟨h1, h2⟩ := hk
  dsimp only at h1 h2
  subst h1 h2
  exact wpAny_execs_nil hq
theorem df_cons {nm : Str} {st st' : Stmt} {ss : List Stmt} (h1 : EvX P d kd ρ st σ .next ρ₁ σ₁) (h2 : EvDf P d nm kd ρ₁ (st' :: ss) σ₁ v σ') : EvDf P d nm kd ρ (st :: st' :: ss) σ v σ' := .intro fun M H => by
  refine wpAny_execs_cons (wpAny_mono (h1.run H) (fun f' s₁ ⟨G₁, φ₁, R₁, L₁, F₁, S₁, FR⟩ => ?_) fun _ _ e => e)
  cases FR
  exact wpAny_mono (h2.run M (H.then R₁ L₁ F₁ S₁)) (fun _ _ hq => hq.after S₁) fun _ _ e => e
theorem m_if {nm nm' : Str} {t : Expr} {x y : List Stmt} {r r' : Pos} {z : Bool} (h0 : (nm' == nm && kd nm == some .local && !(nm == ("__debug__" : Str))) = true) (h1 : EvT P d kd ρ t σ z σ₁) (h2 : EvDf P d nm kd ρ (if z then x else y) σ₁ v σ') :
    EvMk P d nm kd ρ [.If t x y p, .Return (some (.Name nm' r)) r'] σ v σ' := .intro fun {c A env G φ s q} M H => by
  simp only [Bool.and_eq_true, Bool.not_eq_true', beq_iff_eq] at h0
  obtain ⟨⟨rfl, hkn⟩, hnd⟩ := h0
  rw [H.kd] at hkn
  refine wpAny_execs_cons (wpAny_If (wpAny_mono (h1.run H.toHere) (fun z' s₁ ⟨e, G₁, φ₁, R₁, S₁⟩ => ?_) fun _ _ e => e))
  subst e
  have S₁' := S₁.weaken (own' := owns env) fun _ h => nomatch h
  have fin : wpAny (Md c) A (PySem.execs (if z' = true then x else y) env) (fun f s₂ => match f with | .next => wpAny (Md c) A (PySem.execs [.Return (some (.Name nm' r)) r'] env) (MadeEnd c env G φ s v σ') (fun _ _ => False) s₂ | f => MadeEnd c env G φ s v σ' f s₂) (fun _ _ => False) s₁ :=
    wpAny_mono (h2.run M (H.step R₁ S₁)) (fun f s₂ hq => by
      have e := hq.1
      subst e
      obtain ⟨_, G', φ', R', S', O', mm, fa, hn, hm, X⟩ := hq.after S₁'
      refine wpAny_execs_cons (wpAny_Return_some (wpAny_Name (wpAny_loadName_local H.l.kind hkn hn hm ?_) hnd))
      exact ⟨G', φ', fa, rfl, R', S', O', X⟩) fun _ _ e => e
  cases z' with
  | true => exact fin
  | false => exact fin
theorem m_ifT {nm nm' : Str} {t : Expr} {x y : List Stmt} {r r' : Pos} (h0 : (nm' == nm && kd nm == some .local && !(nm == ("__debug__" : Str))) = true) (h1 : EvT P d kd ρ t σ true σ₁) (h2 : EvDf P d nm kd ρ x σ₁ v σ') :
    EvMk P d nm kd ρ [.If t x y p, .Return (some (.Name nm' r)) r'] σ v σ' := m_if h0 h1 h2
theorem m_ifF {nm nm' : Str} {t : Expr} {x y : List Stmt} {r r' : Pos} (h0 : (nm' == nm && kd nm == some .local && !(nm == ("__debug__" : Str))) = true) (h1 : EvT P d kd ρ t σ false σ₁) (h2 : EvDf P d nm kd ρ y σ₁ v σ') :
    EvMk P d nm kd ρ [.If t x y p, .Return (some (.Name nm' r)) r'] σ v σ' := m_if h0 h1 h2
theorem m_cons {nm : Str} {st : Stmt} {ss : List Stmt} (h1 : EvX P d kd ρ st σ .next ρ₁ σ₁) (h2 : EvMk P d nm kd ρ₁ ss σ₁ v σ') : EvMk P d nm kd ρ (st :: ss) σ v σ' := .intro fun M H => by
  refine wpAny_execs_cons (wpAny_mono (h1.run H) (fun f' s₁ ⟨G₁, φ₁, R₁, L₁, F₁, S₁, FR⟩ => ?_) fun _ _ e => e)
  cases FR
  exact wpAny_mono (h2.run M (H.then R₁ L₁ F₁ S₁)) (fun _ _ ⟨G', φ', fa, e, R', S', O', r⟩ => ⟨G', φ', fa, e, R', S₁.trans' S', O', r⟩) fun _ _ e => e
theorem c_maker {x nm : Str} {ps : List Str} {body : List Stmt} {names : List (Str × NameKind)} {vs : List AVal} (h0 : P.fn x = some (ps, body, names)) (h1 : P.maker x = some nm) (h2 : ps.length = vs.length)
    (h3 : EvMk P d nm (fun x => names.lookup x) (bindAll ps vs) body σ v σ') : EvC P (d + 1) (.fn x) vs σ v σ' := ⟨rfl, fun {c A G φ s f' vs'} ok ha R Vf V => by
  obtain ⟨f, hf, F⟩ := ok.fn x ps body names h0
  cases Vf using VRel.fnE with
  | fn e =>
    rw [hf] at e; cases e
    obtain ⟨tb, M⟩ := ok.maker x nm f h1 hf
    refine wpAny_call (fn_enter F h2 ok ha R V fun env s₁ G₁ he H S fresh => ?_)
    have hM : EnvMk c env nm tb := by
      subst he
      exact ⟨M.mem, M.code, M.hd, M.tq, M.bi, M.ng, fun p hp hl => M.own _ p hp hl⟩
    refine wpAny_mono (h3.run hM H) (fun f' s₂ ⟨G₂, φ₂, fa, e, R₂, S₂, O₂, X⟩ => ?_) fun _ _ e => e
    subst e
    obtain ⟨G₃, R₃, V₃, S₃⟩ := made_freeze S fresh R₂ S₂ O₂ X
    exact ⟨_, _, R₃, V₃, S₃⟩⟩
end
end Mini
namespace Mini
open PySem PySem.W PySem.W.X PyProof PyProof.Rows PySem.Calls
theorem mro_slice : mroOf (.type "slice") = pure [.type "slice", .type "object"] := by rw [mroOf_type]; kernel_rfl
theorem lookup_slice_new : typeLookup (.type "slice") "__new__" = pure (some (.builtin "slice.__new__")) := by rw [typeLookup_type, builtinLookup_eq_fast]; kernel_rfl
theorem slot_slice_init : Slot "slice" "__init__" "object.__init__" :=
  Slot.of (T := "slice") (name := "__init__") (owner := "object") (n := "__init__") (by rw [typeLookup_type, builtinLookup_eq_fast]; kernel_rfl) (by decide +kernel) (by decide +kernel) (by decide +kernel)
    (.inl (by decide +kernel)) (by rw [isSubtype_type]; kernel_rfl)
theorem called_slice : TypeCalled "slice" "slice.__new__" "object.__init__" :=
  ⟨by decide +kernel, by decide +kernel, ⟨_, _, mro_slice⟩, madeBy_type mro_slice lookup_slice_new (by decide +kernel), by decide +kernel, by rw [isSubtype_type]; kernel_rfl, slot_slice_init⟩
theorem typeCall_slice_2 (a b : Value) : checkTypeCall "slice" ⟨[a, b], []⟩ = pure () := by kernel_rfl
theorem newCall_slice_2 (a b : Value) : checkBuiltinCall "slice.__new__" ⟨[.type "slice", a, b], []⟩ = pure () := by kernel_rfl
theorem entry_slice_new : entryFor table "slice.__new__" = some Builtin.«slice.__new__» := entryFor_of_tree (by kernel_rfl)
theorem initArgs_slice_2 (obj a b : Value) : argsOk "object.__init__" ⟨[obj, a, b], []⟩ := by unfold argsOk; kernel_rfl
theorem slice_new_2 (a b : Value) :
    Meets (Builtin.«slice.__new__» ⟨[.type "slice", a, b], []⟩) (fun _ R s => R (.ok (.ret (Value.ref s.heap.objs.size))) { s with heap := s.heap.push { cls := Value.type "slice", data := Data.fields #[a, b, .none] } }) :=
  .of_wp fun prog w A R s h => by
    have hsub := called_slice.sub
    obtain ⟨hp, g, d, tk, os⟩ := s; wp_walk; exact ⟨_, rfl, h⟩
section
variable {prog : Program} {w : World} {A : Around} {E : Value → Shared → Prop} {s : Shared}
theorem call_slice_2 {a b : Value} {Q : Value → Shared → Prop}
    (h : Q (.ref s.heap.objs.size) { s with heap := s.heap.push { cls := .type "slice", data := .fields #[a, b, .none] } }) :
    wpAny (model prog w) A (call (.type "slice") [a, b]) Q E s :=
  callType_new called_slice (by decide) (typeCall_slice_2 _ _) (newCall_slice_2 _ _) (fun obj => initArgs_slice_2 obj _ _) entry_slice_new
    (slice_new_2 a b) ⟨⟨_, Heap.get?_push_size _ rfl, rfl⟩, h⟩
end
theorem bindAll_append {xs : List Str} {ws : List AVal} {y : Str} : ∀ {ps : List Str} {vs : List AVal}, ps.length = vs.length → bindAll (ps ++ xs) (vs ++ ws) y = (bindAll ps vs y).or (bindAll xs ws y)
  | [], [], _ => by simp [bindAll]
  | [], _ :: _, h => by cases h
  | _ :: _, [], h => by cases h
  | p :: ps, v :: vs, h => by
    simp only [List.cons_append, bindAll]
    split
    · simp
    · exact bindAll_append (by simpa using h)
theorem bindAll_get {y : Str} {w : AVal} : ∀ {ps : List Str} {vs : List AVal}, bindAll ps vs y = some w → ∃ i : Nat, ps[i]? = some y ∧ vs[i]? = some w
  | [], _, h => by simp [bindAll] at h
  | _ :: _, [], h => by simp [bindAll] at h
  | p :: ps, v :: vs, h => by
    unfold bindAll at h
    split at h
    · rename_i q; subst q; cases h; exact ⟨0, rfl, rfl⟩
    · obtain ⟨i, h1, h2⟩ := bindAll_get h
      exact ⟨i + 1, by simpa using h1, by simpa using h2⟩
theorem lookup_snoc {α : Type} {y p : Str} {v : α} : ∀ (l : List (Str × α)), (l ++ [(p, v)]).lookup y = match l.lookup y with
    | some w => some w
    | .none => if y = p then some v else none
  | [] => by
    simp only [List.nil_append, List.lookup_cons, List.lookup_nil]
    by_cases q : y = p
    · simp [q]
    · simp [q, beq_eq_false_iff_ne.mpr q]
  | (a, b) :: r => by
    simp only [List.cons_append, List.lookup_cons]
    split
    · rfl
    · exact lookup_snoc r
theorem look_rev {α : Type} {y : Str} {v' : α} : ∀ {ps : List Str} {vs' : List α} {i : Nat}, ps.Nodup → ps[i]? = some y → vs'[i]? = some v' → (ps.zip vs').reverse.lookup y = some v'
  | [], _, _, _, h, _ => by simp at h
  | _ :: _, [], _, _, _, h => by simp at h
  | p :: ps, v :: vs, i, hn, h1, h2 => by
    obtain ⟨hp, hn'⟩ := List.nodup_cons.mp hn
    rw [List.zip_cons_cons, List.reverse_cons, lookup_snoc]
    cases i with
    | zero =>
      simp at h1 h2
      subst h1 h2
      have : (ps.zip vs).reverse.lookup p = none := by
        cases q : (ps.zip vs).reverse.lookup p with
        | none => rfl
        | some w => exact absurd (List.of_mem_zip (List.mem_reverse.mp (mem_of_lookup q))).1 hp
      rw [this]; simp
    | succ i =>
      simp at h1 h2
      rw [look_rev hn' h1 h2]
section
variable {c : Cx} {P : PI} {n d : Nat} {A : Around} {env : Env} {kd : Kinds} {ρ ρ' : Vars} {G G' G₂ : Imm} {φ φ' φ₂ : List Loc} {σ σ' σ₂ : St} {s s' s₂ s₃ : Shared} {v : AVal}
theorem GoodA.in1 {d : Nat} {A : Around} (h : GoodA (d + 1) A) : GoodA d A.in1 where
  hh := h.hh
  depth := by
    have h1 := h.depth
    have h3 : A.in1.depth ≤ A.depth + 1 := by first | exact Nat.le_refl _ | exact Nat.le_succ _
    lia
  units := by
    have h1 := h.units
    have h3 : A.in1.units ≤ A.units + 5 := by first | exact Nat.le_refl _ | exact Nat.le_succ _ | (show A.units + _ ≤ _; lia)
    lia
theorem allocObj {o : AObj} {ob : Obj} (R : Rel c G φ σ s) (hf : ob.isFreed = false) (ho : ORel c G (φ ++ [⟨s.heap.objs.size, [], none⟩]) ⟨s.heap.objs.size, [], none⟩ o { s with heap := s.heap.push ob }) :
    GP c G φ s (.ref σ.length) (σ ++ [o]) (.ref s.heap.objs.size) { s with heap := s.heap.push ob } := by
  have hn : ∀ a ∈ (⟨s.heap.objs.size, [], none⟩ : Loc).a :: (⟨s.heap.objs.size, [], none⟩ : Loc).ps, s.heap.get? a = none := fun a ha => by
    rcases List.mem_cons.mp ha with rfl | ha
    · exact get?_size _
    · cases ha
  refine ⟨G, φ ++ [⟨s.heap.objs.size, [], none⟩], R.add (fun a x e => Heap.get?_push_of_some _ e) hn (by simp) (fun a ha => ?_) ho, ?_, step_add (fun a x e => Heap.get?_push_of_some _ e) hn rfl⟩
  · rcases List.mem_cons.mp ha with rfl | ha
    · rw [Heap.get?_push_size _ hf]; rfl
    · cases ha
  · refine VRel.ref (l := ⟨s.heap.objs.size, [], none⟩) ?_
    rw [← R.len]; simp
theorem someArgs2 (name : String) (a b : Value) : PySem.someArgs name 1 2 ⟨[a, b], []⟩ = pure [a, b] := by rfl
theorem callCls {vs : List AVal} {vs' : List Value} {ρ' : Vars} (h : EvXs P d (fun x => P.init.2.2.lookup x) (bindAll P.init.1 (.ref σ.length :: vs)) P.init.2.1 (σ ++ [.inst []]) .next ρ' σ') (hlen : P.init.1.length = vs.length + 1)
    (ok : COk c P) (ha : GoodA (d + 2) A) (R : Rel c G φ σ s) (V : VsRel c G φ vs vs') : Gives c A G φ s (call (.ref c.C) vs') (.ref σ.length) σ' := by
  obtain ⟨fi, hf, ht, F⟩ := ok.init
  have X := ok.ok.x.keeps R.keepB
  refine wpAny_call ?_
  obtain ⟨h₀, g, dd, t, os⟩ := s
  refine make_core (makes_of X ok.mi) (looks_findIn X hf) (fun self => bind_fn X self ht) (.inl rfl) ?_
  let l : Loc := ⟨h₀.objs.size + 1, [h₀.objs.size], none⟩
  let s₁ : Shared := ⟨(h₀.push emptyDict).push (instObj c.C h₀.objs.size), g, dd, t, os⟩
  have sz : (h₀.push emptyDict).objs.size = h₀.objs.size + 1 := Heap.size_push ..
  have k : ∀ a x, h₀.get? a = some x → s₁.heap.get? a = some x := fun a x e => Heap.get?_push_of_some _ (Heap.get?_push_of_some _ e)
  have e1 : s₁.heap.get? (h₀.objs.size + 1) = some (instObj c.C h₀.objs.size) := by rw [← sz]; exact Heap.get?_push_size _ rfl
  have e2 : s₁.heap.get? h₀.objs.size = some emptyDict := Heap.get?_push_of_some _ (Heap.get?_push_size _ rfl)
  have hn : ∀ a ∈ l.a :: l.ps, h₀.get? a = none := fun a ha => by
    have : h₀.objs.size ≤ a := by
      rcases List.mem_cons.mp ha with rfl | ha
      · exact Nat.le_succ _
      · cases List.mem_singleton.mp ha; exact Nat.le_refl _
    exact Heap.get?_none_of_le this
  have R₁ : Rel c G (φ ++ [l]) (σ ++ [.inst []]) s₁ := R.add k hn (by simp [l]) (fun a ha => by
      rcases List.mem_cons.mp ha with rfl | ha
      · show (s₁.heap.get? (h₀.objs.size + 1)).isSome; rw [e1]; rfl
      · cases List.mem_singleton.mp ha; rw [e2]; rfl) ⟨rfl, h₀.objs.size, [], 0, rfl, e1, e2, rfl, fun x => rfl⟩
  have S₁ : Step c [] G φ ⟨h₀, g, dd, t, os⟩ G (φ ++ [l]) s₁ := step_add k hn rfl
  have hl : (φ ++ [l])[σ.length]? = some l := by rw [← R.len]; simp
  have Vs : VsRel c G (φ ++ [l]) (.ref σ.length :: vs) (.ref (h₀.objs.size + 1) :: vs') := .cons (.ref (l := l) hl) (V.mono S₁.g S₁.ext)
  have hA : GoodA (d + 1) (A.under (.builtin "type.__call__" ⟨.ref c.C :: vs', []⟩)) := by
    refine ⟨ha.hh, ?_, ?_⟩
    · have h1 := ha.depth
      show A.depth + 1 + 4 * (d + 1) < 900
      lia
    · have h1 := ha.units
      show A.units + 1 + 40 * (d + 1) < 9000
      lia
  refine codeAny_mono (callFn (v := .none) (Q := fun v s' => v = .none ∧ GP c G φ ⟨h₀, g, dd, t, os⟩ (.ref σ.length) σ' (.ref (h₀.objs.size + 1)) s') (E := fun _ _ => False) F h (by simp [hlen]) rfl ok hA R₁ Vs fun v' s' G' φ' R' V' S' => ?_) fun r s' hr => ?_
  · (cases V' using VRel.noneE)
    refine ⟨rfl, G', φ', R', ?_, S₁.trans' S'⟩
    obtain ⟨l', e, hla, _⟩ := S'.ext _ _ hl
    have := VRel.ref (c := c) (G := G') e
    rw [hla] at this
    exact this
  · unfold InitBack
    split at hr
    · exact hr
    · exact hr.elim
    · exact hr.elim
theorem sim_callGfn {k : GB} {xs : List Str} {ws vs : List AVal} {f' : Value} {vs' : List Value} (hlen : k.params.length = vs.length) (ok : COk c P) (ha : GoodA d A) (R : Rel c G φ σ s) (V : VRel c G φ (.gfn k xs ws) f') (Vs : VsRel c G φ vs vs') :
    Gives c A G φ s (call f' vs') (.ref σ.length) (σ ++ [.gen k (bindAll (k.params ++ xs) (vs ++ ws)) .fresh]) := by
  cases V with
  | @gfn _ _ _ ws' a o fd e hd hf hx hg hc Vw =>
    obtain ⟨body, hb, hgb⟩ := hf.body
    have hcode : s.heap.CodeRec fd.code fd.qualname := by
      obtain ⟨ca, oc, vs, t, e1, e2, e3, e4⟩ := hf.code
      exact ⟨ca, oc, vs, t, e1, R.gh _ _ e2, e3, e4⟩
    have hL : vs'.length = k.params.length := by rw [← Vs.length, hlen]
    refine wpAny_call (codeAny_call_generator ha.room (R.gh _ _ e) hd hf.co hf.gen hb hcode (wpAny_of_eq (hf.bind vs' hL) ?_))
    refine wpAny_newFunctionEnv (by rw [hf.nm]; exact hf.nocell) (fun x hx' => by rw [hf.nm]; exact hf.pk _ (zip_keys hx')) (fun h' hn hs => ?_) hf.kind
    have sz : h'.objs.size = s.heap.objs.size + 1 := by rw [hs.1, Heap.size_push]
    have k1 : ∀ b o, s.heap.get? b = some o → h'.get? b = some o := fun b o e => hs.extBut b o (fun z => by rw [z, get?_size] at e; cases e) (Heap.get?_push_of_some _ e)
    refine ⟨(ok.ok.nolimit.keeps R.keepB).keeps k1, ?_⟩
    let l : Loc := ⟨h'.objs.size, [s.heap.objs.size], some s.gens.size⟩
    have k2 : ∀ (ob : Obj) b o, s.heap.get? b = some o → (h'.push ob).get? b = some o := fun ob b o e => Heap.get?_push_of_some _ (k1 b o e)
    have hnew : ∀ a ∈ l.a :: l.ps, s.heap.get? a = none := fun a ha => by
      refine Heap.get?_none_of_le ?_
      rcases List.mem_cons.mp ha with rfl | ha
      · show s.heap.objs.size ≤ h'.objs.size; lia
      · cases List.mem_singleton.mp ha; exact Nat.le_refl _
    have hns : ∀ ob : Obj, (h'.push ob).Ns s.heap.objs.size (fun x => (k.params.zip vs').reverse.lookup x) := fun ob => hn.push ob
    have hlive : ∀ ob : Obj, ((h'.push ob).get? s.heap.objs.size).isSome := fun ob => by obtain ⟨o, _, _, e, _⟩ := hns ob; rw [e]; rfl
    have hl : (φ ++ [l])[σ.length]? = some l := by rw [← R.len]; simp
    have hgl : ∀ g, l.g = some g → s.gens.size ≤ g := fun g hg => by cases hg; exact Nat.le_refl _
    have hgo : ∀ (x : GenState) (k : Nat), k < s.gens.size → (s.gens.push x)[k]? = s.gens[k]? := fun x k hk => by rw [Array.getElem?_push_lt hk, Array.getElem?_eq_getElem hk]
    refine ⟨G, φ ++ [l], R.add (fun a x e => k2 _ a x e) hnew (List.nodup_cons.mpr ⟨fun q => by have z : h'.objs.size = s.heap.objs.size := List.mem_singleton.mp q; lia, by simp [l]⟩) (fun a ha => ?_) ?_ (fun h x hx' => ?_) (fun k hk => hgo _ k hk) hgl, .ref (l := l) hl, step_add (fun a x e => k2 _ a x e) hnew rfl (fun k hk => hgo _ k hk) (by simp) hgl⟩
    · rcases List.mem_cons.mp ha with rfl | ha
      · show ((h'.push _).get? h'.objs.size).isSome
        rw [Heap.get?_push_size _ rfl]; rfl
      · cases List.mem_singleton.mp ha; exact hlive _
    · refine ⟨s.gens.size, rfl, ⟨_, _, _, Heap.get?_push_size _ rfl, rfl, rfl, rfl⟩, newEnv fd.scope s.heap.objs.size fd.globals fd.closure (fd.qualname ++ ".<locals>.") (some a) fd.code none fd.builtins, body, Array.getElem?_push_size .., rfl, hgb, ?_⟩
      refine ⟨hf.kind, hf.glob, hf.bi, hf.nm, hf.co, hf.nocell, ⟨_, hns _, fun x w h1 h2 => ?_⟩, fun x w h1 h2 => ?_, hg, hf.nx, rfl⟩
      · rw [bindAll_append hlen] at h2
        cases q : bindAll k.params vs x with
        | some w' =>
          rw [q] at h2
          simp at h2
          subst h2
          obtain ⟨i, h3, h4⟩ := bindAll_get q
          obtain ⟨w', h5, Vw⟩ := Vs.get h4
          exact ⟨w', look_rev hf.nodup h3 h5, Vw.mono (fun _ _ e => e) (.append _ _)⟩
        | none =>
          rw [q] at h2
          simp at h2
          obtain ⟨i, h3, _⟩ := bindAll_get h2
          rw [hx x (List.mem_of_getElem? h3)] at h1; (cases h1)
      · rw [bindAll_append hlen] at h2
        cases q : bindAll k.params vs x with
        | some w' =>
          obtain ⟨i, h3, _⟩ := bindAll_get q
          rw [hf.pk x (List.mem_of_getElem? h3)] at h1; (cases h1)
        | none =>
          rw [q] at h2
          simp at h2
          obtain ⟨i, h3, h4⟩ := bindAll_get h2
          obtain ⟨w', h5, Vw'⟩ := Vw.get h4
          obtain ⟨ca, oc, q1, q2, q3⟩ := hc i x w' h3 h5
          exact ⟨ca, oc, w', q1, q2, q3, Vw'.mono (fun _ _ e => e) (.append _ _)⟩
    · rcases Array.mem_push.mp hx' with hx' | rfl
      · exact h x hx'
      · rfl
theorem keeper_fn {a : Addr} {o : Obj} {fd : FuncData} {h : Heap} {M : Model} (ho : h.get? a = some o) (hd : o.data = .func fd) : Looks M h (keeperOf (.ref a)) Keeper.frame := by
  intro A Q E s k q
  unfold keeperOf
  refine wpAny_bind (wpAny_load (k _ _ ho) ?_)
  rw [hd]
  exact wpAny_pure q
theorem keeper {fv : AVal} {f' : Value} {h : Heap} (ok : COk c P) (R : Rel c G φ σ s) (V : VRel c G φ fv f') (hc : callable fv = true) (hG : ∀ a o, G a = some o → h.get? a = some o) :
    ∃ k, (k = Keeper.frame ∨ k = Keeper.machine ∨ k = Keeper.boundFrame) ∧ Looks (Md c) h (keeperOf f') k := by
  have kB : ∀ b o, c.B.get? b = some o → h.get? b = some o := fun b o e => hG b o (R.gB b o e)
  cases fv with
  | bi id => (cases V using VRel.biE); exact ⟨.machine, .inr (.inl rfl), .now⟩
  | ty id => (cases V using VRel.tyE); exact ⟨.machine, .inr (.inl rfl), .now⟩
  | gfn k xs ws =>
    cases V with
    | gfn e hd => exact ⟨.frame, .inl rfl, keeper_fn (hG _ _ e) hd⟩
  | lam k xs ws =>
    cases V with
    | lam e hd => exact ⟨.frame, .inl rfl, keeper_fn (hG _ _ e) hd⟩
  | cls =>
    (cases V using VRel.clsE)
    have Y := makes_of (M := Md c) (ok.ok.x.keeps kB) ok.mi
    obtain ⟨⟨oc, od, cd, sl, hC, _⟩, _, _, _, _, call, _⟩ := Y
    exact ⟨.machine, .inr (.inl rfl), (Looks.ld (part := none) hC).andThen (call.andThen .now)⟩
  | fn x =>
    cases V using VRel.fnE with
    | fn e =>
      obtain ⟨o, fd, ho, hd⟩ := ok.fo x _ e
      exact ⟨.frame, .inl rfl, keeper_fn (kB _ _ ho) hd⟩
  | _ => cases hc
end
section
variable {P : PI} {d : Nat} {kd : Kinds} {ρ ρ₁ ρ₂ ρ₃ ρ' : Vars} {σ σ₁ σ₂ σ₃ σ' : St} {v a b : AVal} {p : Pos}
theorem c_gfn {k : GB} {xs : List Str} {ws vs : List AVal} (h : k.params.length = vs.length) : EvC P d (.gfn k xs ws) vs σ (.ref σ.length) (σ ++ [.gen k (bindAll (k.params ++ xs) (vs ++ ws)) .fresh]) := ⟨rfl, fun ok ha R Vf V => sim_callGfn h ok ha R Vf V⟩
theorem c_cls' {ps : List Str} {body : List Stmt} {names : List (Str × NameKind)} {vs : List AVal} (hi : P.init = (ps, body, names)) (h1 : ps.length = vs.length + 1) (h : EvXs P d (fun x => names.lookup x) (bindAll ps (.ref σ.length :: vs)) body (σ ++ [.inst []]) .next ρ' σ') :
    EvC P (d + 2) .cls vs σ (.ref σ.length) σ' := ⟨rfl, fun ok ha R Vf V => by (cases Vf using VRel.clsE); exact callCls (by rw [hi]; exact h) (by rw [hi]; exact h1) ok ha R V⟩
theorem c_lenStr {sx : Str} (h : sx.length ≤ lim) : EvC P d (.bi "len") [.str sx] σ (.int sx.length) σ := ⟨rfl, fun ok ha R Vf V => by
  (cases Vf using VRel.biE)
  cases V using VsRel.consE with
  | cons hv ht =>
    (cases ht using VsRel.nilE); (cases hv using VRel.strE)
    exact PyProof.Rows.len_str (by unfold lim at h; lia) (gives_toks R (.int _ _))⟩
theorem c_lenList {w : AVal} {xs : List AVal} (h1 : listOf? σ w = some xs) (h : xs.length ≤ lim) : EvC P d (.bi "len") [w] σ (.int xs.length) σ := ⟨rfl, fun ok ha R Vf V => by
  (cases Vf using VRel.biE)
  cases V using VsRel.consE with
  | cons hv ht =>
    (cases ht using VsRel.nilE)
    obtain ⟨la, o, items, m, rfl, g, cc, dd, rr⟩ := R.isList hv h1
    refine PyProof.Rows.len_list (items := items.toArray) ⟨_, g, cc, _, dd⟩ (by rw [List.size_toArray, ← rr.length]; unfold lim at h; lia) ?_
    rw [List.size_toArray, ← rr.length]
    exact gives_toks R (.int _ _)⟩
theorem c_iter {i : Nat} {vs : List AVal} (h : σ[i]? = some (.list vs)) : EvC P d (.bi "iter") [.ref i] σ (.ref σ.length) (σ ++ [.liter (.ref i) 0]) := ⟨rfl, fun ok ha R Vf V => by
  (cases Vf using VRel.biE)
  cases V using VsRel.consE with
  | cons hv ht =>
    (cases ht using VsRel.nilE)
    cases hv using VRel.refE with
    | ref hl =>
      obtain ⟨_, _, items, m, h3, h4⟩ := R.obj _ _ _ hl h
      refine call_function_entry (by decide +kernel) (by decide +kernel) kdk_entry_iter (kdk_args_iter _) ?_
      unfold Builtin.«iter»
      refine wpAny_bind (wpAny_of_eq (a := [.ref _]) rfl ?_)
      show wpAny _ _ (pyIter _ >>= _) _ _ _
      refine wpAny_bind (wpAny_pyIter_list (items := items.toArray) ⟨_, h3, rfl, _, rfl⟩ (wpAny_pure ⟨_, rfl, ?_⟩))
      exact allocObj R rfl ⟨rfl, rfl, _, (VRel.ref hl).mono (fun _ _ e => e) (.append _ _), ⟨_, Heap.get?_push_size _ rfl, rfl, rfl⟩⟩⟩
theorem c_nextAny {i : Nat} {r : Option AVal} (h : EvOb P d i σ r σ₁) : EvC P (d + 1) (.bi "next") [.ref i, .none] σ (r.getD .none) σ₁ := ⟨rfl, fun {c A G φ s f' vs'} ok ha R Vf V => by
  (cases Vf using VRel.biE)
  cases V using VsRel.consE with
  | cons hv ht =>
    cases ht using VsRel.consE with
    | cons hv2 ht =>
      (cases ht using VsRel.nilE); (cases hv2 using VRel.noneE)
      cases hv using VRel.refE with
      | ref hl =>
        refine call_function_entry (by decide +kernel) (by decide +kernel) kdk_entry_next (kdk_args_next2 _ _) ?_
        obtain ⟨T, id, hT, hlk⟩ := iterType h.1 R hl
        unfold Builtin.«next»
        refine wpAny_bind (wpAny_of_eq (someArgs2 _ _ _) ?_)
        show wpAny _ _ (specialOf (.ref _) "__next__" >>= _) _ _ _
        refine wpAny_bind (wpAny_specialOf hT hlk ?_)
        show wpAny _ _ (pyNext (.ref _) >>= _) _ _ _
        refine wpAny_bind (wpAny_mono (h.2 ok ha.in1 R hl) (fun r' s₁ ⟨G₁, φ₁, R₁, S₁, q⟩ => ?_) fun _ _ e => e)
        cases r with
        | none =>
          cases r' with
          | none => exact wpAny_pure ⟨_, rfl, G₁, φ₁, R₁, .none, S₁⟩
          | some _ => exact (show False from q).elim
        | some w =>
          cases r' with
          | none => exact (show False from q).elim
          | some w' => exact wpAny_pure ⟨_, rfl, G₁, φ₁, R₁, q, S₁⟩⟩
theorem c_nextEnd {i : Nat} (h : EvOb P d i σ none σ₁) : EvC P (d + 1) (.bi "next") [.ref i, .none] σ .none σ₁ := c_nextAny h
inductive IsStr : AVal → Bool → Prop
  | str {x : Str} : IsStr (.str x) true
  | none : IsStr .none false
  | int {i : Int} : IsStr (.int i) false
  | bytes {b : Array UInt8} : IsStr (.bytes b) false
  | tup {vs : List AVal} : IsStr (.tup vs) false
theorem isi_bytes_str {prog : Program} {w : World} {A : Around} {E : Value → Shared → Prop} {s : Shared} {n : Array UInt8} {u : Tok} {Q : Value → Shared → Prop} (h : Q (.bool false) { s with toks := s.toks + 1 }) : wpAny (model prog w) A (call (.builtin "isinstance") [.bytes n u, .type "str"]) Q E s :=
  call_isinstance (S := fun _ R s => R (.ok (.ret (.bool false))) { s with toks := s.toks + 1 }) (fun _ _ _ _ s hs => by
    obtain ⟨h, g, d, t, os⟩ := s
    exact isinstance_outer (isinstance_nested_false_bytes (by decide +kernel) F.isi_meta_str F.sub_bytes_str hs)) h
theorem is_str {x : Str} : IsStr (.str x) true := .str
theorem is_none : IsStr .none false := .none
theorem c_isStr {z : Bool} (h : IsStr v z) : EvC P d (.bi "isinstance") [v, .ty "str"] σ (.bool z) σ := ⟨rfl, fun ok ha R Vf V => by
  (cases Vf using VRel.biE)
  cases V using VsRel.consE with
  | cons hv ht =>
    cases ht using VsRel.consE with
    | cons hv2 ht =>
      (cases ht using VsRel.nilE); (cases hv2 using VRel.tyE)
      cases h with
      | str => (cases hv using VRel.strE); exact PySem.IsiPair.str_str (gives_here R (.bool _))
      | none => (cases hv using VRel.noneE); exact PySem.IsiPair.NoneType_str (gives_toks R (.bool _))
      | int => (cases hv using VRel.intE); exact PySem.IsiPair.int_str (gives_toks R (.bool _))
      | bytes => (cases hv using VRel.bytesE); exact isi_bytes_str (gives_toks R (.bool _))
      | tup => cases hv using VRel.tupE with
        | tup n e r => exact PySem.IsiPair.tuple_str (R.gh _ _ e) rfl (gives_toks R (.bool _))⟩
theorem c_slice {x y : Option Int} (h1 : OptInt a x) (h2 : OptInt b y) : EvC P d (.ty "slice") [a, b] σ (.slc x y) σ := ⟨rfl, fun ok ha R Vf V => by
  (cases Vf using VRel.tyE)
  cases V using VsRel.consE with
  | cons hv ht =>
    cases ht using VsRel.consE with
    | cons hv2 ht =>
      (cases ht using VsRel.nilE)
      obtain ⟨la, hla, rfl⟩ := h1.part hv
      obtain ⟨lb, hlb, rfl⟩ := h2.part hv2
      exact call_slice_2 ⟨_, _, R.pushG _ rfl, .slc la lb hla hlb (Imm.add_self ..) rfl rfl, step_pushG R _⟩⟩
theorem c_range1 {y : Int} : EvC P d (.ty "range") [.int y] σ (.rng 0 y 1) σ := ⟨rfl, fun {c A G φ s f' vs'} ok ha R Vf V => by
  (cases Vf using VRel.tyE)
  cases V using VsRel.consE with
  | cons hv ht =>
    (cases ht using VsRel.nilE); (cases hv using VRel.intE)
    refine PySem.call_range_1 ?_
    have R' := R.toks (s.toks + 1 + 1)
    exact ⟨_, _, R'.pushG _ rfl, .rng _ _ _ (Imm.add_self ..), (step_toks _).trans' (step_pushG R' _)⟩⟩
theorem EvEs.star {es : List Expr} {vs : List AVal} (h : EvEs P d kd ρ es σ vs σ') {env : Env} {pos : Pos} : (backTo pos (starEach es env)).any (·.1) = false := by
  have h1 : (starEach es env).any (·.1) = false := by
    induction h with
    | nil => rfl
    | cons h0 _ _ ih => rw [starEach_cons h0]; simp [ih]
  have e : ∀ (l : List (Bool × Sem Value)), (backTo pos l).any (·.1) = l.any (·.1) := by
    intro l
    unfold backTo
    first
      | (simp [List.any_map, Function.comp_def]; done)
      | (cases l <;> simp [List.any_map, Function.comp_def] <;> rfl)
      | (split <;> simp_all [List.any_map, Function.comp_def])
  rw [e]; exact h1
theorem call_restG {c : Cx} {A : Around} {env : Env} {G₁ : Imm} {φ₁ : List Loc} {s₁ : Shared} {f' : Value} {fv : AVal} {args : List Expr} {vs : List AVal} {pos : Pos} {Q : Value → Shared → Prop} {E : Value → Shared → Prop} (h2 : EvEs P d kd ρ args σ₁ vs σ₂) (h3 : callable fv = true)
    (hc : ∀ {vs' : List Value} {s₂ : Shared} {G₂ : Imm} {φ₂ : List Loc}, Rel c G₂ φ₂ σ₂ s₂ → VRel c G₂ φ₂ fv f' → VsRel c G₂ φ₂ vs vs' → Step c [] G₁ φ₁ s₁ G₂ φ₂ s₂ → wpAny (Md c) A (call f' vs') Q E s₂) (H₁ : Here c P d A env kd ρ G₁ φ₁ σ₁ s₁) (V₁ : VRel c G₁ φ₁ fv f') :
    wpAny (Md c) A (callWith pos f' [] (backTo pos (starEach args env)) []) Q E s₁ := by
  have R₁ := H₁.r
  refine callWith_of (P := fun h => ∀ a o, G₁ a = some o → h.get? a = some o) (by rw [h2.star]; rfl) (fun h hG => keeper H₁.ok R₁ V₁ h3 hG) ?_
  have fin : ∀ {vs' : List Value} {s₂ : Shared} {G₂ : Imm} {φ₂ : List Loc}, Rel c G₂ φ₂ σ₂ s₂ → VsRel c G₂ φ₂ vs vs' → Step c [] G₁ φ₁ s₁ G₂ φ₂ s₂ → (∀ a o, G₁ a = some o → s₂.heap.get? a = some o) ∧
      wpAny (Md c) A (call f' ([] ++ vs')) Q E s₂ := fun R₂ V₂ S₂ =>
    ⟨fun a o e => R₂.gh a o (S₂.g a o e), hc R₂ (V₁.mono S₂.g S₂.ext) V₂ S₂⟩
  have key := h2.run pos H₁
  cases h2 with
  | nil => exact evalArgs_nil3 (fin R₁ .nil (.refl ..))
  | cons h0 _ _ =>
    rw [starEach_cons h0] at key ⊢
    have hb : ∀ (x : Sem Value) (l : List (Bool × Sem Value)), ∃ y rest, backTo pos ((false, x) :: l) = (false, y) :: rest := fun x l => by
      first
        | exact ⟨_, _, rfl⟩
        | (unfold backTo; split <;> first | exact ⟨_, _, rfl⟩ | simp_all)
    obtain ⟨y, rest, hy⟩ := hb _ _
    rw [hy] at key ⊢
    exact evalArgs_plain (noE (wpAny_mono key (fun vs' s₂ ⟨G₂, φ₂, R₂, V₂, S₂⟩ => fin R₂ V₂ S₂) fun _ _ e => e))
theorem call_rest {c : Cx} {A : Around} {env : Env} {G G₁ : Imm} {φ φ₁ : List Loc} {s s₁ : Shared} {f' : Value} {fv : AVal} {args : List Expr} {vs : List AVal} {pos : Pos} (h2 : EvEs P d kd ρ args σ₁ vs σ₂) (h3 : EvC P d fv vs σ₂ v σ') (H₁ : Here c P d A env kd ρ G₁ φ₁ σ₁ s₁) (V₁ : VRel c G₁ φ₁ fv f') (S₁ : Step c [] G φ s G₁ φ₁ s₁) :
    wpAny (Md c) A (callWith pos f' [] (backTo pos (starEach args env)) []) (GP c G φ s v σ') (fun _ _ => False) s₁ :=
  call_restG h2 h3.1 (fun R₂ Vf V₂ S₂ => Gives.after (h3.2 H₁.ok H₁.a R₂ Vf V₂) (S₁.trans' S₂)) H₁ V₁
theorem e_call {f : Str} {fp : Pos} {args : List Expr} {fv : AVal} {vs : List AVal} (h1 : EvE P d kd ρ (.Name f fp) σ fv σ₁) (h2 : EvEs P d kd ρ args σ₁ vs σ₂) (h3 : EvC P d fv vs σ₂ v σ') : EvE P d kd ρ (.Call (.Name f fp) args [] p) σ v σ' := .intro fun H =>
  wpAny_Call_NameR (wpAny_mono (h1.run H) (fun f' s₁ ⟨G₁, φ₁, R₁, V₁, S₁⟩ => call_rest h2 h3 (H.step R₁ S₁) V₁ S₁) fun _ _ e => e)
theorem e_append {o x : Expr} {m : Str} {ap : Pos} {i : Nat} {vs vs₀ : List AVal} (hno : PlainE o) (h0 : (notStar x && ap.endLine == p.line && decide (m = "append")) = true) (h1 : EvE P d kd ρ o σ (.ref i) σ₁) (h4 : σ₁[i]? = some (.list vs₀)) (h2 : EvE P d kd ρ x σ₁ b σ₂)
    (h3 : σ₂[i]? = some (.list vs)) (h5 : vs.length ≤ lim) : EvE P d kd ρ (.Call (.Attribute o m ap) [x] [] p) σ .none (σ₂.set i (.list (vs ++ [b]))) := .intro fun {c A env G φ s} H => by
  simp only [Bool.and_eq_true, decide_eq_true_eq] at h0
  obtain ⟨⟨hst, hline⟩, rfl⟩ := h0
  have hse : starEach [x] env = [(false, PySem.eval x env)] := starEach_cons hst
  refine wpAny_Call_append (by cases hno <;> with_unfolding_all rfl) (by rw [hse]; rfl) hline (by rw [hse]; rfl) (wpAny_mono (h1.run H) (fun a' s₁ ⟨G₁, φ₁, R₁, V₁, S₁⟩ => ?_) fun _ _ e => e)
  have H₁ := H.step R₁ S₁
  cases V₁ using VRel.refE with
  | ref hl =>
    obtain ⟨_, _, items, m, e1, _⟩ := R₁.obj _ _ _ hl h4
    refine ⟨_, _, rfl, ⟨_, m, e1, rfl, rfl, rfl⟩, wpAny_mono (h2.run H₁) (fun b' s₂ ⟨G₂, φ₂, R₂, V₂, S₂⟩ => ?_) fun _ _ e => e⟩
    obtain ⟨l₂, hl₂, hla, _⟩ := S₂.ext _ _ hl
    rw [← hla]
    exact sim_append R₂ hl₂ h3 V₂ h5 fun s' R' S' => ⟨G₂, φ₂, R', .none, (S₁.trans' S₂).trans' S'⟩
end
end Mini
namespace Mini
open PySem PySem.W PySem.W.X PyProof PyProof.Rows PySem.Calls
theorem ghost_get_of {h : Heap} {tabs : List (Addr × Addr)} {b : Addr} {o : Obj} (e : (ghostOf h tabs).get? b = some o) : h.get? b = some o ∧ b ∉ tabs.map (·.2) :=
  ⟨of_hideAll _ e, fun q => by rw [hideAll_none _ q] at e; cases e⟩
theorem rel_start {c : Cx} {s₁ : Shared} (hB : c.B = ghostOf s₁.heap c.tabs) (hT : TabsAt c.tabs s₁.heap) (hnd : (c.tabs.map (·.2)).Nodup) (hg : s₁.gens = #[]) : Rel c (fun a => c.B.get? a) [] [] s₁ where
  gB := fun _ _ e => e
  gh := fun a o e => by rw [hB] at e; exact (ghost_get_of e).1
  gf := fun a ha => by
    cases q : c.B.get? a with
    | none => rfl
    | some o =>
      rw [hB] at q
      refine absurd ?_ (ghost_get_of q).2
      simpa [foot] using ha
  len := rfl
  nodup := by simpa [foot] using hnd
  live := fun a ha => by
    have : a ∈ c.tabs.map (·.2) := by simpa [foot] using ha
    obtain ⟨q, hq, rfl⟩ := List.mem_map.mp this
    rw [(hT q hq).2]; rfl
  obj := fun i l o h => by simp at h
  gn := by simp [gfoot]
  bare := fun x hx => by rw [hg] at hx; simp at hx
  tab := fun q hq => ⟨#[], (hT q hq).2, trivial, fun pos cv h => by cases h⟩
noncomputable def fnCheck (K : Frag) (a : Addr) (ps : List Str) (names : List (Str × NameKind)) : Bool :=
  match K.lookup a with
  | some ⟨_, _, .func fd, _⟩ =>
    (match fd.code with
    | .ref ca => (match K.lookup ca with
      | some ⟨_, _, .fields vs, _⟩ => (match (vs[1]? : Option Value) with
        | some (.str q _) => q == fd.qualname
        | _ => false)
      | _ => false)
    | _ => false) && fd.closure.isEmpty && !fd.scope.isCoroutine && !fd.scope.isGenerator && fd.scope.kind == .function && fd.globals == mainGlobals && fd.builtins == builtinsNs &&
    decide ps.Nodup && ps.all (fun x => names.lookup x == some .local || names.lookup x == some .cell) && names.all (fun p => p.2 != .free) &&
    names.all (fun p => p.2 != .cell || names.lookup p.1 == some .cell)
  | _ => false
noncomputable def fdOf (K : Frag) (a : Addr) : FuncData := match K.lookup a with
  | some ⟨_, _, .func fd, _⟩ => fd
  | _ => default
theorem lookup_cellsFrom_some {x : Str} : ∀ (names : List (Str × NameKind)) (n : Nat) (acc : List (Str × Addr)), ((x, NameKind.cell) ∈ names ∨ (acc.lookup x).isSome = true) → ((cellsFrom n names acc).lookup x).isSome = true
  | [], n, acc, h => by
    rcases h with h | h
    · cases h
    · exact h
  | (y, k) :: r, n, acc, h => by
    unfold cellsFrom
    split
    · rename_i hk
      refine lookup_cellsFrom_some r _ _ ?_
      rcases h with h | h
      · rcases List.mem_cons.mp h with e | h
        · cases e; exact .inr (by rw [List.lookup_cons]; simp)
        · exact .inl h
      · refine .inr ?_
        rw [List.lookup_cons]
        split
        · rfl
        · exact h
    · rename_i hk
      refine lookup_cellsFrom_some r _ _ ?_
      rcases h with h | h
      · rcases List.mem_cons.mp h with e | h
        · cases e; exact absurd rfl hk
        · exact .inl h
      · exact .inr h
theorem mem_cellsFrom {p : Str × Addr} : ∀ (names : List (Str × NameKind)) (n : Nat) (acc : List (Str × Addr)), p ∈ cellsFrom n names acc → p ∈ acc ∨ (p.1, NameKind.cell) ∈ names
  | [], n, acc, h => .inl h
  | (y, k) :: r, n, acc, h => by
    unfold cellsFrom at h
    split at h
    · rename_i hk
      rcases mem_cellsFrom r _ _ h with h | h
      · rcases List.mem_cons.mp h with rfl | h
        · have := eq_of_beq hk
          subst this
          exact .inr (.head _)
        · exact .inl h
      · exact .inr (.tail _ h)
    · rcases mem_cellsFrom r _ _ h with h | h
      · exact .inl h
      · exact .inr (.tail _ h)
theorem fnOk_of {c : Cx} {K : Frag} {a : Addr} {ps : List Str} {body : List Stmt} {names : List (Str × NameKind)} (X : K.In c.B) (h : fnCheck K a ps names = true) (hb : (fdOf K a).body = .stmts body) (hn : (fdOf K a).scope.names = names)
    (bind : ∀ vs', vs'.length = ps.length → bindArgs (fdOf K a) ⟨vs', []⟩ = pure (ps.zip vs')) : FnOk c ⟨a, fdOf K a, body, ps⟩ ps body names := by
  unfold fnCheck at h
  split at h
  · rename_i cl dd fd sl hK
    have hfd : fdOf K a = fd := by unfold fdOf; rw [hK]
    simp only [Bool.and_eq_true] at h
    obtain ⟨⟨⟨⟨⟨⟨⟨⟨⟨⟨h1, h2⟩, h3⟩, h4⟩, h5⟩, h6⟩, h7⟩, h8⟩, h9⟩, h10⟩, h11⟩ := h
    rw [hfd] at hb hn bind ⊢
    split at h1
    · rename_i ca hca
      split at h1
      · rename_i cl' dd' vs sl' hK'
        split at h1
        · rename_i q t hv
          have hq := eq_of_beq h1
          subst hq
          refine ⟨⟨_, X _ _ hK, rfl⟩, ⟨ca, _, vs, t, hca, X _ _ hK', rfl, hv⟩, hb, List.isEmpty_iff.mp h2, hn, by simpa using h3, by simpa using h4, eq_of_beq h5, eq_of_beq h6, eq_of_beq h7, bind, of_decide_eq_true h8, fun x hx => ?_, fun x hx => ?_, fun x hx n => ?_⟩
          · have := List.all_eq_true.mp h9 x hx
            simpa using this
          · have := List.all_eq_true.mp h10 _ (mem_of_lookup hx)
            simp at this
          · exact lookup_cellsFrom_some names n [] (.inl (mem_of_lookup hx))
        · (cases h1)
      · (cases h1)
    · (cases h1)
  · cases h
end Mini
namespace Mini
open PySem PySem.W PySem.W.X PyProof PyProof.Rows PySem.Calls
section
variable {σ σ' : St} {i j : Nat} {o o' x y : AObj}
theorem get_new : (σ ++ [o])[σ.length]? = some o := by simp
theorem get_old (h : σ[i]? = some x) : (σ ++ σ')[i]? = some x := by
  rw [List.getElem?_append_left (List.getElem?_eq_some_iff.mp h).1]; exact h
theorem set_hit (h : σ[i]? = some x) : (σ.set i o)[i]? = some o := by
  rw [List.getElem?_set_self (List.getElem?_eq_some_iff.mp h).1]
theorem set_ne (h : i ≠ j) (h' : σ[j]? = some x) : (σ.set i o)[j]? = some x := by
  rw [List.getElem?_set_ne h]; exact h'
theorem ne_new (h : σ[i]? = some x) : i ≠ σ.length := by have := (List.getElem?_eq_some_iff.mp h).1; lia
theorem lt_get (h : σ[i]? = some x) : i < σ.length := (List.getElem?_eq_some_iff.mp h).1
theorem lo_ref {vs : List AVal} (h : σ[i]? = some (.list vs)) : listOf? σ (.ref i) = some vs := by simp [listOf?, h]
theorem lo_scr {ns : List Int} : listOf? σ (.scr ns) = some (ns.map .int) := rfl
theorem io_ref {ats : List (Str × AVal)} (h : σ[i]? = some (.inst ats)) : instOf? σ (.ref i) = some ats := by simp [instOf?, h]
theorem mk_gen {k ρ st} (h : σ[i]? = some (.gen k ρ st)) : IterR σ (.ref i) (.obj i) := mk_self (.gen h)
theorem mk_liter {v k} (h : σ[i]? = some (.liter v k)) : IterR σ (.ref i) (.obj i) := mk_self (.liter h)
theorem mk_rng1 {a b : Int} (h : a ≤ b ∧ -1000000 ≤ a ∧ b ≤ 1000000) : IterR σ (.rng a b 1) (.rng a (b - a) 1) := by
  have hs : Builtin.Range.small a b 1 = true := small_one (by lia) (by lia) (by lia) (by lia)
  have hz : Builtin.Range.rangeSize a b 1 = b - a := by rw [rangeSize_one]; split <;> lia
  rw [← hz]; exact mk_rng hs
theorem lk_name {x : Str} {p : Pos} {it : AIt} : LoopT (.Name x p) it := .name
end
section
variable {ρ : Vars} {x y : Str} {v w : AVal} {r : Option AVal} {kd : Kinds} {xs : List Str} {vs : List AVal}
theorem v_hit : Vars.set ρ x v x = some v := by simp [Vars.set]
theorem v_ne (h : (y == x) = false) (h' : ρ y = r) : Vars.set ρ x v y = r := by simp [Vars.set, beq_eq_false_iff_ne.mp h, h']
theorem b_hit : bindAll (x :: xs) (v :: vs) x = some v := by simp [bindAll]
theorem b_ne (h : (y == x) = false) (h' : bindAll xs vs y = r) : bindAll (x :: xs) (v :: vs) y = r := by simp [bindAll, beq_eq_false_iff_ne.mp h, h']
theorem l_hit {α β : Type} [BEq α] [LawfulBEq α] {x : α} {v : β} {l : List (α × β)} : ((x, v) :: l).lookup x = some v := by simp
theorem l_ne {α β : Type} [BEq α] {x y : α} {v : β} {l : List (α × β)} {r : Option β} (h : (y == x) = false) (h' : l.lookup y = r) : ((x, v) :: l).lookup y = r := by simp [List.lookup_cons, h, h']
end
section
variable {P : PI} {d : Nat} {kd : Kinds} {ρ : Vars} {σ σ₁ : St} {x : Str} {elt : Expr} {ifs : List Expr} {w : AVal} {vs : List AVal}
theorem filter_all {α : Type} (l : List α) : l.filter (fun _ => true) = l := List.filter_eq_self.mpr fun _ _ => rfl
theorem set_new {σ : St} {o o' : AObj} : (σ ++ [o]).set σ.length o' = σ ++ [o'] := by simp
theorem cm_mapFrom {f : AVal → AVal} {g : AVal → Bool} (hsrc : ∀ l, listOf? (σ₁ ++ [.list l]) w = some vs) (hlen : vs.length ≤ lim) (ht : ∀ v ∈ vs, ∀ l, EvTs P d kd (Vars.set ρ x v) .And ifs (σ₁ ++ [.list l]) (g v) (σ₁ ++ [.list l])) (h : ∀ v ∈ vs, g v = true → ∀ l, EvE P d kd (Vars.set ρ x v) elt (σ₁ ++ [.list l]) (f v) (σ₁ ++ [.list l])) :
    ∀ (rest done : List AVal) (l : List AVal), vs = done ++ rest → l.length ≤ done.length → EvCm P d kd ρ x elt ifs σ₁.length (.seq w done.length) (σ₁ ++ [.list l]) (σ₁ ++ [.list (l ++ (rest.filter g).map f)])
  | [], done, l, hv, hl => by
    subst hv
    simpa using cm_end (n_seqEnd (hsrc l) (by simp))
  | v :: rest, done, l, hv, hl => by
    have hm : v ∈ vs := by rw [hv]; simp
    have hg : vs[done.length]? = some v := by rw [hv]; simp
    have hlen' : l.length ≤ lim := by rw [hv] at hlen; simp at hlen; lia
    cases q : g v with
    | true =>
      have ih := cm_mapFrom hsrc hlen ht h rest (done ++ [v]) (l ++ [f v]) (by simpa using hv) (by simp; lia)
      refine cm_take (n_seq (hsrc l) hg) (by rw [← q]; exact ht v hm l) (h v hm q l) get_new hlen' ?_
      rw [set_new]
      simpa [q] using ih
    | false =>
      have ih := cm_mapFrom hsrc hlen ht h rest (done ++ [v]) l (by simpa using hv) (by simp; lia)
      refine cm_skip (n_seq (hsrc l) hg) (by rw [← q]; exact ht v hm l) ?_
      simpa [q] using ih
theorem cm_map {f : AVal → AVal} (hsrc : ∀ l, listOf? (σ₁ ++ [.list l]) w = some vs) (hlen : vs.length ≤ lim) (h : ∀ v ∈ vs, ∀ l, EvE P d kd (Vars.set ρ x v) elt (σ₁ ++ [.list l]) (f v) (σ₁ ++ [.list l])) :
    EvCm P d kd ρ x elt [] σ₁.length (.seq w 0) (σ₁ ++ [.list []]) (σ₁ ++ [.list (vs.map f)]) := by
  have := cm_mapFrom (kd := kd) (ρ := ρ) (x := x) (ifs := []) (g := fun _ => true) hsrc hlen (fun v hv l => ts_nil) (fun v hv _ l => h v hv l) vs [] [] rfl (Nat.le_refl _)
  rw [filter_all] at this
  simpa using this
end
end Mini
open PySem PySem.W PyProof.Rows
namespace Mini
noncomputable def AllP {α : Type} (p : Str → α → Prop) : List (Str × α) → Prop
  | [] => True
  | q :: r => p q.1 q.2 ∧ AllP p r
theorem AllP.look {α : Type} {p : Str → α → Prop} {x : Str} {v : α} : ∀ {l : List (Str × α)}, AllP p l → l.lookup x = some v → p x v
  | [], _, h => nomatch h
  | q :: r, h, e => by
    rw [List.lookup_cons] at e
    split at e
    · rename_i he
      cases e
      rw [eq_of_beq he]; exact h.1
    · exact AllP.look h.2 e
noncomputable def GOk (c : Cx) (x : Str) (v : AVal) : Prop := ∃ v', (c.mg x = some v' ∨ (c.mg x = none ∧ c.mb x = some v')) ∧ ∀ G φ, VRel c G φ v v'
noncomputable def BOk (c : Cx) : Prop := c.K.In c.B ∧ c.B.Ns mainGlobals c.mg ∧ ∀ x : Str, x ≠ "__name__" → c.mb x = bootBuiltins x
section
variable {c : Cx} {x : Str} (O : BOk c)
include O
theorem gk_fn {f : Fn} (h1 : nsIn c.K mainGlobals x = some (some (.ref f.addr))) (h2 : c.fns x = some f) : GOk c x (.fn x) :=
  ⟨.ref f.addr, .inl (mg_of O.1 O.2.1 h1), fun _ _ => VRel.fn h2⟩
theorem gk_cls (h1 : nsIn c.K mainGlobals x = some (some (.ref c.C))) : GOk c x .cls := ⟨_, .inl (mg_of O.1 O.2.1 h1), fun _ _ => .cls⟩
theorem gk_bi {n : String} (h1 : nsIn c.K mainGlobals x = some none) (h2 : (x == ("__name__" : Str)) = false) (h3 : bootBuiltins x = some (.builtin n)) : GOk c x (.bi n) :=
  ⟨.builtin n, .inr ⟨mg_none_of O.1 O.2.1 h1, (O.2.2 x (by simpa using h2)).trans h3⟩, fun _ _ => .bi _⟩
theorem gk_ty {n : String} (h1 : nsIn c.K mainGlobals x = some none) (h2 : (x == ("__name__" : Str)) = false) (h3 : bootBuiltins x = some (.type n)) : GOk c x (.ty n) :=
  ⟨.type n, .inr ⟨mg_none_of O.1 O.2.1 h1, (O.2.2 x (by simpa using h2)).trans h3⟩, fun _ _ => .ty _⟩
end
section
variable {fd : FuncData} {ps : List Str}
theorem ar1 (h0 : ps.length = 1) (h : ∀ a, bindArgs fd ⟨[a], []⟩ = pure (ps.zip [a])) (vs' : List Value) (hl : vs'.length = ps.length) : bindArgs fd ⟨vs', []⟩ = pure (ps.zip vs') := by
  rw [h0] at hl; obtain ⟨a, rfl⟩ := List.length_eq_one_iff.mp hl; exact h a
theorem len_succ {vs' : List Value} {n : Nat} (h : vs'.length = n + 1) : ∃ a r, vs' = a :: r ∧ r.length = n := by
  cases vs' with
  | nil => cases h
  | cons a r => exact ⟨a, r, rfl, by simpa using h⟩
theorem ar2 (h0 : ps.length = 2) (h : ∀ a b, bindArgs fd ⟨[a, b], []⟩ = pure (ps.zip [a, b])) (vs' : List Value) (hl : vs'.length = ps.length) : bindArgs fd ⟨vs', []⟩ = pure (ps.zip vs') := by
  rw [h0] at hl; obtain ⟨a, r, rfl, h1⟩ := len_succ hl; obtain ⟨b, rfl⟩ := List.length_eq_one_iff.mp h1; exact h a b
end
theorem mk_of {c : Cx} {h : Heap} {q : Addr × Addr} {f : Fn} {nm : Str} {p : Program} {loose : List Str} {mean : ExcName → Option Value} (hB : c.B = ghostOf h c.tabs) (hT : TabsAt c.tabs h) (T : Top p loose mean c.mg c.mb h) (hq : q ∈ c.tabs)
    (hcode : f.fd.code = .ref q.1) (htq : c.tq q.2 = f.fd.qualname ++ ".<locals>." ++ nm) (hng : mainGlobals ≠ q.2) (hown : f.fd.scope.names.all (fun p => p.2 != .cell || f.fd.scope.names.lookup p.1 == some .cell) = true) : MkOk c f nm q := by
  refine ⟨hq, hcode, ?_, htq, ?_, hng, fun L p hp hl => ?_⟩
  · rw [hB]
    obtain ⟨o, vs, file, tf, flags, tg, inF, text, tt, e1, r1, r2, r3, r4, r5, r6, r7, r8, hne⟩ := (hT q hq).1
    exact ⟨o, vs, file, tf, flags, tg, inF, text, tt, ghost_get hT e1 (fun q => by rw [q] at r1; cases r1), r1, r2, r3, r4, r5, r6, r7, r8, hne⟩
  · obtain ⟨bm, ob, b1, b2, b3, b4, b5, b6⟩ := T.bmain
    have hbP : bm ≠ q.2 := fun z => by
      have e := (hT q hq).2
      rw [z] at b3
      rw [b3] at e; cases e; cases b4
    have hbG : bm ≠ mainGlobals := fun z => by
      obtain ⟨o, es, ep, e, hd, _⟩ := T.g
      rw [z, e] at b3; cases b3; rw [hd] at b6; cases b6
    exact ⟨bm, ob, b1, b2, hbG, hbP, by rw [hB]; exact ghost_get hT b3 (fun z => by rw [z] at b4; cases b4), b4, b5, b6⟩
  · rcases mem_cellsFrom _ _ _ hp with z | z
    · cases z
    · simpa using List.all_eq_true.mp hown _ z
end Mini
open PySem PySem.W PyProof PyProof.Rows PySem.Calls
namespace Mini
section
variable {c : Cx} {P : PI} {n d : Nat} {A : Around} {env : Env} {kd : Kinds} {ρ ρ' : Vars} {G : Imm} {φ : List Loc} {σ σ' : St} {s s' : Shared} {v : AVal}
end
section
variable {P : PI} {d : Nat} {kd : Kinds} {ρ ρ₁ ρ₂ ρ' : Vars} {σ σ₁ σ₂ σ₃ σ₄ σ' : St} {v a b : AVal} {p : Pos}
end
end Mini
open PySem PySem.W PyProof PyProof.Rows PySem.Calls
namespace Mini
section
variable {P : PI} {d : Nat} {kd : Kinds} {ρ ρ₁ ρ₂ ρ' : Vars} {σ σ₁ σ₂ σ₃ σ₄ σ' : St} {v a b : AVal} {p : Pos}
end
end Mini
open PySem PySem.W PyProof PyProof.Rows PySem.Calls
namespace Mini
section
variable {P : PI} {d : Nat} {kd : Kinds} {ρ ρ₁ ρ₂ ρ' : Vars} {σ σ₁ σ₂ σ₃ σ₄ σ' : St} {v a b : AVal} {p : Pos}
end
end Mini
open PySem PySem.W PyProof PyProof.Rows PySem.Calls
namespace Mini
section
variable {c : Cx} {P : PI} {d : Nat} {A : Around} {kd : Kinds} {ρ ρ' : Vars} {G : Imm} {φ : List Loc} {σ σ' : St} {s : Shared} {v a b : AVal}
end
end Mini
open PySem PySem.W PyProof PyProof.Rows PySem.Calls
namespace Mini
end Mini
open PySem PySem.W PyProof PyProof.Rows PySem.Calls
namespace Mini
section
variable {P : PI} {d : Nat} {kd : Kinds} {ρ ρ₁ ρ₂ ρ' : Vars} {σ σ₁ σ₂ σ' : St} {x : Str} {elt : Expr}
end
end Mini
open PySem PySem.W PyProof PyProof.Rows PySem.Calls
namespace Mini
structure Swo (lt : Nat → Nat → Bool) : Prop where
  asym : ∀ i j, lt i j = true → lt j i = false
  ntr : ∀ i j k, lt i j = false → lt j k = false → lt i k = false
noncomputable def Asks (n : Nat) (lt : Nat → Nat → Bool) {α : Type} : KasT α → (α → Prop) → Prop
  | .ret a, Q => Q a
  | .ask i j k, Q => i < n ∧ j < n ∧ Asks n lt (k (lt i j)) Q
section
variable {N : Nat} {lt : Nat → Nat → Bool}
theorem Asks.mono {α : Type} {Q Q' : α → Prop} (h : ∀ a, Q a → Q' a) : ∀ {t : KasT α}, Asks N lt t Q → Asks N lt t Q'
  | .ret a, x => h a x
  | .ask i j k, ⟨a, b, x⟩ => ⟨a, b, Asks.mono h x⟩
noncomputable def Stb (lt : Nat → Nat → Bool) (i j : Nat) : Prop := lt i j = true ∨ (lt j i = false ∧ i < j)
theorem Stb.trans (w : Swo lt) {i j k : Nat} (h1 : Stb lt i j) (h2 : Stb lt j k) : Stb lt i k := by
  rcases h1 with h1 | ⟨h1, l1⟩ <;> rcases h2 with h2 | ⟨h2, l2⟩
  · left
    cases q : lt i k with
    | true => rfl
    | false => have := w.ntr i k j q (w.asym j k h2); rw [this] at h1; cases h1
  · left
    cases q : lt i k with
    | true => rfl
    | false => have := w.ntr i k j q h2; rw [this] at h1; cases h1
  · left
    cases q : lt i k with
    | true => rfl
    | false => have := w.ntr j i k h1 q; rw [this] at h2; cases h2
  · exact .inr ⟨w.ntr k j i h2 h1, by lia⟩
noncomputable def gt (p : Array Nat) (i : Nat) : Nat := p.getD i 0
noncomputable def SortP (lt : Nat → Nat → Bool) (p : Array Nat) (m : Nat) : Prop := ∀ i j, i < j → j < m → Stb lt (gt p i) (gt p j)
structure Pre (N : Nat) (p : Array Nat) (m : Nat) : Prop where
  perm : p.Perm (List.range N).toArray
  lo : ∀ i, i < m → gt p i < m
  hi : ∀ i, m ≤ i → i < N → gt p i = i
theorem Pre.more {p : Array Nat} {m k : Nat} (h : Pre N p m) (hk : m ≤ k) (hn : k ≤ N) : Pre N p k := by
  refine ⟨h.perm, fun i hi => ?_, fun i hi hn => h.hi i (by lia) hn⟩
  rcases Nat.lt_or_ge i m with q | q
  · have := h.lo i q; lia
  · rw [h.hi i q (by lia)]; exact hi
theorem asc_ok (w : Swo lt) {p : Array Nat} : ∀ (f a : Nat), a + f = N → 1 ≤ a → Pre N p a → SortP lt p a → Asks N lt (kas_asc p f a) fun m => a ≤ m ∧ m ≤ N ∧ SortP lt p m ∧ (m < N → lt (gt p m) (gt p (m - 1)) = true)
  | 0, a, h, h1, hp, hs => ⟨Nat.le_refl _, by lia, hs, fun q => by lia⟩
  | f + 1, a, h, h1, hp, hs => by
    have e1 : gt p a = a := hp.hi a (Nat.le_refl _) (by lia)
    have e2 := hp.lo (a - 1) (by lia)
    show _ < N ∧ _ < N ∧ _
    refine ⟨by show gt p a < N; lia, by show gt p (a - 1) < N; lia, ?_⟩
    show Asks N lt (if lt (gt p a) (gt p (a - 1)) = true then KasT.ret a else kas_asc p f (a + 1)) _
    cases q : lt (gt p a) (gt p (a - 1)) with
    | true => exact ⟨Nat.le_refl _, by lia, hs, fun _ => q⟩
    | false =>
      refine Asks.mono (fun m hm => ⟨by lia, hm.2⟩) (asc_ok w f (a + 1) (by lia) (by lia) (hp.more (by lia) (by lia)) fun i j hij hj => ?_)
      have h0 : Stb lt (gt p (a - 1)) (gt p a) := .inr ⟨q, by lia⟩
      rcases Nat.lt_or_ge j a with hja | hja
      · exact hs i j hij hja
      · have : j = a := by lia
        subst this
        rcases Nat.lt_or_ge i (j - 1) with hi | hi
        · exact (hs i (j - 1) hi (by lia)).trans w h0
        · have : i = j - 1 := by lia
          subst this; exact h0
end
end Mini
open PySem PySem.W PyProof PyProof.Rows PySem.Calls
namespace Mini
section
variable {prog : Program} {w : World} {A : Around} {E : Value → Shared → Prop} {s : Shared} {vs : List Value} {lt : Nat → Nat → Bool} {κ : SortKind}
end
end Mini
open PySem PySem.W PyProof PyProof.Rows PySem.Calls
namespace Mini
section
end
end Mini
open PySem PySem.W PyProof PyProof.Rows PySem.Calls
namespace Mini
section
variable {prog : Program} {w : World} {A : Around} {E : Value → Shared → Prop} {s : Shared}
end
section
variable {c : Cx} {P : PI} {d : Nat} {A : Around} {kd : Kinds} {ρ ρ' : Vars} {G : Imm} {φ : List Loc} {σ σ' : St} {s : Shared} {v a b : AVal}
end
end Mini
open PySem PySem.W PyProof PyProof.Rows PySem.Calls PySem.Spec PySem.SeqAt
namespace Mini
mutual
inductive Dt (σ : St) : AVal → PyData → Prop
  | none : Dt σ .none .none
  | bool {b : Bool} : Dt σ (.bool b) (.bool b)
  | int {i : Int} : Dt σ (.int i) (.int i)
  | str {x : Str} : Dt σ (.str x) (.str x)
  | tup {vs : List AVal} {ds : List PyData} (h : Dts σ vs ds) : Dt σ (.tup vs) (.tuple ds)
  | list {v : AVal} {vs : List AVal} {ds : List PyData} (e : listOf? σ v = some vs) (h : Dts σ vs ds) : Dt σ v (.list ds)
inductive Dts (σ : St) : List AVal → List PyData → Prop
  | nil : Dts σ [] []
  | cons {v : AVal} {d : PyData} {vs : List AVal} {ds : List PyData} (h : Dt σ v d) (t : Dts σ vs ds) : Dts σ (v :: vs) (d :: ds)
end
section
variable {c : Cx} {P : PI} {d : Nat} {A : Around} {kd : Kinds} {ρ ρ' : Vars} {G : Imm} {φ : List Loc} {σ σ' : St} {s : Shared} {v a b : AVal}
mutual
theorem Dt.reads (R : Rel c G φ σ s) : ∀ {v : AVal} {d : PyData} {v' : Value}, Dt σ v d → VRel c G φ v v' → ∃ as, Reads s.heap v' d as
  | _, _, _, .none, V => by (cases V using VRel.noneE); exact ⟨_, .none⟩
  | _, _, _, .bool, V => by (cases V using VRel.boolE); exact ⟨_, .bool _⟩
  | _, _, _, .int, V => by (cases V using VRel.intE); exact ⟨_, .int _ _⟩
  | _, _, _, .str, V => by (cases V using VRel.strE); exact ⟨_, .str _ _⟩
  | _, _, _, .tup h, V => by
    cases V using VRel.tupE with
    | tup n e r =>
      obtain ⟨as, x⟩ := Dts.reads R h r
      exact ⟨as, .tuple (R.gh _ _ e) rfl rfl (by simpa using x)⟩
  | _, _, _, .list e h, V => by
    obtain ⟨la, o, items, m, rfl, g, cc, dd, rr⟩ := R.isList V e
    obtain ⟨as, x⟩ := Dts.reads R h rr
    exact ⟨_, .list g cc dd (by simpa using x)⟩
theorem Dts.reads (R : Rel c G φ σ s) : ∀ {vs : List AVal} {ds : List PyData} {vs' : List Value}, Dts σ vs ds → VsRel c G φ vs vs' → ∃ as, ReadsAll s.heap vs' ds as
  | _, _, _, .nil, V => by (cases V using VsRel.nilE); exact ⟨_, .nil⟩
  | _, _, _, .cons h t, V => by
    cases V using VsRel.consE with
    | cons hv ht =>
      obtain ⟨a1, x1⟩ := Dt.reads R h hv
      obtain ⟨a2, x2⟩ := Dts.reads R t ht
      exact ⟨_, .cons x1 x2⟩
end
mutual
theorem noMix_self : ∀ {d : PyData}, d.canLay0 = true → noMix d d = true
  | .none, _ => by simp [noMix]
  | .bool _, _ => by simp [noMix]
  | .int _, _ => by simp [noMix]
  | .str _, _ => by simp [noMix]
  | .list xs, h => by simp only [noMix]; exact noMixAll_self (by simpa [PyData.canLay0] using h)
  | .tuple xs, h => by simp only [noMix]; exact noMixAll_self (by simpa [PyData.canLay0] using h)
  | .dict _, h => by simp [PyData.canLay0] at h
theorem noMixAll_self : ∀ {ds : List PyData}, PyData.canLayAll0 ds = true → noMixAll ds ds = true
  | [], _ => by simp [noMixAll]
  | d :: ds, h => by
    simp only [PyData.canLayAll0, Bool.and_eq_true] at h
    simp [noMixAll, noMix_self h.1, noMixAll_self h.2]
end
theorem c_neD {x y : PyData} {q : Bool} (h1 : Dt σ a x) (h2 : Dt σ b y) (s1 : shaped x = true) (s2 : shaped y = true) (hm : noMix x y = true) (h : (!PySem.Spec.same x y) = q) : CmpR .NotEq a b σ q := .intro fun ha R Va Vb k => by
  subst h
  obtain ⟨as, r1⟩ := h1.reads R Va
  obtain ⟨bs, r2⟩ := h2.reads R Vb
  exact ne_dataH_same r1 r2 s1 s2 ha.eq hm (k _ R (.refl ..))
theorem c_neS {x : PyData} (h1 : Dt σ a x) (h2 : Dt σ b x) (s1 : shaped x = true) : CmpR .NotEq a b σ false := c_neD h1 h2 s1 s1 (noMix_self (canLay_of_shaped s1)) (by rw [PySem.Spec.same_self]; rfl)
end
end Mini
open PySem PySem.W PySem.W.X PyProof PyProof.Rows PySem.Calls
namespace Mini
section
variable {c : Cx} {P : PI} {n d : Nat} {A : Around} {env : Env} {kd : Kinds} {ρ ρ' ρf : Vars} {G G' G₂ : Imm} {φ φ' φ₂ : List Loc} {σ σ' σ₂ : St} {s s' s₂ s₃ : Shared} {v : AVal}
end
end Mini
open PySem PySem.W PySem.W.X PyProof PyProof.Rows PySem.Calls
namespace Mini
section
variable {c : Cx} {P : PI} {n d : Nat} {A : Around} {env : Env} {kd : Kinds} {ρ ρ' ρf : Vars} {G G' : Imm} {φ φ' : List Loc} {σ σ' : St} {s s' : Shared} {v b : AVal}
end
end Mini
open PySem PySem.W PySem.W.X PyProof PyProof.Rows PySem.Calls
namespace Mini
section
variable {P : PI} {d : Nat} {nm : Str} {kd : Kinds} {ρ ρ₁ ρ₂ ρ' : Vars} {σ σ₁ σ₂ σ₃ σ' : St} {v a b : AVal} {p : Pos}
end
section
variable {c : Cx} {P : PI} {n d : Nat} {A : Around} {G : Imm} {φ : List Loc} {σ σ' : St} {s : Shared} {v : AVal}
end
end Mini
open PySem PySem.W PySem.W.X PyProof PyProof.Rows PySem.Calls
namespace Mini
end Mini
open PySem PySem.W PySem.W.X PyProof PyProof.Rows PySem.Calls
namespace Mini
section
variable {c : Cx} {P : PI} {d : Nat} {A : Around} {kd : Kinds} {ρ ρ' : Vars} {G : Imm} {φ : List Loc} {σ σ' : St} {s : Shared} {v a b : AVal}
section
variable {prog : Program} {w : World} {E : Value → Shared → Prop}
end
end
end Mini
open PySem PySem.W PySem.W.X PyProof PyProof.Rows PySem.Calls
namespace Mini
section
variable {prog : Program} {w : World} {K : Type} [DecidableEq K] {knd : KeyKind prog w K} {A : Around} {E : Value → Shared → Prop} {s : Shared}
end
noncomputable def lookD {K : Type} [DecidableEq K] : List (K × AVal) → K → Option AVal
  | [], _ => none
  | (j, v) :: r, k => if j = k then some v else lookD r k
section
variable {K : Type} [DecidableEq K] {c : Cx} {G : Imm} {φ : List Loc}
theorem look_rel {k : K} : ∀ {kvs : List (K × AVal)} {es : List (K × Value)}, es.map (·.1) = kvs.map (·.1) → VsRel c G φ (kvs.map (·.2)) (es.map (·.2)) → (∀ v, lookD kvs k = some v → ∃ v', valueAt es k = some v' ∧ VRel c G φ v v') ∧ (lookD kvs k = none → valueAt es k = none)
  | [], [], _, _ => ⟨fun v h => (by cases h), fun _ => rfl⟩
  | [], e :: r, h, _ => (by simp at h)
  | e :: r, [], h, _ => (by simp at h)
  | (j, v) :: r, (j', v') :: r', h, hv => by
    simp only [List.map_cons, List.cons.injEq] at h
    obtain ⟨rfl, h⟩ := h
    cases hv using VsRel.consE with
    | cons h1 h2 =>
      have ih := look_rel (k := k) h h2
      unfold lookD valueAt
      by_cases e : j' = k
      · rw [if_pos e, List.find?_cons_of_pos (by simpa using e)]
        exact ⟨fun w hw => (by cases hw; exact ⟨_, rfl, h1⟩), fun hw => (by cases hw)⟩
      · rw [if_neg e, List.find?_cons_of_neg (by simpa using e)]
        exact ih
end
section
variable {c : Cx} {P : PI} {n d : Nat} {A : Around} {env : Env} {kd : Kinds} {ρ ρ₁ ρ₂ ρ' : Vars} {G : Imm} {φ : List Loc} {σ σ₁ σ₂ σ₃ σ' : St} {s : Shared} {v a b : AVal} {p : Pos}
theorem str_is {k : Str} {t : Tok} : (strKind c.prog c.w).is k (.str k t) = true := by
  show Value.isStrOf k (.str k t) = true
  simp [Value.isStrOf]
end
end Mini
open PySem PySem.W PySem.W.X PyProof PyProof.Rows PySem.Calls
namespace Mini
section
variable {P : PI} {d : Nat} {nm : Str} {kd : Kinds} {ρ ρ₁ ρ₂ ρ' : Vars} {σ σ₁ σ₂ σ₃ σ' : St} {v w a b : AVal} {p : Pos}
end
end Mini
open PySem PySem.W PySem.W.X PyProof PyProof.Rows PySem.Calls
namespace Mini
noncomputable abbrev fsL (l : List Env) : List Addr := l.filterMap (·.frame)
structure Low (c : Cx) (G : Imm) (φ : List Loc) (l : List Env) (s : Shared) : Prop where
  own : OwnOk c G φ (fsL l) s
  fr : ∀ x ∈ l, x.scope.kind ≠ .module ∧ ∃ L o, x.frame = some L ∧ s.heap.get? L = some o ∧ ∀ vs, o.data ≠ .fields vs
noncomputable def UpS (fs : List Addr) (s s' : Shared) : Prop := ∀ L ∈ fs, ∀ o, s.heap.get? L = some o → ∃ sl, s'.heap.get? L = some { o with slots := sl }
theorem UpS.trans {fs : List Addr} {s₁ s₂ s₃ : Shared} (x : UpS fs s₁ s₂) (y : UpS fs s₂ s₃) : UpS fs s₁ s₃ := fun L h o e => let ⟨_, e₁⟩ := x L h o e; let ⟨sl, e₂⟩ := y L h _ e₁; ⟨sl, e₂⟩
section
variable {c : Cx} {P : PI} {d : Nat} {A : Around} {env : Env} {l : List Env} {kd : Kinds} {ρ ρ' : Vars} {G G₀ G' : Imm} {φ φ₀ φ' : List Loc} {σ σ' : St} {s s₀ s' : Shared} {own : List Addr}
theorem Low.step (h : Low c G φ l s) (S : Step c own G φ s G' φ' s') (U : UpS (fsL l) s s') : Low c G' φ' l s' := ⟨h.own.step S, fun x hx => by
  obtain ⟨h1, L, o, h2, h3, h4⟩ := h.fr x hx
  obtain ⟨sl, e⟩ := U L (List.mem_filterMap.mpr ⟨x, hx, h2⟩) o h3
  exact ⟨h1, L, _, h2, e, h4⟩⟩
theorem Low.exact (h : Low c G φ l s) (S : Step c own G φ s G' φ' s') (hd : ∀ L ∈ fsL l, L ∉ own) : UpS (fsL l) s s' := fun L hL o e => ⟨o.slots, S.frame L o (h.own L hL).1 (hd L hL) e⟩
theorem Low.data (h : Low c G φ l s) {L : Addr} (hL : L ∈ fsL l) : ∃ o, s.heap.get? L = some o ∧ ∀ vs, o.data ≠ .fields vs := by
  obtain ⟨x, hx, h2⟩ := List.mem_filterMap.mp hL
  obtain ⟨_, L', o, h3, h4, h5⟩ := h.fr x hx
  rw [h2] at h3; cases h3
  exact ⟨o, h4, h5⟩
theorem Low.nil : Low c G φ [] s := ⟨(fun _ h => nomatch h), fun _ h => nomatch h⟩
theorem funFrames_of {h base : Heap} : ∀ {l : List Env}, (∀ x ∈ l, x.scope.kind ≠ .module ∧ ∃ L o, x.frame = some L ∧ h.get? L = some o ∧ ∀ vs, o.data ≠ .fields vs) → (∀ L ∈ fsL l, base.get? L = none) → h.FunFrames base l
  | [], _, _ => trivial
  | x :: r, h1, h2 => by
    obtain ⟨k1, L, o, k2, k3, k4⟩ := h1 x (.head _)
    have hm : ∀ L' ∈ fsL r, L' ∈ fsL (x :: r) := fun L' hL => by rw [fsL, List.filterMap_cons, k2]; exact .tail _ hL
    exact ⟨k1, ⟨L, o, k2, h2 L (by rw [fsL, List.filterMap_cons, k2]; exact .head _), k3, k4⟩, funFrames_of (fun y hy => h1 y (.tail _ hy)) fun L' hL => h2 L' (hm L' hL)⟩
structure HereF (c : Cx) (P : PI) (d : Nat) (A : Around) (env : Env) (lw : List Env) (kd : Kinds) (ρ : Vars) (G : Imm) (φ : List Loc) (σ : St) (s : Shared) : Prop extends HereX c P d A env kd ρ G φ σ s where
  fa : A.frames = some (env :: lw)
  ff : env.frame = some env.locals
  low : Low c G φ lw s
  ap : ∀ L ∈ fsL lw, L ∉ owns env
inductive AfterF (c : Cx) (env : Env) (l : List Env) (G : Imm) (φ : List Loc) (s : Shared) (ρ' : Vars) (σ' : St) (s' : Shared) (K : Imm → List Loc → Prop) : Prop
  | mk (G' : Imm) (φ' : List Loc) (R : Rel c G' φ' σ' s') (L : LocRel c G' φ' env ρ' s'.heap) (F : FrOk env s'.heap) (S : Step c (owns env ++ fsL l) G φ s G' φ' s') (U : UpS (fsL l) s s') (k : K G' φ')
noncomputable def DoesF (c : Cx) (A : Around) (env : Env) (l : List Env) (G : Imm) (φ : List Loc) (s : Shared) (t : Sem Flow) (f : Flw) (ρ' : Vars) (σ' : St) : Prop :=
  wpAny (Md c) A t (fun f' s' => AfterF c env l G φ s ρ' σ' s' fun G' φ' => FRel c G' φ' f f') (fun _ _ => False) s
theorem fsL_cons (ff : env.frame = some env.locals) : fsL (env :: l) = env.locals :: fsL l := by rw [fsL, List.filterMap_cons, ff]
theorem HereF.then (H : HereF c P d A env l kd ρ G φ σ s) (R : Rel c G' φ' σ' s') (L : LocRel c G' φ' env ρ' s'.heap) (F : FrOk env s'.heap) (S : Step c (owns env ++ fsL l) G φ s G' φ' s') (U : UpS (fsL l) s s') : HereF c P d A env l kd ρ' G' φ' σ' s' :=
  ⟨⟨⟨H.ok, H.a, H.kd, R, L, H.o.step S⟩, F⟩, H.fa, H.ff, H.low.step S U, H.ap⟩
theorem HereF.exact (H : HereF c P d A env l kd ρ G φ σ s) (S : Step c (owns env) G φ s G' φ' s') : UpS (fsL l) s s' := H.low.exact S H.ap
theorem HereF.step (H : HereF c P d A env l kd ρ G φ σ s) (R : Rel c G' φ' σ' s') (S : Step c [] G φ s G' φ' s') : HereF c P d A env l kd ρ G' φ' σ' s' :=
  ⟨H.toHereX.step R S, H.fa, H.ff, H.low.step S (H.low.exact S fun _ _ h => nomatch h), H.ap⟩
theorem AfterF.after {K : Imm → List Loc → Prop} (h : AfterF c env l G' φ' s' ρ' σ' s K) (S : Step c (owns env ++ fsL l) G φ s₀ G' φ' s') (U : UpS (fsL l) s₀ s') : AfterF c env l G φ s₀ ρ' σ' s K := by
  obtain ⟨G₂, φ₂, R, L, F, S₂, U₂, k⟩ := h
  exact ⟨G₂, φ₂, R, L, F, S.trans' S₂, U.trans U₂, k⟩
theorem HereF.alive (H : HereF c P d A env l kd ρ G φ σ s) : ∀ a ∈ owns env, (s.heap.get? a).isSome := fun a ha => (H.o.away ha).2
noncomputable def Big (c : Cx) (G : Imm) (φ : List Loc) (fs : List Addr) (s₀ s : Shared) (base : Heap) : Prop := ∀ b, (b ∈ foot c φ ∨ (G b).isSome = true ∨ (s₀.heap.get? b).isSome = true) → b ∉ fs → base.get? b = s.heap.get? b
structure In (c : Cx) (P : PI) (d : Nat) (A : Around) (env : Env) (l : List Env) (kd : Kinds) (ρ : Vars) (G₀ : Imm) (φ₀ : List Loc) (s₀ : Shared) (G : Imm) (φ : List Loc) (σ : St) (s : Shared) : Prop where
  h : HereF c P d A env l kd ρ G φ σ s
  st : Step c (owns env ++ fsL l) G₀ φ₀ s₀ G φ s
  up : UpS (fsL l) s₀ s
  al : ∀ a ∈ owns env, (s₀.heap.get? a).isSome
theorem HereF.notField (H : HereF c P d A env l kd ρ G φ σ s) {b : Addr} (hb : b ∈ fsL (env :: l)) : ∃ o, s.heap.get? b = some o ∧ ∀ vs, o.data ≠ .fields vs := by
  rw [fsL_cons H.ff] at hb
  rcases List.mem_cons.mp hb with rfl | hb
  · obtain ⟨m, ⟨o, es, ep, ho, hd, _⟩, _⟩ := H.l.ns
    exact ⟨o, ho, fun vs q => by rw [hd] at q; cases q⟩
  · exact H.low.data hb
theorem HereF.apart (H : HereF c P d A env l kd ρ G φ σ s) {b : Addr} (hb : b ∈ fsL (env :: l)) : b ∉ foot c φ ∧ G b = none := by
  rw [fsL_cons H.ff] at hb
  rcases List.mem_cons.mp hb with rfl | hb
  · exact ⟨(H.o.loc _ (.head _)).1, (H.o.loc _ (.head _)).2.1⟩
  · exact ⟨(H.low.own _ hb).1, (H.low.own _ hb).2.1⟩
theorem HereF.cellNot (H : HereF c P d A env l kd ρ G φ σ s) {y : Str} {a : Addr} (e : env.cells.lookup y = some a) : a ∉ fsL (env :: l) := fun hb => by
  rw [fsL_cons H.ff] at hb
  rcases List.mem_cons.mp hb with hb | hb
  · exact H.f.nl _ _ (mem_of_lookup e) hb
  · exact H.ap _ hb (mem_owns (.inr ⟨y, e⟩))
theorem In.move {base h' : Heap} (I : In c P d A env l kd ρ G₀ φ₀ s₀ G φ σ s) (bb : Big c G φ (fsL (env :: l)) s₀ s base) (st : base.StaysIn h') (up : s.heap.UpToSlots h') :
    In c P d A env l kd ρ G₀ φ₀ s₀ G φ σ { s with heap := h' } ∧ Big c G φ (fsL (env :: l)) s₀ { s with heap := h' } base := by
  have H := I.h
  have kk : ∀ b o, (b ∈ foot c φ ∨ (G b).isSome = true ∨ (s₀.heap.get? b).isSome = true) → b ∉ fsL (env :: l) → s.heap.get? b = some o → h'.get? b = some o := fun b o h1 h2 e => st b o ((bb b h1 h2).trans e)
  have hnot : ∀ b, (b ∈ foot c φ ∨ (G b).isSome = true) → b ∉ fsL (env :: l) := fun b hb q => by
    obtain ⟨h1, h2⟩ := H.apart q
    rcases hb with hb | hb
    · exact h1 hb
    · rw [h2] at hb; cases hb
  have R : Rel c G φ σ { s with heap := h' } := H.r.same fun a o ha e => kk a o (ha.elim .inl fun q => .inr (.inl q)) (hnot a ha) e
  have cell : ∀ y a o, env.cells.lookup y = some a → s.heap.get? a = some o → h'.get? a = some o := fun y a o e g => kk a o (.inr (.inr (I.al a (mem_owns (.inr ⟨y, e⟩))))) (H.cellNot e) g
  have L : LocRel c G φ env ρ h' := ⟨H.l.kind, H.l.glob, H.l.bi, (let ⟨m, hn, hv⟩ := H.l.ns; ⟨m, up.ns hn, hv⟩), fun y w h1 h2 => by
    obtain ⟨a, w', e, ⟨o, ho, hd⟩, r⟩ := H.l.cell y w h1 h2
    exact ⟨a, w', e, ⟨o, cell y a o e ho, hd⟩, r⟩⟩
  have F : FrOk env h' := ⟨fun x hx => let ⟨a, v, e, o, ho, hd⟩ := H.f.ex x hx; ⟨a, v, e, o, cell x a o e ho, hd⟩, H.f.apart, H.f.nl⟩
  have live : ∀ b, b ∈ fsL (env :: l) → (h'.get? b).isSome := fun b hb => by
    obtain ⟨o, e, hn⟩ := H.notField hb
    obtain ⟨sl, e'⟩ := up b o e hn
    rw [e']; rfl
  have hin : ∀ b, b ∉ owns env ++ fsL l → b ∉ fsL (env :: l) := fun b hb q => by
    rw [fsL_cons H.ff] at q
    rcases List.mem_cons.mp q with rfl | q
    · exact hb (List.mem_append_left _ (.head _))
    · exact hb (List.mem_append_right _ q)
  have S : Step c (owns env ++ fsL l) G₀ φ₀ s₀ G φ { s with heap := h' } := ⟨I.st.g, I.st.ext, I.st.foot, I.st.dom, fun b o h1 h2 e => kk b o (.inr (.inr (by rw [e]; rfl))) (hin b h2) (I.st.frame b o h1 h2 e), fun b hb => by
    by_cases q : b ∈ fsL (env :: l)
    · exact live b q
    · obtain ⟨x, hx⟩ := Option.isSome_iff_exists.mp (I.st.keep b hb)
      show (h'.get? b).isSome
      rw [kk b x (.inr (.inr hb)) q hx]; rfl, I.st.os, I.st.gsz, I.st.gfr, I.st.gft⟩
  have ups : UpS (fsL l) s { s with heap := h' } := fun L hL o e => by
    obtain ⟨o', e', hn⟩ := H.low.data hL
    rw [e] at e'; cases e'
    exact up L o e hn
  have owns' : OwnOk c G φ (fsL l) { s with heap := h' } := fun b hb => ⟨(H.low.own b hb).1, (H.low.own b hb).2.1, live b (by rw [fsL_cons H.ff]; exact .tail _ hb)⟩
  refine ⟨⟨⟨⟨⟨H.ok, H.a, H.kd, R, L, ⟨fun b hb => ?_, fun x a e => ?_⟩⟩, F⟩, H.fa, H.ff, ⟨owns', fun x hx => ?_⟩, H.ap⟩, S, I.up.trans ups, I.al⟩, fun b h1 h2 => ?_⟩
  · cases List.mem_singleton.mp hb
    exact ⟨(H.o.loc _ (.head _)).1, (H.o.loc _ (.head _)).2.1, live _ (by rw [fsL_cons H.ff]; exact .head _)⟩
  · obtain ⟨z1, z2, z3⟩ := H.o.cel x a e
    obtain ⟨o, ho⟩ := Option.isSome_iff_exists.mp z2
    exact ⟨z1, by show (h'.get? a).isSome; rw [cell x a o e ho]; rfl, z3⟩
  · obtain ⟨h1, L, o, h2, h3, h4⟩ := H.low.fr x hx
    obtain ⟨sl, e⟩ := up L o h3 h4
    exact ⟨h1, L, _, h2, e, h4⟩
  · cases q : s.heap.get? b with
    | some o => rw [bb b h1 h2, q]; exact (kk b o h1 h2 q).symm
    | none =>
      exfalso
      have : (s.heap.get? b).isSome := by
        rcases h1 with h1 | h1 | h1
        · exact H.r.live b h1
        · obtain ⟨o, ho⟩ := Option.isSome_iff_exists.mp h1
          rw [H.r.gh b o ho]; rfl
        · exact I.st.keep b h1
      rw [q] at this; cases this
inductive Exc (c : Cx) (G : Imm) (φ : List Loc) (l : List Env) (e : Addr) (X : String) (s₀ s : Shared) : Prop
  | new (ob : Obj) (t : Value) (vs : Array Value) (he : s.heap.get? e = some ob) (hc : ob.cls = .type X) (hd : ob.data = .fields vs) (hv : vs[0]? = some t ∧ vs[1]? = some .none) (h0 : s₀.heap.get? e = none) (hf : e ∉ foot c φ) (hG : G e = none)
  | fly (base : Heap) (a0 : Value) (hf : Heap.FlyingW base l e (.type X) a0 s.heap) (bb : Big c G φ (fsL l) s₀ s base)
noncomputable def Held (c : Cx) (G : Imm) (φ : List Loc) (env : Env) (l : List Env) (e : Addr) (X : String) (s₀ s : Shared) : Prop := ∃ base a0, Heap.HeldW base (env :: l) e (.type X) a0 env.locals s.heap ∧ Big c G φ (fsL (env :: l)) s₀ s base
noncomputable def Flies (c : Cx) (G : Imm) (φ : List Loc) (l : List Env) (e : Addr) (X : String) (s₀ s : Shared) : Prop := ∃ base a0, Heap.FlyingW base l e (.type X) a0 s.heap ∧ Big c G φ (fsL l) s₀ s base
theorem hide_big {fs : List Addr} {e : Addr} (h0 : s₀.heap.get? e = none) (hf : e ∉ foot c φ) (hG : G e = none) : Big c G φ fs s₀ s (hideAll s.heap (e :: fs)) := fun b h1 h2 => by
  have hb : b ∉ e :: fs := fun q => by
    rcases List.mem_cons.mp q with rfl | q
    · rcases h1 with h1 | h1 | h1
      · exact hf h1
      · rw [hG] at h1; cases h1
      · rw [h0] at h1; cases h1
    · exact h2 q
  cases q : s.heap.get? b with
  | some o => exact hideAll_get _ q hb
  | none =>
    cases q2 : (hideAll s.heap (e :: fs)).get? b with
    | none => rfl
    | some o => rw [of_hideAll _ q2] at q; cases q
theorem exc_note {e : Addr} {X : String} {Q : Unit → Shared → Prop} {E : Value → Shared → Prop} (I : In c P d A env l kd ρ G₀ φ₀ s₀ G φ σ s) (x : Exc c G φ (env :: l) e X s₀ s)
    (k : ∀ s', In c P d A env l kd ρ G₀ φ₀ s₀ G φ σ s' → Held c G φ env l e X s₀ s' → Q () s') : wpAny (Md c) A (noteFrame (.ref e) env) Q E s := by
  have H := I.h
  cases x with
  | new ob t vs he hc hd hv h0 hf hG =>
    have bb : Big c G φ (fsL (env :: l)) s₀ s (hideAll s.heap (e :: fsL (env :: l))) := hide_big h0 hf hG
    have st : (hideAll s.heap (e :: fsL (env :: l))).StaysIn s.heap := fun b o hb => of_hideAll _ hb
    have hff : s.heap.FunFrames (hideAll s.heap (e :: fsL (env :: l))) (env :: l) := funFrames_of (fun y hy => by
      rcases List.mem_cons.mp hy with rfl | hy
      · obtain ⟨o, ho, hn⟩ := H.notField (b := y.locals) (by rw [fsL_cons H.ff]; exact .head _)
        exact ⟨by rw [H.l.kind]; decide, _, o, H.ff, ho, hn⟩
      · exact H.low.fr y hy) fun L hL => hideAll_none _ (.tail _ hL)
    unfold noteFrame
    simp only [H.ff]
    refine wpAny_bind (wpAny_field he hd (x := .none) hv.2 ?_)
    rw [if_neg (by decide)]
    refine wpAny_entryW (a0 := t) H.fa hff H.ff he st (hideAll_none _ (.head _)) hd (Array.getElem?_eq_some_iff.mp hv.2).1 hv.1 fun h' ⟨k1, k2, k3, k4⟩ => ?_
    obtain ⟨I', bb'⟩ := I.move bb k1 k4
    rw [hc] at k3
    exact k _ I' ⟨_, _, ⟨k1, hideAll_none _ (.head _), k2, k3⟩, bb'⟩
  | fly base a0 hf bb =>
    refine wpAny_looks_onW H.fa H.ff hf fun h' hh up => ?_
    obtain ⟨I', bb'⟩ := I.move bb hh.1 up
    exact k _ I' ⟨_, _, hh, bb'⟩
theorem held_land {e : Addr} {X : String} {B : Around} {Q : Unit → Shared → Prop} {E : Value → Shared → Prop} (I : In c P d A env l kd ρ G₀ φ₀ s₀ G φ σ s) (x : Held c G φ env l e X s₀ s)
    (k : ∀ s', In c P d A env l kd ρ G₀ φ₀ s₀ G φ σ s' → Flies c G φ (env :: l) e X s₀ s' → Q () s') : wpAny (Md c) B (setFlight (.ref e) none) Q E s := by
  obtain ⟨base, a0, hh, bb⟩ := x
  refine wpAny_landsW hh fun h' hf up => ?_
  obtain ⟨I', bb'⟩ := I.move bb hf.1 up
  exact k _ I' ⟨_, _, hf, bb'⟩
theorem fly_land {e : Addr} {X : String} {B : Around} {Q : Unit → Shared → Prop} {E : Value → Shared → Prop} (I : In c P d A env l kd ρ G₀ φ₀ s₀ G φ σ s) (x : Flies c G φ (env :: l) e X s₀ s)
    (k : ∀ s', In c P d A env l kd ρ G₀ φ₀ s₀ G φ σ s' → Flies c G φ (env :: l) e X s₀ s' → Q () s') : wpAny (Md c) B (setFlight (.ref e) none) Q E s := by
  obtain ⟨base, a0, ⟨f1, f2, f3, f4⟩, bb⟩ := x
  refine wpAny_setFlight_noneW f1 f3 f4.at fun h' k1 k2 k3 k4 => ?_
  obtain ⟨I', bb'⟩ := I.move bb k1 fun b o hb hn => ⟨o.slots, k4 b o hb hn⟩
  exact k _ I' ⟨_, _, ⟨k1, f2, k2, k3⟩, bb'⟩
end
end Mini
open PySem PySem.W PySem.W.X PyProof PyProof.Rows PySem.Calls
namespace Mini
structure EvXF (P : PI) (d : Nat) (kd : Kinds) (ρ : Vars) (st : Stmt) (σ : St) (f : Flw) (ρ' : Vars) (σ' : St) : Prop where
  intro ::
  run : ∀ {c A env l G φ s}, HereF c P d A env l kd ρ G φ σ s → DoesF c A env l G φ s (PySem.exec st env) f ρ' σ'
structure EvXsF (P : PI) (d : Nat) (kd : Kinds) (ρ : Vars) (ss : List Stmt) (σ : St) (f : Flw) (ρ' : Vars) (σ' : St) : Prop where
  intro ::
  run : ∀ {c A env l G φ s}, HereF c P d A env l kd ρ G φ σ s → DoesF c A env l G φ s (PySem.execs ss env) f ρ' σ'
structure EvER (P : PI) (d : Nat) (kd : Kinds) (ρ : Vars) (ex : Expr) (σ : St) (X : String) (σ' : St) : Prop where
  intro ::
  run : ∀ {c A env l G φ s} {Q : Value → Shared → Prop} {E : Value → Shared → Prop}, HereF c P d A env l kd ρ G φ σ s → (∀ e G' φ' s', In c P d A env l kd ρ G φ s G' φ' σ' s' → Exc c G' φ' (env :: l) e X s s' → E (.ref e) s') → wpAny (Md c) A (PySem.eval ex env) Q E s
structure EvXR (P : PI) (d : Nat) (kd : Kinds) (ρ : Vars) (st : Stmt) (σ : St) (X : String) (ρ' : Vars) (σ' : St) : Prop where
  intro ::
  run : ∀ {c A env l G φ s} {Q : Flow → Shared → Prop} {E : Value → Shared → Prop}, HereF c P d A env l kd ρ G φ σ s → PassesOwn (Md c) A env E → (∀ e G' φ' s', In c P d A env l kd ρ' G φ s G' φ' σ' s' → Exc c G' φ' (env :: l) e X s s' → E (.ref e) s') → wpAny (Md c) A (PySem.exec st env) Q E s
structure EvXsR (P : PI) (d : Nat) (kd : Kinds) (ρ : Vars) (ss : List Stmt) (σ : St) (X : String) (ρ' : Vars) (σ' : St) : Prop where
  intro ::
  run : ∀ {c A env l G φ s} {Q : Flow → Shared → Prop} {E : Value → Shared → Prop}, HereF c P d A env l kd ρ G φ σ s → PassesOwn (Md c) A env E → (∀ e G' φ' s', In c P d A env l kd ρ' G φ s G' φ' σ' s' → Exc c G' φ' (env :: l) e X s s' → E (.ref e) s') → wpAny (Md c) A (PySem.execs ss env) Q E s
structure EvEM (P : PI) (d : Nat) (kd : Kinds) (ρ : Vars) (e : Expr) (σ : St) (v : AVal) (σ' : St) : Prop where
  intro ::
  run : ∀ {c A B env G φ s}, Here c P d A env kd ρ G φ σ s → Gives c B G φ s (PySem.eval e env) v σ'
structure EvXsM (P : PI) (d : Nat) (kd : Kinds) (ρ : Vars) (ss : List Stmt) (σ : St) (f : Flw) (ρ' : Vars) (σ' : St) : Prop where
  intro ::
  run : ∀ {c A B env G φ s}, HereX c P d A env kd ρ G φ σ s → Does c B env G φ s (PySem.execs ss env) f ρ' σ'
section
variable {c : Cx} {P : PI} {d : Nat} {A : Around} {env : Env} {l : List Env} {kd : Kinds} {ρ ρ₁ ρ₂ ρ' : Vars} {G G₀ G₁ G' : Imm} {φ φ₀ φ₁ φ' : List Loc} {σ σ₁ σ₂ σ₃ σ' : St} {s s₀ s₁ s' : Shared} {v w a b : AVal} {p : Pos} {X : String}
theorem In.back (I : In c P d A env l kd ρ G₁ φ₁ s₁ G φ σ s) (S : Step c (owns env ++ fsL l) G₀ φ₀ s₀ G₁ φ₁ s₁) (U : UpS (fsL l) s₀ s₁) (al : ∀ a ∈ owns env, (s₀.heap.get? a).isSome) : In c P d A env l kd ρ G₀ φ₀ s₀ G φ σ s := ⟨I.h, S.trans' I.st, U.trans I.up, al⟩
theorem Flies.back {e : Addr} (x : Flies c G φ l e X s₁ s) (k : ∀ b, (s₀.heap.get? b).isSome → (s₁.heap.get? b).isSome) : Flies c G φ l e X s₀ s := by
  obtain ⟨base, a0, h, bb⟩ := x
  exact ⟨base, a0, h, fun b h1 h2 => bb b (h1.imp id (Or.imp id (k b))) h2⟩
theorem Exc.back {e : Addr} (x : Exc c G φ l e X s₁ s) (k : ∀ b, (s₀.heap.get? b).isSome → (s₁.heap.get? b).isSome) : Exc c G φ l e X s₀ s := by
  cases x with
  | new ob t vs he hc hd hv h0 hf hG =>
    refine .new ob t vs he hc hd hv ?_ hf hG
    cases q : s₀.heap.get? e with
    | none => rfl
    | some o => have := k e (by rw [q]; rfl); rw [h0] at this; cases this
  | fly base a0 hf bb => exact .fly base a0 hf fun b h1 h2 => bb b (h1.imp id (Or.imp id (k b))) h2
theorem Flies.exc {e : Addr} (x : Flies c G φ l e X s₀ s) : Exc c G φ l e X s₀ s := let ⟨base, a0, h, bb⟩ := x; .fly base a0 h bb
theorem HereF.lowC (H : HereF c P d A env l kd ρ G φ σ s) : Low c G φ (env :: l) s := ⟨fun b hb => ⟨(H.apart hb).1, (H.apart hb).2, let ⟨o, e, _⟩ := H.notField hb; by rw [e]; rfl⟩, fun x hx => by
  rcases List.mem_cons.mp hx with rfl | hx
  · obtain ⟨o, ho, hn⟩ := H.notField (b := x.locals) (by rw [fsL_cons H.ff]; exact .head _)
    exact ⟨by rw [H.l.kind]; decide, _, o, H.ff, ho, hn⟩
  · exact H.low.fr x hx⟩
theorem HereF.called (H : HereF c P d A env l kd ρ G φ σ s) (R : Rel c G' φ' σ' s') (S : Step c (fsL (env :: l)) G φ s G' φ' s') (U : UpS (fsL (env :: l)) s s') :
    HereF c P d A env l kd ρ G' φ' σ' s' ∧ Step c (owns env ++ fsL l) G φ s G' φ' s' ∧ UpS (fsL l) s s' := by
  have hU : UpS (fsL l) s s' := fun L hL => U L (by rw [fsL_cons H.ff]; exact .tail _ hL)
  have cell : ∀ y a o, env.cells.lookup y = some a → s.heap.get? a = some o → s'.heap.get? a = some o := fun y a o e g => S.frame a o (H.o.away (mem_owns (.inr ⟨y, e⟩))).1 (H.cellNot e) g
  have L : LocRel c G' φ' env ρ s'.heap := ⟨H.l.kind, H.l.glob, H.l.bi, by
    obtain ⟨m, ⟨o, es, ep, ho, hr⟩, hv⟩ := H.l.ns
    obtain ⟨sl, e⟩ := U env.locals (by rw [fsL_cons H.ff]; exact .head _) o ho
    exact ⟨m, ⟨_, es, ep, e, hr⟩, fun x v h1 h2 => let ⟨v', e, r⟩ := hv x v h1 h2; ⟨v', e, r.mono S.g S.ext⟩⟩, fun y w h1 h2 => by
    obtain ⟨a, w', e, ⟨o, ho, hd⟩, r⟩ := H.l.cell y w h1 h2
    exact ⟨a, w', e, ⟨o, cell y a o e ho, hd⟩, r.mono S.g S.ext⟩⟩
  have F : FrOk env s'.heap := ⟨fun x hx => let ⟨a, v, e, o, ho, hd⟩ := H.f.ex x hx; ⟨a, v, e, o, cell x a o e ho, hd⟩, H.f.apart, H.f.nl⟩
  have S' : Step c (owns env ++ fsL l) G φ s G' φ' s' := S.weaken fun b hb => by
    rw [fsL_cons H.ff] at hb
    rcases List.mem_cons.mp hb with rfl | hb
    · exact List.mem_append_left _ (.head _)
    · exact List.mem_append_right _ hb
  exact ⟨H.then R L F S' hU, S', hU⟩
theorem xf_of {st : Stmt} {f : Flw} (h : EvX P d kd ρ st σ f ρ' σ') : EvXF P d kd ρ st σ f ρ' σ' := .intro fun H => by
  refine wpAny_mono (h.run H.toHereX) (fun f' s' ⟨G', φ', R, L, F, S, k⟩ => ?_) fun _ _ e => e
  exact ⟨G', φ', R, L, F, S.weaken (fun b hb => List.mem_append_left _ hb), H.exact S, k⟩
theorem xsf_of {ss : List Stmt} {f : Flw} (h : EvXs P d kd ρ ss σ f ρ' σ') : EvXsF P d kd ρ ss σ f ρ' σ' := .intro fun H => by
  refine wpAny_mono (h.run H.toHereX) (fun f' s' ⟨G', φ', R, L, F, S, k⟩ => ?_) fun _ _ e => e
  exact ⟨G', φ', R, L, F, S.weaken (fun b hb => List.mem_append_left _ hb), H.exact S, k⟩
theorem xsf_cons {st : Stmt} {ss : List Stmt} {f : Flw} (h1 : EvXF P d kd ρ st σ .next ρ₁ σ₁) (h2 : EvXsF P d kd ρ₁ ss σ₁ f ρ' σ') : EvXsF P d kd ρ (st :: ss) σ f ρ' σ' := .intro fun H => by
  refine wpAny_execs_cons (wpAny_mono (h1.run H) (fun f' s₁ ⟨G₁, φ₁, R₁, L₁, F₁, S₁, U₁, FR⟩ => ?_) fun _ _ e => e)
  cases FR
  exact wpAny_mono (h2.run (H.then R₁ L₁ F₁ S₁ U₁)) (fun _ _ q => AfterF.after q S₁ U₁) fun _ _ e => e
theorem xsf_ret {st : Stmt} {ss : List Stmt} (h1 : EvXF P d kd ρ st σ (.ret v) ρ₁ σ₁) : EvXsF P d kd ρ (st :: ss) σ (.ret v) ρ₁ σ₁ := .intro fun H => by
  refine wpAny_execs_cons (wpAny_mono (h1.run H) (fun f' s₁ ⟨G₁, φ₁, R₁, L₁, F₁, S₁, U₁, FR⟩ => ?_) fun _ _ e => e)
  cases FR with
  | ret hv => exact ⟨G₁, φ₁, R₁, L₁, F₁, S₁, U₁, .ret hv⟩
theorem xsr_here {st : Stmt} {ss : List Stmt} (h1 : EvXR P d kd ρ st σ X ρ' σ') : EvXsR P d kd ρ (st :: ss) σ X ρ' σ' := .intro fun H hp hE => wpAny_execs_cons (h1.run H hp hE)
end
end Mini
open PySem PySem.W PySem.W.X PyProof PyProof.Rows PySem.Calls PySem.Spec PySem.SeqAt
namespace Mini
section
variable {c : Cx} {P : PI} {d : Nat} {A : Around} {env : Env} {kd : Kinds} {ρ ρ' : Vars} {G : Imm} {φ : List Loc} {σ σ₁ σ₂ σ' : St} {s : Shared} {v a b : AVal} {p : Pos}
end
section
variable {prog : Program} {w : World} {K : Type} [DecidableEq K] {knd : KeyKind prog w K} {A : Around} {E : Value → Shared → Prop} {s : Shared}
end
section
variable {P : PI} {d : Nat} {kd : Kinds} {ρ ρ' : Vars} {σ σ₁ σ₂ σ' : St} {v a b : AVal} {p : Pos}
end
end Mini
open PySem PySem.W PySem.W.X PyProof PyProof.Rows PySem.Calls PySem.Spec PySem.SeqAt
namespace Mini
inductive EvFnF (P : PI) (d : Nat) (kd : Kinds) (t : Expr) (b : List Stmt) : Nat → Vars → AIt → St → Flw → Vars → St → Prop
  | fin {ρ : Vars} {it : AIt} {σ σ₁ : St} {n : Nat} (h1 : EvN P d it σ none σ₁) : EvFnF P d kd t b n ρ it σ .next ρ σ₁
  | more {ρ ρ₁ ρ₂ ρ' : Vars} {it it' : AIt} {v : AVal} {σ σ₁ σ₂ σ₃ σ' : St} {f : Flw} {n : Nat} (h1 : EvN P d it σ (some (v, it')) σ₁) (h2 : EvA P d kd ρ t v σ₁ ρ₁ σ₂) (h3 : EvXsF P d kd ρ₁ b σ₂ .next ρ₂ σ₃) (h4 : EvFnF P d kd t b n ρ₂ it' σ₃ f ρ' σ') : EvFnF P d kd t b (n + 1) ρ it σ f ρ' σ'
  | ret {ρ ρ₁ ρ₂ : Vars} {it it' : AIt} {v w : AVal} {σ σ₁ σ₂ σ₃ : St} {n : Nat} (h1 : EvN P d it σ (some (w, it')) σ₁) (h2 : EvA P d kd ρ t w σ₁ ρ₁ σ₂) (h3 : EvXsF P d kd ρ₁ b σ₂ (.ret v) ρ₂ σ₃) : EvFnF P d kd t b n ρ it σ (.ret v) ρ₂ σ₃
noncomputable def EvFF (P : PI) (d : Nat) (kd : Kinds) (ρ : Vars) (t : Expr) (b : List Stmt) (it : AIt) (σ : St) (f : Flw) (ρ' : Vars) (σ' : St) : Prop := ∃ n, EvFnF P d kd t b n ρ it σ f ρ' σ'
noncomputable def EvObR (P : PI) (d : Nat) (i : Nat) (σ : St) (X : String) (σ' : St) : Prop := SelfIt σ i ∧ ∀ {c A lf G φ s l} {Q : Option Value → Shared → Prop} {E : Value → Shared → Prop}, COk c P → GoodA d A → Rel c G φ σ s → φ[i]? = some l → A.frames = some lf → Low c G φ lf s →
  (∀ e G' φ' s', Rel c G' φ' σ' s' → Step c (fsL lf) G φ s G' φ' s' → UpS (fsL lf) s s' → Flies c G' φ' lf e X s s' → E (.ref e) s') → wpAny (Md c) A (pyNext (.ref l.a)) Q E s
inductive EvFnR (P : PI) (d : Nat) (kd : Kinds) (t : Expr) (b : List Stmt) (X : String) : Nat → Vars → AIt → St → Vars → St → Prop
  | more {ρ ρ₁ ρ₂ ρ' : Vars} {it it' : AIt} {v : AVal} {σ σ₁ σ₂ σ₃ σ' : St} {n : Nat} (h1 : EvN P d it σ (some (v, it')) σ₁) (h2 : EvA P d kd ρ t v σ₁ ρ₁ σ₂) (h3 : EvXs P d kd ρ₁ b σ₂ .next ρ₂ σ₃) (h4 : EvFnR P d kd t b X n ρ₂ it' σ₃ ρ' σ') : EvFnR P d kd t b X (n + 1) ρ it σ ρ' σ'
  | raise {ρ ρ₁ ρ₂ : Vars} {it it' : AIt} {w : AVal} {σ σ₁ σ₂ σ₃ : St} {n : Nat} (h1 : EvN P d it σ (some (w, it')) σ₁) (h2 : EvA P d kd ρ t w σ₁ ρ₁ σ₂) (h3 : EvXsR P d kd ρ₁ b σ₂ X ρ₂ σ₃) : EvFnR P d kd t b X n ρ it σ ρ₂ σ₃
  | next {ρ : Vars} {i : Nat} {σ σ₁ : St} {n : Nat} (h : EvObR P d i σ X σ₁) : EvFnR P d kd t b X n ρ (.obj i) σ ρ σ₁
noncomputable def EvFR (P : PI) (d : Nat) (kd : Kinds) (ρ : Vars) (t : Expr) (b : List Stmt) (it : AIt) (σ : St) (X : String) (ρ' : Vars) (σ' : St) : Prop := ∃ n, EvFnR P d kd t b X n ρ it σ ρ' σ'
section
variable {c : Cx} {P : PI} {d : Nat} {A : Around} {env : Env} {l : List Env} {kd : Kinds} {ρ ρ₁ ρ₂ ρ' : Vars} {G G₀ G₁ G' : Imm} {φ φ₀ φ₁ φ' : List Loc} {σ σ₁ σ₂ σ₃ σ' : St} {s s₀ s₁ s' : Shared} {v w a b : AVal} {p : Pos} {X : String}
theorem ff_end {t : Expr} {x : List Stmt} {it : AIt} (h1 : EvN P d it σ none σ₁) : EvFF P d kd ρ t x it σ .next ρ σ₁ := ⟨0, .fin h1⟩
theorem ff_more {t : Expr} {x : List Stmt} {it it' : AIt} {f : Flw} (h1 : EvN P d it σ (some (v, it')) σ₁) (h2 : EvA P d kd ρ t v σ₁ ρ₁ σ₂) (h3 : EvXsF P d kd ρ₁ x σ₂ .next ρ₂ σ₃) (h4 : EvFF P d kd ρ₂ t x it' σ₃ f ρ' σ') : EvFF P d kd ρ t x it σ f ρ' σ' :=
  let ⟨n, h⟩ := h4; ⟨n + 1, .more h1 h2 h3 h⟩
theorem ff_ret {t : Expr} {x : List Stmt} {it it' : AIt} (h1 : EvN P d it σ (some (a, it')) σ₁) (h2 : EvA P d kd ρ t a σ₁ ρ₁ σ₂) (h3 : EvXsF P d kd ρ₁ x σ₂ (.ret v) ρ₂ σ₃) : EvFF P d kd ρ t x it σ (.ret v) ρ₂ σ₃ := ⟨0, .ret h1 h2 h3⟩
theorem fr_more {t : Expr} {x : List Stmt} {it it' : AIt} (h1 : EvN P d it σ (some (v, it')) σ₁) (h2 : EvA P d kd ρ t v σ₁ ρ₁ σ₂) (h3 : EvXs P d kd ρ₁ x σ₂ .next ρ₂ σ₃) (h4 : EvFR P d kd ρ₂ t x it' σ₃ X ρ' σ') : EvFR P d kd ρ t x it σ X ρ' σ' :=
  let ⟨n, h⟩ := h4; ⟨n + 1, .more h1 h2 h3 h⟩
theorem fr_next {t : Expr} {x : List Stmt} {i : Nat} (h : EvObR P d i σ X σ₁) : EvFR P d kd ρ t x (.obj i) σ X ρ σ₁ := ⟨0, .next h⟩
structure Loop (c : Cx) (P : PI) (d : Nat) (A : Around) (env : Env) (l : List Env) (kd : Kinds) (it' : Value) (pr : List Addr) (G₀ : Imm) (φ₀ : List Loc) (s₀ : Shared) (ρ : Vars) (it : AIt) (G : Imm) (φ : List Loc) (σ : St) (s : Shared) : Prop where
  h : HereF c P d A env l kd ρ G φ σ s
  i : ItRel c G φ s it it' pr
  st : Step c (owns env ++ fsL l) G₀ φ₀ s₀ G φ s
  up : UpS (fsL l) s₀ s
theorem Loop.after {it' : Value} {pr : List Addr} {it : AIt} (W : Loop c P d A env l kd it' pr G₀ φ₀ s₀ ρ it G φ σ s) (hpo : ∀ a ∈ pr, a ∉ owns env ++ fsL l) (R : Rel c G' φ' σ' s') (L : LocRel c G' φ' env ρ' s'.heap) (F : FrOk env s'.heap) (S : Step c (owns env ++ fsL l) G φ s G' φ' s') (U : UpS (fsL l) s s') : Loop c P d A env l kd it' pr G₀ φ₀ s₀ ρ' it G' φ' σ' s' :=
  ⟨W.h.then R L F S U, W.i.step S hpo, W.st.trans' S, W.up.trans U⟩
theorem Loop.turn {t : Expr} {it' : Value} {pr : List Addr} {it it₂ : AIt} {K Kn : Shared → Prop} {E E1 E2 : Value → Shared → Prop} (W : Loop c P d A env l kd it' pr G₀ φ₀ s₀ ρ it G φ σ s) (hok : LoopT t it) (hps : ∀ a ∈ pr, s₀.heap.get? a = none) (hpo : ∀ a ∈ pr, a ∉ owns env ++ fsL l)
    (hn : EvN P d it σ (some (v, it₂)) σ₁) (h5 : EvA P d kd ρ t v σ₁ ρ₁ σ₂) (k : ∀ G' φ' s', Loop c P d A env l kd it' pr G₀ φ₀ s₀ ρ₁ it₂ G' φ' σ₂ s' → K s') :
    wpAny (Md c) A (pyNext it') (fun r s₁ => match r with
        | none => Kn s₁
        | some v => wpAny (Md c) A (letOwnedTupleGo t it' v) (fun _ s₁' => wpAny (Md c) A (PySem.assign t env v) (fun _ s₂ => K s₂) E2 s₁') E1 s₁) E s := by
  refine noE (wpAny_mono (hn.run W.h.ok W.h.a W.h.r W.i) (fun r' s₁ q => ?_) fun _ _ e => e)
  obtain ⟨G₁, φ₁, R₁, q⟩ := q
  cases r' with
  | none => exact q.elim
  | some w' =>
    obtain ⟨S₁, V₁, I₁⟩ := q
    refine letGo_ok (hn.loopOk hok) I₁ ?_
    have H := W.h
    have hpo' : ∀ a ∈ pr, a ∉ owns env := fun a ha q => hpo a ha (List.mem_append_left _ q)
    have O₁ : ∀ a o, a ∈ owns env → s.heap.get? a = some o → s₁.heap.get? a = some o := fun a o ha e => S₁.frame a o (H.o.away ha).1 (fun z => hpo' a z ha) e
    have U₁ : UpS (fsL l) s s₁ := H.low.exact S₁ fun L hL q => hpo L q (List.mem_append_right _ hL)
    have X₁ : HereX c P d A env kd ρ G₁ φ₁ σ₁ s₁ := ⟨⟨H.ok, H.a, H.kd, R₁, H.l.keeps S₁.g S₁.ext (fun a o ha e => O₁ a o (mem_owns ha) e), H.o.step S₁⟩, H.f.keeps O₁⟩
    have H₁ : HereF c P d A env l kd ρ G₁ φ₁ σ₁ s₁ := ⟨X₁, H.fa, H.ff, H.low.step S₁ U₁, H.ap⟩
    refine noE (wpAny_mono (h5.2 X₁ V₁) (fun _ s₂ ⟨G₂, φ₂, R₂, L₂, F₂, S₂, _⟩ => ?_) fun _ _ e => e)
    have S₂' := S₂.weaken (own' := owns env ++ fsL l) fun _ h => List.mem_append_left _ h
    have SS : Step c (owns env ++ fsL l) G₀ φ₀ s₀ G₁ φ₁ s₁ := W.st.trans S₁ fun b hb => .inr (hps b hb)
    have W₁ : Loop c P d A env l kd it' pr G₀ φ₀ s₀ ρ it₂ G₁ φ₁ σ₁ s₁ := ⟨H₁, I₁, SS, W.up.trans U₁⟩
    exact k _ _ _ (W₁.after hpo R₂ L₂ F₂ S₂' (H₁.exact S₂))
theorem loop_start {t i : Expr} {b' : List Stmt} {it : AIt} {Q : Flow → Shared → Prop} {E : Value → Shared → Prop} (H : HereF c P d A env l kd ρ G φ σ s) (h0 : notSet i = true) (h1 : EvE P d kd ρ i σ v σ₁) (h2 : IterR σ₁ v it)
    (k : ∀ G' φ' it' pr s', Loop c P d A env l kd it' pr G φ s ρ it G' φ' σ₁ s' → (∀ a ∈ pr, s.heap.get? a = none) → (∀ a ∈ pr, a ∉ owns env ++ fsL l) →
      codeAny (Md c) A (.forLoop t it' b' [] env) (fun r s' => match r with | .ok f => Q f s' | .error e => cameBackBy (Md c) A env E e s') s') :
    wpAny (Md c) A (PySem.exec (.For t i b' [] p) env) Q E s := by
  refine wpAny_For (noE (wpAny_mono (h1.run H.toHere) (fun a' s₁ ⟨G₁, φ₁, R₁, V₁, S₁⟩ => noE (wpAny_mono (h2.run R₁ V₁) (fun it' s₂ ⟨pr, R₂, I₂, S₂, hpr⟩ => ?_) fun _ _ e => e)) fun _ _ e => e)) (folded_no h0)
  have hps : ∀ a ∈ pr, s.heap.get? a = none := fun a ha => by
    cases q : s.heap.get? a with
    | none => rfl
    | some o => exact none_of_isSome (S₁.keep a (by rw [q]; rfl)) (hpr a ha)
  have hpo : ∀ a ∈ pr, a ∉ owns env ++ fsL l := fun a ha q => by
    rcases List.mem_append.mp q with q | q
    · exact none_of_isSome (H.o.away q).2 (hps a ha)
    · exact none_of_isSome (H.low.own a q).2.2 (hps a ha)
  have SS := S₁.trans' S₂
  exact k _ _ _ _ _ ⟨H.step R₂ SS, I₂, SS.weaken (fun _ h => nomatch h), H.low.exact SS (fun _ _ h => nomatch h)⟩ hps hpo
theorem xf_for {t i : Expr} {b : List Stmt} {f : Flw} {it : AIt} (h0 : notSet i = true) (h1 : EvE P d kd ρ i σ v σ₁) (h2 : IterR σ₁ v it) (hok : LoopT t it) (h4 : EvFF P d kd ρ t b it σ₁ f ρ' σ') : EvXF P d kd ρ (.For t i b [] p) σ f ρ' σ' := .intro fun {c A env l G φ s} H => by
  obtain ⟨n, h3⟩ := h4
  refine loop_start H h0 h1 h2 fun G₁ φ₁ it' pr s₁ W hps hpo => ?_
  refine codeAny_forLoop_any (fun k s₃ => ∃ ρ₃ σ₃ it₃ G₃ φ₃, LoopT t it₃ ∧ EvFnF P d kd t b k ρ₃ it₃ σ₃ f ρ' σ' ∧ Loop c P d A env l kd it' pr G φ s ρ₃ it₃ G₃ φ₃ σ₃ s₃) ?_ n ⟨ρ, σ₁, it, G₁, φ₁, hok, h3, W⟩
  rintro k s₃ ⟨ρ₃, σ₃, it₃, G₃, φ₃, hok₃, hf, W₃⟩
  cases hf with
  | fin hn =>
    have H₃ := W₃.h
    refine noE (wpAny_mono (hn.run H₃.ok H₃.a H₃.r W₃.i) (fun r' s₄ q => ?_) fun _ _ e => e)
    obtain ⟨G₄, φ₄, R₄, q⟩ := q
    cases r' with
    | some _ => exact q.elim
    | none =>
      have q := q.1
      have S₄ := W₃.st.transE q hps
      have O₄ : ∀ a o, a ∈ owns env → s₃.heap.get? a = some o → s₄.heap.get? a = some o := fun a o ha e => q.frame a o (H₃.o.away ha).1 (fun z => hpo a z (List.mem_append_left _ ha)) e
      have U₄ : UpS (fsL l) s₃ s₄ := fun L hL o e => ⟨o.slots, q.frame L o (H₃.low.own L hL).1 (fun z => hpo L z (List.mem_append_right _ hL)) e⟩
      exact noE (wpAny_execs_nil ⟨G₄, φ₄, R₄, H₃.l.keeps q.g q.ext (fun a o ha e => O₄ a o (mem_owns ha) e), H₃.f.keeps O₄, S₄, W₃.up.trans U₄, .next⟩)
  | more hn h5 h6 hf =>
    refine W₃.turn hok₃ hps hpo hn h5 fun G₅ φ₅ s₅ W₅ => ?_
    refine noE (wpAny_mono (h6.run W₅.h) (fun f' s₆ ⟨G₆, φ₆, R₆, L₆, F₆, S₆, U₆, FR⟩ => ?_) fun _ _ e => e)
    cases FR
    exact ⟨_, Nat.lt_succ_self _, _, _, _, G₆, φ₆, hn.loopOk hok₃, hf, W₅.after hpo R₆ L₆ F₆ S₆ U₆⟩
  | ret hn h5 h6 =>
    refine W₃.turn hok₃ hps hpo hn h5 fun G₅ φ₅ s₅ W₅ => ?_
    refine noE (wpAny_mono (h6.run W₅.h) (fun f' s₆ ⟨G₆, φ₆, R₆, L₆, F₆, S₆, U₆, FR⟩ => ?_) fun _ _ e => e)
    cases FR with
    | ret hv => exact ⟨G₆, φ₆, R₆, L₆, F₆, W₅.st.trans' S₆, W₅.up.trans U₆, .ret hv⟩
theorem xr_for {t i : Expr} {b : List Stmt} {it : AIt} (h0 : notSet i = true) (h1 : EvE P d kd ρ i σ v σ₁) (h2 : IterR σ₁ v it) (hok : LoopT t it) (h4 : EvFR P d kd ρ t b it σ₁ X ρ' σ') : EvXR P d kd ρ (.For t i b [] p) σ X ρ' σ' := .intro fun {c A env l G φ s Q E} H hp hE => by
  obtain ⟨n, h3⟩ := h4
  refine loop_start H h0 h1 h2 fun G₁ φ₁ it' pr s₁ W hps hpo => ?_
  refine codeAny_forLoop_any (fun k s₃ => ∃ ρ₃ σ₃ it₃ G₃ φ₃, LoopT t it₃ ∧ EvFnR P d kd t b X k ρ₃ it₃ σ₃ ρ' σ' ∧ Loop c P d A env l kd it' pr G φ s ρ₃ it₃ G₃ φ₃ σ₃ s₃) ?_ n ⟨ρ, σ₁, it, G₁, φ₁, hok, h3, W⟩
  rintro k s₃ ⟨ρ₃, σ₃, it₃, G₃, φ₃, hok₃, hf, W₃⟩
  cases hf with
  | more hn h5 h6 hf =>
    refine W₃.turn hok₃ hps hpo hn h5 fun G₅ φ₅ s₅ W₅ => ?_
    refine noE (wpAny_mono ((xsf_of h6).run W₅.h) (fun f' s₆ ⟨G₆, φ₆, R₆, L₆, F₆, S₆, U₆, FR⟩ => ?_) fun _ _ e => e)
    cases FR
    exact ⟨_, Nat.lt_succ_self _, _, _, _, G₆, φ₆, hn.loopOk hok₃, hf, W₅.after hpo R₆ L₆ F₆ S₆ U₆⟩
  | raise hn h5 h6 =>
    refine W₃.turn hok₃ hps hpo hn h5 fun G₅ φ₅ s₅ W₅ => ?_
    refine wpAny_mono (h6.run W₅.h hp fun e G' φ' s' I x => hE e G' φ' s' (I.back W₅.st W₅.up H.alive) (x.back W₅.st.keep)) (fun _ _ q => q) fun e s' q => hp e s' q
  | next h =>
    have H₃ := W₃.h
    have I₃ := W₃.i
    cases I₃ using ItRel.objE with
    | obj hl =>
      refine h.2 H₃.ok H₃.a H₃.r hl H₃.fa H₃.lowC fun e G' φ' s' R' S' U' fl => ?_
      obtain ⟨H', S'', U''⟩ := H₃.called R' S' U'
      exact hp _ _ (hE e G' φ' s' ⟨H', W₃.st.trans' S'', W₃.up.trans U'', H.alive⟩ (fl.exc.back W₃.st.keep))
end
end Mini
open PySem PySem.W PySem.W.X PyProof PyProof.Rows PySem.Calls PySem.Spec PySem.SeqAt PySem.MeetsSeq
namespace Mini
section
variable {c : Cx} {P : PI} {d : Nat} {A : Around} {env : Env} {l : List Env} {kd : Kinds} {ρ ρ₁ ρ₂ ρ' : Vars} {G G₀ G₁ G' : Imm} {φ φ₀ φ₁ φ' : List Loc} {σ σ₁ σ₂ σ₃ σ' : St} {s s₀ s₁ s' : Shared} {v w a b : AVal} {p : Pos} {X : String}
structure EvH (P : PI) (d : Nat) (kd : Kinds) (ρ : Vars) (hs : List ExceptHandler) (σ : St) (X : String) (f : Flw) (ρ' : Vars) (σ' : St) : Prop where
  intro ::
  run : ∀ {c A env l G₀ φ₀ s₀ G φ s e} {Q : Flow → Shared → Prop} {E : Value → Shared → Prop}, In c P d A env l kd ρ G₀ φ₀ s₀ G φ σ s → Flies c G φ (env :: l) e X s₀ s → (∀ f' s', AfterF c env l G₀ φ₀ s₀ ρ' σ' s' (fun G' φ' => FRel c G' φ' f f') → Q f' s') → wpAny (Md c) A (handleBy (.ref e) env hs) Q E s
theorem glob_any {B : Around} {x : Str} (h1 : (nmOk x && (kd x == some .globalImplicit)) = true) (h : P.glob x = some v) {Q : Value → Shared → Prop} {E : Value → Shared → Prop} (H : Here c P d A env kd ρ G φ σ s) (q : ∀ v', VRel c G φ v v' → Q v' s) : wpAny (Md c) B (PySem.eval (.Name x p) env) Q E s := by
  rw [Bool.and_eq_true] at h1
  obtain ⟨hx, hx'⟩ := nmOk_of h1.1
  have hk := eq_of_beq h1.2
  rw [H.kd] at hk
  refine wpAny_Name ?_ hx
  obtain ⟨v', hv, V⟩ := H.ok.glob x v h
  have hg := H.ok.ok.g.keeps H.r.keepB
  have hb := H.ok.ok.b.keeps H.r.keepB
  have hbk : env.blockKind = .function := by unfold Env.blockKind; rw [H.l.kind]; rfl
  have han : env.scope.kind.isAnnotationScope = false := by rw [H.l.kind]; rfl
  unfold loadName
  rw [han]
  simp only [Bool.false_and, Bool.false_eq_true, if_false, hbk, hk]
  unfold loadGlobal
  rw [H.l.glob, H.l.bi]
  refine wpAny_bind (wpAny_nsGet hg ?_)
  rcases hv with hv | ⟨hv, hv'⟩
  · rw [hv]; exact wpAny_pure (q _ (V _ _))
  · rw [hv]
    refine wpAny_bind (wpAny_nsGet hb ?_)
    rw [hv']; exact wpAny_pure (q _ (V _ _))
theorem Flies.isA {e : Addr} (x : Flies c G φ l e X s₀ s) : s.TypeIs (.ref e) X := by
  obtain ⟨base, a0, h, bb⟩ := x
  obtain ⟨ob, h1, h2⟩ := h.there
  exact ⟨ob, h1, h2⟩
theorem h_hit {x : Str} {px pos : Pos} {b₀ : Stmt} {suite : List Stmt} {rest : List ExceptHandler} {T : String} {f : Flw} (h0 : (nmOk x && (kd x == some .globalImplicit)) = true) (hg : P.glob x = some (.ty T)) (h3 : subB X (.type T) = some true) (h1 : subB T (.type "BaseException") = some true) (h2 : subB ((Manifest.find? T).elim "type" fun y => y.metatype) (.type "tuple") = some false)
    (hs : EvXsM P d kd ρ (b₀ :: suite) σ f ρ' σ') : EvH P d kd ρ (.ExceptHandler (some (.Name x px)) none (b₀ :: suite) pos :: rest) σ X f ρ' σ' := .intro fun {c A env l G₀ φ₀ s₀ G φ s e Q E} I fl hQ => by
  refine wpAny_handleBy_builtin (X := X) (T := T) (b := true) (isSubtype_of_subB h1) (isSubtype_of_subB h2) (isSubtype_of_subB h3) (glob_any h0 hg I.h.toHere fun v' V => ?_)
  cases V using VRel.tyE
  refine ⟨rfl, fl.isA, ?_⟩
  rw [if_pos rfl]
  refine fly_land I fl fun s₁ I₁ fl₁ => noE (wpAny_mono (hs.run I₁.h.toHereX) (fun f' s' ⟨G', φ', R, L, F, S, k⟩ => hQ f' s' ?_) fun _ _ e => e)
  exact ⟨G', φ', R, L, F, I₁.st.trans' (S.weaken fun b hb => List.mem_append_left _ hb), I₁.up.trans (I₁.h.exact S), k⟩
theorem h_miss {x : Str} {px pos : Pos} {b₀ : Stmt} {suite : List Stmt} {rest : List ExceptHandler} {T : String} {f : Flw} (h0 : (nmOk x && (kd x == some .globalImplicit)) = true) (hg : P.glob x = some (.ty T)) (h3 : subB X (.type T) = some false) (h1 : subB T (.type "BaseException") = some true) (h2 : subB ((Manifest.find? T).elim "type" fun y => y.metatype) (.type "tuple") = some false)
    (hr : EvH P d kd ρ rest σ X f ρ' σ') : EvH P d kd ρ (.ExceptHandler (some (.Name x px)) none (b₀ :: suite) pos :: rest) σ X f ρ' σ' := .intro fun {c A env l G₀ φ₀ s₀ G φ s e Q E} I fl hQ => by
  refine wpAny_handleBy_builtin (X := X) (T := T) (b := false) (isSubtype_of_subB h1) (isSubtype_of_subB h2) (isSubtype_of_subB h3) (glob_any h0 hg I.h.toHere fun v' V => ?_)
  cases V using VRel.tyE
  refine ⟨rfl, fl.isA, ?_⟩
  rw [if_neg (by decide)]
  exact hr.run I fl hQ
theorem xf_tryR {body : List Stmt} {h₀ : ExceptHandler} {hs : List ExceptHandler} {f : Flw} (h1 : EvXsR P d kd ρ body σ X ρ₁ σ₁) (h2 : EvH P d kd ρ₁ (h₀ :: hs) σ₁ X f ρ' σ') : EvXF P d kd ρ (.Try body (h₀ :: hs) [] [] p) σ f ρ' σ' := .intro fun {c A env l G φ s} H => by
  refine wpAny_Try_except (h1.run H PassesOwn.looking fun e G' φ' s' I x => ?_)
  exact exc_note I x fun s₁ I₁ x₁ => held_land I₁ x₁ fun s₂ I₂ x₂ => h2.run I₂ x₂ fun f' s₃ q => q
theorem x_tryRet {body : List Stmt} {h₀ : ExceptHandler} {hs : List ExceptHandler} (h1 : EvXs P d kd ρ body σ (.ret v) ρ' σ') : EvX P d kd ρ (.Try body (h₀ :: hs) [] [] p) σ (.ret v) ρ' σ' := .intro fun {c A env G φ s} H => by
  refine wpAny_Try_except (noE (wpAny_mono (h1.run H) (fun f' s₁ ⟨G₁, φ₁, R₁, L₁, F₁, S₁, FR⟩ => ?_) fun _ _ e => e))
  cases FR with
  | ret hv => exact ⟨G₁, φ₁, R₁, L₁, F₁, S₁, .ret hv⟩
theorem em_var {x : Str} (h1 : (nmOk x && Kinds.isVar kd x) = true) (h : ρ x = some v) : EvEM P d kd ρ (.Name x p) σ v σ := .intro fun {c A B env G φ s} H => by
  rw [Bool.and_eq_true] at h1
  obtain ⟨hx, hx'⟩ := nmOk_of h1.1
  refine wpAny_Name ?_ hx
  have hv := h1.2
  unfold Kinds.isVar at hv
  rw [H.kd] at hv
  split at hv
  · rename_i hk
    obtain ⟨m, hn, hv⟩ := H.l.ns
    obtain ⟨v', e, V⟩ := hv x v hk h
    exact wpAny_loadName_local H.l.kind hk hn e (gives_here H.r V)
  · rename_i hk
    obtain ⟨ca, v', e, hc, V⟩ := H.l.cell x v (.inl hk) h
    exact wpAny_loadName_cell H.l.kind hk e hc (gives_here H.r V)
  · rename_i hk
    obtain ⟨ca, v', e, hc, V⟩ := H.l.cell x v (.inr hk) h
    exact wpAny_loadName_free H.l.kind hk e hc (gives_here H.r V) hx'
  · cases hv
theorem em_int {i : Int} {k} : EvEM P d kd ρ (.Constant (.int i) k p) σ (.int i) σ := .intro fun H => wpAny_Constant_int (gives_toks H.r (.int _ _))
theorem em_str {x : Str} {k} : EvEM P d kd ρ (.Constant (.str x) k p) σ (.str x) σ := .intro fun H => wpAny_Constant_str (gives_toks H.r (.str _ _))
theorem em_neg {e : Expr} {i : Int} (h1 : EvEM P d kd ρ e σ (.int i) σ₁) : EvEM P d kd ρ (.UnaryOp .USub e p) σ (.int (-i)) σ₁ := .intro fun H =>
  wpAny_UnaryOp (wpAny_mono (h1.run H) (fun a' s₁ ⟨G₁, φ₁, R₁, V₁, S₁⟩ => by cases V₁ using VRel.intE; exact PyProof.Rows.neg_int ⟨G₁, φ₁, R₁.toks _, .int _ _, S₁.trans' (step_toks _)⟩) fun _ _ e => e)
theorem xm_nil : EvXsM P d kd ρ [] σ .next ρ σ := .intro fun {c A B env G φ s} H => wpAny_execs_nil ⟨G, φ, H.r, H.l, H.f, .refl .., .next⟩
end
end Mini
open PySem PySem.W PySem.W.X PyProof PyProof.Rows PySem.Calls PySem.Spec PySem.SeqAt PySem.MeetsSeq
namespace Mini
section
variable {c : Cx} {P : PI} {d : Nat} {A : Around} {env : Env} {l : List Env} {kd : Kinds} {ρ ρ₁ ρ₂ ρ' : Vars} {G G₀ G₁ G' : Imm} {φ φ₀ φ₁ φ' : List Loc} {σ σ₁ σ₂ σ₃ σ' : St} {s s₀ s₁ s' : Shared} {v w a b : AVal} {p : Pos} {X : String}
theorem callFnF {f : Fn} {ps : List Str} {body : List Stmt} {names : List (Str × NameKind)} {vs : List AVal} {vs' : List Value} {fl : Flw} (F : FnOk c f ps body names) (h : EvXsF P d (fun x => names.lookup x) (bindAll ps vs) body σ fl ρ' σ') (hlen : ps.length = vs.length) (hfl : retOf fl = some v)
    (ok : COk c P) (ha : GoodA (d + 1) A) (R : Rel c G φ σ s) (V : VsRel c G φ vs vs') (hfr : A.frames = some l) (hl : Low c G φ l s) {Q : Value → Shared → Prop} {E : Value → Shared → Prop} (q : ∀ v' s' G' φ', Rel c G' φ' σ' s' → VRel c G' φ' v v' → Step c (fsL l) G φ s G' φ' s' → UpS (fsL l) s s' → Q v' s') :
    codeAny (Md c) A (.call (.ref f.addr) ⟨vs', []⟩) (fun r s' => match r with | .ok (.ret v) => Q v s' | .ok _ => False | .error e => E e s') s := by
  refine fn_enter F hlen ok ha R V fun env s₁ G₁ he H S fresh => ?_
  have hff : env.frame = some env.locals := by subst he; rfl
  have hal : ∀ b ∈ owns env, ∀ L ∈ fsL l, L ≠ b := fun b hb L hL z => none_of_isSome (hl.own L hL).2.2 (by rw [z]; exact fresh b hb)
  have HF : HereF c P d (A.deeper env) env l (fun x => names.lookup x) (bindAll ps vs) G₁ φ σ s₁ := ⟨H, Around.frames_deeper hfr, hff, hl.step S (hl.exact S fun _ _ h => nomatch h), fun L hL q => hal L q L hL rfl⟩
  refine wpAny_mono (h.run HF) (fun f' s₂ ⟨G₂, φ₂, R₂, _, _, S₂, U₂, FR⟩ => ?_) fun _ _ e => e
  have SS : Step c (fsL l) G φ s G₂ φ₂ s₂ := (S.weaken (own' := fsL l) fun _ h => nomatch h).trans S₂ fun b hb => (List.mem_append.mp hb).elim (fun hb => .inr (fresh b hb)) .inl
  have UU := (hl.exact S fun _ _ h => nomatch h).trans U₂
  cases FR with
  | next => cases hfl; exact q _ _ _ _ R₂ .none SS UU
  | ret hv => cases hfl; exact q _ _ _ _ R₂ hv SS UU
  | brk => cases hfl
  | cont => cases hfl
theorem law_joinF {cw : ClaimW} {cl : Str → Option Addr} {mean : ExcName → Option Value} {args : List WData} {s₁ : Shared} {f : Fn} {ns : List Int} {L : Addr} {items : List Value} {x : Str} {body : List Stmt} {names : List (Str × NameKind)}
    (ok : COk c P) (hB : c.B = ghostOf s₁.heap c.tabs) (hT : TabsAt c.tabs s₁.heap) (hnd : (c.tabs.map (·.2)).Nodup) (hg : s₁.gens = #[]) (F : FnOk c f [x] body names) (hL : s₁.heap.IsList L items.toArray) (hI : IntsAre items ns) (ha : GoodA (d + 1) A) (hfr : A.frames = some [])
    (hrun : EvXsF P d (fun y => names.lookup y) (bindAll [x] [.scr ns]) body [] (.ret (.bool true)) ρ' σ') (hpost : cw.post args (.bool true) args = true) (hraise : ∀ cls, cw.raises args cls = false) :
    codeAny (Md c) A (.call (.ref f.addr) ⟨[.ref L], []⟩) (GoodWG cw cl mean args s₁) s₁ := by
  have R := rel_start hB hT hnd hg
  have hLB : ∃ o, c.B.get? L = some o ∧ o.cls = .type "list" ∧ ∃ m, o.data = .seq items.toArray m := by
    obtain ⟨o, e, hc, m, hd⟩ := hL
    exact ⟨o, by rw [hB]; exact ghost_get hT e (fun q => by rw [q] at hc; cases hc), hc, m, hd⟩
  obtain ⟨o, e, hc, m, hd⟩ := hLB
  have V : VsRel c (fun a => c.B.get? a) [] [.scr ns] [.ref L] := .cons (.scr e hc m hd hI) .nil
  refine codeAny_mono (callFnF (v := .bool true) (Q := fun v' s' => v' = .bool true ∧ OldK s₁.heap s'.heap ∧ s'.os = s₁.os ∧ AllBare s'.gens) (E := fun _ _ => False) F hrun rfl rfl ok ha R V hfr Low.nil fun v' s' G' φ' R' V' S' U' => ?_) fun r s' hr => ?_
  · cases V' using VRel.boolE
    have keep : ∀ b o, b ∉ c.tabs.map (·.2) → s₁.heap.get? b = some o → s'.heap.get? b = some o := fun b o hb e => R'.gh _ _ (S'.g _ _ (by show c.B.get? b = some o; rw [hB]; exact ghost_ne e hb))
    have grown : ∀ b o, b ∈ c.tabs.map (·.2) → s₁.heap.get? b = some o → isCodeTable s₁.heap b ∧ o = tabObj #[] ∧ ∃ ps, s'.heap.get? b = some (tabObj ps) := fun b o hb e => by
      obtain ⟨q, hq, rfl⟩ := List.mem_map.mp hb
      have e2 := (hT q hq).2
      rw [e] at e2
      obtain ⟨ps, e3, _⟩ := R'.tab q hq
      exact ⟨((hT q hq).1.tab (hT q hq).2).isCodeTable, Option.some.inj e2, ps, e3⟩
    refine ⟨rfl, ⟨fun b o e => ?_, fun b o e => ?_⟩, S'.os, ?_⟩
    · by_cases hb : b ∈ c.tabs.map (·.2)
      · obtain ⟨ht, rfl, ps, hP⟩ := grown b o hb e
        exact .inr (.inl ⟨ht, rfl, #[], ps, rfl, by rw [Array.empty_append]; exact hP⟩)
      · exact .inl (keep b o hb e)
    · by_cases hb : b ∈ c.tabs.map (·.2)
      · obtain ⟨_, _, ps, hP⟩ := grown b o hb e
        exact ⟨_, hP⟩
      · exact ⟨o, keep b o hb e⟩
    · exact R'.bare
  · split at hr
    · obtain ⟨rfl, hK, hos, hb⟩ := hr
      exact ⟨.inl ⟨_, .bool true, [], rfl, hraise, .bool true, hpost, fun _ => ⟨List.nodup_nil, fun _ h => nomatch h⟩⟩, hK, hos, hb⟩
    · exact hr.elim
    · exact hr.elim
end
end Mini
open PySem PySem.W PyProof PyProof.Rows PySem.Calls
namespace Mini
section
variable {P : PI} {d : Nat} {kd : Kinds} {ρ ρ₁ ρ₂ ρ' : Vars} {σ σ₁ σ₂ σ' : St} {x : Str} {elt : Expr} {ifs : List Expr}
end
end Mini
open PySem PySem.W PySem.W.X PyProof PyProof.Rows PySem.Calls PySem.Spec PySem.SeqAt PySem.MeetsSeq
namespace Mini
section
variable {c : Cx} {P : PI} {d : Nat} {A : Around} {env : Env} {l : List Env} {kd : Kinds} {ρ ρ₁ ρ₂ ρ' : Vars} {G G₀ G₁ G' : Imm} {φ φ₀ φ₁ φ' : List Loc} {σ σ₁ σ₂ σ₃ σ' : St} {s s₀ s₁ s' : Shared} {v w a b : AVal} {p : Pos} {X : String}
theorem get_missing {K : Frag} {x C : Addr} {ox : Obj} {od : Option Obj} {name : Str} {expr : Bool} {cd : ClassData} {prog : Program} {wd : World} {Q : Value → Shared → Prop} {E : Value → Shared → Prop} (hh : A.handled = none) (Y : K.In s.heap) (I : InstAt s.heap x ox C od) (hga : findIn K (.ref C) "__getattribute__" = some (some (.builtin "object.__getattribute__")))
    (hf : findObj K C od name = some .missing) (hk : findIn K (.ref C) "__getattr__" = some none) (hc : clsIn K C = some cd) (hn : cd.name.cps.foldl (fun k c => k + (Str.utf8Of c).length) 0 ≤ 100) (hl : cd.name.toString.length ≤ 60) (hz : name.length ≤ 1000)
    (hE : ∀ h' tk e, Heap.NewAttrErr s.heap h' e (.ref x) name → E (.ref e) { s with heap := h', toks := tk }) : wpAny (model prog wd) A (getAttr (.ref x) name expr) Q E s := by
  refine get_open Y I hga ?_
  obtain ⟨hp, gg, dr, t, os⟩ := s
  have L0 := I.type (M := model prog wd)
  have L1 := looks_find (M := model prog wd) Y I hf
  have L2 := looks_findIn (M := model prog wd) Y hk
  have L3 := looks_clsIn (M := model prog wd) Y hc
  refine wpAny_bind (wpAny_pure (wpAny_bind (L0.at (wpAny_bind (L1.at (wpAny_bind (L2.at ?_)))))))
  show wpAny _ _ (Builtin.ObjectAttr.noSuchAttribute (.ref x) name : Sem PySem.Fin) _ _ _
  unfold Builtin.ObjectAttr.noSuchAttribute typeNameOfCut shownTypeOf
  refine wpAny_bind (wpAny_bind (wpAny_bind (L0.at ?_)))
  rw [if_neg (by simp)]
  refine wpAny_pure ?_
  unfold typeNameCut
  refine wpAny_bind (L3.at ?_)
  rw [if_pos hn]
  refine wpAny_pure ?_
  refine wpAny_raiseAttrError hh (fun h' tk e hN => ?_) ?_
  · have := hE h' tk e hN
    obtain ⟨t0, u0, he⟩ := hN.there
    unfold noteIf
    rw [if_pos rfl]
    unfold noteAttr lacksNameAndObj
    refine wpAny_bind (wpAny_bind (wpAny_isInstance (T := "AttributeError") (b := true) ⟨_, he, rfl⟩ sub_AttributeError ?_))
    simp only [Bool.not_true, Bool.false_eq_true, if_false]
    refine wpAny_bind (wpAny_load he ?_)
    refine wpAny_pure ?_
    exact wpAny_pure this
  · rw [strLen_append, strLen_append, PySem.ofString_length, PySem.ofString_length]
    have e1 : (toString "'" ++ toString cd.name.toString ++ toString "' object has no attribute '").length ≤ 120 := by
      show ("'" ++ cd.name.toString ++ "' object has no attribute '").length ≤ 120
      rw [String.length_append, String.length_append]
      have a1 : "'".length = 1 := by decide
      have a2 : "' object has no attribute '".length = 27 := by decide
      lia
    have e2 : "'".length = 1 := by decide
    rw [sizeLine_eq]
    lia
theorem findObj_miss {K : Frag} {C : Addr} {od : Obj} {name : Str} (hh : hasDictIn K C = true) (ha : findIn K (.ref C) name = some none) (hc : copiedNames.contains name = false) (hl : lookIn name od = some none) : findObj K C (some od) name = some .missing := by
  obtain ⟨cd, hc', hd⟩ := any_some hh
  unfold findObj
  have ho : PySem.W.ownOf cd (some od) name = some none := by unfold PySem.W.ownOf; rw [if_pos hd]; exact hl
  rw [hc', Option.bind_some, ha, Option.bind_some]
  simp only [Option.bind_some, ho, hc, Bool.false_and, Bool.false_eq_true, if_false]
theorem er_attrMiss {o : Expr} {x : Str} {i : Nat} {ats : List (Str × AVal)} (h0 : PlainE o) (h0' : P.callAttr x = true) (hx : copiedNames.contains x = false) (hz : x.length ≤ 1000) (h1 : EvE P d kd ρ o σ (.ref i) σ₁) (h2 : σ₁[i]? = some (.inst ats)) (h3 : ats.lookup x = none) : EvER P d kd ρ (.Attribute o x p) σ "AttributeError" σ₁ := .intro fun {c A env l G φ s Q E} H hE => by
  refine Attribute_any_ (noE (wpAny_mono (h1.run H.toHere) (fun a' s₁ ⟨G₁, φ₁, R₁, V₁, S₁⟩ => ?_) fun _ _ e => e)) (by
    cases h0 <;> with_unfolding_all rfl)
  cases V₁ using VRel.refE with
  | ref hl =>
    obtain ⟨dd, es, n, _, I, _, _, h6⟩ := R₁.instAt hl h2
    have h7 := h6 x
    rw [h3] at h7
    obtain ⟨z1, z2⟩ := H.ok.ca x h0'
    obtain ⟨cd, y1, y2, y3⟩ := H.ok.cls
    refine get_missing H.a.hh (H.ok.ok.x.keeps R₁.keepB) I H.ok.ga (findObj_miss H.ok.hd z1 hx (by rw [lookIn_dict]; exact h7)) z2 y1 y2 y3 hz fun h' tk e hN => ?_
    have H₁ := H.step R₁ S₁
    have ext := step_ext (c := c) (own := []) (G := G₁) (φ := φ₁) (s := s₁) (tk := tk) hN.keeps
    have SS := S₁.trans' ext
    have R₂ := rel_ext (tk := tk) R₁ hN.keeps
    obtain ⟨t', u, he⟩ := hN.there
    refine hE e G₁ φ₁ _ ⟨H₁.step R₂ ext, SS.weaken (fun _ h => nomatch h), H.low.exact SS (fun _ _ h => nomatch h), H.alive⟩ (.new _ t' _ he rfl rfl ⟨rfl, rfl⟩ ?_ (R₁.fresh_foot hN.new) (R₁.fresh_G hN.new))
    cases q : s.heap.get? e with
    | none => rfl
    | some o => exact none_of_isSome (S₁.keep e (by rw [q]; rfl)) hN.new
theorem er_itemEmpty {nm : Str} {np ip : Pos} {kn} (h1 : EvE P d kd ρ (.Name nm np) σ (.str (Str.ofString "")) σ₁) : EvER P d kd ρ (.Subscript (.Name nm np) (.Constant (.int 0) kn ip) p) σ "IndexError" σ₁ := .intro fun {c A env l G φ s Q E} H hE => by
  refine Subscript_ (noE (wpAny_mono (h1.run H.toHere) (fun a' s₁ ⟨G₁, φ₁, R₁, V₁, S₁⟩ => wpAny_Constant_int ?_) fun _ _ e => e))
  cases V₁ using VRel.strE with
  | str t =>
    refine item_str_or H.a.hh (by decide) (fun _ h' tk e x => ?_) (fun _ h => absurd h (by decide))
    have H₁ := H.step R₁ S₁
    have k := fun b o e => x.keeps b o e
    have ext := step_ext (c := c) (own := []) (G := G₁) (φ := φ₁) (s := s₁) (tk := tk) (h' := h') k
    have SS := S₁.trans' ext
    have R₂ := rel_ext (tk := tk) (h' := h') R₁ k
    obtain ⟨ob, t', he, hc, hd⟩ := x.there
    refine hE e G₁ φ₁ _ ⟨H₁.step R₂ ext, SS.weaken (fun _ h => nomatch h), H.low.exact SS (fun _ _ h => nomatch h), H.alive⟩ (.new ob t' _ he hc hd ⟨rfl, rfl⟩ ?_ (R₁.fresh_foot x.new) (R₁.fresh_G x.new))
    cases q : s.heap.get? e with
    | none => rfl
    | some o => exact none_of_isSome (S₁.keep e (by rw [q]; rfl)) x.new
structure EvTR (P : PI) (d : Nat) (kd : Kinds) (ρ : Vars) (ex : Expr) (σ : St) (X : String) (σ' : St) : Prop where
  intro ::
  run : ∀ {c A env l G φ s} {Q : Bool → Shared → Prop} {E : Value → Shared → Prop}, HereF c P d A env l kd ρ G φ σ s → (∀ e G' φ' s', In c P d A env l kd ρ G φ s G' φ' σ' s' → Exc c G' φ' (env :: l) e X s s' → E (.ref e) s') → wpAny (Md c) A (isTrue ex env (PySem.eval ex env)) Q E s
theorem tr_call {f : Expr} {as : List Expr} {ks : List Keyword} (h1 : EvER P d kd ρ (.Call f as ks p) σ X σ') : EvTR P d kd ρ (.Call f as ks p) σ X σ' := .intro fun H hE => wpAny_isTrue_value (h1.run H hE)
theorem tr_cmpL {x r : Expr} {op : CmpOp} (h0 : behindInMarks op r = false) (h1 : EvER P d kd ρ x σ X σ') : EvTR P d kd ρ (.Compare x [op] [r] p) σ X σ' := .intro fun H hE => wpAny_isTrue_Compare1 (h1.run H hE) h0
theorem tr_and2 {x y : Expr} (h1 : EvT P d kd ρ x σ true σ₁) (h2 : EvTR P d kd ρ y σ₁ X σ') : EvTR P d kd ρ (.BoolOp .And [x, y] p) σ X σ' := .intro fun {c A env l G φ s Q E} H hE => by
  refine wpAny_isTrue_BoolOp (wpAny_allTrue_And_cons (noE (wpAny_mono (h1.run H.toHere) (fun z' s₁ ⟨e, G₁, φ₁, R₁, S₁⟩ => ?_) fun _ _ e => e)))
  subst e
  have S₁' := S₁.weaken (own' := owns env ++ fsL l) fun _ h => nomatch h
  have U₁ := H.low.exact S₁ fun _ _ h => nomatch h
  exact wpAny_allTrue_And_cons (h2.run (H.step R₁ S₁) fun e G' φ' s' I x => hE e G' φ' s' (I.back S₁' U₁ H.alive) (x.back S₁.keep))
theorem backTo_any {pos : Pos} (l : List (Bool × Sem Value)) : (backTo pos l).any (·.1) = l.any (·.1) := by
  unfold backTo
  first
    | (simp [List.any_map, Function.comp_def]; done)
    | (cases l <;> simp [List.any_map, Function.comp_def] <;> rfl)
    | (split <;> simp_all [List.any_map, Function.comp_def])
theorem er_callArg {f : Str} {fp : Pos} {x y : Expr} {fv : AVal} (hx : notStar x = true) (hy : notStar y = true) (hc : callable fv = true) (h1 : EvE P d kd ρ (.Name f fp) σ fv σ₁) (h2 : EvER P d kd ρ x σ₁ X σ') : EvER P d kd ρ (.Call (.Name f fp) [x, y] [] p) σ X σ' := .intro fun {c A env l G φ s Q E} H hE => by
  refine wpAny_Call_NameR (noE (wpAny_mono (h1.run H.toHere) (fun f' s₁ ⟨G₁, φ₁, R₁, V₁, S₁⟩ => ?_) fun _ _ e => e))
  have H₁ := H.step R₁ S₁
  have S₁' := S₁.weaken (own' := owns env ++ fsL l) fun _ h => nomatch h
  have U₁ := H.low.exact S₁ fun _ _ h => nomatch h
  have hst : starEach [x, y] env = [(false, PySem.eval x env), (false, PySem.eval y env)] := by rw [starEach_cons hx, starEach_cons hy]; rfl
  refine callWith_of (P := fun h => ∀ a o, G₁ a = some o → h.get? a = some o) (by rw [backTo_any, hst]; rfl) (fun h hG => keeper H₁.ok R₁ V₁ hc hG) ?_
  have hb : ∃ w rest, backTo p (starEach [x, y] env) = (false, w) :: rest := by rw [hst]; exact ⟨_, _, rfl⟩
  have key : ∀ {Q' : List Value → Shared → Prop}, wpAny (Md c) A (spliced (backTo p (starEach [x, y] env))) Q' E s₁ := wpAny_items_cons (h2.run H₁ fun e G' φ' s' I x => hE e G' φ' s' (I.back S₁' U₁ H.alive) (x.back S₁.keep)) (starEach_cons hx)
  obtain ⟨w, rest, hw⟩ := hb
  rw [hw] at key ⊢
  exact evalArgs_plain key
end
end Mini
open PySem PySem.W PySem.W.X PyProof PyProof.Rows PySem.Calls
namespace Mini
section
variable {prog : Program} {w : World} {A : Around} {E : Value → Shared → Prop} {s : Shared} {Q : Option Value → Shared → Prop}
noncomputable def raisePost (E : Value → Shared → Prop) (a : Addr) (g : Nat) (e : End) (s₁ : Shared) : Prop := ∃ x X, e = .ret (.error (.ref x)) ∧ s₁.heap.IsGen a g ∧ s₁.TypeIs (.ref x) X ∧ isSubtype (.type X) (.type "StopIteration") = pure false ∧ E (.ref x) (s₁.setGen g .finished)
theorem next_genR {a : Addr} {g : Nat} {gs : GenState} {c₀ : Code} {t₀ : Sem PySem.Fin} {fs₀ : List Frame} (hl : s.heap.NoLimit) (hroom : A.depth < recursionLimit) (hg : s.heap.IsGen a g) (hgs : s.gens[g]? = some gs)
    (hst : (gs = .fresh c₀ ∧ t₀ = denote table c₀ ∧ fs₀ = []) ∨ ∃ k₀ l₀ p₀ cl, gs = .suspended k₀ l₀ c₀ p₀ fs₀ cl ∧ t₀ = k₀ (.send .none))
    (x : SegX (model prog w) A.in1 c₀ t₀ fs₀ (s.setGen g .running) (raisePost E a g)) :
    wpAny (model prog w) A (pyNext (.ref a)) Q E s := by
  unfold pyNext
  refine wpAny_bind (wpAny_attempt (wpAny_callSpecial?_slot (name := Str.ofString "__next__") hg.typeIs slot_gen_next
    (wpAny_call_entry slot_gen_next hg.typeIs entry_gen_next ?_ (args_gen_next _))))
  show wpAny _ _ (Builtin.Generator.genWake (.ref a) (.send .none)) _ _ s
  unfold Builtin.Generator.genWake
  refine wpAny_bind (wpAny_holding (wpAny_genNumber hg (wpAny_bind (wpAny_genState hgs ?_))))
  have hst' : (gs = .fresh c₀ ∧ (Resume.send Value.none) = .send .none ∧ t₀ = denote table c₀ ∧ fs₀ = []) ∨ ∃ k₀ l₀ p₀ cl, gs = .suspended k₀ l₀ c₀ p₀ fs₀ cl ∧ t₀ = k₀ (.send .none) := by
    rcases hst with ⟨h1, h2, h3⟩ | h
    · exact .inl ⟨h1, rfl, h2, h3⟩
    · exact .inr h
  have go : ∀ {α : Type} {Q' : α → Shared → Prop} {E' : Value → Shared → Prop} {k : GenResult → Sem α}, (∀ e s₁, raisePost E a g e s₁ → wpAny (model prog w) A.in1 (k e.result) Q' E' (s₁.setGen g e.genState)) → wpAny (model prog w) A.in1 (.resume g (.send .none) [] k) Q' E' s := by
    intro α Q' E' k hk Γ p hΓ
    exact wake_any α prog w hgs hst' (fun Γ => Γ.In A.in1) (fun _ h => h) (x.mono fun e s₁ h Γ p hΓ => hk e s₁ h Γ p hΓ) Γ p hΓ
  cases gs with
  | running => rcases hst with ⟨h, _⟩ | ⟨_, _, _, _, h, _⟩ <;> cases h
  | finished => rcases hst with ⟨h, _⟩ | ⟨_, _, _, _, h, _⟩ <;> cases h
  | _ =>
    refine wpAny_bind (wpAny_roomToWake hl hroom ?_)
    show wpAny _ _ (.resume g (.send .none) [] _) _ _ s
    refine go fun e s₁ he => ?_
    obtain ⟨xx, X, rfl, ⟨o, nm, qn, ho, hc, hd, hs⟩, ⟨ox, hox, hcx⟩, hsub, hE⟩ := he
    show wpAny _ _ (Builtin.Generator.genLeft (.ref a) (.ref xx) : Sem PySem.Fin) _ _ _
    unfold Builtin.Generator.genLeft Builtin.Generator.madeByALambda
    refine wpAny_bind (wpAny_bind (wpAny_load (s := s₁.setGen g .finished) ho ?_))
    refine wpAny_pure ?_
    rw [hd, show ((o.cls == .type "generator") && (#[Value.int (↑g) 0, nm, qn][3]? == some (Value.bool true))) = false by simp]
    refine wpAny_bind (wpAny_isInstance (s := s₁.setGen g .finished) (T := X) (b := false) ⟨ox, hox, hcx⟩ hsub ?_)
    simp only [Bool.and_false, Bool.false_eq_true, if_false]
    unfold Builtin.Generator.genEscaped
    refine wpAny_bind (wpAny_isInstance (s := s₁.setGen g .finished) (T := X) (b := false) ⟨ox, hox, hcx⟩ hsub ?_)
    simp only [Bool.not_false, if_true]
    refine wpAny_throw ?_
    refine wpAny_bind (wpAny_isInstance (s := s₁.setGen g .finished) (T := X) (b := false) ⟨ox, hox, hcx⟩ hsub ?_)
    simp only [Bool.false_eq_true, if_false]
    exact wpAny_throw hE
end
section
variable {c : Cx} {P : PI} {n d : Nat} {A B : Around} {env : Env} {l : List Env} {kd : Kinds} {ρ ρ₁ ρ₂ ρ' : Vars} {G G₀ G₁ G₂ G' : Imm} {φ φ₀ φ₁ φ₂ φ' : List Loc} {σ σ₁ σ₂ σ₃ σ' : St} {s s₀ s₁ s₂ s₃ s' : Shared} {v w a b : AVal} {p : Pos} {X : String}
theorem held_stay {e : Addr} {Q : Unit → Shared → Prop} {E : Value → Shared → Prop} (I : In c P d A env l kd ρ G₀ φ₀ s₀ G φ σ s) (x : Held c G φ env l e X s₀ s)
    (k : ∀ s', In c P d A env l kd ρ G₀ φ₀ s₀ G φ σ s' → Held c G φ env l e X s₀ s' → Q () s') : wpAny (Md c) B (do
      if (← field (.ref e) 1) == Value.none then unsupported "frame.own-activation:exception-without-traceback"
      setFlight (.ref e) env.frame) Q E s := by
  obtain ⟨base, a0, ⟨f1, f2, f3, oe, vs, T, oT, ts, he, hcls, hd, h1, hnT, hTe, hT, hdT, h3⟩, bb⟩ := x
  have hsz3 : 3 < ts.size := (Array.getElem?_eq_some_iff.mp h3).1
  refine wpAny_bind (wpAny_field he hd h1 ?_)
  rw [if_neg (by simp)]
  rw [I.h.ff]
  unfold setFlight
  refine wpAny_bind (wpAny_field he hd h1 ?_)
  rw [if_pos (show (Value.ref T != Value.none) = true from by simp)]
  have other : ∀ b, b ≠ T → (s.heap.update T (Obj.mapFields (·.setIfInBounds 3 (rawInt env.locals)))).get? b = s.heap.get? b := fun b hb => Heap.get?_update_other _ _ (Ne.symm hb)
  have noRecord : ∀ b o, s.heap.get? b = some o → (∀ vs, o.data ≠ .fields vs) → b ≠ T := fun b o hb hnf q => by
    rw [q, hT] at hb; injection hb with hb; subst hb; exact hnf ts hdT
  have st : base.StaysIn (s.heap.update T (Obj.mapFields (·.setIfInBounds 3 (rawInt env.locals)))) := fun b o hbo => (other b fun q => by rw [q, hnT] at hbo; cases hbo).trans (f1 b o hbo)
  obtain ⟨I', bb'⟩ := I.move bb st fun b o hb hn => ⟨o.slots, (other b (noRecord b o hb hn)).trans hb⟩
  refine wpAny_setField hT hdT hsz3 (k _ I' ⟨base, a0, ⟨st, f2, f3.of_keeps fun b o hb hnf => ⟨o, (other b (noRecord b o hb hnf)).trans hb, rfl⟩, ?_⟩, bb'⟩)
  exact ⟨oe, vs, T, _, _, (other e (Ne.symm hTe)).trans he, hcls, hd, h1, hnT, hTe, Heap.get?_update_self _ hT (Obj.isFreed_of_fields (Obj.data_mapFields hdT _)), Obj.data_mapFields hdT _, by simp [hsz3]⟩
theorem gen_raise {fs : List Frame} {x : Str} {px : Pos} {it' : Value} {lb : List Stmt} {e : Addr} {Φ : End → Shared → Prop} (F : FsOk c env fs) (I : In c P d (B.over (.forLoop (.Name x px) it' lb [] env) fs) env l kd ρ G₀ φ₀ s₀ G φ σ s) (hx : Exc c G φ (env :: l) e X s₀ s)
    (k : ∀ s', In c P d (B.over (.forLoop (.Name x px) it' lb [] env) fs) env l kd ρ G₀ φ₀ s₀ G φ σ s' → Flies c G φ (env :: l) e X s₀ s' → Φ (.ret (.error (.ref e))) s') :
    SegX (Md c) B (.forLoop (.Name x px) it' lb [] env) ((do noteFrame (.ref e) env; theTreesLotGoes (.ref e) : Sem Unit).wrap (fun _ => .raise (.ref e)) .raise id id) fs s Φ := by
  refine sx_wrap' (wpAny_bind (exc_note I hx fun s₁ I₁ x₁ => wpAny_theTreesLotGoes ?_))
  obtain ⟨cdF, herr⟩ := F.err
  refine herr B Φ s₁ _ (.ref e) (held_stay I₁ x₁ fun s₂ I₂ x₂ => ?_)
  unfold leaving
  obtain ⟨base, a0, hh, bb⟩ := id x₂
  exact wpAny_bind (wpAny_noteFrame_againW I₂.h.ff hh.2.2.2 (held_land I₂ x₂ k))
end
end Mini
open PySem PySem.W PySem.W.X PyProof PyProof.Rows PySem.Calls
namespace Mini
inductive EvPR (P : PI) (d : Nat) (k : GB) (X : String) : Vars → AIt → Nat → St → St → Prop
  | pre {ρ : Vars} {it it' : AIt} {i : Nat} {v : AVal} {σ σ₁ σ₂ : St} {t e : Expr} {p : Pos} {k' : GB} {ρ'' : Vars} (h1 : EvN P d it σ (some (v, it')) σ₁) (hp : k.pre = [.Assign [t] e p]) (h0 : (noSwap (fun x => k.names.lookup x) t e && !isComp e) = true) (h2 : EvER P d (fun x => k.names.lookup x) (Vars.set ρ k.x v) e σ₁ X σ₂) (h5 : σ₂[i]? = some (.gen k' ρ'' .run)) : EvPR P d k X ρ it i σ (σ₂.set i (.gen k (Vars.set ρ k.x v) .done))
  | cond {ρ ρ₁ : Vars} {it it' : AIt} {i : Nat} {v : AVal} {σ σ₁ σ₂ σ₃ : St} {k' : GB} {ρ'' : Vars} (h1 : EvN P d it σ (some (v, it')) σ₁) (h2 : EvPre P d (fun x => k.names.lookup x) (Vars.set ρ k.x v) k.pre σ₁ ρ₁ σ₂) (h3 : EvTR P d (fun x => k.names.lookup x) ρ₁ k.cond σ₂ X σ₃) (h5 : σ₃[i]? = some (.gen k' ρ'' .run)) : EvPR P d k X ρ it i σ (σ₃.set i (.gen k ρ₁ .done))
  | miss {ρ ρ₁ : Vars} {it it' : AIt} {i : Nat} {v : AVal} {σ σ₁ σ₂ σ₃ σ' : St} (h1 : EvN P d it σ (some (v, it')) σ₁) (h2 : EvPre P d (fun x => k.names.lookup x) (Vars.set ρ k.x v) k.pre σ₁ ρ₁ σ₂) (h3 : EvT P d (fun x => k.names.lookup x) ρ₁ k.cond σ₂ false σ₃) (h4 : EvPR P d k X ρ₁ it' i σ₃ σ') : EvPR P d k X ρ it i σ σ'
structure PullErr (c : Cx) (k : GB) (own : List Addr) (i : Nat) (G : Imm) (φ : List Loc) (s : Shared) (lf : List Env) (X : String) (σ' : St) (e : End) (s' : Shared) : Prop where
  ex : ∃ x G' φ' σ₁ ρ₁, e = .ret (.error (.ref x)) ∧ Rel c G' φ' σ₁ s' ∧ Step c (own ++ fsL lf) G φ s G' φ' s' ∧ UpS (fsL lf) s s' ∧ Flies c G' φ' lf x X s s' ∧ (∃ kk ρρ, σ₁[i]? = some (.gen kk ρρ .run)) ∧ σ' = σ₁.set i (.gen k ρ₁ .done)
section
variable {c : Cx} {P : PI} {n d : Nat} {A B : Around} {env : Env} {l lf : List Env} {kd : Kinds} {ρ ρ₁ ρ₂ ρ' : Vars} {G G₀ G₁ G₂ G' : Imm} {φ φ₀ φ₁ φ₂ φ' : List Loc} {σ σ₁ σ₂ σ₃ σ' : St} {s s₀ s₁ s₂ s₃ s' : Shared} {v w a b : AVal} {p : Pos} {X : String}
theorem Flies.drop {e : Addr} (x : Flies c G φ (env :: l) e X s₀ s) (hff : env.frame = some env.locals) (hd : ∃ o, s.heap.get? env.locals = some o ∧ ∀ vs, o.data ≠ .fields vs) : Flies c G φ l e X s₀ s := by
  obtain ⟨base, a0, ⟨f1, f2, ⟨_, _, f3⟩, f4⟩, bb⟩ := x
  obtain ⟨oe, vs, T, oT, ts, he, hcls, hdt, h1, hnT, hTe, hT, hdT, h3⟩ := f4
  obtain ⟨ol, hol, hnf⟩ := hd
  have low : ∀ {h : Heap} {m : List Env}, h.FunFrames base m → ∀ L ∈ fsL m, base.get? L = none := by
    intro h m
    induction m with
    | nil => intro _ L hL; cases hL
    | cons y r ih =>
      rintro ⟨_, ⟨L', o', g1, g2, _⟩, g3⟩ L hL
      rw [fsL, List.filterMap_cons, g1] at hL
      rcases List.mem_cons.mp hL with rfl | hL
      · exact g2
      · exact ih g3 L hL
  have fresh : ∀ {h : Heap} {m : List Env} {b' : Heap}, h.FunFrames base m → (∀ L ∈ fsL m, b'.get? L = none) → h.FunFrames b' m := by
    intro h m b'
    induction m with
    | nil => intro _ _; trivial
    | cons y r ih =>
      rintro ⟨k1, ⟨L', o', g1, g2, g3, g4⟩, g5⟩ hb
      have hm : ∀ L ∈ fsL r, L ∈ fsL (y :: r) := fun L hL => by rw [fsL, List.filterMap_cons, g1]; exact .tail _ hL
      exact ⟨k1, ⟨L', o', g1, hb L' (by rw [fsL, List.filterMap_cons, g1]; exact .head _), g3, g4⟩, ih g5 fun L hL => hb L (hm L hL)⟩
  refine ⟨hideAll s.heap (e :: T :: fsL l), a0, ⟨fun b o hb => of_hideAll _ hb, hideAll_none _ (.head _), fresh f3 fun L hL => hideAll_none _ (.tail _ (.tail _ hL)), oe, vs, T, oT, ts, he, hcls, hdt, h1, hideAll_none _ (.tail _ (.head _)), hTe, hT, hdT, h3⟩, fun b q1 q2 => ?_⟩
  have far : ∀ z oz vz, s.heap.get? z = some oz → oz.data = .fields vz → base.get? z = none → b ≠ z := by
    rintro z oz vz k1 k2 k3 rfl
    have hne : b ∉ fsL (env :: l) := fun q => by
      rw [fsL_cons hff] at q
      rcases List.mem_cons.mp q with rfl | q
      · rw [k1] at hol; cases hol
        exact hnf _ k2
      · exact q2 q
    have := bb b q1 hne
    rw [k3, k1] at this; cases this
  have hb : b ∉ e :: T :: fsL l := fun q => by
    rcases List.mem_cons.mp q with rfl | q
    · exact far _ _ _ he hdt f2 rfl
    · rcases List.mem_cons.mp q with rfl | q
      · exact far _ _ _ hT hdT hnT rfl
      · exact q2 q
  cases q : s.heap.get? b with
  | some o => exact hideAll_get _ q hb
  | none =>
    cases q2 : (hideAll s.heap (e :: T :: fsL l)).get? b with
    | none => rfl
    | some o => rw [of_hideAll _ q2] at q; cases q
theorem Step.stripF {k : GB} {ls : List Addr} (S : Step c (owns env ++ ls) G φ s G' φ' s') (R : Rel c G φ σ s) (R' : Rel c G' φ' σ' s') (x : GStat G k env) : Step c (env.locals :: ls) G φ s G' φ' s' where
  g := S.g
  ext := S.ext
  foot := S.foot
  dom := S.dom
  frame := fun b o h1 h2 e => by
    by_cases q : b ∈ owns env ++ ls
    · rcases List.mem_append.mp q with q | q
      · rcases of_owns q with q | ⟨y, q⟩
        · exact absurd (by rw [q]; exact .head _) h2
        · obtain ⟨o', ho'⟩ := Option.isSome_iff_exists.mp (x.cg _ (mem_of_lookup q))
          dsimp only at ho'
          have := R.gh _ _ ho'
          rw [e] at this; cases this
          exact R'.gh _ _ (S.g _ _ ho')
      · exact absurd (.tail _ q) h2
    · exact S.frame b o h1 q e
  keep := S.keep
  os := S.os
  gsz := S.gsz
  gfr := S.gfr
  gft := S.gft
theorem gen_hereF {k : GB} (H : HereX c P d A env (fun y => k.names.lookup y) ρ G φ σ s) (x : GStat G k env) (hfa : A.frames = some (env :: lf)) (hl : Low c G φ lf s) (hap : env.locals ∉ fsL lf) : HereF c P d A env lf (fun y => k.names.lookup y) ρ G φ σ s :=
  ⟨H, hfa, x.ff, hl, fun L hL q => by
    rcases of_owns q with q | ⟨y, q⟩
    · exact hap (q ▸ hL)
    · obtain ⟨o, ho⟩ := Option.isSome_iff_exists.mp (x.cg _ (mem_of_lookup q))
      dsimp only at ho
      rw [(hl.own L hL).2.1] at ho; cases ho⟩
theorem over_frames {fs : List Frame} {x : Str} {px : Pos} {it' : Value} {lb : List Stmt} (F : FsOk c env fs) (h : B.frames = some lf) : (B.over (.forLoop (.Name x px) it' lb [] env) fs).frames = some (env :: lf) := by
  show pushEnvs [] (pushEnvs (envsOf (fs.map Frame.where_)) B.frames) = _
  rw [F.ev, h]; rfl
theorem EvPR.run {fs : List Frame} {px : Pos} {lb : List Stmt} {it' : Value} {k : GB} {i : Nat} {ρ : Vars} {it : AIt} {σ σ' : St} (h : EvPR P d k X ρ it i σ σ') (ok : COk c P) (F : FsOk c env fs) (hbody : GLoop k lb) (hB : GoodA d (B.over (.forLoop (.Name k.x px) it' lb [] env) fs)) (hfr : B.frames = some lf) {pr : List Addr} (hpr : env.locals ∉ pr) :
    ∀ {G φ s}, Rel c G φ σ s → GStat G k env → LocRel c G φ env ρ s.heap → OwnOk c G φ (env.locals :: pr) s → ItRel c G φ s it it' pr → genIt it = true → Low c G φ lf s → (∀ a ∈ env.locals :: pr, a ∉ fsL lf) →
      SegX (Md c) B (.forLoop (.Name k.x px) it' lb [] env) (denote table (.forLoop (.Name k.x px) it' lb [] env)) fs s (PullErr c k (env.locals :: pr) i G φ s lf X σ') := by
  obtain ⟨y1, y2, y3, y4, hlb⟩ := id hbody
  have hnot : ∀ a ∈ pr, a ∉ [env.locals] := fun a ha z => hpr (by rw [← List.mem_singleton.mp z]; exact ha)
  have hfa := over_frames (x := k.x) (px := px) (it' := it') (lb := lb) F hfr
  -- the element is taken and bound
  have pull : ∀ {ρ it σ v it₂ σ₂ Φ G φ s}, EvN P d it σ (some (v, it₂)) σ₂ → Rel c G φ σ s → GStat G k env → LocRel c G φ env ρ s.heap → OwnOk c G φ (env.locals :: pr) s → ItRel c G φ s it it' pr → genIt it = true →
      (∀ G₃ φ₃ s₃, HereX c P d (B.over (.forLoop (.Name k.x px) it' lb [] env) fs) env (fun y => k.names.lookup y) (Vars.set ρ k.x v) G₃ φ₃ σ₂ s₃ → GStat G₃ k env → ItRel c G₃ φ₃ s₃ it₂ it' pr → genIt it₂ = true → Step c (env.locals :: pr) G φ s G₃ φ₃ s₃ →
        SegX (Md c) B (.forLoop (.Name k.x px) it' lb [] env) (Turn env k px it' lb (k.pre ++ [.If k.cond [.Expr (.Yield (some (.Name k.x y1)) y2) y3] [] y4])) fs s₃ Φ) →
      SegX (Md c) B (.forLoop (.Name k.x px) it' lb [] env) (denote table (.forLoop (.Name k.x px) it' lb [] env)) fs s Φ := by
    intro ρ it σ v it₂ σ₂ Φ G φ s hn R T L O I hgi hK
    refine sx_forTurn (wpAny_mono (hn.run ok hB R I) (fun r' s₂ q => ?_) fun _ _ e => e)
    obtain ⟨G₂, φ₂, R₂, q⟩ := q
    cases r' with
    | none => exact q.elim
    | some w' =>
      obtain ⟨S₂, V₂, I₂⟩ := q
      have T₂ := T.mono S₂.g
      have O₂ := O.step S₂
      have O₂l : OwnOk c G₂ φ₂ [env.locals] s₂ := fun a ha => by cases List.mem_singleton.mp ha; exact O₂ _ (.head _)
      have L₂ : LocRel c G₂ φ₂ env ρ s₂.heap := by
        refine L.keeps S₂.g S₂.ext fun a o ha e => ?_
        rcases ha with rfl | ⟨y, ha⟩
        · exact S₂.frame _ _ (O _ (.head _)).1 hpr e
        · obtain ⟨o', ho'⟩ := Option.isSome_iff_exists.mp (T.cg _ (mem_of_lookup ha))
          dsimp only at ho'
          have := R.gh _ _ ho'
          rw [e] at this; cases this
          exact R₂.gh _ _ (S₂.g _ _ ho')
      have H₂ := gen_here ok hB T₂ R₂ L₂ O₂l
      refine wpAny_mono (sim_store (.inl T.nx.xl) H₂ V₂) (fun _ s₃ ⟨G₃, φ₃, R₃, L₃, F₃, S₃, _⟩ => ?_) fun _ _ e => e
      have S₃' := S₃.strip R₂ R₃ T₂
      have SS₃ : Step c (env.locals :: pr) G φ s G₃ φ₃ s₃ := (S₂.weaken fun b hb => .tail _ hb).trans' (S₃'.weaken fun b hb => by rw [List.mem_singleton.mp hb]; exact .head _)
      have := hK G₃ φ₃ s₃ (H₂.then R₃ L₃ F₃ S₃) (T.mono SS₃.g) (I₂.step S₃' hnot) (hn.genIt hgi) SS₃
      rw [show PySem.execs lb env = PySem.execs (k.pre ++ [.If k.cond [.Expr (.Yield (some (.Name k.x y1)) y2) y3] [] y4]) env by rw [hlb]]
      exact this
  -- the statements ahead of the test
  have ahead : ∀ {ρ ρ₁ it₂ σ₂ σ₃ Φ G φ s G₀ φ₀ s₀}, EvPre P d (fun x => k.names.lookup x) ρ k.pre σ₂ ρ₁ σ₃ → HereX c P d (B.over (.forLoop (.Name k.x px) it' lb [] env) fs) env (fun y => k.names.lookup y) ρ G φ σ₂ s → GStat G k env → ItRel c G φ s it₂ it' pr → Step c (env.locals :: pr) G₀ φ₀ s₀ G φ s →
      (∀ G₄ φ₄ s₄, HereX c P d (B.over (.forLoop (.Name k.x px) it' lb [] env) fs) env (fun y => k.names.lookup y) ρ₁ G₄ φ₄ σ₃ s₄ → GStat G₄ k env → ItRel c G₄ φ₄ s₄ it₂ it' pr → Step c (env.locals :: pr) G₀ φ₀ s₀ G₄ φ₄ s₄ →
        SegX (Md c) B (.forLoop (.Name k.x px) it' lb [] env) (Turn env k px it' lb [.If k.cond [.Expr (.Yield (some (.Name k.x y1)) y2) y3] [] y4]) fs s₄ Φ) →
      SegX (Md c) B (.forLoop (.Name k.x px) it' lb [] env) (Turn env k px it' lb (k.pre ++ [.If k.cond [.Expr (.Yield (some (.Name k.x y1)) y2) y3] [] y4])) fs s Φ := by
    intro ρ ρ₁ it₂ σ₂ σ₃ Φ G φ s G₀ φ₀ s₀ h2 H T I SS hK
    generalize k.pre = pre at h2 ⊢
    cases h2 with
    | nil => exact hK _ _ _ H T I SS
    | one h =>
      refine sx_execs_cons (sx_wrap' (wpAny_mono (h.run H) (fun f' s₄ ⟨G₄, φ₄, R₄, L₄, F₄, S₄, FR⟩ => ?_) fun _ _ e => e))
      have S₄' := S₄.strip H.r R₄ T
      cases FR
      exact hK _ _ _ (H.then R₄ L₄ F₄ S₄) (T.mono S₄.g) (I.step S₄' hnot) (SS.trans' (S₄'.weaken fun b hb => by rw [List.mem_singleton.mp hb]; exact .head _))
  -- the exception leaves
  have fin : ∀ {i ρ σ₂ σ₃ ρ' G φ s G₃ φ₃ s₃ e G₄ φ₄ s₄ k' ρ''}, Low c G φ lf s → OwnOk c G φ (env.locals :: pr) s → Step c (env.locals :: pr) G φ s G₃ φ₃ s₃ → HereF c P d (B.over (.forLoop (.Name k.x px) it' lb [] env) fs) env lf (fun y => k.names.lookup y) ρ G₃ φ₃ σ₂ s₃ → GStat G₃ k env → (∀ a ∈ env.locals :: pr, a ∉ fsL lf) →
      In c P d (B.over (.forLoop (.Name k.x px) it' lb [] env) fs) env lf (fun y => k.names.lookup y) ρ G₃ φ₃ s₃ G₄ φ₄ σ₃ s₄ → Exc c G₄ φ₄ (env :: lf) e X s₃ s₄ → σ₃[i]? = some (.gen k' ρ'' .run) →
      SegX (Md c) B (.forLoop (.Name k.x px) it' lb [] env) ((do noteFrame (.ref e) env; theTreesLotGoes (.ref e) : Sem Unit).wrap (fun _ => .raise (.ref e)) .raise id id) fs s₄ (PullErr c k (env.locals :: pr) i G φ s lf X (σ₃.set i (.gen k ρ' .done))) := by
    intro i ρ σ₂ σ₃ ρ' G φ s G₃ φ₃ s₃ e G₄ φ₄ s₄ k' ρ'' hl O SS H T hd I x h5
    refine gen_raise F I x fun s₅ I₅ fl => ⟨⟨e, G₄, φ₄, σ₃, ρ', rfl, I₅.h.r, ?_, ?_, ?_, ⟨_, _, h5⟩, rfl⟩⟩
    · have S₅ := I₅.st.stripF H.r I₅.h.r T
      refine (SS.weaken fun b hb => List.mem_append_left _ hb).trans' (S₅.weaken fun b hb => ?_)
      rcases List.mem_cons.mp hb with rfl | hb
      · exact List.mem_append_left _ (.head _)
      · exact List.mem_append_right _ hb
    · exact (hl.exact SS fun L hL q => hd L q hL).trans I₅.up
    · exact (fl.back (s₀ := s) SS.keep).drop T.ff (I₅.h.notField (by rw [fsL_cons T.ff]; exact .head _))
  induction h with
  | pre h1 hp h0 h2 h5 =>
    intro G φ s R T L O I hgi hl hd
    refine pull h1 R T L O I hgi fun G₃ φ₃ s₃ H₃ T₃ I₃ hgi₃ SS₃ => ?_
    have hl₃ := hl.step SS₃ (hl.exact SS₃ fun L hL q => hd L q hL)
    have HF := gen_hereF H₃ T₃ hfa hl₃ (hd _ (.head _))
    rw [hp]
    rw [Bool.and_eq_true, Bool.not_eq_true'] at h0
    refine sx_execs_cons (sx_wrap (wpAny_Assign_stores (h2.run HF fun e G₄ φ₄ s₄ I₄ x₄ => ?_) (swaps_no h0.2) (swapped_no (by rw [← HF.kd]; exact h0.1))))
    exact fin hl O SS₃ HF T₃ hd I₄ x₄ h5
  | cond h1 h2 h3 h5 =>
    intro G φ s R T L O I hgi hl hd
    refine pull h1 R T L O I hgi fun G₃ φ₃ s₃ H₃ T₃ I₃ hgi₃ SS₃ => ?_
    refine ahead h2 H₃ T₃ I₃ SS₃ fun G₄ φ₄ s₄ H₄ T₄ I₄ SS₄ => ?_
    have hl₄ := hl.step SS₄ (hl.exact SS₄ fun L hL q => hd L q hL)
    have HF := gen_hereF H₄ T₄ hfa hl₄ (hd _ (.head _))
    refine sx_execs_cons (sx_wrap (wpAny_If (h3.run HF fun e G₅ φ₅ s₅ I₅ x₅ => ?_)))
    exact fin hl O SS₄ HF T₄ hd I₅ x₅ h5
  | miss h1 h2 h3 h4 ih =>
    intro G φ s R T L O I hgi hl hd
    refine pull h1 R T L O I hgi fun G₃ φ₃ s₃ H₃ T₃ I₃ hgi₃ SS₃ => ?_
    refine ahead h2 H₃ T₃ I₃ SS₃ fun G₄ φ₄ s₄ H₄ T₄ I₄ SS₄ => ?_
    have hl₄ := hl.step SS₄ (hl.exact SS₄ fun L hL q => hd L q hL)
    refine sx_execs_cons (sx_If (wpAny_mono (h3.run H₄.toHere) (fun z' s₅ ⟨e, G₅, φ₅, R₅, S₅⟩ => ?_) fun _ _ e => e))
    subst e
    have H₅ := H₄.toHere.step R₅ S₅
    have SS₅ : Step c (env.locals :: pr) G φ s G₅ φ₅ s₅ := SS₄.trans' (S₅.weaken fun _ h => nomatch h)
    have hl₅ := hl.step SS₅ (hl.exact SS₅ fun L hL q => hd L q hL)
    simp only [Bool.false_eq_true, if_false]
    refine s_again _ _ _ _ _ _ _ _ rfl ((ih R₅ (T.mono SS₅.g) H₅.l (O.step SS₅) (I₄.step S₅ fun _ _ h => nomatch h) hgi₃ hl₅ hd).mono fun e s' he => ?_)
    obtain ⟨x, G', φ', σ₁, ρ₁, rfl, R', S', U', fl, z1, z2⟩ := he.ex
    refine ⟨⟨x, G', φ', σ₁, ρ₁, rfl, R', (SS₅.weaken fun b hb => List.mem_append_left _ hb).trans' S', (hl.exact SS₅ fun L hL q => hd L q hL).trans U', fl.back SS₅.keep, z1, z2⟩⟩
end
end Mini
open PySem PySem.W PySem.W.X PyProof PyProof.Rows PySem.Calls
namespace Mini
section
variable {c : Cx} {P : PI} {n d : Nat} {A B : Around} {env : Env} {l lf : List Env} {kd : Kinds} {ρ ρ₁ ρ₂ ρ' : Vars} {G G₀ G₁ G₂ G' : Imm} {φ φ₀ φ₁ φ₂ φ' : List Loc} {σ σ₁ σ₂ σ₃ σ' : St} {s s₀ s₁ s₂ s₃ s' : Shared} {v w a b : AVal} {p : Pos} {X : String}
noncomputable def notStop (X : String) : Prop := isSubtype (.type X) (.type "StopIteration") = (pure false : Sem Bool)
theorem notStop_Index : notStop "IndexError" := by unfold notStop; kernel_rfl
theorem notStop_Attribute : notStop "AttributeError" := by unfold notStop; kernel_rfl
theorem footS {i : Nat} {l : Loc} (hl : φ[i]? = some l) {b : Addr} (h : b ∈ foot c (φ.set i { l with ps := [] })) : b ∈ foot c φ := by
  rcases mem_foot_set h with q | q
  · cases List.mem_singleton.mp q; exact mem_foot hl (.head _)
  · exact q
theorem Low.gen {i g : Nat} {l : Loc} {gs : GenState} (h : Low c G φ lf s) (hl : φ[i]? = some l) : Low c G (φ.set i { l with ps := [] }) lf (s.setGen g gs) :=
  ⟨fun b hb => ⟨fun q => (h.own b hb).1 (footS hl q), (h.own b hb).2.1, (h.own b hb).2.2⟩, h.fr⟩
theorem gen_err {i g : Nat} {l : Loc} {k : GB} {own : List Addr} {e : End} {E : Value → Shared → Prop} (hX : notStop X) (R : Rel c G φ σ s) (hl : φ[i]? = some l) (hg : l.g = some g) (hown : ∀ a ∈ own, a ∈ l.ps ∨ s.heap.get? a = none)
    (hE : PullErr c k own i G (φ.set i { l with ps := [] }) (s.setGen g .running) lf X σ' e s₁) (q : ∀ e G' φ' s', Rel c G' φ' σ' s' → Step c (fsL lf) G φ s G' φ' s' → UpS (fsL lf) s s' → Flies c G' φ' lf e X s s' → E (.ref e) s') :
    raisePost E l.a g e s₁ := by
  obtain ⟨x, G₂, φ₂, σ₁, ρ₁, rfl, R₂, S, U, fl, ⟨kk, ρρ, hrun⟩, rfl⟩ := hE.ex
  obtain ⟨l₂, hl₂, ha₂, hg₂⟩ := ((ext_set (l' := { l with ps := [] }) hl rfl rfl).trans S.ext) i l hl
  have hg₂' : l₂.g = some g := hg₂.trans hg
  obtain ⟨g', eg, hG, hps, hgr⟩ := R₂.obj i l₂ _ hl₂ hrun
  rw [hg₂'] at eg; cases eg
  obtain ⟨base, a0, hf, bb⟩ := id fl
  obtain ⟨oe, vs, _, _, _, he, hcls, _⟩ := hf.2.2.2
  have hlo : ∀ a ∈ own ++ fsL lf, (a ∈ l.ps ∨ s.heap.get? a = none) ∨ a ∈ fsL lf := fun a ha => (List.mem_append.mp ha).imp (hown a) id
  refine ⟨x, X, rfl, by rw [← ha₂]; exact hG, ⟨oe, he, hcls.1⟩, hX, q x G₂ (φ₂.set i { l₂ with ps := [] }) _ ?_ ?_ U ⟨base, a0, hf, fun b h1 h2 => bb b (h1.imp (footS hl₂) id) h2⟩⟩
  · exact gen_exit (gs := .finished) R₂ hl₂ hrun hg₂' (fun _ h => nomatch h) List.nodup_nil rfl (fun _ _ e => e) rfl ⟨g, hg₂', hG, rfl, PySem.setGen_self hgr⟩
  · exact {
      g := S.g
      ext := ((ext_set (l' := { l with ps := [] }) hl rfl rfl).trans S.ext).trans (ext_set (l' := { l₂ with ps := [] }) hl₂ rfl rfl)
      foot := fun b hb => by
        rcases S.foot b (footS hl₂ hb) with q | q
        · exact .inl (footS hl q)
        · exact .inr q
      dom := S.dom
      frame := fun b o h1 h2 e => by
        refine S.frame b o (fun q => h1 (footS hl q)) (fun q => ?_) e
        rcases hlo b q with (q | q) | q
        · exact h1 (mem_foot hl (.tail _ q))
        · rw [q] at e; cases e
        · exact h2 q
      keep := S.keep
      os := S.os
      gsz := by
        have := S.gsz
        rw [setGen_size] at this
        rw [setGen_size]; exact this
      gfr := fun k h1 h2 => by
        have hk : k ≠ g := fun z => h1 (by rw [z]; exact mem_gfoot hl hg)
        rw [setGen_other hk]
        have := S.gfr k (by rw [gfoot_set (l' := { l with ps := [] }) hl rfl]; exact h1) (by rw [setGen_size]; exact h2)
        rw [this, setGen_other hk]
      gft := fun k h => by
        rw [gfoot_set (l' := { l₂ with ps := [] }) hl₂ rfl] at h
        have := S.gft k h
        rw [gfoot_set (l' := { l with ps := [] }) hl rfl, setGen_size] at this
        exact this }
theorem PullErr.after {k : GB} {own : List Addr} {i : Nat} {e : End} (h : PullErr c k own i G₁ φ₁ s₁ lf X σ' e s') (S : Step c own G φ s G₁ φ₁ s₁) (U : UpS (fsL lf) s s₁) : PullErr c k own i G φ s lf X σ' e s' := by
  obtain ⟨x, G', φ', σ₁, ρ₁, rfl, R', S', U', fl, z⟩ := h.ex
  exact ⟨⟨x, G', φ', σ₁, ρ₁, rfl, R', (S.weaken fun b hb => List.mem_append_left _ hb).trans' S', U.trans U', fl.back S.keep, z⟩⟩
theorem ob_freshR {i : Nat} {k : GB} {src : AVal} {it : AIt} (hX : notStop X) (ho : σ[i]? = some (.gen k ρ .fresh)) (hsrc : ρ k.src = some src) (hit : IterR (σ.set i (.gen k ρ .run)) src it) (hgi : genIt it = true)
    (h : EvPR P d k X ρ it i (σ.set i (.gen k ρ .run)) σ') : EvObR P (d + 1) i σ X σ' := ⟨.gen ho, fun {c A lf G φ s l Q E} ok ha R hl hfr hlow q => by
  obtain ⟨g, hg, hG, env, body, hgs, hps, hbody, EE⟩ := R.obj i l _ hl ho
  obtain ⟨px, ps, lb, pf, hb, hlb⟩ := hbody
  obtain ⟨R₁, O₁⟩ := gen_enter R hl ho hg hgs
  have X' := ext_set (l' := { l with ps := [] }) hl rfl rfl
  have E₁ : GEnv c G (φ.set i { l with ps := [] }) k ρ env (s.setGen g .running).heap := EE.mono (fun _ _ e => e) X' (fun _ e => e)
  have hnl : s.heap.NoLimit := ok.ok.nolimit.keeps R.keepB
  refine next_genR hnl ha.room hG hgs (.inl ⟨rfl, rfl, rfl⟩) (sx_func ?_)
  rw [hb]
  refine sx_execs_cons (sx_For (fun _ => rfl) (wpAny_Name ?_ EE.nx.sd))
  obtain ⟨mm, hn, hv⟩ := (E₁.loc R₁).ns
  obtain ⟨src', e', V⟩ := hv k.src src (by rw [E₁.stat.look]; exact EE.nx.sl) hsrc
  refine wpAny_loadName_local EE.kind (by rw [E₁.stat.look]; exact EE.nx.sl) hn e' ?_
  refine wpAny_mono (hit.run R₁ V) (fun it' s₂ ⟨pr, R₂, I₂, S₂, hpr⟩ p => ?_) fun _ _ e => e
  have hO : OwnOk c G (φ.set i { l with ps := [] }) [env.locals] (s.setGen g .running) := by rw [← hps]; exact O₁
  have hpn : env.locals ∉ pr := fun q => none_of_isSome (hO _ (.head _)).2.2 (hpr _ q)
  have hO₂ : OwnOk c G (φ.set i { l with ps := [] }) (env.locals :: pr) s₂ := fun a ha => by
    rcases List.mem_cons.mp ha with rfl | ha
    · exact hO.step S₂ _ (.head _)
    · exact I₂.own a ha
  have L₂ : LocRel c G (φ.set i { l with ps := [] }) env ρ s₂.heap := (GEnv.mono E₁ (fun _ _ e => e) (.refl _) (fun o e => S₂.frame _ _ (hO _ (.head _)).1 (fun h => nomatch h) e)).loc R₂
  have hlow₁ := hlow.gen (g := g) (gs := .running) hl
  have U₂ := hlow₁.exact S₂ fun _ _ h => nomatch h
  have hdis : ∀ a ∈ env.locals :: pr, a ∉ fsL lf := fun a ha z => by
    rcases List.mem_cons.mp ha with rfl | ha
    · exact (hlow.own _ z).1 (mem_foot hl (.tail _ (by rw [hps]; exact .head _)))
    · exact none_of_isSome (hlow.own _ z).2.2 (hpr a ha)
  refine (h.run ok fsOk hlb (FsOk.goodA (c := c) fsOk ha) hfr hpn R₂ E₁.stat L₂ hO₂ I₂ hgi (hlow₁.step S₂ U₂) hdis).mono fun e s' he => ?_
  refine gen_err hX R hl hg (fun a ha => ?_) (he.after (S₂.weaken fun _ h => nomatch h) U₂) q
  rcases List.mem_cons.mp ha with rfl | ha
  · exact .inl (by rw [hps]; exact .head _)
  · exact .inr (hpr a ha)⟩
theorem ob_suspR {i : Nat} {k : GB} {it : AIt} (hX : notStop X) (ho : σ[i]? = some (.gen k ρ (.susp it))) (h : EvPR P d k X ρ it i (σ.set i (.gen k ρ .run)) σ') : EvObR P (d + 1) i σ X σ' := ⟨.gen ho, fun {c A lf G φ s l Q E} ok ha R hl hfr hlow q => by
  obtain ⟨g, hg, hG, env, it', pr, gs, hgs, hps, EE, I, U⟩ := R.obj i l _ hl ho
  obtain ⟨kk, l0, cd, p, fs, px, lb, rfl, hbody, F, hres⟩ := U
  obtain ⟨R₁, O₁⟩ := gen_enter R hl ho hg hgs
  have X' := ext_set (l' := { l with ps := [] }) hl rfl rfl
  have E₁ : GEnv c G (φ.set i { l with ps := [] }) k ρ env (s.setGen g .running).heap := EE.mono (fun _ _ e => e) X' (fun _ e => e)
  have hnl : s.heap.NoLimit := ok.ok.nolimit.keeps R.keepB
  refine next_genR hnl ha.room hG hgs (.inr ⟨kk, l0, p, false, rfl, rfl⟩) (hres _ _ _ ?_)
  rw [hps] at O₁
  have hnd := R.locNodup hl
  rw [hps] at hnd
  have hnd' := (List.nodup_cons.mp (List.nodup_cons.mp hnd).2)
  have I₁ : ItRaw c G (φ.set i { l with ps := [] }) (s.setGen g .running).heap it it' pr := I.mono (fun _ _ e => e) X' fun _ _ _ e => e
  have hgi : genIt it = true := by cases I <;> rfl
  have hdis : ∀ a ∈ env.locals :: pr, a ∉ fsL lf := fun a ha z => (hlow.own _ z).1 (mem_foot hl (.tail _ (by rw [hps]; exact ha)))
  refine (h.run ok F hbody (F.goodA ha) hfr hnd'.1 R₁ E₁.stat (E₁.loc R₁) O₁ (I₁.rel fun a ha => O₁ a (.tail _ ha)) hgi (hlow.gen (g := g) (gs := .running) hl) hdis).mono fun e s' he => ?_
  exact gen_err hX R hl hg (fun a ha => .inl (by rw [hps]; exact ha)) he q⟩
end
end Mini
open PySem PySem.W PySem.W.X PyProof PyProof.Rows PySem.Calls PySem.Spec PySem.SeqAt PyProof.V
namespace Mini
section
variable {c : Cx} {P : PI} {d : Nat} {A B : Around} {env : Env} {l : List Env} {kd : Kinds} {ρ ρ₁ ρ₂ ρ' : Vars} {G G' : Imm} {φ φ' : List Loc} {σ σ₁ σ₂ σ₃ σ₄ σ' : St} {s s' : Shared} {v w a b : AVal} {p : Pos}
theorem Rel.addO (R : Rel c G φ σ s) {a : Addr} {o : Obj} {h' : Heap} {tk : Nat} (hn : s.heap.get? a = none) (ho : h'.get? a = some o) (k : ∀ b o, s.heap.get? b = some o → h'.get? b = some o) : Rel c (G.add a o) φ σ { s with heap := h', toks := tk } := by
  have R' := rel_ext (tk := tk) R k
  have hG := R.fresh_G hn
  have sub := Imm.sub_add (o := o) hG
  exact {
    gB := fun b o' e => sub _ _ (R.gB b o' e)
    gh := fun b o' e => by
      unfold Imm.add at e
      split at e
      · rename_i h; subst h; cases e; exact ho
      · exact R'.gh b o' e
    gf := fun b hb => by
      unfold Imm.add
      split
      · rename_i h; subst h; exact absurd hb (R.fresh_foot hn)
      · exact R.gf b hb
    len := R.len
    nodup := R.nodup
    live := R'.live
    obj := fun i l o' h1 h2 => (R'.obj i l o' h1 h2).frame sub (.refl _) (fun _ _ _ e => e) fun _ _ => rfl
    gn := R.gn
    bare := R.bare
    tab := fun q hq => (R'.tab q hq).mono sub fun _ e => e }
theorem step_addO {own : List Addr} (R : Rel c G φ σ s) {a : Addr} {o : Obj} {h' : Heap} {tk : Nat} (hn : s.heap.get? a = none) (k : ∀ b o, s.heap.get? b = some o → h'.get? b = some o) : Step c own G φ s (G.add a o) φ { s with heap := h', toks := tk } := by
  have S := step_ext (c := c) (own := own) (G := G) (φ := φ) (s := s) (tk := tk) k
  exact { g := Imm.sub_add (R.fresh_G hn), ext := .refl _, foot := fun _ h => .inl h, dom := fun b o' e => by
            unfold Imm.add at e
            split at e
            · rename_i h; subst h; exact .inr hn
            · exact .inl e
          frame := S.frame, keep := S.keep, os := rfl, gsz := Nat.le_refl _, gfr := fun _ _ _ => rfl, gft := fun _ h => .inl h }
theorem flat_sd : ∀ {kvs : List (Str × Value)} {KV : List (Str × Str)}, FlatPairs PyData.str kvs (KV.map fun q => (PyData.str q.1, PyData.str q.2)) → kvs.map (·.1) = KV.map (·.1) ∧ VsRel c G φ (KV.map fun q => AVal.str q.2) (kvs.map (·.2))
  | [], [], _ => ⟨rfl, .nil⟩
  | [], _ :: _, h => by cases h
  | _ :: _, [], h => by cases h
  | (k, v) :: r, (x, y) :: r', h => by
    simp only [List.map_cons] at h
    cases h with
    | cons h1 h2 =>
      obtain ⟨t, rfl⟩ := h1.str_inv
      obtain ⟨i1, i2⟩ := flat_sd h2
      exact ⟨by simp [i1], .cons (.str _ _) i2⟩
noncomputable abbrev sdV (KV : List (Str × Str)) : AVal := .sd (KV.map (·.1)) (KV.map fun q => .str q.2)
theorem e_dictS {keys : List (Option Expr)} {values : List Expr} {KV : List (Str × Str)} (hD : litPairs keys values = some (KV.map fun q => (PyData.str q.1, PyData.str q.2))) (hs : strKeyed (KV.map fun q => (PyData.str q.1, PyData.str q.2)) = true) (hn : (strKeysOf (KV.map fun q => (PyData.str q.1, PyData.str q.2))).Nodup)
    (hall : keys.all (·.isSome) = true) (hl : keys.length = values.length) (h0 : keys ≠ []) (hlen : keys.length ≤ 15) : EvE P d kd ρ (.Dict keys values p) σ (sdV KV) σ := .intro fun {c A env G φ s} H => by
  refine Dict_lits_str hD hs hn hall hl h0 hlen fun a o h₁ tk ha ho hT hk => ?_
  obtain ⟨kvs, h1, h2⟩ := hT
  have hdead : s.heap.get? a = none := by
    cases q : s.heap.get? a with
    | none => rfl
    | some o => exact absurd (Heap.lt_size q) (Nat.not_lt.mpr ha)
  obtain ⟨z1, z2⟩ := flat_sd (c := c) (G := G.add a o) (φ := φ) h2
  have sm : (a == sysModules) = false := by
    obtain ⟨o, es, ep, hg, _⟩ := H.ok.ok.g
    have hlt : 3 < s.heap.objs.size := Heap.lt_size (H.r.keepB _ _ hg)
    exact beq_eq_false_iff_ne.mpr (show a ≠ 1 by lia)
  exact ⟨_, φ, H.r.addO hdead ho hk, .sd (Imm.add_self ..) ⟨kvs, h1, z1, rfl⟩ sm z2, step_addO H.r hdead hk⟩
theorem it_sd {x : Str} {KV : List (Str × Str)} {k : Str} (h2 : lookD (KV.map fun q => (q.1, AVal.str q.2)) k = some w) : ItemR σ (sdV KV) (.str k) w := .intro fun {c A G φ s a' b' x j Q E} R Va Vb q => by
  cases Vb using VRel.strE with
  | str tk =>
    cases Va with
    | sd e hd sm r =>
      obtain ⟨kvs, h1, h3, rfl⟩ := hd
      obtain ⟨v', e1, e2⟩ := (look_rel (k := k) (kvs := KV.map fun q => (q.1, AVal.str q.2)) (es := kvs) (by rw [h3, List.map_map]; rfl) (by rw [List.map_map]; exact r)).1 w h2
      have D := Heap.dictOf_iff.mpr ⟨_, R.gh _ _ e, h1⟩
      obtain ⟨ops, hs⟩ := subscripted_any j (.ref _) (.str k tk)
      exact tail_any (T := "dict") D.typeIs slot_dict_getitem.lookup (wpAny_getItem_of str_is D.mapOf e1 (q _ _ (R.toks _) (step_toks _) e2)) hs
theorem mk_sd {ks : List Str} {vs : List AVal} : IterR σ (.sd ks vs) (.dkeys (.sd ks vs) ks.length 0) := .intro (fun {c A G φ s v'} R V => by
    cases id V with
    | sd e hd sm r =>
      obtain ⟨kvs, ⟨es, ep, x1, x2, x3, x4, x5⟩, h3, rfl⟩ := hd
      have hlen : kvs.length = ks.length := by rw [← h3, List.length_map]
      refine wpAny_pyIter_dict sm (kvs := kvs) (ep := ep) (knd := strKind c.prog c.w) ⟨_, es, R.gh _ _ e, x1, x2, x3, x4, x5⟩ ⟨_, R.push _, .dkeys (ep := ep) ⟨_, Heap.get?_push_size _ rfl, rfl, ?_⟩ V (fun _ z => by cases z) (fun ks vs z => ⟨_, es, e, x2⟩) (own_new R _ rfl), step_push _, new_only⟩
      rw [hlen]; rfl) fun _ e => by cases e
theorem sd_at {ks : List Str} {vs : List AVal} {I l : Addr} {n ep : Nat} (R : Rel c G φ σ s) (V : VRel c G φ (.sd ks vs) (.ref l)) (q2 : ∀ ks' vs', AVal.sd ks vs = .sd ks' vs' → ∃ o es, G l = some o ∧ o.data = .dict es ep) : ∃ kvs : List (Str × Value), s.heap.DictAt (strKind c.prog c.w) l kvs ep ∧ kvs.map (·.1) = ks := by
  cases V with
  | sd e hd sm r =>
    obtain ⟨kvs, ⟨es, ep', x1, x2, x3, x4, x5⟩, h3, rfl⟩ := hd
    obtain ⟨o', es', y1, y2⟩ := q2 _ _ rfl
    rw [e] at y1; cases y1
    rw [x2] at y2; cases y2
    exact ⟨kvs, ⟨_, es, R.gh _ _ e, x1, x2, x3, x4, x5⟩, h3⟩
theorem n_sd {j n : Nat} {ks : List Str} {vs : List AVal} {k : Str} (hn : ks.length = n) (h2 : ks[j]? = some k) : EvN P d (.dkeys (.sd ks vs) n j) σ (some (.str k, .dkeys (.sd ks vs) n (j + 1))) σ := by
  refine .intro (fun {c A G φ s it' pr} ok ha R I => ?_) (fun _ _ e => by cases e; rfl)
  cases I using ItRel.dkeysE with
  | dkeys hI V q1 q2 o =>
    rename_i I l ep
    obtain ⟨kvs, D, h3⟩ := sd_at (I := I) (n := n) R V q2
    have hlen : kvs.length = n := by rw [← hn, ← h3, List.length_map]
    obtain ⟨x, hx⟩ : ∃ x, kvs[j]? = some (k, x) := by
      rw [← h3, List.getElem?_map] at h2
      obtain ⟨⟨k', x⟩, e1, e2⟩ := Option.map_eq_some_iff.mp h2
      cases e2
      exact ⟨x, e1⟩
    rw [← hlen] at hI
    refine wpAny_pyNext_dict_item hI D hx fun key h' hkey hI' hs => ?_
    have hne : ∀ b x, b ≠ I → s.heap.get? b = some x → h'.get? b = some x := fun b x hb e => (hs.2 b hb).trans e
    have S : Step c [I] G φ s G φ { s with heap := h' } := step_priv (tk := s.toks) hne (by obtain ⟨oo, e, _⟩ := hI'; rw [e]; rfl)
    have hkv : ∃ t, key = .str k t := by
      have : Value.isStrOf k key = true := hkey
      cases key <;> first | (simp [Value.isStrOf] at this; done) | (simp [Value.isStrOf] at this; subst this; exact ⟨_, rfl⟩)
    obtain ⟨t, rfl⟩ := hkv
    rw [hlen] at hI'
    exact ⟨G, φ, rel_priv (tk := s.toks) R o hne, S, .str _ _, .dkeys hI' V q1 q2 (o.step S)⟩
theorem n_sdEnd {j n : Nat} {ks : List Str} {vs : List AVal} (hn : ks.length = n) (h2 : ks[j]? = none) : EvN P d (.dkeys (.sd ks vs) n j) σ none σ := by
  refine .intro (fun {c A G φ s it' pr} ok ha R I => ?_) (fun _ _ e => by cases e)
  cases I using ItRel.dkeysE with
  | dkeys hI V q1 q2 o =>
    rename_i I l ep
    obtain ⟨kvs, D, h3⟩ := sd_at (I := I) (n := n) R V q2
    have hlen : kvs.length = n := by rw [← hn, ← h3, List.length_map]
    rw [← hlen] at hI
    have hx : kvs[j]? = none := by rw [List.getElem?_eq_none_iff] at h2 ⊢; lia
    exact wpAny_pyNext_dict_end ha.hh hI D hx fun h' hk => ⟨G, φ, rel_priv (tk := s.toks) R o fun b x hb e => hk b x hb e, stepE_priv (tk := s.toks) fun b x hb e => hk b x hb e, fun h => nomatch h⟩
theorem em_append {o x y : Expr} {m : Str} {ap tp : Pos} {k} {i : Nat} {vs : List AVal} (hno : PlainE o) (h0 : (notStar (.Tuple [x, y] k tp) && ap.endLine == p.line && decide (m = "append")) = true) (hx : notStar x = true) (hy : notStar y = true) (h1 : EvEM P d kd ρ o σ (.ref i) σ) (hxe : EvEM P d kd ρ x σ a σ) (hye : EvEM P d kd ρ y σ b σ)
    (h3 : σ[i]? = some (.list vs)) (h5 : vs.length ≤ lim) : EvEM P d kd ρ (.Call (.Attribute o m ap) [.Tuple [x, y] k tp] [] p) σ .none (σ.set i (.list (vs ++ [.tup [a, b]]))) := .intro fun {c A B env G φ s} H => by
  simp only [Bool.and_eq_true, decide_eq_true_eq] at h0
  obtain ⟨⟨hst, hline⟩, rfl⟩ := h0
  have hse : starEach [.Tuple [x, y] k tp] env = [(false, PySem.eval (.Tuple [x, y] k tp) env)] := starEach_cons hst
  refine wpAny_Call_append (by cases hno <;> with_unfolding_all rfl) (by rw [hse]; rfl) hline (by rw [hse]; rfl) (wpAny_mono (h1.run H) (fun a' s₁ ⟨G₁, φ₁, R₁, V₁, S₁⟩ => ?_) fun _ _ e => e)
  have H₁ := H.step R₁ S₁
  cases V₁ using VRel.refE with
  | ref hl =>
    obtain ⟨_, _, items, mm, e1, _⟩ := R₁.obj _ _ _ hl h3
    refine ⟨_, _, rfl, ⟨_, mm, e1, rfl, rfl, rfl⟩, ?_⟩
    refine wpAny_Tuple_spliced (wpAny_items_cons (wpAny_mono (hxe.run H₁) (fun x' s₂ ⟨G₂, φ₂, R₂, V₂, S₂⟩ => ?_) fun _ _ e => e) (starEach_cons hx))
    have H₂ := H₁.step R₂ S₂
    refine wpAny_items_cons (wpAny_mono (hye.run H₂) (fun y' s₃ ⟨G₃, φ₃, R₃, V₃, S₃⟩ => ?_) fun _ _ e => e) (starEach_cons hy)
    refine wpAny_items_nil ⟨lim_le (show 2 ≤ lim by decide), ?_⟩
    have S23 := S₂.trans' S₃
    obtain ⟨l₃, hl₃, hla, _⟩ := S23.ext _ _ hl
    have S' := step_pushG (own := []) R₃ { cls := .type "tuple", data := .seq [x', y'].toArray }
    obtain ⟨l₄, hl₄, hla4, _⟩ := S'.ext _ _ hl₃
    have R₄ := R₃.pushG { cls := .type "tuple", data := .seq [x', y'].toArray } rfl
    have V₄ : VRel c (G₃.add s₃.heap.objs.size { cls := .type "tuple", data := .seq [x', y'].toArray }) φ₃ (.tup [a, b]) (.ref s₃.heap.objs.size) := .tup 0 (Imm.add_self ..) (.cons ((V₂.mono S₃.g S₃.ext).mono S'.g S'.ext) (.cons (V₃.mono S'.g S'.ext) .nil))
    rw [← hla]
    exact sim_append R₄ hl₃ h3 V₄ h5 fun s' R' S'' => ⟨_, φ₃, R', .none, ((S₁.trans' S23).trans' S').trans' S''⟩
noncomputable def EvCF (P : PI) (d : Nat) (fv : AVal) (vs : List AVal) (σ : St) (v : AVal) (σ' : St) : Prop := callable fv = true ∧ ∀ {c A l G φ s f' vs'} {Q : Value → Shared → Prop} {E : Value → Shared → Prop}, COk c P → GoodA d A → Rel c G φ σ s → VRel c G φ fv f' → VsRel c G φ vs vs' → A.frames = some l → Low c G φ l s →
  (∀ v' G' φ' s', Rel c G' φ' σ' s' → VRel c G' φ' v v' → Step c (fsL l) G φ s G' φ' s' → UpS (fsL l) s s' → Q v' s') → wpAny (Md c) A (call f' vs') Q E s
theorem c_fnF {x : Str} {ps : List Str} {body : List Stmt} {names : List (Str × NameKind)} {vs : List AVal} (h0 : P.fn x = some (ps, body, names)) (h2 : ps.length = vs.length)
    (h3 : EvXsF P d (fun x => names.lookup x) (bindAll ps vs) body σ (.ret v) ρ' σ') : EvCF P (d + 1) (.fn x) vs σ v σ' := ⟨rfl, fun {c A l G φ s f' vs' Q E} ok ha R Vf V hfr hl q => by
  obtain ⟨f, hf, F⟩ := ok.fn x ps body names h0
  cases Vf using VRel.fnE with
  | fn e =>
    rw [hf] at e; cases e
    exact wpAny_call (callFnF F h3 h2 rfl ok ha R V hfr hl fun v' s' G' φ' R' V' S' U' => q _ _ _ _ R' V' S' U')⟩
structure EvTF (P : PI) (d : Nat) (kd : Kinds) (ρ : Vars) (ex : Expr) (σ : St) (z : Bool) (σ' : St) : Prop where
  intro ::
  run : ∀ {c A env l G φ s}, HereF c P d A env l kd ρ G φ σ s → wpAny (Md c) A (isTrue ex env (PySem.eval ex env)) (fun z' s' => AfterF c env l G φ s ρ σ' s' fun _ _ => z' = z) (fun _ _ => False) s
theorem tf_callNe {f : Str} {fp cp : Pos} {args : List Expr} {r : Expr} {fv : AVal} {vs : List AVal} {z : Bool} (h0 : behindInMarks .NotEq r = false) (h1 : EvE P d kd ρ (.Name f fp) σ fv σ₁) (h2 : EvEs P d kd ρ args σ₁ vs σ₂) (h3 : EvCF P d fv vs σ₂ a σ₃) (h4 : EvE P d kd ρ r σ₃ b σ₄) (h5 : CmpR .NotEq a b σ₄ z) : EvTF P d kd ρ (.Compare (.Call (.Name f fp) args [] cp) [.NotEq] [r] p) σ z σ₄ := .intro fun {c A env l G φ s} H => by
  refine wpAny_isTrue_Compare1 (wpAny_Call_NameR (wpAny_mono (h1.run H.toHere) (fun f' s₁ ⟨G₁, φ₁, R₁, V₁, S₁⟩ => ?_) fun _ _ e => e)) h0
  have H₁ := H.step R₁ S₁
  refine call_restG h2 h3.1 (fun {vs' s₂ G₂ φ₂} R₂ Vf V₂ S₂ => ?_) H₁.toHere V₁
  have H₂ := H₁.step R₂ S₂
  refine h3.2 H.ok H.a R₂ Vf V₂ H.fa H₂.lowC fun v' G' φ' s' R' V' S' U' => ?_
  obtain ⟨H', S'', U''⟩ := H₂.called R' S' U'
  have SS := S₁.trans' S₂
  have SS' := (SS.weaken (own' := owns env ++ fsL l) fun _ h => nomatch h).trans' S''
  have UU := (H.low.exact SS fun _ _ h => nomatch h).trans U''
  refine wpAny_mono (h4.run H'.toHere) (fun b' s₃ ⟨G₃, φ₃, R₃, V₃, S₃⟩ => ?_) fun _ _ e => e
  refine h5.run H.a R₃ (V'.mono S₃.g S₃.ext) V₃ fun s₄ R₄ S₄ => wpAny_truthy_bool ?_
  have S34 := S₃.trans' S₄
  have H₄ := H'.step R₄ S34
  exact ⟨G₃, φ₃, R₄, H₄.l, H₄.f, SS'.trans' (S34.weaken fun _ h => nomatch h), UU.trans (H'.low.exact S34 fun _ _ h => nomatch h), rfl⟩
theorem xf_ifTF {t : Expr} {x y : List Stmt} {f : Flw} {z : Bool} (h1 : EvTF P d kd ρ t σ z σ₁) (h2 : EvXsF P d kd ρ (if z then x else y) σ₁ f ρ' σ') : EvXF P d kd ρ (.If t x y p) σ f ρ' σ' := .intro fun {c A env l G φ s} H => by
  refine wpAny_If (wpAny_mono (h1.run H) (fun z' s₁ ⟨G₁, φ₁, R₁, L₁, F₁, S₁, U₁, e⟩ => ?_) fun _ _ e => e)
  subst e
  have H₁ := H.then R₁ L₁ F₁ S₁ U₁
  cases z' with
  | true => exact wpAny_mono (h2.run H₁) (fun _ _ q => AfterF.after q S₁ U₁) fun _ _ e => e
  | false => exact wpAny_mono (h2.run H₁) (fun _ _ q => AfterF.after q S₁ U₁) fun _ _ e => e
theorem xm_expr {e : Expr} {q : Pos} {ss : List Stmt} {f : Flw} {o : Expr} {as : List Expr} {ks : List Keyword} (he : e = .Call o as ks q) (h1 : EvEM P d kd ρ e σ v σ₁) (h2 : EvXsM P d kd ρ ss σ₁ f ρ' σ') : EvXsM P d kd ρ (.Expr e p :: ss) σ f ρ' σ' := .intro fun {c A B env G φ s} H => by
  have h0 : isComp e = false := by subst he; rfl
  refine wpAny_execs_cons (wpAny_Expr_any (wpAny_mono (h1.run H.toHere) (fun v' s₁ ⟨G₁, φ₁, R₁, V₁, S₁⟩ => ?_) fun _ _ e => e) (notModule H.l) (swaps_no h0))
  exact Does.after (h2.run (H.step R₁ S₁)) (S₁.weaken fun _ h => nomatch h)
end
end Mini
open PySem PySem.W PyProof.Rows
open_top hd for PySem.Challenge.rw_dn0295_09
namespace Mini
noncomputable def fnsOf (p : Program) : List (Str × (List Str × List Stmt × List (Str × NameKind))) := p.main.body.filterMap fun st => match st with
  | .FunctionDef name args body _ _ _ scope _ _ _ => some (name, args.args.map (·.arg), body, scope.names)
  | _ => none
noncomputable def initOf (p : Program) : List Str × List Stmt × List (Str × NameKind) := (p.main.body.findSome? fun st => match st with
  | .ClassDef _ _ _ body _ _ _ _ _ _ _ => body.findSome? fun st => match st with
    | .FunctionDef _ args body _ _ _ scope _ _ _ => some (args.args.map (·.arg), body, scope.names)
    | _ => none
  | _ => none).getD ([], [], [])
noncomputable def fnsL : List (Str × (List Str × List Stmt × List (Str × NameKind))) := fnsOf PySem.Challenge.pw_dn0295_09
noncomputable def bodyAt (i : Nat) : List Stmt := ((fnsL[i]?).map (·.2.2.1)).getD []
noncomputable def namesAt (i : Nat) : List (Str × NameKind) := ((fnsL[i]?).map (·.2.2.2)).getD []
noncomputable def initL : List Str × List Stmt × List (Str × NameKind) := initOf PySem.Challenge.pw_dn0295_09
noncomputable abbrev KL (q : Params) : Frag := hd.heap_39 q
noncomputable def defsL : List (Str × (List Str × List Stmt × List (Str × NameKind))) := [("_prepare_tag", (["tag"], bodyAt 0, namesAt 0)), ("_law_row", (["kinds"], bodyAt 1, namesAt 1)), ("_law_heard", (["select", "row"], bodyAt 2, namesAt 2)), ("law", (["script"], bodyAt 3, namesAt 3))]
noncomputable def globL : List (Str × AVal) := [("_prepare_tag", .fn "_prepare_tag"), ("_law_row", .fn "_law_row"), ("_law_heard", .fn "_law_heard"), ("law", .fn "law"), ("_SelectorContext", .cls), ("len", .bi "len"), ("iter", .bi "iter"), ("next", .bi "next"), ("isinstance", .bi "isinstance"), ("str", .ty "str"), ("slice", .ty "slice"), ("range", .ty "range"), ("AttributeError", .ty "AttributeError"), ("IndexError", .ty "IndexError")]
noncomputable def piL : PI where
  glob := fun x => globL.lookup x
  fn := fun x => defsL.lookup x
  maker := fun x => if x = "_prepare_tag" then some "select" else none
  attrOk := fun x => x = "root" || x = "tag"
  init := initL
  frz := fun _ => false
  clsNone := fun _ => false
  callAttr := fun x => x = "tag"
noncomputable def fnL (q : Params) : List (Str × Fn) := [("_prepare_tag", ⟨21, fdOf (KL q) 21, bodyAt 0, ["tag"]⟩), ("_law_row", ⟨49, fdOf (KL q) 49, bodyAt 1, ["kinds"]⟩), ("_law_heard", ⟨56, fdOf (KL q) 56, bodyAt 2, ["select", "row"]⟩), ("law", ⟨61, fdOf (KL q) 61, bodyAt 3, ["script"]⟩)]
noncomputable def cxL (w : World) (h : Heap) (mg mb : Str → Option Value) : Cx := ⟨PySem.Challenge.rw_dn0295_09.row.prog, w, KL w.params, ghostOf h [(20, 16)], mg, mb, 38, fun x => (fnL w.params).lookup x, [(20, 16)], fun P => "_prepare_tag.<locals>.select", fun _ => false⟩
theorem cls_of {K : Frag} {C : Addr} (h : (match clsIn K C with | some cd => decide (cd.name.cps.foldl (fun k c => k + (Str.utf8Of c).length) 0 ≤ 100) && decide (cd.name.toString.length ≤ 60) | none => false) = true) : ∃ cd, clsIn K C = some cd ∧ cd.name.cps.foldl (fun k c => k + (Str.utf8Of c).length) 0 ≤ 100 ∧ cd.name.toString.length ≤ 60 := by
  split at h
  · rename_i cd e
    rw [Bool.and_eq_true] at h
    exact ⟨cd, e, of_decide_eq_true h.1, of_decide_eq_true h.2⟩
  · cases h
section
variable {c : Cx} {q : Params} (X : (KL q).In c.B)
include X
theorem fnOk_prepare_tag : FnOk c ⟨21, fdOf (KL q) 21, bodyAt 0, ["tag"]⟩ ["tag"] (bodyAt 0) (namesAt 0) := fnOk_of X (by kernel_rfl) (by kernel_rfl) (by kernel_rfl) (ar1 rfl fun a => by kernel_rfl)
theorem fnOk_law_row : FnOk c ⟨49, fdOf (KL q) 49, bodyAt 1, ["kinds"]⟩ ["kinds"] (bodyAt 1) (namesAt 1) := fnOk_of X (by kernel_rfl) (by kernel_rfl) (by kernel_rfl) (ar1 rfl fun a => by kernel_rfl)
theorem fnOk_law_heard : FnOk c ⟨56, fdOf (KL q) 56, bodyAt 2, ["select", "row"]⟩ ["select", "row"] (bodyAt 2) (namesAt 2) := fnOk_of X (by kernel_rfl) (by kernel_rfl) (by kernel_rfl) (ar2 rfl fun a b => by kernel_rfl)
theorem fnOk_law : FnOk c ⟨61, fdOf (KL q) 61, bodyAt 3, ["script"]⟩ ["script"] (bodyAt 3) (namesAt 3) := fnOk_of X (by kernel_rfl) (by kernel_rfl) (by kernel_rfl) (ar1 rfl fun a => by kernel_rfl)
theorem init_ok : FnOk c ⟨35, fdOf (KL q) 35, initL.2.1, initL.1⟩ initL.1 initL.2.1 initL.2.2 := fnOk_of X (by kernel_rfl) (by kernel_rfl) (by kernel_rfl) (ar2 (by kernel_rfl) fun a b => by kernel_rfl)
end
theorem cokL {w : World} {h : Heap} {mg mb : Str → Option Value} {p : Program} {loose : List Str} {mean : ExcName → Option Value} (KX : (KL w.params).In h) (T : Top p loose mean mg mb h) (hT : TabsAt [(20, 16)] h) : COk (cxL w h mg mb) piL := by
  have X : (KL w.params).In (ghostOf h [(20, 16)]) := ghost_K hT KX (by kernel_rfl)
  have O : BOk (cxL w h mg mb) := ⟨X, ghost_ns hT T.g, T.builtins⟩
  refine { ok := ⟨X, O.2.1, ghost_ns hT T.b, ?_⟩, glob := fun x v => AllP.look (l := globL) (p := GOk _) ?_, ga := by kernel_rfl, sa := by kernel_rfl, po := by kernel_rfl, hd := by kernel_rfl, attr := ?_, fn := fun x ps body names hx => AllP.look (l := defsL) (p := fun x q => ∃ f, (cxL w h mg mb).fns x = some f ∧ FnOk (cxL w h mg mb) f q.1 q.2.1 q.2.2) ?_ hx, maker := ?_, fo := fun x f hx => AllP.look (l := fnL w.params) (p := fun _ (f : Fn) => ∃ o fd, (cxL w h mg mb).B.get? f.addr = some o ∧ o.data = .func fd) ?_ hx, mi := by kernel_rfl, frz := rfl, cls := cls_of (by kernel_rfl), cn := fun x h => Bool.noConfusion (show false = true from h), ca := fun x h => by (have e : x = "tag" := by simpa [piL] using h); subst e; exact ⟨by kernel_rfl, by kernel_rfl⟩, init := ⟨⟨35, fdOf (KL w.params) 35, initL.2.1, initL.1⟩, by kernel_rfl, by kernel_rfl, init_ok X⟩ }
  · obtain ⟨mc, a, r⟩ := T.nolimit
    exact ⟨mc, ghost_ns hT a, r⟩
  · exact ⟨gk_fn O (by kernel_rfl) rfl, gk_fn O (by kernel_rfl) rfl, gk_fn O (by kernel_rfl) rfl, gk_fn O (by kernel_rfl) rfl, gk_cls O (by kernel_rfl), gk_bi O (by kernel_rfl) (by kernel_rfl) (by kernel_rfl), gk_bi O (by kernel_rfl) (by kernel_rfl) (by kernel_rfl), gk_bi O (by kernel_rfl) (by kernel_rfl) (by kernel_rfl), gk_bi O (by kernel_rfl) (by kernel_rfl) (by kernel_rfl), gk_ty O (by kernel_rfl) (by kernel_rfl) (by kernel_rfl), gk_ty O (by kernel_rfl) (by kernel_rfl) (by kernel_rfl), gk_ty O (by kernel_rfl) (by kernel_rfl) (by kernel_rfl), gk_ty O (by kernel_rfl) (by kernel_rfl) (by kernel_rfl), gk_ty O (by kernel_rfl) (by kernel_rfl) (by kernel_rfl), trivial⟩
  · intro x hx
    have hx' : x = "root" ∨ x = "tag" := by simpa [piL] using hx
    rcases hx' with rfl | rfl
    · exact ⟨by kernel_rfl, none, by kernel_rfl, by kernel_rfl⟩
    · exact ⟨by kernel_rfl, none, by kernel_rfl, by kernel_rfl⟩
  · exact ⟨⟨_, rfl, fnOk_prepare_tag X⟩, ⟨_, rfl, fnOk_law_row X⟩, ⟨_, rfl, fnOk_law_heard X⟩, ⟨_, rfl, fnOk_law X⟩, trivial⟩
  · intro x nm f hx hf
    unfold piL at hx
    dsimp only at hx
    split at hx
    · rename_i e
      subst e
      cases hx
      have hf' : f = ⟨21, fdOf (KL w.params) 21, bodyAt 0, ["tag"]⟩ := (Option.some.inj (show some _ = some f from hf)).symm
      subst hf'
      exact ⟨(20, 16), mk_of rfl hT T (.head _) (by kernel_rfl) (by kernel_rfl) (by decide) (by kernel_rfl)⟩
    · cases hx
  · exact ⟨(let ⟨o, ho, hd⟩ := (fnOk_prepare_tag (c := cxL w h mg mb) X).o; ⟨o, _, ho, hd⟩), (let ⟨o, ho, hd⟩ := (fnOk_law_row (c := cxL w h mg mb) X).o; ⟨o, _, ho, hd⟩), (let ⟨o, ho, hd⟩ := (fnOk_law_heard (c := cxL w h mg mb) X).o; ⟨o, _, ho, hd⟩), (let ⟨o, ho, hd⟩ := (fnOk_law (c := cxL w h mg mb) X).o; ⟨o, _, ho, hd⟩), trivial⟩
theorem g_prep : piL.glob "_prepare_tag" = some (.fn "_prepare_tag") := by kernel_rfl
theorem g_l_row : piL.glob "_law_row" = some (.fn "_law_row") := by kernel_rfl
theorem g_l_heard : piL.glob "_law_heard" = some (.fn "_law_heard") := by kernel_rfl
theorem g_cls : piL.glob "_SelectorContext" = some (.cls) := by kernel_rfl
theorem g_len : piL.glob "len" = some (.bi "len") := by kernel_rfl
theorem g_iter : piL.glob "iter" = some (.bi "iter") := by kernel_rfl
theorem g_next : piL.glob "next" = some (.bi "next") := by kernel_rfl
theorem g_isinstance : piL.glob "isinstance" = some (.bi "isinstance") := by kernel_rfl
theorem g_str : piL.glob "str" = some (.ty "str") := by kernel_rfl
theorem g_slice : piL.glob "slice" = some (.ty "slice") := by kernel_rfl
theorem g_range : piL.glob "range" = some (.ty "range") := by kernel_rfl
theorem g_AttributeError : piL.glob "AttributeError" = some (.ty "AttributeError") := by kernel_rfl
theorem g_IndexError : piL.glob "IndexError" = some (.ty "IndexError") := by kernel_rfl
theorem f_prep : piL.fn "_prepare_tag" = some (([Str.ofString "tag"] : List Str), bodyAt 0, namesAt 0) := by kernel_rfl
theorem f_l_row : piL.fn "_law_row" = some (([Str.ofString "kinds"] : List Str), bodyAt 1, namesAt 1) := by kernel_rfl
theorem f_l_heard : piL.fn "_law_heard" = some (([Str.ofString "select", Str.ofString "row"] : List Str), bodyAt 2, namesAt 2) := by kernel_rfl
theorem i_cls : piL.init = ([Str.ofString "self", Str.ofString "root"], initL.2.1, initL.2.2) := by kernel_rfl
noncomputable def forT (ss : List Stmt) (i : Nat) : Expr := match ss[i]? with
  | some (.For t _ _ _ _) => t
  | _ => default
noncomputable def forB (ss : List Stmt) (i : Nat) : List Stmt := match ss[i]? with
  | some (.For _ _ b _ _) => b
  | _ => []
noncomputable abbrev kdAt (i : Nat) : Kinds := fun x => (namesAt i).lookup x
noncomputable def st (i j : Nat) : Stmt := ((bodyAt i)[j]?).getD default
end Mini
namespace Mini
open PySem PySem.W PySem.W.X PyProof.Rows PySem.Calls
theorem cls_ok {d : Nat} {σ : St} {v : AVal} (h : notBi v = true) : EvC piL (d + 2) .cls [v] σ (.ref σ.length) (σ ++ [.inst [("root", v)]]) := by
  rw [show σ ++ [AObj.inst [("root", v)]] = (σ ++ [AObj.inst []]).set σ.length (.inst (putAt "root" v [])) by rw [set_new]; rfl]
  apply c_cls' i_cls
  · rfl
  · apply xs_cons
    · apply x_assign
      · kernel_rfl
      · (repeat (((with_reducible apply e_var); kernel_rfl; (focus ((repeat (first | (with_reducible exact b_hit) | ((with_reducible apply b_ne); kernel_rfl))); done)))))
      · apply a_attr
        · rw [h]; kernel_rfl
        · (repeat (((with_reducible apply e_var); kernel_rfl; (focus ((repeat ((with_reducible exact b_hit))); done)))))
        · exact get_new
        · decide
    · (repeat ((with_reducible exact xs_nil)))
theorem put_tag {v w : AVal} : putAt "tag" v [(Str.ofString "root", w)] = [(Str.ofString "root", w), (Str.ofString "tag", v)] := by
  have : ¬ (Str.ofString "root" = Str.ofString "tag") := by decide +kernel
  simp [putAt, this]
noncomputable def navIf (s : Stmt) : List Stmt × List Stmt := match s with
  | .If _ b o _ => (b, o)
  | _ => ([], [])
noncomputable def selDef (ss : List Stmt) : Nat → Stmt
  | 0 => (navIf (ss.getD 1 default)).1.getLast?.getD default
  | 1 => (navIf ((navIf (ss.getD 1 default)).2.getD 0 default)).1.getLast?.getD default
  | 2 => (navIf ((navIf ((navIf (ss.getD 1 default)).2.getD 0 default)).2.getD 0 default)).1.getLast?.getD default
  | _ => (navIf ((navIf ((navIf ((navIf (ss.getD 1 default)).2.getD 0 default)).2.getD 0 default)).2.getD 0 default)).1.getLast?.getD default
noncomputable def defB : Stmt → List Stmt × List (Str × NameKind)
  | .FunctionDef _ _ b _ _ _ sc _ _ _ => (b, sc.names)
  | _ => ([], [])
noncomputable def ifC : Stmt → Expr
  | .If c _ _ _ => c
  | _ => default
noncomputable def gbOf (s : Stmt) : GB := ⟨"result", "elem", (forB (defB s).1 0).dropLast, ifC ((forB (defB s).1 0).getLastD default), ["context", "result"], (defB s).2⟩
noncomputable def selK (i : Nat) : GB := gbOf (selDef (bodyAt 0) i)
noncomputable def selKind (tag : Str) : Nat := if tag = "{*}*" then 0 else if tag = "{}*" then 1 else if Txt.slice tag none (some 3) = "{*}" then 2 else 3
noncomputable def selSuf (tag : Str) : Str := Txt.slice tag (some 2) none
noncomputable def selLoc (tag : Str) : Str := Txt.slice tag (some 3) none
noncomputable def selNs (tag : Str) : Str := Txt.slice tag none (some (-1))
noncomputable def selXs (tag : Str) : List Str := match selKind tag with
  | 0 | 1 => ["_isinstance", "_str"]
  | 2 => ["_isinstance", "_str", "no_ns", "suffix", "tag"]
  | _ => ["_isinstance", "_str", "ns", "ns_only"]
noncomputable def selVs (tag : Str) : List AVal := match selKind tag with
  | 0 | 1 => [.bi "isinstance", .ty "str"]
  | 2 => [.bi "isinstance", .ty "str", .slc (some (-((selSuf tag).length : Int))) none, .str (selSuf tag), .str (selLoc tag)]
  | _ => [.bi "isinstance", .ty "str", .str (selNs tag), .slc none (some ((selNs tag).length : Int))]
noncomputable def selV (tag : Str) : AVal := .gfn (selK (selKind tag)) (selXs tag) (selVs tag)
noncomputable def SelTok (tag : Str) : Prop := tag.length ≤ lim ∧ (selKind tag = 3 → Txt.slice tag (some (-2)) none = "}*")
theorem slice_len (s : Str) (a b : Option Int) : (Txt.slice s a b).length ≤ s.length := PyProof.Txt.length_slice_le s a b
theorem mk_prep : piL.maker "_prepare_tag" = some (Str.ofString "select") := by kernel_rfl
theorem mapM_cons' {ρ : Vars} {x : Str} {xs : List Str} {v : AVal} {vs : List AVal} (h : ρ x = some v) (h' : xs.mapM ρ = some vs) : (x :: xs).mapM ρ = some (v :: vs) := by simp [List.mapM_cons, h, h']
theorem mapM_nil' {ρ : Vars} : ([] : List Str).mapM ρ = some [] := rfl
theorem prep_ok {d : Nat} {σ : St} {tag : Str} (h : SelTok tag) : EvC piL (d + 1) (.fn "_prepare_tag") [.str tag] σ (selV tag) σ := by
  obtain ⟨hl, h3⟩ := h
  have hs2 : (Txt.slice tag (some 2) none).length ≤ lim := Nat.le_trans (slice_len ..) hl
  have hs3 : (Txt.slice tag none (some (-1))).length ≤ lim := Nat.le_trans (slice_len ..) hl
  unfold selV selXs selVs selSuf selLoc selNs
  apply c_maker f_prep mk_prep rfl
  apply m_cons
  · apply x_assign
    · kernel_rfl
    · (repeat (first | (with_reducible first | exact es_nil | apply e_tuple) | ((with_reducible apply es_cons); (kernel_rfl)) | ((with_reducible apply e_glob); kernel_rfl; (first | exact g_isinstance | exact g_str)) | (decide)))
    · (repeat (first | (with_reducible first | exact as_nil | apply as_cons) | ((with_reducible apply a_name); kernel_rfl) | ((with_reducible apply a_tuple); rfl)))
  unfold selKind at *
  by_cases e0 : tag = "{*}*"
  · subst e0
    simp only [if_true]
    apply m_ifT (by kernel_rfl)
    · (repeat (first | (with_reducible exact e_str) | ((with_reducible apply t_cmp); (kernel_rfl)) | ((with_reducible apply e_var); kernel_rfl; (focus ((repeat (first | (with_reducible exact b_hit) | ((with_reducible apply v_ne); kernel_rfl))); done))) | (((with_reducible apply c_seq); ((focus (simp; done)))))))
    · refine df_def (k := selK 0) (xs := [Str.ofString "_isinstance", Str.ofString "_str"]) ⟨_, _, _, _, rfl, _, _, _, _, rfl⟩ ⟨by kernel_rfl, by kernel_rfl⟩ (by kernel_rfl) (by kernel_rfl) (mapM_cons' ?_ (mapM_cons' ?_ mapM_nil'))
      · (focus ((repeat (first | (with_reducible exact v_hit) | ((with_reducible apply v_ne); kernel_rfl))); done))
      · (focus ((repeat ((with_reducible exact v_hit))); done))
  · have b0 : (tag == Str.ofString "{*}*") = false := by simpa using e0
    apply m_ifF (by kernel_rfl)
    · (repeat (first | (with_reducible exact e_str) | ((with_reducible apply t_cmp); (kernel_rfl)) | ((with_reducible apply e_var); kernel_rfl; (focus ((repeat (first | (with_reducible exact b_hit) | ((with_reducible apply v_ne); kernel_rfl))); done))) | (((with_reducible apply c_seq); (assumption)))))
    simp only [if_neg e0] at h3 ⊢
    by_cases e1 : tag = "{}*"
    · subst e1
      simp only [if_true]
      apply df_ifT
      · (repeat (first | (with_reducible exact e_str) | ((with_reducible apply t_cmp); (kernel_rfl)) | ((with_reducible apply e_var); kernel_rfl; (focus ((repeat (first | (with_reducible exact b_hit) | ((with_reducible apply v_ne); kernel_rfl))); done))) | (((with_reducible apply c_seq); ((focus (simp; done)))))))
      · refine df_def (k := selK 1) (xs := [Str.ofString "_isinstance", Str.ofString "_str"]) ⟨_, _, _, _, rfl, _, _, _, _, rfl⟩ ⟨by kernel_rfl, by kernel_rfl⟩ (by kernel_rfl) (by kernel_rfl) (mapM_cons' ?_ (mapM_cons' ?_ mapM_nil'))
        · (focus ((repeat (first | (with_reducible exact v_hit) | ((with_reducible apply v_ne); kernel_rfl))); done))
        · (focus ((repeat ((with_reducible exact v_hit))); done))
    · have b1 : (tag == Str.ofString "{}*") = false := by simpa using e1
      apply df_ifF
      · (repeat (first | (with_reducible exact e_str) | ((with_reducible apply t_cmp); (kernel_rfl)) | ((with_reducible apply e_var); kernel_rfl; (focus ((repeat (first | (with_reducible exact b_hit) | ((with_reducible apply v_ne); kernel_rfl))); done))) | (((with_reducible apply c_seq); (assumption)))))
      simp only [if_neg e1] at h3 ⊢
      by_cases e2 : Txt.slice tag none (some 3) = "{*}"
      · have b2 : (Txt.slice tag none (some 3) == Str.ofString "{*}") = true := by simpa using e2
        simp only [if_pos e2]
        apply df_ifT
        · (repeat (first | (with_reducible first | exact e_int | exact e_str | apply e_slice | exact o_none | apply o_some | exact oi_int) | ((with_reducible apply t_cmp); (kernel_rfl)) | ((with_reducible apply e_var); kernel_rfl; (focus ((repeat (first | (with_reducible exact b_hit) | ((with_reducible apply v_ne); kernel_rfl))); done))) | (((with_reducible apply c_seq); (assumption))) | (focus ((repeat (assumption)); done))))
        · apply df_cons
          · (repeat (first | (with_reducible first | exact e_int | apply e_slice | exact o_none | apply o_some | exact oi_int) | ((with_reducible apply e_var); kernel_rfl; (focus ((repeat (first | (with_reducible exact b_hit) | ((with_reducible apply v_ne); kernel_rfl))); done))) | ((with_reducible first | apply x_assign | apply a_name); kernel_rfl) | (focus ((repeat (assumption)); done))))
          apply df_cons
          · (repeat (first | (with_reducible first | exact es_nil | exact e_none | apply e_neg | apply e_call | apply c_lenStr | apply c_slice | exact oi_int | exact oi_none) | ((with_reducible apply es_cons); (kernel_rfl)) | ((with_reducible apply e_var); kernel_rfl; (focus ((repeat (first | (with_reducible exact v_hit) | ((with_reducible first | apply v_ne | apply b_ne); kernel_rfl))); done))) | ((with_reducible apply e_glob); kernel_rfl; (first | exact g_len | exact g_slice)) | ((with_reducible first | apply x_assign | apply a_name); kernel_rfl) | (focus ((repeat (assumption)); done))))
          apply df_cons
          · (repeat (first | (with_reducible first | exact e_int | apply e_slice | exact o_none | apply o_some | exact oi_int) | ((with_reducible apply e_var); kernel_rfl; (focus ((repeat (first | (with_reducible exact b_hit) | ((with_reducible apply v_ne); kernel_rfl))); done))) | ((with_reducible first | apply x_assign | apply a_name); kernel_rfl) | (focus ((repeat (assumption)); done))))
          refine df_def (k := selK 2) (xs := [Str.ofString "_isinstance", Str.ofString "_str", Str.ofString "no_ns", Str.ofString "suffix", Str.ofString "tag"]) ⟨_, _, _, _, rfl, _, _, _, _, rfl⟩ ⟨by kernel_rfl, by kernel_rfl⟩ (by kernel_rfl) (by kernel_rfl) (mapM_cons' ?_ (mapM_cons' ?_ (mapM_cons' ?_ (mapM_cons' ?_ (mapM_cons' ?_ mapM_nil')))))
          · (focus ((repeat (first | (with_reducible exact v_hit) | ((with_reducible apply v_ne); kernel_rfl))); done))
          · (focus ((repeat (first | (with_reducible exact v_hit) | ((with_reducible apply v_ne); kernel_rfl))); done))
          · (focus ((repeat (first | (with_reducible exact v_hit) | ((with_reducible apply v_ne); kernel_rfl))); done))
          · (focus ((repeat (first | (with_reducible exact v_hit) | ((with_reducible apply v_ne); kernel_rfl))); done))
          · (focus ((repeat ((with_reducible exact v_hit))); done))
      · have b2 : (Txt.slice tag none (some 3) == Str.ofString "{*}") = false := by simpa using e2
        simp only [if_neg e2] at h3 ⊢
        have b3 : (Txt.slice tag (some (-2)) none == Str.ofString "}*") = true := by simpa using h3
        apply df_ifF
        · (repeat (first | (with_reducible first | exact e_int | exact e_str | apply e_slice | exact o_none | apply o_some | exact oi_int) | ((with_reducible apply t_cmp); (kernel_rfl)) | ((with_reducible apply e_var); kernel_rfl; (focus ((repeat (first | (with_reducible exact b_hit) | ((with_reducible apply v_ne); kernel_rfl))); done))) | (((with_reducible apply c_seq); (assumption))) | (focus ((repeat (assumption)); done))))
        apply df_ifT
        · (repeat (first | (with_reducible first | exact e_int | exact e_str | apply e_slice | apply e_neg | exact o_none | apply o_some | exact oi_int) | ((with_reducible apply t_cmp); (kernel_rfl)) | ((with_reducible apply e_var); kernel_rfl; (focus ((repeat (first | (with_reducible exact b_hit) | ((with_reducible apply v_ne); kernel_rfl))); done))) | (((with_reducible apply c_seq); (assumption))) | (focus ((repeat (assumption)); done))))
        · apply df_cons
          · (repeat (first | (with_reducible first | exact e_int | apply e_slice | apply e_neg | exact o_none | apply o_some | exact oi_int) | ((with_reducible apply e_var); kernel_rfl; (focus ((repeat (first | (with_reducible exact b_hit) | ((with_reducible apply v_ne); kernel_rfl))); done))) | ((with_reducible first | apply x_assign | apply a_name); kernel_rfl) | (focus ((repeat (assumption)); done))))
          apply df_cons
          · (repeat (first | (with_reducible first | exact es_nil | exact e_none | apply e_call | apply c_lenStr | apply c_slice | exact oi_int | exact oi_none) | ((with_reducible apply es_cons); (kernel_rfl)) | ((with_reducible apply e_var); kernel_rfl; (focus ((repeat (first | (with_reducible exact v_hit) | ((with_reducible first | apply v_ne | apply b_ne); kernel_rfl))); done))) | ((with_reducible apply e_glob); kernel_rfl; (first | exact g_len | exact g_slice)) | ((with_reducible first | apply x_assign | apply a_name); kernel_rfl) | (focus ((repeat (assumption)); done))))
          refine df_def (k := selK 3) (xs := [Str.ofString "_isinstance", Str.ofString "_str", Str.ofString "ns", Str.ofString "ns_only"]) ⟨_, _, _, _, rfl, _, _, _, _, rfl⟩ ⟨by kernel_rfl, by kernel_rfl⟩ (by kernel_rfl) (by kernel_rfl) (mapM_cons' ?_ (mapM_cons' ?_ (mapM_cons' ?_ (mapM_cons' ?_ mapM_nil'))))
          · (focus ((repeat (first | (with_reducible exact v_hit) | ((with_reducible apply v_ne); kernel_rfl))); done))
          · (focus ((repeat (first | (with_reducible exact v_hit) | ((with_reducible apply v_ne); kernel_rfl))); done))
          · (focus ((repeat (first | (with_reducible exact v_hit) | ((with_reducible apply v_ne); kernel_rfl))); done))
          · (focus ((repeat ((with_reducible exact v_hit))); done))
noncomputable def fit (tag : Str) (t : AVal) : Bool := match t with
  | .str s => match selKind tag with
    | 0 => true
    | 1 => match s.cps[0]? with
      | some ch => (⟨#[ch]⟩ : Str) != "{"
      | none => false
    | 2 => s == selLoc tag || Txt.slice s (some (-((selSuf tag).length : Int))) none == selSuf tag
    | _ => Txt.slice s none (some ((selNs tag).length : Int)) == selNs tag
  | _ => false
noncomputable def SelRho (tag : Str) (ρ : Vars) : Prop := ∀ p ∈ (selXs tag).zip (selVs tag), ρ p.1 = some p.2
noncomputable def TagOk (tag : Str) (t : AVal) : Prop := t = .none ∨ (∃ s, t = .str s ∧ s.length ≤ lim ∧ (selKind tag = 1 → 0 < s.length)) ∨ (IsStr t false ∧ selKind tag ≠ 2)
theorem fit_non {tag : Str} {t : AVal} (h : IsStr t false) : fit tag t = false := by cases h <;> rfl
theorem selKind_cases (tag : Str) : selKind tag = 0 ∨ selKind tag = 1 ∨ selKind tag = 2 ∨ selKind tag = 3 := by
  unfold selKind
  split <;> (try split) <;> (try split) <;> simp
theorem rho_set {tag : Str} {ρ : Vars} {x : Str} {v : AVal} (h : SelRho tag ρ) (hx : x ∉ selXs tag) : SelRho tag (Vars.set ρ x v) := fun p hp => by
  have : p.1 ∈ selXs tag := (List.of_mem_zip hp).1
  have hne : p.1 ≠ x := fun z => hx (z ▸ this)
  simp only [Vars.set, if_neg hne]
  exact h p hp
theorem sel_step {d : Nat} {tag : Str} {ρ : Vars} {σ : St} {e : Nat} {ats : List (Str × AVal)} {t : AVal} (hT : SelTok tag) (hρ : SelRho tag ρ) (he : σ[e]? = some (.inst ats)) (ht : ats.lookup (Str.ofString "tag") = some t) (hok : TagOk tag t) :
    ∃ ρ₁, EvPre piL d (fun x => (selK (selKind tag)).names.lookup x) (Vars.set ρ (selK (selKind tag)).x (.ref e)) (selK (selKind tag)).pre σ ρ₁ σ ∧ EvT piL d (fun x => (selK (selKind tag)).names.lookup x) ρ₁ (selK (selKind tag)).cond σ (fit tag t) σ ∧
      ρ₁ (selK (selKind tag)).x = some (.ref e) ∧ SelRho tag ρ₁ := by
  have hs2 : (selSuf tag).length ≤ lim := Nat.le_trans (slice_len ..) hT.1
  have hs3 : (selNs tag).length ≤ lim := Nat.le_trans (slice_len ..) hT.1
  unfold TagOk at hok
  have hr := hρ
  unfold SelRho at hr
  rcases selKind_cases tag with e0 | e0 | e0 | e0
  · have hx : selXs tag = [Str.ofString "_isinstance", Str.ofString "_str"] := by simp [selXs, e0]
    have hv : selVs tag = [.bi "isinstance", .ty "str"] := by simp [selVs, e0]
    rw [hx, hv] at hr
    have r1 := hr (Str.ofString "_isinstance", .bi "isinstance") (by simp)
    have r2 := hr (Str.ofString "_str", .ty "str") (by simp)
    dsimp only at r1 r2
    have x0 : (selK 0).x = Str.ofString "elem" := by kernel_rfl
    rw [e0, x0]
    refine ⟨_, EvPre.nil, ?_, v_hit, rho_set hρ (by rw [hx]; decide +kernel)⟩
    rcases hok with rfl | ⟨s, rfl, hl, h1⟩ | ⟨hi, h2⟩
    · rw [show fit tag .none = false from rfl]
      apply t_call
      apply e_call
      (repeat (first | (with_reducible first | exact es_nil | apply c_isStr | exact is_none) | ((with_reducible apply es_cons); (kernel_rfl)) | ((with_reducible apply e_var); kernel_rfl; (focus ((repeat (first | assumption | (with_reducible exact v_hit))); done))) | ((with_reducible apply e_attr); constructor; kernel_rfl) | ((with_reducible apply io_ref); (focus ((repeat (assumption)); done))) | (focus ((repeat (assumption)); done))))
    · rw [show fit tag (.str s) = true by simp [fit, e0]]
      apply t_call
      apply e_call
      (repeat (first | (with_reducible first | exact es_nil | apply c_isStr | exact is_str) | ((with_reducible apply es_cons); (kernel_rfl)) | ((with_reducible apply e_var); kernel_rfl; (focus ((repeat (first | assumption | (with_reducible exact v_hit))); done))) | ((with_reducible apply e_attr); constructor; kernel_rfl) | ((with_reducible apply io_ref); (focus ((repeat (assumption)); done))) | (focus ((repeat (assumption)); done))))
    · rw [fit_non hi]
      apply t_call
      apply e_call
      (repeat (first | (with_reducible first | exact es_nil | apply c_isStr) | ((with_reducible apply es_cons); (kernel_rfl)) | ((with_reducible apply e_var); kernel_rfl; (focus ((repeat (first | assumption | (with_reducible exact v_hit))); done))) | ((with_reducible apply e_attr); constructor; kernel_rfl) | ((with_reducible apply io_ref); (focus ((repeat (assumption)); done))) | (focus ((repeat (assumption)); done))))
  · have hx : selXs tag = [Str.ofString "_isinstance", Str.ofString "_str"] := by simp [selXs, e0]
    have hv : selVs tag = [.bi "isinstance", .ty "str"] := by simp [selVs, e0]
    rw [hx, hv] at hr
    have r1 := hr (Str.ofString "_isinstance", .bi "isinstance") (by simp)
    have r2 := hr (Str.ofString "_str", .ty "str") (by simp)
    dsimp only at r1 r2
    have x0 : (selK 1).x = Str.ofString "elem" := by kernel_rfl
    rw [e0, x0]
    refine ⟨Vars.set (Vars.set ρ (Str.ofString "elem") (.ref e)) (Str.ofString "el_tag") t, ?_, ?_, ?_, rho_set (rho_set hρ (by rw [hx]; decide +kernel)) (by rw [hx]; decide +kernel)⟩
    · apply EvPre.one
      apply x_assign
      · kernel_rfl
      · (repeat (first | ((with_reducible apply e_var); kernel_rfl; (focus ((repeat ((with_reducible exact v_hit))); done))) | ((with_reducible apply e_attr); constructor; kernel_rfl) | ((with_reducible apply io_ref); (focus ((repeat (assumption)); done))) | (focus ((repeat (assumption)); done))))
      · (repeat (((with_reducible apply a_name); kernel_rfl)))
    · rcases hok with rfl | ⟨s, rfl, hl, h1⟩ | ⟨hi, h2⟩
      · rw [show fit tag .none = false from rfl]
        apply t_bool
        apply ts_andF
        (repeat (first | (with_reducible first | exact es_nil | apply e_call | apply t_call | apply c_isStr | exact is_none) | ((with_reducible apply es_cons); (kernel_rfl)) | ((with_reducible apply e_var); kernel_rfl; (focus ((repeat (first | assumption | (with_reducible exact v_hit))); done)))))
      · have hp := h1 e0
        obtain ⟨ch, hch⟩ : ∃ ch, s.cps[0]? = some ch := ⟨_, Array.getElem?_eq_getElem hp⟩
        rw [show fit tag (.str s) = ((⟨#[ch]⟩ : Str) != "{") by simp [fit, e0, hch]]
        apply t_bool
        apply ts_andT
        · (repeat (first | (with_reducible first | exact es_nil | apply e_call | apply t_call | apply c_isStr | exact is_str) | ((with_reducible apply es_cons); (kernel_rfl)) | ((with_reducible apply e_var); kernel_rfl; (focus ((repeat (first | assumption | (with_reducible exact v_hit))); done)))))
        · apply and_last
          (repeat (first | (with_reducible first | exact e_int | apply e_item) | ((with_reducible apply t_cmp); (kernel_rfl)) | ((with_reducible apply e_var); kernel_rfl; (focus ((repeat ((with_reducible exact v_hit))); done)))))
          · exact it_str (a := 0) (by decide) hl hch (by decide)
          (repeat (first | (with_reducible exact e_str) | (((with_reducible apply c_sne); ((with_reducible rfl))))))
      · rw [fit_non hi]
        apply t_bool
        apply ts_andF
        (repeat (first | (with_reducible first | exact es_nil | apply e_call | apply t_call | apply c_isStr) | ((with_reducible apply es_cons); (kernel_rfl)) | ((with_reducible apply e_var); kernel_rfl; (focus ((repeat (first | assumption | (with_reducible exact v_hit))); done))) | (focus ((repeat (assumption)); done))))
    · (focus ((repeat (first | (with_reducible exact v_hit) | ((with_reducible apply v_ne); kernel_rfl))); done))
  · have hx : selXs tag = [Str.ofString "_isinstance", Str.ofString "_str", Str.ofString "no_ns", Str.ofString "suffix", Str.ofString "tag"] := by simp [selXs, e0]
    have hv : selVs tag = [.bi "isinstance", .ty "str", .slc (some (-((selSuf tag).length : Int))) none, .str (selSuf tag), .str (selLoc tag)] := by simp [selVs, e0]
    rw [hx, hv] at hr
    have r1 := hr (Str.ofString "_isinstance", .bi "isinstance") (by simp)
    have r2 := hr (Str.ofString "_str", .ty "str") (by simp)
    have r3 := hr (Str.ofString "no_ns", .slc (some (-((selSuf tag).length : Int))) none) (by simp)
    have r4 := hr (Str.ofString "suffix", .str (selSuf tag)) (by simp)
    have r5 := hr (Str.ofString "tag", .str (selLoc tag)) (by simp)
    dsimp only at r1 r2 r3 r4 r5
    have x0 : (selK 2).x = Str.ofString "elem" := by kernel_rfl
    rw [e0, x0]
    refine ⟨Vars.set (Vars.set ρ (Str.ofString "elem") (.ref e)) (Str.ofString "el_tag") t, ?_, ?_, ?_, rho_set (rho_set hρ (by rw [hx]; decide +kernel)) (by rw [hx]; decide +kernel)⟩
    · apply EvPre.one
      apply x_assign
      · kernel_rfl
      · (repeat (first | ((with_reducible apply e_var); kernel_rfl; (focus ((repeat ((with_reducible exact v_hit))); done))) | ((with_reducible apply e_attr); constructor; kernel_rfl) | ((with_reducible apply io_ref); (focus ((repeat (assumption)); done))) | (focus ((repeat (assumption)); done))))
      · (repeat (((with_reducible apply a_name); kernel_rfl)))
    · rcases hok with rfl | ⟨s, rfl, hl, h1⟩ | ⟨hi, h2⟩
      · rw [show fit tag .none = false from rfl]
        apply t_bool
        apply ts_orF
        · (repeat (first | ((with_reducible apply t_cmp); (kernel_rfl)) | ((with_reducible apply e_var); kernel_rfl; (focus ((repeat (first | assumption | (with_reducible exact v_hit))); done))) | ((with_reducible exact c_nseq))))
        · apply or_last
          apply t_bool
          apply ts_andF
          (repeat (first | (with_reducible first | exact es_nil | apply e_call | apply t_call | apply c_isStr | exact is_none) | ((with_reducible apply es_cons); (kernel_rfl)) | ((with_reducible apply e_var); kernel_rfl; (focus ((repeat (first | assumption | (with_reducible exact v_hit))); done)))))
      · rw [show fit tag (.str s) = (s == selLoc tag || Txt.slice s (some (-((selSuf tag).length : Int))) none == selSuf tag) by simp [fit, e0]]
        apply t_bool
        cases hq : s == selLoc tag with
        | true =>
          rw [Bool.true_or]
          apply ts_orT
          (repeat (first | ((with_reducible apply t_cmp); (kernel_rfl)) | ((with_reducible apply e_var); kernel_rfl; (focus ((repeat (first | assumption | (with_reducible exact v_hit))); done))) | (((with_reducible apply c_seq); (assumption)))))
        | false =>
          rw [Bool.false_or]
          apply ts_orF
          · (repeat (first | ((with_reducible apply t_cmp); (kernel_rfl)) | ((with_reducible apply e_var); kernel_rfl; (focus ((repeat (first | assumption | (with_reducible exact v_hit))); done))) | (((with_reducible apply c_seq); (assumption)))))
          · apply or_last
            apply t_bool
            apply ts_andT
            · (repeat (first | (with_reducible first | exact es_nil | apply e_call | apply t_call | apply c_isStr | exact is_str) | ((with_reducible apply es_cons); (kernel_rfl)) | ((with_reducible apply e_var); kernel_rfl; (focus ((repeat (first | assumption | (with_reducible exact v_hit))); done)))))
            · apply and_last
              (repeat (first | (with_reducible apply e_item) | ((with_reducible apply t_cmp); (kernel_rfl)) | ((with_reducible apply e_var); kernel_rfl; (focus ((repeat (first | assumption | (with_reducible exact v_hit))); done))) | (((with_reducible apply c_seq); ((with_reducible rfl)))) | (((with_reducible apply it_slc); (assumption)))))
      · exact absurd e0 h2
    · (focus ((repeat (first | (with_reducible exact v_hit) | ((with_reducible apply v_ne); kernel_rfl))); done))
  · have hx : selXs tag = [Str.ofString "_isinstance", Str.ofString "_str", Str.ofString "ns", Str.ofString "ns_only"] := by simp [selXs, e0]
    have hv : selVs tag = [.bi "isinstance", .ty "str", .str (selNs tag), .slc none (some ((selNs tag).length : Int))] := by simp [selVs, e0]
    rw [hx, hv] at hr
    have r1 := hr (Str.ofString "_isinstance", .bi "isinstance") (by simp)
    have r2 := hr (Str.ofString "_str", .ty "str") (by simp)
    have r3 := hr (Str.ofString "ns", .str (selNs tag)) (by simp)
    have r4 := hr (Str.ofString "ns_only", .slc none (some ((selNs tag).length : Int))) (by simp)
    dsimp only at r1 r2 r3 r4
    have x0 : (selK 3).x = Str.ofString "elem" := by kernel_rfl
    rw [e0, x0]
    refine ⟨Vars.set (Vars.set ρ (Str.ofString "elem") (.ref e)) (Str.ofString "el_tag") t, ?_, ?_, ?_, rho_set (rho_set hρ (by rw [hx]; decide +kernel)) (by rw [hx]; decide +kernel)⟩
    · apply EvPre.one
      apply x_assign
      · kernel_rfl
      · (repeat (first | ((with_reducible apply e_var); kernel_rfl; (focus ((repeat ((with_reducible exact v_hit))); done))) | ((with_reducible apply e_attr); constructor; kernel_rfl) | ((with_reducible apply io_ref); (focus ((repeat (assumption)); done))) | (focus ((repeat (assumption)); done))))
      · (repeat (((with_reducible apply a_name); kernel_rfl)))
    · rcases hok with rfl | ⟨s, rfl, hl, h1⟩ | ⟨hi, h2⟩
      · rw [show fit tag .none = false from rfl]
        apply t_bool
        apply ts_andF
        (repeat (first | (with_reducible first | exact es_nil | apply e_call | apply t_call | apply c_isStr | exact is_none) | ((with_reducible apply es_cons); (kernel_rfl)) | ((with_reducible apply e_var); kernel_rfl; (focus ((repeat (first | assumption | (with_reducible exact v_hit))); done)))))
      · rw [show fit tag (.str s) = (Txt.slice s none (some ((selNs tag).length : Int)) == selNs tag) by simp [fit, e0]]
        apply t_bool
        apply ts_andT
        · (repeat (first | (with_reducible first | exact es_nil | apply e_call | apply t_call | apply c_isStr | exact is_str) | ((with_reducible apply es_cons); (kernel_rfl)) | ((with_reducible apply e_var); kernel_rfl; (focus ((repeat (first | assumption | (with_reducible exact v_hit))); done)))))
        · apply and_last
          (repeat (first | (with_reducible apply e_item) | ((with_reducible apply t_cmp); (kernel_rfl)) | ((with_reducible apply e_var); kernel_rfl; (focus ((repeat (first | assumption | (with_reducible exact v_hit))); done))) | (((with_reducible apply c_seq); ((with_reducible rfl)))) | (((with_reducible apply it_slc); (assumption)))))
      · rw [fit_non hi]
        apply t_bool
        apply ts_andF
        (repeat (first | (with_reducible first | exact es_nil | apply e_call | apply t_call | apply c_isStr) | ((with_reducible apply es_cons); (kernel_rfl)) | ((with_reducible apply e_var); kernel_rfl; (focus ((repeat (first | assumption | (with_reducible exact v_hit))); done))) | (focus ((repeat (assumption)); done))))
    · (focus ((repeat (first | (with_reducible exact v_hit) | ((with_reducible apply v_ne); kernel_rfl))); done))
theorem bind_mem : ∀ {xs : List Str} {vs : List AVal} {p : Str × AVal}, xs.Nodup → p ∈ xs.zip vs → bindAll xs vs p.1 = some p.2
  | x :: xs, v :: vs, p, hn, hp => by
    rw [List.zip_cons_cons] at hp
    rcases List.mem_cons.mp hp with rfl | hp
    · exact b_hit
    · have h1 := (List.of_mem_zip hp).1
      have hne : p.1 ≠ x := fun z => (List.nodup_cons.mp hn).1 (z ▸ h1)
      refine b_ne (by simpa using hne) (bind_mem (List.nodup_cons.mp hn).2 hp)
theorem selXs_cases (tag : Str) : selXs tag = [Str.ofString "_isinstance", Str.ofString "_str"] ∨ selXs tag = [Str.ofString "_isinstance", Str.ofString "_str", Str.ofString "no_ns", Str.ofString "suffix", Str.ofString "tag"] ∨ selXs tag = [Str.ofString "_isinstance", Str.ofString "_str", Str.ofString "ns", Str.ofString "ns_only"] := by
  rcases selKind_cases tag with e | e | e | e <;> simp [selXs, e]
theorem selK_params (tag : Str) : (selK (selKind tag)).params = [Str.ofString "context", Str.ofString "result"] := by
  rcases selKind_cases tag with e | e | e | e <;> rw [e] <;> kernel_rfl
theorem rho_new {tag : Str} {a b : AVal} : SelRho tag (bindAll ((selK (selKind tag)).params ++ selXs tag) ([a, b] ++ selVs tag)) ∧ bindAll ((selK (selKind tag)).params ++ selXs tag) ([a, b] ++ selVs tag) "result" = some b := by
  rw [selK_params]
  constructor
  · intro p hp
    have hc : ((Str.ofString "context" :: Str.ofString "result" :: selXs tag) : List Str).Nodup := by
      rcases selXs_cases tag with e | e | e <;> rw [e] <;> decide +kernel
    exact bind_mem (xs := Str.ofString "context" :: Str.ofString "result" :: selXs tag) (vs := a :: b :: selVs tag) hc (by rw [List.zip_cons_cons, List.zip_cons_cons]; exact .tail _ (.tail _ hp))
  · exact b_ne (by kernel_rfl) b_hit
noncomputable def tgK (k : Nat) : AVal := if k = 1 then .str (Str.ofString "") else if k = 2 then .none else if k = 3 then .str (Str.ofString "a") else if k = 4 then .str (Str.ofString "{u}a") else .str (Str.ofString "{u}")
noncomputable def atsK (i k : Nat) : List (Str × AVal) := if k = 0 then [(Str.ofString "root", .int (i : Int))] else [(Str.ofString "root", .int (i : Int)), (Str.ofString "tag", tgK k)]
noncomputable def act (tok : Str) (k : Nat) : Nat := if k = 0 then 1 else if selKind tok = 1 ∧ k = 1 then 2 else if fit tok (tgK k) then 0 else 3
noncomputable def ent (i a : Nat) : Option AVal := if a = 0 then some (.tup [.int (i : Int), .str (Str.ofString "given")]) else if a = 1 then some (.tup [.int (-1), .str (Str.ofString "nameless")]) else if a = 2 then some (.tup [.int (-1), .str (Str.ofString "empty")]) else none
noncomputable def due (tok : Str) (ks : Nat → Nat) (n : Nat) : List AVal := (List.range n).filterMap fun i => ent i (act tok (ks i))
noncomputable def exc (a : Nat) : String := if a = 1 then "AttributeError" else "IndexError"
theorem due_succ {tok : Str} {ks : Nat → Nat} {n : Nat} : due tok ks (n + 1) = due tok ks n ++ (ent n (act tok (ks n))).toList := by
  unfold due
  rw [List.range_succ, List.filterMap_append]
  cases h : ent n (act tok (ks n)) <;> simp [h]
theorem due_pass {tok : Str} {ks : Nat → Nat} {i : Nat} : ∀ {j : Nat}, i ≤ j → (∀ t, i ≤ t → t < j → act tok (ks t) = 3) → due tok ks j = due tok ks i
  | j, hij, h => by
    induction j with
    | zero => obtain rfl : i = 0 := by lia
              rfl
    | succ m ih =>
      by_cases e : i = m + 1
      · rw [e]
      · rw [due_succ, h m (by lia) (by lia), ih (by lia) fun t h1 h2 => h t h1 (by lia)]
        simp [ent]
theorem due_len {tok : Str} {ks : Nat → Nat} : ∀ n : Nat, (due tok ks n).length ≤ n
  | 0 => by simp [due]
  | n + 1 => by
    rw [due_succ, List.length_append]
    have := due_len (tok := tok) (ks := ks) n
    cases ent n (act tok (ks n)) <;> simp <;> lia
theorem tag_len (k : Nat) : k ≠ 0 → k ≠ 2 → ∃ s, tgK k = .str s ∧ s.length ≤ 5 ∧ (k ≠ 1 → 0 < s.length) := fun h0 h2 => by
  have e1 : (Str.ofString "").length = 0 := by decide +kernel
  have e3 : (Str.ofString "a").length = 1 := by decide +kernel
  have e4 : (Str.ofString "{u}a").length = 4 := by decide +kernel
  have e5 : (Str.ofString "{u}").length = 3 := by decide +kernel
  by_cases c1 : k = 1
  · subst c1; exact ⟨_, rfl, by lia, fun z => absurd rfl z⟩
  by_cases c3 : k = 3
  · subst c3; exact ⟨Str.ofString "a", rfl, by lia, fun _ => by lia⟩
  by_cases c4 : k = 4
  · subst c4; exact ⟨Str.ofString "{u}a", rfl, by lia, fun _ => by lia⟩
  exact ⟨Str.ofString "{u}", by simp [tgK, c1, h2, c3, c4], by lia, fun _ => by lia⟩
theorem tag_fine {tok : Str} {k : Nat} (h0 : k ≠ 0) (h : ¬ (selKind tok = 1 ∧ k = 1)) : TagOk tok (tgK k) := by
  by_cases h2 : k = 2
  · subst h2; exact .inl rfl
  · obtain ⟨s, e, l, p⟩ := tag_len k h0 h2
    rw [e]
    exact .inr (.inl ⟨s, rfl, Nat.le_trans l (by decide), fun hk => p fun z => h ⟨hk, z⟩⟩)
theorem no_tag {d : Nat} {kd : Kinds} {ρ : Vars} {σ : St} {o : Expr} {p : Pos} {e i : Nat} (h0 : PlainE o) (h1 : EvE piL d kd ρ o σ (.ref e) σ) (he : σ[e]? = some (.inst (atsK i 0))) : EvER piL d kd ρ (.Attribute o "tag" p) σ "AttributeError" σ :=
  er_attrMiss h0 (by kernel_rfl) (by kernel_rfl) (by decide +kernel) h1 he (by
    have : (Str.ofString "tag" == Str.ofString "root") = false := by decide +kernel
    show List.lookup (Str.ofString "tag") [(Str.ofString "root", AVal.int (i : Int))] = none
    unfold List.lookup
    rw [this]
    rfl)
theorem pre_nil : (selK 0).pre = [] := by kernel_rfl
theorem sel_none {d : Nat} {tok : Str} {ρ : Vars} {σ σ₁ : St} {it it' : AIt} {g e i : Nat} {k' ρ''} (hT : SelTok tok) (hρ : SelRho tok ρ) (hn : EvN piL d it σ (some (.ref e, it')) σ₁) (he : σ₁[e]? = some (.inst (atsK i 0))) (hg : σ₁[g]? = some (.gen k' ρ'' .run)) :
    ∃ ρ', EvPR piL d (selK (selKind tok)) "AttributeError" ρ it g σ (σ₁.set g (.gen (selK (selKind tok)) ρ' .done)) := by
  have hr := hρ
  unfold SelRho at hr
  rcases selKind_cases tok with e0 | e0 | e0 | e0
  · have hx : selXs tok = [Str.ofString "_isinstance", Str.ofString "_str"] := by simp [selXs, e0]
    have hv : selVs tok = [.bi "isinstance", .ty "str"] := by simp [selVs, e0]
    rw [hx, hv] at hr
    have r1 := hr (Str.ofString "_isinstance", .bi "isinstance") (by simp)
    dsimp only at r1
    have x0 : (selK 0).x = Str.ofString "elem" := by kernel_rfl
    rw [e0]
    refine ⟨_, .cond hn (by rw [pre_nil]; exact .nil) ?_ hg⟩
    rw [x0]
    apply tr_call
    apply er_callArg (by rfl) (by rfl) (fv := .bi "isinstance") (by rfl) (σ₁ := σ₁)
    · (repeat (((with_reducible apply e_var); kernel_rfl; (focus ((repeat (assumption)); done)))))
    · apply no_tag (i := i)
      · constructor
      · (repeat (((with_reducible apply e_var); kernel_rfl; (focus ((repeat ((with_reducible exact v_hit))); done)))))
      · exact he
  · rw [e0]
    have x0 : (selK 1).x = Str.ofString "elem" := by kernel_rfl
    refine ⟨_, .pre hn (by rfl) (by kernel_rfl) ?_ hg⟩
    rw [x0]
    apply no_tag (i := i)
    · constructor
    · (repeat (((with_reducible apply e_var); kernel_rfl; (focus ((repeat ((with_reducible exact v_hit))); done)))))
    · exact he
  · rw [e0]
    have x0 : (selK 2).x = Str.ofString "elem" := by kernel_rfl
    refine ⟨_, .pre hn (by rfl) (by kernel_rfl) ?_ hg⟩
    rw [x0]
    apply no_tag (i := i)
    · constructor
    · (repeat (((with_reducible apply e_var); kernel_rfl; (focus ((repeat ((with_reducible exact v_hit))); done)))))
    · exact he
  · rw [e0]
    have x0 : (selK 3).x = Str.ofString "elem" := by kernel_rfl
    refine ⟨_, .pre hn (by rfl) (by kernel_rfl) ?_ hg⟩
    rw [x0]
    apply no_tag (i := i)
    · constructor
    · (repeat (((with_reducible apply e_var); kernel_rfl; (focus ((repeat ((with_reducible exact v_hit))); done)))))
    · exact he
theorem sel_empty {d : Nat} {tok : Str} {ρ : Vars} {σ σ₁ : St} {it it' : AIt} {g e : Nat} {ats : List (Str × AVal)} {k' ρ''} (hT : SelTok tok) (hρ : SelRho tok ρ) (e0 : selKind tok = 1) (hn : EvN piL d it σ (some (.ref e, it')) σ₁) (he : σ₁[e]? = some (.inst ats)) (ht : ats.lookup (Str.ofString "tag") = some (.str (Str.ofString ""))) (hg : σ₁[g]? = some (.gen k' ρ'' .run)) :
    ∃ ρ', EvPR piL d (selK (selKind tok)) "IndexError" ρ it g σ (σ₁.set g (.gen (selK (selKind tok)) ρ' .done)) := by
  have hr := hρ
  unfold SelRho at hr
  have hx : selXs tok = [Str.ofString "_isinstance", Str.ofString "_str"] := by simp [selXs, e0]
  have hv : selVs tok = [.bi "isinstance", .ty "str"] := by simp [selVs, e0]
  rw [hx, hv] at hr
  have r1 := hr (Str.ofString "_isinstance", .bi "isinstance") (by simp)
  have r2 := hr (Str.ofString "_str", .ty "str") (by simp)
  dsimp only at r1 r2
  have x0 : (selK 1).x = Str.ofString "elem" := by kernel_rfl
  rw [e0]
  refine ⟨Vars.set (Vars.set ρ (Str.ofString "elem") (.ref e)) (Str.ofString "el_tag") (.str (Str.ofString "")), .cond (ρ₁ := Vars.set (Vars.set ρ (Str.ofString "elem") (.ref e)) (Str.ofString "el_tag") (.str (Str.ofString ""))) (σ₂ := σ₁) hn ?_ ?_ hg⟩
  · rw [x0]
    apply EvPre.one
    apply x_assign
    · kernel_rfl
    · (repeat (first | ((with_reducible apply e_var); kernel_rfl; (focus ((repeat ((with_reducible exact v_hit))); done))) | ((with_reducible apply e_attr); constructor; kernel_rfl) | ((with_reducible apply io_ref); (focus ((repeat (assumption)); done))) | (focus ((repeat (assumption)); done))))
    · (repeat (((with_reducible apply a_name); kernel_rfl)))
  · apply tr_and2 (σ₁ := σ₁)
    · (repeat (first | (with_reducible first | exact es_nil | apply e_call | apply t_call | apply c_isStr | exact is_str) | ((with_reducible apply es_cons); (kernel_rfl)) | ((with_reducible apply e_var); kernel_rfl; (focus ((repeat (first | assumption | (with_reducible exact v_hit))); done)))))
    · apply tr_cmpL (by rfl)
      apply er_itemEmpty
      (repeat (((with_reducible apply e_var); kernel_rfl; (focus ((repeat ((with_reducible exact v_hit))); done)))))
structure Rw (σ : St) (R n : Nat) (e ks : Nat → Nat) : Prop where
  row : σ[R]? = some (.list ((List.range n).map fun i => .ref (e i)))
  el : ∀ i, i < n → σ[e i]? = some (.inst (atsK i (ks i)))
noncomputable def fixedO : AObj → Bool
  | .list _ => true
  | .inst _ => true
  | _ => false
theorem Rw.keep {σ σ' : St} {R n : Nat} {e ks : Nat → Nat} (h : Rw σ R n e ks) (k : ∀ (i : Nat) o, σ[i]? = some o → fixedO o = true → σ'[i]? = some o) : Rw σ' R n e ks := ⟨k _ _ h.row rfl, fun i hi => k _ _ (h.el i hi) rfl⟩
theorem Rw.set {σ : St} {R n a : Nat} {e ks : Nat → Nat} {o o' : AObj} (h : Rw σ R n e ks) (ha : σ[a]? = some o) (ho : fixedO o = false) : Rw (σ.set a o') R n e ks := h.keep fun i o₁ h1 h2 => by
  rw [List.getElem?_set_ne fun z => by rw [z, h1] at ha; cases ha; rw [h2] at ho; cases ho]
  exact h1
noncomputable def Nx (tok : Str) (ks : Nat → Nat) (n i j : Nat) : Prop := i ≤ j ∧ j < n ∧ ∀ t, i ≤ t → t < j → act tok (ks t) = 3
theorem Nx.down {tok : Str} {ks : Nat → Nat} {n i j : Nat} (h : Nx tok ks n (i + 1) j) (hi : act tok (ks i) = 3) : Nx tok ks n i j := ⟨by have := h.1; lia, h.2.1, fun t h1 h2 => by
  by_cases z : t = i
  · rw [z]; exact hi
  · exact h.2.2 t (by lia) h2⟩
noncomputable abbrev kOf (tok : Str) : GB := selK (selKind tok)
section
variable {tok : Str} {R n S g : Nat} {e ks : Nat → Nat}
theorem pull_ok {d : Nat} (hT : SelTok tok) (hSg : S ≠ g) : ∀ (m i : Nat) (σ : St) (ρ : Vars) {k' ρ''}, i + m = n → SelRho tok ρ → Rw σ R n e ks → σ[S]? = some (.liter (.ref R) i) → σ[g]? = some (.gen k' ρ'' .run) →
    (∃ j, Nx tok ks n i j ∧ act tok (ks j) = 0 ∧ ∃ ρ', SelRho tok ρ' ∧ EvP piL d (kOf tok) ρ (.obj S) g σ (some (.ref (e j))) ((σ.set S (.liter (.ref R) (j + 1))).set g (.gen (kOf tok) ρ' (.susp (.obj S))))) ∨
    (∃ j, Nx tok ks n i j ∧ (act tok (ks j) = 1 ∨ act tok (ks j) = 2) ∧ ∃ ρ', EvPR piL d (kOf tok) (exc (act tok (ks j))) ρ (.obj S) g σ ((σ.set S (.liter (.ref R) (j + 1))).set g (.gen (kOf tok) ρ' .done))) ∨
    ((∀ t, i ≤ t → t < n → act tok (ks t) = 3) ∧ ∃ ρ', EvP piL d (kOf tok) ρ (.obj S) g σ none ((σ.set S .lend).set g (.gen (kOf tok) ρ' .done)))
  | 0, i, σ, ρ, k', ρ'', hm, hρ, hR, hS, hg => by
    refine .inr (.inr ⟨fun t h1 h2 => by lia, ρ, p_end (n_objEnd (ob_listEnd hS (lo_ref hR.row) (by simp; lia))) (k' := k') (ρ'' := ρ'') ?_⟩)
    rw [List.getElem?_set_ne hSg]; exact hg
  | m + 1, i, σ, ρ, k', ρ'', hm, hρ, hR, hS, hg => by
    have hi : i < n := by lia
    have hn : EvN piL d (.obj S) σ (some (.ref (e i), .obj S)) (σ.set S (.liter (.ref R) (i + 1))) := n_obj (ob_list hS (lo_ref hR.row) (by simp [hi]))
    have hR1 : Rw (σ.set S (.liter (.ref R) (i + 1))) R n e ks := hR.set hS rfl
    have hS1 : (σ.set S (.liter (.ref R) (i + 1)))[S]? = some (.liter (.ref R) (i + 1)) := set_hit hS
    have hg1 : (σ.set S (.liter (.ref R) (i + 1)))[g]? = some (.gen k' ρ'' .run) := by rw [List.getElem?_set_ne hSg]; exact hg
    have he := hR1.el i hi
    have here : Nx tok ks n i i := ⟨Nat.le_refl _, hi, fun t h1 h2 => by lia⟩
    by_cases c0 : ks i = 0
    · rw [c0] at he
      obtain ⟨ρ', h⟩ := sel_none hT hρ hn he hg1
      have ha : act tok (ks i) = 1 := by simp [act, c0]
      exact .inr (.inl ⟨i, here, .inl ha, ρ', by rw [ha]; exact h⟩)
    have ht : (atsK i (ks i)).lookup (Str.ofString "tag") = some (tgK (ks i)) := by
      unfold atsK
      rw [if_neg c0]
      exact l_ne (by kernel_rfl) l_hit
    by_cases c1 : selKind tok = 1 ∧ ks i = 1
    · have ha : act tok (ks i) = 2 := by unfold act; rw [if_neg c0, if_pos c1]
      have ht' := ht
      rw [show tgK (ks i) = .str (Str.ofString "") by rw [c1.2]; rfl] at ht'
      obtain ⟨ρ', h⟩ := sel_empty hT hρ c1.1 hn he ht' hg1
      exact .inr (.inl ⟨i, here, .inr ha, ρ', by rw [ha]; exact h⟩)
    obtain ⟨ρ₁, h1, h2, h3, h4⟩ := sel_step (d := d) hT hρ he ht (tag_fine c0 c1)
    cases hf : fit tok (tgK (ks i)) with
    | true =>
      have ha : act tok (ks i) = 0 := by unfold act; rw [if_neg c0, if_neg c1, if_pos hf]
      rw [hf] at h2
      exact .inl ⟨i, here, ha, ρ₁, h4, p_hit hn h1 h2 h3 hg1⟩
    | false =>
      have ha : act tok (ks i) = 3 := by unfold act; rw [if_neg c0, if_neg c1, if_neg (by rw [hf]; decide)]
      rw [hf] at h2
      have ss : ∀ o, (σ.set S (.liter (.ref R) (i + 1))).set S o = σ.set S o := fun o => List.set_set ..
      rcases pull_ok hT hSg m (i + 1) _ ρ₁ (by lia) h4 hR1 hS1 hg1 with ⟨j, x1, x2, ρ', x3, x4⟩ | ⟨j, x1, x2, ρ', x4⟩ | ⟨x1, ρ', x4⟩
      · rw [ss] at x4
        exact .inl ⟨j, x1.down ha, x2, ρ', x3, p_miss hn h1 h2 x4⟩
      · rw [ss] at x4
        exact .inr (.inl ⟨j, x1.down ha, x2, ρ', .miss hn h1 h2 x4⟩)
      · rw [ss] at x4
        refine .inr (.inr ⟨fun t y1 y2 => ?_, ρ', p_miss hn h1 h2 x4⟩)
        by_cases z : t = i
        · rw [z]; exact ha
        · exact x1 t (by lia) y2
noncomputable def Strs (σ : St) (g : Nat) (tok : Str) (S : Nat) : Prop := ∃ ρ, SelRho tok ρ ∧ (σ[g]? = some (.gen (kOf tok) ρ (.susp (.obj S))) ∨ (σ[g]? = some (.gen (kOf tok) ρ .fresh) ∧ ρ "result" = some (.ref S)))
noncomputable def Done (σ : St) (g : Nat) : Prop := ∃ k ρ, σ[g]? = some (.gen k ρ .done)
theorem selK_srcS (tag : Str) : (selK (selKind tag)).src = Str.ofString "result" := by
  rcases selKind_cases tag with q | q | q | q <;> rw [q] <;> kernel_rfl
theorem exc_stop (a : Nat) : notStop (exc a) := by
  unfold exc
  split
  · exact notStop_Attribute
  · exact notStop_Index
structure Nxt (σ : St) (S g : Nat) (o : AObj) (σ' : St) : Prop where
  s : σ'[S]? = some o
  k : ∀ k, k ≠ S → k ≠ g → σ'[k]? = σ[k]?
theorem nxt_of {σ : St} {a o b : AObj} {oS og : AObj} (hSg : S ≠ g) (hS : σ[S]? = some oS) (hg : σ[g]? = some og) : Nxt σ S g o (((σ.set g a).set S o).set g b) ∧ (((σ.set g a).set S o).set g b)[g]? = some b := by
  have h1 : (σ.set g a)[S]? = some oS := by rw [List.getElem?_set_ne (Ne.symm hSg)]; exact hS
  have h2 : ((σ.set g a).set S o)[S]? = some o := set_hit h1
  have h3 : ((σ.set g a).set S o)[g]? = some a := by rw [List.getElem?_set_ne hSg]; exact set_hit hg
  refine ⟨⟨by rw [List.getElem?_set_ne (Ne.symm hSg)]; exact h2, fun k k1 k2 => ?_⟩, set_hit h3⟩
  rw [List.getElem?_set_ne (Ne.symm k2), List.getElem?_set_ne (Ne.symm k1), List.getElem?_set_ne (Ne.symm k2)]
theorem next_ok {d i : Nat} {σ : St} (hT : SelTok tok) (hSg : S ≠ g) (hi : i ≤ n) (hR : Rw σ R n e ks) (hS : σ[S]? = some (.liter (.ref R) i)) (hg : Strs σ g tok S) :
    (∃ j σ', Nx tok ks n i j ∧ act tok (ks j) = 0 ∧ EvOb piL (d + 1) g σ (some (.ref (e j))) σ' ∧ Strs σ' g tok S ∧ Nxt σ S g (.liter (.ref R) (j + 1)) σ') ∨
    (∃ j σ', Nx tok ks n i j ∧ (act tok (ks j) = 1 ∨ act tok (ks j) = 2) ∧ EvObR piL (d + 1) g σ (exc (act tok (ks j))) σ' ∧ Done σ' g ∧ Nxt σ S g (.liter (.ref R) (j + 1)) σ') ∨
    ((∀ t, i ≤ t → t < n → act tok (ks t) = 3) ∧ ∃ σ', EvOb piL (d + 1) g σ none σ' ∧ Done σ' g ∧ Nxt σ S g .lend σ') := by
  obtain ⟨ρ, hρ, hst⟩ := hg
  have hgx : ∃ o, σ[g]? = some o ∧ fixedO o = false := by rcases hst with h | ⟨h, _⟩ <;> exact ⟨_, h, rfl⟩
  obtain ⟨o, ho, hno⟩ := hgx
  have hrun : (σ.set g (.gen (kOf tok) ρ .run))[g]? = some (.gen (kOf tok) ρ .run) := set_hit ho
  have hR' : Rw (σ.set g (.gen (kOf tok) ρ .run)) R n e ks := hR.set ho hno
  have hS' : (σ.set g (.gen (kOf tok) ρ .run))[S]? = some (.liter (.ref R) i) := by rw [List.getElem?_set_ne (Ne.symm hSg)]; exact hS
  have wake : ∀ r σ', EvP piL d (kOf tok) ρ (.obj S) g (σ.set g (.gen (kOf tok) ρ .run)) r σ' → EvOb piL (d + 1) g σ r σ' := fun r σ' h => by
    rcases hst with hs | ⟨hs, hsrc⟩
    · exact ob_susp hs h
    · exact ob_fresh hs (src := .ref S) (by rw [selK_srcS]; exact hsrc) (mk_liter hS') rfl h
  have wakeR : ∀ a σ', EvPR piL d (kOf tok) (exc a) ρ (.obj S) g (σ.set g (.gen (kOf tok) ρ .run)) σ' → EvObR piL (d + 1) g σ (exc a) σ' := fun r σ' h => by
    rcases hst with hs | ⟨hs, hsrc⟩
    · exact ob_suspR (exc_stop _) hs h
    · exact ob_freshR (exc_stop _) hs (src := .ref S) (by rw [selK_srcS]; exact hsrc) (mk_liter hS') rfl h
  rcases pull_ok (d := d) hT hSg (n - i) i _ ρ (by lia) hρ hR' hS' hrun with ⟨j, x1, x2, ρ', x3, x4⟩ | ⟨j, x1, x2, ρ', x4⟩ | ⟨x1, ρ', x4⟩
  · obtain ⟨y1, y2⟩ := nxt_of (a := .gen (kOf tok) ρ .run) (o := .liter (.ref R) (j + 1)) (b := .gen (kOf tok) ρ' (.susp (.obj S))) hSg hS ho
    exact .inl ⟨j, _, x1, x2, wake _ _ x4, ⟨ρ', x3, .inl y2⟩, y1⟩
  · obtain ⟨y1, y2⟩ := nxt_of (a := .gen (kOf tok) ρ .run) (o := .liter (.ref R) (j + 1)) (b := .gen (kOf tok) ρ' .done) hSg hS ho
    exact .inr (.inl ⟨j, _, x1, x2, wakeR _ _ x4, ⟨_, _, y2⟩, y1⟩)
  · obtain ⟨y1, y2⟩ := nxt_of (a := .gen (kOf tok) ρ .run) (o := .lend) (b := .gen (kOf tok) ρ' .done) hSg hS ho
    exact .inr (.inr ⟨x1, _, wake _ _ x4, ⟨_, _, y2⟩, y1⟩)
theorem call_selS {d : Nat} {σ : St} : EvC piL d (selV tok) [.none, .ref S] σ (.ref σ.length) (σ ++ [.gen (kOf tok) (bindAll ((kOf tok).params ++ selXs tok) ([.none, .ref S] ++ selVs tok)) .fresh]) := c_gfn (by rw [selK_params]; rfl)
theorem strs_new {σ : St} : Strs (σ ++ [.gen (kOf tok) (bindAll ((kOf tok).params ++ selXs tok) ([.none, .ref S] ++ selVs tok)) .fresh]) σ.length tok S :=
  let ⟨rn1, rn2⟩ := rho_new (tag := tok) (a := .none) (b := .ref S)
  ⟨_, rn1, .inr ⟨get_new, rn2⟩⟩
end
noncomputable def tryB : Stmt → List Stmt
  | .Try b _ _ _ _ => b
  | _ => []
noncomputable def tb : List Stmt := forB (bodyAt 2) 2
noncomputable def tI : Expr := forT (tryB (tb.getD 1 default)) 0
noncomputable def bI : List Stmt := forB (tryB (tb.getD 1 default)) 0
theorem Rw.setH {σ : St} {R n H : Nat} {e ks : Nat → Nat} {l : List AVal} {o' : AObj} (h : Rw σ R n e ks) (hH : σ[H]? = some (.list l)) (hne : H ≠ R) : Rw (σ.set H o') R n e ks :=
  ⟨by rw [List.getElem?_set_ne hne]; exact h.row, fun i hi => by
    rw [List.getElem?_set_ne fun z => by have := h.el i hi; rw [← z, hH] at this; cases this]
    exact h.el i hi⟩
theorem Rw.nxt {σ σ' : St} {R n S g : Nat} {e ks : Nat → Nat} {o oS og : AObj} (h : Rw σ R n e ks) (N : Nxt σ S g o σ') (hS : σ[S]? = some oS) (hSf : fixedO oS = false) (hg : σ[g]? = some og) (hgf : fixedO og = false) : Rw σ' R n e ks := h.keep fun i o₁ h1 h2 => by
  rw [N.k i (fun z => by rw [z, hS] at h1; cases h1; rw [h2] at hSf; cases hSf) (fun z => by rw [z, hg] at h1; cases h1; rw [h2] at hgf; cases hgf)]
  exact h1
theorem Strs.gen {σ : St} {g S : Nat} {tok : Str} (h : Strs σ g tok S) : ∃ og, σ[g]? = some og ∧ fixedO og = false := by
  obtain ⟨ρ, _, h | ⟨h, _⟩⟩ := h <;> exact ⟨_, h, rfl⟩
theorem Strs.iter {σ : St} {g S : Nat} {tok : Str} (h : Strs σ g tok S) : IterR σ (.ref g) (.obj g) := by
  obtain ⟨ρ, _, h | ⟨h, _⟩⟩ := h <;> exact mk_gen h
theorem Strs.keep {σ σ' : St} {g S : Nat} {tok : Str} (h : Strs σ g tok S) (e : σ'[g]? = σ[g]?) : Strs σ' g tok S := by unfold Strs; rw [e]; exact h
noncomputable abbrev sGiven (j : Nat) : AVal := .tup [.int (j : Int), .str (Str.ofString "given")]
theorem body_ok {d j k E H : Nat} {ρ : Vars} {σ : St} {l : List AVal} (hh : ρ "heard" = some (.ref H)) (he : ρ "elem" = some (.ref E)) (hE : σ[E]? = some (.inst (atsK j k))) (hH : σ[H]? = some (.list l)) (hl : l.length ≤ 1000) :
    EvXs piL d (kdAt 2) ρ bI σ .next ρ (σ.set H (.list (l ++ [sGiven j]))) := by
  have hr : (atsK j k).lookup (Str.ofString "root") = some (.int (j : Int)) := by
    unfold atsK
    split <;> exact l_hit
  have hi : instOf? σ (.ref E) = some (atsK j k) := by (repeat (((with_reducible apply io_ref); (focus ((repeat (assumption)); done)))))
  apply xs_cons
  · apply x_expr (by rfl)
    apply e_append (i := H) (b := sGiven j) (σ₁ := σ) (σ₂ := σ) (vs := l) (vs₀ := l)
    · constructor
    · kernel_rfl
    · (repeat (((with_reducible apply e_var); kernel_rfl; (focus ((repeat (assumption)); done)))))
    · exact hH
    · apply e_tuple (vs := [.int (j : Int), .str (Str.ofString "given")])
      · apply es_cons (by rfl) (v := .int (j : Int)) (σ₁ := σ)
        · apply e_attr
          · constructor
          · kernel_rfl
          · (repeat (((with_reducible apply e_var); kernel_rfl; (focus ((repeat (assumption)); done)))))
          · exact hi
          · exact hr
        · (repeat (first | (with_reducible first | exact es_nil | exact e_str) | ((with_reducible apply es_cons); (kernel_rfl))))
      · show 2 ≤ lim
        decide
    · exact hH
    · unfold lim; lia
  · exact xs_nil
theorem inner {d R n S g H : Nat} {tok : Str} {e ks : Nat → Nat} (hT : SelTok tok) (hSg : S ≠ g) (hHS : H ≠ S) (hHg : H ≠ g) (hHR : H ≠ R) (hn : n ≤ 200) : ∀ (m i : Nat) (σ : St) (ρ : Vars), n - i ≤ m → i ≤ n → ρ "heard" = some (.ref H) → Rw σ R n e ks → σ[S]? = some (.liter (.ref R) i) → Strs σ g tok S → σ[H]? = some (.list (due tok ks i)) →
    (∃ ρ' σ', EvF piL (d + 1) (kdAt 2) ρ tI bI (.obj g) σ .next ρ' σ' ∧ σ'[H]? = some (.list (due tok ks n)) ∧ (∀ x, x ≠ Str.ofString "elem" → ρ' x = ρ x) ∧ ∀ k, k ≠ S → k ≠ g → k ≠ H → σ'[k]? = σ[k]?) ∨
    (∃ j ρ' σ', i ≤ j ∧ j < n ∧ (act tok (ks j) = 1 ∨ act tok (ks j) = 2) ∧ EvFR piL (d + 1) (kdAt 2) ρ tI bI (.obj g) σ (exc (act tok (ks j))) ρ' σ' ∧ σ'[S]? = some (.liter (.ref R) (j + 1)) ∧ Done σ' g ∧ σ'[H]? = some (.list (due tok ks j)) ∧ (∀ x, x ≠ Str.ofString "elem" → ρ' x = ρ x) ∧ ∀ k, k ≠ S → k ≠ g → k ≠ H → σ'[k]? = σ[k]?)
  | m, i, σ, ρ, hm, hi, hh, hR, hS, hg, hH => by
    obtain ⟨og, hog, hogf⟩ := hg.gen
    rcases next_ok (d := d) hT hSg hi hR hS hg with ⟨j, σ₁, x1, x2, x3, x4, x5⟩ | ⟨j, σ₁, x1, x2, x3, x4, x5⟩ | ⟨x1, σ₁, x3, x4, x5⟩
    · have hR1 := hR.nxt x5 hS rfl hog hogf
      have hH1 : σ₁[H]? = some (.list (due tok ks i)) := by rw [x5.k H hHS hHg]; exact hH
      have hdl := due_len (tok := tok) (ks := ks) i
      have hb := body_ok (d := d + 1) (ρ := Vars.set ρ (Str.ofString "elem") (.ref (e j))) (by (focus ((repeat (assumption)); done))) v_hit (hR1.el j x1.2.1) hH1 (by lia)
      have hd : due tok ks i ++ [sGiven j] = due tok ks (j + 1) := by
        rw [due_succ, due_pass x1.1 x1.2.2, x2]; rfl
      rw [hd] at hb
      have hSb : (σ₁.set H (.list (due tok ks (j + 1))))[S]? = some (.liter (.ref R) (j + 1)) := by rw [List.getElem?_set_ne hHS]; exact x5.s
      have hgb : Strs (σ₁.set H (.list (due tok ks (j + 1)))) g tok S := x4.keep (List.getElem?_set_ne hHg)
      have hHb : (σ₁.set H (.list (due tok ks (j + 1))))[H]? = some (.list (due tok ks (j + 1))) := set_hit hH1
      have kp : ∀ k, k ≠ S → k ≠ g → k ≠ H → (σ₁.set H (.list (due tok ks (j + 1))))[k]? = σ[k]? := fun k k1 k2 k3 => by rw [List.getElem?_set_ne (Ne.symm k3), x5.k k k1 k2]
      have vp : ∀ x, x ≠ Str.ofString "elem" → Vars.set ρ (Str.ofString "elem") (.ref (e j)) x = ρ x := fun x hx => by simp only [Vars.set, if_neg hx]
      match m, hm with
      | 0, hm => exact absurd x1.2.1 (by have := x1.1; lia)
      | m + 1, hm =>
        have hlt := x1.2.1
        have hle := x1.1
        rcases inner (d := d) hT hSg hHS hHg hHR hn m (j + 1) _ (Vars.set ρ (Str.ofString "elem") (.ref (e j))) (by lia) (by lia) (by (focus ((repeat (assumption)); done))) (hR1.setH hH1 hHR) hSb hgb hHb with ⟨ρ', σ', y1, y2, y3, y4⟩ | ⟨j', ρ', σ', y0, y00, y1, y2, y3, y4, y5, y6, y7⟩
        · exact .inl ⟨ρ', σ', f_more (n_obj x3) (a_name (by kernel_rfl)) hb y1, y2, fun x hx => (y3 x hx).trans (vp x hx), fun k k1 k2 k3 => (y4 k k1 k2 k3).trans (kp k k1 k2 k3)⟩
        · exact .inr ⟨j', ρ', σ', by lia, y00, y1, fr_more (n_obj x3) (a_name (by kernel_rfl)) hb y2, y3, y4, y5, fun x hx => (y6 x hx).trans (vp x hx), fun k k1 k2 k3 => (y7 k k1 k2 k3).trans (kp k k1 k2 k3)⟩
    · exact .inr ⟨j, ρ, σ₁, x1.1, x1.2.1, x2, fr_next x3, x5.s, x4, by rw [x5.k H hHS hHg, hH, due_pass x1.1 x1.2.2], fun _ _ => rfl, fun k k1 k2 _ => x5.k k k1 k2⟩
    · exact .inl ⟨ρ, σ₁, f_end (n_objEnd x3), by rw [x5.k H hHS hHg, hH, due_pass hi x1], fun _ _ => rfl, fun k k1 k2 _ => x5.k k k1 k2⟩
structure Nh (ρ : Vars) (tok : Str) (S H : Nat) : Prop where
  sel : ρ "select" = some (selV tok)
  src : ρ "source" = some (.ref S)
  hrd : ρ "heard" = some (.ref H)
noncomputable abbrev newS (tok : Str) (S : Nat) : AObj := .gen (kOf tok) (bindAll ((kOf tok).params ++ selXs tok) ([.none, .ref S] ++ selVs tok)) .fresh
theorem new_stream {d S H : Nat} {ρ : Vars} {σ : St} {tok : Str} (N : Nh ρ tok S H) : EvX piL (d + 1) (kdAt 2) ρ (tb.getD 0 default) σ .next (Vars.set ρ (Str.ofString "stream") (.ref σ.length)) (σ ++ [newS tok S]) := by
  obtain ⟨h1, h2, h3⟩ := N
  apply x_assign (v := .ref σ.length) (σ₁ := σ ++ [newS tok S])
  · kernel_rfl
  · apply e_call (fv := selV tok) (vs := [.none, .ref S]) (σ₁ := σ) (σ₂ := σ)
    · (repeat (((with_reducible apply e_var); kernel_rfl; (focus ((repeat (assumption)); done)))))
    · (repeat (first | (with_reducible first | exact es_nil | exact e_none) | ((with_reducible apply es_cons); (kernel_rfl)) | ((with_reducible apply e_var); kernel_rfl; (focus ((repeat (assumption)); done)))))
    · exact call_selS
  · exact a_name (by kernel_rfl)
noncomputable def tryH : Stmt → List ExceptHandler
  | .Try _ h _ _ _ => h
  | _ => []
theorem hear_of {d H : Nat} {a : Nat} {ρ : Vars} {σ : St} {l : List AVal} (hh : ρ "heard" = some (.ref H)) (hH : σ[H]? = some (.list l)) (hl : l.length ≤ 1000) (ha : a = 1 ∨ a = 2) :
    EvH piL (d + 1) (kdAt 2) ρ (tryH (tb.getD 1 default)) σ (exc a) .next ρ (σ.set H (.list (l ++ (ent 0 a).toList))) := by
  rcases ha with rfl | rfl
  · apply h_miss (T := "IndexError")
    · kernel_rfl
    · exact g_IndexError
    · decide +kernel
    · decide +kernel
    · decide +kernel
    apply h_hit (T := "AttributeError")
    · kernel_rfl
    · exact g_AttributeError
    · decide +kernel
    · decide +kernel
    · decide +kernel
    · apply xm_expr (by rfl) (v := .none) (σ₁ := σ.set H (.list (l ++ [.tup [.int (-1), .str (Str.ofString "nameless")]])))
      · apply em_append (i := H) (a := .int (-1)) (b := .str (Str.ofString "nameless"))
        · constructor
        · kernel_rfl
        · rfl
        · rfl
        · apply em_var
          · kernel_rfl
          · exact hh
        · apply em_neg
          exact em_int
        · exact em_str
        · exact hH
        · unfold lim; lia
      · exact xm_nil
  · apply h_hit (T := "IndexError")
    · kernel_rfl
    · exact g_IndexError
    · decide +kernel
    · decide +kernel
    · decide +kernel
    · apply xm_expr (by rfl) (v := .none) (σ₁ := σ.set H (.list (l ++ [.tup [.int (-1), .str (Str.ofString "empty")]])))
      · apply em_append (i := H) (a := .int (-1)) (b := .str (Str.ofString "empty"))
        · constructor
        · kernel_rfl
        · rfl
        · rfl
        · apply em_var
          · kernel_rfl
          · exact hh
        · apply em_neg
          exact em_int
        · exact em_str
        · exact hH
        · unfold lim; lia
      · exact xm_nil
theorem ent_away {i a : Nat} (ha : a = 1 ∨ a = 2) : ent i a = ent 0 a := by rcases ha with rfl | rfl <;> rfl
theorem done_ok {d g : Nat} {ρ : Vars} {σ : St} (hs : ρ "stream" = some (.ref g)) (hg : Done σ g) : EvX piL (d + 1) (kdAt 2) ρ (tb.getD 2 default) σ .next ρ σ := by
  obtain ⟨k, ρ', hg⟩ := hg
  apply x_ifF
  · apply t_cmp (by rfl) (a := .none) (b := .none) (σ₁ := σ)
    · apply e_call (fv := .bi "next") (vs := [.ref g, .none]) (σ₁ := σ) (σ₂ := σ)
      · (repeat (((with_reducible apply e_glob); kernel_rfl; (exact g_next))))
      · (repeat (first | (with_reducible first | exact es_nil | exact e_none) | ((with_reducible apply es_cons); (kernel_rfl)) | ((with_reducible apply e_var); kernel_rfl; (focus ((repeat (assumption)); done)))))
      · exact c_nextEnd (ob_done hg)
    · exact e_none
    · exact c_inNN
  · exact xs_nil
theorem turn_ok {d R n S H i : Nat} {tok : Str} {e ks : Nat → Nat} {σ : St} {ρ : Vars} (hT : SelTok tok) (hHS : H ≠ S) (hHR : H ≠ R) (hn : n ≤ 200) (hi : i ≤ n) (N : Nh ρ tok S H) (hR : Rw σ R n e ks) (hS : σ[S]? = some (.liter (.ref R) i)) (hH : σ[H]? = some (.list (due tok ks i))) :
    (∃ ρ' σ', EvXsF piL (d + 1) (kdAt 2) ρ tb σ (.ret (.ref H)) ρ' σ' ∧ σ'[H]? = some (.list (due tok ks n)) ∧ ∀ k, k < σ.length → k ≠ S → k ≠ H → σ'[k]? = σ[k]?) ∨
    (∃ j ρ' σ', i ≤ j ∧ j < n ∧ EvXsF piL (d + 1) (kdAt 2) ρ tb σ .next ρ' σ' ∧ σ'[S]? = some (.liter (.ref R) (j + 1)) ∧ σ'[H]? = some (.list (due tok ks (j + 1))) ∧ Nh ρ' tok S H ∧ σ.length ≤ σ'.length ∧ ∀ k, k < σ.length → k ≠ S → k ≠ H → σ'[k]? = σ[k]?) := by
  have hx := new_stream (d := d) (σ := σ) N
  obtain ⟨h1, h2, h3⟩ := N
  have lS := lt_get hS
  have lH := lt_get hH
  have hE := inner (d := d) (g := σ.length) (H := H) (ks := ks) (σ := σ ++ [newS tok S]) hT (by lia) hHS (by lia) hHR hn (n - i) i (ρ := Vars.set ρ (Str.ofString "stream") (.ref σ.length)) (Nat.le_refl _) hi (by (focus ((repeat (assumption)); done))) (hR.keep fun i o h _ => get_old h) (get_old hS) strs_new (get_old hH)
  have hst : Strs (σ ++ [newS tok S]) σ.length tok S := strs_new
  have hit := hst.iter
  have vs : Vars.set ρ (Str.ofString "stream") (.ref σ.length) "stream" = some (.ref σ.length) := v_hit
  have kp : ∀ {σ' : St}, (∀ k, k ≠ S → k ≠ σ.length → k ≠ H → σ'[k]? = (σ ++ [newS tok S])[k]?) → ∀ k, k < σ.length → k ≠ S → k ≠ H → σ'[k]? = σ[k]? := fun h k k1 k2 k3 => by
    rw [h k k2 (by lia) k3, List.getElem?_append_left k1]
  rcases hE with ⟨ρ', σ', y1, y2, y3, y4⟩ | ⟨j, ρ', σ', y0, y00, y1, y2, y3, y4, y5, y6, y7⟩
  · refine .inl ⟨ρ', σ', ?_, y2, kp y4⟩
    have hh' : ρ' "heard" = some (.ref H) := by
      rw [y3 _ (by decide +kernel)]
      (focus ((repeat (assumption)); done))
    apply xsf_cons
    · exact xf_of hx
    apply xsf_ret
    apply xf_of
    apply x_tryRet
    apply xs_cons
    · apply x_for (v := .ref σ.length) (σ₁ := σ ++ [newS tok S])
      · rfl
      · (repeat (((with_reducible apply e_var); kernel_rfl; (focus ((repeat (assumption)); done)))))
      · exact hit
      · exact lk_name
      · exact y1
    · (repeat (first | (with_reducible (apply xs_ret; apply x_return)) | ((with_reducible apply e_var); kernel_rfl; (focus ((repeat (assumption)); done)))))
  · have t2 := hear_of (d := d) (ρ := ρ') (σ := σ') (by
      rw [y6 _ (by decide +kernel)]
      (focus ((repeat (assumption)); done))) y5 (by have := due_len (tok := tok) (ks := ks) j; lia) y1
    have vs' : ρ' "stream" = some (.ref σ.length) := by
      rw [y6 _ (by decide +kernel)]
      exact v_hit
    have hd : due tok ks j ++ (ent 0 (act tok (ks j))).toList = due tok ks (j + 1) := by rw [due_succ, ent_away (i := j) y1]
    rw [hd] at t2
    have hH' : (σ'.set H (.list (due tok ks (j + 1))))[H]? = some (.list (due tok ks (j + 1))) := set_hit y5
    have hg' : Done (σ'.set H (.list (due tok ks (j + 1)))) σ.length := by
      obtain ⟨k, r, z⟩ := y4
      exact ⟨k, r, by rw [List.getElem?_set_ne (by lia)]; exact z⟩
    have lg : σ.length < σ'.length := by
      obtain ⟨k, r, z⟩ := y4
      exact lt_get z
    refine .inr ⟨j, ρ', σ'.set H (.list (due tok ks (j + 1))), y0, y00, ?_, by rw [List.getElem?_set_ne hHS]; exact y3, hH', ⟨?_, ?_, ?_⟩, by rw [List.length_set]; lia, fun k k1 k2 k3 => by rw [List.getElem?_set_ne (Ne.symm k3)]; exact kp y7 k k1 k2 k3⟩
    · apply xsf_cons
      · exact xf_of hx
      apply xsf_cons (ρ₁ := ρ') (σ₁ := σ'.set H (.list (due tok ks (j + 1))))
      · apply xf_tryR (X := exc (act tok (ks j))) (ρ₁ := ρ') (σ₁ := σ')
        · apply xsr_here
          apply xr_for (v := .ref σ.length) (σ₁ := σ ++ [newS tok S])
          · rfl
          · (repeat (((with_reducible apply e_var); kernel_rfl; (focus ((repeat (assumption)); done)))))
          · exact hit
          · exact lk_name
          · exact y2
        · exact t2
      · apply xsf_cons
        · exact xf_of (done_ok vs' hg')
        · exact xsf_of xs_nil
    · rw [y6 _ (by decide +kernel)]; (focus ((repeat (assumption)); done))
    · rw [y6 _ (by decide +kernel)]; (focus ((repeat (assumption)); done))
    · rw [y6 _ (by decide +kernel)]; (focus ((repeat (assumption)); done))
noncomputable abbrev natV (k : Nat) : AVal := .int (k : Int)
noncomputable abbrev five : AObj := .list [.str (Str.ofString ""), .none, .str (Str.ofString "a"), .str (Str.ofString "{u}a"), .str (Str.ofString "{u}")]
theorem kind_at {d N i k : Nat} {kl : List Nat} {σ : St} {ρ : Vars} {kd : Kinds} {p1 p2 p3 : Pos} (h0 : (nmOk "kinds" && Kinds.isVar kd "kinds") = true) (h0' : (nmOk "k" && Kinds.isVar kd "k") = true) (h1 : ρ "kinds" = some (.ref N)) (h2 : ρ "k" = some (.int (i : Int))) (h3 : σ[N]? = some (.list (kl.map natV))) (hi : kl[i]? = some k) (hl : i ≤ 1000) :
    EvE piL d kd ρ (.Subscript (.Name "kinds" p1) (.Name "k" p2) p3) σ (natV k) σ := by
  apply e_item (a := .ref N) (b := .int (i : Int)) (σ₁ := σ)
  · exact e_var h0 h1
  · exact e_var h0' h2
  · exact it_list (lo_ref h3) (by lia) (by rw [Int.toNat_natCast, List.getElem?_map, hi]; rfl) (by lia)
theorem row_step {d N R i k : Nat} {kl : List Nat} {σ : St} {ρ : Vars} {es : List Nat} (hi : i ≤ 1000) (hget : kl[i]? = some k) (hk : k < 6) (hes : es.length ≤ 1000)
    (h1 : ρ "kinds" = some (.ref N)) (h2 : ρ "row" = some (.ref R)) (h3 : σ[N]? = some (.list (kl.map natV))) (h4 : σ[R]? = some (.list (es.map .ref))) :
    ∃ ρ₂ σ₃, EvXs piL (d + 3) (kdAt 1) (Vars.set ρ "k" (.int (i : Int))) (forB (bodyAt 1) 1) σ .next ρ₂ σ₃ ∧ ρ₂ "kinds" = some (.ref N) ∧ ρ₂ "row" = some (.ref R) ∧ σ₃[R]? = some (.list (es.map .ref ++ [.ref σ.length])) ∧ σ₃[σ.length]? = some (.inst (atsK i k)) ∧
      (∀ j o, j ≠ R → σ[j]? = some o → σ₃[j]? = some o) := by
  have hr := ne_new h4
  have z : (es.map AVal.ref).length ≤ lim := by simp [lim]; lia
  have q1 : ∀ {τ : St} {ρ' : Vars} {kd : Kinds} {p1 p2 p3 : Pos}, (nmOk "kinds" && Kinds.isVar kd "kinds") = true → (nmOk "k" && Kinds.isVar kd "k") = true → ρ' "kinds" = some (.ref N) → ρ' "k" = some (.int (i : Int)) → τ[N]? = some (.list (kl.map natV)) → EvE piL (d + 3) kd ρ' (.Subscript (.Name "kinds" p1) (.Name "k" p2) p3) τ (natV k) τ := fun a b c1 c2 c3 => kind_at a b c1 c2 c3 hget hi
  by_cases c0 : k = 0
  · subst c0
    refine ⟨Vars.set (Vars.set ρ "k" (.int (i : Int))) "elem" (.ref σ.length), (σ ++ [AObj.inst [("root", AVal.int (i : Int))]]).set R (AObj.list (es.map AVal.ref ++ [AVal.ref σ.length])), ?_, ?_, ?_, ?_, ?_, ?_⟩
    · apply xs_cons (σ₁ := σ ++ [AObj.inst [("root", AVal.int (i : Int))]])
      · (repeat (first | (with_reducible first | exact es_nil | apply e_call) | ((with_reducible apply es_cons); (kernel_rfl)) | ((with_reducible apply e_var); kernel_rfl; (focus ((repeat (first | (with_reducible exact v_hit) | ((with_reducible apply v_ne); kernel_rfl))); done))) | ((with_reducible apply e_glob); kernel_rfl; (exact g_cls)) | ((with_reducible first | apply x_assign | apply a_name); kernel_rfl) | (((with_reducible apply cls_ok); rfl))))
      apply xs_cons (σ₁ := σ ++ [AObj.inst [("root", AVal.int (i : Int))]])
      · apply x_ifF
        · apply t_cmp (by rfl) (a := natV 0) (b := .int 0)
          · apply q1
            · kernel_rfl
            · kernel_rfl
            · (focus ((repeat (assumption)); done))
            · (focus ((repeat (first | (with_reducible exact v_hit) | ((with_reducible apply v_ne); kernel_rfl))); done))
            · exact get_old h3
          · exact e_int
          · exact c_gt (by decide)
        · exact xs_nil
      · (repeat (first | (with_reducible first | exact xs_nil | apply xs_cons) | ((with_reducible apply e_var); kernel_rfl; (focus ((repeat (first | assumption | (with_reducible exact v_hit))); done))) | ((with_reducible apply e_append); constructor; kernel_rfl) | ((with_reducible apply x_expr); rfl) | (focus ((repeat (assumption)); done)) | (focus ((repeat (first | assumption | (with_reducible apply get_old))); done))))
    · (focus ((repeat (assumption)); done))
    · (focus ((repeat (assumption)); done))
    · (focus ((repeat (first | assumption | (with_reducible first | apply set_hit | apply get_old))); done))
    · show _ = some (AObj.inst [(Str.ofString "root", AVal.int (i : Int))])
      (focus ((repeat (first | assumption | (with_reducible exact get_new) | (with_reducible apply set_ne))); done))
    · intro j o hj ho
      have := ne_new ho
      (focus ((repeat (first | assumption | (with_reducible apply get_old) | (with_reducible apply set_ne) | ((with_reducible apply Ne.symm); assumption))); done))
  · have ha : atsK i k = putAt "tag" (tgK k) [("root", .int (i : Int))] := by unfold atsK; rw [if_neg c0]; exact put_tag.symm
    have hnb : notBi (tgK k) = true := by
      obtain rfl | rfl | rfl | rfl | rfl : k = 1 ∨ k = 2 ∨ k = 3 ∨ k = 4 ∨ k = 5 := by lia
      all_goals rfl
    have hitem : ∀ {τ : St}, ItemR (τ ++ [five]) (.ref τ.length) (.int ((k : Int) - 1)) (tgK k) := by
      intro τ
      obtain rfl | rfl | rfl | rfl | rfl : k = 1 ∨ k = 2 ∨ k = 3 ∨ k = 4 ∨ k = 5 := by lia
      all_goals exact it_list (lo_ref get_new) (by decide) rfl (by decide)
    have hl1 : (σ ++ [AObj.inst [("root", AVal.int (i : Int))]]).length = σ.length + 1 := by simp
    refine ⟨Vars.set (Vars.set ρ "k" (.int (i : Int))) "elem" (.ref σ.length), ((σ ++ [AObj.inst [("root", AVal.int (i : Int))]] ++ [five]).set σ.length (AObj.inst (putAt "tag" (tgK k) [("root", AVal.int (i : Int))]))).set R (AObj.list (es.map AVal.ref ++ [AVal.ref σ.length])), ?_, ?_, ?_, ?_, ?_, ?_⟩
    · apply xs_cons (σ₁ := σ ++ [AObj.inst [("root", AVal.int (i : Int))]])
      · (repeat (first | (with_reducible first | exact es_nil | apply e_call) | ((with_reducible apply es_cons); (kernel_rfl)) | ((with_reducible apply e_var); kernel_rfl; (focus ((repeat (first | (with_reducible exact v_hit) | ((with_reducible apply v_ne); kernel_rfl))); done))) | ((with_reducible apply e_glob); kernel_rfl; (exact g_cls)) | ((with_reducible first | apply x_assign | apply a_name); kernel_rfl) | (((with_reducible apply cls_ok); rfl))))
      apply xs_cons (σ₁ := (σ ++ [AObj.inst [("root", AVal.int (i : Int))]] ++ [five]).set σ.length (AObj.inst (putAt "tag" (tgK k) [("root", AVal.int (i : Int))])))
      · apply x_ifT (σ₁ := σ ++ [AObj.inst [("root", AVal.int (i : Int))]])
        · apply t_cmp (by rfl) (a := natV k) (b := .int 0) (σ₁ := σ ++ [AObj.inst [("root", AVal.int (i : Int))]])
          · apply q1
            · kernel_rfl
            · kernel_rfl
            · (focus ((repeat (assumption)); done))
            · (focus ((repeat (first | (with_reducible exact v_hit) | ((with_reducible apply v_ne); kernel_rfl))); done))
            · exact get_old h3
          · exact e_int
          · exact c_gt (decide_eq_true (by lia))
        · apply xs_cons
          · apply x_assign (v := tgK k) (σ₁ := σ ++ [AObj.inst [("root", AVal.int (i : Int))]] ++ [five])
            · kernel_rfl
            · apply e_item (a := .ref (σ ++ [AObj.inst [("root", AVal.int (i : Int))]]).length) (b := .int ((k : Int) - 1)) (σ₁ := σ ++ [AObj.inst [("root", AVal.int (i : Int))]] ++ [five])
              · (repeat (first | (with_reducible first | exact es_nil | exact e_str | exact e_none | apply e_list) | ((with_reducible apply es_cons); (kernel_rfl)) | (decide)))
              · apply e_binop (a := natV k) (b := .int 1) (σ₁ := σ ++ [AObj.inst [("root", AVal.int (i : Int))]] ++ [five])
                · apply q1
                  · kernel_rfl
                  · kernel_rfl
                  · (focus ((repeat (assumption)); done))
                  · (focus ((repeat (first | (with_reducible exact v_hit) | ((with_reducible apply v_ne); kernel_rfl))); done))
                  · exact get_old (get_old h3)
                · exact e_int
                · exact bo_sub
              · exact hitem
            · apply a_attr
              · rw [hnb]; kernel_rfl
              · (repeat (((with_reducible apply e_var); kernel_rfl; (focus ((repeat ((with_reducible exact v_hit))); done)))))
              · (focus ((repeat (first | (with_reducible exact get_new) | (with_reducible apply get_old))); done))
              · exact (by decide : 1 ≤ 10)
          · exact xs_nil
      · (repeat (first | (with_reducible first | exact xs_nil | apply xs_cons) | ((with_reducible apply e_var); kernel_rfl; (focus ((repeat (first | assumption | (with_reducible exact v_hit))); done))) | ((with_reducible apply e_append); constructor; kernel_rfl) | ((with_reducible apply x_expr); rfl) | (focus ((repeat (assumption)); done)) | (focus ((repeat (first | assumption | (with_reducible apply get_old) | (with_reducible apply set_ne) | ((with_reducible apply Ne.symm); assumption))); done))))
    · (focus ((repeat (assumption)); done))
    · (focus ((repeat (assumption)); done))
    · (focus ((repeat (first | assumption | (with_reducible first | apply set_hit | apply get_old) | (with_reducible apply set_ne) | ((with_reducible apply Ne.symm); assumption))); done))
    · rw [ha]
      (focus ((repeat (first | assumption | (with_reducible exact get_new) | (with_reducible first | apply set_hit | apply get_old) | (with_reducible apply set_ne))); done))
    · intro j o hj ho
      have := ne_new ho
      (focus ((repeat (first | assumption | (with_reducible apply get_old) | (with_reducible apply set_ne) | ((with_reducible apply Ne.symm); assumption))); done))
structure Rl (σ : St) (R : Nat) (es kl : List Nat) : Prop where
  row : σ[R]? = some (.list (es.map .ref))
  el : ∀ (i e k : Nat), es[i]? = some e → kl[i]? = some k → σ[e]? = some (.inst (atsK i k))
theorem row_loop {d N R : Nat} {kl : List Nat} (hk : ∀ k ∈ kl, k < 6) (hl : kl.length ≤ 1000) (hNR : N ≠ R) : ∀ (m : Nat) (done rest : List Nat) (σ : St) (ρ : Vars) (es : List Nat), rest.length = m → kl = done ++ rest →
    ρ "kinds" = some (.ref N) → ρ "row" = some (.ref R) → σ[N]? = some (.list (kl.map natV)) → es.length = done.length → Rl σ R es kl →
    ∃ ρ' σ' es', EvF piL (d + 3) (kdAt 1) ρ (forT (bodyAt 1) 1) (forB (bodyAt 1) 1) (.rng done.length m 1) σ .next ρ' σ' ∧ ρ' "row" = some (.ref R) ∧ es'.length = kl.length ∧ Rl σ' R es' kl ∧ (∀ i o, i ≠ R → σ[i]? = some o → σ'[i]? = some o)
  | 0, done, rest, σ, ρ, es, hr, hks, h1, h2, h3, hes, hR => by
    have : rest = [] := List.length_eq_zero_iff.mp hr
    subst this
    rw [List.append_nil] at hks
    exact ⟨ρ, σ, es, f_end (n_rngEnd (by decide)), h2, by rw [hes, hks], hR, fun _ _ _ e => e⟩
  | m + 1, done, [], σ, ρ, es, hr, hks, h1, h2, h3, hes, hR => by cases hr
  | m + 1, done, k :: rest, σ, ρ, es, hr, hks, h1, h2, h3, hes, hR => by
    have hkk := hk k (by rw [hks]; simp)
    have hlen : done.length ≤ 1000 := by rw [hks] at hl; simp at hl; lia
    have hget : kl[done.length]? = some k := by rw [hks]; simp
    obtain ⟨ρ₂, σ₃, s1, s2, s3, s4, s5, s6⟩ := row_step (d := d) hlen hget hkk (by lia) h1 h2 h3 hR.row
    have hR' : Rl σ₃ R (es ++ [σ.length]) kl := by
      refine ⟨by simpa using s4, fun i e q he hq => ?_⟩
      by_cases hi : i < es.length
      · rw [List.getElem?_append_left hi] at he
        have h0 := hR.el i e q he hq
        exact s6 e _ (fun z => by rw [z, hR.row] at h0; cases h0) h0
      · have hi2 : i = es.length := by
          have := (List.getElem?_eq_some_iff.mp he).1
          simp at this; lia
        subst hi2
        simp at he
        subst he
        rw [hes] at hq ⊢
        rw [hget] at hq
        cases hq
        exact s5
    obtain ⟨ρ', σ', es', e1, e2, e3, e4, e5⟩ := row_loop (d := d) hk hl hNR m (done ++ [k]) rest σ₃ ρ₂ (es ++ [σ.length]) (by simpa using hr) (by simpa using hks) s2 s3 (s6 _ _ hNR h3) (by simp [hes]) hR'
    refine ⟨ρ', σ', es', f_more (n_rng (by lia)) (a_name (by kernel_rfl)) s1 ?_, e2, e3, e4, fun i o hi ho => e5 i o hi (s6 i o hi ho)⟩
    have : ((m + 1 : Nat) : Int) - 1 = m := by lia
    rw [this]
    simpa using e1
theorem row_ok {d N : Nat} {kl : List Nat} {σ : St} (hk : ∀ k ∈ kl, k < 6) (hl : kl.length ≤ 1000) (h3 : σ[N]? = some (.list (kl.map natV))) :
    ∃ σ' e, EvC piL (d + 4) (.fn "_law_row") [.ref N] σ (.ref σ.length) σ' ∧ Rw σ' σ.length kl.length e (fun i => kl.getD i 0) ∧ (∀ (i : Nat) o, σ[i]? = some o → σ'[i]? = some o) := by
  have hlo : kl.length ≤ lim := by unfold lim; lia
  obtain ⟨ρ', σ', es', e1, e2, e3, e4, e5⟩ := row_loop (d := d) (N := N) (R := σ.length) hk hl (ne_new h3) kl.length [] kl (σ ++ [.list []]) (Vars.set (bindAll ["kinds"] [.ref N]) "row" (.ref σ.length)) [] rfl rfl (by (focus ((repeat (first | (with_reducible exact b_hit) | ((with_reducible apply v_ne); kernel_rfl))); done))) (by (focus ((repeat ((with_reducible exact v_hit))); done))) (get_old h3) rfl ⟨get_new, fun i e k h => by simp at h⟩
  have hes : (List.range kl.length).map (fun i => AVal.ref (es'.getD i 0)) = es'.map .ref := by
    rw [← e3]
    refine List.ext_getElem? fun i => ?_
    by_cases h : i < es'.length
    · simp [h]
    · simp [h]
  refine ⟨σ', fun i => es'.getD i 0, ?_, ⟨by rw [hes]; exact e4.row, fun i hi => ?_⟩, fun i o ho => e5 i o (ne_new ho) (get_old ho)⟩
  · apply c_fn f_l_row (by kernel_rfl) rfl
    apply xs_cons
    · (repeat (first | (with_reducible first | exact es_nil | apply e_list) | ((with_reducible first | apply x_assign | apply a_name); kernel_rfl) | (decide)))
    apply xs_cons
    · apply x_for (v := .rng 0 (kl.length : Int) 1) (σ₁ := σ ++ [.list []])
      · rfl
      · apply e_call (fv := .ty "range") (vs := [.int (kl.length : Int)]) (σ₁ := σ ++ [.list []]) (σ₂ := σ ++ [.list []])
        · (repeat (((with_reducible apply e_glob); kernel_rfl; (exact g_range))))
        · apply es_cons (by rfl) (v := .int (kl.length : Int)) (σ₁ := σ ++ [.list []])
          · have hx : ((kl.map natV).length : Int) = (kl.length : Int) := by simp
            rw [← hx]
            apply e_call (fv := .bi "len") (vs := [.ref N]) (σ₁ := σ ++ [.list []]) (σ₂ := σ ++ [.list []])
            · (repeat (((with_reducible apply e_glob); kernel_rfl; (exact g_len))))
            · (repeat (first | (with_reducible exact es_nil) | ((with_reducible apply es_cons); (kernel_rfl)) | ((with_reducible apply e_var); kernel_rfl; (focus ((repeat (first | (with_reducible exact b_hit) | ((with_reducible apply v_ne); kernel_rfl))); done)))))
            · apply c_lenList
              · exact lo_ref (get_old h3)
              · rw [List.length_map]; exact hlo
          · exact es_nil
        · exact c_range1
      · exact mk_rng1 (by lia)
      · exact lk_name
      · have : (kl.length : Int) - 0 = kl.length := by simp
        rw [this]
        exact e1
    · apply xs_ret
      apply x_return
      (repeat (((with_reducible apply e_var); kernel_rfl; (focus ((repeat (assumption)); done)))))
  · have h1 : i < es'.length := by lia
    have q1 : es'[i]? = some (es'.getD i 0) := by simp [h1]
    have q2 : kl[i]? = some (kl.getD i 0) := by simp [hi]
    exact e4.el i _ _ q1 q2
theorem turns {d R n S H L0 : Nat} {tok : Str} {e ks : Nat → Nat} (hT : SelTok tok) (hHS : H ≠ S) (hHR : H ≠ R) (hn : n ≤ 200) : ∀ (m i : Nat) (x l : Int) (σ : St) (ρ : Vars), n - i ≤ m → i ≤ n → (n : Int) - i + 1 ≤ l → L0 ≤ σ.length → Nh ρ tok S H → Rw σ R n e ks → σ[S]? = some (.liter (.ref R) i) → σ[H]? = some (.list (due tok ks i)) → (∀ i, i < n → e i < L0) → R < L0 → S ≠ R → (∀ i, i < n → e i ≠ S ∧ e i ≠ H) →
    ∃ ρ' σ', EvFF piL (d + 1) (kdAt 2) ρ (forT (bodyAt 2) 2) tb (.rng x l 1) σ (.ret (.ref H)) ρ' σ' ∧ σ'[H]? = some (.list (due tok ks n)) ∧ ∀ k, k < L0 → k ≠ S → k ≠ H → σ'[k]? = σ[k]?
  | m, i, x, l, σ, ρ, hm, hi, hl, hL, N, hR, hS, hH, he, hRL, hSR, hes => by
    have N1 : Nh (Vars.set ρ (Str.ofString "turn") (.int x)) tok S H := by
      obtain ⟨h1, h2, h3⟩ := N
      exact ⟨by (focus ((repeat (assumption)); done)), by (focus ((repeat (assumption)); done)), by (focus ((repeat (assumption)); done))⟩
    rcases turn_ok (d := d) hT hHS hHR hn hi N1 hR hS hH with ⟨ρ', σ', y1, y2, y3⟩ | ⟨j, ρ', σ', y0, y00, y1, y2, y3, y4, y5, y6⟩
    · exact ⟨ρ', σ', ff_ret (n_rng (by lia)) (a_name (by kernel_rfl)) y1, y2, fun k k1 k2 k3 => y3 k (by lia) k2 k3⟩
    · have hR' : Rw σ' R n e ks := ⟨by rw [y6 R (by lia) (Ne.symm hSR) (Ne.symm hHR)]; exact hR.row, fun i hi => by rw [y6 (e i) (by have := he i hi; lia) (hes i hi).1 (hes i hi).2]; exact hR.el i hi⟩
      match m, hm with
      | 0, hm => exact absurd y00 (by lia)
      | m + 1, hm =>
        obtain ⟨ρ₂, σ₂, z1, z2, z3⟩ := turns (d := d) (L0 := L0) hT hHS hHR hn m (j + 1) (x + 1) (l - 1) σ' ρ' (by lia) (by lia) (by lia) (by lia) y4 hR' y2 y3 he hRL hSR hes
        exact ⟨ρ₂, σ₂, ff_more (n_rng (by lia)) (a_name (by kernel_rfl)) y1 z1, z2, fun k k1 k2 k3 => (z3 k k1 k2 k3).trans (y6 k (by lia) k2 k3)⟩
theorem heard_ok {d R n : Nat} {tok : Str} {e ks : Nat → Nat} {σ : St} (hT : SelTok tok) (hn : n ≤ 200) (hR : Rw σ R n e ks) :
    ∃ σ', EvCF piL (d + 2) (.fn "_law_heard") [selV tok, .ref R] σ (.ref (σ.length + 1)) σ' ∧ σ'[σ.length + 1]? = some (.list (due tok ks n)) ∧ ∀ k, k < σ.length → σ'[k]? = σ[k]? := by
  have lR := lt_get hR.row
  have le : ∀ i, i < n → e i < σ.length := fun i hi => lt_get (hR.el i hi)
  have hl1 : (σ ++ [AObj.liter (.ref R) 0]).length = σ.length + 1 := by simp
  have hl2 : (σ ++ [AObj.liter (.ref R) 0] ++ [AObj.list []]).length = σ.length + 2 := by simp
  have hR2 : Rw (σ ++ [AObj.liter (.ref R) 0] ++ [AObj.list []]) R n e ks := hR.keep fun i o h _ => get_old (get_old h)
  have hS2 : (σ ++ [AObj.liter (.ref R) 0] ++ [AObj.list []])[σ.length]? = some (.liter (.ref R) 0) := get_old get_new
  have hH2 : (σ ++ [AObj.liter (.ref R) 0] ++ [AObj.list []])[σ.length + 1]? = some (.list (due tok ks 0)) := by rw [← hl1]; exact get_new
  have N : Nh (Vars.set (Vars.set (bindAll ["select", "row"] [selV tok, .ref R]) "source" (.ref σ.length)) "heard" (.ref (σ.length + 1))) tok σ.length (σ.length + 1) := ⟨by (focus ((repeat (first | (with_reducible exact b_hit) | ((with_reducible apply v_ne); kernel_rfl))); done)), by (focus ((repeat (first | (with_reducible exact v_hit) | ((with_reducible apply v_ne); kernel_rfl))); done)), by (focus ((repeat ((with_reducible exact v_hit))); done))⟩
  obtain ⟨ρ', σ', y1, y2, y3⟩ := turns (d := d) (L0 := σ.length) hT (S := σ.length) (H := σ.length + 1) (by lia) (by lia) hn n 0 0 ((n : Int) + 1) (σ ++ [AObj.liter (.ref R) 0] ++ [AObj.list []]) _ (by lia) (by lia) (by lia) (by lia) N hR2 hS2 hH2 le lR (by lia) fun i hi => by have := le i hi; lia
  refine ⟨σ', ?_, y2, fun k hk => ?_⟩
  · apply c_fnF f_l_heard rfl
    apply xsf_cons
    · apply xf_of
      apply x_assign (v := .ref σ.length) (σ₁ := σ ++ [AObj.liter (.ref R) 0])
      · kernel_rfl
      · apply e_call (fv := .bi "iter") (vs := [.ref R]) (σ₁ := σ) (σ₂ := σ)
        · (repeat (((with_reducible apply e_glob); kernel_rfl; (exact g_iter))))
        · (repeat (first | (with_reducible exact es_nil) | ((with_reducible apply es_cons); (kernel_rfl)) | ((with_reducible apply e_var); kernel_rfl; (focus ((repeat (first | (with_reducible exact b_hit) | ((with_reducible apply b_ne); kernel_rfl))); done)))))
        · exact c_iter hR.row
      · exact a_name (by kernel_rfl)
    apply xsf_cons
    · apply xf_of
      apply x_assign (v := .ref (σ ++ [AObj.liter (.ref R) 0]).length) (σ₁ := σ ++ [AObj.liter (.ref R) 0] ++ [AObj.list []])
      · kernel_rfl
      · (repeat (first | (with_reducible first | exact es_nil | apply e_list) | (decide)))
      · exact a_name (by kernel_rfl)
    rw [hl1]
    apply xsf_ret
    apply xf_for (v := .rng 0 ((n : Int) + 1) 1) (σ₁ := σ ++ [AObj.liter (.ref R) 0] ++ [AObj.list []])
    · rfl
    · apply e_call (fv := .ty "range") (vs := [.int ((n : Int) + 1)]) (σ₁ := σ ++ [AObj.liter (.ref R) 0] ++ [AObj.list []]) (σ₂ := σ ++ [AObj.liter (.ref R) 0] ++ [AObj.list []])
      · (repeat (((with_reducible apply e_glob); kernel_rfl; (exact g_range))))
      · apply es_cons (by rfl) (v := .int ((n : Int) + 1)) (σ₁ := σ ++ [AObj.liter (.ref R) 0] ++ [AObj.list []])
        · apply e_binop (a := .int (n : Int)) (b := .int 1) (σ₁ := σ ++ [AObj.liter (.ref R) 0] ++ [AObj.list []])
          · have hx : ((((List.range n).map fun i => AVal.ref (e i))).length : Int) = (n : Int) := by simp
            rw [← hx]
            apply e_call (fv := .bi "len") (vs := [.ref R]) (σ₁ := σ ++ [AObj.liter (.ref R) 0] ++ [AObj.list []]) (σ₂ := σ ++ [AObj.liter (.ref R) 0] ++ [AObj.list []])
            · (repeat (((with_reducible apply e_glob); kernel_rfl; (exact g_len))))
            · (repeat (first | (with_reducible exact es_nil) | ((with_reducible apply es_cons); (kernel_rfl)) | ((with_reducible apply e_var); kernel_rfl; (focus ((repeat (first | (with_reducible exact b_hit) | ((with_reducible first | apply v_ne | apply b_ne); kernel_rfl))); done)))))
            · apply c_lenList
              · exact lo_ref hR2.row
              · simp [lim]; lia
          · exact e_int
          · exact bo_add
        · exact es_nil
      · exact c_range1
    · exact mk_rng1 (by lia)
    · exact lk_name
    · have : (n : Int) + 1 - 0 = (n : Int) + 1 := by lia
      rw [this]
      exact y1
  · rw [y3 k hk (by lia) (by lia), List.getElem?_append_left (by rw [hl1]; lia), List.getElem?_append_left hk]
noncomputable def KV : List (Str × Str) := [(Str.ofString "{*}*", Str.ofString "!+-+++"), (Str.ofString "{}*", Str.ofString "!0-+--"), (Str.ofString "{*}a", Str.ofString "!--++-"), (Str.ofString "{u}*", Str.ofString "!---++"), (Str.ofString "{*}", Str.ofString "!+---+"), (Str.ofString "{*}{u}", Str.ofString "!----+")]
noncomputable def chk (q : Str × Str) (k : Nat) : Bool := match q.2.cps[k]? with
  | some ch => ((⟨#[ch]⟩ : Str) == Str.ofString "+") == decide (act q.1 k = 0) && ((⟨#[ch]⟩ : Str) == Str.ofString "!") == decide (act q.1 k = 1) && ((⟨#[ch]⟩ : Str) == Str.ofString "0") == decide (act q.1 k = 2) && decide (act q.1 k ≤ 3)
  | none => false
theorem chk_all : (KV.all fun q => (List.range 6).all fun k => chk q k) = true := by decide +kernel
theorem tok_all : (KV.all fun q => decide (q.1.length ≤ 10) && (decide (selKind q.1 ≠ 3) || decide (Txt.slice q.1 (some (-2)) none = "}*")) && decide (q.2.length ≤ 10)) = true := by decide +kernel
theorem sign_of {q : Str × Str} {k : Nat} (hq : q ∈ KV) (hk : k < 6) : ∃ ch, q.2.cps[k]? = some ch ∧ ((⟨#[ch]⟩ : Str) == Str.ofString "+") = decide (act q.1 k = 0) ∧ ((⟨#[ch]⟩ : Str) == Str.ofString "!") = decide (act q.1 k = 1) ∧ ((⟨#[ch]⟩ : Str) == Str.ofString "0") = decide (act q.1 k = 2) ∧ act q.1 k ≤ 3 := by
  have h := List.all_eq_true.mp (List.all_eq_true.mp chk_all q hq) k (List.mem_range.mpr hk)
  unfold chk at h
  split at h
  · rename_i ch e
    simp only [Bool.and_eq_true, beq_iff_eq, decide_eq_true_eq] at h
    exact ⟨ch, e, h.1.1.1, h.1.1.2, h.1.2, h.2⟩
  · cases h
theorem tok_fine {q : Str × Str} (hq : q ∈ KV) : SelTok q.1 ∧ q.2.length ≤ lim := by
  have h := List.all_eq_true.mp tok_all q hq
  simp only [Bool.and_eq_true, Bool.or_eq_true, decide_eq_true_eq] at h
  exact ⟨⟨Nat.le_trans h.1.1 (by decide), fun z => h.1.2.elim (fun y => absurd z y) id⟩, Nat.le_trans h.2 (by decide)⟩
theorem look_KV {q : Str × Str} (hq : q ∈ KV) : lookD (KV.map fun q => (q.1, AVal.str q.2)) q.1 = some (.str q.2) := by
  unfold KV at hq
  simp only [List.mem_cons, List.not_mem_nil, or_false] at hq
  rcases hq with rfl | rfl | rfl | rfl | rfl | rfl <;> kernel_rfl
noncomputable def lB : List Stmt := forB (bodyAt 3) 3
noncomputable def dB : List Stmt := forB lB 1
structure Nl (ρ : Vars) (q : Str × Str) (K R D : Nat) : Prop where
  k : ρ "kinds" = some (.ref K)
  r : ρ "row" = some (.ref R)
  t : ρ "table" = some (sdV KV)
  o : ρ "token" = some (.str q.1)
  d : ρ "due" = some (.ref D)
theorem due_step {d K R D i k : Nat} {q : Str × Str} {kl : List Nat} {σ : St} {ρ : Vars} {l : List AVal} (hq : q ∈ KV) (N : Nl ρ q K R D) (hK : σ[K]? = some (.list (kl.map natV))) (hi : kl[i]? = some k) (hk : k < 6) (hl : i ≤ 1000) (hD : σ[D]? = some (.list l)) (hll : l.length ≤ 1000) :
    ∃ ρ₂ σ', EvXs piL (d + 1) (kdAt 3) (Vars.set ρ "k" (.int (i : Int))) dB σ .next ρ₂ σ' ∧ Nl ρ₂ q K R D ∧ σ'[D]? = some (.list (l ++ (ent i (act q.1 k)).toList)) ∧ ∀ j, j ≠ D → σ'[j]? = σ[j]? := by
  obtain ⟨ch, c1, c2, c3, c4, c5⟩ := sign_of hq hk
  obtain ⟨n1, n2, n3, n4, n5⟩ := N
  have hql := (tok_fine hq).2
  have hs : EvX piL (d + 1) (kdAt 3) (Vars.set ρ "k" (.int (i : Int))) (dB.getD 0 default) σ .next (Vars.set (Vars.set ρ "k" (.int (i : Int))) "sign" (.str ⟨#[ch]⟩)) σ := by
    apply x_assign (v := .str ⟨#[ch]⟩) (σ₁ := σ)
    · kernel_rfl
    · apply e_item (a := .str q.2) (b := natV k) (σ₁ := σ)
      · apply e_item (a := sdV KV) (b := .str q.1) (σ₁ := σ)
        · (repeat (((with_reducible apply e_var); kernel_rfl; (focus ((repeat (assumption)); done)))))
        · (repeat (((with_reducible apply e_var); kernel_rfl; (focus ((repeat (assumption)); done)))))
        · exact it_sd (x := q.1) (look_KV hq)
      · apply kind_at
        · kernel_rfl
        · kernel_rfl
        · (focus ((repeat (assumption)); done))
        · (focus ((repeat ((with_reducible exact v_hit))); done))
        · exact hK
        · exact hi
        · exact hl
      · exact it_str (by lia) hql (by rw [Int.toNat_natCast]; exact c1) (by lia)
    · exact a_name (by kernel_rfl)
  have vS : Vars.set (Vars.set ρ "k" (.int (i : Int))) "sign" (.str ⟨#[ch]⟩) "sign" = some (.str ⟨#[ch]⟩) := v_hit
  have N2 : Nl (Vars.set (Vars.set ρ "k" (.int (i : Int))) "sign" (.str ⟨#[ch]⟩)) q K R D := ⟨by (focus ((repeat (assumption)); done)), by (focus ((repeat (assumption)); done)), by (focus ((repeat (assumption)); done)), by (focus ((repeat (assumption)); done)), by (focus ((repeat (assumption)); done))⟩
  have hz : l.length ≤ lim := by unfold lim; lia
  have fin : ∀ {v : AVal}, (σ.set D (.list (l ++ [v])))[D]? = some (.list (l ++ [v])) ∧ ∀ j, j ≠ D → (σ.set D (.list (l ++ [v])))[j]? = σ[j]? := ⟨set_hit hD, fun j hj => List.getElem?_set_ne (Ne.symm hj)⟩
  obtain a0 | a1 | a2 | a3 : act q.1 k = 0 ∨ act q.1 k = 1 ∨ act q.1 k = 2 ∨ act q.1 k = 3 := by lia
  · rw [a0] at c2 c3 c4 ⊢
    refine ⟨_, _, ?_, N2, fin.1, fin.2⟩
    apply xs_cons
    · exact hs
    apply xs_cons
    · apply x_ifT (σ₁ := σ)
      · apply t_cmp (by rfl) (a := .str ⟨#[ch]⟩) (b := .str (Str.ofString "+")) (σ₁ := σ)
        · (repeat (((with_reducible apply e_var); kernel_rfl; (focus ((repeat (assumption)); done)))))
        · exact e_str
        · exact c_seq c2
      · apply xs_cons
        · apply x_expr (by rfl)
          apply e_append (i := D) (b := .tup [.int (i : Int), .str (Str.ofString "given")]) (σ₁ := σ) (σ₂ := σ) (vs := l) (vs₀ := l)
          · constructor
          · kernel_rfl
          · (repeat (((with_reducible apply e_var); kernel_rfl; (focus ((repeat (assumption)); done)))))
          · exact hD
          · (repeat (first | (with_reducible first | exact es_nil | exact e_str | apply e_tuple) | ((with_reducible apply es_cons); (kernel_rfl)) | ((with_reducible apply e_var); kernel_rfl; (focus ((repeat (first | (with_reducible exact v_hit) | ((with_reducible apply v_ne); kernel_rfl))); done))) | ((focus (simp [lim]; done)))))
          · exact hD
          · exact hz
        · exact xs_nil
    · exact xs_nil
  · rw [a1] at c2 c3 c4 ⊢
    refine ⟨_, _, ?_, N2, fin.1, fin.2⟩
    apply xs_cons
    · exact hs
    apply xs_cons
    · apply x_ifF (σ₁ := σ)
      · apply t_cmp (by rfl) (a := .str ⟨#[ch]⟩) (b := .str (Str.ofString "+")) (σ₁ := σ)
        · (repeat (((with_reducible apply e_var); kernel_rfl; (focus ((repeat (assumption)); done)))))
        · exact e_str
        · exact c_seq c2
      · apply xs_cons
        · apply x_ifT (σ₁ := σ)
          · apply t_cmp (by rfl) (a := .str ⟨#[ch]⟩) (b := .str (Str.ofString "!")) (σ₁ := σ)
            · (repeat (((with_reducible apply e_var); kernel_rfl; (focus ((repeat (assumption)); done)))))
            · exact e_str
            · exact c_seq c3
          · apply xs_cons
            · apply x_expr (by rfl)
              apply e_append (i := D) (b := .tup [.int (-1), .str (Str.ofString "nameless")]) (σ₁ := σ) (σ₂ := σ) (vs := l) (vs₀ := l)
              · constructor
              · kernel_rfl
              · (repeat (((with_reducible apply e_var); kernel_rfl; (focus ((repeat (assumption)); done)))))
              · exact hD
              · (repeat (first | (with_reducible first | exact es_nil | exact e_int | exact e_str | apply e_tuple | apply e_neg) | ((with_reducible apply es_cons); (kernel_rfl)) | (decide)))
              · exact hD
              · exact hz
            · exact xs_nil
        · exact xs_nil
    · exact xs_nil
  · rw [a2] at c2 c3 c4 ⊢
    refine ⟨_, _, ?_, N2, fin.1, fin.2⟩
    apply xs_cons
    · exact hs
    apply xs_cons
    · apply x_ifF (σ₁ := σ)
      · apply t_cmp (by rfl) (a := .str ⟨#[ch]⟩) (b := .str (Str.ofString "+")) (σ₁ := σ)
        · (repeat (((with_reducible apply e_var); kernel_rfl; (focus ((repeat (assumption)); done)))))
        · exact e_str
        · exact c_seq c2
      · apply xs_cons
        · apply x_ifF (σ₁ := σ)
          · apply t_cmp (by rfl) (a := .str ⟨#[ch]⟩) (b := .str (Str.ofString "!")) (σ₁ := σ)
            · (repeat (((with_reducible apply e_var); kernel_rfl; (focus ((repeat (assumption)); done)))))
            · exact e_str
            · exact c_seq c3
          · apply xs_cons
            · apply x_ifT (σ₁ := σ)
              · apply t_cmp (by rfl) (a := .str ⟨#[ch]⟩) (b := .str (Str.ofString "0")) (σ₁ := σ)
                · (repeat (((with_reducible apply e_var); kernel_rfl; (focus ((repeat (assumption)); done)))))
                · exact e_str
                · exact c_seq c4
              · apply xs_cons
                · apply x_expr (by rfl)
                  apply e_append (i := D) (b := .tup [.int (-1), .str (Str.ofString "empty")]) (σ₁ := σ) (σ₂ := σ) (vs := l) (vs₀ := l)
                  · constructor
                  · kernel_rfl
                  · (repeat (((with_reducible apply e_var); kernel_rfl; (focus ((repeat (assumption)); done)))))
                  · exact hD
                  · (repeat (first | (with_reducible first | exact es_nil | exact e_int | exact e_str | apply e_tuple | apply e_neg) | ((with_reducible apply es_cons); (kernel_rfl)) | (decide)))
                  · exact hD
                  · exact hz
                · exact xs_nil
            · exact xs_nil
        · exact xs_nil
    · exact xs_nil
  · rw [a3] at c2 c3 c4 ⊢
    refine ⟨_, σ, ?_, N2, by rw [hD]; simp [ent], fun _ _ => rfl⟩
    apply xs_cons
    · exact hs
    apply xs_cons
    · apply x_ifF (σ₁ := σ)
      · apply t_cmp (by rfl) (a := .str ⟨#[ch]⟩) (b := .str (Str.ofString "+")) (σ₁ := σ)
        · (repeat (((with_reducible apply e_var); kernel_rfl; (focus ((repeat (assumption)); done)))))
        · exact e_str
        · exact c_seq c2
      · apply xs_cons
        · apply x_ifF (σ₁ := σ)
          · apply t_cmp (by rfl) (a := .str ⟨#[ch]⟩) (b := .str (Str.ofString "!")) (σ₁ := σ)
            · (repeat (((with_reducible apply e_var); kernel_rfl; (focus ((repeat (assumption)); done)))))
            · exact e_str
            · exact c_seq c3
          · apply xs_cons
            · apply x_ifF (σ₁ := σ)
              · apply t_cmp (by rfl) (a := .str ⟨#[ch]⟩) (b := .str (Str.ofString "0")) (σ₁ := σ)
                · (repeat (((with_reducible apply e_var); kernel_rfl; (focus ((repeat (assumption)); done)))))
                · exact e_str
                · exact c_seq c4
              · exact xs_nil
            · exact xs_nil
        · exact xs_nil
    · exact xs_nil
theorem due_loop {d K R D : Nat} {q : Str × Str} {kl : List Nat} (hq : q ∈ KV) (hk6 : ∀ k ∈ kl, k < 6) (hn : kl.length ≤ 200) (hKD : K ≠ D) : ∀ (m i : Nat) (σ : St) (ρ : Vars), i + m = kl.length → Nl ρ q K R D → σ[K]? = some (.list (kl.map natV)) → σ[D]? = some (.list (due q.1 (fun i => kl.getD i 0) i)) →
    ∃ ρ' σ', EvF piL (d + 1) (kdAt 3) ρ (forT lB 1) dB (.rng (i : Int) (m : Int) 1) σ .next ρ' σ' ∧ Nl ρ' q K R D ∧ σ'[D]? = some (.list (due q.1 (fun i => kl.getD i 0) kl.length)) ∧ ∀ j, j ≠ D → σ'[j]? = σ[j]?
  | 0, i, σ, ρ, hm, N, hK, hD => by
    rw [show i = kl.length by lia] at hD
    exact ⟨ρ, σ, f_end (n_rngEnd (by decide)), N, hD, fun _ _ => rfl⟩
  | m + 1, i, σ, ρ, hm, N, hK, hD => by
    have hi : i < kl.length := by lia
    have hg : kl[i]? = some (kl.getD i 0) := by simp [hi]
    have hdl := due_len (tok := q.1) (ks := fun i => kl.getD i 0) i
    obtain ⟨ρ₂, σ₂, s1, s2, s3, s4⟩ := due_step (d := d) hq N hK hg (hk6 _ (List.mem_of_getElem? hg)) (by lia) hD (by lia)
    rw [show due q.1 (fun i => kl.getD i 0) i ++ (ent i (act q.1 (kl.getD i 0))).toList = due q.1 (fun i => kl.getD i 0) (i + 1) from due_succ.symm] at s3
    obtain ⟨ρ', σ', e1, e2, e3, e4⟩ := due_loop (d := d) hq hk6 hn hKD m (i + 1) σ₂ ρ₂ (by lia) s2 (by rw [s4 K hKD]; exact hK) s3
    refine ⟨ρ', σ', f_more (n_rng (by lia)) (a_name (by kernel_rfl)) s1 ?_, e2, e3, fun j hj => (e4 j hj).trans (s4 j hj)⟩
    have : ((m + 1 : Nat) : Int) - 1 = m := by lia
    rw [this]
    exact e1
theorem dts_pairs {σ : St} : ∀ l : List AVal, (∀ x ∈ l, ∃ (i : Int) (s : Str), x = .tup [.int i, .str s] ∧ PyData.strOk s = true) → ∃ ds, Dts σ l ds ∧ PyData.canLayAll0 ds = true ∧ PyData.depthAll ds ≤ 2
  | [], _ => ⟨[], .nil, by simp [PyData.canLayAll0], by simp [PyData.depthAll]⟩
  | x :: l, h => by
    obtain ⟨i, s, rfl, hs⟩ := h x (.head _)
    obtain ⟨ds, h1, h2, h3⟩ := dts_pairs l fun y hy => h y (.tail _ hy)
    refine ⟨.tuple [.int i, .str s] :: ds, .cons (.tup (.cons .int (.cons .str .nil))) h1, ?_, ?_⟩
    · simp [PyData.canLayAll0, PyData.canLay0, h2, hs]
    · simp only [PyData.depthAll, PyData.depth]
      lia
theorem due_pairs {tok : Str} {ks : Nat → Nat} {n : Nat} : ∀ x ∈ due tok ks n, ∃ (i : Int) (s : Str), x = .tup [.int i, .str s] ∧ PyData.strOk s = true := fun x hx => by
  unfold due at hx
  obtain ⟨i, _, h⟩ := List.mem_filterMap.mp hx
  unfold ent at h
  split at h
  · cases h; exact ⟨_, _, rfl, by kernel_rfl⟩
  · split at h
    · cases h; exact ⟨_, _, rfl, by kernel_rfl⟩
    · split at h
      · cases h; exact ⟨_, _, rfl, by kernel_rfl⟩
      · cases h
theorem same_due {tok : Str} {ks : Nat → Nat} {n i j : Nat} {σ : St} (h1 : σ[i]? = some (.list (due tok ks n))) (h2 : σ[j]? = some (.list (due tok ks n))) : CmpR .NotEq (.ref i) (.ref j) σ false := by
  obtain ⟨ds, d1, d2, d3⟩ := dts_pairs (σ := σ) (due tok ks n) due_pairs
  refine c_neS (x := .list ds) (.list (lo_ref h1) d1) (.list (lo_ref h2) d1) ?_
  have hd : PyData.depth (.list ds) ≤ 64 := by simp only [PyData.depth]; lia
  show (PyData.canLay0 _ && decide (PyData.depth _ ≤ 64)) = true
  rw [Bool.and_eq_true]
  exact ⟨by simp only [PyData.canLay0]; exact d2, decide_eq_true hd⟩
structure Nk (ρ : Vars) (K R : Nat) : Prop where
  k : ρ "kinds" = some (.ref K)
  r : ρ "row" = some (.ref R)
  t : ρ "table" = some (sdV KV)
theorem law_turn {K R : Nat} {q : Str × Str} {kl : List Nat} {e : Nat → Nat} {σ : St} {ρ : Vars} (hq : q ∈ KV) (hk6 : ∀ k ∈ kl, k < 6) (hn : kl.length ≤ 200) (N : Nk ρ K R) (ho : ρ "token" = some (.str q.1)) (hK : σ[K]? = some (.list (kl.map natV))) (hR : Rw σ R kl.length e (fun i => kl.getD i 0)) :
    ∃ ρ' σ', EvXsF piL 10 (kdAt 3) ρ lB σ .next ρ' σ' ∧ Nk ρ' K R ∧ ∀ k, k < σ.length → σ'[k]? = σ[k]? := by
  obtain ⟨n1, n2, n3⟩ := N
  have lK := lt_get hK
  obtain ⟨ρ₁, σ₁, d1, d2, d3, d4⟩ := due_loop (d := 9) (D := σ.length) (R := R) hq hk6 hn (by lia) kl.length 0 (σ ++ [AObj.list []]) (Vars.set ρ "due" (.ref σ.length)) (by lia) ⟨by (focus ((repeat (assumption)); done)), by (focus ((repeat (assumption)); done)), by (focus ((repeat (assumption)); done)), by (focus ((repeat (assumption)); done)), by (focus ((repeat ((with_reducible exact v_hit))); done))⟩ (get_old hK) get_new
  have old : ∀ k, k < σ.length → σ₁[k]? = σ[k]? := fun k hk => by rw [d4 k (by lia), List.getElem?_append_left hk]
  have hR1 : Rw σ₁ R kl.length e (fun i => kl.getD i 0) := hR.keep fun i o h _ => by rw [old i (lt_get h)]; exact h
  have hK1 : σ₁[K]? = some (.list (kl.map natV)) := by rw [old K lK]; exact hK
  obtain ⟨σ₂, f1, f2, f3⟩ := heard_ok (d := 8) (tok_fine hq).1 hn hR1
  have lD := lt_get d3
  have hD2 : σ₂[σ.length]? = some (.list (due q.1 (fun i => kl.getD i 0) kl.length)) := by rw [f3 _ lD]; exact d3
  obtain ⟨m1, m2, m3, m4, m5⟩ := d2
  refine ⟨ρ₁, σ₂, ?_, ⟨m1, m2, m3⟩, fun k hk => by rw [f3 k (by lia), old k hk]⟩
  apply xsf_cons
  · apply xf_of
    apply x_assign (v := .ref σ.length) (σ₁ := σ ++ [AObj.list []])
    · kernel_rfl
    · (repeat (first | (with_reducible first | exact es_nil | apply e_list) | (decide)))
    · exact a_name (by kernel_rfl)
  apply xsf_cons
  · apply xf_of
    apply x_for (v := .rng 0 (kl.length : Int) 1) (σ₁ := σ ++ [AObj.list []])
    · rfl
    · apply e_call (fv := .ty "range") (vs := [.int (kl.length : Int)]) (σ₁ := σ ++ [.list []]) (σ₂ := σ ++ [.list []])
      · (repeat (((with_reducible apply e_glob); kernel_rfl; (exact g_range))))
      · apply es_cons (by rfl) (v := .int (kl.length : Int)) (σ₁ := σ ++ [.list []])
        · have hx : ((kl.map natV).length : Int) = (kl.length : Int) := by simp
          rw [← hx]
          apply e_call (fv := .bi "len") (vs := [.ref K]) (σ₁ := σ ++ [.list []]) (σ₂ := σ ++ [.list []])
          · (repeat (((with_reducible apply e_glob); kernel_rfl; (exact g_len))))
          · (repeat (first | (with_reducible exact es_nil) | ((with_reducible apply es_cons); (kernel_rfl)) | ((with_reducible apply e_var); kernel_rfl; (focus ((repeat (assumption)); done)))))
          · apply c_lenList
            · exact lo_ref (get_old hK)
            · simp [lim]; lia
        · exact es_nil
      · exact c_range1
    · exact mk_rng1 (by lia)
    · exact lk_name
    · have : (kl.length : Int) - 0 = kl.length := by simp
      rw [this]
      exact d1
  apply xsf_cons
  · apply xf_ifTF (z := false) (σ₁ := σ₂)
    · apply tf_callNe (by rfl) (fv := .fn "_law_heard") (vs := [selV q.1, .ref R]) (a := .ref (σ₁.length + 1)) (b := .ref σ.length) (σ₁ := σ₁) (σ₂ := σ₁) (σ₃ := σ₂)
      · (repeat (((with_reducible apply e_glob); kernel_rfl; (exact g_l_heard))))
      · apply es_cons (by rfl) (v := selV q.1) (σ₁ := σ₁)
        · apply e_call (fv := .fn "_prepare_tag") (vs := [.str q.1]) (σ₁ := σ₁) (σ₂ := σ₁)
          · (repeat (((with_reducible apply e_glob); kernel_rfl; (exact g_prep))))
          · (repeat (first | (with_reducible exact es_nil) | ((with_reducible apply es_cons); (kernel_rfl)) | ((with_reducible apply e_var); kernel_rfl; (focus ((repeat (assumption)); done)))))
          · exact prep_ok (d := 9) (tok_fine hq).1
        · (repeat (first | (with_reducible exact es_nil) | ((with_reducible apply es_cons); (kernel_rfl)) | ((with_reducible apply e_var); kernel_rfl; (focus ((repeat (assumption)); done)))))
      · exact f1
      · (repeat (((with_reducible apply e_var); kernel_rfl; (focus ((repeat (assumption)); done)))))
      · exact same_due f2 hD2
    · exact xsf_of xs_nil
  · exact xsf_of xs_nil
theorem law_loop {K R : Nat} {kl : List Nat} {e : Nat → Nat} (hk6 : ∀ k ∈ kl, k < 6) (hn : kl.length ≤ 200) : ∀ (rest done : List (Str × Str)) (σ : St) (ρ : Vars), KV = done ++ rest → Nk ρ K R → σ[K]? = some (.list (kl.map natV)) → Rw σ R kl.length e (fun i => kl.getD i 0) →
    ∃ ρ' σ', EvFF piL 10 (kdAt 3) ρ (forT (bodyAt 3) 3) lB (.dkeys (sdV KV) 6 done.length) σ .next ρ' σ'
  | [], done, σ, ρ, hd, N, hK, hR => by
    rw [List.append_nil] at hd
    have h6 : KV.length = 6 := by rfl
    exact ⟨ρ, σ, ff_end (n_sdEnd (by rw [List.length_map]; rfl) (by rw [List.getElem?_eq_none_iff, List.length_map, hd]; exact Nat.le_refl _))⟩
  | q :: rest, done, σ, ρ, hd, N, hK, hR => by
    have hq : q ∈ KV := by rw [hd]; simp
    obtain ⟨ρ₁, σ₁, t1, t2, t3⟩ := law_turn (ρ := Vars.set ρ "token" (.str q.1)) (σ := σ) hq hk6 hn (by
      obtain ⟨n1, n2, n3⟩ := N
      exact ⟨by (focus ((repeat (assumption)); done)), by (focus ((repeat (assumption)); done)), by (focus ((repeat (assumption)); done))⟩) v_hit hK hR
    obtain ⟨ρ', σ', e1⟩ := law_loop (e := e) hk6 hn rest (done ++ [q]) σ₁ ρ₁ (by rw [hd]; simp) t2 (by rw [t3 K (lt_get hK)]; exact hK) (hR.keep fun i o h _ => by rw [t3 i (lt_get h)]; exact h)
    rw [List.length_append] at e1
    exact ⟨ρ', σ', ff_more (n_sd (by rw [List.length_map]; rfl) (by rw [hd]; simp)) (a_name (by kernel_rfl)) t1 e1⟩
noncomputable def klOf (ns : List Int) : List Nat := ns.map (fun x => (x.fmod 6).toNat) ++ [1, 0, 3, 4, 2, 5, 1, 0]
theorem kl_six {ns : List Int} : ∀ k ∈ klOf ns, k < 6 := fun k hk => by
  unfold klOf at hk
  rcases List.mem_append.mp hk with h | h
  · obtain ⟨x, _, rfl⟩ := List.mem_map.mp h
    have h1 := Int.fmod_nonneg_of_pos x (b := 6) (by decide)
    have h2 := Int.fmod_lt_of_pos x (b := 6) (by decide)
    lia
  · simp only [List.mem_cons, List.not_mem_nil, or_false] at h
    lia
noncomputable def remF : AVal → AVal
  | .int x => .int (x.fmod 6)
  | v => v
theorem kl_vals {ns : List Int} : (klOf ns).map natV = (ns.map AVal.int).map remF ++ [.int 1, .int 0, .int 3, .int 4, .int 2, .int 5, .int 1, .int 0] := by
  unfold klOf
  rw [List.map_append, List.map_map, List.map_map]
  congr 1
  refine List.map_congr_left fun x _ => ?_
  have h1 := Int.fmod_nonneg_of_pos x (b := 6) (by decide)
  show AVal.int (((x.fmod 6).toNat : Nat) : Int) = AVal.int (x.fmod 6)
  rw [Int.toNat_of_nonneg h1]
theorem kinds_ok {ns : List Int} (hl : ns.length ≤ 63) : ∃ σ, EvX piL 10 (kdAt 3) (bindAll ["script"] [.scr ns]) (st 3 0) [] .next (Vars.set (bindAll ["script"] [.scr ns]) "kinds" (.ref 2)) σ ∧ σ[2]? = some (.list ((klOf ns).map natV)) := by
  refine ⟨([] : St) ++ [AObj.list ((ns.map AVal.int).map remF)] ++ [AObj.list [.int 1, .int 0, .int 3, .int 4, .int 2, .int 5, .int 1, .int 0]] ++ [AObj.list ((ns.map AVal.int).map remF ++ [.int 1, .int 0, .int 3, .int 4, .int 2, .int 5, .int 1, .int 0])], ?_, by rw [kl_vals]; rfl⟩
  apply x_assign (v := .ref (([] : St) ++ [AObj.list ((ns.map AVal.int).map remF)] ++ [AObj.list [.int 1, .int 0, .int 3, .int 4, .int 2, .int 5, .int 1, .int 0]]).length)
  · kernel_rfl
  · apply e_binop (a := .ref 0) (b := .ref 1) (σ₁ := ([] : St) ++ [AObj.list ((ns.map AVal.int).map remF)]) (σ₂ := ([] : St) ++ [AObj.list ((ns.map AVal.int).map remF)] ++ [AObj.list [.int 1, .int 0, .int 3, .int 4, .int 2, .int 5, .int 1, .int 0]])
    · apply e_comp (σ₁ := []) (a := .scr ns) (it := .seq (.scr ns) 0)
      · kernel_rfl
      · rfl
      · (repeat (((with_reducible apply e_var); kernel_rfl; (focus ((repeat ((with_reducible exact b_hit))); done)))))
      · exact mk_scr
      · refine cm_map (σ₁ := []) (f := remF) (vs := ns.map .int) (fun l => lo_scr) (by simp [lim]; lia) fun v hv l => ?_
        obtain ⟨x, _, rfl⟩ := List.mem_map.mp hv
        show EvE _ _ _ _ _ _ (.int (x.fmod 6)) _
        (repeat (first | (with_reducible first | exact e_int | apply e_binop) | ((with_reducible apply e_var); kernel_rfl; (focus ((repeat ((with_reducible exact v_hit))); done))) | (((with_reducible apply bo_mod) <;> (decide)))))
    · apply e_list (vs := [.int 1, .int 0, .int 3, .int 4, .int 2, .int 5, .int 1, .int 0]) (σ₁ := ([] : St) ++ [AObj.list ((ns.map AVal.int).map remF)])
      · (repeat (first | (with_reducible first | exact es_nil | exact e_int) | ((with_reducible apply es_cons); (kernel_rfl))))
      · decide
    · apply bo_list
      · exact lo_ref rfl
      · exact lo_ref rfl
      · simp [lim]; lia
  · exact a_name (by kernel_rfl)
theorem pureL (ns : List Int) (h : ns.length ≤ 63) : ∃ ρ' σ', EvXsF piL 10 (fun y => (namesAt 3).lookup y) (bindAll ["script"] [.scr ns]) (bodyAt 3) [] (.ret (.bool true)) ρ' σ' := by
  have hn : (klOf ns).length ≤ 200 := by unfold klOf; simp; lia
  obtain ⟨σ, k1, k2⟩ := kinds_ok h
  obtain ⟨σ₁, e, r1, r2, r3⟩ := row_ok (d := 6) kl_six (by lia) k2
  have N : Nk (Vars.set (Vars.set (Vars.set (bindAll ["script"] [.scr ns]) "kinds" (.ref 2)) "row" (.ref σ.length)) "table" (sdV KV)) 2 σ.length := ⟨by (focus ((repeat (first | (with_reducible exact v_hit) | ((with_reducible apply v_ne); kernel_rfl))); done)), by (focus ((repeat (first | (with_reducible exact v_hit) | ((with_reducible apply v_ne); kernel_rfl))); done)), by (focus ((repeat ((with_reducible exact v_hit))); done))⟩
  obtain ⟨ρ', σ', t1⟩ := law_loop (e := e) kl_six hn KV [] σ₁ _ rfl N (r3 _ _ k2) r2
  refine ⟨ρ', σ', ?_⟩
  apply xsf_cons
  · exact xf_of k1
  apply xsf_cons
  · apply xf_of
    apply x_assign (v := .ref σ.length) (σ₁ := σ₁)
    · kernel_rfl
    · apply e_call (fv := .fn "_law_row") (vs := [.ref 2]) (σ₁ := σ) (σ₂ := σ)
      · (repeat (((with_reducible apply e_glob); kernel_rfl; (exact g_l_row))))
      · (repeat (first | (with_reducible exact es_nil) | ((with_reducible apply es_cons); (kernel_rfl)) | ((with_reducible apply e_var); kernel_rfl; (focus ((repeat ((with_reducible exact v_hit))); done)))))
      · exact r1
    · exact a_name (by kernel_rfl)
  apply xsf_cons
  · apply xf_of
    apply x_assign (v := sdV KV) (σ₁ := σ₁)
    · kernel_rfl
    · apply e_dictS (KV := KV)
      · kernel_rfl
      · kernel_rfl
      · decide +kernel
      · kernel_rfl
      · kernel_rfl
      · exact List.cons_ne_nil _ _
      · decide
    · exact a_name (by kernel_rfl)
  apply xsf_cons
  · apply xf_for (v := sdV KV) (σ₁ := σ₁)
    · rfl
    · (repeat (((with_reducible apply e_var); kernel_rfl; (focus ((repeat ((with_reducible exact v_hit))); done)))))
    · exact mk_sd
    · exact lk_name
    · exact t1
  apply xsf_ret
  apply xf_of
  (repeat ((with_reducible first | exact e_bool | apply x_return)))
end Mini
open PySem PySem.W PyProof.Rows
namespace Mini
theorem joinL {w : World} {s₁ : Shared} {mg mb : Str → Option Value} {p : Program} {loose : List Str} {mean mean' : ExcName → Option Value} {cl : Str → Option Addr} {fa L : Addr} {items : List Value} {ns : List Int}
    (KX : (KL w.params).In s₁.heap) (T : Top p loose mean mg mb s₁.heap) (hT : TabsAt [(20, 16)] s₁.heap) (hg : s₁.gens = #[]) (hmg : mg "law" = some (.ref fa)) (hL : s₁.heap.IsList L items.toArray) (hI : IntsAre items ns) (hl : ¬ ((63 : Nat) : Int) < ns.length) :
    codeAny (model PySem.Challenge.rw_dn0295_09.row.prog w) callerA (Code.call (.ref fa) { pos := [.ref L] }) (GoodWG PySem.Challenge.rw_dn0295_09.row.claim cl mean' [ofPy (PyData.list (List.map PyData.int ns))] s₁) s₁ := by
  have ok : COk (cxL w s₁.heap mg mb) piL := cokL KX T hT
  have X : (KL w.params).In (ghostOf s₁.heap [(20, 16)]) := ghost_K hT KX (by kernel_rfl)
  have hgl : (ghostOf s₁.heap [(20, 16)]).Ns mainGlobals mg := ghost_ns hT T.g
  have hfa : fa = 61 := by
    have h1 : mg "law" = some (.ref 61) := mg_of X hgl (by kernel_rfl)
    rw [hmg] at h1
    cases h1; rfl
  subst hfa
  obtain ⟨ρ', σ', hrun⟩ := pureL ns (by lia)
  exact law_joinF (c := cxL w s₁.heap mg mb) ok rfl hT (by show ([16] : List Addr).Nodup; decide) hg (fnOk_law X) hL hI ⟨by kernel_rfl, by decide, by decide⟩ rfl hrun (by kernel_rfl) (fun _ => rfl)
end Mini
theorem PySem.Challenge.cw_dn0295_09_holds : PySem.Challenge.rw_dn0295_09.Holds := by
  exact hd (by
    w_strict (
      k_fill
      intro w s₀ s₁ mg mb G Y fa o pm cd doc dV kV ho hd hcd hD hmg hg args vals as hpre hlay hrd hwl hlo
      have KX := km_in_of Y
      km_tabs Y
      have X := (Ground.X G).1
      have V := (Ground.X G).2
      refine Ground.open G ?_
      intro T B D TE TW
      try (refine guard_noD D (by decide +kernel) ?_; clear D)
      have hmg0 := hmg
      km_lay T hmg ho hd cd
      wrow_args hpre hlay hrd hwl hlo
      all_goals (
        first | refine callC_kw (enter_call ?_) | refine enter_call ?_
        exact Mini.joinL KX T hT9 hg hmg0 (by assumption) (by assumption) (by assumption))))
