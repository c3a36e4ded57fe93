import PyProof.Rows.All
import Wide.All
import OpenK.AllK
import Wide.FinOn
import KE.KSortTup
import KE.KIntText
import KE.KLam
import KE.KRevSl
import PySem.Challenge.RW_dn0295_01
set_option Elab.async false
set_option maxRecDepth 100000
set_option linter.unusedSimpArgs false
set_option linter.unusedVariables false
set_option maxHeartbeats 8000000
namespace Mini
open PySem PySem.W PyProof.Rows PySem.Calls
structure GB where
  src : Str
  x : Str
  pre : List Stmt
  cond : Expr
  params : List Str
  names : List (Str × NameKind)
  deriving Inhabited
structure LB where
  body : Expr
  params : List Str
  names : List (Str × NameKind)
  deriving Inhabited
inductive AVal where
  | none
  | bool (b : Bool)
  | int (i : Int)
  | str (s : Str)
  | bytes (b : Array UInt8)
  | tup (vs : List AVal)
  | ref (i : Nat)
  | scr (ns : List Int)
  | fn (x : Str)
  | cls
  | bi (id : String)
  | ty (n : String)
  | rng (a b c : Int)
  | slc (a b : Option Int)
  | gfn (k : GB) (xs : List Str) (vs : List AVal)
  | lam (k : LB) (xs : List Str) (vs : List AVal)
  | sd (ks : List Str) (vs : List AVal)
  deriving Inhabited
inductive AIt where
  | seq (v : AVal) (i : Nat)
  | rng (cur left step : Int)
  | tup (vs : List AVal) (i : Nat)
  | chars (s : Str) (i : Nat)
  | obj (i : Nat)
  | dkeys (v : AVal) (n i : Nat)
  deriving Inhabited
inductive GSt where
  | fresh | susp (it : AIt) | run | done
  deriving Inhabited
noncomputable abbrev Vars := Str → Option AVal
noncomputable def Vars.set (ρ : Vars) (x : Str) (v : AVal) : Vars := fun y => if y = x then some v else ρ y
inductive AObj where
  | list (vs : List AVal)
  | dict (kvs : List (Int × AVal))
  | sdict (kvs : List (Str × AVal))
  | inst (ats : List (Str × AVal))
  | liter (v : AVal) (i : Nat)
  | lend
  | gen (k : GB) (ρ : Vars) (st : GSt)
  deriving Inhabited
noncomputable abbrev St := List AObj
structure Loc where
  a : Addr
  ps : List Addr := []
  g : Option Nat := .none
structure Fn where
  addr : Addr
  fd : FuncData
  body : List Stmt
  params : List Str
noncomputable def GLoop (k : GB) (lb : List Stmt) : Prop := ∃ y1 y2 y3 y4, lb = k.pre ++ [.If k.cond [.Expr (.Yield (some (.Name k.x y1)) y2) y3] [] y4]
noncomputable def GBody (k : GB) (body : List Stmt) : Prop := ∃ px ps lb pf, body = [.For (.Name k.x px) (.Name k.src ps) lb [] pf] ∧ GLoop k lb
structure Cx where
  prog : Program
  w : World
  K : Frag
  B : Heap
  mg : Str → Option Value
  mb : Str → Option Value
  C : Addr
  fns : Str → Option Fn
  tabs : List (Addr × Addr)
  tq : Addr → Str
  frz : Str → Bool
noncomputable def foot (c : Cx) (φ : List Loc) : List Addr := c.tabs.map (·.2) ++ φ.flatMap fun l => l.a :: l.ps
noncomputable abbrev Imm := Addr → Option Obj
structure GB.Names (k : GB) : Prop where
  xl : k.names.lookup k.x = some .local
  xd : (k.x == ("__debug__" : Str)) = false
  sl : k.names.lookup k.src = some .local
  sd : (k.src == ("__debug__" : Str)) = false
structure GFn (G : Imm) (k : GB) (fd : FuncData) : Prop where
  body : ∃ body, fd.body = .stmts body ∧ GBody k body
  nm : fd.scope.names = k.names
  co : fd.scope.isCoroutine = false
  gen : fd.scope.isGenerator = true
  kind : fd.scope.kind = .function
  glob : fd.globals = mainGlobals
  bi : fd.builtins = builtinsNs
  nocell : ∀ p ∈ k.names, p.2 ≠ .cell
  code : ∃ ca oc vs t, fd.code = .ref ca ∧ G ca = some oc ∧ oc.data = .fields vs ∧ vs[1]? = some (.str fd.qualname t)
  bind : ∀ vs', vs'.length = k.params.length → bindArgs fd ⟨vs', []⟩ = pure (k.params.zip vs')
  pk : ∀ x ∈ k.params, k.names.lookup x = some .local
  nodup : k.params.Nodup
  nx : k.Names
structure LFn (G : Imm) (k : LB) (fd : FuncData) : Prop where
  body : fd.body = .expr k.body
  nm : fd.scope.names = k.names
  co : fd.scope.isCoroutine = false
  gen : fd.scope.isGenerator = false
  kind : fd.scope.kind = .function
  glob : fd.globals = mainGlobals
  bi : fd.builtins = builtinsNs
  nocell : ∀ p ∈ k.names, p.2 ≠ .cell
  code : ∃ ca oc vs t, fd.code = .ref ca ∧ G ca = some oc ∧ oc.data = .fields vs ∧ vs[1]? = some (.str fd.qualname t)
  bind : ∀ vs', vs'.length = k.params.length → bindArgs fd ⟨vs', []⟩ = pure (k.params.zip vs')
  pk : ∀ x ∈ k.params, k.names.lookup x = some .local
  nodup : k.params.Nodup
mutual
inductive VRel (c : Cx) (G : Imm) (φ : List Loc) : AVal → Value → Prop
  | none : VRel c G φ .none .none
  | bool (b : Bool) : VRel c G φ (.bool b) (.bool b)
  | int (i : Int) (t : Tok) : VRel c G φ (.int i) (.int i t)
  | str (s : Str) (t : Tok) : VRel c G φ (.str s) (.str s t)
  | bytes (b : Array UInt8) (t : Tok) : VRel c G φ (.bytes b) (.bytes b t)
  | tup {vs : List AVal} {items : List Value} {a : Addr} (n : Nat) (e : G a = some { cls := .type "tuple", data := .seq items.toArray n }) (r : VsRel c G φ vs items) : VRel c G φ (.tup vs) (.ref a)
  | ref {i : Nat} {l : Loc} (e : φ[i]? = some l) : VRel c G φ (.ref i) (.ref l.a)
  | scr {ns : List Int} {items : List Value} {a : Addr} {o : Obj} (e : G a = some o) (hc : o.cls = .type "list") (n : Nat) (hd : o.data = .seq items.toArray n) (r : IntsAre items ns) : VRel c G φ (.scr ns) (.ref a)
  | fn {x : Str} {f : Fn} (e : c.fns x = some f) : VRel c G φ (.fn x) (.ref f.addr)
  | cls : VRel c G φ .cls (.ref c.C)
  | bi (id : String) : VRel c G φ (.bi id) (.builtin id)
  | ty (n : String) : VRel c G φ (.ty n) (.type n)
  | rng {a b s : Int} {r : Addr} (t u v : Tok) (e : G r = some { cls := .type "range", data := .fields #[.int a t, .int b u, .int s v] }) : VRel c G φ (.rng a b s) (.ref r)
  | slc {a b : Option Int} {r : Addr} {o : Obj} (l u : Option (Int × Tok)) (hl : l.map (·.1) = a) (hu : u.map (·.1) = b) (e : G r = some o) (hc : o.cls = .type "slice") (hd : o.data = .fields #[partValue l, partValue u, .none]) : VRel c G φ (.slc a b) (.ref r)
  | gfn {k : GB} {xs : List Str} {vs : List AVal} {vs' : List Value} {a : Addr} {o : Obj} {fd : FuncData} (e : G a = some o) (hd : o.data = .func fd) (hf : GFn G k fd) (hx : ∀ x ∈ xs, k.names.lookup x = some .free) (hg : ∀ p ∈ fd.closure, (G p.2).isSome)
      (hc : ∀ (i : Nat) (x : Str) (v' : Value), xs[i]? = some x → vs'[i]? = some v' → ∃ ca oc, fd.closure.lookup x = some ca ∧ G ca = some oc ∧ oc.data = .cell (some v')) (r : VsRel c G φ vs vs') : VRel c G φ (.gfn k xs vs) (.ref a)
  | lam {k : LB} {xs : List Str} {vs : List AVal} {vs' : List Value} {a : Addr} {o : Obj} {fd : FuncData} (e : G a = some o) (hd : o.data = .func fd) (hf : LFn G k fd) (hx : ∀ x ∈ xs, k.names.lookup x = some .free) (hg : ∀ p ∈ fd.closure, (G p.2).isSome)
      (hc : ∀ (i : Nat) (x : Str) (v' : Value), xs[i]? = some x → vs'[i]? = some v' → ∃ ca oc, fd.closure.lookup x = some ca ∧ G ca = some oc ∧ oc.data = .cell (some v')) (r : VsRel c G φ vs vs') : VRel c G φ (.lam k xs vs) (.ref a)
  | sd {ks : List Str} {vs : List AVal} {vs' : List Value} {a : Addr} {o : Obj} (e : G a = some o) (hd : ∃ kvs : List (Str × Value), o.IsDictOf (strKind c.prog c.w) kvs ∧ kvs.map (·.1) = ks ∧ kvs.map (·.2) = vs') (sm : (a == sysModules) = false) (r : VsRel c G φ vs vs') : VRel c G φ (.sd ks vs) (.ref a)
inductive VsRel (c : Cx) (G : Imm) (φ : List Loc) : List AVal → List Value → Prop
  | nil : VsRel c G φ [] []
  | cons {v : AVal} {v' : Value} {vs : List AVal} {vs' : List Value} (h : VRel c G φ v v') (t : VsRel c G φ vs vs') : VsRel c G φ (v :: vs) (v' :: vs')
end
noncomputable def listOf? (σ : St) : AVal → Option (List AVal)
  | .ref i => match σ[i]? with
    | some (.list vs) => some vs
    | _ => .none
  | .scr ns => some (ns.map .int)
  | _ => .none
noncomputable def instOf? (σ : St) : AVal → Option (List (Str × AVal))
  | .ref i => match σ[i]? with
    | some (.inst ats) => some ats
    | _ => .none
  | _ => .none
noncomputable def lim : Nat := 1000000
inductive Flw where
  | next | brk | cont | ret (v : AVal)
inductive PlainE : Expr → Prop
  | name {x p} : PlainE (.Name x p)
  | sub {a b p} : PlainE (.Subscript a b p)
  | attr {a x p} : PlainE (.Attribute a x p)
noncomputable def notStar : Expr → Bool
  | .Starred .. => false
  | _ => true
noncomputable def notSet : Expr → Bool
  | .Set .. => false
  | _ => true
noncomputable def notBi : AVal → Bool
  | .bi _ => false
  | _ => true
noncomputable abbrev Kinds := Str → Option NameKind
noncomputable def noSwap (kd : Kinds) : Expr → Expr → Bool
  | .Tuple ts _ _, .Tuple .. => ts.any fun
    | .Name x _ => kd x != some .local
    | _ => false
  | .List .., .Tuple .. => false
  | .Starred .., _ => false
  | _, _ => true
noncomputable def isComp : Expr → Bool
  | .ListComp .. | .SetComp .. | .DictComp .. => true
  | _ => false
noncomputable def putAt (x : Str) (v : AVal) : List (Str × AVal) → List (Str × AVal)
  | [] => [(x, v)]
  | (y, w) :: r => if y = x then (y, v) :: r else (y, w) :: putAt x v r
noncomputable def AIt.kd : AIt → Nat
  | .seq .. => 0
  | .rng .. => 1
  | .tup .. => 2
  | .chars .. => 3
  | .obj .. => 4
  | .dkeys .. => 5
noncomputable def genIt (it : AIt) : Bool := it.kd == 0 || it.kd == 4
inductive LoopT : Expr → AIt → Prop
  | name {x p it} : LoopT (.Name x p) it
  | tup {es k p it} (h : it.kd = 0) : LoopT (.Tuple es k p) it
noncomputable def Kinds.isVar (kd : Kinds) (x : Str) : Bool := match kd x with
  | some .local | some .cell | some .free => true
  | _ => false
structure PI where
  glob : Str → Option AVal
  fn : Str → Option (List Str × List Stmt × List (Str × NameKind))
  maker : Str → Option Str
  attrOk : Str → Bool
  init : List Str × List Stmt × List (Str × NameKind)
  frz : Str → Bool := fun _ => false
  clsNone : Str → Bool := fun _ => false
  callAttr : Str → Bool := fun _ => false
noncomputable def bindAll : List Str → List AVal → Vars
  | x :: xs, v :: vs => fun y => if y = x then some v else bindAll xs vs y
  | _, _ => fun _ => .none
noncomputable def relabelK (names : List (Str × NameKind)) (kd : Kinds) : Kinds := fun x =>
  (names.map fun (n, k) => if (k == .free && kd n == some .cell) then (n, NameKind.cell) else (n, k)).lookup x
noncomputable def compOk (scope : Scope) (kd : Kinds) (ρ : Vars) (x : Str) : Bool :=
  scope.kind == .function && scope.names.all (fun p => p.2 != .cell && (p.2 != .local || scope.names.lookup p.1 == some .local) && (p.2 != .free || ((kd p.1 == some .cell || kd p.1 == some .free) && (ρ p.1).isSome))) &&
    scope.names.lookup x == some .local
noncomputable def freeVars (kd : Kinds) (ρ : Vars) : Vars := fun y => match kd y with
  | some .cell | some .free => ρ y
  | _ => .none
noncomputable def freeNames (names : List (Str × NameKind)) : List Str := (names.filter fun p => p.2 == .free).map (·.1)
end Mini
namespace Mini
open PySem PySem.W PySem.W.X PyProof.Rows PySem.Calls
structure CxOk (c : Cx) : Prop where
  x : c.K.In c.B
  g : c.B.Ns mainGlobals c.mg
  b : c.B.Ns builtinsNs c.mb
  nolimit : c.B.NoLimit
noncomputable def Ext (φ φ' : List Loc) : Prop := ∀ (i : Nat) (l : Loc), φ[i]? = some l → ∃ l' : Loc, φ'[i]? = some l' ∧ l'.a = l.a ∧ l'.g = l.g
theorem Ext.refl (φ : List Loc) : Ext φ φ := fun _ l e => ⟨l, e, rfl, rfl⟩
theorem Ext.trans {φ₁ φ₂ φ₃ : List Loc} (x : Ext φ₁ φ₂) (y : Ext φ₂ φ₃) : Ext φ₁ φ₃ := fun i l e => by
  obtain ⟨l', e', h', g'⟩ := x i l e
  obtain ⟨l'', e'', h'', g''⟩ := y i l' e'
  exact ⟨l'', e'', h''.trans h', g''.trans g'⟩
theorem Ext.append (φ φ' : List Loc) : Ext φ (φ ++ φ') := fun i l e => by
  refine ⟨l, ?_, rfl, rfl⟩
  rw [List.getElem?_append_left (List.getElem?_eq_some_iff.mp e).1]; exact e
noncomputable def Imm.Sub (G G' : Imm) : Prop := ∀ a o, G a = some o → G' a = some o
theorem GFn.mono {G G' : Imm} {k : GB} {fd : FuncData} (hG : Imm.Sub G G') (h : GFn G k fd) : GFn G' k fd :=
  { h with code := let ⟨ca, oc, vs, t, e, g, r⟩ := h.code; ⟨ca, oc, vs, t, e, hG _ _ g, r⟩ }
theorem LFn.mono {G G' : Imm} {k : LB} {fd : FuncData} (hG : Imm.Sub G G') (h : LFn G k fd) : LFn G' k fd :=
  { h with code := let ⟨ca, oc, vs, t, e, g, r⟩ := h.code; ⟨ca, oc, vs, t, e, hG _ _ g, r⟩ }
theorem VRel.mono {c : Cx} {G G' : Imm} {φ φ' : List Loc} (hG : Imm.Sub G G') (hφ : Ext φ φ') {v : AVal} {v' : Value} (h : VRel c G φ v v') : VRel c G' φ' v v' :=
  VRel.rec (motive_1 := fun v v' _ => VRel c G' φ' v v') (motive_2 := fun v v' _ => VsRel c G' φ' v v') .none .bool .int .str .bytes (fun n e _ r => .tup n (hG _ _ e) r)
    (fun e => let ⟨l', e', h, _⟩ := hφ _ _ e; h ▸ .ref e') (fun e hc n hd r => .scr (hG _ _ e) hc n hd r) .fn .cls .bi .ty (fun t u v e => .rng t u v (hG _ _ e)) (fun l u hl hu e hc hd => .slc l u hl hu (hG _ _ e) hc hd)
    (fun e hd hf hx hg hc _ r => .gfn (hG _ _ e) hd (hf.mono hG) hx (fun p hp => Option.isSome_iff_exists.mpr ((Option.isSome_iff_exists.mp (hg p hp)).imp fun o ho => hG _ _ ho)) (fun i x v' h1 h2 => let ⟨ca, oc, q1, q2, q3⟩ := hc i x v' h1 h2; ⟨ca, oc, q1, hG _ _ q2, q3⟩) r)
    (fun e hd hf hx hg hc _ r => .lam (hG _ _ e) hd (hf.mono hG) hx (fun p hp => Option.isSome_iff_exists.mpr ((Option.isSome_iff_exists.mp (hg p hp)).imp fun o ho => hG _ _ ho)) (fun i x v' h1 h2 => let ⟨ca, oc, q1, q2, q3⟩ := hc i x v' h1 h2; ⟨ca, oc, q1, hG _ _ q2, q3⟩) r)
    (fun e hd sm _ r => .sd (hG _ _ e) hd sm r)
    .nil (fun _ _ h t => .cons h t) h
section
variable {c : Cx} {G : Imm} {φ : List Loc}
theorem VRel.noneE {motive : ∀ v', VRel c G φ .none v' → Prop} (none : motive .none .none) {v' : Value} (h : VRel c G φ .none v') : motive v' h := by cases h; exact none
theorem VRel.boolE {b : Bool} {motive : ∀ v', VRel c G φ (.bool b) v' → Prop} (bool : motive (.bool b) (.bool b)) {v' : Value} (h : VRel c G φ (.bool b) v') : motive v' h := by cases h; exact bool
theorem VRel.intE {i : Int} {motive : ∀ v', VRel c G φ (.int i) v' → Prop} (int : ∀ t, motive (.int i t) (.int i t)) {v' : Value} (h : VRel c G φ (.int i) v') : motive v' h := by cases h; exact int _
theorem VRel.strE {s : Str} {motive : ∀ v', VRel c G φ (.str s) v' → Prop} (str : ∀ t, motive (.str s t) (.str s t)) {v' : Value} (h : VRel c G φ (.str s) v') : motive v' h := by cases h; exact str _
theorem VRel.tupE {vs : List AVal} {motive : ∀ v', VRel c G φ (.tup vs) v' → Prop} (tup : ∀ {items : List Value} {a : Addr} (n : Nat) (e : G a = some { cls := .type "tuple", data := .seq items.toArray n }) (r : VsRel c G φ vs items), motive (.ref a) (.tup n e r)) {v' : Value} (h : VRel c G φ (.tup vs) v') : motive v' h := by cases h with | tup n e r => exact tup n e r
theorem VRel.refE {i : Nat} {motive : ∀ v', VRel c G φ (.ref i) v' → Prop} (ref : ∀ {l : Loc} (e : φ[i]? = some l), motive (.ref l.a) (.ref e)) {v' : Value} (h : VRel c G φ (.ref i) v') : motive v' h := by cases h with | ref e => exact ref e
theorem VRel.scrE {ns : List Int} {motive : ∀ v', VRel c G φ (.scr ns) v' → Prop} (scr : ∀ {items : List Value} {a : Addr} {o : Obj} (e : G a = some o) (hc : o.cls = .type "list") (n : Nat) (hd : o.data = .seq items.toArray n) (r : IntsAre items ns), motive (.ref a) (.scr e hc n hd r)) {v' : Value} (h : VRel c G φ (.scr ns) v') : motive v' h := by cases h with | scr e hc n hd r => exact scr e hc n hd r
theorem VRel.fnE {x : Str} {motive : ∀ v', VRel c G φ (.fn x) v' → Prop} (fn : ∀ {f : Fn} (e : c.fns x = some f), motive (.ref f.addr) (.fn e)) {v' : Value} (h : VRel c G φ (.fn x) v') : motive v' h := by cases h with | fn e => exact fn e
theorem VRel.clsE {motive : ∀ v', VRel c G φ .cls v' → Prop} (cls : motive (.ref c.C) .cls) {v' : Value} (h : VRel c G φ .cls v') : motive v' h := by cases h; exact cls
theorem VRel.biE {n : String} {motive : ∀ v', VRel c G φ (.bi n) v' → Prop} (bi : motive (.builtin n) (.bi n)) {v' : Value} (h : VRel c G φ (.bi n) v') : motive v' h := by cases h; exact bi
theorem VRel.tyE {n : String} {motive : ∀ v', VRel c G φ (.ty n) v' → Prop} (ty : motive (.type n) (.ty n)) {v' : Value} (h : VRel c G φ (.ty n) v') : motive v' h := by cases h; exact ty
theorem VRel.rngE {a b s : Int} {motive : ∀ v', VRel c G φ (.rng a b s) v' → Prop} (rng : ∀ {r : Addr} (t u v : Tok) (e : G r = some { cls := .type "range", data := .fields #[.int a t, .int b u, .int s v] }), motive (.ref r) (.rng t u v e)) {v' : Value} (h : VRel c G φ (.rng a b s) v') : motive v' h := by cases h with | rng t u v e => exact rng t u v e
theorem VsRel.nilE {motive : ∀ v', VsRel c G φ [] v' → Prop} (nil : motive [] .nil) {v' : List Value} (h : VsRel c G φ [] v') : motive v' h := by cases h; exact nil
theorem VsRel.consE {v : AVal} {vs : List AVal} {motive : ∀ v', VsRel c G φ (v :: vs) v' → Prop} (cons : ∀ {v' : Value} {vs' : List Value} (h : VRel c G φ v v') (t : VsRel c G φ vs vs'), motive (v' :: vs') (.cons h t)) {v' : List Value} (h : VsRel c G φ (v :: vs) v') : motive v' h := by cases h with | cons h t => exact cons h t
end
theorem VsRel.mono {c : Cx} {G G' : Imm} {φ φ' : List Loc} (hG : Imm.Sub G G') (hφ : Ext φ φ') : ∀ {v : List AVal} {v' : List Value}, VsRel c G φ v v' → VsRel c G' φ' v v' := fun {v} => by
  induction v with
  | nil => intro v' h; cases h using VsRel.nilE; exact .nil
  | cons x r ih => intro v' h; cases h using VsRel.consE with | cons h t => exact .cons (h.mono hG hφ) (ih t)
theorem VsRel.length {c : Cx} {G : Imm} {φ : List Loc} : ∀ {vs : List AVal} {vs' : List Value}, VsRel c G φ vs vs' → vs.length = vs'.length
  | _, _, .nil => rfl
  | _, _, .cons _ t => by simp [VsRel.length t]
theorem VsRel.get {c : Cx} {G : Imm} {φ : List Loc} : ∀ {vs : List AVal} {vs' : List Value}, VsRel c G φ vs vs' → ∀ {i : Nat} {v : AVal}, vs[i]? = some v → ∃ v', vs'[i]? = some v' ∧ VRel c G φ v v'
  | _, _, .nil, i, v, e => by simp at e
  | _, _, .cons h t, 0, v, e => by simp at e; subst e; exact ⟨_, rfl, h⟩
  | _, _, .cons h t, i + 1, v, e => by simp at e; simpa using VsRel.get t e
theorem VsRel.get_none {c : Cx} {G : Imm} {φ : List Loc} {vs : List AVal} {vs' : List Value} (r : VsRel c G φ vs vs') {i : Nat} (e : vs[i]? = none) : vs'[i]? = none := by
  rw [List.getElem?_eq_none_iff] at e ⊢; rw [← r.length]; exact e
theorem VsRel.append {c : Cx} {G : Imm} {φ : List Loc} : ∀ {a : List AVal} {a' : List Value} {b : List AVal} {b' : List Value}, VsRel c G φ a a' → VsRel c G φ b b' → VsRel c G φ (a ++ b) (a' ++ b')
  | _, _, _, _, .nil, y => y
  | _, _, _, _, .cons h t, y => .cons h (VsRel.append t y)
theorem VsRel.set {c : Cx} {G : Imm} {φ : List Loc} : ∀ {a : List AVal} {a' : List Value} {v : AVal} {v' : Value} (i : Nat), VsRel c G φ a a' → VRel c G φ v v' → VsRel c G φ (a.set i v) (a'.set i v')
  | _, _, _, _, _, .nil, _ => by simpa using VsRel.nil
  | _, _, _, _, 0, .cons h t, y => by simpa using VsRel.cons y t
  | _, _, _, _, i + 1, .cons h t, y => by simpa using VsRel.cons h (VsRel.set i t y)
theorem VsRel.ints {c : Cx} {G : Imm} {φ : List Loc} : ∀ {vs : List Value} {ns : List Int}, IntsAre vs ns → VsRel c G φ (ns.map .int) vs
  | _, _, .nil => .nil
  | _, _, .cons _ _ h => .cons (.int _ _) (VsRel.ints h)
structure GEnv (c : Cx) (G : Imm) (φ : List Loc) (k : GB) (ρ : Vars) (env : Env) (h : Heap) : Prop where
  kind : env.scope.kind = .function
  glob : env.globals = mainGlobals
  bi : env.builtins = builtinsNs
  nm : env.scope.names = k.names
  co : env.scope.isCoroutine = false
  nocell : ∀ p ∈ k.names, p.2 ≠ .cell
  ns : ∃ m, h.Ns env.locals m ∧ ∀ x v, k.names.lookup x = some .local → ρ x = some v → ∃ v', m x = some v' ∧ VRel c G φ v v'
  cell : ∀ x v, k.names.lookup x = some .free → ρ x = some v → ∃ a o v', env.cells.lookup x = some a ∧ G a = some o ∧ o.data = .cell (some v') ∧ VRel c G φ v v'
  cg : ∀ p ∈ env.cells, (G p.2).isSome
  nx : k.Names
theorem GEnv.mono {c : Cx} {G G' : Imm} {φ φ' : List Loc} {k : GB} {ρ : Vars} {env : Env} {h h' : Heap} (x : GEnv c G φ k ρ env h) (hG : Imm.Sub G G') (hφ : Ext φ φ') (hk : ∀ o, h.get? env.locals = some o → h'.get? env.locals = some o) : GEnv c G' φ' k ρ env h' where
  kind := x.kind
  glob := x.glob
  bi := x.bi
  nm := x.nm
  co := x.co
  nocell := x.nocell
  ns := by
    obtain ⟨m, hn, hv⟩ := x.ns
    obtain ⟨o, es, ep, ho, hr⟩ := hn
    exact ⟨m, ⟨o, es, ep, hk _ ho, hr⟩, fun y v h1 h2 => let ⟨v', e, r⟩ := hv y v h1 h2; ⟨v', e, r.mono hG hφ⟩⟩
  cell := fun y v h1 h2 => by
    obtain ⟨a, o, v', e, g, hd, r⟩ := x.cell y v h1 h2
    exact ⟨a, o, v', e, hG _ _ g, hd, r.mono hG hφ⟩
  cg := fun p hp => by
    obtain ⟨o, ho⟩ := Option.isSome_iff_exists.mp (x.cg p hp)
    rw [hG _ _ ho]; rfl
  nx := x.nx
inductive ItRaw (c : Cx) (G : Imm) (φ : List Loc) (h : Heap) : AIt → Value → List Addr → Prop
  | seq {v : AVal} {i : Nat} {I l : Addr} (hI : h.IsListIter I l i) (V : VRel c G φ v (.ref l)) : ItRaw c G φ h (.seq v i) (.ref I) [I]
  | obj {i : Nat} {l : Loc} (e : φ[i]? = some l) : ItRaw c G φ h (.obj i) (.ref l.a) []
theorem ItRaw.mono {c : Cx} {G G' : Imm} {φ φ' : List Loc} {h h' : Heap} {it : AIt} {it' : Value} {pr : List Addr} (x : ItRaw c G φ h it it' pr) (hG : Imm.Sub G G') (hφ : Ext φ φ') (hk : ∀ a ∈ pr, ∀ o, h.get? a = some o → h'.get? a = some o) : ItRaw c G' φ' h' it it' pr := by
  cases x with
  | seq hI V =>
    obtain ⟨o, ho, r⟩ := hI
    exact .seq ⟨o, hk _ (.head _) _ ho, r⟩ (V.mono hG hφ)
  | obj e =>
    obtain ⟨l', e', ha, _⟩ := hφ _ _ e
    rw [← ha]; exact .obj e'
structure FsOk (c : Cx) (fs : List Frame) : Prop where
  fin : ∀ A Φ s cd', Φ (.ret (.ok (.ret .none))) s → SegX (model c.prog c.w) A cd' (leafOf (.ok .next)) fs s Φ
  sp : splitAtGen fs = none
  gu : fs.any Frame.guarded = false
  hd : (marksOver fs (none, none)).1 = none
  fc : frameCount (fs.map Frame.where_) ≤ 2
  un : unitsOf (fs.map Frame.where_) ≤ 20
noncomputable def GSusp (c : Cx) (k : GB) (env : Env) (it' : Value) (gs : GenState) : Prop :=
  ∃ kk l0 cd p fs px lb, gs = .suspended kk l0 cd p fs false ∧ GLoop k lb ∧ FsOk c fs ∧
    ∀ A Φ s, SegX (model c.prog c.w) A (.forLoop (.Name k.x px) it' lb [] env) (denote table (.forLoop (.Name k.x px) it' lb [] env)) fs s Φ → SegX (model c.prog c.w) A cd (kk (.send .none)) fs s Φ
inductive ListO (c : Cx) (G : Imm) (φ : List Loc) (l : Loc) (vs : List AVal) (s : Shared) : Prop
  | mk (h1 : l.ps = []) (h2 : l.g = none) (items : List Value) (n : Nat) (e : s.heap.get? l.a = some { cls := .type "list", data := .seq items.toArray n }) (r : VsRel c G φ vs items)
inductive DictO {K : Type} [DecidableEq K] (c : Cx) (knd : KeyKind c.prog c.w K) (G : Imm) (φ : List Loc) (l : Loc) (kvs : List (K × AVal)) (s : Shared) : Prop
  | mk (h1 : l.ps = []) (h2 : l.g = none) (es : List (K × Value)) (e : s.heap.DictAt knd l.a es es.length) (hk : es.map (·.1) = kvs.map (·.1)) (r : VsRel c G φ (kvs.map (·.2)) (es.map (·.2))) (sm : (l.a == sysModules) = false)
noncomputable def AtsOk (c : Cx) (G : Imm) (φ : List Loc) (ats : List (Str × AVal)) (es : List DictEntry) : Prop :=
      ∀ x, match ats.lookup x with
        | some v => ∃ v', getL x es = some (some v') ∧ handedIn v' = true ∧ VRel c G φ v v'
        | .none => getL x es = some .none
inductive InstO (c : Cx) (G : Imm) (φ : List Loc) (l : Loc) (ats : List (Str × AVal)) (s : Shared) : Prop
  | mk (h1 : l.g = none) (d : Addr) (es : List DictEntry) (n : Nat) (h2 : l.ps = [d]) (h3 : s.heap.get? l.a = some (instObj c.C d)) (h4 : s.heap.get? d = some (dictOf es n)) (h5 : es.length = ats.length) (h6 : AtsOk c G φ ats es)
noncomputable def ORel (c : Cx) (G : Imm) (φ : List Loc) (l : Loc) (o : AObj) (s : Shared) : Prop :=
  match o with
  | .list vs => ListO c G φ l vs s
  | .inst ats => InstO c G φ l ats s
  | .dict kvs => DictO c (intKind c.prog c.w) G φ l kvs s
  | .sdict kvs => DictO c (strKind c.prog c.w) G φ l kvs s
  | .liter v i => l.ps = [] ∧ l.g = none ∧ ∃ la, VRel c G φ v (.ref la) ∧ s.heap.IsListIter l.a la i
  | .lend => l.ps = [] ∧ l.g = none ∧ ∃ o i, s.heap.get? l.a = some o ∧ o.cls = .type "list_iterator" ∧ o.data = .fields #[.none, i]
  | .gen k ρ st => ∃ g, l.g = some g ∧ s.heap.IsGen l.a g ∧ match st with
    | .done => l.ps = [] ∧ s.gens[g]? = some .finished
    | .run => l.ps = [] ∧ s.gens[g]? = some .running
    | .fresh => ∃ env body, s.gens[g]? = some (.fresh (.func body env)) ∧ l.ps = [env.locals] ∧ GBody k body ∧ GEnv c G φ k ρ env s.heap
    | .susp it => ∃ env it' pr gs, s.gens[g]? = some gs ∧ l.ps = env.locals :: pr ∧ GEnv c G φ k ρ env s.heap ∧ ItRaw c G φ s.heap it it' pr ∧ GSusp c k env it' gs
noncomputable def gfoot (φ : List Loc) : List Nat := φ.filterMap (·.g)
theorem mem_gfoot {φ : List Loc} {i : Nat} {l : Loc} {g : Nat} (h : φ[i]? = some l) (hg : l.g = some g) : g ∈ gfoot φ := List.mem_filterMap.mpr ⟨l, List.mem_of_getElem? h, hg⟩
noncomputable def TabOk (c : Cx) (G : Imm) (P : Addr) (h : Heap) : Prop := ∃ ps, h.get? P = some (tabObj ps) ∧ TriplesOk ps.toList ∧ ∀ pos cv, codeAmong pos ps.toList = some cv →
  ∃ ca oc vs t, cv = .ref ca ∧ G ca = some oc ∧ oc.data = .fields vs ∧ vs[1]? = some (.str (c.tq P) t)
theorem TabOk.mono {c : Cx} {G G' : Imm} {P : Addr} {h h' : Heap} (x : TabOk c G P h) (hG : Imm.Sub G G') (hk : ∀ o, h.get? P = some o → h'.get? P = some o) : TabOk c G' P h' :=
  let ⟨ps, e, t, r⟩ := x; ⟨ps, hk _ e, t, fun pos cv h1 => let ⟨ca, oc, vs, t, e, g, q⟩ := r pos cv h1; ⟨ca, oc, vs, t, e, hG _ _ g, q⟩⟩
structure Rel (c : Cx) (G : Imm) (φ : List Loc) (σ : St) (s : Shared) : Prop where
  gB : ∀ a o, c.B.get? a = some o → G a = some o
  gh : ∀ a o, G a = some o → s.heap.get? a = some o
  gf : ∀ a, a ∈ foot c φ → G a = none
  len : φ.length = σ.length
  nodup : (foot c φ).Nodup
  live : ∀ a ∈ foot c φ, (s.heap.get? a).isSome
  obj : ∀ (i : Nat) (l : Loc) (o : AObj), φ[i]? = some l → σ[i]? = some o → ORel c G φ l o s
  gn : (gfoot φ).Nodup
  bare : ∀ x ∈ s.gens, x.bare = true
  tab : ∀ q ∈ c.tabs, TabOk c G q.2 s.heap
structure Step (c : Cx) (own : List Addr) (G : Imm) (φ : List Loc) (s : Shared) (G' : Imm) (φ' : List Loc) (s' : Shared) : Prop where
  g : Imm.Sub G G'
  ext : Ext φ φ'
  foot : ∀ b ∈ foot c φ', b ∈ Mini.foot c φ ∨ s.heap.get? b = none
  dom : ∀ b o, G' b = some o → G b = some o ∨ s.heap.get? b = none
  frame : ∀ b o, b ∉ Mini.foot c φ → b ∉ own → s.heap.get? b = some o → s'.heap.get? b = some o
  keep : ∀ b, (s.heap.get? b).isSome → (s'.heap.get? b).isSome
  os : s'.os = s.os
  gsz : s.gens.size ≤ s'.gens.size
  gfr : ∀ k, k ∉ gfoot φ → k < s.gens.size → s'.gens[k]? = s.gens[k]?
  gft : ∀ k ∈ gfoot φ', k ∈ gfoot φ ∨ s.gens.size ≤ k
theorem Step.refl (c : Cx) (own : List Addr) (G : Imm) (φ : List Loc) (s : Shared) : Step c own G φ s G φ s :=
  ⟨fun _ _ e => e, .refl _, fun _ h => .inl h, fun _ _ e => .inl e, fun _ _ _ _ e => e, fun _ h => h, rfl, Nat.le_refl _, fun _ _ _ => rfl, fun _ h => .inl h⟩
theorem none_of_isSome {α : Type} {x : Option α} {P : Prop} (h : x.isSome = true) (e : x = none) : P := by rw [e] at h; cases h
theorem Step.trans {c : Cx} {own own' : List Addr} {G₁ G₂ G₃ : Imm} {φ₁ φ₂ φ₃ : List Loc} {s₁ s₂ s₃ : Shared} (x : Step c own G₁ φ₁ s₁ G₂ φ₂ s₂) (y : Step c own' G₂ φ₂ s₂ G₃ φ₃ s₃)
    (ho : ∀ b ∈ own', b ∈ own ∨ s₁.heap.get? b = none) : Step c own G₁ φ₁ s₁ G₃ φ₃ s₃ where
  g := fun a o e => y.g a o (x.g a o e)
  ext := x.ext.trans y.ext
  foot := fun b h => by
    rcases y.foot b h with h | h
    · exact x.foot b h
    · refine .inr ?_
      cases q : s₁.heap.get? b with
      | none => rfl
      | some o => exact none_of_isSome (x.keep b (by rw [q]; rfl)) h
  dom := fun b o e => by
    rcases y.dom b o e with h | h
    · exact x.dom b o h
    · refine .inr ?_
      cases q : s₁.heap.get? b with
      | none => rfl
      | some o => exact none_of_isSome (x.keep b (by rw [q]; rfl)) h
  frame := fun b o h1 h2 e => by
    refine y.frame b o (fun h => ?_) (fun h => ?_) (x.frame b o h1 h2 e)
    · rcases x.foot b h with h | h
      · exact h1 h
      · rw [h] at e; cases e
    · rcases ho b h with h | h
      · exact h2 h
      · rw [h] at e; cases e
  keep := fun b h => y.keep b (x.keep b h)
  os := y.os.trans x.os
  gsz := Nat.le_trans x.gsz y.gsz
  gfr := fun k h1 h2 => by
    refine (y.gfr k (fun q => ?_) (Nat.lt_of_lt_of_le h2 x.gsz)).trans (x.gfr k h1 h2)
    rcases x.gft k q with q | q
    · exact h1 q
    · lia
  gft := fun k h => by
    rcases y.gft k h with h | h
    · exact x.gft k h
    · exact .inr (Nat.le_trans x.gsz h)
theorem Step.trans' {c : Cx} {own : List Addr} {G₁ G₂ G₃ : Imm} {φ₁ φ₂ φ₃ : List Loc} {s₁ s₂ s₃ : Shared} (x : Step c own G₁ φ₁ s₁ G₂ φ₂ s₂) (y : Step c own G₂ φ₂ s₂ G₃ φ₃ s₃) : Step c own G₁ φ₁ s₁ G₃ φ₃ s₃ :=
  x.trans y fun _ h => .inl h
theorem Step.weaken {c : Cx} {own own' : List Addr} {G₁ G₂ : Imm} {φ₁ φ₂ : List Loc} {s₁ s₂ : Shared} (x : Step c own G₁ φ₁ s₁ G₂ φ₂ s₂) (h : ∀ b ∈ own, b ∈ own') : Step c own' G₁ φ₁ s₁ G₂ φ₂ s₂ :=
  { x with frame := fun b o h1 h2 e => x.frame b o h1 (fun q => h2 (h b q)) e }
noncomputable def OwnOk (c : Cx) (G : Imm) (φ : List Loc) (own : List Addr) (s : Shared) : Prop := ∀ a ∈ own, a ∉ foot c φ ∧ G a = none ∧ (s.heap.get? a).isSome
theorem OwnOk.step {c : Cx} {own own' : List Addr} {G₁ G₂ : Imm} {φ₁ φ₂ : List Loc} {s₁ s₂ : Shared} (h : OwnOk c G₁ φ₁ own s₁) (x : Step c own' G₁ φ₁ s₁ G₂ φ₂ s₂) : OwnOk c G₂ φ₂ own s₂ := fun a ha => by
  obtain ⟨h1, h2, h3⟩ := h a ha
  refine ⟨fun q => ?_, ?_, x.keep a h3⟩
  · rcases x.foot a q with q | q
    · exact h1 q
    · exact none_of_isSome h3 q
  · cases q : G₂ a with
    | none => rfl
    | some o =>
      rcases x.dom a o q with q | q
      · rw [h2] at q; cases q
      · exact none_of_isSome h3 q
theorem DictO.frame {K : Type} [DecidableEq K] {c : Cx} {knd : KeyKind c.prog c.w K} {G G' : Imm} {φ φ' : List Loc} {l : Loc} {kvs : List (K × AVal)} {s s' : Shared} (hG : Imm.Sub G G') (hφ : Ext φ φ') (h : DictO c knd G φ l kvs s)
    (k : ∀ o, s.heap.get? l.a = some o → s'.heap.get? l.a = some o) : DictO c knd G' φ' l kvs s' := by
  obtain ⟨h1, h2, es, e, hk, r, sm⟩ := h
  obtain ⟨o, en, ho, hr⟩ := e
  exact ⟨h1, h2, es, ⟨o, en, k o ho, hr⟩, hk, r.mono hG hφ, sm⟩
theorem ORel.frame {c : Cx} {G G' : Imm} {φ φ' : List Loc} {l : Loc} {o : AObj} {s s' : Shared} (hG : Imm.Sub G G') (hφ : Ext φ φ') (h : ORel c G φ l o s)
    (k : ∀ a o, a ∈ l.a :: l.ps → s.heap.get? a = some o → s'.heap.get? a = some o) (kg : ∀ g, l.g = some g → s'.gens[g]? = s.gens[g]?) : ORel c G' φ' l o s' := by
  cases o with
  | list vs =>
    obtain ⟨h1, h2, items, n, h3, h4⟩ := h
    exact ⟨h1, h2, items, n, k _ _ (.head _) h3, h4.mono hG hφ⟩
  | dict kvs => exact DictO.frame hG hφ h fun o e => k _ o (.head _) e
  | sdict kvs => exact DictO.frame hG hφ h fun o e => k _ o (.head _) e
  | inst ats =>
    obtain ⟨h1, d, es, n, h2, h3, h4, h5, h6⟩ := h
    refine ⟨h1, d, es, n, h2, k _ _ (.head _) h3, k _ _ (by rw [h2]; exact .tail _ (.head _)) h4, h5, fun x => ?_⟩
    have h7 := h6 x
    cases q : ats.lookup x with
    | none => rw [q] at h7; exact h7
    | some v => rw [q] at h7; obtain ⟨v', e1, e2, e3⟩ := h7; exact ⟨v', e1, e2, e3.mono hG hφ⟩
  | liter v i =>
    obtain ⟨h1, h2, la, h3, h4⟩ := h
    obtain ⟨o, ho, hr⟩ := h4
    exact ⟨h1, h2, la, h3.mono hG hφ, o, k _ _ (.head _) ho, hr⟩
  | lend =>
    obtain ⟨h1, h2, o, i, ho, hr⟩ := h
    exact ⟨h1, h2, o, i, k _ _ (.head _) ho, hr⟩
  | gen b ρ st =>
    obtain ⟨g, h1, h2, h3⟩ := h
    obtain ⟨oo, nm, qn, ho, hr⟩ := h2
    refine ⟨g, h1, ⟨oo, nm, qn, k _ _ (.head _) ho, hr⟩, ?_⟩
    have e := kg g h1
    cases st with
    | done => exact ⟨h3.1, e.trans h3.2⟩
    | run => exact ⟨h3.1, e.trans h3.2⟩
    | fresh =>
      obtain ⟨env, body, q1, q2, q3, q4⟩ := h3
      exact ⟨env, body, e.trans q1, q2, q3, q4.mono hG hφ fun o => k _ o (by rw [q2]; exact .tail _ (.head _))⟩
    | susp it =>
      obtain ⟨env, it', pr, gs, q1, q2, q3, q4, q5⟩ := h3
      exact ⟨env, it', pr, gs, e.trans q1, q2, q3.mono hG hφ (fun o => k _ o (by rw [q2]; exact .tail _ (.head _))), q4.mono hG hφ (fun a ha o => k _ o (by rw [q2]; exact .tail _ (.tail _ ha))), q5⟩
theorem mem_foot {c : Cx} {φ : List Loc} {i : Nat} {l : Loc} (h : φ[i]? = some l) {a : Addr} (ha : a ∈ l.a :: l.ps) : a ∈ foot c φ :=
  List.mem_append_right _ (List.mem_flatMap.mpr ⟨l, List.mem_of_getElem? h, ha⟩)
theorem mem_tab {c : Cx} {φ : List Loc} {q : Addr × Addr} (h : q ∈ c.tabs) : q.2 ∈ foot c φ := List.mem_append_left _ (List.mem_map_of_mem h)
theorem Rel.same {c : Cx} {G : Imm} {φ : List Loc} {σ : St} {s s' : Shared} (R : Rel c G φ σ s)
    (k : ∀ a o, (a ∈ foot c φ ∨ (G a).isSome) → s.heap.get? a = some o → s'.heap.get? a = some o) (hg : s'.gens = s.gens := by rfl) : Rel c G φ σ s' where
  gB := R.gB
  gh := fun a o e => k a o (.inr (by rw [e]; rfl)) (R.gh a o e)
  gf := R.gf
  len := R.len
  nodup := R.nodup
  live := fun a ha => by
    obtain ⟨o, ho⟩ := Option.isSome_iff_exists.mp (R.live a ha)
    rw [k a o (.inl ha) ho]; rfl
  obj := fun i l o h1 h2 => (R.obj i l o h1 h2).frame (fun _ _ e => e) (.refl _) (fun a o' ha e => k a o' (.inl (mem_foot h1 ha)) e) fun _ _ => by rw [hg]
  gn := R.gn
  bare := by rw [hg]; exact R.bare
  tab := fun q hq => (R.tab q hq).mono (fun _ _ e => e) fun o e => k _ o (.inl (mem_tab hq)) e
theorem Rel.keepB {c : Cx} {G : Imm} {φ : List Loc} {σ : St} {s : Shared} (R : Rel c G φ σ s) : ∀ b o, c.B.get? b = some o → s.heap.get? b = some o := fun b o e => R.gh b o (R.gB b o e)
theorem Rel.push {c : Cx} {G : Imm} {φ : List Loc} {σ : St} {s : Shared} (R : Rel c G φ σ s) (o : Obj) : Rel c G φ σ { s with heap := s.heap.push o } :=
  R.same fun _ _ _ e => Heap.get?_push_of_some _ e
theorem Rel.toks {c : Cx} {G : Imm} {φ : List Loc} {σ : St} {s : Shared} (R : Rel c G φ σ s) (t : Nat) : Rel c G φ σ { s with toks := t } := R.same fun _ _ _ e => e
theorem get?_size (h : Heap) : h.get? h.objs.size = none := by
  cases q : h.get? h.objs.size with
  | none => rfl
  | some o => exact absurd (Heap.lt_size q) (Nat.lt_irrefl _)
noncomputable def Imm.add (G : Imm) (a : Addr) (o : Obj) : Imm := fun b => if b = a then some o else G b
theorem Imm.add_self (G : Imm) (a : Addr) (o : Obj) : (G.add a o) a = some o := by simp [Imm.add]
theorem Rel.fresh_G {c : Cx} {G : Imm} {φ : List Loc} {σ : St} {s : Shared} (R : Rel c G φ σ s) {a : Addr} (h : s.heap.get? a = none) : G a = none := by
  cases q : G a with
  | none => rfl
  | some o => rw [R.gh a o q] at h; cases h
theorem Rel.fresh_foot {c : Cx} {G : Imm} {φ : List Loc} {σ : St} {s : Shared} (R : Rel c G φ σ s) {a : Addr} (h : s.heap.get? a = none) : a ∉ foot c φ := fun q => none_of_isSome (R.live a q) h
theorem Rel.pushG {c : Cx} {G : Imm} {φ : List Loc} {σ : St} {s : Shared} (R : Rel c G φ σ s) (o : Obj) (hf : o.isFreed = false) :
    Rel c (G.add s.heap.objs.size o) φ σ { s with heap := s.heap.push o } where
  gB := fun a o' e => by
    unfold Imm.add
    split
    · rename_i h; subst h; have q := R.gB _ _ e; rw [R.fresh_G (get?_size _)] at q; cases q
    · exact R.gB a o' e
  gh := fun a o' e => by
    unfold Imm.add at e
    split at e
    · rename_i h; subst h; cases e; exact Heap.get?_push_size _ hf
    · exact Heap.get?_push_of_some _ (R.gh a o' e)
  gf := fun a ha => by
    unfold Imm.add
    split
    · rename_i h; subst h; exact absurd ha (R.fresh_foot (get?_size _))
    · exact R.gf a ha
  len := R.len
  nodup := R.nodup
  live := (R.push o).live
  obj := fun i l o' h1 h2 => ((R.push o).obj i l o' h1 h2).frame (fun a x e => by
      unfold Imm.add
      split
      · rename_i h; subst h; rw [R.fresh_G (get?_size _)] at e; cases e
      · exact e) (.refl _) (fun _ _ _ e => e) fun _ _ => rfl
  gn := R.gn
  bare := R.bare
  tab := fun q hq => ((R.push o).tab q hq).mono (fun a x e => by
      unfold Imm.add
      split
      · rename_i h; subst h; rw [R.fresh_G (get?_size _)] at e; cases e
      · exact e) fun _ e => e
theorem Imm.sub_add {G : Imm} {a : Addr} {o : Obj} (h : G a = none) : Imm.Sub G (G.add a o) := fun b x e => by
  unfold Imm.add
  split
  · rename_i q; subst q; rw [h] at e; cases e
  · exact e
theorem step_pushG {c : Cx} {own : List Addr} {G : Imm} {φ : List Loc} {σ : St} {s : Shared} (R : Rel c G φ σ s) (o : Obj) : Step c own G φ s (G.add s.heap.objs.size o) φ { s with heap := s.heap.push o } where
  g := Imm.sub_add (R.fresh_G (get?_size _))
  ext := .refl _
  foot := fun _ h => .inl h
  dom := fun b o' e => by
    unfold Imm.add at e
    split at e
    · rename_i h; subst h; exact .inr (get?_size _)
    · exact .inl e
  frame := fun b o' _ _ e => Heap.get?_push_of_some _ e
  keep := fun b h => by obtain ⟨x, hx⟩ := Option.isSome_iff_exists.mp h; rw [Heap.get?_push_of_some _ hx]; rfl
  os := rfl
  gsz := Nat.le_refl _
  gfr := fun _ _ _ => rfl
  gft := fun _ h => .inl h
theorem step_push {c : Cx} {own : List Addr} {G : Imm} {φ : List Loc} {s : Shared} (o : Obj) : Step c own G φ s G φ { s with heap := s.heap.push o } where
  g := fun _ _ e => e
  ext := .refl _
  foot := fun _ h => .inl h
  dom := fun _ _ e => .inl e
  frame := fun b o' _ _ e => Heap.get?_push_of_some _ e
  keep := fun b h => by obtain ⟨x, hx⟩ := Option.isSome_iff_exists.mp h; rw [Heap.get?_push_of_some _ hx]; rfl
  os := rfl
  gsz := Nat.le_refl _
  gfr := fun _ _ _ => rfl
  gft := fun _ h => .inl h
theorem step_toks {c : Cx} {own : List Addr} {G : Imm} {φ : List Loc} {s : Shared} (t : Nat) : Step c own G φ s G φ { s with toks := t } := { Step.refl c own G φ s with }
theorem Rel.glt {c : Cx} {G : Imm} {φ : List Loc} {σ : St} {s : Shared} (R : Rel c G φ σ s) {k : Nat} (h : k ∈ gfoot φ) : k < s.gens.size := by
  obtain ⟨l, hl, hg⟩ := List.mem_filterMap.mp h
  obtain ⟨i, hi⟩ := List.getElem?_of_mem hl
  have hlt := (List.getElem?_eq_some_iff.mp hi).1
  rw [R.len] at hlt
  have q := R.obj i l σ[i] hi (List.getElem?_eq_getElem hlt)
  have lt : ∀ {x : GenState}, s.gens[k]? = some x → k < s.gens.size := fun e => (Array.getElem?_eq_some_iff.mp e).1
  cases ho : σ[i] with
  | list vs => rw [ho] at q; obtain ⟨_, h2, _⟩ := q; rw [h2] at hg; cases hg
  | dict vs => rw [ho] at q; obtain ⟨_, h2, _⟩ := q; rw [h2] at hg; cases hg
  | sdict vs => rw [ho] at q; obtain ⟨_, h2, _⟩ := q; rw [h2] at hg; cases hg
  | inst ats => rw [ho] at q; obtain ⟨h1, _⟩ := q; rw [h1] at hg; cases hg
  | liter v j => rw [ho] at q; rw [q.2.1] at hg; cases hg
  | lend => rw [ho] at q; rw [q.2.1] at hg; cases hg
  | gen b ρ st =>
    rw [ho] at q
    obtain ⟨g, e, _, q⟩ := q
    rw [hg] at e; cases e
    cases st with
    | done => exact lt q.2
    | run => exact lt q.2
    | fresh => obtain ⟨_, _, e, _⟩ := q; exact lt e
    | susp it => obtain ⟨_, _, _, _, e, _⟩ := q; exact lt e
theorem foot_append (c : Cx) (φ : List Loc) (l : Loc) : foot c (φ ++ [l]) = foot c φ ++ (l.a :: l.ps) := by simp [foot]
theorem Rel.add {c : Cx} {G : Imm} {φ : List Loc} {σ : St} {s s' : Shared} (R : Rel c G φ σ s) {l : Loc} {o : AObj}
    (k : ∀ a x, s.heap.get? a = some x → s'.heap.get? a = some x) (hn : ∀ a ∈ l.a :: l.ps, s.heap.get? a = none) (hd : (l.a :: l.ps).Nodup) (hl : ∀ a ∈ l.a :: l.ps, (s'.heap.get? a).isSome)
    (ho : ORel c G (φ ++ [l]) l o s') (hb : (∀ x ∈ s.gens, x.bare = true) → ∀ x ∈ s'.gens, x.bare = true := by exact fun h => h) (hg : ∀ k, k < s.gens.size → s'.gens[k]? = s.gens[k]? := by exact fun _ _ => rfl) (hln : ∀ g, l.g = some g → s.gens.size ≤ g := by exact fun _ h => nomatch h) : Rel c G (φ ++ [l]) (σ ++ [o]) s' where
  gB := R.gB
  gh := fun a x e => k a x (R.gh a x e)
  gf := fun a ha => by
    rw [foot_append] at ha
    rcases List.mem_append.mp ha with ha | ha
    · exact R.gf a ha
    · exact R.fresh_G (hn a ha)
  len := by simp [R.len]
  nodup := by
    rw [foot_append]
    refine List.nodup_append.mpr ⟨R.nodup, hd, fun a ha b hb e => ?_⟩
    subst e
    exact R.fresh_foot (hn a hb) ha
  live := fun a ha => by
    rw [foot_append] at ha
    rcases List.mem_append.mp ha with ha | ha
    · obtain ⟨x, hx⟩ := Option.isSome_iff_exists.mp (R.live a ha)
      rw [k a x hx]; rfl
    · exact hl a ha
  obj := fun i l' o' h1 h2 => by
    by_cases hi : i < φ.length
    · rw [List.getElem?_append_left hi] at h1
      rw [List.getElem?_append_left (by rw [← R.len]; exact hi)] at h2
      exact (R.obj i l' o' h1 h2).frame (fun _ _ e => e) (.append _ _) (fun a x _ e => k a x e) fun g hl => hg g (R.glt (mem_gfoot h1 hl))
    · have hi' := Nat.le_of_not_lt hi
      rw [List.getElem?_append_right hi'] at h1
      rw [List.getElem?_append_right (by rw [← R.len]; exact hi')] at h2
      rw [← R.len] at h2
      cases q : i - φ.length with
      | zero => rw [q] at h1 h2; simp at h1 h2; subst h1; subst h2; exact ho
      | succ j => rw [q] at h1; simp at h1
  gn := by
    unfold gfoot
    rw [List.filterMap_append]
    refine List.nodup_append.mpr ⟨R.gn, ?_, fun a ha b hb e => ?_⟩
    · cases q : l.g <;> simp [q]
    · subst e
      have h1 := R.glt ha
      simp only [List.filterMap_cons, List.filterMap_nil] at hb
      cases q : l.g with
      | none => rw [q] at hb; cases hb
      | some g =>
        rw [q] at hb
        cases List.mem_singleton.mp hb
        have := hln _ q
        lia
  bare := hb R.bare
  tab := fun q hq => (R.tab q hq).mono (fun _ _ e => e) fun o e => k _ o e
theorem step_add {c : Cx} {own : List Addr} {G : Imm} {φ : List Loc} {s s' : Shared} {l : Loc}
    (k : ∀ a x, s.heap.get? a = some x → s'.heap.get? a = some x) (hn : ∀ a ∈ l.a :: l.ps, s.heap.get? a = none) (os : s'.os = s.os) (hg : ∀ k, k < s.gens.size → s'.gens[k]? = s.gens[k]? := by exact fun _ _ => rfl) (hz : s.gens.size ≤ s'.gens.size := by exact Nat.le_refl _) (hln : ∀ g, l.g = some g → s.gens.size ≤ g := by exact fun _ h => nomatch h) : Step c own G φ s G (φ ++ [l]) s' where
  g := fun _ _ e => e
  ext := .append _ _
  foot := fun b h => by
    rw [foot_append] at h
    rcases List.mem_append.mp h with h | h
    · exact .inl h
    · exact .inr (hn b h)
  dom := fun _ _ e => .inl e
  frame := fun b o _ _ e => k b o e
  keep := fun b h => by obtain ⟨x, hx⟩ := Option.isSome_iff_exists.mp h; rw [k b x hx]; rfl
  os := os
  gsz := hz
  gfr := fun k _ h => hg k h
  gft := fun k h => by
    unfold gfoot at h
    rw [List.filterMap_append] at h
    rcases List.mem_append.mp h with h | h
    · exact .inl h
    · refine .inr ?_
      simp only [List.filterMap_cons, List.filterMap_nil] at h
      cases q : l.g with
      | none => rw [q] at h; cases h
      | some g =>
        rw [q] at h
        cases List.mem_singleton.mp h
        exact hln _ q
structure LocRel (c : Cx) (G : Imm) (φ : List Loc) (env : Env) (ρ : Vars) (h : Heap) : Prop where
  kind : env.scope.kind = .function
  glob : env.globals = mainGlobals
  bi : env.builtins = builtinsNs
  ns : ∃ m, h.Ns env.locals m ∧ ∀ x v, env.kindOf x = some .local → ρ x = some v → ∃ v', m x = some v' ∧ VRel c G φ v v'
  cell : ∀ x v, (env.kindOf x = some .cell ∨ env.kindOf x = some .free) → ρ x = some v → ∃ a v', env.cells.lookup x = some a ∧ h.IsCell a (some v') ∧ VRel c G φ v v'
theorem LocRel.keeps {c : Cx} {G G' : Imm} {φ φ' : List Loc} {env : Env} {ρ : Vars} {h h' : Heap} (R : LocRel c G φ env ρ h) (hG : Imm.Sub G G') (hφ : Ext φ φ')
    (k : ∀ a o, (a = env.locals ∨ ∃ x, env.cells.lookup x = some a) → h.get? a = some o → h'.get? a = some o) : LocRel c G' φ' env ρ h' where
  kind := R.kind
  glob := R.glob
  bi := R.bi
  ns := by
    obtain ⟨m, hn, hv⟩ := R.ns
    obtain ⟨o, es, ep, ho, hr⟩ := hn
    exact ⟨m, ⟨o, es, ep, k _ _ (.inl rfl) ho, hr⟩, fun x v h1 h2 => let ⟨v', e, r⟩ := hv x v h1 h2; ⟨v', e, r.mono hG hφ⟩⟩
  cell := fun x v h1 h2 => by
    obtain ⟨a, v', e, ⟨o, ho, hd⟩, r⟩ := R.cell x v h1 h2
    exact ⟨a, v', e, ⟨o, k _ _ (.inr ⟨x, e⟩) ho, hd⟩, r.mono hG hφ⟩
noncomputable def owns (env : Env) : List Addr := env.locals :: env.cells.filterMap fun p => env.cells.lookup p.1
theorem mem_of_look {x : Str} {a : Addr} : ∀ {l : List (Str × Addr)}, l.lookup x = some a → (x, a) ∈ l
  | [], h => by cases h
  | p :: r, h => by
    rw [List.lookup_cons] at h
    split at h
    · rename_i q; cases h; have := eq_of_beq q; subst this; exact .head _
    · exact .tail _ (mem_of_look h)
theorem mem_owns {env : Env} {a : Addr} (h : a = env.locals ∨ ∃ x, env.cells.lookup x = some a) : a ∈ owns env := by
  rcases h with rfl | ⟨x, h⟩
  · exact .head _
  · exact .tail _ (List.mem_filterMap.mpr ⟨(x, a), mem_of_look h, h⟩)
theorem of_owns {env : Env} {a : Addr} (h : a ∈ owns env) : a = env.locals ∨ ∃ x, env.cells.lookup x = some a := by
  rcases List.mem_cons.mp h with rfl | h
  · exact .inl rfl
  · obtain ⟨p, _, hp⟩ := List.mem_filterMap.mp h
    exact .inr ⟨p.1, hp⟩
structure Owns (c : Cx) (G : Imm) (φ : List Loc) (env : Env) (s : Shared) : Prop where
  loc : OwnOk c G φ [env.locals] s
  cel : ∀ x a, env.cells.lookup x = some a → a ∉ foot c φ ∧ (s.heap.get? a).isSome ∧ (env.kindOf x = some .cell → if c.frz x = true then (G a).isSome = true else G a = none)
theorem Owns.away {c : Cx} {G : Imm} {φ : List Loc} {env : Env} {s : Shared} (O : Owns c G φ env s) {a : Addr} (h : a ∈ owns env) : a ∉ foot c φ ∧ (s.heap.get? a).isSome := by
  rcases of_owns h with rfl | ⟨x, h⟩
  · exact ⟨(O.loc _ (.head _)).1, (O.loc _ (.head _)).2.2⟩
  · exact ⟨(O.cel x a h).1, (O.cel x a h).2.1⟩
theorem Owns.step {c : Cx} {own' : List Addr} {G₁ G₂ : Imm} {φ₁ φ₂ : List Loc} {env : Env} {s₁ s₂ : Shared} (h : Owns c G₁ φ₁ env s₁) (x : Step c own' G₁ φ₁ s₁ G₂ φ₂ s₂) : Owns c G₂ φ₂ env s₂ where
  loc := h.loc.step x
  cel := fun y a ha => by
    obtain ⟨h1, h3, h2⟩ := h.cel y a ha
    refine ⟨fun q => ?_, x.keep a h3, fun hk => ?_⟩
    · rcases x.foot a q with q | q
      · exact h1 q
      · exact none_of_isSome h3 q
    · have h2 := h2 hk
      split at h2
      · rename_i hf
        rw [if_pos hf]
        obtain ⟨o, ho⟩ := Option.isSome_iff_exists.mp h2
        rw [x.g _ _ ho]; rfl
      · rename_i hf
        rw [if_neg hf]
        cases q : G₂ a with
        | none => rfl
        | some o =>
          rcases x.dom a o q with q | q
          · rw [h2] at q; cases q
          · exact none_of_isSome h3 q
theorem LocRel.step {c : Cx} {G G' : Imm} {φ φ' : List Loc} {env : Env} {ρ : Vars} {s s' : Shared} (L : LocRel c G φ env ρ s.heap) (O : Owns c G φ env s) (S : Step c [] G φ s G' φ' s') : LocRel c G' φ' env ρ s'.heap :=
  L.keeps S.g S.ext fun a o ha e => S.frame a o (O.away (mem_owns ha)).1 (fun h => nomatch h) e
end Mini
namespace Mini
open PySem PySem.W PyProof PyProof.Rows PySem.Calls
structure GoodA (d : Nat) (A : Around) : Prop where
  hh : A.handled = none
  depth : A.depth + 4 * d < 900
  units : A.units + 40 * d < 9000
theorem GoodA.room {d : Nat} {A : Around} (h : GoodA d A) : A.depth < recursionLimit := by have := h.depth; unfold recursionLimit; lia
structure FnOk (c : Cx) (f : Fn) (ps : List Str) (body : List Stmt) (names : List (Str × NameKind)) : Prop where
  o : ∃ o, c.B.get? f.addr = some o ∧ o.data = .func f.fd
  code : c.B.CodeRec f.fd.code f.fd.qualname
  body : f.fd.body = .stmts body
  clo : f.fd.closure = []
  nm : f.fd.scope.names = names
  co : f.fd.scope.isCoroutine = false
  gen : f.fd.scope.isGenerator = false
  kind : f.fd.scope.kind = .function
  glob : f.fd.globals = mainGlobals
  bi : f.fd.builtins = builtinsNs
  bind : ∀ vs', vs'.length = ps.length → bindArgs f.fd ⟨vs', []⟩ = pure (ps.zip vs')
  nodup : ps.Nodup
  pk : ∀ x ∈ ps, names.lookup x = some .local ∨ names.lookup x = some .cell
  nofree : ∀ x, names.lookup x ≠ some .free
  cells : ∀ x, names.lookup x = some .cell → ∀ n, ((cellsFrom n names []).lookup x).isSome = true
structure MkOk (c : Cx) (f : Fn) (nm : Str) (q : Addr × Addr) : Prop where
  mem : q ∈ c.tabs
  code : f.fd.code = .ref q.1
  hd : CodeHd c.B q.1 q.2
  tq : c.tq q.2 = f.fd.qualname ++ ".<locals>." ++ nm
  bi : c.B.BuiltinsAt c.mg q.2
  ng : mainGlobals ≠ q.2
  own : ∀ L p, p ∈ cellsFrom L f.fd.scope.names [] → (cellsFrom L f.fd.scope.names []).lookup p.1 = some p.2 → f.fd.scope.names.lookup p.1 = some .cell
structure COk (c : Cx) (P : PI) : Prop where
  ok : CxOk c
  glob : ∀ x v, P.glob x = some v → ∃ v', (c.mg x = some v' ∨ (c.mg x = none ∧ c.mb x = some v')) ∧ ∀ G φ, VRel c G φ v v'
  ga : findIn c.K (.ref c.C) "__getattribute__" = some (some (.builtin "object.__getattribute__"))
  sa : findIn c.K (.ref c.C) "__setattr__" = some (some (.builtin "object.__setattr__"))
  po : plainOver c.K c.C = true
  hd : hasDictIn c.K c.C = true
  attr : ∀ x, P.attrOk x = true → takerIn c.K c.C x = some none ∧ ∃ a, findIn c.K (.ref c.C) x = some a ∧ noGet c.K a = true
  fn : ∀ x ps body names, P.fn x = some (ps, body, names) → ∃ f, c.fns x = some f ∧ FnOk c f ps body names
  maker : ∀ x nm f, P.maker x = some nm → c.fns x = some f → ∃ q, MkOk c f nm q
  fo : ∀ x f, c.fns x = some f → ∃ o fd, c.B.get? f.addr = some o ∧ o.data = .func fd
  mi : makesIn c.K c.C = true
  frz : c.frz = P.frz
  cn : ∀ x, P.clsNone x = true → findIn c.K (.ref c.C) x = some (some .none) ∧ specialIn c.K .none "__get__" = some none ∧ copiedNames.contains x = false
  ca : ∀ x, P.callAttr x = true → findIn c.K (.ref c.C) x = some none ∧ findIn c.K (.ref c.C) "__getattr__" = some none
  init : ∃ fi : Fn, findIn c.K (.ref c.C) "__init__" = some (some (.ref fi.addr)) ∧ typeIn c.K (.ref fi.addr) = some (.type "function") ∧ FnOk c fi P.init.1 P.init.2.1 P.init.2.2
noncomputable abbrev Md (c : Cx) : Model := model c.prog c.w
inductive GP (c : Cx) (G : Imm) (φ : List Loc) (s : Shared) (v : AVal) (σ' : St) (v' : Value) (s' : Shared) : Prop
  | mk (G' : Imm) (φ' : List Loc) (R : Rel c G' φ' σ' s') (V : VRel c G' φ' v v') (S : Step c [] G φ s G' φ' s')
inductive GPL (c : Cx) (G : Imm) (φ : List Loc) (s : Shared) (vs : List AVal) (σ' : St) (vs' : List Value) (s' : Shared) : Prop
  | mk (G' : Imm) (φ' : List Loc) (R : Rel c G' φ' σ' s') (V : VsRel c G' φ' vs vs') (S : Step c [] G φ s G' φ' s')
inductive GPB (c : Cx) (G : Imm) (φ : List Loc) (s : Shared) (b : Bool) (σ' : St) (b' : Bool) (s' : Shared) : Prop
  | mk (e : b' = b) (G' : Imm) (φ' : List Loc) (R : Rel c G' φ' σ' s') (S : Step c [] G φ s G' φ' s')
noncomputable def Gives (c : Cx) (A : Around) (G : Imm) (φ : List Loc) (s : Shared) (t : Sem Value) (v : AVal) (σ' : St) : Prop :=
  wpAny (Md c) A t (GP c G φ s v σ') (fun _ _ => False) s
noncomputable def GivesL (c : Cx) (A : Around) (G : Imm) (φ : List Loc) (s : Shared) (t : Sem (List Value)) (vs : List AVal) (σ' : St) : Prop :=
  wpAny (Md c) A t (GPL c G φ s vs σ') (fun _ _ => False) s
noncomputable def GivesB (c : Cx) (A : Around) (G : Imm) (φ : List Loc) (s : Shared) (t : Sem Bool) (b : Bool) (σ' : St) : Prop :=
  wpAny (Md c) A t (GPB c G φ s b σ') (fun _ _ => False) s
section
variable {c : Cx} {A : Around} {G G₁ : Imm} {φ φ₁ : List Loc} {s s₁ : Shared} {σ σ' : St} {v : AVal} {t : Sem Value}
theorem Gives.after (h : Gives c A G₁ φ₁ s₁ t v σ') (S : Step c [] G φ s G₁ φ₁ s₁) :
    wpAny (Md c) A t (GP c G φ s v σ') (fun _ _ => False) s₁ :=
  wpAny_mono h (fun _ _ ⟨G', φ', R, V, S'⟩ => ⟨G', φ', R, V, S.trans' S'⟩) fun _ _ e => e
theorem GivesB.after {t : Sem Bool} {b : Bool} (h : GivesB c A G₁ φ₁ s₁ t b σ') (S : Step c [] G φ s G₁ φ₁ s₁) :
    wpAny (Md c) A t (GPB c G φ s b σ') (fun _ _ => False) s₁ :=
  wpAny_mono h (fun _ _ ⟨e, G', φ', R, S'⟩ => ⟨e, G', φ', R, S.trans' S'⟩) fun _ _ e => e
theorem gives_here {v' : Value} (R : Rel c G φ σ s) (V : VRel c G φ v v') : GP c G φ s v σ v' s := ⟨G, φ, R, V, .refl ..⟩
theorem gives_toks {v' : Value} {n : Nat} (R : Rel c G φ σ s) (V : VRel c G φ v v') : GP c G φ s v σ v' { s with toks := n } :=
  ⟨G, φ, R.toks n, V, step_toks n⟩
theorem noE {α : Type} {t : Sem α} {Q : α → Shared → Prop} {E : Value → Shared → Prop} {M : Model} (h : wpAny M A t Q (fun _ _ => False) s) : wpAny M A t Q E s := wpAny_mono h (fun _ _ x => x) fun _ _ x => x.elim
end
structure Here (c : Cx) (P : PI) (d : Nat) (A : Around) (env : Env) (kd : Kinds) (ρ : Vars) (G : Imm) (φ : List Loc) (σ : St) (s : Shared) : Prop where
  ok : COk c P
  a : GoodA d A
  kd : kd = env.kindOf
  r : Rel c G φ σ s
  l : LocRel c G φ env ρ s.heap
  o : Owns c G φ env s
theorem Here.step {c : Cx} {P : PI} {d : Nat} {A : Around} {env : Env} {kd : Kinds} {ρ : Vars} {G G' : Imm} {φ φ' : List Loc} {σ σ' : St} {s s' : Shared} (H : Here c P d A env kd ρ G φ σ s)
    (R : Rel c G' φ' σ' s') (S : Step c [] G φ s G' φ' s') : Here c P d A env kd ρ G' φ' σ' s' :=
  ⟨H.ok, H.a, H.kd, R, H.l.step H.o S, H.o.step S⟩
structure EvE (P : PI) (d : Nat) (kd : Kinds) (ρ : Vars) (e : Expr) (σ : St) (v : AVal) (σ' : St) : Prop where
  intro ::
  run : ∀ {c A env G φ s}, Here c P d A env kd ρ G φ σ s → Gives c A G φ s (PySem.eval e env) v σ'
structure EvT (P : PI) (d : Nat) (kd : Kinds) (ρ : Vars) (e : Expr) (σ : St) (b : Bool) (σ' : St) : Prop where
  intro ::
  run : ∀ {c A env G φ s}, Here c P d A env kd ρ G φ σ s → GivesB c A G φ s (isTrue e env (PySem.eval e env)) b σ'
inductive EvEs (P : PI) (d : Nat) (kd : Kinds) (ρ : Vars) : List Expr → St → List AVal → St → Prop
  | nil {σ : St} : EvEs P d kd ρ [] σ [] σ
  | cons {e : Expr} {es : List Expr} {v : AVal} {vs : List AVal} {σ σ₁ σ₂ : St} (h0 : notStar e = true) (h1 : EvE P d kd ρ e σ v σ₁) (h2 : EvEs P d kd ρ es σ₁ vs σ₂) : EvEs P d kd ρ (e :: es) σ (v :: vs) σ₂
inductive EvTs (P : PI) (d : Nat) (kd : Kinds) (ρ : Vars) : BoolOp → List Expr → St → Bool → St → Prop
  | nil {op : BoolOp} {σ : St} : EvTs P d kd ρ op [] σ (op == .And) σ
  | andF {e : Expr} {es : List Expr} {σ σ₁ : St} (h1 : EvT P d kd ρ e σ false σ₁) : EvTs P d kd ρ .And (e :: es) σ false σ₁
  | andT {e : Expr} {es : List Expr} {σ σ₁ σ₂ : St} {z : Bool} (h1 : EvT P d kd ρ e σ true σ₁) (h2 : EvTs P d kd ρ .And es σ₁ z σ₂) : EvTs P d kd ρ .And (e :: es) σ z σ₂
  | orT {e : Expr} {es : List Expr} {σ σ₁ : St} (h1 : EvT P d kd ρ e σ true σ₁) : EvTs P d kd ρ .Or (e :: es) σ true σ₁
  | orF {e : Expr} {es : List Expr} {σ σ₁ σ₂ : St} {z : Bool} (h1 : EvT P d kd ρ e σ false σ₁) (h2 : EvTs P d kd ρ .Or es σ₁ z σ₂) : EvTs P d kd ρ .Or (e :: es) σ z σ₂
structure BinR (op : Operator) (a b : AVal) (σ : St) (v : AVal) (σ' : St) : Prop where
  intro ::
  run : ∀ {c A G φ s a' b'}, Rel c G φ σ s → VRel c G φ a a' → VRel c G φ b b' → Gives c A G φ s (binaryOp op a' b') v σ'
structure CmpR (op : CmpOp) (a b : AVal) (σ : St) (z : Bool) : Prop where
  intro ::
  run : ∀ {c A d G φ s a' b'} {Q : Value → Shared → Prop} {E : Value → Shared → Prop}, GoodA d A → Rel c G φ σ s → VRel c G φ a a' → VRel c G φ b b' →
  (∀ s', Rel c G φ σ s' → Step c [] G φ s G φ s' → Q (.bool z) s') → wpAny (Md c) A (compareOp op a' b') Q E s
structure ItemR (σ : St) (a b r : AVal) : Prop where
  intro ::
  run : ∀ {c A G φ s a' b' x i} {Q : Value → Shared → Prop} {E : Value → Shared → Prop}, Rel c G φ σ s → VRel c G φ a a' → VRel c G φ b b' →
  (∀ v' s', Rel c G φ σ s' → Step c [] G φ s G φ s' → VRel c G φ r v' → Q v' s') → wpAny (Md c) A (subscriptTail x i a' b') Q E s
section
variable {c : Cx} {P : PI} {n d : Nat} {A : Around} {env : Env} {kd : Kinds} {ρ : Vars} {G : Imm} {φ : List Loc} {σ σ' : St} {s : Shared} {v : AVal}
inductive LstV (c : Cx) (G : Imm) (φ : List Loc) (s : Shared) (vs : List AVal) (v' : Value) : Prop
  | mk (a : Addr) (o : Obj) (items : List Value) (n : Nat) (e : v' = .ref a) (g : s.heap.get? a = some o) (hc : o.cls = .type "list") (hd : o.data = .seq (List.toArray items) n) (r : VsRel c G φ vs items)
theorem Rel.isList {v : AVal} {v' : Value} {vs : List AVal} (R : Rel c G φ σ s) (V : VRel c G φ v v') (h : listOf? σ v = some vs) :
    LstV c G φ s vs v' := by
  cases v with
  | ref i =>
    unfold listOf? at h
    simp only at h
    split at h
    · rename_i vs' e
      cases h
      cases V using VRel.refE with
      | ref hl =>
        obtain ⟨_, _, items, n, h3, h4⟩ := R.obj _ _ _ hl e
        exact ⟨_, _, items, n, rfl, h3, rfl, rfl, h4⟩
    · cases h
  | scr ns =>
    cases h
    cases V using VRel.scrE with
    | scr e hc n hd r => exact ⟨_, _, _, n, rfl, R.gh _ _ e, hc, hd, VsRel.ints r⟩
  | _ => cases h
theorem lim_le {n : Nat} (h : n ≤ lim) : n ≤ sizeLine := by rw [sizeLine_eq]; unfold lim at h; lia
theorem Rel.newList {vs : List AVal} {items : List Value} (R : Rel c G φ σ s) (V : VsRel c G φ vs items) :
    GP c G φ s (.ref σ.length) (σ ++ [.list vs]) (.ref s.heap.objs.size) { s with heap := s.heap.push { cls := .type "list", data := .seq items.toArray } } := by
  have hn : ∀ a ∈ (⟨s.heap.objs.size, [], none⟩ : Loc).a :: (⟨s.heap.objs.size, [], none⟩ : Loc).ps, s.heap.get? a = none := fun a ha => by
    rcases List.mem_cons.mp ha with rfl | ha
    · exact get?_size _
    · cases ha
  refine ⟨G, φ ++ [⟨s.heap.objs.size, [], none⟩], R.add (fun a x e => Heap.get?_push_of_some _ e) hn (by simp) (fun a ha => ?_) ⟨rfl, rfl, items, 0, Heap.get?_push_size _ rfl, V.mono (fun _ _ e => e) (.append _ _)⟩, ?_, step_add (fun a x e => Heap.get?_push_of_some _ e) hn rfl⟩
  · rcases List.mem_cons.mp ha with rfl | ha
    · rw [Heap.get?_push_size _ rfl]; rfl
    · cases ha
  · refine VRel.ref (l := ⟨s.heap.objs.size, [], none⟩) ?_
    rw [← R.len]; simp
end
theorem flat_inj {α β : Type} (f : α → List β) : ∀ {l : List α} {i j : Nat} {x y : α} {a : β}, (l.flatMap f).Nodup → l[i]? = some x → l[j]? = some y → a ∈ f x → a ∈ f y → i = j
  | [], _, _, _, _, _, _, h, _, _, _ => by simp at h
  | z :: r, i, j, x, y, a, hd, hx, hy, ax, ay => by
    rw [List.flatMap_cons] at hd
    obtain ⟨_, h2, h3⟩ := List.nodup_append.mp hd
    cases i with
    | zero =>
      cases j with
      | zero => rfl
      | succ j =>
        simp at hx hy
        subst hx
        exact absurd rfl (h3 a ax a (List.mem_flatMap.mpr ⟨y, List.mem_of_getElem? hy, ay⟩))
    | succ i =>
      cases j with
      | zero =>
        simp at hx hy
        subst hy
        exact absurd rfl (h3 a ay a (List.mem_flatMap.mpr ⟨x, List.mem_of_getElem? hx, ax⟩))
      | succ j =>
        simp at hx hy
        rw [flat_inj f h2 hx hy ax ay]
section
variable {c : Cx} {P : PI} {n d : Nat} {A : Around} {env : Env} {kd : Kinds} {ρ : Vars} {G : Imm} {φ : List Loc} {σ σ' : St} {s : Shared} {v : AVal}
theorem Rel.loc_inj {i j : Nat} {l l' : Loc} {a : Addr} (R : Rel c G φ σ s) (h : φ[i]? = some l) (h' : φ[j]? = some l') (ha : a ∈ l.a :: l.ps) (ha' : a ∈ l'.a :: l'.ps) : i = j :=
  flat_inj (fun l : Loc => l.a :: l.ps) (List.nodup_append.mp R.nodup).2.1 h h' ha ha'
theorem Rel.objAt {i : Nat} {l : Loc} (R : Rel c G φ σ s) (h : φ[i]? = some l) : ∃ o, σ[i]? = some o := by
  have hl := (List.getElem?_eq_some_iff.mp h).1
  rw [R.len] at hl
  exact ⟨σ[i], List.getElem?_eq_getElem hl⟩
theorem Rel.notTuple {i : Nat} {l : Loc} (R : Rel c G φ σ s) (h : φ[i]? = some l) : ∃ ox, s.heap.get? l.a = some ox ∧ ox.cls ≠ .type "tuple" := by
  obtain ⟨o, ho⟩ := R.objAt h
  have q := R.obj i l o h ho
  cases o with
  | list vs => obtain ⟨_, _, items, n, e, _⟩ := q; exact ⟨_, e, by simp⟩
  | dict vs => obtain ⟨_, _, es, ⟨o, _, e, hc, _⟩, _⟩ := q; exact ⟨_, e, by rw [hc.1]; simp⟩
  | sdict vs => obtain ⟨_, _, es, ⟨o, _, e, hc, _⟩, _⟩ := q; exact ⟨_, e, by rw [hc.1]; simp⟩
  | inst ats => obtain ⟨_, d, es, n, _, e, _⟩ := q; exact ⟨_, e, by simp⟩
  | liter v i => obtain ⟨_, _, la, _, o, e, hc, _⟩ := q; exact ⟨_, e, by rw [hc]; simp⟩
  | lend => obtain ⟨_, _, o, i, e, hc, _⟩ := q; exact ⟨_, e, by rw [hc]; simp⟩
  | gen k ρ st => obtain ⟨g, _, ⟨o, _, _, e, hc, _⟩, _⟩ := q; exact ⟨_, e, by rw [hc]; simp⟩
end
noncomputable def nmOk (x : Str) : Bool := !(x == ("__debug__" : Str) || x == ("__classdict__" : Str))
theorem nmOk_of {x : Str} (h : nmOk x = true) : (x == ("__debug__" : Str)) = false ∧ (x == ("__classdict__" : Str)) = false := by
  unfold nmOk at h
  cases q1 : (x == ("__debug__" : Str)) <;> cases q2 : (x == ("__classdict__" : Str)) <;> simp_all
section
variable {P : PI} {d : Nat} {kd : Kinds} {ρ ρ₁ ρ₂ ρ₃ ρ' : Vars} {σ σ₁ σ₂ σ₃ σ' : St} {v a b : AVal} {p : Pos}
theorem e_int {i : Int} {k} : EvE P d kd ρ (.Constant (.int i) k p) σ (.int i) σ := .intro fun H => wpAny_Constant_int (gives_toks H.r (.int _ _))
theorem e_bool {s : Bool} {k} : EvE P d kd ρ (.Constant (.bool s) k p) σ (.bool s) σ := .intro fun H => wpAny_Constant_bool (gives_here H.r (.bool _))
theorem e_none {k} : EvE P d kd ρ (.Constant .none k p) σ .none σ := .intro fun H => wpAny_Constant_none (gives_here H.r .none)
theorem e_var {x : Str} (h1 : (nmOk x && Kinds.isVar kd x) = true) (h : ρ x = some v) : EvE P d kd ρ (.Name x p) σ v σ := .intro fun {c A env G φ s} H => by
  rw [Bool.and_eq_true] at h1
  obtain ⟨hx, hx'⟩ := nmOk_of h1.1
  refine wpAny_Name ?_ hx
  have hv := h1.2
  unfold Kinds.isVar at hv
  rw [H.kd] at hv
  split at hv
  · rename_i hk
    obtain ⟨m, hn, hv⟩ := H.l.ns
    obtain ⟨v', e, V⟩ := hv x v hk h
    exact wpAny_loadName_local H.l.kind hk hn e (gives_here H.r V)
  · rename_i hk
    obtain ⟨ca, v', e, hc, V⟩ := H.l.cell x v (.inl hk) h
    exact wpAny_loadName_cell H.l.kind hk e hc (gives_here H.r V)
  · rename_i hk
    obtain ⟨ca, v', e, hc, V⟩ := H.l.cell x v (.inr hk) h
    exact wpAny_loadName_free H.l.kind hk e hc (gives_here H.r V) hx'
  · (cases hv)
theorem e_glob {x : Str} (h1 : (nmOk x && (kd x == some .globalImplicit)) = true) (h : P.glob x = some v) : EvE P d kd ρ (.Name x p) σ v σ := .intro fun {c A env G φ s} H => by
  rw [Bool.and_eq_true] at h1
  obtain ⟨hx, hx'⟩ := nmOk_of h1.1
  have hk := eq_of_beq h1.2
  rw [H.kd] at hk
  refine wpAny_Name ?_ hx
  obtain ⟨v', hv, V⟩ := H.ok.glob x v h
  have hg := H.ok.ok.g.keeps H.r.keepB
  have hb := H.ok.ok.b.keeps H.r.keepB
  have hbk : env.blockKind = .function := by unfold Env.blockKind; rw [H.l.kind]; rfl
  have han : env.scope.kind.isAnnotationScope = false := by rw [H.l.kind]; rfl
  unfold loadName
  rw [han]
  simp only [Bool.false_and, Bool.false_eq_true, if_false, hbk, hk]
  unfold loadGlobal
  rw [H.l.glob, H.l.bi]
  refine wpAny_bind (wpAny_nsGet hg ?_)
  rcases hv with hv | ⟨hv, hv'⟩
  · rw [hv]; exact wpAny_pure (gives_here H.r (V _ _))
  · rw [hv]
    refine wpAny_bind (wpAny_nsGet hb ?_)
    rw [hv']; exact wpAny_pure (gives_here H.r (V _ _))
theorem e_binop {l r : Expr} {op : Operator} (h1 : EvE P d kd ρ l σ a σ₁) (h2 : EvE P d kd ρ r σ₁ b σ₂) (h3 : BinR op a b σ₂ v σ') : EvE P d kd ρ (.BinOp l op r p) σ v σ' := .intro fun H =>
  wpAny_BinOp (wpAny_mono (h1.run H) (fun a' s₁ ⟨G₁, φ₁, R₁, V₁, S₁⟩ => wpAny_mono (h2.run (H.step R₁ S₁)) (fun b' s₂ ⟨G₂, φ₂, R₂, V₂, S₂⟩ => (Gives.after (h3.run R₂ (V₁.mono S₂.g S₂.ext) V₂) (S₁.trans' S₂))) fun _ _ e => e) fun _ _ e => e)
theorem bo_mod {a b : Int} (h : b ≠ 0) : BinR .Mod (.int a) (.int b) σ (.int (a.fmod b)) σ := .intro fun R Va Vb => by (cases Va using VRel.intE); (cases Vb using VRel.intE); exact mod_int' h (gives_toks R (.int _ _))
theorem bo_div {a b : Int} (h : b ≠ 0) (h' : b.natAbs < 1073741824) : BinR .FloorDiv (.int a) (.int b) σ (.int (a.fdiv b)) σ := .intro fun R Va Vb => by
  (cases Va using VRel.intE); (cases Vb using VRel.intE); exact floordiv_int h (gives_toks R (.int _ _)) (.inl (PyProof.noPylong_small h'))
theorem bo_list {v w : AVal} {xs ys : List AVal} (h1 : listOf? σ v = some xs) (h2 : listOf? σ w = some ys) (h : xs.length + ys.length ≤ lim) : BinR .Add v w σ (.ref σ.length) (σ ++ [.list (xs ++ ys)]) := .intro fun {c A G φ s a' b'} R Va Vb => by
  obtain ⟨la, oa, ia, na, rfl, ga, ca, da, ra⟩ := R.isList Va h1
  obtain ⟨lb, ob, ib, nb, rfl, gb, cb, db, rb⟩ := R.isList Vb h2
  obtain ⟨oac, oad, oadt, oas⟩ := oa
  obtain ⟨obc, obd, obdt, obs⟩ := ob
  dsimp only at ca da cb db
  subst ca da cb db
  have hlen : ia.length + ib.length ≤ sizeLine := lim_le (by rw [← ra.length, ← rb.length]; exact h)
  refine concat_meets ⟨_, ga, rfl⟩ ⟨_, gb, rfl⟩ noFill_list_add seq_list_add PySem.F.slot_list_add PySem.F.entry_list_add (PySem.F.args_list_add_2 _ _) (list_addW la lb ia.toArray ib.toArray na nb oad obd oas obs (by simpa using hlen)) ⟨ga, gb, ?_⟩
  rw [show ia.toArray ++ ib.toArray = (ia ++ ib).toArray by simp]
  exact R.newList (ra.append rb)
theorem GoodA.eq {d : Nat} {A : Around} (h : GoodA d A) : A.units + 64 < cLine := by have := h.units; unfold cLine; lia
theorem e_cmp {l r : Expr} {op : CmpOp} {z : Bool} (h0 : behindInMarks op r = false) (h1 : EvE P d kd ρ l σ a σ₁) (h2 : EvE P d kd ρ r σ₁ b σ₂) (h3 : CmpR op a b σ₂ z) : EvE P d kd ρ (.Compare l [op] [r] p) σ (.bool z) σ₂ := .intro fun H =>
  wpAny_Compare1 (wpAny_mono (h1.run H) (fun a' s₁ ⟨G₁, φ₁, R₁, V₁, S₁⟩ => wpAny_mono (h2.run (H.step R₁ S₁)) (fun b' s₂ ⟨G₂, φ₂, R₂, V₂, S₂⟩ => h3.run H.a R₂ (V₁.mono S₂.g S₂.ext) V₂ fun s' R' S' => ⟨G₂, φ₂, R', .bool _, (S₁.trans' S₂).trans' S'⟩) fun _ _ e => e) fun _ _ e => e) h0
theorem t_cmp {l r : Expr} {op : CmpOp} {z : Bool} (h0 : behindInMarks op r = false) (h1 : EvE P d kd ρ l σ a σ₁) (h2 : EvE P d kd ρ r σ₁ b σ₂) (h3 : CmpR op a b σ₂ z) : EvT P d kd ρ (.Compare l [op] [r] p) σ z σ₂ := .intro fun H =>
  wpAny_isTrue_Compare1 (wpAny_mono (h1.run H) (fun a' s₁ ⟨G₁, φ₁, R₁, V₁, S₁⟩ => wpAny_mono (h2.run (H.step R₁ S₁)) (fun b' s₂ ⟨G₂, φ₂, R₂, V₂, S₂⟩ => h3.run H.a R₂ (V₁.mono S₂.g S₂.ext) V₂ fun s' R' S' => wpAny_truthy_bool ⟨rfl, G₂, φ₂, R', (S₁.trans' S₂).trans' S'⟩) fun _ _ e => e) fun _ _ e => e) h0
section
variable {x y : Int} {s t : Str} {q : Bool}
theorem c_eq (h : (x == y) = q) : CmpR .Eq (.int x) (.int y) σ q := .intro fun _ R Va Vb k => by subst h; (cases Va using VRel.intE); (cases Vb using VRel.intE); exact PySem.P.eq_int (k _ R (.refl ..))
theorem c_isNN : CmpR .Is .none .none σ true := .intro fun _ R Va Vb k => by (cases Va using VRel.noneE); (cases Vb using VRel.noneE); exact wpAny_is_self rfl (k _ R (.refl ..))
theorem c_isRN {i : Nat} : CmpR .Is (.ref i) .none σ false := .intro fun _ R Va Vb k => by (cases Va using VRel.refE); (cases Vb using VRel.noneE); exact wpAny_is_plain rfl (k _ R (.refl ..))
theorem c_inNN : CmpR .IsNot .none .none σ false := .intro fun _ R Va Vb k => by (cases Va using VRel.noneE); (cases Vb using VRel.noneE); exact wpAny_isNot_self rfl (k _ R (.refl ..))
theorem c_inR {i j : Nat} (h : (!(i == j)) = q) : CmpR .IsNot (.ref i) (.ref j) σ q := .intro fun _ R Va Vb k => by
  cases Va using VRel.refE with
  | ref e =>
    cases Vb using VRel.refE with
    | ref e' =>
      subst h
      by_cases hij : i = j
      · subst hij
        rw [e] at e'; cases e'
        rw [beq_self_eq_true] at k
        exact wpAny_isNot_ref_self (k _ R (.refl ..))
      · obtain ⟨ox, hx, hc⟩ := R.notTuple e
        obtain ⟨oy, hy, _⟩ := R.notTuple e'
        rw [beq_eq_false_iff_ne.mpr hij] at k
        exact wpAny_isNot_ref_other (fun q => hij (R.loc_inj e e' (.head _) (by rw [← q]; exact .head _))) hx hy hc (k _ R (.refl ..))
end
theorem ints_of {c : Cx} {G : Imm} {φ : List Loc} : ∀ {xs : List Int} {items : List Value}, VsRel c G φ (xs.map .int) items → IntsAre items xs
  | [], _, h => by cases h; exact .nil
  | x :: xs, _, h => by
    cases h with
    | cons hv ht => (cases hv using VRel.intE); exact .cons x _ (ints_of ht)
theorem c_lne {xs ys : List Int} {q : Bool} (h1 : listOf? σ a = some (xs.map .int)) (h2 : listOf? σ b = some (ys.map .int)) (h : (!decide (xs = ys)) = q) : CmpR .NotEq a b σ q := .intro fun ha R Va Vb k => by
  subst h
  obtain ⟨aa, oa, ia, na, rfl, ga, ca, da, ra⟩ := R.isList Va h1
  obtain ⟨ab, ob, ib, nb, rfl, gb, cb, db, rb⟩ := R.isList Vb h2
  exact ne_intsK ⟨_, ga, ca, _, da⟩ (ints_of ra) ⟨_, gb, cb, _, db⟩ (ints_of rb) ha.eq (k _ R (.refl ..))
end
end Mini
namespace Mini
open PySem PySem.W PyProof PyProof.Rows PySem.Calls
section
variable {P : PI} {d : Nat} {kd : Kinds} {ρ ρ₁ ρ₂ ρ₃ ρ' : Vars} {σ σ₁ σ₂ σ₃ σ' : St} {v a b : AVal} {p : Pos}
theorem e_ifT {t x y : Expr} (h1 : EvT P d kd ρ t σ true σ₁) (h2 : EvE P d kd ρ x σ₁ v σ') : EvE P d kd ρ (.IfExp t x y p) σ v σ' := .intro fun H =>
  wpAny_IfExp (wpAny_mono (h1.run H) (fun z' s₁ ⟨e, G₁, φ₁, R₁, S₁⟩ => by subst e; exact Gives.after (h2.run (H.step R₁ S₁)) S₁) fun _ _ e => e)
theorem e_ifF {t x y : Expr} (h1 : EvT P d kd ρ t σ false σ₁) (h2 : EvE P d kd ρ y σ₁ v σ') : EvE P d kd ρ (.IfExp t x y p) σ v σ' := .intro fun H =>
  wpAny_IfExp (wpAny_mono (h1.run H) (fun z' s₁ ⟨e, G₁, φ₁, R₁, S₁⟩ => by subst e; exact Gives.after (h2.run (H.step R₁ S₁)) S₁) fun _ _ e => e)
theorem starEach_cons {env : Env} {e : Expr} {es : List Expr} (h : notStar e = true) : starEach (e :: es) env = (false, PySem.eval e env) :: starEach es env := by
  cases e <;> first | rfl | cases h
theorem es_nil : EvEs P d kd ρ [] σ [] σ := .nil
theorem es_cons {e : Expr} {es : List Expr} {vs : List AVal} (h0 : notStar e = true) (h1 : EvE P d kd ρ e σ v σ₁) (h2 : EvEs P d kd ρ es σ₁ vs σ₂) : EvEs P d kd ρ (e :: es) σ (v :: vs) σ₂ := .cons h0 h1 h2
theorem EvEs.run {es : List Expr} {vs : List AVal} (h : EvEs P d kd ρ es σ vs σ') : ∀ {c A env G φ s} (pos : Pos), Here c P d A env kd ρ G φ σ s → GivesL c A G φ s (spliced (backTo pos (starEach es env))) vs σ' := by
  induction h with
  | nil => intro c A env G φ s pos H; exact wpAny_items_nil ⟨G, φ, H.r, .nil, .refl ..⟩
  | cons h0 h1 h2 ih =>
    intro c A env G φ s pos H
    refine wpAny_items_cons (wpAny_mono (h1.run H) (fun v' s₁ ⟨G₁, φ₁, R₁, V₁, S₁⟩ => wpAny_mono (ih pos (H.step R₁ S₁)) (fun vs'' s₂ ⟨G₂, φ₂, R₂, V₂, S₂⟩ => ?_) fun _ _ e => e) fun _ _ e => e) (starEach_cons h0)
    exact ⟨G₂, φ₂, R₂, .cons (V₁.mono S₂.g S₂.ext) V₂, S₁.trans' S₂⟩
theorem e_list {es : List Expr} {vs : List AVal} (h1 : EvEs P d kd ρ es σ vs σ₁) (h2 : vs.length ≤ lim) : EvE P d kd ρ (.List es p) σ (.ref σ₁.length) (σ₁ ++ [.list vs]) := .intro fun H => by
  refine wpAny_List_spliced (wpAny_mono (h1.run p H) (fun vs' s₁ ⟨G₁, φ₁, R₁, V₁, S₁⟩ => ⟨by rw [← V₁.length]; exact lim_le h2, ?_⟩) fun _ _ e => e)
  obtain ⟨G', φ', R', V', S'⟩ := R₁.newList V₁
  exact ⟨G', φ', R', V', S₁.trans' S'⟩
theorem subscripted_any (slice : Expr) (o i : Value) : ∃ ops, subscripted slice false o i = operate ops (getItem o i) := by
  unfold subscripted
  split
  · exact ⟨_, rfl⟩
  · rename_i h; cases h
  · exact ⟨_, rfl⟩
theorem it_list {v w : AVal} {vs : List AVal} {a : Int} (h1 : listOf? σ v = some vs) (h0 : 0 ≤ a) (h2 : vs[a.toNat]? = some w) (hl : a < 2 ^ 63) : ItemR σ v (.int a) w := .intro fun {c A G φ s a' b' x i Q E} R Va Vb q => by
  cases Vb using VRel.intE with
  | int tk =>
    obtain ⟨la, o, items, m, rfl, g, cc, dd, rr⟩ := R.isList Va h1
    obtain ⟨v', hv', V'⟩ := rr.get h2
    obtain ⟨ops, hs⟩ := subscripted_any i (.ref la) (.int a tk)
    exact tail_any (T := "list") ⟨_, g, cc⟩ slot_list_getitem.lookup (wpAny_getItem_list (items := items.toArray) ⟨_, g, cc, _, dd⟩ h0 hl (by simpa using hv') (q _ _ R (.refl ..) V')) hs
theorem e_item {o i : Expr} (h1 : EvE P d kd ρ o σ a σ₁) (h2 : EvE P d kd ρ i σ₁ b σ₂) (h3 : ItemR σ₂ a b v) : EvE P d kd ρ (.Subscript o i p) σ v σ₂ := .intro fun H =>
  Subscript_ (wpAny_mono (h1.run H) (fun a' s₁ ⟨G₁, φ₁, R₁, V₁, S₁⟩ => wpAny_mono (h2.run (H.step R₁ S₁)) (fun b' s₂ ⟨G₂, φ₂, R₂, V₂, S₂⟩ => h3.run R₂ (V₁.mono S₂.g S₂.ext) V₂ fun v' s' R' S' V' => ⟨G₂, φ₂, R', V', (S₁.trans' S₂).trans' S'⟩) fun _ _ e => e) fun _ _ e => e)
theorem e_neg {e : Expr} {i : Int} (h1 : EvE P d kd ρ e σ (.int i) σ₁) : EvE P d kd ρ (.UnaryOp .USub e p) σ (.int (-i)) σ₁ := .intro fun H =>
  wpAny_UnaryOp (wpAny_mono (h1.run H) (fun a' s₁ ⟨G₁, φ₁, R₁, V₁, S₁⟩ => by (cases V₁ using VRel.intE); exact PyProof.Rows.neg_int ⟨G₁, φ₁, R₁.toks _, .int _ _, S₁.trans' (step_toks _)⟩) fun _ _ e => e)
inductive OptInt : AVal → Option Int → Prop
  | none : OptInt .none .none
  | int {i : Int} : OptInt (.int i) (some i)
theorem oi_int {i : Int} : OptInt (.int i) (some i) := .int
theorem OptInt.part {c : Cx} {G : Imm} {φ : List Loc} {a' : Value} {i : Option Int} (h : OptInt a i) (V : VRel c G φ a a') : ∃ l, l.map (·.1) = i ∧ a' = partValue l := by
  cases h with
  | none => (cases V using VRel.noneE); exact ⟨.none, rfl, rfl⟩
  | int => cases V using VRel.intE with
    | int t => exact ⟨some (_, t), rfl, rfl⟩
inductive OP (c : Cx) (G : Imm) (φ : List Loc) (s : Shared) (v : Option Int) (σ' : St) (v' : Value) (s' : Shared) : Prop
  | mk (G' : Imm) (φ' : List Loc) (l : Option (Int × Tok)) (R : Rel c G' φ' σ' s') (S : Step c [] G φ s G' φ' s') (e : v' = partValue l) (h : l.map (·.1) = v)
structure EvO (P : PI) (d : Nat) (kd : Kinds) (ρ : Vars) (e : Option Expr) (σ : St) (v : Option Int) (σ' : St) : Prop where
  intro ::
  run : ∀ {c A env G φ s}, Here c P d A env kd ρ G φ σ s →
  wpAny (Md c) A (evalPart e env) (OP c G φ s v σ') (fun _ _ => False) s
theorem o_none : EvO P d kd ρ .none σ .none σ := .intro fun {c A env G φ s} H => evalPart_none_step ⟨G, φ, none, H.r, .refl .., rfl, rfl⟩
theorem o_some {e : Expr} {i : Option Int} (h1 : EvE P d kd ρ e σ v σ₁) (h2 : OptInt v i) : EvO P d kd ρ (some e) σ i σ₁ := .intro fun H =>
  evalPart_some_step (wpAny_mono (h1.run H) (fun w' s₁ ⟨G₁, φ₁, R₁, V₁, S₁⟩ => by
    obtain ⟨l, hl, e⟩ := h2.part V₁
    exact ⟨G₁, φ₁, l, R₁, S₁, e, hl⟩) fun _ _ e => e)
theorem e_slice {nm : Str} {lo hi : Option Expr} {sx : Str} {l h : Option Int} {q q0 : Pos} (h1 : EvE P d kd ρ (.Name nm q0) σ (.str sx) σ₁) (h2 : EvO P d kd ρ lo σ₁ l σ₂) (h3 : EvO P d kd ρ hi σ₂ h σ₃) (h4 : sx.length ≤ lim) :
    EvE P d kd ρ (.Subscript (.Name nm q0) (.Slice lo hi .none q) p) σ (.str (Txt.slice sx l h)) σ₃ := .intro fun {c A env G φ s} H => by
  refine Subscript_Slice (wpAny_mono (h1.run H) (fun a' s₁ ⟨G₁, φ₁, R₁, V₁, S₁⟩ => ?_) fun _ _ e => e) fun _ _ => rfl
  have H₁ := H.step R₁ S₁
  show wpAny _ _ (evalPart lo env >>= _) _ _ _
  refine wpAny_bind (wpAny_mono (h2.run H₁) (fun l' s₂ ⟨G₂, φ₂, pl, R₂, S₂, el, hl⟩ => ?_) fun _ _ e => e)
  have H₂ := H₁.step R₂ S₂
  refine wpAny_bind (wpAny_holding (wpAny_mono (h3.run H₂) (fun u' s₃ ⟨G₃, φ₃, pu, R₃, S₃, eu, hu⟩ => ?_) fun _ _ e => e))
  subst el eu hl hu
  refine wpAny_bind (wpAny_holding (evalPart_none_step (env := env) ?_))
  show wpAny _ _ (newFields "slice" [partValue pl, partValue pu, .none]) _ _ _
  simp only [newFields]
  refine wpAny_newObj_type ?_ (by size_fits)
  (cases V₁ using VRel.strE)
  have SS := ((S₁.trans' S₂).trans' S₃).trans' (step_push { cls := .type "slice", data := .fields #[partValue pl, partValue pu, .none] })
  refine ⟨"str", _, F.slot_str_getitem.lookup, typeIs_str _ _ _, wpAny_getItem_str_slice (l := pl) (u := pu) (st := none) ⟨_, Heap.get?_push_size _ rfl, rfl, rfl⟩ rfl (post_val_or_str ⟨Nat.le_trans (Txt.slice_le sx _ _) (lim_le h4), fun t' k => ⟨G₃, φ₃, (R₃.push _).toks k, .str _ _, SS.trans' (step_toks k)⟩⟩)⟩
theorem t_val {e : Expr} {z : Bool} (h0 : PlainE e) (h1 : EvE P d kd ρ e σ (.bool z) σ₁) : EvT P d kd ρ e σ z σ₁ := .intro fun {c A env G φ s} H => by
  refine wpAny_isTrue_value (wpAny_mono (h1.run H) (fun w' s₁ ⟨G₁, φ₁, R₁, V₁, S₁⟩ => ?_) fun _ _ e => e) (by cases h0 <;> rfl)
  (cases V₁ using VRel.boolE)
  exact wpAny_truthy_bool ⟨rfl, G₁, φ₁, R₁, S₁⟩
theorem t_call {f : Expr} {as : List Expr} {ks : List Keyword} {z : Bool} (h1 : EvE P d kd ρ (.Call f as ks p) σ (.bool z) σ₁) : EvT P d kd ρ (.Call f as ks p) σ z σ₁ := .intro fun {c A env G φ s} H => by
  refine wpAny_isTrue_value (wpAny_mono (h1.run H) (fun w' s₁ ⟨G₁, φ₁, R₁, V₁, S₁⟩ => ?_) fun _ _ e => e)
  (cases V₁ using VRel.boolE)
  exact wpAny_truthy_bool ⟨rfl, G₁, φ₁, R₁, S₁⟩
theorem t_not {e : Expr} {z : Bool} (h1 : EvT P d kd ρ e σ z σ₁) : EvT P d kd ρ (.UnaryOp .Not e p) σ (!z) σ₁ := .intro fun H =>
  wpAny_isTrue_Not (wpAny_mono (h1.run H) (fun z' s₁ ⟨e, G₁, φ₁, R₁, S₁⟩ => ⟨by rw [e], G₁, φ₁, R₁, S₁⟩) fun _ _ e => e)
theorem t_notF {e : Expr} (h1 : EvT P d kd ρ e σ true σ₁) : EvT P d kd ρ (.UnaryOp .Not e p) σ false σ₁ := t_not h1
theorem ts_nil {op : BoolOp} : EvTs P d kd ρ op [] σ (op == .And) σ := .nil
theorem ts_andF {e : Expr} {es : List Expr} (h1 : EvT P d kd ρ e σ false σ₁) : EvTs P d kd ρ .And (e :: es) σ false σ₁ := .andF h1
theorem ts_andT {e : Expr} {es : List Expr} {z : Bool} (h1 : EvT P d kd ρ e σ true σ₁) (h2 : EvTs P d kd ρ .And es σ₁ z σ₂) : EvTs P d kd ρ .And (e :: es) σ z σ₂ := .andT h1 h2
theorem ts_orT {e : Expr} {es : List Expr} (h1 : EvT P d kd ρ e σ true σ₁) : EvTs P d kd ρ .Or (e :: es) σ true σ₁ := .orT h1
theorem ts_orF {e : Expr} {es : List Expr} {z : Bool} (h1 : EvT P d kd ρ e σ false σ₁) (h2 : EvTs P d kd ρ .Or es σ₁ z σ₂) : EvTs P d kd ρ .Or (e :: es) σ z σ₂ := .orF h1 h2
theorem and_last {e : Expr} {z : Bool} (h1 : EvT P d kd ρ e σ z σ₁) : EvTs P d kd ρ .And [e] σ z σ₁ := by
  cases z with
  | true => exact ts_andT h1 ts_nil
  | false => exact ts_andF h1
theorem or_last {e : Expr} {z : Bool} (h1 : EvT P d kd ρ e σ z σ₁) : EvTs P d kd ρ .Or [e] σ z σ₁ := by
  cases z with
  | true => exact ts_orT h1
  | false => exact ts_orF h1 ts_nil
theorem EvTs.run {op : BoolOp} {es : List Expr} {z : Bool} (h : EvTs P d kd ρ op es σ z σ') : ∀ {c A env G φ s}, Here c P d A env kd ρ G φ σ s → GivesB c A G φ s (allTrue op es env) z σ' := by
  induction h with
  | @nil op σ =>
    intro c A env G φ s H
    cases op with
    | And => exact wpAny_allTrue_And_nil ⟨rfl, G, φ, H.r, .refl ..⟩
    | Or => exact wpAny_allTrue_Or_nil ⟨rfl, G, φ, H.r, .refl ..⟩
  | andF h1 =>
    intro c A env G φ s H
    refine wpAny_allTrue_And_cons (wpAny_mono (h1.run H) (fun z' s₁ ⟨e, G₁, φ₁, R₁, S₁⟩ => ?_) fun _ _ e => e)
    subst e
    exact ⟨rfl, G₁, φ₁, R₁, S₁⟩
  | andT h1 h2 ih =>
    intro c A env G φ s H
    refine wpAny_allTrue_And_cons (wpAny_mono (h1.run H) (fun z' s₁ ⟨e, G₁, φ₁, R₁, S₁⟩ => ?_) fun _ _ e => e)
    subst e
    exact GivesB.after (ih (H.step R₁ S₁)) S₁
  | orT h1 =>
    intro c A env G φ s H
    refine wpAny_allTrue_Or_cons (wpAny_mono (h1.run H) (fun z' s₁ ⟨e, G₁, φ₁, R₁, S₁⟩ => ?_) fun _ _ e => e)
    subst e
    exact ⟨rfl, G₁, φ₁, R₁, S₁⟩
  | orF h1 h2 ih =>
    intro c A env G φ s H
    refine wpAny_allTrue_Or_cons (wpAny_mono (h1.run H) (fun z' s₁ ⟨e, G₁, φ₁, R₁, S₁⟩ => ?_) fun _ _ e => e)
    subst e
    exact GivesB.after (ih (H.step R₁ S₁)) S₁
theorem t_bool {op : BoolOp} {es : List Expr} {z : Bool} (h1 : EvTs P d kd ρ op es σ z σ₁) : EvT P d kd ρ (.BoolOp op es p) σ z σ₁ := .intro fun H => wpAny_isTrue_BoolOp (h1.run H)
end
structure FrOk (env : Env) (h : Heap) : Prop where
  ex : ∀ x, env.kindOf x = some .cell → ∃ a v₀, env.cells.lookup x = some a ∧ h.IsCell a v₀
  apart : ∀ x y a, env.kindOf x = some .cell → env.cells.lookup x = some a → env.cells.lookup y = some a → y = x
  nl : ∀ n a, (n, a) ∈ env.cells → a ≠ env.locals
theorem FrOk.keeps {env : Env} {h h' : Heap} (F : FrOk env h) (k : ∀ a o, a ∈ owns env → h.get? a = some o → h'.get? a = some o) : FrOk env h' :=
  ⟨fun x hx => let ⟨a, v, e, o, ho, hd⟩ := F.ex x hx; ⟨a, v, e, o, k a o (mem_owns (.inr ⟨x, e⟩)) ho, hd⟩, F.apart, F.nl⟩
theorem FrOk.step {c : Cx} {G G' : Imm} {φ φ' : List Loc} {env : Env} {s s' : Shared} (F : FrOk env s.heap) (O : Owns c G φ env s) (S : Step c [] G φ s G' φ' s') : FrOk env s'.heap :=
  F.keeps fun a o ha e => S.frame a o (O.away ha).1 (fun h => nomatch h) e
inductive FRel (c : Cx) (G : Imm) (φ : List Loc) : Flw → Flow → Prop
  | next : FRel c G φ .next .next
  | brk : FRel c G φ .brk .brk
  | cont : FRel c G φ .cont .cont
  | ret {v : AVal} {v' : Value} (h : VRel c G φ v v') : FRel c G φ (.ret v) (.ret v')
inductive After (c : Cx) (env : Env) (G : Imm) (φ : List Loc) (s : Shared) (ρ' : Vars) (σ' : St) (s' : Shared) (K : Imm → List Loc → Prop) : Prop
  | mk (G' : Imm) (φ' : List Loc) (R : Rel c G' φ' σ' s') (L : LocRel c G' φ' env ρ' s'.heap) (F : FrOk env s'.heap) (S : Step c (owns env) G φ s G' φ' s') (k : K G' φ')
theorem After.after {c : Cx} {env : Env} {G G₁ : Imm} {φ φ₁ : List Loc} {s s₁ : Shared} {ρ' : Vars} {σ' : St} {s' : Shared} {K : Imm → List Loc → Prop}
    (h : After c env G₁ φ₁ s₁ ρ' σ' s' K) (S : Step c (owns env) G φ s G₁ φ₁ s₁) : After c env G φ s ρ' σ' s' K :=
  let ⟨G', φ', R, L, F, S', k⟩ := h; ⟨G', φ', R, L, F, S.trans' S', k⟩
noncomputable def Does (c : Cx) (A : Around) (env : Env) (G : Imm) (φ : List Loc) (s : Shared) (t : Sem Flow) (f : Flw) (ρ' : Vars) (σ' : St) : Prop :=
  wpAny (Md c) A t (fun f' s' => After c env G φ s ρ' σ' s' fun G' φ' => FRel c G' φ' f f') (fun _ _ => False) s
noncomputable def DoesU (c : Cx) (A : Around) (env : Env) (G : Imm) (φ : List Loc) (s : Shared) (t : Sem Unit) (ρ' : Vars) (σ' : St) : Prop :=
  wpAny (Md c) A t (fun _ s' => After c env G φ s ρ' σ' s' fun _ _ => True) (fun _ _ => False) s
theorem Does.after {c : Cx} {A : Around} {env : Env} {G G₁ : Imm} {φ φ₁ : List Loc} {s s₁ : Shared} {t : Sem Flow} {f : Flw} {ρ' : Vars} {σ' : St} (h : Does c A env G₁ φ₁ s₁ t f ρ' σ') (S : Step c (owns env) G φ s G₁ φ₁ s₁) :
    wpAny (Md c) A t (fun f' s' => After c env G φ s ρ' σ' s' fun G' φ' => FRel c G' φ' f f') (fun _ _ => False) s₁ :=
  wpAny_mono h (fun _ _ q => After.after q S) fun _ _ e => e
structure HereX (c : Cx) (P : PI) (d : Nat) (A : Around) (env : Env) (kd : Kinds) (ρ : Vars) (G : Imm) (φ : List Loc) (σ : St) (s : Shared) : Prop extends Here c P d A env kd ρ G φ σ s where
  f : FrOk env s.heap
theorem HereX.step {c : Cx} {P : PI} {d : Nat} {A : Around} {env : Env} {kd : Kinds} {ρ : Vars} {G G' : Imm} {φ φ' : List Loc} {σ σ' : St} {s s' : Shared} (H : HereX c P d A env kd ρ G φ σ s)
    (R : Rel c G' φ' σ' s') (S : Step c [] G φ s G' φ' s') : HereX c P d A env kd ρ G' φ' σ' s' := ⟨H.toHere.step R S, H.f.step H.o S⟩
theorem HereX.then {c : Cx} {P : PI} {d : Nat} {A : Around} {env : Env} {kd : Kinds} {ρ ρ' : Vars} {G G' : Imm} {φ φ' : List Loc} {σ σ' : St} {s s' : Shared} (H : HereX c P d A env kd ρ G φ σ s)
    (R : Rel c G' φ' σ' s') (L : LocRel c G' φ' env ρ' s'.heap) (F : FrOk env s'.heap) (S : Step c (owns env) G φ s G' φ' s') : HereX c P d A env kd ρ' G' φ' σ' s' :=
  ⟨⟨H.ok, H.a, H.kd, R, L, H.o.step S⟩, F⟩
section
variable {c : Cx} {P : PI} {n d : Nat} {A : Around} {env : Env} {kd : Kinds} {ρ ρ' : Vars} {G : Imm} {φ : List Loc} {σ σ' : St} {s : Shared} {v : AVal}
theorem step_own {own : List Addr} {a : Addr} (ha : a ∈ own) {h' : Heap} {tk : Nat} (hs : Heap.SameBut a s.heap h') (hl : (h'.get? a).isSome) : Step c own G φ s G φ { s with heap := h', toks := tk } where
  g := fun _ _ e => e
  ext := .refl _
  foot := fun _ h => .inl h
  dom := fun _ _ e => .inl e
  frame := fun b o _ hb e => (hs.2 b (fun q => hb (q ▸ ha))).trans e
  keep := fun b h => by
    by_cases q : b = a
    · subst q; exact hl
    · show (h'.get? b).isSome; rw [hs.2 b q]; exact h
  os := rfl
  gsz := Nat.le_refl _
  gfr := fun _ _ _ => rfl
  gft := fun _ h => .inl h
theorem rel_own {a : Addr} (R : Rel c G φ σ s) (h1 : a ∉ foot c φ) (h2 : G a = none) {h' : Heap} {tk : Nat} (hs : Heap.SameBut a s.heap h') : Rel c G φ σ { s with heap := h', toks := tk } :=
  R.same fun b o hb e => (hs.2 b (fun q => by
    subst q
    rcases hb with hb | hb
    · exact h1 hb
    · rw [h2] at hb; cases hb)).trans e
theorem sim_store {B : Around} {x : Str} {v' : Value} (hk : kd x = some .local ∨ (kd x = some .cell ∧ P.frz x = false)) (H : HereX c P d A env kd ρ G φ σ s) (V : VRel c G φ v v') : DoesU c B env G φ s (storeName env x v') (Vars.set ρ x v) σ := by
  rw [H.kd] at hk
  rcases hk with hk | ⟨hk, hz⟩
  · obtain ⟨m, hn, hv⟩ := H.l.ns
    refine wpAny_storeName_local hk hn (fun h' hn' hs => ?_) (by rw [H.l.kind]; rfl)
    have hl : (h'.get? env.locals).isSome := by obtain ⟨o, _, _, e, _⟩ := hn'; rw [e]; rfl
    refine ⟨G, φ, rel_own H.r (H.o.loc _ (.head _)).1 (H.o.loc _ (.head _)).2.1 hs, ⟨H.l.kind, H.l.glob, H.l.bi, ⟨_, hn', fun y w h1 h2 => ?_⟩, fun y w h1 h2 => ?_⟩, ?_, step_own (.head _) hs hl, trivial⟩
    · unfold Vars.set at h2
      split at h2
      · rename_i q; subst q; (cases h2); exact ⟨v', by simp, V⟩
      · rename_i q
        obtain ⟨w', e, r⟩ := hv y w h1 h2
        exact ⟨w', by simp [q, e], r⟩
    · unfold Vars.set at h2
      split at h2
      · rename_i q; subst q; rw [hk] at h1; rcases h1 with h1 | h1 <;> (cases h1)
      · obtain ⟨a, w', e, hc, r⟩ := H.l.cell y w h1 h2
        exact ⟨a, w', e, hc.sameBut hs (H.f.nl _ _ (mem_of_lookup e)), r⟩
    · refine ⟨fun y hy => ?_, H.f.apart, H.f.nl⟩
      obtain ⟨a, v₀, e, hc⟩ := H.f.ex y hy
      exact ⟨a, v₀, e, hc.sameBut hs (H.f.nl _ _ (mem_of_lookup e))⟩
  · obtain ⟨a, v₀, e, hc⟩ := H.f.ex x hk
    refine wpAny_storeName_cell H.l.kind hk e hc fun h' hc' hs => ?_
    have hl : (h'.get? a).isSome := by obtain ⟨o, e, _⟩ := hc'; rw [e]; rfl
    have ha : a ∈ owns env := mem_owns (.inr ⟨x, e⟩)
    have hne := H.f.nl _ _ (mem_of_lookup e)
    refine ⟨G, φ, rel_own H.r (H.o.cel x a e).1 (by have := (H.o.cel x a e).2.2 hk; rw [H.ok.frz, hz, if_neg (by decide)] at this; exact this) hs, ⟨H.l.kind, H.l.glob, H.l.bi, ?_, fun y w h1 h2 => ?_⟩, ?_, step_own (tk := s.toks) ha hs hl, trivial⟩
    · obtain ⟨m, ⟨o, es, ep, ho, hr⟩, hv⟩ := H.l.ns
      refine ⟨m, ⟨o, es, ep, (hs.2 _ (Ne.symm hne)).trans ho, hr⟩, fun y w h1 h2 => ?_⟩
      unfold Vars.set at h2
      split at h2
      · rename_i q; subst q; rw [hk] at h1; (cases h1)
      · exact hv y w h1 h2
    · unfold Vars.set at h2
      split at h2
      · rename_i q; subst q; (cases h2); exact ⟨a, v', e, hc', V⟩
      · rename_i q
        obtain ⟨a₂, w', e₂, hc₂, r⟩ := H.l.cell y w h1 h2
        refine ⟨a₂, w', e₂, hc₂.sameBut hs (fun z => q ?_), r⟩
        subst z
        exact H.f.apart x y _ hk e e₂
    · refine ⟨fun y hy => ?_, H.f.apart, H.f.nl⟩
      by_cases q : y = x
      · subst q; exact ⟨a, _, e, hc'⟩
      · obtain ⟨a₂, v₂, e₂, hc₂⟩ := H.f.ex y hy
        refine ⟨a₂, v₂, e₂, hc₂.sameBut hs fun z => q ?_⟩
        subst z
        exact H.f.apart x y _ hk e e₂
end
section
variable {c : Cx} {P : PI} {n d : Nat} {A : Around} {env : Env} {kd : Kinds} {ρ ρ' : Vars} {G : Imm} {φ : List Loc} {σ σ' : St} {s s' : Shared} {v : AVal}
theorem filter_inj {α β : Type} {f : α → Option β} : ∀ {l : List α} {i j : Nat} {x y : α} {b : β}, (l.filterMap f).Nodup → l[i]? = some x → l[j]? = some y → f x = some b → f y = some b → i = j
  | [], _, _, _, _, _, _, h, _, _, _ => by simp at h
  | z :: r, i, j, x, y, b, hd, hx, hy, bx, by_ => by
    have tail : (r.filterMap f).Nodup := by
      rw [List.filterMap_cons] at hd
      split at hd
      · exact hd
      · exact (List.nodup_cons.mp hd).2
    have head : ∀ {k : Nat} {w : α}, f z = some b → r[k]? = some w → f w = some b → False := fun h1 h2 h3 => by
      rw [List.filterMap_cons, h1] at hd
      exact (List.nodup_cons.mp hd).1 (List.mem_filterMap.mpr ⟨_, List.mem_of_getElem? h2, h3⟩)
    cases i with
    | zero =>
      cases j with
      | zero => rfl
      | succ j => simp at hx hy; subst hx; exact (head bx hy by_).elim
    | succ i =>
      cases j with
      | zero => simp at hx hy; subst hy; exact (head by_ hx bx).elim
      | succ j => simp at hx hy; rw [filter_inj tail hx hy bx by_]
theorem Rel.g_inj {i j : Nat} {l l' : Loc} {g : Nat} (R : Rel c G φ σ s) (h : φ[i]? = some l) (h' : φ[j]? = some l') (hg : l.g = some g) (hg' : l'.g = some g) : i = j := filter_inj R.gn h h' hg hg'
theorem Rel.tab_away {i : Nat} {l : Loc} (R : Rel c G φ σ s) (h : φ[i]? = some l) {q : Addr × Addr} (hq : q ∈ c.tabs) : q.2 ∉ l.a :: l.ps := fun ha =>
  absurd rfl ((List.nodup_append.mp R.nodup).2.2 q.2 (List.mem_map_of_mem hq) q.2 (List.mem_flatMap.mpr ⟨l, List.mem_of_getElem? h, ha⟩))
theorem Rel.set {i : Nat} {l : Loc} {o' : AObj} (R : Rel c G φ σ s) (hl : φ[i]? = some l) (k : ∀ b x, b ∉ l.a :: l.ps → (b ∈ foot c φ ∨ (G b).isSome) → s.heap.get? b = some x → s'.heap.get? b = some x)
    (lv : ∀ a ∈ l.a :: l.ps, (s'.heap.get? a).isSome) (ho : ORel c G φ l o' s') (hb : (∀ x ∈ s.gens, x.bare = true) → ∀ x ∈ s'.gens, x.bare = true := by exact fun h => h) (hg : ∀ k, l.g ≠ some k → s'.gens[k]? = s.gens[k]? := by exact fun _ _ => rfl) : Rel c G φ (σ.set i o') s' where
  gB := R.gB
  gh := fun a x e => k a x (fun h => by have := R.gf a (mem_foot hl h); rw [e] at this; cases this) (.inr (by rw [e]; rfl)) (R.gh a x e)
  gf := R.gf
  len := by rw [List.length_set]; exact R.len
  nodup := R.nodup
  live := fun a ha => by
    by_cases q : a ∈ l.a :: l.ps
    · exact lv a q
    · obtain ⟨x, hx⟩ := Option.isSome_iff_exists.mp (R.live a ha)
      rw [k a x q (.inl ha) hx]; rfl
  obj := fun j l' o h1 h2 => by
    by_cases q : i = j
    · subst q
      rw [hl] at h1; (cases h1)
      have hlt := (List.getElem?_eq_some_iff.mp hl).1
      rw [R.len] at hlt
      rw [List.getElem?_set_self hlt] at h2
      (cases h2); exact ho
    · rw [List.getElem?_set_ne q] at h2
      exact (R.obj j l' o h1 h2).frame (fun _ _ e => e) (.refl _) (fun a x ha e => k a x (fun h => q (R.loc_inj hl h1 h ha)) (.inl (mem_foot h1 ha)) e) fun g hgl => hg g fun z => q (R.g_inj hl h1 z hgl)
  gn := R.gn
  bare := hb R.bare
  tab := fun q hq => (R.tab q hq).mono (fun _ _ e => e) fun o e => k _ o (R.tab_away hl hq) (.inl (mem_tab hq)) e
theorem step_set {own : List Addr} {i : Nat} {l : Loc} (hl : φ[i]? = some l) (k : ∀ b x, b ∉ l.a :: l.ps → b ∉ own → s.heap.get? b = some x → s'.heap.get? b = some x) (lv : ∀ b, (s.heap.get? b).isSome → (s'.heap.get? b).isSome) (os : s'.os = s.os) (hz : s.gens.size ≤ s'.gens.size := by exact Nat.le_refl _) (hg : ∀ k, k ∉ gfoot φ → k < s.gens.size → s'.gens[k]? = s.gens[k]? := by exact fun _ _ _ => rfl) :
    Step c own G φ s G φ s' where
  g := fun _ _ e => e
  ext := .refl _
  foot := fun _ h => .inl h
  dom := fun _ _ e => .inl e
  frame := fun b o h1 h2 e => k b o (fun h => h1 (mem_foot hl h)) h2 e
  keep := lv
  os := os
  gsz := hz
  gfr := hg
  gft := fun _ h => .inl h
theorem handed {v : AVal} {v' : Value} (V : VRel c G φ v v') (h : notBi v = true) : handedIn v' = true := by
  cases V <;> first | rfl | cases h
theorem Rel.instAt {i : Nat} {l : Loc} {ats : List (Str × AVal)} (R : Rel c G φ σ s) (hl : φ[i]? = some l) (ho : σ[i]? = some (.inst ats)) :
    ∃ d es n, l.ps = [d] ∧ InstAt s.heap l.a (instObj c.C d) c.C (some (dictOf es n)) ∧ s.heap.get? d = some (dictOf es n) ∧ es.length = ats.length ∧
      ∀ x, match ats.lookup x with
        | some v => ∃ v', getL x es = some (some v') ∧ handedIn v' = true ∧ VRel c G φ v v'
        | .none => getL x es = some .none := by
  obtain ⟨_, d, es, n, h2, h3, h4, h5, h6⟩ := R.obj i l _ hl ho
  exact ⟨d, es, n, h2, ⟨h3, rfl, rfl, h4⟩, h4, h5, h6⟩
theorem e_attr {o : Expr} {x : Str} {a : AVal} {ats : List (Str × AVal)} {σ₁ : St} {p : Pos} (h0 : PlainE o) (h0' : P.attrOk x = true) (h1 : EvE P d kd ρ o σ a σ₁) (h2 : instOf? σ₁ a = some ats) (h3 : ats.lookup x = some v) : EvE P d kd ρ (.Attribute o x p) σ v σ₁ := .intro fun {c A env G φ s} H => by
  refine Attribute_any_ (wpAny_mono (h1.run H) (fun a' s₁ ⟨G₁, φ₁, R₁, V₁, S₁⟩ => ?_) fun _ _ e => e) (by
    cases h0 <;> with_unfolding_all rfl)
  cases a with
  | ref i =>
    unfold instOf? at h2
    simp only at h2
    split at h2
    · rename_i q
      (cases h2)
      cases V₁ using VRel.refE with
      | ref hl =>
        obtain ⟨d, es, n, _, I, _, _, h6⟩ := R₁.instAt hl q
        have h7 := h6 x
        rw [h3] at h7
        obtain ⟨v', e1, e2, e3⟩ := h7
        obtain ⟨_, at_, ha, hn⟩ := H.ok.attr x h0'
        exact get_value (H.ok.ok.x.keeps R₁.keepB) I H.ok.ga (findObj_own H.ok.hd ha hn (by rw [lookIn_dict]; exact e1)) e2 ⟨G₁, φ₁, R₁.toks _, e3, S₁.trans' (step_toks _)⟩
    · (cases h2)
  | _ => (cases h2)
end
end Mini
namespace Mini
open PySem PySem.W PyProof PyProof.Rows PySem.Calls
noncomputable def objsBut (h : Heap) (L d : Addr) : List (Addr × Obj) := (List.range h.objs.size).filterMap fun a => if a = L ∨ a = d then none else (h.get? a).map fun o => (a, o)
theorem mem_objsBut {h : Heap} {L d a : Addr} {o : Obj} : (a, o) ∈ objsBut h L d ↔ a ≠ L ∧ a ≠ d ∧ h.get? a = some o := by
  unfold objsBut
  rw [List.mem_filterMap]
  constructor
  · rintro ⟨b, _, e⟩
    split at e
    · cases e
    · rename_i hb
      obtain ⟨x, hx, e⟩ := Option.map_eq_some_iff.mp e
      cases e
      exact ⟨fun q => hb (.inl q), fun q => hb (.inr q), hx⟩
  · rintro ⟨h1, h2, h3⟩
    exact ⟨a, List.mem_range.mpr (Heap.lt_size h3), by rw [if_neg (by rintro (q | q); exact h1 q; exact h2 q), h3]; rfl⟩
theorem empty_get (b : Addr) : ({} : Heap).get? b = none := by
  cases q : ({} : Heap).get? b with
  | none => rfl
  | some o => exact absurd (Heap.lt_size q) (Nat.not_lt_zero _)
theorem fr_empty {h : Heap} {L : Addr} {m : Str → Option Value} (hn : h.Ns L m) : Fr {} L h m := ⟨hn, (fun b o e => by rw [empty_get] at e; cases e), Nat.zero_le _⟩
theorem news_all {h : Heap} {L d : Addr} {o : Obj} (hd : h.get? d = some o) (hne : d ≠ L) : News {} L h ([] ++ (d, o) :: objsBut h L d) := fun p hp => by
  rcases List.mem_cons.mp hp with rfl | hp
  · exact ⟨hd, hne, empty_get _⟩
  · obtain ⟨h1, _, h3⟩ := mem_objsBut.mp (show (p.1, p.2) ∈ _ from hp)
    exact ⟨h3, h1, empty_get _⟩
theorem nat_le_sum {x : Nat} : ∀ {l : List Nat}, x ∈ l → x ≤ l.sum
  | y :: r, h => by
    rw [List.sum_cons]
    rcases List.mem_cons.mp h with rfl | h
    · lia
    · have := nat_le_sum h; lia
theorem getL_put (name : Str) (hsh : Int) (v : Value) (tk : Tok) : ∀ (es : List DictEntry) (y : Str), (∀ z, (getL z es).isSome = true) →
    getL y (putL name hsh (.str name tk) v es) = if y = name then some (some v) else getL y es := by
  intro es
  induction es with
  | nil =>
    intro y _
    unfold putL getL
    by_cases q : y = name
    · subst q; simp [Value.isStr]
    · have : (name == y) = false := beq_eq_false_iff_ne.mpr (Ne.symm q)
      simp [Value.isStr, q, this, DictEntry.refKey]
  | cons e r ih =>
    intro y hz
    have nr : (e :: r).any (·.refKey) = false := by
      cases q : (e :: r).any (·.refKey) with
      | false => rfl
      | true =>
        exfalso
        -- a name that no key bears
        have key : ∀ (l : List DictEntry), ∃ z : Str, ∀ x ∈ l, x.key.isStr z = false := by
          intro l
          refine ⟨⟨((l.map fun x => match x.key with | .str u _ => u.cps.toList.sum + 1 | _ => 0).sum + 1) :: [] |>.toArray⟩, fun x hx => ?_⟩
          cases hk : x.key with
          | str u t =>
            show (u == _) = false
            refine beq_eq_false_iff_ne.mpr fun q => ?_
            have h1 : u.cps.toList.sum + 1 ≤ (l.map fun x => match x.key with | .str u _ => u.cps.toList.sum + 1 | _ => 0).sum := by
              have : u.cps.toList.sum + 1 ∈ l.map fun x => match x.key with | .str u _ => u.cps.toList.sum + 1 | _ => 0 := List.mem_map.mpr ⟨x, hx, by rw [hk]⟩
              exact nat_le_sum this
            rw [q] at h1
            simp at h1
            lia
          | _ => rfl
        obtain ⟨z, hzz⟩ := key (e :: r)
        have h1 := hz z
        unfold getL at h1
        rw [show (e :: r).find? (fun x => x.key.isStr z) = none from List.find?_eq_none.mpr fun x hx => by rw [hzz x hx]; simp, q] at h1
        simp at h1
    have hr : ∀ z, (getL z r).isSome = true := fun z => by
      unfold getL
      split
      · rfl
      · have : r.any (·.refKey) = false := by
          rw [List.any_cons, Bool.or_eq_false_iff] at nr
          exact nr.2
        rw [this]; rfl
    have hcons : ∀ (w : DictEntry) (l : List DictEntry), w.refKey = false → getL y (w :: l) = if w.key.isStr y = true then some (some w.val) else getL y l := by
      intro w l hw
      unfold getL
      rw [List.find?_cons]
      cases q : w.key.isStr y with
      | true => simp
      | false => simp [List.any_cons, hw]
    have ne : e.refKey = false := by rw [List.any_cons, Bool.or_eq_false_iff] at nr; exact nr.1
    unfold putL
    split
    · rename_i hk
      have ne' : (DictEntry.mk e.hash e.key v).refKey = false := ne
      rw [hcons _ _ ne', hcons _ _ ne]
      have eqk : e.key.isStr y = true ↔ y = name := by
        cases hkey : e.key with
        | str u t =>
          rw [hkey] at hk
          have e1 : u = name := eq_of_beq hk
          subst e1
          show (u == y) = true ↔ _
          rw [beq_iff_eq]
          exact ⟨fun q => q.symm, fun q => q.symm⟩
        | _ => rw [hkey] at hk; cases hk
      by_cases q : y = name
      · rw [if_pos (eqk.mpr q), if_pos q]
      · rw [if_neg (fun z => q (eqk.mp z)), if_neg q, if_neg (fun z => q (eqk.mp z))]
    · rename_i hk
      rw [hcons _ _ ne, hcons _ _ ne, ih y hr]
      by_cases q : e.key.isStr y = true
      · rw [if_pos q, if_pos q]
        have : y ≠ name := fun z => hk (by rw [← z]; exact q)
        rw [if_neg this]
      · rw [if_neg q, if_neg q]
theorem putL_length (name : Str) (hsh : Int) (k v : Value) : ∀ es : List DictEntry, (putL name hsh k v es).length = if es.any (·.key.isStr name) then es.length else es.length + 1
  | [] => rfl
  | e :: r => by
    unfold putL
    split
    · rename_i h; simp [h]
    · rename_i h
      rw [List.length_cons, putL_length name hsh k v r]
      simp only [List.any_cons, h, Bool.false_or]
      split <;> simp
theorem lookup_putAt (x : Str) (v : AVal) : ∀ (l : List (Str × AVal)) (y : Str), (putAt x v l).lookup y = if y = x then some v else l.lookup y
  | [], y => by
    unfold putAt
    rw [List.lookup_cons]
    by_cases q : y = x
    · simp [q]
    · simp [q, beq_eq_false_iff_ne.mpr q]
  | (z, w) :: r, y => by
    unfold putAt
    split
    · rename_i h
      subst h
      rw [List.lookup_cons, List.lookup_cons]
      by_cases q : y = z
      · simp [q]
      · simp [q, beq_eq_false_iff_ne.mpr q]
    · rename_i h
      rw [List.lookup_cons, List.lookup_cons, lookup_putAt x v r y]
      by_cases q : y = z
      · subst q; simp [h]
      · simp [beq_eq_false_iff_ne.mpr q]
theorem length_putAt (x : Str) (v : AVal) : ∀ (l : List (Str × AVal)), (putAt x v l).length = if (l.lookup x).isSome then l.length else l.length + 1
  | [] => rfl
  | (z, w) :: r => by
    unfold putAt
    rw [List.lookup_cons]
    split
    · rename_i h; subst h; simp
    · rename_i h
      rw [beq_eq_false_iff_ne.mpr (Ne.symm h)]
      simp only [List.length_cons, length_putAt x v r]
      split <;> simp
theorem getL_any {x : Str} {es : List DictEntry} : (∃ v, getL x es = some (some v)) ↔ es.any (·.key.isStr x) = true := by
  unfold getL
  constructor
  · rintro ⟨v, h⟩
    split at h
    · rename_i e he
      exact List.any_eq_true.mpr ⟨e, List.mem_of_find?_eq_some he, by simpa using List.find?_some he⟩
    · split at h <;> cases h
  · intro h
    obtain ⟨e, he, hk⟩ := List.any_eq_true.mp h
    cases q : es.find? (·.key.isStr x) with
    | none => exact absurd hk (by simpa using List.find?_eq_none.mp q e he)
    | some e' => exact ⟨e'.val, rfl⟩
theorem flat_nodup {α β : Type} (f : α → List β) {x : α} : ∀ {l : List α}, (l.flatMap f).Nodup → x ∈ l → (f x).Nodup
  | z :: r, h, hx => by
    rw [List.flatMap_cons] at h
    obtain ⟨h1, h2, _⟩ := List.nodup_append.mp h
    rcases List.mem_cons.mp hx with rfl | hx
    · exact h1
    · exact flat_nodup f h2 hx
section
variable {c : Cx} {P : PI} {n d : Nat} {A : Around} {env : Env} {kd : Kinds} {ρ ρ' : Vars} {G : Imm} {φ : List Loc} {σ σ' : St} {s s' : Shared} {v : AVal}
theorem set_attr {L : Addr} {m : Str → Option Value} {i : Nat} {l : Loc} {ats : List (Str × AVal)} {x : Str} {v' : Value} {Q : Unit → Shared → Prop} {E : Value → Shared → Prop} (ok : COk c P) (R : Rel c G φ σ s) (hl : φ[i]? = some l) (ho : σ[i]? = some (.inst ats))
    (hn : s.heap.Ns L m) (hL : L ∉ foot c φ) (hG : G L = none) (hx : P.attrOk x = true) (hb : notBi v = true) (hz : ats.length ≤ 10) (V : VRel c G φ v v')
    (q : ∀ h' tk, Rel c G φ (σ.set i (.inst (putAt x v ats))) { s with heap := h', toks := tk } → h'.Ns L m → (∀ b o, b ≠ L → b ∉ l.a :: l.ps → s.heap.get? b = some o → h'.get? b = some o) → (∀ b, (s.heap.get? b).isSome → (h'.get? b).isSome) → Q () { s with heap := h', toks := tk }) :
    wpAny (Md c) A (setAttr (.ref l.a) x v') Q E s := by
  obtain ⟨dd, es, nn, hps, I, hd, hlen, hall⟩ := R.instAt hl ho
  have hne : dd ≠ L := fun z => hL (mem_foot hl (by rw [hps, ← z]; exact .tail _ (.head _)))
  obtain ⟨ht, _⟩ := ok.attr x hx
  have hsome : ∀ z, (getL z es).isSome = true := fun z => by
    have h1 := hall z
    cases q : ats.lookup z with
    | none => rw [q] at h1; rw [h1]; rfl
    | some w => rw [q] at h1; obtain ⟨w', e, _⟩ := h1; rw [e]; rfl
  have X := ok.ok.x.keeps R.keepB
  refine set_plain X I ok.sa (osa_dict (s := { s with toks := s.toks + 1 }) (fr_empty hn) (news_all hd hne) X I rfl ok.po ht ok.hd (by rw [lookIn_dict]; exact hsome x) (fun p hp => nomatch hp) (fun p hp => (mem_objsBut.mp (show (p.1, p.2) ∈ _ from hp)).2.1)
    (by rw [putName_dict]) rfl ?_ fun h' F' N' => ?_)
  · rw [putL_length]
    split <;> lia
  · have hd' := (N' (dd, _) (.head _)).1
    have keep : ∀ b o, b ≠ L → b ≠ dd → s.heap.get? b = some o → h'.get? b = some o := fun b o h1 h2 e => (N' (b, o) (.tail _ (mem_objsBut.mpr ⟨h1, h2, e⟩))).1
    have hns := F'.ns
    have hlive : ∀ b, (s.heap.get? b).isSome → (h'.get? b).isSome := fun b hb => by
      obtain ⟨o, ho⟩ := Option.isSome_iff_exists.mp hb
      by_cases q1 : b = L
      · subst q1; obtain ⟨oL, _, _, e, _⟩ := hns; rw [e]; rfl
      · by_cases q2 : b = dd
        · subst q2; rw [hd']; rfl
        · rw [keep b o q1 q2 ho]; rfl
    have hla : l.a ≠ dd := fun z => by
      have h2 : (l.a :: l.ps).Nodup := flat_nodup (fun l : Loc => l.a :: l.ps) (List.nodup_append.mp R.nodup).2.1 (List.mem_of_getElem? hl)
      rw [hps, ← z] at h2
      simp at h2
    have hlL : l.a ≠ L := fun z => hL (mem_foot hl (by rw [← z]; exact .head _))
    refine q h' _ (R.set hl (fun b o h1 h2 e => keep b o (fun z => ?_) (fun z => h1 (by rw [hps, z]; exact .tail _ (.head _))) e) (fun a ha => hlive a ?_) ?_) hns (fun b o h1 h2 e => keep b o h1 (fun z => h2 (by rw [hps, z]; exact .tail _ (.head _))) e) hlive
    · subst z
      rcases h2 with h2 | h2
      · exact hL h2
      · rw [hG] at h2; cases h2
    · exact R.live a (mem_foot hl ha)
    · refine ⟨(R.obj i l _ hl ho).1, dd, _, _, hps, keep _ _ hlL hla I.at_, hd', ?_, fun y => ?_⟩
      · rw [putL_length, length_putAt, hlen]
        have h1 := hall x
        have h2 := getL_any (x := x) (es := es)
        cases q : ats.lookup x with
        | none =>
          rw [q] at h1
          have : es.any (·.key.isStr x) = false := by
            cases q2 : es.any (·.key.isStr x) with
            | false => rfl
            | true => obtain ⟨w, e⟩ := h2.mpr q2; rw [h1] at e; cases e
          simp [this]
        | some w =>
          rw [q] at h1
          obtain ⟨w', e, _⟩ := h1
          simp [h2.mp ⟨w', e⟩]
      · rw [lookup_putAt, getL_put _ _ _ _ _ _ hsome]
        by_cases q : y = x
        · simp only [q, if_true]
          exact ⟨v', rfl, handed V hb, V⟩
        · simp only [q, if_false]
          exact hall y
end
end Mini
namespace Mini
open PySem PySem.W PyProof PyProof.Rows PySem.Calls
structure EvX (P : PI) (d : Nat) (kd : Kinds) (ρ : Vars) (st : Stmt) (σ : St) (f : Flw) (ρ' : Vars) (σ' : St) : Prop where
  intro ::
  run : ∀ {c A env G φ s}, HereX c P d A env kd ρ G φ σ s → Does c A env G φ s (PySem.exec st env) f ρ' σ'
structure EvXs (P : PI) (d : Nat) (kd : Kinds) (ρ : Vars) (ss : List Stmt) (σ : St) (f : Flw) (ρ' : Vars) (σ' : St) : Prop where
  intro ::
  run : ∀ {c A env G φ s}, HereX c P d A env kd ρ G φ σ s → Does c A env G φ s (PySem.execs ss env) f ρ' σ'
noncomputable def EvA (P : PI) (d : Nat) (kd : Kinds) (ρ : Vars) (t : Expr) (v : AVal) (σ : St) (ρ' : Vars) (σ' : St) : Prop := notStar t = true ∧ ∀ {c A env G φ s v'}, HereX c P d A env kd ρ G φ σ s → VRel c G φ v v' → DoesU c A env G φ s (PySem.assign t env v') ρ' σ'
section
variable {c : Cx} {P : PI} {n d : Nat} {A : Around} {env : Env} {kd : Kinds} {ρ ρ' : Vars} {G : Imm} {φ : List Loc} {σ σ' : St} {s s' : Shared} {v : AVal}
theorem rel_ext (R : Rel c G φ σ s) {h' : Heap} {tk : Nat} (k : ∀ b o, s.heap.get? b = some o → h'.get? b = some o) : Rel c G φ σ { s with heap := h', toks := tk } := R.same fun b o _ e => k b o e
theorem step_ext {own : List Addr} {h' : Heap} {tk : Nat} (k : ∀ b o, s.heap.get? b = some o → h'.get? b = some o) : Step c own G φ s G φ { s with heap := h', toks := tk } where
  g := fun _ _ e => e
  ext := .refl _
  foot := fun _ h => .inl h
  dom := fun _ _ e => .inl e
  frame := fun b o _ _ e => k b o e
  keep := fun b h => by obtain ⟨x, hx⟩ := Option.isSome_iff_exists.mp h; show (h'.get? b).isSome; rw [k b x hx]; rfl
  os := rfl
  gsz := Nat.le_refl _
  gfr := fun _ _ _ => rfl
  gft := fun _ h => .inl h
theorem assignEach_cons {t : Expr} {ts : List Expr} (h : notStar t = true) : assignEach (t :: ts) env = (false, PySem.assign t env) :: assignEach ts env := by
  cases t <;> first | rfl | cases h
theorem set_item {l : Addr} {items : Array Value} {m : Nat} {k : Int} {t : Tok} {w : Value} {Q : Unit → Shared → Prop} {E : Value → Shared → Prop} (hl : s.heap.get? l = some { cls := .type "list", data := .seq items m }) (h0 : 0 ≤ k) (hf : k < 2 ^ 63) (hn : k < items.size)
    (hQ : ∀ h' m', h'.get? l = some { cls := .type "list", data := .seq (items.setIfInBounds k.toNat w) m' } → Heap.SameBut l s.heap h' → Q () { s with heap := h' }) : wpAny (Md c) A (setItem (.ref l) (.int k t) w) Q E s := by
  have hT : s.TypeIs (.ref l) "list" := ⟨_, hl, rfl⟩
  unfold setItem
  try with_reducible refine wpAny_holding ?_
  first | refine wpAny_bind (wpAny_pure ?_) | skip
  refine wpAny_bind (wpAny_sequenceKey hT (by decide) ?_)
  refine wpAny_bind (wpAny_callSpecial?_slot (name := Str.ofString "__setitem__") hT slot_list_setitem (wpAny_call_entry slot_list_setitem hT entry_list_setitem ?_ (args_list_setitem _ _ _)))
  show wpAny _ _ (Builtin.List.listSubscript? (.int k t) >>= _) _ _ s
  refine wpAny_bind (wpAny_listSubscript_int (fitsIndex_of h0 hf) ?_)
  clear hf
  obtain ⟨j, rfl⟩ := Int.eq_ofNat_of_zero_le h0
  have hj : j < items.size := by lia
  show wpAny _ _ ((seqItemAt l j >>= fun r => pure (r.map (j, ·))) >>= _) _ _ s
  refine wpAny_bind (wpAny_bind (wpAny_seqItemAt hl rfl (wpAny_pure ?_)))
  rw [Array.getElem?_eq_getElem hj]
  show wpAny _ _ (setSeqItemAt l j w >>= _) _ _ s
  refine wpAny_bind (wpAny_setSeqItemAt hl rfl ?_)
  obtain ⟨m', hm'⟩ : ∃ m', (Obj.mapSeq (·.setIfInBounds j w) { cls := .type "list", data := .seq items m } : Obj) = { cls := .type "list", data := .seq (items.setIfInBounds j w) m' } := ⟨_, rfl⟩
  have fin := hQ (s.heap.update l (Obj.mapSeq (·.setIfInBounds j w))) m' (by rw [Int.toNat_natCast, ← hm']; exact Heap.get?_update_self _ hl (by rw [hm']; rfl)) (Heap.SameBut.update ..)
  first
    | exact wpAny_bind (wpAny_pure (wpAny_pure ⟨.none, rfl, wpAny_pure fin⟩))
    | exact wpAny_pure ⟨.none, rfl, wpAny_pure fin⟩
theorem notModule (L : LocRel c G φ env ρ s.heap) : interactive env = false := by unfold interactive; rw [L.kind]; rfl
theorem swaps_no {e : Expr} {t : Option Expr} {k : Nat} (h : isComp e = false) : swapsWith e t k env = pure false := by
  cases e <;> first | rfl | cases h
theorem filter_short {α β : Type} {f : α → Option β} : ∀ {l : List α} {x : α}, x ∈ l → f x = none → (l.filterMap f).length < l.length
  | y :: r, x, h, e => by
    rw [List.filterMap_cons]
    rcases List.mem_cons.mp h with rfl | h
    · rw [e]; exact Nat.lt_succ_of_le (List.length_filterMap_le _ _)
    · have := filter_short h e
      split
      · rw [List.length_cons]; lia
      · rw [List.length_cons, List.length_cons]; lia
theorem swapped_no {t e : Expr} (h : noSwap env.kindOf t e = true) : swappedStores [t] e env = pure none := by
  cases t <;> first | rfl | (cases e <;> first | rfl | cases h | skip)
  rename_i ts k p vs k' p'
  obtain ⟨x, hx, hk⟩ := List.any_eq_true.mp (show (ts.any _) = true from h)
  unfold swappedStores
  simp only
  split
  · rfl
  · split
    · rfl
    · have hl := filter_short (f := fun | .Name id pos => if env.kindOf id == some .local && pos.line == (ts.head?.map (·.pos.line)).getD 0 then some id else none | _ => none) hx (by
        cases x <;> first | rfl | skip
        simp only [bne_iff_ne, ne_eq] at hk
        simp [hk])
      rw [if_pos]
      rw [Bool.or_eq_true]
      exact .inl (by simp only [bne_iff_ne, ne_eq]; exact Nat.ne_of_lt hl)
theorem noSwap_star {t e : Expr} (h : noSwap kd t e = true) : notStar t = true := by
  cases t <;> first | rfl | cases h
end
section
variable {P : PI} {d : Nat} {kd : Kinds} {ρ ρ₁ ρ₂ ρ₃ ρ' : Vars} {σ σ₁ σ₂ σ₃ σ' : St} {v a b : AVal} {p : Pos}
theorem a_name {x : Str} {q : Pos} (h : (kd x == some .local || (kd x == some .cell && !P.frz x)) = true) : EvA P d kd ρ (.Name x q) v σ (Vars.set ρ x v) σ := ⟨rfl, fun H V => by
  rw [Bool.or_eq_true] at h
  exact wpAny_assign_Name (sim_store (h.elim (fun h => .inl (eq_of_beq h)) fun h => .inr (by rw [Bool.and_eq_true, Bool.not_eq_true'] at h; exact ⟨eq_of_beq h.1, h.2⟩)) H V)⟩
theorem a_attr {o : Expr} {x : Str} {q : Pos} {i : Nat} {ats : List (Str × AVal)} (h0 : (P.attrOk x && notBi v) = true) (h1 : EvE P d kd ρ o σ (.ref i) σ₁) (h2 : σ₁[i]? = some (.inst ats)) (h3 : ats.length ≤ 10) : EvA P d kd ρ (.Attribute o x q) v σ ρ (σ₁.set i (.inst (putAt x v ats))) := ⟨rfl, fun {c A env G φ s v'} H V => by
  rw [Bool.and_eq_true] at h0
  show wpAny _ _ (do
    let ov ← holding [v'] (PySem.eval o env)
    standAt q.atName
    holding [v', ov] (setAttr ov x v')
    release [v', ov] []) _ _ _
  refine wpAny_bind (wpAny_holding (wpAny_mono (h1.run H.toHere) (fun ov s₁ ⟨G₁, φ₁, R₁, V₁, S₁⟩ => wpAny_bind (wpAny_standAt (wpAny_bind (wpAny_holding ?_)))) fun _ _ e => e))
  have H₁ := H.step R₁ S₁
  cases V₁ using VRel.refE with
  | ref hl =>
    obtain ⟨m, hn, hv⟩ := H₁.l.ns
    obtain ⟨q1, q2, q3⟩ := H₁.o.loc env.locals (.head _)
    refine set_attr H.ok R₁ hl h2 hn q1 q2 h0.1 h0.2 h3 (V.mono S₁.g S₁.ext) fun h' tk R₂ hn₂ k lv => wpAny_release ?_
    have SS : Step c (owns env) G₁ φ₁ s₁ G₁ φ₁ { s₁ with heap := h', toks := tk } := step_set hl (fun b x hb ho e => k b x (fun z => ho (by rw [z]; exact .head _)) hb e) lv rfl
    have own : ∀ a o, a ∈ owns env → a ≠ env.locals → s₁.heap.get? a = some o → h'.get? a = some o := fun a o ha hne e => k a o hne (fun z => (H₁.o.away ha).1 (mem_foot hl z)) e
    refine ⟨G₁, φ₁, R₂, ⟨H₁.l.kind, H₁.l.glob, H₁.l.bi, ⟨m, hn₂, hv⟩, fun y w h1 h2 => ?_⟩, ⟨fun y hy => ?_, H.f.apart, H.f.nl⟩, (S₁.weaken fun _ h => nomatch h).trans' SS, trivial⟩
    · obtain ⟨a, w', e, ⟨oo, ho, hd⟩, r⟩ := H₁.l.cell y w h1 h2
      exact ⟨a, w', e, ⟨oo, own a oo (mem_owns (.inr ⟨y, e⟩)) (H.f.nl _ _ (mem_of_lookup e)) ho, hd⟩, r⟩
    · obtain ⟨a, v₀, e, oo, ho, hd⟩ := H₁.f.ex y hy
      exact ⟨a, v₀, e, oo, own a oo (mem_owns (.inr ⟨y, e⟩)) (H.f.nl _ _ (mem_of_lookup e)) ho, hd⟩⟩
theorem a_item {o e : Expr} {q : Pos} {j : Nat} {k : Int} {vs : List AVal} (h1 : EvE P d kd ρ o σ (.ref j) σ₁) (h2 : EvE P d kd ρ e σ₁ (.int k) σ₂) (h3 : σ₂[j]? = some (.list vs)) (hk : 0 ≤ k ∧ k < vs.length ∧ vs.length ≤ lim) :
    EvA P d kd ρ (.Subscript o e q) v σ ρ (σ₂.set j (.list (vs.set k.toNat v))) := ⟨rfl, fun {c A env G φ s v'} H V => by
  rw [assign_Subscript]
  refine wpAny_bind (wpAny_holding (wpAny_mono (h1.run H.toHere) (fun ov s₁ ⟨G₁, φ₁, R₁, V₁, S₁⟩ => wpAny_bind (wpAny_holding (wpAny_mono (h2.run (H.step R₁ S₁).toHere) (fun iv s₂ ⟨G₂, φ₂, R₂, V₂, S₂⟩ => wpAny_bind (wpAny_standAt (wpAny_bind (wpAny_holding ?_)))) fun _ _ e => e))) fun _ _ e => e))
  have H₂ := (H.step R₁ S₁).step R₂ S₂
  have SS := S₁.trans' S₂
  (cases V₂ using VRel.intE)
  have V₁' := V₁.mono S₂.g S₂.ext
  cases V₁' using VRel.refE with
  | ref hl =>
    rename_i l tk
    obtain ⟨p1, p2, items, m, e, rr⟩ := R₂.obj _ _ _ hl h3
    obtain ⟨kk, rfl⟩ := Int.eq_ofNat_of_zero_le hk.1
    have hz : kk < items.length := by rw [← rr.length]; lia
    refine set_item e hk.1 (by have := hk.2.2; unfold lim at this; lia) (by simpa using hz) fun h' m' e' hs => wpAny_release ?_
    have ne : ∀ b, b ∉ l.a :: l.ps → b ≠ l.a := fun b hb z => hb (by rw [z]; exact .head _)
    have lv : ∀ b, (s₂.heap.get? b).isSome → (h'.get? b).isSome := fun b hb => by
      by_cases z : b = l.a
      · rw [z, e']; rfl
      · rw [hs.2 b z]; exact hb
    have R₃ : Rel c G₂ φ₂ (σ₂.set j (.list (vs.set kk v))) { s₂ with heap := h' } := R₂.set hl (fun b x hb _ e => (hs.2 b (ne b hb)).trans e) (fun a ha => lv a (R₂.live a (mem_foot hl ha))) ⟨p1, p2, items.set kk v', m', by rw [e']; simp, rr.set kk (V.mono SS.g SS.ext)⟩
    have S₃ : Step c [] G₂ φ₂ s₂ G₂ φ₂ { s₂ with heap := h' } := step_set hl (fun b x hb _ e => (hs.2 b (ne b hb)).trans e) lv rfl
    have H₃ := H₂.step R₃ S₃
    exact ⟨G₂, φ₂, R₃, H₃.l, H₃.f, (SS.trans' S₃).weaken (fun _ h => nomatch h), trivial⟩⟩
theorem xs_nil : EvXs P d kd ρ [] σ .next ρ σ := .intro fun {c A env G φ s} H => wpAny_execs_nil ⟨G, φ, H.r, H.l, H.f, .refl .., .next⟩
theorem xs_cons {st : Stmt} {ss : List Stmt} {f : Flw} (h1 : EvX P d kd ρ st σ .next ρ₁ σ₁) (h2 : EvXs P d kd ρ₁ ss σ₁ f ρ' σ') : EvXs P d kd ρ (st :: ss) σ f ρ' σ' := .intro fun H => by
  refine wpAny_execs_cons (wpAny_mono (h1.run H) (fun f' s₁ ⟨G₁, φ₁, R₁, L₁, F₁, S₁, FR⟩ => ?_) fun _ _ e => e)
  cases FR
  exact Does.after (h2.run (H.then R₁ L₁ F₁ S₁)) S₁
theorem xs_ret {st : Stmt} {ss : List Stmt} (h1 : EvX P d kd ρ st σ (.ret v) ρ₁ σ₁) : EvXs P d kd ρ (st :: ss) σ (.ret v) ρ₁ σ₁ := .intro fun H => by
  refine wpAny_execs_cons (wpAny_mono (h1.run H) (fun f' s₁ ⟨G₁, φ₁, R₁, L₁, F₁, S₁, FR⟩ => ?_) fun _ _ e => e)
  cases FR with
  | ret hv => exact ⟨G₁, φ₁, R₁, L₁, F₁, S₁, .ret hv⟩
theorem x_assign {t e : Expr} (h0 : (noSwap kd t e && !isComp e) = true) (h1 : EvE P d kd ρ e σ v σ₁) (h2 : EvA P d kd ρ t v σ₁ ρ' σ') : EvX P d kd ρ (.Assign [t] e p) σ .next ρ' σ' := .intro fun {c A env G φ s} H => by
  rw [Bool.and_eq_true, Bool.not_eq_true'] at h0
  refine wpAny_Assign_stores (wpAny_mono (h1.run H.toHere) (fun v' s₁ ⟨G₁, φ₁, R₁, V₁, S₁⟩ => ?_) fun _ _ e => e) (swaps_no h0.2) (swapped_no (by rw [← H.kd]; exact h0.1))
  rw [assignEach_cons (noSwap_star h0.1)]
  show wpAny _ _ (PySem.assign t env v') _ _ _
  have S₁' := S₁.weaken (own' := owns env) fun _ h => nomatch h
  refine wpAny_mono (h2.2 (H.step R₁ S₁) V₁) (fun _ s₂ q => ?_) fun _ _ e => e
  obtain ⟨G₂, φ₂, R₂, L₂, F₂, S₂, _⟩ := q
  exact ⟨G₂, φ₂, R₂, L₂, F₂, S₁'.trans' S₂, .next⟩
theorem x_return {e : Expr} (h1 : EvE P d kd ρ e σ v σ₁) : EvX P d kd ρ (.Return (some e) p) σ (.ret v) ρ σ₁ := .intro fun H => by
  refine wpAny_Return_some (wpAny_mono (h1.run H.toHere) (fun v' s₁ ⟨G₁, φ₁, R₁, V₁, S₁⟩ => ?_) fun _ _ e => e)
  have H₁ := H.step R₁ S₁
  exact ⟨G₁, φ₁, R₁, H₁.l, H₁.f, S₁.weaken (fun _ h => nomatch h), .ret V₁⟩
theorem x_expr {e : Expr} (h0 : isComp e = false) (h1 : EvE P d kd ρ e σ v σ₁) : EvX P d kd ρ (.Expr e p) σ .next ρ σ₁ := .intro fun H => by
  refine wpAny_Expr_any (wpAny_mono (h1.run H.toHere) (fun v' s₁ ⟨G₁, φ₁, R₁, V₁, S₁⟩ => ?_) fun _ _ e => e) (notModule H.l) (swaps_no h0)
  have H₁ := H.step R₁ S₁
  exact ⟨G₁, φ₁, R₁, H₁.l, H₁.f, S₁.weaken (fun _ h => nomatch h), .next⟩
theorem x_if {t : Expr} {x y : List Stmt} {f : Flw} {z : Bool} (h1 : EvT P d kd ρ t σ z σ₁) (h2 : EvXs P d kd ρ (if z then x else y) σ₁ f ρ' σ') : EvX P d kd ρ (.If t x y p) σ f ρ' σ' := .intro fun {c A env G φ s} H => by
  refine wpAny_If (wpAny_mono (h1.run H.toHere) (fun z' s₁ ⟨e, G₁, φ₁, R₁, S₁⟩ => ?_) fun _ _ e => e)
  subst e
  have S₁' := S₁.weaken (own' := owns env) fun _ h => nomatch h
  cases z' with
  | true => exact Does.after (h2.run (H.step R₁ S₁)) S₁'
  | false => exact Does.after (h2.run (H.step R₁ S₁)) S₁'
theorem x_ifT {t : Expr} {x y : List Stmt} {f : Flw} (h1 : EvT P d kd ρ t σ true σ₁) (h2 : EvXs P d kd ρ x σ₁ f ρ' σ') : EvX P d kd ρ (.If t x y p) σ f ρ' σ' := x_if h1 h2
theorem x_ifF {t : Expr} {x y : List Stmt} {f : Flw} (h1 : EvT P d kd ρ t σ false σ₁) (h2 : EvXs P d kd ρ y σ₁ f ρ' σ') : EvX P d kd ρ (.If t x y p) σ f ρ' σ' := x_if h1 h2
inductive EvWn (P : PI) (d : Nat) (kd : Kinds) (t : Expr) (b : List Stmt) : Nat → Vars → St → Flw → Vars → St → Prop
  | fin {ρ : Vars} {σ σ₁ : St} {n : Nat} (h1 : EvT P d kd ρ t σ false σ₁) : EvWn P d kd t b n ρ σ .next ρ σ₁
  | more {ρ ρ₁ ρ' : Vars} {σ σ₁ σ₂ σ' : St} {f : Flw} {n : Nat} (h1 : EvT P d kd ρ t σ true σ₁) (h2 : EvXs P d kd ρ b σ₁ .next ρ₁ σ₂) (h3 : EvWn P d kd t b n ρ₁ σ₂ f ρ' σ') : EvWn P d kd t b (n + 1) ρ σ f ρ' σ'
  | ret {ρ ρ₁ : Vars} {σ σ₁ σ₂ : St} {v : AVal} {n : Nat} (h1 : EvT P d kd ρ t σ true σ₁) (h2 : EvXs P d kd ρ b σ₁ (.ret v) ρ₁ σ₂) : EvWn P d kd t b n ρ σ (.ret v) ρ₁ σ₂
noncomputable def EvW (P : PI) (d : Nat) (kd : Kinds) (ρ : Vars) (t : Expr) (b : List Stmt) (σ : St) (f : Flw) (ρ' : Vars) (σ' : St) : Prop := ∃ n, EvWn P d kd t b n ρ σ f ρ' σ'
theorem w_end {t : Expr} {x : List Stmt} (h1 : EvT P d kd ρ t σ false σ₁) : EvW P d kd ρ t x σ .next ρ σ₁ := ⟨0, .fin h1⟩
theorem w_more {t : Expr} {x : List Stmt} {f : Flw} (h1 : EvT P d kd ρ t σ true σ₁) (h2 : EvXs P d kd ρ x σ₁ .next ρ₁ σ₂) (h3 : EvW P d kd ρ₁ t x σ₂ f ρ' σ') : EvW P d kd ρ t x σ f ρ' σ' := let ⟨n, h⟩ := h3; ⟨n + 1, .more h1 h2 h⟩
inductive WhInv (c : Cx) (P : PI) (d : Nat) (A : Around) (env : Env) (kd : Kinds) (t : Expr) (b : List Stmt) (f : Flw) (ρ' : Vars) (σ' : St) (G : Imm) (φ : List Loc) (s : Shared) (k : Nat) (s₁ : Shared) : Prop
  | mk (ρ₁ : Vars) (σ₁ : St) (G₁ : Imm) (φ₁ : List Loc) (hw : EvWn P d kd t b k ρ₁ σ₁ f ρ' σ') (H : HereX c P d A env kd ρ₁ G₁ φ₁ σ₁ s₁) (S : Step c (owns env) G φ s G₁ φ₁ s₁)
theorem x_while {t : Expr} {b : List Stmt} {f : Flw} (h1 : EvW P d kd ρ t b σ f ρ' σ') : EvX P d kd ρ (.While t b [] p) σ f ρ' σ' := .intro fun {c A env G φ s} H => by
  obtain ⟨n, h⟩ := h1
  refine wpAny_While (codeAny_whileLoop (WhInv c P d A env kd t b f ρ' σ' G φ s) ?_ n ⟨ρ, σ, G, φ, h, H, .refl ..⟩)
  rintro k s₁ ⟨ρ₁, σ₁, G₁, φ₁, hw, H₁, S₁⟩
  cases hw with
  | fin h1 =>
    refine noE (wpAny_mono (h1.run H₁.toHere) (fun z' s₂ ⟨e, G₂, φ₂, R₂, S₂⟩ => ?_) fun _ _ e => e)
    subst e
    have H₂ := H₁.step R₂ S₂
    exact wpAny_execs_nil ⟨G₂, φ₂, R₂, H₂.l, H₂.f, S₁.trans' (S₂.weaken fun _ h => nomatch h), .next⟩
  | more h1 h2 h3 =>
    refine noE (wpAny_mono (h1.run H₁.toHere) (fun z' s₂ ⟨e, G₂, φ₂, R₂, S₂⟩ => ?_) fun _ _ e => e)
    subst e
    have H₂ := H₁.step R₂ S₂
    refine noE (wpAny_mono (h2.run H₂) (fun f' s₃ ⟨G₃, φ₃, R₃, L₃, F₃, S₃, FR⟩ => ?_) fun _ _ e => e)
    have S := (S₁.trans' (S₂.weaken fun _ h => nomatch h)).trans' S₃
    cases FR
    exact ⟨_, Nat.lt_succ_self _, _, _, G₃, φ₃, h3, H₂.then R₃ L₃ F₃ S₃, S⟩
  | ret h1 h2 =>
    refine noE (wpAny_mono (h1.run H₁.toHere) (fun z' s₂ ⟨e, G₂, φ₂, R₂, S₂⟩ => ?_) fun _ _ e => e)
    subst e
    have H₂ := H₁.step R₂ S₂
    refine noE (wpAny_mono (h2.run H₂) (fun f' s₃ ⟨G₃, φ₃, R₃, L₃, F₃, S₃, FR⟩ => ?_) fun _ _ e => e)
    have S := (S₁.trans' (S₂.weaken fun _ h => nomatch h)).trans' S₃
    cases FR with
    | ret hv => exact ⟨G₃, φ₃, R₃, L₃, F₃, S, .ret hv⟩
end
end Mini
namespace Mini
open PySem PySem.W PyProof PyProof.Rows PySem.Calls
inductive ItRel (c : Cx) (G : Imm) (φ : List Loc) (s : Shared) : AIt → Value → List Addr → Prop
  | seq {v : AVal} {i : Nat} {I l : Addr} (hI : s.heap.IsListIter I l i) (V : VRel c G φ v (.ref l)) (o : OwnOk c G φ [I] s) : ItRel c G φ s (.seq v i) (.ref I) [I]
  | rng {x k st : Int} {I : Addr} (hI : IsRangeIter s.heap I x k st) (o : OwnOk c G φ [I] s) : ItRel c G φ s (.rng x k st) (.ref I) [I]
  | tup {vs : List AVal} {i : Nat} {I t : Addr} (hI : s.heap.IsTupleIter I t i) (V : VRel c G φ (.tup vs) (.ref t)) (o : OwnOk c G φ [I] s) : ItRel c G φ s (.tup vs i) (.ref I) [I]
  | chars {x : Str} {t : Tok} {i : Nat} {I : Addr} (hI : s.heap.IsStrIter I "str_ascii_iterator" x t i) (o : OwnOk c G φ [I] s) : ItRel c G φ s (.chars x i) (.ref I) [I]
  | obj {i : Nat} {l : Loc} (h : φ[i]? = some l) : ItRel c G φ s (.obj i) (.ref l.a) []
  | dkeys {v : AVal} {n i : Nat} {I l : Addr} {ep : Nat} (hI : s.heap.IsKeyIter I l i n ep) (V : VRel c G φ v (.ref l)) (h1 : ∀ j, v = .ref j → ep = n) (h2 : ∀ ks vs, v = .sd ks vs → ∃ o es, G l = some o ∧ o.data = .dict es ep) (o : OwnOk c G φ [I] s) : ItRel c G φ s (.dkeys v n i) (.ref I) [I]
section
variable {c : Cx} {G : Imm} {φ : List Loc} {s : Shared}
theorem ItRel.seqE {v : AVal} {i : Nat} {motive : ∀ v' pr, ItRel c G φ s (.seq v i) v' pr → Prop} (seq : ∀ {I l : Addr} (hI : s.heap.IsListIter I l i) (V : VRel c G φ v (.ref l)) (o : OwnOk c G φ [I] s), motive (.ref I) [I] (.seq hI V o)) {v' : Value} {pr : List Addr} (h : ItRel c G φ s (.seq v i) v' pr) : motive v' pr h := by cases h with | seq hI V o => exact seq hI V o
theorem ItRel.rngE {x k st : Int} {motive : ∀ v' pr, ItRel c G φ s (.rng x k st) v' pr → Prop} (rng : ∀ {I : Addr} (hI : IsRangeIter s.heap I x k st) (o : OwnOk c G φ [I] s), motive (.ref I) [I] (.rng hI o)) {v' : Value} {pr : List Addr} (h : ItRel c G φ s (.rng x k st) v' pr) : motive v' pr h := by cases h with | rng hI o => exact rng hI o
theorem ItRel.dkeysE {v : AVal} {n i : Nat} {motive : ∀ v' pr, ItRel c G φ s (.dkeys v n i) v' pr → Prop} (dkeys : ∀ {I l : Addr} {ep : Nat} (hI : s.heap.IsKeyIter I l i n ep) (V : VRel c G φ v (.ref l)) (h1 : ∀ j, v = .ref j → ep = n) (h2 : ∀ ks vs, v = .sd ks vs → ∃ o es, G l = some o ∧ o.data = .dict es ep) (o : OwnOk c G φ [I] s), motive (.ref I) [I] (.dkeys hI V h1 h2 o)) {v' : Value} {pr : List Addr} (h : ItRel c G φ s (.dkeys v n i) v' pr) : motive v' pr h := by cases h with | dkeys hI V h1 h2 o => exact dkeys hI V h1 h2 o
end
theorem ItRel.own {c : Cx} {G : Imm} {φ : List Loc} {s : Shared} {it : AIt} {it' : Value} {pr : List Addr} (h : ItRel c G φ s it it' pr) : OwnOk c G φ pr s := by
  cases h with
  | seq _ _ o => exact o
  | rng _ o => exact o
  | tup _ _ o => exact o
  | chars _ o => exact o
  | obj _ => exact fun _ h => nomatch h
  | dkeys _ _ _ _ o => exact o
theorem ItRel.step {c : Cx} {G G' : Imm} {φ φ' : List Loc} {s s' : Shared} {it : AIt} {it' : Value} {pr own : List Addr} (h : ItRel c G φ s it it' pr) (S : Step c own G φ s G' φ' s') (hd : ∀ a ∈ pr, a ∉ own) : ItRel c G' φ' s' it it' pr := by
  have O := h.own.step S
  cases h with
  | seq hI V o =>
    obtain ⟨x, hx, r⟩ := hI
    exact .seq ⟨x, S.frame _ _ (o _ (.head _)).1 (hd _ (.head _)) hx, r⟩ (V.mono S.g S.ext) O
  | rng hI o => exact .rng (S.frame _ _ (o _ (.head _)).1 (hd _ (.head _)) hI) O
  | tup hI V o =>
    obtain ⟨x, hx, r⟩ := hI
    exact .tup ⟨x, S.frame _ _ (o _ (.head _)).1 (hd _ (.head _)) hx, r⟩ (V.mono S.g S.ext) O
  | chars hI o =>
    obtain ⟨x, hx, r⟩ := hI
    exact .chars ⟨x, S.frame _ _ (o _ (.head _)).1 (hd _ (.head _)) hx, r⟩ O
  | obj h =>
    obtain ⟨l', e, ha, _⟩ := S.ext _ _ h
    rw [← ha]; exact .obj e
  | dkeys hI V h1 h2 o =>
    obtain ⟨x, hx, r⟩ := hI
    exact .dkeys ⟨x, S.frame _ _ (o _ (.head _)).1 (hd _ (.head _)) hx, r⟩ (V.mono S.g S.ext) h1 (fun ks vs q => let ⟨o, es, q1, q2⟩ := h2 ks vs q; ⟨o, es, S.g _ _ q1, q2⟩) O
structure StepE (c : Cx) (pr : List Addr) (G : Imm) (φ : List Loc) (s : Shared) (G' : Imm) (φ' : List Loc) (s' : Shared) : Prop where
  g : Imm.Sub G G'
  ext : Ext φ φ'
  foot : ∀ b ∈ foot c φ', b ∈ Mini.foot c φ ∨ s.heap.get? b = none
  dom : ∀ b o, G' b = some o → G b = some o ∨ s.heap.get? b = none
  frame : ∀ b o, b ∉ Mini.foot c φ → b ∉ pr → s.heap.get? b = some o → s'.heap.get? b = some o
  keep : ∀ b, b ∉ pr → (s.heap.get? b).isSome → (s'.heap.get? b).isSome
  os : s'.os = s.os
  gsz : s.gens.size ≤ s'.gens.size
  gfr : ∀ k, k ∉ gfoot φ → k < s.gens.size → s'.gens[k]? = s.gens[k]?
  gft : ∀ k ∈ gfoot φ', k ∈ gfoot φ ∨ s.gens.size ≤ k
theorem Step.transE {c : Cx} {own pr : List Addr} {G₁ G₂ G₃ : Imm} {φ₁ φ₂ φ₃ : List Loc} {s₁ s₂ s₃ : Shared} (x : Step c own G₁ φ₁ s₁ G₂ φ₂ s₂) (y : StepE c pr G₂ φ₂ s₂ G₃ φ₃ s₃)
    (hp : ∀ b ∈ pr, s₁.heap.get? b = none) : Step c own G₁ φ₁ s₁ G₃ φ₃ s₃ where
  g := fun a o e => y.g a o (x.g a o e)
  ext := x.ext.trans y.ext
  foot := fun b h => by
    rcases y.foot b h with h | h
    · exact x.foot b h
    · refine .inr ?_
      cases q : s₁.heap.get? b with
      | none => rfl
      | some o => exact none_of_isSome (x.keep b (by rw [q]; rfl)) h
  dom := fun b o e => by
    rcases y.dom b o e with h | h
    · exact x.dom b o h
    · refine .inr ?_
      cases q : s₁.heap.get? b with
      | none => rfl
      | some o => exact none_of_isSome (x.keep b (by rw [q]; rfl)) h
  frame := fun b o h1 h2 e => by
    refine y.frame b o (fun h => ?_) (fun h => ?_) (x.frame b o h1 h2 e)
    · rcases x.foot b h with h | h
      · exact h1 h
      · rw [h] at e; cases e
    · rw [hp b h] at e; cases e
  keep := fun b h => y.keep b (fun q => none_of_isSome h (hp b q)) (x.keep b h)
  os := y.os.trans x.os
  gsz := Nat.le_trans x.gsz y.gsz
  gfr := fun k h1 h2 => by
    refine (y.gfr k (fun q => ?_) (Nat.lt_of_lt_of_le h2 x.gsz)).trans (x.gfr k h1 h2)
    rcases x.gft k q with q | q
    · exact h1 q
    · lia
  gft := fun k h => by
    rcases y.gft k h with h | h
    · exact x.gft k h
    · exact .inr (Nat.le_trans x.gsz h)
theorem stepE_priv {c : Cx} {G : Imm} {φ : List Loc} {s : Shared} {I : Addr} {h' : Heap} {tk : Nat} (k : ∀ b x, b ≠ I → s.heap.get? b = some x → h'.get? b = some x) : StepE c [I] G φ s G φ { s with heap := h', toks := tk } where
  g := fun _ _ e => e
  ext := .refl _
  foot := fun _ h => .inl h
  dom := fun _ _ e => .inl e
  frame := fun b x _ hb e => k b x (fun q => hb (by rw [q]; exact .head _)) e
  keep := fun b hb h => by
    obtain ⟨x, hx⟩ := Option.isSome_iff_exists.mp h
    show (h'.get? b).isSome
    rw [k b x (fun q => hb (by rw [q]; exact .head _)) hx]; rfl
  os := rfl
  gsz := Nat.le_refl _
  gfr := fun _ _ _ => rfl
  gft := fun _ h => .inl h
noncomputable def optRel (c : Cx) (G : Imm) (φ : List Loc) : Option AVal → Option Value → Prop
  | .none, .none => True
  | some v, some v' => VRel c G φ v v'
  | _, _ => False
inductive SelfIt (σ : St) (i : Nat) : Prop
  | liter {v : AVal} {j : Nat} (h : σ[i]? = some (.liter v j))
  | lend (h : σ[i]? = some .lend)
  | gen {k : GB} {ρ : Vars} {st : GSt} (h : σ[i]? = some (.gen k ρ st))
noncomputable def NextPost (c : Cx) (G : Imm) (φ : List Loc) (s : Shared) (it : AIt) (it' : Value) (pr : List Addr) (σ' : St) (r : Option (AVal × AIt)) (r' : Option Value) (s' : Shared) : Prop := ∃ G' φ', Rel c G' φ' σ' s' ∧ match r, r' with
    | .none, .none => StepE c pr G φ s G' φ' s' ∧ (genIt it = true → Step c pr G φ s G' φ' s')
    | some (v, it₂), some v' => Step c pr G φ s G' φ' s' ∧ VRel c G' φ' v v' ∧ ItRel c G' φ' s' it₂ it' pr
    | _, _ => False
structure EvN (P : PI) (d : Nat) (it : AIt) (σ : St) (r : Option (AVal × AIt)) (σ' : St) : Prop where
  intro ::
  run : ∀ {c A G φ s it' pr}, COk c P → GoodA d A → Rel c G φ σ s → ItRel c G φ s it it' pr → wpAny (Md c) A (pyNext it') (NextPost c G φ s it it' pr σ' r) (fun _ _ => False) s
  kd : ∀ w it₂, r = some (w, it₂) → it₂.kd = it.kd
section
variable {c : Cx} {P : PI} {n d : Nat} {A : Around} {env : Env} {kd : Kinds} {ρ ρ' : Vars} {G : Imm} {φ : List Loc} {σ σ' : St} {s s' : Shared} {v : AVal}
theorem rel_priv {I : Addr} (R : Rel c G φ σ s) (o : OwnOk c G φ [I] s) {h' : Heap} {tk : Nat} (k : ∀ b x, b ≠ I → s.heap.get? b = some x → h'.get? b = some x) : Rel c G φ σ { s with heap := h', toks := tk } :=
  R.same fun b x hb e => k b x (fun q => by
    subst q
    obtain ⟨h1, h2, _⟩ := o b (.head _)
    rcases hb with hb | hb
    · exact h1 hb
    · rw [h2] at hb; cases hb) e
theorem step_priv {I : Addr} {h' : Heap} {tk : Nat} (k : ∀ b x, b ≠ I → s.heap.get? b = some x → h'.get? b = some x) (hl : (h'.get? I).isSome) : Step c [I] G φ s G φ { s with heap := h', toks := tk } where
  g := fun _ _ e => e
  ext := .refl _
  foot := fun _ h => .inl h
  dom := fun _ _ e => .inl e
  frame := fun b x _ hb e => k b x (fun q => hb (by rw [q]; exact .head _)) e
  keep := fun b h => by
    by_cases q : b = I
    · subst q; exact hl
    · obtain ⟨x, hx⟩ := Option.isSome_iff_exists.mp h; show (h'.get? b).isSome; rw [k b x q hx]; rfl
  os := rfl
  gsz := Nat.le_refl _
  gfr := fun _ _ _ => rfl
  gft := fun _ h => .inl h
theorem next_list_end {it l : Addr} {i : Nat} {items : Array Value} {Q : Option Value → Shared → Prop} {E : Value → Shared → Prop} {prog : Program} {w : World} (hh : A.handled = none) (hit : s.heap.IsListIter it l i) (hl : s.heap.IsList l items) (hx : items[i]? = none)
    (hQ : ∀ h', (∀ b x, b ≠ it → s.heap.get? b = some x → h'.get? b = some x) → (∃ o, h'.get? it = some o ∧ o.cls = .type "list_iterator" ∧ o.data = .fields #[.none, .int i 0]) → Q none { s with heap := h' }) :
    wpAny (model prog w) A (pyNext (.ref it)) Q E s := by
  obtain ⟨o, ho, hc, hd⟩ := id hit
  obtain ⟨ol, hol, _, nl, hdl⟩ := hl
  unfold pyNext
  refine wpAny_bind (wpAny_attempt (wpAny_callSpecial?_slot (name := Str.ofString "__next__") hit.typeIs slot_listiter_next
    (wpAny_call_entry slot_listiter_next hit.typeIs entry_listiter_next ?_ (args_listiter_next _))))
  show wpAny _ _ (field (.ref it) 0 >>= _) _ _ s
  refine wpAny_bind (wpAny_field ho hd (x := .ref l) rfl ?_)
  show wpAny _ _ (if (Value.ref l == Value.none) = true then _ else _) _ _ s
  rw [if_neg (show ¬ ((Value.ref l == Value.none) = true) from Bool.false_ne_true)]
  show wpAny _ _ (field (.ref it) 1 >>= _) _ _ s
  refine wpAny_bind (wpAny_field ho hd (x := .int i 0) rfl ?_)
  show wpAny _ _ (seqItems? (.ref l) >>= _) _ _ s
  refine wpAny_bind (wpAny_seqItems hol hdl ?_)
  simp only [Int.toNat_natCast, hx]
  refine wpAny_bind (wpAny_rule (wpAny_bind (wpAny_setField ho hd (by simp) ?_)))
  show wpAny _ _ (newExc (.type "StopIteration") [] >>= _) _ _ _
  refine wpAny_bind ?_
  simp only [newExc, newTuple]
  refine wpAny_bind (wpAny_newObj_type ?_ (by size_fits))
  refine wpAny_bind (m := firstArgMember _ _) (wpAny_of_eq (a := Value.none) (by first | rfl | (simp only [firstArgMember]; rfl)) ?_)
  refine wpAny_newObj_type ?_ (by size_fits)
  simp only [raiseNew]
  refine wpAny_bind (wpAny_handled ?_)
  rw [show A.in1.handled = none from hh]
  refine wpAny_bind (wpAny_pure (wpAny_throw ?_))
  refine wpAny_bind (wpAny_isInstance (T := "StopIteration") (b := true) ⟨_, Heap.get?_push_size _ rfl, rfl⟩ isSubtype_stop ?_)
  have h2 := Heap.get?_update_self (Obj.mapFields (·.setIfInBounds 0 Value.none)) ho (Obj.isFreed_of_fields (Obj.data_mapFields hd _))
  refine wpAny_pure (hQ _ (fun b x hb e => Heap.get?_push_of_some _ (Heap.get?_push_of_some _ ((Heap.SameBut.update ..).extBut b x hb e))) ⟨_, Heap.get?_push_of_some _ (Heap.get?_push_of_some _ h2), (Obj.cls_mapFields ..).trans hc, ?_⟩)
  rw [Obj.data_mapFields hd]; simp
theorem n_seq {w v : AVal} {i : Nat} {vs : List AVal} (h1 : listOf? σ w = some vs) (h2 : vs[i]? = some v) : EvN P d (.seq w i) σ (some (v, .seq w (i + 1))) σ := by
  refine .intro (fun {c A G φ s it' pr} ok ha R I => ?_) (fun _ _ e => by cases e; rfl)
  cases I using ItRel.seqE with
  | seq hI V o =>
    obtain ⟨la, ob, items, m, e, g, cc, dd, rr⟩ := R.isList V h1
    cases e
    obtain ⟨x', hx', Vx⟩ := rr.get h2
    refine wpAny_pyNext_list_item (items := items.toArray) hI ⟨_, g, cc, _, dd⟩ (by simpa using hx') fun h' hI' hs => ?_
    have S : Step c [_] G φ s G φ { s with heap := h' } := step_priv (tk := s.toks) (fun b x hb e => (hs.2 b hb).trans e) (by obtain ⟨oo, e, _⟩ := hI'; rw [e]; rfl)
    exact ⟨G, φ, rel_priv (tk := s.toks) R o fun b x hb e => (hs.2 b hb).trans e, S, Vx, .seq hI' V (o.step S)⟩
theorem n_seqEnd {w : AVal} {i : Nat} {vs : List AVal} (h1 : listOf? σ w = some vs) (h2 : vs[i]? = none) : EvN P d (.seq w i) σ none σ := by
  refine .intro (fun {c A G φ s it' pr} ok ha R I => ?_) (fun _ _ e => by cases e)
  cases I using ItRel.seqE with
  | seq hI V o =>
    obtain ⟨la, ob, items, m, e, g, cc, dd, rr⟩ := R.isList V h1
    cases e
    refine next_list_end (items := items.toArray) ha.hh hI ⟨_, g, cc, _, dd⟩ (by simpa using rr.get_none h2) fun h' k hk => ?_
    exact ⟨G, φ, rel_priv (tk := s.toks) R o k, stepE_priv (tk := s.toks) k, fun _ => step_priv (tk := s.toks) k (by obtain ⟨oo, e, _⟩ := hk; rw [e]; rfl)⟩
theorem n_rng {x l s : Int} (hl : 0 < l) : EvN P d (.rng x l s) σ (some (.int x, .rng (x + s) (l - 1) s)) σ := by
  refine .intro (fun {c A G φ s it' pr} ok ha R I => ?_) (fun _ _ e => by cases e; rfl)
  cases I using ItRel.rngE with
  | rng hI o =>
    refine wpAny_pyNext_range_item hI hl fun h' hI' hs => ?_
    have S : Step c [_] G φ s G φ { s with heap := h', toks := s.toks + 1 } := step_priv (fun b x hb e => (hs.2 b hb).trans e) (by rw [hI']; rfl)
    exact ⟨G, φ, rel_priv R o fun b x hb e => (hs.2 b hb).trans e, S, .int _ _, .rng hI' (o.step S)⟩
theorem n_rngEnd {x l s : Int} (hl : ¬ 0 < l) : EvN P d (.rng x l s) σ none σ := by
  refine .intro (fun {c A G φ s it' pr} ok ha R I => ?_) (fun _ _ e => by cases e)
  cases I using ItRel.rngE with
  | rng hI o =>
    exact wpAny_pyNext_range_end ha.hh hI (by lia) fun h' hx => ⟨G, φ, rel_priv (tk := s.toks) R o fun b x hb e => hx b x hb e, stepE_priv (tk := s.toks) fun b x hb e => hx b x hb e, fun h => nomatch h⟩
theorem EvN.loopOk {it it₂ : AIt} {w : AVal} (h : EvN P d it σ (some (w, it₂)) σ') {t : Expr} (hok : LoopT t it) : LoopT t it₂ := by
  have e := h.kd _ _ rfl
  cases hok with
  | name => exact .name
  | tup h => exact .tup (e.trans h)
theorem own_new (R : Rel c G φ σ s) (o : Obj) (hf : o.isFreed = false) : OwnOk c G φ [s.heap.objs.size] { s with heap := s.heap.push o } := fun a ha => by
  cases List.mem_singleton.mp ha
  exact ⟨R.fresh_foot (get?_size _), R.fresh_G (get?_size _), by rw [Heap.get?_push_size _ hf]; rfl⟩
theorem new_only : ∀ a ∈ [s.heap.objs.size], s.heap.get? a = none := fun a ha => by cases List.mem_singleton.mp ha; exact get?_size _
theorem iterObj {i : Nat} {l : Loc} {Q : Value → Shared → Prop} {E : Value → Shared → Prop} (h : SelfIt σ i) (R : Rel c G φ σ s) (hl : φ[i]? = some l) (q : Q (.ref l.a) s) : wpAny (Md c) A (pyIter (.ref l.a)) Q E s := by
  cases h with
  | liter q' =>
    obtain ⟨_, _, la, _, h4⟩ := R.obj _ _ _ hl q'
    exact wpAny_pyIter_listiter h4 q
  | lend q' =>
    obtain ⟨_, _, o, j, ho, hc, hd⟩ := R.obj _ _ _ hl q'
    have hT : s.TypeIs (.ref _) "list_iterator" := ⟨o, ho, hc⟩
    refine wpAny_pyIter_slot hT slot_listiter_iter (wpAny_call_entry slot_listiter_iter hT entry_listiter_iter ?_ (args_listiter_iter _))
    show wpAny _ _ (ret (.ref _)) _ _ s
    exact wpAny_pure ⟨_, rfl, "list_iterator", _, hT, slot_listiter_next.lookup, q⟩
  | gen q' =>
    obtain ⟨g, _, hg, _⟩ := R.obj _ _ _ hl q'
    exact wpAny_pyIter_gen hg q
inductive ItP (c : Cx) (G : Imm) (φ : List Loc) (s : Shared) (σ : St) (it : AIt) (it' : Value) (s' : Shared) : Prop
  | mk (pr : List Addr) (R : Rel c G φ σ s') (I : ItRel c G φ s' it it' pr) (S : Step c [] G φ s G φ s') (h : ∀ a ∈ pr, s.heap.get? a = none)
structure IterR (σ : St) (v : AVal) (it : AIt) : Prop where
  intro ::
  run : ∀ {c A G φ s v'}, Rel c G φ σ s → VRel c G φ v v' → wpAny (Md c) A (pyIter v') (ItP c G φ s σ it) (fun _ _ => False) s
  self : ∀ i, it = .obj i → SelfIt σ i
theorem mk_list {i : Nat} {vs : List AVal} (q : σ[i]? = some (.list vs)) : IterR σ (.ref i) (.seq (.ref i) 0) := .intro (fun {c A G φ s v'} R V => by
    cases V using VRel.refE with
    | ref hl =>
      obtain ⟨_, _, items, m, h3, h4⟩ := R.obj _ _ _ hl q
      exact wpAny_pyIter_list (items := items.toArray) ⟨_, h3, rfl, _, rfl⟩ ⟨_, R.push _, .seq ⟨_, Heap.get?_push_size _ rfl, rfl, rfl⟩ (.ref hl) (own_new R _ rfl), step_push _, new_only⟩) fun _ e => by cases e
theorem mk_rng {a b c : Int} (hs : Builtin.Range.small a b c = true) : IterR σ (.rng a b c) (.rng a (Builtin.Range.rangeSize a b c) c) := .intro (fun {c A G φ s v'} R V => by
    cases V using VRel.rngE with
    | rng t u w e => exact wpAny_pyIter_range (R.gh _ _ e) hs ⟨_, R.push _, .rng (Heap.get?_push_size _ rfl) (own_new R _ rfl), step_push _, new_only⟩) fun _ e => by cases e
theorem folded_no {e : Expr} (h : notSet e = true) (x : Value) : foldedSetIterable e env x = pure x := by
  cases e <;> first | rfl | cases h
theorem letGo_ok {t : Expr} {it : AIt} {it' v' : Value} {pr : List Addr} {s₁ : Shared} {G₁ : Imm} {φ₁ : List Loc} {Q : Unit → Shared → Prop} {E : Value → Shared → Prop} (h : LoopT t it) (I : ItRel c G₁ φ₁ s₁ it it' pr) (q : Q () s₁) :
    wpAny (Md c) A (letOwnedTupleGo t it' v') Q E s₁ := by
  cases h with
  | name => exact wpAny_pure q
  | tup hk =>
    cases I with
    | seq hI _ _ =>
      cases v' with
      | ref T => exact wpAny_letOwnedTupleGo_listiter hI q
      | _ => exact wpAny_pure q
    | _ => cases hk
inductive EvFn (P : PI) (d : Nat) (kd : Kinds) (t : Expr) (b : List Stmt) : Nat → Vars → AIt → St → Flw → Vars → St → Prop
  | fin {ρ : Vars} {it : AIt} {σ σ₁ : St} {n : Nat} (h1 : EvN P d it σ none σ₁) : EvFn P d kd t b n ρ it σ .next ρ σ₁
  | more {ρ ρ₁ ρ₂ ρ' : Vars} {it it' : AIt} {v : AVal} {σ σ₁ σ₂ σ₃ σ' : St} {f : Flw} {n : Nat} (h1 : EvN P d it σ (some (v, it')) σ₁) (h2 : EvA P d kd ρ t v σ₁ ρ₁ σ₂) (h3 : EvXs P d kd ρ₁ b σ₂ .next ρ₂ σ₃) (h4 : EvFn P d kd t b n ρ₂ it' σ₃ f ρ' σ') : EvFn P d kd t b (n + 1) ρ it σ f ρ' σ'
  | ret {ρ ρ₁ ρ₂ : Vars} {it it' : AIt} {v w : AVal} {σ σ₁ σ₂ σ₃ : St} {n : Nat} (h1 : EvN P d it σ (some (w, it')) σ₁) (h2 : EvA P d kd ρ t w σ₁ ρ₁ σ₂) (h3 : EvXs P d kd ρ₁ b σ₂ (.ret v) ρ₂ σ₃) : EvFn P d kd t b n ρ it σ (.ret v) ρ₂ σ₃
noncomputable def EvF (P : PI) (d : Nat) (kd : Kinds) (ρ : Vars) (t : Expr) (b : List Stmt) (it : AIt) (σ : St) (f : Flw) (ρ' : Vars) (σ' : St) : Prop := ∃ n, EvFn P d kd t b n ρ it σ f ρ' σ'
end
section
variable {P : PI} {d : Nat} {kd : Kinds} {ρ ρ₁ ρ₂ ρ₃ ρ' : Vars} {σ σ₁ σ₂ σ₃ σ' : St} {v a b : AVal} {p : Pos}
theorem f_end {t : Expr} {x : List Stmt} {it : AIt} (h1 : EvN P d it σ none σ₁) : EvF P d kd ρ t x it σ .next ρ σ₁ := ⟨0, .fin h1⟩
theorem f_more {t : Expr} {x : List Stmt} {it it' : AIt} {f : Flw} (h1 : EvN P d it σ (some (v, it')) σ₁) (h2 : EvA P d kd ρ t v σ₁ ρ₁ σ₂) (h3 : EvXs P d kd ρ₁ x σ₂ .next ρ₂ σ₃) (h4 : EvF P d kd ρ₂ t x it' σ₃ f ρ' σ') : EvF P d kd ρ t x it σ f ρ' σ' :=
  let ⟨n, h⟩ := h4; ⟨n + 1, .more h1 h2 h3 h⟩
theorem f_ret {t : Expr} {x : List Stmt} {it it' : AIt} (h1 : EvN P d it σ (some (a, it')) σ₁) (h2 : EvA P d kd ρ t a σ₁ ρ₁ σ₂) (h3 : EvXs P d kd ρ₁ x σ₂ (.ret v) ρ₂ σ₃) : EvF P d kd ρ t x it σ (.ret v) ρ₂ σ₃ := ⟨0, .ret h1 h2 h3⟩
inductive ForInv (c : Cx) (P : PI) (d : Nat) (A : Around) (env : Env) (kd : Kinds) (t : Expr) (b : List Stmt) (f : Flw) (ρ' : Vars) (σ' : St) (it' : Value) (pr : List Addr) (G : Imm) (φ : List Loc) (s : Shared) (k : Nat) (s₃ : Shared) : Prop
  | mk (ρ₃ : Vars) (σ₃ : St) (it₃ : AIt) (G₃ : Imm) (φ₃ : List Loc) (hok : LoopT t it₃) (hf : EvFn P d kd t b k ρ₃ it₃ σ₃ f ρ' σ') (H : HereX c P d A env kd ρ₃ G₃ φ₃ σ₃ s₃) (I : ItRel c G₃ φ₃ s₃ it₃ it' pr) (S : Step c (owns env) G φ s G₃ φ₃ s₃)
theorem x_for {t i : Expr} {b : List Stmt} {f : Flw} {it : AIt} (h0 : notSet i = true) (h1 : EvE P d kd ρ i σ v σ₁) (h2 : IterR σ₁ v it) (hok : LoopT t it) (h4 : EvF P d kd ρ t b it σ₁ f ρ' σ') : EvX P d kd ρ (.For t i b [] p) σ f ρ' σ' := .intro fun {c A env G φ s} H => by
  obtain ⟨n, h3⟩ := h4
  refine wpAny_For (wpAny_mono (h1.run H.toHere) (fun a' s₁ ⟨G₁, φ₁, R₁, V₁, S₁⟩ => wpAny_mono (h2.run R₁ V₁) (fun it' s₂ ⟨pr, R₂, I₂, S₂, hpr⟩ => ?_) fun _ _ e => e) fun _ _ e => e) (folded_no h0)
  have H₁ := H.step R₁ S₁
  have hps : ∀ a ∈ pr, s.heap.get? a = none := fun a ha => by
    cases q : s.heap.get? a with
    | none => rfl
    | some o => exact none_of_isSome (S₁.keep a (by rw [q]; rfl)) (hpr a ha)
  have hpo : ∀ a ∈ pr, a ∉ owns env := fun a ha q => none_of_isSome (H.o.away q).2 (hps a ha)
  have S₀ : Step c (owns env) G φ s G₁ φ₁ s₂ := (S₁.trans' S₂).weaken fun _ h => nomatch h
  have turn : ∀ {ρ₃ it₃ σ₃ G₃ φ₃ s₃ v it₄ σ₄ ρ₁ σ₅ fl ρ₂ σ₆} {K : Flow → Shared → Prop}, LoopT t it₃ → HereX c P d A env kd ρ₃ G₃ φ₃ σ₃ s₃ → ItRel c G₃ φ₃ s₃ it₃ it' pr → Step c (owns env) G φ s G₃ φ₃ s₃ → EvN P d it₃ σ₃ (some (v, it₄)) σ₄ → EvA P d kd ρ₃ t v σ₄ ρ₁ σ₅ → EvXs P d kd ρ₁ b σ₅ fl ρ₂ σ₆ →
      (∀ f' G₆ φ₆ s₆, FRel c G₆ φ₆ fl f' → HereX c P d A env kd ρ₂ G₆ φ₆ σ₆ s₆ → ItRel c G₆ φ₆ s₆ it₄ it' pr → Step c (owns env) G φ s G₆ φ₆ s₆ → K f' s₆) → ∀ {E E1 E2 E3 : Value → Shared → Prop} {Kn : Shared → Prop}, wpAny (Md c) A (pyNext it') (fun r s₁ => match r with
        | none => Kn s₁
        | some v => wpAny (Md c) A (letOwnedTupleGo t it' v) (fun _ s₁' => wpAny (Md c) A (PySem.assign t env v) (fun _ s₂ => wpAny (Md c) A (PySem.execs b env) K E3 s₂) E2 s₁') E1 s₁) E s₃ := by
    intro ρ₃ it₃ σ₃ G₃ φ₃ s₃ v it₄ σ₄ ρ₁ σ₅ fl ρ₂ σ₆ K hok₃ H₃ I₃ S₃ hn h5 h6 hK E E1 E2 E3 Kn
    refine noE (wpAny_mono (hn.run H.ok H.a H₃.r I₃) (fun r' s₄ q => ?_) fun _ _ e => e)
    obtain ⟨G₄, φ₄, R₄, q⟩ := q
    cases r' with
    | none => exact q.elim
    | some w' =>
      have S₄ := q.1
      have V₄ := q.2.1
      have I₄ := q.2.2
      refine letGo_ok (hn.loopOk hok₃) I₄ ?_
      have O₄ : ∀ a o, a ∈ owns env → s₃.heap.get? a = some o → s₄.heap.get? a = some o := fun a o ha e => S₄.frame a o (H₃.o.away ha).1 (fun z => hpo a z ha) e
      have H₄ : HereX c P d A env kd ρ₃ G₄ φ₄ σ₄ s₄ := ⟨⟨H.ok, H.a, H.kd, R₄, H₃.l.keeps S₄.g S₄.ext (fun a o ha e => O₄ a o (mem_owns ha) e), H₃.o.step S₄⟩, H₃.f.keeps O₄⟩
      refine noE (wpAny_mono (h5.2 H₄ V₄) (fun _ s₅ ⟨G₅, φ₅, R₅, L₅, F₅, S₅, _⟩ => ?_) fun _ _ e => e)
      have H₅ := H₄.then R₅ L₅ F₅ S₅
      exact noE (wpAny_mono (h6.run H₅) (fun f' s₆ ⟨G₆, φ₆, R₆, L₆, F₆, S₆, FR⟩ => hK f' G₆ φ₆ s₆ FR (H₅.then R₆ L₆ F₆ S₆) ((I₄.step S₅ hpo).step S₆ hpo) (((S₃.trans S₄ fun b hb => .inr (hps b hb)).trans' S₅).trans' S₆)) fun _ _ e => e)
  refine codeAny_forLoop_any (ForInv c P d A env kd t b f ρ' σ' it' pr G φ s) ?_ n
    ⟨ρ, σ₁, it, G₁, φ₁, hok, h3, H₁.step R₂ S₂, I₂, S₀⟩
  rintro k s₃ ⟨ρ₃, σ₃, it₃, G₃, φ₃, hok₃, hf, H₃, I₃, S₃⟩
  cases hf with
  | fin hn =>
    refine noE (wpAny_mono (hn.run H.ok H.a H₃.r I₃) (fun r' s₄ q => ?_) fun _ _ e => e)
    obtain ⟨G₄, φ₄, R₄, q⟩ := q
    cases r' with
    | some _ => exact q.elim
    | none =>
      have q := q.1
      have S₄ := S₃.transE q hps
      have O₄ : ∀ a o, a ∈ owns env → s₃.heap.get? a = some o → s₄.heap.get? a = some o := fun a o ha e => q.frame a o (H₃.o.away ha).1 (fun z => hpo a z ha) e
      exact noE (wpAny_execs_nil ⟨G₄, φ₄, R₄, H₃.l.keeps q.g q.ext (fun a o ha e => O₄ a o (mem_owns ha) e), H₃.f.keeps O₄, S₄, .next⟩)
  | more hn h5 h6 hf =>
    refine wpAny_mono (turn hok₃ H₃ I₃ S₃ hn h5 h6 fun f' G₆ φ₆ s₆ FR H₆ I₆ S₆ => ?_) (fun r s h => h) fun _ _ e => e
    cases FR
    exact ⟨_, Nat.lt_succ_self _, _, _, _, G₆, φ₆, hn.loopOk hok₃, hf, H₆, I₆, S₆⟩
  | ret hn h5 h6 =>
    refine wpAny_mono (turn hok₃ H₃ I₃ S₃ hn h5 h6 fun f' G₆ φ₆ s₆ FR H₆ I₆ S₆ => ?_) (fun r s h => h) fun _ _ e => e
    cases FR with
    | ret hv => exact ⟨G₆, φ₆, H₆.r, H₆.l, H₆.f, S₆, .ret hv⟩
end
end Mini
namespace Mini
open PySem PySem.W PyProof PyProof.Rows PySem.Calls
noncomputable def clos (env : Env) : List (Str × NameKind) → List (Str × Addr) → List (Str × Addr)
  | [], acc => acc
  | (n, k) :: r, acc => if k == .free then clos env r ((n, (env.cells.lookup n).getD 0) :: acc) else clos env r acc
theorem closureFor_eq {env : Env} {scope : Scope} (h : ∀ p ∈ scope.names, p.2 = .free → (env.cells.lookup p.1).isSome = true) : closureFor scope env = pure (clos env scope.names []) := by
  unfold closureFor
  have go : ∀ (l : List (Str × NameKind)) (acc : List (Str × Addr)), (∀ p ∈ l, p.2 = .free → (env.cells.lookup p.1).isSome = true) →
      (forIn l acc fun (x : Str × NameKind) (cs : List (Str × Addr)) => if x.2 == .free then (do let a ← cellOf env x.1; pure (ForInStep.yield ((x.1, a) :: cs))) else pure (ForInStep.yield cs) : Sem _) = pure (clos env l acc) := by
    intro l
    induction l with
    | nil => intro acc _; rfl
    | cons p r ih =>
      intro acc hp
      obtain ⟨n, k⟩ := p
      rw [List.forIn_cons]
      unfold clos
      by_cases q : (k == .free) = true
      · rw [if_pos q]
        have q' : k = .free := eq_of_beq q
        obtain ⟨a, ha⟩ := Option.isSome_iff_exists.mp (hp (n, k) (.head _) q')
        have e : cellOf env n = pure a := by unfold cellOf; rw [ha]
        simp only [q, if_true, ha, Option.getD_some]
        show ((cellOf env n >>= fun a => pure (ForInStep.yield ((n, a) :: acc))) >>= _) = _
        rw [e]
        exact ih _ fun p hp' => hp p (.tail _ hp')
      · have q2 : (k == NameKind.free) = false := by simpa using q
        simp only [q2, Bool.false_eq_true, if_false]
        exact ih _ fun p hp' => hp p (.tail _ hp')
  have := go scope.names [] h
  first
    | exact this
    | (show ((forIn scope.names [] _ : Sem _) >>= fun cs => pure cs) = _; rw [this]; rfl)
    | (simp only [bind_pure] ; exact this)
theorem clos_from {env : Env} {y : Str} {a : Addr} : ∀ (l : List (Str × NameKind)) (acc : List (Str × Addr)), (∀ p ∈ l, p.2 = .free → (env.cells.lookup p.1).isSome = true) → (∀ a, acc.lookup y = some a → env.cells.lookup y = some a) →
    (clos env l acc).lookup y = some a → env.cells.lookup y = some a
  | [], acc, _, h, e => h a e
  | (n, k) :: r, acc, hs, h, e => by
    unfold clos at e
    split at e
    · rename_i q
      refine clos_from r _ (fun p hp => hs p (.tail _ hp)) (fun b hb => ?_) e
      rw [List.lookup_cons] at hb
      split at hb
      · rename_i q2
        cases hb
        have := eq_of_beq q2
        subst this
        obtain ⟨x, hx⟩ := Option.isSome_iff_exists.mp (hs (y, k) (.head _) (eq_of_beq q))
        rw [hx]; rfl
      · exact h b hb
    · exact clos_from r acc (fun p hp => hs p (.tail _ hp)) h e
theorem clos_has {env : Env} {y : Str} : ∀ (l : List (Str × NameKind)) (acc : List (Str × Addr)), ((y, NameKind.free) ∈ l ∨ (acc.lookup y).isSome = true) → ((clos env l acc).lookup y).isSome = true
  | [], acc, h => by
    rcases h with h | h
    · cases h
    · exact h
  | (n, k) :: r, acc, h => by
    unfold clos
    split
    · rename_i q
      refine clos_has r _ ?_
      rcases h with h | h
      · rcases List.mem_cons.mp h with e | h
        · cases e; exact .inr (by rw [List.lookup_cons]; simp)
        · exact .inl h
      · refine .inr ?_
        rw [List.lookup_cons]
        split
        · rfl
        · exact h
    · rename_i q
      refine clos_has r acc ?_
      rcases h with h | h
      · rcases List.mem_cons.mp h with e | h
        · cases e; exact absurd rfl q
        · exact .inl h
      · exact .inr h
theorem clos_mem {env : Env} {p : Str × Addr} : ∀ (l : List (Str × NameKind)) (acc : List (Str × Addr)), (∀ p ∈ l, p.2 = .free → (env.cells.lookup p.1).isSome = true) → p ∈ clos env l acc → p ∈ acc ∨ env.cells.lookup p.1 = some p.2
  | [], acc, _, h => .inl h
  | (n, k) :: r, acc, hs, h => by
    unfold clos at h
    split at h
    · rename_i q
      rcases clos_mem r _ (fun p hp => hs p (.tail _ hp)) h with h | h
      · rcases List.mem_cons.mp h with rfl | h
        · obtain ⟨x, hx⟩ := Option.isSome_iff_exists.mp (hs (n, k) (.head _) (eq_of_beq q))
          refine .inr ?_
          dsimp only at hx ⊢
          rw [hx]; rfl
        · exact .inl h
      · exact .inr h
    · exact clos_mem r acc (fun p hp => hs p (.tail _ hp)) h
section
variable {c : Cx} {P : PI} {n d : Nat} {A : Around} {env : Env} {kd : Kinds} {ρ ρ' : Vars} {G : Imm} {φ : List Loc} {σ σ' : St} {s s' : Shared} {v : AVal}
theorem sim_append {i : Nat} {l : Loc} {vs : List AVal} {y : AVal} {y' : Value} {Q : Value → Shared → Prop} {E : Value → Shared → Prop} (R : Rel c G φ σ s) (hl : φ[i]? = some l) (ho : σ[i]? = some (.list vs)) (V : VRel c G φ y y') (hz : vs.length ≤ lim)
    (q : ∀ s', Rel c G φ (σ.set i (.list (vs ++ [y]))) s' → Step c [] G φ s G φ s' → Q .none s') : wpAny (Md c) A (call (.builtin "list.append") [.ref l.a, y']) Q E s := by
  obtain ⟨h1, h2, items, m, h3, h4⟩ := R.obj i l _ hl ho
  refine wpAny_list_append_plain (items := items.toArray) ⟨m, h3⟩ (fun h' hp hs => ?_) (by rw [List.size_toArray, ← h4.length]; exact lim_le hz)
  obtain ⟨m', e'⟩ := hp
  have ne : ∀ b, b ∉ l.a :: l.ps → b ≠ l.a := fun b hb z => hb (by rw [z]; exact .head _)
  refine q _ (R.set hl (fun b x hb _ e => (hs.2 b (ne b hb)).trans e) (fun a ha => ?_) ⟨h1, h2, items ++ [y'], m', ?_, h4.append (.cons V .nil)⟩) (step_set hl (fun b x hb _ e => (hs.2 b (ne b hb)).trans e) (fun b hb => ?_) rfl)
  · rw [h1] at ha
    cases List.mem_singleton.mp ha
    show (h'.get? _).isSome
    rw [e']; rfl
  · show h'.get? l.a = _
    rw [e']; simp
  · by_cases z : b = l.a
    · subst z; show (h'.get? _).isSome; rw [e']; rfl
    · show (h'.get? b).isSome; rw [hs.2 b z]; exact hb
theorem sim_store_local {x : Str} {v' : Value} {Q : Unit → Shared → Prop} {E : Value → Shared → Prop} (hk : env.kindOf x = some .local) (H : Here c P d A env kd ρ G φ σ s) (nl : ∀ n a, (n, a) ∈ env.cells → a ≠ env.locals) (V : VRel c G φ v v')
    (q : ∀ s', Rel c G φ σ s' → LocRel c G φ env (Vars.set ρ x v) s'.heap → Step c [env.locals] G φ s G φ s' → Q () s') : wpAny (Md c) A (storeName env x v') Q E s := by
  obtain ⟨m, hn, hv⟩ := H.l.ns
  refine wpAny_storeName_local hk hn (fun h' hn' hs => ?_) (by rw [H.l.kind]; rfl)
  have hl : (h'.get? env.locals).isSome := by obtain ⟨o, _, _, e, _⟩ := hn'; rw [e]; rfl
  refine q _ (rel_own H.r (H.o.loc _ (.head _)).1 (H.o.loc _ (.head _)).2.1 hs) ⟨H.l.kind, H.l.glob, H.l.bi, ⟨_, hn', fun y w h1 h2 => ?_⟩, fun y w h1 h2 => ?_⟩ (step_own (.head _) hs hl)
  · unfold Vars.set at h2
    split at h2
    · rename_i z; subst z; cases h2; exact ⟨v', by simp, V⟩
    · rename_i z
      obtain ⟨w', e, r⟩ := hv y w h1 h2
      exact ⟨w', by simp [z, e], r⟩
  · unfold Vars.set at h2
    split at h2
    · rename_i z; subst z; rw [hk] at h1; rcases h1 with h1 | h1 <;> cases h1
    · obtain ⟨a, w', e, hc, r⟩ := H.l.cell y w h1 h2
      exact ⟨a, w', e, hc.sameBut hs (nl _ _ (mem_of_lookup e)), r⟩
theorem forIn_false {es : List Expr} : (forIn es false fun c r => if r = true then do let ok ← isTrue c env (PySem.eval c env); pure (ForInStep.yield ok) else pure (ForInStep.yield r) : Sem Bool) = pure false := by
  induction es with
  | nil => rfl
  | cons e r ih => rw [List.forIn_cons]; simp only [Bool.false_eq_true, if_false]; exact ih
theorem EvTs.ifs {es : List Expr} {z : Bool} {op : BoolOp} (h : EvTs P d kd ρ op es σ z σ') (ho : op = .And) : ∀ {c A env G φ s}, Here c P d A env kd ρ G φ σ s →
    GivesB c A G φ s (forIn es true fun c r => if r = true then do let ok ← isTrue c env (PySem.eval c env); pure (ForInStep.yield ok) else pure (ForInStep.yield r)) z σ' := by
  induction h with
  | nil => subst ho; intro c A env G φ s H; exact wpAny_pure ⟨rfl, G, φ, H.r, .refl ..⟩
  | andF h1 =>
    intro c A env G φ s H
    unfold GivesB
    rw [List.forIn_cons]
    simp only [if_true]
    refine wpAny_bind (wpAny_bind (wpAny_mono (h1.run H) (fun z' s₁ ⟨e', G₁, φ₁, R₁, S₁⟩ => wpAny_pure ?_) fun _ _ e => e))
    subst e'
    dsimp only
    rw [forIn_false]
    exact wpAny_pure ⟨rfl, G₁, φ₁, R₁, S₁⟩
  | andT h1 h2 ih =>
    intro c A env G φ s H
    unfold GivesB
    rw [List.forIn_cons]
    simp only [if_true]
    refine wpAny_bind (wpAny_bind (wpAny_mono (h1.run H) (fun z' s₁ ⟨e', G₁, φ₁, R₁, S₁⟩ => wpAny_pure ?_) fun _ _ e => e))
    subst e'
    exact GivesB.after (ih rfl (H.step R₁ S₁)) S₁
  | orT => cases ho
  | orF => cases ho
inductive EvCn (P : PI) (d : Nat) (kd : Kinds) (ρ : Vars) (x : Str) (elt : Expr) (ifs : List Expr) (acc : Nat) : Nat → AIt → St → St → Prop
  | fin {n : Nat} {it : AIt} {σ σ₁ : St} (h1 : EvN P d it σ none σ₁) : EvCn P d kd ρ x elt ifs acc n it σ σ₁
  | take {n : Nat} {it it' : AIt} {a v : AVal} {vs : List AVal} {σ σ₁ σ₂ σ₃ σ' : St} (h1 : EvN P d it σ (some (a, it')) σ₁) (h2 : EvTs P d kd (Vars.set ρ x a) .And ifs σ₁ true σ₂) (h3 : EvE P d kd (Vars.set ρ x a) elt σ₂ v σ₃) (h4 : σ₃[acc]? = some (.list vs)) (h5 : vs.length ≤ lim)
      (h6 : EvCn P d kd ρ x elt ifs acc n it' (σ₃.set acc (.list (vs ++ [v]))) σ') : EvCn P d kd ρ x elt ifs acc (n + 1) it σ σ'
  | skip {n : Nat} {it it' : AIt} {a : AVal} {σ σ₁ σ₂ σ' : St} (h1 : EvN P d it σ (some (a, it')) σ₁) (h2 : EvTs P d kd (Vars.set ρ x a) .And ifs σ₁ false σ₂) (h6 : EvCn P d kd ρ x elt ifs acc n it' σ₂ σ') : EvCn P d kd ρ x elt ifs acc (n + 1) it σ σ'
noncomputable def EvCm (P : PI) (d : Nat) (kd : Kinds) (ρ : Vars) (x : Str) (elt : Expr) (ifs : List Expr) (acc : Nat) (it : AIt) (σ : St) (σ' : St) : Prop := ∃ n, EvCn P d kd ρ x elt ifs acc n it σ σ'
theorem cm_end {x elt ifs acc it} {σ₁ : St} (h1 : EvN P d it σ .none σ₁) : EvCm P d kd ρ x elt ifs acc it σ σ₁ := ⟨0, .fin h1⟩
theorem cm_take {x elt ifs acc it it' vs} {a : AVal} {σ₁ σ₂ σ₃ : St} (h1 : EvN P d it σ (some (a, it')) σ₁) (h2 : EvTs P d kd (Vars.set ρ x a) .And ifs σ₁ true σ₂) (h3 : EvE P d kd (Vars.set ρ x a) elt σ₂ v σ₃) (h4 : σ₃[acc]? = some (.list vs)) (h5 : vs.length ≤ lim)
    (h6 : EvCm P d kd ρ x elt ifs acc it' (σ₃.set acc (.list (vs ++ [v]))) σ') : EvCm P d kd ρ x elt ifs acc it σ σ' := let ⟨n, h⟩ := h6; ⟨n + 1, .take h1 h2 h3 h4 h5 h⟩
theorem cm_skip {x elt ifs acc it it'} {a : AVal} {σ₁ σ₂ : St} (h1 : EvN P d it σ (some (a, it')) σ₁) (h2 : EvTs P d kd (Vars.set ρ x a) .And ifs σ₁ false σ₂) (h6 : EvCm P d kd ρ x elt ifs acc it' σ₂ σ') : EvCm P d kd ρ x elt ifs acc it σ σ' := let ⟨n, h⟩ := h6; ⟨n + 1, .skip h1 h2 h⟩
theorem relabelK_eq (scope : Scope) (hk : env.scope.kind = .function) (hkd : kd = env.kindOf) (y : Str) : relabelK scope.names kd y = (relabel scope env).names.lookup y := by
  subst hkd
  unfold relabelK relabel
  congr 1
  refine List.map_congr_left fun p _ => ?_
  rw [hk]
  cases p.2 <;> simp
inductive CompEnd (c : Cx) (G : Imm) (φ : List Loc) (s : Shared) (acc : Nat) (accA C : Addr) (σ' : St) (s' : Shared) : Prop
  | mk (G' : Imm) (φ' : List Loc) (R : Rel c G' φ' σ' s') (S : Step c [] G φ s G' φ' s') (a : ∃ la : Loc, φ'[acc]? = some la ∧ la.a = accA) (n : ∃ m, s'.heap.Ns C m) (o : OwnOk c G' φ' [C] s')
inductive CmInv (c : Cx) (P : PI) (d : Nat) (A : Around) (cenv : Env) (kd' : Kinds) (ρ₀ : Vars) (x : Str) (elt : Expr) (ifs : List Expr) (acc : Nat) (accA : Addr) (it' : Value) (pr : List Addr) (σ' : St) (G : Imm) (φ : List Loc) (s : Shared) (k : Nat) (s₂ : Shared) : Prop
  | mk (σ₂ : St) (it₂ : AIt) (G₂ : Imm) (φ₂ : List Loc) (h : EvCn P d kd' ρ₀ x elt ifs acc k it₂ σ₂ σ') (H : Here c P d A cenv kd' ρ₀ G₂ φ₂ σ₂ s₂) (I : ItRel c G₂ φ₂ s₂ it₂ it' pr) (S : Step c [] G φ s G₂ φ₂ s₂) (la : Loc) (h1 : φ₂[acc]? = some la) (h2 : la.a = accA)
theorem comp_loop {x : Str} {px pos : Pos} {elt iter : Expr} {ifs : List Expr} {scope : Scope} {acc : Nat} {accA : Addr} {it : AIt} {it' : Value} {pr : List Addr} {cenv : Env} {kd' : Kinds} {ρ₀ : Vars} {G₁ : Imm} {φ₁ : List Loc} {σ₁ : St} {s₁ : Shared} {R : Result → Shared → Prop}
    (h : EvCm P d kd' ρ₀ x elt ifs acc it σ₁ σ') (H : Here c P d A cenv kd' ρ₀ G₁ φ₁ σ₁ s₁) (I : ItRel c G₁ φ₁ s₁ it it' pr) (S : Step c [] G φ s G₁ φ₁ s₁) (ha : ∃ la : Loc, φ₁[acc]? = some la ∧ la.a = accA)
    (hx : cenv.kindOf x = some .local) (hx0 : ρ₀ x = none) (nl : ∀ n a, (n, a) ∈ cenv.cells → a ≠ cenv.locals) (hC : s.heap.get? cenv.locals = none) (hp : ∀ a ∈ pr, s.heap.get? a = none) (hpc : ∀ a ∈ pr, a ∉ owns cenv)
    (hR : ∀ s', CompEnd c G φ s acc accA cenv.locals σ' s' → R (.ok .next) s') :
    codeAny (Md c) A (.compLoop (.ListComp elt [⟨.Name x px, iter, ifs, 0⟩] scope pos) 0 it' (.ref accA) cenv) R s₁ := by
  obtain ⟨n, h⟩ := h
  obtain ⟨la₀, ha₁, ha₂⟩ := ha
  refine codeAny_compLoop_tests (CmInv c P d A cenv kd' ρ₀ x elt ifs acc accA it' pr σ' G φ s) ?_ n
    ⟨σ₁, it, G₁, φ₁, h, H, I, S, la₀, ha₁, ha₂⟩
  rintro k s₂ ⟨σ₂, it₂, G₂, φ₂, hc, H₂, I₂, S₂, la, hla, hae⟩
  have noown : ∀ (a : Addr), a ∈ pr → a ∉ ([] : List Addr) := fun _ _ h => nomatch h
  have hdp : ∀ a ∈ pr, a ∉ [cenv.locals] := fun a ha z => hpc a ha (by rw [List.mem_singleton.mp z]; exact .head _)
  have back : ∀ {w G₆ φ₆ σ₆ s₆}, Rel c G₆ φ₆ σ₆ s₆ → LocRel c G₆ φ₆ cenv (Vars.set ρ₀ x w) s₆.heap → Owns c G₆ φ₆ cenv s₆ → Here c P d A cenv kd' ρ₀ G₆ φ₆ σ₆ s₆ := fun R₆ L₆ O₆ =>
    ⟨H.ok, H.a, H.kd, R₆, ⟨L₆.kind, L₆.glob, L₆.bi, (let ⟨m, hn, hv⟩ := L₆.ns; ⟨m, hn, fun y u h1 h2 => hv y u h1 (by
        unfold Vars.set
        split
        · rename_i z; subst z; rw [hx0] at h2; cases h2
        · exact h2)⟩), fun y u h1 h2 => L₆.cell y u h1 (by
        unfold Vars.set
        split
        · rename_i z; subst z; rw [hx0] at h2; cases h2
        · exact h2)⟩, O₆⟩
  -- one element is taken and bound
  have turn : ∀ {w it₃ σ₃} {K : Shared → Prop}, EvN P d it₂ σ₂ (some (w, it₃)) σ₃ → (∀ G₃ φ₃ s₄, Here c P d A cenv kd' (Vars.set ρ₀ x w) G₃ φ₃ σ₃ s₄ → ItRel c G₃ φ₃ s₄ it₃ it' pr → Step c [] G φ s G₃ φ₃ s₄ → (∃ la : Loc, φ₃[acc]? = some la ∧ la.a = accA) → K s₄) →
      ∀ {E : Value → Shared → Prop} {Kn : Shared → Prop}, wpAny (Md c) A (pyNext it') (fun r s₃ => match r with
        | none => Kn s₃
        | some v => wpAny (Md c) A (PySem.assign (.Name x px) cenv v) (fun _ s₄ => K s₄) E s₃) E s₂ := by
    intro w it₃ σ₃ K hn hK E Kn
    refine noE (wpAny_mono (hn.run H.ok H.a H₂.r I₂) (fun r' s₃ q => ?_) fun _ _ e => e)
    obtain ⟨G₃, φ₃, R₃, q⟩ := q
    cases r' with
    | none => exact q.elim
    | some w' =>
      obtain ⟨S₃, V₃, I₃⟩ := q
      have O₃ : ∀ a o, a ∈ owns cenv → s₂.heap.get? a = some o → s₃.heap.get? a = some o := fun a o ha e => S₃.frame a o (H₂.o.away ha).1 (fun z => hpc a z ha) e
      have H₃ : Here c P d A cenv kd' ρ₀ G₃ φ₃ σ₃ s₃ := ⟨H.ok, H.a, H.kd, R₃, H₂.l.keeps S₃.g S₃.ext (fun a o ha e => O₃ a o (mem_owns ha) e), H₂.o.step S₃⟩
      refine wpAny_assign_Name (sim_store_local hx H₃ nl V₃ fun s₄ R₄ L₄ S₄ => ?_)
      obtain ⟨la₃, e₃, ha₃, _⟩ := S₃.ext _ _ hla
      exact hK G₃ φ₃ s₄ ⟨H.ok, H.a, H.kd, R₄, L₄, H₃.o.step S₄⟩ (I₃.step S₄ hdp) ((S₂.trans S₃ fun b hb => .inr (hp b hb)).trans S₄ fun b hb => .inr (by rw [List.mem_singleton.mp hb]; exact hC)) ⟨la₃, e₃, ha₃.trans hae⟩
  cases hc with
  | fin hn =>
    refine noE (wpAny_mono (hn.run H.ok H.a H₂.r I₂) (fun r' s₃ q => ?_) fun _ _ e => e)
    obtain ⟨G₃, φ₃, R₃, q⟩ := q
    cases r' with
    | some _ => exact q.elim
    | none =>
      have q := q.1
      obtain ⟨la', e', ha', _⟩ := q.ext _ _ hla
      obtain ⟨mm, ⟨o, es, ep, ho, hr⟩, _⟩ := H₂.l.ns
      have hC₂ := H₂.o.loc cenv.locals (.head _)
      have hCp : cenv.locals ∉ pr := fun z => hpc _ z (.head _)
      have hCs := q.frame _ _ hC₂.1 hCp ho
      refine hR _ ⟨G₃, φ₃, R₃, S₂.transE q hp, ⟨la', e', ha'.trans hae⟩, ⟨mm, o, es, ep, hCs, hr⟩, fun a ha => ?_⟩
      cases List.mem_singleton.mp ha
      refine ⟨fun z => ?_, ?_, by rw [hCs]; rfl⟩
      · rcases q.foot _ z with z | z
        · exact hC₂.1 z
        · exact none_of_isSome hC₂.2.2 z
      · cases z : G₃ cenv.locals with
        | none => rfl
        | some o' =>
          rcases q.dom _ _ z with z | z
          · rw [hC₂.2.1] at z; cases z
          · exact none_of_isSome hC₂.2.2 z
  | take hn h2 h3 h4 h5 h6 =>
    refine wpAny_mono (turn hn fun G₃ φ₃ s₄ H₄ I₄ SS₄ hla₃ => noE (wpAny_mono (h2.ifs rfl H₄) (fun ok' s₅ ⟨e, G₅, φ₅, R₅, S₅⟩ => ?_) fun _ _ e => e)) (fun r s h => h) fun _ _ e => e
    subst e
    have H₅ := H₄.step R₅ S₅
    obtain ⟨la₃, e₃, ha₃⟩ := hla₃
    obtain ⟨la₅, e₅, ha₅, _⟩ := S₅.ext _ _ e₃
    simp only [if_true]
    refine noE (wpAny_mono (h3.run H₅) (fun y' s₆ ⟨G₆, φ₆, R₆, V₆, S₆⟩ => ?_) fun _ _ e => e)
    have H₆ := H₅.step R₆ S₆
    obtain ⟨la₆, e₆, ha₆, _⟩ := S₆.ext _ _ e₅
    have ha₆' : la₆.a = accA := ha₆.trans (ha₅.trans ha₃)
    rw [← ha₆']
    refine sim_append R₆ e₆ h4 V₆ h5 fun s₇ R₇ S₇ => ?_
    have H₇ := H₆.step R₇ S₇
    exact ⟨_, Nat.lt_succ_self _, _, _, G₆, φ₆, h6, back R₇ H₇.l H₇.o, ((I₄.step S₅ noown).step S₆ noown).step S₇ noown, ((SS₄.trans' S₅).trans' S₆).trans' S₇, la₆, e₆, rfl⟩
  | skip hn h2 h6 =>
    refine wpAny_mono (turn hn fun G₃ φ₃ s₄ H₄ I₄ SS₄ hla₃ => noE (wpAny_mono (h2.ifs rfl H₄) (fun ok' s₅ ⟨e, G₅, φ₅, R₅, S₅⟩ => ?_) fun _ _ e => e)) (fun r s h => h) fun _ _ e => e
    subst e
    have H₅ := H₄.step R₅ S₅
    obtain ⟨la₃, e₃, ha₃⟩ := hla₃
    obtain ⟨la₅, e₅, ha₅, _⟩ := S₅.ext _ _ e₃
    simp only [Bool.false_eq_true, if_false]
    exact ⟨_, Nat.lt_succ_self _, _, _, G₅, φ₅, h6, back R₅ H₅.l H₅.o, I₄.step S₅ noown, SS₄.trans' S₅, la₅, e₅, ha₅.trans ha₃⟩
end
end Mini
namespace Mini
open PySem PySem.W PyProof PyProof.Rows PySem.Calls
section
variable {c : Cx} {P : PI} {n d : Nat} {A : Around} {env : Env} {kd : Kinds} {ρ ρ' : Vars} {G : Imm} {φ : List Loc} {σ σ' σ₁ : St} {s s' : Shared} {v a : AVal}
theorem iterSelf {it : AIt} {it' : Value} {pr : List Addr} {Q : Value → Shared → Prop} {E : Value → Shared → Prop} (R : Rel c G φ σ s) (I : ItRel c G φ s it it' pr) (hm : ∀ i, it = .obj i → SelfIt σ i) (q : Q it' s) : wpAny (Md c) A (pyIter it') Q E s := by
  cases I with
  | seq hI _ _ => exact wpAny_pyIter_listiter hI q
  | rng hI _ => exact wpAny_pyIter_rangeiter hI q
  | tup hI _ _ => exact wpAny_pyIter_tupleiter hI q
  | chars hI _ => exact wpAny_pyIter_striter_ascii hI q
  | obj hl => exact iterObj (hm _ rfl) R hl q
  | dkeys hI _ _ _ _ => exact wpAny_pyIter_keyiter hI q
theorem SelfIt.grow {i : Nat} (h : SelfIt σ i) (o : AObj) : SelfIt (σ ++ [o]) i := by
  have k : ∀ {x : AObj}, σ[i]? = some x → (σ ++ [o])[i]? = some x := fun e => by rw [List.getElem?_append_left (List.getElem?_eq_some_iff.mp e).1]; exact e
  cases h with
  | liter q => exact .liter (k q)
  | lend q => exact .lend (k q)
  | gen q => exact .gen (k q)
theorem all_mem {α : Type} {p : α → Bool} {l : List α} (h : l.all p = true) {x : α} (hx : x ∈ l) : p x = true := List.all_eq_true.mp h x hx
theorem comp_run {x : Str} {px pos : Pos} {elt iter : Expr} {ifs : List Expr} {scope : Scope} {it : AIt} {use : Option (Value → Sem Unit)} {Q : Value → Shared → Prop} {pos' : Pos}
    (hok' : compOk scope kd ρ x = true) (hset : notSet iter = true) (h1 : EvE P d kd ρ iter σ a σ₁) (h2 : IterR σ₁ a it)
    (h3 : EvCm P d (relabelK scope.names kd) (freeVars (relabelK scope.names kd) ρ) x elt ifs σ₁.length it (σ₁ ++ [.list []]) σ') (H : Here c P d A env kd ρ G φ σ s)
    (hQ : ∀ accA C s', s.heap.get? C = none → CompEnd c G φ s σ₁.length accA C σ' s' → compPost (Md c) A (fun _ _ => False) use Q (.ref accA) C (.ok .next) s') :
    wpAny (Md c) A (comprehension (.ListComp elt [⟨.Name x px, iter, ifs, 0⟩] scope pos) scope env pos' (PySem.newList []) false (PySem.eval iter env) use) Q (fun _ _ => False) s := by
  unfold compOk at hok'
  simp only [Bool.and_eq_true] at hok'
  obtain ⟨⟨hk, hall⟩, hxl⟩ := hok'
  have hk := eq_of_beq hk
  have hxl := eq_of_beq hxl
  have hfree : ∀ p ∈ scope.names, p.2 = .free → (kd p.1 = some .cell ∨ kd p.1 = some .free) ∧ (ρ p.1).isSome = true := fun p hp hf => by
    have := all_mem hall hp
    simp only [Bool.and_eq_true, Bool.or_eq_true, bne_iff_ne, ne_eq, beq_iff_eq] at this
    rcases this.2 with z | z
    · exact absurd hf z
    · exact z
  have hcell : ∀ p ∈ scope.names, p.2 ≠ .cell := fun p hp => by
    have := all_mem hall hp
    simp only [Bool.and_eq_true, bne_iff_ne, ne_eq] at this
    exact this.1.1
  have hnames : ∀ p ∈ scope.names, p.2 = .local → scope.names.lookup p.1 = some .local := fun p hp hl => by
    have := all_mem hall hp
    simp only [Bool.and_eq_true, Bool.or_eq_true, bne_iff_ne, ne_eq, beq_iff_eq] at this
    rcases this.1.2 with z | z
    · exact absurd hl z
    · exact z
  have hlook : ∀ p ∈ scope.names, p.2 = .free → (env.cells.lookup p.1).isSome = true := fun p hp hf => by
    obtain ⟨h1, h2⟩ := hfree p hp hf
    obtain ⟨w, hw⟩ := Option.isSome_iff_exists.mp h2
    rw [H.kd] at h1
    obtain ⟨ca, _, e, _⟩ := H.l.cell p.1 w h1 hw
    rw [e]; rfl
  refine wpAny_comprehension_free rfl (folded_no hset) (closureFor_eq hlook) hk hnames ?_
  refine wpAny_mono (h1.run H) (fun a' s₁ ⟨G₁, φ₁, R₁, V₁, S₁⟩ => wpAny_mono (h2.run R₁ V₁) (fun it' s₂ ⟨pr, R₂, I₂, S₂, hpr⟩ => ?_) fun _ _ e => e) fun _ _ e => e
  have H₂ := (H.step R₁ S₁).step R₂ S₂
  refine wpAny_newList ?_ (by rw [sizeLine_eq]; exact Nat.zero_le _)
  obtain ⟨G₃, φ₃, R₃, V₃, S₃⟩ := R₂.newList (vs := []) (items := []) .nil
  have H₃ := H₂.step R₃ S₃
  refine wpAny_newFunctionEnv hcell (fun _ hb => nomatch hb) (fun h' hn hs => ?_) hk
  -- the block's own names
  generalize hs₃ : ({ s₂ with heap := s₂.heap.push { cls := .type "list", data := .seq ([] : List Value).toArray } } : Shared) = s₃ at *
  have k4 : ∀ b o, s₃.heap.get? b = some o → h'.get? b = some o := fun b o e => hs.extBut b o (fun z => by rw [z, get?_size] at e; cases e) (Heap.get?_push_of_some _ e)
  have S₄ : Step c [] G₃ φ₃ s₃ G₃ φ₃ { s₃ with heap := h', toks := s₃.toks + ([] : List (Str × Value)).length } := step_ext k4
  have R₄ := rel_ext (tk := s₃.toks + ([] : List (Str × Value)).length) R₃ k4
  have H₄ := H₃.step R₄ S₄
  have SS : Step c [] G φ s G₃ φ₃ { s₃ with heap := h', toks := s₃.toks + ([] : List (Str × Value)).length } := ((S₁.trans' S₂).trans' S₃).trans' S₄
  have dead : ∀ {b : Addr}, s₁.heap.get? b = none → s.heap.get? b = none := fun {b} e => by
    cases q : s.heap.get? b with
    | none => rfl
    | some o => exact none_of_isSome (S₁.keep b (by rw [q]; rfl)) e
  have dead3 : s.heap.get? s₃.heap.objs.size = none := by
    cases q : s.heap.get? s₃.heap.objs.size with
    | none => rfl
    | some o => exact none_of_isSome (((S₁.trans' S₂).trans' S₃).keep _ (by rw [q]; rfl)) (get?_size _)
  have hCl : (h'.get? s₃.heap.objs.size).isSome := by obtain ⟨o, _, _, e, _⟩ := hn; rw [e]; rfl
  have hcs : ∀ p ∈ clos env scope.names [], env.cells.lookup p.1 = some p.2 := fun p hp => (clos_mem _ _ hlook hp).elim (fun z => nomatch z) id
  have hcl : ∀ p ∈ clos env scope.names [], p.2 ≠ s₃.heap.objs.size := fun p hp z => by
    have := (H₃.o.cel _ _ (hcs p hp)).2.1
    rw [z, get?_size] at this; cases this
  let cenv : Env := { newEnv scope s₃.heap.objs.size env.globals (clos env scope.names []) env.qual none .none (some env) builtinsNs with scope := relabel scope env }
  have hkd : relabelK scope.names kd = cenv.kindOf := funext fun y => relabelK_eq scope H.l.kind H.kd y
  have hlocal : ∀ y, scope.names.lookup y = some .local → cenv.kindOf y = some .local := fun y hy => lookup_relabel_local hy
  have hfreeOf : ∀ y, (cenv.kindOf y = some .cell ∨ cenv.kindOf y = some .free) → (y, NameKind.free) ∈ scope.names := fun y hy => by
    have hm : ∃ k, (y, k) ∈ (relabel scope env).names ∧ (k = .cell ∨ k = .free) := by
      rcases hy with hy | hy
      · exact ⟨_, mem_of_lookup hy, .inl rfl⟩
      · exact ⟨_, mem_of_lookup hy, .inr rfl⟩
    obtain ⟨k, hm, hkk⟩ := hm
    obtain ⟨⟨y', k'⟩, hp, e⟩ := List.mem_map.mp hm
    dsimp only at e
    split at e
    · rename_i q
      simp only [Bool.and_eq_true] at q
      cases e
      have := eq_of_beq q.1.1
      subst this
      exact hp
    · cases e
      rcases hkk with z | z
      · exact absurd z (hcell _ hp)
      · subst z; exact hp
  have L₄ : LocRel c G₃ φ₃ cenv (freeVars (relabelK scope.names kd) ρ) h' := by
    refine ⟨hk, H.l.glob, H.l.bi, ⟨_, hn, fun y w h1 h2 => ?_⟩, fun y w h1 h2 => ?_⟩
    · unfold freeVars at h2
      rw [hkd, h1] at h2
      (cases h2)
    · have hy := hfreeOf y h1
      have h2' : ρ y = some w := by
        unfold freeVars at h2
        rw [hkd] at h2
        rcases h1 with z | z <;> (rw [z] at h2; exact h2)
      obtain ⟨hko, _⟩ := hfree _ hy rfl
      rw [H.kd] at hko
      obtain ⟨ca, w', e, hc, r⟩ := H₄.l.cell y w hko h2'
      obtain ⟨ca', e'⟩ := Option.isSome_iff_exists.mp (clos_has (env := env) scope.names [] (.inl hy))
      have := clos_from scope.names [] hlook (fun _ z => by cases z) e'
      rw [e] at this
      cases this
      exact ⟨ca, w', e', hc, r⟩
  have hcellOf : ∀ y, cenv.kindOf y = some .cell → env.kindOf y = some .cell := fun y hy => by
    obtain ⟨⟨y', k'⟩, hp, e⟩ := List.mem_map.mp (show (y, NameKind.cell) ∈ (relabel scope env).names from mem_of_lookup hy)
    dsimp only at e
    split at e
    · rename_i q
      simp only [Bool.and_eq_true] at q
      cases e
      first
        | exact eq_of_beq q.2
        | exact eq_of_beq q.1.2
    · cases e
      exact absurd rfl (hcell _ hp)
  have O₄ : Owns c G₃ φ₃ cenv { s₃ with heap := h', toks := s₃.toks + ([] : List (Str × Value)).length } := by
    refine ⟨fun b hb => ?_, fun y b hb => ?_⟩
    · cases List.mem_singleton.mp hb
      exact ⟨R₃.fresh_foot (get?_size _), R₃.fresh_G (get?_size _), hCl⟩
    · obtain ⟨z1, z2, z3⟩ := H₄.o.cel y b (hcs (y, b) (mem_of_look hb))
      exact ⟨z1, z2, fun hy => z3 (hcellOf y hy)⟩
  have HC : Here c P d A cenv (relabelK scope.names kd) (freeVars (relabelK scope.names kd) ρ) G₃ φ₃ (σ₁ ++ [.list []]) { s₃ with heap := h', toks := s₃.toks + ([] : List (Str × Value)).length } := ⟨H.ok, H.a, hkd, R₄, L₄, O₄⟩
  have noown : ∀ (a : Addr), a ∈ pr → a ∉ ([] : List Addr) := fun _ _ h => nomatch h
  have I₄ := (I₂.step S₃ noown).step S₄ noown
  have hla : ∃ la : Loc, φ₃[σ₁.length]? = some la ∧ la.a = s₂.heap.objs.size := by
    generalize hv : (Value.ref s₂.heap.objs.size) = vv at V₃
    cases V₃ using VRel.refE with
    | ref e => exact ⟨_, e, (Value.ref.inj hv).symm⟩
  have hpc : ∀ b ∈ pr, b ∉ owns cenv := fun b hb z => by
    have hb1 := hpr b hb
    rcases of_owns z with z | ⟨x, z⟩
    · subst z
      have := (I₂.step S₃ noown).own _ hb
      exact none_of_isSome this.2.2 (get?_size _)
    · have := ((H.step R₁ S₁).o.cel x b (hcs (x, b) (mem_of_look z))).2.1
      exact none_of_isSome this hb1
  have loop : ∀ {it'' : Value} (_ : it'' = it'), codeAny (Md c) A (.compLoop (.ListComp elt [⟨.Name x px, iter, ifs, 0⟩] scope pos) 0 it'' (.ref s₂.heap.objs.size) cenv) (compPost (Md c) A (fun _ _ => False) use Q (.ref s₂.heap.objs.size) cenv.locals) { s₃ with heap := h', toks := s₃.toks + ([] : List (Str × Value)).length } := by
    intro it'' e
    subst e
    refine comp_loop h3 HC I₄ SS hla (hlocal x hxl) ?_ (fun n a hm => hcl (n, a) hm) dead3 (fun a ha => dead (hpr a ha)) hpc fun s' hs' => hQ _ _ s' dead3 hs'
    unfold freeVars
    rw [hkd, hlocal x hxl]
  refine codeAny_compStart_list (loop rfl) ?_
  exact noE (iterSelf R₄ I₄ (fun i hi => by subst hi; exact (h2.self _ rfl).grow _) (loop rfl))
end
section
variable {P : PI} {d : Nat} {kd : Kinds} {ρ ρ₁ ρ₂ ρ₃ ρ' : Vars} {σ σ₁ σ₂ σ₃ σ' : St} {v a b : AVal} {p : Pos}
theorem e_comp {elt iter : Expr} {x : Str} {px : Pos} {ifs : List Expr} {scope : Scope} {it : AIt} (h0 : compOk scope kd ρ x = true) (h0' : notSet iter = true) (h1 : EvE P d kd ρ iter σ a σ₁) (h2 : IterR σ₁ a it)
    (h3 : EvCm P d (relabelK scope.names kd) (freeVars (relabelK scope.names kd) ρ) x elt ifs σ₁.length it (σ₁ ++ [.list []]) σ') : EvE P d kd ρ (.ListComp elt [⟨.Name x px, iter, ifs, 0⟩] scope p) σ (.ref σ₁.length) σ' := .intro fun {c A env G φ s} H => by
  show wpAny (Md c) A (comprehension (.ListComp elt [⟨.Name x px, iter, ifs, 0⟩] scope p) scope env _ (PySem.newList []) false (PySem.eval iter env) none) _ _ s
  refine comp_run h0 h0' h1 h2 h3 H fun accA C s' hC ⟨G', φ', R', S', ⟨la, hla, hae⟩, ⟨m, hm⟩, O⟩ => ⟨m, hm, fun h' hs => ?_⟩
  have k : ∀ b o, b ≠ C → s'.heap.get? b = some o → h'.get? b = some o := fun b o hb e => (hs.2 b hb).trans e
  refine ⟨G', φ', rel_priv (tk := s'.toks) R' O k, by rw [← hae]; exact .ref hla, S'.transE (stepE_priv (tk := s'.toks) k) fun b hb => by cases List.mem_singleton.mp hb; exact hC⟩
end
end Mini
namespace Mini
open PySem PySem.W PySem.W.X PyProof PyProof.Rows PySem.Calls
theorem bindL_out {kindOf : Str → Option NameKind} {y : Str} : ∀ (b : List (Str × Value)) (m : Str → Option Value), (∀ p ∈ b, p.1 ≠ y) → bindL kindOf b m y = m y
  | [], _, _ => rfl
  | (n, v) :: r, m, h => by
    unfold bindL
    rw [bindL_out r _ fun p hp => h p (.tail _ hp)]
    split
    · have := h (n, v) (.head _)
      simp [Ne.symm this]
    · rfl
theorem bindC_out {kindOf : Str → Option NameKind} {y : Str} : ∀ (b : List (Str × Value)) (m : Str → Option Value), (∀ p ∈ b, p.1 ≠ y) → bindC kindOf b m y = m y
  | [], _, _ => rfl
  | (n, v) :: r, m, h => by
    unfold bindC
    rw [bindC_out r _ fun p hp => h p (.tail _ hp)]
    split
    · rfl
    · have := h (n, v) (.head _)
      simp [Ne.symm this]
theorem zip_keys {ps : List Str} {vs : List Value} {p : Str × Value} (h : p ∈ ps.zip vs) : p.1 ∈ ps := (List.of_mem_zip (show (p.1, p.2) ∈ ps.zip vs from h)).1
theorem bind_local {c : Cx} {G : Imm} {φ : List Loc} {kindOf : Str → Option NameKind} {y : Str} {w : AVal} (hk : kindOf y = some .local) : ∀ (ps : List Str) (vs : List AVal) (vs' : List Value) (m : Str → Option Value), ps.Nodup → VsRel c G φ vs vs' → bindAll ps vs y = some w →
    ∃ w', bindL kindOf (ps.zip vs') m y = some w' ∧ VRel c G φ w w'
  | [], _, _, _, _, _, h => by simp [bindAll] at h
  | p :: ps, [], _, _, _, _, h => by simp [bindAll] at h
  | p :: ps, v :: vs, _, m, hn, .cons hv hvs, h => by
    obtain ⟨h1, h2⟩ := List.nodup_cons.mp hn
    rw [List.zip_cons_cons]
    unfold bindL
    unfold bindAll at h
    split at h
    · rename_i q
      subst q
      cases h
      refine ⟨_, ?_, hv⟩
      rw [bindL_out _ _ fun p hp q => h1 (by rw [← q]; exact zip_keys hp)]
      simp [hk]
    · exact bind_local hk ps vs _ _ h2 hvs h
theorem bind_cell {c : Cx} {G : Imm} {φ : List Loc} {kindOf : Str → Option NameKind} {y : Str} {w : AVal} (hk : kindOf y ≠ some .local) : ∀ (ps : List Str) (vs : List AVal) (vs' : List Value) (m : Str → Option Value), ps.Nodup → VsRel c G φ vs vs' → bindAll ps vs y = some w →
    ∃ w', bindC kindOf (ps.zip vs') m y = some w' ∧ VRel c G φ w w'
  | [], _, _, _, _, _, h => by simp [bindAll] at h
  | p :: ps, [], _, _, _, _, h => by simp [bindAll] at h
  | p :: ps, v :: vs, _, m, hn, .cons hv hvs, h => by
    obtain ⟨h1, h2⟩ := List.nodup_cons.mp hn
    rw [List.zip_cons_cons]
    unfold bindC
    unfold bindAll at h
    split at h
    · rename_i q
      subst q
      cases h
      refine ⟨_, ?_, hv⟩
      rw [bindC_out _ _ fun p hp q => h1 (by rw [← q]; exact zip_keys hp)]
      simp [hk]
    · exact bind_cell hk ps vs _ _ h2 hvs h
noncomputable def callable : AVal → Bool
  | .fn _ | .cls | .gfn .. | .bi _ | .ty _ | .lam .. => true
  | _ => false
noncomputable def EvC (P : PI) (d : Nat) (fv : AVal) (vs : List AVal) (σ : St) (v : AVal) (σ' : St) : Prop := callable fv = true ∧ ∀ {c A G φ s f' vs'}, COk c P → GoodA d A → Rel c G φ σ s → VRel c G φ fv f' → VsRel c G φ vs vs' → Gives c A G φ s (call f' vs') v σ'
section
variable {c : Cx} {P : PI} {n d : Nat} {A : Around} {env : Env} {kd : Kinds} {ρ ρ' : Vars} {G : Imm} {φ : List Loc} {σ σ' : St} {s s' : Shared} {v : AVal}
theorem GoodA.deeper {d : Nat} {A : Around} (h : GoodA (d + 1) A) (env : Env) : GoodA d (A.deeper env) :=
  ⟨h.hh, by show A.depth + 1 + 4 * d < 900; have := h.depth; lia, by show A.units + 3 + 40 * d < 9000; have := h.units; lia⟩
noncomputable def retOf : Flw → Option AVal
  | .ret w => some w
  | .next => some .none
  | _ => .none
noncomputable def Imm.over (G G₀ : Imm) : Imm := fun a => match G₀ a with
  | some o => some o
  | .none => G a
theorem Rel.addG {G₀ : Imm} (R : Rel c G φ σ s) (h1 : ∀ a o, G₀ a = some o → s.heap.get? a = some o) (h2 : ∀ a o, G₀ a = some o → a ∉ foot c φ ∧ G a = none) : Rel c (G.over G₀) φ σ s ∧ Imm.Sub G (G.over G₀) := by
  have sub : Imm.Sub G (G.over G₀) := fun a o e => by
    unfold Imm.over
    split
    · rename_i q; rw [(h2 a _ q).2] at e; cases e
    · exact e
  refine ⟨⟨fun a o e => sub a o (R.gB a o e), fun a o e => ?_, fun a ha => ?_, R.len, R.nodup, R.live, fun i l o e1 e2 => (R.obj i l o e1 e2).frame sub (.refl _) (fun _ _ _ e => e) fun _ _ => rfl, R.gn, R.bare, fun q hq => (R.tab q hq).mono sub fun _ e => e⟩, sub⟩
  · unfold Imm.over at e
    split at e
    · rename_i q; cases e; exact h1 a _ q
    · exact R.gh a o e
  · unfold Imm.over
    split
    · rename_i q; exact absurd ha (h2 a _ q).1
    · exact R.gf a ha
theorem fn_enterE {f : Fn} {ps : List Str} {body : List Stmt} {names : List (Str × NameKind)} {vs : List AVal} {vs' : List Value} (F : FnOk c f ps body names) (hlen : ps.length = vs.length)
    (ok : COk c P) (ha : GoodA (d + 1) A) (R : Rel c G φ σ s) (V : VsRel c G φ vs vs') {Q : Value → Shared → Prop} {E : Value → Shared → Prop}
    (h : ∀ env s₁ G₁, env = callEnvC f.fd s.heap.objs.size f.addr → HereX c P d (A.deeper env) env (fun x => names.lookup x) (bindAll ps vs) G₁ φ σ s₁ → Step c [] G φ s G₁ φ s₁ → (∀ a ∈ owns env, s.heap.get? a = none) →
      wpAny (Md c) (A.deeper env) (PySem.execs body env) (fun fl s₂ => Q (match fl with | .ret v => v | _ => .none) s₂) (fun e s' => wpAny (Md c) (A.deeper env) (leaving env e) (fun _ s'' => E e s'') (fun e' s'' => E e' s'') s') s₁) :
    codeAny (Md c) A (.call (.ref f.addr) ⟨vs', []⟩) (fun r s' => match r with | .ok (.ret v) => Q v s' | .ok _ => False | .error e => E e s') s := by
  obtain ⟨o, ho, hd⟩ := F.o
  have hL : vs'.length = ps.length := by rw [← V.length, hlen]
  refine codeAny_call_cells ha.room (R.keepB _ _ ho) hd (ok.ok.nolimit.keeps R.keepB) (F.code.keeps R.keepB) F.body (F.bind vs' hL) F.clo (fun x hx => ?_) (fun s₁ IC => ?_) F.co F.gen F.kind
  · rw [F.nm]
    rcases F.pk x.1 (zip_keys hx) with z | z
    · exact .inl z
    · exact .inr ⟨z, F.cells _ z _⟩
  · let env : Env := callEnvC f.fd s.heap.objs.size f.addr
    have hkd : (fun x => names.lookup x) = env.kindOf := funext fun x => by
      show names.lookup x = f.fd.scope.names.lookup x
      rw [F.nm]
    obtain ⟨h₁, tk, e, keep⟩ := IC.done
    have S : Step c [] G φ s G φ s₁ := by rw [e]; exact step_ext keep
    have R₁ : Rel c G φ σ s₁ := by rw [e]; exact rel_ext R keep
    have hcell : ∀ x a, env.cells.lookup x = some a → s₁.heap.IsCell a (bindC env.kindOf (ps.zip vs') (fun _ => none) x) := fun x a hx => IC.cell x a hx
    have fresh : ∀ a ∈ owns env, s.heap.get? a = none := fun a ha => by
      have hge : s.heap.objs.size ≤ a := by
        rcases of_owns ha with rfl | ⟨x, ha⟩
        · exact Nat.le_refl _
        · exact Nat.le_of_lt (IC.above x a (mem_of_look ha))
      cases z : s.heap.get? a with
      | none => rfl
      | some o => exact absurd (Heap.lt_size z) (Nat.not_lt.mpr hge)
    have alive : ∀ a ∈ owns env, (s₁.heap.get? a).isSome := fun a ha => by
      rcases of_owns ha with rfl | ⟨x, ha⟩
      · obtain ⟨o, _, _, e, _⟩ := IC.toInCall.ns
        show (s₁.heap.get? (callEnvC f.fd s.heap.objs.size f.addr).locals).isSome
        rw [e]; rfl
      · obtain ⟨o, ho, _⟩ := hcell _ _ ha
        rw [ho]; rfl
    have O : OwnOk c G φ (owns env) s₁ := fun a ha => ⟨R.fresh_foot (fresh a ha), R.fresh_G (fresh a ha), alive a ha⟩
    have L : LocRel c G φ env (bindAll ps vs) s₁.heap := by
      refine ⟨F.kind, F.glob, F.bi, ⟨_, IC.toInCall.ns, fun y w h1 h2 => bind_local h1 ps vs vs' _ F.nodup V h2⟩, fun y w h1 h2 => ?_⟩
      have hk : env.kindOf y = some .cell := by
        rcases h1 with z | z
        · exact z
        · rw [← hkd] at z; exact absurd z (F.nofree y)
      have hc : (env.cells.lookup y).isSome = true := by
        show ((cellsFrom _ f.fd.scope.names []).lookup y).isSome = true
        rw [F.nm]
        exact F.cells y (by rw [← hkd] at hk; exact hk) _
      obtain ⟨a, hca⟩ := Option.isSome_iff_exists.mp hc
      obtain ⟨w', e, r⟩ := bind_cell (kindOf := env.kindOf) (by rw [hk]; simp) ps vs vs' (fun _ => none) F.nodup V h2
      exact ⟨a, w', hca, e ▸ hcell y a hca, r⟩
    have FO : FrOk env s₁.heap := by
      refine ⟨fun x hx => ?_, fun x y a _ e1 e2 => name_of_addr IC.apart (mem_of_lookup e2) (mem_of_lookup e1), fun n a hm => Nat.ne_of_gt (IC.above n a hm)⟩
      have hc : (env.cells.lookup x).isSome = true := by
        show ((cellsFrom _ f.fd.scope.names []).lookup x).isSome = true
        rw [F.nm]
        exact F.cells x (by rw [← hkd] at hx; exact hx) _
      obtain ⟨a, hca⟩ := Option.isSome_iff_exists.mp hc
      exact ⟨a, _, hca, hcell x a hca⟩
    let G₀ : Imm := fun a => if a ∈ (env.cells.filter fun p => c.frz p.1 && (env.kindOf p.1 == some .cell && env.cells.lookup p.1 == some p.2)).map (·.2) then s₁.heap.get? a else none
    have hin : ∀ a o, G₀ a = some o → s₁.heap.get? a = some o ∧ a ∈ owns env ∧ ∃ x, (x, a) ∈ env.cells ∧ c.frz x = true := fun a o e => by
      unfold G₀ at e
      split at e
      · rename_i hm
        obtain ⟨p, hp, rfl⟩ := List.mem_map.mp hm
        obtain ⟨h1, h2⟩ := List.mem_filter.mp hp
        rw [Bool.and_eq_true, Bool.and_eq_true] at h2
        exact ⟨e, mem_owns (.inr ⟨p.1, eq_of_beq h2.2.2⟩), p.1, h1, h2.1⟩
      · cases e
    obtain ⟨R₂, sub⟩ := R₁.addG (G₀ := G₀) (fun a o e => (hin a o e).1) (fun a o e => ⟨(O a (hin a o e).2.1).1, (O a (hin a o e).2.1).2.1⟩)
    have S₂ : Step c [] G φ s (G.over G₀) φ s₁ := by
      refine ⟨fun a o e => sub a o e, S.ext, S.foot, fun b o e => ?_, S.frame, S.keep, S.os, S.gsz, S.gfr, S.gft⟩
      unfold Imm.over at e
      split at e
      · rename_i q; exact .inr (fresh b (hin b _ q).2.1)
      · exact .inl e
    have O₂ : Owns c (G.over G₀) φ env s₁ := by
      refine ⟨fun a ha => ?_, fun x a hx => ?_⟩
      · cases List.mem_singleton.mp ha
        obtain ⟨o1, o2, o3⟩ := O env.locals (List.mem_cons_self ..)
        refine ⟨o1, ?_, o3⟩
        unfold Imm.over
        split
        · rename_i q
          obtain ⟨_, _, x, hx, _⟩ := hin _ _ q
          exact absurd rfl (FO.nl x _ hx)
        · exact o2
      · obtain ⟨o1, o2, o3⟩ := O a (mem_owns (.inr ⟨x, hx⟩))
        refine ⟨o1, o3, fun hk => ?_⟩
        split
        · rename_i hz
          obtain ⟨o, ho⟩ := Option.isSome_iff_exists.mp o3
          have : G₀ a = some o := by
            unfold G₀
            rw [if_pos (List.mem_map.mpr ⟨(x, a), List.mem_filter.mpr ⟨mem_of_look hx, by rw [hz, hk, hx, beq_self_eq_true]; simp⟩, rfl⟩)]
            exact ho
          unfold Imm.over
          rw [this]; rfl
        · rename_i hz
          unfold Imm.over
          split
          · rename_i q
            obtain ⟨_, _, y, hy, hzy⟩ := hin _ _ q
            have e := name_of_addr IC.apart hy (mem_of_look hx)
            rw [e] at hzy
            exact absurd hzy hz
          · exact o2
    have H : HereX c P d (A.deeper env) env (fun x => names.lookup x) (bindAll ps vs) (G.over G₀) φ σ s₁ := ⟨⟨ok, ha.deeper env, hkd, R₂, L.keeps sub (.refl _) fun _ _ _ e => e, O₂⟩, FO⟩
    refine wpAny_mono (h env s₁ _ rfl H S₂ fresh) (fun f' s₂ hq => ?_) fun _ _ e => e
    cases f' <;> exact hq
theorem fn_enter {f : Fn} {ps : List Str} {body : List Stmt} {names : List (Str × NameKind)} {vs : List AVal} {vs' : List Value} (F : FnOk c f ps body names) (hlen : ps.length = vs.length)
    (ok : COk c P) (ha : GoodA (d + 1) A) (R : Rel c G φ σ s) (V : VsRel c G φ vs vs') {Q : Value → Shared → Prop} {E : Value → Shared → Prop}
    (h : ∀ env s₁ G₁, env = callEnvC f.fd s.heap.objs.size f.addr → HereX c P d (A.deeper env) env (fun x => names.lookup x) (bindAll ps vs) G₁ φ σ s₁ → Step c [] G φ s G₁ φ s₁ → (∀ a ∈ owns env, s.heap.get? a = none) →
      wpAny (Md c) (A.deeper env) (PySem.execs body env) (fun fl s₂ => Q (match fl with | .ret v => v | _ => .none) s₂) (fun _ _ => False) s₁) :
    codeAny (Md c) A (.call (.ref f.addr) ⟨vs', []⟩) (fun r s' => match r with | .ok (.ret v) => Q v s' | .ok _ => False | .error e => E e s') s :=
  fn_enterE F hlen ok ha R V fun env s₁ G₁ e H S fr => noE (h env s₁ G₁ e H S fr)
theorem callFn {f : Fn} {ps : List Str} {body : List Stmt} {names : List (Str × NameKind)} {vs : List AVal} {vs' : List Value} {fl : Flw} {ρ' : Vars} (F : FnOk c f ps body names)
    (h : EvXs P d (fun x => names.lookup x) (bindAll ps vs) body σ fl ρ' σ') (hlen : ps.length = vs.length) (hfl : retOf fl = some v)
    (ok : COk c P) (ha : GoodA (d + 1) A) (R : Rel c G φ σ s) (V : VsRel c G φ vs vs') {Q : Value → Shared → Prop} {E : Value → Shared → Prop} (q : ∀ v' s' G' φ', Rel c G' φ' σ' s' → VRel c G' φ' v v' → Step c [] G φ s G' φ' s' → Q v' s') :
    codeAny (Md c) A (.call (.ref f.addr) ⟨vs', []⟩) (fun r s' => match r with | .ok (.ret v) => Q v s' | .ok _ => False | .error e => E e s') s := by
  refine fn_enter F hlen ok ha R V fun env s₁ _ _ H S fresh => wpAny_mono (h.run H) (fun f' s₂ ⟨G₂, φ₂, R₂, _, _, S₂, FR⟩ => ?_) fun _ _ e => e
  have SS : Step c [] G φ s G₂ φ₂ s₂ := S.trans S₂ fun b hb => .inr (fresh b hb)
  cases FR with
  | next => cases hfl; exact q _ _ _ _ R₂ .none SS
  | ret hv => cases hfl; exact q _ _ _ _ R₂ hv SS
  | brk => cases hfl
  | cont => cases hfl
end
section
variable {P : PI} {d : Nat} {ρ' : Vars} {σ σ' : St} {v : AVal}
theorem c_fnAny {x : Str} {ps : List Str} {body : List Stmt} {names : List (Str × NameKind)} {vs : List AVal} {fl : Flw} (h0 : P.fn x = some (ps, body, names)) (h2 : ps.length = vs.length) (hr : retOf fl = some v)
    (h3 : EvXs P d (fun x => names.lookup x) (bindAll ps vs) body σ fl ρ' σ') : EvC P (d + 1) (.fn x) vs σ v σ' := ⟨rfl, fun ok ha R Vf V => by
  obtain ⟨f, hf, F⟩ := ok.fn x ps body names h0
  cases Vf using VRel.fnE with
  | fn e =>
    rw [hf] at e; cases e
    exact wpAny_call (callFn F h3 h2 hr ok ha R V fun v' s' G' φ' R' V' S' => ⟨G', φ', R', V', S'⟩)⟩
theorem c_fn {x : Str} {ps : List Str} {body : List Stmt} {names : List (Str × NameKind)} {vs : List AVal} (h0 : P.fn x = some (ps, body, names)) (h1 : P.maker x = none) (h2 : ps.length = vs.length)
    (h3 : EvXs P d (fun x => names.lookup x) (bindAll ps vs) body σ (.ret v) ρ' σ') : EvC P (d + 1) (.fn x) vs σ v σ' := c_fnAny h0 h2 rfl h3
end
end Mini
namespace Mini
open PySem PySem.W PySem.W.X PyProof PyProof.Rows PySem.Calls
section
variable {prog : Program} {w : World} {A : Around} {E : Value → Shared → Prop} {s : Shared} {Q : Option Value → Shared → Prop}
end
section
variable {prog : Program} {w : World} {A : Around} {c : Code} {fs : List Frame} {Φ : End → Shared → Prop} {s : Shared} {env : Env} {K : Flow → Sem PySem.Fin} {H : Value → Sem PySem.Fin} {gd : Bool → Bool} {lv : List Value → List Value}
noncomputable def loopFrame (env : Env) (K : Flow → Sem PySem.Fin) (H : Value → Sem PySem.Fin) (gd : Bool → Bool) (lv : List Value → List Value) (c : Code) (p : Pos) : Frame :=
  .ret (fun r => ((match r with | .ok f => (.pure f : Sem Flow) | .error e => .raise e).onRaise fun (x : Value) => do
        if (← field x 1) == Value.none then unsupported "frame.own-activation:exception-without-traceback"
        setFlight x env.frame).wrap K H gd lv) none (gd false) (lv []) c p []
end
section
variable {c : Cx} {P : PI} {n d : Nat} {A : Around} {env : Env} {kd : Kinds} {ρ ρ' : Vars} {G G' : Imm} {φ φ' : List Loc} {σ σ' : St} {s s' : Shared} {v : AVal}
end
end Mini
namespace Mini
open PySem PySem.W PySem.W.X PyProof PyProof.Rows PySem.Calls
section
variable {c : Cx} {P : PI} {n d : Nat} {A : Around} {env : Env} {kd : Kinds} {ρ ρ' : Vars} {G G' : Imm} {φ φ' : List Loc} {σ σ' : St} {s s' : Shared} {v : AVal}
noncomputable def PullEnd (c : Cx) (k : GB) (env : Env) (it' : Value) (pr : List Addr) (i : Nat) (G : Imm) (φ : List Loc) (s : Shared) (r : Option AVal) (σ' : St) (e : End) (s' : Shared) : Prop :=
  ∃ G' φ' σ₁, Rel c G' φ' σ₁ s' ∧ Step c (env.locals :: pr) G φ s G' φ' s' ∧ (∃ kk ρρ, σ₁[i]? = some (.gen kk ρρ .run)) ∧ match r with
  | .none => e = .ret (.ok (.ret .none)) ∧ ∃ ρ₁, σ' = σ₁.set i (.gen k ρ₁ .done)
  | some v => ∃ v' l kk c' p fs', e = .susp v' false l kk c' p fs' ∧ fs'.any Frame.guarded = false ∧ VRel c G' φ' v v' ∧ ∃ ρ₁ it₁, σ' = σ₁.set i (.gen k ρ₁ (.susp it₁)) ∧ GEnv c G' φ' k ρ₁ env s'.heap ∧ ItRaw c G' φ' s'.heap it₁ it' pr ∧
      OwnOk c G' φ' (env.locals :: pr) s' ∧ GSusp c k env it' e.genState
end
section
variable {P : PI} {d : Nat} {ρ ρ₁ : Vars} {σ σ₁ σ₂ σ₃ σ' : St} {v : AVal}
end
section
variable {c : Cx} {P : PI} {n d : Nat} {A : Around} {env : Env} {kd : Kinds} {G G' : Imm} {φ φ' : List Loc} {s s' : Shared}
end
end Mini
namespace Mini
open PySem PySem.W PySem.W.X PyProof PyProof.Rows PySem.Calls
section
variable {c : Cx} {P : PI} {n d : Nat} {A : Around} {env : Env} {kd : Kinds} {ρ ρ' : Vars} {G G' G₂ : Imm} {φ φ' φ₂ : List Loc} {σ σ' σ₂ : St} {s s' s₂ s₃ : Shared} {v : AVal}
end
section
variable {P : PI} {d : Nat} {ρ ρ₁ : Vars} {σ σ₁ σ₂ σ₃ σ' : St} {v : AVal}
end
end Mini
namespace Mini
open PySem PySem.W PySem.W.X PyProof PyProof.Rows PySem.Calls
structure EnvMk (c : Cx) (env : Env) (nm : Str) (q : Addr × Addr) : Prop where
  mem : q ∈ c.tabs
  code : env.code = .ref q.1
  hd : CodeHd c.B q.1 q.2
  tq : c.tq q.2 = env.qual ++ nm
  bi : c.B.BuiltinsAt c.mg q.2
  ng : mainGlobals ≠ q.2
  own : ∀ p ∈ env.cells, env.cells.lookup p.1 = some p.2 → env.kindOf p.1 = some .cell
section
variable {c : Cx} {P : PI} {n d : Nat} {A : Around} {env : Env} {kd : Kinds} {ρ ρ' : Vars} {G G' G₂ : Imm} {φ φ' φ₂ : List Loc} {σ σ' σ₂ : St} {s s' s₂ s₃ : Shared} {v : AVal}
inductive GfnPre (c : Cx) (env : Env) (G : Imm) (φ : List Loc) (s : Shared) (fa : Addr) (v : AVal) : Prop
  | mk (k : GB) (xs : List Str) (vs : List AVal) (vs' : List Value) (o : Obj) (fd : FuncData) (e : v = .gfn k xs vs) (g : G fa = some o) (hd : o.data = .func fd) (hf : GFn G k fd) (hx : ∀ x ∈ xs, k.names.lookup x = some .free) (V : VsRel c G φ vs vs') (hc : ∀ p ∈ fd.closure, ∃ x, env.kindOf x = some .cell ∧ env.cells.lookup x = some p.2)
    (h : ∀ (i : Nat) (x : Str) (v' : Value), xs[i]? = some x → vs'[i]? = some v' → ∃ ca, fd.closure.lookup x = some ca ∧ s.heap.IsCell ca (some v'))
inductive DefEnd (c : Cx) (env : Env) (G : Imm) (φ : List Loc) (s : Shared) (nm : Str) (v : AVal) (σ' : St) (f : Flow) (s' : Shared) : Prop
  | mk (e : f = .next) (G' : Imm) (φ' : List Loc) (R : Rel c G' φ' σ' s') (S : Step c (owns env) G φ s G' φ' s') (O : Owns c G' φ' env s') (m : Str → Option Value) (fa : Addr) (n : s'.heap.Ns env.locals m) (h : m nm = some (.ref fa)) (g : GfnPre c env G' φ' s' fa v)
theorem mapM_some {f : Str → Option AVal} : ∀ {xs : List Str} {vs : List AVal}, xs.mapM f = some vs → ∀ (i : Nat) (x : Str), xs[i]? = some x → ∃ w, f x = some w ∧ vs[i]? = some w
  | [], vs, h, i, x, hx => by simp at hx
  | y :: r, vs, h, i, x, hx => by
    simp only [List.mapM_cons, Option.bind_eq_bind, Option.bind_eq_some_iff] at h
    obtain ⟨w, hw, ws, hws, h⟩ := h
    cases h
    cases i with
    | zero => simp at hx; subst hx; exact ⟨w, hw, rfl⟩
    | succ i => simp at hx; simpa using mapM_some hws i x hx
theorem mapM_len {f : Str → Option AVal} : ∀ {xs : List Str} {vs : List AVal}, xs.mapM f = some vs → vs.length = xs.length
  | [], vs, h => by simp at h; subst h; rfl
  | y :: r, vs, h => by
    simp only [List.mapM_cons, Option.bind_eq_bind, Option.bind_eq_some_iff] at h
    obtain ⟨w, hw, ws, hws, h⟩ := h
    cases h
    simp [mapM_len hws]
theorem cells_of {h : Heap} {xs : List Str} : ∀ {vs : List AVal}, vs.length = xs.length → (∀ (i : Nat) (x : Str), xs[i]? = some x → ∃ w, vs[i]? = some w ∧ ∃ a v', env.cells.lookup x = some a ∧ h.IsCell a (some v') ∧ VRel c G φ w v') →
    ∃ vs', VsRel c G φ vs vs' ∧ ∀ (i : Nat) (x : Str) (v' : Value), xs[i]? = some x → vs'[i]? = some v' → ∃ a, env.cells.lookup x = some a ∧ h.IsCell a (some v') := by
  induction xs with
  | nil =>
    intro vs hl _
    cases vs with
    | nil => exact ⟨[], .nil, fun i x v' hx => by simp at hx⟩
    | cons => cases hl
  | cons y r ih =>
    intro vs hl hall
    cases vs with
    | nil => cases hl
    | cons w ws =>
      obtain ⟨ws', V, hc⟩ := ih (by simpa using hl) (fun i x hx => by simpa using hall (i + 1) x (by simpa using hx))
      obtain ⟨w₀, hw, a, v', e, hI, Vw⟩ := hall 0 y rfl
      simp at hw; subst hw
      refine ⟨v' :: ws', .cons Vw V, fun i x u hx hu => ?_⟩
      cases i with
      | zero => simp at hx hu; subst hx hu; exact ⟨a, e, hI⟩
      | succ i => simp at hx hu; exact hc i x u hx hu
theorem mem_freeNames {names : List (Str × NameKind)} {x : Str} (h : (x, NameKind.free) ∈ names) : x ∈ freeNames names := List.mem_map.mpr ⟨(x, .free), List.mem_filter.mpr ⟨h, rfl⟩, rfl⟩
theorem codeAmong_more {pos : Pos} {a b : Int} {x cv : Value} (l : List Value) (h : TriplesOk l) (hn : codeAmong pos (l ++ [rawInt a, rawInt b, x]) = some cv) : codeAmong pos l = some cv ∨ cv = x := by
  fun_induction TriplesOk l with
  | case1 =>
    simp only [List.nil_append, codeAmong, rawInt] at hn
    split at hn
    · cases hn; exact .inr rfl
    · cases hn
  | case2 a' t b' u y rest ih =>
    simp only [List.cons_append, codeAmong] at hn ⊢
    split at hn
    · rename_i hc; rw [if_pos hc]; exact .inl hn
    · rename_i hc; rw [if_neg hc]; exact ih h hn
  | case3 l h1 h2 => exact h.elim
theorem Rel.tabled {q : Addr × Addr} {c' : Addr} {oc : Obj} {h' : Heap} {tk : Nat} (R : Rel c G φ σ s) (hq : q ∈ c.tabs) (hx : ∀ b o, b ≠ q.2 → s.heap.get? b = some o → h'.get? b = some o) (hc : s.heap.get? c' = none) (hoc : h'.get? c' = some oc) (ht : TabOk c (G.add c' oc) q.2 h') :
    Rel c (G.add c' oc) φ σ { s with heap := h', toks := tk } ∧ Step c [] G φ s (G.add c' oc) φ { s with heap := h', toks := tk } := by
  have hP : q.2 ∈ foot c φ := mem_tab hq
  have sub : Imm.Sub G (G.add c' oc) := Imm.sub_add (R.fresh_G hc)
  have alive : (h'.get? q.2).isSome := by obtain ⟨ps, e, _⟩ := ht; rw [e]; rfl
  have neG : ∀ a o, G a = some o → a ≠ q.2 := fun a o e z => by rw [z, R.gf _ hP] at e; cases e
  refine ⟨⟨fun a o e => sub a o (R.gB a o e), fun a o e => ?_, fun a ha => ?_, R.len, R.nodup, fun a ha => ?_, fun i l o e1 e2 => ?_, R.gn, R.bare, fun q' hq' => ?_⟩, ⟨sub, .refl _, fun _ h => .inl h, fun b o e => ?_, fun b o h1 _ e => hx b o (fun z => h1 (by rw [z]; exact hP)) e, fun b h => ?_, rfl, Nat.le_refl _, fun _ _ _ => rfl, fun _ h => .inl h⟩⟩
  · unfold Imm.add at e
    split at e
    · rename_i z; cases e; rw [z]; exact hoc
    · exact hx a o (neG a o e) (R.gh a o e)
  · unfold Imm.add
    split
    · rename_i z; rw [z] at ha; exact absurd ha (R.fresh_foot hc)
    · exact R.gf a ha
  · by_cases z : a = q.2
    · rw [z]; exact alive
    · obtain ⟨x, hx'⟩ := Option.isSome_iff_exists.mp (R.live a ha)
      show (h'.get? a).isSome
      rw [hx a x z hx']; rfl
  · exact (R.obj i l o e1 e2).frame sub (.refl _) (fun a x ha e => hx a x (fun z => R.tab_away e1 hq (by rw [← z]; exact ha)) e) fun _ _ => rfl
  · by_cases z : q'.2 = q.2
    · rw [z]; exact ht
    · exact (R.tab q' hq').mono sub fun o e => hx _ o z e
  · unfold Imm.add at e
    split at e
    · rename_i z; rw [z]; exact .inr hc
    · exact .inl e
  · by_cases z : b = q.2
    · rw [z]; exact alive
    · obtain ⟨x, hx'⟩ := Option.isSome_iff_exists.mp h
      show (h'.get? b).isSome
      rw [hx b x z hx']; rfl
noncomputable def gfnOk (nm : Str) (scope : Scope) (kd : Kinds) (x src : Str) : Bool :=
  scope.kind == .function && !scope.isCoroutine && scope.isGenerator && scope.names.lookup ("context" : Str) == some .local && scope.names.lookup ("result" : Str) == some .local && scope.names.all (fun p => p.2 != .cell) &&
    (freeNames scope.names).all (fun y => scope.names.lookup y == some .free && kd y == some .cell) && kd nm == some .local && scope.names.lookup x == some .local && scope.names.lookup src == some .local && !(x == ("__debug__" : Str)) && !(src == ("__debug__" : Str))
theorem make_gfn {name : Str} {p1 p2 pos : Pos} {body : List Stmt} {scope : Scope} {src x : Str} {pre : List Stmt} {cond : Expr} {vs : List AVal} {q : Addr × Addr} (hbody : GBody ⟨src, x, pre, cond, ["context", "result"], scope.names⟩ body) (hall : gfnOk name scope kd x src = true) (hvs : (freeNames scope.names).mapM ρ = some vs) (M : EnvMk c env name q) (H : HereX c P d A env kd ρ G φ σ s) :
    wpAny (Md c) A (PySem.exec (.FunctionDef name ⟨[], [⟨"context", .none, p1⟩, ⟨"result", .none, p2⟩], .none, [], [], .none, []⟩ body [] .none [] scope .none name pos) env) (DefEnd c env G φ s name (.gfn ⟨src, x, pre, cond, ["context", "result"], scope.names⟩ (freeNames scope.names) vs) σ) (fun _ _ => False) s := by
  unfold gfnOk at hall
  simp only [Bool.and_eq_true, Bool.not_eq_true', beq_iff_eq, List.all_eq_true, bne_iff_ne, ne_eq] at hall
  obtain ⟨⟨⟨⟨⟨⟨⟨⟨⟨⟨⟨hk, hco⟩, hgen⟩, hl1⟩, hl2⟩, hnc⟩, hfree⟩, hkn⟩, hx⟩, hsrc⟩, hxd0⟩, hsd0⟩ := hall
  have hxd : (x == ("__debug__" : Str)) = false := by simpa using hxd0
  have hsd : (src == ("__debug__" : Str)) = false := by simpa using hsd0
  rw [H.kd] at hkn
  have hfree' : ∀ y ∈ freeNames scope.names, scope.names.lookup y = some .free ∧ env.kindOf y = some .cell := fun y hy => by rw [← H.kd]; exact hfree y hy
  have hcells : ∀ (i : Nat) (y : Str), (freeNames scope.names)[i]? = some y → ∃ w, vs[i]? = some w ∧ ∃ a v', env.cells.lookup y = some a ∧ s.heap.IsCell a (some v') ∧ VRel c G φ w v' := fun i y hy => by
    obtain ⟨w, hw, hi⟩ := mapM_some hvs i y hy
    obtain ⟨a, v', e, hc, r⟩ := H.l.cell y w (.inl (hfree' y (List.mem_of_getElem? hy)).2) hw
    exact ⟨w, hi, a, v', e, hc, r⟩
  have hlook : ∀ p ∈ scope.names, p.2 = .free → (env.cells.lookup p.1).isSome = true := fun p hp hf => by
    have hm : p.1 ∈ freeNames scope.names := mem_freeNames (by rw [← hf]; exact hp)
    obtain ⟨i, hi⟩ := List.getElem?_of_mem hm
    obtain ⟨w, _, a, v', e, _⟩ := hcells i p.1 hi
    rw [e]; rfl
  obtain ⟨vs', V, hcv⟩ := cells_of (mapM_len hvs) hcells
  refine nestDef_K rfl rfl rfl ?_
  have hqual : qualnameIn env name name = c.tq q.2 := by
    unfold qualnameIn
    rw [hkn, M.tq]; rfl
  have hcl := closureFor_eq hlook
  obtain ⟨ps, hP, ht, hhit⟩ := H.r.tab q M.mem
  have hg := H.ok.ok.g.keeps H.r.keepB
  have hhd := M.hd.keeps H.r.keepB
  have hbi := M.bi.keeps H.r.keepB
  have hclos : ∀ p ∈ clos env scope.names [], env.cells.lookup p.1 = some p.2 := fun p hp => (clos_mem _ _ hlook hp).elim (fun z => nomatch z) id
  have hclos' : ∀ p ∈ clos env scope.names [], ∃ y, env.kindOf y = some .cell ∧ env.cells.lookup y = some p.2 := fun p hp => ⟨p.1, M.own p (mem_of_look (hclos p hp)) (hclos p hp), hclos p hp⟩
  have hQP : q.2 ∈ foot c φ := mem_tab M.mem
  -- what is left once the function object stands
  have fin : ∀ {G₁ : Imm} {φ₁ : List Loc} {s₁ : Shared} {fa : Addr} {o : Obj} {doc pm ctv cv : Value}, Rel c G₁ φ₁ σ s₁ → Step c [] G φ s G₁ φ₁ s₁ → G₁ fa = some o → o.data = .func (fnX name (qualnameIn env name name) ⟨[], [⟨"context", .none, p1⟩, ⟨"result", .none, p2⟩], .none, [], [], .none, []⟩ body scope (clos env scope.names []) .none .none doc pm none cv ctv) →
      (∃ ca oc vs t, cv = .ref ca ∧ G₁ ca = some oc ∧ oc.data = .fields vs ∧ vs[1]? = some (.str (c.tq q.2) t)) → wpAny (Md c) A (storeName env name (.ref fa)) (fun _ s'' => DefEnd c env G φ s name (.gfn ⟨src, x, pre, cond, ["context", "result"], scope.names⟩ (freeNames scope.names) vs) σ .next s'') (fun _ _ => False) s₁ := by
    intro G₁ φ₁ s₁ fa o doc pm ctv cv R₁ S₁ hfa hd hcode
    have H₁ := H.step R₁ S₁
    obtain ⟨m, hn, hv⟩ := H₁.l.ns
    refine wpAny_storeName_local hkn hn (fun h' hn' hs => ?_) (by rw [H.l.kind]; rfl)
    have hl : (h'.get? env.locals).isSome := by obtain ⟨o, _, _, e, _⟩ := hn'; rw [e]; rfl
    have S₂ : Step c (owns env) G₁ φ₁ s₁ G₁ φ₁ { s₁ with heap := h', toks := s₁.toks + 1 } := step_own (.head _) hs hl
    refine ⟨rfl, G₁, φ₁, rel_own R₁ (H₁.o.loc _ (.head _)).1 (H₁.o.loc _ (.head _)).2.1 hs, (S₁.weaken fun _ h => nomatch h).trans' S₂, H₁.o.step S₂, _, fa, hn', by simp, ?_⟩
    refine ⟨_, _, vs, vs', o, _, rfl, hfa, hd, ⟨⟨body, rfl, hbody⟩, rfl, hco, hgen, hk, rfl, rfl, hnc, ?_, fun ws hws => ?_, fun y hy => ?_, ?_, ⟨hx, hxd, hsrc, hsd⟩⟩, fun y hy => (hfree' y hy).1, V.mono S₁.g S₁.ext, hclos', fun i y u hy hu => ?_⟩
    · obtain ⟨ca, oc, ws, t, e1, e2, e3, e4⟩ := hcode
      exact ⟨ca, oc, ws, t, e1, e2, e3, by rw [show (fnX name (qualnameIn env name name) _ _ _ _ _ _ _ _ _ _ _).qualname = qualnameIn env name name from rfl, hqual]; exact e4⟩
    · match ws, hws with
      | [w1, w2], _ => first | rfl | exact bind_two w1 w2
    · rcases List.mem_cons.mp hy with rfl | hy
      · exact hl1
      · cases List.mem_singleton.mp hy; exact hl2
    · show [("context" : Str), "result"].Nodup; decide
    · obtain ⟨a, e, oc, ho, hdc⟩ := hcv i y u hy hu
      obtain ⟨a', e'⟩ := Option.isSome_iff_exists.mp (clos_has (env := env) scope.names [] (y := y) (.inl (mem_of_lookup (hfree' y (List.mem_of_getElem? hy)).1)))
      have := clos_from scope.names [] hlook (fun _ z => by cases z) e'
      rw [e] at this; cases this
      refine ⟨a, e', oc, ?_, hdc⟩
      have hne : a ≠ env.locals := H.f.nl _ _ (mem_of_lookup e)
      show h'.get? a = some oc
      rw [hs.2 a hne]
      exact S₁.frame a oc (H.o.cel y a e).1 (fun h => nomatch h) ho
  cases hnf : codeAmong pos ps.toList with
  | some cv =>
    refine makeFunction_hit (cv := cv) hcl H.l.glob hg M.code hhd hP ht hnf hbi fun ctv doc h' tk hk' hsz => ?_
    have R₁ : Rel c G φ σ { s with heap := h', toks := tk } := rel_ext H.r hk'
    have S₁ : Step c [] G φ s G φ { s with heap := h', toks := tk } := step_ext hk'
    refine fin (R₁.pushG _ rfl) (S₁.trans' (step_pushG R₁ _)) (Imm.add_self ..) rfl ?_
    obtain ⟨ca, oc, ws, t, e1, e2, e3, e4⟩ := hhit pos cv hnf
    exact ⟨ca, oc, ws, t, e1, (step_pushG (own := []) R₁ _).g _ _ e2, e3, e4⟩
  | none =>
    refine makeFunction_K hcl H.l.glob hg M.code hhd hP ht hnf M.ng hbi fun c' ctv doc h' tk hx' hge hlt hrec htb => ?_
    obtain ⟨c₂, oc, ws, t, e2, hoc, hd, hv⟩ := hrec
    cases e2
    have hc0 : s.heap.get? c' = none := Heap.get?_none_of_le hge
    rw [hqual] at hv
    obtain ⟨R₁, S₁⟩ := H.r.tabled (tk := tk) M.mem hx' hc0 hoc ⟨_, htb, by simpa using TriplesOk_snoc _ _ _ _ ht, fun pos' cv hcv' => by
      rcases codeAmong_more ps.toList ht (by simpa using hcv') with z | z
      · obtain ⟨ca, o1, ws1, t1, e1, e2, e3, e4⟩ := hhit pos' cv z
        exact ⟨ca, o1, ws1, t1, e1, Imm.sub_add (H.r.fresh_G hc0) _ _ e2, e3, e4⟩
      · exact ⟨c', oc, ws, t, z, Imm.add_self .., hd, hv⟩⟩
    refine fin (R₁.pushG _ rfl) (S₁.trans' (step_pushG R₁ _)) (Imm.add_self ..) rfl ?_
    exact ⟨c', oc, ws, t, rfl, (step_pushG (own := []) R₁ _).g _ _ (Imm.add_self ..), hd, hv⟩
end
section
variable {P : PI} {d : Nat} {kd : Kinds} {ρ ρ₁ ρ' : Vars} {σ σ₁ σ₂ σ' : St} {v : AVal} {p : Pos}
end
end Mini
namespace Mini
open PySem PySem.W PySem.W.X PyProof PyProof.Rows PySem.Calls
section
variable {prog : Program} {w : World} {A : Around} {E : Value → Shared → Prop} {s : Shared}
end
theorem bindAll_get {y : Str} {w : AVal} : ∀ {ps : List Str} {vs : List AVal}, bindAll ps vs y = some w → ∃ i : Nat, ps[i]? = some y ∧ vs[i]? = some w
  | [], _, h => by simp [bindAll] at h
  | _ :: _, [], h => by simp [bindAll] at h
  | p :: ps, v :: vs, h => by
    unfold bindAll at h
    split at h
    · rename_i q; subst q; cases h; exact ⟨0, rfl, rfl⟩
    · obtain ⟨i, h1, h2⟩ := bindAll_get h
      exact ⟨i + 1, by simpa using h1, by simpa using h2⟩
theorem lookup_snoc {α : Type} {y p : Str} {v : α} : ∀ (l : List (Str × α)), (l ++ [(p, v)]).lookup y = match l.lookup y with
    | some w => some w
    | .none => if y = p then some v else none
  | [] => by
    simp only [List.nil_append, List.lookup_cons, List.lookup_nil]
    by_cases q : y = p
    · simp [q]
    · simp [q, beq_eq_false_iff_ne.mpr q]
  | (a, b) :: r => by
    simp only [List.cons_append, List.lookup_cons]
    split
    · rfl
    · exact lookup_snoc r
theorem look_rev {α : Type} {y : Str} {v' : α} : ∀ {ps : List Str} {vs' : List α} {i : Nat}, ps.Nodup → ps[i]? = some y → vs'[i]? = some v' → (ps.zip vs').reverse.lookup y = some v'
  | [], _, _, _, h, _ => by simp at h
  | _ :: _, [], _, _, _, h => by simp at h
  | p :: ps, v :: vs, i, hn, h1, h2 => by
    obtain ⟨hp, hn'⟩ := List.nodup_cons.mp hn
    rw [List.zip_cons_cons, List.reverse_cons, lookup_snoc]
    cases i with
    | zero =>
      simp at h1 h2
      subst h1 h2
      have : (ps.zip vs).reverse.lookup p = none := by
        cases q : (ps.zip vs).reverse.lookup p with
        | none => rfl
        | some w => exact absurd (List.of_mem_zip (List.mem_reverse.mp (mem_of_lookup q))).1 hp
      rw [this]; simp
    | succ i =>
      simp at h1 h2
      rw [look_rev hn' h1 h2]
section
variable {c : Cx} {P : PI} {n d : Nat} {A : Around} {env : Env} {kd : Kinds} {ρ ρ' : Vars} {G G' G₂ : Imm} {φ φ' φ₂ : List Loc} {σ σ' σ₂ : St} {s s' s₂ s₃ : Shared} {v : AVal}
theorem callCls {vs : List AVal} {vs' : List Value} {ρ' : Vars} (h : EvXs P d (fun x => P.init.2.2.lookup x) (bindAll P.init.1 (.ref σ.length :: vs)) P.init.2.1 (σ ++ [.inst []]) .next ρ' σ') (hlen : P.init.1.length = vs.length + 1)
    (ok : COk c P) (ha : GoodA (d + 2) A) (R : Rel c G φ σ s) (V : VsRel c G φ vs vs') : Gives c A G φ s (call (.ref c.C) vs') (.ref σ.length) σ' := by
  obtain ⟨fi, hf, ht, F⟩ := ok.init
  have X := ok.ok.x.keeps R.keepB
  refine wpAny_call ?_
  obtain ⟨h₀, g, dd, t, os⟩ := s
  refine make_core (makes_of X ok.mi) (looks_findIn X hf) (fun self => bind_fn X self ht) (.inl rfl) ?_
  let l : Loc := ⟨h₀.objs.size + 1, [h₀.objs.size], none⟩
  let s₁ : Shared := ⟨(h₀.push emptyDict).push (instObj c.C h₀.objs.size), g, dd, t, os⟩
  have sz : (h₀.push emptyDict).objs.size = h₀.objs.size + 1 := Heap.size_push ..
  have k : ∀ a x, h₀.get? a = some x → s₁.heap.get? a = some x := fun a x e => Heap.get?_push_of_some _ (Heap.get?_push_of_some _ e)
  have e1 : s₁.heap.get? (h₀.objs.size + 1) = some (instObj c.C h₀.objs.size) := by rw [← sz]; exact Heap.get?_push_size _ rfl
  have e2 : s₁.heap.get? h₀.objs.size = some emptyDict := Heap.get?_push_of_some _ (Heap.get?_push_size _ rfl)
  have hn : ∀ a ∈ l.a :: l.ps, h₀.get? a = none := fun a ha => by
    have : h₀.objs.size ≤ a := by
      rcases List.mem_cons.mp ha with rfl | ha
      · exact Nat.le_succ _
      · cases List.mem_singleton.mp ha; exact Nat.le_refl _
    exact Heap.get?_none_of_le this
  have R₁ : Rel c G (φ ++ [l]) (σ ++ [.inst []]) s₁ := R.add k hn (by simp [l]) (fun a ha => by
      rcases List.mem_cons.mp ha with rfl | ha
      · show (s₁.heap.get? (h₀.objs.size + 1)).isSome; rw [e1]; rfl
      · cases List.mem_singleton.mp ha; rw [e2]; rfl) ⟨rfl, h₀.objs.size, [], 0, rfl, e1, e2, rfl, fun x => rfl⟩
  have S₁ : Step c [] G φ ⟨h₀, g, dd, t, os⟩ G (φ ++ [l]) s₁ := step_add k hn rfl
  have hl : (φ ++ [l])[σ.length]? = some l := by rw [← R.len]; simp
  have Vs : VsRel c G (φ ++ [l]) (.ref σ.length :: vs) (.ref (h₀.objs.size + 1) :: vs') := .cons (.ref (l := l) hl) (V.mono S₁.g S₁.ext)
  have hA : GoodA (d + 1) (A.under (.builtin "type.__call__" ⟨.ref c.C :: vs', []⟩)) := by
    refine ⟨ha.hh, ?_, ?_⟩
    · have h1 := ha.depth
      show A.depth + 1 + 4 * (d + 1) < 900
      lia
    · have h1 := ha.units
      show A.units + 1 + 40 * (d + 1) < 9000
      lia
  refine codeAny_mono (callFn (v := .none) (Q := fun v s' => v = .none ∧ GP c G φ ⟨h₀, g, dd, t, os⟩ (.ref σ.length) σ' (.ref (h₀.objs.size + 1)) s') (E := fun _ _ => False) F h (by simp [hlen]) rfl ok hA R₁ Vs fun v' s' G' φ' R' V' S' => ?_) fun r s' hr => ?_
  · (cases V' using VRel.noneE)
    refine ⟨rfl, G', φ', R', ?_, S₁.trans' S'⟩
    obtain ⟨l', e, hla, _⟩ := S'.ext _ _ hl
    have := VRel.ref (c := c) (G := G') e
    rw [hla] at this
    exact this
  · unfold InitBack
    split at hr
    · exact hr
    · exact hr.elim
    · exact hr.elim
theorem vs_of_get : ∀ {us : List AVal} {acc : List Value}, us.length = acc.length → (∀ (i : Nat) u x, us[i]? = some u → acc[i]? = some x → VRel c G φ u x) → VsRel c G φ us acc
  | [], [], _, _ => .nil
  | [], _ :: _, h, _ => by cases h
  | _ :: _, [], h, _ => by cases h
  | u :: us, x :: acc, h, hv => .cons (hv 0 u x rfl rfl) (vs_of_get (by simpa using h) fun i u x h1 h2 => hv (i + 1) u x (by simpa using h1) (by simpa using h2))
theorem keeper_fn {a : Addr} {o : Obj} {fd : FuncData} {h : Heap} {M : Model} (ho : h.get? a = some o) (hd : o.data = .func fd) : Looks M h (keeperOf (.ref a)) Keeper.frame := by
  intro A Q E s k q
  unfold keeperOf
  refine wpAny_bind (wpAny_load (k _ _ ho) ?_)
  rw [hd]
  exact wpAny_pure q
theorem keeper {fv : AVal} {f' : Value} {h : Heap} (ok : COk c P) (R : Rel c G φ σ s) (V : VRel c G φ fv f') (hc : callable fv = true) (hG : ∀ a o, G a = some o → h.get? a = some o) :
    ∃ k, (k = Keeper.frame ∨ k = Keeper.machine ∨ k = Keeper.boundFrame) ∧ Looks (Md c) h (keeperOf f') k := by
  have kB : ∀ b o, c.B.get? b = some o → h.get? b = some o := fun b o e => hG b o (R.gB b o e)
  cases fv with
  | bi id => (cases V using VRel.biE); exact ⟨.machine, .inr (.inl rfl), .now⟩
  | ty id => (cases V using VRel.tyE); exact ⟨.machine, .inr (.inl rfl), .now⟩
  | gfn k xs ws =>
    cases V with
    | gfn e hd => exact ⟨.frame, .inl rfl, keeper_fn (hG _ _ e) hd⟩
  | lam k xs ws =>
    cases V with
    | lam e hd => exact ⟨.frame, .inl rfl, keeper_fn (hG _ _ e) hd⟩
  | cls =>
    (cases V using VRel.clsE)
    have Y := makes_of (M := Md c) (ok.ok.x.keeps kB) ok.mi
    obtain ⟨⟨oc, od, cd, sl, hC, _⟩, _, _, _, _, call, _⟩ := Y
    exact ⟨.machine, .inr (.inl rfl), (Looks.ld (part := none) hC).andThen (call.andThen .now)⟩
  | fn x =>
    cases V using VRel.fnE with
    | fn e =>
      obtain ⟨o, fd, ho, hd⟩ := ok.fo x _ e
      exact ⟨.frame, .inl rfl, keeper_fn (kB _ _ ho) hd⟩
  | _ => cases hc
end
section
variable {P : PI} {d : Nat} {kd : Kinds} {ρ ρ₁ ρ₂ ρ₃ ρ' : Vars} {σ σ₁ σ₂ σ₃ σ' : St} {v a b : AVal} {p : Pos}
theorem c_cls' {ps : List Str} {body : List Stmt} {names : List (Str × NameKind)} {vs : List AVal} (hi : P.init = (ps, body, names)) (h1 : ps.length = vs.length + 1) (h : EvXs P d (fun x => names.lookup x) (bindAll ps (.ref σ.length :: vs)) body (σ ++ [.inst []]) .next ρ' σ') :
    EvC P (d + 2) .cls vs σ (.ref σ.length) σ' := ⟨rfl, fun ok ha R Vf V => by (cases Vf using VRel.clsE); exact callCls (by rw [hi]; exact h) (by rw [hi]; exact h1) ok ha R V⟩
theorem c_lenList {w : AVal} {xs : List AVal} (h1 : listOf? σ w = some xs) (h : xs.length ≤ lim) : EvC P d (.bi "len") [w] σ (.int xs.length) σ := ⟨rfl, fun ok ha R Vf V => by
  (cases Vf using VRel.biE)
  cases V using VsRel.consE with
  | cons hv ht =>
    (cases ht using VsRel.nilE)
    obtain ⟨la, o, items, m, rfl, g, cc, dd, rr⟩ := R.isList hv h1
    refine PyProof.Rows.len_list (items := items.toArray) ⟨_, g, cc, _, dd⟩ (by rw [List.size_toArray, ← rr.length]; unfold lim at h; lia) ?_
    rw [List.size_toArray, ← rr.length]
    exact gives_toks R (.int _ _)⟩
theorem c_range1 {y : Int} : EvC P d (.ty "range") [.int y] σ (.rng 0 y 1) σ := ⟨rfl, fun {c A G φ s f' vs'} ok ha R Vf V => by
  (cases Vf using VRel.tyE)
  cases V using VsRel.consE with
  | cons hv ht =>
    (cases ht using VsRel.nilE); (cases hv using VRel.intE)
    refine PySem.call_range_1 ?_
    have R' := R.toks (s.toks + 1 + 1)
    exact ⟨_, _, R'.pushG _ rfl, .rng _ _ _ (Imm.add_self ..), (step_toks _).trans' (step_pushG R' _)⟩⟩
theorem c_listRange {x y : Int} (hsm' : Builtin.Range.small x y 1 = true) (hz' : (Builtin.Range.rangeSize x y 1).toNat ≤ lim) : EvC P d (.ty "list") [.rng x y 1] σ (.ref σ.length) (σ ++ [.list ((List.range (Builtin.Range.rangeSize x y 1).toNat).map fun (k : Nat) => AVal.int (x + (k : Int)))]) :=
  ⟨rfl, fun {c A G φ s f' vs'} ok ha R Vf V => by
  (cases Vf using VRel.tyE)
  cases V using VsRel.consE with
  | cons hv ht =>
    (cases ht using VsRel.nilE)
    cases hv using VRel.rngE with
    | rng t u w e =>
      have hnn : 0 ≤ Builtin.Range.rangeSize x y 1 := by
        unfold Builtin.Range.rangeSize
        simp only [show (1 : Int) > 0 by decide, if_true, Int.ediv_one]
        split <;> lia
      refine PySem.call_list_range (n := (Builtin.Range.rangeSize x y 1).toNat) ha.hh (R.gh _ _ e) hsm' (by lia) (by unfold lim at hz'; lia) fun h' tk acc' c' hk hS hacc => ?_
      let l : Loc := ⟨s.heap.objs.size, [], none⟩
      have hn : ∀ a ∈ l.a :: l.ps, s.heap.get? a = none := fun a ha => by
        cases List.mem_singleton.mp ha; exact get?_size _
      have hl : (φ ++ [l])[σ.length]? = some l := by rw [← R.len]; simp
      refine ⟨G, φ ++ [l], R.add hk hn (by simp [l]) (fun a ha => ?_) ⟨rfl, rfl, acc'.toList, c', by simpa using hS, vs_of_get ?_ fun i u x h1 h2 => ?_⟩, .ref (l := l) hl, step_add hk hn rfl⟩
      · cases List.mem_singleton.mp ha
        show (h'.get? s.heap.objs.size).isSome
        rw [hS]; rfl
      · simp [hacc.1]
      · obtain ⟨t, rfl⟩ := hacc.2 i x (by simpa using h2)
        simp only [List.getElem?_map, Option.map_eq_some_iff] at h1
        obtain ⟨j, hj, rfl⟩ := h1
        have := (List.getElem?_eq_some_iff.mp hj).2
        simp at this
        subst this
        rw [Int.mul_one]
        exact .int _ _⟩
theorem EvEs.star {es : List Expr} {vs : List AVal} (h : EvEs P d kd ρ es σ vs σ') {env : Env} {pos : Pos} : (backTo pos (starEach es env)).any (·.1) = false := by
  have h1 : (starEach es env).any (·.1) = false := by
    induction h with
    | nil => rfl
    | cons h0 _ _ ih => rw [starEach_cons h0]; simp [ih]
  have e : ∀ (l : List (Bool × Sem Value)), (backTo pos l).any (·.1) = l.any (·.1) := by
    intro l
    unfold backTo
    first
      | (simp [List.any_map, Function.comp_def]; done)
      | (cases l <;> simp [List.any_map, Function.comp_def] <;> rfl)
      | (split <;> simp_all [List.any_map, Function.comp_def])
  rw [e]; exact h1
theorem call_restG {c : Cx} {A : Around} {env : Env} {G₁ : Imm} {φ₁ : List Loc} {s₁ : Shared} {f' : Value} {fv : AVal} {args : List Expr} {vs : List AVal} {pos : Pos} {Q : Value → Shared → Prop} {E : Value → Shared → Prop} (h2 : EvEs P d kd ρ args σ₁ vs σ₂) (h3 : callable fv = true)
    (hc : ∀ {vs' : List Value} {s₂ : Shared} {G₂ : Imm} {φ₂ : List Loc}, Rel c G₂ φ₂ σ₂ s₂ → VRel c G₂ φ₂ fv f' → VsRel c G₂ φ₂ vs vs' → Step c [] G₁ φ₁ s₁ G₂ φ₂ s₂ → wpAny (Md c) A (call f' vs') Q E s₂) (H₁ : Here c P d A env kd ρ G₁ φ₁ σ₁ s₁) (V₁ : VRel c G₁ φ₁ fv f') :
    wpAny (Md c) A (callWith pos f' [] (backTo pos (starEach args env)) []) Q E s₁ := by
  have R₁ := H₁.r
  refine callWith_of (P := fun h => ∀ a o, G₁ a = some o → h.get? a = some o) (by rw [h2.star]; rfl) (fun h hG => keeper H₁.ok R₁ V₁ h3 hG) ?_
  have fin : ∀ {vs' : List Value} {s₂ : Shared} {G₂ : Imm} {φ₂ : List Loc}, Rel c G₂ φ₂ σ₂ s₂ → VsRel c G₂ φ₂ vs vs' → Step c [] G₁ φ₁ s₁ G₂ φ₂ s₂ → (∀ a o, G₁ a = some o → s₂.heap.get? a = some o) ∧
      wpAny (Md c) A (call f' ([] ++ vs')) Q E s₂ := fun R₂ V₂ S₂ =>
    ⟨fun a o e => R₂.gh a o (S₂.g a o e), hc R₂ (V₁.mono S₂.g S₂.ext) V₂ S₂⟩
  have key := h2.run pos H₁
  cases h2 with
  | nil => exact evalArgs_nil3 (fin R₁ .nil (.refl ..))
  | cons h0 _ _ =>
    rw [starEach_cons h0] at key ⊢
    have hb : ∀ (x : Sem Value) (l : List (Bool × Sem Value)), ∃ y rest, backTo pos ((false, x) :: l) = (false, y) :: rest := fun x l => by
      first
        | exact ⟨_, _, rfl⟩
        | (unfold backTo; split <;> first | exact ⟨_, _, rfl⟩ | simp_all)
    obtain ⟨y, rest, hy⟩ := hb _ _
    rw [hy] at key ⊢
    exact evalArgs_plain (noE (wpAny_mono key (fun vs' s₂ ⟨G₂, φ₂, R₂, V₂, S₂⟩ => fin R₂ V₂ S₂) fun _ _ e => e))
theorem call_rest {c : Cx} {A : Around} {env : Env} {G G₁ : Imm} {φ φ₁ : List Loc} {s s₁ : Shared} {f' : Value} {fv : AVal} {args : List Expr} {vs : List AVal} {pos : Pos} (h2 : EvEs P d kd ρ args σ₁ vs σ₂) (h3 : EvC P d fv vs σ₂ v σ') (H₁ : Here c P d A env kd ρ G₁ φ₁ σ₁ s₁) (V₁ : VRel c G₁ φ₁ fv f') (S₁ : Step c [] G φ s G₁ φ₁ s₁) :
    wpAny (Md c) A (callWith pos f' [] (backTo pos (starEach args env)) []) (GP c G φ s v σ') (fun _ _ => False) s₁ :=
  call_restG h2 h3.1 (fun R₂ Vf V₂ S₂ => Gives.after (h3.2 H₁.ok H₁.a R₂ Vf V₂) (S₁.trans' S₂)) H₁ V₁
theorem e_call {f : Str} {fp : Pos} {args : List Expr} {fv : AVal} {vs : List AVal} (h1 : EvE P d kd ρ (.Name f fp) σ fv σ₁) (h2 : EvEs P d kd ρ args σ₁ vs σ₂) (h3 : EvC P d fv vs σ₂ v σ') : EvE P d kd ρ (.Call (.Name f fp) args [] p) σ v σ' := .intro fun H =>
  wpAny_Call_NameR (wpAny_mono (h1.run H) (fun f' s₁ ⟨G₁, φ₁, R₁, V₁, S₁⟩ => call_rest h2 h3 (H.step R₁ S₁) V₁ S₁) fun _ _ e => e)
theorem e_append {o x : Expr} {m : Str} {ap : Pos} {i : Nat} {vs vs₀ : List AVal} (hno : PlainE o) (h0 : (notStar x && ap.endLine == p.line && decide (m = "append")) = true) (h1 : EvE P d kd ρ o σ (.ref i) σ₁) (h4 : σ₁[i]? = some (.list vs₀)) (h2 : EvE P d kd ρ x σ₁ b σ₂)
    (h3 : σ₂[i]? = some (.list vs)) (h5 : vs.length ≤ lim) : EvE P d kd ρ (.Call (.Attribute o m ap) [x] [] p) σ .none (σ₂.set i (.list (vs ++ [b]))) := .intro fun {c A env G φ s} H => by
  simp only [Bool.and_eq_true, decide_eq_true_eq] at h0
  obtain ⟨⟨hst, hline⟩, rfl⟩ := h0
  have hse : starEach [x] env = [(false, PySem.eval x env)] := starEach_cons hst
  refine wpAny_Call_append (by cases hno <;> with_unfolding_all rfl) (by rw [hse]; rfl) hline (by rw [hse]; rfl) (wpAny_mono (h1.run H) (fun a' s₁ ⟨G₁, φ₁, R₁, V₁, S₁⟩ => ?_) fun _ _ e => e)
  have H₁ := H.step R₁ S₁
  cases V₁ using VRel.refE with
  | ref hl =>
    obtain ⟨_, _, items, m, e1, _⟩ := R₁.obj _ _ _ hl h4
    refine ⟨_, _, rfl, ⟨_, m, e1, rfl, rfl, rfl⟩, wpAny_mono (h2.run H₁) (fun b' s₂ ⟨G₂, φ₂, R₂, V₂, S₂⟩ => ?_) fun _ _ e => e⟩
    obtain ⟨l₂, hl₂, hla, _⟩ := S₂.ext _ _ hl
    rw [← hla]
    exact sim_append R₂ hl₂ h3 V₂ h5 fun s' R' S' => ⟨G₂, φ₂, R', .none, (S₁.trans' S₂).trans' S'⟩
end
end Mini
namespace Mini
open PySem PySem.W PySem.W.X PyProof PyProof.Rows PySem.Calls
theorem ghost_get_of {h : Heap} {tabs : List (Addr × Addr)} {b : Addr} {o : Obj} (e : (ghostOf h tabs).get? b = some o) : h.get? b = some o ∧ b ∉ tabs.map (·.2) :=
  ⟨of_hideAll _ e, fun q => by rw [hideAll_none _ q] at e; cases e⟩
theorem rel_start {c : Cx} {s₁ : Shared} (hB : c.B = ghostOf s₁.heap c.tabs) (hT : TabsAt c.tabs s₁.heap) (hnd : (c.tabs.map (·.2)).Nodup) (hg : s₁.gens = #[]) : Rel c (fun a => c.B.get? a) [] [] s₁ where
  gB := fun _ _ e => e
  gh := fun a o e => by rw [hB] at e; exact (ghost_get_of e).1
  gf := fun a ha => by
    cases q : c.B.get? a with
    | none => rfl
    | some o =>
      rw [hB] at q
      refine absurd ?_ (ghost_get_of q).2
      simpa [foot] using ha
  len := rfl
  nodup := by simpa [foot] using hnd
  live := fun a ha => by
    have : a ∈ c.tabs.map (·.2) := by simpa [foot] using ha
    obtain ⟨q, hq, rfl⟩ := List.mem_map.mp this
    rw [(hT q hq).2]; rfl
  obj := fun i l o h => by simp at h
  gn := by simp [gfoot]
  bare := fun x hx => by rw [hg] at hx; simp at hx
  tab := fun q hq => ⟨#[], (hT q hq).2, trivial, fun pos cv h => by cases h⟩
noncomputable def fnCheck (K : Frag) (a : Addr) (ps : List Str) (names : List (Str × NameKind)) : Bool :=
  match K.lookup a with
  | some ⟨_, _, .func fd, _⟩ =>
    (match fd.code with
    | .ref ca => (match K.lookup ca with
      | some ⟨_, _, .fields vs, _⟩ => (match (vs[1]? : Option Value) with
        | some (.str q _) => q == fd.qualname
        | _ => false)
      | _ => false)
    | _ => false) && fd.closure.isEmpty && !fd.scope.isCoroutine && !fd.scope.isGenerator && fd.scope.kind == .function && fd.globals == mainGlobals && fd.builtins == builtinsNs &&
    decide ps.Nodup && ps.all (fun x => names.lookup x == some .local || names.lookup x == some .cell) && names.all (fun p => p.2 != .free) &&
    names.all (fun p => p.2 != .cell || names.lookup p.1 == some .cell)
  | _ => false
noncomputable def fdOf (K : Frag) (a : Addr) : FuncData := match K.lookup a with
  | some ⟨_, _, .func fd, _⟩ => fd
  | _ => default
theorem lookup_cellsFrom_some {x : Str} : ∀ (names : List (Str × NameKind)) (n : Nat) (acc : List (Str × Addr)), ((x, NameKind.cell) ∈ names ∨ (acc.lookup x).isSome = true) → ((cellsFrom n names acc).lookup x).isSome = true
  | [], n, acc, h => by
    rcases h with h | h
    · cases h
    · exact h
  | (y, k) :: r, n, acc, h => by
    unfold cellsFrom
    split
    · rename_i hk
      refine lookup_cellsFrom_some r _ _ ?_
      rcases h with h | h
      · rcases List.mem_cons.mp h with e | h
        · cases e; exact .inr (by rw [List.lookup_cons]; simp)
        · exact .inl h
      · refine .inr ?_
        rw [List.lookup_cons]
        split
        · rfl
        · exact h
    · rename_i hk
      refine lookup_cellsFrom_some r _ _ ?_
      rcases h with h | h
      · rcases List.mem_cons.mp h with e | h
        · cases e; exact absurd rfl hk
        · exact .inl h
      · exact .inr h
theorem mem_cellsFrom {p : Str × Addr} : ∀ (names : List (Str × NameKind)) (n : Nat) (acc : List (Str × Addr)), p ∈ cellsFrom n names acc → p ∈ acc ∨ (p.1, NameKind.cell) ∈ names
  | [], n, acc, h => .inl h
  | (y, k) :: r, n, acc, h => by
    unfold cellsFrom at h
    split at h
    · rename_i hk
      rcases mem_cellsFrom r _ _ h with h | h
      · rcases List.mem_cons.mp h with rfl | h
        · have := eq_of_beq hk
          subst this
          exact .inr (.head _)
        · exact .inl h
      · exact .inr (.tail _ h)
    · rcases mem_cellsFrom r _ _ h with h | h
      · exact .inl h
      · exact .inr (.tail _ h)
theorem fnOk_of {c : Cx} {K : Frag} {a : Addr} {ps : List Str} {body : List Stmt} {names : List (Str × NameKind)} (X : K.In c.B) (h : fnCheck K a ps names = true) (hb : (fdOf K a).body = .stmts body) (hn : (fdOf K a).scope.names = names)
    (bind : ∀ vs', vs'.length = ps.length → bindArgs (fdOf K a) ⟨vs', []⟩ = pure (ps.zip vs')) : FnOk c ⟨a, fdOf K a, body, ps⟩ ps body names := by
  unfold fnCheck at h
  split at h
  · rename_i cl dd fd sl hK
    have hfd : fdOf K a = fd := by unfold fdOf; rw [hK]
    simp only [Bool.and_eq_true] at h
    obtain ⟨⟨⟨⟨⟨⟨⟨⟨⟨⟨h1, h2⟩, h3⟩, h4⟩, h5⟩, h6⟩, h7⟩, h8⟩, h9⟩, h10⟩, h11⟩ := h
    rw [hfd] at hb hn bind ⊢
    split at h1
    · rename_i ca hca
      split at h1
      · rename_i cl' dd' vs sl' hK'
        split at h1
        · rename_i q t hv
          have hq := eq_of_beq h1
          subst hq
          refine ⟨⟨_, X _ _ hK, rfl⟩, ⟨ca, _, vs, t, hca, X _ _ hK', rfl, hv⟩, hb, List.isEmpty_iff.mp h2, hn, by simpa using h3, by simpa using h4, eq_of_beq h5, eq_of_beq h6, eq_of_beq h7, bind, of_decide_eq_true h8, fun x hx => ?_, fun x hx => ?_, fun x hx n => ?_⟩
          · have := List.all_eq_true.mp h9 x hx
            simpa using this
          · have := List.all_eq_true.mp h10 _ (mem_of_lookup hx)
            simp at this
          · exact lookup_cellsFrom_some names n [] (.inl (mem_of_lookup hx))
        · (cases h1)
      · (cases h1)
    · (cases h1)
  · cases h
end Mini
namespace Mini
open PySem PySem.W PySem.W.X PyProof PyProof.Rows PySem.Calls
section
variable {σ σ' : St} {i j : Nat} {o o' x y : AObj}
theorem get_new : (σ ++ [o])[σ.length]? = some o := by simp
theorem get_old (h : σ[i]? = some x) : (σ ++ σ')[i]? = some x := by
  rw [List.getElem?_append_left (List.getElem?_eq_some_iff.mp h).1]; exact h
theorem set_hit (h : σ[i]? = some x) : (σ.set i o)[i]? = some o := by
  rw [List.getElem?_set_self (List.getElem?_eq_some_iff.mp h).1]
theorem set_ne (h : i ≠ j) (h' : σ[j]? = some x) : (σ.set i o)[j]? = some x := by
  rw [List.getElem?_set_ne h]; exact h'
theorem lt_get (h : σ[i]? = some x) : i < σ.length := (List.getElem?_eq_some_iff.mp h).1
theorem lo_ref {vs : List AVal} (h : σ[i]? = some (.list vs)) : listOf? σ (.ref i) = some vs := by simp [listOf?, h]
theorem lo_scr {ns : List Int} : listOf? σ (.scr ns) = some (ns.map .int) := rfl
theorem io_ref {ats : List (Str × AVal)} (h : σ[i]? = some (.inst ats)) : instOf? σ (.ref i) = some ats := by simp [instOf?, h]
theorem mk_rng1 {a b : Int} (h : a ≤ b ∧ -1000000 ≤ a ∧ b ≤ 1000000) : IterR σ (.rng a b 1) (.rng a (b - a) 1) := by
  have hs : Builtin.Range.small a b 1 = true := small_one (by lia) (by lia) (by lia) (by lia)
  have hz : Builtin.Range.rangeSize a b 1 = b - a := by rw [rangeSize_one]; split <;> lia
  rw [← hz]; exact mk_rng hs
theorem lk_name {x : Str} {p : Pos} {it : AIt} : LoopT (.Name x p) it := .name
end
section
variable {ρ : Vars} {x y : Str} {v w : AVal} {r : Option AVal} {kd : Kinds} {xs : List Str} {vs : List AVal}
theorem v_hit : Vars.set ρ x v x = some v := by simp [Vars.set]
theorem v_ne (h : (y == x) = false) (h' : ρ y = r) : Vars.set ρ x v y = r := by simp [Vars.set, beq_eq_false_iff_ne.mp h, h']
theorem b_hit : bindAll (x :: xs) (v :: vs) x = some v := by simp [bindAll]
theorem b_ne (h : (y == x) = false) (h' : bindAll xs vs y = r) : bindAll (x :: xs) (v :: vs) y = r := by simp [bindAll, beq_eq_false_iff_ne.mp h, h']
theorem fv_get (h : (kd x == some .cell || kd x == some .free) = true) (h' : ρ x = r) : freeVars kd ρ x = r := by
  rw [Bool.or_eq_true] at h
  unfold freeVars
  rcases h with h | h
  · rw [eq_of_beq h]; exact h'
  · rw [eq_of_beq h]; exact h'
end
theorem compOk_mono {scope : Scope} {kd : Kinds} {ρ ρ₂ : Vars} {x : Str} (h : compOk scope kd ρ₂ x = true) (hs : ∀ y, (ρ₂ y).isSome = true → (ρ y).isSome = true) : compOk scope kd ρ x = true := by
  unfold compOk at *
  simp only [Bool.and_eq_true, List.all_eq_true, Bool.or_eq_true] at *
  obtain ⟨⟨h1, h2⟩, h3⟩ := h
  refine ⟨⟨h1, fun p hp => ?_⟩, h3⟩
  obtain ⟨⟨a, b⟩, c⟩ := h2 p hp
  refine ⟨⟨a, b⟩, ?_⟩
  rcases c with c | ⟨c, e⟩
  · exact .inl c
  · exact .inr ⟨c, hs _ e⟩
noncomputable def dom (xs : List Str) : Vars := fun y => if xs.contains y then some .none else none
theorem dom_nil {ρ : Vars} : ∀ y, (dom [] y).isSome = true → (ρ y).isSome = true := fun y h => by simp [dom] at h
theorem dom_cons {ρ : Vars} {x : Str} {xs : List Str} {v : AVal} (h : ρ x = some v) (h' : ∀ y, (dom xs y).isSome = true → (ρ y).isSome = true) : ∀ y, (dom (x :: xs) y).isSome = true → (ρ y).isSome = true := fun y hy => by
  by_cases q : y = x
  · subst q; rw [h]; rfl
  · refine h' y ?_
    unfold dom at *
    simpa [q] using hy
section
variable {P : PI} {d : Nat} {kd : Kinds} {ρ : Vars} {σ σ₁ : St} {x : Str} {elt : Expr} {ifs : List Expr} {w : AVal} {vs : List AVal}
theorem filter_all {α : Type} (l : List α) : l.filter (fun _ => true) = l := List.filter_eq_self.mpr fun _ _ => rfl
theorem set_new {σ : St} {o o' : AObj} : (σ ++ [o]).set σ.length o' = σ ++ [o'] := by simp
theorem set_mid {σ τ : St} {o o' : AObj} : (σ ++ [o] ++ τ).set σ.length o' = σ ++ [o'] ++ τ := by
  rw [List.append_assoc, List.append_assoc]
  simp [List.set_append_right]
theorem cm_mapFrom {f : AVal → AVal} {g : AVal → Bool} (hsrc : ∀ l, listOf? (σ₁ ++ [.list l]) w = some vs) (hlen : vs.length ≤ lim) (ht : ∀ v ∈ vs, ∀ l, EvTs P d kd (Vars.set ρ x v) .And ifs (σ₁ ++ [.list l]) (g v) (σ₁ ++ [.list l])) (h : ∀ v ∈ vs, g v = true → ∀ l, EvE P d kd (Vars.set ρ x v) elt (σ₁ ++ [.list l]) (f v) (σ₁ ++ [.list l])) :
    ∀ (rest done : List AVal) (l : List AVal), vs = done ++ rest → l.length ≤ done.length → EvCm P d kd ρ x elt ifs σ₁.length (.seq w done.length) (σ₁ ++ [.list l]) (σ₁ ++ [.list (l ++ (rest.filter g).map f)])
  | [], done, l, hv, hl => by
    subst hv
    simpa using cm_end (n_seqEnd (hsrc l) (by simp))
  | v :: rest, done, l, hv, hl => by
    have hm : v ∈ vs := by rw [hv]; simp
    have hg : vs[done.length]? = some v := by rw [hv]; simp
    have hlen' : l.length ≤ lim := by rw [hv] at hlen; simp at hlen; lia
    cases q : g v with
    | true =>
      have ih := cm_mapFrom hsrc hlen ht h rest (done ++ [v]) (l ++ [f v]) (by simpa using hv) (by simp; lia)
      refine cm_take (n_seq (hsrc l) hg) (by rw [← q]; exact ht v hm l) (h v hm q l) get_new hlen' ?_
      rw [set_new]
      simpa [q] using ih
    | false =>
      have ih := cm_mapFrom hsrc hlen ht h rest (done ++ [v]) l (by simpa using hv) (by simp; lia)
      refine cm_skip (n_seq (hsrc l) hg) (by rw [← q]; exact ht v hm l) ?_
      simpa [q] using ih
theorem cm_filter {f : AVal → AVal} {g : AVal → Bool} (hsrc : ∀ l, listOf? (σ₁ ++ [.list l]) w = some vs) (hlen : vs.length ≤ lim) (ht : ∀ v ∈ vs, ∀ l, EvTs P d kd (Vars.set ρ x v) .And ifs (σ₁ ++ [.list l]) (g v) (σ₁ ++ [.list l])) (h : ∀ v ∈ vs, g v = true → ∀ l, EvE P d kd (Vars.set ρ x v) elt (σ₁ ++ [.list l]) (f v) (σ₁ ++ [.list l])) :
    EvCm P d kd ρ x elt ifs σ₁.length (.seq w 0) (σ₁ ++ [.list []]) (σ₁ ++ [.list ((vs.filter g).map f)]) := by
  have := cm_mapFrom (kd := kd) (ρ := ρ) (x := x) hsrc hlen ht h vs [] [] rfl (Nat.le_refl _)
  simpa using this
theorem cm_rngFrom {f : Nat → AVal} {g : Nat → Bool} {s : Int} (a₀ : Int) (n₀ : Nat) (hlen : n₀ ≤ lim) (ht : ∀ i : Nat, i < n₀ → ∀ l, EvTs P d kd (Vars.set ρ x (.int (a₀ + i * s))) .And ifs (σ₁ ++ [.list l]) (g i) (σ₁ ++ [.list l])) (h : ∀ i : Nat, i < n₀ → g i = true → ∀ l, EvE P d kd (Vars.set ρ x (.int (a₀ + i * s))) elt (σ₁ ++ [.list l]) (f i) (σ₁ ++ [.list l])) :
    ∀ (n k : Nat) (l : List AVal), k + n = n₀ → l.length ≤ k → EvCm P d kd ρ x elt ifs σ₁.length (.rng (a₀ + k * s) n s) (σ₁ ++ [.list l]) (σ₁ ++ [.list (l ++ ((List.range' k n).filter g).map f)])
  | 0, k, l, hk, hl => by simpa using cm_end (n_rngEnd (by decide))
  | n + 1, k, l, hk, hl => by
    have e1 : a₀ + (k : Int) * s + s = a₀ + ((k + 1 : Nat) : Int) * s := by rw [Int.natCast_add, Int.add_mul]; simp [Int.add_assoc]
    have e2 : (((n + 1 : Nat) : Int) - 1) = n := by lia
    cases q : g k with
    | true =>
      have ih := cm_rngFrom a₀ n₀ hlen ht h n (k + 1) (l ++ [f k]) (by lia) (by simp; lia)
      refine cm_take (n_rng (by lia)) (by rw [← q]; exact ht k (by lia) l) (h k (by lia) q l) get_new (by lia) ?_
      rw [set_new, e1, e2, List.range'_succ]
      simpa [q] using ih
    | false =>
      have ih := cm_rngFrom a₀ n₀ hlen ht h n (k + 1) l (by lia) (by lia)
      refine cm_skip (n_rng (by lia)) (by rw [← q]; exact ht k (by lia) l) ?_
      rw [e1, e2, List.range'_succ]
      simpa [q] using ih
theorem cm_rng {f : Nat → AVal} {s a₀ : Int} {n₀ : Nat} (hlen : n₀ ≤ lim) (h : ∀ i : Nat, i < n₀ → ∀ l, EvE P d kd (Vars.set ρ x (.int (a₀ + i * s))) elt (σ₁ ++ [.list l]) (f i) (σ₁ ++ [.list l])) :
    EvCm P d kd ρ x elt [] σ₁.length (.rng a₀ n₀ s) (σ₁ ++ [.list []]) (σ₁ ++ [.list ((List.range n₀).map f)]) := by
  have := cm_rngFrom (kd := kd) (ρ := ρ) (x := x) (ifs := []) (g := fun _ => true) (s := s) a₀ n₀ hlen (fun i hi l => ts_nil) (fun i hi _ l => h i hi l) n₀ 0 [] (by lia) (Nat.le_refl _)
  rw [filter_all] at this
  simpa [List.range_eq_range'] using this
end
end Mini
open PySem PySem.W PyProof.Rows
namespace Mini
noncomputable def AllP {α : Type} (p : Str → α → Prop) : List (Str × α) → Prop
  | [] => True
  | q :: r => p q.1 q.2 ∧ AllP p r
theorem AllP.look {α : Type} {p : Str → α → Prop} {x : Str} {v : α} : ∀ {l : List (Str × α)}, AllP p l → l.lookup x = some v → p x v
  | [], _, h => nomatch h
  | q :: r, h, e => by
    rw [List.lookup_cons] at e
    split at e
    · rename_i he
      cases e
      rw [eq_of_beq he]; exact h.1
    · exact AllP.look h.2 e
noncomputable def GOk (c : Cx) (x : Str) (v : AVal) : Prop := ∃ v', (c.mg x = some v' ∨ (c.mg x = none ∧ c.mb x = some v')) ∧ ∀ G φ, VRel c G φ v v'
noncomputable def BOk (c : Cx) : Prop := c.K.In c.B ∧ c.B.Ns mainGlobals c.mg ∧ ∀ x : Str, x ≠ "__name__" → c.mb x = bootBuiltins x
section
variable {c : Cx} {x : Str} (O : BOk c)
include O
theorem gk_fn {f : Fn} (h1 : nsIn c.K mainGlobals x = some (some (.ref f.addr))) (h2 : c.fns x = some f) : GOk c x (.fn x) :=
  ⟨.ref f.addr, .inl (mg_of O.1 O.2.1 h1), fun _ _ => VRel.fn h2⟩
theorem gk_cls (h1 : nsIn c.K mainGlobals x = some (some (.ref c.C))) : GOk c x .cls := ⟨_, .inl (mg_of O.1 O.2.1 h1), fun _ _ => .cls⟩
theorem gk_bi {n : String} (h1 : nsIn c.K mainGlobals x = some none) (h2 : (x == ("__name__" : Str)) = false) (h3 : bootBuiltins x = some (.builtin n)) : GOk c x (.bi n) :=
  ⟨.builtin n, .inr ⟨mg_none_of O.1 O.2.1 h1, (O.2.2 x (by simpa using h2)).trans h3⟩, fun _ _ => .bi _⟩
theorem gk_ty {n : String} (h1 : nsIn c.K mainGlobals x = some none) (h2 : (x == ("__name__" : Str)) = false) (h3 : bootBuiltins x = some (.type n)) : GOk c x (.ty n) :=
  ⟨.type n, .inr ⟨mg_none_of O.1 O.2.1 h1, (O.2.2 x (by simpa using h2)).trans h3⟩, fun _ _ => .ty _⟩
end
section
variable {fd : FuncData} {ps : List Str}
theorem ar1 (h0 : ps.length = 1) (h : ∀ a, bindArgs fd ⟨[a], []⟩ = pure (ps.zip [a])) (vs' : List Value) (hl : vs'.length = ps.length) : bindArgs fd ⟨vs', []⟩ = pure (ps.zip vs') := by
  rw [h0] at hl; obtain ⟨a, rfl⟩ := List.length_eq_one_iff.mp hl; exact h a
theorem len_succ {vs' : List Value} {n : Nat} (h : vs'.length = n + 1) : ∃ a r, vs' = a :: r ∧ r.length = n := by
  cases vs' with
  | nil => cases h
  | cons a r => exact ⟨a, r, rfl, by simpa using h⟩
theorem ar2 (h0 : ps.length = 2) (h : ∀ a b, bindArgs fd ⟨[a, b], []⟩ = pure (ps.zip [a, b])) (vs' : List Value) (hl : vs'.length = ps.length) : bindArgs fd ⟨vs', []⟩ = pure (ps.zip vs') := by
  rw [h0] at hl; obtain ⟨a, r, rfl, h1⟩ := len_succ hl; obtain ⟨b, rfl⟩ := List.length_eq_one_iff.mp h1; exact h a b
end
theorem mk_of {c : Cx} {h : Heap} {q : Addr × Addr} {f : Fn} {nm : Str} {p : Program} {loose : List Str} {mean : ExcName → Option Value} (hB : c.B = ghostOf h c.tabs) (hT : TabsAt c.tabs h) (T : Top p loose mean c.mg c.mb h) (hq : q ∈ c.tabs)
    (hcode : f.fd.code = .ref q.1) (htq : c.tq q.2 = f.fd.qualname ++ ".<locals>." ++ nm) (hng : mainGlobals ≠ q.2) (hown : f.fd.scope.names.all (fun p => p.2 != .cell || f.fd.scope.names.lookup p.1 == some .cell) = true) : MkOk c f nm q := by
  refine ⟨hq, hcode, ?_, htq, ?_, hng, fun L p hp hl => ?_⟩
  · rw [hB]
    obtain ⟨o, vs, file, tf, flags, tg, inF, text, tt, e1, r1, r2, r3, r4, r5, r6, r7, r8, hne⟩ := (hT q hq).1
    exact ⟨o, vs, file, tf, flags, tg, inF, text, tt, ghost_get hT e1 (fun q => by rw [q] at r1; cases r1), r1, r2, r3, r4, r5, r6, r7, r8, hne⟩
  · obtain ⟨bm, ob, b1, b2, b3, b4, b5, b6⟩ := T.bmain
    have hbP : bm ≠ q.2 := fun z => by
      have e := (hT q hq).2
      rw [z] at b3
      rw [b3] at e; cases e; cases b4
    have hbG : bm ≠ mainGlobals := fun z => by
      obtain ⟨o, es, ep, e, hd, _⟩ := T.g
      rw [z, e] at b3; cases b3; rw [hd] at b6; cases b6
    exact ⟨bm, ob, b1, b2, hbG, hbP, by rw [hB]; exact ghost_get hT b3 (fun z => by rw [z] at b4; cases b4), b4, b5, b6⟩
  · rcases mem_cellsFrom _ _ _ hp with z | z
    · cases z
    · simpa using List.all_eq_true.mp hown _ z
end Mini
open PySem PySem.W PyProof PyProof.Rows PySem.Calls
namespace Mini
section
variable {c : Cx} {P : PI} {n d : Nat} {A : Around} {env : Env} {kd : Kinds} {ρ ρ' : Vars} {G : Imm} {φ : List Loc} {σ σ' : St} {s s' : Shared} {v : AVal}
theorem Rel.relist {i : Nat} {l : Loc} {vs vs' : List AVal} {items' : List Value} {m' tk : Nat} {h' : Heap} (R : Rel c G φ σ s) (hl : φ[i]? = some l) (ho : σ[i]? = some (.list vs)) (e' : h'.get? l.a = some { cls := .type "list", data := .seq items'.toArray m' }) (hs : Heap.SameBut l.a s.heap h') (V : VsRel c G φ vs' items') :
    Rel c G φ (σ.set i (.list vs')) { s with heap := h', toks := tk } ∧ Step c [] G φ s G φ { s with heap := h', toks := tk } := by
  obtain ⟨p1, p2, items, m, e, rr⟩ := R.obj _ _ _ hl ho
  have ne : ∀ b, b ∉ l.a :: l.ps → b ≠ l.a := fun b hb z => hb (by rw [z]; exact .head _)
  have lv : ∀ b, (s.heap.get? b).isSome → (h'.get? b).isSome := fun b hb => by
    by_cases z : b = l.a
    · rw [z, e']; rfl
    · rw [hs.2 b z]; exact hb
  exact ⟨R.set hl (fun b x hb _ e => (hs.2 b (ne b hb)).trans e) (fun a ha => lv a (R.live a (mem_foot hl ha))) ⟨p1, p2, items', m', e', V⟩, step_set hl (fun b x hb _ e => (hs.2 b (ne b hb)).trans e) lv rfl⟩
end
section
variable {P : PI} {d : Nat} {kd : Kinds} {ρ ρ₁ ρ₂ ρ' : Vars} {σ σ₁ σ₂ σ₃ σ₄ σ' : St} {v a b : AVal} {p : Pos}
inductive PlainM : Expr → Prop
  | plain {e} (h : PlainE e) : PlainM e
  | const {k n p} : PlainM (.Constant k n p)
  | bin {a o b p} : PlainM (.BinOp a o b p)
structure MethR (σ : St) (a : AVal) (m : Str) (id : String) : Prop where
  intro ::
  run : ∀ {c G φ s ov}, Rel c G φ σ s → VRel c G φ a ov → ∃ T, PlainAttrs T ∧ Slot T m id ∧ typeOf (.builtin id) = pure (.type "method_descriptor") ∧ s.TypeIs ov T ∧ (∀ a, ov = .ref a → ∃ ob, s.heap.get? a = some ob ∧ ob.dict = none)
theorem meth_rest {c : Cx} {A : Around} {env : Env} {G G₁ : Imm} {φ φ₁ : List Loc} {s s₁ : Shared} {ov : Value} {id : String} {args : List Expr} {vs : List AVal} {pos : Pos} (h2 : EvEs P d kd ρ args σ₁ vs σ₂) (h3 : EvC P d (.bi id) (a :: vs) σ₂ v σ') (H₁ : Here c P d A env kd ρ G₁ φ₁ σ₁ s₁) (V₁ : VRel c G₁ φ₁ a ov) (S₁ : Step c [] G φ s G₁ φ₁ s₁) :
    wpAny (Md c) A (callWith pos (.builtin id) [ov] (backTo pos (starEach args env)) []) (GP c G φ s v σ') (fun _ _ => False) s₁ := by
  have R₁ := H₁.r
  refine callWith_of (P := fun h => True) (by rw [h2.star]; rfl) (fun h _ => ⟨.machine, .inr (.inl rfl), .now⟩) ?_
  have fin : ∀ {vs' : List Value} {s₂ : Shared} {G₂ : Imm} {φ₂ : List Loc}, Rel c G₂ φ₂ σ₂ s₂ → VsRel c G₂ φ₂ vs vs' → Step c [] G₁ φ₁ s₁ G₂ φ₂ s₂ → True ∧
      wpAny (Md c) A (call (.builtin id) ([ov] ++ vs')) (GP c G φ s v σ') (fun _ _ => False) s₂ := fun R₂ V₂ S₂ =>
    ⟨trivial, Gives.after (h3.2 H₁.ok H₁.a R₂ (.bi id) (.cons (V₁.mono S₂.g S₂.ext) V₂)) (S₁.trans' S₂)⟩
  have key := h2.run pos H₁
  cases h2 with
  | nil => exact evalArgs_nil3 (fin R₁ .nil (.refl ..))
  | cons h0 _ _ =>
    rw [starEach_cons h0] at key ⊢
    have hb : ∀ (x : Sem Value) (l : List (Bool × Sem Value)), ∃ y rest, backTo pos ((false, x) :: l) = (false, y) :: rest := fun x l => ⟨_, _, rfl⟩
    obtain ⟨y, rest, hy⟩ := hb _ _
    rw [hy] at key ⊢
    exact evalArgs_plain (wpAny_mono key (fun vs' s₂ ⟨G₂, φ₂, R₂, V₂, S₂⟩ => fin R₂ V₂ S₂) fun _ _ e => e)
theorem e_meth {o : Expr} {m : Str} {id : String} {ap : Pos} {args : List Expr} {vs : List AVal} (hno : PlainM o) (h0 : (decide (args.length < 30) && ap.endLine == p.line) = true) (h1 : EvE P d kd ρ o σ a σ₁) (ht : MethR σ₁ a m id) (h2 : EvEs P d kd ρ args σ₁ vs σ₂)
    (h3 : EvC P d (.bi id) (a :: vs) σ₂ v σ') : EvE P d kd ρ (.Call (.Attribute o m ap) args [] p) σ v σ' := .intro fun {c A env G φ s} H => by
  rw [Bool.and_eq_true] at h0
  have hs := h2.star (env := env) (pos := p)
  refine wpAny_Call_method_late (trees := backTo p (starEach args env)) (by rcases hno with ⟨⟨⟩⟩ <;> with_unfolding_all rfl) ?_ h0.2 rfl (wpAny_mono (h1.run H) (fun ov s₁ ⟨G₁, φ₁, R₁, V₁, S₁⟩ => ?_) fun _ _ e => e)
  · have e1 : (backTo p (starEach args env)).all (fun x => !x.1) = true := by
      rw [List.all_eq_not_any_not]; simp [hs]
    have e2 : decide (args.length + ([] : List Keyword).length + (if ([] : List Keyword).isEmpty then 0 else 1) < 30) = true := by simpa using h0.1
    rw [e1, e2]; rfl
  · obtain ⟨T, q1, q2, q3, q4, q5⟩ := ht.run R₁ V₁
    exact ⟨T, id, q1, q2, q3, q4, q5, meth_rest h2 h3 (H.step R₁ S₁) V₁ S₁⟩
theorem listMeth {m : Str} {id : String} {i : Nat} {vs : List AVal} (hs : Slot "list" m id) (ht : typeOf (.builtin id) = pure (.type "method_descriptor")) (h : σ[i]? = some (.list vs)) : MethR σ (.ref i) m id := .intro fun R V => by
  cases V using VRel.refE with
  | ref hl =>
    obtain ⟨_, _, items, n, e, _⟩ := R.obj _ _ _ hl h
    exact ⟨"list", F.plainAttrs_list, hs, ht, ⟨_, e, rfl⟩, fun a ha => by cases ha; exact ⟨_, e, rfl⟩⟩
theorem mt_extend {i : Nat} {vs : List AVal} (h : σ[i]? = some (.list vs)) : MethR σ (.ref i) "extend" "list.extend" := listMeth F.slot_list_extend F.type_list_extend h
theorem c_extend {i : Nat} {xs ys : List AVal} {j : Nat} (h1 : σ[i]? = some (.list xs)) (h2 : σ[j]? = some (.list ys)) (h3 : xs.length + ys.length ≤ lim) : EvC P d (.bi "list.extend") [.ref i, .ref j] σ .none (σ.set i (.list (xs ++ ys))) := ⟨rfl, fun {c A G φ s f' vs'} ok ha R Vf V => by
  (cases Vf using VRel.biE)
  cases V using VsRel.consE with
  | cons hv ht =>
    cases ht using VsRel.consE with
    | cons hw ht' =>
      (cases ht' using VsRel.nilE)
      cases hv using VRel.refE with
      | ref hl =>
        obtain ⟨_, _, items, m, e, rr⟩ := R.obj _ _ _ hl h1
        cases hw using VRel.refE with
        | ref hl2 =>
          obtain ⟨_, _, ib, nb, gb, rb⟩ := R.obj _ _ _ hl2 h2
          have hsz : items.toArray.size + ib.toArray.size ≤ sizeLine := lim_le (by rw [List.size_toArray, List.size_toArray, ← rr.length, ← rb.length]; exact h3)
          refine call_meets F.slot_list_extend ⟨_, e, rfl⟩ F.entry_list_extend (F.args_list_extend_2 _ _) (AutoSeq1.list_extend_list_list_0 _ items.toArray m _ ib.toArray nb (extend_door hsz) (Nat.le_trans (Nat.le_add_right _ _) hsz)) ⟨e, gb, ?_⟩
          have ho' : (s.heap.update _ (Obj.mapSeq fun x => x ++ ib.toArray)).get? _ = some _ := Heap.get?_update_self _ e (by rw [mapSeq_app]; rfl)
          rw [mapSeq_app, show items.toArray ++ ib.toArray = (items ++ ib).toArray by simp] at ho'
          obtain ⟨R', S'⟩ := R.relist (tk := s.toks) hl h1 ho' (Heap.SameBut.update ..) (rr.append rb)
          exact ⟨G, φ, R', .none, S'⟩⟩
noncomputable def pickL {α : Type} (xs : List α) (lo hi st : Option Int) : List α :=
  (sliceRange (sliceBounds lo hi st xs.length).1 (sliceBounds lo hi st xs.length).2.1 (sliceBounds lo hi st xs.length).2.2).filterMap (xs[·]?)
theorem VsRel.places {c : Cx} {G : Imm} {φ : List Loc} {vs : List AVal} {items : List Value} (h : VsRel c G φ vs items) : ∀ js : List Nat, VsRel c G φ (js.filterMap (vs[·]?)) (js.filterMap (items[·]?))
  | [] => .nil
  | j :: js => by
    have ih := VsRel.places h js
    cases hn : vs[j]? with
    | some n =>
      obtain ⟨t, hv, V⟩ := h.get hn
      simp only [List.filterMap_cons, hn, hv]
      exact .cons V ih
    | none =>
      simp only [List.filterMap_cons, hn, h.get_none hn]
      exact ih
theorem VsRel.pick {c : Cx} {G : Imm} {φ : List Loc} {vs : List AVal} {items : List Value} (h : VsRel c G φ vs items) (lo hi st : Option Int) : VsRel c G φ (pickL vs lo hi st) (slicePick items.toArray lo hi st).toList := by
  have e : (slicePick items.toArray lo hi st).toList = (sliceRange (sliceBounds lo hi st vs.length).1 (sliceBounds lo hi st vs.length).2.1 (sliceBounds lo hi st vs.length).2.2).filterMap (items[·]?) := by
    simp [slicePick, h.length]
  rw [e]
  exact h.places _
theorem isPart_of {l : Option (Int × Tok)} {i : Option Int} (h : l.map (·.1) = i) : IsPart (partValue l) i := by
  subst h
  cases l with
  | none => exact .none
  | some x => exact .int _ _
theorem e_sliceL {o : Expr} {lo hi st : Option Expr} {l h k : Option Int} {q : Pos} {vs : List AVal} (h1 : EvE P d kd ρ o σ a σ₁) (h2 : EvO P d kd ρ lo σ₁ l σ₂) (h3 : EvO P d kd ρ hi σ₂ h σ₃) (h4 : EvO P d kd ρ st σ₃ k σ₄) (hk : (k == some 0) = false) (h5 : listOf? σ₄ a = some vs) (h6 : vs.length ≤ lim) :
    EvE P d kd ρ (.Subscript o (.Slice lo hi st q) p) σ (.ref σ₄.length) (σ₄ ++ [.list (pickL vs l h k)]) := .intro fun {c A env G φ s} H => by
  refine Subscript_ (wpAny_mono (h1.run H) (fun a' s₁ ⟨G₁, φ₁, R₁, V₁, S₁⟩ => ?_) fun _ _ e => e)
  have H₁ := H.step R₁ S₁
  refine wpAny_Slice (wpAny_mono (h2.run H₁) (fun l' s₂ ⟨G₂, φ₂, pl, R₂, S₂, el, hl⟩ => ?_) fun _ _ e => e)
  have H₂ := H₁.step R₂ S₂
  refine wpAny_mono (h3.run H₂) (fun u' s₃ ⟨G₃, φ₃, pu, R₃, S₃, eu, hu⟩ => ?_) fun _ _ e => e
  have H₃ := H₂.step R₃ S₃
  refine wpAny_mono (h4.run H₃) (fun k' s₄ ⟨G₄, φ₄, pk, R₄, S₄, ek, hk'⟩ => ?_) fun _ _ e => e
  have V₄ := ((V₁.mono S₂.g S₂.ext).mono S₃.g S₃.ext).mono S₄.g S₄.ext
  obtain ⟨la, ob, items, m, rfl, g, cc, dd, rr⟩ := R₄.isList V₄ h5
  subst el eu ek
  have hL : s₄.heap.IsList la items.toArray := ⟨_, g, cc, _, dd⟩
  obtain ⟨ops, hs⟩ := subscripted_any (.Slice lo hi st q) (.ref la) (.ref s₄.heap.objs.size)
  have S5 := step_push (c := c) (own := []) (G := G₄) (φ := φ₄) (s := s₄) { cls := .type "slice", data := .fields #[partValue pl, partValue pu, partValue pk] }
  refine tail_any (T := "list") ⟨_, (hL.push _).choose_spec.1, (hL.push _).choose_spec.2.1⟩ slot_list_getitem.lookup (wpAny_getItem_list_slice (hL.push _) (Heap.IsSliceOf.new ..) (isPart_of hl) (isPart_of hu) (isPart_of hk') (by simpa using hk) ?_ (by rw [List.size_toArray, ← rr.length]; exact lim_le h6)) hs
  obtain ⟨G', φ', R', V', S'⟩ := (R₄.push { cls := .type "slice", data := .fields #[partValue pl, partValue pu, partValue pk] }).newList (rr.pick l h k)
  exact ⟨G', φ', R', V', ((((S₁.trans' S₂).trans' S₃).trans' S₄).trans' S5).trans' S'⟩
end
end Mini
open PySem PySem.W PyProof PyProof.Rows PySem.Calls
namespace Mini
section
variable {P : PI} {d : Nat} {kd : Kinds} {ρ ρ₁ ρ₂ ρ' : Vars} {σ σ₁ σ₂ σ₃ σ₄ σ' : St} {v a b : AVal} {p : Pos}
noncomputable def isIt (x : Int) : Value → Bool
  | .int a _ => a == x
  | _ => false
theorem any_ints {x : Int} : ∀ {items : List Value} {xs : List Int}, IntsAre items xs → items.any (isIt x) = xs.any (· == x)
  | _, _, .nil => rfl
  | _, _, .cons n t h => by simp [List.any_cons, isIt, any_ints h]
theorem ints_mem {y : Value} : ∀ {items : List Value} {xs : List Int}, IntsAre items xs → y ∈ items → ∃ n t, y = .int n t
  | _, _, .nil, h => nomatch h
  | _, _, .cons n t r, h => by
    rcases List.mem_cons.mp h with rfl | h
    · exact ⟨n, t, rfl⟩
    · exact ints_mem r h
theorem c_inI {x : Int} {xs : List Int} {q : Bool} (h1 : listOf? σ b = some (xs.map .int)) (h : xs.any (· == x) = q) : CmpR .In (.int x) b σ q := .intro fun ha R Va Vb k => by
  subst h
  obtain ⟨ab, ob, ib, nb, rfl, gb, cb, db, rb⟩ := R.isList Vb h1
  (cases Va using VRel.intE)
  refine SeqAt.in_listAt (isIt x) ⟨_, gb, cb, _, db⟩ (fun y hy => ?_) (by rw [List.any_toArray, any_ints (ints_of rb)]; exact k _ R (.refl ..))
  obtain ⟨n, t, rfl⟩ := ints_mem (ints_of rb) (by simpa using hy)
  exact SeqAt.EqAt.int_int _ _ _ _
theorem c_ninI {x : Int} {xs : List Int} {q : Bool} (h1 : listOf? σ b = some (xs.map .int)) (h : (!xs.any (· == x)) = q) : CmpR .NotIn (.int x) b σ q := .intro fun ha R Va Vb k => by
  subst h
  obtain ⟨ab, ob, ib, nb, rfl, gb, cb, db, rb⟩ := R.isList Vb h1
  (cases Va using VRel.intE)
  refine SeqAt.notIn_listAt (isIt x) ⟨_, gb, cb, _, db⟩ (fun y hy => ?_) (by rw [List.any_toArray, any_ints (ints_of rb)]; exact k _ R (.refl ..))
  obtain ⟨n, t, rfl⟩ := ints_mem (ints_of rb) (by simpa using hy)
  exact SeqAt.EqAt.int_int _ _ _ _
end
end Mini
open PySem PySem.W PyProof PyProof.Rows PySem.Calls
namespace Mini
section
variable {P : PI} {d : Nat} {kd : Kinds} {ρ ρ₁ ρ₂ ρ' : Vars} {σ σ₁ σ₂ σ₃ σ₄ σ' : St} {v a b : AVal} {p : Pos}
end
end Mini
open PySem PySem.W PyProof PyProof.Rows PySem.Calls
namespace Mini
section
variable {c : Cx} {P : PI} {d : Nat} {A : Around} {kd : Kinds} {ρ ρ' : Vars} {G : Imm} {φ : List Loc} {σ σ' : St} {s : Shared} {v a b : AVal}
end
end Mini
open PySem PySem.W PyProof PyProof.Rows PySem.Calls
namespace Mini
end Mini
open PySem PySem.W PyProof PyProof.Rows PySem.Calls
namespace Mini
section
variable {P : PI} {d : Nat} {kd : Kinds} {ρ ρ₁ ρ₂ ρ' : Vars} {σ σ₁ σ₂ σ' : St} {x : Str} {elt : Expr}
theorem cm_rngAFrom {f : Nat → AVal} {s : Int} (a₀ : Int) (n₀ : Nat) (hlen : n₀ ≤ lim) (h : ∀ i : Nat, i < n₀ → ∀ l τ, ∃ τ', EvE P d kd (Vars.set ρ x (.int (a₀ + i * s))) elt (σ₁ ++ [.list l] ++ τ) (f i) (σ₁ ++ [.list l] ++ (τ ++ τ'))) :
    ∀ (n k : Nat) (l : List AVal) (τ : St), k + n = n₀ → l.length ≤ k → ∃ τ', EvCm P d kd ρ x elt [] σ₁.length (.rng (a₀ + k * s) n s) (σ₁ ++ [.list l] ++ τ) (σ₁ ++ [.list (l ++ (List.range' k n).map f)] ++ (τ ++ τ'))
  | 0, k, l, τ, hk, hl => ⟨[], by simpa using cm_end (n_rngEnd (by decide))⟩
  | n + 1, k, l, τ, hk, hl => by
    have e1 : a₀ + (k : Int) * s + s = a₀ + ((k + 1 : Nat) : Int) * s := by rw [Int.natCast_add, Int.add_mul]; simp [Int.add_assoc]
    have e2 : (((n + 1 : Nat) : Int) - 1) = n := by lia
    obtain ⟨τ1, h1⟩ := h k (by lia) l τ
    obtain ⟨τ2, h2⟩ := cm_rngAFrom a₀ n₀ hlen h n (k + 1) (l ++ [f k]) (τ ++ τ1) (by lia) (by simp; lia)
    refine ⟨τ1 ++ τ2, cm_take (n_rng (by lia)) ts_nil h1 (get_old get_new) (by lia) ?_⟩
    rw [set_mid, e1, e2, List.range'_succ, List.map_cons]
    have e3 : l ++ f k :: (List.range' (k + 1) n).map f = l ++ [f k] ++ (List.range' (k + 1) n).map f := by simp
    rw [e3, ← List.append_assoc τ]
    exact h2
theorem pickL_map {α β : Type} (f : α → β) (xs : List α) (lo hi st : Option Int) : pickL (xs.map f) lo hi st = (pickL xs lo hi st).map f := by
  unfold pickL
  rw [List.length_map, List.map_filterMap]
  congr 1
  funext i
  rw [List.getElem?_map]
theorem pickL_len {α : Type} (xs : List α) (lo hi st : Option Int) : (pickL xs lo hi st).length ≤ xs.length := by
  have h := slicePick_size_le (xs.map fun _ => Value.none).toArray lo hi st
  have e : (slicePick (xs.map fun _ => Value.none).toArray lo hi st) = (pickL (xs.map fun _ => Value.none) lo hi st).toArray := by
    simp [slicePick, pickL]
  rw [e, pickL_map] at h
  simpa using h
end
end Mini
open PySem PySem.W PyProof PyProof.Rows PySem.Calls
namespace Mini
section
variable {N : Nat} {lt : Nat → Nat → Bool}
end
end Mini
open PySem PySem.W PyProof PyProof.Rows PySem.Calls
namespace Mini
section
variable {prog : Program} {w : World} {A : Around} {E : Value → Shared → Prop} {s : Shared} {vs : List Value} {lt : Nat → Nat → Bool} {κ : SortKind}
end
end Mini
open PySem PySem.W PyProof PyProof.Rows PySem.Calls
namespace Mini
section
end
end Mini
open PySem PySem.W PyProof PyProof.Rows PySem.Calls
namespace Mini
section
variable {prog : Program} {w : World} {A : Around} {E : Value → Shared → Prop} {s : Shared}
end
section
variable {c : Cx} {P : PI} {d : Nat} {A : Around} {kd : Kinds} {ρ ρ' : Vars} {G : Imm} {φ : List Loc} {σ σ' : St} {s : Shared} {v a b : AVal}
end
end Mini
open PySem PySem.W PyProof PyProof.Rows PySem.Calls PySem.Spec PySem.SeqAt
namespace Mini
mutual
inductive Dt (σ : St) : AVal → PyData → Prop
  | none : Dt σ .none .none
  | bool {b : Bool} : Dt σ (.bool b) (.bool b)
  | int {i : Int} : Dt σ (.int i) (.int i)
  | str {x : Str} : Dt σ (.str x) (.str x)
  | tup {vs : List AVal} {ds : List PyData} (h : Dts σ vs ds) : Dt σ (.tup vs) (.tuple ds)
  | list {v : AVal} {vs : List AVal} {ds : List PyData} (e : listOf? σ v = some vs) (h : Dts σ vs ds) : Dt σ v (.list ds)
inductive Dts (σ : St) : List AVal → List PyData → Prop
  | nil : Dts σ [] []
  | cons {v : AVal} {d : PyData} {vs : List AVal} {ds : List PyData} (h : Dt σ v d) (t : Dts σ vs ds) : Dts σ (v :: vs) (d :: ds)
end
section
variable {c : Cx} {P : PI} {d : Nat} {A : Around} {kd : Kinds} {ρ ρ' : Vars} {G : Imm} {φ : List Loc} {σ σ' : St} {s : Shared} {v a b : AVal}
mutual
theorem Dt.reads (R : Rel c G φ σ s) : ∀ {v : AVal} {d : PyData} {v' : Value}, Dt σ v d → VRel c G φ v v' → ∃ as, Reads s.heap v' d as
  | _, _, _, .none, V => by (cases V using VRel.noneE); exact ⟨_, .none⟩
  | _, _, _, .bool, V => by (cases V using VRel.boolE); exact ⟨_, .bool _⟩
  | _, _, _, .int, V => by (cases V using VRel.intE); exact ⟨_, .int _ _⟩
  | _, _, _, .str, V => by (cases V using VRel.strE); exact ⟨_, .str _ _⟩
  | _, _, _, .tup h, V => by
    cases V using VRel.tupE with
    | tup n e r =>
      obtain ⟨as, x⟩ := Dts.reads R h r
      exact ⟨as, .tuple (R.gh _ _ e) rfl rfl (by simpa using x)⟩
  | _, _, _, .list e h, V => by
    obtain ⟨la, o, items, m, rfl, g, cc, dd, rr⟩ := R.isList V e
    obtain ⟨as, x⟩ := Dts.reads R h rr
    exact ⟨_, .list g cc dd (by simpa using x)⟩
theorem Dts.reads (R : Rel c G φ σ s) : ∀ {vs : List AVal} {ds : List PyData} {vs' : List Value}, Dts σ vs ds → VsRel c G φ vs vs' → ∃ as, ReadsAll s.heap vs' ds as
  | _, _, _, .nil, V => by (cases V using VsRel.nilE); exact ⟨_, .nil⟩
  | _, _, _, .cons h t, V => by
    cases V using VsRel.consE with
    | cons hv ht =>
      obtain ⟨a1, x1⟩ := Dt.reads R h hv
      obtain ⟨a2, x2⟩ := Dts.reads R t ht
      exact ⟨_, .cons x1 x2⟩
end
mutual
theorem noMix_self : ∀ {d : PyData}, d.canLay0 = true → noMix d d = true
  | .none, _ => by simp [noMix]
  | .bool _, _ => by simp [noMix]
  | .int _, _ => by simp [noMix]
  | .str _, _ => by simp [noMix]
  | .list xs, h => by simp only [noMix]; exact noMixAll_self (by simpa [PyData.canLay0] using h)
  | .tuple xs, h => by simp only [noMix]; exact noMixAll_self (by simpa [PyData.canLay0] using h)
  | .dict _, h => by simp [PyData.canLay0] at h
theorem noMixAll_self : ∀ {ds : List PyData}, PyData.canLayAll0 ds = true → noMixAll ds ds = true
  | [], _ => by simp [noMixAll]
  | d :: ds, h => by
    simp only [PyData.canLayAll0, Bool.and_eq_true] at h
    simp [noMixAll, noMix_self h.1, noMixAll_self h.2]
end
theorem c_neD {x y : PyData} {q : Bool} (h1 : Dt σ a x) (h2 : Dt σ b y) (s1 : shaped x = true) (s2 : shaped y = true) (hm : noMix x y = true) (h : (!PySem.Spec.same x y) = q) : CmpR .NotEq a b σ q := .intro fun ha R Va Vb k => by
  subst h
  obtain ⟨as, r1⟩ := h1.reads R Va
  obtain ⟨bs, r2⟩ := h2.reads R Vb
  exact ne_dataH_same r1 r2 s1 s2 ha.eq hm (k _ R (.refl ..))
end
end Mini
open PySem PySem.W PySem.W.X PyProof PyProof.Rows PySem.Calls
namespace Mini
noncomputable def lamV (k : LB) (vs : List AVal) (ρf : Vars) : Vars := fun y => match k.names.lookup y with
  | some .free => ρf y
  | _ => bindAll k.params vs y
section
variable {c : Cx} {P : PI} {n d : Nat} {A : Around} {env : Env} {kd : Kinds} {ρ ρ' ρf : Vars} {G G' G₂ : Imm} {φ φ' φ₂ : List Loc} {σ σ' σ₂ : St} {s s' s₂ s₃ : Shared} {v : AVal}
theorem lam_call {k : LB} {fd : FuncData} {fa : Addr} {o : Obj} {vs : List AVal} {vs' : List Value} (hf : LFn G k fd) (e : G fa = some o) (hd : o.data = .func fd)
    (hcl : ∀ y w, k.names.lookup y = some .free → ρf y = some w → ∃ ca w', fd.closure.lookup y = some ca ∧ s.heap.IsCell ca (some w') ∧ VRel c G φ w w') (hcs : ∀ p ∈ fd.closure, p.2 ∉ foot c φ ∧ (s.heap.get? p.2).isSome)
    (hlen : k.params.length = vs.length) (h : EvE P d (fun x => k.names.lookup x) (lamV k vs ρf) k.body σ v σ') (ok : COk c P) (ha : GoodA (d + 1) A) (R : Rel c G φ σ s) (V : VsRel c G φ vs vs') : Gives c A G φ s (call (.ref fa) vs') v σ' := by
  have hcode : s.heap.CodeRec fd.code fd.qualname := by
    obtain ⟨ca, oc, vs, t, e1, e2, e3, e4⟩ := hf.code
    exact ⟨ca, oc, vs, t, e1, R.gh _ _ e2, e3, e4⟩
  have hL : vs'.length = k.params.length := by rw [← V.length, hlen]
  refine wpAny_call (kla_callFunE ha.room (R.gh _ _ e) hd hf.co hf.gen hf.body hcode ?_)
  refine wpAny_of_eq (hf.bind vs' hL) (wpAny_newFunctionEnv (by rw [hf.nm]; exact hf.nocell) (fun x hx' => by rw [hf.nm]; exact hf.pk _ (zip_keys hx')) (fun h' hn hs => ?_) hf.kind)
  have k1 : ∀ b o, s.heap.get? b = some o → h'.get? b = some o := fun b o e => hs.extBut b o (fun z => by rw [z, get?_size] at e; cases e) (Heap.get?_push_of_some _ e)
  refine ⟨(ok.ok.nolimit.keeps R.keepB).keeps k1, ?_⟩
  let env : Env := newEnv fd.scope s.heap.objs.size fd.globals fd.closure (fd.qualname ++ ".<locals>.") (some fa) fd.code none fd.builtins
  have hkd : (fun x => k.names.lookup x) = env.kindOf := funext fun x => by
    show k.names.lookup x = fd.scope.names.lookup x
    rw [hf.nm]
  have S₁ : Step c [] G φ s G φ { s with heap := h', toks := s.toks + (k.params.zip vs').length } := step_ext k1
  have R₁ : Rel c G φ σ { s with heap := h', toks := s.toks + (k.params.zip vs').length } := rel_ext R k1
  have hloc : (h'.get? s.heap.objs.size).isSome := by obtain ⟨o, _, _, e, _⟩ := hn; rw [e]; rfl
  have hkn : ∀ y, env.kindOf y = k.names.lookup y := fun y => by rw [← hkd]
  have L : LocRel c G φ env (lamV k vs ρf) h' := by
    refine ⟨hf.kind, hf.glob, hf.bi, ⟨_, hn, fun y w h1 h2 => ?_⟩, fun y w h1 h2 => ?_⟩
    · rw [hkn] at h1
      unfold lamV at h2
      rw [h1] at h2
      obtain ⟨i, h3, h4⟩ := bindAll_get h2
      obtain ⟨w', h5, Vw⟩ := V.get h4
      exact ⟨w', look_rev hf.nodup h3 h5, Vw⟩
    · rw [hkn] at h1
      have h1' : k.names.lookup y = some .free := by
        rcases h1 with z | z
        · exact absurd rfl (hf.nocell _ (mem_of_lookup z))
        · exact z
      unfold lamV at h2
      rw [h1'] at h2
      obtain ⟨ca, w', q1, ⟨oc, q2, q3⟩, q4⟩ := hcl y w h1' h2
      exact ⟨ca, w', q1, ⟨oc, k1 _ _ q2, q3⟩, q4⟩
  have O : Owns c G φ env { s with heap := h', toks := s.toks + (k.params.zip vs').length } := by
    refine ⟨fun b hb => ?_, fun y b hb => ?_⟩
    · cases List.mem_singleton.mp hb
      exact ⟨R.fresh_foot (get?_size _), R.fresh_G (get?_size _), hloc⟩
    · obtain ⟨z1, z2⟩ := hcs _ (mem_of_look hb)
      refine ⟨z1, S₁.keep _ z2, fun hy => ?_⟩
      rw [hkn] at hy
      exact absurd rfl (hf.nocell _ (mem_of_lookup hy))
  have H : Here c P d (A.deeper env) env (fun x => k.names.lookup x) (lamV k vs ρf) G φ σ { s with heap := h', toks := s.toks + (k.params.zip vs').length } := ⟨ok, ha.deeper env, hkd, R₁, L, O⟩
  refine kla_codeExpr (wpAny_mono (h.run H) (fun v' s₂ ⟨G₂, φ₂, R₂, V₂, S₂⟩ => ?_) fun _ _ e => e.elim)
  exact ⟨G₂, φ₂, R₂, V₂, S₁.trans' S₂⟩
noncomputable def lamOk (scope : Scope) (kd : Kinds) (ps : List Str) : Bool :=
  scope.kind == .function && !scope.isCoroutine && !scope.isGenerator && scope.names.all (fun p => p.2 != .cell) && (freeNames scope.names).all (fun y => scope.names.lookup y == some .free && kd y == some .cell) && ps.all (fun x => scope.names.lookup x == some .local) && decide ps.Nodup
inductive LamEnd (c : Cx) (env : Env) (G : Imm) (φ : List Loc) (s : Shared) (σ : St) (k : LB) (v' : Value) (s' : Shared) : Prop
  | mk (G' : Imm) (fa : Addr) (o : Obj) (fd : FuncData) (e : v' = .ref fa) (R : Rel c G' φ σ s') (S : Step c [] G φ s G' φ s') (g : G' fa = some o) (hd : o.data = .func fd) (hf : LFn G' k fd) (hc : fd.closure = clos env k.names [])
noncomputable def BindOk (params : Arguments) (ps : List Str) : Prop := ∀ fd : FuncData, fd.params = params → fd.defaults = .none → fd.kwdefaults = .none → ∀ vs', vs'.length = ps.length → bindArgs fd ⟨vs', []⟩ = pure (ps.zip vs')
theorem make_lam {params : Arguments} {body : Expr} {scope : Scope} {pos : Pos} {ps : List Str} {q : Addr × Addr} (hdef : ∀ env, defaultsOf params env = ([], [])) (hb : BindOk params ps) (hall : lamOk scope kd ps = true) (hvs : ∀ y ∈ freeNames scope.names, (ρ y).isSome = true) (M : EnvMk c env "<lambda>" q) (H : Here c P d A env kd ρ G φ σ s) :
    wpAny (Md c) A (PySem.eval (.Lambda params body scope pos) env) (LamEnd c env G φ s σ ⟨body, ps, scope.names⟩) (fun _ _ => False) s := by
  unfold lamOk at hall
  simp only [Bool.and_eq_true, Bool.not_eq_true', beq_iff_eq, List.all_eq_true, bne_iff_ne, ne_eq, decide_eq_true_eq] at hall
  obtain ⟨⟨⟨⟨⟨⟨hk, hco⟩, hgen⟩, hnc⟩, hfree⟩, hpk⟩, hnd⟩ := hall
  have hlook : ∀ p ∈ scope.names, p.2 = .free → (env.cells.lookup p.1).isSome = true := fun p hp hf => by
    have hm : p.1 ∈ freeNames scope.names := mem_freeNames (by rw [← hf]; exact hp)
    obtain ⟨w, hw⟩ := Option.isSome_iff_exists.mp (hvs _ hm)
    have hkk := (hfree _ hm).2
    rw [H.kd] at hkk
    obtain ⟨a, v', e, _⟩ := H.l.cell p.1 w (.inl hkk) hw
    rw [e]; rfl
  have hcl := closureFor_eq hlook
  obtain ⟨tb, hP, ht, hhit⟩ := H.r.tab q M.mem
  have hg := H.ok.ok.g.keeps H.r.keepB
  have hhd := M.hd.keeps H.r.keepB
  have hbi := M.bi.keeps H.r.keepB
  have hqual : env.qual ++ "<lambda>" = c.tq q.2 := M.tq.symm
  have fin : ∀ {G₁ : Imm} {s₁ : Shared} {fa : Addr} {o : Obj} {pm ctv cv : Value}, Rel c G₁ φ σ s₁ → Step c [] G φ s G₁ φ s₁ → G₁ fa = some o → o.data = .func (kla_fn "<lambda>" (env.qual ++ "<lambda>") params body scope (clos env scope.names []) pm cv ctv) →
      (∃ ca oc vs t, cv = .ref ca ∧ G₁ ca = some oc ∧ oc.data = .fields vs ∧ vs[1]? = some (.str (c.tq q.2) t)) → LamEnd c env G φ s σ ⟨body, ps, scope.names⟩ (.ref fa) s₁ := by
    intro G₁ s₁ fa o pm ctv cv R₁ S₁ hfa hd hcode
    refine ⟨G₁, fa, o, _, rfl, R₁, S₁, hfa, hd, ⟨rfl, rfl, hco, hgen, hk, rfl, rfl, hnc, ?_, hb _ rfl rfl rfl, hpk, hnd⟩, rfl⟩
    obtain ⟨ca, oc, ws, t, e1, e2, e3, e4⟩ := hcode
    exact ⟨ca, oc, ws, t, e1, e2, e3, by rw [← hqual] at e4; exact e4⟩
  refine kla_eval (hdef env) ?_
  cases hnf : codeAmong pos tb.toList with
  | some cv =>
    refine kla_makeFunctionHit (cv := cv) hcl H.l.glob hg M.code hhd hP ht hnf hbi fun ctv h' tk hk' hsz => ?_
    have R₁ : Rel c G φ σ { s with heap := h', toks := tk } := rel_ext H.r hk'
    have S₁ : Step c [] G φ s G φ { s with heap := h', toks := tk } := step_ext hk'
    refine fin (R₁.pushG _ rfl) (S₁.trans' (step_pushG R₁ _)) (Imm.add_self ..) rfl ?_
    obtain ⟨ca, oc, ws, t, e1, e2, e3, e4⟩ := hhit pos cv hnf
    exact ⟨ca, oc, ws, t, e1, (step_pushG (own := []) R₁ _).g _ _ e2, e3, e4⟩
  | none =>
    refine kla_makeFunction hcl H.l.glob hg M.code hhd hP ht hnf M.ng hbi fun c' ctv h' tk hx' hge hlt hrec htb => ?_
    obtain ⟨c₂, oc, ws, t, e2, hoc, hd, hv⟩ := hrec
    cases e2
    have hc0 : s.heap.get? c' = none := Heap.get?_none_of_le hge
    rw [hqual] at hv
    obtain ⟨R₁, S₁⟩ := H.r.tabled (tk := tk) M.mem hx' hc0 hoc ⟨_, htb, by simpa using TriplesOk_snoc _ _ _ _ ht, fun pos' cv hcv' => by
      rcases codeAmong_more tb.toList ht (by simpa using hcv') with z | z
      · obtain ⟨ca, o1, ws1, t1, e1, e2, e3, e4⟩ := hhit pos' cv z
        exact ⟨ca, o1, ws1, t1, e1, Imm.sub_add (H.r.fresh_G hc0) _ _ e2, e3, e4⟩
      · exact ⟨c', oc, ws, t, z, Imm.add_self .., hd, hv⟩⟩
    refine fin (R₁.pushG _ rfl) (S₁.trans' (step_pushG R₁ _)) (Imm.add_self ..) rfl ?_
    exact ⟨c', oc, ws, t, rfl, (step_pushG (own := []) R₁ _).g _ _ (Imm.add_self ..), hd, hv⟩
end
theorem bind_args0 : BindOk ⟨[], [], .none, [], [], .none, []⟩ [] := fun fd h1 h2 h3 vs' hl => by
  cases List.length_eq_zero_iff.mp hl
  unfold bindArgs
  rw [h1, h2, h3]
  rfl
end Mini
open PySem PySem.W PySem.W.X PyProof PyProof.Rows PySem.Calls
namespace Mini
section
variable {c : Cx} {P : PI} {n d : Nat} {A : Around} {env : Env} {kd : Kinds} {ρ ρ' ρf : Vars} {G G' : Imm} {φ φ' : List Loc} {σ σ' : St} {s s' : Shared} {v b : AVal}
end
end Mini
open PySem PySem.W PySem.W.X PyProof PyProof.Rows PySem.Calls
namespace Mini
structure EvEL (P : PI) (d : Nat) (nm : Str) (kd : Kinds) (ρ : Vars) (e : Expr) (σ : St) (v : AVal) (σ' : St) : Prop where
  intro ::
  run : ∀ {c A env G φ s q}, EnvMk c env nm q → Here c P d A env kd ρ G φ σ s → Gives c A G φ s (PySem.eval e env) v σ'
structure EvXL (P : PI) (d : Nat) (nm : Str) (kd : Kinds) (ρ : Vars) (st : Stmt) (σ : St) (f : Flw) (ρ' : Vars) (σ' : St) : Prop where
  intro ::
  run : ∀ {c A env G φ s q}, EnvMk c env nm q → HereX c P d A env kd ρ G φ σ s → Does c A env G φ s (PySem.exec st env) f ρ' σ'
structure EvXsL (P : PI) (d : Nat) (nm : Str) (kd : Kinds) (ρ : Vars) (ss : List Stmt) (σ : St) (f : Flw) (ρ' : Vars) (σ' : St) : Prop where
  intro ::
  run : ∀ {c A env G φ s q}, EnvMk c env nm q → HereX c P d A env kd ρ G φ σ s → Does c A env G φ s (PySem.execs ss env) f ρ' σ'
section
variable {P : PI} {d : Nat} {nm : Str} {kd : Kinds} {ρ ρ₁ ρ₂ ρ' : Vars} {σ σ₁ σ₂ σ₃ σ' : St} {v a b : AVal} {p : Pos}
theorem xsl_of {ss : List Stmt} {f : Flw} (h : EvXs P d kd ρ ss σ f ρ' σ') : EvXsL P d nm kd ρ ss σ f ρ' σ' := .intro fun _ H => h.run H
theorem xsl_cons {st : Stmt} {ss : List Stmt} {f : Flw} (h1 : EvX P d kd ρ st σ .next ρ₁ σ₁) (h2 : EvXsL P d nm kd ρ₁ ss σ₁ f ρ' σ') : EvXsL P d nm kd ρ (st :: ss) σ f ρ' σ' := .intro fun M H => by
  refine wpAny_execs_cons (wpAny_mono (h1.run H) (fun f' s₁ ⟨G₁, φ₁, R₁, L₁, F₁, S₁, FR⟩ => ?_) fun _ _ e => e)
  cases FR
  exact Does.after (h2.run M (H.then R₁ L₁ F₁ S₁)) S₁
theorem xsl_consL {st : Stmt} {ss : List Stmt} {f : Flw} (h1 : EvXL P d nm kd ρ st σ .next ρ₁ σ₁) (h2 : EvXsL P d nm kd ρ₁ ss σ₁ f ρ' σ') : EvXsL P d nm kd ρ (st :: ss) σ f ρ' σ' := .intro fun M H => by
  refine wpAny_execs_cons (wpAny_mono (h1.run M H) (fun f' s₁ ⟨G₁, φ₁, R₁, L₁, F₁, S₁, FR⟩ => ?_) fun _ _ e => e)
  cases FR
  exact Does.after (h2.run M (H.then R₁ L₁ F₁ S₁)) S₁
end
section
variable {c : Cx} {P : PI} {n d : Nat} {A : Around} {G : Imm} {φ : List Loc} {σ σ' : St} {s : Shared} {v : AVal}
theorem callFnL {x nm : Str} {f : Fn} {ps : List Str} {body : List Stmt} {names : List (Str × NameKind)} {vs : List AVal} {vs' : List Value} {fl : Flw} {ρ' : Vars} (F : FnOk c f ps body names) (hm : P.maker x = some nm) (hfx : c.fns x = some f)
    (h : EvXsL P d nm (fun x => names.lookup x) (bindAll ps vs) body σ fl ρ' σ') (hlen : ps.length = vs.length) (hfl : retOf fl = some v)
    (ok : COk c P) (ha : GoodA (d + 1) A) (R : Rel c G φ σ s) (V : VsRel c G φ vs vs') {Q : Value → Shared → Prop} {E : Value → Shared → Prop} (q : ∀ v' s' G' φ', Rel c G' φ' σ' s' → VRel c G' φ' v v' → Step c [] G φ s G' φ' s' → Q v' s') :
    codeAny (Md c) A (.call (.ref f.addr) ⟨vs', []⟩) (fun r s' => match r with | .ok (.ret v) => Q v s' | .ok _ => False | .error e => E e s') s := by
  obtain ⟨tb, M⟩ := ok.maker x nm f hm hfx
  refine fn_enter F hlen ok ha R V fun env s₁ G₁ he H S fresh => ?_
  have hM : EnvMk c env nm tb := by
    subst he
    exact ⟨M.mem, M.code, M.hd, M.tq, M.bi, M.ng, fun p hp hl => M.own _ p hp hl⟩
  refine wpAny_mono (h.run hM H) (fun f' s₂ ⟨G₂, φ₂, R₂, _, _, S₂, FR⟩ => ?_) fun _ _ e => e
  have SS : Step c [] G φ s G₂ φ₂ s₂ := S.trans S₂ fun b hb => .inr (fresh b hb)
  cases FR with
  | next => cases hfl; exact q _ _ _ _ R₂ .none SS
  | ret hv => cases hfl; exact q _ _ _ _ R₂ hv SS
  | brk => cases hfl
  | cont => cases hfl
end
end Mini
open PySem PySem.W PySem.W.X PyProof PyProof.Rows PySem.Calls
namespace Mini
end Mini
open PySem PySem.W PySem.W.X PyProof PyProof.Rows PySem.Calls
namespace Mini
section
variable {c : Cx} {P : PI} {d : Nat} {A : Around} {kd : Kinds} {ρ ρ' : Vars} {G : Imm} {φ : List Loc} {σ σ' : St} {s : Shared} {v a b : AVal}
theorem it_last {w : AVal} {vs : List AVal} (h1 : listOf? σ v = some (vs ++ [w])) (hl : vs.length ≤ lim) : ItemR σ v (.int (-1)) w := .intro fun {c A G φ s a' b' x i Q E} R Va Vb q => by
  cases Vb using VRel.intE with
  | int tk =>
    obtain ⟨la, o, items, m, rfl, g, cc, dd, rr⟩ := R.isList Va h1
    obtain ⟨v', hv', V'⟩ := rr.get (i := vs.length) (v := w) (by simp)
    have hz := rr.length
    simp only [List.length_append, List.length_cons, List.length_nil] at hz
    obtain ⟨ops, hs⟩ := subscripted_any i (.ref la) (.int (-1) tk)
    exact tail_any (T := "list") ⟨_, g, cc⟩ slot_list_getitem.lookup (wpAny_getItem_list_neg (items := items.toArray) ⟨_, g, cc, _, dd⟩ (by decide) (by rw [List.size_toArray]; lia) (by decide) (by
      have : ((-1 : Int) + (items.toArray.size : Int)).toNat = vs.length := by rw [List.size_toArray]; lia
      rw [this]; simpa using hv') (q _ _ R (.refl ..) V')) hs
section
variable {prog : Program} {w : World} {E : Value → Shared → Prop}
end
end
end Mini
open PySem PySem.W PySem.W.X PyProof PyProof.Rows PySem.Calls
namespace Mini
section
variable {prog : Program} {w : World} {K : Type} [DecidableEq K] {knd : KeyKind prog w K} {A : Around} {E : Value → Shared → Prop} {s : Shared}
theorem dictAt_new (h : Heap) : (h.push { cls := .type "dict", data := .dict #[] }).DictAt knd h.objs.size [] ([] : List (K × Value)).length :=
  ⟨_, #[], Heap.get?_push_size _ rfl, ⟨rfl, rfl, rfl⟩, rfl, fun _ he => (by simp at he), Pairs.nil, List.nodup_nil⟩
theorem set_at {d : Addr} {kvs : List (K × Value)} {k : K} {key v : Value} {Q : Unit → Shared → Prop} (hkey : knd.is k key = true) (hm : s.heap.DictAt knd d kvs kvs.length)
    (hQ : ∀ h', h'.DictAt knd d (stored kvs k v) (stored kvs k v).length → Heap.SameBut d s.heap h' → Q () { s with heap := h', toks := s.toks + 1 }) (hsz : kvs.length ≤ sizeLine) :
    wpAny (model prog w) A (setItem (.ref d) key v) Q E s := by
  have hT := hm.dictOf.typeIs
  obtain ⟨o, es, ho, hc, hd, hk, hp, hn⟩ := hm
  have hlen : es.toList.length = kvs.length := hp.length
  have hes : es.size ≤ sizeLine := by rw [← Array.length_toList, hlen]; exact hsz
  have find : (es.findIdx? fun e => knd.is k e.key) = kvs.findIdx? fun kv => decide (kv.1 = k) := by
    rw [← hp.findIdx k]; obtain ⟨l⟩ := es; simp
  unfold setItem
  try with_reducible refine wpAny_holding ?_
  refine wpAny_bind (wpAny_sequenceKey hT (by decide) ?_)
  refine wpAny_bind (wpAny_callSpecial?_slot (name := Str.ofString "__setitem__") hT slot_dict_setitem (wpAny_call_entry slot_dict_setitem hT entry_dict_setitem ?_ (args_dict_setitem _ _ _)))
  show wpAny _ _ (Builtin.Dict.notOrdered "__setitem__" ⟨[.ref d, key, v], []⟩ >>= _) _ _ s
  refine wpAny_bind (wpAny_notOrdered_dict hT ?_)
  show wpAny _ _ (dictSet d key v >>= _) _ _ s
  refine wpAny_bind ?_
  unfold dictSet
  try with_reducible refine wpAny_holding ?_
  refine wpAny_bind (knd.pyHash hkey ?_)
  unfold dictSetHashed
  try with_reducible refine wpAny_holding ?_
  refine wpAny_bind (wpAny_dictFind_of (s := { s with toks := s.toks + 1 }) hkey ho hd hk ?_)
  cases hi : es.findIdx? fun e => knd.is k e.key with
  | some i =>
    have hst : stored kvs k v = kvs.map fun kv => if kv.1 = k then (kv.1, v) else kv := by rw [stored, if_pos (any_of_findIdx_some (find ▸ hi))]
    refine wpAny_bind (wpAny_rule (wpAny_bind (wpAny_updateDict (s := { s with toks := s.toks + 1 }) ho hd (wpAny_point (wpAny_pure ⟨.none, rfl, wpAny_pure (hQ _ ?_ (Heap.SameBut.update ..))⟩)))))
    rw [hst, List.length_map]
    refine ⟨_, _, Heap.get?_update_self _ ho (Obj.isFreed_of_dict (Obj.data_mapDict hd _)), hc.mapDict _, Obj.data_mapDict hd _, hk.modify _ _, ?_, ?_⟩
    · have hl : (es.toList.findIdx? fun e => knd.is k e.key) = some i := by rw [← hi]; obtain ⟨l⟩ := es; simp
      have := hp.modify hn hl v
      obtain ⟨l⟩ := es
      simpa using this
    · rw [keys_map_store]; exact hn
  | none =>
    have hnot : k ∉ kvs.map (·.1) := not_mem_of_findIdx_none (find ▸ hi)
    have hst : stored kvs k v = kvs ++ [(k, v)] := by
      rw [stored, if_neg]
      rw [List.any_eq_true]
      rintro ⟨kv, hkv, he⟩
      exact hnot (List.mem_map.mpr ⟨kv, hkv, of_decide_eq_true he⟩)
    refine wpAny_bind (wpAny_rule (wpAny_updateDictKeys (hz := hes) (s := { s with toks := s.toks + 1 }) ho hd (wpAny_pure ⟨.none, rfl, wpAny_pure (hQ _ ?_ (Heap.SameBut.update ..))⟩)))
    rw [hst, List.length_append, List.length_singleton]
    refine ⟨_, _, Heap.get?_update_self _ ho (Obj.isFreed_of_dict (Obj.data_mapDictKeys hd _)), hc.mapDictKeys _, Obj.data_mapDictKeys hd _, hk.push hkey _, ?_, ?_⟩
    · have := hp.append hkey (knd.hash k) v
      obtain ⟨l⟩ := es
      simpa using this
    · rw [List.map_append, List.nodup_append]
      refine ⟨hn, by simp, fun a ha b hb e => ?_⟩
      simp only [List.map_cons, List.map_nil, List.mem_singleton] at hb
      subst hb
      exact hnot (e ▸ ha)
end
noncomputable def lookD {K : Type} [DecidableEq K] : List (K × AVal) → K → Option AVal
  | [], _ => none
  | (j, v) :: r, k => if j = k then some v else lookD r k
noncomputable def hasD {K : Type} [DecidableEq K] (kvs : List (K × AVal)) (k : K) : Bool := kvs.any fun kv => decide (kv.1 = k)
noncomputable def putD {K : Type} [DecidableEq K] (kvs : List (K × AVal)) (k : K) (v : AVal) : List (K × AVal) :=
  if hasD kvs k then kvs.map (fun kv => if kv.1 = k then (kv.1, v) else kv) else kvs ++ [(k, v)]
section
variable {K : Type} [DecidableEq K] {c : Cx} {G : Imm} {φ : List Loc}
theorem look_rel {k : K} : ∀ {kvs : List (K × AVal)} {es : List (K × Value)}, es.map (·.1) = kvs.map (·.1) → VsRel c G φ (kvs.map (·.2)) (es.map (·.2)) → (∀ v, lookD kvs k = some v → ∃ v', valueAt es k = some v' ∧ VRel c G φ v v') ∧ (lookD kvs k = none → valueAt es k = none)
  | [], [], _, _ => ⟨fun v h => (by cases h), fun _ => rfl⟩
  | [], e :: r, h, _ => (by simp at h)
  | e :: r, [], h, _ => (by simp at h)
  | (j, v) :: r, (j', v') :: r', h, hv => by
    simp only [List.map_cons, List.cons.injEq] at h
    obtain ⟨rfl, h⟩ := h
    cases hv using VsRel.consE with
    | cons h1 h2 =>
      have ih := look_rel (k := k) h h2
      unfold lookD valueAt
      by_cases e : j' = k
      · rw [if_pos e, List.find?_cons_of_pos (by simpa using e)]
        exact ⟨fun w hw => (by cases hw; exact ⟨_, rfl, h1⟩), fun hw => (by cases hw)⟩
      · rw [if_neg e, List.find?_cons_of_neg (by simpa using e)]
        exact ih
theorem put_keys {α : Type} {k : K} {v : α} (es : List (K × α)) : (es.map fun kv => if kv.1 = k then (kv.1, v) else kv).map (·.1) = es.map (·.1) := by
  rw [List.map_map]
  refine List.map_congr_left fun e _ => ?_
  simp only [Function.comp_apply]
  split <;> rfl
theorem any_keys {α : Type} {k : K} (es : List (K × α)) : (es.any fun kv => decide (kv.1 = k)) = (es.map (·.1)).any fun j => decide (j = k) := by
  rw [List.any_map]; rfl
theorem put_vals {k : K} {v : AVal} {v' : Value} (hv : VRel c G φ v v') : ∀ {kvs : List (K × AVal)} {es : List (K × Value)}, es.map (·.1) = kvs.map (·.1) → VsRel c G φ (kvs.map (·.2)) (es.map (·.2)) →
    VsRel c G φ ((kvs.map fun kv => if kv.1 = k then (kv.1, v) else kv).map (·.2)) ((es.map fun kv => if kv.1 = k then (kv.1, v') else kv).map (·.2))
  | [], [], _, _ => .nil
  | [], e :: r, h, _ => (by simp at h)
  | e :: r, [], h, _ => (by simp at h)
  | (j, w) :: r, (j', w') :: r', h, hw => by
    simp only [List.map_cons, List.cons.injEq] at h
    obtain ⟨rfl, h⟩ := h
    cases hw using VsRel.consE with
    | cons h1 h2 =>
      have ih := put_vals (k := k) hv h h2
      rw [List.map_cons, List.map_cons, List.map_cons, List.map_cons]
      by_cases e : j' = k
      · rw [if_pos e, if_pos e]; exact .cons hv ih
      · rw [if_neg e, if_neg e]; exact .cons h1 ih
theorem put_rel {k : K} {v : AVal} {v' : Value} {kvs : List (K × AVal)} {es : List (K × Value)} (hv : VRel c G φ v v') (h : es.map (·.1) = kvs.map (·.1)) (r : VsRel c G φ (kvs.map (·.2)) (es.map (·.2))) :
    (stored es k v').map (·.1) = (putD kvs k v).map (·.1) ∧ VsRel c G φ ((putD kvs k v).map (·.2)) ((stored es k v').map (·.2)) := by
  have ha : (es.any fun kv => decide (kv.1 = k)) = hasD kvs k := by unfold hasD; rw [any_keys, any_keys, h]
  unfold stored putD
  rw [ha]
  split
  · exact ⟨by rw [put_keys, put_keys, h], put_vals hv h r⟩
  · rw [List.map_append, List.map_append, List.map_append, List.map_append, h]
    exact ⟨rfl, r.append (.cons hv .nil)⟩
end
section
variable {c : Cx} {P : PI} {n d : Nat} {A : Around} {env : Env} {kd : Kinds} {ρ ρ₁ ρ₂ ρ' : Vars} {G : Imm} {φ : List Loc} {σ σ₁ σ₂ σ₃ σ' : St} {s : Shared} {v a b : AVal} {p : Pos}
theorem size_sys (ok : CxOk c) (R : Rel c G φ σ s) : (s.heap.objs.size == sysModules) = false := by
  obtain ⟨o, es, ep, ho, _⟩ := ok.g
  have h := R.keepB _ _ ho
  have hlt := Heap.lt_size h
  have hlt : 3 < s.heap.objs.size := hlt
  exact beq_eq_false_iff_ne.mpr (show s.heap.objs.size ≠ 1 by lia)
theorem int_is {k : Int} {t : Tok} : (intKind c.prog c.w).is k (.int k t) = true := by
  show Value.isInt k (.int k t) = true
  simp [Value.isInt]
theorem e_dict0 : EvE P d kd ρ (.Dict [] [] p) σ (.ref σ.length) (σ ++ [.dict []]) := .intro fun {c A env G φ s} H => by
  refine wpAny_Dict_empty ?_
  have R := H.r
  have hn : ∀ a ∈ (⟨s.heap.objs.size, [], none⟩ : Loc).a :: (⟨s.heap.objs.size, [], none⟩ : Loc).ps, s.heap.get? a = none := fun a ha => by
    rcases List.mem_cons.mp ha with rfl | ha
    · exact get?_size _
    · cases ha
  refine ⟨G, φ ++ [⟨s.heap.objs.size, [], none⟩], R.add (fun a x e => Heap.get?_push_of_some _ e) hn (by simp) (fun a ha => ?_) ⟨rfl, rfl, [], dictAt_new _, rfl, .nil, size_sys H.ok.ok R⟩, ?_, step_add (fun a x e => Heap.get?_push_of_some _ e) hn rfl⟩
  · rcases List.mem_cons.mp ha with rfl | ha
    · rw [Heap.get?_push_size _ rfl]; rfl
    · cases ha
  · refine VRel.ref (l := ⟨s.heap.objs.size, [], none⟩) ?_
    rw [← R.len]; simp
theorem it_dict {i : Nat} {w : AVal} {kvs : List (Int × AVal)} {k : Int} (h1 : σ[i]? = some (.dict kvs)) (h2 : lookD kvs k = some w) : ItemR σ (.ref i) (.int k) w := .intro fun {c A G φ s a' b' x j Q E} R Va Vb q => by
  cases Vb using VRel.intE with
  | int tk =>
    cases Va using VRel.refE with
    | ref hl =>
      obtain ⟨_, _, es, e, hk, r, sm⟩ := R.obj _ _ _ hl h1
      obtain ⟨v', e1, e2⟩ := (look_rel (k := k) hk r).1 w h2
      obtain ⟨ops, hs⟩ := subscripted_any j (.ref _) (.int k tk)
      exact tail_any (T := "dict") e.dictOf.typeIs slot_dict_getitem.lookup (wpAny_getItem_of int_is e.dictOf.mapOf e1 (q _ _ (R.toks _) (step_toks _) e2)) hs
theorem a_itemD {o e : Expr} {q : Pos} {j : Nat} {k : Int} {kvs : List (Int × AVal)} (h1 : EvE P d kd ρ o σ (.ref j) σ₁) (h2 : EvE P d kd ρ e σ₁ (.int k) σ₂) (h3 : σ₂[j]? = some (.dict kvs)) (hk : kvs.length ≤ lim) :
    EvA P d kd ρ (.Subscript o e q) v σ ρ (σ₂.set j (.dict (putD kvs k v))) := ⟨rfl, fun {c A env G φ s v'} H V => by
  rw [assign_Subscript]
  refine wpAny_bind (wpAny_holding (wpAny_mono (h1.run H.toHere) (fun ov s₁ ⟨G₁, φ₁, R₁, V₁, S₁⟩ => wpAny_bind (wpAny_holding (wpAny_mono (h2.run (H.step R₁ S₁).toHere) (fun iv s₂ ⟨G₂, φ₂, R₂, V₂, S₂⟩ => wpAny_bind (wpAny_standAt (wpAny_bind (wpAny_holding ?_)))) fun _ _ e => e))) fun _ _ e => e))
  have H₂ := (H.step R₁ S₁).step R₂ S₂
  have SS := S₁.trans' S₂
  have V₁' := V₁.mono S₂.g S₂.ext
  cases V₂ using VRel.intE with
  | int tk =>
    cases V₁' using VRel.refE with
    | @ref l hl =>
      obtain ⟨p1, p2, es, e, hkk, r, sm⟩ := R₂.obj _ _ _ hl h3
      have hlen : es.length = kvs.length := by have := congrArg List.length hkk; simpa using this
      refine set_at (hsz := by rw [hlen]; exact lim_le hk) int_is e fun h' e' hs => wpAny_release ?_
      have pr := put_rel (k := k) (V.mono SS.g SS.ext) hkk r
      have ne : ∀ b, b ∉ l.a :: l.ps → b ≠ l.a := fun b hb z => hb (by rw [z]; exact .head _)
      have lv : ∀ b, (s₂.heap.get? b).isSome → (h'.get? b).isSome := fun b hb => by
        by_cases z : b = l.a
        · rw [z]
          obtain ⟨o, _, ho, _⟩ := e'
          rw [ho]; rfl
        · rw [hs.2 b z]; exact hb
      have R₃ : Rel c G₂ φ₂ (σ₂.set j (.dict (putD kvs k v))) { s₂ with heap := h', toks := s₂.toks + 1 } := R₂.set hl (fun b x hb _ e => (hs.2 b (ne b hb)).trans e) (fun a ha => lv a (R₂.live a (mem_foot hl ha))) ⟨p1, p2, _, e', pr.1, pr.2, sm⟩
      have S₃ : Step c [] G₂ φ₂ s₂ G₂ φ₂ { s₂ with heap := h', toks := s₂.toks + 1 } := step_set hl (fun b x hb _ e => (hs.2 b (ne b hb)).trans e) lv rfl
      have H₃ := H₂.step R₃ S₃
      exact ⟨G₂, φ₂, R₃, H₃.l, H₃.f, (SS.trans' S₃).weaken (fun _ h => nomatch h), trivial⟩⟩
end
end Mini
open PySem PySem.W PySem.W.X PyProof PyProof.Rows PySem.Calls
namespace Mini
theorem clos_free {env : Env} {p : Str × Addr} : ∀ (l : List (Str × NameKind)) (acc : List (Str × Addr)), p ∈ clos env l acc → p ∈ acc ∨ (p.1, NameKind.free) ∈ l
  | [], acc, h => .inl h
  | (n, k) :: r, acc, h => by
    unfold clos at h
    split at h
    · rename_i hk
      have hk : k = .free := by simpa using hk
      subst hk
      rcases clos_free r _ h with h | h
      · rcases List.mem_cons.mp h with rfl | h
        · exact .inr (.head _)
        · exact .inl h
      · exact .inr (.tail _ h)
    · rcases clos_free r _ h with h | h
      · exact .inl h
      · exact .inr (.tail _ h)
section
variable {P : PI} {d : Nat} {nm : Str} {kd : Kinds} {ρ ρ₁ ρ₂ ρ' : Vars} {σ σ₁ σ₂ σ₃ σ' : St} {v w a b : AVal} {p : Pos}
theorem c_lam {k : LB} {xs : List Str} {ws vs : List AVal} (hlen : k.params.length = vs.length) (h : EvE P d (fun x => k.names.lookup x) (lamV k vs (bindAll xs ws)) k.body σ v σ') : EvC P (d + 1) (.lam k xs ws) vs σ v σ' := ⟨rfl, fun {c A G φ s f' vs'} ok ha R Vf V => by
  cases Vf with
  | lam e hd hf hx hg hc r =>
    refine lam_call (ρf := bindAll xs ws) hf e hd (fun y w hy hw => ?_) (fun p hp => ?_) hlen h ok ha R V
    · obtain ⟨i, h3, h4⟩ := bindAll_get hw
      obtain ⟨w', h5, Vw⟩ := r.get h4
      obtain ⟨ca, oc, q1, q2, q3⟩ := hc i y w' h3 h5
      exact ⟨ca, w', q1, ⟨oc, R.gh _ _ q2, q3⟩, Vw⟩
    · obtain ⟨oc, ho⟩ := Option.isSome_iff_exists.mp (hg p hp)
      exact ⟨fun z => (by rw [R.gf _ z] at ho; cases ho), by rw [R.gh _ _ ho]; rfl⟩⟩
theorem el_lam1 {params : Arguments} {body : Expr} {scope : Scope} {pos : Pos} {ps : List Str} {y : Str} (hdef : ∀ env, defaultsOf params env = ([], [])) (hb : BindOk params ps) (hall : lamOk scope kd ps = true) (hfn : freeNames scope.names = [y]) (hy : ρ y = some w) (hz : P.frz y = true) :
    EvEL P d "<lambda>" kd ρ (.Lambda params body scope pos) σ (.lam ⟨body, ps, scope.names⟩ [y] [w]) σ := .intro fun {c A env G φ s q} M H => by
  refine wpAny_mono (make_lam hdef hb hall (fun z hz' => by rw [hfn] at hz'; cases List.mem_singleton.mp hz'; rw [hy]; rfl) M H) (fun fv s₂ hE => ?_) fun _ _ e => e
  obtain ⟨G₂, fa, o, fd, rfl, R₂, S₂, g, hd, hf, hc⟩ := hE
  have H₂ := H.step R₂ S₂
  have hyf : scope.names.lookup y = some .free ∧ kd y = some .cell := by
    unfold lamOk at hall
    simp only [Bool.and_eq_true, Bool.not_eq_true', beq_iff_eq, List.all_eq_true, bne_iff_ne, ne_eq, decide_eq_true_eq] at hall
    exact hall.1.1.2 y (by rw [hfn]; exact .head _)
  have hk : env.kindOf y = some .cell := by rw [← H.kd]; exact hyf.2
  obtain ⟨a, w', e, ⟨oc, ho, hdc⟩, Vw⟩ := H₂.l.cell y w (.inl hk) hy
  have hG : (G₂ a).isSome = true := by
    have := (H₂.o.cel y a e).2.2 hk
    rw [H.ok.frz, hz, if_pos rfl] at this
    exact this
  obtain ⟨og, hog⟩ := Option.isSome_iff_exists.mp hG
  have hoc : G₂ a = some oc := by
    have := R₂.gh _ _ hog
    rw [this] at ho
    rw [hog, Option.some.inj ho]
  have hlook : ∀ p ∈ scope.names, p.2 = .free → (env.cells.lookup p.1).isSome = true := fun p hp hf' => by
    have hm : p.1 ∈ freeNames scope.names := mem_freeNames (by rw [← hf']; exact hp)
    rw [hfn] at hm
    rw [List.mem_singleton.mp hm, e]; rfl
  have hcl : fd.closure.lookup y = some a := by
    obtain ⟨a', e'⟩ := Option.isSome_iff_exists.mp (clos_has (env := env) scope.names [] (y := y) (.inl (mem_of_lookup hyf.1)))
    have := clos_from scope.names [] hlook (fun _ z => by cases z) e'
    rw [e] at this; cases this
    rw [hc]; exact e'
  refine ⟨G₂, φ, R₂, .lam g hd hf (fun x hx => by cases List.mem_singleton.mp hx; exact hyf.1) (fun p hp => ?_) (fun i x v' h1 h2 => ?_) (.cons Vw .nil), S₂⟩
  · rw [hc] at hp
    have h1 := (clos_free _ _ hp).elim (fun z => nomatch z) id
    have h2 := (clos_mem _ _ hlook hp).elim (fun z => nomatch z) id
    have hm := mem_freeNames h1
    rw [hfn] at hm
    rw [List.mem_singleton.mp hm, e] at h2
    rw [← Option.some.inj h2]
    exact hG
  · cases i with
    | zero =>
      simp at h1 h2
      subst h1 h2
      exact ⟨a, oc, hcl, hoc, hdc⟩
    | succ i => simp at h1
theorem xl_assign {t e : Expr} (h0 : (noSwap kd t e && !isComp e) = true) (h1 : EvEL P d nm kd ρ e σ v σ₁) (h2 : EvA P d kd ρ t v σ₁ ρ' σ') : EvXL P d nm kd ρ (.Assign [t] e p) σ .next ρ' σ' := .intro fun {c A env G φ s q} M H => by
  rw [Bool.and_eq_true, Bool.not_eq_true'] at h0
  refine wpAny_Assign_stores (wpAny_mono (h1.run M H.toHere) (fun v' s₁ ⟨G₁, φ₁, R₁, V₁, S₁⟩ => ?_) fun _ _ e => e) (swaps_no h0.2) (swapped_no (by rw [← H.kd]; exact h0.1))
  rw [assignEach_cons (noSwap_star h0.1)]
  show wpAny _ _ (PySem.assign t env v') _ _ _
  have S₁' := S₁.weaken (own' := owns env) fun _ h => nomatch h
  refine wpAny_mono (h2.2 (H.step R₁ S₁) V₁) (fun _ s₂ q => ?_) fun _ _ e => e
  obtain ⟨G₂, φ₂, R₂, L₂, F₂, S₂, _⟩ := q
  exact ⟨G₂, φ₂, R₂, L₂, F₂, S₁'.trans' S₂, .next⟩
theorem x_assign2 {t t' e : Expr} (h0 : ∀ env, swappedStores [t, t'] e env = pure none) (he : ∀ env, (assignEach [t, t'] env).map (·.2) = [PySem.assign t env, PySem.assign t' env]) (h1 : EvE P d kd ρ e σ v σ₁) (h2 : EvA P d kd ρ t v σ₁ ρ₁ σ₂) (h3 : EvA P d kd ρ₁ t' v σ₂ ρ' σ') : EvX P d kd ρ (.Assign [t, t'] e p) σ .next ρ' σ' := .intro fun {c A env G φ s} H => by
  refine wpAny_Assign_two (wpAny_mono (h1.run H.toHere) (fun v' s₁ ⟨G₁, φ₁, R₁, V₁, S₁⟩ => ?_) fun _ _ e => e) (he env) (h0 env)
  have S₁' := S₁.weaken (own' := owns env) fun _ h => nomatch h
  refine wpAny_mono (h2.2 (H.step R₁ S₁) V₁) (fun _ s₂ q => ?_) fun _ _ e => e
  obtain ⟨G₂, φ₂, R₂, L₂, F₂, S₂, _⟩ := q
  refine wpAny_mono (h3.2 ((H.step R₁ S₁).then R₂ L₂ F₂ S₂) (V₁.mono S₂.g S₂.ext)) (fun _ s₃ q => ?_) fun _ _ e => e
  obtain ⟨G₃, φ₃, R₃, L₃, F₃, S₃, _⟩ := q
  exact ⟨G₃, φ₃, R₃, L₃, F₃, (S₁'.trans' S₂).trans' S₃, .next⟩
theorem e_attrC {o : Expr} {x : Str} {i : Nat} {ats : List (Str × AVal)} (h0 : PlainE o) (h0' : P.clsNone x = true) (h1 : EvE P d kd ρ o σ (.ref i) σ₁) (h2 : σ₁[i]? = some (.inst ats)) (h3 : ats.lookup x = none) : EvE P d kd ρ (.Attribute o x p) σ .none σ₁ := .intro fun {c A env G φ s} H => by
  refine Attribute_any_ (wpAny_mono (h1.run H) (fun a' s₁ ⟨G₁, φ₁, R₁, V₁, S₁⟩ => ?_) fun _ _ e => e) (by
    cases h0 <;> with_unfolding_all rfl)
  cases V₁ using VRel.refE with
  | ref hl =>
    obtain ⟨d, es, n, _, I, _, _, h6⟩ := R₁.instAt hl h2
    have h7 := h6 x
    rw [h3] at h7
    obtain ⟨z1, z2, z3⟩ := H.ok.cn x h0'
    exact get_value (H.ok.ok.x.keeps R₁.keepB) I H.ok.ga (findObj_cls H.ok.hd z1 z2 rfl z3 (by rw [lookIn_dict]; exact h7)) rfl ⟨G₁, φ₁, R₁.toks _, .none, S₁.trans' (step_toks _)⟩
theorem e_callAttr {o : Expr} {x : Str} {i : Nat} {ats : List (Str × AVal)} {ap : Pos} (h0 : PlainE o) (hl : (ap.endLine == p.line) = true) (h0' : (P.attrOk x && P.callAttr x) = true) (h1 : EvE P d kd ρ o σ (.ref i) σ₁) (h2 : σ₁[i]? = some (.inst ats)) (h3 : ats.lookup x = some a) (h4 : EvC P d a [] σ₁ v σ') :
    EvE P d kd ρ (.Call (.Attribute o x ap) [] [] p) σ v σ' := .intro fun {c A env G φ s} H => by
  rw [Bool.and_eq_true] at h0'
  rw [arm_eval_Call, show attributeBase o x env (PySem.eval o env) = PySem.eval o env by cases h0 <;> with_unfolding_all rfl]
  refine wpAny_bind (wpAny_mono (h1.run H) (fun ov s₁ ⟨G₁, φ₁, R₁, V₁, S₁⟩ => ?_) fun _ _ e => e)
  refine wpAny_bind (wpAny_standAt ?_)
  have hform : methodCallForm (([] : List Expr).length + ([] : List Keyword).length) (backTo p (starEach [] env)) (backToKw p (keywordEach [] env)) = true := rfl
  have hpos : methodCallPos true o env ap p = pure p := by unfold methodCallPos; simp [hl]
  unfold methodCall
  rw [hform]
  have H₁ := H.step R₁ S₁
  cases V₁ using VRel.refE with
  | ref hl =>
    obtain ⟨d, es, n, _, I, _, _, h6⟩ := R₁.instAt hl h2
    have h7 := h6 x
    rw [h3] at h7
    obtain ⟨v', e1, e2, e3⟩ := h7
    obtain ⟨_, at_, ha, hn⟩ := H.ok.attr x h0'.1
    obtain ⟨z1, z2⟩ := H.ok.ca x h0'.2
    have X := H.ok.ok.x.keeps R₁.keepB
    refine wpAny_bind (wpAny_holding (method_usual X I H.ok.ga z2 z1 rfl (get_value X I H.ok.ga (findObj_own H.ok.hd ha hn (by rw [lookIn_dict]; exact e1)) e2 ?_)))
    refine wpAny_bind (wpAny_of_eq hpos ?_)
    have R₂ := R₁.toks (s₁.toks + 1)
    have ST := step_toks (c := c) (own := []) (G := G₁) (φ := φ₁) (s := s₁) (s₁.toks + 1)
    exact call_rest (args := []) .nil h4 (H₁.step R₂ ST) e3 (S₁.trans' ST)
end
end Mini
open PySem PySem.W PySem.W.X PyProof PyProof.Rows PySem.Calls
namespace Mini
noncomputable abbrev fsL (l : List Env) : List Addr := l.filterMap (·.frame)
structure Low (c : Cx) (G : Imm) (φ : List Loc) (l : List Env) (s : Shared) : Prop where
  own : OwnOk c G φ (fsL l) s
  fr : ∀ x ∈ l, x.scope.kind ≠ .module ∧ ∃ L o, x.frame = some L ∧ s.heap.get? L = some o ∧ ∀ vs, o.data ≠ .fields vs
noncomputable def UpS (fs : List Addr) (s s' : Shared) : Prop := ∀ L ∈ fs, ∀ o, s.heap.get? L = some o → ∃ sl, s'.heap.get? L = some { o with slots := sl }
theorem UpS.trans {fs : List Addr} {s₁ s₂ s₃ : Shared} (x : UpS fs s₁ s₂) (y : UpS fs s₂ s₃) : UpS fs s₁ s₃ := fun L h o e => let ⟨_, e₁⟩ := x L h o e; let ⟨sl, e₂⟩ := y L h _ e₁; ⟨sl, e₂⟩
section
variable {c : Cx} {P : PI} {d : Nat} {A : Around} {env : Env} {l : List Env} {kd : Kinds} {ρ ρ' : Vars} {G G₀ G' : Imm} {φ φ₀ φ' : List Loc} {σ σ' : St} {s s₀ s' : Shared} {own : List Addr}
theorem Low.step (h : Low c G φ l s) (S : Step c own G φ s G' φ' s') (U : UpS (fsL l) s s') : Low c G' φ' l s' := ⟨h.own.step S, fun x hx => by
  obtain ⟨h1, L, o, h2, h3, h4⟩ := h.fr x hx
  obtain ⟨sl, e⟩ := U L (List.mem_filterMap.mpr ⟨x, hx, h2⟩) o h3
  exact ⟨h1, L, _, h2, e, h4⟩⟩
theorem Low.exact (h : Low c G φ l s) (S : Step c own G φ s G' φ' s') (hd : ∀ L ∈ fsL l, L ∉ own) : UpS (fsL l) s s' := fun L hL o e => ⟨o.slots, S.frame L o (h.own L hL).1 (hd L hL) e⟩
theorem Low.data (h : Low c G φ l s) {L : Addr} (hL : L ∈ fsL l) : ∃ o, s.heap.get? L = some o ∧ ∀ vs, o.data ≠ .fields vs := by
  obtain ⟨x, hx, h2⟩ := List.mem_filterMap.mp hL
  obtain ⟨_, L', o, h3, h4, h5⟩ := h.fr x hx
  rw [h2] at h3; cases h3
  exact ⟨o, h4, h5⟩
theorem Low.nil : Low c G φ [] s := ⟨(fun _ h => nomatch h), fun _ h => nomatch h⟩
theorem funFrames_of {h base : Heap} : ∀ {l : List Env}, (∀ x ∈ l, x.scope.kind ≠ .module ∧ ∃ L o, x.frame = some L ∧ h.get? L = some o ∧ ∀ vs, o.data ≠ .fields vs) → (∀ L ∈ fsL l, base.get? L = none) → h.FunFrames base l
  | [], _, _ => trivial
  | x :: r, h1, h2 => by
    obtain ⟨k1, L, o, k2, k3, k4⟩ := h1 x (.head _)
    have hm : ∀ L' ∈ fsL r, L' ∈ fsL (x :: r) := fun L' hL => by rw [fsL, List.filterMap_cons, k2]; exact .tail _ hL
    exact ⟨k1, ⟨L, o, k2, h2 L (by rw [fsL, List.filterMap_cons, k2]; exact .head _), k3, k4⟩, funFrames_of (fun y hy => h1 y (.tail _ hy)) fun L' hL => h2 L' (hm L' hL)⟩
structure HereF (c : Cx) (P : PI) (d : Nat) (A : Around) (env : Env) (lw : List Env) (kd : Kinds) (ρ : Vars) (G : Imm) (φ : List Loc) (σ : St) (s : Shared) : Prop extends HereX c P d A env kd ρ G φ σ s where
  fa : A.frames = some (env :: lw)
  ff : env.frame = some env.locals
  low : Low c G φ lw s
  ap : ∀ L ∈ fsL lw, L ∉ owns env
inductive AfterF (c : Cx) (env : Env) (l : List Env) (G : Imm) (φ : List Loc) (s : Shared) (ρ' : Vars) (σ' : St) (s' : Shared) (K : Imm → List Loc → Prop) : Prop
  | mk (G' : Imm) (φ' : List Loc) (R : Rel c G' φ' σ' s') (L : LocRel c G' φ' env ρ' s'.heap) (F : FrOk env s'.heap) (S : Step c (owns env ++ fsL l) G φ s G' φ' s') (U : UpS (fsL l) s s') (k : K G' φ')
noncomputable def DoesF (c : Cx) (A : Around) (env : Env) (l : List Env) (G : Imm) (φ : List Loc) (s : Shared) (t : Sem Flow) (f : Flw) (ρ' : Vars) (σ' : St) : Prop :=
  wpAny (Md c) A t (fun f' s' => AfterF c env l G φ s ρ' σ' s' fun G' φ' => FRel c G' φ' f f') (fun _ _ => False) s
theorem fsL_cons (ff : env.frame = some env.locals) : fsL (env :: l) = env.locals :: fsL l := by rw [fsL, List.filterMap_cons, ff]
theorem HereF.then (H : HereF c P d A env l kd ρ G φ σ s) (R : Rel c G' φ' σ' s') (L : LocRel c G' φ' env ρ' s'.heap) (F : FrOk env s'.heap) (S : Step c (owns env ++ fsL l) G φ s G' φ' s') (U : UpS (fsL l) s s') : HereF c P d A env l kd ρ' G' φ' σ' s' :=
  ⟨⟨⟨H.ok, H.a, H.kd, R, L, H.o.step S⟩, F⟩, H.fa, H.ff, H.low.step S U, H.ap⟩
theorem HereF.exact (H : HereF c P d A env l kd ρ G φ σ s) (S : Step c (owns env) G φ s G' φ' s') : UpS (fsL l) s s' := H.low.exact S H.ap
theorem HereF.step (H : HereF c P d A env l kd ρ G φ σ s) (R : Rel c G' φ' σ' s') (S : Step c [] G φ s G' φ' s') : HereF c P d A env l kd ρ G' φ' σ' s' :=
  ⟨H.toHereX.step R S, H.fa, H.ff, H.low.step S (H.low.exact S fun _ _ h => nomatch h), H.ap⟩
theorem AfterF.after {K : Imm → List Loc → Prop} (h : AfterF c env l G' φ' s' ρ' σ' s K) (S : Step c (owns env ++ fsL l) G φ s₀ G' φ' s') (U : UpS (fsL l) s₀ s') : AfterF c env l G φ s₀ ρ' σ' s K := by
  obtain ⟨G₂, φ₂, R, L, F, S₂, U₂, k⟩ := h
  exact ⟨G₂, φ₂, R, L, F, S.trans' S₂, U.trans U₂, k⟩
theorem HereF.alive (H : HereF c P d A env l kd ρ G φ σ s) : ∀ a ∈ owns env, (s.heap.get? a).isSome := fun a ha => (H.o.away ha).2
noncomputable def Big (c : Cx) (G : Imm) (φ : List Loc) (fs : List Addr) (s₀ s : Shared) (base : Heap) : Prop := ∀ b, (b ∈ foot c φ ∨ (G b).isSome = true ∨ (s₀.heap.get? b).isSome = true) → b ∉ fs → base.get? b = s.heap.get? b
structure In (c : Cx) (P : PI) (d : Nat) (A : Around) (env : Env) (l : List Env) (kd : Kinds) (ρ : Vars) (G₀ : Imm) (φ₀ : List Loc) (s₀ : Shared) (G : Imm) (φ : List Loc) (σ : St) (s : Shared) : Prop where
  h : HereF c P d A env l kd ρ G φ σ s
  st : Step c (owns env ++ fsL l) G₀ φ₀ s₀ G φ s
  up : UpS (fsL l) s₀ s
  al : ∀ a ∈ owns env, (s₀.heap.get? a).isSome
theorem HereF.notField (H : HereF c P d A env l kd ρ G φ σ s) {b : Addr} (hb : b ∈ fsL (env :: l)) : ∃ o, s.heap.get? b = some o ∧ ∀ vs, o.data ≠ .fields vs := by
  rw [fsL_cons H.ff] at hb
  rcases List.mem_cons.mp hb with rfl | hb
  · obtain ⟨m, ⟨o, es, ep, ho, hd, _⟩, _⟩ := H.l.ns
    exact ⟨o, ho, fun vs q => by rw [hd] at q; cases q⟩
  · exact H.low.data hb
theorem HereF.apart (H : HereF c P d A env l kd ρ G φ σ s) {b : Addr} (hb : b ∈ fsL (env :: l)) : b ∉ foot c φ ∧ G b = none := by
  rw [fsL_cons H.ff] at hb
  rcases List.mem_cons.mp hb with rfl | hb
  · exact ⟨(H.o.loc _ (.head _)).1, (H.o.loc _ (.head _)).2.1⟩
  · exact ⟨(H.low.own _ hb).1, (H.low.own _ hb).2.1⟩
theorem HereF.cellNot (H : HereF c P d A env l kd ρ G φ σ s) {y : Str} {a : Addr} (e : env.cells.lookup y = some a) : a ∉ fsL (env :: l) := fun hb => by
  rw [fsL_cons H.ff] at hb
  rcases List.mem_cons.mp hb with hb | hb
  · exact H.f.nl _ _ (mem_of_lookup e) hb
  · exact H.ap _ hb (mem_owns (.inr ⟨y, e⟩))
theorem In.move {base h' : Heap} (I : In c P d A env l kd ρ G₀ φ₀ s₀ G φ σ s) (bb : Big c G φ (fsL (env :: l)) s₀ s base) (st : base.StaysIn h') (up : s.heap.UpToSlots h') :
    In c P d A env l kd ρ G₀ φ₀ s₀ G φ σ { s with heap := h' } ∧ Big c G φ (fsL (env :: l)) s₀ { s with heap := h' } base := by
  have H := I.h
  have kk : ∀ b o, (b ∈ foot c φ ∨ (G b).isSome = true ∨ (s₀.heap.get? b).isSome = true) → b ∉ fsL (env :: l) → s.heap.get? b = some o → h'.get? b = some o := fun b o h1 h2 e => st b o ((bb b h1 h2).trans e)
  have hnot : ∀ b, (b ∈ foot c φ ∨ (G b).isSome = true) → b ∉ fsL (env :: l) := fun b hb q => by
    obtain ⟨h1, h2⟩ := H.apart q
    rcases hb with hb | hb
    · exact h1 hb
    · rw [h2] at hb; cases hb
  have R : Rel c G φ σ { s with heap := h' } := H.r.same fun a o ha e => kk a o (ha.elim .inl fun q => .inr (.inl q)) (hnot a ha) e
  have cell : ∀ y a o, env.cells.lookup y = some a → s.heap.get? a = some o → h'.get? a = some o := fun y a o e g => kk a o (.inr (.inr (I.al a (mem_owns (.inr ⟨y, e⟩))))) (H.cellNot e) g
  have L : LocRel c G φ env ρ h' := ⟨H.l.kind, H.l.glob, H.l.bi, (let ⟨m, hn, hv⟩ := H.l.ns; ⟨m, up.ns hn, hv⟩), fun y w h1 h2 => by
    obtain ⟨a, w', e, ⟨o, ho, hd⟩, r⟩ := H.l.cell y w h1 h2
    exact ⟨a, w', e, ⟨o, cell y a o e ho, hd⟩, r⟩⟩
  have F : FrOk env h' := ⟨fun x hx => let ⟨a, v, e, o, ho, hd⟩ := H.f.ex x hx; ⟨a, v, e, o, cell x a o e ho, hd⟩, H.f.apart, H.f.nl⟩
  have live : ∀ b, b ∈ fsL (env :: l) → (h'.get? b).isSome := fun b hb => by
    obtain ⟨o, e, hn⟩ := H.notField hb
    obtain ⟨sl, e'⟩ := up b o e hn
    rw [e']; rfl
  have hin : ∀ b, b ∉ owns env ++ fsL l → b ∉ fsL (env :: l) := fun b hb q => by
    rw [fsL_cons H.ff] at q
    rcases List.mem_cons.mp q with rfl | q
    · exact hb (List.mem_append_left _ (.head _))
    · exact hb (List.mem_append_right _ q)
  have S : Step c (owns env ++ fsL l) G₀ φ₀ s₀ G φ { s with heap := h' } := ⟨I.st.g, I.st.ext, I.st.foot, I.st.dom, fun b o h1 h2 e => kk b o (.inr (.inr (by rw [e]; rfl))) (hin b h2) (I.st.frame b o h1 h2 e), fun b hb => by
    by_cases q : b ∈ fsL (env :: l)
    · exact live b q
    · obtain ⟨x, hx⟩ := Option.isSome_iff_exists.mp (I.st.keep b hb)
      show (h'.get? b).isSome
      rw [kk b x (.inr (.inr hb)) q hx]; rfl, I.st.os, I.st.gsz, I.st.gfr, I.st.gft⟩
  have ups : UpS (fsL l) s { s with heap := h' } := fun L hL o e => by
    obtain ⟨o', e', hn⟩ := H.low.data hL
    rw [e] at e'; cases e'
    exact up L o e hn
  have owns' : OwnOk c G φ (fsL l) { s with heap := h' } := fun b hb => ⟨(H.low.own b hb).1, (H.low.own b hb).2.1, live b (by rw [fsL_cons H.ff]; exact .tail _ hb)⟩
  refine ⟨⟨⟨⟨⟨H.ok, H.a, H.kd, R, L, ⟨fun b hb => ?_, fun x a e => ?_⟩⟩, F⟩, H.fa, H.ff, ⟨owns', fun x hx => ?_⟩, H.ap⟩, S, I.up.trans ups, I.al⟩, fun b h1 h2 => ?_⟩
  · cases List.mem_singleton.mp hb
    exact ⟨(H.o.loc _ (.head _)).1, (H.o.loc _ (.head _)).2.1, live _ (by rw [fsL_cons H.ff]; exact .head _)⟩
  · obtain ⟨z1, z2, z3⟩ := H.o.cel x a e
    obtain ⟨o, ho⟩ := Option.isSome_iff_exists.mp z2
    exact ⟨z1, by show (h'.get? a).isSome; rw [cell x a o e ho]; rfl, z3⟩
  · obtain ⟨h1, L, o, h2, h3, h4⟩ := H.low.fr x hx
    obtain ⟨sl, e⟩ := up L o h3 h4
    exact ⟨h1, L, _, h2, e, h4⟩
  · cases q : s.heap.get? b with
    | some o => rw [bb b h1 h2, q]; exact (kk b o h1 h2 q).symm
    | none =>
      exfalso
      have : (s.heap.get? b).isSome := by
        rcases h1 with h1 | h1 | h1
        · exact H.r.live b h1
        · obtain ⟨o, ho⟩ := Option.isSome_iff_exists.mp h1
          rw [H.r.gh b o ho]; rfl
        · exact I.st.keep b h1
      rw [q] at this; cases this
inductive Exc (c : Cx) (G : Imm) (φ : List Loc) (l : List Env) (e : Addr) (X : String) (s₀ s : Shared) : Prop
  | new (ob : Obj) (t : Value) (he : s.heap.get? e = some ob) (hc : ob.cls = .type X) (hd : ob.data = .fields #[t, .none, .none, .none, .bool false, .none]) (h0 : s₀.heap.get? e = none) (hf : e ∉ foot c φ) (hG : G e = none)
  | fly (base : Heap) (a0 : Value) (hf : Heap.FlyingW base l e (.type X) a0 s.heap) (bb : Big c G φ (fsL l) s₀ s base)
noncomputable def Held (c : Cx) (G : Imm) (φ : List Loc) (env : Env) (l : List Env) (e : Addr) (X : String) (s₀ s : Shared) : Prop := ∃ base a0, Heap.HeldW base (env :: l) e (.type X) a0 env.locals s.heap ∧ Big c G φ (fsL (env :: l)) s₀ s base
noncomputable def Flies (c : Cx) (G : Imm) (φ : List Loc) (l : List Env) (e : Addr) (X : String) (s₀ s : Shared) : Prop := ∃ base a0, Heap.FlyingW base l e (.type X) a0 s.heap ∧ Big c G φ (fsL l) s₀ s base
theorem hide_big {fs : List Addr} {e : Addr} (h0 : s₀.heap.get? e = none) (hf : e ∉ foot c φ) (hG : G e = none) : Big c G φ fs s₀ s (hideAll s.heap (e :: fs)) := fun b h1 h2 => by
  have hb : b ∉ e :: fs := fun q => by
    rcases List.mem_cons.mp q with rfl | q
    · rcases h1 with h1 | h1 | h1
      · exact hf h1
      · rw [hG] at h1; cases h1
      · rw [h0] at h1; cases h1
    · exact h2 q
  cases q : s.heap.get? b with
  | some o => exact hideAll_get _ q hb
  | none =>
    cases q2 : (hideAll s.heap (e :: fs)).get? b with
    | none => rfl
    | some o => rw [of_hideAll _ q2] at q; cases q
theorem exc_note {e : Addr} {X : String} {Q : Unit → Shared → Prop} {E : Value → Shared → Prop} (I : In c P d A env l kd ρ G₀ φ₀ s₀ G φ σ s) (x : Exc c G φ (env :: l) e X s₀ s)
    (k : ∀ s', In c P d A env l kd ρ G₀ φ₀ s₀ G φ σ s' → Held c G φ env l e X s₀ s' → Q () s') : wpAny (Md c) A (noteFrame (.ref e) env) Q E s := by
  have H := I.h
  cases x with
  | new ob t he hc hd h0 hf hG =>
    have bb : Big c G φ (fsL (env :: l)) s₀ s (hideAll s.heap (e :: fsL (env :: l))) := hide_big h0 hf hG
    have st : (hideAll s.heap (e :: fsL (env :: l))).StaysIn s.heap := fun b o hb => of_hideAll _ hb
    have hff : s.heap.FunFrames (hideAll s.heap (e :: fsL (env :: l))) (env :: l) := funFrames_of (fun y hy => by
      rcases List.mem_cons.mp hy with rfl | hy
      · obtain ⟨o, ho, hn⟩ := H.notField (b := y.locals) (by rw [fsL_cons H.ff]; exact .head _)
        exact ⟨by rw [H.l.kind]; decide, _, o, H.ff, ho, hn⟩
      · exact H.low.fr y hy) fun L hL => hideAll_none _ (.tail _ hL)
    unfold noteFrame
    simp only [H.ff]
    refine wpAny_bind (wpAny_field he hd (x := .none) rfl ?_)
    rw [if_neg (by decide)]
    refine wpAny_entryW (a0 := t) H.fa hff H.ff he st (hideAll_none _ (.head _)) hd (by simp) rfl fun h' ⟨k1, k2, k3, k4⟩ => ?_
    obtain ⟨I', bb'⟩ := I.move bb k1 k4
    rw [hc] at k3
    exact k _ I' ⟨_, _, ⟨k1, hideAll_none _ (.head _), k2, k3⟩, bb'⟩
  | fly base a0 hf bb =>
    refine wpAny_looks_onW H.fa H.ff hf fun h' hh up => ?_
    obtain ⟨I', bb'⟩ := I.move bb hh.1 up
    exact k _ I' ⟨_, _, hh, bb'⟩
theorem held_land {e : Addr} {X : String} {B : Around} {Q : Unit → Shared → Prop} {E : Value → Shared → Prop} (I : In c P d A env l kd ρ G₀ φ₀ s₀ G φ σ s) (x : Held c G φ env l e X s₀ s)
    (k : ∀ s', In c P d A env l kd ρ G₀ φ₀ s₀ G φ σ s' → Flies c G φ (env :: l) e X s₀ s' → Q () s') : wpAny (Md c) B (setFlight (.ref e) none) Q E s := by
  obtain ⟨base, a0, hh, bb⟩ := x
  refine wpAny_landsW hh fun h' hf up => ?_
  obtain ⟨I', bb'⟩ := I.move bb hf.1 up
  exact k _ I' ⟨_, _, hf, bb'⟩
theorem fly_land {e : Addr} {X : String} {B : Around} {Q : Unit → Shared → Prop} {E : Value → Shared → Prop} (I : In c P d A env l kd ρ G₀ φ₀ s₀ G φ σ s) (x : Flies c G φ (env :: l) e X s₀ s)
    (k : ∀ s', In c P d A env l kd ρ G₀ φ₀ s₀ G φ σ s' → Flies c G φ (env :: l) e X s₀ s' → Q () s') : wpAny (Md c) B (setFlight (.ref e) none) Q E s := by
  obtain ⟨base, a0, ⟨f1, f2, f3, f4⟩, bb⟩ := x
  refine wpAny_setFlight_noneW f1 f3 f4.at fun h' k1 k2 k3 k4 => ?_
  obtain ⟨I', bb'⟩ := I.move bb k1 fun b o hb hn => ⟨o.slots, k4 b o hb hn⟩
  exact k _ I' ⟨_, _, ⟨k1, f2, k2, k3⟩, bb'⟩
theorem exc_leave {e : Addr} {X : String} {Q : Unit → Shared → Prop} {E : Value → Shared → Prop} (I : In c P d A env l kd ρ G₀ φ₀ s₀ G φ σ s) (x : Exc c G φ (env :: l) e X s₀ s)
    (k : ∀ s', In c P d A env l kd ρ G₀ φ₀ s₀ G φ σ s' → Flies c G φ (env :: l) e X s₀ s' → Q () s') : wpAny (Md c) A (leaving env (.ref e)) Q E s := by
  unfold leaving
  exact wpAny_bind (exc_note I x fun s' I' x' => held_land I' x' k)
end
end Mini
open PySem PySem.W PySem.W.X PyProof PyProof.Rows PySem.Calls
namespace Mini
structure EvXF (P : PI) (d : Nat) (kd : Kinds) (ρ : Vars) (st : Stmt) (σ : St) (f : Flw) (ρ' : Vars) (σ' : St) : Prop where
  intro ::
  run : ∀ {c A env l G φ s}, HereF c P d A env l kd ρ G φ σ s → DoesF c A env l G φ s (PySem.exec st env) f ρ' σ'
structure EvXsF (P : PI) (d : Nat) (kd : Kinds) (ρ : Vars) (ss : List Stmt) (σ : St) (f : Flw) (ρ' : Vars) (σ' : St) : Prop where
  intro ::
  run : ∀ {c A env l G φ s}, HereF c P d A env l kd ρ G φ σ s → DoesF c A env l G φ s (PySem.execs ss env) f ρ' σ'
structure EvER (P : PI) (d : Nat) (kd : Kinds) (ρ : Vars) (ex : Expr) (σ : St) (X : String) (σ' : St) : Prop where
  intro ::
  run : ∀ {c A env l G φ s} {Q : Value → Shared → Prop} {E : Value → Shared → Prop}, HereF c P d A env l kd ρ G φ σ s → (∀ e G' φ' s', In c P d A env l kd ρ G φ s G' φ' σ' s' → Exc c G' φ' (env :: l) e X s s' → E (.ref e) s') → wpAny (Md c) A (PySem.eval ex env) Q E s
structure EvXR (P : PI) (d : Nat) (kd : Kinds) (ρ : Vars) (st : Stmt) (σ : St) (X : String) (ρ' : Vars) (σ' : St) : Prop where
  intro ::
  run : ∀ {c A env l G φ s} {Q : Flow → Shared → Prop} {E : Value → Shared → Prop}, HereF c P d A env l kd ρ G φ σ s → PassesOwn (Md c) A env E → (∀ e G' φ' s', In c P d A env l kd ρ' G φ s G' φ' σ' s' → Exc c G' φ' (env :: l) e X s s' → E (.ref e) s') → wpAny (Md c) A (PySem.exec st env) Q E s
structure EvXsR (P : PI) (d : Nat) (kd : Kinds) (ρ : Vars) (ss : List Stmt) (σ : St) (X : String) (ρ' : Vars) (σ' : St) : Prop where
  intro ::
  run : ∀ {c A env l G φ s} {Q : Flow → Shared → Prop} {E : Value → Shared → Prop}, HereF c P d A env l kd ρ G φ σ s → PassesOwn (Md c) A env E → (∀ e G' φ' s', In c P d A env l kd ρ' G φ s G' φ' σ' s' → Exc c G' φ' (env :: l) e X s s' → E (.ref e) s') → wpAny (Md c) A (PySem.execs ss env) Q E s
noncomputable def EvCR (P : PI) (d : Nat) (fv : AVal) (vs : List AVal) (σ : St) (X : String) (σ' : St) : Prop := callable fv = true ∧ ∀ {c A l G φ s f' vs'} {Q : Value → Shared → Prop} {E : Value → Shared → Prop}, COk c P → GoodA d A → Rel c G φ σ s → VRel c G φ fv f' → VsRel c G φ vs vs' → A.frames = some l → Low c G φ l s →
  (∀ e G' φ' s', Rel c G' φ' σ' s' → Step c (fsL l) G φ s G' φ' s' → UpS (fsL l) s s' → Flies c G' φ' l e X s s' → E (.ref e) s') → wpAny (Md c) A (call f' vs') Q E s
structure EvEM (P : PI) (d : Nat) (kd : Kinds) (ρ : Vars) (e : Expr) (σ : St) (v : AVal) (σ' : St) : Prop where
  intro ::
  run : ∀ {c A B env G φ s}, Here c P d A env kd ρ G φ σ s → Gives c B G φ s (PySem.eval e env) v σ'
structure EvXsM (P : PI) (d : Nat) (kd : Kinds) (ρ : Vars) (ss : List Stmt) (σ : St) (f : Flw) (ρ' : Vars) (σ' : St) : Prop where
  intro ::
  run : ∀ {c A B env G φ s}, HereX c P d A env kd ρ G φ σ s → Does c B env G φ s (PySem.execs ss env) f ρ' σ'
section
variable {c : Cx} {P : PI} {d : Nat} {A : Around} {env : Env} {l : List Env} {kd : Kinds} {ρ ρ₁ ρ₂ ρ' : Vars} {G G₀ G₁ G' : Imm} {φ φ₀ φ₁ φ' : List Loc} {σ σ₁ σ₂ σ₃ σ' : St} {s s₀ s₁ s' : Shared} {v w a b : AVal} {p : Pos} {X : String}
theorem In.back (I : In c P d A env l kd ρ G₁ φ₁ s₁ G φ σ s) (S : Step c (owns env ++ fsL l) G₀ φ₀ s₀ G₁ φ₁ s₁) (U : UpS (fsL l) s₀ s₁) (al : ∀ a ∈ owns env, (s₀.heap.get? a).isSome) : In c P d A env l kd ρ G₀ φ₀ s₀ G φ σ s := ⟨I.h, S.trans' I.st, U.trans I.up, al⟩
theorem Exc.back {e : Addr} (x : Exc c G φ l e X s₁ s) (k : ∀ b, (s₀.heap.get? b).isSome → (s₁.heap.get? b).isSome) : Exc c G φ l e X s₀ s := by
  cases x with
  | new ob t he hc hd h0 hf hG =>
    refine .new ob t he hc hd ?_ hf hG
    cases q : s₀.heap.get? e with
    | none => rfl
    | some o => have := k e (by rw [q]; rfl); rw [h0] at this; cases this
  | fly base a0 hf bb => exact .fly base a0 hf fun b h1 h2 => bb b (h1.imp id (Or.imp id (k b))) h2
theorem Flies.exc {e : Addr} (x : Flies c G φ l e X s₀ s) : Exc c G φ l e X s₀ s := let ⟨base, a0, h, bb⟩ := x; .fly base a0 h bb
theorem HereF.lowC (H : HereF c P d A env l kd ρ G φ σ s) : Low c G φ (env :: l) s := ⟨fun b hb => ⟨(H.apart hb).1, (H.apart hb).2, let ⟨o, e, _⟩ := H.notField hb; by rw [e]; rfl⟩, fun x hx => by
  rcases List.mem_cons.mp hx with rfl | hx
  · obtain ⟨o, ho, hn⟩ := H.notField (b := x.locals) (by rw [fsL_cons H.ff]; exact .head _)
    exact ⟨by rw [H.l.kind]; decide, _, o, H.ff, ho, hn⟩
  · exact H.low.fr x hx⟩
theorem HereF.called (H : HereF c P d A env l kd ρ G φ σ s) (R : Rel c G' φ' σ' s') (S : Step c (fsL (env :: l)) G φ s G' φ' s') (U : UpS (fsL (env :: l)) s s') :
    HereF c P d A env l kd ρ G' φ' σ' s' ∧ Step c (owns env ++ fsL l) G φ s G' φ' s' ∧ UpS (fsL l) s s' := by
  have hU : UpS (fsL l) s s' := fun L hL => U L (by rw [fsL_cons H.ff]; exact .tail _ hL)
  have cell : ∀ y a o, env.cells.lookup y = some a → s.heap.get? a = some o → s'.heap.get? a = some o := fun y a o e g => S.frame a o (H.o.away (mem_owns (.inr ⟨y, e⟩))).1 (H.cellNot e) g
  have L : LocRel c G' φ' env ρ s'.heap := ⟨H.l.kind, H.l.glob, H.l.bi, by
    obtain ⟨m, ⟨o, es, ep, ho, hr⟩, hv⟩ := H.l.ns
    obtain ⟨sl, e⟩ := U env.locals (by rw [fsL_cons H.ff]; exact .head _) o ho
    exact ⟨m, ⟨_, es, ep, e, hr⟩, fun x v h1 h2 => let ⟨v', e, r⟩ := hv x v h1 h2; ⟨v', e, r.mono S.g S.ext⟩⟩, fun y w h1 h2 => by
    obtain ⟨a, w', e, ⟨o, ho, hd⟩, r⟩ := H.l.cell y w h1 h2
    exact ⟨a, w', e, ⟨o, cell y a o e ho, hd⟩, r.mono S.g S.ext⟩⟩
  have F : FrOk env s'.heap := ⟨fun x hx => let ⟨a, v, e, o, ho, hd⟩ := H.f.ex x hx; ⟨a, v, e, o, cell x a o e ho, hd⟩, H.f.apart, H.f.nl⟩
  have S' : Step c (owns env ++ fsL l) G φ s G' φ' s' := S.weaken fun b hb => by
    rw [fsL_cons H.ff] at hb
    rcases List.mem_cons.mp hb with rfl | hb
    · exact List.mem_append_left _ (.head _)
    · exact List.mem_append_right _ hb
  exact ⟨H.then R L F S' hU, S', hU⟩
theorem xf_of {st : Stmt} {f : Flw} (h : EvX P d kd ρ st σ f ρ' σ') : EvXF P d kd ρ st σ f ρ' σ' := .intro fun H => by
  refine wpAny_mono (h.run H.toHereX) (fun f' s' ⟨G', φ', R, L, F, S, k⟩ => ?_) fun _ _ e => e
  exact ⟨G', φ', R, L, F, S.weaken (fun b hb => List.mem_append_left _ hb), H.exact S, k⟩
theorem xsf_of {ss : List Stmt} {f : Flw} (h : EvXs P d kd ρ ss σ f ρ' σ') : EvXsF P d kd ρ ss σ f ρ' σ' := .intro fun H => by
  refine wpAny_mono (h.run H.toHereX) (fun f' s' ⟨G', φ', R, L, F, S, k⟩ => ?_) fun _ _ e => e
  exact ⟨G', φ', R, L, F, S.weaken (fun b hb => List.mem_append_left _ hb), H.exact S, k⟩
theorem xsf_cons {st : Stmt} {ss : List Stmt} {f : Flw} (h1 : EvXF P d kd ρ st σ .next ρ₁ σ₁) (h2 : EvXsF P d kd ρ₁ ss σ₁ f ρ' σ') : EvXsF P d kd ρ (st :: ss) σ f ρ' σ' := .intro fun H => by
  refine wpAny_execs_cons (wpAny_mono (h1.run H) (fun f' s₁ ⟨G₁, φ₁, R₁, L₁, F₁, S₁, U₁, FR⟩ => ?_) fun _ _ e => e)
  cases FR
  exact wpAny_mono (h2.run (H.then R₁ L₁ F₁ S₁ U₁)) (fun _ _ q => AfterF.after q S₁ U₁) fun _ _ e => e
theorem xf_if {t : Expr} {x y : List Stmt} {f : Flw} {z : Bool} (h1 : EvT P d kd ρ t σ z σ₁) (h2 : EvXsF P d kd ρ (if z then x else y) σ₁ f ρ' σ') : EvXF P d kd ρ (.If t x y p) σ f ρ' σ' := .intro fun {c A env l G φ s} H => by
  refine wpAny_If (wpAny_mono (h1.run H.toHere) (fun z' s₁ ⟨e, G₁, φ₁, R₁, S₁⟩ => ?_) fun _ _ e => e)
  subst e
  have H₁ := H.step R₁ S₁
  have S₁' := S₁.weaken (own' := owns env ++ fsL l) fun _ h => nomatch h
  have U₁ := H.low.exact S₁ fun _ _ h => nomatch h
  cases z' with
  | true => exact wpAny_mono (h2.run H₁) (fun _ _ q => AfterF.after q S₁' U₁) fun _ _ e => e
  | false => exact wpAny_mono (h2.run H₁) (fun _ _ q => AfterF.after q S₁' U₁) fun _ _ e => e
theorem xf_ifT {t : Expr} {x y : List Stmt} {f : Flw} (h1 : EvT P d kd ρ t σ true σ₁) (h2 : EvXsF P d kd ρ x σ₁ f ρ' σ') : EvXF P d kd ρ (.If t x y p) σ f ρ' σ' := xf_if h1 h2
theorem xf_ifF {t : Expr} {x y : List Stmt} {f : Flw} (h1 : EvT P d kd ρ t σ false σ₁) (h2 : EvXsF P d kd ρ y σ₁ f ρ' σ') : EvXF P d kd ρ (.If t x y p) σ f ρ' σ' := xf_if h1 h2
theorem xsr_cons {st : Stmt} {ss : List Stmt} (h1 : EvX P d kd ρ st σ .next ρ₁ σ₁) (h2 : EvXsR P d kd ρ₁ ss σ₁ X ρ' σ') : EvXsR P d kd ρ (st :: ss) σ X ρ' σ' := .intro fun {c A env l G φ s Q E} H hp hE => by
  refine wpAny_execs_cons (noE (wpAny_mono (h1.run H.toHereX) (fun f' s₁ ⟨G₁, φ₁, R₁, L₁, F₁, S₁, FR⟩ => ?_) fun _ _ e => e))
  cases FR
  have S₁' := S₁.weaken (own' := owns env ++ fsL l) fun _ h => List.mem_append_left _ h
  have U₁ := H.exact S₁
  exact h2.run (H.then R₁ L₁ F₁ S₁' U₁) hp fun e G' φ' s' I x => hE e G' φ' s' (I.back S₁' U₁ H.alive) (x.back S₁.keep)
theorem xsr_here {st : Stmt} {ss : List Stmt} (h1 : EvXR P d kd ρ st σ X ρ' σ') : EvXsR P d kd ρ (st :: ss) σ X ρ' σ' := .intro fun H hp hE => wpAny_execs_cons (h1.run H hp hE)
theorem xr_if {t : Expr} {x y : List Stmt} {z : Bool} (h1 : EvT P d kd ρ t σ z σ₁) (h2 : EvXsR P d kd ρ (if z then x else y) σ₁ X ρ' σ') : EvXR P d kd ρ (.If t x y p) σ X ρ' σ' := .intro fun {c A env l G φ s Q E} H hp hE => by
  refine wpAny_If (noE (wpAny_mono (h1.run H.toHere) (fun z' s₁ ⟨e, G₁, φ₁, R₁, S₁⟩ => ?_) fun _ _ e => e))
  subst e
  have S₁' := S₁.weaken (own' := owns env ++ fsL l) fun _ h => nomatch h
  have U₁ := H.low.exact S₁ fun _ _ h => nomatch h
  have k := fun {Q : Flow → Shared → Prop} => h2.run (Q := Q) (H.step R₁ S₁) hp fun e G' φ' s' I x => hE e G' φ' s' (I.back S₁' U₁ H.alive) (x.back S₁.keep)
  cases z' <;> exact k
theorem xr_ifT {t : Expr} {x y : List Stmt} (h1 : EvT P d kd ρ t σ true σ₁) (h2 : EvXsR P d kd ρ x σ₁ X ρ' σ') : EvXR P d kd ρ (.If t x y p) σ X ρ' σ' := xr_if h1 h2
theorem xr_assign {t e : Expr} (h0 : (noSwap kd t e && !isComp e) = true) (h1 : EvER P d kd ρ e σ X σ') : EvXR P d kd ρ (.Assign [t] e p) σ X ρ σ' := .intro fun {c A env l G φ s Q E} H hp hE => by
  rw [Bool.and_eq_true, Bool.not_eq_true'] at h0
  exact wpAny_Assign_stores (h1.run H hE) (swaps_no h0.2) (swapped_no (by rw [← H.kd]; exact h0.1))
theorem er_call {f : Str} {fp : Pos} {args : List Expr} {fv : AVal} {vs : List AVal} (h1 : EvE P d kd ρ (.Name f fp) σ fv σ₁) (h2 : EvEs P d kd ρ args σ₁ vs σ₂) (h3 : EvCR P d fv vs σ₂ X σ') : EvER P d kd ρ (.Call (.Name f fp) args [] p) σ X σ' := .intro fun {c A env l G φ s Q E} H hE => by
  refine wpAny_Call_NameR (noE (wpAny_mono (h1.run H.toHere) (fun f' s₁ ⟨G₁, φ₁, R₁, V₁, S₁⟩ => ?_) fun _ _ e => e))
  have H₁ := H.step R₁ S₁
  refine call_restG h2 h3.1 (fun {vs' s₂ G₂ φ₂} R₂ Vf V₂ S₂ => ?_) H₁.toHere V₁
  have H₂ := H₁.step R₂ S₂
  refine h3.2 H.ok H.a R₂ Vf V₂ H.fa H₂.lowC fun e G' φ' s' R' S' U' x => ?_
  obtain ⟨H', S'', U''⟩ := H₂.called R' S' U'
  have SS := S₁.trans' S₂
  have SS' := SS.weaken (own' := owns env ++ fsL l) fun _ h => nomatch h
  exact hE e G' φ' s' ⟨H', SS'.trans' S'', (H.low.exact SS fun _ _ h => nomatch h).trans U'', H.alive⟩ (x.exc.back SS.keep)
theorem c_fnR {x : Str} {ps : List Str} {body : List Stmt} {names : List (Str × NameKind)} {vs : List AVal} (h0 : P.fn x = some (ps, body, names)) (h2 : ps.length = vs.length)
    (h3 : EvXsR P d (fun x => names.lookup x) (bindAll ps vs) body σ X ρ' σ') : EvCR P (d + 1) (.fn x) vs σ X σ' := ⟨rfl, fun {c A l G φ s f' vs' Q E} ok ha R Vf V hfr hl hE => by
  obtain ⟨f, hf, F⟩ := ok.fn x ps body names h0
  cases Vf using VRel.fnE with
  | fn e =>
    rw [hf] at e; cases e
    refine wpAny_call (fn_enterE F h2 ok ha R V fun env s₁ G₁ he H S fresh => ?_)
    have hff : env.frame = some env.locals := by subst he; rfl
    have hal : ∀ b ∈ owns env, ∀ L ∈ fsL l, L ≠ b := fun b hb L hL z => none_of_isSome (hl.own L hL).2.2 (by rw [z]; exact fresh b hb)
    have HF : HereF c P d (A.deeper env) env l (fun x => names.lookup x) (bindAll ps vs) G₁ φ σ s₁ := ⟨H, Around.frames_deeper hfr, hff, hl.step S (hl.exact S fun _ _ h => nomatch h), fun L hL q => hal L q L hL rfl⟩
    refine h3.run HF PassesOwn.leaving fun e G' φ' s' I x => exc_leave I x fun s'' I' ⟨base, a0, ⟨f1, f2, ⟨_, _, f3⟩, f4⟩, bb⟩ => ?_
    refine hE e G' φ' s'' I'.h.r ((S.weaken (own' := fsL l) fun _ h => nomatch h).trans I'.st fun b hb => ?_) ((hl.exact S fun _ _ h => nomatch h).trans I'.up) ⟨base, a0, ⟨f1, f2, f3, f4⟩, fun b h1 h2 => bb b (h1.imp id (Or.imp id (S.keep b))) fun q => ?_⟩
    · rcases List.mem_append.mp hb with hb | hb
      · exact .inr (fresh b hb)
      · exact .inl hb
    · rw [fsL_cons hff] at q
      rcases List.mem_cons.mp q with rfl | q
      · obtain ⟨z1, z2⟩ := I'.h.apart (b := env.locals) (by rw [fsL_cons hff]; exact .head _)
        rcases h1 with h1 | h1 | h1
        · exact z1 h1
        · rw [z2] at h1; cases h1
        · rw [fresh _ (.head _)] at h1; cases h1
      · exact h2 q⟩
end
end Mini
open PySem PySem.W PySem.W.X PyProof PyProof.Rows PySem.Calls PySem.Spec PySem.SeqAt
namespace Mini
section
variable {c : Cx} {P : PI} {d : Nat} {A : Around} {env : Env} {kd : Kinds} {ρ ρ' : Vars} {G : Imm} {φ : List Loc} {σ σ₁ σ₂ σ' : St} {s : Shared} {v a b : AVal} {p : Pos}
theorem mk_dict {i : Nat} {kvs : List (Int × AVal)} (q : σ[i]? = some (.dict kvs)) : IterR σ (.ref i) (.dkeys (.ref i) kvs.length 0) := .intro (fun {c A G φ s v'} R V => by
    cases V using VRel.refE with
    | ref hl =>
      obtain ⟨_, _, es, e, hk, r, sm⟩ := R.obj _ _ _ hl q
      have hlen : es.length = kvs.length := by have := congrArg List.length hk; simpa using this
      refine wpAny_pyIter_dict sm e ⟨_, R.push _, .dkeys (ep := kvs.length) ⟨_, Heap.get?_push_size _ rfl, rfl, ?_⟩ (.ref hl) (fun _ _ => rfl) (fun ks vs z => by cases z) (own_new R _ rfl), step_push _, new_only⟩
      rw [hlen]; rfl) fun _ e => by cases e
theorem n_dkeys {i j n : Nat} {kvs : List (Int × AVal)} {k : Int} {w : AVal} (h1 : σ[i]? = some (.dict kvs)) (hn : kvs.length = n) (h2 : kvs[j]? = some (k, w)) : EvN P d (.dkeys (.ref i) n j) σ (some (.int k, .dkeys (.ref i) n (j + 1))) σ := by
  refine .intro (fun {c A G φ s it' pr} ok ha R I => ?_) (fun _ _ e => by cases e; rfl)
  cases I using ItRel.dkeysE with
  | dkeys hI V q1 q2 o =>
    rename_i I l ep
    obtain rfl := q1 i rfl
    generalize hv : Value.ref l = vv at V
    cases V using VRel.refE with
    | ref hl =>
      cases hv
      obtain ⟨_, _, es, e, hk, r, sm⟩ := R.obj _ _ _ hl h1
      have hlen : es.length = kvs.length := by have := congrArg List.length hk; simpa using this
      have hes : ∃ x, es[j]? = some (k, x) := by
        have := congrArg (fun l => l[j]?) hk
        simp only [List.getElem?_map, h2, Option.map_some] at this
        obtain ⟨⟨k', x⟩, e1, e2⟩ := Option.map_eq_some_iff.mp this
        cases e2
        exact ⟨x, e1⟩
      obtain ⟨x, hx⟩ := hes
      subst hn
      rw [← hlen] at hI
      refine wpAny_pyNext_dict_item hI e hx fun key h' hkey hI' hs => ?_
      have hne : ∀ b x, b ≠ I → s.heap.get? b = some x → h'.get? b = some x := fun b x hb e => (hs.2 b hb).trans e
      have S : Step c [I] G φ s G φ { s with heap := h' } := step_priv (tk := s.toks) hne (by obtain ⟨oo, e, _⟩ := hI'; rw [e]; rfl)
      have hkv : ∃ t, key = .int k t := by
        have : Value.isInt k key = true := hkey
        cases key <;> first | (simp [Value.isInt] at this; done) | (simp [Value.isInt] at this; subst this; exact ⟨_, rfl⟩)
      obtain ⟨t, rfl⟩ := hkv
      rw [hlen] at hI'
      exact ⟨G, φ, rel_priv (tk := s.toks) R o hne, S, .int _ _, .dkeys hI' (.ref hl) (fun _ _ => rfl) (fun ks vs z => by cases z) (o.step S)⟩
theorem n_dkeysEnd {i j n : Nat} {kvs : List (Int × AVal)} (h1 : σ[i]? = some (.dict kvs)) (hn : kvs.length = n) (h2 : kvs[j]? = none) : EvN P d (.dkeys (.ref i) n j) σ none σ := by
  refine .intro (fun {c A G φ s it' pr} ok ha R I => ?_) (fun _ _ e => by cases e)
  cases I using ItRel.dkeysE with
  | dkeys hI V q1 q2 o =>
    rename_i I l ep
    obtain rfl := q1 i rfl
    generalize hv : Value.ref l = vv at V
    cases V using VRel.refE with
    | ref hl =>
      cases hv
      obtain ⟨_, _, es, e, hk, r, sm⟩ := R.obj _ _ _ hl h1
      have hlen : es.length = kvs.length := by have := congrArg List.length hk; simpa using this
      subst hn
      rw [← hlen] at hI
      have hx : es[j]? = none := by rw [List.getElem?_eq_none_iff] at h2 ⊢; lia
      exact wpAny_pyNext_dict_end ha.hh hI e hx fun h' hk => ⟨G, φ, rel_priv (tk := s.toks) R o fun b x hb e => hk b x hb e, stepE_priv (tk := s.toks) fun b x hb e => hk b x hb e, fun h => nomatch h⟩
end
section
variable {prog : Program} {w : World} {K : Type} [DecidableEq K] {knd : KeyKind prog w K} {A : Around} {E : Value → Shared → Prop} {s : Shared}
theorem hint_dict {d : Addr} {kvs : List (K × Value)} {Q : Bool → Shared → Prop} (hm : s.heap.DictOf knd d kvs) (h : Q false s) : wpAny (model prog w) A (Builtin.List.listLengthHint (.ref d)) Q E s := by
  unfold Builtin.List.listLengthHint
  refine wpAny_bind (wpAny_specialOf hm.typeIs F.slot_dict_len.lookup ?_)
  generalize hid : ("dict.__len__" : String) = id0
  wp_delta
  rw [show splitId id0 = some ("dict", "__len__") from by subst hid; decide +kernel]
  subst hid
  refine wpAny_bind (wpAny_isInstance (T := "dict") (b := true) hm.typeIs (by rw [isSubtype_type]; kernel_rfl) ?_)
  refine wpAny_ite_split (fun hab => absurd hab (by decide)) (fun _ => ?_)
  refine wpAny_ite_split (fun _ => ?_) (fun hab => absurd (by decide +kernel) hab)
  refine wpAny_bind (wpAny_typeOf hm.typeIs ?_)
  exact wpAny_pure h
theorem list_dict {Q : Value → Shared → Prop} {d : Addr} {kvs : List (K × Value)} {ep : Nat} (hh : A.handled = none) (sm : (d == sysModules) = false) (hm : s.heap.DictAt knd d kvs ep) (hlen : kvs.length ≤ sizeLine)
    (hQ : ∀ h' tk acc' c', (∀ b o, s.heap.get? b = some o → h'.get? b = some o) →
      h'.get? s.heap.objs.size = some { cls := .type "list", dict := none, data := .seq acc' c', slots := #[] } → ItemsOf (fun i v => ∃ k x, kvs[i]? = some (k, x) ∧ knd.is k v = true) acc' kvs.length → Q (.ref s.heap.objs.size) { s with heap := h', toks := tk }) :
    wpAny (model prog w) A (call (.type "list") [.ref d]) Q E s := by
  refine callType_codes (Q₁ := fun obj s₁ => obj = .ref s.heap.objs.size ∧ s₁ = { s with heap := s.heap.push { cls := .type "list", data := .seq #[] } }) F.called_list (F.typeCall_list_1 _) F.entry_list_init
    (code_list_new _ ⟨rfl, rfl⟩) fun obj s₁ h₁ => ?_
  obtain ⟨rfl, rfl⟩ := h₁
  obtain ⟨S, hSd⟩ : ∃ S, S = s.heap.objs.size := ⟨_, rfl⟩
  have hS : (s.heap.push { cls := .type "list", data := .seq #[] }).get? S = some { cls := .type "list", data := .seq #[] } := by rw [hSd]; exact Heap.get?_push_size _ rfl
  rw [← hSd]
  rw [← hSd] at hQ
  refine ⟨⟨_, hS, rfl⟩, F.args_list_init_2 _ _, ?_⟩
  have hdS : d ≠ S := fun q => by have := hm.lt_size; rw [q, hSd] at this; exact Nat.lt_irrefl _ this
  have oldS : ∀ b o, s.heap.get? b = some o → b ≠ S := fun b o e => by rw [hSd]; exact Nat.ne_of_lt (Heap.lt_size e)
  show wpAny _ _ (do let old ← Builtin.List.listItems (.ref S); Builtin.List.listUpdate (.ref S) (fun _ => #[]); letGo old.toList.reverse; Builtin.List.listExtendWith (.ref S) (.ref d) .none) _ _ _
  refine wpAny_bind ?_
  unfold Builtin.List.listItems
  refine wpAny_bind (wpAny_seqItems hS rfl (wpAny_pure ?_))
  show wpAny _ _ (updateSeq S (fun _ => #[]) >>= fun _ => letGo (#[] : Array Value).toList.reverse >>= fun _ => Builtin.List.listExtendWith (.ref S) (.ref d) .none) _ _ _
  refine wpAny_bind (wpAny_updateSeq hS rfl ?_)
  have hS₂ := Heap.get?_update_self (Obj.mapSeq (fun _ => (#[] : Array Value))) hS rfl
  generalize hh₂ : (s.heap.push { cls := .type "list", data := .seq #[] }).update S (Obj.mapSeq (fun _ => (#[] : Array Value))) = h₂ at hS₂ ⊢
  have k₂ : ∀ b o, s.heap.get? b = some o → h₂.get? b = some o := fun b o e => by
    rw [← hh₂, Heap.get?_update_other _ _ (Ne.symm (oldS b o e))]
    exact Heap.get?_push_of_some _ e
  have hm₂ : h₂.DictAt knd d kvs ep := hm.keep k₂
  refine wpAny_bind (wpAny_letGo ?_)
  unfold Builtin.List.listExtendWith
  have hT : ({ s with heap := h₂ } : Shared).TypeIs (.ref d) "dict" := hm₂.dictOf.typeIs
  refine wpAny_bind (wpAny_typeOf hT ?_)
  have e1 : Builtin.List.listSameRef (.ref S) (.ref d) = false := by simp [Builtin.List.listSameRef, Ne.symm hdS]
  simp only [e1, show (Value.type "dict" == Value.type "list") = false by decide, show (Value.type "dict" == Value.type "tuple") = false by decide, Bool.or_false, Bool.false_eq_true, if_false]
  refine wpAny_bind (wpAny_pyIter_dict sm hm₂ ?_)
  have k₃ : ∀ b o, h₂.get? b = some o → (h₂.push { cls := .type "dict_keyiterator", data := .fields #[.ref d, .int 0 0, .int kvs.length 0, .int ep 0] }).get? b = some o := fun b o e => Heap.get?_push_of_some _ e
  have hI₃ : (h₂.push { cls := .type "dict_keyiterator", data := .fields #[.ref d, .int 0 0, .int kvs.length 0, .int ep 0] }).IsKeyIter h₂.objs.size d 0 kvs.length ep := ⟨_, Heap.get?_push_size _ rfl, rfl, rfl⟩
  have hI : h₂.objs.size ≠ S := Nat.ne_of_gt (Heap.lt_size hS₂)
  have hId : d ≠ h₂.objs.size := Nat.ne_of_lt hm₂.lt_size
  generalize hh₃ : h₂.push { cls := .type "dict_keyiterator", data := .fields #[.ref d, .int 0 0, .int kvs.length 0, .int ep 0] } = h₃ at k₃ hI₃ ⊢
  have hm₃ : h₃.DictAt knd d kvs ep := hm₂.keep k₃
  have hS₃ := k₃ _ _ hS₂
  refine wpAny_bind (wpAny_holding (hint_dict (s := { s with heap := h₃ }) hm₃.dictOf ?_))
  have W := (Walks.dictKeys (prog := prog) (w := w) (knd := knd) (A := A.in1.in1) hh h₂.objs.size d hId kvs ep).toS
  have hSf : S ∉ [h₂.objs.size, d] := fun q => by
    rcases List.mem_cons.mp q with q | q
    · exact hI q.symm
    · exact hdS (List.mem_singleton.mp q).symm
  have key : ∀ (h : Heap) (c₁ tk : Nat), h.IsKeyIter h₂.objs.size d 0 kvs.length ep → h.DictAt knd d kvs ep → (∀ b o, s.heap.get? b = some o → h.get? b = some o) →
      h.get? S = some { cls := .type "list", data := .seq #[] c₁ } → codeAny (model prog w) A.in1 (.builtin "list.extend.loop" ⟨[.ref S, .ref h₂.objs.size, .none], []⟩) (wants (fun r s₂ => r = .none ∧ Q (.ref S) s₂) E) { s with heap := h, toks := tk } := by
    intro h c₁ tk hit hmm hk hS₁
    refine codeAny_extend_loopS W hlen S hSf .none kvs.length 0 _ #[] c₁ rfl (Nat.zero_le _) ⟨hit, hmm⟩ hS₁ (ItemsOf.nil _) fun s' acc' c' hm' hS' hacc => ?_
    rw [Moved.eq_with hm']
    refine ⟨rfl, hQ s'.heap s'.toks acc' c' (fun b o e => hm'.heap b o (fun hmem => ?_) (hk b o e)) hS' hacc⟩
    rcases List.mem_cons.mp hmem with e' | hmem
    · exact oldS b o e e'
    · have := Heap.lt_size (k₂ b o e)
      rw [List.mem_singleton.mp hmem] at this
      exact Nat.lt_irrefl _ this
  refine wpAny_ite_split (fun _ => ?_) (fun _ => wpAny_pure ⟨plainId_quiet F.plain_extend_loop _, key _ _ _ hI₃ hm₃ (fun b o e => k₃ b o (k₂ b o e)) hS₃⟩)
  refine wpAny_bind (wpAny_rule ?_)
  refine wpAny_bind ?_
  show wpAny _ _ (updateSeq S (·.push .none) >>= fun _ => updateSeq S (·.pop)) _ _ _
  refine wpAny_bind (wpAny_updateSeq hS₃ rfl ?_)
  have hS₄ := Heap.get?_update_self (Obj.mapSeq (·.push Value.none)) hS₃ rfl
  refine wpAny_updateSeq (hz := by seq_fits) hS₄ rfl ?_
  have hS₅ := Heap.get?_update_self (Obj.mapSeq (·.pop)) hS₄ rfl
  have oth : ∀ b o, b ≠ S → h₃.get? b = some o → ((h₃.update S (Obj.mapSeq (·.push Value.none))).update S (Obj.mapSeq (·.pop))).get? b = some o := fun b o hb e => by
    rw [Heap.get?_update_other _ _ (Ne.symm hb), Heap.get?_update_other _ _ (Ne.symm hb)]; exact e
  refine wpAny_pure ⟨plainId_quiet F.plain_extend_loop _, key _ _ _ ?_ ?_ (fun b o e => oth b o (oldS b o e) (k₃ b o (k₂ b o e))) hS₅⟩
  · obtain ⟨o, ho, r⟩ := hI₃
    exact ⟨o, oth _ o hI ho, r⟩
  · obtain ⟨o, es, ho, r⟩ := hm₃
    exact ⟨o, es, oth _ o hdS ho, r⟩
end
section
variable {P : PI} {d : Nat} {kd : Kinds} {ρ ρ' : Vars} {σ σ₁ σ₂ σ' : St} {v a b : AVal} {p : Pos}
theorem c_listD {i : Nat} {kvs : List (Int × AVal)} (h1 : σ[i]? = some (.dict kvs)) (h : kvs.length ≤ lim) : EvC P d (.ty "list") [.ref i] σ (.ref σ.length) (σ ++ [.list (kvs.map fun kv => .int kv.1)]) := ⟨rfl, fun {c A G φ s f' vs'} ok ha R Vf V => by
  cases Vf using VRel.tyE
  cases V using VsRel.consE with
  | cons hv ht =>
    cases ht using VsRel.nilE
    cases hv using VRel.refE with
    | ref hl0 =>
      obtain ⟨_, _, es, e, hk, r, sm⟩ := R.obj _ _ _ hl0 h1
      have hlen : es.length = kvs.length := by have := congrArg List.length hk; simpa using this
      refine list_dict ha.hh sm e (by rw [hlen]; exact lim_le h) fun h' tk acc' c' hk' hS hacc => ?_
      let l : Loc := ⟨s.heap.objs.size, [], none⟩
      have hn : ∀ a ∈ l.a :: l.ps, s.heap.get? a = none := fun a ha => by
        cases List.mem_singleton.mp ha; exact get?_size _
      have hl : (φ ++ [l])[σ.length]? = some l := by rw [← R.len]; simp
      refine ⟨G, φ ++ [l], R.add hk' hn (by simp [l]) (fun a ha => ?_) ⟨rfl, rfl, acc'.toList, c', by simpa using hS, vs_of_get ?_ fun i u x h1 h2 => ?_⟩, .ref (l := l) hl, step_add hk' hn rfl⟩
      · cases List.mem_singleton.mp ha
        show (h'.get? s.heap.objs.size).isSome
        rw [hS]; rfl
      · simp [hacc.1, hlen]
      · obtain ⟨k, y, e1, e2⟩ := hacc.2 i x (by simpa using h2)
        have hkk := congrArg (fun l => l[i]?) hk
        simp only [List.getElem?_map, e1, Option.map_some] at hkk
        simp only [List.getElem?_map, Option.map_eq_some_iff] at h1
        obtain ⟨q, hq, rfl⟩ := h1
        rw [hq] at hkk
        have hkq : k = q.1 := by simpa using hkk
        have : Value.isInt k x = true := e2
        cases x <;> first | (simp [Value.isInt] at this; done) | (simp [Value.isInt] at this; subst this; rw [hkq]; exact .int _ _)⟩
end
end Mini
open PySem PySem.W PySem.W.X PyProof PyProof.Rows PySem.Calls PySem.Spec PySem.SeqAt
namespace Mini
inductive EvFnF (P : PI) (d : Nat) (kd : Kinds) (t : Expr) (b : List Stmt) : Nat → Vars → AIt → St → Flw → Vars → St → Prop
  | fin {ρ : Vars} {it : AIt} {σ σ₁ : St} {n : Nat} (h1 : EvN P d it σ none σ₁) : EvFnF P d kd t b n ρ it σ .next ρ σ₁
  | more {ρ ρ₁ ρ₂ ρ' : Vars} {it it' : AIt} {v : AVal} {σ σ₁ σ₂ σ₃ σ' : St} {f : Flw} {n : Nat} (h1 : EvN P d it σ (some (v, it')) σ₁) (h2 : EvA P d kd ρ t v σ₁ ρ₁ σ₂) (h3 : EvXsF P d kd ρ₁ b σ₂ .next ρ₂ σ₃) (h4 : EvFnF P d kd t b n ρ₂ it' σ₃ f ρ' σ') : EvFnF P d kd t b (n + 1) ρ it σ f ρ' σ'
  | ret {ρ ρ₁ ρ₂ : Vars} {it it' : AIt} {v w : AVal} {σ σ₁ σ₂ σ₃ : St} {n : Nat} (h1 : EvN P d it σ (some (w, it')) σ₁) (h2 : EvA P d kd ρ t w σ₁ ρ₁ σ₂) (h3 : EvXsF P d kd ρ₁ b σ₂ (.ret v) ρ₂ σ₃) : EvFnF P d kd t b n ρ it σ (.ret v) ρ₂ σ₃
noncomputable def EvFF (P : PI) (d : Nat) (kd : Kinds) (ρ : Vars) (t : Expr) (b : List Stmt) (it : AIt) (σ : St) (f : Flw) (ρ' : Vars) (σ' : St) : Prop := ∃ n, EvFnF P d kd t b n ρ it σ f ρ' σ'
inductive EvFnR (P : PI) (d : Nat) (kd : Kinds) (t : Expr) (b : List Stmt) (X : String) : Nat → Vars → AIt → St → Vars → St → Prop
  | more {ρ ρ₁ ρ₂ ρ' : Vars} {it it' : AIt} {v : AVal} {σ σ₁ σ₂ σ₃ σ' : St} {n : Nat} (h1 : EvN P d it σ (some (v, it')) σ₁) (h2 : EvA P d kd ρ t v σ₁ ρ₁ σ₂) (h3 : EvXs P d kd ρ₁ b σ₂ .next ρ₂ σ₃) (h4 : EvFnR P d kd t b X n ρ₂ it' σ₃ ρ' σ') : EvFnR P d kd t b X (n + 1) ρ it σ ρ' σ'
  | raise {ρ ρ₁ ρ₂ : Vars} {it it' : AIt} {w : AVal} {σ σ₁ σ₂ σ₃ : St} {n : Nat} (h1 : EvN P d it σ (some (w, it')) σ₁) (h2 : EvA P d kd ρ t w σ₁ ρ₁ σ₂) (h3 : EvXsR P d kd ρ₁ b σ₂ X ρ₂ σ₃) : EvFnR P d kd t b X n ρ it σ ρ₂ σ₃
noncomputable def EvFR (P : PI) (d : Nat) (kd : Kinds) (ρ : Vars) (t : Expr) (b : List Stmt) (it : AIt) (σ : St) (X : String) (ρ' : Vars) (σ' : St) : Prop := ∃ n, EvFnR P d kd t b X n ρ it σ ρ' σ'
section
variable {c : Cx} {P : PI} {d : Nat} {A : Around} {env : Env} {l : List Env} {kd : Kinds} {ρ ρ₁ ρ₂ ρ' : Vars} {G G₀ G₁ G' : Imm} {φ φ₀ φ₁ φ' : List Loc} {σ σ₁ σ₂ σ₃ σ' : St} {s s₀ s₁ s' : Shared} {v w a b : AVal} {p : Pos} {X : String}
theorem ff_end {t : Expr} {x : List Stmt} {it : AIt} (h1 : EvN P d it σ none σ₁) : EvFF P d kd ρ t x it σ .next ρ σ₁ := ⟨0, .fin h1⟩
theorem ff_more {t : Expr} {x : List Stmt} {it it' : AIt} {f : Flw} (h1 : EvN P d it σ (some (v, it')) σ₁) (h2 : EvA P d kd ρ t v σ₁ ρ₁ σ₂) (h3 : EvXsF P d kd ρ₁ x σ₂ .next ρ₂ σ₃) (h4 : EvFF P d kd ρ₂ t x it' σ₃ f ρ' σ') : EvFF P d kd ρ t x it σ f ρ' σ' :=
  let ⟨n, h⟩ := h4; ⟨n + 1, .more h1 h2 h3 h⟩
theorem fr_more {t : Expr} {x : List Stmt} {it it' : AIt} (h1 : EvN P d it σ (some (v, it')) σ₁) (h2 : EvA P d kd ρ t v σ₁ ρ₁ σ₂) (h3 : EvXs P d kd ρ₁ x σ₂ .next ρ₂ σ₃) (h4 : EvFR P d kd ρ₂ t x it' σ₃ X ρ' σ') : EvFR P d kd ρ t x it σ X ρ' σ' :=
  let ⟨n, h⟩ := h4; ⟨n + 1, .more h1 h2 h3 h⟩
theorem fr_raise {t : Expr} {x : List Stmt} {it it' : AIt} (h1 : EvN P d it σ (some (a, it')) σ₁) (h2 : EvA P d kd ρ t a σ₁ ρ₁ σ₂) (h3 : EvXsR P d kd ρ₁ x σ₂ X ρ₂ σ₃) : EvFR P d kd ρ t x it σ X ρ₂ σ₃ := ⟨0, .raise h1 h2 h3⟩
structure Loop (c : Cx) (P : PI) (d : Nat) (A : Around) (env : Env) (l : List Env) (kd : Kinds) (it' : Value) (pr : List Addr) (G₀ : Imm) (φ₀ : List Loc) (s₀ : Shared) (ρ : Vars) (it : AIt) (G : Imm) (φ : List Loc) (σ : St) (s : Shared) : Prop where
  h : HereF c P d A env l kd ρ G φ σ s
  i : ItRel c G φ s it it' pr
  st : Step c (owns env ++ fsL l) G₀ φ₀ s₀ G φ s
  up : UpS (fsL l) s₀ s
theorem Loop.after {it' : Value} {pr : List Addr} {it : AIt} (W : Loop c P d A env l kd it' pr G₀ φ₀ s₀ ρ it G φ σ s) (hpo : ∀ a ∈ pr, a ∉ owns env ++ fsL l) (R : Rel c G' φ' σ' s') (L : LocRel c G' φ' env ρ' s'.heap) (F : FrOk env s'.heap) (S : Step c (owns env ++ fsL l) G φ s G' φ' s') (U : UpS (fsL l) s s') : Loop c P d A env l kd it' pr G₀ φ₀ s₀ ρ' it G' φ' σ' s' :=
  ⟨W.h.then R L F S U, W.i.step S hpo, W.st.trans' S, W.up.trans U⟩
theorem Loop.turn {t : Expr} {it' : Value} {pr : List Addr} {it it₂ : AIt} {K Kn : Shared → Prop} {E E1 E2 : Value → Shared → Prop} (W : Loop c P d A env l kd it' pr G₀ φ₀ s₀ ρ it G φ σ s) (hok : LoopT t it) (hps : ∀ a ∈ pr, s₀.heap.get? a = none) (hpo : ∀ a ∈ pr, a ∉ owns env ++ fsL l)
    (hn : EvN P d it σ (some (v, it₂)) σ₁) (h5 : EvA P d kd ρ t v σ₁ ρ₁ σ₂) (k : ∀ G' φ' s', Loop c P d A env l kd it' pr G₀ φ₀ s₀ ρ₁ it₂ G' φ' σ₂ s' → K s') :
    wpAny (Md c) A (pyNext it') (fun r s₁ => match r with
        | none => Kn s₁
        | some v => wpAny (Md c) A (letOwnedTupleGo t it' v) (fun _ s₁' => wpAny (Md c) A (PySem.assign t env v) (fun _ s₂ => K s₂) E2 s₁') E1 s₁) E s := by
  refine noE (wpAny_mono (hn.run W.h.ok W.h.a W.h.r W.i) (fun r' s₁ q => ?_) fun _ _ e => e)
  obtain ⟨G₁, φ₁, R₁, q⟩ := q
  cases r' with
  | none => exact q.elim
  | some w' =>
    obtain ⟨S₁, V₁, I₁⟩ := q
    refine letGo_ok (hn.loopOk hok) I₁ ?_
    have H := W.h
    have hpo' : ∀ a ∈ pr, a ∉ owns env := fun a ha q => hpo a ha (List.mem_append_left _ q)
    have O₁ : ∀ a o, a ∈ owns env → s.heap.get? a = some o → s₁.heap.get? a = some o := fun a o ha e => S₁.frame a o (H.o.away ha).1 (fun z => hpo' a z ha) e
    have U₁ : UpS (fsL l) s s₁ := H.low.exact S₁ fun L hL q => hpo L q (List.mem_append_right _ hL)
    have X₁ : HereX c P d A env kd ρ G₁ φ₁ σ₁ s₁ := ⟨⟨H.ok, H.a, H.kd, R₁, H.l.keeps S₁.g S₁.ext (fun a o ha e => O₁ a o (mem_owns ha) e), H.o.step S₁⟩, H.f.keeps O₁⟩
    have H₁ : HereF c P d A env l kd ρ G₁ φ₁ σ₁ s₁ := ⟨X₁, H.fa, H.ff, H.low.step S₁ U₁, H.ap⟩
    refine noE (wpAny_mono (h5.2 X₁ V₁) (fun _ s₂ ⟨G₂, φ₂, R₂, L₂, F₂, S₂, _⟩ => ?_) fun _ _ e => e)
    have S₂' := S₂.weaken (own' := owns env ++ fsL l) fun _ h => List.mem_append_left _ h
    have SS : Step c (owns env ++ fsL l) G₀ φ₀ s₀ G₁ φ₁ s₁ := W.st.trans S₁ fun b hb => .inr (hps b hb)
    have W₁ : Loop c P d A env l kd it' pr G₀ φ₀ s₀ ρ it₂ G₁ φ₁ σ₁ s₁ := ⟨H₁, I₁, SS, W.up.trans U₁⟩
    exact k _ _ _ (W₁.after hpo R₂ L₂ F₂ S₂' (H₁.exact S₂))
theorem loop_start {t i : Expr} {b' : List Stmt} {it : AIt} {Q : Flow → Shared → Prop} {E : Value → Shared → Prop} (H : HereF c P d A env l kd ρ G φ σ s) (h0 : notSet i = true) (h1 : EvE P d kd ρ i σ v σ₁) (h2 : IterR σ₁ v it)
    (k : ∀ G' φ' it' pr s', Loop c P d A env l kd it' pr G φ s ρ it G' φ' σ₁ s' → (∀ a ∈ pr, s.heap.get? a = none) → (∀ a ∈ pr, a ∉ owns env ++ fsL l) →
      codeAny (Md c) A (.forLoop t it' b' [] env) (fun r s' => match r with | .ok f => Q f s' | .error e => cameBackBy (Md c) A env E e s') s') :
    wpAny (Md c) A (PySem.exec (.For t i b' [] p) env) Q E s := by
  refine wpAny_For (noE (wpAny_mono (h1.run H.toHere) (fun a' s₁ ⟨G₁, φ₁, R₁, V₁, S₁⟩ => noE (wpAny_mono (h2.run R₁ V₁) (fun it' s₂ ⟨pr, R₂, I₂, S₂, hpr⟩ => ?_) fun _ _ e => e)) fun _ _ e => e)) (folded_no h0)
  have hps : ∀ a ∈ pr, s.heap.get? a = none := fun a ha => by
    cases q : s.heap.get? a with
    | none => rfl
    | some o => exact none_of_isSome (S₁.keep a (by rw [q]; rfl)) (hpr a ha)
  have hpo : ∀ a ∈ pr, a ∉ owns env ++ fsL l := fun a ha q => by
    rcases List.mem_append.mp q with q | q
    · exact none_of_isSome (H.o.away q).2 (hps a ha)
    · exact none_of_isSome (H.low.own a q).2.2 (hps a ha)
  have SS := S₁.trans' S₂
  exact k _ _ _ _ _ ⟨H.step R₂ SS, I₂, SS.weaken (fun _ h => nomatch h), H.low.exact SS (fun _ _ h => nomatch h)⟩ hps hpo
theorem xf_for {t i : Expr} {b : List Stmt} {f : Flw} {it : AIt} (h0 : notSet i = true) (h1 : EvE P d kd ρ i σ v σ₁) (h2 : IterR σ₁ v it) (hok : LoopT t it) (h4 : EvFF P d kd ρ t b it σ₁ f ρ' σ') : EvXF P d kd ρ (.For t i b [] p) σ f ρ' σ' := .intro fun {c A env l G φ s} H => by
  obtain ⟨n, h3⟩ := h4
  refine loop_start H h0 h1 h2 fun G₁ φ₁ it' pr s₁ W hps hpo => ?_
  refine codeAny_forLoop_any (fun k s₃ => ∃ ρ₃ σ₃ it₃ G₃ φ₃, LoopT t it₃ ∧ EvFnF P d kd t b k ρ₃ it₃ σ₃ f ρ' σ' ∧ Loop c P d A env l kd it' pr G φ s ρ₃ it₃ G₃ φ₃ σ₃ s₃) ?_ n ⟨ρ, σ₁, it, G₁, φ₁, hok, h3, W⟩
  rintro k s₃ ⟨ρ₃, σ₃, it₃, G₃, φ₃, hok₃, hf, W₃⟩
  cases hf with
  | fin hn =>
    have H₃ := W₃.h
    refine noE (wpAny_mono (hn.run H₃.ok H₃.a H₃.r W₃.i) (fun r' s₄ q => ?_) fun _ _ e => e)
    obtain ⟨G₄, φ₄, R₄, q⟩ := q
    cases r' with
    | some _ => exact q.elim
    | none =>
      have q := q.1
      have S₄ := W₃.st.transE q hps
      have O₄ : ∀ a o, a ∈ owns env → s₃.heap.get? a = some o → s₄.heap.get? a = some o := fun a o ha e => q.frame a o (H₃.o.away ha).1 (fun z => hpo a z (List.mem_append_left _ ha)) e
      have U₄ : UpS (fsL l) s₃ s₄ := fun L hL o e => ⟨o.slots, q.frame L o (H₃.low.own L hL).1 (fun z => hpo L z (List.mem_append_right _ hL)) e⟩
      exact noE (wpAny_execs_nil ⟨G₄, φ₄, R₄, H₃.l.keeps q.g q.ext (fun a o ha e => O₄ a o (mem_owns ha) e), H₃.f.keeps O₄, S₄, W₃.up.trans U₄, .next⟩)
  | more hn h5 h6 hf =>
    refine W₃.turn hok₃ hps hpo hn h5 fun G₅ φ₅ s₅ W₅ => ?_
    refine noE (wpAny_mono (h6.run W₅.h) (fun f' s₆ ⟨G₆, φ₆, R₆, L₆, F₆, S₆, U₆, FR⟩ => ?_) fun _ _ e => e)
    cases FR
    exact ⟨_, Nat.lt_succ_self _, _, _, _, G₆, φ₆, hn.loopOk hok₃, hf, W₅.after hpo R₆ L₆ F₆ S₆ U₆⟩
  | ret hn h5 h6 =>
    refine W₃.turn hok₃ hps hpo hn h5 fun G₅ φ₅ s₅ W₅ => ?_
    refine noE (wpAny_mono (h6.run W₅.h) (fun f' s₆ ⟨G₆, φ₆, R₆, L₆, F₆, S₆, U₆, FR⟩ => ?_) fun _ _ e => e)
    cases FR with
    | ret hv => exact ⟨G₆, φ₆, R₆, L₆, F₆, W₅.st.trans' S₆, W₅.up.trans U₆, .ret hv⟩
theorem xr_for {t i : Expr} {b : List Stmt} {it : AIt} (h0 : notSet i = true) (h1 : EvE P d kd ρ i σ v σ₁) (h2 : IterR σ₁ v it) (hok : LoopT t it) (h4 : EvFR P d kd ρ t b it σ₁ X ρ' σ') : EvXR P d kd ρ (.For t i b [] p) σ X ρ' σ' := .intro fun {c A env l G φ s Q E} H hp hE => by
  obtain ⟨n, h3⟩ := h4
  refine loop_start H h0 h1 h2 fun G₁ φ₁ it' pr s₁ W hps hpo => ?_
  refine codeAny_forLoop_any (fun k s₃ => ∃ ρ₃ σ₃ it₃ G₃ φ₃, LoopT t it₃ ∧ EvFnR P d kd t b X k ρ₃ it₃ σ₃ ρ' σ' ∧ Loop c P d A env l kd it' pr G φ s ρ₃ it₃ G₃ φ₃ σ₃ s₃) ?_ n ⟨ρ, σ₁, it, G₁, φ₁, hok, h3, W⟩
  rintro k s₃ ⟨ρ₃, σ₃, it₃, G₃, φ₃, hok₃, hf, W₃⟩
  cases hf with
  | more hn h5 h6 hf =>
    refine W₃.turn hok₃ hps hpo hn h5 fun G₅ φ₅ s₅ W₅ => ?_
    refine noE (wpAny_mono ((xsf_of h6).run W₅.h) (fun f' s₆ ⟨G₆, φ₆, R₆, L₆, F₆, S₆, U₆, FR⟩ => ?_) fun _ _ e => e)
    cases FR
    exact ⟨_, Nat.lt_succ_self _, _, _, _, G₆, φ₆, hn.loopOk hok₃, hf, W₅.after hpo R₆ L₆ F₆ S₆ U₆⟩
  | raise hn h5 h6 =>
    refine W₃.turn hok₃ hps hpo hn h5 fun G₅ φ₅ s₅ W₅ => ?_
    refine wpAny_mono (h6.run W₅.h hp fun e G' φ' s' I x => hE e G' φ' s' (I.back W₅.st W₅.up H.alive) (x.back W₅.st.keep)) (fun _ _ q => q) fun e s' q => hp e s' q
theorem iter_none {Q : Value → Shared → Prop} {E : Value → Shared → Prop} (hh : A.handled = none) (h : ∀ h' tk e, Heap.NewExc s.heap h' e "TypeError" → E (.ref e) { s with heap := h', toks := tk }) : wpAny (Md c) A (pyIter .none) Q E s := by
  have hT : typeOf .none = pure (.type "NoneType") := rfl
  have l1 : typeLookup (.type "NoneType") "__iter__" = pure none := by rw [typeLookup_type, builtinLookup_eq_fast]; kernel_rfl
  have l2 : typeLookup (.type "NoneType") "__getitem__" = pure none := by rw [typeLookup_type, builtinLookup_eq_fast]; kernel_rfl
  unfold pyIter
  refine wpAny_bind (wpAny_specialOf_val hT l1 ?_)
  refine wpAny_bind (wpAny_specialOf_val hT l2 ?_)
  refine wpAny_bind (wpAny_rule ?_)
  have hn : typeName (.type "NoneType") = pure "NoneType" := by unfold typeName; rw [find?_eq_fast]; kernel_rfl
  refine wpAny_bind (m := PySem.typeNameOf .none) ?_
  unfold PySem.typeNameOf shownTypeOf
  refine wpAny_bind (wpAny_bind (wpAny_of_eq hT ?_))
  simp only [show (Value.type "NoneType" == Value.type "builtin_function_or_method") = false by decide, Bool.false_eq_true, if_false]
  refine wpAny_pure (wpAny_of_eq hn ?_)
  exact_raiseError plainExc_TypeError hh h
theorem xr_forNone {t i : Expr} {b : List Stmt} (h0 : notSet i = true) (h1 : EvE P d kd ρ i σ .none σ₁) : EvXR P d kd ρ (.For t i b [] p) σ "TypeError" ρ σ₁ := .intro fun {c A env l G φ s Q E} H hp hE => by
  refine wpAny_For (noE (wpAny_mono (h1.run H.toHere) (fun a' s₁ ⟨G₁, φ₁, R₁, V₁, S₁⟩ => ?_) fun _ _ e => e)) (folded_no h0)
  cases V₁ using VRel.noneE
  refine iter_none H.a.hh fun h' tk e x => ?_
  have H₁ := H.step R₁ S₁
  have ext := step_ext (c := c) (own := []) (G := G₁) (φ := φ₁) (s := s₁) (tk := tk) x.keeps
  have SS := S₁.trans' ext
  have R₂ := rel_ext (tk := tk) R₁ x.keeps
  obtain ⟨ob, t', he, hc, hd⟩ := x.there
  refine hE e G₁ φ₁ _ ⟨H₁.step R₂ ext, SS.weaken (fun _ h => nomatch h), H.low.exact SS (fun _ _ h => nomatch h), H.alive⟩ (.new ob t' he hc hd ?_ (R₁.fresh_foot x.new) (R₁.fresh_G x.new))
  cases q : s.heap.get? e with
  | none => rfl
  | some o => exact none_of_isSome (S₁.keep e (by rw [q]; rfl)) x.new
end
end Mini
open PySem PySem.W PySem.W.X PyProof PyProof.Rows PySem.Calls PySem.Spec PySem.SeqAt PySem.MeetsSeq
namespace Mini
section
variable {c : Cx} {P : PI} {d : Nat} {A : Around} {env : Env} {l : List Env} {kd : Kinds} {ρ ρ₁ ρ₂ ρ' : Vars} {G G₀ G₁ G' : Imm} {φ φ₀ φ₁ φ' : List Loc} {σ σ₁ σ₂ σ₃ σ' : St} {s s₀ s₁ s' : Shared} {v w a b : AVal} {p : Pos} {X : String}
structure EvH (P : PI) (d : Nat) (kd : Kinds) (ρ : Vars) (hs : List ExceptHandler) (σ : St) (X : String) (f : Flw) (ρ' : Vars) (σ' : St) : Prop where
  intro ::
  run : ∀ {c A env l G₀ φ₀ s₀ G φ s e} {Q : Flow → Shared → Prop} {E : Value → Shared → Prop}, In c P d A env l kd ρ G₀ φ₀ s₀ G φ σ s → Flies c G φ (env :: l) e X s₀ s → (∀ f' s', AfterF c env l G₀ φ₀ s₀ ρ' σ' s' (fun G' φ' => FRel c G' φ' f f') → Q f' s') → wpAny (Md c) A (handleBy (.ref e) env hs) Q E s
theorem glob_any {B : Around} {x : Str} (h1 : (nmOk x && (kd x == some .globalImplicit)) = true) (h : P.glob x = some v) {Q : Value → Shared → Prop} {E : Value → Shared → Prop} (H : Here c P d A env kd ρ G φ σ s) (q : ∀ v', VRel c G φ v v' → Q v' s) : wpAny (Md c) B (PySem.eval (.Name x p) env) Q E s := by
  rw [Bool.and_eq_true] at h1
  obtain ⟨hx, hx'⟩ := nmOk_of h1.1
  have hk := eq_of_beq h1.2
  rw [H.kd] at hk
  refine wpAny_Name ?_ hx
  obtain ⟨v', hv, V⟩ := H.ok.glob x v h
  have hg := H.ok.ok.g.keeps H.r.keepB
  have hb := H.ok.ok.b.keeps H.r.keepB
  have hbk : env.blockKind = .function := by unfold Env.blockKind; rw [H.l.kind]; rfl
  have han : env.scope.kind.isAnnotationScope = false := by rw [H.l.kind]; rfl
  unfold loadName
  rw [han]
  simp only [Bool.false_and, Bool.false_eq_true, if_false, hbk, hk]
  unfold loadGlobal
  rw [H.l.glob, H.l.bi]
  refine wpAny_bind (wpAny_nsGet hg ?_)
  rcases hv with hv | ⟨hv, hv'⟩
  · rw [hv]; exact wpAny_pure (q _ (V _ _))
  · rw [hv]
    refine wpAny_bind (wpAny_nsGet hb ?_)
    rw [hv']; exact wpAny_pure (q _ (V _ _))
theorem Flies.isA {e : Addr} (x : Flies c G φ l e X s₀ s) : s.TypeIs (.ref e) X := by
  obtain ⟨base, a0, h, bb⟩ := x
  obtain ⟨ob, h1, h2⟩ := h.there
  exact ⟨ob, h1, h2⟩
theorem h_hit {x : Str} {px pos : Pos} {b₀ : Stmt} {suite : List Stmt} {rest : List ExceptHandler} {T : String} {f : Flw} (h0 : (nmOk x && (kd x == some .globalImplicit)) = true) (hg : P.glob x = some (.ty T)) (h3 : subB X (.type T) = some true) (h1 : subB T (.type "BaseException") = some true) (h2 : subB ((Manifest.find? T).elim "type" fun y => y.metatype) (.type "tuple") = some false)
    (hs : EvXsM P d kd ρ (b₀ :: suite) σ f ρ' σ') : EvH P d kd ρ (.ExceptHandler (some (.Name x px)) none (b₀ :: suite) pos :: rest) σ X f ρ' σ' := .intro fun {c A env l G₀ φ₀ s₀ G φ s e Q E} I fl hQ => by
  refine wpAny_handleBy_builtin (X := X) (T := T) (b := true) (isSubtype_of_subB h1) (isSubtype_of_subB h2) (isSubtype_of_subB h3) (glob_any h0 hg I.h.toHere fun v' V => ?_)
  cases V using VRel.tyE
  refine ⟨rfl, fl.isA, ?_⟩
  rw [if_pos rfl]
  refine fly_land I fl fun s₁ I₁ fl₁ => noE (wpAny_mono (hs.run I₁.h.toHereX) (fun f' s' ⟨G', φ', R, L, F, S, k⟩ => hQ f' s' ?_) fun _ _ e => e)
  exact ⟨G', φ', R, L, F, I₁.st.trans' (S.weaken fun b hb => List.mem_append_left _ hb), I₁.up.trans (I₁.h.exact S), k⟩
theorem xf_tryR {body : List Stmt} {h₀ : ExceptHandler} {hs : List ExceptHandler} {f : Flw} (h1 : EvXsR P d kd ρ body σ X ρ₁ σ₁) (h2 : EvH P d kd ρ₁ (h₀ :: hs) σ₁ X f ρ' σ') : EvXF P d kd ρ (.Try body (h₀ :: hs) [] [] p) σ f ρ' σ' := .intro fun {c A env l G φ s} H => by
  refine wpAny_Try_except (h1.run H PassesOwn.looking fun e G' φ' s' I x => ?_)
  exact exc_note I x fun s₁ I₁ x₁ => held_land I₁ x₁ fun s₂ I₂ x₂ => h2.run I₂ x₂ fun f' s₃ q => q
theorem x_tryN {body : List Stmt} {h₀ : ExceptHandler} {hs : List ExceptHandler} (h1 : EvXs P d kd ρ body σ .next ρ' σ') : EvX P d kd ρ (.Try body (h₀ :: hs) [] [] p) σ .next ρ' σ' := .intro fun {c A env G φ s} H => by
  refine wpAny_Try_except (noE (wpAny_mono (h1.run H) (fun f' s₁ ⟨G₁, φ₁, R₁, L₁, F₁, S₁, FR⟩ => ?_) fun _ _ e => e))
  cases FR
  exact wpAny_execs_nil ⟨G₁, φ₁, R₁, L₁, F₁, S₁, .next⟩
theorem em_var {x : Str} (h1 : (nmOk x && Kinds.isVar kd x) = true) (h : ρ x = some v) : EvEM P d kd ρ (.Name x p) σ v σ := .intro fun {c A B env G φ s} H => by
  rw [Bool.and_eq_true] at h1
  obtain ⟨hx, hx'⟩ := nmOk_of h1.1
  refine wpAny_Name ?_ hx
  have hv := h1.2
  unfold Kinds.isVar at hv
  rw [H.kd] at hv
  split at hv
  · rename_i hk
    obtain ⟨m, hn, hv⟩ := H.l.ns
    obtain ⟨v', e, V⟩ := hv x v hk h
    exact wpAny_loadName_local H.l.kind hk hn e (gives_here H.r V)
  · rename_i hk
    obtain ⟨ca, v', e, hc, V⟩ := H.l.cell x v (.inl hk) h
    exact wpAny_loadName_cell H.l.kind hk e hc (gives_here H.r V)
  · rename_i hk
    obtain ⟨ca, v', e, hc, V⟩ := H.l.cell x v (.inr hk) h
    exact wpAny_loadName_free H.l.kind hk e hc (gives_here H.r V) hx'
  · cases hv
theorem em_bool {z : Bool} {k} : EvEM P d kd ρ (.Constant (.bool z) k p) σ (.bool z) σ := .intro fun H => wpAny_Constant_bool (gives_here H.r (.bool _))
theorem em_attr {o : Expr} {x : Str} {i : Nat} {ats : List (Str × AVal)} (h0 : PlainE o) (h0' : P.attrOk x = true) (h1 : EvEM P d kd ρ o σ (.ref i) σ₁) (h2 : σ₁[i]? = some (.inst ats)) (h3 : ats.lookup x = some v) : EvEM P d kd ρ (.Attribute o x p) σ v σ₁ := .intro fun {c A B env G φ s} H => by
  refine Attribute_any_ (wpAny_mono (h1.run H) (fun a' s₁ ⟨G₁, φ₁, R₁, V₁, S₁⟩ => ?_) fun _ _ e => e) (by
    cases h0 <;> with_unfolding_all rfl)
  cases V₁ using VRel.refE with
  | ref hl =>
    obtain ⟨d, es, n, _, I, _, _, h6⟩ := R₁.instAt hl h2
    have h7 := h6 x
    rw [h3] at h7
    obtain ⟨v', e1, e2, e3⟩ := h7
    obtain ⟨_, at_, ha, hn⟩ := H.ok.attr x h0'
    exact get_value (H.ok.ok.x.keeps R₁.keepB) I H.ok.ga (findObj_own H.ok.hd ha hn (by rw [lookIn_dict]; exact e1)) e2 ⟨G₁, φ₁, R₁.toks _, e3, S₁.trans' (step_toks _)⟩
theorem xm_nil : EvXsM P d kd ρ [] σ .next ρ σ := .intro fun {c A B env G φ s} H => wpAny_execs_nil ⟨G, φ, H.r, H.l, H.f, .refl .., .next⟩
theorem xm_assign {x : Str} {q : Pos} {e : Expr} {ss : List Stmt} {f : Flw} (h0 : (!isComp e && (kd x == some .local)) = true) (hw : ∀ env, swappedStores [.Name x q] e env = pure none) (h1 : EvEM P d kd ρ e σ v σ₁) (h2 : EvXsM P d kd (Vars.set ρ x v) ss σ₁ f ρ' σ') : EvXsM P d kd ρ (.Assign [.Name x q] e p :: ss) σ f ρ' σ' := .intro fun {c A B env G φ s} H => by
  rw [Bool.and_eq_true, Bool.not_eq_true'] at h0
  refine wpAny_execs_cons (wpAny_Assign_stores (wpAny_mono (h1.run H.toHere) (fun v' s₁ ⟨G₁, φ₁, R₁, V₁, S₁⟩ => ?_) fun _ _ e => e) (swaps_no (t := some (.Name x q)) (k := p.line) (env := env) h0.1) (hw env))
  show wpAny _ _ (PySem.assign (.Name x q) env v') _ _ _
  refine wpAny_assign_Name (wpAny_mono (sim_store (.inl (eq_of_beq h0.2)) (H.step R₁ S₁) V₁) (fun _ s₂ ⟨G₂, φ₂, R₂, L₂, F₂, S₂, _⟩ => ?_) fun _ _ e => e)
  exact Does.after (h2.run ((H.step R₁ S₁).then R₂ L₂ F₂ S₂)) ((S₁.weaken fun _ h => nomatch h).trans' S₂)
theorem e_andT {x y : Expr} {z : Bool} (h1 : EvE P d kd ρ x σ (.bool true) σ₁) (h2 : EvE P d kd ρ y σ₁ (.bool z) σ₂) : EvE P d kd ρ (.BoolOp .And [x, y] p) σ (.bool z) σ₂ := .intro fun {c A env G φ s} H =>
  BoolOp_and (wpAny_mono (h1.run H) (fun v' s₁ ⟨G₁, φ₁, R₁, V₁, S₁⟩ => by
    cases V₁ using VRel.boolE
    exact wpAny_truthy_bool (Gives.after (h2.run (H.step R₁ S₁)) S₁)) fun _ _ e => e)
theorem e_andF {x y : Expr} (h1 : EvE P d kd ρ x σ (.bool false) σ₁) : EvE P d kd ρ (.BoolOp .And [x, y] p) σ (.bool false) σ₁ := .intro fun {c A env G φ s} H =>
  BoolOp_and (wpAny_mono (h1.run H) (fun v' s₁ ⟨G₁, φ₁, R₁, V₁, S₁⟩ => by
    cases V₁ using VRel.boolE
    exact wpAny_truthy_bool ⟨G₁, φ₁, R₁, .bool _, S₁⟩) fun _ _ e => e)
theorem c_neB {x y q : Bool} (h : (x != y) = q) : CmpR .NotEq (.bool x) (.bool y) σ q := c_neD (.bool) (.bool) (by cases x <;> rfl) (by cases y <;> rfl) (by cases x <;> cases y <;> rfl) (by subst h; cases x <;> cases y <;> rfl)
inductive LsN (σ : St) : AVal → Prop
  | none : LsN σ .none
  | list {i : Nat} {vs : List AVal} (h : σ[i]? = some (.list vs)) : LsN σ (.ref i)
noncomputable def isN : AVal → Bool
  | .none => true
  | _ => false
noncomputable def isNV : Value → Bool
  | .none => true
  | _ => false
theorem lsN_eq {A : Around} (R : Rel c G φ σ s) (hu : A.units < cLine) {x : AVal} {x' : Value} (h : LsN σ x) (V : VRel c G φ x x') : EqAt A s x' .none (isNV x') ∧ isNV x' = isN x := by
  cases h with
  | none => cases V using VRel.noneE; exact ⟨EqAt.same _, rfl⟩
  | list h =>
    cases V using VRel.refE with
    | ref hl =>
      obtain ⟨_, _, items, m, e, _⟩ := R.obj _ _ _ hl h
      exact ⟨EqAt.list_none (items := items.toArray) ⟨_, e, rfl, _, rfl⟩ hu, rfl⟩
theorem lsN_all {A : Around} (R : Rel c G φ σ s) (hu : A.units < cLine) : ∀ {vs : List AVal} {vs' : List Value}, (∀ x ∈ vs, LsN σ x) → VsRel c G φ vs vs' → (∀ y ∈ vs', EqAt A s y .none (isNV y)) ∧ vs'.map isNV = vs.map isN
  | [], _, _, h => by cases h using VsRel.nilE; exact ⟨(fun _ h => nomatch h), rfl⟩
  | x :: r, _, hx, h => by
    cases h using VsRel.consE with
    | cons h1 h2 =>
      obtain ⟨i1, i2⟩ := lsN_all R hu (fun y hy => hx y (.tail _ hy)) h2
      obtain ⟨j1, j2⟩ := lsN_eq R hu (hx x (.head _)) h1
      exact ⟨fun y hy => by
        rcases List.mem_cons.mp hy with rfl | hy
        · exact j1
        · exact i1 y hy, by rw [List.map_cons, List.map_cons, i2, j2]⟩
theorem any_map {α : Type} (f : α → Bool) : ∀ l : List α, l.any f = (l.map f).any id
  | [] => rfl
  | x :: r => by rw [List.any_cons, List.map_cons, List.any_cons, any_map f r]; rfl
theorem c_inNone {vs : List AVal} {i : Nat} {q : Bool} (h1 : σ[i]? = some (.list vs)) (hv : ∀ x ∈ vs, LsN σ x) (h : vs.any isN = q) : CmpR .In .none (.ref i) σ q := .intro fun {c A d G φ s a' b' Q E} ha R Va Vb k => by
  subst h
  cases Va using VRel.noneE
  cases Vb using VRel.refE with
  | ref hl =>
    obtain ⟨_, _, items, m, e, rr⟩ := R.obj _ _ _ hl h1
    obtain ⟨i1, i2⟩ := lsN_all (A := A.in1) R (by have := ha.units; show A.units + 1 < cLine; unfold cLine; lia) hv rr
    refine SeqAt.in_listAt isNV ⟨_, e, rfl, _, rfl⟩ (fun y hy => i1 y (by simpa using hy)) ?_
    rw [List.any_toArray, any_map, i2, ← any_map]
    exact k _ R (.refl ..)
end
theorem remove_loopAt (l : Addr) (items : Array Value) (n : Nat) (x : Value) (e : Value → Bool) (j : Nat) (hj : j < items.size) (hit : e items[j] = true) (hs1 : items.size ≤ sizeLine) : ∀ (k i : Nat), j - i = k → i ≤ j → (∀ m (hm : m < items.size), i ≤ m → m < j → e items[m] = false) → Meets (Builtin.«list.remove.loop» ⟨[.ref l, x, rawInt i], []⟩)
      (fun A R s => s.heap.get? l = some { cls := .type "list", dict := none, data := .seq items n, slots := #[] } ∧ (∀ y, y ∈ items → EqAt A.in1 s y x (e y)) ∧ R (.ok (.ret .none)) { s with heap := s.heap.update l (Obj.mapSeq fun xs => xs.eraseIdxIfInBounds j) }) := by
  intro k
  induction k with
  | zero =>
    intro i hk hij hno prog w A R s h
    obtain ⟨hp, g, d, tk, os⟩ := s
    obtain ⟨hl, he, h⟩ := h
    obtain rfl : i = j := by lia
    wp_walk using wpAny_loadPart' hl
    rw [show items[((i : Nat) : Int).toNat]? = some items[i] by simp [hj]]
    refine wpAny_bind (he _ (Array.getElem_mem hj) prog w _ _ ?_)
    rw [hit]
    have hz' : (items.eraseIdxIfInBounds i).size ≤ sizeLine + 1 := Nat.le_trans (size_erased items _) (Nat.le_succ_of_le hs1)
    wp_walk using (wpAny_updateSeq hl rfl (hz := hs1) (_hz' := hz')), wpAny_loadPart' hl
    simpa using h
  | succ k ih =>
    intro i hk hij hno prog w A R s h
    obtain ⟨hp, g, d, tk, os⟩ := s
    obtain ⟨hl, he, h⟩ := h
    have hlt : i < items.size := by lia
    wp_walk using wpAny_loadPart' hl
    rw [show items[((i : Nat) : Int).toNat]? = some items[i] by simp [hlt]]
    refine wpAny_bind (he _ (Array.getElem_mem hlt) prog w _ _ ?_)
    rw [hno i hlt (Nat.le_refl _) (by lia)]
    wp_walk
    rw [show ((i : Int) + 1) = ((i + 1 : Nat) : Int) by push_cast; rfl]
    exact ⟨plainId_quiet plain_remove_loop _, codeAny_builtin entry_remove_loop (by
      rw [Around.under_plainId plain_remove_loop _]
      exact ih (i + 1) (by lia) (by lia) (fun m hm h1 h2 => hno m hm (by lia) h2) prog w A R _ ⟨hl, he, h⟩)⟩
theorem list_removeAt (l : Addr) (items : Array Value) (n : Nat) (x : Value) (e : Value → Bool) (j : Nat) (hj : j < items.size) (hit : e items[j] = true) (hno : ∀ m (hm : m < items.size), m < j → e items[m] = false) (hs1 : items.size ≤ sizeLine) :
    Meets (Builtin.«list.remove» ⟨[.ref l, x], []⟩)
      (fun A R s => s.heap.get? l = some { cls := .type "list", dict := none, data := .seq items n, slots := #[] } ∧ (∀ y, y ∈ items → EqAt A.in1 s y x (e y)) ∧ R (.ok (.ret .none)) { s with heap := s.heap.update l (Obj.mapSeq fun xs => xs.eraseIdxIfInBounds j) }) := by
  intro prog w A R s h
  obtain ⟨hp, g, d, tk, os⟩ := s
  obtain ⟨hl, he, h⟩ := h
  wp_walk using wpAny_loadPart' hl
  exact ⟨plainId_quiet plain_remove_loop _, codeAny_builtin entry_remove_loop (by
    rw [Around.under_plainId plain_remove_loop _]
    exact remove_loopAt l items n x e j hj hit hs1 j 0 rfl (Nat.zero_le _) (fun m hm _ h2 => hno m hm h2) prog w A R _ ⟨hl, he, h⟩)⟩
end Mini
open PySem PySem.W PySem.W.X PyProof PyProof.Rows PySem.Calls PySem.Spec PySem.SeqAt PySem.MeetsSeq
namespace Mini
section
variable {c : Cx} {P : PI} {d : Nat} {A : Around} {env : Env} {l : List Env} {kd : Kinds} {ρ ρ₁ ρ₂ ρ' : Vars} {G G₀ G₁ G' : Imm} {φ φ₀ φ₁ φ' : List Loc} {σ σ₁ σ₂ σ₃ σ' : St} {s s₀ s₁ s' : Shared} {v w a b : AVal} {p : Pos} {X : String}
theorem VsRel.erase : ∀ {vs : List AVal} {vs' : List Value} (j : Nat), VsRel c G φ vs vs' → VsRel c G φ (vs.eraseIdx j) (vs'.eraseIdx j)
  | _, _, _, .nil => .nil
  | _, _, 0, .cons _ t => by simpa using t
  | _, _, j + 1, .cons h t => by
    rw [List.eraseIdx_cons_succ, List.eraseIdx_cons_succ]
    exact .cons h (VsRel.erase j t)
theorem mt_remove {i : Nat} {vs : List AVal} (h : σ[i]? = some (.list vs)) : MethR σ (.ref i) "remove" "list.remove" := listMeth F.slot_list_remove F.type_list_remove h
theorem c_removeN {i : Nat} {pre post : List AVal} (h1 : σ[i]? = some (.list (pre ++ .none :: post))) (hv : ∀ x ∈ pre ++ .none :: post, LsN σ x) (hp : ∀ x ∈ pre, isN x = false) (h3 : (pre ++ .none :: post).length ≤ lim) :
    EvC P d (.bi "list.remove") [.ref i, .none] σ .none (σ.set i (.list (pre ++ post))) := ⟨rfl, fun {c A G φ s f' vs'} ok ha R Vf V => by
  cases Vf using VRel.biE
  cases V using VsRel.consE with
  | cons hw ht =>
    cases ht using VsRel.consE with
    | cons hz ht2 =>
      cases ht2 using VsRel.nilE
      cases hz using VRel.noneE
      cases hw using VRel.refE with
      | ref hl =>
        obtain ⟨_, _, items, m, e, rr⟩ := R.obj _ _ _ hl h1
        have hlen := rr.length
        obtain ⟨i1, i2⟩ := lsN_all (A := A.in1) R (by have := ha.units; show A.units + 1 < cLine; unfold cLine; lia) hv rr
        have at_ : ∀ k : Nat, (items[k]?).map isNV = ((pre ++ AVal.none :: post)[k]?).map isN := fun k => by rw [← List.getElem?_map, ← List.getElem?_map, i2]
        have hj : pre.length < items.length := by rw [← hlen]; simp
        refine call_meets F.slot_list_remove ⟨_, e, rfl⟩ F.entry_list_remove (F.args_list_remove_2 _ _) (list_removeAt _ items.toArray m .none isNV pre.length (by simpa using hj) ?_ ?_ (by rw [List.size_toArray, ← hlen]; exact lim_le h3)) ⟨e, fun y hy => i1 y (by simpa using hy), ?_⟩
        · have := at_ pre.length
          rw [List.getElem?_eq_getElem hj] at this
          simpa [isN] using this
        · intro k hk hkj
          have hk' : k < items.length := by simpa using hk
          have := at_ k
          rw [List.getElem?_eq_getElem hk', List.getElem?_append_left hkj, List.getElem?_eq_getElem hkj] at this
          have h2 := hp _ (List.getElem_mem hkj)
          rw [Option.map_some, Option.map_some, h2] at this
          simpa using this
        · have ho' := Heap.get?_update_self (Obj.mapSeq fun xs : Array Value => xs.eraseIdxIfInBounds pre.length) e rfl
          have hV : VsRel c G φ (pre ++ post) (items.eraseIdx pre.length) := by
            have := rr.erase pre.length
            rwa [List.eraseIdx_append_of_length_le (Nat.le_refl _), Nat.sub_self, List.eraseIdx_cons_zero] at this
          obtain ⟨R', S'⟩ := R.relist (tk := s.toks) (items' := items.eraseIdx pre.length) hl h1 (by
            rw [ho']
            have : items.toArray.eraseIdxIfInBounds pre.length = (items.eraseIdx pre.length).toArray := by
              rw [Array.eraseIdxIfInBounds, dif_pos (by simpa using hj)]
              apply Array.ext'
              simp
            exact congrArg (fun z => some ({ cls := .type "list", data := Data.seq z (if ((items.toArray.eraseIdxIfInBounds pre.length).size == items.toArray.size) = true then m else m + 1) } : Obj)) this) (Heap.SameBut.update ..) hV
          exact ⟨G, φ, R', .none, S'⟩⟩
theorem callFnF {f : Fn} {ps : List Str} {body : List Stmt} {names : List (Str × NameKind)} {vs : List AVal} {vs' : List Value} {fl : Flw} (F : FnOk c f ps body names) (h : EvXsF P d (fun x => names.lookup x) (bindAll ps vs) body σ fl ρ' σ') (hlen : ps.length = vs.length) (hfl : retOf fl = some v)
    (ok : COk c P) (ha : GoodA (d + 1) A) (R : Rel c G φ σ s) (V : VsRel c G φ vs vs') (hfr : A.frames = some l) (hl : Low c G φ l s) {Q : Value → Shared → Prop} {E : Value → Shared → Prop} (q : ∀ v' s' G' φ', Rel c G' φ' σ' s' → VRel c G' φ' v v' → Step c (fsL l) G φ s G' φ' s' → UpS (fsL l) s s' → Q v' s') :
    codeAny (Md c) A (.call (.ref f.addr) ⟨vs', []⟩) (fun r s' => match r with | .ok (.ret v) => Q v s' | .ok _ => False | .error e => E e s') s := by
  refine fn_enter F hlen ok ha R V fun env s₁ G₁ he H S fresh => ?_
  have hff : env.frame = some env.locals := by subst he; rfl
  have hal : ∀ b ∈ owns env, ∀ L ∈ fsL l, L ≠ b := fun b hb L hL z => none_of_isSome (hl.own L hL).2.2 (by rw [z]; exact fresh b hb)
  have HF : HereF c P d (A.deeper env) env l (fun x => names.lookup x) (bindAll ps vs) G₁ φ σ s₁ := ⟨H, Around.frames_deeper hfr, hff, hl.step S (hl.exact S fun _ _ h => nomatch h), fun L hL q => hal L q L hL rfl⟩
  refine wpAny_mono (h.run HF) (fun f' s₂ ⟨G₂, φ₂, R₂, _, _, S₂, U₂, FR⟩ => ?_) fun _ _ e => e
  have SS : Step c (fsL l) G φ s G₂ φ₂ s₂ := (S.weaken (own' := fsL l) fun _ h => nomatch h).trans S₂ fun b hb => (List.mem_append.mp hb).elim (fun hb => .inr (fresh b hb)) .inl
  have UU := (hl.exact S fun _ _ h => nomatch h).trans U₂
  cases FR with
  | next => cases hfl; exact q _ _ _ _ R₂ .none SS UU
  | ret hv => cases hfl; exact q _ _ _ _ R₂ hv SS UU
  | brk => cases hfl
  | cont => cases hfl
theorem law_joinF {cw : ClaimW} {cl : Str → Option Addr} {mean : ExcName → Option Value} {args : List WData} {s₁ : Shared} {f : Fn} {ns : List Int} {L : Addr} {items : List Value} {x : Str} {body : List Stmt} {names : List (Str × NameKind)}
    (ok : COk c P) (hB : c.B = ghostOf s₁.heap c.tabs) (hT : TabsAt c.tabs s₁.heap) (hnd : (c.tabs.map (·.2)).Nodup) (hg : s₁.gens = #[]) (F : FnOk c f [x] body names) (hL : s₁.heap.IsList L items.toArray) (hI : IntsAre items ns) (ha : GoodA (d + 1) A) (hfr : A.frames = some [])
    (hrun : EvXsF P d (fun y => names.lookup y) (bindAll [x] [.scr ns]) body [] (.ret (.bool true)) ρ' σ') (hpost : cw.post args (.bool true) args = true) (hraise : ∀ cls, cw.raises args cls = false) :
    codeAny (Md c) A (.call (.ref f.addr) ⟨[.ref L], []⟩) (GoodWG cw cl mean args s₁) s₁ := by
  have R := rel_start hB hT hnd hg
  have hLB : ∃ o, c.B.get? L = some o ∧ o.cls = .type "list" ∧ ∃ m, o.data = .seq items.toArray m := by
    obtain ⟨o, e, hc, m, hd⟩ := hL
    exact ⟨o, by rw [hB]; exact ghost_get hT e (fun q => by rw [q] at hc; cases hc), hc, m, hd⟩
  obtain ⟨o, e, hc, m, hd⟩ := hLB
  have V : VsRel c (fun a => c.B.get? a) [] [.scr ns] [.ref L] := .cons (.scr e hc m hd hI) .nil
  refine codeAny_mono (callFnF (v := .bool true) (Q := fun v' s' => v' = .bool true ∧ OldK s₁.heap s'.heap ∧ s'.os = s₁.os ∧ AllBare s'.gens) (E := fun _ _ => False) F hrun rfl rfl ok ha R V hfr Low.nil fun v' s' G' φ' R' V' S' U' => ?_) fun r s' hr => ?_
  · cases V' using VRel.boolE
    have keep : ∀ b o, b ∉ c.tabs.map (·.2) → s₁.heap.get? b = some o → s'.heap.get? b = some o := fun b o hb e => R'.gh _ _ (S'.g _ _ (by show c.B.get? b = some o; rw [hB]; exact ghost_ne e hb))
    have grown : ∀ b o, b ∈ c.tabs.map (·.2) → s₁.heap.get? b = some o → isCodeTable s₁.heap b ∧ o = tabObj #[] ∧ ∃ ps, s'.heap.get? b = some (tabObj ps) := fun b o hb e => by
      obtain ⟨q, hq, rfl⟩ := List.mem_map.mp hb
      have e2 := (hT q hq).2
      rw [e] at e2
      obtain ⟨ps, e3, _⟩ := R'.tab q hq
      exact ⟨((hT q hq).1.tab (hT q hq).2).isCodeTable, Option.some.inj e2, ps, e3⟩
    refine ⟨rfl, ⟨fun b o e => ?_, fun b o e => ?_⟩, S'.os, ?_⟩
    · by_cases hb : b ∈ c.tabs.map (·.2)
      · obtain ⟨ht, rfl, ps, hP⟩ := grown b o hb e
        exact .inr (.inl ⟨ht, rfl, #[], ps, rfl, by rw [Array.empty_append]; exact hP⟩)
      · exact .inl (keep b o hb e)
    · by_cases hb : b ∈ c.tabs.map (·.2)
      · obtain ⟨_, _, ps, hP⟩ := grown b o hb e
        exact ⟨_, hP⟩
      · exact ⟨o, keep b o hb e⟩
    · exact R'.bare
  · split at hr
    · obtain ⟨rfl, hK, hos, hb⟩ := hr
      exact ⟨.inl ⟨_, .bool true, [], rfl, hraise, .bool true, hpost, fun _ => ⟨List.nodup_nil, fun _ h => nomatch h⟩⟩, hK, hos, hb⟩
    · exact hr.elim
    · exact hr.elim
end
end Mini
open PySem PySem.W PyProof PyProof.Rows PySem.Calls
namespace Mini
section
variable {P : PI} {d : Nat} {kd : Kinds} {ρ ρ₁ ρ₂ ρ' : Vars} {σ σ₁ σ₂ σ' : St} {x : Str} {elt : Expr} {ifs : List Expr}
theorem cm_rngIfAFrom {f : Nat → AVal} {g : Nat → Bool} (n₀ : Nat) (hlen : n₀ ≤ lim) (ht : ∀ i : Nat, i < n₀ → ∀ l τ, ∃ τ', EvTs P d kd (Vars.set ρ x (.int (i : Int))) .And ifs (σ₁ ++ [.list l] ++ τ) (g i) (σ₁ ++ [.list l] ++ (τ ++ τ')))
    (h : ∀ i : Nat, i < n₀ → g i = true → ∀ l τ, EvE P d kd (Vars.set ρ x (.int (i : Int))) elt (σ₁ ++ [.list l] ++ τ) (f i) (σ₁ ++ [.list l] ++ τ)) :
    ∀ (n k : Nat) (l : List AVal) (τ : St), k + n = n₀ → l.length ≤ k → ∃ τ', EvCm P d kd ρ x elt ifs σ₁.length (.rng (k : Int) n 1) (σ₁ ++ [.list l] ++ τ) (σ₁ ++ [.list (l ++ ((List.range' k n).filter g).map f)] ++ (τ ++ τ'))
  | 0, k, l, τ, hk, hl => ⟨[], by simpa using cm_end (n_rngEnd (by decide))⟩
  | n + 1, k, l, τ, hk, hl => by
    have e1 : (k : Int) + 1 = ((k + 1 : Nat) : Int) := by lia
    have e2 : (((n + 1 : Nat) : Int) - 1) = n := by lia
    obtain ⟨τ1, t1⟩ := ht k (by lia) l τ
    rw [List.range'_succ]
    cases q : g k with
    | true =>
      obtain ⟨τ2, h2⟩ := cm_rngIfAFrom n₀ hlen ht h n (k + 1) (l ++ [f k]) (τ ++ τ1) (by lia) (by simp; lia)
      rw [q] at t1
      refine ⟨τ1 ++ τ2, cm_take (n_rng (by lia)) t1 (h k (by lia) q l (τ ++ τ1)) (get_old get_new) (by lia) ?_⟩
      rw [set_mid, e1, e2, List.filter_cons_of_pos q, List.map_cons]
      have e3 : l ++ f k :: ((List.range' (k + 1) n).filter g).map f = l ++ [f k] ++ ((List.range' (k + 1) n).filter g).map f := by simp
      rw [e3, ← List.append_assoc τ]
      exact h2
    | false =>
      obtain ⟨τ2, h2⟩ := cm_rngIfAFrom n₀ hlen ht h n (k + 1) l (τ ++ τ1) (by lia) (by lia)
      rw [q] at t1
      refine ⟨τ1 ++ τ2, cm_skip (n_rng (by lia)) t1 ?_⟩
      rw [e1, e2, List.filter_cons_of_neg (by simp [q]), ← List.append_assoc τ]
      exact h2
theorem cm_rngIfA {f : Nat → AVal} {g : Nat → Bool} {n₀ : Nat} (hlen : n₀ ≤ lim) (ht : ∀ i : Nat, i < n₀ → ∀ l τ, ∃ τ', EvTs P d kd (Vars.set ρ x (.int (i : Int))) .And ifs (σ₁ ++ [.list l] ++ τ) (g i) (σ₁ ++ [.list l] ++ (τ ++ τ')))
    (h : ∀ i : Nat, i < n₀ → g i = true → ∀ l τ, EvE P d kd (Vars.set ρ x (.int (i : Int))) elt (σ₁ ++ [.list l] ++ τ) (f i) (σ₁ ++ [.list l] ++ τ)) :
    ∃ τ, EvCm P d kd ρ x elt ifs σ₁.length (.rng 0 n₀ 1) (σ₁ ++ [.list []]) (σ₁ ++ [.list (((List.range n₀).filter g).map f)] ++ τ) := by
  obtain ⟨τ, e⟩ := cm_rngIfAFrom (P := P) (d := d) (kd := kd) (ρ := ρ) (x := x) (elt := elt) (ifs := ifs) (σ₁ := σ₁) (f := f) (g := g) n₀ hlen ht h n₀ 0 [] [] (by lia) (Nat.le_refl _)
  refine ⟨τ, ?_⟩
  simpa [List.range_eq_range'] using e
theorem take_at {α : Type} (xs : List α) : ∀ k : Nat, k ≤ xs.length → (List.range k).filterMap (xs[·]?) = xs.take k
  | 0, _ => by simp
  | k + 1, h => by
    rw [List.range_succ, List.filterMap_append, take_at xs k (by lia)]
    have hk : k < xs.length := by lia
    rw [List.take_add_one]
    simp [List.getElem?_eq_getElem hk]
theorem pickL_take {α : Type} (xs : List α) {k : Nat} (h : k ≤ xs.length) : pickL xs none (some (k : Int)) none = xs.take k := by
  unfold pickL
  have hb : sliceBounds none (some (k : Int)) none xs.length = (0, (k : Int), 1) := by
    unfold sliceBounds
    simp
    try lia
  rw [hb]
  have hs : sliceRange 0 (k : Int) 1 = List.range k := by
    unfold sliceRange
    rw [if_pos (by decide)]
    have hc : (if (0 : Int) < (k : Int) then ((k : Int) - 0 + 1 - 1) / 1 else 0).toNat = k := by
      split
      · simp
      · lia
    show (List.range (if (0 : Int) < (k : Int) then ((k : Int) - 0 + 1 - 1) / 1 else 0).toNat).map _ = _
    rw [hc]
    refine (List.map_congr_left fun j _ => ?_).trans (List.map_id _)
    simp
  show (sliceRange 0 (k : Int) 1).filterMap (xs[·]?) = _
  rw [hs, take_at xs k h]
end
end Mini
open PySem PySem.W PyProof.Rows
open_top hd for PySem.Challenge.rw_dn0295_01
namespace Mini
noncomputable def fnsOf (p : Program) : List (Str × (List Str × List Stmt × List (Str × NameKind))) := p.main.body.filterMap fun st => match st with
  | .FunctionDef name args body _ _ _ scope _ _ _ => some (name, args.args.map (·.arg), body, scope.names)
  | _ => none
noncomputable def initOf (p : Program) : List Str × List Stmt × List (Str × NameKind) := (p.main.body.findSome? fun st => match st with
  | .ClassDef _ _ _ body _ _ _ _ _ _ _ => body.findSome? fun st => match st with
    | .FunctionDef _ args body _ _ _ scope _ _ _ => some (args.args.map (·.arg), body, scope.names)
    | _ => none
  | _ => none).getD ([], [], [])
noncomputable def fnsL : List (Str × (List Str × List Stmt × List (Str × NameKind))) := fnsOf PySem.Challenge.pw_dn0295_01
noncomputable def bodyAt (i : Nat) : List Stmt := ((fnsL[i]?).map (·.2.2.1)).getD []
noncomputable def namesAt (i : Nat) : List (Str × NameKind) := ((fnsL[i]?).map (·.2.2.2)).getD []
noncomputable def initL : List Str × List Stmt × List (Str × NameKind) := initOf PySem.Challenge.pw_dn0295_01
noncomputable abbrev KL (q : Params) : Frag := hd.heap_39 q
noncomputable def defsL : List (Str × (List Str × List Stmt × List (Str × NameKind))) := [("get_parent_map", (["context"], bodyAt 0, namesAt 0)), ("_law_root", (["rows"], bodyAt 1, namesAt 1)), ("_law_front", (["rows"], bodyAt 2, namesAt 2)), ("_law_same", (["table", "front"], bodyAt 3, namesAt 3)), ("law", (["script"], bodyAt 4, namesAt 4))]
noncomputable def globL : List (Str × AVal) := [("get_parent_map", .fn "get_parent_map"), ("_law_root", .fn "_law_root"), ("_law_front", .fn "_law_front"), ("_law_same", .fn "_law_same"), ("law", .fn "law"), ("_SelectorContext", .cls), ("len", .bi "len"), ("range", .ty "range"), ("list", .ty "list"), ("TypeError", .ty "TypeError")]
noncomputable def piL : PI where
  glob := fun x => globL.lookup x
  fn := fun x => defsL.lookup x
  maker := fun x => if x = "_law_root" then some "<lambda>" else none
  attrOk := fun x => x = "root" || x = "parent_map" || x = "iter"
  init := initL
  frz := fun x => x = "rows"
  clsNone := fun x => x = "parent_map"
  callAttr := fun x => x = "iter"
noncomputable def fnL (q : Params) : List (Str × Fn) := [("get_parent_map", ⟨21, fdOf (KL q) 21, bodyAt 0, ["context"]⟩), ("_law_root", ⟨49, fdOf (KL q) 49, bodyAt 1, ["rows"]⟩), ("_law_front", ⟨56, fdOf (KL q) 56, bodyAt 2, ["rows"]⟩), ("_law_same", ⟨61, fdOf (KL q) 61, bodyAt 3, ["table", "front"]⟩), ("law", ⟨68, fdOf (KL q) 68, bodyAt 4, ["script"]⟩)]
noncomputable def cxL (w : World) (h : Heap) (mg mb : Str → Option Value) : Cx := ⟨PySem.Challenge.rw_dn0295_01.row.prog, w, KL w.params, ghostOf h [(48, 44)], mg, mb, 38, fun x => (fnL w.params).lookup x, [(48, 44)], fun P => "_law_root.<locals>.<lambda>", fun x => x = "rows"⟩
section
variable {c : Cx} {q : Params} (X : (KL q).In c.B)
include X
theorem fnOk_get_parent_map : FnOk c ⟨21, fdOf (KL q) 21, bodyAt 0, ["context"]⟩ ["context"] (bodyAt 0) (namesAt 0) := fnOk_of X (by kernel_rfl) (by kernel_rfl) (by kernel_rfl) (ar1 rfl fun a => by kernel_rfl)
theorem fnOk_law_root : FnOk c ⟨49, fdOf (KL q) 49, bodyAt 1, ["rows"]⟩ ["rows"] (bodyAt 1) (namesAt 1) := fnOk_of X (by kernel_rfl) (by kernel_rfl) (by kernel_rfl) (ar1 rfl fun a => by kernel_rfl)
theorem fnOk_law_front : FnOk c ⟨56, fdOf (KL q) 56, bodyAt 2, ["rows"]⟩ ["rows"] (bodyAt 2) (namesAt 2) := fnOk_of X (by kernel_rfl) (by kernel_rfl) (by kernel_rfl) (ar1 rfl fun a => by kernel_rfl)
theorem fnOk_law_same : FnOk c ⟨61, fdOf (KL q) 61, bodyAt 3, ["table", "front"]⟩ ["table", "front"] (bodyAt 3) (namesAt 3) := fnOk_of X (by kernel_rfl) (by kernel_rfl) (by kernel_rfl) (ar2 rfl fun a b => by kernel_rfl)
theorem fnOk_law : FnOk c ⟨68, fdOf (KL q) 68, bodyAt 4, ["script"]⟩ ["script"] (bodyAt 4) (namesAt 4) := fnOk_of X (by kernel_rfl) (by kernel_rfl) (by kernel_rfl) (ar1 rfl fun a => by kernel_rfl)
theorem init_ok : FnOk c ⟨35, fdOf (KL q) 35, initL.2.1, initL.1⟩ initL.1 initL.2.1 initL.2.2 := fnOk_of X (by kernel_rfl) (by kernel_rfl) (by kernel_rfl) (ar2 (by kernel_rfl) fun a b => by kernel_rfl)
end
theorem cokL {w : World} {h : Heap} {mg mb : Str → Option Value} {p : Program} {loose : List Str} {mean : ExcName → Option Value} (KX : (KL w.params).In h) (T : Top p loose mean mg mb h) (hT : TabsAt [(48, 44)] h) : COk (cxL w h mg mb) piL := by
  have X : (KL w.params).In (ghostOf h [(48, 44)]) := ghost_K hT KX (by kernel_rfl)
  have O : BOk (cxL w h mg mb) := ⟨X, ghost_ns hT T.g, T.builtins⟩
  refine { ok := ⟨X, O.2.1, ghost_ns hT T.b, ?_⟩, glob := fun x v => AllP.look (l := globL) (p := GOk _) ?_, ga := by kernel_rfl, sa := by kernel_rfl, po := by kernel_rfl, hd := by kernel_rfl, attr := ?_, fn := fun x ps body names hx => AllP.look (l := defsL) (p := fun x q => ∃ f, (cxL w h mg mb).fns x = some f ∧ FnOk (cxL w h mg mb) f q.1 q.2.1 q.2.2) ?_ hx, maker := ?_, fo := fun x f hx => AllP.look (l := fnL w.params) (p := fun _ (f : Fn) => ∃ o fd, (cxL w h mg mb).B.get? f.addr = some o ∧ o.data = .func fd) ?_ hx, mi := by kernel_rfl, frz := rfl, cn := fun x h => by (have e : x = "parent_map" := by simpa [piL] using h); subst e; exact ⟨by kernel_rfl, by kernel_rfl, by kernel_rfl⟩, ca := fun x h => by (have e : x = "iter" := by simpa [piL] using h); subst e; exact ⟨by kernel_rfl, by kernel_rfl⟩, init := ⟨⟨35, fdOf (KL w.params) 35, initL.2.1, initL.1⟩, by kernel_rfl, by kernel_rfl, init_ok X⟩ }
  · obtain ⟨mc, a, r⟩ := T.nolimit
    exact ⟨mc, ghost_ns hT a, r⟩
  · exact ⟨gk_fn O (by kernel_rfl) rfl, gk_fn O (by kernel_rfl) rfl, gk_fn O (by kernel_rfl) rfl, gk_fn O (by kernel_rfl) rfl, gk_fn O (by kernel_rfl) rfl, gk_cls O (by kernel_rfl), gk_bi O (by kernel_rfl) (by kernel_rfl) (by kernel_rfl), gk_ty O (by kernel_rfl) (by kernel_rfl) (by kernel_rfl), gk_ty O (by kernel_rfl) (by kernel_rfl) (by kernel_rfl), gk_ty O (by kernel_rfl) (by kernel_rfl) (by kernel_rfl), trivial⟩
  · intro x hx
    have hx' : x = "root" ∨ x = "parent_map" ∨ x = "iter" := by simpa [piL, or_assoc] using hx
    rcases hx' with rfl | rfl | rfl
    · exact ⟨by kernel_rfl, none, by kernel_rfl, by kernel_rfl⟩
    · exact ⟨by kernel_rfl, some .none, by kernel_rfl, by kernel_rfl⟩
    · exact ⟨by kernel_rfl, none, by kernel_rfl, by kernel_rfl⟩
  · exact ⟨⟨_, rfl, fnOk_get_parent_map X⟩, ⟨_, rfl, fnOk_law_root X⟩, ⟨_, rfl, fnOk_law_front X⟩, ⟨_, rfl, fnOk_law_same X⟩, ⟨_, rfl, fnOk_law X⟩, trivial⟩
  · intro x nm f hx hf
    unfold piL at hx
    dsimp only at hx
    split at hx
    · rename_i e
      subst e
      cases hx
      have hf' : f = ⟨49, fdOf (KL w.params) 49, bodyAt 1, ["rows"]⟩ := (Option.some.inj (show some _ = some f from hf)).symm
      subst hf'
      exact ⟨(48, 44), mk_of rfl hT T (.head _) (by kernel_rfl) (by kernel_rfl) (by decide) (by kernel_rfl)⟩
    · cases hx
  · exact ⟨(let ⟨o, ho, hd⟩ := (fnOk_get_parent_map (c := cxL w h mg mb) X).o; ⟨o, _, ho, hd⟩), (let ⟨o, ho, hd⟩ := (fnOk_law_root (c := cxL w h mg mb) X).o; ⟨o, _, ho, hd⟩), (let ⟨o, ho, hd⟩ := (fnOk_law_front (c := cxL w h mg mb) X).o; ⟨o, _, ho, hd⟩), (let ⟨o, ho, hd⟩ := (fnOk_law_same (c := cxL w h mg mb) X).o; ⟨o, _, ho, hd⟩), (let ⟨o, ho, hd⟩ := (fnOk_law (c := cxL w h mg mb) X).o; ⟨o, _, ho, hd⟩), trivial⟩
theorem g_get_parent_map : piL.glob "get_parent_map" = some (.fn "get_parent_map") := by kernel_rfl
theorem g_l_root : piL.glob "_law_root" = some (.fn "_law_root") := by kernel_rfl
theorem g_l_front : piL.glob "_law_front" = some (.fn "_law_front") := by kernel_rfl
theorem g_l_same : piL.glob "_law_same" = some (.fn "_law_same") := by kernel_rfl
theorem g_cls : piL.glob "_SelectorContext" = some (.cls) := by kernel_rfl
theorem g_len : piL.glob "len" = some (.bi "len") := by kernel_rfl
theorem g_range : piL.glob "range" = some (.ty "range") := by kernel_rfl
theorem g_list : piL.glob "list" = some (.ty "list") := by kernel_rfl
theorem g_TypeError : piL.glob "TypeError" = some (.ty "TypeError") := by kernel_rfl
theorem f_get_parent_map : piL.fn "get_parent_map" = some (([Str.ofString "context"] : List Str), bodyAt 0, namesAt 0) := by kernel_rfl
theorem f_l_root : piL.fn "_law_root" = some (([Str.ofString "rows"] : List Str), bodyAt 1, namesAt 1) := by kernel_rfl
theorem f_l_front : piL.fn "_law_front" = some (([Str.ofString "rows"] : List Str), bodyAt 2, namesAt 2) := by kernel_rfl
theorem f_l_same : piL.fn "_law_same" = some (([Str.ofString "table", Str.ofString "front"] : List Str), bodyAt 3, namesAt 3) := by kernel_rfl
theorem i_cls : piL.init = ([Str.ofString "self", Str.ofString "root"], initL.2.1, initL.2.2) := by kernel_rfl
noncomputable def forT (ss : List Stmt) (i : Nat) : Expr := match ss[i]? with
  | some (.For t _ _ _ _) => t
  | _ => default
noncomputable def forB (ss : List Stmt) (i : Nat) : List Stmt := match ss[i]? with
  | some (.For _ _ b _ _) => b
  | _ => []
noncomputable abbrev kdAt (i : Nat) : Kinds := fun x => (namesAt i).lookup x
noncomputable def st (i j : Nat) : Stmt := ((bodyAt i)[j]?).getD default
end Mini
namespace Mini
open PySem PySem.W PySem.W.X PyProof.Rows PySem.Calls
noncomputable def ifB (s : Stmt) : List Stmt × List Stmt := match s with
  | .If _ x y _ => (x, y)
  | _ => ([], [])
noncomputable abbrev gb : List Stmt := (ifB (st 0 1)).1
noncomputable def famD (a : Nat) (D : List (Int × AVal)) (xs : List Int) : List (Int × AVal) := xs.foldl (fun D x => putD D x (.ref a)) D
noncomputable def tabD (D : List (Int × AVal)) (rows : List (Nat × List Int)) : List (Int × AVal) := rows.foldl (fun D q => famD q.1 D q.2) D
theorem putD_len {D : List (Int × AVal)} {x : Int} {v : AVal} : (putD D x v).length ≤ D.length + 1 := by
  unfold putD
  split
  · simp
  · simp
theorem famD_len (a : Nat) : ∀ (xs : List Int) (D : List (Int × AVal)), (famD a D xs).length ≤ D.length + xs.length
  | [], D => Nat.le_refl _
  | x :: r, D => by
    have h1 := famD_len a r (putD D x (.ref a))
    have h2 := putD_len (D := D) (x := x) (v := .ref a)
    show (famD a (putD D x (.ref a)) r).length ≤ _
    rw [List.length_cons]
    lia
theorem putD_look {K : Type} [DecidableEq K] {k j : K} {v : AVal} : ∀ D : List (K × AVal), lookD (putD D k v) j = if j = k then some v else lookD D j := by
  have ap : ∀ D : List (K × AVal), hasD D k = false → lookD (D ++ [(k, v)]) j = if j = k then some v else lookD D j := by
    intro D
    induction D with
    | nil =>
      intro _
      show (if k = j then some v else none) = _
      by_cases e : j = k
      · rw [if_pos e, if_pos e.symm]
      · rw [if_neg e, if_neg (Ne.symm e)]; rfl
    | cons p r ih =>
      intro h
      unfold hasD at h
      rw [List.any_cons, Bool.or_eq_false_iff] at h
      have ih := ih h.2
      obtain ⟨a, w⟩ := p
      have hne : ¬ a = k := by simpa using h.1
      show (if a = j then some w else lookD (r ++ [(k, v)]) j) = if j = k then some v else (if a = j then some w else lookD r j)
      by_cases e : a = j
      · rw [if_pos e, if_pos e, if_neg fun z => hne (e.trans z)]
      · rw [if_neg e, if_neg e]; exact ih
  have mp : ∀ D : List (K × AVal), hasD D k = true → lookD (D.map fun kv => if kv.1 = k then (kv.1, v) else kv) j = if j = k then some v else lookD D j := by
    intro D
    induction D with
    | nil => intro h; cases h
    | cons p r ih =>
      intro h
      obtain ⟨a, w⟩ := p
      rw [List.map_cons]
      by_cases ea : a = k
      · rw [if_pos ea]
        show (if a = j then some v else lookD (r.map _) j) = if j = k then some v else (if a = j then some w else lookD r j)
        by_cases e : a = j
        · rw [if_pos e, if_pos (e.symm.trans ea)]
        · rw [if_neg e, if_neg e, if_neg fun z => e (ea.trans z.symm)]
          have hj : ¬ j = k := fun z => e (ea.trans z.symm)
          clear ih h
          induction r with
          | nil => rfl
          | cons q r ih =>
            obtain ⟨b, u⟩ := q
            rw [List.map_cons]
            by_cases eb : b = k
            · rw [if_pos eb]
              show (if b = j then some v else lookD (r.map _) j) = (if b = j then some u else lookD r j)
              rw [if_neg fun z => hj (z.symm.trans eb), if_neg fun z => hj (z.symm.trans eb)]
              exact ih
            · rw [if_neg eb]
              show (if b = j then some u else lookD (r.map _) j) = (if b = j then some u else lookD r j)
              rw [ih]
      · rw [if_neg ea]
        unfold hasD at h
        rw [List.any_cons, decide_eq_false ea, Bool.false_or] at h
        show (if a = j then some w else lookD (r.map _) j) = if j = k then some v else (if a = j then some w else lookD r j)
        by_cases e : a = j
        · rw [if_pos e, if_pos e, if_neg fun z => ea (e.trans z)]
        · rw [if_neg e, if_neg e]; exact ih h
  intro D
  unfold putD
  cases h : hasD D k with
  | true => rw [if_pos rfl]; exact mp D h
  | false => rw [if_neg (by decide)]; exact ap D h
theorem famD_look (a : Nat) (j : Int) : ∀ (xs : List Int) (D : List (Int × AVal)), lookD (famD a D xs) j = if j ∈ xs then some (.ref a) else lookD D j
  | [], D => by rw [if_neg (fun h => nomatch h)]; rfl
  | x :: r, D => by
    show lookD (famD a (putD D x (.ref a)) r) j = _
    rw [famD_look a j r, putD_look]
    by_cases h : j ∈ r
    · rw [if_pos h, if_pos (.tail _ h)]
    · rw [if_neg h]
      by_cases e : j = x
      · rw [if_pos e, if_pos (by rw [e]; exact .head _)]
      · rw [if_neg e, if_neg fun z => (List.mem_cons.mp z).elim e h]
theorem tabD_look (j : Int) : ∀ (rows : List (Nat × List Int)) (D : List (Int × AVal)), lookD (tabD D rows) j = match (rows.filter fun q => decide (j ∈ q.2)).getLast? with
    | some q => some (.ref q.1)
    | none => lookD D j
  | [], D => rfl
  | q :: r, D => by
    show lookD (tabD (famD q.1 D q.2) r) j = _
    rw [tabD_look j r, famD_look]
    by_cases h : j ∈ q.2
    · rw [if_pos h, List.filter_cons_of_pos (by simpa using h), List.getLast?_cons]
      cases (r.filter fun q => decide (j ∈ q.2)).getLast? <;> rfl
    · rw [if_neg h, List.filter_cons_of_neg (by simpa using h)]
noncomputable def dd (l : List Int) : List Int := ((List.range l.length).filter fun k => !((l.take k).any (· == l.getD k 0))).map fun k => l.getD k 0
theorem dd_snoc (l : List Int) (x : Int) : dd (l ++ [x]) = if l.any (· == x) = true then dd l else dd l ++ [x] := by
  unfold dd
  rw [List.length_append, List.length_singleton, List.range_succ, List.filter_append, List.map_append]
  have e1 : (List.range l.length).filter (fun k => !(((l ++ [x]).take k).any (· == (l ++ [x]).getD k 0))) = (List.range l.length).filter fun k => !((l.take k).any (· == l.getD k 0)) := by
    refine List.filter_congr fun k hk => ?_
    have hk := List.mem_range.mp hk
    rw [List.take_append_of_le_length (by lia)]
    have : (l ++ [x]).getD k 0 = l.getD k 0 := by simp [List.getD, List.getElem?_append_left hk]
    rw [this]
  have e2 : ((List.range l.length).filter fun k => !((l.take k).any (· == l.getD k 0))).map (fun k => (l ++ [x]).getD k 0) = ((List.range l.length).filter fun k => !((l.take k).any (· == l.getD k 0))).map fun k => l.getD k 0 := by
    refine List.map_congr_left fun k hk => ?_
    have hk := List.mem_range.mp (List.mem_filter.mp hk).1
    simp [List.getD, List.getElem?_append_left hk]
  have e3 : (l ++ [x]).getD l.length 0 = x := by simp [List.getD]
  rw [e1, e2]
  cases q : l.any (· == x) with
  | true =>
    rw [if_pos rfl, List.filter_cons_of_neg (by rw [e3, List.take_left, q]; decide)]
    simp
  | false =>
    rw [if_neg (by decide), List.filter_cons_of_pos (by rw [e3, List.take_left, q]; decide)]
    simp only [List.filter_nil, List.map_cons, List.map_nil]
    rw [e3]
theorem snocInd {α : Type} {P : List α → Prop} (nil : P []) (snoc : ∀ l x, P l → P (l ++ [x])) (l : List α) : P l := by
  rw [← List.reverse_reverse l]
  induction l.reverse with
  | nil => exact nil
  | cons x r ih => rw [List.reverse_cons]; exact snoc _ _ ih
theorem dd_mem {y : Int} : ∀ l : List Int, y ∈ dd l ↔ y ∈ l := fun l => by
  induction l using snocInd with
  | nil => simp [dd]
  | snoc l x ih =>
    rw [dd_snoc]
    split
    · rename_i h
      rw [ih, List.mem_append, List.mem_singleton]
      constructor
      · exact .inl
      · rintro (h' | rfl)
        · exact h'
        · obtain ⟨z, hz, e⟩ := List.any_eq_true.mp h
          have : z = y := by simpa using e
          exact this ▸ hz
    · rw [List.mem_append, List.mem_append, ih]
noncomputable def fresh (o xs : List Int) : List Int := xs.filter fun n => !(o.any (· == n))
noncomputable def ordL (o : List Int) (rows : List (Nat × List Int)) : List Int := rows.foldl (fun o q => o ++ fresh o q.2) o
theorem any_mem {x : Int} {l : List Int} : l.any (· == x) = true ↔ x ∈ l := by
  rw [List.any_eq_true]
  constructor
  · rintro ⟨z, hz, e⟩
    have : z = x := by simpa using e
    exact this ▸ hz
  · intro h; exact ⟨x, h, by simp⟩
theorem putD_keys {D : List (Int × AVal)} {x : Int} {v : AVal} : (putD D x v).map (·.1) = if (D.map (·.1)).any (· == x) = true then D.map (·.1) else D.map (·.1) ++ [x] := by
  have h : hasD D x = (D.map (·.1)).any (· == x) := by
    unfold hasD
    rw [any_keys]
    congr 1
  unfold putD
  rw [h]
  split
  · rw [put_keys]
  · rw [List.map_append]; rfl
theorem fam_keys (a : Nat) (o : List Int) : ∀ (rest done : List Int) (D : List (Int × AVal)), D.map (·.1) = dd (o ++ fresh o done) → (famD a D rest).map (·.1) = dd (o ++ fresh o (done ++ rest))
  | [], done, D, h => by rw [List.append_nil]; exact h
  | x :: rest, done, D, h => by
    have e : done ++ x :: rest = (done ++ [x]) ++ rest := by simp
    rw [e]
    refine fam_keys a o rest (done ++ [x]) (putD D x (.ref a)) ?_
    rw [putD_keys, h]
    have ha : (dd (o ++ fresh o done)).any (· == x) = true ↔ x ∈ o ++ fresh o done := by rw [any_mem, dd_mem]
    have hf : fresh o (done ++ [x]) = if x ∈ o then fresh o done else fresh o done ++ [x] := by
      unfold fresh
      rw [List.filter_append]
      by_cases hx : x ∈ o
      · rw [if_pos hx, List.filter_cons_of_neg (by rw [any_mem.mpr hx]; decide)]; simp
      · rw [if_neg hx, List.filter_cons_of_pos (by
          cases q : o.any (· == x) with
          | true => exact absurd (any_mem.mp q) hx
          | false => rfl)]; rfl
    rw [hf]
    by_cases hx : x ∈ o
    · rw [if_pos hx, if_pos (ha.mpr (List.mem_append_left _ hx))]
    · rw [if_neg hx, ← List.append_assoc, dd_snoc]
      by_cases hz : x ∈ o ++ fresh o done
      · rw [if_pos (ha.mpr hz), if_pos (any_mem.mpr hz)]
      · rw [if_neg fun z => hz (ha.mp z), if_neg fun z => hz (any_mem.mp z)]
theorem tab_keys : ∀ (rows : List (Nat × List Int)) (o : List Int) (D : List (Int × AVal)), D.map (·.1) = dd o → (tabD D rows).map (·.1) = dd (ordL o rows)
  | [], o, D, h => h
  | q :: r, o, D, h => by
    show (tabD (famD q.1 D q.2) r).map (·.1) = dd (ordL (o ++ fresh o q.2) r)
    refine tab_keys r _ _ ?_
    have := fam_keys q.1 o q.2 [] D (by simpa [fresh] using h)
    simpa using this
theorem ord_mem {x : Int} : ∀ (rows : List (Nat × List Int)) (o : List Int), x ∈ ordL o rows → x ∈ o ∨ ∃ q ∈ rows, x ∈ q.2
  | [], o, h => .inl h
  | q :: r, o, h => by
    rcases ord_mem r _ h with h | ⟨q', hq, h⟩
    · rcases List.mem_append.mp h with h | h
      · exact .inl h
      · exact .inr ⟨q, .head _, (List.mem_filter.mp h).1⟩
    · exact .inr ⟨q', .tail _ hq, h⟩
theorem ord_len : ∀ (rows : List (Nat × List Int)) (o : List Int) (B : Nat), (∀ q ∈ rows, q.2.length ≤ B) → (ordL o rows).length ≤ o.length + B * rows.length
  | [], o, B, h => Nat.le_add_right _ _
  | q :: r, o, B, h => by
    have h1 := ord_len r (o ++ fresh o q.2) B fun q' hq => h q' (.tail _ hq)
    have h2 : (fresh o q.2).length ≤ q.2.length := List.length_filter_le _ _
    have h3 := h q (.head _)
    rw [List.length_append] at h1
    show (ordL (o ++ fresh o q.2) r).length ≤ _
    rw [List.length_cons, Nat.mul_succ]
    lia
theorem tab_last {rows : List (Nat × List Int)} {x : Int} (h : x ∈ (tabD [] rows).map (·.1)) : ∃ pre q, (rows.filter fun q => decide (x ∈ q.2)) = pre ++ [q] ∧ lookD (tabD [] rows) x = some (.ref q.1) := by
  rw [tab_keys rows [] [] rfl, dd_mem] at h
  rcases ord_mem rows [] h with h | ⟨q, hq, hx⟩
  · cases h
  · have hne : (rows.filter fun q => decide (x ∈ q.2)) ≠ [] := fun z => by
      have : q ∈ rows.filter fun q => decide (x ∈ q.2) := List.mem_filter.mpr ⟨hq, by simpa using hx⟩
      rw [z] at this; cases this
    refine ⟨(rows.filter fun q => decide (x ∈ q.2)).dropLast, (rows.filter fun q => decide (x ∈ q.2)).getLast hne, (List.dropLast_concat_getLast hne).symm, ?_⟩
    rw [tabD_look, List.getLast?_eq_some_getLast hne]
theorem c_fnL {P : PI} {d : Nat} {ρ' : Vars} {σ σ' : St} {v : AVal} {x nm : Str} {ps : List Str} {body : List Stmt} {names : List (Str × NameKind)} {vs : List AVal} {fl : Flw} (h0 : P.fn x = some (ps, body, names)) (h1 : P.maker x = some nm) (h2 : ps.length = vs.length) (hr : retOf fl = some v)
    (h3 : EvXsL P d nm (fun x => names.lookup x) (bindAll ps vs) body σ fl ρ' σ') : EvC P (d + 1) (.fn x) vs σ v σ' := ⟨rfl, fun ok ha R Vf V => by
  obtain ⟨f, hf, F⟩ := ok.fn x ps body names h0
  cases Vf using VRel.fnE with
  | fn e =>
    rw [hf] at e; cases e
    exact wpAny_call (callFnL F h1 hf h3 h2 hr ok ha R V fun v' s' G' φ' R' V' S' => ⟨G', φ', R', V', S'⟩)⟩
theorem cls_ok {d : Nat} {σ : St} {v : AVal} (h : notBi v = true) : EvC piL (d + 2) .cls [v] σ (.ref σ.length) (σ ++ [.inst [(Str.ofString "root", v)]]) := by
  rw [show σ ++ [AObj.inst [(Str.ofString "root", v)]] = (σ ++ [AObj.inst []]).set σ.length (.inst (putAt "root" v [])) by rw [set_new]; rfl]
  apply c_cls' i_cls
  · rfl
  · apply xs_cons
    · apply x_assign
      · kernel_rfl
      · (repeat (((with_reducible apply e_var); kernel_rfl; (focus ((repeat (first | (with_reducible exact b_hit) | ((with_reducible apply b_ne); kernel_rfl))); done)))))
      · apply a_attr
        · rw [h]; kernel_rfl
        · (repeat (((with_reducible apply e_var); kernel_rfl; (focus ((repeat ((with_reducible exact b_hit))); done)))))
        · exact get_new
        · decide
    · (repeat ((with_reducible exact xs_nil)))
noncomputable def lamK (s : Stmt) : LB := match s with
  | .Assign _ (.Lambda _ b sc _) _ => ⟨b, [], sc.names⟩
  | _ => default
theorem put_it {r v : AVal} : putAt "iter" v [(Str.ofString "root", r)] = [(Str.ofString "root", r), (Str.ofString "iter", v)] := rfl
theorem fam_loop {d M a : Nat} {xs : List Int} (hx : xs.length ≤ 200) (hne : a ≠ M) : ∀ (rest done : List Int) (D : List (Int × AVal)) (σ : St) (ρ : Vars), xs = done ++ rest → D.length + rest.length ≤ 100000 → σ[a]? = some (.list (xs.map .int)) → σ[M]? = some (.dict D) → ρ "p" = some (.ref a) → ρ "parent_map" = some (.ref M) →
    ∃ ρ' σ', EvF piL d (kdAt 0) ρ (forT (forB gb 1) 0) (forB (forB gb 1) 0) (.seq (.ref a) done.length) σ .next ρ' σ' ∧ ρ' "parent_map" = some (.ref M) ∧ σ'[M]? = some (.dict (famD a D rest)) ∧ ∀ (i : Nat) o', i ≠ M → σ[i]? = some o' → σ'[i]? = some o'
  | [], done, D, σ, ρ, hd, hl, ha, hM, h1, h2 => by
    rw [List.append_nil] at hd
    subst hd
    exact ⟨ρ, σ, f_end (n_seqEnd (lo_ref ha) (by simp)), h2, hM, fun _ _ _ h => h⟩
  | x :: rest, done, D, σ, ρ, hd, hl, ha, hM, h1, h2 => by
    have hg : (xs.map AVal.int)[done.length]? = some (.int x) := by rw [hd]; simp
    rw [List.length_cons] at hl
    have hpl := putD_len (D := D) (x := x) (v := .ref a)
    obtain ⟨ρ', σ', t1, t2, t3, t4⟩ := fam_loop (d := d) hx hne rest (done ++ [x]) (putD D x (.ref a)) (σ.set M (.dict (putD D x (.ref a)))) (Vars.set ρ "e" (.int x)) (by rw [hd]; simp) (by lia) (set_ne (Ne.symm hne) ha) (set_hit hM) (by (focus ((repeat (assumption)); done))) (by (focus ((repeat (assumption)); done)))
    rw [List.length_append] at t1
    refine ⟨ρ', σ', f_more (n_seq (lo_ref ha) hg) (a_name (by kernel_rfl)) ?_ t1, t2, t3, fun i o' hi h => t4 i o' hi (set_ne (Ne.symm hi) h)⟩
    apply xs_cons
    · apply x_assign
      · kernel_rfl
      · apply e_var
        · kernel_rfl
        · (focus ((repeat (assumption)); done))
      · apply a_itemD
        · apply e_var
          · kernel_rfl
          · (focus ((repeat (assumption)); done))
        · apply e_var
          · kernel_rfl
          · (focus ((repeat ((with_reducible exact v_hit))); done))
        · exact hM
        · unfold lim; lia
    exact xs_nil
noncomputable abbrev Fm := Option (Nat × List Int)
noncomputable def fmV : Fm → AVal
  | some q => .ref q.1
  | none => .none
structure FamN (σ : St) (R : Nat) (fs : List Fm) : Prop where
  row : σ[R]? = some (.list (fs.map fmV))
  el : ∀ q, some q ∈ fs → σ[q.1]? = some (.list (q.2.map .int)) ∧ q.2.length ≤ 200
theorem FamN.keep {σ σ' : St} {R : Nat} {fs : List Fm} (h : FamN σ R fs) (hf : ∀ (i : Nat) o', i = R ∨ (∃ q, some q ∈ fs ∧ i = q.1) → σ[i]? = some o' → σ'[i]? = some o') : FamN σ' R fs := ⟨hf _ _ (.inl rfl) h.row, fun q hq => ⟨hf _ _ (.inr ⟨q, hq, rfl⟩) (h.el q hq).1, (h.el q hq).2⟩⟩
theorem one_fam {d M R : Nat} {q : Nat × List Int} {D : List (Int × AVal)} {σ : St} {ρ : Vars} (hq : σ[q.1]? = some (.list (q.2.map .int))) (hl : q.2.length ≤ 200) (hD : D.length ≤ 50000) (hM : σ[M]? = some (.dict D)) (h2 : ρ "parent_map" = some (.ref M)) :
    ∃ ρ1 σ1, EvXs piL d (kdAt 0) (Vars.set ρ "p" (.ref q.1)) (forB gb 1) σ .next ρ1 σ1 ∧ ρ1 "parent_map" = some (.ref M) ∧ σ1[M]? = some (.dict (famD q.1 D q.2)) ∧ ∀ (i : Nat) o', i ≠ M → σ[i]? = some o' → σ1[i]? = some o' := by
  have hne : q.1 ≠ M := fun z => by rw [z, hM] at hq; cases hq
  obtain ⟨ρ1, σ1, t1, t2, t3, t4⟩ := fam_loop (d := d) (M := M) (xs := q.2) hl hne q.2 [] D σ (Vars.set ρ "p" (.ref q.1)) rfl (by lia) hq hM (by exact v_hit) (by (focus ((repeat (assumption)); done)))
  refine ⟨ρ1, σ1, ?_, t2, t3, t4⟩
  apply xs_cons
  · apply x_for
    · rfl
    · apply e_var
      · kernel_rfl
      · exact v_hit
    · exact mk_list hq
    · (repeat (((with_reducible exact lk_name))))
    · exact t1
  exact xs_nil
theorem row_loop {d M R : Nat} {fs : List Fm} (hr : fs.length ≤ 200) (hRM : R ≠ M) : ∀ (rest : List (Nat × List Int)) (done : List Fm) (D : List (Int × AVal)) (σ : St) (ρ : Vars), fs = done ++ rest.map some → D.length ≤ 200 * done.length → FamN σ R fs → σ[M]? = some (.dict D) → ρ "parent_map" = some (.ref M) →
    ∃ ρ' σ', EvF piL d (kdAt 0) ρ (forT gb 1) (forB gb 1) (.seq (.ref R) done.length) σ .next ρ' σ' ∧ ρ' "parent_map" = some (.ref M) ∧ σ'[M]? = some (.dict (tabD D rest)) ∧ ∀ (i : Nat) o', i ≠ M → σ[i]? = some o' → σ'[i]? = some o'
  | [], done, D, σ, ρ, hd, hl, hF, hM, h2 => by
    rw [List.map_nil, List.append_nil] at hd
    subst hd
    exact ⟨ρ, σ, f_end (n_seqEnd (lo_ref hF.row) (by simp)), h2, hM, fun _ _ _ h => h⟩
  | q :: rest, done, D, σ, ρ, hd, hl, hF, hM, h2 => by
    have hq : some q ∈ fs := by rw [hd]; simp
    have hg : (fs.map fmV)[done.length]? = some (.ref q.1) := by rw [hd]; simp [fmV]
    obtain ⟨e1, e2⟩ := hF.el q hq
    have hdl : done.length ≤ 200 := by rw [hd] at hr; simp at hr; lia
    obtain ⟨ρ1, σ1, t1, t2, t3, t4⟩ := one_fam (d := d) (R := R) (ρ := ρ) e1 e2 (by lia) hM h2
    have hfl := famD_len q.1 q.2 D
    have hF1 : FamN σ1 R fs := hF.keep fun i o' hi h => t4 i o' (fun z => by
      subst z
      rcases hi with hi | ⟨q', hq', hi⟩
      · exact hRM hi.symm
      · have := (hF.el q' hq').1; rw [← hi, hM] at this; cases this) h
    obtain ⟨ρ', σ', u1, u2, u3, u4⟩ := row_loop (d := d) hr hRM rest (done ++ [some q]) (famD q.1 D q.2) σ1 ρ1 (by rw [hd]; simp) (by rw [List.length_append, List.length_singleton]; lia) hF1 t3 t2
    rw [List.length_append] at u1
    exact ⟨ρ', σ', f_more (n_seq (lo_ref hF.row) hg) (a_name (by kernel_rfl)) t1 u1, u2, u3, fun i o' hi h => u4 i o' hi (t4 i o' hi h)⟩
theorem row_raise {d M R : Nat} {fs post : List Fm} (hr : fs.length ≤ 200) (hRM : R ≠ M) : ∀ (rest : List (Nat × List Int)) (done : List Fm) (D : List (Int × AVal)) (σ : St) (ρ : Vars), fs = done ++ rest.map some ++ none :: post → D.length ≤ 200 * done.length → FamN σ R fs → σ[M]? = some (.dict D) → ρ "parent_map" = some (.ref M) →
    ∃ ρ' σ', EvFR piL d (kdAt 0) ρ (forT gb 1) (forB gb 1) (.seq (.ref R) done.length) σ "TypeError" ρ' σ' ∧ σ'[M]? = some (.dict (tabD D rest)) ∧ ∀ (i : Nat) o', i ≠ M → σ[i]? = some o' → σ'[i]? = some o'
  | [], done, D, σ, ρ, hd, hl, hF, hM, h2 => by
    rw [List.map_nil, List.append_nil] at hd
    have hg : (fs.map fmV)[done.length]? = some .none := by rw [hd]; simp [fmV]
    refine ⟨Vars.set ρ "p" .none, σ, fr_raise (n_seq (lo_ref hF.row) hg) (a_name (by kernel_rfl)) ?_, hM, fun _ _ _ h => h⟩
    apply xsr_here
    apply xr_forNone
    · rfl
    · apply e_var
      · kernel_rfl
      · exact v_hit
  | q :: rest, done, D, σ, ρ, hd, hl, hF, hM, h2 => by
    have hq : some q ∈ fs := by rw [hd]; simp
    have hg : (fs.map fmV)[done.length]? = some (.ref q.1) := by rw [hd]; simp [fmV]
    obtain ⟨e1, e2⟩ := hF.el q hq
    have hdl : done.length ≤ 200 := by rw [hd] at hr; simp at hr; lia
    obtain ⟨ρ1, σ1, t1, t2, t3, t4⟩ := one_fam (d := d) (R := R) (ρ := ρ) e1 e2 (by lia) hM h2
    have hfl := famD_len q.1 q.2 D
    have hF1 : FamN σ1 R fs := hF.keep fun i o' hi h => t4 i o' (fun z => by
      subst z
      rcases hi with hi | ⟨q', hq', hi⟩
      · exact hRM hi.symm
      · have := (hF.el q' hq').1; rw [← hi, hM] at this; cases this) h
    obtain ⟨ρ', σ', u1, u3, u4⟩ := row_raise (d := d) (post := post) hr hRM rest (done ++ [some q]) (famD q.1 D q.2) σ1 ρ1 (by rw [hd]; simp) (by rw [List.length_append, List.length_singleton]; lia) hF1 t3 t2
    rw [List.length_append] at u1
    exact ⟨ρ', σ', fr_more (n_seq (lo_ref hF.row) hg) (a_name (by kernel_rfl)) t1 u1, u3, fun i o' hi h => u4 i o' hi (t4 i o' hi h)⟩
noncomputable def ctxA (Ro : Nat) : Option AVal → List (Str × AVal)
  | none => [(Str.ofString "root", .ref Ro)]
  | some w => [(Str.ofString "root", .ref Ro), (Str.ofString "parent_map", w)]
theorem put_ctx {Ro : Nat} {pm : Option AVal} {v : AVal} : putAt "parent_map" v (ctxA Ro pm) = ctxA Ro (some v) := by cases pm <;> rfl
theorem ctx_len {Ro : Nat} {pm : Option AVal} : (ctxA Ro pm).length ≤ 10 := by cases pm <;> simp [ctxA]
theorem ctx_root {Ro : Nat} {pm : Option AVal} : (ctxA Ro pm).lookup (Str.ofString "root") = some (AVal.ref Ro) := by cases pm <;> rfl
inductive NoPm : Option AVal → Prop
  | none : NoPm none
  | some : NoPm (some .none)
theorem e_pm {d Ro C : Nat} {kd : Kinds} {ρ : Vars} {σ : St} {pm : Option AVal} {o : Expr} {p : Pos} (h0 : PlainE o) (hn : NoPm pm) (h1 : EvE piL d kd ρ o σ (.ref C) σ) (hC : σ[C]? = some (.inst (ctxA Ro pm))) : EvE piL d kd ρ (.Attribute o "parent_map" p) σ .none σ := by
  cases hn with
  | none =>
    apply e_attrC h0 (by kernel_rfl) h1 hC
    rfl
  | some =>
    apply e_attr h0 (by kernel_rfl) h1 (io_ref hC)
    rfl
theorem e_pmR {d Ro C M : Nat} {kd : Kinds} {ρ : Vars} {σ : St} {o : Expr} {p : Pos} (h0 : PlainE o) (h1 : EvE piL d kd ρ o σ (.ref C) σ) (hC : σ[C]? = some (.inst (ctxA Ro (some (.ref M))))) : EvE piL d kd ρ (.Attribute o "parent_map" p) σ (.ref M) σ := by
  apply e_attr h0 (by kernel_rfl) h1 (io_ref hC)
  rfl
theorem gpm_has {d C Ro M : Nat} {σ : St} (hC : σ[C]? = some (.inst (ctxA Ro (some (.ref M))))) : EvC piL (d + 1) (.fn "get_parent_map") [.ref C] σ (.ref M) σ := by
  apply c_fn f_get_parent_map (by kernel_rfl) rfl
  apply xs_cons
  · apply x_assign
    · kernel_rfl
    · apply e_pmR
      · constructor
      · (repeat (((with_reducible apply e_var); kernel_rfl; (focus ((repeat ((with_reducible exact b_hit))); done)))))
      · exact hC
    · exact a_name rfl
  apply xs_cons
  · apply x_ifF
    · apply t_cmp (by rfl)
      · (repeat (((with_reducible apply e_var); kernel_rfl; (focus ((repeat ((with_reducible exact v_hit))); done)))))
      · (repeat ((with_reducible exact e_none)))
      · exact c_isRN
    · exact xs_nil
  apply xs_ret
  apply x_return
  apply e_var
  · kernel_rfl
  · (focus ((repeat ((with_reducible exact v_hit))); done))
structure Made (d C Ro R : Nat) (pm : Option AVal) (lamv : AVal) (fs : List Fm) (σ σ1 : St) : Prop where
  x : ∀ (ρ : Vars), ρ "context" = some (.ref C) → EvX piL d (kdAt 0) ρ (gb.getD 0 default) σ .next (Vars.set ρ "parent_map" (.ref σ.length)) σ1
  k : ∀ (i : Nat) o', i ≠ C → σ[i]? = some o' → σ1[i]? = some o'
  m : σ1[σ.length]? = some (.dict [])
  c : σ1[C]? = some (.inst (ctxA Ro (some (.ref σ.length))))
  f : FamN σ1 R fs
theorem made {d C Ro R : Nat} {pm : Option AVal} {lamv : AVal} {fs : List Fm} {σ : St} (hF : FamN σ R fs) (hC : σ[C]? = some (.inst (ctxA Ro pm))) : ∃ σ1, Made d C Ro R pm lamv fs σ σ1 := by
  have lC := lt_get hC
  refine ⟨(σ ++ [AObj.dict []]).set C (.inst (ctxA Ro (some (.ref σ.length)))), fun ρ h => ?_, fun i o' hi h => set_ne (Ne.symm hi) (get_old h), set_ne (by lia) get_new, set_hit (get_old hC), ?_⟩
  · rw [← put_ctx (pm := pm)]
    apply x_assign2
    · exact fun env => rfl
    · exact fun env => rfl
    · exact e_dict0
    · apply a_attr
      · kernel_rfl
      · (repeat (((with_reducible apply e_var); kernel_rfl; (focus ((repeat (assumption)); done)))))
      · exact get_old hC
      · exact ctx_len
    · exact a_name rfl
  · refine hF.keep fun i o' hi h => set_ne (fun z => ?_) (get_old h)
    subst z
    rcases hi with hi | ⟨q, hq, hi⟩
    · have := hF.row; rw [← hi, hC] at this; cases this
    · have := (hF.el q hq).1; rw [← hi, hC] at this; cases this
theorem RoC {C Ro R : Nat} {pm : Option AVal} {lamv : AVal} {σ : St} (hC : σ[C]? = some (.inst (ctxA Ro pm))) (hRo : σ[Ro]? = some (.inst [(Str.ofString "root", .none), (Str.ofString "iter", lamv)])) : Ro ≠ C := fun z => by
  rw [z, hC] at hRo
  injection hRo with hRo
  injection hRo with hRo
  cases pm with
  | none => exact absurd (show (1 : Nat) = 2 from congrArg List.length hRo) (by decide)
  | some w =>
    have : some (AVal.ref Ro) = some .none := congrArg (fun l => l.lookup (Str.ofString "root")) hRo
    cases this
theorem gpm_new {d C Ro R : Nat} {pm : Option AVal} {lamv : AVal} {rows : List (Nat × List Int)} {σ : St} (hr : rows.length ≤ 200) (hn : NoPm pm) (hF : FamN σ R (rows.map some)) (hC : σ[C]? = some (.inst (ctxA Ro pm))) (hRo : σ[Ro]? = some (.inst [(Str.ofString "root", .none), (Str.ofString "iter", lamv)])) (hcall : ∀ σ, EvC piL d lamv [] σ (.ref R) σ) :
    ∃ σ', EvC piL (d + 1) (.fn "get_parent_map") [.ref C] σ (.ref σ.length) σ' ∧ σ'[σ.length]? = some (.dict (tabD [] rows)) ∧ σ'[C]? = some (.inst (ctxA Ro (some (.ref σ.length)))) ∧ ∀ (i : Nat) o', i ≠ C → σ[i]? = some o' → σ'[i]? = some o' := by
  obtain ⟨σ1, M⟩ := made (d := d) (lamv := lamv) hF hC
  have lC := lt_get hC
  have lR := lt_get hF.row
  obtain ⟨ρ', σ', t1, t2, t3, t4⟩ := row_loop (d := d) (M := σ.length) (fs := rows.map some) (by simpa using hr) (by lia) rows [] [] σ1 (Vars.set (Vars.set (bindAll [Str.ofString "context"] [.ref C]) "parent_map" .none) "parent_map" (.ref σ.length)) rfl (by simp) M.f M.m (by exact v_hit)
  refine ⟨σ', ?_, t3, t4 _ _ (by lia) M.c, fun i o' hi h => t4 i o' (by have := lt_get h; lia) (M.k i o' hi h)⟩
  apply c_fn f_get_parent_map (by kernel_rfl) rfl
  apply xs_cons
  · apply x_assign
    · kernel_rfl
    · apply e_pm
      · constructor
      · exact hn
      · (repeat (((with_reducible apply e_var); kernel_rfl; (focus ((repeat ((with_reducible exact b_hit))); done)))))
      · exact hC
    · exact a_name rfl
  apply xs_cons
  · apply x_ifT
    · apply t_cmp (by rfl)
      · (repeat (((with_reducible apply e_var); kernel_rfl; (focus ((repeat ((with_reducible exact v_hit))); done)))))
      · (repeat ((with_reducible exact e_none)))
      · exact c_isNN
    · apply xs_cons
      · exact M.x _ (by (focus ((repeat (first | (with_reducible exact b_hit) | ((with_reducible apply v_ne); kernel_rfl))); done)))
      apply xs_cons
      · apply x_for
        · rfl
        · apply e_callAttr
          · constructor
          · rfl
          · kernel_rfl
          · apply e_attr
            · constructor
            · kernel_rfl
            · (repeat (((with_reducible apply e_var); kernel_rfl; (focus ((repeat (first | (with_reducible exact b_hit) | ((with_reducible apply v_ne); kernel_rfl))); done)))))
            · exact io_ref M.c
            · exact ctx_root
          · exact M.k _ _ (RoC (R := R) hC hRo) hRo
          · rfl
          · exact hcall _
        · exact mk_list M.f.row
        · (repeat (((with_reducible exact lk_name))))
        · exact t1
      exact xs_nil
  apply xs_ret
  apply x_return
  apply e_var
  · kernel_rfl
  · exact t2
theorem gpm_raise {d C Ro R : Nat} {pm : Option AVal} {lamv : AVal} {rows : List (Nat × List Int)} {post : List Fm} {σ : St} (hr : (rows.map some ++ none :: post).length ≤ 200) (hn : NoPm pm) (hF : FamN σ R (rows.map some ++ none :: post)) (hC : σ[C]? = some (.inst (ctxA Ro pm))) (hRo : σ[Ro]? = some (.inst [(Str.ofString "root", .none), (Str.ofString "iter", lamv)])) (hcall : ∀ σ, EvC piL d lamv [] σ (.ref R) σ) :
    ∃ σ', EvCR piL (d + 1) (.fn "get_parent_map") [.ref C] σ "TypeError" σ' ∧ σ'[σ.length]? = some (.dict (tabD [] rows)) ∧ σ'[C]? = some (.inst (ctxA Ro (some (.ref σ.length)))) ∧ ∀ (i : Nat) o', i ≠ C → σ[i]? = some o' → σ'[i]? = some o' := by
  obtain ⟨σ1, M⟩ := made (d := d) (lamv := lamv) hF hC
  have lC := lt_get hC
  have lR := lt_get hF.row
  obtain ⟨ρ', σ', t1, t3, t4⟩ := row_raise (d := d) (M := σ.length) (post := post) (fs := rows.map some ++ none :: post) hr (by lia) rows [] [] σ1 (Vars.set (Vars.set (bindAll [Str.ofString "context"] [.ref C]) "parent_map" .none) "parent_map" (.ref σ.length)) rfl (by simp) M.f M.m (by exact v_hit)
  refine ⟨σ', ?_, t3, t4 _ _ (by lia) M.c, fun i o' hi h => t4 i o' (by have := lt_get h; lia) (M.k i o' hi h)⟩
  apply c_fnR f_get_parent_map rfl
  apply xsr_cons
  · apply x_assign
    · kernel_rfl
    · apply e_pm
      · constructor
      · exact hn
      · (repeat (((with_reducible apply e_var); kernel_rfl; (focus ((repeat ((with_reducible exact b_hit))); done)))))
      · exact hC
    · exact a_name rfl
  apply xsr_here
  apply xr_ifT
  · apply t_cmp (by rfl)
    · (repeat (((with_reducible apply e_var); kernel_rfl; (focus ((repeat ((with_reducible exact v_hit))); done)))))
    · (repeat ((with_reducible exact e_none)))
    · exact c_isNN
  · apply xsr_cons
    · exact M.x _ (by (focus ((repeat (first | (with_reducible exact b_hit) | ((with_reducible apply v_ne); kernel_rfl))); done)))
    apply xsr_here
    apply xr_for
    · rfl
    · apply e_callAttr
      · constructor
      · rfl
      · kernel_rfl
      · apply e_attr
        · constructor
        · kernel_rfl
        · (repeat (((with_reducible apply e_var); kernel_rfl; (focus ((repeat (first | (with_reducible exact b_hit) | ((with_reducible apply v_ne); kernel_rfl))); done)))))
        · exact io_ref M.c
        · exact ctx_root
      · exact M.k _ _ (RoC (R := R) hC hRo) hRo
      · rfl
      · exact hcall _
    · exact mk_list M.f.row
    · (repeat (((with_reducible exact lk_name))))
    · exact t1
noncomputable abbrev lamR (R : Nat) : AVal := AVal.lam (lamK (st 1 1)) [Str.ofString "rows"] [.ref R]
noncomputable abbrev rootO (R : Nat) : AObj := .inst [(Str.ofString "root", .none), (Str.ofString "iter", lamR R)]
theorem lamR_call {d R : Nat} : ∀ σ, EvC piL (d + 1) (lamR R) [] σ (.ref R) σ := fun σ => by
  apply c_lam
  · kernel_rfl
  · apply e_var
    · kernel_rfl
    · kernel_rfl
theorem root_ok {d R : Nat} {σ : St} : EvC piL (d + 3) (.fn "_law_root") [.ref R] σ (.ref σ.length) (σ ++ [rootO R]) := by
  obtain ⟨σ1, hσ1⟩ : ∃ σ1, σ1 = σ ++ [AObj.inst [(Str.ofString "root", .none)]] := ⟨_, rfl⟩
  have g1 : σ1[σ.length]? = some (.inst [(Str.ofString "root", .none)]) := by rw [hσ1]; exact get_new
  have e2 : σ1.set σ.length (.inst (putAt "iter" (lamR R) [(Str.ofString "root", .none)])) = σ ++ [rootO R] := by rw [hσ1, set_new, put_it]
  apply c_fnL (fl := .ret (.ref σ.length)) f_l_root (by kernel_rfl) rfl rfl
  apply xsl_cons (ρ₁ := Vars.set (bindAll [Str.ofString "rows"] [.ref R]) "root" (.ref σ.length)) (σ₁ := σ1)
  · rw [hσ1]
    apply x_assign
    · kernel_rfl
    · apply e_call
      · (repeat (((with_reducible apply e_glob); kernel_rfl; (exact g_cls))))
      · (repeat (first | (with_reducible first | exact es_nil | exact e_none) | ((with_reducible apply es_cons); (kernel_rfl))))
      · exact cls_ok rfl
    · exact a_name rfl
  apply xsl_consL (ρ₁ := Vars.set (bindAll [Str.ofString "rows"] [.ref R]) "root" (.ref σ.length)) (σ₁ := σ ++ [rootO R])
  · rw [← e2]
    apply xl_assign (v := lamR R) (σ₁ := σ1)
    · kernel_rfl
    · apply el_lam1
      · exact fun env => rfl
      · exact bind_args0
      · kernel_rfl
      · kernel_rfl
      · (focus ((repeat (first | (with_reducible exact b_hit) | ((with_reducible apply v_ne); kernel_rfl))); done))
      · kernel_rfl
    · apply a_attr
      · kernel_rfl
      · (repeat (((with_reducible apply e_var); kernel_rfl; (focus ((repeat ((with_reducible exact v_hit))); done)))))
      · exact g1
      · simp
  apply xsl_of
  apply xs_ret
  apply x_return
  (repeat (((with_reducible apply e_var); kernel_rfl; (focus ((repeat ((with_reducible exact v_hit))); done)))))
noncomputable def frontL : List Fm → List (Nat × List Int)
  | some q :: r => q :: frontL r
  | _ => []
theorem front_split : ∀ fs : List Fm, fs = (frontL fs).map some ∨ ∃ post, fs = (frontL fs).map some ++ none :: post
  | [] => .inl rfl
  | none :: r => .inr ⟨r, rfl⟩
  | some q :: r => by
    rcases front_split r with h | ⟨post, h⟩
    · exact .inl (by show some q :: r = some q :: (frontL r).map some; rw [← h])
    · exact .inr ⟨post, by show some q :: r = some q :: ((frontL r).map some ++ none :: post); rw [← h]⟩
noncomputable abbrev refs (rows : List (Nat × List Int)) : List AVal := rows.map fun q => .ref q.1
theorem front_loop {d R : Nat} {fs : List Fm} (hr : fs.length ≤ 200) : ∀ (rest done : List Fm) (l : List AVal) (σ : St) (ρ : Vars), fs = done ++ rest → l.length ≤ done.length → σ[R]? = some (.list (fs.map fmV)) → ρ "front" = some (.ref σ.length) →
    ∃ f ρ', EvF piL d (kdAt 2) ρ (forT (bodyAt 2) 1) (forB (bodyAt 2) 1) (.seq (.ref R) done.length) (σ ++ [.list l]) f ρ' (σ ++ [.list (l ++ refs (frontL rest))]) ∧ (f = .next ∧ ρ' "front" = some (.ref σ.length) ∨ f = .ret (.ref σ.length))
  | [], done, l, σ, ρ, hd, hl, hR, h2 => by
    rw [List.append_nil] at hd
    subst hd
    refine ⟨.next, ρ, ?_, .inl ⟨rfl, h2⟩⟩
    rw [show l ++ refs (frontL []) = l by simp [refs, frontL]]
    exact f_end (n_seqEnd (lo_ref (get_old hR)) (by simp))
  | none :: rest, done, l, σ, ρ, hd, hl, hR, h2 => by
    have hg : (fs.map fmV)[done.length]? = some .none := by rw [hd]; simp [fmV]
    refine ⟨.ret (.ref σ.length), Vars.set ρ "family" .none, ?_, .inr rfl⟩
    rw [show l ++ refs (frontL (none :: rest)) = l by simp [refs, frontL]]
    refine f_ret (n_seq (lo_ref (get_old hR)) hg) (a_name (by kernel_rfl)) ?_
    apply xs_ret
    apply x_ifT
    · apply t_cmp (by rfl)
      · (repeat (((with_reducible apply e_var); kernel_rfl; (focus ((repeat ((with_reducible exact v_hit))); done)))))
      · (repeat ((with_reducible exact e_none)))
      · exact c_isNN
    · apply xs_ret
      apply x_return
      (repeat (((with_reducible apply e_var); kernel_rfl; (focus ((repeat (assumption)); done)))))
  | some q :: rest, done, l, σ, ρ, hd, hl, hR, h2 => by
    have hg : (fs.map fmV)[done.length]? = some (.ref q.1) := by rw [hd]; simp [fmV]
    have hdl : done.length ≤ 200 := by rw [hd] at hr; simp at hr; lia
    obtain ⟨f, ρ', t1, t2⟩ := front_loop (d := d) hr rest (done ++ [some q]) (l ++ [.ref q.1]) σ (Vars.set ρ "family" (.ref q.1)) (by rw [hd]; simp) (by simp; lia) hR (by (focus ((repeat (assumption)); done)))
    rw [List.length_append] at t1
    refine ⟨f, ρ', ?_, t2⟩
    rw [show l ++ refs (frontL (some q :: rest)) = l ++ [.ref q.1] ++ refs (frontL rest) by simp [refs, frontL]]
    refine f_more (n_seq (lo_ref (get_old hR)) hg) (a_name (by kernel_rfl)) ?_ t1
    apply xs_cons
    · apply x_ifF
      · apply t_cmp (by rfl)
        · (repeat (((with_reducible apply e_var); kernel_rfl; (focus ((repeat ((with_reducible exact v_hit))); done)))))
        · (repeat ((with_reducible exact e_none)))
        · exact c_isRN
      · exact xs_nil
    have hx : EvX piL d (kdAt 2) (Vars.set ρ "family" (.ref q.1)) ((forB (bodyAt 2) 1).getD 1 default) (σ ++ [AObj.list l]) .next (Vars.set ρ "family" (.ref q.1)) ((σ ++ [AObj.list l]).set σ.length (.list (l ++ [.ref q.1]))) := by
      apply x_expr
      · rfl
      · apply e_append
        · constructor
        · kernel_rfl
        · (repeat (((with_reducible apply e_var); kernel_rfl; (focus ((repeat (assumption)); done)))))
        · exact get_new
        · (repeat (((with_reducible apply e_var); kernel_rfl; (focus ((repeat ((with_reducible exact v_hit))); done)))))
        · exact get_new
        · unfold lim; lia
    rw [set_new] at hx
    apply xs_cons
    · exact hx
    exact xs_nil
theorem front_ok {d R : Nat} {fs : List Fm} {σ : St} (hr : fs.length ≤ 200) (hR : σ[R]? = some (.list (fs.map fmV))) : EvC piL (d + 1) (.fn "_law_front") [.ref R] σ (.ref σ.length) (σ ++ [.list (refs (frontL fs))]) := by
  obtain ⟨f, ρ', t1, t2⟩ := front_loop (d := d) hr fs [] [] σ (Vars.set (bindAll [Str.ofString "rows"] [.ref R]) "front" (.ref σ.length)) rfl (Nat.le_refl _) hR (by (focus ((repeat ((with_reducible exact v_hit))); done)))
  have x0 : EvX piL d (kdAt 2) (bindAll [Str.ofString "rows"] [.ref R]) (st 2 0) σ .next (Vars.set (bindAll [Str.ofString "rows"] [.ref R]) "front" (.ref σ.length)) (σ ++ [.list []]) := by
    apply x_assign
    · kernel_rfl
    · (repeat (first | (with_reducible first | exact es_nil | apply e_list) | (decide)))
    · exact a_name rfl
  rw [List.nil_append] at t1
  rcases t2 with ⟨rfl, t2⟩ | rfl
  · apply c_fn f_l_front (by kernel_rfl) rfl
    apply xs_cons
    · exact x0
    apply xs_cons
    · apply x_for
      · rfl
      · (repeat (((with_reducible apply e_var); kernel_rfl; (focus ((repeat (first | (with_reducible exact b_hit) | ((with_reducible apply v_ne); kernel_rfl))); done)))))
      · exact mk_list (get_old hR)
      · (repeat (((with_reducible exact lk_name))))
      · exact t1
    apply xs_ret
    apply x_return
    apply e_var
    · kernel_rfl
    · exact t2
  · apply c_fn f_l_front (by kernel_rfl) rfl
    apply xs_cons
    · exact x0
    apply xs_ret
    apply x_for
    · rfl
    · (repeat (((with_reducible apply e_var); kernel_rfl; (focus ((repeat (first | (with_reducible exact b_hit) | ((with_reducible apply v_ne); kernel_rfl))); done)))))
    · exact mk_list (get_old hR)
    · (repeat (((with_reducible exact lk_name))))
    · exact t1
structure Front (σ : St) (f : Nat) (rows : List (Nat × List Int)) : Prop where
  row : σ[f]? = some (.list (refs rows))
  el : ∀ q ∈ rows, σ[q.1]? = some (.list (q.2.map .int)) ∧ q.2.length ≤ 200
theorem Front.keep {σ σ' : St} {f : Nat} {rows : List (Nat × List Int)} (h : Front σ f rows) (hf : ∀ (i : Nat) vs, σ[i]? = some (.list vs) → σ'[i]? = some (.list vs)) : Front σ' f rows := ⟨hf _ _ h.row, fun q hq => ⟨hf _ _ (h.el q hq).1, (h.el q hq).2⟩⟩
noncomputable def gNot (o : List Int) : AVal → Bool
  | .int n => !(o.any (· == n))
  | _ => false
theorem fresh_filter (o xs : List Int) : ((xs.map AVal.int).filter (gNot o)).map id = (fresh o xs).map AVal.int := by
  rw [List.map_id, List.filter_map]
  rfl
theorem ext_loop {d f O : Nat} {rows : List (Nat × List Int)} (hr : rows.length ≤ 200) : ∀ (rest done : List (Nat × List Int)) (o : List Int) (σ : St) (ρ : Vars), rows = done ++ rest → o.length ≤ 200 * done.length → (∀ q ∈ rows, q.1 ≠ O) → f ≠ O → Front σ f rows → σ[O]? = some (.list (o.map .int)) → ρ "order" = some (.ref O) →
    ∃ ρ' σ', EvF piL d (kdAt 3) ρ (forT (bodyAt 3) 1) (forB (bodyAt 3) 1) (.seq (.ref f) done.length) σ .next ρ' σ' ∧ (∀ y, y ≠ Str.ofString "family" → ρ' y = ρ y) ∧ σ'[O]? = some (.list ((ordL o rest).map .int)) ∧ ∀ (i : Nat) o', i ≠ O → σ[i]? = some o' → σ'[i]? = some o'
  | [], done, o, σ, ρ, hd, hl, hq, hf, hF, hO, h1 => by
    rw [List.append_nil] at hd
    subst hd
    exact ⟨ρ, σ, f_end (n_seqEnd (lo_ref hF.row) (by simp)), fun _ _ => rfl, hO, fun _ _ _ h => h⟩
  | q :: rest, done, o, σ, ρ, hd, hl, hq, hf, hF, hO, h1 => by
    have hm : q ∈ rows := by rw [hd]; simp
    have hg : (refs rows)[done.length]? = some (.ref q.1) := by rw [hd]; simp
    obtain ⟨e1, e2⟩ := hF.el q hm
    have hdl : done.length ≤ 200 := by rw [hd] at hr; simp at hr; lia
    have hfl : (fresh o q.2).length ≤ q.2.length := List.length_filter_le _ _
    obtain ⟨σ1, hσ1⟩ : ∃ σ1, σ1 = (σ ++ [AObj.list ((fresh o q.2).map .int)]).set O (.list (o.map .int ++ (fresh o q.2).map .int)) := ⟨_, rfl⟩
    have k1 : ∀ (i : Nat) o', i ≠ O → σ[i]? = some o' → σ1[i]? = some o' := fun i o' hi h => by rw [hσ1]; exact set_ne (Ne.symm hi) (get_old h)
    have hO1 : σ1[O]? = some (.list ((o ++ fresh o q.2).map .int)) := by rw [hσ1, List.map_append]; exact set_hit (get_old hO)
    have hF1 : Front σ1 f rows := ⟨k1 _ _ hf hF.row, fun q' hq' => ⟨k1 _ _ (hq q' hq') (hF.el q' hq').1, (hF.el q' hq').2⟩⟩
    obtain ⟨ρ', σ', t1, t2, t3, t4⟩ := ext_loop (d := d) hr rest (done ++ [q]) (o ++ fresh o q.2) σ1 (Vars.set ρ "family" (.ref q.1)) (by rw [hd]; simp) (by simp; lia) hq hf hF1 hO1 (by (focus ((repeat (assumption)); done)))
    rw [List.length_append] at t1
    have x0 : EvX piL d (kdAt 3) (Vars.set ρ "family" (.ref q.1)) ((forB (bodyAt 3) 1).getD 0 default) σ .next (Vars.set ρ "family" (.ref q.1)) σ1 := by
      rw [hσ1]
      apply x_expr
      · rfl
      · apply e_meth (σ₁ := σ)
        · exact .plain (by constructor)
        · kernel_rfl
        · (repeat (((with_reducible apply e_var); kernel_rfl; (focus ((repeat (assumption)); done)))))
        · exact mt_extend hO
        · apply es_cons (by rfl) (v := .ref σ.length) (σ₁ := σ ++ [AObj.list ((fresh o q.2).map .int)])
          · rw [← fresh_filter]
            apply e_comp
            · exact compOk_mono (ρ₂ := dom [Str.ofString "order"]) (by kernel_rfl) (dom_cons (by (focus ((repeat (assumption)); done))) dom_nil)
            · rfl
            · (repeat (((with_reducible apply e_var); kernel_rfl; (focus ((repeat ((with_reducible exact v_hit))); done)))))
            · exact mk_list e1
            · refine cm_filter (f := id) (g := gNot o) (fun l => lo_ref (get_old e1)) (by rw [List.length_map]; unfold lim; lia) (fun v hv l => ?_) (fun v hv _ l => ?_)
              · obtain ⟨n, hn, rfl⟩ := List.mem_map.mp hv
                apply and_last
                apply t_cmp (by rfl)
                · (repeat (((with_reducible apply e_var); kernel_rfl; (focus ((repeat ((with_reducible exact v_hit))); done)))))
                · (repeat (((with_reducible apply e_var); kernel_rfl; (focus ((repeat (assumption)); done)))))
                · exact c_ninI (lo_ref (get_old hO)) rfl
              · apply e_var
                · kernel_rfl
                · exact v_hit
          · exact es_nil
        · exact c_extend (get_old hO) get_new (by rw [List.length_map, List.length_map]; unfold lim; lia)
    refine ⟨ρ', σ', f_more (n_seq (lo_ref hF.row) hg) (a_name (by kernel_rfl)) (xs_cons x0 xs_nil) t1, fun y hy => ?_, t3, fun i o' hi h => t4 i o' hi (k1 i o' hi h)⟩
    rw [t2 y hy]
    unfold Vars.set
    rw [if_neg hy]
noncomputable def hasR (σ : St) (x : Int) (v : AVal) : Bool := ((listOf? σ v).getD []).any fun w => match w with
  | .int n => n == x
  | _ => false
theorem hasR_refs {σ : St} {x : Int} : ∀ {rows : List (Nat × List Int)}, (∀ q ∈ rows, σ[q.1]? = some (.list (q.2.map .int))) → (refs rows).filter (hasR σ x) = refs (rows.filter fun q => decide (x ∈ q.2))
  | [], _ => rfl
  | q :: r, h => by
    have ih := hasR_refs (x := x) (rows := r) fun q' hq' => h q' (.tail _ hq')
    have hq : hasR σ x (.ref q.1) = decide (x ∈ q.2) := by
      unfold hasR
      rw [lo_ref (h q (.head _)), Option.getD_some, List.any_map]
      have : (q.2.any ((fun w => match w with | AVal.int n => n == x | _ => false) ∘ AVal.int)) = q.2.any (· == x) := rfl
      rw [this]
      by_cases hx : x ∈ q.2
      · rw [decide_eq_true hx]; exact any_mem.mpr hx
      · rw [decide_eq_false hx]
        cases z : q.2.any (· == x) with
        | true => exact absurd (any_mem.mp z) hx
        | false => rfl
    show (AVal.ref q.1 :: refs r).filter (hasR σ x) = _
    by_cases hx : x ∈ q.2
    · rw [List.filter_cons_of_pos (by rw [hq]; simpa using hx), ih, List.filter_cons_of_pos (by simpa using hx)]; rfl
    · rw [List.filter_cons_of_neg (by rw [hq]; simpa using hx), ih, List.filter_cons_of_neg (by simpa using hx)]
theorem keys_loop {d f M : Nat} {rows : List (Nat × List Int)} {D : List (Int × AVal)} (hr : rows.length ≤ 200) (hD : D = tabD [] rows) : ∀ (n k : Nat) (σ : St) (ρ : Vars), k + n = D.length → Front σ f rows → σ[M]? = some (.dict D) → ρ "front" = some (.ref f) → ρ "table" = some (.ref M) →
    ∃ ρ' σ', EvF piL d (kdAt 3) ρ (forT (bodyAt 3) 3) (forB (bodyAt 3) 3) (.dkeys (.ref M) D.length k) σ .next ρ' σ' ∧ ∀ (i : Nat) o', σ[i]? = some o' → σ'[i]? = some o'
  | 0, k, σ, ρ, hk, hF, hM, h1, h2 => ⟨ρ, σ, f_end (n_dkeysEnd hM rfl (by rw [List.getElem?_eq_none_iff]; lia)), fun _ _ h => h⟩
  | n + 1, k, σ, ρ, hk, hF, hM, h1, h2 => by
    obtain ⟨⟨x, w⟩, hx⟩ : ∃ p, D[k]? = some p := ⟨D[k]'(by lia), List.getElem?_eq_getElem (by lia)⟩
    have hxk : x ∈ (tabD [] rows).map (·.1) := by rw [← hD]; exact List.mem_map.mpr ⟨(x, w), List.mem_of_getElem? hx, rfl⟩
    obtain ⟨pre, q, hfil, hlook⟩ := tab_last hxk
    rw [← hD] at hlook
    have hlen : pre.length ≤ 200 := by
      have := congrArg List.length hfil
      have h3 := List.length_filter_le (fun q : Nat × List Int => decide (x ∈ q.2)) rows
      simp at this
      lia
    obtain ⟨σ1, hσ1⟩ : ∃ σ1, σ1 = σ ++ [AObj.list (refs pre ++ [.ref q.1])] := ⟨_, rfl⟩
    have k1 : ∀ (i : Nat) o', σ[i]? = some o' → σ1[i]? = some o' := fun i o' h => by rw [hσ1]; exact get_old h
    obtain ⟨ρ', σ', t1, t2⟩ := keys_loop (d := d) (f := f) (M := M) hr hD n (k + 1) σ1 (Vars.set (Vars.set ρ "n" (.int x)) "last" (.ref q.1)) (by lia) (hF.keep fun i vs h => k1 _ _ h) (k1 _ _ hM) (by (focus ((repeat (assumption)); done))) (by (focus ((repeat (assumption)); done)))
    have x0 : EvX piL d (kdAt 3) (Vars.set ρ "n" (.int x)) ((forB (bodyAt 3) 3).getD 0 default) σ .next (Vars.set (Vars.set ρ "n" (.int x)) "last" (.ref q.1)) σ1 := by
      apply x_assign
      · kernel_rfl
      · apply e_item (σ₁ := σ1) (a := .ref σ.length)
        · have hc : (((refs rows).filter (hasR σ x)).map id) = refs pre ++ [.ref q.1] := by
            rw [List.map_id, hasR_refs fun q hq => (hF.el q hq).1, hfil, refs, List.map_append]; rfl
          rw [hσ1, ← hc]
          apply e_comp
          · exact compOk_mono (ρ₂ := dom [Str.ofString "n"]) (by kernel_rfl) (dom_cons (by (focus ((repeat ((with_reducible exact v_hit))); done))) dom_nil)
          · rfl
          · (repeat (((with_reducible apply e_var); kernel_rfl; (focus ((repeat (assumption)); done)))))
          · exact mk_list hF.row
          · refine cm_filter (f := id) (g := hasR σ x) (fun l => lo_ref (get_old hF.row)) (by rw [List.length_map]; unfold lim; lia) (fun v hv l => ?_) (fun v hv _ l => ?_)
            · obtain ⟨q', hq', rfl⟩ := List.mem_map.mp hv
              apply and_last
              apply t_cmp (by rfl)
              · (repeat (((with_reducible apply e_var); kernel_rfl; (focus ((repeat (first | (with_reducible exact v_hit) | ((with_reducible first | apply v_ne | apply fv_get); kernel_rfl))); done)))))
              · (repeat (((with_reducible apply e_var); kernel_rfl; (focus ((repeat ((with_reducible exact v_hit))); done)))))
              · refine c_inI (lo_ref (get_old (hF.el q' hq').1)) ?_
                unfold hasR
                rw [lo_ref (hF.el q' hq').1, Option.getD_some, List.any_map]
                rfl
            · apply e_var
              · kernel_rfl
              · exact v_hit
        · apply e_neg
          (repeat ((with_reducible exact e_int)))
        · exact it_last (lo_ref (by rw [hσ1]; exact get_new)) (by rw [List.length_map]; unfold lim; lia)
      · exact a_name (by kernel_rfl)
    have x1 : EvX piL d (kdAt 3) (Vars.set (Vars.set ρ "n" (.int x)) "last" (.ref q.1)) ((forB (bodyAt 3) 3).getD 1 default) σ1 .next (Vars.set (Vars.set ρ "n" (.int x)) "last" (.ref q.1)) σ1 := by
      apply x_ifF
      · apply t_cmp (by rfl) (a := .ref q.1) (b := .ref q.1)
        · apply e_item
          · (repeat (((with_reducible apply e_var); kernel_rfl; (focus ((repeat (assumption)); done)))))
          · (repeat (((with_reducible apply e_var); kernel_rfl; (focus ((repeat (first | (with_reducible exact v_hit) | ((with_reducible apply v_ne); kernel_rfl))); done)))))
          · exact it_dict (k1 _ _ hM) hlook
        · (repeat (((with_reducible apply e_var); kernel_rfl; (focus ((repeat ((with_reducible exact v_hit))); done)))))
        · exact c_inR (by simp)
      · exact xs_nil
    exact ⟨ρ', σ', f_more (n_dkeys hM rfl hx) (a_name (by kernel_rfl)) (xs_cons x0 (xs_cons x1 xs_nil)) t1, fun i o' h => t2 i o' (k1 i o' h)⟩
noncomputable def cmpR (s : Stmt) : Expr := match s with
  | .If (.Compare _ _ [r] _) _ _ _ => r
  | _ => default
noncomputable def ddN : List (Str × NameKind) := match cmpR (st 3 2) with
  | .ListComp _ _ sc _ => sc.names
  | _ => []
noncomputable def ddE : Expr := match cmpR (st 3 2) with
  | .ListComp e _ _ _ => e
  | _ => default
noncomputable def ddI : List Expr := match cmpR (st 3 2) with
  | .ListComp _ [g] _ _ => g.ifs
  | _ => []
theorem dd_comp {d O : Nat} {o : List Int} {σ : St} {ρ : Vars} (hO : σ[O]? = some (.list (o.map .int))) (h1 : ρ "order" = some (.ref O)) (ho : o.length ≤ 100000) : ∃ τ, EvE piL d (kdAt 3) ρ (cmpR (st 3 2)) σ (.ref σ.length) (σ ++ [.list ((dd o).map .int)] ++ τ) := by
  have hn : ((o.map AVal.int).length : Int) - 0 = (o.length : Nat) := by rw [List.length_map]; lia
  have ht : ∀ i : Nat, i < o.length → ∀ (l : List AVal) (τ : St), ∃ τ', EvTs piL d (relabelK ddN (kdAt 3)) (Vars.set (freeVars (relabelK ddN (kdAt 3)) ρ) "k" (.int (i : Int))) .And ddI (σ ++ [AObj.list l] ++ τ) (!((o.take i).any (· == o.getD i 0))) (σ ++ [AObj.list l] ++ (τ ++ τ')) := by
    intro i hi l τ
    have hO' : (σ ++ [AObj.list l] ++ τ)[O]? = some (.list (o.map .int)) := get_old (get_old hO)
    have hoi : (o.map AVal.int)[((i : Int)).toNat]? = some (.int (o.getD i 0)) := by simp [List.getD, hi]
    refine ⟨[.list ((o.take i).map .int)], ?_⟩
    rw [← List.append_assoc]
    apply and_last
    apply t_cmp (by rfl) (a := .int (o.getD i 0)) (b := .ref (σ ++ [AObj.list l] ++ τ).length) (σ₁ := σ ++ [AObj.list l] ++ τ)
    · apply e_item
      · (repeat (((with_reducible apply e_var); kernel_rfl; (focus ((repeat (assumption)); done)))))
      · (repeat (((with_reducible apply e_var); kernel_rfl; (focus ((repeat ((with_reducible exact v_hit))); done)))))
      · exact it_list (lo_ref hO') (by lia) hoi (by lia)
    · rw [show (o.take i).map AVal.int = pickL (o.map AVal.int) none (some (i : Int)) none by rw [pickL_take _ (by rw [List.length_map]; lia), List.map_take]]
      apply e_sliceL
      · (repeat (((with_reducible apply e_var); kernel_rfl; (focus ((repeat (assumption)); done)))))
      · exact o_none
      · apply o_some
        · (repeat (((with_reducible apply e_var); kernel_rfl; (focus ((repeat ((with_reducible exact v_hit))); done)))))
        · exact oi_int
      · exact o_none
      · rfl
      · exact lo_ref hO'
      · rw [List.length_map]; unfold lim; lia
    · exact c_ninI (lo_ref get_new) rfl
  have he : ∀ i : Nat, i < o.length → (!((o.take i).any (· == o.getD i 0))) = true → ∀ (l : List AVal) (τ : St), EvE piL d (relabelK ddN (kdAt 3)) (Vars.set (freeVars (relabelK ddN (kdAt 3)) ρ) "k" (.int (i : Int))) ddE (σ ++ [AObj.list l] ++ τ) (.int (o.getD i 0)) (σ ++ [AObj.list l] ++ τ) := by
    intro i hi _ l τ
    have hO' : (σ ++ [AObj.list l] ++ τ)[O]? = some (.list (o.map .int)) := get_old (get_old hO)
    have hoi : (o.map AVal.int)[((i : Int)).toNat]? = some (.int (o.getD i 0)) := by simp [List.getD, hi]
    apply e_item
    · (repeat (((with_reducible apply e_var); kernel_rfl; (focus ((repeat (assumption)); done)))))
    · (repeat (((with_reducible apply e_var); kernel_rfl; (focus ((repeat ((with_reducible exact v_hit))); done)))))
    · exact it_list (lo_ref hO') (by lia) hoi (by lia)
  obtain ⟨τ, hc⟩ := cm_rngIfA (f := fun k => AVal.int (o.getD k 0)) (g := fun k => !((o.take k).any (· == o.getD k 0))) (n₀ := o.length) (by unfold lim; lia) ht he
  refine ⟨τ, ?_⟩
  have e2 : (dd o).map AVal.int = ((List.range o.length).filter fun k => !((o.take k).any (· == o.getD k 0))).map fun k => AVal.int (o.getD k 0) := by
    unfold dd; rw [List.map_map]; rfl
  rw [e2]
  apply e_comp (a := .rng 0 (o.map AVal.int).length 1) (σ₁ := σ)
  · exact compOk_mono (ρ₂ := dom [Str.ofString "order"]) (by kernel_rfl) (dom_cons h1 dom_nil)
  · rfl
  · apply e_call
    · (repeat (((with_reducible apply e_glob); kernel_rfl; (exact g_range))))
    · apply es_cons (by rfl) (v := .int (o.map AVal.int).length) (σ₁ := σ)
      · apply e_call
        · (repeat (((with_reducible apply e_glob); kernel_rfl; (exact g_len))))
        · (repeat (first | (with_reducible exact es_nil) | ((with_reducible apply es_cons); (kernel_rfl)) | ((with_reducible apply e_var); kernel_rfl; (focus ((repeat (assumption)); done)))))
        · exact c_lenList (lo_ref hO) (by rw [List.length_map]; unfold lim; lia)
      · exact es_nil
    · exact c_range1
  · refine mk_rng1 ⟨by lia, by lia, by rw [List.length_map]; lia⟩
  · rw [hn]
    exact hc
theorem same_ok {d f M : Nat} {rows : List (Nat × List Int)} {σ : St} (hr : rows.length ≤ 200) (hF : Front σ f rows) (hM : σ[M]? = some (.dict (tabD [] rows))) :
    ∃ σ', EvC piL (d + 1) (.fn "_law_same") [.ref M, .ref f] σ (.bool true) σ' ∧ ∀ (i : Nat) o', σ[i]? = some o' → σ'[i]? = some o' := by
  have hlen : (ordL [] rows).length ≤ 200 * rows.length := by have := ord_len rows [] 200 fun q hq => (hF.el q hq).2; simpa using this
  have hkeys : (tabD [] rows).map (·.1) = dd (ordL [] rows) := tab_keys rows [] [] rfl
  have hD : (tabD [] rows).length ≤ 200 * rows.length := by
    have h1 := congrArg List.length hkeys
    rw [List.length_map] at h1
    have h2 : (dd (ordL [] rows)).length ≤ (ordL [] rows).length := by
      unfold dd
      rw [List.length_map]
      have := List.length_filter_le (fun k => !(((ordL [] rows).take k).any (· == (ordL [] rows).getD k 0))) (List.range (ordL [] rows).length)
      rwa [List.length_range] at this
    lia
  have lf := lt_get hF.row
  have lM := lt_get hM
  have hF0 : Front (σ ++ [AObj.list []]) f rows := hF.keep fun i vs h => get_old h
  obtain ⟨ρ1, σ1, t1, t2, t3, t4⟩ := ext_loop (d := d) (O := σ.length) hr rows [] [] (σ ++ [AObj.list []]) (Vars.set (bindAll [Str.ofString "table", Str.ofString "front"] [.ref M, .ref f]) "order" (.ref σ.length)) rfl (by simp) (fun q hq => by have := lt_get (hF.el q hq).1; lia) (by lia) hF0 get_new (by (focus ((repeat ((with_reducible exact v_hit))); done)))
  have k1 : ∀ (i : Nat) o', σ[i]? = some o' → σ1[i]? = some o' := fun i o' h => t4 i o' (by have := lt_get h; lia) (get_old h)
  have v1 : ρ1 "order" = some (.ref σ.length) := by rw [t2 _ (by decide)]; (focus ((repeat ((with_reducible exact v_hit))); done))
  have v2 : ρ1 "table" = some (.ref M) := by rw [t2 _ (by decide)]; (focus ((repeat (first | (with_reducible exact b_hit) | ((with_reducible apply v_ne); kernel_rfl))); done))
  have v3 : ρ1 "front" = some (.ref f) := by rw [t2 _ (by decide)]; (focus ((repeat (first | (with_reducible exact b_hit) | ((with_reducible first | apply v_ne | apply b_ne); kernel_rfl))); done))
  obtain ⟨τ, hc⟩ := dd_comp (d := d) (O := σ.length) (o := ordL [] rows) (σ := σ1 ++ [AObj.list ((tabD [] rows).map fun kv => .int kv.1)]) (ρ := ρ1) (get_old t3) v1 (by lia)
  obtain ⟨σ2, hσ2⟩ : ∃ σ2, σ2 = σ1 ++ [AObj.list ((tabD [] rows).map fun kv => .int kv.1)] ++ [.list ((dd (ordL [] rows)).map .int)] ++ τ := ⟨_, rfl⟩
  rw [← hσ2] at hc
  have k2 : ∀ (i : Nat) o', σ1[i]? = some o' → σ2[i]? = some o' := fun i o' h => by rw [hσ2]; exact get_old (get_old (get_old h))
  obtain ⟨ρ3, σ3, u1, u2⟩ := keys_loop (d := d) (f := f) (M := M) hr rfl (tabD [] rows).length 0 σ2 ρ1 (by lia) (hF.keep fun i vs h => k2 _ _ (k1 _ _ h)) (k2 _ _ (k1 _ _ hM)) v3 v2
  refine ⟨σ3, ?_, fun i o' h => u2 i o' (k2 i o' (k1 i o' h))⟩
  apply c_fn f_l_same (by kernel_rfl) rfl
  apply xs_cons
  · apply x_assign
    · kernel_rfl
    · (repeat (first | (with_reducible first | exact es_nil | apply e_list) | (decide)))
    · exact a_name rfl
  apply xs_cons
  · apply x_for
    · rfl
    · (repeat (((with_reducible apply e_var); kernel_rfl; (focus ((repeat (first | (with_reducible exact b_hit) | ((with_reducible first | apply v_ne | apply b_ne); kernel_rfl))); done)))))
    · exact mk_list hF0.row
    · (repeat (((with_reducible exact lk_name))))
    · exact t1
  apply xs_cons
  · apply x_ifF
    · apply t_cmp (by rfl) (a := .ref σ1.length) (b := .ref (σ1 ++ [AObj.list ((tabD [] rows).map fun kv => .int kv.1)]).length) (σ₁ := σ1 ++ [AObj.list ((tabD [] rows).map fun kv => .int kv.1)]) (σ₂ := σ2)
      · apply e_call
        · (repeat (((with_reducible apply e_glob); kernel_rfl; (exact g_list))))
        · apply es_cons (by rfl)
          · apply e_var
            · kernel_rfl
            · exact v2
          · exact es_nil
        · exact c_listD (k1 _ _ hM) (by unfold lim; lia)
      · exact hc
      · refine c_lne (xs := dd (ordL [] rows)) (ys := dd (ordL [] rows)) (lo_ref ?_) (lo_ref ?_) (by simp)
        · rw [hσ2, ← hkeys, List.map_map]
          exact get_old (get_old get_new)
        · rw [hσ2]
          exact get_old get_new
    · exact xs_nil
  apply xs_cons
  · apply x_for
    · rfl
    · apply e_var
      · kernel_rfl
      · exact v2
    · exact mk_dict (k2 _ _ (k1 _ _ hM))
    · (repeat (((with_reducible exact lk_name))))
    · exact u1
  apply xs_ret
  apply x_return
  (repeat ((with_reducible exact e_bool)))
noncomputable def Safe (i : Nat) : Prop := i ≠ 3 ∧ i ≠ 6 ∧ i ≠ 11 ∧ i ≠ 12 ∧ i ≠ 13 ∧ i ≠ 15 ∧ i ≠ 16
noncomputable def Kp (σ σ' : St) : Prop := ∀ (i : Nat) o, Safe i → σ[i]? = some o → σ'[i]? = some o
theorem Kp.refl (σ : St) : Kp σ σ := fun _ _ _ h => h
theorem Kp.trans {σ σ₁ σ₂ : St} (x : Kp σ σ₁) (y : Kp σ₁ σ₂) : Kp σ σ₂ := fun i o h e => y i o h (x i o h e)
theorem Kp.of {σ σ' : St} (h : ∀ (i : Nat) o, σ[i]? = some o → σ'[i]? = some o) : Kp σ σ' := fun i o _ e => h i o e
theorem safe_big {i : Nat} (h : 17 ≤ i) : Safe i := by unfold Safe; lia
noncomputable def upd {α : Type} (g : Nat → α) (w : Nat) (x : α) : Nat → α := fun i => if i = w then x else g i
theorem upd_same {α : Type} {g : Nat → α} {w : Nat} {x : α} : upd g w x w = x := by simp [upd]
theorem upd_ne {α : Type} {g : Nat → α} {w i : Nat} {x : α} (h : i ≠ w) : upd g w x i = g i := by simp [upd, h]
theorem get3 {α : Type} {g : Nat → α} {w : Nat} (h : w < 3) : [g 0, g 1, g 2][w]? = some (g w) := by
  match w, h with
  | 0, _ => rfl
  | 1, _ => rfl
  | 2, _ => rfl
theorem set3 {α β : Type} {g : Nat → α} {F : α → β} {w : Nat} {x : α} (h : w < 3) : [F (g 0), F (g 1), F (g 2)].set w (F x) = [F (upd g w x 0), F (upd g w x 1), F (upd g w x 2)] := by
  match w, h with
  | 0, _ => rfl
  | 1, _ => rfl
  | 2, _ => rfl
noncomputable abbrev Fr := Option (Nat × Nat × List (Nat × List Int))
noncomputable def frV : Fr → AVal
  | none => .none
  | some p => .ref p.1
inductive Own (σ : St) : Option AVal → Fr → AVal → Prop
  | none {pm : Option AVal} {h : AVal} (hn : NoPm pm) : Own σ pm none h
  | some {f M : Nat} {rows : List (Nat × List Int)} (hF : Front σ f rows) (hM : σ[M]? = some (.dict (tabD [] rows))) (hr : rows.length ≤ 200) (sf : Safe f) (sM : Safe M) (sq : ∀ q ∈ rows, Safe q.1) : Own σ (some (.ref M)) (some (f, M, rows)) (.ref M)
theorem Own.keep {σ σ' : St} {pm : Option AVal} {fr : Fr} {h : AVal} (x : Own σ pm fr h) (k : Kp σ σ') : Own σ' pm fr h := by
  cases x with
  | none hn => exact .none hn
  | some hF hM hr sf sM sq => exact .some ⟨k _ _ sf hF.row, fun q hq => ⟨k _ _ (sq q hq) (hF.el q hq).1, (hF.el q hq).2⟩⟩ (k _ _ sM hM) hr sf sM sq
structure Inv (σ : St) (fs : Nat → List Fm) (pm : Nat → Option AVal) (fr : Nat → Fr) (hv : Nat → AVal) : Prop where
  rw : σ[7]? = some (.list [.ref 3, .ref 6])
  ro : ∀ j, j < 2 → σ[8 + j]? = some (rootO (3 + 3 * j))
  ct : σ[14]? = some (.list [.ref 11, .ref 12, .ref 13])
  fam : ∀ j, j < 2 → FamN σ (3 + 3 * j) (fs j)
  safe : ∀ j, j < 2 → ∀ q, some q ∈ fs j → Safe q.1
  cx : ∀ w, w < 3 → σ[11 + w]? = some (.inst (ctxA (8 + w / 2) (pm w)))
  frl : σ[15]? = some (.list [frV (fr 0), frV (fr 1), frV (fr 2)])
  hel : σ[16]? = some (.list [hv 0, hv 1, hv 2])
  own : ∀ w, w < 3 → Own σ (pm w) (fr w) (hv w)
theorem Inv.big {σ : St} {fs : Nat → List Fm} {pm : Nat → Option AVal} {fr : Nat → Fr} {hv : Nat → AVal} (I : Inv σ fs pm fr hv) : 17 ≤ σ.length := by have := lt_get I.hel; lia
theorem Inv.keep {σ σ' : St} {fs : Nat → List Fm} {pm : Nat → Option AVal} {fr : Nat → Fr} {hv : Nat → AVal} (I : Inv σ fs pm fr hv) (k : ∀ (i : Nat) o, σ[i]? = some o → σ'[i]? = some o) : Inv σ' fs pm fr hv :=
  ⟨k _ _ I.rw, fun j h => k _ _ (I.ro j h), k _ _ I.ct, fun j h => (I.fam j h).keep fun i o _ e => k i o e, I.safe, fun w h => k _ _ (I.cx w h), k _ _ I.frl, k _ _ I.hel, fun w h => (I.own w h).keep (Kp.of k)⟩
section
variable {σ σ' : St} {fs : Nat → List Fm} {pm : Nat → Option AVal} {fr : Nat → Fr} {hv : Nat → AVal} {w j : Nat}
theorem ctx_at (hw : w < 3) : [AVal.ref 11, .ref 12, .ref 13][w]? = some (.ref (11 + w)) := by
  match w, hw with
  | 0, _ => rfl
  | 1, _ => rfl
  | 2, _ => rfl
theorem fam_at (hj : j < 2) : [AVal.ref 3, .ref 6][j]? = some (.ref (3 + 3 * j)) := by
  match j, hj with
  | 0, _ => rfl
  | 1, _ => rfl
theorem Inv.setFam (I : Inv σ fs pm fr hv) (hj : j < 2) {l : List Fm} (k : ∀ (i : Nat) o, i ≠ 3 + 3 * j → σ[i]? = some o → σ'[i]? = some o) (h1 : σ'[3 + 3 * j]? = some (.list (l.map fmV))) (h2 : ∀ q, some q ∈ l → some q ∈ fs j ∨ (σ'[q.1]? = some (.list (q.2.map .int)) ∧ q.2.length ≤ 200 ∧ Safe q.1)) : Inv σ' (upd fs j l) pm fr hv := by
  have kp : Kp σ σ' := fun i o hi e => k i o (by unfold Safe at hi; lia) e
  refine ⟨k _ _ (by lia) I.rw, fun j' h => k _ _ (by lia) (I.ro j' h), k _ _ (by lia) I.ct, fun j' hj' => ?_, fun j' hj' q hq => ?_, fun w h => k _ _ (by lia) (I.cx w h), k _ _ (by lia) I.frl, k _ _ (by lia) I.hel, fun w h => (I.own w h).keep kp⟩
  · by_cases e : j' = j
    · subst e
      rw [upd_same]
      refine ⟨h1, fun q hq => ?_⟩
      rcases h2 q hq with h | h
      · obtain ⟨a, b⟩ := (I.fam _ hj).el q h
        exact ⟨kp _ _ (I.safe _ hj q h) a, b⟩
      · exact ⟨h.1, h.2.1⟩
    · rw [upd_ne e]
      refine ⟨k _ _ (by lia) (I.fam j' hj').row, fun q hq => ?_⟩
      obtain ⟨a, b⟩ := (I.fam j' hj').el q hq
      exact ⟨kp _ _ (I.safe j' hj' q hq) a, b⟩
  · by_cases e : j' = j
    · subst e
      rw [upd_same] at hq
      rcases h2 q hq with h | h
      · exact I.safe _ hj q h
      · exact h.2.2
    · rw [upd_ne e] at hq
      exact I.safe j' hj' q hq
theorem Inv.setCtx (I : Inv σ fs pm fr hv) (hw : w < 3) {p : Option AVal} {f : Fr} {h : AVal} (k : ∀ (i : Nat) o, i ≠ 11 + w → i ≠ 15 → i ≠ 16 → σ[i]? = some o → σ'[i]? = some o) (h1 : σ'[11 + w]? = some (.inst (ctxA (8 + w / 2) p)))
    (h2 : σ'[15]? = some (.list [frV (upd fr w f 0), frV (upd fr w f 1), frV (upd fr w f 2)])) (h3 : σ'[16]? = some (.list [upd hv w h 0, upd hv w h 1, upd hv w h 2])) (h4 : Own σ' p f h) : Inv σ' fs (upd pm w p) (upd fr w f) (upd hv w h) := by
  have kp : Kp σ σ' := fun i o hi e => k i o (by unfold Safe at hi; lia) (by unfold Safe at hi; lia) (by unfold Safe at hi; lia) e
  refine ⟨k _ _ (by lia) (by lia) (by lia) I.rw, fun j' h => k _ _ (by lia) (by lia) (by lia) (I.ro j' h), k _ _ (by lia) (by lia) (by lia) I.ct, fun j' hj' => ?_, I.safe, fun w' hw' => ?_, h2, h3, fun w' hw' => ?_⟩
  · refine ⟨k _ _ (by lia) (by lia) (by lia) (I.fam j' hj').row, fun q hq => ?_⟩
    obtain ⟨a, b⟩ := (I.fam j' hj').el q hq
    exact ⟨kp _ _ (I.safe j' hj' q hq) a, b⟩
  · by_cases e : w' = w
    · subst e; rw [upd_same]; exact h1
    · rw [upd_ne e]; exact k _ _ (by lia) (by lia) (by lia) (I.cx w' hw')
  · by_cases e : w' = w
    · subst e; rw [upd_same, upd_same, upd_same]; exact h4
    · rw [upd_ne e, upd_ne e, upd_ne e]; exact (I.own w' hw').keep kp
end
structure Nm (ρ : Vars) : Prop where
  r : ρ "rows" = some (.ref 7)
  c : ρ "contexts" = some (.ref 14)
  f : ρ "fronts" = some (.ref 15)
  h : ρ "held" = some (.ref 16)
structure Tn (ρ : Vars) (n D : Int) (k : Nat) : Prop extends Nm ρ where
  x : ρ "x" = some (.int n)
  d : ρ "deed" = some (.int D)
  w : ρ "which" = some (.int (k : Int))
  fa : ρ "families" = some (.ref (3 + 3 * (k / 2)))
  cx : ρ "context" = some (.ref (11 + k))
noncomputable def Ln (fs fs' : Nat → List Fm) : Prop := ∀ j, j < 2 → (fs' j).length ≤ (fs j).length + 1
noncomputable abbrev tb : List Stmt := forB (bodyAt 4) 6
noncomputable abbrev br (s : List Stmt) : List Stmt × List Stmt := ifB (s.getD 0 default)
noncomputable abbrev e0 : List Stmt := tb.drop 4
noncomputable abbrev e1 : List Stmt := (br e0).2
noncomputable abbrev e2 : List Stmt := (br e1).2
noncomputable abbrev e4 : List Stmt := (br e2).2
noncomputable abbrev e5 : List Stmt := (br e4).2
noncomputable abbrev e3 : List Stmt := (br e5).2
inductive Did (c : List Stmt) (ρ : Vars) (σ : St) (fs : Nat → List Fm) : Prop
  | mk (ρ' : Vars) (σ' : St) (fs' : Nat → List Fm) (pm' : Nat → Option AVal) (fr' : Nat → Fr) (hv' : Nat → AVal) (x : EvXsF piL 10 (kdAt 4) ρ c σ .next ρ' σ') (I : Inv σ' fs' pm' fr' hv') (l : Ln fs fs') (n : Nm ρ') (k : Kp σ σ')
section
variable {ρ : Vars} {n D : Int} {w : Nat} {σ σ' : St} {fs : Nat → List Fm} {pm : Nat → Option AVal} {fr : Nat → Fr} {hv : Nat → AVal}
theorem half (h : w < 3) : w / 2 < 2 := by lia
theorem deed0 (T : Tn ρ n D w) (hw : w < 3) (I : Inv σ fs pm fr hv) (hl : ∀ j, j < 2 → (fs j).length ≤ 199) : Did (br e0).1 ρ σ fs := by
  obtain ⟨⟨h1, h2, h3, h4⟩, h5, h6, h7, h8, h9⟩ := T
  have hj := half hw
  have hF := I.fam _ hj
  have hb := I.big
  have hlen := hl _ hj
  obtain ⟨a, ha⟩ : ∃ a : Int, a = (n.fdiv 18).fmod 7 := ⟨_, rfl⟩
  obtain ⟨b, hbb⟩ : ∃ b : Int, b = (n.fdiv 126).fmod 7 := ⟨_, rfl⟩
  refine ⟨ρ, (σ ++ [AObj.list [.int a, .int b]]).set (3 + 3 * (w / 2)) (.list ((fs (w / 2)).map fmV ++ [.ref σ.length])), upd fs (w / 2) (fs (w / 2) ++ [some (σ.length, [a, b])]), pm, fr, hv, ?_, I.setFam hj (fun i o hi e => set_ne (Ne.symm hi) (get_old e)) ?_ (fun q hq => ?_), fun j hj' => ?_, ⟨h1, h2, h3, h4⟩, fun i o hi e => set_ne (by unfold Safe at hi; lia) (get_old e)⟩
  · apply xsf_of
    apply xs_cons
    · apply x_expr
      · rfl
      · apply e_append (b := .ref σ.length) (σ₂ := σ ++ [AObj.list [.int a, .int b]])
        · constructor
        · kernel_rfl
        · (repeat (((with_reducible apply e_var); kernel_rfl; (focus ((repeat (assumption)); done)))))
        · exact hF.row
        · rw [ha, hbb]
          apply e_list
          · apply es_cons (by rfl)
            · (repeat (first | (with_reducible first | exact e_int | apply e_binop) | ((with_reducible apply e_var); kernel_rfl; (focus ((repeat (assumption)); done))) | (((with_reducible first | apply bo_mod | apply bo_div) <;> (decide)))))
            · apply es_cons (by rfl)
              · (repeat (first | (with_reducible first | exact e_int | apply e_binop) | ((with_reducible apply e_var); kernel_rfl; (focus ((repeat (assumption)); done))) | (((with_reducible first | apply bo_mod | apply bo_div) <;> (decide)))))
              · exact es_nil
          · show (2 : Nat) ≤ lim
            decide
        · exact get_old hF.row
        · rw [List.length_map]; unfold lim; lia
    exact xs_nil
  · rw [List.map_append]
    exact set_hit (get_old hF.row)
  · rcases List.mem_append.mp hq with hq | hq
    · exact .inl hq
    · cases List.mem_singleton.mp hq
      exact .inr ⟨set_ne (by lia) get_new, by simp, safe_big hb⟩
  · by_cases e : j = w / 2
    · rw [e, upd_same]; simp
    · rw [upd_ne e]; lia
theorem deed1 (T : Tn ρ n D w) (hw : w < 3) (I : Inv σ fs pm fr hv) (hl : ∀ j, j < 2 → (fs j).length ≤ 199) : Did (br e1).1 ρ σ fs := by
  obtain ⟨⟨h1, h2, h3, h4⟩, h5, h6, h7, h8, h9⟩ := T
  have hj := half hw
  have hF := I.fam _ hj
  have hlen := hl _ hj
  refine ⟨ρ, σ.set (3 + 3 * (w / 2)) (.list ((fs (w / 2)).map fmV ++ [.none])), upd fs (w / 2) (fs (w / 2) ++ [none]), pm, fr, hv, ?_, I.setFam hj (fun i o hi e => set_ne (Ne.symm hi) e) ?_ (fun q hq => ?_), fun j hj' => ?_, ⟨h1, h2, h3, h4⟩, fun i o hi e => set_ne (by unfold Safe at hi; lia) e⟩
  · apply xsf_of
    apply xs_cons
    · apply x_expr
      · rfl
      · apply e_append
        · constructor
        · kernel_rfl
        · (repeat (((with_reducible apply e_var); kernel_rfl; (focus ((repeat (assumption)); done)))))
        · exact hF.row
        · (repeat ((with_reducible exact e_none)))
        · exact hF.row
        · rw [List.length_map]; unfold lim; lia
    exact xs_nil
  · rw [List.map_append]
    exact set_hit hF.row
  · rcases List.mem_append.mp hq with hq | hq
    · exact .inl hq
    · cases List.mem_singleton.mp hq
  · by_cases e : j = w / 2
    · rw [e, upd_same]; simp
    · rw [upd_ne e]; lia
theorem none_split : ∀ l : List Fm, (∀ x ∈ l, x ≠ none) ∨ ∃ pre post, l = pre ++ none :: post ∧ ∀ x ∈ pre, x ≠ none
  | [] => .inl fun _ h => nomatch h
  | none :: r => .inr ⟨[], r, rfl, fun _ h => nomatch h⟩
  | some q :: r => by
    rcases none_split r with h | ⟨pre, post, h, hp⟩
    · exact .inl fun x hx => (List.mem_cons.mp hx).elim (fun e => by rw [e]; simp) (h x)
    · exact .inr ⟨some q :: pre, post, by rw [h]; rfl, fun x hx => (List.mem_cons.mp hx).elim (fun e => by rw [e]; simp) (hp x)⟩
theorem fm_ls {R : Nat} {l : List Fm} (hF : FamN σ R l) : ∀ x ∈ l.map fmV, LsN σ x := fun x hx => by
  obtain ⟨y, hy, rfl⟩ := List.mem_map.mp hx
  cases y with
  | none => exact .none
  | some q => exact .list (hF.el q hy).1
theorem fm_isN {y : Fm} (h : y ≠ none) : isN (fmV y) = false := by cases y <;> first | rfl | exact absurd rfl h
theorem any_none {l : List Fm} : (l.map fmV).any isN = true ↔ none ∈ l := by
  rw [List.any_eq_true]
  constructor
  · rintro ⟨x, hx, e⟩
    obtain ⟨y, hy, rfl⟩ := List.mem_map.mp hx
    cases y with
    | none => exact hy
    | some q => cases e
  · intro h; exact ⟨.none, List.mem_map.mpr ⟨none, h, rfl⟩, rfl⟩
noncomputable def whT (s : Stmt) : Expr := match s with
  | .While t _ _ _ => t
  | _ => default
noncomputable def whB (s : Stmt) : List Stmt := match s with
  | .While _ b _ _ => b
  | _ => []
noncomputable abbrev wh : Stmt := ((br e2).1).getD 0 default
theorem clean {j : Nat} (hj : j < 2) (h8 : ρ "families" = some (.ref (3 + 3 * j))) : ∀ (m : Nat) (σ : St) (fs : Nat → List Fm), (fs j).length ≤ m → m ≤ 300 → Inv σ fs pm fr hv →
    ∃ σ' l, EvW piL 10 (kdAt 4) ρ (whT wh) (whB wh) σ .next ρ σ' ∧ Inv σ' (upd fs j l) pm fr hv ∧ l.length ≤ (fs j).length ∧ Kp σ σ' := by
  intro m
  induction m with
  | zero =>
    intro σ fs hm hb I
    have hF := I.fam j hj
    have h0 : fs j = [] := List.eq_nil_of_length_eq_zero (by lia)
    refine ⟨σ, [], w_end ?_, ?_, Nat.zero_le _, Kp.refl _⟩
    · apply t_cmp (by rfl)
      · (repeat ((with_reducible exact e_none)))
      · (repeat (((with_reducible apply e_var); kernel_rfl; (focus ((repeat (assumption)); done)))))
      · exact c_inNone hF.row (fm_ls hF) (by rw [h0]; rfl)
    · have : upd fs j [] = fs := by
        funext i
        by_cases e : i = j
        · rw [e, upd_same, h0]
        · rw [upd_ne e]
      rw [this]; exact I
  | succ m ih =>
    intro σ fs hm hb I
    have hF := I.fam j hj
    rcases none_split (fs j) with h | ⟨pre, post, h, hp⟩
    · refine ⟨σ, fs j, w_end ?_, ?_, Nat.le_refl _, Kp.refl _⟩
      · apply t_cmp (by rfl)
        · (repeat ((with_reducible exact e_none)))
        · (repeat (((with_reducible apply e_var); kernel_rfl; (focus ((repeat (assumption)); done)))))
        · refine c_inNone hF.row (fm_ls hF) ?_
          cases q : ((fs j).map fmV).any isN with
          | false => rfl
          | true => exact absurd rfl (h _ (any_none.mp q))
      · have : upd fs j (fs j) = fs := by
          funext i
          by_cases e : i = j
          · rw [e, upd_same]
          · rw [upd_ne e]
        rw [this]; exact I
    · have hrow := hF.row
      rw [h, List.map_append, List.map_cons] at hrow
      obtain ⟨σ1, hσ1⟩ : ∃ σ1, σ1 = σ.set (3 + 3 * j) (.list (pre.map fmV ++ post.map fmV)) := ⟨_, rfl⟩
      have I1 : Inv σ1 (upd fs j (pre ++ post)) pm fr hv := I.setFam hj (fun i o hi e => by rw [hσ1]; exact set_ne (Ne.symm hi) e) (by rw [hσ1, List.map_append]; exact set_hit hF.row) fun q hq => .inl (by
        rw [h]
        rcases List.mem_append.mp hq with hq | hq
        · exact List.mem_append_left _ hq
        · exact List.mem_append_right _ (.tail _ hq))
      have k1 : Kp σ σ1 := fun i o hi e => by rw [hσ1]; exact set_ne (by unfold Safe at hi; lia) e
      have hlen : (fs j).length = pre.length + post.length + 1 := by rw [h]; simp; lia
      obtain ⟨σ', l, t1, t2, t3, t4⟩ := ih σ1 (upd fs j (pre ++ post)) (by rw [upd_same, List.length_append]; lia) (by lia) I1
      rw [upd_same, List.length_append] at t3
      refine ⟨σ', l, w_more (σ₁ := σ) ?_ ?_ t1, ?_, by lia, k1.trans t4⟩
      · apply t_cmp (by rfl)
        · (repeat ((with_reducible exact e_none)))
        · (repeat (((with_reducible apply e_var); kernel_rfl; (focus ((repeat (assumption)); done)))))
        · exact c_inNone hF.row (fm_ls hF) (any_none.mpr (by rw [h]; simp))
      · rw [hσ1]
        apply xs_cons
        · apply x_expr
          · rfl
          · apply e_meth
            · exact .plain (by constructor)
            · kernel_rfl
            · (repeat (((with_reducible apply e_var); kernel_rfl; (focus ((repeat (assumption)); done)))))
            · exact mt_remove hrow
            · apply es_cons (by rfl)
              · (repeat ((with_reducible exact e_none)))
              · exact es_nil
            · refine c_removeN hrow (fun x hx => fm_ls hF x ?_) (fun x hx => ?_) ?_
              · rw [h, List.map_append, List.map_cons]; exact hx
              · obtain ⟨y, hy, rfl⟩ := List.mem_map.mp hx
                exact fm_isN (hp y hy)
              · simp; unfold lim; lia
        exact xs_nil
      · have : upd (upd fs j (pre ++ post)) j l = upd fs j l := by
          funext i
          by_cases e : i = j
          · rw [e, upd_same, upd_same]
          · rw [upd_ne e, upd_ne e, upd_ne e]
        rw [← this]; exact t2
theorem deed2 (T : Tn ρ n D w) (hw : w < 3) (I : Inv σ fs pm fr hv) (hl : ∀ j, j < 2 → (fs j).length ≤ 199) : Did (br e2).1 ρ σ fs := by
  have hj := half hw
  obtain ⟨σ', l, t1, t2, t3, t4⟩ := clean hj T.fa 200 σ fs (by have := hl _ hj; lia) (by lia) I
  refine ⟨ρ, σ', upd fs (w / 2) l, pm, fr, hv, ?_, t2, fun j hj' => ?_, T.toNm, t4⟩
  · apply xsf_of
    apply xs_cons
    · apply x_while
      exact t1
    exact xs_nil
  · by_cases e : j = w / 2
    · rw [e, upd_same]; lia
    · rw [upd_ne e]; lia
end
section
variable {ρ : Vars} {n D : Int} {w : Nat} {σ σ' : St} {fs : Nat → List Fm} {pm : Nat → Option AVal} {fr : Nat → Fr} {hv : Nat → AVal}
theorem upd_self {α : Type} (g : Nat → α) (w : Nat) : upd g w (g w) = g := by
  funext i
  by_cases e : i = w
  · rw [e, upd_same]
  · rw [upd_ne e]
theorem ln_refl : Ln fs fs := fun j _ => Nat.le_succ _
theorem three {a b c : AVal} (hw : w < 3) : (0 : Int) ≤ (w : Int) ∧ (w : Int) < ([a, b, c] : List AVal).length ∧ ([a, b, c] : List AVal).length ≤ lim := by
  have : ([a, b, c] : List AVal).length = 3 := rfl
  rw [this]; unfold lim; lia
theorem set3v {α : Type} {g : Nat → α} {w : Nat} {x : α} (h : w < 3) : [g 0, g 1, g 2].set w x = [upd g w x 0, upd g w x 1, upd g w x 2] := by
  match w, h with
  | 0, _ => rfl
  | 1, _ => rfl
  | 2, _ => rfl
theorem a_fr {q1 q2 q3 : Pos} {x y : Str} {f : Fr} (hw : w < 3) (h1 : EvE piL 10 (kdAt 4) ρ (.Name x q1) σ (.ref 15) σ) (h2 : EvE piL 10 (kdAt 4) ρ (.Name y q2) σ (.int (w : Int)) σ) (h3 : σ[15]? = some (.list [frV (fr 0), frV (fr 1), frV (fr 2)])) :
    EvA piL 10 (kdAt 4) ρ (.Subscript (.Name x q1) (.Name y q2) q3) (frV f) σ ρ (σ.set 15 (.list [frV (upd fr w f 0), frV (upd fr w f 1), frV (upd fr w f 2)])) := by
  have := a_item (v := frV f) (q := q3) h1 h2 h3 (three hw)
  rw [Int.toNat_natCast, set3 (F := frV) hw] at this
  exact this
theorem a_hv {q1 q2 q3 : Pos} {x y : Str} {v : AVal} (hw : w < 3) (h1 : EvE piL 10 (kdAt 4) ρ (.Name x q1) σ (.ref 16) σ) (h2 : EvE piL 10 (kdAt 4) ρ (.Name y q2) σ (.int (w : Int)) σ) (h3 : σ[16]? = some (.list [hv 0, hv 1, hv 2])) :
    EvA piL 10 (kdAt 4) ρ (.Subscript (.Name x q1) (.Name y q2) q3) v σ ρ (σ.set 16 (.list [upd hv w v 0, upd hv w v 1, upd hv w v 2])) := by
  have := a_item (v := v) (q := q3) h1 h2 h3 (three hw)
  rw [Int.toNat_natCast, set3v hw] at this
  exact this
theorem deed4 (T : Tn ρ n D w) (hw : w < 3) (I : Inv σ fs pm fr hv) : Did (br e4).1 ρ σ fs := by
  obtain ⟨⟨h1, h2, h3, h4⟩, h5, h6, h7, h8, h9⟩ := T
  have hC := I.cx w hw
  obtain ⟨σ1, hσ1⟩ : ∃ σ1, σ1 = σ.set (11 + w) (.inst (ctxA (8 + w / 2) (some .none))) := ⟨_, rfl⟩
  have k1 : ∀ (i : Nat) o, i ≠ 11 + w → σ[i]? = some o → σ1[i]? = some o := fun i o hi e => by rw [hσ1]; exact set_ne (Ne.symm hi) e
  have g1 : σ1[15]? = some (.list [frV (fr 0), frV (fr 1), frV (fr 2)]) := k1 _ _ (by lia) I.frl
  refine ⟨ρ, σ1.set 15 (.list [frV (upd fr w none 0), frV (upd fr w none 1), frV (upd fr w none 2)]), fs, upd pm w (some .none), upd fr w none, upd hv w (hv w), ?_, I.setCtx hw (fun i o a1 a2 a3 e => set_ne (Ne.symm a2) (k1 i o a1 e)) (set_ne (by lia) (by rw [hσ1]; exact set_hit hC)) (set_hit g1) (by rw [upd_self]; exact set_ne (by decide) (k1 _ _ (by lia) I.hel)) (.none .some), ln_refl, ⟨h1, h2, h3, h4⟩, fun i o hi e => set_ne (by unfold Safe at hi; lia) (k1 _ _ (by unfold Safe at hi; lia) e)⟩
  apply xsf_of
  apply xs_cons (σ₁ := σ1)
  · rw [hσ1, ← put_ctx (pm := pm w)]
    apply x_assign
    · kernel_rfl
    · (repeat ((with_reducible exact e_none)))
    · apply a_attr
      · kernel_rfl
      · (repeat (((with_reducible apply e_var); kernel_rfl; (focus ((repeat (assumption)); done)))))
      · exact hC
      · exact ctx_len
  apply xs_cons
  · apply x_assign
    · kernel_rfl
    · (repeat ((with_reducible exact e_none)))
    · apply a_fr (fr := fr) (f := none) hw
      · (repeat (((with_reducible apply e_var); kernel_rfl; (focus ((repeat (assumption)); done)))))
      · (repeat (((with_reducible apply e_var); kernel_rfl; (focus ((repeat (assumption)); done)))))
      · exact g1
  exact xs_nil
theorem deed5 (T : Tn ρ n D w) (hw : w < 3) (I : Inv σ fs pm fr hv) : Did (br e5).1 ρ σ fs := by
  obtain ⟨⟨h1, h2, h3, h4⟩, h5, h6, h7, h8, h9⟩ := T
  have hC := I.cx w hw
  have hb := I.big
  obtain ⟨σ1, hσ1⟩ : ∃ σ1, σ1 = (σ ++ [AObj.dict []]).set (11 + w) (.inst (ctxA (8 + w / 2) (some (.ref σ.length)))) := ⟨_, rfl⟩
  have k1 : ∀ (i : Nat) o, i ≠ 11 + w → σ[i]? = some o → σ1[i]? = some o := fun i o hi e => by rw [hσ1]; exact set_ne (Ne.symm hi) (get_old e)
  have gC : σ1[11 + w]? = some (.inst (ctxA (8 + w / 2) (some (.ref σ.length)))) := by rw [hσ1]; exact set_hit (get_old hC)
  have gM : σ1[σ.length]? = some (.dict []) := by rw [hσ1]; exact set_ne (by lia) get_new
  have l1 : σ1.length = σ.length + 1 := by rw [hσ1]; simp
  obtain ⟨σ2, hσ2⟩ : ∃ σ2, σ2 = σ1.set 16 (.list [upd hv w (.ref σ.length) 0, upd hv w (.ref σ.length) 1, upd hv w (.ref σ.length) 2]) := ⟨_, rfl⟩
  have k2 : ∀ (i : Nat) o, i ≠ 16 → σ1[i]? = some o → σ2[i]? = some o := fun i o hi e => by rw [hσ2]; exact set_ne (Ne.symm hi) e
  have g2 : σ2[16]? = some (.list [upd hv w (.ref σ.length) 0, upd hv w (.ref σ.length) 1, upd hv w (.ref σ.length) 2]) := by rw [hσ2]; exact set_hit (k1 _ _ (by lia) I.hel)
  have l2 : σ2.length = σ.length + 1 := by rw [hσ2, List.length_set, l1]
  have g3 : (σ2 ++ [AObj.list []])[15]? = some (.list [frV (fr 0), frV (fr 1), frV (fr 2)]) := get_old (k2 _ _ (by decide) (k1 _ _ (by lia) I.frl))
  obtain ⟨σ3, hσ3⟩ : ∃ σ3, σ3 = (σ2 ++ [AObj.list []]).set 15 (.list [frV (upd fr w (some (σ2.length, σ.length, [])) 0), frV (upd fr w (some (σ2.length, σ.length, [])) 1), frV (upd fr w (some (σ2.length, σ.length, [])) 2)]) := ⟨_, rfl⟩
  have k3 : ∀ (i : Nat) o, i ≠ 15 → σ2[i]? = some o → σ3[i]? = some o := fun i o hi e => by rw [hσ3]; exact set_ne (Ne.symm hi) (get_old e)
  have gf : σ3[σ2.length]? = some (.list []) := by rw [hσ3]; exact set_ne (by lia) get_new
  refine ⟨ρ, σ3, fs, upd pm w (some (.ref σ.length)), upd fr w (some (σ2.length, σ.length, [])), upd hv w (.ref σ.length), ?_, I.setCtx hw (fun i o a1 a2 a3 e => k3 i o a2 (k2 i o a3 (k1 i o a1 e))) (k3 _ _ (by lia) (k2 _ _ (by lia) gC)) (by rw [hσ3]; exact set_hit g3) (k3 _ _ (by decide) g2) (.some ⟨gf, fun q hq => nomatch hq⟩ (k3 _ _ (by lia) (k2 _ _ (by lia) gM)) (Nat.zero_le _) (safe_big (by lia)) (safe_big hb) fun q hq => nomatch hq), ln_refl, ⟨h1, h2, h3, h4⟩, fun i o hi e => k3 _ _ (by unfold Safe at hi; lia) (k2 _ _ (by unfold Safe at hi; lia) (k1 _ _ (by unfold Safe at hi; lia) e))⟩
  apply xsf_of
  apply xs_cons (σ₁ := σ1)
  · rw [hσ1, ← put_ctx (pm := pm w)]
    apply x_assign
    · kernel_rfl
    · exact e_dict0
    · apply a_attr
      · kernel_rfl
      · (repeat (((with_reducible apply e_var); kernel_rfl; (focus ((repeat (assumption)); done)))))
      · exact get_old hC
      · exact ctx_len
  apply xs_cons (σ₁ := σ2)
  · rw [hσ2]
    apply x_assign
    · kernel_rfl
    · apply e_pmR
      · constructor
      · (repeat (((with_reducible apply e_var); kernel_rfl; (focus ((repeat (assumption)); done)))))
      · exact gC
    · apply a_hv hw
      · (repeat (((with_reducible apply e_var); kernel_rfl; (focus ((repeat (assumption)); done)))))
      · (repeat (((with_reducible apply e_var); kernel_rfl; (focus ((repeat (assumption)); done)))))
      · exact k1 _ _ (by lia) I.hel
  apply xs_cons (σ₁ := σ3)
  · rw [hσ3]
    apply x_assign (v := .ref σ2.length) (σ₁ := σ2 ++ [AObj.list []])
    · kernel_rfl
    · (repeat (first | (with_reducible first | exact es_nil | apply e_list) | (decide)))
    · apply a_fr (fr := fr) (f := some (σ2.length, σ.length, [])) hw
      · (repeat (((with_reducible apply e_var); kernel_rfl; (focus ((repeat (assumption)); done)))))
      · (repeat (((with_reducible apply e_var); kernel_rfl; (focus ((repeat (assumption)); done)))))
      · exact g3
  exact xs_nil
end
section
variable {ρ : Vars} {n D : Int} {w : Nat} {σ σ' : St} {fs : Nat → List Fm} {pm : Nat → Option AVal} {fr : Nat → Fr} {hv : Nat → AVal}
theorem e_hv {q1 q2 q3 : Pos} {x y : Str} (hw : w < 3) (h1 : EvE piL 10 (kdAt 4) ρ (.Name x q1) σ (.ref 16) σ) (h2 : EvE piL 10 (kdAt 4) ρ (.Name y q2) σ (.int (w : Int)) σ) (h3 : σ[16]? = some (.list [hv 0, hv 1, hv 2])) : EvE piL 10 (kdAt 4) ρ (.Subscript (.Name x q1) (.Name y q2) q3) σ (hv w) σ :=
  e_item h1 h2 (it_list (lo_ref h3) (by lia) (by rw [Int.toNat_natCast]; exact get3 hw) (by lia))
theorem e_fr {q1 q2 q3 : Pos} {x y : Str} (hw : w < 3) (h1 : EvE piL 10 (kdAt 4) ρ (.Name x q1) σ (.ref 15) σ) (h2 : EvE piL 10 (kdAt 4) ρ (.Name y q2) σ (.int (w : Int)) σ) (h3 : σ[15]? = some (.list [frV (fr 0), frV (fr 1), frV (fr 2)])) : EvE piL 10 (kdAt 4) ρ (.Subscript (.Name x q1) (.Name y q2) q3) σ (frV (fr w)) σ :=
  e_item h1 h2 (it_list (lo_ref h3) (by lia) (by rw [Int.toNat_natCast]; exact get3 (g := fun i => frV (fr i)) hw) (by lia))
theorem tail3 {f M : Nat} {rows : List (Nat × List Int)} {told : AVal} (T : Tn ρ n D w) (hw : w < 3) (ht : ρ "told" = some (.ref M)) (hf : fr w = some (f, M, rows)) (hh : hv w = .ref M) (hC : σ[11 + w]? = some (.inst (ctxA (8 + w / 2) (some (.ref M)))))
    (h15 : σ[15]? = some (.list [frV (fr 0), frV (fr 1), frV (fr 2)])) (h16 : σ[16]? = some (.list [hv 0, hv 1, hv 2])) (hF : Front σ f rows) (hM : σ[M]? = some (.dict (tabD [] rows))) (hr : rows.length ≤ 200) :
    ∃ σ', EvXs piL 10 (kdAt 4) ρ (e3.drop 4) σ .next ρ σ' ∧ ∀ (i : Nat) o, σ[i]? = some o → σ'[i]? = some o := by
  obtain ⟨⟨h1, h2, h3, h4⟩, h5, h6, h7, h8, h9⟩ := T
  obtain ⟨σ', t1, t2⟩ := same_ok (d := 9) hr hF hM
  refine ⟨σ', ?_, t2⟩
  apply xs_cons
  · apply x_ifF
    · apply t_bool
      apply ts_orF
      · apply t_cmp (by rfl) (a := .ref M) (b := .ref M)
        · (repeat (((with_reducible apply e_var); kernel_rfl; (focus ((repeat (assumption)); done)))))
        · rw [← hh]
          apply e_hv hw
          · (repeat (((with_reducible apply e_var); kernel_rfl; (focus ((repeat (assumption)); done)))))
          · (repeat (((with_reducible apply e_var); kernel_rfl; (focus ((repeat (assumption)); done)))))
          · exact h16
        · exact c_inR (by simp)
      · apply or_last
        apply t_cmp (by rfl) (a := .ref M) (b := .ref M)
        · apply e_pmR
          · constructor
          · (repeat (((with_reducible apply e_var); kernel_rfl; (focus ((repeat (assumption)); done)))))
          · exact hC
        · (repeat (((with_reducible apply e_var); kernel_rfl; (focus ((repeat (assumption)); done)))))
        · exact c_inR (by simp)
    · exact xs_nil
  apply xs_cons
  · apply x_ifF
    · apply t_notF
      apply t_call
      apply e_call
      · (repeat (((with_reducible apply e_glob); kernel_rfl; (exact g_l_same))))
      · apply es_cons (by rfl)
        · (repeat (((with_reducible apply e_var); kernel_rfl; (focus ((repeat (assumption)); done)))))
        · apply es_cons (by rfl) (v := .ref f)
          · have : frV (fr w) = .ref f := by rw [hf]; rfl
            rw [← this]
            apply e_fr hw
            · (repeat (((with_reducible apply e_var); kernel_rfl; (focus ((repeat (assumption)); done)))))
            · (repeat (((with_reducible apply e_var); kernel_rfl; (focus ((repeat (assumption)); done)))))
            · exact h15
          · exact es_nil
      · exact t1
    · exact xs_nil
  exact xs_nil
theorem Tn.set (T : Tn ρ n D w) {y : Str} {v : AVal} (h : (y == Str.ofString "new" || y == Str.ofString "told" || y == Str.ofString "failed") = true) : Tn (Vars.set ρ y v) n D w := by
  obtain ⟨⟨h1, h2, h3, h4⟩, h5, h6, h7, h8, h9⟩ := T
  have hy : ∀ z : Str, (z == Str.ofString "new" || z == Str.ofString "told" || z == Str.ofString "failed") = false → z ≠ y := fun z hz q => by rw [q, h] at hz; cases hz
  have k : ∀ (z : Str) (u : AVal), (z == Str.ofString "new" || z == Str.ofString "told" || z == Str.ofString "failed") = false → ρ z = some u → Vars.set ρ y v z = some u := fun z u hz e => by unfold Vars.set; rw [if_neg (hy z hz)]; exact e
  exact ⟨⟨k _ _ (by decide) h1, k _ _ (by decide) h2, k _ _ (by decide) h3, k _ _ (by decide) h4⟩, k _ _ (by decide) h5, k _ _ (by decide) h6, k _ _ (by decide) h7, k _ _ (by decide) h8, k _ _ (by decide) h9⟩
theorem deed3A {f M : Nat} {rows : List (Nat × List Int)} (T : Tn ρ n D w) (hw : w < 3) (I : Inv σ fs pm fr hv) (hf : fr w = some (f, M, rows)) : Did e3 ρ σ fs := by
  have O := I.own w hw
  have hC := I.cx w hw
  rw [hf] at O
  generalize hp : pm w = p at O hC
  generalize hh : hv w = h at O
  cases O with
  | some hF hM hr sf sM sq =>
    have T1 := T.set (y := "new") (v := .bool false) (by decide)
    have T3 := (T1.set (y := "told") (v := .ref M) (by decide)).set (y := "failed") (v := .bool false) (by decide)
    obtain ⟨σ', t1, t2⟩ := tail3 (told := .none) T3 hw (by (focus ((repeat (first | (with_reducible exact v_hit) | ((with_reducible apply v_ne); kernel_rfl))); done))) hf hh hC I.frl I.hel hF hM hr
    refine ⟨_, σ', fs, pm, fr, hv, ?_, I.keep t2, ln_refl, T3.toNm, Kp.of t2⟩
    obtain ⟨⟨h1, h2, h3, h4⟩, h5, h6, h7, h8, h9⟩ := T
    apply xsf_of
    apply xs_cons (ρ₁ := Vars.set ρ "new" (.bool false))
    · apply x_assign
      · kernel_rfl
      · apply e_cmp (by rfl) (a := frV (fr w)) (b := .none)
        · apply e_fr hw
          · (repeat (((with_reducible apply e_var); kernel_rfl; (focus ((repeat (assumption)); done)))))
          · (repeat (((with_reducible apply e_var); kernel_rfl; (focus ((repeat (assumption)); done)))))
          · exact I.frl
        · (repeat ((with_reducible exact e_none)))
        · rw [hf]; exact c_isRN
      · exact a_name rfl
    apply xs_cons (ρ₁ := Vars.set (Vars.set (Vars.set ρ "new" (.bool false)) "told" (.ref M)) "failed" (.bool false))
    · apply x_tryN
      apply xs_cons (ρ₁ := Vars.set (Vars.set ρ "new" (.bool false)) "told" (.ref M)) (σ₁ := σ)
      · apply x_assign
        · kernel_rfl
        · apply e_call
          · (repeat (((with_reducible apply e_glob); kernel_rfl; (exact g_get_parent_map))))
          · apply es_cons (by rfl) (v := .ref (11 + w))
            · (repeat (((with_reducible apply e_var); kernel_rfl; (focus ((repeat (assumption)); done)))))
            · exact es_nil
          · exact gpm_has (d := 9) hC
        · exact a_name rfl
      apply xs_cons
      · apply x_assign
        · kernel_rfl
        · (repeat ((with_reducible exact e_bool)))
        · exact a_name rfl
      exact xs_nil
    apply xs_cons
    · apply x_ifF
      · apply t_cmp (by rfl) (a := .bool false) (b := .bool false)
        · (repeat (((with_reducible apply e_var); kernel_rfl; (focus ((repeat ((with_reducible exact v_hit))); done)))))
        · apply e_andF
          (repeat (((with_reducible apply e_var); kernel_rfl; (focus ((repeat (first | (with_reducible exact v_hit) | ((with_reducible apply v_ne); kernel_rfl))); done)))))
        · exact c_neB rfl
      · exact xs_nil
    apply xs_cons
    · apply x_ifF
      · apply t_val
        · constructor
        · (repeat (((with_reducible apply e_var); kernel_rfl; (focus ((repeat (first | (with_reducible exact v_hit) | ((with_reducible apply v_ne); kernel_rfl))); done)))))
      · exact xs_nil
    exact t1
theorem deed3N {M : Nat} {bb : Bool} {σ1 : St} (T : Tn ρ n D w) (hw : w < 3) (I : Inv σ fs pm fr hv) (hl : ∀ j, j < 2 → (fs j).length ≤ 199) (hnew : ρ "new" = some (.bool true)) (ht : ρ "told" = some (.ref M)) (hfa : ρ "failed" = some (.bool bb)) (hbb : (((fs (w / 2)).map fmV).any isN) = bb)
    (k1 : ∀ (i : Nat) o, i ≠ 11 + w → σ[i]? = some o → σ1[i]? = some o) (hC : σ1[11 + w]? = some (.inst (ctxA (8 + w / 2) (some (.ref M))))) (hM : σ1[M]? = some (.dict (tabD [] (frontL (fs (w / 2)))))) (sM : Safe M) :
    ∃ σ' fr' hv', EvXs piL 10 (kdAt 4) ρ (e3.drop 2) σ1 .next ρ σ' ∧ Inv σ' fs (upd pm w (some (.ref M))) fr' hv' ∧ Kp σ σ' := by
  have hj := half hw
  have hF := I.fam _ hj
  have hb := I.big
  have hrow := k1 _ _ (by lia) hF.row
  have hlen := hl _ hj
  have el : ∀ q, some q ∈ fs (w / 2) → σ1[q.1]? = some (.list (q.2.map .int)) ∧ q.2.length ≤ 200 := fun q hq => by
    have hs := I.safe _ hj q hq
    exact ⟨k1 _ _ (by unfold Safe at hs; lia) (hF.el q hq).1, (hF.el q hq).2⟩
  have hfl : (frontL (fs (w / 2))).length ≤ (fs (w / 2)).length := by
    rcases front_split (fs (w / 2)) with h | ⟨post, h⟩
    · have := congrArg List.length h; rw [List.length_map] at this; lia
    · have := congrArg List.length h; rw [List.length_append, List.length_map] at this; lia
  have mem : ∀ q ∈ frontL (fs (w / 2)), some q ∈ fs (w / 2) := fun q hq => by
    rcases front_split (fs (w / 2)) with h | ⟨post, h⟩
    · rw [h]; exact List.mem_map.mpr ⟨q, hq, rfl⟩
    · rw [h]; exact List.mem_append_left _ (List.mem_map.mpr ⟨q, hq, rfl⟩)
  obtain ⟨rows, hrows⟩ : ∃ rows, rows = frontL (fs (w / 2)) := ⟨_, rfl⟩
  rw [← hrows] at hM hfl mem
  have lM := lt_get hM
  have l1 : 17 ≤ σ1.length := by have := lt_get (k1 _ _ (by lia) I.hel); lia
  -- the front
  obtain ⟨σ2, hσ2⟩ : ∃ σ2, σ2 = (σ1 ++ [AObj.list (refs rows)]).set 15 (.list [frV (upd fr w (some (σ1.length, M, rows)) 0), frV (upd fr w (some (σ1.length, M, rows)) 1), frV (upd fr w (some (σ1.length, M, rows)) 2)]) := ⟨_, rfl⟩
  have g2 : (σ1 ++ [AObj.list (refs rows)])[15]? = some (.list [frV (fr 0), frV (fr 1), frV (fr 2)]) := get_old (k1 _ _ (by lia) I.frl)
  have k2 : ∀ (i : Nat) o, i ≠ 15 → σ1[i]? = some o → σ2[i]? = some o := fun i o hi e => by rw [hσ2]; exact set_ne (Ne.symm hi) (get_old e)
  have gf : σ2[σ1.length]? = some (.list (refs rows)) := by rw [hσ2]; exact set_ne (by lia) get_new
  have g3 : σ2[16]? = some (.list [hv 0, hv 1, hv 2]) := k2 _ _ (by decide) (k1 _ _ (by lia) I.hel)
  obtain ⟨σ3, hσ3⟩ : ∃ σ3, σ3 = σ2.set 16 (.list [upd hv w (.ref M) 0, upd hv w (.ref M) 1, upd hv w (.ref M) 2]) := ⟨_, rfl⟩
  have k3 : ∀ (i : Nat) o, i ≠ 16 → σ2[i]? = some o → σ3[i]? = some o := fun i o hi e => by rw [hσ3]; exact set_ne (Ne.symm hi) e
  have FR : Front σ3 σ1.length rows := ⟨k3 _ _ (by lia) gf, fun q hq => by
    have hs := I.safe _ hj q (mem q hq)
    unfold Safe at hs
    exact ⟨k3 _ _ (by lia) (k2 _ _ (by lia) (el q (mem q hq)).1), (el q (mem q hq)).2⟩⟩
  have sM' := sM
  unfold Safe at sM'
  have M3 : σ3[M]? = some (.dict (tabD [] rows)) := k3 _ _ (by lia) (k2 _ _ (by lia) hM)
  have C3 : σ3[11 + w]? = some (.inst (ctxA (8 + w / 2) (some (.ref M)))) := k3 _ _ (by lia) (k2 _ _ (by lia) hC)
  have F3 : σ3[15]? = some (.list [frV (upd fr w (some (σ1.length, M, rows)) 0), frV (upd fr w (some (σ1.length, M, rows)) 1), frV (upd fr w (some (σ1.length, M, rows)) 2)]) := k3 _ _ (by decide) (by rw [hσ2]; exact set_hit g2)
  have H3 : σ3[16]? = some (.list [upd hv w (.ref M) 0, upd hv w (.ref M) 1, upd hv w (.ref M) 2]) := by rw [hσ3]; exact set_hit g3
  have kk : ∀ (i : Nat) o, i ≠ 11 + w → i ≠ 15 → i ≠ 16 → σ[i]? = some o → σ3[i]? = some o := fun i o a1 a2 a3 e => k3 i o a3 (k2 i o a2 (k1 i o a1 e))
  have I3 : Inv σ3 fs (upd pm w (some (.ref M))) (upd fr w (some (σ1.length, M, rows))) (upd hv w (.ref M)) := I.setCtx hw kk C3 F3 H3 (.some FR M3 (by lia) (safe_big l1) sM fun q hq => I.safe _ hj q (mem q hq))
  obtain ⟨σ', t1, t2⟩ := tail3 (told := .none) T hw ht (by rw [upd_same]) (by rw [upd_same]) C3 F3 H3 FR M3 (by lia)
  refine ⟨σ', upd fr w (some (σ1.length, M, rows)), upd hv w (.ref M), ?_, I3.keep t2, fun i o hi e => t2 i o (kk i o (by unfold Safe at hi; lia) (by unfold Safe at hi; lia) (by unfold Safe at hi; lia) e)⟩
  obtain ⟨⟨h1, h2, h3, h4⟩, h5, h6, h7, h8, h9⟩ := T
  have FN : FamN σ1 (3 + 3 * (w / 2)) (fs (w / 2)) := ⟨hrow, el⟩
  apply xs_cons
  · apply x_ifF
    · apply t_cmp (by rfl) (a := .bool bb) (b := .bool bb)
      · (repeat (((with_reducible apply e_var); kernel_rfl; (focus ((repeat (assumption)); done)))))
      · apply e_andT
        · (repeat (((with_reducible apply e_var); kernel_rfl; (focus ((repeat (assumption)); done)))))
        · apply e_cmp (by rfl)
          · (repeat ((with_reducible exact e_none)))
          · (repeat (((with_reducible apply e_var); kernel_rfl; (focus ((repeat (assumption)); done)))))
          · exact c_inNone hrow (fm_ls FN) hbb
      · exact c_neB (by simp)
    · exact xs_nil
  apply xs_cons (σ₁ := σ3)
  · apply x_ifT
    · apply t_val
      · constructor
      · (repeat (((with_reducible apply e_var); kernel_rfl; (focus ((repeat (assumption)); done)))))
    · apply xs_cons (σ₁ := σ2)
      · rw [hσ2]
        apply x_assign (v := .ref σ1.length) (σ₁ := σ1 ++ [AObj.list (refs rows)])
        · kernel_rfl
        · apply e_call
          · (repeat (((with_reducible apply e_glob); kernel_rfl; (exact g_l_front))))
          · apply es_cons (by rfl) (v := .ref (3 + 3 * (w / 2)))
            · (repeat (((with_reducible apply e_var); kernel_rfl; (focus ((repeat (assumption)); done)))))
            · exact es_nil
          · rw [hrows]
            exact front_ok (d := 9) (by lia) hrow
        · apply a_fr (fr := fr) (f := some (σ1.length, M, rows)) hw
          · (repeat (((with_reducible apply e_var); kernel_rfl; (focus ((repeat (assumption)); done)))))
          · (repeat (((with_reducible apply e_var); kernel_rfl; (focus ((repeat (assumption)); done)))))
          · exact g2
      apply xs_cons (σ₁ := σ3)
      · rw [hσ3]
        apply x_assign
        · kernel_rfl
        · (repeat (((with_reducible apply e_var); kernel_rfl; (focus ((repeat (assumption)); done)))))
        · apply a_hv hw
          · (repeat (((with_reducible apply e_var); kernel_rfl; (focus ((repeat (assumption)); done)))))
          · (repeat (((with_reducible apply e_var); kernel_rfl; (focus ((repeat (assumption)); done)))))
          · exact g3
      exact xs_nil
  exact t1
theorem st_new (T : Tn ρ n D w) (hw : w < 3) (I : Inv σ fs pm fr hv) (hf : fr w = none) : EvX piL 10 (kdAt 4) ρ (e3.getD 0 default) σ .next (Vars.set ρ "new" (.bool true)) σ := by
  obtain ⟨⟨h1, h2, h3, h4⟩, h5, h6, h7, h8, h9⟩ := T
  apply x_assign
  · kernel_rfl
  · apply e_cmp (by rfl) (a := frV (fr w)) (b := .none)
    · apply e_fr hw
      · (repeat (((with_reducible apply e_var); kernel_rfl; (focus ((repeat (assumption)); done)))))
      · (repeat (((with_reducible apply e_var); kernel_rfl; (focus ((repeat (assumption)); done)))))
      · exact I.frl
    · (repeat ((with_reducible exact e_none)))
    · rw [hf]; exact c_isNN
  · exact a_name rfl
theorem deed3B (T : Tn ρ n D w) (hw : w < 3) (I : Inv σ fs pm fr hv) (hl : ∀ j, j < 2 → (fs j).length ≤ 199) (hf : fr w = none) (hn : NoPm (pm w)) : Did e3 ρ σ fs := by
  have hC := I.cx w hw
  have hj := half hw
  have hF := I.fam _ hj
  have hlen := hl _ hj
  have hb := I.big
  have T1 := T.set (y := "new") (v := .bool true) (by decide)
  have lens : (frontL (fs (w / 2))).length ≤ (fs (w / 2)).length := by
    rcases front_split (fs (w / 2)) with h | ⟨post, h⟩
    · have := congrArg List.length h; rw [List.length_map] at this; lia
    · have := congrArg List.length h; rw [List.length_append, List.length_map] at this; lia
  rcases front_split (fs (w / 2)) with h | ⟨post, h⟩
  · have hF' := hF
    rw [h] at hF'
    obtain ⟨σ1, g1, g2, g3, g4⟩ := gpm_new (d := 9) (by lia) hn hF' hC (I.ro _ hj) (lamR_call (d := 8))
    have T3 := (T1.set (y := "told") (v := .ref σ.length) (by decide)).set (y := "failed") (v := .bool false) (by decide)
    obtain ⟨σ', fr', hv', t1, t2, t3⟩ := deed3N (bb := false) T3 hw I hl (by (focus ((repeat (first | (with_reducible exact v_hit) | ((with_reducible apply v_ne); kernel_rfl))); done))) (by (focus ((repeat (first | (with_reducible exact v_hit) | ((with_reducible apply v_ne); kernel_rfl))); done))) (by (focus ((repeat ((with_reducible exact v_hit))); done))) (by
      cases q : ((fs (w / 2)).map fmV).any isN with
      | false => rfl
      | true =>
        have := any_none.mp q
        rw [h] at this
        obtain ⟨z, _, hz⟩ := List.mem_map.mp this
        cases hz) g4 g3 g2 (safe_big hb)
    refine ⟨_, σ', fs, _, fr', hv', ?_, t2, ln_refl, T3.toNm, t3⟩
    have hx0 := st_new T hw I hf
    obtain ⟨⟨h1, h2, h3, h4⟩, h5, h6, h7, h8, h9⟩ := T
    apply xsf_of
    apply xs_cons
    · exact hx0
    apply xs_cons (ρ₁ := Vars.set (Vars.set (Vars.set ρ "new" (.bool true)) "told" (.ref σ.length)) "failed" (.bool false)) (σ₁ := σ1)
    · apply x_tryN
      apply xs_cons (ρ₁ := Vars.set (Vars.set ρ "new" (.bool true)) "told" (.ref σ.length)) (σ₁ := σ1)
      · apply x_assign
        · kernel_rfl
        · apply e_call
          · (repeat (((with_reducible apply e_glob); kernel_rfl; (exact g_get_parent_map))))
          · apply es_cons (by rfl) (v := .ref (11 + w))
            · (repeat (((with_reducible apply e_var); kernel_rfl; (focus ((repeat (assumption)); done)))))
            · exact es_nil
          · exact g1
        · exact a_name rfl
      apply xs_cons
      · apply x_assign
        · kernel_rfl
        · (repeat ((with_reducible exact e_bool)))
        · exact a_name rfl
      exact xs_nil
    exact t1
  · have hF' := hF
    rw [h] at hF'
    obtain ⟨σ1, g1, g2, g3, g4⟩ := gpm_raise (d := 9) (by rw [← h]; lia) hn hF' hC (I.ro _ hj) (lamR_call (d := 8))
    have T3 := (T1.set (y := "told") (v := .ref σ.length) (by decide)).set (y := "failed") (v := .bool true) (by decide)
    obtain ⟨σ', fr', hv', t1, t2, t3⟩ := deed3N (bb := true) T3 hw I hl (by (focus ((repeat (first | (with_reducible exact v_hit) | ((with_reducible apply v_ne); kernel_rfl))); done))) (by (focus ((repeat (first | (with_reducible exact v_hit) | ((with_reducible apply v_ne); kernel_rfl))); done))) (by (focus ((repeat ((with_reducible exact v_hit))); done))) (any_none.mpr (by rw [h]; simp)) g4 g3 g2 (safe_big hb)
    refine ⟨_, σ', fs, _, fr', hv', ?_, t2, ln_refl, T3.toNm, t3⟩
    have hx0 := st_new T hw I hf
    obtain ⟨⟨h1, h2, h3, h4⟩, h5, h6, h7, h8, h9⟩ := T
    apply xsf_cons
    · exact xf_of hx0
    apply xsf_cons (ρ₁ := Vars.set (Vars.set (Vars.set ρ "new" (.bool true)) "told" (.ref σ.length)) "failed" (.bool true)) (σ₁ := σ1)
    · apply xf_tryR (X := "TypeError") (ρ₁ := Vars.set ρ "new" (.bool true)) (σ₁ := σ1)
      · apply xsr_here
        apply xr_assign
        · kernel_rfl
        · apply er_call
          · (repeat (((with_reducible apply e_glob); kernel_rfl; (exact g_get_parent_map))))
          · apply es_cons (by rfl) (v := .ref (11 + w))
            · (repeat (((with_reducible apply e_var); kernel_rfl; (focus ((repeat (assumption)); done)))))
            · exact es_nil
          · exact g1
      · apply h_hit (T := "TypeError")
        · kernel_rfl
        · exact g_TypeError
        · decide +kernel
        · decide +kernel
        · decide +kernel
        · apply xm_assign (v := .ref σ.length) (σ₁ := σ1)
          · kernel_rfl
          · exact fun env => rfl
          · apply em_attr (i := 11 + w)
            · constructor
            · kernel_rfl
            · apply em_var
              · kernel_rfl
              · (focus ((repeat (assumption)); done))
            · exact g3
            · rfl
          · apply xm_assign
            · kernel_rfl
            · exact fun env => rfl
            · exact em_bool
            · exact xm_nil
    exact xsf_of t1
theorem deed3 (T : Tn ρ n D w) (hw : w < 3) (I : Inv σ fs pm fr hv) (hl : ∀ j, j < 2 → (fs j).length ≤ 199) : Did e3 ρ σ fs := by
  have O := I.own w hw
  cases hf : fr w with
  | none =>
    rw [hf] at O
    generalize hp : pm w = p at O
    cases O with
    | none hn => exact deed3B T hw I hl hf (by rw [hp]; exact hn)
  | some q =>
    obtain ⟨f, M, rows⟩ := q
    exact deed3A T hw I hf
end
section
variable {ρ : Vars} {n D : Int} {w : Nat} {σ σ' : St} {fs : Nat → List Fm} {pm : Nat → Option AVal} {fr : Nat → Fr} {hv : Nat → AVal}
theorem t_deed {k : Int} {q : Bool} {p1 p2 p3 : Pos} {kn} (h : ρ "deed" = some (.int D)) (hq : (D == k) = q) : EvT piL 10 (kdAt 4) ρ (.Compare (.Name "deed" p1) [.Eq] [.Constant (.int k) kn p2] p3) σ q σ := by
  apply t_cmp (by rfl)
  · apply e_var
    · kernel_rfl
    · exact h
  · exact e_int
  · exact c_eq hq
theorem mod_lt (n : Int) {k : Int} (h : 0 < k) : 0 ≤ n.fmod k ∧ n.fmod k < k := by
  rw [Int.fmod_eq_emod_of_nonneg n (Int.le_of_lt h)]
  exact ⟨Int.emod_nonneg n (by lia), Int.emod_lt_of_pos n h⟩
theorem chain (T : Tn ρ n D w) (hw : w < 3) (hD : 0 ≤ D ∧ D < 6) (I : Inv σ fs pm fr hv) (hl : ∀ j, j < 2 → (fs j).length ≤ 199) : Did e0 ρ σ fs := by
  have hd := T.d
  have c5 : ∀ {c : List Stmt}, Did c ρ σ fs → (∀ ρ' σ', EvXsF piL 10 (kdAt 4) ρ c σ .next ρ' σ' → EvXsF piL 10 (kdAt 4) ρ e0 σ .next ρ' σ') → Did e0 ρ σ fs := fun ⟨ρ', σ', fs', pm', fr', hv', x, I, l, nn, k⟩ f => ⟨ρ', σ', fs', pm', fr', hv', f _ _ x, I, l, nn, k⟩
  have fin : ∀ {st : Stmt} {ρ' σ'}, EvXF piL 10 (kdAt 4) ρ st σ .next ρ' σ' → EvXsF piL 10 (kdAt 4) ρ [st] σ .next ρ' σ' := fun h => xsf_cons h (xsf_of xs_nil)
  obtain rfl | rfl | rfl | rfl | rfl | rfl : D = 0 ∨ D = 1 ∨ D = 2 ∨ D = 3 ∨ D = 4 ∨ D = 5 := by lia
  · exact c5 (deed0 T hw I hl) fun ρ' σ' h => fin (xf_ifT (t_deed hd rfl) h)
  · exact c5 (deed1 T hw I hl) fun ρ' σ' h => fin (xf_ifF (t_deed hd rfl) (fin (xf_ifT (t_deed hd rfl) h)))
  · exact c5 (deed2 T hw I hl) fun ρ' σ' h => fin (xf_ifF (t_deed hd rfl) (fin (xf_ifF (t_deed hd rfl) (fin (xf_ifT (t_deed hd rfl) h)))))
  · exact c5 (deed3 T hw I hl) fun ρ' σ' h => fin (xf_ifF (t_deed hd rfl) (fin (xf_ifF (t_deed hd rfl) (fin (xf_ifF (t_deed hd rfl) (fin (xf_ifF (t_deed hd rfl) (fin (xf_ifF (t_deed hd rfl) h)))))))))
  · exact c5 (deed4 T hw I) fun ρ' σ' h => fin (xf_ifF (t_deed hd rfl) (fin (xf_ifF (t_deed hd rfl) (fin (xf_ifF (t_deed hd rfl) (fin (xf_ifT (t_deed hd rfl) h)))))))
  · exact c5 (deed5 T hw I) fun ρ' σ' h => fin (xf_ifF (t_deed hd rfl) (fin (xf_ifF (t_deed hd rfl) (fin (xf_ifF (t_deed hd rfl) (fin (xf_ifF (t_deed hd rfl) (fin (xf_ifT (t_deed hd rfl) h)))))))))
theorem turn_ok (N : Nm ρ) (hx : ρ "x" = some (.int n)) (I : Inv σ fs pm fr hv) (hl : ∀ j, j < 2 → (fs j).length ≤ 199) : Did tb ρ σ fs := by
  obtain ⟨h1, h2, h3, h4⟩ := N
  obtain ⟨w, hw, hww⟩ : ∃ w : Nat, w < 3 ∧ (n.fdiv 6).fmod 3 = (w : Int) := by
    have := mod_lt (n.fdiv 6) (k := 3) (by decide)
    exact ⟨((n.fdiv 6).fmod 3).toNat, by lia, by lia⟩
  have hhalf : (w : Int).fdiv 2 = ((w / 2 : Nat) : Int) := by
    obtain rfl | rfl | rfl : w = 0 ∨ w = 1 ∨ w = 2 := by lia
    all_goals rfl
  have T : Tn (Vars.set (Vars.set (Vars.set (Vars.set ρ "deed" (.int (n.fmod 6))) "which" (.int (w : Int))) "families" (.ref (3 + 3 * (w / 2)))) "context" (.ref (11 + w))) n (n.fmod 6) w :=
    ⟨⟨by (focus ((repeat (assumption)); done)), by (focus ((repeat (assumption)); done)), by (focus ((repeat (assumption)); done)), by (focus ((repeat (assumption)); done))⟩, by (focus ((repeat (assumption)); done)), by (focus ((repeat (first | (with_reducible exact v_hit) | ((with_reducible apply v_ne); kernel_rfl))); done)), by (focus ((repeat (first | (with_reducible exact v_hit) | ((with_reducible apply v_ne); kernel_rfl))); done)), by (focus ((repeat (first | (with_reducible exact v_hit) | ((with_reducible apply v_ne); kernel_rfl))); done)), by (focus ((repeat ((with_reducible exact v_hit))); done))⟩
  obtain ⟨ρ', σ', fs', pm', fr', hv', x, I', l, nn, k⟩ := chain T hw (mod_lt n (by decide)) I hl
  refine ⟨ρ', σ', fs', pm', fr', hv', ?_, I', l, nn, k⟩
  apply xsf_cons (ρ₁ := Vars.set ρ "deed" (.int (n.fmod 6))) (σ₁ := σ)
  · apply xf_of
    apply x_assign
    · kernel_rfl
    · (repeat (first | (with_reducible first | exact e_int | apply e_binop) | ((with_reducible apply e_var); kernel_rfl; (focus ((repeat (assumption)); done))) | (((with_reducible apply bo_mod) <;> (decide)))))
    · exact a_name rfl
  apply xsf_cons (ρ₁ := Vars.set (Vars.set ρ "deed" (.int (n.fmod 6))) "which" (.int (w : Int))) (σ₁ := σ)
  · apply xf_of
    rw [← hww]
    apply x_assign
    · kernel_rfl
    · (repeat (first | (with_reducible first | exact e_int | apply e_binop) | ((with_reducible apply e_var); kernel_rfl; (focus ((repeat (assumption)); done))) | (((with_reducible first | apply bo_mod | apply bo_div) <;> (decide)))))
    · exact a_name rfl
  apply xsf_cons (ρ₁ := Vars.set (Vars.set (Vars.set ρ "deed" (.int (n.fmod 6))) "which" (.int (w : Int))) "families" (.ref (3 + 3 * (w / 2)))) (σ₁ := σ)
  · apply xf_of
    apply x_assign
    · kernel_rfl
    · apply e_item (a := .ref 7) (b := .int (w / 2 : Nat)) (σ₁ := σ)
      · (repeat (((with_reducible apply e_var); kernel_rfl; (focus ((repeat (assumption)); done)))))
      · rw [← hhalf]
        (repeat (first | (with_reducible first | exact e_int | apply e_binop) | ((with_reducible apply e_var); kernel_rfl; (focus ((repeat ((with_reducible exact v_hit))); done))) | (((with_reducible apply bo_div) <;> (decide)))))
      · exact it_list (lo_ref I.rw) (by lia) (by rw [Int.toNat_natCast]; exact fam_at (half hw)) (by lia)
    · exact a_name rfl
  apply xsf_cons (ρ₁ := Vars.set (Vars.set (Vars.set (Vars.set ρ "deed" (.int (n.fmod 6))) "which" (.int (w : Int))) "families" (.ref (3 + 3 * (w / 2)))) "context" (.ref (11 + w))) (σ₁ := σ)
  · apply xf_of
    apply x_assign
    · kernel_rfl
    · apply e_item (a := .ref 14) (b := .int (w : Int)) (σ₁ := σ)
      · (repeat (((with_reducible apply e_var); kernel_rfl; (focus ((repeat (assumption)); done)))))
      · (repeat (((with_reducible apply e_var); kernel_rfl; (focus ((repeat (first | (with_reducible exact v_hit) | ((with_reducible apply v_ne); kernel_rfl))); done)))))
      · exact it_list (lo_ref I.ct) (by lia) (by rw [Int.toNat_natCast]; exact ctx_at hw) (by lia)
    · exact a_name rfl
  exact x
theorem loop_ok {L : Nat} {xs : List Int} (hL : 17 ≤ L) : ∀ (rest done : List Int) (σ : St) (ρ : Vars) (fs : Nat → List Fm) (pm : Nat → Option AVal) (fr : Nat → Fr) (hv : Nat → AVal), xs = done ++ rest → Inv σ fs pm fr hv → Nm ρ → (∀ j, j < 2 → (fs j).length + rest.length ≤ 199) → σ[L]? = some (.list (xs.map .int)) →
    ∃ ρ' σ' fs' pm' fr' hv', EvFF piL 10 (kdAt 4) ρ (forT (bodyAt 4) 6) tb (.seq (.ref L) done.length) σ .next ρ' σ' ∧ Inv σ' fs' pm' fr' hv' ∧ Nm ρ'
  | [], done, σ, ρ, fs, pm, fr, hv, hd, I, N, hl, hL' => by
    rw [List.append_nil] at hd
    subst hd
    exact ⟨ρ, σ, fs, pm, fr, hv, ff_end (n_seqEnd (lo_ref hL') (by simp)), I, N⟩
  | x :: rest, done, σ, ρ, fs, pm, fr, hv, hd, I, N, hl, hL' => by
    have hg : (xs.map AVal.int)[done.length]? = some (.int x) := by rw [hd]; simp
    have N1 : Nm (Vars.set ρ "x" (.int x)) := by
      obtain ⟨h1, h2, h3, h4⟩ := N
      exact ⟨by (focus ((repeat (assumption)); done)), by (focus ((repeat (assumption)); done)), by (focus ((repeat (assumption)); done)), by (focus ((repeat (assumption)); done))⟩
    obtain ⟨ρ1, σ1, fs1, pm1, fr1, hv1, t1, I1, l1, n1, k1⟩ := turn_ok N1 (by exact v_hit) I fun j hj => by have := hl j hj; rw [List.length_cons] at this; lia
    obtain ⟨ρ', σ', fs', pm', fr', hv', u1, u2, u3⟩ := loop_ok hL rest (done ++ [x]) σ1 ρ1 fs1 pm1 fr1 hv1 (by rw [hd]; simp) I1 n1 (fun j hj => by have := hl j hj; have := l1 j hj; rw [List.length_cons] at *; lia) (k1 _ _ (safe_big hL) hL')
    rw [List.length_append] at u1
    exact ⟨ρ', σ', fs', pm', fr', hv', ff_more (n_seq (lo_ref hL') hg) (a_name (by kernel_rfl)) t1 u1, u2, u3⟩
theorem look_ok (N : Nm ρ) (hwv : ρ "which" = some (.int (w : Int))) (hw : w < 3) (I : Inv σ fs pm fr hv) : ∃ σ', EvXs piL 10 (kdAt 4) ρ (forB (bodyAt 4) 7) σ .next ρ σ' ∧ ∀ (i : Nat) o, σ[i]? = some o → σ'[i]? = some o := by
  obtain ⟨h1, h2, h3, h4⟩ := N
  have hC := I.cx w hw
  have O := I.own w hw
  have t1 : ∀ {z : Bool} {p1 p2 p3 p4 p5 : Pos} {kn}, CmpR .Is (frV (fr w)) .none σ z → EvT piL 10 (kdAt 4) ρ (.Compare (.Subscript (.Name "fronts" p1) (.Name "which" p2) p3) [.Is] [.Constant .none kn p4] p5) σ z σ := fun h => by
    apply t_cmp (by rfl)
    · apply e_fr hw
      · (repeat (((with_reducible apply e_var); kernel_rfl; (focus ((repeat (assumption)); done)))))
      · (repeat (((with_reducible apply e_var); kernel_rfl; (focus ((repeat (assumption)); done)))))
      · exact I.frl
    · exact e_none
    · exact h
  have t2 : ∀ {p1 p2 p3 : Pos}, EvE piL 10 (kdAt 4) ρ (.Subscript (.Name "contexts" p1) (.Name "which" p2) p3) σ (.ref (11 + w)) σ := by
    intro p1 p2 p3
    apply e_item (a := .ref 14) (b := .int (w : Int)) (σ₁ := σ)
    · (repeat (((with_reducible apply e_var); kernel_rfl; (focus ((repeat (assumption)); done)))))
    · (repeat (((with_reducible apply e_var); kernel_rfl; (focus ((repeat (assumption)); done)))))
    · exact it_list (lo_ref I.ct) (by lia) (by rw [Int.toNat_natCast]; exact ctx_at hw) (by lia)
  generalize hp : pm w = p at O hC
  generalize hh : hv w = h at O
  cases hf : fr w with
  | none =>
    rw [hf] at O
    cases O with
    | none hn =>
      refine ⟨σ, ?_, fun _ _ h => h⟩
      apply xs_cons
      · apply x_ifT
        · apply t1
          rw [hf]; exact c_isNN
        · apply xs_cons
          · apply x_ifF
            · apply t_cmp (by rfl)
              · apply e_pm
                · constructor
                · exact hn
                · exact t2
                · exact hC
              · (repeat ((with_reducible exact e_none)))
              · exact c_inNN
            · exact xs_nil
          exact xs_nil
      exact xs_nil
  | some q =>
    rw [hf] at O
    cases O with
    | @some f M rows hF hM hr sf sM sq =>
      obtain ⟨σ', s1, s2⟩ := same_ok (d := 9) hr hF hM
      refine ⟨σ', ?_, s2⟩
      apply xs_cons
      · apply x_ifF
        · apply t1
          rw [hf]; exact c_isRN
        · apply xs_cons
          · apply x_ifF
            · apply t_cmp (by rfl) (a := .ref M) (b := .ref M)
              · apply e_pmR
                · constructor
                · exact t2
                · exact hC
              · rw [← hh]
                apply e_hv hw
                · (repeat (((with_reducible apply e_var); kernel_rfl; (focus ((repeat (assumption)); done)))))
                · (repeat (((with_reducible apply e_var); kernel_rfl; (focus ((repeat (assumption)); done)))))
                · exact I.hel
              · exact c_inR (by simp)
            · apply xs_cons
              · apply x_ifF
                · apply t_notF
                  apply t_call
                  apply e_call
                  · (repeat (((with_reducible apply e_glob); kernel_rfl; (exact g_l_same))))
                  · apply es_cons (by rfl) (v := .ref M)
                    · rw [← hh]
                      apply e_hv hw
                      · (repeat (((with_reducible apply e_var); kernel_rfl; (focus ((repeat (assumption)); done)))))
                      · (repeat (((with_reducible apply e_var); kernel_rfl; (focus ((repeat (assumption)); done)))))
                      · exact I.hel
                    · apply es_cons (by rfl) (v := .ref f)
                      · have : frV (fr w) = .ref f := by rw [hf]; rfl
                        rw [← this]
                        apply e_fr hw
                        · (repeat (((with_reducible apply e_var); kernel_rfl; (focus ((repeat (assumption)); done)))))
                        · (repeat (((with_reducible apply e_var); kernel_rfl; (focus ((repeat (assumption)); done)))))
                        · exact I.frl
                      · exact es_nil
                  · exact s1
                · exact xs_nil
              exact xs_nil
          exact xs_nil
      exact xs_nil
theorem last_loop : ∀ (m k : Nat) (σ : St) (ρ : Vars), k + m = 3 → Inv σ fs pm fr hv → Nm ρ → ∃ ρ' σ', EvF piL 10 (kdAt 4) ρ (forT (bodyAt 4) 7) (forB (bodyAt 4) 7) (.rng (k : Int) (m : Int) 1) σ .next ρ' σ'
  | 0, k, σ, ρ, hk, I, N => ⟨ρ, σ, f_end (n_rngEnd (by decide))⟩
  | m + 1, k, σ, ρ, hk, I, N => by
    have N1 : Nm (Vars.set ρ "which" (.int (k : Int))) := by
      obtain ⟨h1, h2, h3, h4⟩ := N
      exact ⟨by (focus ((repeat (assumption)); done)), by (focus ((repeat (assumption)); done)), by (focus ((repeat (assumption)); done)), by (focus ((repeat (assumption)); done))⟩
    obtain ⟨σ1, t1, t2⟩ := look_ok (w := k) N1 (by exact v_hit) (by lia) I
    obtain ⟨ρ', σ', u1⟩ := last_loop m (k + 1) σ1 _ (by lia) (I.keep t2) N1
    have e1 : (k : Int) + 1 = ((k + 1 : Nat) : Int) := by lia
    have e2 : (((m + 1 : Nat) : Int) - 1) = (m : Int) := by lia
    rw [← e1, ← e2] at u1
    exact ⟨ρ', σ', f_more (n_rng (by lia)) (a_name (by kernel_rfl)) t1 u1⟩
end
noncomputable abbrev I2 (a b : Int) : AObj := .list [.int a, .int b]
noncomputable def σa (ms : List Int) : St := [.list (ms.map .int)]
noncomputable def σb (ms : List Int) : St := σa ms ++ [I2 6 5] ++ [AObj.list [.int 5]] ++ [AObj.list [.ref 1, .ref 2]] ++ [AObj.list [.int 1]] ++ [I2 1 2] ++ [AObj.list [.ref 4, .ref 5]] ++ [AObj.list [.ref 3, .ref 6]]
noncomputable def σc (ms : List Int) : St := σb ms ++ [rootO 3] ++ [rootO 6] ++ [AObj.list [.ref 8, .ref 9]]
noncomputable def σd (ms : List Int) : St := σc ms ++ [AObj.inst (ctxA 8 none)] ++ [AObj.inst (ctxA 8 none)] ++ [AObj.inst (ctxA 9 none)] ++ [AObj.list [.ref 11, .ref 12, .ref 13]]
noncomputable def σe (ms : List Int) : St := σd ms ++ [AObj.list [.none, .none, .none]]
noncomputable def σf (ms : List Int) : St := σe ms ++ [AObj.list [.none, .none, .none]]
noncomputable def ρa (ns : List Int) : Vars := Vars.set (bindAll ["script"] [.scr ns]) "script" (.ref 0)
noncomputable def ρb (ns : List Int) : Vars := Vars.set (ρa ns) "rows" (.ref 7)
noncomputable def ρc (ns : List Int) : Vars := Vars.set (ρb ns) "roots" (.ref 10)
noncomputable def ρd (ns : List Int) : Vars := Vars.set (ρc ns) "contexts" (.ref 14)
noncomputable def ρe (ns : List Int) : Vars := Vars.set (ρd ns) "fronts" (.ref 15)
noncomputable def ρf (ns : List Int) : Vars := Vars.set (ρe ns) "held" (.ref 16)
section
variable {ns ms : List Int}
theorem st0 (hm : ms = pickL ns none (some 63) none) (hl : ns.length ≤ 63) : EvX piL 10 (kdAt 4) (bindAll ["script"] [.scr ns]) (st 4 0) [] .next (ρa ns) (σa ms) := by
  have e : σa ms = [] ++ [AObj.list (pickL (ns.map AVal.int) none (some 63) none)] := by rw [pickL_map, ← hm]; rfl
  rw [e]
  apply x_assign (v := .ref ([] : St).length)
  · kernel_rfl
  · apply e_sliceL
    · (repeat (((with_reducible apply e_var); kernel_rfl; (focus ((repeat ((with_reducible exact b_hit))); done)))))
    · exact o_none
    · apply o_some
      · (repeat ((with_reducible exact e_int)))
      · exact oi_int
    · exact o_none
    · rfl
    · exact lo_scr
    · rw [List.length_map]; unfold lim; lia
  · exact a_name rfl
theorem st1 : EvX piL 10 (kdAt 4) (ρa ns) (st 4 1) (σa ms) .next (ρb ns) (σb ms) := by
  apply x_assign (v := .ref (σa ms ++ [I2 6 5] ++ [AObj.list [.int 5]] ++ [AObj.list [.ref 1, .ref 2]] ++ [AObj.list [.int 1]] ++ [I2 1 2] ++ [AObj.list [.ref 4, .ref 5]]).length) (σ₁ := σb ms)
  · kernel_rfl
  · apply e_list (vs := [.ref 3, .ref 6])
    · apply es_cons (by rfl) (v := .ref 3) (σ₁ := σa ms ++ [I2 6 5] ++ [AObj.list [.int 5]] ++ [AObj.list [.ref 1, .ref 2]])
      · refine e_list (vs := [.ref 1, .ref 2]) (σ₁ := σa ms ++ [I2 6 5] ++ [AObj.list [.int 5]]) ?_ (by decide)
        apply es_cons (by rfl) (v := .ref 1) (σ₁ := σa ms ++ [I2 6 5])
        · refine e_list (vs := [.int 6, .int 5]) (σ₁ := σa ms) ?_ (by decide)
          (repeat (first | (with_reducible first | exact es_nil | exact e_int) | ((with_reducible apply es_cons); (kernel_rfl))))
        · apply es_cons (by rfl) (v := .ref 2) (σ₁ := σa ms ++ [I2 6 5] ++ [AObj.list [.int 5]])
          · refine e_list (vs := [.int 5]) (σ₁ := σa ms ++ [I2 6 5]) ?_ (by decide)
            (repeat (first | (with_reducible first | exact es_nil | exact e_int) | ((with_reducible apply es_cons); (kernel_rfl))))
          · exact es_nil
      · apply es_cons (by rfl) (v := .ref 6) (σ₁ := σa ms ++ [I2 6 5] ++ [AObj.list [.int 5]] ++ [AObj.list [.ref 1, .ref 2]] ++ [AObj.list [.int 1]] ++ [I2 1 2] ++ [AObj.list [.ref 4, .ref 5]])
        · refine e_list (vs := [.ref 4, .ref 5]) (σ₁ := σa ms ++ [I2 6 5] ++ [AObj.list [.int 5]] ++ [AObj.list [.ref 1, .ref 2]] ++ [AObj.list [.int 1]] ++ [I2 1 2]) ?_ (by decide)
          apply es_cons (by rfl) (v := .ref 4) (σ₁ := σa ms ++ [I2 6 5] ++ [AObj.list [.int 5]] ++ [AObj.list [.ref 1, .ref 2]] ++ [AObj.list [.int 1]])
          · refine e_list (vs := [.int 1]) (σ₁ := σa ms ++ [I2 6 5] ++ [AObj.list [.int 5]] ++ [AObj.list [.ref 1, .ref 2]]) ?_ (by decide)
            (repeat (first | (with_reducible first | exact es_nil | exact e_int) | ((with_reducible apply es_cons); (kernel_rfl))))
          · apply es_cons (by rfl) (v := .ref 5) (σ₁ := σa ms ++ [I2 6 5] ++ [AObj.list [.int 5]] ++ [AObj.list [.ref 1, .ref 2]] ++ [AObj.list [.int 1]] ++ [I2 1 2])
            · refine e_list (vs := [.int 1, .int 2]) (σ₁ := σa ms ++ [I2 6 5] ++ [AObj.list [.int 5]] ++ [AObj.list [.ref 1, .ref 2]] ++ [AObj.list [.int 1]]) ?_ (by decide)
              (repeat (first | (with_reducible first | exact es_nil | exact e_int) | ((with_reducible apply es_cons); (kernel_rfl))))
            · exact es_nil
        · exact es_nil
    · decide
  · exact a_name rfl
theorem st2 : EvX piL 10 (kdAt 4) (ρb ns) (st 4 2) (σb ms) .next (ρc ns) (σc ms) := by
  have hr : (σb ms)[7]? = some (.list [.ref 3, .ref 6]) := by kernel_rfl
  have vr : ρb ns "rows" = some (.ref 7) := by exact v_hit
  apply x_assign (v := .ref (σb ms ++ [rootO 3] ++ [rootO 6]).length) (σ₁ := σc ms)
  · kernel_rfl
  · apply e_list (vs := [.ref 8, .ref 9])
    · apply es_cons (by rfl) (v := .ref (σb ms).length) (σ₁ := σb ms ++ [rootO 3])
      · apply e_call
        · (repeat (((with_reducible apply e_glob); kernel_rfl; (exact g_l_root))))
        · apply es_cons (by rfl) (v := .ref 3) (σ₁ := σb ms)
          · apply e_item
            · (repeat (((with_reducible apply e_var); kernel_rfl; (focus ((repeat (assumption)); done)))))
            · (repeat ((with_reducible exact e_int)))
            · exact it_list (lo_ref hr) (by decide) rfl (by decide)
          · exact es_nil
        · exact root_ok (d := 7)
      · apply es_cons (by rfl) (v := .ref (σb ms ++ [rootO 3]).length) (σ₁ := σb ms ++ [rootO 3] ++ [rootO 6])
        · apply e_call
          · (repeat (((with_reducible apply e_glob); kernel_rfl; (exact g_l_root))))
          · apply es_cons (by rfl) (v := .ref 6) (σ₁ := σb ms ++ [rootO 3])
            · apply e_item
              · (repeat (((with_reducible apply e_var); kernel_rfl; (focus ((repeat (assumption)); done)))))
              · (repeat ((with_reducible exact e_int)))
              · exact it_list (lo_ref (get_old hr)) (by decide) rfl (by decide)
            · exact es_nil
          · exact root_ok (d := 7)
        · exact es_nil
    · decide
  · exact a_name rfl
theorem st3 : EvX piL 10 (kdAt 4) (ρc ns) (st 4 3) (σc ms) .next (ρd ns) (σd ms) := by
  have hr : (σc ms)[10]? = some (.list [.ref 8, .ref 9]) := by kernel_rfl
  have vr : ρc ns "roots" = some (.ref 10) := by exact v_hit
  have one : ∀ {σ : St} {k : Int} {a : Nat} {p1 p2 p3 p4 p5 : Pos} {kn}, σ[10]? = some (.list [.ref 8, .ref 9]) → 0 ≤ k → k < 2 → [AVal.ref 8, .ref 9][k.toNat]? = some (.ref a) → EvE piL 10 (kdAt 4) (ρc ns) (.Call (.Name "_SelectorContext" p1) [.Subscript (.Name "roots" p2) (.Constant (.int k) kn p3) p4] [] p5) σ (.ref σ.length) (σ ++ [AObj.inst (ctxA a none)]) := by
    intro σ k a p1 p2 p3 p4 p5 kn h h0 h1 h2
    apply e_call
    · (repeat (((with_reducible apply e_glob); kernel_rfl; (exact g_cls))))
    · apply es_cons (by rfl) (v := .ref a) (σ₁ := σ)
      · apply e_item
        · (repeat (((with_reducible apply e_var); kernel_rfl; (focus ((repeat (assumption)); done)))))
        · (repeat ((with_reducible exact e_int)))
        · exact it_list (lo_ref h) h0 h2 (by lia)
      · exact es_nil
    · exact cls_ok (d := 8) rfl
  apply x_assign (v := .ref (σc ms ++ [AObj.inst (ctxA 8 none)] ++ [AObj.inst (ctxA 8 none)] ++ [AObj.inst (ctxA 9 none)]).length) (σ₁ := σd ms)
  · kernel_rfl
  · apply e_list (vs := [.ref 11, .ref 12, .ref 13])
    · apply es_cons (by rfl) (v := .ref (σc ms).length) (σ₁ := σc ms ++ [AObj.inst (ctxA 8 none)])
      · exact one hr (by decide) (by decide) rfl
      · apply es_cons (by rfl) (v := .ref (σc ms ++ [AObj.inst (ctxA 8 none)]).length) (σ₁ := σc ms ++ [AObj.inst (ctxA 8 none)] ++ [AObj.inst (ctxA 8 none)])
        · exact one (get_old hr) (by decide) (by decide) rfl
        · apply es_cons (by rfl) (v := .ref (σc ms ++ [AObj.inst (ctxA 8 none)] ++ [AObj.inst (ctxA 8 none)]).length) (σ₁ := σc ms ++ [AObj.inst (ctxA 8 none)] ++ [AObj.inst (ctxA 8 none)] ++ [AObj.inst (ctxA 9 none)])
          · exact one (get_old (get_old hr)) (by decide) (by decide) rfl
          · exact es_nil
    · decide
  · exact a_name rfl
theorem st4 : EvX piL 10 (kdAt 4) (ρd ns) (st 4 4) (σd ms) .next (ρe ns) (σe ms) := by
  apply x_assign (v := .ref (σd ms).length) (σ₁ := σe ms)
  · kernel_rfl
  · refine e_list (vs := [.none, .none, .none]) (σ₁ := σd ms) ?_ (by decide)
    (repeat (first | (with_reducible first | exact es_nil | exact e_none) | ((with_reducible apply es_cons); (kernel_rfl))))
  · exact a_name rfl
theorem st5 : EvX piL 10 (kdAt 4) (ρe ns) (st 4 5) (σe ms) .next (ρf ns) (σf ms) := by
  apply x_assign (v := .ref (σe ms).length) (σ₁ := σf ms)
  · kernel_rfl
  · refine e_list (vs := [.none, .none, .none]) (σ₁ := σe ms) ?_ (by decide)
    (repeat (first | (with_reducible first | exact es_nil | exact e_none) | ((with_reducible apply es_cons); (kernel_rfl))))
  · exact a_name rfl
noncomputable def fs0 : Nat → List Fm
  | 0 => [some (1, [6, 5]), some (2, [5])]
  | _ => [some (4, [1]), some (5, [1, 2])]
theorem inv0 : Inv (σf ms) fs0 (fun _ => none) (fun _ => none) (fun _ => .none) := by
  refine ⟨by kernel_rfl, fun j hj => ?_, by kernel_rfl, fun j hj => ?_, fun j hj q hq => ?_, fun w hw => ?_, by kernel_rfl, by kernel_rfl, fun w hw => .none .none⟩
  · obtain rfl | rfl : j = 0 ∨ j = 1 := by lia
    all_goals kernel_rfl
  · obtain rfl | rfl : j = 0 ∨ j = 1 := by lia
    · refine ⟨by kernel_rfl, fun q hq => ?_⟩
      rcases List.mem_cons.mp hq with h | hq
      · cases h; exact ⟨by kernel_rfl, by decide⟩
      · cases List.mem_singleton.mp hq; exact ⟨by kernel_rfl, by decide⟩
    · refine ⟨by kernel_rfl, fun q hq => ?_⟩
      rcases List.mem_cons.mp hq with h | hq
      · cases h; exact ⟨by kernel_rfl, by decide⟩
      · cases List.mem_singleton.mp hq; exact ⟨by kernel_rfl, by decide⟩
  · obtain rfl | rfl : j = 0 ∨ j = 1 := by lia
    · rcases List.mem_cons.mp hq with h | hq
      · cases h; unfold Safe; decide
      · cases List.mem_singleton.mp hq; unfold Safe; decide
    · rcases List.mem_cons.mp hq with h | hq
      · cases h; unfold Safe; decide
      · cases List.mem_singleton.mp hq; unfold Safe; decide
  · obtain rfl | rfl | rfl : w = 0 ∨ w = 1 ∨ w = 2 := by lia
    all_goals kernel_rfl
noncomputable def tailI : List Int := [3, 0, 162, 3, 9, 1, 4, 3, 3, 2, 3, 4, 3, 17, 15, 16, 15]
end
theorem pureL (ns : List Int) (h : ns.length ≤ 63) : ∃ ρ' σ', EvXsF piL 10 (fun y => (namesAt 4).lookup y) (bindAll ["script"] [.scr ns]) (bodyAt 4) [] (.ret (.bool true)) ρ' σ' := by
  obtain ⟨ms, hm⟩ : ∃ ms, ms = pickL ns none (some 63) none := ⟨_, rfl⟩
  have hml : ms.length ≤ 63 := by rw [hm]; have := pickL_len ns none (some 63) none; lia
  obtain ⟨σg, hσg⟩ : ∃ σg, σg = σf ms ++ [AObj.list (tailI.map .int)] ++ [AObj.list ((ms ++ tailI).map .int)] := ⟨_, rfl⟩
  have Ig : Inv σg fs0 (fun _ => none) (fun _ => none) (fun _ => .none) := inv0.keep fun i o e => by rw [hσg]; exact get_old (get_old e)
  have gL : σg[18]? = some (.list ((ms ++ tailI).map .int)) := by
    rw [hσg, show (18 : Nat) = (σf ms ++ [AObj.list (tailI.map .int)]).length from by kernel_rfl]; exact get_new
  have N : Nm (ρf ns) := ⟨by kernel_rfl, by kernel_rfl, by kernel_rfl, by kernel_rfl⟩
  obtain ⟨ρ1, σ1, fs1, pm1, fr1, hv1, t1, I1, N1⟩ := loop_ok (L := 18) (by decide) (ms ++ tailI) [] σg (ρf ns) _ _ _ _ rfl Ig N (fun j hj => by
    have : (ms ++ tailI).length ≤ 80 := by rw [List.length_append]; have : tailI.length = 17 := rfl; lia
    have : (fs0 j).length = 2 := by obtain rfl | rfl : j = 0 ∨ j = 1 := by lia
                                    all_goals kernel_rfl
    lia) gL
  obtain ⟨ρ2, σ2, u1⟩ := last_loop 3 0 σ1 ρ1 rfl I1 N1
  refine ⟨ρ2, σ2, ?_⟩
  apply xsf_cons
  · exact xf_of (st0 hm h)
  apply xsf_cons
  · exact xf_of st1
  apply xsf_cons
  · exact xf_of st2
  apply xsf_cons
  · exact xf_of st3
  apply xsf_cons
  · exact xf_of st4
  apply xsf_cons
  · exact xf_of st5
  apply xsf_cons
  · apply xf_for (v := .ref 18) (σ₁ := σg)
    · rfl
    · have hs : (σf ms ++ [AObj.list (tailI.map .int)])[0]? = some (.list (ms.map .int)) := by kernel_rfl
      have vs : ρf ns "script" = some (.ref 0) := by kernel_rfl
      have hb : BinR .Add (.ref 0) (.ref (σf ms).length) (σf ms ++ [AObj.list (tailI.map .int)]) (.ref (σf ms ++ [AObj.list (tailI.map .int)]).length) (σf ms ++ [AObj.list (tailI.map .int)] ++ [AObj.list (ms.map .int ++ tailI.map .int)]) := bo_list (lo_ref hs) (lo_ref get_new) (by rw [List.length_map, List.length_map]; have : tailI.length = 17 := rfl; unfold lim; lia)
      rw [← List.map_append, ← hσg] at hb
      apply e_binop (a := .ref 0) (b := .ref (σf ms).length) (σ₁ := σf ms) (σ₂ := σf ms ++ [AObj.list (tailI.map .int)])
      · apply e_var
        · kernel_rfl
        · exact vs
      · refine e_list (vs := tailI.map .int) (σ₁ := σf ms) ?_ (by decide)
        show EvEs piL 10 (kdAt 4) (ρf ns) _ (σf ms) [.int 3, .int 0, .int 162, .int 3, .int 9, .int 1, .int 4, .int 3, .int 3, .int 2, .int 3, .int 4, .int 3, .int 17, .int 15, .int 16, .int 15] (σf ms)
        (repeat (first | (with_reducible first | exact es_nil | exact e_int) | ((with_reducible apply es_cons); (kernel_rfl))))
      · exact hb
    · exact mk_list gL
    · (repeat (((with_reducible exact lk_name))))
    · exact t1
  apply xsf_of
  apply xs_cons
  · apply x_for
    · rfl
    · apply e_call
      · (repeat (((with_reducible apply e_glob); kernel_rfl; (exact g_range))))
      · (repeat (first | (with_reducible first | exact es_nil | exact e_int) | ((with_reducible apply es_cons); (kernel_rfl))))
      · exact c_range1
    · exact mk_rng1 ⟨by decide, by decide, by decide⟩
    · (repeat (((with_reducible exact lk_name))))
    · exact u1
  apply xs_ret
  apply x_return
  (repeat ((with_reducible exact e_bool)))
end Mini
open PySem PySem.W PyProof.Rows
namespace Mini
theorem joinL {w : World} {s₁ : Shared} {mg mb : Str → Option Value} {p : Program} {loose : List Str} {mean mean' : ExcName → Option Value} {cl : Str → Option Addr} {fa L : Addr} {items : List Value} {ns : List Int}
    (KX : (KL w.params).In s₁.heap) (T : Top p loose mean mg mb s₁.heap) (hT : TabsAt [(48, 44)] s₁.heap) (hg : s₁.gens = #[]) (hmg : mg "law" = some (.ref fa)) (hL : s₁.heap.IsList L items.toArray) (hI : IntsAre items ns) (hl : ¬ ((63 : Nat) : Int) < ns.length) :
    codeAny (model PySem.Challenge.rw_dn0295_01.row.prog w) callerA (Code.call (.ref fa) { pos := [.ref L] }) (GoodWG PySem.Challenge.rw_dn0295_01.row.claim cl mean' [ofPy (PyData.list (List.map PyData.int ns))] s₁) s₁ := by
  have ok : COk (cxL w s₁.heap mg mb) piL := cokL KX T hT
  have X : (KL w.params).In (ghostOf s₁.heap [(48, 44)]) := ghost_K hT KX (by kernel_rfl)
  have hgl : (ghostOf s₁.heap [(48, 44)]).Ns mainGlobals mg := ghost_ns hT T.g
  have hfa : fa = 68 := by
    have h1 : mg "law" = some (.ref 68) := mg_of X hgl (by kernel_rfl)
    rw [hmg] at h1
    cases h1; rfl
  subst hfa
  obtain ⟨ρ', σ', hrun⟩ := pureL ns (by lia)
  exact law_joinF (c := cxL w s₁.heap mg mb) ok rfl hT (by show ([44] : List Addr).Nodup; decide) hg (fnOk_law X) hL hI ⟨by kernel_rfl, by decide, by decide⟩ rfl hrun (by kernel_rfl) (fun _ => rfl)
end Mini
theorem PySem.Challenge.cw_dn0295_01_holds : PySem.Challenge.rw_dn0295_01.Holds := by
  exact hd (by
    w_strict (
      k_fill
      intro w s₀ s₁ mg mb G Y fa o pm cd doc dV kV ho hd hcd hD hmg hg args vals as hpre hlay hrd hwl hlo
      have KX := km_in_of Y
      km_tabs Y
      have X := (Ground.X G).1
      have V := (Ground.X G).2
      refine Ground.open G ?_
      intro T B D TE TW
      try (refine guard_noD D (by decide +kernel) ?_; clear D)
      have hmg0 := hmg
      km_lay T hmg ho hd cd
      wrow_args hpre hlay hrd hwl hlo
      all_goals (
        first | refine callC_kw (enter_call ?_) | refine enter_call ?_
        exact Mini.joinL KX T hT9 hg hmg0 (by assumption) (by assumption) (by assumption))))
