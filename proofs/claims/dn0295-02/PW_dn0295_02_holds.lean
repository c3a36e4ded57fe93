import PyProof.Rows.All
import Wide.All
import OpenK.AllK
import Wide.FinOn
import KE.KSortTup
import KE.KIntText
import KE.KLam
import KE.KRevSl
import PySem.Challenge.RW_dn0295_02
set_option Elab.async false
set_option maxRecDepth 100000
set_option linter.unusedSimpArgs false
set_option linter.unusedVariables false
set_option maxHeartbeats 8000000
namespace Mini
open PySem PySem.W PyProof.Rows PySem.Calls
structure GB where
  src : Str
  x : Str
  pre : List Stmt
  cond : Expr
  params : List Str
  names : List (Str × NameKind)
  deriving Inhabited
structure LB where
  body : Expr
  params : List Str
  names : List (Str × NameKind)
  deriving Inhabited
inductive AVal where
  | none
  | bool (b : Bool)
  | int (i : Int)
  | str (s : Str)
  | bytes (b : Array UInt8)
  | tup (vs : List AVal)
  | ref (i : Nat)
  | scr (ns : List Int)
  | fn (x : Str)
  | cls
  | bi (id : String)
  | ty (n : String)
  | rng (a b c : Int)
  | slc (a b : Option Int)
  | gfn (k : GB) (xs : List Str) (vs : List AVal)
  | lam (k : LB) (xs : List Str) (vs : List AVal)
  | sd (ks : List Str) (vs : List AVal)
  deriving Inhabited
inductive AIt where
  | seq (v : AVal) (i : Nat)
  | rng (cur left step : Int)
  | tup (vs : List AVal) (i : Nat)
  | chars (s : Str) (i : Nat)
  | obj (i : Nat)
  | dkeys (v : AVal) (n i : Nat)
  deriving Inhabited
inductive GSt where
  | fresh | susp (it : AIt) | run | done
  deriving Inhabited
noncomputable abbrev Vars := Str → Option AVal
noncomputable def Vars.set (ρ : Vars) (x : Str) (v : AVal) : Vars := fun y => if y = x then some v else ρ y
inductive AObj where
  | list (vs : List AVal)
  | dict (kvs : List (Int × AVal))
  | sdict (kvs : List (Str × AVal))
  | inst (ats : List (Str × AVal))
  | liter (v : AVal) (i : Nat)
  | lend
  | gen (k : GB) (ρ : Vars) (st : GSt)
  deriving Inhabited
noncomputable abbrev St := List AObj
structure Loc where
  a : Addr
  ps : List Addr := []
  g : Option Nat := .none
structure Fn where
  addr : Addr
  fd : FuncData
  body : List Stmt
  params : List Str
noncomputable def GLoop (k : GB) (lb : List Stmt) : Prop := ∃ y1 y2 y3 y4, lb = k.pre ++ [.If k.cond [.Expr (.Yield (some (.Name k.x y1)) y2) y3] [] y4]
noncomputable def GBody (k : GB) (body : List Stmt) : Prop := ∃ px ps lb pf, body = [.For (.Name k.x px) (.Name k.src ps) lb [] pf] ∧ GLoop k lb
structure Cx where
  prog : Program
  w : World
  K : Frag
  B : Heap
  mg : Str → Option Value
  mb : Str → Option Value
  C : Addr
  fns : Str → Option Fn
  tabs : List (Addr × Addr)
  tq : Addr → Str
  frz : Str → Bool
noncomputable def foot (c : Cx) (φ : List Loc) : List Addr := c.tabs.map (·.2) ++ φ.flatMap fun l => l.a :: l.ps
noncomputable abbrev Imm := Addr → Option Obj
structure GB.Names (k : GB) : Prop where
  xl : k.names.lookup k.x = some .local
  xd : (k.x == ("__debug__" : Str)) = false
  sl : k.names.lookup k.src = some .local
  sd : (k.src == ("__debug__" : Str)) = false
structure GFn (G : Imm) (k : GB) (fd : FuncData) : Prop where
  body : ∃ body, fd.body = .stmts body ∧ GBody k body
  nm : fd.scope.names = k.names
  co : fd.scope.isCoroutine = false
  gen : fd.scope.isGenerator = true
  kind : fd.scope.kind = .function
  glob : fd.globals = mainGlobals
  bi : fd.builtins = builtinsNs
  nocell : ∀ p ∈ k.names, p.2 ≠ .cell
  code : ∃ ca oc vs t, fd.code = .ref ca ∧ G ca = some oc ∧ oc.data = .fields vs ∧ vs[1]? = some (.str fd.qualname t)
  bind : ∀ vs', vs'.length = k.params.length → bindArgs fd ⟨vs', []⟩ = pure (k.params.zip vs')
  pk : ∀ x ∈ k.params, k.names.lookup x = some .local
  nodup : k.params.Nodup
  nx : k.Names
structure LFn (G : Imm) (k : LB) (fd : FuncData) : Prop where
  body : fd.body = .expr k.body
  nm : fd.scope.names = k.names
  co : fd.scope.isCoroutine = false
  gen : fd.scope.isGenerator = false
  kind : fd.scope.kind = .function
  glob : fd.globals = mainGlobals
  bi : fd.builtins = builtinsNs
  nocell : ∀ p ∈ k.names, p.2 ≠ .cell
  code : ∃ ca oc vs t, fd.code = .ref ca ∧ G ca = some oc ∧ oc.data = .fields vs ∧ vs[1]? = some (.str fd.qualname t)
  bind : ∀ vs', vs'.length = k.params.length → bindArgs fd ⟨vs', []⟩ = pure (k.params.zip vs')
  pk : ∀ x ∈ k.params, k.names.lookup x = some .local
  nodup : k.params.Nodup
mutual
inductive VRel (c : Cx) (G : Imm) (φ : List Loc) : AVal → Value → Prop
  | none : VRel c G φ .none .none
  | bool (b : Bool) : VRel c G φ (.bool b) (.bool b)
  | int (i : Int) (t : Tok) : VRel c G φ (.int i) (.int i t)
  | str (s : Str) (t : Tok) : VRel c G φ (.str s) (.str s t)
  | bytes (b : Array UInt8) (t : Tok) : VRel c G φ (.bytes b) (.bytes b t)
  | tup {vs : List AVal} {items : List Value} {a : Addr} (n : Nat) (e : G a = some { cls := .type "tuple", data := .seq items.toArray n }) (r : VsRel c G φ vs items) : VRel c G φ (.tup vs) (.ref a)
  | ref {i : Nat} {l : Loc} (e : φ[i]? = some l) : VRel c G φ (.ref i) (.ref l.a)
  | scr {ns : List Int} {items : List Value} {a : Addr} {o : Obj} (e : G a = some o) (hc : o.cls = .type "list") (n : Nat) (hd : o.data = .seq items.toArray n) (r : IntsAre items ns) : VRel c G φ (.scr ns) (.ref a)
  | fn {x : Str} {f : Fn} (e : c.fns x = some f) : VRel c G φ (.fn x) (.ref f.addr)
  | cls : VRel c G φ .cls (.ref c.C)
  | bi (id : String) : VRel c G φ (.bi id) (.builtin id)
  | ty (n : String) : VRel c G φ (.ty n) (.type n)
  | rng {a b s : Int} {r : Addr} (t u v : Tok) (e : G r = some { cls := .type "range", data := .fields #[.int a t, .int b u, .int s v] }) : VRel c G φ (.rng a b s) (.ref r)
  | slc {a b : Option Int} {r : Addr} {o : Obj} (l u : Option (Int × Tok)) (hl : l.map (·.1) = a) (hu : u.map (·.1) = b) (e : G r = some o) (hc : o.cls = .type "slice") (hd : o.data = .fields #[partValue l, partValue u, .none]) : VRel c G φ (.slc a b) (.ref r)
  | gfn {k : GB} {xs : List Str} {vs : List AVal} {vs' : List Value} {a : Addr} {o : Obj} {fd : FuncData} (e : G a = some o) (hd : o.data = .func fd) (hf : GFn G k fd) (hx : ∀ x ∈ xs, k.names.lookup x = some .free) (hg : ∀ p ∈ fd.closure, (G p.2).isSome)
      (hc : ∀ (i : Nat) (x : Str) (v' : Value), xs[i]? = some x → vs'[i]? = some v' → ∃ ca oc, fd.closure.lookup x = some ca ∧ G ca = some oc ∧ oc.data = .cell (some v')) (r : VsRel c G φ vs vs') : VRel c G φ (.gfn k xs vs) (.ref a)
  | lam {k : LB} {xs : List Str} {vs : List AVal} {vs' : List Value} {a : Addr} {o : Obj} {fd : FuncData} (e : G a = some o) (hd : o.data = .func fd) (hf : LFn G k fd) (hx : ∀ x ∈ xs, k.names.lookup x = some .free) (hg : ∀ p ∈ fd.closure, (G p.2).isSome)
      (hc : ∀ (i : Nat) (x : Str) (v' : Value), xs[i]? = some x → vs'[i]? = some v' → ∃ ca oc, fd.closure.lookup x = some ca ∧ G ca = some oc ∧ oc.data = .cell (some v')) (r : VsRel c G φ vs vs') : VRel c G φ (.lam k xs vs) (.ref a)
  | sd {ks : List Str} {vs : List AVal} {vs' : List Value} {a : Addr} {o : Obj} (e : G a = some o) (hd : ∃ kvs : List (Str × Value), o.IsDictOf (strKind c.prog c.w) kvs ∧ kvs.map (·.1) = ks ∧ kvs.map (·.2) = vs') (sm : (a == sysModules) = false) (r : VsRel c G φ vs vs') : VRel c G φ (.sd ks vs) (.ref a)
inductive VsRel (c : Cx) (G : Imm) (φ : List Loc) : List AVal → List Value → Prop
  | nil : VsRel c G φ [] []
  | cons {v : AVal} {v' : Value} {vs : List AVal} {vs' : List Value} (h : VRel c G φ v v') (t : VsRel c G φ vs vs') : VsRel c G φ (v :: vs) (v' :: vs')
end
noncomputable def listOf? (σ : St) : AVal → Option (List AVal)
  | .ref i => match σ[i]? with
    | some (.list vs) => some vs
    | _ => .none
  | .scr ns => some (ns.map .int)
  | _ => .none
noncomputable def instOf? (σ : St) : AVal → Option (List (Str × AVal))
  | .ref i => match σ[i]? with
    | some (.inst ats) => some ats
    | _ => .none
  | _ => .none
noncomputable def lim : Nat := 1000000
inductive Flw where
  | next | brk | cont | ret (v : AVal)
inductive PlainE : Expr → Prop
  | name {x p} : PlainE (.Name x p)
  | sub {a b p} : PlainE (.Subscript a b p)
  | attr {a x p} : PlainE (.Attribute a x p)
noncomputable def notStar : Expr → Bool
  | .Starred .. => false
  | _ => true
noncomputable def notSet : Expr → Bool
  | .Set .. => false
  | _ => true
noncomputable def notBi : AVal → Bool
  | .bi _ => false
  | _ => true
noncomputable abbrev Kinds := Str → Option NameKind
noncomputable def noSwap (kd : Kinds) : Expr → Expr → Bool
  | .Tuple ts _ _, .Tuple .. => ts.any fun
    | .Name x _ => kd x != some .local
    | _ => false
  | .List .., .Tuple .. => false
  | .Starred .., _ => false
  | _, _ => true
noncomputable def isComp : Expr → Bool
  | .ListComp .. | .SetComp .. | .DictComp .. => true
  | _ => false
noncomputable def putAt (x : Str) (v : AVal) : List (Str × AVal) → List (Str × AVal)
  | [] => [(x, v)]
  | (y, w) :: r => if y = x then (y, v) :: r else (y, w) :: putAt x v r
noncomputable def AIt.kd : AIt → Nat
  | .seq .. => 0
  | .rng .. => 1
  | .tup .. => 2
  | .chars .. => 3
  | .obj .. => 4
  | .dkeys .. => 5
noncomputable def genIt (it : AIt) : Bool := it.kd == 0 || it.kd == 4
inductive LoopT : Expr → AIt → Prop
  | name {x p it} : LoopT (.Name x p) it
  | tup {es k p it} (h : it.kd = 0) : LoopT (.Tuple es k p) it
noncomputable def Kinds.isVar (kd : Kinds) (x : Str) : Bool := match kd x with
  | some .local | some .cell | some .free => true
  | _ => false
structure PI where
  glob : Str → Option AVal
  fn : Str → Option (List Str × List Stmt × List (Str × NameKind))
  maker : Str → Option Str
  attrOk : Str → Bool
  init : List Str × List Stmt × List (Str × NameKind)
  frz : Str → Bool := fun _ => false
  clsNone : Str → Bool := fun _ => false
  callAttr : Str → Bool := fun _ => false
noncomputable def bindAll : List Str → List AVal → Vars
  | x :: xs, v :: vs => fun y => if y = x then some v else bindAll xs vs y
  | _, _ => fun _ => .none
noncomputable def relabelK (names : List (Str × NameKind)) (kd : Kinds) : Kinds := fun x =>
  (names.map fun (n, k) => if (k == .free && kd n == some .cell) then (n, NameKind.cell) else (n, k)).lookup x
noncomputable def compOk (scope : Scope) (kd : Kinds) (ρ : Vars) (x : Str) : Bool :=
  scope.kind == .function && scope.names.all (fun p => p.2 != .cell && (p.2 != .local || scope.names.lookup p.1 == some .local) && (p.2 != .free || ((kd p.1 == some .cell || kd p.1 == some .free) && (ρ p.1).isSome))) &&
    scope.names.lookup x == some .local
noncomputable def freeVars (kd : Kinds) (ρ : Vars) : Vars := fun y => match kd y with
  | some .cell | some .free => ρ y
  | _ => .none
noncomputable def freeNames (names : List (Str × NameKind)) : List Str := (names.filter fun p => p.2 == .free).map (·.1)
end Mini
namespace Mini
open PySem PySem.W PySem.W.X PyProof.Rows PySem.Calls
structure CxOk (c : Cx) : Prop where
  x : c.K.In c.B
  g : c.B.Ns mainGlobals c.mg
  b : c.B.Ns builtinsNs c.mb
  nolimit : c.B.NoLimit
noncomputable def Ext (φ φ' : List Loc) : Prop := ∀ (i : Nat) (l : Loc), φ[i]? = some l → ∃ l' : Loc, φ'[i]? = some l' ∧ l'.a = l.a ∧ l'.g = l.g
theorem Ext.refl (φ : List Loc) : Ext φ φ := fun _ l e => ⟨l, e, rfl, rfl⟩
theorem Ext.trans {φ₁ φ₂ φ₃ : List Loc} (x : Ext φ₁ φ₂) (y : Ext φ₂ φ₃) : Ext φ₁ φ₃ := fun i l e => by
  obtain ⟨l', e', h', g'⟩ := x i l e
  obtain ⟨l'', e'', h'', g''⟩ := y i l' e'
  exact ⟨l'', e'', h''.trans h', g''.trans g'⟩
theorem Ext.append (φ φ' : List Loc) : Ext φ (φ ++ φ') := fun i l e => by
  refine ⟨l, ?_, rfl, rfl⟩
  rw [List.getElem?_append_left (List.getElem?_eq_some_iff.mp e).1]; exact e
noncomputable def Imm.Sub (G G' : Imm) : Prop := ∀ a o, G a = some o → G' a = some o
theorem GFn.mono {G G' : Imm} {k : GB} {fd : FuncData} (hG : Imm.Sub G G') (h : GFn G k fd) : GFn G' k fd :=
  { h with code := let ⟨ca, oc, vs, t, e, g, r⟩ := h.code; ⟨ca, oc, vs, t, e, hG _ _ g, r⟩ }
theorem LFn.mono {G G' : Imm} {k : LB} {fd : FuncData} (hG : Imm.Sub G G') (h : LFn G k fd) : LFn G' k fd :=
  { h with code := let ⟨ca, oc, vs, t, e, g, r⟩ := h.code; ⟨ca, oc, vs, t, e, hG _ _ g, r⟩ }
theorem VRel.mono {c : Cx} {G G' : Imm} {φ φ' : List Loc} (hG : Imm.Sub G G') (hφ : Ext φ φ') {v : AVal} {v' : Value} (h : VRel c G φ v v') : VRel c G' φ' v v' :=
  VRel.rec (motive_1 := fun v v' _ => VRel c G' φ' v v') (motive_2 := fun v v' _ => VsRel c G' φ' v v') .none .bool .int .str .bytes (fun n e _ r => .tup n (hG _ _ e) r)
    (fun e => let ⟨l', e', h, _⟩ := hφ _ _ e; h ▸ .ref e') (fun e hc n hd r => .scr (hG _ _ e) hc n hd r) .fn .cls .bi .ty (fun t u v e => .rng t u v (hG _ _ e)) (fun l u hl hu e hc hd => .slc l u hl hu (hG _ _ e) hc hd)
    (fun e hd hf hx hg hc _ r => .gfn (hG _ _ e) hd (hf.mono hG) hx (fun p hp => Option.isSome_iff_exists.mpr ((Option.isSome_iff_exists.mp (hg p hp)).imp fun o ho => hG _ _ ho)) (fun i x v' h1 h2 => let ⟨ca, oc, q1, q2, q3⟩ := hc i x v' h1 h2; ⟨ca, oc, q1, hG _ _ q2, q3⟩) r)
    (fun e hd hf hx hg hc _ r => .lam (hG _ _ e) hd (hf.mono hG) hx (fun p hp => Option.isSome_iff_exists.mpr ((Option.isSome_iff_exists.mp (hg p hp)).imp fun o ho => hG _ _ ho)) (fun i x v' h1 h2 => let ⟨ca, oc, q1, q2, q3⟩ := hc i x v' h1 h2; ⟨ca, oc, q1, hG _ _ q2, q3⟩) r)
    (fun e hd sm _ r => .sd (hG _ _ e) hd sm r)
    .nil (fun _ _ h t => .cons h t) h
section
variable {c : Cx} {G : Imm} {φ : List Loc}
theorem VRel.noneE {motive : ∀ v', VRel c G φ .none v' → Prop} (none : motive .none .none) {v' : Value} (h : VRel c G φ .none v') : motive v' h := by cases h; exact none
theorem VRel.boolE {b : Bool} {motive : ∀ v', VRel c G φ (.bool b) v' → Prop} (bool : motive (.bool b) (.bool b)) {v' : Value} (h : VRel c G φ (.bool b) v') : motive v' h := by cases h; exact bool
theorem VRel.intE {i : Int} {motive : ∀ v', VRel c G φ (.int i) v' → Prop} (int : ∀ t, motive (.int i t) (.int i t)) {v' : Value} (h : VRel c G φ (.int i) v') : motive v' h := by cases h; exact int _
theorem VRel.strE {s : Str} {motive : ∀ v', VRel c G φ (.str s) v' → Prop} (str : ∀ t, motive (.str s t) (.str s t)) {v' : Value} (h : VRel c G φ (.str s) v') : motive v' h := by cases h; exact str _
theorem VRel.tupE {vs : List AVal} {motive : ∀ v', VRel c G φ (.tup vs) v' → Prop} (tup : ∀ {items : List Value} {a : Addr} (n : Nat) (e : G a = some { cls := .type "tuple", data := .seq items.toArray n }) (r : VsRel c G φ vs items), motive (.ref a) (.tup n e r)) {v' : Value} (h : VRel c G φ (.tup vs) v') : motive v' h := by cases h with | tup n e r => exact tup n e r
theorem VRel.refE {i : Nat} {motive : ∀ v', VRel c G φ (.ref i) v' → Prop} (ref : ∀ {l : Loc} (e : φ[i]? = some l), motive (.ref l.a) (.ref e)) {v' : Value} (h : VRel c G φ (.ref i) v') : motive v' h := by cases h with | ref e => exact ref e
theorem VRel.scrE {ns : List Int} {motive : ∀ v', VRel c G φ (.scr ns) v' → Prop} (scr : ∀ {items : List Value} {a : Addr} {o : Obj} (e : G a = some o) (hc : o.cls = .type "list") (n : Nat) (hd : o.data = .seq items.toArray n) (r : IntsAre items ns), motive (.ref a) (.scr e hc n hd r)) {v' : Value} (h : VRel c G φ (.scr ns) v') : motive v' h := by cases h with | scr e hc n hd r => exact scr e hc n hd r
theorem VRel.fnE {x : Str} {motive : ∀ v', VRel c G φ (.fn x) v' → Prop} (fn : ∀ {f : Fn} (e : c.fns x = some f), motive (.ref f.addr) (.fn e)) {v' : Value} (h : VRel c G φ (.fn x) v') : motive v' h := by cases h with | fn e => exact fn e
theorem VRel.clsE {motive : ∀ v', VRel c G φ .cls v' → Prop} (cls : motive (.ref c.C) .cls) {v' : Value} (h : VRel c G φ .cls v') : motive v' h := by cases h; exact cls
theorem VRel.biE {n : String} {motive : ∀ v', VRel c G φ (.bi n) v' → Prop} (bi : motive (.builtin n) (.bi n)) {v' : Value} (h : VRel c G φ (.bi n) v') : motive v' h := by cases h; exact bi
theorem VRel.tyE {n : String} {motive : ∀ v', VRel c G φ (.ty n) v' → Prop} (ty : motive (.type n) (.ty n)) {v' : Value} (h : VRel c G φ (.ty n) v') : motive v' h := by cases h; exact ty
theorem VRel.rngE {a b s : Int} {motive : ∀ v', VRel c G φ (.rng a b s) v' → Prop} (rng : ∀ {r : Addr} (t u v : Tok) (e : G r = some { cls := .type "range", data := .fields #[.int a t, .int b u, .int s v] }), motive (.ref r) (.rng t u v e)) {v' : Value} (h : VRel c G φ (.rng a b s) v') : motive v' h := by cases h with | rng t u v e => exact rng t u v e
theorem VsRel.nilE {motive : ∀ v', VsRel c G φ [] v' → Prop} (nil : motive [] .nil) {v' : List Value} (h : VsRel c G φ [] v') : motive v' h := by cases h; exact nil
theorem VsRel.consE {v : AVal} {vs : List AVal} {motive : ∀ v', VsRel c G φ (v :: vs) v' → Prop} (cons : ∀ {v' : Value} {vs' : List Value} (h : VRel c G φ v v') (t : VsRel c G φ vs vs'), motive (v' :: vs') (.cons h t)) {v' : List Value} (h : VsRel c G φ (v :: vs) v') : motive v' h := by cases h with | cons h t => exact cons h t
end
theorem VsRel.mono {c : Cx} {G G' : Imm} {φ φ' : List Loc} (hG : Imm.Sub G G') (hφ : Ext φ φ') : ∀ {v : List AVal} {v' : List Value}, VsRel c G φ v v' → VsRel c G' φ' v v' := fun {v} => by
  induction v with
  | nil => intro v' h; cases h using VsRel.nilE; exact .nil
  | cons x r ih => intro v' h; cases h using VsRel.consE with | cons h t => exact .cons (h.mono hG hφ) (ih t)
theorem VsRel.length {c : Cx} {G : Imm} {φ : List Loc} : ∀ {vs : List AVal} {vs' : List Value}, VsRel c G φ vs vs' → vs.length = vs'.length
  | _, _, .nil => rfl
  | _, _, .cons _ t => by simp [VsRel.length t]
theorem VsRel.get {c : Cx} {G : Imm} {φ : List Loc} : ∀ {vs : List AVal} {vs' : List Value}, VsRel c G φ vs vs' → ∀ {i : Nat} {v : AVal}, vs[i]? = some v → ∃ v', vs'[i]? = some v' ∧ VRel c G φ v v'
  | _, _, .nil, i, v, e => by simp at e
  | _, _, .cons h t, 0, v, e => by simp at e; subst e; exact ⟨_, rfl, h⟩
  | _, _, .cons h t, i + 1, v, e => by simp at e; simpa using VsRel.get t e
theorem VsRel.get_none {c : Cx} {G : Imm} {φ : List Loc} {vs : List AVal} {vs' : List Value} (r : VsRel c G φ vs vs') {i : Nat} (e : vs[i]? = none) : vs'[i]? = none := by
  rw [List.getElem?_eq_none_iff] at e ⊢; rw [← r.length]; exact e
theorem VsRel.append {c : Cx} {G : Imm} {φ : List Loc} : ∀ {a : List AVal} {a' : List Value} {b : List AVal} {b' : List Value}, VsRel c G φ a a' → VsRel c G φ b b' → VsRel c G φ (a ++ b) (a' ++ b')
  | _, _, _, _, .nil, y => y
  | _, _, _, _, .cons h t, y => .cons h (VsRel.append t y)
theorem VsRel.set {c : Cx} {G : Imm} {φ : List Loc} : ∀ {a : List AVal} {a' : List Value} {v : AVal} {v' : Value} (i : Nat), VsRel c G φ a a' → VRel c G φ v v' → VsRel c G φ (a.set i v) (a'.set i v')
  | _, _, _, _, _, .nil, _ => by simpa using VsRel.nil
  | _, _, _, _, 0, .cons h t, y => by simpa using VsRel.cons y t
  | _, _, _, _, i + 1, .cons h t, y => by simpa using VsRel.cons h (VsRel.set i t y)
theorem VsRel.ints {c : Cx} {G : Imm} {φ : List Loc} : ∀ {vs : List Value} {ns : List Int}, IntsAre vs ns → VsRel c G φ (ns.map .int) vs
  | _, _, .nil => .nil
  | _, _, .cons _ _ h => .cons (.int _ _) (VsRel.ints h)
structure GEnv (c : Cx) (G : Imm) (φ : List Loc) (k : GB) (ρ : Vars) (env : Env) (h : Heap) : Prop where
  kind : env.scope.kind = .function
  glob : env.globals = mainGlobals
  bi : env.builtins = builtinsNs
  nm : env.scope.names = k.names
  co : env.scope.isCoroutine = false
  nocell : ∀ p ∈ k.names, p.2 ≠ .cell
  ns : ∃ m, h.Ns env.locals m ∧ ∀ x v, k.names.lookup x = some .local → ρ x = some v → ∃ v', m x = some v' ∧ VRel c G φ v v'
  cell : ∀ x v, k.names.lookup x = some .free → ρ x = some v → ∃ a o v', env.cells.lookup x = some a ∧ G a = some o ∧ o.data = .cell (some v') ∧ VRel c G φ v v'
  cg : ∀ p ∈ env.cells, (G p.2).isSome
  nx : k.Names
theorem GEnv.mono {c : Cx} {G G' : Imm} {φ φ' : List Loc} {k : GB} {ρ : Vars} {env : Env} {h h' : Heap} (x : GEnv c G φ k ρ env h) (hG : Imm.Sub G G') (hφ : Ext φ φ') (hk : ∀ o, h.get? env.locals = some o → h'.get? env.locals = some o) : GEnv c G' φ' k ρ env h' where
  kind := x.kind
  glob := x.glob
  bi := x.bi
  nm := x.nm
  co := x.co
  nocell := x.nocell
  ns := by
    obtain ⟨m, hn, hv⟩ := x.ns
    obtain ⟨o, es, ep, ho, hr⟩ := hn
    exact ⟨m, ⟨o, es, ep, hk _ ho, hr⟩, fun y v h1 h2 => let ⟨v', e, r⟩ := hv y v h1 h2; ⟨v', e, r.mono hG hφ⟩⟩
  cell := fun y v h1 h2 => by
    obtain ⟨a, o, v', e, g, hd, r⟩ := x.cell y v h1 h2
    exact ⟨a, o, v', e, hG _ _ g, hd, r.mono hG hφ⟩
  cg := fun p hp => by
    obtain ⟨o, ho⟩ := Option.isSome_iff_exists.mp (x.cg p hp)
    rw [hG _ _ ho]; rfl
  nx := x.nx
inductive ItRaw (c : Cx) (G : Imm) (φ : List Loc) (h : Heap) : AIt → Value → List Addr → Prop
  | seq {v : AVal} {i : Nat} {I l : Addr} (hI : h.IsListIter I l i) (V : VRel c G φ v (.ref l)) : ItRaw c G φ h (.seq v i) (.ref I) [I]
  | obj {i : Nat} {l : Loc} (e : φ[i]? = some l) : ItRaw c G φ h (.obj i) (.ref l.a) []
theorem ItRaw.mono {c : Cx} {G G' : Imm} {φ φ' : List Loc} {h h' : Heap} {it : AIt} {it' : Value} {pr : List Addr} (x : ItRaw c G φ h it it' pr) (hG : Imm.Sub G G') (hφ : Ext φ φ') (hk : ∀ a ∈ pr, ∀ o, h.get? a = some o → h'.get? a = some o) : ItRaw c G' φ' h' it it' pr := by
  cases x with
  | seq hI V =>
    obtain ⟨o, ho, r⟩ := hI
    exact .seq ⟨o, hk _ (.head _) _ ho, r⟩ (V.mono hG hφ)
  | obj e =>
    obtain ⟨l', e', ha, _⟩ := hφ _ _ e
    rw [← ha]; exact .obj e'
structure FsOk (c : Cx) (fs : List Frame) : Prop where
  fin : ∀ A Φ s cd', Φ (.ret (.ok (.ret .none))) s → SegX (model c.prog c.w) A cd' (leafOf (.ok .next)) fs s Φ
  sp : splitAtGen fs = none
  gu : fs.any Frame.guarded = false
  hd : (marksOver fs (none, none)).1 = none
  fc : frameCount (fs.map Frame.where_) ≤ 2
  un : unitsOf (fs.map Frame.where_) ≤ 20
noncomputable def GSusp (c : Cx) (k : GB) (env : Env) (it' : Value) (gs : GenState) : Prop :=
  ∃ kk l0 cd p fs px lb, gs = .suspended kk l0 cd p fs false ∧ GLoop k lb ∧ FsOk c fs ∧
    ∀ A Φ s, SegX (model c.prog c.w) A (.forLoop (.Name k.x px) it' lb [] env) (denote table (.forLoop (.Name k.x px) it' lb [] env)) fs s Φ → SegX (model c.prog c.w) A cd (kk (.send .none)) fs s Φ
inductive ListO (c : Cx) (G : Imm) (φ : List Loc) (l : Loc) (vs : List AVal) (s : Shared) : Prop
  | mk (h1 : l.ps = []) (h2 : l.g = none) (items : List Value) (n : Nat) (e : s.heap.get? l.a = some { cls := .type "list", data := .seq items.toArray n }) (r : VsRel c G φ vs items)
inductive DictO {K : Type} [DecidableEq K] (c : Cx) (knd : KeyKind c.prog c.w K) (G : Imm) (φ : List Loc) (l : Loc) (kvs : List (K × AVal)) (s : Shared) : Prop
  | mk (h1 : l.ps = []) (h2 : l.g = none) (es : List (K × Value)) (e : s.heap.DictAt knd l.a es es.length) (hk : es.map (·.1) = kvs.map (·.1)) (r : VsRel c G φ (kvs.map (·.2)) (es.map (·.2))) (sm : (l.a == sysModules) = false)
noncomputable def AtsOk (c : Cx) (G : Imm) (φ : List Loc) (ats : List (Str × AVal)) (es : List DictEntry) : Prop :=
      ∀ x, match ats.lookup x with
        | some v => ∃ v', getL x es = some (some v') ∧ handedIn v' = true ∧ VRel c G φ v v'
        | .none => getL x es = some .none
inductive InstO (c : Cx) (G : Imm) (φ : List Loc) (l : Loc) (ats : List (Str × AVal)) (s : Shared) : Prop
  | mk (h1 : l.g = none) (d : Addr) (es : List DictEntry) (n : Nat) (h2 : l.ps = [d]) (h3 : s.heap.get? l.a = some (instObj c.C d)) (h4 : s.heap.get? d = some (dictOf es n)) (h5 : es.length = ats.length) (h6 : AtsOk c G φ ats es)
noncomputable def ORel (c : Cx) (G : Imm) (φ : List Loc) (l : Loc) (o : AObj) (s : Shared) : Prop :=
  match o with
  | .list vs => ListO c G φ l vs s
  | .inst ats => InstO c G φ l ats s
  | .dict kvs => DictO c (intKind c.prog c.w) G φ l kvs s
  | .sdict kvs => DictO c (strKind c.prog c.w) G φ l kvs s
  | .liter v i => l.ps = [] ∧ l.g = none ∧ ∃ la, VRel c G φ v (.ref la) ∧ s.heap.IsListIter l.a la i
  | .lend => l.ps = [] ∧ l.g = none ∧ ∃ o i, s.heap.get? l.a = some o ∧ o.cls = .type "list_iterator" ∧ o.data = .fields #[.none, i]
  | .gen k ρ st => ∃ g, l.g = some g ∧ s.heap.IsGen l.a g ∧ match st with
    | .done => l.ps = [] ∧ s.gens[g]? = some .finished
    | .run => l.ps = [] ∧ s.gens[g]? = some .running
    | .fresh => ∃ env body, s.gens[g]? = some (.fresh (.func body env)) ∧ l.ps = [env.locals] ∧ GBody k body ∧ GEnv c G φ k ρ env s.heap
    | .susp it => ∃ env it' pr gs, s.gens[g]? = some gs ∧ l.ps = env.locals :: pr ∧ GEnv c G φ k ρ env s.heap ∧ ItRaw c G φ s.heap it it' pr ∧ GSusp c k env it' gs
noncomputable def gfoot (φ : List Loc) : List Nat := φ.filterMap (·.g)
theorem mem_gfoot {φ : List Loc} {i : Nat} {l : Loc} {g : Nat} (h : φ[i]? = some l) (hg : l.g = some g) : g ∈ gfoot φ := List.mem_filterMap.mpr ⟨l, List.mem_of_getElem? h, hg⟩
noncomputable def TabOk (c : Cx) (G : Imm) (P : Addr) (h : Heap) : Prop := ∃ ps, h.get? P = some (tabObj ps) ∧ TriplesOk ps.toList ∧ ∀ pos cv, codeAmong pos ps.toList = some cv →
  ∃ ca oc vs t, cv = .ref ca ∧ G ca = some oc ∧ oc.data = .fields vs ∧ vs[1]? = some (.str (c.tq P) t)
theorem TabOk.mono {c : Cx} {G G' : Imm} {P : Addr} {h h' : Heap} (x : TabOk c G P h) (hG : Imm.Sub G G') (hk : ∀ o, h.get? P = some o → h'.get? P = some o) : TabOk c G' P h' :=
  let ⟨ps, e, t, r⟩ := x; ⟨ps, hk _ e, t, fun pos cv h1 => let ⟨ca, oc, vs, t, e, g, q⟩ := r pos cv h1; ⟨ca, oc, vs, t, e, hG _ _ g, q⟩⟩
structure Rel (c : Cx) (G : Imm) (φ : List Loc) (σ : St) (s : Shared) : Prop where
  gB : ∀ a o, c.B.get? a = some o → G a = some o
  gh : ∀ a o, G a = some o → s.heap.get? a = some o
  gf : ∀ a, a ∈ foot c φ → G a = none
  len : φ.length = σ.length
  nodup : (foot c φ).Nodup
  live : ∀ a ∈ foot c φ, (s.heap.get? a).isSome
  obj : ∀ (i : Nat) (l : Loc) (o : AObj), φ[i]? = some l → σ[i]? = some o → ORel c G φ l o s
  gn : (gfoot φ).Nodup
  bare : ∀ x ∈ s.gens, x.bare = true
  tab : ∀ q ∈ c.tabs, TabOk c G q.2 s.heap
structure Step (c : Cx) (own : List Addr) (G : Imm) (φ : List Loc) (s : Shared) (G' : Imm) (φ' : List Loc) (s' : Shared) : Prop where
  g : Imm.Sub G G'
  ext : Ext φ φ'
  foot : ∀ b ∈ foot c φ', b ∈ Mini.foot c φ ∨ s.heap.get? b = none
  dom : ∀ b o, G' b = some o → G b = some o ∨ s.heap.get? b = none
  frame : ∀ b o, b ∉ Mini.foot c φ → b ∉ own → s.heap.get? b = some o → s'.heap.get? b = some o
  keep : ∀ b, (s.heap.get? b).isSome → (s'.heap.get? b).isSome
  os : s'.os = s.os
  gsz : s.gens.size ≤ s'.gens.size
  gfr : ∀ k, k ∉ gfoot φ → k < s.gens.size → s'.gens[k]? = s.gens[k]?
  gft : ∀ k ∈ gfoot φ', k ∈ gfoot φ ∨ s.gens.size ≤ k
theorem Step.refl (c : Cx) (own : List Addr) (G : Imm) (φ : List Loc) (s : Shared) : Step c own G φ s G φ s :=
  ⟨fun _ _ e => e, .refl _, fun _ h => .inl h, fun _ _ e => .inl e, fun _ _ _ _ e => e, fun _ h => h, rfl, Nat.le_refl _, fun _ _ _ => rfl, fun _ h => .inl h⟩
theorem none_of_isSome {α : Type} {x : Option α} {P : Prop} (h : x.isSome = true) (e : x = none) : P := by rw [e] at h; cases h
theorem Step.trans {c : Cx} {own own' : List Addr} {G₁ G₂ G₃ : Imm} {φ₁ φ₂ φ₃ : List Loc} {s₁ s₂ s₃ : Shared} (x : Step c own G₁ φ₁ s₁ G₂ φ₂ s₂) (y : Step c own' G₂ φ₂ s₂ G₃ φ₃ s₃)
    (ho : ∀ b ∈ own', b ∈ own ∨ s₁.heap.get? b = none) : Step c own G₁ φ₁ s₁ G₃ φ₃ s₃ where
  g := fun a o e => y.g a o (x.g a o e)
  ext := x.ext.trans y.ext
  foot := fun b h => by
    rcases y.foot b h with h | h
    · exact x.foot b h
    · refine .inr ?_
      cases q : s₁.heap.get? b with
      | none => rfl
      | some o => exact none_of_isSome (x.keep b (by rw [q]; rfl)) h
  dom := fun b o e => by
    rcases y.dom b o e with h | h
    · exact x.dom b o h
    · refine .inr ?_
      cases q : s₁.heap.get? b with
      | none => rfl
      | some o => exact none_of_isSome (x.keep b (by rw [q]; rfl)) h
  frame := fun b o h1 h2 e => by
    refine y.frame b o (fun h => ?_) (fun h => ?_) (x.frame b o h1 h2 e)
    · rcases x.foot b h with h | h
      · exact h1 h
      · rw [h] at e; cases e
    · rcases ho b h with h | h
      · exact h2 h
      · rw [h] at e; cases e
  keep := fun b h => y.keep b (x.keep b h)
  os := y.os.trans x.os
  gsz := Nat.le_trans x.gsz y.gsz
  gfr := fun k h1 h2 => by
    refine (y.gfr k (fun q => ?_) (Nat.lt_of_lt_of_le h2 x.gsz)).trans (x.gfr k h1 h2)
    rcases x.gft k q with q | q
    · exact h1 q
    · lia
  gft := fun k h => by
    rcases y.gft k h with h | h
    · exact x.gft k h
    · exact .inr (Nat.le_trans x.gsz h)
theorem Step.trans' {c : Cx} {own : List Addr} {G₁ G₂ G₃ : Imm} {φ₁ φ₂ φ₃ : List Loc} {s₁ s₂ s₃ : Shared} (x : Step c own G₁ φ₁ s₁ G₂ φ₂ s₂) (y : Step c own G₂ φ₂ s₂ G₃ φ₃ s₃) : Step c own G₁ φ₁ s₁ G₃ φ₃ s₃ :=
  x.trans y fun _ h => .inl h
theorem Step.weaken {c : Cx} {own own' : List Addr} {G₁ G₂ : Imm} {φ₁ φ₂ : List Loc} {s₁ s₂ : Shared} (x : Step c own G₁ φ₁ s₁ G₂ φ₂ s₂) (h : ∀ b ∈ own, b ∈ own') : Step c own' G₁ φ₁ s₁ G₂ φ₂ s₂ :=
  { x with frame := fun b o h1 h2 e => x.frame b o h1 (fun q => h2 (h b q)) e }
noncomputable def OwnOk (c : Cx) (G : Imm) (φ : List Loc) (own : List Addr) (s : Shared) : Prop := ∀ a ∈ own, a ∉ foot c φ ∧ G a = none ∧ (s.heap.get? a).isSome
theorem OwnOk.step {c : Cx} {own own' : List Addr} {G₁ G₂ : Imm} {φ₁ φ₂ : List Loc} {s₁ s₂ : Shared} (h : OwnOk c G₁ φ₁ own s₁) (x : Step c own' G₁ φ₁ s₁ G₂ φ₂ s₂) : OwnOk c G₂ φ₂ own s₂ := fun a ha => by
  obtain ⟨h1, h2, h3⟩ := h a ha
  refine ⟨fun q => ?_, ?_, x.keep a h3⟩
  · rcases x.foot a q with q | q
    · exact h1 q
    · exact none_of_isSome h3 q
  · cases q : G₂ a with
    | none => rfl
    | some o =>
      rcases x.dom a o q with q | q
      · rw [h2] at q; cases q
      · exact none_of_isSome h3 q
theorem DictO.frame {K : Type} [DecidableEq K] {c : Cx} {knd : KeyKind c.prog c.w K} {G G' : Imm} {φ φ' : List Loc} {l : Loc} {kvs : List (K × AVal)} {s s' : Shared} (hG : Imm.Sub G G') (hφ : Ext φ φ') (h : DictO c knd G φ l kvs s)
    (k : ∀ o, s.heap.get? l.a = some o → s'.heap.get? l.a = some o) : DictO c knd G' φ' l kvs s' := by
  obtain ⟨h1, h2, es, e, hk, r, sm⟩ := h
  obtain ⟨o, en, ho, hr⟩ := e
  exact ⟨h1, h2, es, ⟨o, en, k o ho, hr⟩, hk, r.mono hG hφ, sm⟩
theorem ORel.frame {c : Cx} {G G' : Imm} {φ φ' : List Loc} {l : Loc} {o : AObj} {s s' : Shared} (hG : Imm.Sub G G') (hφ : Ext φ φ') (h : ORel c G φ l o s)
    (k : ∀ a o, a ∈ l.a :: l.ps → s.heap.get? a = some o → s'.heap.get? a = some o) (kg : ∀ g, l.g = some g → s'.gens[g]? = s.gens[g]?) : ORel c G' φ' l o s' := by
  cases o with
  | list vs =>
    obtain ⟨h1, h2, items, n, h3, h4⟩ := h
    exact ⟨h1, h2, items, n, k _ _ (.head _) h3, h4.mono hG hφ⟩
  | dict kvs => exact DictO.frame hG hφ h fun o e => k _ o (.head _) e
  | sdict kvs => exact DictO.frame hG hφ h fun o e => k _ o (.head _) e
  | inst ats =>
    obtain ⟨h1, d, es, n, h2, h3, h4, h5, h6⟩ := h
    refine ⟨h1, d, es, n, h2, k _ _ (.head _) h3, k _ _ (by rw [h2]; exact .tail _ (.head _)) h4, h5, fun x => ?_⟩
    have h7 := h6 x
    cases q : ats.lookup x with
    | none => rw [q] at h7; exact h7
    | some v => rw [q] at h7; obtain ⟨v', e1, e2, e3⟩ := h7; exact ⟨v', e1, e2, e3.mono hG hφ⟩
  | liter v i =>
    obtain ⟨h1, h2, la, h3, h4⟩ := h
    obtain ⟨o, ho, hr⟩ := h4
    exact ⟨h1, h2, la, h3.mono hG hφ, o, k _ _ (.head _) ho, hr⟩
  | lend =>
    obtain ⟨h1, h2, o, i, ho, hr⟩ := h
    exact ⟨h1, h2, o, i, k _ _ (.head _) ho, hr⟩
  | gen b ρ st =>
    obtain ⟨g, h1, h2, h3⟩ := h
    obtain ⟨oo, nm, qn, ho, hr⟩ := h2
    refine ⟨g, h1, ⟨oo, nm, qn, k _ _ (.head _) ho, hr⟩, ?_⟩
    have e := kg g h1
    cases st with
    | done => exact ⟨h3.1, e.trans h3.2⟩
    | run => exact ⟨h3.1, e.trans h3.2⟩
    | fresh =>
      obtain ⟨env, body, q1, q2, q3, q4⟩ := h3
      exact ⟨env, body, e.trans q1, q2, q3, q4.mono hG hφ fun o => k _ o (by rw [q2]; exact .tail _ (.head _))⟩
    | susp it =>
      obtain ⟨env, it', pr, gs, q1, q2, q3, q4, q5⟩ := h3
      exact ⟨env, it', pr, gs, e.trans q1, q2, q3.mono hG hφ (fun o => k _ o (by rw [q2]; exact .tail _ (.head _))), q4.mono hG hφ (fun a ha o => k _ o (by rw [q2]; exact .tail _ (.tail _ ha))), q5⟩
theorem mem_foot {c : Cx} {φ : List Loc} {i : Nat} {l : Loc} (h : φ[i]? = some l) {a : Addr} (ha : a ∈ l.a :: l.ps) : a ∈ foot c φ :=
  List.mem_append_right _ (List.mem_flatMap.mpr ⟨l, List.mem_of_getElem? h, ha⟩)
theorem mem_tab {c : Cx} {φ : List Loc} {q : Addr × Addr} (h : q ∈ c.tabs) : q.2 ∈ foot c φ := List.mem_append_left _ (List.mem_map_of_mem h)
theorem Rel.same {c : Cx} {G : Imm} {φ : List Loc} {σ : St} {s s' : Shared} (R : Rel c G φ σ s)
    (k : ∀ a o, (a ∈ foot c φ ∨ (G a).isSome) → s.heap.get? a = some o → s'.heap.get? a = some o) (hg : s'.gens = s.gens := by rfl) : Rel c G φ σ s' where
  gB := R.gB
  gh := fun a o e => k a o (.inr (by rw [e]; rfl)) (R.gh a o e)
  gf := R.gf
  len := R.len
  nodup := R.nodup
  live := fun a ha => by
    obtain ⟨o, ho⟩ := Option.isSome_iff_exists.mp (R.live a ha)
    rw [k a o (.inl ha) ho]; rfl
  obj := fun i l o h1 h2 => (R.obj i l o h1 h2).frame (fun _ _ e => e) (.refl _) (fun a o' ha e => k a o' (.inl (mem_foot h1 ha)) e) fun _ _ => by rw [hg]
  gn := R.gn
  bare := by rw [hg]; exact R.bare
  tab := fun q hq => (R.tab q hq).mono (fun _ _ e => e) fun o e => k _ o (.inl (mem_tab hq)) e
theorem Rel.keepB {c : Cx} {G : Imm} {φ : List Loc} {σ : St} {s : Shared} (R : Rel c G φ σ s) : ∀ b o, c.B.get? b = some o → s.heap.get? b = some o := fun b o e => R.gh b o (R.gB b o e)
theorem Rel.push {c : Cx} {G : Imm} {φ : List Loc} {σ : St} {s : Shared} (R : Rel c G φ σ s) (o : Obj) : Rel c G φ σ { s with heap := s.heap.push o } :=
  R.same fun _ _ _ e => Heap.get?_push_of_some _ e
theorem Rel.toks {c : Cx} {G : Imm} {φ : List Loc} {σ : St} {s : Shared} (R : Rel c G φ σ s) (t : Nat) : Rel c G φ σ { s with toks := t } := R.same fun _ _ _ e => e
theorem get?_size (h : Heap) : h.get? h.objs.size = none := by
  cases q : h.get? h.objs.size with
  | none => rfl
  | some o => exact absurd (Heap.lt_size q) (Nat.lt_irrefl _)
noncomputable def Imm.add (G : Imm) (a : Addr) (o : Obj) : Imm := fun b => if b = a then some o else G b
theorem Imm.add_self (G : Imm) (a : Addr) (o : Obj) : (G.add a o) a = some o := by simp [Imm.add]
theorem Rel.fresh_G {c : Cx} {G : Imm} {φ : List Loc} {σ : St} {s : Shared} (R : Rel c G φ σ s) {a : Addr} (h : s.heap.get? a = none) : G a = none := by
  cases q : G a with
  | none => rfl
  | some o => rw [R.gh a o q] at h; cases h
theorem Rel.fresh_foot {c : Cx} {G : Imm} {φ : List Loc} {σ : St} {s : Shared} (R : Rel c G φ σ s) {a : Addr} (h : s.heap.get? a = none) : a ∉ foot c φ := fun q => none_of_isSome (R.live a q) h
theorem Rel.pushG {c : Cx} {G : Imm} {φ : List Loc} {σ : St} {s : Shared} (R : Rel c G φ σ s) (o : Obj) (hf : o.isFreed = false) :
    Rel c (G.add s.heap.objs.size o) φ σ { s with heap := s.heap.push o } where
  gB := fun a o' e => by
    unfold Imm.add
    split
    · rename_i h; subst h; have q := R.gB _ _ e; rw [R.fresh_G (get?_size _)] at q; cases q
    · exact R.gB a o' e
  gh := fun a o' e => by
    unfold Imm.add at e
    split at e
    · rename_i h; subst h; cases e; exact Heap.get?_push_size _ hf
    · exact Heap.get?_push_of_some _ (R.gh a o' e)
  gf := fun a ha => by
    unfold Imm.add
    split
    · rename_i h; subst h; exact absurd ha (R.fresh_foot (get?_size _))
    · exact R.gf a ha
  len := R.len
  nodup := R.nodup
  live := (R.push o).live
  obj := fun i l o' h1 h2 => ((R.push o).obj i l o' h1 h2).frame (fun a x e => by
      unfold Imm.add
      split
      · rename_i h; subst h; rw [R.fresh_G (get?_size _)] at e; cases e
      · exact e) (.refl _) (fun _ _ _ e => e) fun _ _ => rfl
  gn := R.gn
  bare := R.bare
  tab := fun q hq => ((R.push o).tab q hq).mono (fun a x e => by
      unfold Imm.add
      split
      · rename_i h; subst h; rw [R.fresh_G (get?_size _)] at e; cases e
      · exact e) fun _ e => e
theorem Imm.sub_add {G : Imm} {a : Addr} {o : Obj} (h : G a = none) : Imm.Sub G (G.add a o) := fun b x e => by
  unfold Imm.add
  split
  · rename_i q; subst q; rw [h] at e; cases e
  · exact e
theorem step_pushG {c : Cx} {own : List Addr} {G : Imm} {φ : List Loc} {σ : St} {s : Shared} (R : Rel c G φ σ s) (o : Obj) : Step c own G φ s (G.add s.heap.objs.size o) φ { s with heap := s.heap.push o } where
  g := Imm.sub_add (R.fresh_G (get?_size _))
  ext := .refl _
  foot := fun _ h => .inl h
  dom := fun b o' e => by
    unfold Imm.add at e
    split at e
    · rename_i h; subst h; exact .inr (get?_size _)
    · exact .inl e
  frame := fun b o' _ _ e => Heap.get?_push_of_some _ e
  keep := fun b h => by obtain ⟨x, hx⟩ := Option.isSome_iff_exists.mp h; rw [Heap.get?_push_of_some _ hx]; rfl
  os := rfl
  gsz := Nat.le_refl _
  gfr := fun _ _ _ => rfl
  gft := fun _ h => .inl h
theorem step_push {c : Cx} {own : List Addr} {G : Imm} {φ : List Loc} {s : Shared} (o : Obj) : Step c own G φ s G φ { s with heap := s.heap.push o } where
  g := fun _ _ e => e
  ext := .refl _
  foot := fun _ h => .inl h
  dom := fun _ _ e => .inl e
  frame := fun b o' _ _ e => Heap.get?_push_of_some _ e
  keep := fun b h => by obtain ⟨x, hx⟩ := Option.isSome_iff_exists.mp h; rw [Heap.get?_push_of_some _ hx]; rfl
  os := rfl
  gsz := Nat.le_refl _
  gfr := fun _ _ _ => rfl
  gft := fun _ h => .inl h
theorem step_toks {c : Cx} {own : List Addr} {G : Imm} {φ : List Loc} {s : Shared} (t : Nat) : Step c own G φ s G φ { s with toks := t } := { Step.refl c own G φ s with }
theorem Rel.glt {c : Cx} {G : Imm} {φ : List Loc} {σ : St} {s : Shared} (R : Rel c G φ σ s) {k : Nat} (h : k ∈ gfoot φ) : k < s.gens.size := by
  obtain ⟨l, hl, hg⟩ := List.mem_filterMap.mp h
  obtain ⟨i, hi⟩ := List.getElem?_of_mem hl
  have hlt := (List.getElem?_eq_some_iff.mp hi).1
  rw [R.len] at hlt
  have q := R.obj i l σ[i] hi (List.getElem?_eq_getElem hlt)
  have lt : ∀ {x : GenState}, s.gens[k]? = some x → k < s.gens.size := fun e => (Array.getElem?_eq_some_iff.mp e).1
  cases ho : σ[i] with
  | list vs => rw [ho] at q; obtain ⟨_, h2, _⟩ := q; rw [h2] at hg; cases hg
  | dict vs => rw [ho] at q; obtain ⟨_, h2, _⟩ := q; rw [h2] at hg; cases hg
  | sdict vs => rw [ho] at q; obtain ⟨_, h2, _⟩ := q; rw [h2] at hg; cases hg
  | inst ats => rw [ho] at q; obtain ⟨h1, _⟩ := q; rw [h1] at hg; cases hg
  | liter v j => rw [ho] at q; rw [q.2.1] at hg; cases hg
  | lend => rw [ho] at q; rw [q.2.1] at hg; cases hg
  | gen b ρ st =>
    rw [ho] at q
    obtain ⟨g, e, _, q⟩ := q
    rw [hg] at e; cases e
    cases st with
    | done => exact lt q.2
    | run => exact lt q.2
    | fresh => obtain ⟨_, _, e, _⟩ := q; exact lt e
    | susp it => obtain ⟨_, _, _, _, e, _⟩ := q; exact lt e
theorem foot_append (c : Cx) (φ : List Loc) (l : Loc) : foot c (φ ++ [l]) = foot c φ ++ (l.a :: l.ps) := by simp [foot]
theorem Rel.add {c : Cx} {G : Imm} {φ : List Loc} {σ : St} {s s' : Shared} (R : Rel c G φ σ s) {l : Loc} {o : AObj}
    (k : ∀ a x, s.heap.get? a = some x → s'.heap.get? a = some x) (hn : ∀ a ∈ l.a :: l.ps, s.heap.get? a = none) (hd : (l.a :: l.ps).Nodup) (hl : ∀ a ∈ l.a :: l.ps, (s'.heap.get? a).isSome)
    (ho : ORel c G (φ ++ [l]) l o s') (hb : (∀ x ∈ s.gens, x.bare = true) → ∀ x ∈ s'.gens, x.bare = true := by exact fun h => h) (hg : ∀ k, k < s.gens.size → s'.gens[k]? = s.gens[k]? := by exact fun _ _ => rfl) (hln : ∀ g, l.g = some g → s.gens.size ≤ g := by exact fun _ h => nomatch h) : Rel c G (φ ++ [l]) (σ ++ [o]) s' where
  gB := R.gB
  gh := fun a x e => k a x (R.gh a x e)
  gf := fun a ha => by
    rw [foot_append] at ha
    rcases List.mem_append.mp ha with ha | ha
    · exact R.gf a ha
    · exact R.fresh_G (hn a ha)
  len := by simp [R.len]
  nodup := by
    rw [foot_append]
    refine List.nodup_append.mpr ⟨R.nodup, hd, fun a ha b hb e => ?_⟩
    subst e
    exact R.fresh_foot (hn a hb) ha
  live := fun a ha => by
    rw [foot_append] at ha
    rcases List.mem_append.mp ha with ha | ha
    · obtain ⟨x, hx⟩ := Option.isSome_iff_exists.mp (R.live a ha)
      rw [k a x hx]; rfl
    · exact hl a ha
  obj := fun i l' o' h1 h2 => by
    by_cases hi : i < φ.length
    · rw [List.getElem?_append_left hi] at h1
      rw [List.getElem?_append_left (by rw [← R.len]; exact hi)] at h2
      exact (R.obj i l' o' h1 h2).frame (fun _ _ e => e) (.append _ _) (fun a x _ e => k a x e) fun g hl => hg g (R.glt (mem_gfoot h1 hl))
    · have hi' := Nat.le_of_not_lt hi
      rw [List.getElem?_append_right hi'] at h1
      rw [List.getElem?_append_right (by rw [← R.len]; exact hi')] at h2
      rw [← R.len] at h2
      cases q : i - φ.length with
      | zero => rw [q] at h1 h2; simp at h1 h2; subst h1; subst h2; exact ho
      | succ j => rw [q] at h1; simp at h1
  gn := by
    unfold gfoot
    rw [List.filterMap_append]
    refine List.nodup_append.mpr ⟨R.gn, ?_, fun a ha b hb e => ?_⟩
    · cases q : l.g <;> simp [q]
    · subst e
      have h1 := R.glt ha
      simp only [List.filterMap_cons, List.filterMap_nil] at hb
      cases q : l.g with
      | none => rw [q] at hb; cases hb
      | some g =>
        rw [q] at hb
        cases List.mem_singleton.mp hb
        have := hln _ q
        lia
  bare := hb R.bare
  tab := fun q hq => (R.tab q hq).mono (fun _ _ e => e) fun o e => k _ o e
theorem step_add {c : Cx} {own : List Addr} {G : Imm} {φ : List Loc} {s s' : Shared} {l : Loc}
    (k : ∀ a x, s.heap.get? a = some x → s'.heap.get? a = some x) (hn : ∀ a ∈ l.a :: l.ps, s.heap.get? a = none) (os : s'.os = s.os) (hg : ∀ k, k < s.gens.size → s'.gens[k]? = s.gens[k]? := by exact fun _ _ => rfl) (hz : s.gens.size ≤ s'.gens.size := by exact Nat.le_refl _) (hln : ∀ g, l.g = some g → s.gens.size ≤ g := by exact fun _ h => nomatch h) : Step c own G φ s G (φ ++ [l]) s' where
  g := fun _ _ e => e
  ext := .append _ _
  foot := fun b h => by
    rw [foot_append] at h
    rcases List.mem_append.mp h with h | h
    · exact .inl h
    · exact .inr (hn b h)
  dom := fun _ _ e => .inl e
  frame := fun b o _ _ e => k b o e
  keep := fun b h => by obtain ⟨x, hx⟩ := Option.isSome_iff_exists.mp h; rw [k b x hx]; rfl
  os := os
  gsz := hz
  gfr := fun k _ h => hg k h
  gft := fun k h => by
    unfold gfoot at h
    rw [List.filterMap_append] at h
    rcases List.mem_append.mp h with h | h
    · exact .inl h
    · refine .inr ?_
      simp only [List.filterMap_cons, List.filterMap_nil] at h
      cases q : l.g with
      | none => rw [q] at h; cases h
      | some g =>
        rw [q] at h
        cases List.mem_singleton.mp h
        exact hln _ q
structure LocRel (c : Cx) (G : Imm) (φ : List Loc) (env : Env) (ρ : Vars) (h : Heap) : Prop where
  kind : env.scope.kind = .function
  glob : env.globals = mainGlobals
  bi : env.builtins = builtinsNs
  ns : ∃ m, h.Ns env.locals m ∧ ∀ x v, env.kindOf x = some .local → ρ x = some v → ∃ v', m x = some v' ∧ VRel c G φ v v'
  cell : ∀ x v, (env.kindOf x = some .cell ∨ env.kindOf x = some .free) → ρ x = some v → ∃ a v', env.cells.lookup x = some a ∧ h.IsCell a (some v') ∧ VRel c G φ v v'
theorem LocRel.keeps {c : Cx} {G G' : Imm} {φ φ' : List Loc} {env : Env} {ρ : Vars} {h h' : Heap} (R : LocRel c G φ env ρ h) (hG : Imm.Sub G G') (hφ : Ext φ φ')
    (k : ∀ a o, (a = env.locals ∨ ∃ x, env.cells.lookup x = some a) → h.get? a = some o → h'.get? a = some o) : LocRel c G' φ' env ρ h' where
  kind := R.kind
  glob := R.glob
  bi := R.bi
  ns := by
    obtain ⟨m, hn, hv⟩ := R.ns
    obtain ⟨o, es, ep, ho, hr⟩ := hn
    exact ⟨m, ⟨o, es, ep, k _ _ (.inl rfl) ho, hr⟩, fun x v h1 h2 => let ⟨v', e, r⟩ := hv x v h1 h2; ⟨v', e, r.mono hG hφ⟩⟩
  cell := fun x v h1 h2 => by
    obtain ⟨a, v', e, ⟨o, ho, hd⟩, r⟩ := R.cell x v h1 h2
    exact ⟨a, v', e, ⟨o, k _ _ (.inr ⟨x, e⟩) ho, hd⟩, r.mono hG hφ⟩
noncomputable def owns (env : Env) : List Addr := env.locals :: env.cells.filterMap fun p => env.cells.lookup p.1
theorem mem_of_look {x : Str} {a : Addr} : ∀ {l : List (Str × Addr)}, l.lookup x = some a → (x, a) ∈ l
  | [], h => by cases h
  | p :: r, h => by
    rw [List.lookup_cons] at h
    split at h
    · rename_i q; cases h; have := eq_of_beq q; subst this; exact .head _
    · exact .tail _ (mem_of_look h)
theorem mem_owns {env : Env} {a : Addr} (h : a = env.locals ∨ ∃ x, env.cells.lookup x = some a) : a ∈ owns env := by
  rcases h with rfl | ⟨x, h⟩
  · exact .head _
  · exact .tail _ (List.mem_filterMap.mpr ⟨(x, a), mem_of_look h, h⟩)
theorem of_owns {env : Env} {a : Addr} (h : a ∈ owns env) : a = env.locals ∨ ∃ x, env.cells.lookup x = some a := by
  rcases List.mem_cons.mp h with rfl | h
  · exact .inl rfl
  · obtain ⟨p, _, hp⟩ := List.mem_filterMap.mp h
    exact .inr ⟨p.1, hp⟩
structure Owns (c : Cx) (G : Imm) (φ : List Loc) (env : Env) (s : Shared) : Prop where
  loc : OwnOk c G φ [env.locals] s
  cel : ∀ x a, env.cells.lookup x = some a → a ∉ foot c φ ∧ (s.heap.get? a).isSome ∧ (env.kindOf x = some .cell → if c.frz x = true then (G a).isSome = true else G a = none)
theorem Owns.away {c : Cx} {G : Imm} {φ : List Loc} {env : Env} {s : Shared} (O : Owns c G φ env s) {a : Addr} (h : a ∈ owns env) : a ∉ foot c φ ∧ (s.heap.get? a).isSome := by
  rcases of_owns h with rfl | ⟨x, h⟩
  · exact ⟨(O.loc _ (.head _)).1, (O.loc _ (.head _)).2.2⟩
  · exact ⟨(O.cel x a h).1, (O.cel x a h).2.1⟩
theorem Owns.step {c : Cx} {own' : List Addr} {G₁ G₂ : Imm} {φ₁ φ₂ : List Loc} {env : Env} {s₁ s₂ : Shared} (h : Owns c G₁ φ₁ env s₁) (x : Step c own' G₁ φ₁ s₁ G₂ φ₂ s₂) : Owns c G₂ φ₂ env s₂ where
  loc := h.loc.step x
  cel := fun y a ha => by
    obtain ⟨h1, h3, h2⟩ := h.cel y a ha
    refine ⟨fun q => ?_, x.keep a h3, fun hk => ?_⟩
    · rcases x.foot a q with q | q
      · exact h1 q
      · exact none_of_isSome h3 q
    · have h2 := h2 hk
      split at h2
      · rename_i hf
        rw [if_pos hf]
        obtain ⟨o, ho⟩ := Option.isSome_iff_exists.mp h2
        rw [x.g _ _ ho]; rfl
      · rename_i hf
        rw [if_neg hf]
        cases q : G₂ a with
        | none => rfl
        | some o =>
          rcases x.dom a o q with q | q
          · rw [h2] at q; cases q
          · exact none_of_isSome h3 q
theorem LocRel.step {c : Cx} {G G' : Imm} {φ φ' : List Loc} {env : Env} {ρ : Vars} {s s' : Shared} (L : LocRel c G φ env ρ s.heap) (O : Owns c G φ env s) (S : Step c [] G φ s G' φ' s') : LocRel c G' φ' env ρ s'.heap :=
  L.keeps S.g S.ext fun a o ha e => S.frame a o (O.away (mem_owns ha)).1 (fun h => nomatch h) e
end Mini
namespace Mini
open PySem PySem.W PyProof PyProof.Rows PySem.Calls
structure GoodA (d : Nat) (A : Around) : Prop where
  hh : A.handled = none
  depth : A.depth + 4 * d < 900
  units : A.units + 40 * d < 9000
theorem GoodA.room {d : Nat} {A : Around} (h : GoodA d A) : A.depth < recursionLimit := by have := h.depth; unfold recursionLimit; lia
structure FnOk (c : Cx) (f : Fn) (ps : List Str) (body : List Stmt) (names : List (Str × NameKind)) : Prop where
  o : ∃ o, c.B.get? f.addr = some o ∧ o.data = .func f.fd
  code : c.B.CodeRec f.fd.code f.fd.qualname
  body : f.fd.body = .stmts body
  clo : f.fd.closure = []
  nm : f.fd.scope.names = names
  co : f.fd.scope.isCoroutine = false
  gen : f.fd.scope.isGenerator = false
  kind : f.fd.scope.kind = .function
  glob : f.fd.globals = mainGlobals
  bi : f.fd.builtins = builtinsNs
  bind : ∀ vs', vs'.length = ps.length → bindArgs f.fd ⟨vs', []⟩ = pure (ps.zip vs')
  nodup : ps.Nodup
  pk : ∀ x ∈ ps, names.lookup x = some .local ∨ names.lookup x = some .cell
  nofree : ∀ x, names.lookup x ≠ some .free
  cells : ∀ x, names.lookup x = some .cell → ∀ n, ((cellsFrom n names []).lookup x).isSome = true
structure MkOk (c : Cx) (f : Fn) (nm : Str) (q : Addr × Addr) : Prop where
  mem : q ∈ c.tabs
  code : f.fd.code = .ref q.1
  hd : CodeHd c.B q.1 q.2
  tq : c.tq q.2 = f.fd.qualname ++ ".<locals>." ++ nm
  bi : c.B.BuiltinsAt c.mg q.2
  ng : mainGlobals ≠ q.2
  own : ∀ L p, p ∈ cellsFrom L f.fd.scope.names [] → (cellsFrom L f.fd.scope.names []).lookup p.1 = some p.2 → f.fd.scope.names.lookup p.1 = some .cell
structure COk (c : Cx) (P : PI) : Prop where
  ok : CxOk c
  glob : ∀ x v, P.glob x = some v → ∃ v', (c.mg x = some v' ∨ (c.mg x = none ∧ c.mb x = some v')) ∧ ∀ G φ, VRel c G φ v v'
  ga : findIn c.K (.ref c.C) "__getattribute__" = some (some (.builtin "object.__getattribute__"))
  sa : findIn c.K (.ref c.C) "__setattr__" = some (some (.builtin "object.__setattr__"))
  po : plainOver c.K c.C = true
  hd : hasDictIn c.K c.C = true
  attr : ∀ x, P.attrOk x = true → takerIn c.K c.C x = some none ∧ ∃ a, findIn c.K (.ref c.C) x = some a ∧ noGet c.K a = true
  fn : ∀ x ps body names, P.fn x = some (ps, body, names) → ∃ f, c.fns x = some f ∧ FnOk c f ps body names
  maker : ∀ x nm f, P.maker x = some nm → c.fns x = some f → ∃ q, MkOk c f nm q
  fo : ∀ x f, c.fns x = some f → ∃ o fd, c.B.get? f.addr = some o ∧ o.data = .func fd
  mi : makesIn c.K c.C = true
  frz : c.frz = P.frz
  cn : ∀ x, P.clsNone x = true → findIn c.K (.ref c.C) x = some (some .none) ∧ specialIn c.K .none "__get__" = some none ∧ copiedNames.contains x = false
  ca : ∀ x, P.callAttr x = true → findIn c.K (.ref c.C) x = some none ∧ findIn c.K (.ref c.C) "__getattr__" = some none
  init : ∃ fi : Fn, findIn c.K (.ref c.C) "__init__" = some (some (.ref fi.addr)) ∧ typeIn c.K (.ref fi.addr) = some (.type "function") ∧ FnOk c fi P.init.1 P.init.2.1 P.init.2.2
noncomputable abbrev Md (c : Cx) : Model := model c.prog c.w
inductive GP (c : Cx) (G : Imm) (φ : List Loc) (s : Shared) (v : AVal) (σ' : St) (v' : Value) (s' : Shared) : Prop
  | mk (G' : Imm) (φ' : List Loc) (R : Rel c G' φ' σ' s') (V : VRel c G' φ' v v') (S : Step c [] G φ s G' φ' s')
inductive GPL (c : Cx) (G : Imm) (φ : List Loc) (s : Shared) (vs : List AVal) (σ' : St) (vs' : List Value) (s' : Shared) : Prop
  | mk (G' : Imm) (φ' : List Loc) (R : Rel c G' φ' σ' s') (V : VsRel c G' φ' vs vs') (S : Step c [] G φ s G' φ' s')
inductive GPB (c : Cx) (G : Imm) (φ : List Loc) (s : Shared) (b : Bool) (σ' : St) (b' : Bool) (s' : Shared) : Prop
  | mk (e : b' = b) (G' : Imm) (φ' : List Loc) (R : Rel c G' φ' σ' s') (S : Step c [] G φ s G' φ' s')
noncomputable def Gives (c : Cx) (A : Around) (G : Imm) (φ : List Loc) (s : Shared) (t : Sem Value) (v : AVal) (σ' : St) : Prop :=
  wpAny (Md c) A t (GP c G φ s v σ') (fun _ _ => False) s
noncomputable def GivesL (c : Cx) (A : Around) (G : Imm) (φ : List Loc) (s : Shared) (t : Sem (List Value)) (vs : List AVal) (σ' : St) : Prop :=
  wpAny (Md c) A t (GPL c G φ s vs σ') (fun _ _ => False) s
noncomputable def GivesB (c : Cx) (A : Around) (G : Imm) (φ : List Loc) (s : Shared) (t : Sem Bool) (b : Bool) (σ' : St) : Prop :=
  wpAny (Md c) A t (GPB c G φ s b σ') (fun _ _ => False) s
section
variable {c : Cx} {A : Around} {G G₁ : Imm} {φ φ₁ : List Loc} {s s₁ : Shared} {σ σ' : St} {v : AVal} {t : Sem Value}
theorem Gives.after (h : Gives c A G₁ φ₁ s₁ t v σ') (S : Step c [] G φ s G₁ φ₁ s₁) :
    wpAny (Md c) A t (GP c G φ s v σ') (fun _ _ => False) s₁ :=
  wpAny_mono h (fun _ _ ⟨G', φ', R, V, S'⟩ => ⟨G', φ', R, V, S.trans' S'⟩) fun _ _ e => e
theorem GivesB.after {t : Sem Bool} {b : Bool} (h : GivesB c A G₁ φ₁ s₁ t b σ') (S : Step c [] G φ s G₁ φ₁ s₁) :
    wpAny (Md c) A t (GPB c G φ s b σ') (fun _ _ => False) s₁ :=
  wpAny_mono h (fun _ _ ⟨e, G', φ', R, S'⟩ => ⟨e, G', φ', R, S.trans' S'⟩) fun _ _ e => e
theorem gives_here {v' : Value} (R : Rel c G φ σ s) (V : VRel c G φ v v') : GP c G φ s v σ v' s := ⟨G, φ, R, V, .refl ..⟩
theorem gives_toks {v' : Value} {n : Nat} (R : Rel c G φ σ s) (V : VRel c G φ v v') : GP c G φ s v σ v' { s with toks := n } :=
  ⟨G, φ, R.toks n, V, step_toks n⟩
theorem noE {α : Type} {t : Sem α} {Q : α → Shared → Prop} {E : Value → Shared → Prop} {M : Model} (h : wpAny M A t Q (fun _ _ => False) s) : wpAny M A t Q E s := wpAny_mono h (fun _ _ x => x) fun _ _ x => x.elim
end
structure Here (c : Cx) (P : PI) (d : Nat) (A : Around) (env : Env) (kd : Kinds) (ρ : Vars) (G : Imm) (φ : List Loc) (σ : St) (s : Shared) : Prop where
  ok : COk c P
  a : GoodA d A
  kd : kd = env.kindOf
  r : Rel c G φ σ s
  l : LocRel c G φ env ρ s.heap
  o : Owns c G φ env s
theorem Here.step {c : Cx} {P : PI} {d : Nat} {A : Around} {env : Env} {kd : Kinds} {ρ : Vars} {G G' : Imm} {φ φ' : List Loc} {σ σ' : St} {s s' : Shared} (H : Here c P d A env kd ρ G φ σ s)
    (R : Rel c G' φ' σ' s') (S : Step c [] G φ s G' φ' s') : Here c P d A env kd ρ G' φ' σ' s' :=
  ⟨H.ok, H.a, H.kd, R, H.l.step H.o S, H.o.step S⟩
structure EvE (P : PI) (d : Nat) (kd : Kinds) (ρ : Vars) (e : Expr) (σ : St) (v : AVal) (σ' : St) : Prop where
  intro ::
  run : ∀ {c A env G φ s}, Here c P d A env kd ρ G φ σ s → Gives c A G φ s (PySem.eval e env) v σ'
structure EvT (P : PI) (d : Nat) (kd : Kinds) (ρ : Vars) (e : Expr) (σ : St) (b : Bool) (σ' : St) : Prop where
  intro ::
  run : ∀ {c A env G φ s}, Here c P d A env kd ρ G φ σ s → GivesB c A G φ s (isTrue e env (PySem.eval e env)) b σ'
inductive EvEs (P : PI) (d : Nat) (kd : Kinds) (ρ : Vars) : List Expr → St → List AVal → St → Prop
  | nil {σ : St} : EvEs P d kd ρ [] σ [] σ
  | cons {e : Expr} {es : List Expr} {v : AVal} {vs : List AVal} {σ σ₁ σ₂ : St} (h0 : notStar e = true) (h1 : EvE P d kd ρ e σ v σ₁) (h2 : EvEs P d kd ρ es σ₁ vs σ₂) : EvEs P d kd ρ (e :: es) σ (v :: vs) σ₂
inductive EvTs (P : PI) (d : Nat) (kd : Kinds) (ρ : Vars) : BoolOp → List Expr → St → Bool → St → Prop
  | nil {op : BoolOp} {σ : St} : EvTs P d kd ρ op [] σ (op == .And) σ
  | andF {e : Expr} {es : List Expr} {σ σ₁ : St} (h1 : EvT P d kd ρ e σ false σ₁) : EvTs P d kd ρ .And (e :: es) σ false σ₁
  | andT {e : Expr} {es : List Expr} {σ σ₁ σ₂ : St} {z : Bool} (h1 : EvT P d kd ρ e σ true σ₁) (h2 : EvTs P d kd ρ .And es σ₁ z σ₂) : EvTs P d kd ρ .And (e :: es) σ z σ₂
  | orT {e : Expr} {es : List Expr} {σ σ₁ : St} (h1 : EvT P d kd ρ e σ true σ₁) : EvTs P d kd ρ .Or (e :: es) σ true σ₁
  | orF {e : Expr} {es : List Expr} {σ σ₁ σ₂ : St} {z : Bool} (h1 : EvT P d kd ρ e σ false σ₁) (h2 : EvTs P d kd ρ .Or es σ₁ z σ₂) : EvTs P d kd ρ .Or (e :: es) σ z σ₂
structure BinR (op : Operator) (a b : AVal) (σ : St) (v : AVal) (σ' : St) : Prop where
  intro ::
  run : ∀ {c A G φ s a' b'}, Rel c G φ σ s → VRel c G φ a a' → VRel c G φ b b' → Gives c A G φ s (binaryOp op a' b') v σ'
structure CmpR (op : CmpOp) (a b : AVal) (σ : St) (z : Bool) : Prop where
  intro ::
  run : ∀ {c A d G φ s a' b'} {Q : Value → Shared → Prop} {E : Value → Shared → Prop}, GoodA d A → Rel c G φ σ s → VRel c G φ a a' → VRel c G φ b b' →
  (∀ s', Rel c G φ σ s' → Step c [] G φ s G φ s' → Q (.bool z) s') → wpAny (Md c) A (compareOp op a' b') Q E s
structure ItemR (σ : St) (a b r : AVal) : Prop where
  intro ::
  run : ∀ {c A G φ s a' b' x i} {Q : Value → Shared → Prop} {E : Value → Shared → Prop}, Rel c G φ σ s → VRel c G φ a a' → VRel c G φ b b' →
  (∀ v' s', Rel c G φ σ s' → Step c [] G φ s G φ s' → VRel c G φ r v' → Q v' s') → wpAny (Md c) A (subscriptTail x i a' b') Q E s
section
variable {c : Cx} {P : PI} {n d : Nat} {A : Around} {env : Env} {kd : Kinds} {ρ : Vars} {G : Imm} {φ : List Loc} {σ σ' : St} {s : Shared} {v : AVal}
inductive LstV (c : Cx) (G : Imm) (φ : List Loc) (s : Shared) (vs : List AVal) (v' : Value) : Prop
  | mk (a : Addr) (o : Obj) (items : List Value) (n : Nat) (e : v' = .ref a) (g : s.heap.get? a = some o) (hc : o.cls = .type "list") (hd : o.data = .seq (List.toArray items) n) (r : VsRel c G φ vs items)
theorem Rel.isList {v : AVal} {v' : Value} {vs : List AVal} (R : Rel c G φ σ s) (V : VRel c G φ v v') (h : listOf? σ v = some vs) :
    LstV c G φ s vs v' := by
  cases v with
  | ref i =>
    unfold listOf? at h
    simp only at h
    split at h
    · rename_i vs' e
      cases h
      cases V using VRel.refE with
      | ref hl =>
        obtain ⟨_, _, items, n, h3, h4⟩ := R.obj _ _ _ hl e
        exact ⟨_, _, items, n, rfl, h3, rfl, rfl, h4⟩
    · cases h
  | scr ns =>
    cases h
    cases V using VRel.scrE with
    | scr e hc n hd r => exact ⟨_, _, _, n, rfl, R.gh _ _ e, hc, hd, VsRel.ints r⟩
  | _ => cases h
theorem lim_le {n : Nat} (h : n ≤ lim) : n ≤ sizeLine := by rw [sizeLine_eq]; unfold lim at h; lia
theorem Rel.newList {vs : List AVal} {items : List Value} (R : Rel c G φ σ s) (V : VsRel c G φ vs items) :
    GP c G φ s (.ref σ.length) (σ ++ [.list vs]) (.ref s.heap.objs.size) { s with heap := s.heap.push { cls := .type "list", data := .seq items.toArray } } := by
  have hn : ∀ a ∈ (⟨s.heap.objs.size, [], none⟩ : Loc).a :: (⟨s.heap.objs.size, [], none⟩ : Loc).ps, s.heap.get? a = none := fun a ha => by
    rcases List.mem_cons.mp ha with rfl | ha
    · exact get?_size _
    · cases ha
  refine ⟨G, φ ++ [⟨s.heap.objs.size, [], none⟩], R.add (fun a x e => Heap.get?_push_of_some _ e) hn (by simp) (fun a ha => ?_) ⟨rfl, rfl, items, 0, Heap.get?_push_size _ rfl, V.mono (fun _ _ e => e) (.append _ _)⟩, ?_, step_add (fun a x e => Heap.get?_push_of_some _ e) hn rfl⟩
  · rcases List.mem_cons.mp ha with rfl | ha
    · rw [Heap.get?_push_size _ rfl]; rfl
    · cases ha
  · refine VRel.ref (l := ⟨s.heap.objs.size, [], none⟩) ?_
    rw [← R.len]; simp
end
theorem flat_inj {α β : Type} (f : α → List β) : ∀ {l : List α} {i j : Nat} {x y : α} {a : β}, (l.flatMap f).Nodup → l[i]? = some x → l[j]? = some y → a ∈ f x → a ∈ f y → i = j
  | [], _, _, _, _, _, _, h, _, _, _ => by simp at h
  | z :: r, i, j, x, y, a, hd, hx, hy, ax, ay => by
    rw [List.flatMap_cons] at hd
    obtain ⟨_, h2, h3⟩ := List.nodup_append.mp hd
    cases i with
    | zero =>
      cases j with
      | zero => rfl
      | succ j =>
        simp at hx hy
        subst hx
        exact absurd rfl (h3 a ax a (List.mem_flatMap.mpr ⟨y, List.mem_of_getElem? hy, ay⟩))
    | succ i =>
      cases j with
      | zero =>
        simp at hx hy
        subst hy
        exact absurd rfl (h3 a ay a (List.mem_flatMap.mpr ⟨x, List.mem_of_getElem? hx, ax⟩))
      | succ j =>
        simp at hx hy
        rw [flat_inj f h2 hx hy ax ay]
section
variable {c : Cx} {P : PI} {n d : Nat} {A : Around} {env : Env} {kd : Kinds} {ρ : Vars} {G : Imm} {φ : List Loc} {σ σ' : St} {s : Shared} {v : AVal}
theorem Rel.loc_inj {i j : Nat} {l l' : Loc} {a : Addr} (R : Rel c G φ σ s) (h : φ[i]? = some l) (h' : φ[j]? = some l') (ha : a ∈ l.a :: l.ps) (ha' : a ∈ l'.a :: l'.ps) : i = j :=
  flat_inj (fun l : Loc => l.a :: l.ps) (List.nodup_append.mp R.nodup).2.1 h h' ha ha'
end
noncomputable def nmOk (x : Str) : Bool := !(x == ("__debug__" : Str) || x == ("__classdict__" : Str))
theorem nmOk_of {x : Str} (h : nmOk x = true) : (x == ("__debug__" : Str)) = false ∧ (x == ("__classdict__" : Str)) = false := by
  unfold nmOk at h
  cases q1 : (x == ("__debug__" : Str)) <;> cases q2 : (x == ("__classdict__" : Str)) <;> simp_all
section
variable {P : PI} {d : Nat} {kd : Kinds} {ρ ρ₁ ρ₂ ρ₃ ρ' : Vars} {σ σ₁ σ₂ σ₃ σ' : St} {v a b : AVal} {p : Pos}
theorem e_int {i : Int} {k} : EvE P d kd ρ (.Constant (.int i) k p) σ (.int i) σ := .intro fun H => wpAny_Constant_int (gives_toks H.r (.int _ _))
theorem e_str {s : Str} {k} : EvE P d kd ρ (.Constant (.str s) k p) σ (.str s) σ := .intro fun H => wpAny_Constant_str (gives_toks H.r (.str _ _))
theorem e_none {k} : EvE P d kd ρ (.Constant .none k p) σ .none σ := .intro fun H => wpAny_Constant_none (gives_here H.r .none)
theorem e_var {x : Str} (h1 : (nmOk x && Kinds.isVar kd x) = true) (h : ρ x = some v) : EvE P d kd ρ (.Name x p) σ v σ := .intro fun {c A env G φ s} H => by
  rw [Bool.and_eq_true] at h1
  obtain ⟨hx, hx'⟩ := nmOk_of h1.1
  refine wpAny_Name ?_ hx
  have hv := h1.2
  unfold Kinds.isVar at hv
  rw [H.kd] at hv
  split at hv
  · rename_i hk
    obtain ⟨m, hn, hv⟩ := H.l.ns
    obtain ⟨v', e, V⟩ := hv x v hk h
    exact wpAny_loadName_local H.l.kind hk hn e (gives_here H.r V)
  · rename_i hk
    obtain ⟨ca, v', e, hc, V⟩ := H.l.cell x v (.inl hk) h
    exact wpAny_loadName_cell H.l.kind hk e hc (gives_here H.r V)
  · rename_i hk
    obtain ⟨ca, v', e, hc, V⟩ := H.l.cell x v (.inr hk) h
    exact wpAny_loadName_free H.l.kind hk e hc (gives_here H.r V) hx'
  · (cases hv)
theorem e_glob {x : Str} (h1 : (nmOk x && (kd x == some .globalImplicit)) = true) (h : P.glob x = some v) : EvE P d kd ρ (.Name x p) σ v σ := .intro fun {c A env G φ s} H => by
  rw [Bool.and_eq_true] at h1
  obtain ⟨hx, hx'⟩ := nmOk_of h1.1
  have hk := eq_of_beq h1.2
  rw [H.kd] at hk
  refine wpAny_Name ?_ hx
  obtain ⟨v', hv, V⟩ := H.ok.glob x v h
  have hg := H.ok.ok.g.keeps H.r.keepB
  have hb := H.ok.ok.b.keeps H.r.keepB
  have hbk : env.blockKind = .function := by unfold Env.blockKind; rw [H.l.kind]; rfl
  have han : env.scope.kind.isAnnotationScope = false := by rw [H.l.kind]; rfl
  unfold loadName
  rw [han]
  simp only [Bool.false_and, Bool.false_eq_true, if_false, hbk, hk]
  unfold loadGlobal
  rw [H.l.glob, H.l.bi]
  refine wpAny_bind (wpAny_nsGet hg ?_)
  rcases hv with hv | ⟨hv, hv'⟩
  · rw [hv]; exact wpAny_pure (gives_here H.r (V _ _))
  · rw [hv]
    refine wpAny_bind (wpAny_nsGet hb ?_)
    rw [hv']; exact wpAny_pure (gives_here H.r (V _ _))
theorem e_binop {l r : Expr} {op : Operator} (h1 : EvE P d kd ρ l σ a σ₁) (h2 : EvE P d kd ρ r σ₁ b σ₂) (h3 : BinR op a b σ₂ v σ') : EvE P d kd ρ (.BinOp l op r p) σ v σ' := .intro fun H =>
  wpAny_BinOp (wpAny_mono (h1.run H) (fun a' s₁ ⟨G₁, φ₁, R₁, V₁, S₁⟩ => wpAny_mono (h2.run (H.step R₁ S₁)) (fun b' s₂ ⟨G₂, φ₂, R₂, V₂, S₂⟩ => (Gives.after (h3.run R₂ (V₁.mono S₂.g S₂.ext) V₂) (S₁.trans' S₂))) fun _ _ e => e) fun _ _ e => e)
theorem bo_sub {a b : Int} : BinR .Sub (.int a) (.int b) σ (.int (a - b)) σ := .intro fun R Va Vb => by (cases Va using VRel.intE); (cases Vb using VRel.intE); exact PySem.P.sub_int (gives_toks R (.int _ _))
theorem bo_mod {a b : Int} (h : b ≠ 0) : BinR .Mod (.int a) (.int b) σ (.int (a.fmod b)) σ := .intro fun R Va Vb => by (cases Va using VRel.intE); (cases Vb using VRel.intE); exact mod_int' h (gives_toks R (.int _ _))
theorem bo_str {s t : Str} (h : s.length + t.length ≤ lim) : BinR .Add (.str s) (.str t) σ (.str (s ++ t)) σ := .intro fun R Va Vb => by
  (cases Va using VRel.strE); (cases Vb using VRel.strE); exact add_str (fun t' tk => gives_toks R (.str _ _)) (lim_le h)
theorem bo_list {v w : AVal} {xs ys : List AVal} (h1 : listOf? σ v = some xs) (h2 : listOf? σ w = some ys) (h : xs.length + ys.length ≤ lim) : BinR .Add v w σ (.ref σ.length) (σ ++ [.list (xs ++ ys)]) := .intro fun {c A G φ s a' b'} R Va Vb => by
  obtain ⟨la, oa, ia, na, rfl, ga, ca, da, ra⟩ := R.isList Va h1
  obtain ⟨lb, ob, ib, nb, rfl, gb, cb, db, rb⟩ := R.isList Vb h2
  obtain ⟨oac, oad, oadt, oas⟩ := oa
  obtain ⟨obc, obd, obdt, obs⟩ := ob
  dsimp only at ca da cb db
  subst ca da cb db
  have hlen : ia.length + ib.length ≤ sizeLine := lim_le (by rw [← ra.length, ← rb.length]; exact h)
  refine concat_meets ⟨_, ga, rfl⟩ ⟨_, gb, rfl⟩ noFill_list_add seq_list_add PySem.F.slot_list_add PySem.F.entry_list_add (PySem.F.args_list_add_2 _ _) (list_addW la lb ia.toArray ib.toArray na nb oad obd oas obs (by simpa using hlen)) ⟨ga, gb, ?_⟩
  rw [show ia.toArray ++ ib.toArray = (ia ++ ib).toArray by simp]
  exact R.newList (ra.append rb)
theorem GoodA.eq {d : Nat} {A : Around} (h : GoodA d A) : A.units + 64 < cLine := by have := h.units; unfold cLine; lia
theorem e_cmp {l r : Expr} {op : CmpOp} {z : Bool} (h0 : behindInMarks op r = false) (h1 : EvE P d kd ρ l σ a σ₁) (h2 : EvE P d kd ρ r σ₁ b σ₂) (h3 : CmpR op a b σ₂ z) : EvE P d kd ρ (.Compare l [op] [r] p) σ (.bool z) σ₂ := .intro fun H =>
  wpAny_Compare1 (wpAny_mono (h1.run H) (fun a' s₁ ⟨G₁, φ₁, R₁, V₁, S₁⟩ => wpAny_mono (h2.run (H.step R₁ S₁)) (fun b' s₂ ⟨G₂, φ₂, R₂, V₂, S₂⟩ => h3.run H.a R₂ (V₁.mono S₂.g S₂.ext) V₂ fun s' R' S' => ⟨G₂, φ₂, R', .bool _, (S₁.trans' S₂).trans' S'⟩) fun _ _ e => e) fun _ _ e => e) h0
theorem t_cmp {l r : Expr} {op : CmpOp} {z : Bool} (h0 : behindInMarks op r = false) (h1 : EvE P d kd ρ l σ a σ₁) (h2 : EvE P d kd ρ r σ₁ b σ₂) (h3 : CmpR op a b σ₂ z) : EvT P d kd ρ (.Compare l [op] [r] p) σ z σ₂ := .intro fun H =>
  wpAny_isTrue_Compare1 (wpAny_mono (h1.run H) (fun a' s₁ ⟨G₁, φ₁, R₁, V₁, S₁⟩ => wpAny_mono (h2.run (H.step R₁ S₁)) (fun b' s₂ ⟨G₂, φ₂, R₂, V₂, S₂⟩ => h3.run H.a R₂ (V₁.mono S₂.g S₂.ext) V₂ fun s' R' S' => wpAny_truthy_bool ⟨rfl, G₂, φ₂, R', (S₁.trans' S₂).trans' S'⟩) fun _ _ e => e) fun _ _ e => e) h0
section
variable {x y : Int} {s t : Str} {q : Bool}
theorem c_eq (h : (x == y) = q) : CmpR .Eq (.int x) (.int y) σ q := .intro fun _ R Va Vb k => by subst h; (cases Va using VRel.intE); (cases Vb using VRel.intE); exact PySem.P.eq_int (k _ R (.refl ..))
theorem c_ne (h : (x != y) = q) : CmpR .NotEq (.int x) (.int y) σ q := .intro fun _ R Va Vb k => by subst h; (cases Va using VRel.intE); (cases Vb using VRel.intE); exact PyProof.Rows.ne_int (k _ R (.refl ..))
theorem c_lt (h : decide (x < y) = q) : CmpR .Lt (.int x) (.int y) σ q := .intro fun _ R Va Vb k => by subst h; (cases Va using VRel.intE); (cases Vb using VRel.intE); exact PySem.P.lt_int (k _ R (.refl ..))
theorem c_seq (h : (s == t) = q) : CmpR .Eq (.str s) (.str t) σ q := .intro fun _ R Va Vb k => by subst h; (cases Va using VRel.strE); (cases Vb using VRel.strE); exact PyProof.Rows.eq_str (k _ R (.refl ..))
theorem c_isNN : CmpR .Is .none .none σ true := .intro fun _ R Va Vb k => by (cases Va using VRel.noneE); (cases Vb using VRel.noneE); exact wpAny_is_self rfl (k _ R (.refl ..))
end
theorem ints_of {c : Cx} {G : Imm} {φ : List Loc} : ∀ {xs : List Int} {items : List Value}, VsRel c G φ (xs.map .int) items → IntsAre items xs
  | [], _, h => by cases h; exact .nil
  | x :: xs, _, h => by
    cases h with
    | cons hv ht => (cases hv using VRel.intE); exact .cons x _ (ints_of ht)
theorem c_leq {xs ys : List Int} {q : Bool} (h1 : listOf? σ a = some (xs.map .int)) (h2 : listOf? σ b = some (ys.map .int)) (h : decide (xs = ys) = q) : CmpR .Eq a b σ q := .intro fun ha R Va Vb k => by
  subst h
  obtain ⟨aa, oa, ia, na, rfl, ga, ca, da, ra⟩ := R.isList Va h1
  obtain ⟨ab, ob, ib, nb, rfl, gb, cb, db, rb⟩ := R.isList Vb h2
  exact eq_intsK ⟨_, ga, ca, _, da⟩ (ints_of ra) ⟨_, gb, cb, _, db⟩ (ints_of rb) ha.eq (k _ R (.refl ..))
theorem c_lne {xs ys : List Int} {q : Bool} (h1 : listOf? σ a = some (xs.map .int)) (h2 : listOf? σ b = some (ys.map .int)) (h : (!decide (xs = ys)) = q) : CmpR .NotEq a b σ q := .intro fun ha R Va Vb k => by
  subst h
  obtain ⟨aa, oa, ia, na, rfl, ga, ca, da, ra⟩ := R.isList Va h1
  obtain ⟨ab, ob, ib, nb, rfl, gb, cb, db, rb⟩ := R.isList Vb h2
  exact ne_intsK ⟨_, ga, ca, _, da⟩ (ints_of ra) ⟨_, gb, cb, _, db⟩ (ints_of rb) ha.eq (k _ R (.refl ..))
end
end Mini
namespace Mini
open PySem PySem.W PyProof PyProof.Rows PySem.Calls
section
variable {P : PI} {d : Nat} {kd : Kinds} {ρ ρ₁ ρ₂ ρ₃ ρ' : Vars} {σ σ₁ σ₂ σ₃ σ' : St} {v a b : AVal} {p : Pos}
theorem e_ifT {t x y : Expr} (h1 : EvT P d kd ρ t σ true σ₁) (h2 : EvE P d kd ρ x σ₁ v σ') : EvE P d kd ρ (.IfExp t x y p) σ v σ' := .intro fun H =>
  wpAny_IfExp (wpAny_mono (h1.run H) (fun z' s₁ ⟨e, G₁, φ₁, R₁, S₁⟩ => by subst e; exact Gives.after (h2.run (H.step R₁ S₁)) S₁) fun _ _ e => e)
theorem e_ifF {t x y : Expr} (h1 : EvT P d kd ρ t σ false σ₁) (h2 : EvE P d kd ρ y σ₁ v σ') : EvE P d kd ρ (.IfExp t x y p) σ v σ' := .intro fun H =>
  wpAny_IfExp (wpAny_mono (h1.run H) (fun z' s₁ ⟨e, G₁, φ₁, R₁, S₁⟩ => by subst e; exact Gives.after (h2.run (H.step R₁ S₁)) S₁) fun _ _ e => e)
theorem starEach_cons {env : Env} {e : Expr} {es : List Expr} (h : notStar e = true) : starEach (e :: es) env = (false, PySem.eval e env) :: starEach es env := by
  cases e <;> first | rfl | cases h
theorem es_nil : EvEs P d kd ρ [] σ [] σ := .nil
theorem es_cons {e : Expr} {es : List Expr} {vs : List AVal} (h0 : notStar e = true) (h1 : EvE P d kd ρ e σ v σ₁) (h2 : EvEs P d kd ρ es σ₁ vs σ₂) : EvEs P d kd ρ (e :: es) σ (v :: vs) σ₂ := .cons h0 h1 h2
theorem EvEs.run {es : List Expr} {vs : List AVal} (h : EvEs P d kd ρ es σ vs σ') : ∀ {c A env G φ s} (pos : Pos), Here c P d A env kd ρ G φ σ s → GivesL c A G φ s (spliced (backTo pos (starEach es env))) vs σ' := by
  induction h with
  | nil => intro c A env G φ s pos H; exact wpAny_items_nil ⟨G, φ, H.r, .nil, .refl ..⟩
  | cons h0 h1 h2 ih =>
    intro c A env G φ s pos H
    refine wpAny_items_cons (wpAny_mono (h1.run H) (fun v' s₁ ⟨G₁, φ₁, R₁, V₁, S₁⟩ => wpAny_mono (ih pos (H.step R₁ S₁)) (fun vs'' s₂ ⟨G₂, φ₂, R₂, V₂, S₂⟩ => ?_) fun _ _ e => e) fun _ _ e => e) (starEach_cons h0)
    exact ⟨G₂, φ₂, R₂, .cons (V₁.mono S₂.g S₂.ext) V₂, S₁.trans' S₂⟩
theorem e_list {es : List Expr} {vs : List AVal} (h1 : EvEs P d kd ρ es σ vs σ₁) (h2 : vs.length ≤ lim) : EvE P d kd ρ (.List es p) σ (.ref σ₁.length) (σ₁ ++ [.list vs]) := .intro fun H => by
  refine wpAny_List_spliced (wpAny_mono (h1.run p H) (fun vs' s₁ ⟨G₁, φ₁, R₁, V₁, S₁⟩ => ⟨by rw [← V₁.length]; exact lim_le h2, ?_⟩) fun _ _ e => e)
  obtain ⟨G', φ', R', V', S'⟩ := R₁.newList V₁
  exact ⟨G', φ', R', V', S₁.trans' S'⟩
theorem subscripted_any (slice : Expr) (o i : Value) : ∃ ops, subscripted slice false o i = operate ops (getItem o i) := by
  unfold subscripted
  split
  · exact ⟨_, rfl⟩
  · rename_i h; cases h
  · exact ⟨_, rfl⟩
theorem it_list {v w : AVal} {vs : List AVal} {a : Int} (h1 : listOf? σ v = some vs) (h0 : 0 ≤ a) (h2 : vs[a.toNat]? = some w) (hl : a < 2 ^ 63) : ItemR σ v (.int a) w := .intro fun {c A G φ s a' b' x i Q E} R Va Vb q => by
  cases Vb using VRel.intE with
  | int tk =>
    obtain ⟨la, o, items, m, rfl, g, cc, dd, rr⟩ := R.isList Va h1
    obtain ⟨v', hv', V'⟩ := rr.get h2
    obtain ⟨ops, hs⟩ := subscripted_any i (.ref la) (.int a tk)
    exact tail_any (T := "list") ⟨_, g, cc⟩ slot_list_getitem.lookup (wpAny_getItem_list (items := items.toArray) ⟨_, g, cc, _, dd⟩ h0 hl (by simpa using hv') (q _ _ R (.refl ..) V')) hs
theorem it_str {sx : Str} {ch : Nat} {a : Int} (h0 : 0 ≤ a) (hl : sx.length ≤ lim) (h2 : sx.cps[a.toNat]? = some ch) (hl' : a < 2 ^ 63) : ItemR σ (.str sx) (.int a) (.str ⟨#[ch]⟩) := .intro fun {c A G φ s a' b' x i Q E} R Va Vb q => by
  cases Vb using VRel.intE with
  | int tk =>
    cases Va using VRel.strE with
    | str t =>
      obtain ⟨ops, hs⟩ := subscripted_any i (.str sx t) (.int a tk)
      have hj := (Array.getElem?_eq_some_iff.mp h2).1
      refine tail_any (T := "str") (typeIs_str _ _ _) F.slot_str_getitem.lookup (PyProof.Rows.getItem_str (c := ch) (by
        have h1 : ¬ a < -(2 ^ 63 : Int) := by lia
        have h2 : ¬ a ≥ (2 ^ 63 : Int) := by lia
        simp; lia) ?_ (q _ _ (R.toks _) (step_toks _) (.str _ _))) hs
      have : seqIndex? a sx.length = some a.toNat := by
        unfold seqIndex?
        have h1 : ¬ a < 0 := by lia
        have h2 : a < (sx.length : Int) := by
          have : sx.cps.size = sx.length := rfl
          lia
        simp [h1, h0, h2]
      rw [this]; exact h2
theorem e_item {o i : Expr} (h1 : EvE P d kd ρ o σ a σ₁) (h2 : EvE P d kd ρ i σ₁ b σ₂) (h3 : ItemR σ₂ a b v) : EvE P d kd ρ (.Subscript o i p) σ v σ₂ := .intro fun H =>
  Subscript_ (wpAny_mono (h1.run H) (fun a' s₁ ⟨G₁, φ₁, R₁, V₁, S₁⟩ => wpAny_mono (h2.run (H.step R₁ S₁)) (fun b' s₂ ⟨G₂, φ₂, R₂, V₂, S₂⟩ => h3.run R₂ (V₁.mono S₂.g S₂.ext) V₂ fun v' s' R' S' V' => ⟨G₂, φ₂, R', V', (S₁.trans' S₂).trans' S'⟩) fun _ _ e => e) fun _ _ e => e)
theorem e_neg {e : Expr} {i : Int} (h1 : EvE P d kd ρ e σ (.int i) σ₁) : EvE P d kd ρ (.UnaryOp .USub e p) σ (.int (-i)) σ₁ := .intro fun H =>
  wpAny_UnaryOp (wpAny_mono (h1.run H) (fun a' s₁ ⟨G₁, φ₁, R₁, V₁, S₁⟩ => by (cases V₁ using VRel.intE); exact PyProof.Rows.neg_int ⟨G₁, φ₁, R₁.toks _, .int _ _, S₁.trans' (step_toks _)⟩) fun _ _ e => e)
inductive OptInt : AVal → Option Int → Prop
  | none : OptInt .none .none
  | int {i : Int} : OptInt (.int i) (some i)
theorem oi_int {i : Int} : OptInt (.int i) (some i) := .int
theorem OptInt.part {c : Cx} {G : Imm} {φ : List Loc} {a' : Value} {i : Option Int} (h : OptInt a i) (V : VRel c G φ a a') : ∃ l, l.map (·.1) = i ∧ a' = partValue l := by
  cases h with
  | none => (cases V using VRel.noneE); exact ⟨.none, rfl, rfl⟩
  | int => cases V using VRel.intE with
    | int t => exact ⟨some (_, t), rfl, rfl⟩
inductive OP (c : Cx) (G : Imm) (φ : List Loc) (s : Shared) (v : Option Int) (σ' : St) (v' : Value) (s' : Shared) : Prop
  | mk (G' : Imm) (φ' : List Loc) (l : Option (Int × Tok)) (R : Rel c G' φ' σ' s') (S : Step c [] G φ s G' φ' s') (e : v' = partValue l) (h : l.map (·.1) = v)
structure EvO (P : PI) (d : Nat) (kd : Kinds) (ρ : Vars) (e : Option Expr) (σ : St) (v : Option Int) (σ' : St) : Prop where
  intro ::
  run : ∀ {c A env G φ s}, Here c P d A env kd ρ G φ σ s →
  wpAny (Md c) A (evalPart e env) (OP c G φ s v σ') (fun _ _ => False) s
theorem o_none : EvO P d kd ρ .none σ .none σ := .intro fun {c A env G φ s} H => evalPart_none_step ⟨G, φ, none, H.r, .refl .., rfl, rfl⟩
theorem o_some {e : Expr} {i : Option Int} (h1 : EvE P d kd ρ e σ v σ₁) (h2 : OptInt v i) : EvO P d kd ρ (some e) σ i σ₁ := .intro fun H =>
  evalPart_some_step (wpAny_mono (h1.run H) (fun w' s₁ ⟨G₁, φ₁, R₁, V₁, S₁⟩ => by
    obtain ⟨l, hl, e⟩ := h2.part V₁
    exact ⟨G₁, φ₁, l, R₁, S₁, e, hl⟩) fun _ _ e => e)
theorem e_slice {nm : Str} {lo hi : Option Expr} {sx : Str} {l h : Option Int} {q q0 : Pos} (h1 : EvE P d kd ρ (.Name nm q0) σ (.str sx) σ₁) (h2 : EvO P d kd ρ lo σ₁ l σ₂) (h3 : EvO P d kd ρ hi σ₂ h σ₃) (h4 : sx.length ≤ lim) :
    EvE P d kd ρ (.Subscript (.Name nm q0) (.Slice lo hi .none q) p) σ (.str (Txt.slice sx l h)) σ₃ := .intro fun {c A env G φ s} H => by
  refine Subscript_Slice (wpAny_mono (h1.run H) (fun a' s₁ ⟨G₁, φ₁, R₁, V₁, S₁⟩ => ?_) fun _ _ e => e) fun _ _ => rfl
  have H₁ := H.step R₁ S₁
  show wpAny _ _ (evalPart lo env >>= _) _ _ _
  refine wpAny_bind (wpAny_mono (h2.run H₁) (fun l' s₂ ⟨G₂, φ₂, pl, R₂, S₂, el, hl⟩ => ?_) fun _ _ e => e)
  have H₂ := H₁.step R₂ S₂
  refine wpAny_bind (wpAny_holding (wpAny_mono (h3.run H₂) (fun u' s₃ ⟨G₃, φ₃, pu, R₃, S₃, eu, hu⟩ => ?_) fun _ _ e => e))
  subst el eu hl hu
  refine wpAny_bind (wpAny_holding (evalPart_none_step (env := env) ?_))
  show wpAny _ _ (newFields "slice" [partValue pl, partValue pu, .none]) _ _ _
  simp only [newFields]
  refine wpAny_newObj_type ?_ (by size_fits)
  (cases V₁ using VRel.strE)
  have SS := ((S₁.trans' S₂).trans' S₃).trans' (step_push { cls := .type "slice", data := .fields #[partValue pl, partValue pu, .none] })
  refine ⟨"str", _, F.slot_str_getitem.lookup, typeIs_str _ _ _, wpAny_getItem_str_slice (l := pl) (u := pu) (st := none) ⟨_, Heap.get?_push_size _ rfl, rfl, rfl⟩ rfl (post_val_or_str ⟨Nat.le_trans (Txt.slice_le sx _ _) (lim_le h4), fun t' k => ⟨G₃, φ₃, (R₃.push _).toks k, .str _ _, SS.trans' (step_toks k)⟩⟩)⟩
theorem t_not {e : Expr} {z : Bool} (h1 : EvT P d kd ρ e σ z σ₁) : EvT P d kd ρ (.UnaryOp .Not e p) σ (!z) σ₁ := .intro fun H =>
  wpAny_isTrue_Not (wpAny_mono (h1.run H) (fun z' s₁ ⟨e, G₁, φ₁, R₁, S₁⟩ => ⟨by rw [e], G₁, φ₁, R₁, S₁⟩) fun _ _ e => e)
theorem ts_nil {op : BoolOp} : EvTs P d kd ρ op [] σ (op == .And) σ := .nil
theorem ts_andF {e : Expr} {es : List Expr} (h1 : EvT P d kd ρ e σ false σ₁) : EvTs P d kd ρ .And (e :: es) σ false σ₁ := .andF h1
theorem ts_andT {e : Expr} {es : List Expr} {z : Bool} (h1 : EvT P d kd ρ e σ true σ₁) (h2 : EvTs P d kd ρ .And es σ₁ z σ₂) : EvTs P d kd ρ .And (e :: es) σ z σ₂ := .andT h1 h2
theorem ts_orT {e : Expr} {es : List Expr} (h1 : EvT P d kd ρ e σ true σ₁) : EvTs P d kd ρ .Or (e :: es) σ true σ₁ := .orT h1
theorem ts_orF {e : Expr} {es : List Expr} {z : Bool} (h1 : EvT P d kd ρ e σ false σ₁) (h2 : EvTs P d kd ρ .Or es σ₁ z σ₂) : EvTs P d kd ρ .Or (e :: es) σ z σ₂ := .orF h1 h2
theorem and_last {e : Expr} {z : Bool} (h1 : EvT P d kd ρ e σ z σ₁) : EvTs P d kd ρ .And [e] σ z σ₁ := by
  cases z with
  | true => exact ts_andT h1 ts_nil
  | false => exact ts_andF h1
theorem or_last {e : Expr} {z : Bool} (h1 : EvT P d kd ρ e σ z σ₁) : EvTs P d kd ρ .Or [e] σ z σ₁ := by
  cases z with
  | true => exact ts_orT h1
  | false => exact ts_orF h1 ts_nil
theorem EvTs.run {op : BoolOp} {es : List Expr} {z : Bool} (h : EvTs P d kd ρ op es σ z σ') : ∀ {c A env G φ s}, Here c P d A env kd ρ G φ σ s → GivesB c A G φ s (allTrue op es env) z σ' := by
  induction h with
  | @nil op σ =>
    intro c A env G φ s H
    cases op with
    | And => exact wpAny_allTrue_And_nil ⟨rfl, G, φ, H.r, .refl ..⟩
    | Or => exact wpAny_allTrue_Or_nil ⟨rfl, G, φ, H.r, .refl ..⟩
  | andF h1 =>
    intro c A env G φ s H
    refine wpAny_allTrue_And_cons (wpAny_mono (h1.run H) (fun z' s₁ ⟨e, G₁, φ₁, R₁, S₁⟩ => ?_) fun _ _ e => e)
    subst e
    exact ⟨rfl, G₁, φ₁, R₁, S₁⟩
  | andT h1 h2 ih =>
    intro c A env G φ s H
    refine wpAny_allTrue_And_cons (wpAny_mono (h1.run H) (fun z' s₁ ⟨e, G₁, φ₁, R₁, S₁⟩ => ?_) fun _ _ e => e)
    subst e
    exact GivesB.after (ih (H.step R₁ S₁)) S₁
  | orT h1 =>
    intro c A env G φ s H
    refine wpAny_allTrue_Or_cons (wpAny_mono (h1.run H) (fun z' s₁ ⟨e, G₁, φ₁, R₁, S₁⟩ => ?_) fun _ _ e => e)
    subst e
    exact ⟨rfl, G₁, φ₁, R₁, S₁⟩
  | orF h1 h2 ih =>
    intro c A env G φ s H
    refine wpAny_allTrue_Or_cons (wpAny_mono (h1.run H) (fun z' s₁ ⟨e, G₁, φ₁, R₁, S₁⟩ => ?_) fun _ _ e => e)
    subst e
    exact GivesB.after (ih (H.step R₁ S₁)) S₁
theorem t_bool {op : BoolOp} {es : List Expr} {z : Bool} (h1 : EvTs P d kd ρ op es σ z σ₁) : EvT P d kd ρ (.BoolOp op es p) σ z σ₁ := .intro fun H => wpAny_isTrue_BoolOp (h1.run H)
end
structure FrOk (env : Env) (h : Heap) : Prop where
  ex : ∀ x, env.kindOf x = some .cell → ∃ a v₀, env.cells.lookup x = some a ∧ h.IsCell a v₀
  apart : ∀ x y a, env.kindOf x = some .cell → env.cells.lookup x = some a → env.cells.lookup y = some a → y = x
  nl : ∀ n a, (n, a) ∈ env.cells → a ≠ env.locals
theorem FrOk.keeps {env : Env} {h h' : Heap} (F : FrOk env h) (k : ∀ a o, a ∈ owns env → h.get? a = some o → h'.get? a = some o) : FrOk env h' :=
  ⟨fun x hx => let ⟨a, v, e, o, ho, hd⟩ := F.ex x hx; ⟨a, v, e, o, k a o (mem_owns (.inr ⟨x, e⟩)) ho, hd⟩, F.apart, F.nl⟩
theorem FrOk.step {c : Cx} {G G' : Imm} {φ φ' : List Loc} {env : Env} {s s' : Shared} (F : FrOk env s.heap) (O : Owns c G φ env s) (S : Step c [] G φ s G' φ' s') : FrOk env s'.heap :=
  F.keeps fun a o ha e => S.frame a o (O.away ha).1 (fun h => nomatch h) e
inductive FRel (c : Cx) (G : Imm) (φ : List Loc) : Flw → Flow → Prop
  | next : FRel c G φ .next .next
  | brk : FRel c G φ .brk .brk
  | cont : FRel c G φ .cont .cont
  | ret {v : AVal} {v' : Value} (h : VRel c G φ v v') : FRel c G φ (.ret v) (.ret v')
inductive After (c : Cx) (env : Env) (G : Imm) (φ : List Loc) (s : Shared) (ρ' : Vars) (σ' : St) (s' : Shared) (K : Imm → List Loc → Prop) : Prop
  | mk (G' : Imm) (φ' : List Loc) (R : Rel c G' φ' σ' s') (L : LocRel c G' φ' env ρ' s'.heap) (F : FrOk env s'.heap) (S : Step c (owns env) G φ s G' φ' s') (k : K G' φ')
theorem After.after {c : Cx} {env : Env} {G G₁ : Imm} {φ φ₁ : List Loc} {s s₁ : Shared} {ρ' : Vars} {σ' : St} {s' : Shared} {K : Imm → List Loc → Prop}
    (h : After c env G₁ φ₁ s₁ ρ' σ' s' K) (S : Step c (owns env) G φ s G₁ φ₁ s₁) : After c env G φ s ρ' σ' s' K :=
  let ⟨G', φ', R, L, F, S', k⟩ := h; ⟨G', φ', R, L, F, S.trans' S', k⟩
noncomputable def Does (c : Cx) (A : Around) (env : Env) (G : Imm) (φ : List Loc) (s : Shared) (t : Sem Flow) (f : Flw) (ρ' : Vars) (σ' : St) : Prop :=
  wpAny (Md c) A t (fun f' s' => After c env G φ s ρ' σ' s' fun G' φ' => FRel c G' φ' f f') (fun _ _ => False) s
noncomputable def DoesU (c : Cx) (A : Around) (env : Env) (G : Imm) (φ : List Loc) (s : Shared) (t : Sem Unit) (ρ' : Vars) (σ' : St) : Prop :=
  wpAny (Md c) A t (fun _ s' => After c env G φ s ρ' σ' s' fun _ _ => True) (fun _ _ => False) s
theorem Does.after {c : Cx} {A : Around} {env : Env} {G G₁ : Imm} {φ φ₁ : List Loc} {s s₁ : Shared} {t : Sem Flow} {f : Flw} {ρ' : Vars} {σ' : St} (h : Does c A env G₁ φ₁ s₁ t f ρ' σ') (S : Step c (owns env) G φ s G₁ φ₁ s₁) :
    wpAny (Md c) A t (fun f' s' => After c env G φ s ρ' σ' s' fun G' φ' => FRel c G' φ' f f') (fun _ _ => False) s₁ :=
  wpAny_mono h (fun _ _ q => After.after q S) fun _ _ e => e
structure HereX (c : Cx) (P : PI) (d : Nat) (A : Around) (env : Env) (kd : Kinds) (ρ : Vars) (G : Imm) (φ : List Loc) (σ : St) (s : Shared) : Prop extends Here c P d A env kd ρ G φ σ s where
  f : FrOk env s.heap
theorem HereX.step {c : Cx} {P : PI} {d : Nat} {A : Around} {env : Env} {kd : Kinds} {ρ : Vars} {G G' : Imm} {φ φ' : List Loc} {σ σ' : St} {s s' : Shared} (H : HereX c P d A env kd ρ G φ σ s)
    (R : Rel c G' φ' σ' s') (S : Step c [] G φ s G' φ' s') : HereX c P d A env kd ρ G' φ' σ' s' := ⟨H.toHere.step R S, H.f.step H.o S⟩
theorem HereX.then {c : Cx} {P : PI} {d : Nat} {A : Around} {env : Env} {kd : Kinds} {ρ ρ' : Vars} {G G' : Imm} {φ φ' : List Loc} {σ σ' : St} {s s' : Shared} (H : HereX c P d A env kd ρ G φ σ s)
    (R : Rel c G' φ' σ' s') (L : LocRel c G' φ' env ρ' s'.heap) (F : FrOk env s'.heap) (S : Step c (owns env) G φ s G' φ' s') : HereX c P d A env kd ρ' G' φ' σ' s' :=
  ⟨⟨H.ok, H.a, H.kd, R, L, H.o.step S⟩, F⟩
section
variable {c : Cx} {P : PI} {n d : Nat} {A : Around} {env : Env} {kd : Kinds} {ρ ρ' : Vars} {G : Imm} {φ : List Loc} {σ σ' : St} {s : Shared} {v : AVal}
theorem step_own {own : List Addr} {a : Addr} (ha : a ∈ own) {h' : Heap} {tk : Nat} (hs : Heap.SameBut a s.heap h') (hl : (h'.get? a).isSome) : Step c own G φ s G φ { s with heap := h', toks := tk } where
  g := fun _ _ e => e
  ext := .refl _
  foot := fun _ h => .inl h
  dom := fun _ _ e => .inl e
  frame := fun b o _ hb e => (hs.2 b (fun q => hb (q ▸ ha))).trans e
  keep := fun b h => by
    by_cases q : b = a
    · subst q; exact hl
    · show (h'.get? b).isSome; rw [hs.2 b q]; exact h
  os := rfl
  gsz := Nat.le_refl _
  gfr := fun _ _ _ => rfl
  gft := fun _ h => .inl h
theorem rel_own {a : Addr} (R : Rel c G φ σ s) (h1 : a ∉ foot c φ) (h2 : G a = none) {h' : Heap} {tk : Nat} (hs : Heap.SameBut a s.heap h') : Rel c G φ σ { s with heap := h', toks := tk } :=
  R.same fun b o hb e => (hs.2 b (fun q => by
    subst q
    rcases hb with hb | hb
    · exact h1 hb
    · rw [h2] at hb; cases hb)).trans e
theorem sim_store {x : Str} {v' : Value} (hk : kd x = some .local ∨ (kd x = some .cell ∧ P.frz x = false)) (H : HereX c P d A env kd ρ G φ σ s) (V : VRel c G φ v v') : DoesU c A env G φ s (storeName env x v') (Vars.set ρ x v) σ := by
  rw [H.kd] at hk
  rcases hk with hk | ⟨hk, hz⟩
  · obtain ⟨m, hn, hv⟩ := H.l.ns
    refine wpAny_storeName_local hk hn (fun h' hn' hs => ?_) (by rw [H.l.kind]; rfl)
    have hl : (h'.get? env.locals).isSome := by obtain ⟨o, _, _, e, _⟩ := hn'; rw [e]; rfl
    refine ⟨G, φ, rel_own H.r (H.o.loc _ (.head _)).1 (H.o.loc _ (.head _)).2.1 hs, ⟨H.l.kind, H.l.glob, H.l.bi, ⟨_, hn', fun y w h1 h2 => ?_⟩, fun y w h1 h2 => ?_⟩, ?_, step_own (.head _) hs hl, trivial⟩
    · unfold Vars.set at h2
      split at h2
      · rename_i q; subst q; (cases h2); exact ⟨v', by simp, V⟩
      · rename_i q
        obtain ⟨w', e, r⟩ := hv y w h1 h2
        exact ⟨w', by simp [q, e], r⟩
    · unfold Vars.set at h2
      split at h2
      · rename_i q; subst q; rw [hk] at h1; rcases h1 with h1 | h1 <;> (cases h1)
      · obtain ⟨a, w', e, hc, r⟩ := H.l.cell y w h1 h2
        exact ⟨a, w', e, hc.sameBut hs (H.f.nl _ _ (mem_of_lookup e)), r⟩
    · refine ⟨fun y hy => ?_, H.f.apart, H.f.nl⟩
      obtain ⟨a, v₀, e, hc⟩ := H.f.ex y hy
      exact ⟨a, v₀, e, hc.sameBut hs (H.f.nl _ _ (mem_of_lookup e))⟩
  · obtain ⟨a, v₀, e, hc⟩ := H.f.ex x hk
    refine wpAny_storeName_cell H.l.kind hk e hc fun h' hc' hs => ?_
    have hl : (h'.get? a).isSome := by obtain ⟨o, e, _⟩ := hc'; rw [e]; rfl
    have ha : a ∈ owns env := mem_owns (.inr ⟨x, e⟩)
    have hne := H.f.nl _ _ (mem_of_lookup e)
    refine ⟨G, φ, rel_own H.r (H.o.cel x a e).1 (by have := (H.o.cel x a e).2.2 hk; rw [H.ok.frz, hz, if_neg (by decide)] at this; exact this) hs, ⟨H.l.kind, H.l.glob, H.l.bi, ?_, fun y w h1 h2 => ?_⟩, ?_, step_own (tk := s.toks) ha hs hl, trivial⟩
    · obtain ⟨m, ⟨o, es, ep, ho, hr⟩, hv⟩ := H.l.ns
      refine ⟨m, ⟨o, es, ep, (hs.2 _ (Ne.symm hne)).trans ho, hr⟩, fun y w h1 h2 => ?_⟩
      unfold Vars.set at h2
      split at h2
      · rename_i q; subst q; rw [hk] at h1; (cases h1)
      · exact hv y w h1 h2
    · unfold Vars.set at h2
      split at h2
      · rename_i q; subst q; (cases h2); exact ⟨a, v', e, hc', V⟩
      · rename_i q
        obtain ⟨a₂, w', e₂, hc₂, r⟩ := H.l.cell y w h1 h2
        refine ⟨a₂, w', e₂, hc₂.sameBut hs (fun z => q ?_), r⟩
        subst z
        exact H.f.apart x y _ hk e e₂
    · refine ⟨fun y hy => ?_, H.f.apart, H.f.nl⟩
      by_cases q : y = x
      · subst q; exact ⟨a, _, e, hc'⟩
      · obtain ⟨a₂, v₂, e₂, hc₂⟩ := H.f.ex y hy
        refine ⟨a₂, v₂, e₂, hc₂.sameBut hs fun z => q ?_⟩
        subst z
        exact H.f.apart x y _ hk e e₂
end
section
variable {c : Cx} {P : PI} {n d : Nat} {A : Around} {env : Env} {kd : Kinds} {ρ ρ' : Vars} {G : Imm} {φ : List Loc} {σ σ' : St} {s s' : Shared} {v : AVal}
theorem filter_inj {α β : Type} {f : α → Option β} : ∀ {l : List α} {i j : Nat} {x y : α} {b : β}, (l.filterMap f).Nodup → l[i]? = some x → l[j]? = some y → f x = some b → f y = some b → i = j
  | [], _, _, _, _, _, _, h, _, _, _ => by simp at h
  | z :: r, i, j, x, y, b, hd, hx, hy, bx, by_ => by
    have tail : (r.filterMap f).Nodup := by
      rw [List.filterMap_cons] at hd
      split at hd
      · exact hd
      · exact (List.nodup_cons.mp hd).2
    have head : ∀ {k : Nat} {w : α}, f z = some b → r[k]? = some w → f w = some b → False := fun h1 h2 h3 => by
      rw [List.filterMap_cons, h1] at hd
      exact (List.nodup_cons.mp hd).1 (List.mem_filterMap.mpr ⟨_, List.mem_of_getElem? h2, h3⟩)
    cases i with
    | zero =>
      cases j with
      | zero => rfl
      | succ j => simp at hx hy; subst hx; exact (head bx hy by_).elim
    | succ i =>
      cases j with
      | zero => simp at hx hy; subst hy; exact (head by_ hx bx).elim
      | succ j => simp at hx hy; rw [filter_inj tail hx hy bx by_]
theorem Rel.g_inj {i j : Nat} {l l' : Loc} {g : Nat} (R : Rel c G φ σ s) (h : φ[i]? = some l) (h' : φ[j]? = some l') (hg : l.g = some g) (hg' : l'.g = some g) : i = j := filter_inj R.gn h h' hg hg'
theorem Rel.tab_away {i : Nat} {l : Loc} (R : Rel c G φ σ s) (h : φ[i]? = some l) {q : Addr × Addr} (hq : q ∈ c.tabs) : q.2 ∉ l.a :: l.ps := fun ha =>
  absurd rfl ((List.nodup_append.mp R.nodup).2.2 q.2 (List.mem_map_of_mem hq) q.2 (List.mem_flatMap.mpr ⟨l, List.mem_of_getElem? h, ha⟩))
theorem Rel.set {i : Nat} {l : Loc} {o' : AObj} (R : Rel c G φ σ s) (hl : φ[i]? = some l) (k : ∀ b x, b ∉ l.a :: l.ps → (b ∈ foot c φ ∨ (G b).isSome) → s.heap.get? b = some x → s'.heap.get? b = some x)
    (lv : ∀ a ∈ l.a :: l.ps, (s'.heap.get? a).isSome) (ho : ORel c G φ l o' s') (hb : (∀ x ∈ s.gens, x.bare = true) → ∀ x ∈ s'.gens, x.bare = true := by exact fun h => h) (hg : ∀ k, l.g ≠ some k → s'.gens[k]? = s.gens[k]? := by exact fun _ _ => rfl) : Rel c G φ (σ.set i o') s' where
  gB := R.gB
  gh := fun a x e => k a x (fun h => by have := R.gf a (mem_foot hl h); rw [e] at this; cases this) (.inr (by rw [e]; rfl)) (R.gh a x e)
  gf := R.gf
  len := by rw [List.length_set]; exact R.len
  nodup := R.nodup
  live := fun a ha => by
    by_cases q : a ∈ l.a :: l.ps
    · exact lv a q
    · obtain ⟨x, hx⟩ := Option.isSome_iff_exists.mp (R.live a ha)
      rw [k a x q (.inl ha) hx]; rfl
  obj := fun j l' o h1 h2 => by
    by_cases q : i = j
    · subst q
      rw [hl] at h1; (cases h1)
      have hlt := (List.getElem?_eq_some_iff.mp hl).1
      rw [R.len] at hlt
      rw [List.getElem?_set_self hlt] at h2
      (cases h2); exact ho
    · rw [List.getElem?_set_ne q] at h2
      exact (R.obj j l' o h1 h2).frame (fun _ _ e => e) (.refl _) (fun a x ha e => k a x (fun h => q (R.loc_inj hl h1 h ha)) (.inl (mem_foot h1 ha)) e) fun g hgl => hg g fun z => q (R.g_inj hl h1 z hgl)
  gn := R.gn
  bare := hb R.bare
  tab := fun q hq => (R.tab q hq).mono (fun _ _ e => e) fun o e => k _ o (R.tab_away hl hq) (.inl (mem_tab hq)) e
theorem step_set {own : List Addr} {i : Nat} {l : Loc} (hl : φ[i]? = some l) (k : ∀ b x, b ∉ l.a :: l.ps → b ∉ own → s.heap.get? b = some x → s'.heap.get? b = some x) (lv : ∀ b, (s.heap.get? b).isSome → (s'.heap.get? b).isSome) (os : s'.os = s.os) (hz : s.gens.size ≤ s'.gens.size := by exact Nat.le_refl _) (hg : ∀ k, k ∉ gfoot φ → k < s.gens.size → s'.gens[k]? = s.gens[k]? := by exact fun _ _ _ => rfl) :
    Step c own G φ s G φ s' where
  g := fun _ _ e => e
  ext := .refl _
  foot := fun _ h => .inl h
  dom := fun _ _ e => .inl e
  frame := fun b o h1 h2 e => k b o (fun h => h1 (mem_foot hl h)) h2 e
  keep := lv
  os := os
  gsz := hz
  gfr := hg
  gft := fun _ h => .inl h
theorem handed {v : AVal} {v' : Value} (V : VRel c G φ v v') (h : notBi v = true) : handedIn v' = true := by
  cases V <;> first | rfl | cases h
theorem Rel.instAt {i : Nat} {l : Loc} {ats : List (Str × AVal)} (R : Rel c G φ σ s) (hl : φ[i]? = some l) (ho : σ[i]? = some (.inst ats)) :
    ∃ d es n, l.ps = [d] ∧ InstAt s.heap l.a (instObj c.C d) c.C (some (dictOf es n)) ∧ s.heap.get? d = some (dictOf es n) ∧ es.length = ats.length ∧
      ∀ x, match ats.lookup x with
        | some v => ∃ v', getL x es = some (some v') ∧ handedIn v' = true ∧ VRel c G φ v v'
        | .none => getL x es = some .none := by
  obtain ⟨_, d, es, n, h2, h3, h4, h5, h6⟩ := R.obj i l _ hl ho
  exact ⟨d, es, n, h2, ⟨h3, rfl, rfl, h4⟩, h4, h5, h6⟩
theorem e_attr {o : Expr} {x : Str} {a : AVal} {ats : List (Str × AVal)} {σ₁ : St} {p : Pos} (h0 : PlainE o) (h0' : P.attrOk x = true) (h1 : EvE P d kd ρ o σ a σ₁) (h2 : instOf? σ₁ a = some ats) (h3 : ats.lookup x = some v) : EvE P d kd ρ (.Attribute o x p) σ v σ₁ := .intro fun {c A env G φ s} H => by
  refine Attribute_any_ (wpAny_mono (h1.run H) (fun a' s₁ ⟨G₁, φ₁, R₁, V₁, S₁⟩ => ?_) fun _ _ e => e) (by
    cases h0 <;> with_unfolding_all rfl)
  cases a with
  | ref i =>
    unfold instOf? at h2
    simp only at h2
    split at h2
    · rename_i q
      (cases h2)
      cases V₁ using VRel.refE with
      | ref hl =>
        obtain ⟨d, es, n, _, I, _, _, h6⟩ := R₁.instAt hl q
        have h7 := h6 x
        rw [h3] at h7
        obtain ⟨v', e1, e2, e3⟩ := h7
        obtain ⟨_, at_, ha, hn⟩ := H.ok.attr x h0'
        exact get_value (H.ok.ok.x.keeps R₁.keepB) I H.ok.ga (findObj_own H.ok.hd ha hn (by rw [lookIn_dict]; exact e1)) e2 ⟨G₁, φ₁, R₁.toks _, e3, S₁.trans' (step_toks _)⟩
    · (cases h2)
  | _ => (cases h2)
end
end Mini
namespace Mini
open PySem PySem.W PyProof PyProof.Rows PySem.Calls
noncomputable def objsBut (h : Heap) (L d : Addr) : List (Addr × Obj) := (List.range h.objs.size).filterMap fun a => if a = L ∨ a = d then none else (h.get? a).map fun o => (a, o)
theorem mem_objsBut {h : Heap} {L d a : Addr} {o : Obj} : (a, o) ∈ objsBut h L d ↔ a ≠ L ∧ a ≠ d ∧ h.get? a = some o := by
  unfold objsBut
  rw [List.mem_filterMap]
  constructor
  · rintro ⟨b, _, e⟩
    split at e
    · cases e
    · rename_i hb
      obtain ⟨x, hx, e⟩ := Option.map_eq_some_iff.mp e
      cases e
      exact ⟨fun q => hb (.inl q), fun q => hb (.inr q), hx⟩
  · rintro ⟨h1, h2, h3⟩
    exact ⟨a, List.mem_range.mpr (Heap.lt_size h3), by rw [if_neg (by rintro (q | q); exact h1 q; exact h2 q), h3]; rfl⟩
theorem empty_get (b : Addr) : ({} : Heap).get? b = none := by
  cases q : ({} : Heap).get? b with
  | none => rfl
  | some o => exact absurd (Heap.lt_size q) (Nat.not_lt_zero _)
theorem fr_empty {h : Heap} {L : Addr} {m : Str → Option Value} (hn : h.Ns L m) : Fr {} L h m := ⟨hn, (fun b o e => by rw [empty_get] at e; cases e), Nat.zero_le _⟩
theorem news_all {h : Heap} {L d : Addr} {o : Obj} (hd : h.get? d = some o) (hne : d ≠ L) : News {} L h ([] ++ (d, o) :: objsBut h L d) := fun p hp => by
  rcases List.mem_cons.mp hp with rfl | hp
  · exact ⟨hd, hne, empty_get _⟩
  · obtain ⟨h1, _, h3⟩ := mem_objsBut.mp (show (p.1, p.2) ∈ _ from hp)
    exact ⟨h3, h1, empty_get _⟩
theorem nat_le_sum {x : Nat} : ∀ {l : List Nat}, x ∈ l → x ≤ l.sum
  | y :: r, h => by
    rw [List.sum_cons]
    rcases List.mem_cons.mp h with rfl | h
    · lia
    · have := nat_le_sum h; lia
theorem getL_put (name : Str) (hsh : Int) (v : Value) (tk : Tok) : ∀ (es : List DictEntry) (y : Str), (∀ z, (getL z es).isSome = true) →
    getL y (putL name hsh (.str name tk) v es) = if y = name then some (some v) else getL y es := by
  intro es
  induction es with
  | nil =>
    intro y _
    unfold putL getL
    by_cases q : y = name
    · subst q; simp [Value.isStr]
    · have : (name == y) = false := beq_eq_false_iff_ne.mpr (Ne.symm q)
      simp [Value.isStr, q, this, DictEntry.refKey]
  | cons e r ih =>
    intro y hz
    have nr : (e :: r).any (·.refKey) = false := by
      cases q : (e :: r).any (·.refKey) with
      | false => rfl
      | true =>
        exfalso
        -- a name that no key bears
        have key : ∀ (l : List DictEntry), ∃ z : Str, ∀ x ∈ l, x.key.isStr z = false := by
          intro l
          refine ⟨⟨((l.map fun x => match x.key with | .str u _ => u.cps.toList.sum + 1 | _ => 0).sum + 1) :: [] |>.toArray⟩, fun x hx => ?_⟩
          cases hk : x.key with
          | str u t =>
            show (u == _) = false
            refine beq_eq_false_iff_ne.mpr fun q => ?_
            have h1 : u.cps.toList.sum + 1 ≤ (l.map fun x => match x.key with | .str u _ => u.cps.toList.sum + 1 | _ => 0).sum := by
              have : u.cps.toList.sum + 1 ∈ l.map fun x => match x.key with | .str u _ => u.cps.toList.sum + 1 | _ => 0 := List.mem_map.mpr ⟨x, hx, by rw [hk]⟩
              exact nat_le_sum this
            rw [q] at h1
            simp at h1
            lia
          | _ => rfl
        obtain ⟨z, hzz⟩ := key (e :: r)
        have h1 := hz z
        unfold getL at h1
        rw [show (e :: r).find? (fun x => x.key.isStr z) = none from List.find?_eq_none.mpr fun x hx => by rw [hzz x hx]; simp, q] at h1
        simp at h1
    have hr : ∀ z, (getL z r).isSome = true := fun z => by
      unfold getL
      split
      · rfl
      · have : r.any (·.refKey) = false := by
          rw [List.any_cons, Bool.or_eq_false_iff] at nr
          exact nr.2
        rw [this]; rfl
    have hcons : ∀ (w : DictEntry) (l : List DictEntry), w.refKey = false → getL y (w :: l) = if w.key.isStr y = true then some (some w.val) else getL y l := by
      intro w l hw
      unfold getL
      rw [List.find?_cons]
      cases q : w.key.isStr y with
      | true => simp
      | false => simp [List.any_cons, hw]
    have ne : e.refKey = false := by rw [List.any_cons, Bool.or_eq_false_iff] at nr; exact nr.1
    unfold putL
    split
    · rename_i hk
      have ne' : (DictEntry.mk e.hash e.key v).refKey = false := ne
      rw [hcons _ _ ne', hcons _ _ ne]
      have eqk : e.key.isStr y = true ↔ y = name := by
        cases hkey : e.key with
        | str u t =>
          rw [hkey] at hk
          have e1 : u = name := eq_of_beq hk
          subst e1
          show (u == y) = true ↔ _
          rw [beq_iff_eq]
          exact ⟨fun q => q.symm, fun q => q.symm⟩
        | _ => rw [hkey] at hk; cases hk
      by_cases q : y = name
      · rw [if_pos (eqk.mpr q), if_pos q]
      · rw [if_neg (fun z => q (eqk.mp z)), if_neg q, if_neg (fun z => q (eqk.mp z))]
    · rename_i hk
      rw [hcons _ _ ne, hcons _ _ ne, ih y hr]
      by_cases q : e.key.isStr y = true
      · rw [if_pos q, if_pos q]
        have : y ≠ name := fun z => hk (by rw [← z]; exact q)
        rw [if_neg this]
      · rw [if_neg q, if_neg q]
theorem putL_length (name : Str) (hsh : Int) (k v : Value) : ∀ es : List DictEntry, (putL name hsh k v es).length = if es.any (·.key.isStr name) then es.length else es.length + 1
  | [] => rfl
  | e :: r => by
    unfold putL
    split
    · rename_i h; simp [h]
    · rename_i h
      rw [List.length_cons, putL_length name hsh k v r]
      simp only [List.any_cons, h, Bool.false_or]
      split <;> simp
theorem lookup_putAt (x : Str) (v : AVal) : ∀ (l : List (Str × AVal)) (y : Str), (putAt x v l).lookup y = if y = x then some v else l.lookup y
  | [], y => by
    unfold putAt
    rw [List.lookup_cons]
    by_cases q : y = x
    · simp [q]
    · simp [q, beq_eq_false_iff_ne.mpr q]
  | (z, w) :: r, y => by
    unfold putAt
    split
    · rename_i h
      subst h
      rw [List.lookup_cons, List.lookup_cons]
      by_cases q : y = z
      · simp [q]
      · simp [q, beq_eq_false_iff_ne.mpr q]
    · rename_i h
      rw [List.lookup_cons, List.lookup_cons, lookup_putAt x v r y]
      by_cases q : y = z
      · subst q; simp [h]
      · simp [beq_eq_false_iff_ne.mpr q]
theorem length_putAt (x : Str) (v : AVal) : ∀ (l : List (Str × AVal)), (putAt x v l).length = if (l.lookup x).isSome then l.length else l.length + 1
  | [] => rfl
  | (z, w) :: r => by
    unfold putAt
    rw [List.lookup_cons]
    split
    · rename_i h; subst h; simp
    · rename_i h
      rw [beq_eq_false_iff_ne.mpr (Ne.symm h)]
      simp only [List.length_cons, length_putAt x v r]
      split <;> simp
theorem getL_any {x : Str} {es : List DictEntry} : (∃ v, getL x es = some (some v)) ↔ es.any (·.key.isStr x) = true := by
  unfold getL
  constructor
  · rintro ⟨v, h⟩
    split at h
    · rename_i e he
      exact List.any_eq_true.mpr ⟨e, List.mem_of_find?_eq_some he, by simpa using List.find?_some he⟩
    · split at h <;> cases h
  · intro h
    obtain ⟨e, he, hk⟩ := List.any_eq_true.mp h
    cases q : es.find? (·.key.isStr x) with
    | none => exact absurd hk (by simpa using List.find?_eq_none.mp q e he)
    | some e' => exact ⟨e'.val, rfl⟩
theorem flat_nodup {α β : Type} (f : α → List β) {x : α} : ∀ {l : List α}, (l.flatMap f).Nodup → x ∈ l → (f x).Nodup
  | z :: r, h, hx => by
    rw [List.flatMap_cons] at h
    obtain ⟨h1, h2, _⟩ := List.nodup_append.mp h
    rcases List.mem_cons.mp hx with rfl | hx
    · exact h1
    · exact flat_nodup f h2 hx
section
variable {c : Cx} {P : PI} {n d : Nat} {A : Around} {env : Env} {kd : Kinds} {ρ ρ' : Vars} {G : Imm} {φ : List Loc} {σ σ' : St} {s s' : Shared} {v : AVal}
theorem set_attr {L : Addr} {m : Str → Option Value} {i : Nat} {l : Loc} {ats : List (Str × AVal)} {x : Str} {v' : Value} {Q : Unit → Shared → Prop} {E : Value → Shared → Prop} (ok : COk c P) (R : Rel c G φ σ s) (hl : φ[i]? = some l) (ho : σ[i]? = some (.inst ats))
    (hn : s.heap.Ns L m) (hL : L ∉ foot c φ) (hG : G L = none) (hx : P.attrOk x = true) (hb : notBi v = true) (hz : ats.length ≤ 10) (V : VRel c G φ v v')
    (q : ∀ h' tk, Rel c G φ (σ.set i (.inst (putAt x v ats))) { s with heap := h', toks := tk } → h'.Ns L m → (∀ b o, b ≠ L → b ∉ l.a :: l.ps → s.heap.get? b = some o → h'.get? b = some o) → (∀ b, (s.heap.get? b).isSome → (h'.get? b).isSome) → Q () { s with heap := h', toks := tk }) :
    wpAny (Md c) A (setAttr (.ref l.a) x v') Q E s := by
  obtain ⟨dd, es, nn, hps, I, hd, hlen, hall⟩ := R.instAt hl ho
  have hne : dd ≠ L := fun z => hL (mem_foot hl (by rw [hps, ← z]; exact .tail _ (.head _)))
  obtain ⟨ht, _⟩ := ok.attr x hx
  have hsome : ∀ z, (getL z es).isSome = true := fun z => by
    have h1 := hall z
    cases q : ats.lookup z with
    | none => rw [q] at h1; rw [h1]; rfl
    | some w => rw [q] at h1; obtain ⟨w', e, _⟩ := h1; rw [e]; rfl
  have X := ok.ok.x.keeps R.keepB
  refine set_plain X I ok.sa (osa_dict (s := { s with toks := s.toks + 1 }) (fr_empty hn) (news_all hd hne) X I rfl ok.po ht ok.hd (by rw [lookIn_dict]; exact hsome x) (fun p hp => nomatch hp) (fun p hp => (mem_objsBut.mp (show (p.1, p.2) ∈ _ from hp)).2.1)
    (by rw [putName_dict]) rfl ?_ fun h' F' N' => ?_)
  · rw [putL_length]
    split <;> lia
  · have hd' := (N' (dd, _) (.head _)).1
    have keep : ∀ b o, b ≠ L → b ≠ dd → s.heap.get? b = some o → h'.get? b = some o := fun b o h1 h2 e => (N' (b, o) (.tail _ (mem_objsBut.mpr ⟨h1, h2, e⟩))).1
    have hns := F'.ns
    have hlive : ∀ b, (s.heap.get? b).isSome → (h'.get? b).isSome := fun b hb => by
      obtain ⟨o, ho⟩ := Option.isSome_iff_exists.mp hb
      by_cases q1 : b = L
      · subst q1; obtain ⟨oL, _, _, e, _⟩ := hns; rw [e]; rfl
      · by_cases q2 : b = dd
        · subst q2; rw [hd']; rfl
        · rw [keep b o q1 q2 ho]; rfl
    have hla : l.a ≠ dd := fun z => by
      have h2 : (l.a :: l.ps).Nodup := flat_nodup (fun l : Loc => l.a :: l.ps) (List.nodup_append.mp R.nodup).2.1 (List.mem_of_getElem? hl)
      rw [hps, ← z] at h2
      simp at h2
    have hlL : l.a ≠ L := fun z => hL (mem_foot hl (by rw [← z]; exact .head _))
    refine q h' _ (R.set hl (fun b o h1 h2 e => keep b o (fun z => ?_) (fun z => h1 (by rw [hps, z]; exact .tail _ (.head _))) e) (fun a ha => hlive a ?_) ?_) hns (fun b o h1 h2 e => keep b o h1 (fun z => h2 (by rw [hps, z]; exact .tail _ (.head _))) e) hlive
    · subst z
      rcases h2 with h2 | h2
      · exact hL h2
      · rw [hG] at h2; cases h2
    · exact R.live a (mem_foot hl ha)
    · refine ⟨(R.obj i l _ hl ho).1, dd, _, _, hps, keep _ _ hlL hla I.at_, hd', ?_, fun y => ?_⟩
      · rw [putL_length, length_putAt, hlen]
        have h1 := hall x
        have h2 := getL_any (x := x) (es := es)
        cases q : ats.lookup x with
        | none =>
          rw [q] at h1
          have : es.any (·.key.isStr x) = false := by
            cases q2 : es.any (·.key.isStr x) with
            | false => rfl
            | true => obtain ⟨w, e⟩ := h2.mpr q2; rw [h1] at e; cases e
          simp [this]
        | some w =>
          rw [q] at h1
          obtain ⟨w', e, _⟩ := h1
          simp [h2.mp ⟨w', e⟩]
      · rw [lookup_putAt, getL_put _ _ _ _ _ _ hsome]
        by_cases q : y = x
        · simp only [q, if_true]
          exact ⟨v', rfl, handed V hb, V⟩
        · simp only [q, if_false]
          exact hall y
end
end Mini
namespace Mini
open PySem PySem.W PyProof PyProof.Rows PySem.Calls
structure EvX (P : PI) (d : Nat) (kd : Kinds) (ρ : Vars) (st : Stmt) (σ : St) (f : Flw) (ρ' : Vars) (σ' : St) : Prop where
  intro ::
  run : ∀ {c A env G φ s}, HereX c P d A env kd ρ G φ σ s → Does c A env G φ s (PySem.exec st env) f ρ' σ'
structure EvXs (P : PI) (d : Nat) (kd : Kinds) (ρ : Vars) (ss : List Stmt) (σ : St) (f : Flw) (ρ' : Vars) (σ' : St) : Prop where
  intro ::
  run : ∀ {c A env G φ s}, HereX c P d A env kd ρ G φ σ s → Does c A env G φ s (PySem.execs ss env) f ρ' σ'
noncomputable def EvA (P : PI) (d : Nat) (kd : Kinds) (ρ : Vars) (t : Expr) (v : AVal) (σ : St) (ρ' : Vars) (σ' : St) : Prop := notStar t = true ∧ ∀ {c A env G φ s v'}, HereX c P d A env kd ρ G φ σ s → VRel c G φ v v' → DoesU c A env G φ s (PySem.assign t env v') ρ' σ'
section
variable {c : Cx} {P : PI} {n d : Nat} {A : Around} {env : Env} {kd : Kinds} {ρ ρ' : Vars} {G : Imm} {φ : List Loc} {σ σ' : St} {s s' : Shared} {v : AVal}
theorem rel_ext (R : Rel c G φ σ s) {h' : Heap} {tk : Nat} (k : ∀ b o, s.heap.get? b = some o → h'.get? b = some o) : Rel c G φ σ { s with heap := h', toks := tk } := R.same fun b o _ e => k b o e
theorem step_ext {own : List Addr} {h' : Heap} {tk : Nat} (k : ∀ b o, s.heap.get? b = some o → h'.get? b = some o) : Step c own G φ s G φ { s with heap := h', toks := tk } where
  g := fun _ _ e => e
  ext := .refl _
  foot := fun _ h => .inl h
  dom := fun _ _ e => .inl e
  frame := fun b o _ _ e => k b o e
  keep := fun b h => by obtain ⟨x, hx⟩ := Option.isSome_iff_exists.mp h; show (h'.get? b).isSome; rw [k b x hx]; rfl
  os := rfl
  gsz := Nat.le_refl _
  gfr := fun _ _ _ => rfl
  gft := fun _ h => .inl h
theorem assignEach_cons {t : Expr} {ts : List Expr} (h : notStar t = true) : assignEach (t :: ts) env = (false, PySem.assign t env) :: assignEach ts env := by
  cases t <;> first | rfl | cases h
theorem set_item {l : Addr} {items : Array Value} {m : Nat} {k : Int} {t : Tok} {w : Value} {Q : Unit → Shared → Prop} {E : Value → Shared → Prop} (hl : s.heap.get? l = some { cls := .type "list", data := .seq items m }) (h0 : 0 ≤ k) (hf : k < 2 ^ 63) (hn : k < items.size)
    (hQ : ∀ h' m', h'.get? l = some { cls := .type "list", data := .seq (items.setIfInBounds k.toNat w) m' } → Heap.SameBut l s.heap h' → Q () { s with heap := h' }) : wpAny (Md c) A (setItem (.ref l) (.int k t) w) Q E s := by
  have hT : s.TypeIs (.ref l) "list" := ⟨_, hl, rfl⟩
  unfold setItem
  try with_reducible refine wpAny_holding ?_
  first | refine wpAny_bind (wpAny_pure ?_) | skip
  refine wpAny_bind (wpAny_sequenceKey hT (by decide) ?_)
  refine wpAny_bind (wpAny_callSpecial?_slot (name := Str.ofString "__setitem__") hT slot_list_setitem (wpAny_call_entry slot_list_setitem hT entry_list_setitem ?_ (args_list_setitem _ _ _)))
  show wpAny _ _ (Builtin.List.listSubscript? (.int k t) >>= _) _ _ s
  refine wpAny_bind (wpAny_listSubscript_int (fitsIndex_of h0 hf) ?_)
  clear hf
  obtain ⟨j, rfl⟩ := Int.eq_ofNat_of_zero_le h0
  have hj : j < items.size := by lia
  show wpAny _ _ ((seqItemAt l j >>= fun r => pure (r.map (j, ·))) >>= _) _ _ s
  refine wpAny_bind (wpAny_bind (wpAny_seqItemAt hl rfl (wpAny_pure ?_)))
  rw [Array.getElem?_eq_getElem hj]
  show wpAny _ _ (setSeqItemAt l j w >>= _) _ _ s
  refine wpAny_bind (wpAny_setSeqItemAt hl rfl ?_)
  obtain ⟨m', hm'⟩ : ∃ m', (Obj.mapSeq (·.setIfInBounds j w) { cls := .type "list", data := .seq items m } : Obj) = { cls := .type "list", data := .seq (items.setIfInBounds j w) m' } := ⟨_, rfl⟩
  have fin := hQ (s.heap.update l (Obj.mapSeq (·.setIfInBounds j w))) m' (by rw [Int.toNat_natCast, ← hm']; exact Heap.get?_update_self _ hl (by rw [hm']; rfl)) (Heap.SameBut.update ..)
  first
    | exact wpAny_bind (wpAny_pure (wpAny_pure ⟨.none, rfl, wpAny_pure fin⟩))
    | exact wpAny_pure ⟨.none, rfl, wpAny_pure fin⟩
theorem notModule (L : LocRel c G φ env ρ s.heap) : interactive env = false := by unfold interactive; rw [L.kind]; rfl
theorem swaps_no {e : Expr} {t : Option Expr} {k : Nat} (h : isComp e = false) : swapsWith e t k env = pure false := by
  cases e <;> first | rfl | cases h
theorem filter_short {α β : Type} {f : α → Option β} : ∀ {l : List α} {x : α}, x ∈ l → f x = none → (l.filterMap f).length < l.length
  | y :: r, x, h, e => by
    rw [List.filterMap_cons]
    rcases List.mem_cons.mp h with rfl | h
    · rw [e]; exact Nat.lt_succ_of_le (List.length_filterMap_le _ _)
    · have := filter_short h e
      split
      · rw [List.length_cons]; lia
      · rw [List.length_cons, List.length_cons]; lia
theorem swapped_no {t e : Expr} (h : noSwap env.kindOf t e = true) : swappedStores [t] e env = pure none := by
  cases t <;> first | rfl | (cases e <;> first | rfl | cases h | skip)
  rename_i ts k p vs k' p'
  obtain ⟨x, hx, hk⟩ := List.any_eq_true.mp (show (ts.any _) = true from h)
  unfold swappedStores
  simp only
  split
  · rfl
  · split
    · rfl
    · have hl := filter_short (f := fun | .Name id pos => if env.kindOf id == some .local && pos.line == (ts.head?.map (·.pos.line)).getD 0 then some id else none | _ => none) hx (by
        cases x <;> first | rfl | skip
        simp only [bne_iff_ne, ne_eq] at hk
        simp [hk])
      rw [if_pos]
      rw [Bool.or_eq_true]
      exact .inl (by simp only [bne_iff_ne, ne_eq]; exact Nat.ne_of_lt hl)
theorem noSwap_star {t e : Expr} (h : noSwap kd t e = true) : notStar t = true := by
  cases t <;> first | rfl | cases h
end
section
variable {P : PI} {d : Nat} {kd : Kinds} {ρ ρ₁ ρ₂ ρ₃ ρ' : Vars} {σ σ₁ σ₂ σ₃ σ' : St} {v a b : AVal} {p : Pos}
theorem a_name {x : Str} {q : Pos} (h : (kd x == some .local || (kd x == some .cell && !P.frz x)) = true) : EvA P d kd ρ (.Name x q) v σ (Vars.set ρ x v) σ := ⟨rfl, fun H V => by
  rw [Bool.or_eq_true] at h
  exact wpAny_assign_Name (sim_store (h.elim (fun h => .inl (eq_of_beq h)) fun h => .inr (by rw [Bool.and_eq_true, Bool.not_eq_true'] at h; exact ⟨eq_of_beq h.1, h.2⟩)) H V)⟩
theorem a_attr {o : Expr} {x : Str} {q : Pos} {i : Nat} {ats : List (Str × AVal)} (h0 : (P.attrOk x && notBi v) = true) (h1 : EvE P d kd ρ o σ (.ref i) σ₁) (h2 : σ₁[i]? = some (.inst ats)) (h3 : ats.length ≤ 10) : EvA P d kd ρ (.Attribute o x q) v σ ρ (σ₁.set i (.inst (putAt x v ats))) := ⟨rfl, fun {c A env G φ s v'} H V => by
  rw [Bool.and_eq_true] at h0
  show wpAny _ _ (do
    let ov ← holding [v'] (PySem.eval o env)
    standAt q.atName
    holding [v', ov] (setAttr ov x v')
    release [v', ov] []) _ _ _
  refine wpAny_bind (wpAny_holding (wpAny_mono (h1.run H.toHere) (fun ov s₁ ⟨G₁, φ₁, R₁, V₁, S₁⟩ => wpAny_bind (wpAny_standAt (wpAny_bind (wpAny_holding ?_)))) fun _ _ e => e))
  have H₁ := H.step R₁ S₁
  cases V₁ using VRel.refE with
  | ref hl =>
    obtain ⟨m, hn, hv⟩ := H₁.l.ns
    obtain ⟨q1, q2, q3⟩ := H₁.o.loc env.locals (.head _)
    refine set_attr H.ok R₁ hl h2 hn q1 q2 h0.1 h0.2 h3 (V.mono S₁.g S₁.ext) fun h' tk R₂ hn₂ k lv => wpAny_release ?_
    have SS : Step c (owns env) G₁ φ₁ s₁ G₁ φ₁ { s₁ with heap := h', toks := tk } := step_set hl (fun b x hb ho e => k b x (fun z => ho (by rw [z]; exact .head _)) hb e) lv rfl
    have own : ∀ a o, a ∈ owns env → a ≠ env.locals → s₁.heap.get? a = some o → h'.get? a = some o := fun a o ha hne e => k a o hne (fun z => (H₁.o.away ha).1 (mem_foot hl z)) e
    refine ⟨G₁, φ₁, R₂, ⟨H₁.l.kind, H₁.l.glob, H₁.l.bi, ⟨m, hn₂, hv⟩, fun y w h1 h2 => ?_⟩, ⟨fun y hy => ?_, H.f.apart, H.f.nl⟩, (S₁.weaken fun _ h => nomatch h).trans' SS, trivial⟩
    · obtain ⟨a, w', e, ⟨oo, ho, hd⟩, r⟩ := H₁.l.cell y w h1 h2
      exact ⟨a, w', e, ⟨oo, own a oo (mem_owns (.inr ⟨y, e⟩)) (H.f.nl _ _ (mem_of_lookup e)) ho, hd⟩, r⟩
    · obtain ⟨a, v₀, e, oo, ho, hd⟩ := H₁.f.ex y hy
      exact ⟨a, v₀, e, oo, own a oo (mem_owns (.inr ⟨y, e⟩)) (H.f.nl _ _ (mem_of_lookup e)) ho, hd⟩⟩
theorem a_item {o e : Expr} {q : Pos} {j : Nat} {k : Int} {vs : List AVal} (h1 : EvE P d kd ρ o σ (.ref j) σ₁) (h2 : EvE P d kd ρ e σ₁ (.int k) σ₂) (h3 : σ₂[j]? = some (.list vs)) (hk : 0 ≤ k ∧ k < vs.length ∧ vs.length ≤ lim) :
    EvA P d kd ρ (.Subscript o e q) v σ ρ (σ₂.set j (.list (vs.set k.toNat v))) := ⟨rfl, fun {c A env G φ s v'} H V => by
  rw [assign_Subscript]
  refine wpAny_bind (wpAny_holding (wpAny_mono (h1.run H.toHere) (fun ov s₁ ⟨G₁, φ₁, R₁, V₁, S₁⟩ => wpAny_bind (wpAny_holding (wpAny_mono (h2.run (H.step R₁ S₁).toHere) (fun iv s₂ ⟨G₂, φ₂, R₂, V₂, S₂⟩ => wpAny_bind (wpAny_standAt (wpAny_bind (wpAny_holding ?_)))) fun _ _ e => e))) fun _ _ e => e))
  have H₂ := (H.step R₁ S₁).step R₂ S₂
  have SS := S₁.trans' S₂
  (cases V₂ using VRel.intE)
  have V₁' := V₁.mono S₂.g S₂.ext
  cases V₁' using VRel.refE with
  | ref hl =>
    rename_i l tk
    obtain ⟨p1, p2, items, m, e, rr⟩ := R₂.obj _ _ _ hl h3
    obtain ⟨kk, rfl⟩ := Int.eq_ofNat_of_zero_le hk.1
    have hz : kk < items.length := by rw [← rr.length]; lia
    refine set_item e hk.1 (by have := hk.2.2; unfold lim at this; lia) (by simpa using hz) fun h' m' e' hs => wpAny_release ?_
    have ne : ∀ b, b ∉ l.a :: l.ps → b ≠ l.a := fun b hb z => hb (by rw [z]; exact .head _)
    have lv : ∀ b, (s₂.heap.get? b).isSome → (h'.get? b).isSome := fun b hb => by
      by_cases z : b = l.a
      · rw [z, e']; rfl
      · rw [hs.2 b z]; exact hb
    have R₃ : Rel c G₂ φ₂ (σ₂.set j (.list (vs.set kk v))) { s₂ with heap := h' } := R₂.set hl (fun b x hb _ e => (hs.2 b (ne b hb)).trans e) (fun a ha => lv a (R₂.live a (mem_foot hl ha))) ⟨p1, p2, items.set kk v', m', by rw [e']; simp, rr.set kk (V.mono SS.g SS.ext)⟩
    have S₃ : Step c [] G₂ φ₂ s₂ G₂ φ₂ { s₂ with heap := h' } := step_set hl (fun b x hb _ e => (hs.2 b (ne b hb)).trans e) lv rfl
    have H₃ := H₂.step R₃ S₃
    exact ⟨G₂, φ₂, R₃, H₃.l, H₃.f, (SS.trans' S₃).weaken (fun _ h => nomatch h), trivial⟩⟩
theorem xs_nil : EvXs P d kd ρ [] σ .next ρ σ := .intro fun {c A env G φ s} H => wpAny_execs_nil ⟨G, φ, H.r, H.l, H.f, .refl .., .next⟩
theorem xs_cons {st : Stmt} {ss : List Stmt} {f : Flw} (h1 : EvX P d kd ρ st σ .next ρ₁ σ₁) (h2 : EvXs P d kd ρ₁ ss σ₁ f ρ' σ') : EvXs P d kd ρ (st :: ss) σ f ρ' σ' := .intro fun H => by
  refine wpAny_execs_cons (wpAny_mono (h1.run H) (fun f' s₁ ⟨G₁, φ₁, R₁, L₁, F₁, S₁, FR⟩ => ?_) fun _ _ e => e)
  cases FR
  exact Does.after (h2.run (H.then R₁ L₁ F₁ S₁)) S₁
theorem xs_ret {st : Stmt} {ss : List Stmt} (h1 : EvX P d kd ρ st σ (.ret v) ρ₁ σ₁) : EvXs P d kd ρ (st :: ss) σ (.ret v) ρ₁ σ₁ := .intro fun H => by
  refine wpAny_execs_cons (wpAny_mono (h1.run H) (fun f' s₁ ⟨G₁, φ₁, R₁, L₁, F₁, S₁, FR⟩ => ?_) fun _ _ e => e)
  cases FR with
  | ret hv => exact ⟨G₁, φ₁, R₁, L₁, F₁, S₁, .ret hv⟩
theorem x_assign {t e : Expr} (h0 : (noSwap kd t e && !isComp e) = true) (h1 : EvE P d kd ρ e σ v σ₁) (h2 : EvA P d kd ρ t v σ₁ ρ' σ') : EvX P d kd ρ (.Assign [t] e p) σ .next ρ' σ' := .intro fun {c A env G φ s} H => by
  rw [Bool.and_eq_true, Bool.not_eq_true'] at h0
  refine wpAny_Assign_stores (wpAny_mono (h1.run H.toHere) (fun v' s₁ ⟨G₁, φ₁, R₁, V₁, S₁⟩ => ?_) fun _ _ e => e) (swaps_no h0.2) (swapped_no (by rw [← H.kd]; exact h0.1))
  rw [assignEach_cons (noSwap_star h0.1)]
  show wpAny _ _ (PySem.assign t env v') _ _ _
  have S₁' := S₁.weaken (own' := owns env) fun _ h => nomatch h
  refine wpAny_mono (h2.2 (H.step R₁ S₁) V₁) (fun _ s₂ q => ?_) fun _ _ e => e
  obtain ⟨G₂, φ₂, R₂, L₂, F₂, S₂, _⟩ := q
  exact ⟨G₂, φ₂, R₂, L₂, F₂, S₁'.trans' S₂, .next⟩
theorem x_return {e : Expr} (h1 : EvE P d kd ρ e σ v σ₁) : EvX P d kd ρ (.Return (some e) p) σ (.ret v) ρ σ₁ := .intro fun H => by
  refine wpAny_Return_some (wpAny_mono (h1.run H.toHere) (fun v' s₁ ⟨G₁, φ₁, R₁, V₁, S₁⟩ => ?_) fun _ _ e => e)
  have H₁ := H.step R₁ S₁
  exact ⟨G₁, φ₁, R₁, H₁.l, H₁.f, S₁.weaken (fun _ h => nomatch h), .ret V₁⟩
theorem x_expr {e : Expr} (h0 : isComp e = false) (h1 : EvE P d kd ρ e σ v σ₁) : EvX P d kd ρ (.Expr e p) σ .next ρ σ₁ := .intro fun H => by
  refine wpAny_Expr_any (wpAny_mono (h1.run H.toHere) (fun v' s₁ ⟨G₁, φ₁, R₁, V₁, S₁⟩ => ?_) fun _ _ e => e) (notModule H.l) (swaps_no h0)
  have H₁ := H.step R₁ S₁
  exact ⟨G₁, φ₁, R₁, H₁.l, H₁.f, S₁.weaken (fun _ h => nomatch h), .next⟩
theorem x_if {t : Expr} {x y : List Stmt} {f : Flw} {z : Bool} (h1 : EvT P d kd ρ t σ z σ₁) (h2 : EvXs P d kd ρ (if z then x else y) σ₁ f ρ' σ') : EvX P d kd ρ (.If t x y p) σ f ρ' σ' := .intro fun {c A env G φ s} H => by
  refine wpAny_If (wpAny_mono (h1.run H.toHere) (fun z' s₁ ⟨e, G₁, φ₁, R₁, S₁⟩ => ?_) fun _ _ e => e)
  subst e
  have S₁' := S₁.weaken (own' := owns env) fun _ h => nomatch h
  cases z' with
  | true => exact Does.after (h2.run (H.step R₁ S₁)) S₁'
  | false => exact Does.after (h2.run (H.step R₁ S₁)) S₁'
theorem x_ifT {t : Expr} {x y : List Stmt} {f : Flw} (h1 : EvT P d kd ρ t σ true σ₁) (h2 : EvXs P d kd ρ x σ₁ f ρ' σ') : EvX P d kd ρ (.If t x y p) σ f ρ' σ' := x_if h1 h2
theorem x_ifF {t : Expr} {x y : List Stmt} {f : Flw} (h1 : EvT P d kd ρ t σ false σ₁) (h2 : EvXs P d kd ρ y σ₁ f ρ' σ') : EvX P d kd ρ (.If t x y p) σ f ρ' σ' := x_if h1 h2
theorem x_augAdd {x : Str} {q : Pos} {e : Expr} {i j : Int} (h0 : kd x = some .local) (hx : ρ x = some (.int i)) (h2 : EvE P d kd ρ e σ (.int j) σ₁) : EvX P d kd ρ (.AugAssign (.Name x q) .Add e p) σ .next (Vars.set ρ x (.int (i + j))) σ₁ := .intro fun {c A env G φ s} H => by
  have hk' := h0
  rw [H.kd] at hk'
  obtain ⟨m, hn, hv⟩ := H.l.ns
  obtain ⟨v', e', V⟩ := hv x _ hk' hx
  (cases V using VRel.intE)
  refine wpAny_AugAssign_Name (wpAny_loadName_local H.l.kind hk' hn e' (wpAny_mono (h2.run H.toHere) (fun b' s₁ ⟨G₁, φ₁, R₁, V₁, S₁⟩ => ?_) fun _ _ e => e))
  have S₁' := S₁.weaken (own' := owns env) fun _ h => nomatch h
  (cases V₁ using VRel.intE)
  refine wpAny_iadd_int ?_
  have ST : Step c [] G₁ φ₁ s₁ G₁ φ₁ { s₁ with toks := s₁.toks + 1 } := step_toks _
  refine wpAny_mono (sim_store (.inl h0) ((H.step R₁ S₁).step (R₁.toks _) ST) (.int _ _)) (fun _ s₂ q => ?_) fun _ _ e => e
  obtain ⟨G₂, φ₂, R₂, L₂, F₂, S₂, _⟩ := q
  exact ⟨G₂, φ₂, R₂, L₂, F₂, S₁'.trans' ((step_toks _).trans' S₂), .next⟩
theorem x_augSub {x : Str} {q : Pos} {e : Expr} {i j : Int} (h0 : kd x = some .local) (hx : ρ x = some (.int i)) (h2 : EvE P d kd ρ e σ (.int j) σ₁) : EvX P d kd ρ (.AugAssign (.Name x q) .Sub e p) σ .next (Vars.set ρ x (.int (i - j))) σ₁ := .intro fun {c A env G φ s} H => by
  have hk' := h0
  rw [H.kd] at hk'
  obtain ⟨m, hn, hv⟩ := H.l.ns
  obtain ⟨v', e', V⟩ := hv x _ hk' hx
  (cases V using VRel.intE)
  refine wpAny_AugAssign_Name (wpAny_loadName_local H.l.kind hk' hn e' (wpAny_mono (h2.run H.toHere) (fun b' s₁ ⟨G₁, φ₁, R₁, V₁, S₁⟩ => ?_) fun _ _ e => e))
  have S₁' := S₁.weaken (own' := owns env) fun _ h => nomatch h
  (cases V₁ using VRel.intE)
  refine PySem.P.isub_int ?_
  have ST : Step c [] G₁ φ₁ s₁ G₁ φ₁ { s₁ with toks := s₁.toks + 1 } := step_toks _
  refine wpAny_mono (sim_store (.inl h0) ((H.step R₁ S₁).step (R₁.toks _) ST) (.int _ _)) (fun _ s₂ q => ?_) fun _ _ e => e
  obtain ⟨G₂, φ₂, R₂, L₂, F₂, S₂, _⟩ := q
  exact ⟨G₂, φ₂, R₂, L₂, F₂, S₁'.trans' ((step_toks _).trans' S₂), .next⟩
inductive EvWn (P : PI) (d : Nat) (kd : Kinds) (t : Expr) (b : List Stmt) : Nat → Vars → St → Flw → Vars → St → Prop
  | fin {ρ : Vars} {σ σ₁ : St} {n : Nat} (h1 : EvT P d kd ρ t σ false σ₁) : EvWn P d kd t b n ρ σ .next ρ σ₁
  | more {ρ ρ₁ ρ' : Vars} {σ σ₁ σ₂ σ' : St} {f : Flw} {n : Nat} (h1 : EvT P d kd ρ t σ true σ₁) (h2 : EvXs P d kd ρ b σ₁ .next ρ₁ σ₂) (h3 : EvWn P d kd t b n ρ₁ σ₂ f ρ' σ') : EvWn P d kd t b (n + 1) ρ σ f ρ' σ'
  | ret {ρ ρ₁ : Vars} {σ σ₁ σ₂ : St} {v : AVal} {n : Nat} (h1 : EvT P d kd ρ t σ true σ₁) (h2 : EvXs P d kd ρ b σ₁ (.ret v) ρ₁ σ₂) : EvWn P d kd t b n ρ σ (.ret v) ρ₁ σ₂
noncomputable def EvW (P : PI) (d : Nat) (kd : Kinds) (ρ : Vars) (t : Expr) (b : List Stmt) (σ : St) (f : Flw) (ρ' : Vars) (σ' : St) : Prop := ∃ n, EvWn P d kd t b n ρ σ f ρ' σ'
theorem w_end {t : Expr} {x : List Stmt} (h1 : EvT P d kd ρ t σ false σ₁) : EvW P d kd ρ t x σ .next ρ σ₁ := ⟨0, .fin h1⟩
theorem w_more {t : Expr} {x : List Stmt} {f : Flw} (h1 : EvT P d kd ρ t σ true σ₁) (h2 : EvXs P d kd ρ x σ₁ .next ρ₁ σ₂) (h3 : EvW P d kd ρ₁ t x σ₂ f ρ' σ') : EvW P d kd ρ t x σ f ρ' σ' := let ⟨n, h⟩ := h3; ⟨n + 1, .more h1 h2 h⟩
inductive WhInv (c : Cx) (P : PI) (d : Nat) (A : Around) (env : Env) (kd : Kinds) (t : Expr) (b : List Stmt) (f : Flw) (ρ' : Vars) (σ' : St) (G : Imm) (φ : List Loc) (s : Shared) (k : Nat) (s₁ : Shared) : Prop
  | mk (ρ₁ : Vars) (σ₁ : St) (G₁ : Imm) (φ₁ : List Loc) (hw : EvWn P d kd t b k ρ₁ σ₁ f ρ' σ') (H : HereX c P d A env kd ρ₁ G₁ φ₁ σ₁ s₁) (S : Step c (owns env) G φ s G₁ φ₁ s₁)
theorem x_while {t : Expr} {b : List Stmt} {f : Flw} (h1 : EvW P d kd ρ t b σ f ρ' σ') : EvX P d kd ρ (.While t b [] p) σ f ρ' σ' := .intro fun {c A env G φ s} H => by
  obtain ⟨n, h⟩ := h1
  refine wpAny_While (codeAny_whileLoop (WhInv c P d A env kd t b f ρ' σ' G φ s) ?_ n ⟨ρ, σ, G, φ, h, H, .refl ..⟩)
  rintro k s₁ ⟨ρ₁, σ₁, G₁, φ₁, hw, H₁, S₁⟩
  cases hw with
  | fin h1 =>
    refine noE (wpAny_mono (h1.run H₁.toHere) (fun z' s₂ ⟨e, G₂, φ₂, R₂, S₂⟩ => ?_) fun _ _ e => e)
    subst e
    have H₂ := H₁.step R₂ S₂
    exact wpAny_execs_nil ⟨G₂, φ₂, R₂, H₂.l, H₂.f, S₁.trans' (S₂.weaken fun _ h => nomatch h), .next⟩
  | more h1 h2 h3 =>
    refine noE (wpAny_mono (h1.run H₁.toHere) (fun z' s₂ ⟨e, G₂, φ₂, R₂, S₂⟩ => ?_) fun _ _ e => e)
    subst e
    have H₂ := H₁.step R₂ S₂
    refine noE (wpAny_mono (h2.run H₂) (fun f' s₃ ⟨G₃, φ₃, R₃, L₃, F₃, S₃, FR⟩ => ?_) fun _ _ e => e)
    have S := (S₁.trans' (S₂.weaken fun _ h => nomatch h)).trans' S₃
    cases FR
    exact ⟨_, Nat.lt_succ_self _, _, _, G₃, φ₃, h3, H₂.then R₃ L₃ F₃ S₃, S⟩
  | ret h1 h2 =>
    refine noE (wpAny_mono (h1.run H₁.toHere) (fun z' s₂ ⟨e, G₂, φ₂, R₂, S₂⟩ => ?_) fun _ _ e => e)
    subst e
    have H₂ := H₁.step R₂ S₂
    refine noE (wpAny_mono (h2.run H₂) (fun f' s₃ ⟨G₃, φ₃, R₃, L₃, F₃, S₃, FR⟩ => ?_) fun _ _ e => e)
    have S := (S₁.trans' (S₂.weaken fun _ h => nomatch h)).trans' S₃
    cases FR with
    | ret hv => exact ⟨G₃, φ₃, R₃, L₃, F₃, S, .ret hv⟩
end
end Mini
namespace Mini
open PySem PySem.W PyProof PyProof.Rows PySem.Calls
inductive ItRel (c : Cx) (G : Imm) (φ : List Loc) (s : Shared) : AIt → Value → List Addr → Prop
  | seq {v : AVal} {i : Nat} {I l : Addr} (hI : s.heap.IsListIter I l i) (V : VRel c G φ v (.ref l)) (o : OwnOk c G φ [I] s) : ItRel c G φ s (.seq v i) (.ref I) [I]
  | rng {x k st : Int} {I : Addr} (hI : IsRangeIter s.heap I x k st) (o : OwnOk c G φ [I] s) : ItRel c G φ s (.rng x k st) (.ref I) [I]
  | tup {vs : List AVal} {i : Nat} {I t : Addr} (hI : s.heap.IsTupleIter I t i) (V : VRel c G φ (.tup vs) (.ref t)) (o : OwnOk c G φ [I] s) : ItRel c G φ s (.tup vs i) (.ref I) [I]
  | chars {x : Str} {t : Tok} {i : Nat} {I : Addr} (hI : s.heap.IsStrIter I "str_ascii_iterator" x t i) (o : OwnOk c G φ [I] s) : ItRel c G φ s (.chars x i) (.ref I) [I]
  | obj {i : Nat} {l : Loc} (h : φ[i]? = some l) : ItRel c G φ s (.obj i) (.ref l.a) []
  | dkeys {v : AVal} {n i : Nat} {I l : Addr} {ep : Nat} (hI : s.heap.IsKeyIter I l i n ep) (V : VRel c G φ v (.ref l)) (h1 : ∀ j, v = .ref j → ep = n) (h2 : ∀ ks vs, v = .sd ks vs → ∃ o es, G l = some o ∧ o.data = .dict es ep) (o : OwnOk c G φ [I] s) : ItRel c G φ s (.dkeys v n i) (.ref I) [I]
section
variable {c : Cx} {G : Imm} {φ : List Loc} {s : Shared}
theorem ItRel.seqE {v : AVal} {i : Nat} {motive : ∀ v' pr, ItRel c G φ s (.seq v i) v' pr → Prop} (seq : ∀ {I l : Addr} (hI : s.heap.IsListIter I l i) (V : VRel c G φ v (.ref l)) (o : OwnOk c G φ [I] s), motive (.ref I) [I] (.seq hI V o)) {v' : Value} {pr : List Addr} (h : ItRel c G φ s (.seq v i) v' pr) : motive v' pr h := by cases h with | seq hI V o => exact seq hI V o
theorem ItRel.rngE {x k st : Int} {motive : ∀ v' pr, ItRel c G φ s (.rng x k st) v' pr → Prop} (rng : ∀ {I : Addr} (hI : IsRangeIter s.heap I x k st) (o : OwnOk c G φ [I] s), motive (.ref I) [I] (.rng hI o)) {v' : Value} {pr : List Addr} (h : ItRel c G φ s (.rng x k st) v' pr) : motive v' pr h := by cases h with | rng hI o => exact rng hI o
end
theorem ItRel.own {c : Cx} {G : Imm} {φ : List Loc} {s : Shared} {it : AIt} {it' : Value} {pr : List Addr} (h : ItRel c G φ s it it' pr) : OwnOk c G φ pr s := by
  cases h with
  | seq _ _ o => exact o
  | rng _ o => exact o
  | tup _ _ o => exact o
  | chars _ o => exact o
  | obj _ => exact fun _ h => nomatch h
  | dkeys _ _ _ _ o => exact o
theorem ItRel.step {c : Cx} {G G' : Imm} {φ φ' : List Loc} {s s' : Shared} {it : AIt} {it' : Value} {pr own : List Addr} (h : ItRel c G φ s it it' pr) (S : Step c own G φ s G' φ' s') (hd : ∀ a ∈ pr, a ∉ own) : ItRel c G' φ' s' it it' pr := by
  have O := h.own.step S
  cases h with
  | seq hI V o =>
    obtain ⟨x, hx, r⟩ := hI
    exact .seq ⟨x, S.frame _ _ (o _ (.head _)).1 (hd _ (.head _)) hx, r⟩ (V.mono S.g S.ext) O
  | rng hI o => exact .rng (S.frame _ _ (o _ (.head _)).1 (hd _ (.head _)) hI) O
  | tup hI V o =>
    obtain ⟨x, hx, r⟩ := hI
    exact .tup ⟨x, S.frame _ _ (o _ (.head _)).1 (hd _ (.head _)) hx, r⟩ (V.mono S.g S.ext) O
  | chars hI o =>
    obtain ⟨x, hx, r⟩ := hI
    exact .chars ⟨x, S.frame _ _ (o _ (.head _)).1 (hd _ (.head _)) hx, r⟩ O
  | obj h =>
    obtain ⟨l', e, ha, _⟩ := S.ext _ _ h
    rw [← ha]; exact .obj e
  | dkeys hI V h1 h2 o =>
    obtain ⟨x, hx, r⟩ := hI
    exact .dkeys ⟨x, S.frame _ _ (o _ (.head _)).1 (hd _ (.head _)) hx, r⟩ (V.mono S.g S.ext) h1 (fun ks vs q => let ⟨o, es, q1, q2⟩ := h2 ks vs q; ⟨o, es, S.g _ _ q1, q2⟩) O
structure StepE (c : Cx) (pr : List Addr) (G : Imm) (φ : List Loc) (s : Shared) (G' : Imm) (φ' : List Loc) (s' : Shared) : Prop where
  g : Imm.Sub G G'
  ext : Ext φ φ'
  foot : ∀ b ∈ foot c φ', b ∈ Mini.foot c φ ∨ s.heap.get? b = none
  dom : ∀ b o, G' b = some o → G b = some o ∨ s.heap.get? b = none
  frame : ∀ b o, b ∉ Mini.foot c φ → b ∉ pr → s.heap.get? b = some o → s'.heap.get? b = some o
  keep : ∀ b, b ∉ pr → (s.heap.get? b).isSome → (s'.heap.get? b).isSome
  os : s'.os = s.os
  gsz : s.gens.size ≤ s'.gens.size
  gfr : ∀ k, k ∉ gfoot φ → k < s.gens.size → s'.gens[k]? = s.gens[k]?
  gft : ∀ k ∈ gfoot φ', k ∈ gfoot φ ∨ s.gens.size ≤ k
theorem Step.transE {c : Cx} {own pr : List Addr} {G₁ G₂ G₃ : Imm} {φ₁ φ₂ φ₃ : List Loc} {s₁ s₂ s₃ : Shared} (x : Step c own G₁ φ₁ s₁ G₂ φ₂ s₂) (y : StepE c pr G₂ φ₂ s₂ G₃ φ₃ s₃)
    (hp : ∀ b ∈ pr, s₁.heap.get? b = none) : Step c own G₁ φ₁ s₁ G₃ φ₃ s₃ where
  g := fun a o e => y.g a o (x.g a o e)
  ext := x.ext.trans y.ext
  foot := fun b h => by
    rcases y.foot b h with h | h
    · exact x.foot b h
    · refine .inr ?_
      cases q : s₁.heap.get? b with
      | none => rfl
      | some o => exact none_of_isSome (x.keep b (by rw [q]; rfl)) h
  dom := fun b o e => by
    rcases y.dom b o e with h | h
    · exact x.dom b o h
    · refine .inr ?_
      cases q : s₁.heap.get? b with
      | none => rfl
      | some o => exact none_of_isSome (x.keep b (by rw [q]; rfl)) h
  frame := fun b o h1 h2 e => by
    refine y.frame b o (fun h => ?_) (fun h => ?_) (x.frame b o h1 h2 e)
    · rcases x.foot b h with h | h
      · exact h1 h
      · rw [h] at e; cases e
    · rw [hp b h] at e; cases e
  keep := fun b h => y.keep b (fun q => none_of_isSome h (hp b q)) (x.keep b h)
  os := y.os.trans x.os
  gsz := Nat.le_trans x.gsz y.gsz
  gfr := fun k h1 h2 => by
    refine (y.gfr k (fun q => ?_) (Nat.lt_of_lt_of_le h2 x.gsz)).trans (x.gfr k h1 h2)
    rcases x.gft k q with q | q
    · exact h1 q
    · lia
  gft := fun k h => by
    rcases y.gft k h with h | h
    · exact x.gft k h
    · exact .inr (Nat.le_trans x.gsz h)
theorem stepE_priv {c : Cx} {G : Imm} {φ : List Loc} {s : Shared} {I : Addr} {h' : Heap} {tk : Nat} (k : ∀ b x, b ≠ I → s.heap.get? b = some x → h'.get? b = some x) : StepE c [I] G φ s G φ { s with heap := h', toks := tk } where
  g := fun _ _ e => e
  ext := .refl _
  foot := fun _ h => .inl h
  dom := fun _ _ e => .inl e
  frame := fun b x _ hb e => k b x (fun q => hb (by rw [q]; exact .head _)) e
  keep := fun b hb h => by
    obtain ⟨x, hx⟩ := Option.isSome_iff_exists.mp h
    show (h'.get? b).isSome
    rw [k b x (fun q => hb (by rw [q]; exact .head _)) hx]; rfl
  os := rfl
  gsz := Nat.le_refl _
  gfr := fun _ _ _ => rfl
  gft := fun _ h => .inl h
noncomputable def optRel (c : Cx) (G : Imm) (φ : List Loc) : Option AVal → Option Value → Prop
  | .none, .none => True
  | some v, some v' => VRel c G φ v v'
  | _, _ => False
inductive SelfIt (σ : St) (i : Nat) : Prop
  | liter {v : AVal} {j : Nat} (h : σ[i]? = some (.liter v j))
  | lend (h : σ[i]? = some .lend)
  | gen {k : GB} {ρ : Vars} {st : GSt} (h : σ[i]? = some (.gen k ρ st))
noncomputable def NextPost (c : Cx) (G : Imm) (φ : List Loc) (s : Shared) (it : AIt) (it' : Value) (pr : List Addr) (σ' : St) (r : Option (AVal × AIt)) (r' : Option Value) (s' : Shared) : Prop := ∃ G' φ', Rel c G' φ' σ' s' ∧ match r, r' with
    | .none, .none => StepE c pr G φ s G' φ' s' ∧ (genIt it = true → Step c pr G φ s G' φ' s')
    | some (v, it₂), some v' => Step c pr G φ s G' φ' s' ∧ VRel c G' φ' v v' ∧ ItRel c G' φ' s' it₂ it' pr
    | _, _ => False
structure EvN (P : PI) (d : Nat) (it : AIt) (σ : St) (r : Option (AVal × AIt)) (σ' : St) : Prop where
  intro ::
  run : ∀ {c A G φ s it' pr}, COk c P → GoodA d A → Rel c G φ σ s → ItRel c G φ s it it' pr → wpAny (Md c) A (pyNext it') (NextPost c G φ s it it' pr σ' r) (fun _ _ => False) s
  kd : ∀ w it₂, r = some (w, it₂) → it₂.kd = it.kd
section
variable {c : Cx} {P : PI} {n d : Nat} {A : Around} {env : Env} {kd : Kinds} {ρ ρ' : Vars} {G : Imm} {φ : List Loc} {σ σ' : St} {s s' : Shared} {v : AVal}
theorem rel_priv {I : Addr} (R : Rel c G φ σ s) (o : OwnOk c G φ [I] s) {h' : Heap} {tk : Nat} (k : ∀ b x, b ≠ I → s.heap.get? b = some x → h'.get? b = some x) : Rel c G φ σ { s with heap := h', toks := tk } :=
  R.same fun b x hb e => k b x (fun q => by
    subst q
    obtain ⟨h1, h2, _⟩ := o b (.head _)
    rcases hb with hb | hb
    · exact h1 hb
    · rw [h2] at hb; cases hb) e
theorem step_priv {I : Addr} {h' : Heap} {tk : Nat} (k : ∀ b x, b ≠ I → s.heap.get? b = some x → h'.get? b = some x) (hl : (h'.get? I).isSome) : Step c [I] G φ s G φ { s with heap := h', toks := tk } where
  g := fun _ _ e => e
  ext := .refl _
  foot := fun _ h => .inl h
  dom := fun _ _ e => .inl e
  frame := fun b x _ hb e => k b x (fun q => hb (by rw [q]; exact .head _)) e
  keep := fun b h => by
    by_cases q : b = I
    · subst q; exact hl
    · obtain ⟨x, hx⟩ := Option.isSome_iff_exists.mp h; show (h'.get? b).isSome; rw [k b x q hx]; rfl
  os := rfl
  gsz := Nat.le_refl _
  gfr := fun _ _ _ => rfl
  gft := fun _ h => .inl h
theorem next_list_end {it l : Addr} {i : Nat} {items : Array Value} {Q : Option Value → Shared → Prop} {E : Value → Shared → Prop} {prog : Program} {w : World} (hh : A.handled = none) (hit : s.heap.IsListIter it l i) (hl : s.heap.IsList l items) (hx : items[i]? = none)
    (hQ : ∀ h', (∀ b x, b ≠ it → s.heap.get? b = some x → h'.get? b = some x) → (∃ o, h'.get? it = some o ∧ o.cls = .type "list_iterator" ∧ o.data = .fields #[.none, .int i 0]) → Q none { s with heap := h' }) :
    wpAny (model prog w) A (pyNext (.ref it)) Q E s := by
  obtain ⟨o, ho, hc, hd⟩ := id hit
  obtain ⟨ol, hol, _, nl, hdl⟩ := hl
  unfold pyNext
  refine wpAny_bind (wpAny_attempt (wpAny_callSpecial?_slot (name := Str.ofString "__next__") hit.typeIs slot_listiter_next
    (wpAny_call_entry slot_listiter_next hit.typeIs entry_listiter_next ?_ (args_listiter_next _))))
  show wpAny _ _ (field (.ref it) 0 >>= _) _ _ s
  refine wpAny_bind (wpAny_field ho hd (x := .ref l) rfl ?_)
  show wpAny _ _ (if (Value.ref l == Value.none) = true then _ else _) _ _ s
  rw [if_neg (show ¬ ((Value.ref l == Value.none) = true) from Bool.false_ne_true)]
  show wpAny _ _ (field (.ref it) 1 >>= _) _ _ s
  refine wpAny_bind (wpAny_field ho hd (x := .int i 0) rfl ?_)
  show wpAny _ _ (seqItems? (.ref l) >>= _) _ _ s
  refine wpAny_bind (wpAny_seqItems hol hdl ?_)
  simp only [Int.toNat_natCast, hx]
  refine wpAny_bind (wpAny_rule (wpAny_bind (wpAny_setField ho hd (by simp) ?_)))
  show wpAny _ _ (newExc (.type "StopIteration") [] >>= _) _ _ _
  refine wpAny_bind ?_
  simp only [newExc, newTuple]
  refine wpAny_bind (wpAny_newObj_type ?_ (by size_fits))
  refine wpAny_bind (m := firstArgMember _ _) (wpAny_of_eq (a := Value.none) (by first | rfl | (simp only [firstArgMember]; rfl)) ?_)
  refine wpAny_newObj_type ?_ (by size_fits)
  simp only [raiseNew]
  refine wpAny_bind (wpAny_handled ?_)
  rw [show A.in1.handled = none from hh]
  refine wpAny_bind (wpAny_pure (wpAny_throw ?_))
  refine wpAny_bind (wpAny_isInstance (T := "StopIteration") (b := true) ⟨_, Heap.get?_push_size _ rfl, rfl⟩ isSubtype_stop ?_)
  have h2 := Heap.get?_update_self (Obj.mapFields (·.setIfInBounds 0 Value.none)) ho (Obj.isFreed_of_fields (Obj.data_mapFields hd _))
  refine wpAny_pure (hQ _ (fun b x hb e => Heap.get?_push_of_some _ (Heap.get?_push_of_some _ ((Heap.SameBut.update ..).extBut b x hb e))) ⟨_, Heap.get?_push_of_some _ (Heap.get?_push_of_some _ h2), (Obj.cls_mapFields ..).trans hc, ?_⟩)
  rw [Obj.data_mapFields hd]; simp
theorem n_seq {w v : AVal} {i : Nat} {vs : List AVal} (h1 : listOf? σ w = some vs) (h2 : vs[i]? = some v) : EvN P d (.seq w i) σ (some (v, .seq w (i + 1))) σ := by
  refine .intro (fun {c A G φ s it' pr} ok ha R I => ?_) (fun _ _ e => by cases e; rfl)
  cases I using ItRel.seqE with
  | seq hI V o =>
    obtain ⟨la, ob, items, m, e, g, cc, dd, rr⟩ := R.isList V h1
    cases e
    obtain ⟨x', hx', Vx⟩ := rr.get h2
    refine wpAny_pyNext_list_item (items := items.toArray) hI ⟨_, g, cc, _, dd⟩ (by simpa using hx') fun h' hI' hs => ?_
    have S : Step c [_] G φ s G φ { s with heap := h' } := step_priv (tk := s.toks) (fun b x hb e => (hs.2 b hb).trans e) (by obtain ⟨oo, e, _⟩ := hI'; rw [e]; rfl)
    exact ⟨G, φ, rel_priv (tk := s.toks) R o fun b x hb e => (hs.2 b hb).trans e, S, Vx, .seq hI' V (o.step S)⟩
theorem n_seqEnd {w : AVal} {i : Nat} {vs : List AVal} (h1 : listOf? σ w = some vs) (h2 : vs[i]? = none) : EvN P d (.seq w i) σ none σ := by
  refine .intro (fun {c A G φ s it' pr} ok ha R I => ?_) (fun _ _ e => by cases e)
  cases I using ItRel.seqE with
  | seq hI V o =>
    obtain ⟨la, ob, items, m, e, g, cc, dd, rr⟩ := R.isList V h1
    cases e
    refine next_list_end (items := items.toArray) ha.hh hI ⟨_, g, cc, _, dd⟩ (by simpa using rr.get_none h2) fun h' k hk => ?_
    exact ⟨G, φ, rel_priv (tk := s.toks) R o k, stepE_priv (tk := s.toks) k, fun _ => step_priv (tk := s.toks) k (by obtain ⟨oo, e, _⟩ := hk; rw [e]; rfl)⟩
theorem n_rng {x l s : Int} (hl : 0 < l) : EvN P d (.rng x l s) σ (some (.int x, .rng (x + s) (l - 1) s)) σ := by
  refine .intro (fun {c A G φ s it' pr} ok ha R I => ?_) (fun _ _ e => by cases e; rfl)
  cases I using ItRel.rngE with
  | rng hI o =>
    refine wpAny_pyNext_range_item hI hl fun h' hI' hs => ?_
    have S : Step c [_] G φ s G φ { s with heap := h', toks := s.toks + 1 } := step_priv (fun b x hb e => (hs.2 b hb).trans e) (by rw [hI']; rfl)
    exact ⟨G, φ, rel_priv R o fun b x hb e => (hs.2 b hb).trans e, S, .int _ _, .rng hI' (o.step S)⟩
theorem n_rngEnd {x l s : Int} (hl : ¬ 0 < l) : EvN P d (.rng x l s) σ none σ := by
  refine .intro (fun {c A G φ s it' pr} ok ha R I => ?_) (fun _ _ e => by cases e)
  cases I using ItRel.rngE with
  | rng hI o =>
    exact wpAny_pyNext_range_end ha.hh hI (by lia) fun h' hx => ⟨G, φ, rel_priv (tk := s.toks) R o fun b x hb e => hx b x hb e, stepE_priv (tk := s.toks) fun b x hb e => hx b x hb e, fun h => nomatch h⟩
theorem EvN.loopOk {it it₂ : AIt} {w : AVal} (h : EvN P d it σ (some (w, it₂)) σ') {t : Expr} (hok : LoopT t it) : LoopT t it₂ := by
  have e := h.kd _ _ rfl
  cases hok with
  | name => exact .name
  | tup h => exact .tup (e.trans h)
theorem own_new (R : Rel c G φ σ s) (o : Obj) (hf : o.isFreed = false) : OwnOk c G φ [s.heap.objs.size] { s with heap := s.heap.push o } := fun a ha => by
  cases List.mem_singleton.mp ha
  exact ⟨R.fresh_foot (get?_size _), R.fresh_G (get?_size _), by rw [Heap.get?_push_size _ hf]; rfl⟩
theorem new_only : ∀ a ∈ [s.heap.objs.size], s.heap.get? a = none := fun a ha => by cases List.mem_singleton.mp ha; exact get?_size _
theorem iterObj {i : Nat} {l : Loc} {Q : Value → Shared → Prop} {E : Value → Shared → Prop} (h : SelfIt σ i) (R : Rel c G φ σ s) (hl : φ[i]? = some l) (q : Q (.ref l.a) s) : wpAny (Md c) A (pyIter (.ref l.a)) Q E s := by
  cases h with
  | liter q' =>
    obtain ⟨_, _, la, _, h4⟩ := R.obj _ _ _ hl q'
    exact wpAny_pyIter_listiter h4 q
  | lend q' =>
    obtain ⟨_, _, o, j, ho, hc, hd⟩ := R.obj _ _ _ hl q'
    have hT : s.TypeIs (.ref _) "list_iterator" := ⟨o, ho, hc⟩
    refine wpAny_pyIter_slot hT slot_listiter_iter (wpAny_call_entry slot_listiter_iter hT entry_listiter_iter ?_ (args_listiter_iter _))
    show wpAny _ _ (ret (.ref _)) _ _ s
    exact wpAny_pure ⟨_, rfl, "list_iterator", _, hT, slot_listiter_next.lookup, q⟩
  | gen q' =>
    obtain ⟨g, _, hg, _⟩ := R.obj _ _ _ hl q'
    exact wpAny_pyIter_gen hg q
inductive ItP (c : Cx) (G : Imm) (φ : List Loc) (s : Shared) (σ : St) (it : AIt) (it' : Value) (s' : Shared) : Prop
  | mk (pr : List Addr) (R : Rel c G φ σ s') (I : ItRel c G φ s' it it' pr) (S : Step c [] G φ s G φ s') (h : ∀ a ∈ pr, s.heap.get? a = none)
structure IterR (σ : St) (v : AVal) (it : AIt) : Prop where
  intro ::
  run : ∀ {c A G φ s v'}, Rel c G φ σ s → VRel c G φ v v' → wpAny (Md c) A (pyIter v') (ItP c G φ s σ it) (fun _ _ => False) s
  self : ∀ i, it = .obj i → SelfIt σ i
theorem mk_list {i : Nat} {vs : List AVal} (q : σ[i]? = some (.list vs)) : IterR σ (.ref i) (.seq (.ref i) 0) := .intro (fun {c A G φ s v'} R V => by
    cases V using VRel.refE with
    | ref hl =>
      obtain ⟨_, _, items, m, h3, h4⟩ := R.obj _ _ _ hl q
      exact wpAny_pyIter_list (items := items.toArray) ⟨_, h3, rfl, _, rfl⟩ ⟨_, R.push _, .seq ⟨_, Heap.get?_push_size _ rfl, rfl, rfl⟩ (.ref hl) (own_new R _ rfl), step_push _, new_only⟩) fun _ e => by cases e
theorem mk_rng {a b c : Int} (hs : Builtin.Range.small a b c = true) : IterR σ (.rng a b c) (.rng a (Builtin.Range.rangeSize a b c) c) := .intro (fun {c A G φ s v'} R V => by
    cases V using VRel.rngE with
    | rng t u w e => exact wpAny_pyIter_range (R.gh _ _ e) hs ⟨_, R.push _, .rng (Heap.get?_push_size _ rfl) (own_new R _ rfl), step_push _, new_only⟩) fun _ e => by cases e
theorem folded_no {e : Expr} (h : notSet e = true) (x : Value) : foldedSetIterable e env x = pure x := by
  cases e <;> first | rfl | cases h
theorem letGo_ok {t : Expr} {it : AIt} {it' v' : Value} {pr : List Addr} {s₁ : Shared} {G₁ : Imm} {φ₁ : List Loc} {Q : Unit → Shared → Prop} {E : Value → Shared → Prop} (h : LoopT t it) (I : ItRel c G₁ φ₁ s₁ it it' pr) (q : Q () s₁) :
    wpAny (Md c) A (letOwnedTupleGo t it' v') Q E s₁ := by
  cases h with
  | name => exact wpAny_pure q
  | tup hk =>
    cases I with
    | seq hI _ _ =>
      cases v' with
      | ref T => exact wpAny_letOwnedTupleGo_listiter hI q
      | _ => exact wpAny_pure q
    | _ => cases hk
inductive EvFn (P : PI) (d : Nat) (kd : Kinds) (t : Expr) (b : List Stmt) : Nat → Vars → AIt → St → Flw → Vars → St → Prop
  | fin {ρ : Vars} {it : AIt} {σ σ₁ : St} {n : Nat} (h1 : EvN P d it σ none σ₁) : EvFn P d kd t b n ρ it σ .next ρ σ₁
  | more {ρ ρ₁ ρ₂ ρ' : Vars} {it it' : AIt} {v : AVal} {σ σ₁ σ₂ σ₃ σ' : St} {f : Flw} {n : Nat} (h1 : EvN P d it σ (some (v, it')) σ₁) (h2 : EvA P d kd ρ t v σ₁ ρ₁ σ₂) (h3 : EvXs P d kd ρ₁ b σ₂ .next ρ₂ σ₃) (h4 : EvFn P d kd t b n ρ₂ it' σ₃ f ρ' σ') : EvFn P d kd t b (n + 1) ρ it σ f ρ' σ'
  | ret {ρ ρ₁ ρ₂ : Vars} {it it' : AIt} {v w : AVal} {σ σ₁ σ₂ σ₃ : St} {n : Nat} (h1 : EvN P d it σ (some (w, it')) σ₁) (h2 : EvA P d kd ρ t w σ₁ ρ₁ σ₂) (h3 : EvXs P d kd ρ₁ b σ₂ (.ret v) ρ₂ σ₃) : EvFn P d kd t b n ρ it σ (.ret v) ρ₂ σ₃
noncomputable def EvF (P : PI) (d : Nat) (kd : Kinds) (ρ : Vars) (t : Expr) (b : List Stmt) (it : AIt) (σ : St) (f : Flw) (ρ' : Vars) (σ' : St) : Prop := ∃ n, EvFn P d kd t b n ρ it σ f ρ' σ'
end
section
variable {P : PI} {d : Nat} {kd : Kinds} {ρ ρ₁ ρ₂ ρ₃ ρ' : Vars} {σ σ₁ σ₂ σ₃ σ' : St} {v a b : AVal} {p : Pos}
theorem f_end {t : Expr} {x : List Stmt} {it : AIt} (h1 : EvN P d it σ none σ₁) : EvF P d kd ρ t x it σ .next ρ σ₁ := ⟨0, .fin h1⟩
theorem f_more {t : Expr} {x : List Stmt} {it it' : AIt} {f : Flw} (h1 : EvN P d it σ (some (v, it')) σ₁) (h2 : EvA P d kd ρ t v σ₁ ρ₁ σ₂) (h3 : EvXs P d kd ρ₁ x σ₂ .next ρ₂ σ₃) (h4 : EvF P d kd ρ₂ t x it' σ₃ f ρ' σ') : EvF P d kd ρ t x it σ f ρ' σ' :=
  let ⟨n, h⟩ := h4; ⟨n + 1, .more h1 h2 h3 h⟩
inductive ForInv (c : Cx) (P : PI) (d : Nat) (A : Around) (env : Env) (kd : Kinds) (t : Expr) (b : List Stmt) (f : Flw) (ρ' : Vars) (σ' : St) (it' : Value) (pr : List Addr) (G : Imm) (φ : List Loc) (s : Shared) (k : Nat) (s₃ : Shared) : Prop
  | mk (ρ₃ : Vars) (σ₃ : St) (it₃ : AIt) (G₃ : Imm) (φ₃ : List Loc) (hok : LoopT t it₃) (hf : EvFn P d kd t b k ρ₃ it₃ σ₃ f ρ' σ') (H : HereX c P d A env kd ρ₃ G₃ φ₃ σ₃ s₃) (I : ItRel c G₃ φ₃ s₃ it₃ it' pr) (S : Step c (owns env) G φ s G₃ φ₃ s₃)
theorem x_for {t i : Expr} {b : List Stmt} {f : Flw} {it : AIt} (h0 : notSet i = true) (h1 : EvE P d kd ρ i σ v σ₁) (h2 : IterR σ₁ v it) (hok : LoopT t it) (h4 : EvF P d kd ρ t b it σ₁ f ρ' σ') : EvX P d kd ρ (.For t i b [] p) σ f ρ' σ' := .intro fun {c A env G φ s} H => by
  obtain ⟨n, h3⟩ := h4
  refine wpAny_For (wpAny_mono (h1.run H.toHere) (fun a' s₁ ⟨G₁, φ₁, R₁, V₁, S₁⟩ => wpAny_mono (h2.run R₁ V₁) (fun it' s₂ ⟨pr, R₂, I₂, S₂, hpr⟩ => ?_) fun _ _ e => e) fun _ _ e => e) (folded_no h0)
  have H₁ := H.step R₁ S₁
  have hps : ∀ a ∈ pr, s.heap.get? a = none := fun a ha => by
    cases q : s.heap.get? a with
    | none => rfl
    | some o => exact none_of_isSome (S₁.keep a (by rw [q]; rfl)) (hpr a ha)
  have hpo : ∀ a ∈ pr, a ∉ owns env := fun a ha q => none_of_isSome (H.o.away q).2 (hps a ha)
  have S₀ : Step c (owns env) G φ s G₁ φ₁ s₂ := (S₁.trans' S₂).weaken fun _ h => nomatch h
  have turn : ∀ {ρ₃ it₃ σ₃ G₃ φ₃ s₃ v it₄ σ₄ ρ₁ σ₅ fl ρ₂ σ₆} {K : Flow → Shared → Prop}, LoopT t it₃ → HereX c P d A env kd ρ₃ G₃ φ₃ σ₃ s₃ → ItRel c G₃ φ₃ s₃ it₃ it' pr → Step c (owns env) G φ s G₃ φ₃ s₃ → EvN P d it₃ σ₃ (some (v, it₄)) σ₄ → EvA P d kd ρ₃ t v σ₄ ρ₁ σ₅ → EvXs P d kd ρ₁ b σ₅ fl ρ₂ σ₆ →
      (∀ f' G₆ φ₆ s₆, FRel c G₆ φ₆ fl f' → HereX c P d A env kd ρ₂ G₆ φ₆ σ₆ s₆ → ItRel c G₆ φ₆ s₆ it₄ it' pr → Step c (owns env) G φ s G₆ φ₆ s₆ → K f' s₆) → ∀ {E E1 E2 E3 : Value → Shared → Prop} {Kn : Shared → Prop}, wpAny (Md c) A (pyNext it') (fun r s₁ => match r with
        | none => Kn s₁
        | some v => wpAny (Md c) A (letOwnedTupleGo t it' v) (fun _ s₁' => wpAny (Md c) A (PySem.assign t env v) (fun _ s₂ => wpAny (Md c) A (PySem.execs b env) K E3 s₂) E2 s₁') E1 s₁) E s₃ := by
    intro ρ₃ it₃ σ₃ G₃ φ₃ s₃ v it₄ σ₄ ρ₁ σ₅ fl ρ₂ σ₆ K hok₃ H₃ I₃ S₃ hn h5 h6 hK E E1 E2 E3 Kn
    refine noE (wpAny_mono (hn.run H.ok H.a H₃.r I₃) (fun r' s₄ q => ?_) fun _ _ e => e)
    obtain ⟨G₄, φ₄, R₄, q⟩ := q
    cases r' with
    | none => exact q.elim
    | some w' =>
      have S₄ := q.1
      have V₄ := q.2.1
      have I₄ := q.2.2
      refine letGo_ok (hn.loopOk hok₃) I₄ ?_
      have O₄ : ∀ a o, a ∈ owns env → s₃.heap.get? a = some o → s₄.heap.get? a = some o := fun a o ha e => S₄.frame a o (H₃.o.away ha).1 (fun z => hpo a z ha) e
      have H₄ : HereX c P d A env kd ρ₃ G₄ φ₄ σ₄ s₄ := ⟨⟨H.ok, H.a, H.kd, R₄, H₃.l.keeps S₄.g S₄.ext (fun a o ha e => O₄ a o (mem_owns ha) e), H₃.o.step S₄⟩, H₃.f.keeps O₄⟩
      refine noE (wpAny_mono (h5.2 H₄ V₄) (fun _ s₅ ⟨G₅, φ₅, R₅, L₅, F₅, S₅, _⟩ => ?_) fun _ _ e => e)
      have H₅ := H₄.then R₅ L₅ F₅ S₅
      exact noE (wpAny_mono (h6.run H₅) (fun f' s₆ ⟨G₆, φ₆, R₆, L₆, F₆, S₆, FR⟩ => hK f' G₆ φ₆ s₆ FR (H₅.then R₆ L₆ F₆ S₆) ((I₄.step S₅ hpo).step S₆ hpo) (((S₃.trans S₄ fun b hb => .inr (hps b hb)).trans' S₅).trans' S₆)) fun _ _ e => e)
  refine codeAny_forLoop_any (ForInv c P d A env kd t b f ρ' σ' it' pr G φ s) ?_ n
    ⟨ρ, σ₁, it, G₁, φ₁, hok, h3, H₁.step R₂ S₂, I₂, S₀⟩
  rintro k s₃ ⟨ρ₃, σ₃, it₃, G₃, φ₃, hok₃, hf, H₃, I₃, S₃⟩
  cases hf with
  | fin hn =>
    refine noE (wpAny_mono (hn.run H.ok H.a H₃.r I₃) (fun r' s₄ q => ?_) fun _ _ e => e)
    obtain ⟨G₄, φ₄, R₄, q⟩ := q
    cases r' with
    | some _ => exact q.elim
    | none =>
      have q := q.1
      have S₄ := S₃.transE q hps
      have O₄ : ∀ a o, a ∈ owns env → s₃.heap.get? a = some o → s₄.heap.get? a = some o := fun a o ha e => q.frame a o (H₃.o.away ha).1 (fun z => hpo a z ha) e
      exact noE (wpAny_execs_nil ⟨G₄, φ₄, R₄, H₃.l.keeps q.g q.ext (fun a o ha e => O₄ a o (mem_owns ha) e), H₃.f.keeps O₄, S₄, .next⟩)
  | more hn h5 h6 hf =>
    refine wpAny_mono (turn hok₃ H₃ I₃ S₃ hn h5 h6 fun f' G₆ φ₆ s₆ FR H₆ I₆ S₆ => ?_) (fun r s h => h) fun _ _ e => e
    cases FR
    exact ⟨_, Nat.lt_succ_self _, _, _, _, G₆, φ₆, hn.loopOk hok₃, hf, H₆, I₆, S₆⟩
  | ret hn h5 h6 =>
    refine wpAny_mono (turn hok₃ H₃ I₃ S₃ hn h5 h6 fun f' G₆ φ₆ s₆ FR H₆ I₆ S₆ => ?_) (fun r s h => h) fun _ _ e => e
    cases FR with
    | ret hv => exact ⟨G₆, φ₆, H₆.r, H₆.l, H₆.f, S₆, .ret hv⟩
end
end Mini
namespace Mini
open PySem PySem.W PyProof PyProof.Rows PySem.Calls
noncomputable def clos (env : Env) : List (Str × NameKind) → List (Str × Addr) → List (Str × Addr)
  | [], acc => acc
  | (n, k) :: r, acc => if k == .free then clos env r ((n, (env.cells.lookup n).getD 0) :: acc) else clos env r acc
theorem closureFor_eq {env : Env} {scope : Scope} (h : ∀ p ∈ scope.names, p.2 = .free → (env.cells.lookup p.1).isSome = true) : closureFor scope env = pure (clos env scope.names []) := by
  unfold closureFor
  have go : ∀ (l : List (Str × NameKind)) (acc : List (Str × Addr)), (∀ p ∈ l, p.2 = .free → (env.cells.lookup p.1).isSome = true) →
      (forIn l acc fun (x : Str × NameKind) (cs : List (Str × Addr)) => if x.2 == .free then (do let a ← cellOf env x.1; pure (ForInStep.yield ((x.1, a) :: cs))) else pure (ForInStep.yield cs) : Sem _) = pure (clos env l acc) := by
    intro l
    induction l with
    | nil => intro acc _; rfl
    | cons p r ih =>
      intro acc hp
      obtain ⟨n, k⟩ := p
      rw [List.forIn_cons]
      unfold clos
      by_cases q : (k == .free) = true
      · rw [if_pos q]
        have q' : k = .free := eq_of_beq q
        obtain ⟨a, ha⟩ := Option.isSome_iff_exists.mp (hp (n, k) (.head _) q')
        have e : cellOf env n = pure a := by unfold cellOf; rw [ha]
        simp only [q, if_true, ha, Option.getD_some]
        show ((cellOf env n >>= fun a => pure (ForInStep.yield ((n, a) :: acc))) >>= _) = _
        rw [e]
        exact ih _ fun p hp' => hp p (.tail _ hp')
      · have q2 : (k == NameKind.free) = false := by simpa using q
        simp only [q2, Bool.false_eq_true, if_false]
        exact ih _ fun p hp' => hp p (.tail _ hp')
  have := go scope.names [] h
  first
    | exact this
    | (show ((forIn scope.names [] _ : Sem _) >>= fun cs => pure cs) = _; rw [this]; rfl)
    | (simp only [bind_pure] ; exact this)
theorem clos_from {env : Env} {y : Str} {a : Addr} : ∀ (l : List (Str × NameKind)) (acc : List (Str × Addr)), (∀ p ∈ l, p.2 = .free → (env.cells.lookup p.1).isSome = true) → (∀ a, acc.lookup y = some a → env.cells.lookup y = some a) →
    (clos env l acc).lookup y = some a → env.cells.lookup y = some a
  | [], acc, _, h, e => h a e
  | (n, k) :: r, acc, hs, h, e => by
    unfold clos at e
    split at e
    · rename_i q
      refine clos_from r _ (fun p hp => hs p (.tail _ hp)) (fun b hb => ?_) e
      rw [List.lookup_cons] at hb
      split at hb
      · rename_i q2
        cases hb
        have := eq_of_beq q2
        subst this
        obtain ⟨x, hx⟩ := Option.isSome_iff_exists.mp (hs (y, k) (.head _) (eq_of_beq q))
        rw [hx]; rfl
      · exact h b hb
    · exact clos_from r acc (fun p hp => hs p (.tail _ hp)) h e
theorem clos_has {env : Env} {y : Str} : ∀ (l : List (Str × NameKind)) (acc : List (Str × Addr)), ((y, NameKind.free) ∈ l ∨ (acc.lookup y).isSome = true) → ((clos env l acc).lookup y).isSome = true
  | [], acc, h => by
    rcases h with h | h
    · cases h
    · exact h
  | (n, k) :: r, acc, h => by
    unfold clos
    split
    · rename_i q
      refine clos_has r _ ?_
      rcases h with h | h
      · rcases List.mem_cons.mp h with e | h
        · cases e; exact .inr (by rw [List.lookup_cons]; simp)
        · exact .inl h
      · refine .inr ?_
        rw [List.lookup_cons]
        split
        · rfl
        · exact h
    · rename_i q
      refine clos_has r acc ?_
      rcases h with h | h
      · rcases List.mem_cons.mp h with e | h
        · cases e; exact absurd rfl q
        · exact .inl h
      · exact .inr h
theorem clos_mem {env : Env} {p : Str × Addr} : ∀ (l : List (Str × NameKind)) (acc : List (Str × Addr)), (∀ p ∈ l, p.2 = .free → (env.cells.lookup p.1).isSome = true) → p ∈ clos env l acc → p ∈ acc ∨ env.cells.lookup p.1 = some p.2
  | [], acc, _, h => .inl h
  | (n, k) :: r, acc, hs, h => by
    unfold clos at h
    split at h
    · rename_i q
      rcases clos_mem r _ (fun p hp => hs p (.tail _ hp)) h with h | h
      · rcases List.mem_cons.mp h with rfl | h
        · obtain ⟨x, hx⟩ := Option.isSome_iff_exists.mp (hs (n, k) (.head _) (eq_of_beq q))
          refine .inr ?_
          dsimp only at hx ⊢
          rw [hx]; rfl
        · exact .inl h
      · exact .inr h
    · exact clos_mem r acc (fun p hp => hs p (.tail _ hp)) h
section
variable {c : Cx} {P : PI} {n d : Nat} {A : Around} {env : Env} {kd : Kinds} {ρ ρ' : Vars} {G : Imm} {φ : List Loc} {σ σ' : St} {s s' : Shared} {v : AVal}
theorem sim_append {i : Nat} {l : Loc} {vs : List AVal} {y : AVal} {y' : Value} {Q : Value → Shared → Prop} {E : Value → Shared → Prop} (R : Rel c G φ σ s) (hl : φ[i]? = some l) (ho : σ[i]? = some (.list vs)) (V : VRel c G φ y y') (hz : vs.length ≤ lim)
    (q : ∀ s', Rel c G φ (σ.set i (.list (vs ++ [y]))) s' → Step c [] G φ s G φ s' → Q .none s') : wpAny (Md c) A (call (.builtin "list.append") [.ref l.a, y']) Q E s := by
  obtain ⟨h1, h2, items, m, h3, h4⟩ := R.obj i l _ hl ho
  refine wpAny_list_append_plain (items := items.toArray) ⟨m, h3⟩ (fun h' hp hs => ?_) (by rw [List.size_toArray, ← h4.length]; exact lim_le hz)
  obtain ⟨m', e'⟩ := hp
  have ne : ∀ b, b ∉ l.a :: l.ps → b ≠ l.a := fun b hb z => hb (by rw [z]; exact .head _)
  refine q _ (R.set hl (fun b x hb _ e => (hs.2 b (ne b hb)).trans e) (fun a ha => ?_) ⟨h1, h2, items ++ [y'], m', ?_, h4.append (.cons V .nil)⟩) (step_set hl (fun b x hb _ e => (hs.2 b (ne b hb)).trans e) (fun b hb => ?_) rfl)
  · rw [h1] at ha
    cases List.mem_singleton.mp ha
    show (h'.get? _).isSome
    rw [e']; rfl
  · show h'.get? l.a = _
    rw [e']; simp
  · by_cases z : b = l.a
    · subst z; show (h'.get? _).isSome; rw [e']; rfl
    · show (h'.get? b).isSome; rw [hs.2 b z]; exact hb
theorem sim_store_local {x : Str} {v' : Value} {Q : Unit → Shared → Prop} {E : Value → Shared → Prop} (hk : env.kindOf x = some .local) (H : Here c P d A env kd ρ G φ σ s) (nl : ∀ n a, (n, a) ∈ env.cells → a ≠ env.locals) (V : VRel c G φ v v')
    (q : ∀ s', Rel c G φ σ s' → LocRel c G φ env (Vars.set ρ x v) s'.heap → Step c [env.locals] G φ s G φ s' → Q () s') : wpAny (Md c) A (storeName env x v') Q E s := by
  obtain ⟨m, hn, hv⟩ := H.l.ns
  refine wpAny_storeName_local hk hn (fun h' hn' hs => ?_) (by rw [H.l.kind]; rfl)
  have hl : (h'.get? env.locals).isSome := by obtain ⟨o, _, _, e, _⟩ := hn'; rw [e]; rfl
  refine q _ (rel_own H.r (H.o.loc _ (.head _)).1 (H.o.loc _ (.head _)).2.1 hs) ⟨H.l.kind, H.l.glob, H.l.bi, ⟨_, hn', fun y w h1 h2 => ?_⟩, fun y w h1 h2 => ?_⟩ (step_own (.head _) hs hl)
  · unfold Vars.set at h2
    split at h2
    · rename_i z; subst z; cases h2; exact ⟨v', by simp, V⟩
    · rename_i z
      obtain ⟨w', e, r⟩ := hv y w h1 h2
      exact ⟨w', by simp [z, e], r⟩
  · unfold Vars.set at h2
    split at h2
    · rename_i z; subst z; rw [hk] at h1; rcases h1 with h1 | h1 <;> cases h1
    · obtain ⟨a, w', e, hc, r⟩ := H.l.cell y w h1 h2
      exact ⟨a, w', e, hc.sameBut hs (nl _ _ (mem_of_lookup e)), r⟩
theorem forIn_false {es : List Expr} : (forIn es false fun c r => if r = true then do let ok ← isTrue c env (PySem.eval c env); pure (ForInStep.yield ok) else pure (ForInStep.yield r) : Sem Bool) = pure false := by
  induction es with
  | nil => rfl
  | cons e r ih => rw [List.forIn_cons]; simp only [Bool.false_eq_true, if_false]; exact ih
theorem EvTs.ifs {es : List Expr} {z : Bool} {op : BoolOp} (h : EvTs P d kd ρ op es σ z σ') (ho : op = .And) : ∀ {c A env G φ s}, Here c P d A env kd ρ G φ σ s →
    GivesB c A G φ s (forIn es true fun c r => if r = true then do let ok ← isTrue c env (PySem.eval c env); pure (ForInStep.yield ok) else pure (ForInStep.yield r)) z σ' := by
  induction h with
  | nil => subst ho; intro c A env G φ s H; exact wpAny_pure ⟨rfl, G, φ, H.r, .refl ..⟩
  | andF h1 =>
    intro c A env G φ s H
    unfold GivesB
    rw [List.forIn_cons]
    simp only [if_true]
    refine wpAny_bind (wpAny_bind (wpAny_mono (h1.run H) (fun z' s₁ ⟨e', G₁, φ₁, R₁, S₁⟩ => wpAny_pure ?_) fun _ _ e => e))
    subst e'
    dsimp only
    rw [forIn_false]
    exact wpAny_pure ⟨rfl, G₁, φ₁, R₁, S₁⟩
  | andT h1 h2 ih =>
    intro c A env G φ s H
    unfold GivesB
    rw [List.forIn_cons]
    simp only [if_true]
    refine wpAny_bind (wpAny_bind (wpAny_mono (h1.run H) (fun z' s₁ ⟨e', G₁, φ₁, R₁, S₁⟩ => wpAny_pure ?_) fun _ _ e => e))
    subst e'
    exact GivesB.after (ih rfl (H.step R₁ S₁)) S₁
  | orT => cases ho
  | orF => cases ho
inductive EvCn (P : PI) (d : Nat) (kd : Kinds) (ρ : Vars) (x : Str) (elt : Expr) (ifs : List Expr) (acc : Nat) : Nat → AIt → St → St → Prop
  | fin {n : Nat} {it : AIt} {σ σ₁ : St} (h1 : EvN P d it σ none σ₁) : EvCn P d kd ρ x elt ifs acc n it σ σ₁
  | take {n : Nat} {it it' : AIt} {a v : AVal} {vs : List AVal} {σ σ₁ σ₂ σ₃ σ' : St} (h1 : EvN P d it σ (some (a, it')) σ₁) (h2 : EvTs P d kd (Vars.set ρ x a) .And ifs σ₁ true σ₂) (h3 : EvE P d kd (Vars.set ρ x a) elt σ₂ v σ₃) (h4 : σ₃[acc]? = some (.list vs)) (h5 : vs.length ≤ lim)
      (h6 : EvCn P d kd ρ x elt ifs acc n it' (σ₃.set acc (.list (vs ++ [v]))) σ') : EvCn P d kd ρ x elt ifs acc (n + 1) it σ σ'
  | skip {n : Nat} {it it' : AIt} {a : AVal} {σ σ₁ σ₂ σ' : St} (h1 : EvN P d it σ (some (a, it')) σ₁) (h2 : EvTs P d kd (Vars.set ρ x a) .And ifs σ₁ false σ₂) (h6 : EvCn P d kd ρ x elt ifs acc n it' σ₂ σ') : EvCn P d kd ρ x elt ifs acc (n + 1) it σ σ'
noncomputable def EvCm (P : PI) (d : Nat) (kd : Kinds) (ρ : Vars) (x : Str) (elt : Expr) (ifs : List Expr) (acc : Nat) (it : AIt) (σ : St) (σ' : St) : Prop := ∃ n, EvCn P d kd ρ x elt ifs acc n it σ σ'
theorem cm_end {x elt ifs acc it} {σ₁ : St} (h1 : EvN P d it σ .none σ₁) : EvCm P d kd ρ x elt ifs acc it σ σ₁ := ⟨0, .fin h1⟩
theorem cm_take {x elt ifs acc it it' vs} {a : AVal} {σ₁ σ₂ σ₃ : St} (h1 : EvN P d it σ (some (a, it')) σ₁) (h2 : EvTs P d kd (Vars.set ρ x a) .And ifs σ₁ true σ₂) (h3 : EvE P d kd (Vars.set ρ x a) elt σ₂ v σ₃) (h4 : σ₃[acc]? = some (.list vs)) (h5 : vs.length ≤ lim)
    (h6 : EvCm P d kd ρ x elt ifs acc it' (σ₃.set acc (.list (vs ++ [v]))) σ') : EvCm P d kd ρ x elt ifs acc it σ σ' := let ⟨n, h⟩ := h6; ⟨n + 1, .take h1 h2 h3 h4 h5 h⟩
theorem cm_skip {x elt ifs acc it it'} {a : AVal} {σ₁ σ₂ : St} (h1 : EvN P d it σ (some (a, it')) σ₁) (h2 : EvTs P d kd (Vars.set ρ x a) .And ifs σ₁ false σ₂) (h6 : EvCm P d kd ρ x elt ifs acc it' σ₂ σ') : EvCm P d kd ρ x elt ifs acc it σ σ' := let ⟨n, h⟩ := h6; ⟨n + 1, .skip h1 h2 h⟩
theorem relabelK_eq (scope : Scope) (hk : env.scope.kind = .function) (hkd : kd = env.kindOf) (y : Str) : relabelK scope.names kd y = (relabel scope env).names.lookup y := by
  subst hkd
  unfold relabelK relabel
  congr 1
  refine List.map_congr_left fun p _ => ?_
  rw [hk]
  cases p.2 <;> simp
inductive CompEnd (c : Cx) (G : Imm) (φ : List Loc) (s : Shared) (acc : Nat) (accA C : Addr) (σ' : St) (s' : Shared) : Prop
  | mk (G' : Imm) (φ' : List Loc) (R : Rel c G' φ' σ' s') (S : Step c [] G φ s G' φ' s') (a : ∃ la : Loc, φ'[acc]? = some la ∧ la.a = accA) (n : ∃ m, s'.heap.Ns C m) (o : OwnOk c G' φ' [C] s')
inductive CmInv (c : Cx) (P : PI) (d : Nat) (A : Around) (cenv : Env) (kd' : Kinds) (ρ₀ : Vars) (x : Str) (elt : Expr) (ifs : List Expr) (acc : Nat) (accA : Addr) (it' : Value) (pr : List Addr) (σ' : St) (G : Imm) (φ : List Loc) (s : Shared) (k : Nat) (s₂ : Shared) : Prop
  | mk (σ₂ : St) (it₂ : AIt) (G₂ : Imm) (φ₂ : List Loc) (h : EvCn P d kd' ρ₀ x elt ifs acc k it₂ σ₂ σ') (H : Here c P d A cenv kd' ρ₀ G₂ φ₂ σ₂ s₂) (I : ItRel c G₂ φ₂ s₂ it₂ it' pr) (S : Step c [] G φ s G₂ φ₂ s₂) (la : Loc) (h1 : φ₂[acc]? = some la) (h2 : la.a = accA)
theorem comp_loop {x : Str} {px pos : Pos} {elt iter : Expr} {ifs : List Expr} {scope : Scope} {acc : Nat} {accA : Addr} {it : AIt} {it' : Value} {pr : List Addr} {cenv : Env} {kd' : Kinds} {ρ₀ : Vars} {G₁ : Imm} {φ₁ : List Loc} {σ₁ : St} {s₁ : Shared} {R : Result → Shared → Prop}
    (h : EvCm P d kd' ρ₀ x elt ifs acc it σ₁ σ') (H : Here c P d A cenv kd' ρ₀ G₁ φ₁ σ₁ s₁) (I : ItRel c G₁ φ₁ s₁ it it' pr) (S : Step c [] G φ s G₁ φ₁ s₁) (ha : ∃ la : Loc, φ₁[acc]? = some la ∧ la.a = accA)
    (hx : cenv.kindOf x = some .local) (hx0 : ρ₀ x = none) (nl : ∀ n a, (n, a) ∈ cenv.cells → a ≠ cenv.locals) (hC : s.heap.get? cenv.locals = none) (hp : ∀ a ∈ pr, s.heap.get? a = none) (hpc : ∀ a ∈ pr, a ∉ owns cenv)
    (hR : ∀ s', CompEnd c G φ s acc accA cenv.locals σ' s' → R (.ok .next) s') :
    codeAny (Md c) A (.compLoop (.ListComp elt [⟨.Name x px, iter, ifs, 0⟩] scope pos) 0 it' (.ref accA) cenv) R s₁ := by
  obtain ⟨n, h⟩ := h
  obtain ⟨la₀, ha₁, ha₂⟩ := ha
  refine codeAny_compLoop_tests (CmInv c P d A cenv kd' ρ₀ x elt ifs acc accA it' pr σ' G φ s) ?_ n
    ⟨σ₁, it, G₁, φ₁, h, H, I, S, la₀, ha₁, ha₂⟩
  rintro k s₂ ⟨σ₂, it₂, G₂, φ₂, hc, H₂, I₂, S₂, la, hla, hae⟩
  have noown : ∀ (a : Addr), a ∈ pr → a ∉ ([] : List Addr) := fun _ _ h => nomatch h
  have hdp : ∀ a ∈ pr, a ∉ [cenv.locals] := fun a ha z => hpc a ha (by rw [List.mem_singleton.mp z]; exact .head _)
  have back : ∀ {w G₆ φ₆ σ₆ s₆}, Rel c G₆ φ₆ σ₆ s₆ → LocRel c G₆ φ₆ cenv (Vars.set ρ₀ x w) s₆.heap → Owns c G₆ φ₆ cenv s₆ → Here c P d A cenv kd' ρ₀ G₆ φ₆ σ₆ s₆ := fun R₆ L₆ O₆ =>
    ⟨H.ok, H.a, H.kd, R₆, ⟨L₆.kind, L₆.glob, L₆.bi, (let ⟨m, hn, hv⟩ := L₆.ns; ⟨m, hn, fun y u h1 h2 => hv y u h1 (by
        unfold Vars.set
        split
        · rename_i z; subst z; rw [hx0] at h2; cases h2
        · exact h2)⟩), fun y u h1 h2 => L₆.cell y u h1 (by
        unfold Vars.set
        split
        · rename_i z; subst z; rw [hx0] at h2; cases h2
        · exact h2)⟩, O₆⟩
  -- one element is taken and bound
  have turn : ∀ {w it₃ σ₃} {K : Shared → Prop}, EvN P d it₂ σ₂ (some (w, it₃)) σ₃ → (∀ G₃ φ₃ s₄, Here c P d A cenv kd' (Vars.set ρ₀ x w) G₃ φ₃ σ₃ s₄ → ItRel c G₃ φ₃ s₄ it₃ it' pr → Step c [] G φ s G₃ φ₃ s₄ → (∃ la : Loc, φ₃[acc]? = some la ∧ la.a = accA) → K s₄) →
      ∀ {E : Value → Shared → Prop} {Kn : Shared → Prop}, wpAny (Md c) A (pyNext it') (fun r s₃ => match r with
        | none => Kn s₃
        | some v => wpAny (Md c) A (PySem.assign (.Name x px) cenv v) (fun _ s₄ => K s₄) E s₃) E s₂ := by
    intro w it₃ σ₃ K hn hK E Kn
    refine noE (wpAny_mono (hn.run H.ok H.a H₂.r I₂) (fun r' s₃ q => ?_) fun _ _ e => e)
    obtain ⟨G₃, φ₃, R₃, q⟩ := q
    cases r' with
    | none => exact q.elim
    | some w' =>
      obtain ⟨S₃, V₃, I₃⟩ := q
      have O₃ : ∀ a o, a ∈ owns cenv → s₂.heap.get? a = some o → s₃.heap.get? a = some o := fun a o ha e => S₃.frame a o (H₂.o.away ha).1 (fun z => hpc a z ha) e
      have H₃ : Here c P d A cenv kd' ρ₀ G₃ φ₃ σ₃ s₃ := ⟨H.ok, H.a, H.kd, R₃, H₂.l.keeps S₃.g S₃.ext (fun a o ha e => O₃ a o (mem_owns ha) e), H₂.o.step S₃⟩
      refine wpAny_assign_Name (sim_store_local hx H₃ nl V₃ fun s₄ R₄ L₄ S₄ => ?_)
      obtain ⟨la₃, e₃, ha₃, _⟩ := S₃.ext _ _ hla
      exact hK G₃ φ₃ s₄ ⟨H.ok, H.a, H.kd, R₄, L₄, H₃.o.step S₄⟩ (I₃.step S₄ hdp) ((S₂.trans S₃ fun b hb => .inr (hp b hb)).trans S₄ fun b hb => .inr (by rw [List.mem_singleton.mp hb]; exact hC)) ⟨la₃, e₃, ha₃.trans hae⟩
  cases hc with
  | fin hn =>
    refine noE (wpAny_mono (hn.run H.ok H.a H₂.r I₂) (fun r' s₃ q => ?_) fun _ _ e => e)
    obtain ⟨G₃, φ₃, R₃, q⟩ := q
    cases r' with
    | some _ => exact q.elim
    | none =>
      have q := q.1
      obtain ⟨la', e', ha', _⟩ := q.ext _ _ hla
      obtain ⟨mm, ⟨o, es, ep, ho, hr⟩, _⟩ := H₂.l.ns
      have hC₂ := H₂.o.loc cenv.locals (.head _)
      have hCp : cenv.locals ∉ pr := fun z => hpc _ z (.head _)
      have hCs := q.frame _ _ hC₂.1 hCp ho
      refine hR _ ⟨G₃, φ₃, R₃, S₂.transE q hp, ⟨la', e', ha'.trans hae⟩, ⟨mm, o, es, ep, hCs, hr⟩, fun a ha => ?_⟩
      cases List.mem_singleton.mp ha
      refine ⟨fun z => ?_, ?_, by rw [hCs]; rfl⟩
      · rcases q.foot _ z with z | z
        · exact hC₂.1 z
        · exact none_of_isSome hC₂.2.2 z
      · cases z : G₃ cenv.locals with
        | none => rfl
        | some o' =>
          rcases q.dom _ _ z with z | z
          · rw [hC₂.2.1] at z; cases z
          · exact none_of_isSome hC₂.2.2 z
  | take hn h2 h3 h4 h5 h6 =>
    refine wpAny_mono (turn hn fun G₃ φ₃ s₄ H₄ I₄ SS₄ hla₃ => noE (wpAny_mono (h2.ifs rfl H₄) (fun ok' s₅ ⟨e, G₅, φ₅, R₅, S₅⟩ => ?_) fun _ _ e => e)) (fun r s h => h) fun _ _ e => e
    subst e
    have H₅ := H₄.step R₅ S₅
    obtain ⟨la₃, e₃, ha₃⟩ := hla₃
    obtain ⟨la₅, e₅, ha₅, _⟩ := S₅.ext _ _ e₃
    simp only [if_true]
    refine noE (wpAny_mono (h3.run H₅) (fun y' s₆ ⟨G₆, φ₆, R₆, V₆, S₆⟩ => ?_) fun _ _ e => e)
    have H₆ := H₅.step R₆ S₆
    obtain ⟨la₆, e₆, ha₆, _⟩ := S₆.ext _ _ e₅
    have ha₆' : la₆.a = accA := ha₆.trans (ha₅.trans ha₃)
    rw [← ha₆']
    refine sim_append R₆ e₆ h4 V₆ h5 fun s₇ R₇ S₇ => ?_
    have H₇ := H₆.step R₇ S₇
    exact ⟨_, Nat.lt_succ_self _, _, _, G₆, φ₆, h6, back R₇ H₇.l H₇.o, ((I₄.step S₅ noown).step S₆ noown).step S₇ noown, ((SS₄.trans' S₅).trans' S₆).trans' S₇, la₆, e₆, rfl⟩
  | skip hn h2 h6 =>
    refine wpAny_mono (turn hn fun G₃ φ₃ s₄ H₄ I₄ SS₄ hla₃ => noE (wpAny_mono (h2.ifs rfl H₄) (fun ok' s₅ ⟨e, G₅, φ₅, R₅, S₅⟩ => ?_) fun _ _ e => e)) (fun r s h => h) fun _ _ e => e
    subst e
    have H₅ := H₄.step R₅ S₅
    obtain ⟨la₃, e₃, ha₃⟩ := hla₃
    obtain ⟨la₅, e₅, ha₅, _⟩ := S₅.ext _ _ e₃
    simp only [Bool.false_eq_true, if_false]
    exact ⟨_, Nat.lt_succ_self _, _, _, G₅, φ₅, h6, back R₅ H₅.l H₅.o, I₄.step S₅ noown, SS₄.trans' S₅, la₅, e₅, ha₅.trans ha₃⟩
end
end Mini
namespace Mini
open PySem PySem.W PyProof PyProof.Rows PySem.Calls
section
variable {c : Cx} {P : PI} {n d : Nat} {A : Around} {env : Env} {kd : Kinds} {ρ ρ' : Vars} {G : Imm} {φ : List Loc} {σ σ' σ₁ : St} {s s' : Shared} {v a : AVal}
theorem iterSelf {it : AIt} {it' : Value} {pr : List Addr} {Q : Value → Shared → Prop} {E : Value → Shared → Prop} (R : Rel c G φ σ s) (I : ItRel c G φ s it it' pr) (hm : ∀ i, it = .obj i → SelfIt σ i) (q : Q it' s) : wpAny (Md c) A (pyIter it') Q E s := by
  cases I with
  | seq hI _ _ => exact wpAny_pyIter_listiter hI q
  | rng hI _ => exact wpAny_pyIter_rangeiter hI q
  | tup hI _ _ => exact wpAny_pyIter_tupleiter hI q
  | chars hI _ => exact wpAny_pyIter_striter_ascii hI q
  | obj hl => exact iterObj (hm _ rfl) R hl q
  | dkeys hI _ _ _ _ => exact wpAny_pyIter_keyiter hI q
theorem SelfIt.grow {i : Nat} (h : SelfIt σ i) (o : AObj) : SelfIt (σ ++ [o]) i := by
  have k : ∀ {x : AObj}, σ[i]? = some x → (σ ++ [o])[i]? = some x := fun e => by rw [List.getElem?_append_left (List.getElem?_eq_some_iff.mp e).1]; exact e
  cases h with
  | liter q => exact .liter (k q)
  | lend q => exact .lend (k q)
  | gen q => exact .gen (k q)
theorem all_mem {α : Type} {p : α → Bool} {l : List α} (h : l.all p = true) {x : α} (hx : x ∈ l) : p x = true := List.all_eq_true.mp h x hx
theorem comp_run {x : Str} {px pos : Pos} {elt iter : Expr} {ifs : List Expr} {scope : Scope} {it : AIt} {use : Option (Value → Sem Unit)} {Q : Value → Shared → Prop} {pos' : Pos}
    (hok' : compOk scope kd ρ x = true) (hset : notSet iter = true) (h1 : EvE P d kd ρ iter σ a σ₁) (h2 : IterR σ₁ a it)
    (h3 : EvCm P d (relabelK scope.names kd) (freeVars (relabelK scope.names kd) ρ) x elt ifs σ₁.length it (σ₁ ++ [.list []]) σ') (H : Here c P d A env kd ρ G φ σ s)
    (hQ : ∀ accA C s', s.heap.get? C = none → CompEnd c G φ s σ₁.length accA C σ' s' → compPost (Md c) A (fun _ _ => False) use Q (.ref accA) C (.ok .next) s') :
    wpAny (Md c) A (comprehension (.ListComp elt [⟨.Name x px, iter, ifs, 0⟩] scope pos) scope env pos' (PySem.newList []) false (PySem.eval iter env) use) Q (fun _ _ => False) s := by
  unfold compOk at hok'
  simp only [Bool.and_eq_true] at hok'
  obtain ⟨⟨hk, hall⟩, hxl⟩ := hok'
  have hk := eq_of_beq hk
  have hxl := eq_of_beq hxl
  have hfree : ∀ p ∈ scope.names, p.2 = .free → (kd p.1 = some .cell ∨ kd p.1 = some .free) ∧ (ρ p.1).isSome = true := fun p hp hf => by
    have := all_mem hall hp
    simp only [Bool.and_eq_true, Bool.or_eq_true, bne_iff_ne, ne_eq, beq_iff_eq] at this
    rcases this.2 with z | z
    · exact absurd hf z
    · exact z
  have hcell : ∀ p ∈ scope.names, p.2 ≠ .cell := fun p hp => by
    have := all_mem hall hp
    simp only [Bool.and_eq_true, bne_iff_ne, ne_eq] at this
    exact this.1.1
  have hnames : ∀ p ∈ scope.names, p.2 = .local → scope.names.lookup p.1 = some .local := fun p hp hl => by
    have := all_mem hall hp
    simp only [Bool.and_eq_true, Bool.or_eq_true, bne_iff_ne, ne_eq, beq_iff_eq] at this
    rcases this.1.2 with z | z
    · exact absurd hl z
    · exact z
  have hlook : ∀ p ∈ scope.names, p.2 = .free → (env.cells.lookup p.1).isSome = true := fun p hp hf => by
    obtain ⟨h1, h2⟩ := hfree p hp hf
    obtain ⟨w, hw⟩ := Option.isSome_iff_exists.mp h2
    rw [H.kd] at h1
    obtain ⟨ca, _, e, _⟩ := H.l.cell p.1 w h1 hw
    rw [e]; rfl
  refine wpAny_comprehension_free rfl (folded_no hset) (closureFor_eq hlook) hk hnames ?_
  refine wpAny_mono (h1.run H) (fun a' s₁ ⟨G₁, φ₁, R₁, V₁, S₁⟩ => wpAny_mono (h2.run R₁ V₁) (fun it' s₂ ⟨pr, R₂, I₂, S₂, hpr⟩ => ?_) fun _ _ e => e) fun _ _ e => e
  have H₂ := (H.step R₁ S₁).step R₂ S₂
  refine wpAny_newList ?_ (by rw [sizeLine_eq]; exact Nat.zero_le _)
  obtain ⟨G₃, φ₃, R₃, V₃, S₃⟩ := R₂.newList (vs := []) (items := []) .nil
  have H₃ := H₂.step R₃ S₃
  refine wpAny_newFunctionEnv hcell (fun _ hb => nomatch hb) (fun h' hn hs => ?_) hk
  -- the block's own names
  generalize hs₃ : ({ s₂ with heap := s₂.heap.push { cls := .type "list", data := .seq ([] : List Value).toArray } } : Shared) = s₃ at *
  have k4 : ∀ b o, s₃.heap.get? b = some o → h'.get? b = some o := fun b o e => hs.extBut b o (fun z => by rw [z, get?_size] at e; cases e) (Heap.get?_push_of_some _ e)
  have S₄ : Step c [] G₃ φ₃ s₃ G₃ φ₃ { s₃ with heap := h', toks := s₃.toks + ([] : List (Str × Value)).length } := step_ext k4
  have R₄ := rel_ext (tk := s₃.toks + ([] : List (Str × Value)).length) R₃ k4
  have H₄ := H₃.step R₄ S₄
  have SS : Step c [] G φ s G₃ φ₃ { s₃ with heap := h', toks := s₃.toks + ([] : List (Str × Value)).length } := ((S₁.trans' S₂).trans' S₃).trans' S₄
  have dead : ∀ {b : Addr}, s₁.heap.get? b = none → s.heap.get? b = none := fun {b} e => by
    cases q : s.heap.get? b with
    | none => rfl
    | some o => exact none_of_isSome (S₁.keep b (by rw [q]; rfl)) e
  have dead3 : s.heap.get? s₃.heap.objs.size = none := by
    cases q : s.heap.get? s₃.heap.objs.size with
    | none => rfl
    | some o => exact none_of_isSome (((S₁.trans' S₂).trans' S₃).keep _ (by rw [q]; rfl)) (get?_size _)
  have hCl : (h'.get? s₃.heap.objs.size).isSome := by obtain ⟨o, _, _, e, _⟩ := hn; rw [e]; rfl
  have hcs : ∀ p ∈ clos env scope.names [], env.cells.lookup p.1 = some p.2 := fun p hp => (clos_mem _ _ hlook hp).elim (fun z => nomatch z) id
  have hcl : ∀ p ∈ clos env scope.names [], p.2 ≠ s₃.heap.objs.size := fun p hp z => by
    have := (H₃.o.cel _ _ (hcs p hp)).2.1
    rw [z, get?_size] at this; cases this
  let cenv : Env := { newEnv scope s₃.heap.objs.size env.globals (clos env scope.names []) env.qual none .none (some env) builtinsNs with scope := relabel scope env }
  have hkd : relabelK scope.names kd = cenv.kindOf := funext fun y => relabelK_eq scope H.l.kind H.kd y
  have hlocal : ∀ y, scope.names.lookup y = some .local → cenv.kindOf y = some .local := fun y hy => lookup_relabel_local hy
  have hfreeOf : ∀ y, (cenv.kindOf y = some .cell ∨ cenv.kindOf y = some .free) → (y, NameKind.free) ∈ scope.names := fun y hy => by
    have hm : ∃ k, (y, k) ∈ (relabel scope env).names ∧ (k = .cell ∨ k = .free) := by
      rcases hy with hy | hy
      · exact ⟨_, mem_of_lookup hy, .inl rfl⟩
      · exact ⟨_, mem_of_lookup hy, .inr rfl⟩
    obtain ⟨k, hm, hkk⟩ := hm
    obtain ⟨⟨y', k'⟩, hp, e⟩ := List.mem_map.mp hm
    dsimp only at e
    split at e
    · rename_i q
      simp only [Bool.and_eq_true] at q
      cases e
      have := eq_of_beq q.1.1
      subst this
      exact hp
    · cases e
      rcases hkk with z | z
      · exact absurd z (hcell _ hp)
      · subst z; exact hp
  have L₄ : LocRel c G₃ φ₃ cenv (freeVars (relabelK scope.names kd) ρ) h' := by
    refine ⟨hk, H.l.glob, H.l.bi, ⟨_, hn, fun y w h1 h2 => ?_⟩, fun y w h1 h2 => ?_⟩
    · unfold freeVars at h2
      rw [hkd, h1] at h2
      (cases h2)
    · have hy := hfreeOf y h1
      have h2' : ρ y = some w := by
        unfold freeVars at h2
        rw [hkd] at h2
        rcases h1 with z | z <;> (rw [z] at h2; exact h2)
      obtain ⟨hko, _⟩ := hfree _ hy rfl
      rw [H.kd] at hko
      obtain ⟨ca, w', e, hc, r⟩ := H₄.l.cell y w hko h2'
      obtain ⟨ca', e'⟩ := Option.isSome_iff_exists.mp (clos_has (env := env) scope.names [] (.inl hy))
      have := clos_from scope.names [] hlook (fun _ z => by cases z) e'
      rw [e] at this
      cases this
      exact ⟨ca, w', e', hc, r⟩
  have hcellOf : ∀ y, cenv.kindOf y = some .cell → env.kindOf y = some .cell := fun y hy => by
    obtain ⟨⟨y', k'⟩, hp, e⟩ := List.mem_map.mp (show (y, NameKind.cell) ∈ (relabel scope env).names from mem_of_lookup hy)
    dsimp only at e
    split at e
    · rename_i q
      simp only [Bool.and_eq_true] at q
      cases e
      first
        | exact eq_of_beq q.2
        | exact eq_of_beq q.1.2
    · cases e
      exact absurd rfl (hcell _ hp)
  have O₄ : Owns c G₃ φ₃ cenv { s₃ with heap := h', toks := s₃.toks + ([] : List (Str × Value)).length } := by
    refine ⟨fun b hb => ?_, fun y b hb => ?_⟩
    · cases List.mem_singleton.mp hb
      exact ⟨R₃.fresh_foot (get?_size _), R₃.fresh_G (get?_size _), hCl⟩
    · obtain ⟨z1, z2, z3⟩ := H₄.o.cel y b (hcs (y, b) (mem_of_look hb))
      exact ⟨z1, z2, fun hy => z3 (hcellOf y hy)⟩
  have HC : Here c P d A cenv (relabelK scope.names kd) (freeVars (relabelK scope.names kd) ρ) G₃ φ₃ (σ₁ ++ [.list []]) { s₃ with heap := h', toks := s₃.toks + ([] : List (Str × Value)).length } := ⟨H.ok, H.a, hkd, R₄, L₄, O₄⟩
  have noown : ∀ (a : Addr), a ∈ pr → a ∉ ([] : List Addr) := fun _ _ h => nomatch h
  have I₄ := (I₂.step S₃ noown).step S₄ noown
  have hla : ∃ la : Loc, φ₃[σ₁.length]? = some la ∧ la.a = s₂.heap.objs.size := by
    generalize hv : (Value.ref s₂.heap.objs.size) = vv at V₃
    cases V₃ using VRel.refE with
    | ref e => exact ⟨_, e, (Value.ref.inj hv).symm⟩
  have hpc : ∀ b ∈ pr, b ∉ owns cenv := fun b hb z => by
    have hb1 := hpr b hb
    rcases of_owns z with z | ⟨x, z⟩
    · subst z
      have := (I₂.step S₃ noown).own _ hb
      exact none_of_isSome this.2.2 (get?_size _)
    · have := ((H.step R₁ S₁).o.cel x b (hcs (x, b) (mem_of_look z))).2.1
      exact none_of_isSome this hb1
  have loop : ∀ {it'' : Value} (_ : it'' = it'), codeAny (Md c) A (.compLoop (.ListComp elt [⟨.Name x px, iter, ifs, 0⟩] scope pos) 0 it'' (.ref s₂.heap.objs.size) cenv) (compPost (Md c) A (fun _ _ => False) use Q (.ref s₂.heap.objs.size) cenv.locals) { s₃ with heap := h', toks := s₃.toks + ([] : List (Str × Value)).length } := by
    intro it'' e
    subst e
    refine comp_loop h3 HC I₄ SS hla (hlocal x hxl) ?_ (fun n a hm => hcl (n, a) hm) dead3 (fun a ha => dead (hpr a ha)) hpc fun s' hs' => hQ _ _ s' dead3 hs'
    unfold freeVars
    rw [hkd, hlocal x hxl]
  refine codeAny_compStart_list (loop rfl) ?_
  exact noE (iterSelf R₄ I₄ (fun i hi => by subst hi; exact (h2.self _ rfl).grow _) (loop rfl))
end
section
variable {P : PI} {d : Nat} {kd : Kinds} {ρ ρ₁ ρ₂ ρ₃ ρ' : Vars} {σ σ₁ σ₂ σ₃ σ' : St} {v a b : AVal} {p : Pos}
theorem e_comp {elt iter : Expr} {x : Str} {px : Pos} {ifs : List Expr} {scope : Scope} {it : AIt} (h0 : compOk scope kd ρ x = true) (h0' : notSet iter = true) (h1 : EvE P d kd ρ iter σ a σ₁) (h2 : IterR σ₁ a it)
    (h3 : EvCm P d (relabelK scope.names kd) (freeVars (relabelK scope.names kd) ρ) x elt ifs σ₁.length it (σ₁ ++ [.list []]) σ') : EvE P d kd ρ (.ListComp elt [⟨.Name x px, iter, ifs, 0⟩] scope p) σ (.ref σ₁.length) σ' := .intro fun {c A env G φ s} H => by
  show wpAny (Md c) A (comprehension (.ListComp elt [⟨.Name x px, iter, ifs, 0⟩] scope p) scope env _ (PySem.newList []) false (PySem.eval iter env) none) _ _ s
  refine comp_run h0 h0' h1 h2 h3 H fun accA C s' hC ⟨G', φ', R', S', ⟨la, hla, hae⟩, ⟨m, hm⟩, O⟩ => ⟨m, hm, fun h' hs => ?_⟩
  have k : ∀ b o, b ≠ C → s'.heap.get? b = some o → h'.get? b = some o := fun b o hb e => (hs.2 b hb).trans e
  refine ⟨G', φ', rel_priv (tk := s'.toks) R' O k, by rw [← hae]; exact .ref hla, S'.transE (stepE_priv (tk := s'.toks) k) fun b hb => by cases List.mem_singleton.mp hb; exact hC⟩
end
end Mini
namespace Mini
open PySem PySem.W PySem.W.X PyProof PyProof.Rows PySem.Calls
theorem bindL_out {kindOf : Str → Option NameKind} {y : Str} : ∀ (b : List (Str × Value)) (m : Str → Option Value), (∀ p ∈ b, p.1 ≠ y) → bindL kindOf b m y = m y
  | [], _, _ => rfl
  | (n, v) :: r, m, h => by
    unfold bindL
    rw [bindL_out r _ fun p hp => h p (.tail _ hp)]
    split
    · have := h (n, v) (.head _)
      simp [Ne.symm this]
    · rfl
theorem bindC_out {kindOf : Str → Option NameKind} {y : Str} : ∀ (b : List (Str × Value)) (m : Str → Option Value), (∀ p ∈ b, p.1 ≠ y) → bindC kindOf b m y = m y
  | [], _, _ => rfl
  | (n, v) :: r, m, h => by
    unfold bindC
    rw [bindC_out r _ fun p hp => h p (.tail _ hp)]
    split
    · rfl
    · have := h (n, v) (.head _)
      simp [Ne.symm this]
theorem zip_keys {ps : List Str} {vs : List Value} {p : Str × Value} (h : p ∈ ps.zip vs) : p.1 ∈ ps := (List.of_mem_zip (show (p.1, p.2) ∈ ps.zip vs from h)).1
theorem bind_local {c : Cx} {G : Imm} {φ : List Loc} {kindOf : Str → Option NameKind} {y : Str} {w : AVal} (hk : kindOf y = some .local) : ∀ (ps : List Str) (vs : List AVal) (vs' : List Value) (m : Str → Option Value), ps.Nodup → VsRel c G φ vs vs' → bindAll ps vs y = some w →
    ∃ w', bindL kindOf (ps.zip vs') m y = some w' ∧ VRel c G φ w w'
  | [], _, _, _, _, _, h => by simp [bindAll] at h
  | p :: ps, [], _, _, _, _, h => by simp [bindAll] at h
  | p :: ps, v :: vs, _, m, hn, .cons hv hvs, h => by
    obtain ⟨h1, h2⟩ := List.nodup_cons.mp hn
    rw [List.zip_cons_cons]
    unfold bindL
    unfold bindAll at h
    split at h
    · rename_i q
      subst q
      cases h
      refine ⟨_, ?_, hv⟩
      rw [bindL_out _ _ fun p hp q => h1 (by rw [← q]; exact zip_keys hp)]
      simp [hk]
    · exact bind_local hk ps vs _ _ h2 hvs h
theorem bind_cell {c : Cx} {G : Imm} {φ : List Loc} {kindOf : Str → Option NameKind} {y : Str} {w : AVal} (hk : kindOf y ≠ some .local) : ∀ (ps : List Str) (vs : List AVal) (vs' : List Value) (m : Str → Option Value), ps.Nodup → VsRel c G φ vs vs' → bindAll ps vs y = some w →
    ∃ w', bindC kindOf (ps.zip vs') m y = some w' ∧ VRel c G φ w w'
  | [], _, _, _, _, _, h => by simp [bindAll] at h
  | p :: ps, [], _, _, _, _, h => by simp [bindAll] at h
  | p :: ps, v :: vs, _, m, hn, .cons hv hvs, h => by
    obtain ⟨h1, h2⟩ := List.nodup_cons.mp hn
    rw [List.zip_cons_cons]
    unfold bindC
    unfold bindAll at h
    split at h
    · rename_i q
      subst q
      cases h
      refine ⟨_, ?_, hv⟩
      rw [bindC_out _ _ fun p hp q => h1 (by rw [← q]; exact zip_keys hp)]
      simp [hk]
    · exact bind_cell hk ps vs _ _ h2 hvs h
noncomputable def callable : AVal → Bool
  | .fn _ | .cls | .gfn .. | .bi _ | .ty _ | .lam .. => true
  | _ => false
noncomputable def EvC (P : PI) (d : Nat) (fv : AVal) (vs : List AVal) (σ : St) (v : AVal) (σ' : St) : Prop := callable fv = true ∧ ∀ {c A G φ s f' vs'}, COk c P → GoodA d A → Rel c G φ σ s → VRel c G φ fv f' → VsRel c G φ vs vs' → Gives c A G φ s (call f' vs') v σ'
section
variable {c : Cx} {P : PI} {n d : Nat} {A : Around} {env : Env} {kd : Kinds} {ρ ρ' : Vars} {G : Imm} {φ : List Loc} {σ σ' : St} {s s' : Shared} {v : AVal}
theorem GoodA.deeper {d : Nat} {A : Around} (h : GoodA (d + 1) A) (env : Env) : GoodA d (A.deeper env) :=
  ⟨h.hh, by show A.depth + 1 + 4 * d < 900; have := h.depth; lia, by show A.units + 3 + 40 * d < 9000; have := h.units; lia⟩
noncomputable def retOf : Flw → Option AVal
  | .ret w => some w
  | .next => some .none
  | _ => .none
noncomputable def Imm.over (G G₀ : Imm) : Imm := fun a => match G₀ a with
  | some o => some o
  | .none => G a
theorem Rel.addG {G₀ : Imm} (R : Rel c G φ σ s) (h1 : ∀ a o, G₀ a = some o → s.heap.get? a = some o) (h2 : ∀ a o, G₀ a = some o → a ∉ foot c φ ∧ G a = none) : Rel c (G.over G₀) φ σ s ∧ Imm.Sub G (G.over G₀) := by
  have sub : Imm.Sub G (G.over G₀) := fun a o e => by
    unfold Imm.over
    split
    · rename_i q; rw [(h2 a _ q).2] at e; cases e
    · exact e
  refine ⟨⟨fun a o e => sub a o (R.gB a o e), fun a o e => ?_, fun a ha => ?_, R.len, R.nodup, R.live, fun i l o e1 e2 => (R.obj i l o e1 e2).frame sub (.refl _) (fun _ _ _ e => e) fun _ _ => rfl, R.gn, R.bare, fun q hq => (R.tab q hq).mono sub fun _ e => e⟩, sub⟩
  · unfold Imm.over at e
    split at e
    · rename_i q; cases e; exact h1 a _ q
    · exact R.gh a o e
  · unfold Imm.over
    split
    · rename_i q; exact absurd ha (h2 a _ q).1
    · exact R.gf a ha
theorem fn_enter {f : Fn} {ps : List Str} {body : List Stmt} {names : List (Str × NameKind)} {vs : List AVal} {vs' : List Value} (F : FnOk c f ps body names) (hlen : ps.length = vs.length)
    (ok : COk c P) (ha : GoodA (d + 1) A) (R : Rel c G φ σ s) (V : VsRel c G φ vs vs') {Q : Value → Shared → Prop} {E : Value → Shared → Prop}
    (h : ∀ env s₁ G₁, env = callEnvC f.fd s.heap.objs.size f.addr → HereX c P d (A.deeper env) env (fun x => names.lookup x) (bindAll ps vs) G₁ φ σ s₁ → Step c [] G φ s G₁ φ s₁ → (∀ a ∈ owns env, s.heap.get? a = none) →
      wpAny (Md c) (A.deeper env) (PySem.execs body env) (fun fl s₂ => Q (match fl with | .ret v => v | _ => .none) s₂) (fun _ _ => False) s₁) :
    codeAny (Md c) A (.call (.ref f.addr) ⟨vs', []⟩) (fun r s' => match r with | .ok (.ret v) => Q v s' | .ok _ => False | .error e => E e s') s := by
  obtain ⟨o, ho, hd⟩ := F.o
  have hL : vs'.length = ps.length := by rw [← V.length, hlen]
  refine codeAny_call_cells ha.room (R.keepB _ _ ho) hd (ok.ok.nolimit.keeps R.keepB) (F.code.keeps R.keepB) F.body (F.bind vs' hL) F.clo (fun x hx => ?_) (fun s₁ IC => ?_) F.co F.gen F.kind
  · rw [F.nm]
    rcases F.pk x.1 (zip_keys hx) with z | z
    · exact .inl z
    · exact .inr ⟨z, F.cells _ z _⟩
  · let env : Env := callEnvC f.fd s.heap.objs.size f.addr
    have hkd : (fun x => names.lookup x) = env.kindOf := funext fun x => by
      show names.lookup x = f.fd.scope.names.lookup x
      rw [F.nm]
    obtain ⟨h₁, tk, e, keep⟩ := IC.done
    have S : Step c [] G φ s G φ s₁ := by rw [e]; exact step_ext keep
    have R₁ : Rel c G φ σ s₁ := by rw [e]; exact rel_ext R keep
    have hcell : ∀ x a, env.cells.lookup x = some a → s₁.heap.IsCell a (bindC env.kindOf (ps.zip vs') (fun _ => none) x) := fun x a hx => IC.cell x a hx
    have fresh : ∀ a ∈ owns env, s.heap.get? a = none := fun a ha => by
      have hge : s.heap.objs.size ≤ a := by
        rcases of_owns ha with rfl | ⟨x, ha⟩
        · exact Nat.le_refl _
        · exact Nat.le_of_lt (IC.above x a (mem_of_look ha))
      cases z : s.heap.get? a with
      | none => rfl
      | some o => exact absurd (Heap.lt_size z) (Nat.not_lt.mpr hge)
    have alive : ∀ a ∈ owns env, (s₁.heap.get? a).isSome := fun a ha => by
      rcases of_owns ha with rfl | ⟨x, ha⟩
      · obtain ⟨o, _, _, e, _⟩ := IC.toInCall.ns
        show (s₁.heap.get? (callEnvC f.fd s.heap.objs.size f.addr).locals).isSome
        rw [e]; rfl
      · obtain ⟨o, ho, _⟩ := hcell _ _ ha
        rw [ho]; rfl
    have O : OwnOk c G φ (owns env) s₁ := fun a ha => ⟨R.fresh_foot (fresh a ha), R.fresh_G (fresh a ha), alive a ha⟩
    have L : LocRel c G φ env (bindAll ps vs) s₁.heap := by
      refine ⟨F.kind, F.glob, F.bi, ⟨_, IC.toInCall.ns, fun y w h1 h2 => bind_local h1 ps vs vs' _ F.nodup V h2⟩, fun y w h1 h2 => ?_⟩
      have hk : env.kindOf y = some .cell := by
        rcases h1 with z | z
        · exact z
        · rw [← hkd] at z; exact absurd z (F.nofree y)
      have hc : (env.cells.lookup y).isSome = true := by
        show ((cellsFrom _ f.fd.scope.names []).lookup y).isSome = true
        rw [F.nm]
        exact F.cells y (by rw [← hkd] at hk; exact hk) _
      obtain ⟨a, hca⟩ := Option.isSome_iff_exists.mp hc
      obtain ⟨w', e, r⟩ := bind_cell (kindOf := env.kindOf) (by rw [hk]; simp) ps vs vs' (fun _ => none) F.nodup V h2
      exact ⟨a, w', hca, e ▸ hcell y a hca, r⟩
    have FO : FrOk env s₁.heap := by
      refine ⟨fun x hx => ?_, fun x y a _ e1 e2 => name_of_addr IC.apart (mem_of_lookup e2) (mem_of_lookup e1), fun n a hm => Nat.ne_of_gt (IC.above n a hm)⟩
      have hc : (env.cells.lookup x).isSome = true := by
        show ((cellsFrom _ f.fd.scope.names []).lookup x).isSome = true
        rw [F.nm]
        exact F.cells x (by rw [← hkd] at hx; exact hx) _
      obtain ⟨a, hca⟩ := Option.isSome_iff_exists.mp hc
      exact ⟨a, _, hca, hcell x a hca⟩
    let G₀ : Imm := fun a => if a ∈ (env.cells.filter fun p => c.frz p.1 && (env.kindOf p.1 == some .cell && env.cells.lookup p.1 == some p.2)).map (·.2) then s₁.heap.get? a else none
    have hin : ∀ a o, G₀ a = some o → s₁.heap.get? a = some o ∧ a ∈ owns env ∧ ∃ x, (x, a) ∈ env.cells ∧ c.frz x = true := fun a o e => by
      unfold G₀ at e
      split at e
      · rename_i hm
        obtain ⟨p, hp, rfl⟩ := List.mem_map.mp hm
        obtain ⟨h1, h2⟩ := List.mem_filter.mp hp
        rw [Bool.and_eq_true, Bool.and_eq_true] at h2
        exact ⟨e, mem_owns (.inr ⟨p.1, eq_of_beq h2.2.2⟩), p.1, h1, h2.1⟩
      · cases e
    obtain ⟨R₂, sub⟩ := R₁.addG (G₀ := G₀) (fun a o e => (hin a o e).1) (fun a o e => ⟨(O a (hin a o e).2.1).1, (O a (hin a o e).2.1).2.1⟩)
    have S₂ : Step c [] G φ s (G.over G₀) φ s₁ := by
      refine ⟨fun a o e => sub a o e, S.ext, S.foot, fun b o e => ?_, S.frame, S.keep, S.os, S.gsz, S.gfr, S.gft⟩
      unfold Imm.over at e
      split at e
      · rename_i q; exact .inr (fresh b (hin b _ q).2.1)
      · exact .inl e
    have O₂ : Owns c (G.over G₀) φ env s₁ := by
      refine ⟨fun a ha => ?_, fun x a hx => ?_⟩
      · cases List.mem_singleton.mp ha
        obtain ⟨o1, o2, o3⟩ := O env.locals (List.mem_cons_self ..)
        refine ⟨o1, ?_, o3⟩
        unfold Imm.over
        split
        · rename_i q
          obtain ⟨_, _, x, hx, _⟩ := hin _ _ q
          exact absurd rfl (FO.nl x _ hx)
        · exact o2
      · obtain ⟨o1, o2, o3⟩ := O a (mem_owns (.inr ⟨x, hx⟩))
        refine ⟨o1, o3, fun hk => ?_⟩
        split
        · rename_i hz
          obtain ⟨o, ho⟩ := Option.isSome_iff_exists.mp o3
          have : G₀ a = some o := by
            unfold G₀
            rw [if_pos (List.mem_map.mpr ⟨(x, a), List.mem_filter.mpr ⟨mem_of_look hx, by rw [hz, hk, hx, beq_self_eq_true]; simp⟩, rfl⟩)]
            exact ho
          unfold Imm.over
          rw [this]; rfl
        · rename_i hz
          unfold Imm.over
          split
          · rename_i q
            obtain ⟨_, _, y, hy, hzy⟩ := hin _ _ q
            have e := name_of_addr IC.apart hy (mem_of_look hx)
            rw [e] at hzy
            exact absurd hzy hz
          · exact o2
    have H : HereX c P d (A.deeper env) env (fun x => names.lookup x) (bindAll ps vs) (G.over G₀) φ σ s₁ := ⟨⟨ok, ha.deeper env, hkd, R₂, L.keeps sub (.refl _) fun _ _ _ e => e, O₂⟩, FO⟩
    refine noE (wpAny_mono (h env s₁ _ rfl H S₂ fresh) (fun f' s₂ hq => ?_) fun _ _ e => e)
    cases f' <;> exact hq
theorem callFn {f : Fn} {ps : List Str} {body : List Stmt} {names : List (Str × NameKind)} {vs : List AVal} {vs' : List Value} {fl : Flw} {ρ' : Vars} (F : FnOk c f ps body names)
    (h : EvXs P d (fun x => names.lookup x) (bindAll ps vs) body σ fl ρ' σ') (hlen : ps.length = vs.length) (hfl : retOf fl = some v)
    (ok : COk c P) (ha : GoodA (d + 1) A) (R : Rel c G φ σ s) (V : VsRel c G φ vs vs') {Q : Value → Shared → Prop} {E : Value → Shared → Prop} (q : ∀ v' s' G' φ', Rel c G' φ' σ' s' → VRel c G' φ' v v' → Step c [] G φ s G' φ' s' → Q v' s') :
    codeAny (Md c) A (.call (.ref f.addr) ⟨vs', []⟩) (fun r s' => match r with | .ok (.ret v) => Q v s' | .ok _ => False | .error e => E e s') s := by
  refine fn_enter F hlen ok ha R V fun env s₁ _ _ H S fresh => wpAny_mono (h.run H) (fun f' s₂ ⟨G₂, φ₂, R₂, _, _, S₂, FR⟩ => ?_) fun _ _ e => e
  have SS : Step c [] G φ s G₂ φ₂ s₂ := S.trans S₂ fun b hb => .inr (fresh b hb)
  cases FR with
  | next => cases hfl; exact q _ _ _ _ R₂ .none SS
  | ret hv => cases hfl; exact q _ _ _ _ R₂ hv SS
  | brk => cases hfl
  | cont => cases hfl
end
section
variable {P : PI} {d : Nat} {ρ' : Vars} {σ σ' : St} {v : AVal}
theorem c_fnAny {x : Str} {ps : List Str} {body : List Stmt} {names : List (Str × NameKind)} {vs : List AVal} {fl : Flw} (h0 : P.fn x = some (ps, body, names)) (h2 : ps.length = vs.length) (hr : retOf fl = some v)
    (h3 : EvXs P d (fun x => names.lookup x) (bindAll ps vs) body σ fl ρ' σ') : EvC P (d + 1) (.fn x) vs σ v σ' := ⟨rfl, fun ok ha R Vf V => by
  obtain ⟨f, hf, F⟩ := ok.fn x ps body names h0
  cases Vf using VRel.fnE with
  | fn e =>
    rw [hf] at e; cases e
    exact wpAny_call (callFn F h3 h2 hr ok ha R V fun v' s' G' φ' R' V' S' => ⟨G', φ', R', V', S'⟩)⟩
theorem c_fn {x : Str} {ps : List Str} {body : List Stmt} {names : List (Str × NameKind)} {vs : List AVal} (h0 : P.fn x = some (ps, body, names)) (h1 : P.maker x = none) (h2 : ps.length = vs.length)
    (h3 : EvXs P d (fun x => names.lookup x) (bindAll ps vs) body σ (.ret v) ρ' σ') : EvC P (d + 1) (.fn x) vs σ v σ' := c_fnAny h0 h2 rfl h3
end
end Mini
namespace Mini
open PySem PySem.W PySem.W.X PyProof PyProof.Rows PySem.Calls
section
variable {prog : Program} {w : World} {A : Around} {E : Value → Shared → Prop} {s : Shared} {Q : Option Value → Shared → Prop}
end
section
variable {prog : Program} {w : World} {A : Around} {c : Code} {fs : List Frame} {Φ : End → Shared → Prop} {s : Shared} {env : Env} {K : Flow → Sem PySem.Fin} {H : Value → Sem PySem.Fin} {gd : Bool → Bool} {lv : List Value → List Value}
end
section
variable {c : Cx} {P : PI} {n d : Nat} {A : Around} {env : Env} {kd : Kinds} {ρ ρ' : Vars} {G G' : Imm} {φ φ' : List Loc} {σ σ' : St} {s s' : Shared} {v : AVal}
end
end Mini
namespace Mini
open PySem PySem.W PySem.W.X PyProof PyProof.Rows PySem.Calls
section
variable {c : Cx} {P : PI} {n d : Nat} {A : Around} {env : Env} {kd : Kinds} {ρ ρ' : Vars} {G G' : Imm} {φ φ' : List Loc} {σ σ' : St} {s s' : Shared} {v : AVal}
end
section
variable {P : PI} {d : Nat} {ρ ρ₁ : Vars} {σ σ₁ σ₂ σ₃ σ' : St} {v : AVal}
end
section
variable {c : Cx} {P : PI} {n d : Nat} {A : Around} {env : Env} {kd : Kinds} {G G' : Imm} {φ φ' : List Loc} {s s' : Shared}
end
end Mini
namespace Mini
open PySem PySem.W PySem.W.X PyProof PyProof.Rows PySem.Calls
section
variable {c : Cx} {P : PI} {n d : Nat} {A : Around} {env : Env} {kd : Kinds} {ρ ρ' : Vars} {G G' G₂ : Imm} {φ φ' φ₂ : List Loc} {σ σ' σ₂ : St} {s s' s₂ s₃ : Shared} {v : AVal}
end
section
variable {P : PI} {d : Nat} {ρ ρ₁ : Vars} {σ σ₁ σ₂ σ₃ σ' : St} {v : AVal}
end
end Mini
namespace Mini
open PySem PySem.W PySem.W.X PyProof PyProof.Rows PySem.Calls
structure EnvMk (c : Cx) (env : Env) (nm : Str) (q : Addr × Addr) : Prop where
  mem : q ∈ c.tabs
  code : env.code = .ref q.1
  hd : CodeHd c.B q.1 q.2
  tq : c.tq q.2 = env.qual ++ nm
  bi : c.B.BuiltinsAt c.mg q.2
  ng : mainGlobals ≠ q.2
  own : ∀ p ∈ env.cells, env.cells.lookup p.1 = some p.2 → env.kindOf p.1 = some .cell
section
variable {c : Cx} {P : PI} {n d : Nat} {A : Around} {env : Env} {kd : Kinds} {ρ ρ' : Vars} {G G' G₂ : Imm} {φ φ' φ₂ : List Loc} {σ σ' σ₂ : St} {s s' s₂ s₃ : Shared} {v : AVal}
inductive GfnPre (c : Cx) (env : Env) (G : Imm) (φ : List Loc) (s : Shared) (fa : Addr) (v : AVal) : Prop
  | mk (k : GB) (xs : List Str) (vs : List AVal) (vs' : List Value) (o : Obj) (fd : FuncData) (e : v = .gfn k xs vs) (g : G fa = some o) (hd : o.data = .func fd) (hf : GFn G k fd) (hx : ∀ x ∈ xs, k.names.lookup x = some .free) (V : VsRel c G φ vs vs') (hc : ∀ p ∈ fd.closure, ∃ x, env.kindOf x = some .cell ∧ env.cells.lookup x = some p.2)
    (h : ∀ (i : Nat) (x : Str) (v' : Value), xs[i]? = some x → vs'[i]? = some v' → ∃ ca, fd.closure.lookup x = some ca ∧ s.heap.IsCell ca (some v'))
inductive DefEnd (c : Cx) (env : Env) (G : Imm) (φ : List Loc) (s : Shared) (nm : Str) (v : AVal) (σ' : St) (f : Flow) (s' : Shared) : Prop
  | mk (e : f = .next) (G' : Imm) (φ' : List Loc) (R : Rel c G' φ' σ' s') (S : Step c (owns env) G φ s G' φ' s') (O : Owns c G' φ' env s') (m : Str → Option Value) (fa : Addr) (n : s'.heap.Ns env.locals m) (h : m nm = some (.ref fa)) (g : GfnPre c env G' φ' s' fa v)
theorem mapM_some {f : Str → Option AVal} : ∀ {xs : List Str} {vs : List AVal}, xs.mapM f = some vs → ∀ (i : Nat) (x : Str), xs[i]? = some x → ∃ w, f x = some w ∧ vs[i]? = some w
  | [], vs, h, i, x, hx => by simp at hx
  | y :: r, vs, h, i, x, hx => by
    simp only [List.mapM_cons, Option.bind_eq_bind, Option.bind_eq_some_iff] at h
    obtain ⟨w, hw, ws, hws, h⟩ := h
    cases h
    cases i with
    | zero => simp at hx; subst hx; exact ⟨w, hw, rfl⟩
    | succ i => simp at hx; simpa using mapM_some hws i x hx
theorem mapM_len {f : Str → Option AVal} : ∀ {xs : List Str} {vs : List AVal}, xs.mapM f = some vs → vs.length = xs.length
  | [], vs, h => by simp at h; subst h; rfl
  | y :: r, vs, h => by
    simp only [List.mapM_cons, Option.bind_eq_bind, Option.bind_eq_some_iff] at h
    obtain ⟨w, hw, ws, hws, h⟩ := h
    cases h
    simp [mapM_len hws]
theorem cells_of {h : Heap} {xs : List Str} : ∀ {vs : List AVal}, vs.length = xs.length → (∀ (i : Nat) (x : Str), xs[i]? = some x → ∃ w, vs[i]? = some w ∧ ∃ a v', env.cells.lookup x = some a ∧ h.IsCell a (some v') ∧ VRel c G φ w v') →
    ∃ vs', VsRel c G φ vs vs' ∧ ∀ (i : Nat) (x : Str) (v' : Value), xs[i]? = some x → vs'[i]? = some v' → ∃ a, env.cells.lookup x = some a ∧ h.IsCell a (some v') := by
  induction xs with
  | nil =>
    intro vs hl _
    cases vs with
    | nil => exact ⟨[], .nil, fun i x v' hx => by simp at hx⟩
    | cons => cases hl
  | cons y r ih =>
    intro vs hl hall
    cases vs with
    | nil => cases hl
    | cons w ws =>
      obtain ⟨ws', V, hc⟩ := ih (by simpa using hl) (fun i x hx => by simpa using hall (i + 1) x (by simpa using hx))
      obtain ⟨w₀, hw, a, v', e, hI, Vw⟩ := hall 0 y rfl
      simp at hw; subst hw
      refine ⟨v' :: ws', .cons Vw V, fun i x u hx hu => ?_⟩
      cases i with
      | zero => simp at hx hu; subst hx hu; exact ⟨a, e, hI⟩
      | succ i => simp at hx hu; exact hc i x u hx hu
theorem mem_freeNames {names : List (Str × NameKind)} {x : Str} (h : (x, NameKind.free) ∈ names) : x ∈ freeNames names := List.mem_map.mpr ⟨(x, .free), List.mem_filter.mpr ⟨h, rfl⟩, rfl⟩
theorem codeAmong_more {pos : Pos} {a b : Int} {x cv : Value} (l : List Value) (h : TriplesOk l) (hn : codeAmong pos (l ++ [rawInt a, rawInt b, x]) = some cv) : codeAmong pos l = some cv ∨ cv = x := by
  fun_induction TriplesOk l with
  | case1 =>
    simp only [List.nil_append, codeAmong, rawInt] at hn
    split at hn
    · cases hn; exact .inr rfl
    · cases hn
  | case2 a' t b' u y rest ih =>
    simp only [List.cons_append, codeAmong] at hn ⊢
    split at hn
    · rename_i hc; rw [if_pos hc]; exact .inl hn
    · rename_i hc; rw [if_neg hc]; exact ih h hn
  | case3 l h1 h2 => exact h.elim
theorem Rel.tabled {q : Addr × Addr} {c' : Addr} {oc : Obj} {h' : Heap} {tk : Nat} (R : Rel c G φ σ s) (hq : q ∈ c.tabs) (hx : ∀ b o, b ≠ q.2 → s.heap.get? b = some o → h'.get? b = some o) (hc : s.heap.get? c' = none) (hoc : h'.get? c' = some oc) (ht : TabOk c (G.add c' oc) q.2 h') :
    Rel c (G.add c' oc) φ σ { s with heap := h', toks := tk } ∧ Step c [] G φ s (G.add c' oc) φ { s with heap := h', toks := tk } := by
  have hP : q.2 ∈ foot c φ := mem_tab hq
  have sub : Imm.Sub G (G.add c' oc) := Imm.sub_add (R.fresh_G hc)
  have alive : (h'.get? q.2).isSome := by obtain ⟨ps, e, _⟩ := ht; rw [e]; rfl
  have neG : ∀ a o, G a = some o → a ≠ q.2 := fun a o e z => by rw [z, R.gf _ hP] at e; cases e
  refine ⟨⟨fun a o e => sub a o (R.gB a o e), fun a o e => ?_, fun a ha => ?_, R.len, R.nodup, fun a ha => ?_, fun i l o e1 e2 => ?_, R.gn, R.bare, fun q' hq' => ?_⟩, ⟨sub, .refl _, fun _ h => .inl h, fun b o e => ?_, fun b o h1 _ e => hx b o (fun z => h1 (by rw [z]; exact hP)) e, fun b h => ?_, rfl, Nat.le_refl _, fun _ _ _ => rfl, fun _ h => .inl h⟩⟩
  · unfold Imm.add at e
    split at e
    · rename_i z; cases e; rw [z]; exact hoc
    · exact hx a o (neG a o e) (R.gh a o e)
  · unfold Imm.add
    split
    · rename_i z; rw [z] at ha; exact absurd ha (R.fresh_foot hc)
    · exact R.gf a ha
  · by_cases z : a = q.2
    · rw [z]; exact alive
    · obtain ⟨x, hx'⟩ := Option.isSome_iff_exists.mp (R.live a ha)
      show (h'.get? a).isSome
      rw [hx a x z hx']; rfl
  · exact (R.obj i l o e1 e2).frame sub (.refl _) (fun a x ha e => hx a x (fun z => R.tab_away e1 hq (by rw [← z]; exact ha)) e) fun _ _ => rfl
  · by_cases z : q'.2 = q.2
    · rw [z]; exact ht
    · exact (R.tab q' hq').mono sub fun o e => hx _ o z e
  · unfold Imm.add at e
    split at e
    · rename_i z; rw [z]; exact .inr hc
    · exact .inl e
  · by_cases z : b = q.2
    · rw [z]; exact alive
    · obtain ⟨x, hx'⟩ := Option.isSome_iff_exists.mp h
      show (h'.get? b).isSome
      rw [hx b x z hx']; rfl
noncomputable def gfnOk (nm : Str) (scope : Scope) (kd : Kinds) (x src : Str) : Bool :=
  scope.kind == .function && !scope.isCoroutine && scope.isGenerator && scope.names.lookup ("context" : Str) == some .local && scope.names.lookup ("result" : Str) == some .local && scope.names.all (fun p => p.2 != .cell) &&
    (freeNames scope.names).all (fun y => scope.names.lookup y == some .free && kd y == some .cell) && kd nm == some .local && scope.names.lookup x == some .local && scope.names.lookup src == some .local && !(x == ("__debug__" : Str)) && !(src == ("__debug__" : Str))
theorem make_gfn {name : Str} {p1 p2 pos : Pos} {body : List Stmt} {scope : Scope} {src x : Str} {pre : List Stmt} {cond : Expr} {vs : List AVal} {q : Addr × Addr} (hbody : GBody ⟨src, x, pre, cond, ["context", "result"], scope.names⟩ body) (hall : gfnOk name scope kd x src = true) (hvs : (freeNames scope.names).mapM ρ = some vs) (M : EnvMk c env name q) (H : HereX c P d A env kd ρ G φ σ s) :
    wpAny (Md c) A (PySem.exec (.FunctionDef name ⟨[], [⟨"context", .none, p1⟩, ⟨"result", .none, p2⟩], .none, [], [], .none, []⟩ body [] .none [] scope .none name pos) env) (DefEnd c env G φ s name (.gfn ⟨src, x, pre, cond, ["context", "result"], scope.names⟩ (freeNames scope.names) vs) σ) (fun _ _ => False) s := by
  unfold gfnOk at hall
  simp only [Bool.and_eq_true, Bool.not_eq_true', beq_iff_eq, List.all_eq_true, bne_iff_ne, ne_eq] at hall
  obtain ⟨⟨⟨⟨⟨⟨⟨⟨⟨⟨⟨hk, hco⟩, hgen⟩, hl1⟩, hl2⟩, hnc⟩, hfree⟩, hkn⟩, hx⟩, hsrc⟩, hxd0⟩, hsd0⟩ := hall
  have hxd : (x == ("__debug__" : Str)) = false := by simpa using hxd0
  have hsd : (src == ("__debug__" : Str)) = false := by simpa using hsd0
  rw [H.kd] at hkn
  have hfree' : ∀ y ∈ freeNames scope.names, scope.names.lookup y = some .free ∧ env.kindOf y = some .cell := fun y hy => by rw [← H.kd]; exact hfree y hy
  have hcells : ∀ (i : Nat) (y : Str), (freeNames scope.names)[i]? = some y → ∃ w, vs[i]? = some w ∧ ∃ a v', env.cells.lookup y = some a ∧ s.heap.IsCell a (some v') ∧ VRel c G φ w v' := fun i y hy => by
    obtain ⟨w, hw, hi⟩ := mapM_some hvs i y hy
    obtain ⟨a, v', e, hc, r⟩ := H.l.cell y w (.inl (hfree' y (List.mem_of_getElem? hy)).2) hw
    exact ⟨w, hi, a, v', e, hc, r⟩
  have hlook : ∀ p ∈ scope.names, p.2 = .free → (env.cells.lookup p.1).isSome = true := fun p hp hf => by
    have hm : p.1 ∈ freeNames scope.names := mem_freeNames (by rw [← hf]; exact hp)
    obtain ⟨i, hi⟩ := List.getElem?_of_mem hm
    obtain ⟨w, _, a, v', e, _⟩ := hcells i p.1 hi
    rw [e]; rfl
  obtain ⟨vs', V, hcv⟩ := cells_of (mapM_len hvs) hcells
  refine nestDef_K rfl rfl rfl ?_
  have hqual : qualnameIn env name name = c.tq q.2 := by
    unfold qualnameIn
    rw [hkn, M.tq]; rfl
  have hcl := closureFor_eq hlook
  obtain ⟨ps, hP, ht, hhit⟩ := H.r.tab q M.mem
  have hg := H.ok.ok.g.keeps H.r.keepB
  have hhd := M.hd.keeps H.r.keepB
  have hbi := M.bi.keeps H.r.keepB
  have hclos : ∀ p ∈ clos env scope.names [], env.cells.lookup p.1 = some p.2 := fun p hp => (clos_mem _ _ hlook hp).elim (fun z => nomatch z) id
  have hclos' : ∀ p ∈ clos env scope.names [], ∃ y, env.kindOf y = some .cell ∧ env.cells.lookup y = some p.2 := fun p hp => ⟨p.1, M.own p (mem_of_look (hclos p hp)) (hclos p hp), hclos p hp⟩
  have hQP : q.2 ∈ foot c φ := mem_tab M.mem
  -- what is left once the function object stands
  have fin : ∀ {G₁ : Imm} {φ₁ : List Loc} {s₁ : Shared} {fa : Addr} {o : Obj} {doc pm ctv cv : Value}, Rel c G₁ φ₁ σ s₁ → Step c [] G φ s G₁ φ₁ s₁ → G₁ fa = some o → o.data = .func (fnX name (qualnameIn env name name) ⟨[], [⟨"context", .none, p1⟩, ⟨"result", .none, p2⟩], .none, [], [], .none, []⟩ body scope (clos env scope.names []) .none .none doc pm none cv ctv) →
      (∃ ca oc vs t, cv = .ref ca ∧ G₁ ca = some oc ∧ oc.data = .fields vs ∧ vs[1]? = some (.str (c.tq q.2) t)) → wpAny (Md c) A (storeName env name (.ref fa)) (fun _ s'' => DefEnd c env G φ s name (.gfn ⟨src, x, pre, cond, ["context", "result"], scope.names⟩ (freeNames scope.names) vs) σ .next s'') (fun _ _ => False) s₁ := by
    intro G₁ φ₁ s₁ fa o doc pm ctv cv R₁ S₁ hfa hd hcode
    have H₁ := H.step R₁ S₁
    obtain ⟨m, hn, hv⟩ := H₁.l.ns
    refine wpAny_storeName_local hkn hn (fun h' hn' hs => ?_) (by rw [H.l.kind]; rfl)
    have hl : (h'.get? env.locals).isSome := by obtain ⟨o, _, _, e, _⟩ := hn'; rw [e]; rfl
    have S₂ : Step c (owns env) G₁ φ₁ s₁ G₁ φ₁ { s₁ with heap := h', toks := s₁.toks + 1 } := step_own (.head _) hs hl
    refine ⟨rfl, G₁, φ₁, rel_own R₁ (H₁.o.loc _ (.head _)).1 (H₁.o.loc _ (.head _)).2.1 hs, (S₁.weaken fun _ h => nomatch h).trans' S₂, H₁.o.step S₂, _, fa, hn', by simp, ?_⟩
    refine ⟨_, _, vs, vs', o, _, rfl, hfa, hd, ⟨⟨body, rfl, hbody⟩, rfl, hco, hgen, hk, rfl, rfl, hnc, ?_, fun ws hws => ?_, fun y hy => ?_, ?_, ⟨hx, hxd, hsrc, hsd⟩⟩, fun y hy => (hfree' y hy).1, V.mono S₁.g S₁.ext, hclos', fun i y u hy hu => ?_⟩
    · obtain ⟨ca, oc, ws, t, e1, e2, e3, e4⟩ := hcode
      exact ⟨ca, oc, ws, t, e1, e2, e3, by rw [show (fnX name (qualnameIn env name name) _ _ _ _ _ _ _ _ _ _ _).qualname = qualnameIn env name name from rfl, hqual]; exact e4⟩
    · match ws, hws with
      | [w1, w2], _ => first | rfl | exact bind_two w1 w2
    · rcases List.mem_cons.mp hy with rfl | hy
      · exact hl1
      · cases List.mem_singleton.mp hy; exact hl2
    · show [("context" : Str), "result"].Nodup; decide
    · obtain ⟨a, e, oc, ho, hdc⟩ := hcv i y u hy hu
      obtain ⟨a', e'⟩ := Option.isSome_iff_exists.mp (clos_has (env := env) scope.names [] (y := y) (.inl (mem_of_lookup (hfree' y (List.mem_of_getElem? hy)).1)))
      have := clos_from scope.names [] hlook (fun _ z => by cases z) e'
      rw [e] at this; cases this
      refine ⟨a, e', oc, ?_, hdc⟩
      have hne : a ≠ env.locals := H.f.nl _ _ (mem_of_lookup e)
      show h'.get? a = some oc
      rw [hs.2 a hne]
      exact S₁.frame a oc (H.o.cel y a e).1 (fun h => nomatch h) ho
  cases hnf : codeAmong pos ps.toList with
  | some cv =>
    refine makeFunction_hit (cv := cv) hcl H.l.glob hg M.code hhd hP ht hnf hbi fun ctv doc h' tk hk' hsz => ?_
    have R₁ : Rel c G φ σ { s with heap := h', toks := tk } := rel_ext H.r hk'
    have S₁ : Step c [] G φ s G φ { s with heap := h', toks := tk } := step_ext hk'
    refine fin (R₁.pushG _ rfl) (S₁.trans' (step_pushG R₁ _)) (Imm.add_self ..) rfl ?_
    obtain ⟨ca, oc, ws, t, e1, e2, e3, e4⟩ := hhit pos cv hnf
    exact ⟨ca, oc, ws, t, e1, (step_pushG (own := []) R₁ _).g _ _ e2, e3, e4⟩
  | none =>
    refine makeFunction_K hcl H.l.glob hg M.code hhd hP ht hnf M.ng hbi fun c' ctv doc h' tk hx' hge hlt hrec htb => ?_
    obtain ⟨c₂, oc, ws, t, e2, hoc, hd, hv⟩ := hrec
    cases e2
    have hc0 : s.heap.get? c' = none := Heap.get?_none_of_le hge
    rw [hqual] at hv
    obtain ⟨R₁, S₁⟩ := H.r.tabled (tk := tk) M.mem hx' hc0 hoc ⟨_, htb, by simpa using TriplesOk_snoc _ _ _ _ ht, fun pos' cv hcv' => by
      rcases codeAmong_more ps.toList ht (by simpa using hcv') with z | z
      · obtain ⟨ca, o1, ws1, t1, e1, e2, e3, e4⟩ := hhit pos' cv z
        exact ⟨ca, o1, ws1, t1, e1, Imm.sub_add (H.r.fresh_G hc0) _ _ e2, e3, e4⟩
      · exact ⟨c', oc, ws, t, z, Imm.add_self .., hd, hv⟩⟩
    refine fin (R₁.pushG _ rfl) (S₁.trans' (step_pushG R₁ _)) (Imm.add_self ..) rfl ?_
    exact ⟨c', oc, ws, t, rfl, (step_pushG (own := []) R₁ _).g _ _ (Imm.add_self ..), hd, hv⟩
end
section
variable {P : PI} {d : Nat} {kd : Kinds} {ρ ρ₁ ρ' : Vars} {σ σ₁ σ₂ σ' : St} {v : AVal} {p : Pos}
end
end Mini
namespace Mini
open PySem PySem.W PySem.W.X PyProof PyProof.Rows PySem.Calls
section
variable {prog : Program} {w : World} {A : Around} {E : Value → Shared → Prop} {s : Shared}
end
theorem bindAll_get {y : Str} {w : AVal} : ∀ {ps : List Str} {vs : List AVal}, bindAll ps vs y = some w → ∃ i : Nat, ps[i]? = some y ∧ vs[i]? = some w
  | [], _, h => by simp [bindAll] at h
  | _ :: _, [], h => by simp [bindAll] at h
  | p :: ps, v :: vs, h => by
    unfold bindAll at h
    split at h
    · rename_i q; subst q; cases h; exact ⟨0, rfl, rfl⟩
    · obtain ⟨i, h1, h2⟩ := bindAll_get h
      exact ⟨i + 1, by simpa using h1, by simpa using h2⟩
theorem lookup_snoc {α : Type} {y p : Str} {v : α} : ∀ (l : List (Str × α)), (l ++ [(p, v)]).lookup y = match l.lookup y with
    | some w => some w
    | .none => if y = p then some v else none
  | [] => by
    simp only [List.nil_append, List.lookup_cons, List.lookup_nil]
    by_cases q : y = p
    · simp [q]
    · simp [q, beq_eq_false_iff_ne.mpr q]
  | (a, b) :: r => by
    simp only [List.cons_append, List.lookup_cons]
    split
    · rfl
    · exact lookup_snoc r
theorem look_rev {α : Type} {y : Str} {v' : α} : ∀ {ps : List Str} {vs' : List α} {i : Nat}, ps.Nodup → ps[i]? = some y → vs'[i]? = some v' → (ps.zip vs').reverse.lookup y = some v'
  | [], _, _, _, h, _ => by simp at h
  | _ :: _, [], _, _, _, h => by simp at h
  | p :: ps, v :: vs, i, hn, h1, h2 => by
    obtain ⟨hp, hn'⟩ := List.nodup_cons.mp hn
    rw [List.zip_cons_cons, List.reverse_cons, lookup_snoc]
    cases i with
    | zero =>
      simp at h1 h2
      subst h1 h2
      have : (ps.zip vs).reverse.lookup p = none := by
        cases q : (ps.zip vs).reverse.lookup p with
        | none => rfl
        | some w => exact absurd (List.of_mem_zip (List.mem_reverse.mp (mem_of_lookup q))).1 hp
      rw [this]; simp
    | succ i =>
      simp at h1 h2
      rw [look_rev hn' h1 h2]
section
variable {c : Cx} {P : PI} {n d : Nat} {A : Around} {env : Env} {kd : Kinds} {ρ ρ' : Vars} {G G' G₂ : Imm} {φ φ' φ₂ : List Loc} {σ σ' σ₂ : St} {s s' s₂ s₃ : Shared} {v : AVal}
theorem GoodA.in1 {d : Nat} {A : Around} (h : GoodA (d + 1) A) : GoodA d A.in1 where
  hh := h.hh
  depth := by
    have h1 := h.depth
    have h3 : A.in1.depth ≤ A.depth + 1 := by first | exact Nat.le_refl _ | exact Nat.le_succ _
    lia
  units := by
    have h1 := h.units
    have h3 : A.in1.units ≤ A.units + 5 := by first | exact Nat.le_refl _ | exact Nat.le_succ _ | (show A.units + _ ≤ _; lia)
    lia
theorem callCls {vs : List AVal} {vs' : List Value} {ρ' : Vars} (h : EvXs P d (fun x => P.init.2.2.lookup x) (bindAll P.init.1 (.ref σ.length :: vs)) P.init.2.1 (σ ++ [.inst []]) .next ρ' σ') (hlen : P.init.1.length = vs.length + 1)
    (ok : COk c P) (ha : GoodA (d + 2) A) (R : Rel c G φ σ s) (V : VsRel c G φ vs vs') : Gives c A G φ s (call (.ref c.C) vs') (.ref σ.length) σ' := by
  obtain ⟨fi, hf, ht, F⟩ := ok.init
  have X := ok.ok.x.keeps R.keepB
  refine wpAny_call ?_
  obtain ⟨h₀, g, dd, t, os⟩ := s
  refine make_core (makes_of X ok.mi) (looks_findIn X hf) (fun self => bind_fn X self ht) (.inl rfl) ?_
  let l : Loc := ⟨h₀.objs.size + 1, [h₀.objs.size], none⟩
  let s₁ : Shared := ⟨(h₀.push emptyDict).push (instObj c.C h₀.objs.size), g, dd, t, os⟩
  have sz : (h₀.push emptyDict).objs.size = h₀.objs.size + 1 := Heap.size_push ..
  have k : ∀ a x, h₀.get? a = some x → s₁.heap.get? a = some x := fun a x e => Heap.get?_push_of_some _ (Heap.get?_push_of_some _ e)
  have e1 : s₁.heap.get? (h₀.objs.size + 1) = some (instObj c.C h₀.objs.size) := by rw [← sz]; exact Heap.get?_push_size _ rfl
  have e2 : s₁.heap.get? h₀.objs.size = some emptyDict := Heap.get?_push_of_some _ (Heap.get?_push_size _ rfl)
  have hn : ∀ a ∈ l.a :: l.ps, h₀.get? a = none := fun a ha => by
    have : h₀.objs.size ≤ a := by
      rcases List.mem_cons.mp ha with rfl | ha
      · exact Nat.le_succ _
      · cases List.mem_singleton.mp ha; exact Nat.le_refl _
    exact Heap.get?_none_of_le this
  have R₁ : Rel c G (φ ++ [l]) (σ ++ [.inst []]) s₁ := R.add k hn (by simp [l]) (fun a ha => by
      rcases List.mem_cons.mp ha with rfl | ha
      · show (s₁.heap.get? (h₀.objs.size + 1)).isSome; rw [e1]; rfl
      · cases List.mem_singleton.mp ha; rw [e2]; rfl) ⟨rfl, h₀.objs.size, [], 0, rfl, e1, e2, rfl, fun x => rfl⟩
  have S₁ : Step c [] G φ ⟨h₀, g, dd, t, os⟩ G (φ ++ [l]) s₁ := step_add k hn rfl
  have hl : (φ ++ [l])[σ.length]? = some l := by rw [← R.len]; simp
  have Vs : VsRel c G (φ ++ [l]) (.ref σ.length :: vs) (.ref (h₀.objs.size + 1) :: vs') := .cons (.ref (l := l) hl) (V.mono S₁.g S₁.ext)
  have hA : GoodA (d + 1) (A.under (.builtin "type.__call__" ⟨.ref c.C :: vs', []⟩)) := by
    refine ⟨ha.hh, ?_, ?_⟩
    · have h1 := ha.depth
      show A.depth + 1 + 4 * (d + 1) < 900
      lia
    · have h1 := ha.units
      show A.units + 1 + 40 * (d + 1) < 9000
      lia
  refine codeAny_mono (callFn (v := .none) (Q := fun v s' => v = .none ∧ GP c G φ ⟨h₀, g, dd, t, os⟩ (.ref σ.length) σ' (.ref (h₀.objs.size + 1)) s') (E := fun _ _ => False) F h (by simp [hlen]) rfl ok hA R₁ Vs fun v' s' G' φ' R' V' S' => ?_) fun r s' hr => ?_
  · (cases V' using VRel.noneE)
    refine ⟨rfl, G', φ', R', ?_, S₁.trans' S'⟩
    obtain ⟨l', e, hla, _⟩ := S'.ext _ _ hl
    have := VRel.ref (c := c) (G := G') e
    rw [hla] at this
    exact this
  · unfold InitBack
    split at hr
    · exact hr
    · exact hr.elim
    · exact hr.elim
theorem vs_of_get : ∀ {us : List AVal} {acc : List Value}, us.length = acc.length → (∀ (i : Nat) u x, us[i]? = some u → acc[i]? = some x → VRel c G φ u x) → VsRel c G φ us acc
  | [], [], _, _ => .nil
  | [], _ :: _, h, _ => by cases h
  | _ :: _, [], h, _ => by cases h
  | u :: us, x :: acc, h, hv => .cons (hv 0 u x rfl rfl) (vs_of_get (by simpa using h) fun i u x h1 h2 => hv (i + 1) u x (by simpa using h1) (by simpa using h2))
theorem keeper_fn {a : Addr} {o : Obj} {fd : FuncData} {h : Heap} {M : Model} (ho : h.get? a = some o) (hd : o.data = .func fd) : Looks M h (keeperOf (.ref a)) Keeper.frame := by
  intro A Q E s k q
  unfold keeperOf
  refine wpAny_bind (wpAny_load (k _ _ ho) ?_)
  rw [hd]
  exact wpAny_pure q
theorem keeper {fv : AVal} {f' : Value} {h : Heap} (ok : COk c P) (R : Rel c G φ σ s) (V : VRel c G φ fv f') (hc : callable fv = true) (hG : ∀ a o, G a = some o → h.get? a = some o) :
    ∃ k, (k = Keeper.frame ∨ k = Keeper.machine ∨ k = Keeper.boundFrame) ∧ Looks (Md c) h (keeperOf f') k := by
  have kB : ∀ b o, c.B.get? b = some o → h.get? b = some o := fun b o e => hG b o (R.gB b o e)
  cases fv with
  | bi id => (cases V using VRel.biE); exact ⟨.machine, .inr (.inl rfl), .now⟩
  | ty id => (cases V using VRel.tyE); exact ⟨.machine, .inr (.inl rfl), .now⟩
  | gfn k xs ws =>
    cases V with
    | gfn e hd => exact ⟨.frame, .inl rfl, keeper_fn (hG _ _ e) hd⟩
  | lam k xs ws =>
    cases V with
    | lam e hd => exact ⟨.frame, .inl rfl, keeper_fn (hG _ _ e) hd⟩
  | cls =>
    (cases V using VRel.clsE)
    have Y := makes_of (M := Md c) (ok.ok.x.keeps kB) ok.mi
    obtain ⟨⟨oc, od, cd, sl, hC, _⟩, _, _, _, _, call, _⟩ := Y
    exact ⟨.machine, .inr (.inl rfl), (Looks.ld (part := none) hC).andThen (call.andThen .now)⟩
  | fn x =>
    cases V using VRel.fnE with
    | fn e =>
      obtain ⟨o, fd, ho, hd⟩ := ok.fo x _ e
      exact ⟨.frame, .inl rfl, keeper_fn (kB _ _ ho) hd⟩
  | _ => cases hc
end
section
variable {P : PI} {d : Nat} {kd : Kinds} {ρ ρ₁ ρ₂ ρ₃ ρ' : Vars} {σ σ₁ σ₂ σ₃ σ' : St} {v a b : AVal} {p : Pos}
theorem c_cls' {ps : List Str} {body : List Stmt} {names : List (Str × NameKind)} {vs : List AVal} (hi : P.init = (ps, body, names)) (h1 : ps.length = vs.length + 1) (h : EvXs P d (fun x => names.lookup x) (bindAll ps (.ref σ.length :: vs)) body (σ ++ [.inst []]) .next ρ' σ') :
    EvC P (d + 2) .cls vs σ (.ref σ.length) σ' := ⟨rfl, fun ok ha R Vf V => by (cases Vf using VRel.clsE); exact callCls (by rw [hi]; exact h) (by rw [hi]; exact h1) ok ha R V⟩
theorem c_lenStr {sx : Str} (h : sx.length ≤ lim) : EvC P d (.bi "len") [.str sx] σ (.int sx.length) σ := ⟨rfl, fun ok ha R Vf V => by
  (cases Vf using VRel.biE)
  cases V using VsRel.consE with
  | cons hv ht =>
    (cases ht using VsRel.nilE); (cases hv using VRel.strE)
    exact PyProof.Rows.len_str (by unfold lim at h; lia) (gives_toks R (.int _ _))⟩
theorem c_lenList {w : AVal} {xs : List AVal} (h1 : listOf? σ w = some xs) (h : xs.length ≤ lim) : EvC P d (.bi "len") [w] σ (.int xs.length) σ := ⟨rfl, fun ok ha R Vf V => by
  (cases Vf using VRel.biE)
  cases V using VsRel.consE with
  | cons hv ht =>
    (cases ht using VsRel.nilE)
    obtain ⟨la, o, items, m, rfl, g, cc, dd, rr⟩ := R.isList hv h1
    refine PyProof.Rows.len_list (items := items.toArray) ⟨_, g, cc, _, dd⟩ (by rw [List.size_toArray, ← rr.length]; unfold lim at h; lia) ?_
    rw [List.size_toArray, ← rr.length]
    exact gives_toks R (.int _ _)⟩
theorem c_range1 {y : Int} : EvC P d (.ty "range") [.int y] σ (.rng 0 y 1) σ := ⟨rfl, fun {c A G φ s f' vs'} ok ha R Vf V => by
  (cases Vf using VRel.tyE)
  cases V using VsRel.consE with
  | cons hv ht =>
    (cases ht using VsRel.nilE); (cases hv using VRel.intE)
    refine PySem.call_range_1 ?_
    have R' := R.toks (s.toks + 1 + 1)
    exact ⟨_, _, R'.pushG _ rfl, .rng _ _ _ (Imm.add_self ..), (step_toks _).trans' (step_pushG R' _)⟩⟩
theorem c_range2 {x y : Int} : EvC P d (.ty "range") [.int x, .int y] σ (.rng x y 1) σ := ⟨rfl, fun {c A G φ s f' vs'} ok ha R Vf V => by
  (cases Vf using VRel.tyE)
  cases V using VsRel.consE with
  | cons hv ht =>
    cases ht using VsRel.consE with
    | cons hv2 ht =>
      (cases ht using VsRel.nilE); (cases hv using VRel.intE); (cases hv2 using VRel.intE)
      refine PySem.call_range_2 ?_
      have R' := R.toks (s.toks + 1)
      exact ⟨_, _, R'.pushG _ rfl, .rng _ _ _ (Imm.add_self ..), (step_toks _).trans' (step_pushG R' _)⟩⟩
theorem c_range3 {x y z : Int} (h : ¬ (z = 0 ∨ ¬ z.natAbs < 1073741824)) : EvC P d (.ty "range") [.int x, .int y, .int z] σ (.rng x y z) σ := ⟨rfl, fun ok ha R Vf V => by
  (cases Vf using VRel.tyE)
  have hcz' := not_or.mp h
  cases V using VsRel.consE with
  | cons hv ht =>
    cases ht using VsRel.consE with
    | cons hv2 ht =>
      cases ht using VsRel.consE with
      | cons hv3 ht =>
        (cases ht using VsRel.nilE); (cases hv using VRel.intE); (cases hv2 using VRel.intE); (cases hv3 using VRel.intE)
        exact PySem.call_range_3 hcz'.1 ⟨_, _, R.pushG _ rfl, .rng _ _ _ (Imm.add_self ..), step_pushG R _⟩ (.inl (PyProof.noPylong_small (Decidable.not_not.mp hcz'.2)))⟩
theorem c_listRange {x y : Int} (hsm' : Builtin.Range.small x y 1 = true) (hz' : (Builtin.Range.rangeSize x y 1).toNat ≤ lim) : EvC P d (.ty "list") [.rng x y 1] σ (.ref σ.length) (σ ++ [.list ((List.range (Builtin.Range.rangeSize x y 1).toNat).map fun (k : Nat) => AVal.int (x + (k : Int)))]) :=
  ⟨rfl, fun {c A G φ s f' vs'} ok ha R Vf V => by
  (cases Vf using VRel.tyE)
  cases V using VsRel.consE with
  | cons hv ht =>
    (cases ht using VsRel.nilE)
    cases hv using VRel.rngE with
    | rng t u w e =>
      have hnn : 0 ≤ Builtin.Range.rangeSize x y 1 := by
        unfold Builtin.Range.rangeSize
        simp only [show (1 : Int) > 0 by decide, if_true, Int.ediv_one]
        split <;> lia
      refine PySem.call_list_range (n := (Builtin.Range.rangeSize x y 1).toNat) ha.hh (R.gh _ _ e) hsm' (by lia) (by unfold lim at hz'; lia) fun h' tk acc' c' hk hS hacc => ?_
      let l : Loc := ⟨s.heap.objs.size, [], none⟩
      have hn : ∀ a ∈ l.a :: l.ps, s.heap.get? a = none := fun a ha => by
        cases List.mem_singleton.mp ha; exact get?_size _
      have hl : (φ ++ [l])[σ.length]? = some l := by rw [← R.len]; simp
      refine ⟨G, φ ++ [l], R.add hk hn (by simp [l]) (fun a ha => ?_) ⟨rfl, rfl, acc'.toList, c', by simpa using hS, vs_of_get ?_ fun i u x h1 h2 => ?_⟩, .ref (l := l) hl, step_add hk hn rfl⟩
      · cases List.mem_singleton.mp ha
        show (h'.get? s.heap.objs.size).isSome
        rw [hS]; rfl
      · simp [hacc.1]
      · obtain ⟨t, rfl⟩ := hacc.2 i x (by simpa using h2)
        simp only [List.getElem?_map, Option.map_eq_some_iff] at h1
        obtain ⟨j, hj, rfl⟩ := h1
        have := (List.getElem?_eq_some_iff.mp hj).2
        simp at this
        subst this
        rw [Int.mul_one]
        exact .int _ _⟩
theorem EvEs.star {es : List Expr} {vs : List AVal} (h : EvEs P d kd ρ es σ vs σ') {env : Env} {pos : Pos} : (backTo pos (starEach es env)).any (·.1) = false := by
  have h1 : (starEach es env).any (·.1) = false := by
    induction h with
    | nil => rfl
    | cons h0 _ _ ih => rw [starEach_cons h0]; simp [ih]
  have e : ∀ (l : List (Bool × Sem Value)), (backTo pos l).any (·.1) = l.any (·.1) := by
    intro l
    unfold backTo
    first
      | (simp [List.any_map, Function.comp_def]; done)
      | (cases l <;> simp [List.any_map, Function.comp_def] <;> rfl)
      | (split <;> simp_all [List.any_map, Function.comp_def])
  rw [e]; exact h1
theorem call_rest {c : Cx} {A : Around} {env : Env} {G G₁ : Imm} {φ φ₁ : List Loc} {s s₁ : Shared} {f' : Value} {fv : AVal} {args : List Expr} {vs : List AVal} {pos : Pos} (h2 : EvEs P d kd ρ args σ₁ vs σ₂) (h3 : EvC P d fv vs σ₂ v σ') (H₁ : Here c P d A env kd ρ G₁ φ₁ σ₁ s₁) (V₁ : VRel c G₁ φ₁ fv f') (S₁ : Step c [] G φ s G₁ φ₁ s₁) :
    wpAny (Md c) A (callWith pos f' [] (backTo pos (starEach args env)) []) (GP c G φ s v σ') (fun _ _ => False) s₁ := by
  have R₁ := H₁.r
  refine callWith_of (P := fun h => ∀ a o, G₁ a = some o → h.get? a = some o) (by rw [h2.star]; rfl) (fun h hG => keeper H₁.ok R₁ V₁ h3.1 hG) ?_
  have fin : ∀ {vs' : List Value} {s₂ : Shared} {G₂ : Imm} {φ₂ : List Loc}, Rel c G₂ φ₂ σ₂ s₂ → VsRel c G₂ φ₂ vs vs' → Step c [] G₁ φ₁ s₁ G₂ φ₂ s₂ → (∀ a o, G₁ a = some o → s₂.heap.get? a = some o) ∧
      wpAny (Md c) A (call f' ([] ++ vs')) (GP c G φ s v σ') (fun _ _ => False) s₂ := fun R₂ V₂ S₂ =>
    ⟨fun a o e => R₂.gh a o (S₂.g a o e), Gives.after (h3.2 H₁.ok H₁.a R₂ (V₁.mono S₂.g S₂.ext) V₂) (S₁.trans' S₂)⟩
  have key := h2.run pos H₁
  cases h2 with
  | nil => exact evalArgs_nil3 (fin R₁ .nil (.refl ..))
  | cons h0 _ _ =>
    rw [starEach_cons h0] at key ⊢
    have hb : ∀ (x : Sem Value) (l : List (Bool × Sem Value)), ∃ y rest, backTo pos ((false, x) :: l) = (false, y) :: rest := fun x l => by
      first
        | exact ⟨_, _, rfl⟩
        | (unfold backTo; split <;> first | exact ⟨_, _, rfl⟩ | simp_all)
    obtain ⟨y, rest, hy⟩ := hb _ _
    rw [hy] at key ⊢
    exact evalArgs_plain (wpAny_mono key (fun vs' s₂ ⟨G₂, φ₂, R₂, V₂, S₂⟩ => fin R₂ V₂ S₂) fun _ _ e => e)
theorem e_call {f : Str} {fp : Pos} {args : List Expr} {fv : AVal} {vs : List AVal} (h1 : EvE P d kd ρ (.Name f fp) σ fv σ₁) (h2 : EvEs P d kd ρ args σ₁ vs σ₂) (h3 : EvC P d fv vs σ₂ v σ') : EvE P d kd ρ (.Call (.Name f fp) args [] p) σ v σ' := .intro fun H =>
  wpAny_Call_NameR (wpAny_mono (h1.run H) (fun f' s₁ ⟨G₁, φ₁, R₁, V₁, S₁⟩ => call_rest h2 h3 (H.step R₁ S₁) V₁ S₁) fun _ _ e => e)
theorem e_append {o x : Expr} {m : Str} {ap : Pos} {i : Nat} {vs vs₀ : List AVal} (hno : PlainE o) (h0 : (notStar x && ap.endLine == p.line && decide (m = "append")) = true) (h1 : EvE P d kd ρ o σ (.ref i) σ₁) (h4 : σ₁[i]? = some (.list vs₀)) (h2 : EvE P d kd ρ x σ₁ b σ₂)
    (h3 : σ₂[i]? = some (.list vs)) (h5 : vs.length ≤ lim) : EvE P d kd ρ (.Call (.Attribute o m ap) [x] [] p) σ .none (σ₂.set i (.list (vs ++ [b]))) := .intro fun {c A env G φ s} H => by
  simp only [Bool.and_eq_true, decide_eq_true_eq] at h0
  obtain ⟨⟨hst, hline⟩, rfl⟩ := h0
  have hse : starEach [x] env = [(false, PySem.eval x env)] := starEach_cons hst
  refine wpAny_Call_append (by cases hno <;> with_unfolding_all rfl) (by rw [hse]; rfl) hline (by rw [hse]; rfl) (wpAny_mono (h1.run H) (fun a' s₁ ⟨G₁, φ₁, R₁, V₁, S₁⟩ => ?_) fun _ _ e => e)
  have H₁ := H.step R₁ S₁
  cases V₁ using VRel.refE with
  | ref hl =>
    obtain ⟨_, _, items, m, e1, _⟩ := R₁.obj _ _ _ hl h4
    refine ⟨_, _, rfl, ⟨_, m, e1, rfl, rfl, rfl⟩, wpAny_mono (h2.run H₁) (fun b' s₂ ⟨G₂, φ₂, R₂, V₂, S₂⟩ => ?_) fun _ _ e => e⟩
    obtain ⟨l₂, hl₂, hla, _⟩ := S₂.ext _ _ hl
    rw [← hla]
    exact sim_append R₂ hl₂ h3 V₂ h5 fun s' R' S' => ⟨G₂, φ₂, R', .none, (S₁.trans' S₂).trans' S'⟩
end
end Mini
namespace Mini
open PySem PySem.W PySem.W.X PyProof PyProof.Rows PySem.Calls
theorem ghost_get_of {h : Heap} {tabs : List (Addr × Addr)} {b : Addr} {o : Obj} (e : (ghostOf h tabs).get? b = some o) : h.get? b = some o ∧ b ∉ tabs.map (·.2) :=
  ⟨of_hideAll _ e, fun q => by rw [hideAll_none _ q] at e; cases e⟩
theorem rel_start {c : Cx} {s₁ : Shared} (hB : c.B = ghostOf s₁.heap c.tabs) (hT : TabsAt c.tabs s₁.heap) (hnd : (c.tabs.map (·.2)).Nodup) (hg : s₁.gens = #[]) : Rel c (fun a => c.B.get? a) [] [] s₁ where
  gB := fun _ _ e => e
  gh := fun a o e => by rw [hB] at e; exact (ghost_get_of e).1
  gf := fun a ha => by
    cases q : c.B.get? a with
    | none => rfl
    | some o =>
      rw [hB] at q
      refine absurd ?_ (ghost_get_of q).2
      simpa [foot] using ha
  len := rfl
  nodup := by simpa [foot] using hnd
  live := fun a ha => by
    have : a ∈ c.tabs.map (·.2) := by simpa [foot] using ha
    obtain ⟨q, hq, rfl⟩ := List.mem_map.mp this
    rw [(hT q hq).2]; rfl
  obj := fun i l o h => by simp at h
  gn := by simp [gfoot]
  bare := fun x hx => by rw [hg] at hx; simp at hx
  tab := fun q hq => ⟨#[], (hT q hq).2, trivial, fun pos cv h => by cases h⟩
theorem law_join {c : Cx} {P : PI} {cw : ClaimW} {cl : Str → Option Addr} {mean : ExcName → Option Value} {args : List WData} {s₁ : Shared} {f : Fn} {ns : List Int} {L : Addr} {items : List Value} {d : Nat} {σ' : St} {ρ' : Vars} {x : Str} {body : List Stmt} {names : List (Str × NameKind)} {A : Around}
    (ok : COk c P) (hB : c.B = ghostOf s₁.heap c.tabs) (hT : TabsAt c.tabs s₁.heap) (hnd : (c.tabs.map (·.2)).Nodup) (hg : s₁.gens = #[]) (F : FnOk c f [x] body names) (hL : s₁.heap.IsList L items.toArray) (hI : IntsAre items ns) (ha : GoodA (d + 1) A)
    (hrun : EvXs P d (fun y => names.lookup y) (bindAll [x] [.scr ns]) body [] (.ret (.bool true)) ρ' σ') (hpost : cw.post args (.bool true) args = true) (hraise : ∀ cls, cw.raises args cls = false) :
    codeAny (Md c) A (.call (.ref f.addr) ⟨[.ref L], []⟩) (GoodWG cw cl mean args s₁) s₁ := by
  have R := rel_start hB hT hnd hg
  have hLB : ∃ o, c.B.get? L = some o ∧ o.cls = .type "list" ∧ ∃ m, o.data = .seq items.toArray m := by
    obtain ⟨o, e, hc, m, hd⟩ := hL
    exact ⟨o, by rw [hB]; exact ghost_get hT e (fun q => by rw [q] at hc; cases hc), hc, m, hd⟩
  obtain ⟨o, e, hc, m, hd⟩ := hLB
  have V : VsRel c (fun a => c.B.get? a) [] [.scr ns] [.ref L] := .cons (.scr e hc m hd hI) .nil
  refine codeAny_mono (callFn (v := .bool true) (Q := fun v' s' => v' = .bool true ∧ OldK s₁.heap s'.heap ∧ s'.os = s₁.os ∧ AllBare s'.gens) (E := fun _ _ => False) F hrun rfl rfl ok ha R V fun v' s' G' φ' R' V' S' => ?_) fun r s' hr => ?_
  · (cases V' using VRel.boolE)
    have keep : ∀ b o, b ∉ c.tabs.map (·.2) → s₁.heap.get? b = some o → s'.heap.get? b = some o := fun b o hb e => R'.gh _ _ (S'.g _ _ (by show c.B.get? b = some o; rw [hB]; exact ghost_ne e hb))
    have grown : ∀ b o, b ∈ c.tabs.map (·.2) → s₁.heap.get? b = some o → isCodeTable s₁.heap b ∧ o = tabObj #[] ∧ ∃ ps, s'.heap.get? b = some (tabObj ps) := fun b o hb e => by
      obtain ⟨q, hq, rfl⟩ := List.mem_map.mp hb
      have e2 := (hT q hq).2
      rw [e] at e2
      obtain ⟨ps, e3, _⟩ := R'.tab q hq
      exact ⟨((hT q hq).1.tab (hT q hq).2).isCodeTable, Option.some.inj e2, ps, e3⟩
    refine ⟨rfl, ⟨fun b o e => ?_, fun b o e => ?_⟩, S'.os, ?_⟩
    · by_cases hb : b ∈ c.tabs.map (·.2)
      · obtain ⟨ht, rfl, ps, hP⟩ := grown b o hb e
        exact .inr (.inl ⟨ht, rfl, #[], ps, rfl, by rw [Array.empty_append]; exact hP⟩)
      · exact .inl (keep b o hb e)
    · by_cases hb : b ∈ c.tabs.map (·.2)
      · obtain ⟨_, _, ps, hP⟩ := grown b o hb e
        exact ⟨_, hP⟩
      · exact ⟨o, keep b o hb e⟩
    · exact R'.bare
  · split at hr
    · obtain ⟨rfl, hK, hos, hb⟩ := hr
      exact ⟨.inl ⟨_, .bool true, [], rfl, hraise, .bool true, hpost, fun _ => ⟨List.nodup_nil, fun _ h => nomatch h⟩⟩, hK, hos, hb⟩
    · exact hr.elim
    · exact hr.elim
noncomputable def fnCheck (K : Frag) (a : Addr) (ps : List Str) (names : List (Str × NameKind)) : Bool :=
  match K.lookup a with
  | some ⟨_, _, .func fd, _⟩ =>
    (match fd.code with
    | .ref ca => (match K.lookup ca with
      | some ⟨_, _, .fields vs, _⟩ => (match (vs[1]? : Option Value) with
        | some (.str q _) => q == fd.qualname
        | _ => false)
      | _ => false)
    | _ => false) && fd.closure.isEmpty && !fd.scope.isCoroutine && !fd.scope.isGenerator && fd.scope.kind == .function && fd.globals == mainGlobals && fd.builtins == builtinsNs &&
    decide ps.Nodup && ps.all (fun x => names.lookup x == some .local || names.lookup x == some .cell) && names.all (fun p => p.2 != .free) &&
    names.all (fun p => p.2 != .cell || names.lookup p.1 == some .cell)
  | _ => false
noncomputable def fdOf (K : Frag) (a : Addr) : FuncData := match K.lookup a with
  | some ⟨_, _, .func fd, _⟩ => fd
  | _ => default
theorem lookup_cellsFrom_some {x : Str} : ∀ (names : List (Str × NameKind)) (n : Nat) (acc : List (Str × Addr)), ((x, NameKind.cell) ∈ names ∨ (acc.lookup x).isSome = true) → ((cellsFrom n names acc).lookup x).isSome = true
  | [], n, acc, h => by
    rcases h with h | h
    · cases h
    · exact h
  | (y, k) :: r, n, acc, h => by
    unfold cellsFrom
    split
    · rename_i hk
      refine lookup_cellsFrom_some r _ _ ?_
      rcases h with h | h
      · rcases List.mem_cons.mp h with e | h
        · cases e; exact .inr (by rw [List.lookup_cons]; simp)
        · exact .inl h
      · refine .inr ?_
        rw [List.lookup_cons]
        split
        · rfl
        · exact h
    · rename_i hk
      refine lookup_cellsFrom_some r _ _ ?_
      rcases h with h | h
      · rcases List.mem_cons.mp h with e | h
        · cases e; exact absurd rfl hk
        · exact .inl h
      · exact .inr h
theorem mem_cellsFrom {p : Str × Addr} : ∀ (names : List (Str × NameKind)) (n : Nat) (acc : List (Str × Addr)), p ∈ cellsFrom n names acc → p ∈ acc ∨ (p.1, NameKind.cell) ∈ names
  | [], n, acc, h => .inl h
  | (y, k) :: r, n, acc, h => by
    unfold cellsFrom at h
    split at h
    · rename_i hk
      rcases mem_cellsFrom r _ _ h with h | h
      · rcases List.mem_cons.mp h with rfl | h
        · have := eq_of_beq hk
          subst this
          exact .inr (.head _)
        · exact .inl h
      · exact .inr (.tail _ h)
    · rcases mem_cellsFrom r _ _ h with h | h
      · exact .inl h
      · exact .inr (.tail _ h)
theorem fnOk_of {c : Cx} {K : Frag} {a : Addr} {ps : List Str} {body : List Stmt} {names : List (Str × NameKind)} (X : K.In c.B) (h : fnCheck K a ps names = true) (hb : (fdOf K a).body = .stmts body) (hn : (fdOf K a).scope.names = names)
    (bind : ∀ vs', vs'.length = ps.length → bindArgs (fdOf K a) ⟨vs', []⟩ = pure (ps.zip vs')) : FnOk c ⟨a, fdOf K a, body, ps⟩ ps body names := by
  unfold fnCheck at h
  split at h
  · rename_i cl dd fd sl hK
    have hfd : fdOf K a = fd := by unfold fdOf; rw [hK]
    simp only [Bool.and_eq_true] at h
    obtain ⟨⟨⟨⟨⟨⟨⟨⟨⟨⟨h1, h2⟩, h3⟩, h4⟩, h5⟩, h6⟩, h7⟩, h8⟩, h9⟩, h10⟩, h11⟩ := h
    rw [hfd] at hb hn bind ⊢
    split at h1
    · rename_i ca hca
      split at h1
      · rename_i cl' dd' vs sl' hK'
        split at h1
        · rename_i q t hv
          have hq := eq_of_beq h1
          subst hq
          refine ⟨⟨_, X _ _ hK, rfl⟩, ⟨ca, _, vs, t, hca, X _ _ hK', rfl, hv⟩, hb, List.isEmpty_iff.mp h2, hn, by simpa using h3, by simpa using h4, eq_of_beq h5, eq_of_beq h6, eq_of_beq h7, bind, of_decide_eq_true h8, fun x hx => ?_, fun x hx => ?_, fun x hx n => ?_⟩
          · have := List.all_eq_true.mp h9 x hx
            simpa using this
          · have := List.all_eq_true.mp h10 _ (mem_of_lookup hx)
            simp at this
          · exact lookup_cellsFrom_some names n [] (.inl (mem_of_lookup hx))
        · (cases h1)
      · (cases h1)
    · (cases h1)
  · cases h
end Mini
namespace Mini
open PySem PySem.W PySem.W.X PyProof PyProof.Rows PySem.Calls
section
variable {σ σ' : St} {i j : Nat} {o o' x y : AObj}
theorem get_new : (σ ++ [o])[σ.length]? = some o := by simp
theorem get_old (h : σ[i]? = some x) : (σ ++ σ')[i]? = some x := by
  rw [List.getElem?_append_left (List.getElem?_eq_some_iff.mp h).1]; exact h
theorem set_hit (h : σ[i]? = some x) : (σ.set i o)[i]? = some o := by
  rw [List.getElem?_set_self (List.getElem?_eq_some_iff.mp h).1]
theorem set_ne (h : i ≠ j) (h' : σ[j]? = some x) : (σ.set i o)[j]? = some x := by
  rw [List.getElem?_set_ne h]; exact h'
theorem ne_new (h : σ[i]? = some x) : i ≠ σ.length := by have := (List.getElem?_eq_some_iff.mp h).1; lia
theorem lt_get (h : σ[i]? = some x) : i < σ.length := (List.getElem?_eq_some_iff.mp h).1
theorem lo_ref {vs : List AVal} (h : σ[i]? = some (.list vs)) : listOf? σ (.ref i) = some vs := by simp [listOf?, h]
theorem lo_scr {ns : List Int} : listOf? σ (.scr ns) = some (ns.map .int) := rfl
theorem io_ref {ats : List (Str × AVal)} (h : σ[i]? = some (.inst ats)) : instOf? σ (.ref i) = some ats := by simp [instOf?, h]
theorem mk_rng1 {a b : Int} (h : a ≤ b ∧ -1000000 ≤ a ∧ b ≤ 1000000) : IterR σ (.rng a b 1) (.rng a (b - a) 1) := by
  have hs : Builtin.Range.small a b 1 = true := small_one (by lia) (by lia) (by lia) (by lia)
  have hz : Builtin.Range.rangeSize a b 1 = b - a := by rw [rangeSize_one]; split <;> lia
  rw [← hz]; exact mk_rng hs
theorem lk_name {x : Str} {p : Pos} {it : AIt} : LoopT (.Name x p) it := .name
end
section
variable {ρ : Vars} {x y : Str} {v w : AVal} {r : Option AVal} {kd : Kinds} {xs : List Str} {vs : List AVal}
theorem v_hit : Vars.set ρ x v x = some v := by simp [Vars.set]
theorem v_ne (h : (y == x) = false) (h' : ρ y = r) : Vars.set ρ x v y = r := by simp [Vars.set, beq_eq_false_iff_ne.mp h, h']
theorem b_hit : bindAll (x :: xs) (v :: vs) x = some v := by simp [bindAll]
theorem b_ne (h : (y == x) = false) (h' : bindAll xs vs y = r) : bindAll (x :: xs) (v :: vs) y = r := by simp [bindAll, beq_eq_false_iff_ne.mp h, h']
theorem fv_get (h : (kd x == some .cell || kd x == some .free) = true) (h' : ρ x = r) : freeVars kd ρ x = r := by
  rw [Bool.or_eq_true] at h
  unfold freeVars
  rcases h with h | h
  · rw [eq_of_beq h]; exact h'
  · rw [eq_of_beq h]; exact h'
theorem l_hit {α β : Type} [BEq α] [LawfulBEq α] {x : α} {v : β} {l : List (α × β)} : ((x, v) :: l).lookup x = some v := by simp
end
theorem compOk_mono {scope : Scope} {kd : Kinds} {ρ ρ₂ : Vars} {x : Str} (h : compOk scope kd ρ₂ x = true) (hs : ∀ y, (ρ₂ y).isSome = true → (ρ y).isSome = true) : compOk scope kd ρ x = true := by
  unfold compOk at *
  simp only [Bool.and_eq_true, List.all_eq_true, Bool.or_eq_true] at *
  obtain ⟨⟨h1, h2⟩, h3⟩ := h
  refine ⟨⟨h1, fun p hp => ?_⟩, h3⟩
  obtain ⟨⟨a, b⟩, c⟩ := h2 p hp
  refine ⟨⟨a, b⟩, ?_⟩
  rcases c with c | ⟨c, e⟩
  · exact .inl c
  · exact .inr ⟨c, hs _ e⟩
noncomputable def dom (xs : List Str) : Vars := fun y => if xs.contains y then some .none else none
theorem dom_nil {ρ : Vars} : ∀ y, (dom [] y).isSome = true → (ρ y).isSome = true := fun y h => by simp [dom] at h
section
variable {P : PI} {d : Nat} {kd : Kinds} {ρ : Vars} {σ σ₁ : St} {x : Str} {elt : Expr} {ifs : List Expr} {w : AVal} {vs : List AVal}
theorem filter_all {α : Type} (l : List α) : l.filter (fun _ => true) = l := List.filter_eq_self.mpr fun _ _ => rfl
theorem set_new {σ : St} {o o' : AObj} : (σ ++ [o]).set σ.length o' = σ ++ [o'] := by simp
theorem set_mid {σ τ : St} {o o' : AObj} : (σ ++ [o] ++ τ).set σ.length o' = σ ++ [o'] ++ τ := by
  rw [List.append_assoc, List.append_assoc]
  simp [List.set_append_right]
theorem cm_allocFrom {f : AVal → AObj} (hsrc : ∀ l τ, listOf? (σ₁ ++ [.list l] ++ τ) w = some vs) (hlen : vs.length ≤ lim) (h : ∀ v ∈ vs, ∀ l τ, EvE P d kd (Vars.set ρ x v) elt (σ₁ ++ [.list l] ++ τ) (.ref (σ₁ ++ [AObj.list l] ++ τ).length) (σ₁ ++ [.list l] ++ τ ++ [f v])) :
    ∀ (rest done : List AVal), vs = done ++ rest → EvCm P d kd ρ x elt [] σ₁.length (.seq w done.length) (σ₁ ++ [.list ((List.range done.length).map fun i => .ref (σ₁.length + 1 + i))] ++ done.map f) (σ₁ ++ [.list ((List.range vs.length).map fun i => .ref (σ₁.length + 1 + i))] ++ vs.map f)
  | [], done, hv => by
    rw [List.append_nil] at hv
    subst hv
    exact cm_end (n_seqEnd (hsrc _ _) (by simp))
  | v :: rest, done, hv => by
    have hm : v ∈ vs := by rw [hv]; simp
    have hg : vs[done.length]? = some v := by rw [hv]; simp
    have ih := cm_allocFrom hsrc hlen h rest (done ++ [v]) (by simpa using hv)
    refine cm_take (n_seq (hsrc _ _) hg) ts_nil (h v hm _ _) (get_old (get_old get_new)) (by rw [hv] at hlen; simp at hlen ⊢; lia) ?_
    rw [List.append_assoc (σ₁ ++ [_])]
    rw [set_mid]
    have e : (σ₁ ++ [AObj.list ((List.range done.length).map fun i => AVal.ref (σ₁.length + 1 + i))] ++ done.map f).length = σ₁.length + 1 + done.length := by simp; lia
    rw [e]
    have e2 : (List.range (done ++ [v]).length).map (fun i => AVal.ref (σ₁.length + 1 + i)) = (List.range done.length).map (fun i => AVal.ref (σ₁.length + 1 + i)) ++ [AVal.ref (σ₁.length + 1 + done.length)] := by
      simp [List.range_succ]
    rw [e2] at ih
    simpa using ih
theorem cm_alloc {f : AVal → AObj} (hsrc : ∀ l τ, listOf? (σ₁ ++ [.list l] ++ τ) w = some vs) (hlen : vs.length ≤ lim) (h : ∀ v ∈ vs, ∀ l τ, EvE P d kd (Vars.set ρ x v) elt (σ₁ ++ [.list l] ++ τ) (.ref (σ₁ ++ [AObj.list l] ++ τ).length) (σ₁ ++ [.list l] ++ τ ++ [f v])) :
    EvCm P d kd ρ x elt [] σ₁.length (.seq w 0) (σ₁ ++ [.list []]) (σ₁ ++ [.list ((List.range vs.length).map fun i => .ref (σ₁.length + 1 + i))] ++ vs.map f) := by
  simpa using cm_allocFrom (kd := kd) (ρ := ρ) (x := x) hsrc hlen h vs [] rfl
theorem src_ref2 {i : Nat} {l : List AVal} {τ : St} (h : σ₁[i]? = some (.list vs)) : listOf? (σ₁ ++ [.list l] ++ τ) (.ref i) = some vs := lo_ref (get_old (get_old h))
theorem cm_rngFrom {f : Nat → AVal} {g : Nat → Bool} {s : Int} (a₀ : Int) (n₀ : Nat) (hlen : n₀ ≤ lim) (ht : ∀ i : Nat, i < n₀ → ∀ l, EvTs P d kd (Vars.set ρ x (.int (a₀ + i * s))) .And ifs (σ₁ ++ [.list l]) (g i) (σ₁ ++ [.list l])) (h : ∀ i : Nat, i < n₀ → g i = true → ∀ l, EvE P d kd (Vars.set ρ x (.int (a₀ + i * s))) elt (σ₁ ++ [.list l]) (f i) (σ₁ ++ [.list l])) :
    ∀ (n k : Nat) (l : List AVal), k + n = n₀ → l.length ≤ k → EvCm P d kd ρ x elt ifs σ₁.length (.rng (a₀ + k * s) n s) (σ₁ ++ [.list l]) (σ₁ ++ [.list (l ++ ((List.range' k n).filter g).map f)])
  | 0, k, l, hk, hl => by simpa using cm_end (n_rngEnd (by decide))
  | n + 1, k, l, hk, hl => by
    have e1 : a₀ + (k : Int) * s + s = a₀ + ((k + 1 : Nat) : Int) * s := by rw [Int.natCast_add, Int.add_mul]; simp [Int.add_assoc]
    have e2 : (((n + 1 : Nat) : Int) - 1) = n := by lia
    cases q : g k with
    | true =>
      have ih := cm_rngFrom a₀ n₀ hlen ht h n (k + 1) (l ++ [f k]) (by lia) (by simp; lia)
      refine cm_take (n_rng (by lia)) (by rw [← q]; exact ht k (by lia) l) (h k (by lia) q l) get_new (by lia) ?_
      rw [set_new, e1, e2, List.range'_succ]
      simpa [q] using ih
    | false =>
      have ih := cm_rngFrom a₀ n₀ hlen ht h n (k + 1) l (by lia) (by lia)
      refine cm_skip (n_rng (by lia)) (by rw [← q]; exact ht k (by lia) l) ?_
      rw [e1, e2, List.range'_succ]
      simpa [q] using ih
theorem cm_rng {f : Nat → AVal} {s a₀ : Int} {n₀ : Nat} (hlen : n₀ ≤ lim) (h : ∀ i : Nat, i < n₀ → ∀ l, EvE P d kd (Vars.set ρ x (.int (a₀ + i * s))) elt (σ₁ ++ [.list l]) (f i) (σ₁ ++ [.list l])) :
    EvCm P d kd ρ x elt [] σ₁.length (.rng a₀ n₀ s) (σ₁ ++ [.list []]) (σ₁ ++ [.list ((List.range n₀).map f)]) := by
  have := cm_rngFrom (kd := kd) (ρ := ρ) (x := x) (ifs := []) (g := fun _ => true) (s := s) a₀ n₀ hlen (fun i hi l => ts_nil) (fun i hi _ l => h i hi l) n₀ 0 [] (by lia) (Nat.le_refl _)
  rw [filter_all] at this
  simpa [List.range_eq_range'] using this
end
end Mini
open PySem PySem.W PyProof.Rows
namespace Mini
noncomputable def AllP {α : Type} (p : Str → α → Prop) : List (Str × α) → Prop
  | [] => True
  | q :: r => p q.1 q.2 ∧ AllP p r
theorem AllP.look {α : Type} {p : Str → α → Prop} {x : Str} {v : α} : ∀ {l : List (Str × α)}, AllP p l → l.lookup x = some v → p x v
  | [], _, h => nomatch h
  | q :: r, h, e => by
    rw [List.lookup_cons] at e
    split at e
    · rename_i he
      cases e
      rw [eq_of_beq he]; exact h.1
    · exact AllP.look h.2 e
noncomputable def GOk (c : Cx) (x : Str) (v : AVal) : Prop := ∃ v', (c.mg x = some v' ∨ (c.mg x = none ∧ c.mb x = some v')) ∧ ∀ G φ, VRel c G φ v v'
noncomputable def BOk (c : Cx) : Prop := c.K.In c.B ∧ c.B.Ns mainGlobals c.mg ∧ ∀ x : Str, x ≠ "__name__" → c.mb x = bootBuiltins x
section
variable {c : Cx} {x : Str} (O : BOk c)
include O
theorem gk_fn {f : Fn} (h1 : nsIn c.K mainGlobals x = some (some (.ref f.addr))) (h2 : c.fns x = some f) : GOk c x (.fn x) :=
  ⟨.ref f.addr, .inl (mg_of O.1 O.2.1 h1), fun _ _ => VRel.fn h2⟩
theorem gk_cls (h1 : nsIn c.K mainGlobals x = some (some (.ref c.C))) : GOk c x .cls := ⟨_, .inl (mg_of O.1 O.2.1 h1), fun _ _ => .cls⟩
theorem gk_bi {n : String} (h1 : nsIn c.K mainGlobals x = some none) (h2 : (x == ("__name__" : Str)) = false) (h3 : bootBuiltins x = some (.builtin n)) : GOk c x (.bi n) :=
  ⟨.builtin n, .inr ⟨mg_none_of O.1 O.2.1 h1, (O.2.2 x (by simpa using h2)).trans h3⟩, fun _ _ => .bi _⟩
theorem gk_ty {n : String} (h1 : nsIn c.K mainGlobals x = some none) (h2 : (x == ("__name__" : Str)) = false) (h3 : bootBuiltins x = some (.type n)) : GOk c x (.ty n) :=
  ⟨.type n, .inr ⟨mg_none_of O.1 O.2.1 h1, (O.2.2 x (by simpa using h2)).trans h3⟩, fun _ _ => .ty _⟩
end
section
variable {fd : FuncData} {ps : List Str}
theorem ar1 (h0 : ps.length = 1) (h : ∀ a, bindArgs fd ⟨[a], []⟩ = pure (ps.zip [a])) (vs' : List Value) (hl : vs'.length = ps.length) : bindArgs fd ⟨vs', []⟩ = pure (ps.zip vs') := by
  rw [h0] at hl; obtain ⟨a, rfl⟩ := List.length_eq_one_iff.mp hl; exact h a
theorem len_succ {vs' : List Value} {n : Nat} (h : vs'.length = n + 1) : ∃ a r, vs' = a :: r ∧ r.length = n := by
  cases vs' with
  | nil => cases h
  | cons a r => exact ⟨a, r, rfl, by simpa using h⟩
theorem ar2 (h0 : ps.length = 2) (h : ∀ a b, bindArgs fd ⟨[a, b], []⟩ = pure (ps.zip [a, b])) (vs' : List Value) (hl : vs'.length = ps.length) : bindArgs fd ⟨vs', []⟩ = pure (ps.zip vs') := by
  rw [h0] at hl; obtain ⟨a, r, rfl, h1⟩ := len_succ hl; obtain ⟨b, rfl⟩ := List.length_eq_one_iff.mp h1; exact h a b
end
theorem mk_of {c : Cx} {h : Heap} {q : Addr × Addr} {f : Fn} {nm : Str} {p : Program} {loose : List Str} {mean : ExcName → Option Value} (hB : c.B = ghostOf h c.tabs) (hT : TabsAt c.tabs h) (T : Top p loose mean c.mg c.mb h) (hq : q ∈ c.tabs)
    (hcode : f.fd.code = .ref q.1) (htq : c.tq q.2 = f.fd.qualname ++ ".<locals>." ++ nm) (hng : mainGlobals ≠ q.2) (hown : f.fd.scope.names.all (fun p => p.2 != .cell || f.fd.scope.names.lookup p.1 == some .cell) = true) : MkOk c f nm q := by
  refine ⟨hq, hcode, ?_, htq, ?_, hng, fun L p hp hl => ?_⟩
  · rw [hB]
    obtain ⟨o, vs, file, tf, flags, tg, inF, text, tt, e1, r1, r2, r3, r4, r5, r6, r7, r8, hne⟩ := (hT q hq).1
    exact ⟨o, vs, file, tf, flags, tg, inF, text, tt, ghost_get hT e1 (fun q => by rw [q] at r1; cases r1), r1, r2, r3, r4, r5, r6, r7, r8, hne⟩
  · obtain ⟨bm, ob, b1, b2, b3, b4, b5, b6⟩ := T.bmain
    have hbP : bm ≠ q.2 := fun z => by
      have e := (hT q hq).2
      rw [z] at b3
      rw [b3] at e; cases e; cases b4
    have hbG : bm ≠ mainGlobals := fun z => by
      obtain ⟨o, es, ep, e, hd, _⟩ := T.g
      rw [z, e] at b3; cases b3; rw [hd] at b6; cases b6
    exact ⟨bm, ob, b1, b2, hbG, hbP, by rw [hB]; exact ghost_get hT b3 (fun z => by rw [z] at b4; cases b4), b4, b5, b6⟩
  · rcases mem_cellsFrom _ _ _ hp with z | z
    · cases z
    · simpa using List.all_eq_true.mp hown _ z
end Mini
open PySem PySem.W PyProof PyProof.Rows PySem.Calls
namespace Mini
section
variable {c : Cx} {P : PI} {n d : Nat} {A : Around} {env : Env} {kd : Kinds} {ρ ρ' : Vars} {G : Imm} {φ : List Loc} {σ σ' : St} {s s' : Shared} {v : AVal}
theorem Rel.relist {i : Nat} {l : Loc} {vs vs' : List AVal} {items' : List Value} {m' tk : Nat} {h' : Heap} (R : Rel c G φ σ s) (hl : φ[i]? = some l) (ho : σ[i]? = some (.list vs)) (e' : h'.get? l.a = some { cls := .type "list", data := .seq items'.toArray m' }) (hs : Heap.SameBut l.a s.heap h') (V : VsRel c G φ vs' items') :
    Rel c G φ (σ.set i (.list vs')) { s with heap := h', toks := tk } ∧ Step c [] G φ s G φ { s with heap := h', toks := tk } := by
  obtain ⟨p1, p2, items, m, e, rr⟩ := R.obj _ _ _ hl ho
  have ne : ∀ b, b ∉ l.a :: l.ps → b ≠ l.a := fun b hb z => hb (by rw [z]; exact .head _)
  have lv : ∀ b, (s.heap.get? b).isSome → (h'.get? b).isSome := fun b hb => by
    by_cases z : b = l.a
    · rw [z, e']; rfl
    · rw [hs.2 b z]; exact hb
  exact ⟨R.set hl (fun b x hb _ e => (hs.2 b (ne b hb)).trans e) (fun a ha => lv a (R.live a (mem_foot hl ha))) ⟨p1, p2, items', m', e', V⟩, step_set hl (fun b x hb _ e => (hs.2 b (ne b hb)).trans e) lv rfl⟩
end
section
variable {P : PI} {d : Nat} {kd : Kinds} {ρ ρ₁ ρ₂ ρ' : Vars} {σ σ₁ σ₂ σ₃ σ₄ σ' : St} {v a b : AVal} {p : Pos}
inductive PlainM : Expr → Prop
  | plain {e} (h : PlainE e) : PlainM e
  | const {k n p} : PlainM (.Constant k n p)
  | bin {a o b p} : PlainM (.BinOp a o b p)
structure MethR (σ : St) (a : AVal) (m : Str) (id : String) : Prop where
  intro ::
  run : ∀ {c G φ s ov}, Rel c G φ σ s → VRel c G φ a ov → ∃ T, PlainAttrs T ∧ Slot T m id ∧ typeOf (.builtin id) = pure (.type "method_descriptor") ∧ s.TypeIs ov T ∧ (∀ a, ov = .ref a → ∃ ob, s.heap.get? a = some ob ∧ ob.dict = none)
theorem meth_rest {c : Cx} {A : Around} {env : Env} {G G₁ : Imm} {φ φ₁ : List Loc} {s s₁ : Shared} {ov : Value} {id : String} {args : List Expr} {vs : List AVal} {pos : Pos} (h2 : EvEs P d kd ρ args σ₁ vs σ₂) (h3 : EvC P d (.bi id) (a :: vs) σ₂ v σ') (H₁ : Here c P d A env kd ρ G₁ φ₁ σ₁ s₁) (V₁ : VRel c G₁ φ₁ a ov) (S₁ : Step c [] G φ s G₁ φ₁ s₁) :
    wpAny (Md c) A (callWith pos (.builtin id) [ov] (backTo pos (starEach args env)) []) (GP c G φ s v σ') (fun _ _ => False) s₁ := by
  have R₁ := H₁.r
  refine callWith_of (P := fun h => True) (by rw [h2.star]; rfl) (fun h _ => ⟨.machine, .inr (.inl rfl), .now⟩) ?_
  have fin : ∀ {vs' : List Value} {s₂ : Shared} {G₂ : Imm} {φ₂ : List Loc}, Rel c G₂ φ₂ σ₂ s₂ → VsRel c G₂ φ₂ vs vs' → Step c [] G₁ φ₁ s₁ G₂ φ₂ s₂ → True ∧
      wpAny (Md c) A (call (.builtin id) ([ov] ++ vs')) (GP c G φ s v σ') (fun _ _ => False) s₂ := fun R₂ V₂ S₂ =>
    ⟨trivial, Gives.after (h3.2 H₁.ok H₁.a R₂ (.bi id) (.cons (V₁.mono S₂.g S₂.ext) V₂)) (S₁.trans' S₂)⟩
  have key := h2.run pos H₁
  cases h2 with
  | nil => exact evalArgs_nil3 (fin R₁ .nil (.refl ..))
  | cons h0 _ _ =>
    rw [starEach_cons h0] at key ⊢
    have hb : ∀ (x : Sem Value) (l : List (Bool × Sem Value)), ∃ y rest, backTo pos ((false, x) :: l) = (false, y) :: rest := fun x l => ⟨_, _, rfl⟩
    obtain ⟨y, rest, hy⟩ := hb _ _
    rw [hy] at key ⊢
    exact evalArgs_plain (wpAny_mono key (fun vs' s₂ ⟨G₂, φ₂, R₂, V₂, S₂⟩ => fin R₂ V₂ S₂) fun _ _ e => e)
theorem e_meth {o : Expr} {m : Str} {id : String} {ap : Pos} {args : List Expr} {vs : List AVal} (hno : PlainM o) (h0 : (decide (args.length < 30) && ap.endLine == p.line) = true) (h1 : EvE P d kd ρ o σ a σ₁) (ht : MethR σ₁ a m id) (h2 : EvEs P d kd ρ args σ₁ vs σ₂)
    (h3 : EvC P d (.bi id) (a :: vs) σ₂ v σ') : EvE P d kd ρ (.Call (.Attribute o m ap) args [] p) σ v σ' := .intro fun {c A env G φ s} H => by
  rw [Bool.and_eq_true] at h0
  have hs := h2.star (env := env) (pos := p)
  refine wpAny_Call_method_late (trees := backTo p (starEach args env)) (by rcases hno with ⟨⟨⟩⟩ <;> with_unfolding_all rfl) ?_ h0.2 rfl (wpAny_mono (h1.run H) (fun ov s₁ ⟨G₁, φ₁, R₁, V₁, S₁⟩ => ?_) fun _ _ e => e)
  · have e1 : (backTo p (starEach args env)).all (fun x => !x.1) = true := by
      rw [List.all_eq_not_any_not]; simp [hs]
    have e2 : decide (args.length + ([] : List Keyword).length + (if ([] : List Keyword).isEmpty then 0 else 1) < 30) = true := by simpa using h0.1
    rw [e1, e2]; rfl
  · obtain ⟨T, q1, q2, q3, q4, q5⟩ := ht.run R₁ V₁
    exact ⟨T, id, q1, q2, q3, q4, q5, meth_rest h2 h3 (H.step R₁ S₁) V₁ S₁⟩
theorem listMeth {m : Str} {id : String} {i : Nat} {vs : List AVal} (hs : Slot "list" m id) (ht : typeOf (.builtin id) = pure (.type "method_descriptor")) (h : σ[i]? = some (.list vs)) : MethR σ (.ref i) m id := .intro fun R V => by
  cases V using VRel.refE with
  | ref hl =>
    obtain ⟨_, _, items, n, e, _⟩ := R.obj _ _ _ hl h
    exact ⟨"list", F.plainAttrs_list, hs, ht, ⟨_, e, rfl⟩, fun a ha => by cases ha; exact ⟨_, e, rfl⟩⟩
noncomputable def pickL {α : Type} (xs : List α) (lo hi st : Option Int) : List α :=
  (sliceRange (sliceBounds lo hi st xs.length).1 (sliceBounds lo hi st xs.length).2.1 (sliceBounds lo hi st xs.length).2.2).filterMap (xs[·]?)
theorem VsRel.places {c : Cx} {G : Imm} {φ : List Loc} {vs : List AVal} {items : List Value} (h : VsRel c G φ vs items) : ∀ js : List Nat, VsRel c G φ (js.filterMap (vs[·]?)) (js.filterMap (items[·]?))
  | [] => .nil
  | j :: js => by
    have ih := VsRel.places h js
    cases hn : vs[j]? with
    | some n =>
      obtain ⟨t, hv, V⟩ := h.get hn
      simp only [List.filterMap_cons, hn, hv]
      exact .cons V ih
    | none =>
      simp only [List.filterMap_cons, hn, h.get_none hn]
      exact ih
theorem VsRel.pick {c : Cx} {G : Imm} {φ : List Loc} {vs : List AVal} {items : List Value} (h : VsRel c G φ vs items) (lo hi st : Option Int) : VsRel c G φ (pickL vs lo hi st) (slicePick items.toArray lo hi st).toList := by
  have e : (slicePick items.toArray lo hi st).toList = (sliceRange (sliceBounds lo hi st vs.length).1 (sliceBounds lo hi st vs.length).2.1 (sliceBounds lo hi st vs.length).2.2).filterMap (items[·]?) := by
    simp [slicePick, h.length]
  rw [e]
  exact h.places _
theorem isPart_of {l : Option (Int × Tok)} {i : Option Int} (h : l.map (·.1) = i) : IsPart (partValue l) i := by
  subst h
  cases l with
  | none => exact .none
  | some x => exact .int _ _
theorem e_sliceL {o : Expr} {lo hi st : Option Expr} {l h k : Option Int} {q : Pos} {vs : List AVal} (h1 : EvE P d kd ρ o σ a σ₁) (h2 : EvO P d kd ρ lo σ₁ l σ₂) (h3 : EvO P d kd ρ hi σ₂ h σ₃) (h4 : EvO P d kd ρ st σ₃ k σ₄) (hk : (k == some 0) = false) (h5 : listOf? σ₄ a = some vs) (h6 : vs.length ≤ lim) :
    EvE P d kd ρ (.Subscript o (.Slice lo hi st q) p) σ (.ref σ₄.length) (σ₄ ++ [.list (pickL vs l h k)]) := .intro fun {c A env G φ s} H => by
  refine Subscript_ (wpAny_mono (h1.run H) (fun a' s₁ ⟨G₁, φ₁, R₁, V₁, S₁⟩ => ?_) fun _ _ e => e)
  have H₁ := H.step R₁ S₁
  refine wpAny_Slice (wpAny_mono (h2.run H₁) (fun l' s₂ ⟨G₂, φ₂, pl, R₂, S₂, el, hl⟩ => ?_) fun _ _ e => e)
  have H₂ := H₁.step R₂ S₂
  refine wpAny_mono (h3.run H₂) (fun u' s₃ ⟨G₃, φ₃, pu, R₃, S₃, eu, hu⟩ => ?_) fun _ _ e => e
  have H₃ := H₂.step R₃ S₃
  refine wpAny_mono (h4.run H₃) (fun k' s₄ ⟨G₄, φ₄, pk, R₄, S₄, ek, hk'⟩ => ?_) fun _ _ e => e
  have V₄ := ((V₁.mono S₂.g S₂.ext).mono S₃.g S₃.ext).mono S₄.g S₄.ext
  obtain ⟨la, ob, items, m, rfl, g, cc, dd, rr⟩ := R₄.isList V₄ h5
  subst el eu ek
  have hL : s₄.heap.IsList la items.toArray := ⟨_, g, cc, _, dd⟩
  obtain ⟨ops, hs⟩ := subscripted_any (.Slice lo hi st q) (.ref la) (.ref s₄.heap.objs.size)
  have S5 := step_push (c := c) (own := []) (G := G₄) (φ := φ₄) (s := s₄) { cls := .type "slice", data := .fields #[partValue pl, partValue pu, partValue pk] }
  refine tail_any (T := "list") ⟨_, (hL.push _).choose_spec.1, (hL.push _).choose_spec.2.1⟩ slot_list_getitem.lookup (wpAny_getItem_list_slice (hL.push _) (Heap.IsSliceOf.new ..) (isPart_of hl) (isPart_of hu) (isPart_of hk') (by simpa using hk) ?_ (by rw [List.size_toArray, ← rr.length]; exact lim_le h6)) hs
  obtain ⟨G', φ', R', V', S'⟩ := (R₄.push { cls := .type "slice", data := .fields #[partValue pl, partValue pu, partValue pk] }).newList (rr.pick l h k)
  exact ⟨G', φ', R', V', ((((S₁.trans' S₂).trans' S₃).trans' S₄).trans' S5).trans' S'⟩
end
end Mini
open PySem PySem.W PyProof PyProof.Rows PySem.Calls
namespace Mini
section
variable {P : PI} {d : Nat} {kd : Kinds} {ρ ρ₁ ρ₂ ρ' : Vars} {σ σ₁ σ₂ σ₃ σ₄ σ' : St} {v a b : AVal} {p : Pos}
end
end Mini
open PySem PySem.W PyProof PyProof.Rows PySem.Calls
namespace Mini
section
variable {P : PI} {d : Nat} {kd : Kinds} {ρ ρ₁ ρ₂ ρ' : Vars} {σ σ₁ σ₂ σ₃ σ₄ σ' : St} {v a b : AVal} {p : Pos}
theorem c_sum {xs : List Int} (h1 : listOf? σ b = some (xs.map .int)) : EvC P d (.bi "sum") [b] σ (.int xs.sum) σ := ⟨rfl, fun {c A G φ s f' vs'} ok ha R Vf V => by
  (cases Vf using VRel.biE)
  cases V using VsRel.consE with
  | cons hv ht =>
    (cases ht using VsRel.nilE)
    obtain ⟨la, o, items, m, rfl, g, cc, dd, rr⟩ := R.isList hv h1
    have hi := ints_of rr
    obtain ⟨ys, hx⟩ := hi.allInts.items
    have hl : s.heap.IsList la (intItems ys) := by rw [← hx]; exact ⟨_, g, cc, _, dd⟩
    refine sum_intListG ha.hh hl fun h' tk t' hk => ?_
    have e1 : xs = ys.toList.map (·.1) := by
      have e2 := hi.numsOf
      rw [show items = (intItems ys).toList by rw [← hx]] at e2
      rw [nums_intItems] at e2
      exact e2.symm
    have e3 : preSum (numAt ys) ys.size = xs.sum := by
      rw [preSum_eq, e1, List.take_of_length_le (by simp)]
    rw [e3]
    exact ⟨G, φ, rel_ext R hk, .int _ _, step_ext hk⟩⟩
theorem c_min {x y : Int} : EvC P d (.bi "min") [.int x, .int y] σ (.int (if y < x then y else x)) σ := ⟨rfl, fun {c A G φ s f' vs'} ok ha R Vf V => by
  (cases Vf using VRel.biE)
  cases V using VsRel.consE with
  | cons hv ht =>
    cases ht using VsRel.consE with
    | cons hw ht' =>
      (cases ht' using VsRel.nilE); (cases hv using VRel.intE); (cases hw using VRel.intE)
      rename_i t u
      refine Flt.min_two_num ha.hh (.int x t) (.int y u) fun h' tk hk => ?_
      refine ⟨G, φ, rel_ext R hk, ?_, step_ext hk⟩
      simp only [Flt.ltV, decide_eq_true_eq]
      split <;> exact .int _ _⟩
theorem strMeth {m : Str} {id : String} {s : Str} (hs : Slot "str" m id) (ht : typeOf (.builtin id) = pure (.type "method_descriptor")) : MethR σ (.str s) m id := .intro fun R V => by
  (cases V using VRel.strE)
  exact ⟨"str", F.plainAttrs_str, hs, ht, typeIs_str _ _ _, fun _ e => nomatch e⟩
theorem mt_count {s : Str} : MethR σ (.str s) "count" "str.count" := strMeth F.slot_str_count F.type_str_count
theorem c_count {x y : Str} : EvC P d (.bi "str.count") [.str x, .str y] σ (.int (Txt.count x y)) σ := ⟨rfl, fun {c A G φ s f' vs'} ok ha R Vf V => by
  (cases Vf using VRel.biE)
  cases V using VsRel.consE with
  | cons hv ht =>
    cases ht using VsRel.consE with
    | cons hw ht' =>
      (cases ht' using VsRel.nilE); (cases hv using VRel.strE); (cases hw using VRel.strE)
      exact SC.count (gives_toks R (.int _ _))⟩
theorem mt_pop {i : Nat} {vs : List AVal} (h : σ[i]? = some (.list vs)) : MethR σ (.ref i) "pop" "list.pop" := listMeth F.slot_list_pop F.type_list_pop h
theorem vs_take {c : Cx} {G : Imm} {φ : List Loc} : ∀ {xs ys : List AVal} {us ws : List Value}, VsRel c G φ (xs ++ ys) (us ++ ws) → xs.length = us.length → VsRel c G φ xs us
  | [], _, [], _, _, _ => .nil
  | [], _, _ :: _, _, _, h => by cases h
  | _ :: _, _, [], _, _, h => by cases h
  | x :: xs, ys, u :: us, ws, h, e => by
    cases h with
    | cons hv ht => exact .cons hv (vs_take ht (by simpa using e))
theorem c_pop {i : Nat} {xs : List AVal} {y : AVal} (h1 : σ[i]? = some (.list (xs ++ [y]))) (h3 : xs.length < lim) : EvC P d (.bi "list.pop") [.ref i] σ y (σ.set i (.list xs)) := ⟨rfl, fun {c A G φ s f' vs'} ok ha R Vf V => by
  (cases Vf using VRel.biE)
  cases V using VsRel.consE with
  | cons hv ht =>
    (cases ht using VsRel.nilE)
    cases hv using VRel.refE with
    | ref hl =>
      obtain ⟨_, _, items, m, e, rr⟩ := R.obj _ _ _ hl h1
      have hlen := rr.length
      obtain ⟨y', hy', Vy⟩ := rr.get (i := xs.length) (v := y) (by simp)
      simp only [List.length_append, List.length_cons, List.length_nil] at hlen
      refine call_meets F.slot_list_pop ⟨_, e, rfl⟩ F.entry_list_pop (F.args_list_pop_1 _) (MeetsSeq.list_pop_last _ items.toArray m y' (by rw [List.size_toArray, ← hlen]; simpa using hy') (by rw [List.size_toArray, ← hlen]; exact lim_le (by lia))) ⟨e, ?_⟩
      have ho' := Heap.get?_update_self (Obj.mapSeq fun xs : Array Value => xs.eraseIdxIfInBounds (items.toArray.size - 1)) e rfl
      have hV : VsRel c G φ xs (items.take xs.length) := by
        have := rr
        rw [← List.take_append_drop xs.length items] at this
        exact vs_take this (by simp; lia)
      obtain ⟨R', S'⟩ := R.relist (tk := s.toks) (items' := items.take xs.length) hl h1 (by
        rw [ho']
        have : items.toArray.eraseIdxIfInBounds (items.toArray.size - 1) = (items.take xs.length).toArray := by
          rw [List.size_toArray, ← hlen, Array.eraseIdxIfInBounds, dif_pos (by simp; lia)]
          apply Array.ext'
          simp
          rw [List.eraseIdx_eq_take_drop_succ, List.drop_eq_nil_of_le (by lia), List.append_nil]
        exact congrArg (fun z => some ({ cls := .type "list", data := Data.seq z (if ((items.toArray.eraseIdxIfInBounds (items.toArray.size - 1)).size == items.toArray.size) = true then m else m + 1) } : Obj)) this) (Heap.SameBut.update ..) hV
      exact ⟨G, φ, R', Vy, S'⟩⟩
end
end Mini
open PySem PySem.W PyProof PyProof.Rows PySem.Calls
namespace Mini
section
variable {c : Cx} {P : PI} {d : Nat} {A : Around} {kd : Kinds} {ρ ρ' : Vars} {G : Imm} {φ : List Loc} {σ σ' : St} {s : Shared} {v a b : AVal}
theorem Rel.newListAt {vs : List AVal} {items : List Value} {x : Addr} {h' : Heap} {n tk : Nat} (R : Rel c G φ σ s) (k : ∀ a o, s.heap.get? a = some o → h'.get? a = some o) (hx : s.heap.get? x = none) (e : h'.get? x = some { cls := .type "list", data := .seq items.toArray n }) (V : VsRel c G φ vs items) :
    GP c G φ s (.ref σ.length) (σ ++ [.list vs]) (.ref x) { s with heap := h', toks := tk } := by
  have hn : ∀ a ∈ (⟨x, [], none⟩ : Loc).a :: (⟨x, [], none⟩ : Loc).ps, s.heap.get? a = none := fun a ha => by
    rcases List.mem_cons.mp ha with rfl | ha
    · exact hx
    · cases ha
  refine ⟨G, φ ++ [⟨x, [], none⟩], R.add k hn (by simp) (fun a ha => ?_) ⟨rfl, rfl, items, n, e, V.mono (fun _ _ e => e) (.append _ _)⟩, ?_, step_add k hn rfl⟩
  · rcases List.mem_cons.mp ha with rfl | ha
    · show (h'.get? _).isSome; rw [e]; rfl
    · cases ha
  · refine VRel.ref (l := ⟨x, [], none⟩) ?_
    rw [← R.len]; simp
theorem get?_out {h : Heap} {a : Addr} (ha : h.objs.size ≤ a) : h.get? a = none := by
  cases q : h.get? a with
  | none => rfl
  | some o => exact absurd (Heap.lt_size q) (Nat.not_lt.mpr ha)
end
end Mini
open PySem PySem.W PyProof PyProof.Rows PySem.Calls
namespace Mini
noncomputable def mkS (l : List Nat) : Str := ⟨l.toArray⟩
theorem mkS_len (l : List Nat) : (mkS l).length = l.length := by simp [mkS, Str.length]
theorem mkS_app (a b : List Nat) : mkS a ++ mkS b = mkS (a ++ b) := by
  show Str.append _ _ = _
  simp [mkS, Str.append]
theorem mkS_inj {a b : List Nat} : mkS a = mkS b ↔ a = b := by simp [mkS]
theorem mkS_beq {a b : List Nat} : (mkS a == mkS b) = decide (a = b) := by
  by_cases h : a = b
  · subst h; simp
  · simp [h, mkS_inj]
theorem mkS_get (l : List Nat) (i : Nat) : (mkS l).cps[i]? = l[i]? := by simp [mkS]
end Mini
open PySem PySem.W PyProof PyProof.Rows PySem.Calls
namespace Mini
section
variable {P : PI} {d : Nat} {kd : Kinds} {ρ ρ₁ ρ₂ ρ' : Vars} {σ σ₁ σ₂ σ' : St} {x : Str} {elt : Expr}
theorem cm_rngAFrom {f : Nat → AVal} {s : Int} (a₀ : Int) (n₀ : Nat) (hlen : n₀ ≤ lim) (h : ∀ i : Nat, i < n₀ → ∀ l τ, ∃ τ', EvE P d kd (Vars.set ρ x (.int (a₀ + i * s))) elt (σ₁ ++ [.list l] ++ τ) (f i) (σ₁ ++ [.list l] ++ (τ ++ τ'))) :
    ∀ (n k : Nat) (l : List AVal) (τ : St), k + n = n₀ → l.length ≤ k → ∃ τ', EvCm P d kd ρ x elt [] σ₁.length (.rng (a₀ + k * s) n s) (σ₁ ++ [.list l] ++ τ) (σ₁ ++ [.list (l ++ (List.range' k n).map f)] ++ (τ ++ τ'))
  | 0, k, l, τ, hk, hl => ⟨[], by simpa using cm_end (n_rngEnd (by decide))⟩
  | n + 1, k, l, τ, hk, hl => by
    have e1 : a₀ + (k : Int) * s + s = a₀ + ((k + 1 : Nat) : Int) * s := by rw [Int.natCast_add, Int.add_mul]; simp [Int.add_assoc]
    have e2 : (((n + 1 : Nat) : Int) - 1) = n := by lia
    obtain ⟨τ1, h1⟩ := h k (by lia) l τ
    obtain ⟨τ2, h2⟩ := cm_rngAFrom a₀ n₀ hlen h n (k + 1) (l ++ [f k]) (τ ++ τ1) (by lia) (by simp; lia)
    refine ⟨τ1 ++ τ2, cm_take (n_rng (by lia)) ts_nil h1 (get_old get_new) (by lia) ?_⟩
    rw [set_mid, e1, e2, List.range'_succ, List.map_cons]
    have e3 : l ++ f k :: (List.range' (k + 1) n).map f = l ++ [f k] ++ (List.range' (k + 1) n).map f := by simp
    rw [e3, ← List.append_assoc τ]
    exact h2
theorem cm_rngA {f : Nat → AVal} {n₀ : Nat} (hlen : n₀ ≤ lim) (h : ∀ i : Nat, i < n₀ → ∀ l τ, ∃ τ', EvE P d kd (Vars.set ρ x (.int (i : Int))) elt (σ₁ ++ [.list l] ++ τ) (f i) (σ₁ ++ [.list l] ++ (τ ++ τ'))) :
    ∃ τ, EvCm P d kd ρ x elt [] σ₁.length (.rng 0 n₀ 1) (σ₁ ++ [.list []]) (σ₁ ++ [.list ((List.range n₀).map f)] ++ τ) := by
  obtain ⟨τ, e⟩ := cm_rngAFrom (P := P) (d := d) (kd := kd) (ρ := ρ) (x := x) (elt := elt) (σ₁ := σ₁) (f := f) (s := 1) 0 n₀ hlen (fun i hi l τ => by rw [show (0 : Int) + (i : Int) * 1 = (i : Int) by lia]; exact h i hi l τ) n₀ 0 [] [] (by lia) (Nat.le_refl _)
  refine ⟨τ, ?_⟩
  simpa [List.range_eq_range'] using e
noncomputable def drawsOf (ns : List Int) (m : Nat) : List Int := (List.range (min m ns.length)).map fun k : Nat => (pickL ns (some (k : Int)) none (some (m : Int))).sum
theorem pickL_map {α β : Type} (f : α → β) (xs : List α) (lo hi st : Option Int) : pickL (xs.map f) lo hi st = (pickL xs lo hi st).map f := by
  unfold pickL
  rw [List.length_map, List.map_filterMap]
  congr 1
  funext i
  rw [List.getElem?_map]
end
end Mini
open PySem PySem.W PyProof PyProof.Rows PySem.Calls
namespace Mini
structure Swo (lt : Nat → Nat → Bool) : Prop where
  asym : ∀ i j, lt i j = true → lt j i = false
  ntr : ∀ i j k, lt i j = false → lt j k = false → lt i k = false
noncomputable def Asks (n : Nat) (lt : Nat → Nat → Bool) {α : Type} : KasT α → (α → Prop) → Prop
  | .ret a, Q => Q a
  | .ask i j k, Q => i < n ∧ j < n ∧ Asks n lt (k (lt i j)) Q
section
variable {N : Nat} {lt : Nat → Nat → Bool}
theorem Asks.mono {α : Type} {Q Q' : α → Prop} (h : ∀ a, Q a → Q' a) : ∀ {t : KasT α}, Asks N lt t Q → Asks N lt t Q'
  | .ret a, x => h a x
  | .ask i j k, ⟨a, b, x⟩ => ⟨a, b, Asks.mono h x⟩
theorem Asks.bind {α β : Type} {f : α → KasT β} {Q : β → Prop} : ∀ {t : KasT α}, Asks N lt t (fun a => Asks N lt (f a) Q) → Asks N lt (t.bind f) Q
  | .ret a, x => x
  | .ask i j k, ⟨a, b, x⟩ => ⟨a, b, Asks.bind x⟩
theorem Asks.run {α : Type} {Q : α → Prop} {cmp : Nat → Nat → (Bool → Shared → Prop) → Shared → Prop} {I : Shared → Prop} {G : α → Shared → Prop}
    (hc : ∀ i j (C : Bool → Shared → Prop) s, i < N → j < N → I s → (∀ s', I s' → C (lt i j) s') → cmp i j C s) (hG : ∀ a s, Q a → I s → G a s) : ∀ {t : KasT α} {s : Shared}, Asks N lt t Q → I s → t.kasWp cmp G s
  | .ret a, s, x, hi => hG a s x hi
  | .ask i j k, s, ⟨a, b, x⟩, hi => hc i j _ s a b hi fun s' hi' => Asks.run hc hG x hi'
noncomputable def Stb (lt : Nat → Nat → Bool) (i j : Nat) : Prop := lt i j = true ∨ (lt j i = false ∧ i < j)
theorem Stb.trans (w : Swo lt) {i j k : Nat} (h1 : Stb lt i j) (h2 : Stb lt j k) : Stb lt i k := by
  rcases h1 with h1 | ⟨h1, l1⟩ <;> rcases h2 with h2 | ⟨h2, l2⟩
  · left
    cases q : lt i k with
    | true => rfl
    | false => have := w.ntr i k j q (w.asym j k h2); rw [this] at h1; cases h1
  · left
    cases q : lt i k with
    | true => rfl
    | false => have := w.ntr i k j q h2; rw [this] at h1; cases h1
  · left
    cases q : lt i k with
    | true => rfl
    | false => have := w.ntr j i k h1 q; rw [this] at h2; cases h2
  · exact .inr ⟨w.ntr k j i h2 h1, by lia⟩
theorem Stb.no (w : Swo lt) {i j : Nat} (h : Stb lt i j) : lt j i = false := by
  rcases h with h | h
  · exact w.asym i j h
  · exact h.1
noncomputable def gt (p : Array Nat) (i : Nat) : Nat := p.getD i 0
theorem gt_of {p : Array Nat} {i x : Nat} (h : p[i]? = some x) : gt p i = x := by unfold gt; rw [Array.getD_eq_getD_getElem?, h]; rfl
theorem gt_eq {p q : Array Nat} {i j : Nat} (h : p[i]? = q[j]?) : gt p i = gt q j := by unfold gt; rw [Array.getD_eq_getD_getElem?, Array.getD_eq_getD_getElem?, h]
noncomputable def SortP (lt : Nat → Nat → Bool) (p : Array Nat) (m : Nat) : Prop := ∀ i j, i < j → j < m → Stb lt (gt p i) (gt p j)
structure Pre (N : Nat) (p : Array Nat) (m : Nat) : Prop where
  perm : p.Perm (List.range N).toArray
  lo : ∀ i, i < m → gt p i < m
  hi : ∀ i, m ≤ i → i < N → gt p i = i
theorem Pre.size {p : Array Nat} {m : Nat} (h : Pre N p m) : p.size = N := by rw [h.perm.size_eq]; simp
theorem Pre.more {p : Array Nat} {m k : Nat} (h : Pre N p m) (hk : m ≤ k) (hn : k ≤ N) : Pre N p k := by
  refine ⟨h.perm, fun i hi => ?_, fun i hi hn => h.hi i (by lia) hn⟩
  rcases Nat.lt_or_ge i m with q | q
  · have := h.lo i q; lia
  · rw [h.hi i q (by lia)]; exact hi
theorem rev_get {p : Array Nat} {i j : Nat} (hj : j ≤ p.size) (k : Nat) : gt (kas_rev p i j) k = if i ≤ k ∧ k < j then gt p (i + j - 1 - k) else gt p k := by
  have h := getElem?_mirror_all (i := i) hj k
  split
  · rename_i q; rw [if_pos q] at h; exact gt_eq h
  · rename_i q; rw [if_neg q] at h; exact gt_eq h
theorem Pre.rev {p : Array Nat} {m i j : Nat} (h : Pre N p m) (hj : j ≤ m) (hm : m ≤ N) : Pre N (kas_rev p i j) m := by
  have hs := h.size
  refine ⟨(mirror_perm ..).trans h.perm, fun k hk => ?_, fun k hk hn => ?_⟩
  · rw [rev_get (by lia)]
    split
    · exact h.lo _ (by lia)
    · exact h.lo _ hk
  · rw [rev_get (by lia), if_neg (by lia)]
    exact h.hi k hk hn
theorem asc_ok (w : Swo lt) {p : Array Nat} : ∀ (f a : Nat), a + f = N → 1 ≤ a → Pre N p a → SortP lt p a → Asks N lt (kas_asc p f a) fun m => a ≤ m ∧ m ≤ N ∧ SortP lt p m ∧ (m < N → lt (gt p m) (gt p (m - 1)) = true)
  | 0, a, h, h1, hp, hs => ⟨Nat.le_refl _, by lia, hs, fun q => by lia⟩
  | f + 1, a, h, h1, hp, hs => by
    have e1 : gt p a = a := hp.hi a (Nat.le_refl _) (by lia)
    have e2 := hp.lo (a - 1) (by lia)
    show _ < N ∧ _ < N ∧ _
    refine ⟨by show gt p a < N; lia, by show gt p (a - 1) < N; lia, ?_⟩
    show Asks N lt (if lt (gt p a) (gt p (a - 1)) = true then KasT.ret a else kas_asc p f (a + 1)) _
    cases q : lt (gt p a) (gt p (a - 1)) with
    | true => exact ⟨Nat.le_refl _, by lia, hs, fun _ => q⟩
    | false =>
      refine Asks.mono (fun m hm => ⟨by lia, hm.2⟩) (asc_ok w f (a + 1) (by lia) (by lia) (hp.more (by lia) (by lia)) fun i j hij hj => ?_)
      have h0 : Stb lt (gt p (a - 1)) (gt p a) := .inr ⟨q, by lia⟩
      rcases Nat.lt_or_ge j a with hja | hja
      · exact hs i j hij hja
      · have : j = a := by lia
        subst this
        rcases Nat.lt_or_ge i (j - 1) with hi | hi
        · exact (hs i (j - 1) hi (by lia)).trans w h0
        · have : i = j - 1 := by lia
          subst this; exact h0
structure Dsc (N : Nat) (lt : Nat → Nat → Bool) (p : Array Nat) (n q : Nat) : Prop where
  pre : Pre N p n
  le : n ≤ N
  q1 : q + 1 ≤ n
  a : ∀ i j, i < j → j < n → i < n - (q + 1) → Stb lt (gt p j) (gt p i)
  b : ∀ i, i < n - (q + 1) → lt (gt p (n - 1)) (gt p i) = true
  c : ∀ i j, i < j → j < n → n - (q + 1) ≤ i → Stb lt (gt p i) (gt p j) ∧ lt (gt p i) (gt p j) = false
theorem Dsc.rev (w : Swo lt) {p : Array Nat} {n q : Nat} (h : Dsc N lt p n q) : Pre N (kas_rev p (n - (q + 1)) n) n ∧ (∀ i j, i < j → j < n → Stb lt (gt (kas_rev p (n - (q + 1)) n) j) (gt (kas_rev p (n - (q + 1)) n) i)) ∧
    ∀ i, i < n → ∃ i', i' < n ∧ gt (kas_rev p (n - (q + 1)) n) i = gt p i' := by
  have hs := h.pre.size
  have hle := h.le
  have hq := h.q1
  refine ⟨h.pre.rev (Nat.le_refl _) h.le, fun i j hij hj => ?_, fun i hi => ?_⟩
  · rw [rev_get (by lia), rev_get (by lia)]
    by_cases hi : n - (q + 1) ≤ i
    · rw [if_pos ⟨by lia, by lia⟩, if_pos ⟨by lia, by lia⟩]
      exact (h.c _ _ (by lia) (by lia) (by lia)).1
    · rw [if_neg (c := n - (q + 1) ≤ i ∧ i < n) (by lia)]
      split
      · exact h.a _ _ (by lia) (by lia) (by lia)
      · exact h.a _ _ (by lia) (by lia) (by lia)
  · rw [rev_get (by lia)]
    split
    · exact ⟨_, by lia, rfl⟩
    · exact ⟨i, hi, rfl⟩
theorem Dsc.last (w : Swo lt) {p : Array Nat} {n q : Nat} (h : Dsc N lt p n q) (i : Nat) (hi : i < n) : lt (gt p i) (gt p (n - 1)) = false := by
  have hq := h.q1
  by_cases h1 : i < n - (q + 1)
  · exact w.asym _ _ (h.b i h1)
  · by_cases h2 : i < n - 1
    · exact (h.c i (n - 1) h2 (by lia) (by lia)).2
    · have : i = n - 1 := by lia
      subst this
      cases z : lt (gt p (n - 1)) (gt p (n - 1)) with
      | false => rfl
      | true => have := w.asym _ _ z; rw [z] at this; cases this
theorem Dsc.down (w : Swo lt) {p p2 : Array Nat} {n : Nat} (hp : Pre N p2 n) (hn : n + 1 ≤ N) (ha : ∀ i j, i < j → j < n → Stb lt (gt p2 j) (gt p2 i)) (hb : ∀ i, i < n → lt (gt p2 n) (gt p2 i) = true) : Dsc N lt p2 (n + 1) 0 where
  pre := hp.more (by lia) hn
  le := hn
  q1 := by lia
  a := fun i j hij hj hi => by
    rcases Nat.lt_or_ge j n with h | h
    · exact ha i j hij h
    · have : j = n := by lia
      subst this
      exact .inl (hb i (by lia))
  b := fun i hi => hb i (by lia)
  c := fun i j hij hj hi => by lia
theorem desc_ok (w : Swo lt) : ∀ (f : Nat) (p : Array Nat) (n q : Nat), n + f = N → Dsc N lt p n q → Asks N lt (kas_desc f p n q) fun r => n ≤ r.2.1 ∧ Dsc N lt r.1 r.2.1 r.2.2
  | 0, p, n, q, h, hd => ⟨Nat.le_refl _, hd⟩
  | f + 1, p, n, q, h, hd => by
    have hq := hd.q1
    have hs := hd.pre.size
    have e1 : gt p n = n := hd.pre.hi n (Nat.le_refl _) (by lia)
    have e2 := hd.pre.lo (n - 1) (by lia)
    refine ⟨by show gt p n < N; lia, by show gt p (n - 1) < N; lia, ?_⟩
    show Asks N lt (if lt (gt p n) (gt p (n - 1)) = true then (if q > 0 then kas_desc f (kas_rev p (n - (q + 1)) n) (n + 1) 0 else kas_desc f p (n + 1) 0)
      else .ask (gt p (n - 1)) (gt p n) fun d => if d = true then .ret (p, n, q) else kas_desc f p (n + 1) (q + 1)) _
    cases hc : lt (gt p n) (gt p (n - 1)) with
    | true =>
      have below : ∀ i, i < n → lt (gt p n) (gt p i) = true := fun i hi => by
        cases z : lt (gt p n) (gt p i) with
        | true => rfl
        | false => have := w.ntr _ _ _ z (hd.last w i hi); rw [this] at hc; cases hc
      obtain ⟨r1, r2, r3⟩ := hd.rev w
      simp only [if_true]
      split
      · refine Asks.mono (fun r hr => ⟨by lia, hr.2⟩) (desc_ok w f _ (n + 1) 0 (by lia) (Dsc.down w (p := p) r1 (by lia) r2 fun i hi => ?_))
        obtain ⟨i', h1, h2⟩ := r3 i hi
        rw [h2, rev_get (by lia), if_neg (by lia)]
        exact below i' h1
      · have q0 : q = 0 := by lia
        subst q0
        refine Asks.mono (fun r hr => ⟨by lia, hr.2⟩) (desc_ok w f _ (n + 1) 0 (by lia) (Dsc.down w (p := p) hd.pre (by lia) (fun i j hij hj => hd.a i j hij hj (by lia)) below))
    | false =>
      simp only [Bool.false_eq_true, if_false]
      refine ⟨by lia, by lia, ?_⟩
      cases hd' : lt (gt p (n - 1)) (gt p n) with
      | true => exact ⟨Nat.le_refl _, hd⟩
      | false =>
        refine Asks.mono (fun r hr => ⟨by lia, hr.2⟩) (desc_ok w f p (n + 1) (q + 1) (by lia) ?_)
        have nb : ∀ i, i < n - (q + 1) → lt (gt p n) (gt p i) = true := fun i hi => by
          cases z : lt (gt p n) (gt p i) with
          | true => rfl
          | false => have := w.ntr _ _ _ hd' z; rw [hd.b i hi] at this; cases this
        refine ⟨hd.pre.more (by lia) (by lia), by lia, by lia, fun i j hij hj hi => ?_, fun i hi => ?_, fun i j hij hj hi => ?_⟩
        · rcases Nat.lt_or_ge j n with hjn | hjn
          · exact hd.a i j hij hjn (by lia)
          · have : j = n := by lia
            subst this; exact .inl (nb i (by lia))
        · exact nb i (by lia)
        · rcases Nat.lt_or_ge j n with hjn | hjn
          · exact hd.c i j hij hjn (by lia)
          · have : j = n := by lia
            subst this
            have h1 : lt (gt p i) (gt p j) = false := w.ntr _ _ _ (hd.last w i hij) hd'
            have h2 : lt (gt p j) (gt p i) = false := by
              by_cases q2 : i = j - 1
              · subst q2; exact hc
              · exact w.ntr _ _ _ hc ((hd.c i (j - 1) (by lia) (by lia) (by lia)).1.no w)
            have h3 := hd.pre.lo i hij
            exact ⟨.inr ⟨h2, by lia⟩, h1⟩
noncomputable def Cnt (N : Nat) (lt : Nat → Nat → Bool) (r : Nat × Array Nat) : Prop := 1 ≤ r.1 ∧ r.1 ≤ N ∧ Pre N r.2 r.1 ∧ SortP lt r.2 r.1
theorem tail_ok (w : Swo lt) {p : Array Nat} {n : Nat} (h1 : 1 ≤ n) (hn : n ≤ N) (hp : Pre N p n) (hs : ∀ i j, i < j → j < n → Stb lt (gt p j) (gt p i)) : Asks N lt (kas_tail3 n N p) (Cnt N lt) := by
  have hz := hp.size
  have hr := hp.rev (i := 0) (j := n) (Nat.le_refl _) hn
  refine Asks.bind (Asks.mono (fun m hm => ?_) (asc_ok w (N - n) n (by lia) h1 hr fun i j hij hj => ?_))
  · exact ⟨by lia, hm.2.1, hr.more hm.1 hm.2.1, hm.2.2.1⟩
  · rw [rev_get (by lia), rev_get (by lia), if_pos ⟨by lia, by lia⟩, if_pos ⟨by lia, by lia⟩]
    exact hs _ _ (by lia) (by lia)
theorem part_ok (w : Swo lt) {p : Array Nat} {n : Nat} (hn : n + 1 ≤ N) (hd : Dsc N lt p (n + 1) 0) : Asks N lt (kas_descPart n N p) (Cnt N lt) := by
  refine Asks.bind (Asks.mono (fun r hr => ?_) (desc_ok w (N - (n + 1)) p (n + 1) 0 (by lia) hd))
  obtain ⟨h1, h2⟩ := hr
  obtain ⟨r1, r2, r3⟩ := h2.rev w
  show Asks N lt (if r.2.2 > 0 then _ else _) _
  split
  · exact tail_ok w (by lia) h2.le r1 r2
  · have q0 : r.2.2 = 0 := by lia
    refine tail_ok w (by lia) h2.le h2.pre fun i j hij hj => h2.a i j hij hj (by lia)
theorem range_get {i : Nat} (h : i < N) : gt (List.range N).toArray i = i := gt_of (by simp [h])
theorem pre_range {m : Nat} (h : m ≤ N) : Pre N (List.range N).toArray m := ⟨.refl _, fun i hi => by rw [range_get (by lia)]; exact hi, fun i _ hi => range_get hi⟩
theorem count_ok (w : Swo lt) (hN : 1 ≤ N) : Asks N lt (kas_count N (List.range N).toArray) (Cnt N lt) := by
  refine Asks.bind (Asks.mono (fun m hm => ?_) (asc_ok w (N - 1) 1 (by lia) (Nat.le_refl _) (pre_range hN) fun i j hij hj => by lia))
  obtain ⟨h1, h2, h3, h4⟩ := hm
  show Asks N lt (if (m == N) = true then _ else _) _
  split
  · exact ⟨h1, h2, pre_range h2, h3⟩
  · rename_i hne
    have hlt : m < N := by
      have : m ≠ N := by simpa using hne
      lia
    have hd := h4 hlt
    have hz : (List.range N).toArray.size = N := by simp
    split
    · have g0 := range_get (N := N) (i := 0) (by lia)
      have g1 := range_get (N := N) (i := m - 1) (by lia)
      refine ⟨by show gt _ 0 < N; lia, by show gt _ (m - 1) < N; lia, ?_⟩
      show Asks N lt (if lt (gt _ 0) (gt _ (m - 1)) = true then _ else _) _
      cases hc : lt (gt (List.range N).toArray 0) (gt (List.range N).toArray (m - 1)) with
      | true => exact ⟨h1, h2, pre_range h2, h3⟩
      | false =>
        have le : ∀ i j, i ≤ j → j < m → lt (gt (List.range N).toArray j) (gt (List.range N).toArray i) = false := fun i j hij hj => by
          rcases Nat.lt_or_ge i j with q | q
          · exact (h3 i j q hj).no w
          · have : i = j := by lia
            subst this
            cases z : lt (gt (List.range N).toArray i) (gt (List.range N).toArray i) with
            | false => rfl
            | true => have := w.asym _ _ z; rw [z] at this; cases this
        have eqv : ∀ i j, i < m → j < m → lt (gt (List.range N).toArray i) (gt (List.range N).toArray j) = false := fun i j hi hj =>
          w.ntr _ _ _ (le 0 i (by lia) hi) (w.ntr _ _ _ hc (le j (m - 1) (by lia) (by lia)))
        refine part_ok w (by lia) (Dsc.down w (p := #[]) ((pre_range h2).rev (Nat.le_refl _) h2) (by lia) (fun i j hij hj => ?_) fun i hi => ?_)
        · rw [rev_get (by lia), rev_get (by lia), if_pos ⟨by lia, by lia⟩, if_pos ⟨by lia, by lia⟩]
          refine .inr ⟨eqv _ _ (by lia) (by lia), ?_⟩
          rw [range_get (by lia), range_get (by lia)]; lia
        · rw [rev_get (by lia), rev_get (by lia), if_neg (by lia), if_pos ⟨by lia, by lia⟩]
          cases z : lt (gt (List.range N).toArray m) (gt (List.range N).toArray (0 + m - 1 - i)) with
          | true => rfl
          | false => have := w.ntr _ _ _ z (eqv (0 + m - 1 - i) (m - 1) (by lia) (by lia)); rw [this] at hd; cases hd
    · have : m = 1 := by lia
      subst this
      refine part_ok w (by lia) (Dsc.down w (p := #[]) (pre_range h2) (by lia) (fun i j hij hj => by lia) fun i hi => ?_)
      have : i = 0 := by lia
      subst this; exact hd
theorem place_ok (w : Swo lt) {p : Array Nat} {k : Nat} (hk : k < N) (hp : Pre N p k) (hs : SortP lt p k) : ∀ (f l r : Nat), r - l ≤ f → l ≤ r → r ≤ k → (∀ i, i < l → Stb lt (gt p i) (gt p k)) → (∀ i, r ≤ i → i < k → Stb lt (gt p k) (gt p i)) →
    Asks N lt (kas_place p k f l r) fun l => l ≤ k ∧ (∀ i, i < l → Stb lt (gt p i) (gt p k)) ∧ (∀ i, l ≤ i → i < k → Stb lt (gt p k) (gt p i))
  | 0, l, r, h, h1, h2, a, b => ⟨by lia, a, fun i hi => b i (by lia)⟩
  | f + 1, l, r, h, h1, h2, a, b => by
    unfold kas_place
    split
    · exact ⟨by lia, a, fun i hi => b i (by lia)⟩
    · rename_i hlr
      have e1 : gt p k = k := hp.hi k (Nat.le_refl _) hk
      have e2 := hp.lo ((l + r) / 2) (by lia)
      refine ⟨by show gt p k < N; lia, by show gt p ((l + r) / 2) < N; lia, ?_⟩
      show Asks N lt (if lt (gt p k) (gt p ((l + r) / 2)) = true then _ else _) _
      cases hc : lt (gt p k) (gt p ((l + r) / 2)) with
      | true =>
        simp only [if_true]
        refine place_ok w hk hp hs f l ((l + r) / 2) (by lia) (by lia) (by lia) a fun i hi hik => ?_
        have h0 : Stb lt (gt p k) (gt p ((l + r) / 2)) := .inl hc
        rcases Nat.lt_or_ge ((l + r) / 2) i with q | q
        · exact h0.trans w (hs _ i q hik)
        · have : i = (l + r) / 2 := by lia
          subst this; exact h0
      | false =>
        simp only [Bool.false_eq_true, if_false]
        have h0 : Stb lt (gt p ((l + r) / 2)) (gt p k) := .inr ⟨hc, by lia⟩
        refine place_ok w hk hp hs f ((l + r) / 2 + 1) r (by lia) (by lia) h2 (fun i hi => ?_) b
        rcases Nat.lt_or_ge i ((l + r) / 2) with q | q
        · exact (hs i _ q (by lia)).trans w h0
        · have : i = (l + r) / 2 := by lia
          subst this; exact h0
theorem bub_get {p : Array Nat} {k l : Nat} (hk : k < p.size) (hl : l ≤ k) (i : Nat) : gt (bubble p k (k - l)) i = if i = l then gt p k else if l < i ∧ i ≤ k then gt p (i - 1) else gt p i := by
  have h := getElem?_bubble hk (k - l) (by lia) i
  rw [show k - (k - l) = l by lia] at h
  split
  · rename_i q; rw [if_pos q] at h; exact gt_eq h
  · rename_i q
    rw [if_neg q] at h
    split
    · rename_i q2; rw [if_pos q2] at h; exact gt_eq h
    · rename_i q2; rw [if_neg q2] at h; exact gt_eq h
theorem bin_ok (w : Swo lt) : ∀ (f : Nat) (p : Array Nat) (k : Nat), k + f = N → Pre N p k → SortP lt p k → Asks N lt (kas_bin f p k) fun p' => Pre N p' N ∧ SortP lt p' N
  | 0, p, k, h, hp, hs => by
    have : k = N := by lia
    subst this; exact ⟨hp, hs⟩
  | f + 1, p, k, h, hp, hs => by
    have hz := hp.size
    refine Asks.bind (Asks.mono (fun l hl => ?_) (place_ok w (by lia) hp hs k 0 k (by lia) (by lia) (Nat.le_refl _) (fun i hi => by lia) fun i h1 h2 => by lia))
    obtain ⟨h1, h2, h3⟩ := hl
    refine bin_ok w f _ (k + 1) (by lia) ⟨(bubble_perm ..).trans hp.perm, fun i hi => ?_, fun i hi hn => ?_⟩ fun i j hij hj => ?_
    · have e1 : gt p k = k := hp.hi k (Nat.le_refl _) (by lia)
      rw [bub_get (by lia) h1]
      split
      · lia
      · split
        · have := hp.lo (i - 1) (by lia); lia
        · have := hp.lo i (by lia); lia
    · rw [bub_get (by lia) h1, if_neg (by lia), if_neg (by lia)]
      exact hp.hi i (by lia) hn
    · rw [bub_get (by lia) h1, bub_get (by lia) h1]
      rcases Nat.lt_trichotomy i l with q | q | q
      · rw [if_neg (c := i = l) (by lia), if_neg (c := l < i ∧ i ≤ k) (by lia)]
        split
        · exact h2 i q
        · split
          · exact hs _ _ (by lia) (by lia)
          · exact hs _ _ (by lia) (by lia)
      · rw [if_pos q, if_neg (c := j = l) (by lia), if_pos ⟨by lia, by lia⟩]
        exact h3 _ (by lia) (by lia)
      · rw [if_neg (c := i = l) (by lia), if_pos (c := l < i ∧ i ≤ k) ⟨by lia, by lia⟩, if_neg (c := j = l) (by lia), if_pos (c := l < j ∧ j ≤ k) ⟨by lia, by lia⟩]
        exact hs _ _ (by lia) (by lia)
theorem sort_ok (w : Swo lt) (hN : 1 ≤ N) : Asks N lt (kas_sort N) fun p => p.toList.Perm (List.range N) ∧ p.toList.Pairwise (Stb lt) := by
  have fin : ∀ p : Array Nat, Pre N p N → SortP lt p N → p.toList.Perm (List.range N) ∧ p.toList.Pairwise (Stb lt) := fun p hp hs => by
    refine ⟨by simpa using Array.perm_iff_toList_perm.mp hp.perm, List.pairwise_iff_getElem.mpr fun i j hi hj hij => ?_⟩
    have hz := hp.size
    have := hs i j hij (by simpa [hz] using hj)
    rw [gt_of (x := p.toList[i]) (by simp at hi; simp [hi]), gt_of (x := p.toList[j]) (by simp at hj; simp [hj])] at this
    exact this
  refine Asks.bind (Asks.mono (fun r hr => ?_) (count_ok w hN))
  obtain ⟨h1, h2, h3, h4⟩ := hr
  show Asks N lt (if r.1 < N then _ else _) _
  split
  · rw [show max r.1 1 = r.1 by lia]
    exact Asks.mono (fun p hp => fin p hp.1 hp.2) (bin_ok w (N - r.1) r.2 r.1 (by lia) h3 h4)
  · have e : r.1 = N := by lia
    rw [e] at h3 h4
    exact fin r.2 h3 h4
end
end Mini
open PySem PySem.W PyProof PyProof.Rows PySem.Calls
namespace Mini
noncomputable def ev (lt : Nat → Nat → Bool) {α : Type} : KasT α → α
  | .ret a => a
  | .ask i j k => ev lt (k (lt i j))
theorem Asks.ev {N : Nat} {lt : Nat → Nat → Bool} {α : Type} {Q : α → Prop} : ∀ {t : KasT α}, Asks N lt t Q → Asks N lt t (fun a => a = ev lt t) ∧ Q (ev lt t)
  | .ret a, x => ⟨rfl, x⟩
  | .ask i j k, ⟨a, b, x⟩ => ⟨⟨a, b, x.ev.1⟩, x.ev.2⟩
noncomputable def srtBy (lt : Nat → Nat → Bool) (n : Nat) : List Nat := (ev lt (kas_sort n)).toList
theorem srtBy_perm {lt : Nat → Nat → Bool} {n : Nat} (w : Swo lt) (h : 1 ≤ n) : (srtBy lt n).Perm (List.range n) := (sort_ok w h).ev.2.1
theorem srtBy_sorted {lt : Nat → Nat → Bool} {n : Nat} (w : Swo lt) (h : 1 ≤ n) : (srtBy lt n).Pairwise (Stb lt) := (sort_ok w h).ev.2.2
section
variable {prog : Program} {w : World} {A : Around} {E : Value → Shared → Prop} {s : Shared} {vs : List Value} {lt : Nat → Nat → Bool} {κ : SortKind}
noncomputable def Grown (h h' : Heap) : Prop := ∀ b o, h.get? b = some o → h'.get? b = some o
theorem sort_in {a : Addr} {n : Nat} {h₀ : Heap} {P : PySem.Fin → Shared → Prop} (wo : Swo lt) (ho : s.heap.get? a = some (seqObj "list" vs.toArray n)) (h2 : 2 ≤ vs.length) (h64 : vs.length < 64) (ha : h₀.get? a = none) (hg : Grown h₀ s.heap)
    (hk : ∀ h', Grown h₀ h' → ∀ Q : SortKind → Shared → Prop, Q κ { s with heap := h' } → wpAny (model prog w) A (keyKind' vs.toArray) Q (fun _ _ => False) { s with heap := h' })
    (hc : ∀ h' i j (C : Bool → Shared → Prop), Grown h₀ h' → i < vs.length → j < vs.length → C (lt i j) { s with heap := h' } → kas_ask prog w A κ vs i j C { s with heap := h' })
    (h : ∀ h' c, Grown h₀ h' → h'.get? a = some (seqObj "list" (List.toArray ((srtBy lt vs.length).map fun i => vs.getD i Value.none)) c) → P (.done (.ret .none)) { s with heap := h' }) :
    wpAny (model prog w) A (Builtin.«list.sort» ⟨[.ref a], []⟩) P E s := by
  have s1 := Heap.SameBut.update s.heap a (Obj.mapSeq fun _ => (#[] : Array Value))
  obtain ⟨e1, ho1⟩ : ∃ e1, (s.heap.update a (Obj.mapSeq fun _ => (#[] : Array Value))).get? a = some (seqObj "list" #[] e1) := ⟨_, get?_update_seq ho fun _ => #[]⟩
  have g1 : Grown h₀ (((s.heap.update a (Obj.mapSeq fun _ => (#[] : Array Value))).push (seqObj "tuple" vs.toArray 0)).push (seqObj "list" #[] 0)) := fun b o e =>
    Heap.get?_push_of_some _ (Heap.get?_push_of_some _ ((s1.2 b fun q => by rw [q, ha] at e; cases e).trans (hg b o e)))
  have na : (((s.heap.update a (Obj.mapSeq fun _ => (#[] : Array Value))).push (seqObj "tuple" vs.toArray 0)).push (seqObj "list" #[] 0)).get? a = some (seqObj "list" #[] e1) := Heap.get?_push_of_some _ (Heap.get?_push_of_some _ ho1)
  rw [list_sort_plain]
  refine wpAny_bind (listItems_at ho rfl ?_)
  refine wpAny_bind (listUpdate_at ho rfl ?_ (by rw [List.size_toArray, sizeLine_eq]; lia) (Nat.zero_le _))
  refine wpAny_bind (seqEpoch_at ho1 rfl ?_)
  refine wpAny_bind (wpAny_newTuple ?_ (by show vs.length ≤ _; rw [sizeLine_eq]; lia))
  refine wpAny_bind (wpAny_newList ?_ (Nat.zero_le _))
  refine wpAny_holding ?_
  show wpAny (model prog w) A _ P E { s with heap := ((s.heap.update a (Obj.mapSeq fun _ => (#[] : Array Value))).push (seqObj "tuple" vs.toArray 0)).push (seqObj "list" #[] 0) }
  generalize ((s.heap.update a (Obj.mapSeq fun _ => (#[] : Array Value))).push (seqObj "tuple" vs.toArray 0)).push (seqObj "list" #[] 0) = h' at g1 na
  dsimp only
  have hn2 : ¬ vs.toArray.size < 2 := by rw [List.size_toArray]; lia
  rw [if_neg hn2, if_neg hn2]
  refine wpAny_bind (wpAny_mono (hk h' g1 (fun κ' s' => κ' = κ ∧ s' = { s with heap := h' }) ⟨rfl, rfl⟩) (fun κ' s0 hκ => ?_) fun _ _ x => x.elim)
  obtain ⟨rfl, rfl⟩ := hκ
  refine wpAny_bind (wpAny_mono (kat_run (Q := fun st' s' => s' = { s with heap := h' } ∧ ∃ p : Array Nat, p.size = vs.length ∧ arrOf st' = p.map (kas_item (vs.toArray.zip vs.toArray)) ∧ failedOf st' = none ∧ p = ev lt (kas_sort vs.length))
    rfl h2 h64 (fun p' st' s' a1 a2 a3 a4 => ⟨a4.1, p', a1, a2, a3, a4.2⟩)
    (Asks.run (I := fun s' => s' = { s with heap := h' }) (G := fun p s' => s' = { s with heap := h' } ∧ p = ev lt (kas_sort vs.length)) (fun i j C s' hi hj e k => by subst e; exact hc h' i j C g1 hi hj (k _ rfl)) (fun p s' hp e => ⟨e, hp⟩) (sort_ok wo (by lia)).ev.1 rfl)) ?_ fun _ _ e => e)
  rintro ⟨⟨⟩, st'⟩ s' ⟨rfl, p, hp, har, hf, rfl⟩
  dsimp only
  have hout := kat_snds rfl har
  have hsz : (List.toArray ((ev lt (kas_sort vs.length)).toList.map fun i => vs.getD i Value.none)).size = vs.length := by rw [List.size_toArray, List.length_map, Array.length_toList, hp]
  rw [hout]
  have s2 := Heap.SameBut.update h' a (Obj.mapSeq fun _ => List.toArray ((ev lt (kas_sort vs.length)).toList.map fun i => vs.getD i Value.none))
  refine wpAny_bind (seqEpoch_at na rfl ?_)
  refine wpAny_bind (listUpdate_at na rfl ?_ (Nat.zero_le _) (Nat.le_trans (Nat.le_of_eq hsz) (by rw [sizeLine_eq]; lia)))
  rw [hf]
  simp only [bne_self_eq_false, Bool.false_eq_true, if_false]
  exact wpAny_pure (h _ _ (fun b o e => (s2.2 b fun q => by rw [q, ha] at e; cases e).trans (g1 b o e)) (get?_update_seq na fun _ => List.toArray ((ev lt (kas_sort vs.length)).toList.map fun i => vs.getD i Value.none)))
theorem sorted_by {l : Addr} {Q : Value → Shared → Prop} (wo : Swo lt) (hl : s.heap.IsList l vs.toArray) (h2 : 2 ≤ vs.length) (h64 : vs.length < 64)
    (hk : ∀ h', Grown s.heap h' → ∀ Q : SortKind → Shared → Prop, Q κ { s with heap := h' } → wpAny (model prog w) A.in1.in1 (keyKind' vs.toArray) Q (fun _ _ => False) { s with heap := h' })
    (hc : ∀ h' i j (C : Bool → Shared → Prop), Grown s.heap h' → i < vs.length → j < vs.length → C (lt i j) { s with heap := h' } → kas_ask prog w A.in1.in1 κ vs i j C { s with heap := h' })
    (h : ∀ D h' c, Grown s.heap h' → s.heap.get? D = none → h'.get? D = some (seqObj "list" (List.toArray ((srtBy lt vs.length).map fun i => vs.getD i Value.none)) c) → Q (.ref D) { s with heap := h' }) :
    wpAny (model prog w) A (call (.builtin "sorted") [.ref l]) Q E s := by
  refine Calls.call_function_entry kind_sorted plain_sorted entry_sorted (args_sorted1 _) ?_
  unfold Builtin.«sorted»
  refine wpAny_bind (m := checkCount "sorted" 1 1 _) (wpAny_pure ?_)
  refine wpAny_bind (collect_list hl ?_ (by rw [sizeLine_eq]; lia))
  refine wpAny_bind (wpAny_newList ?_ (by rw [sizeLine_eq]; lia))
  have hsz : ((s.heap.push (seqObj "list" #[] 0)).update s.heap.objs.size (Obj.mapSeq (· ++ vs.toArray))).objs.size = s.heap.objs.size + 1 := by
    rw [Heap.size_update, size_push']
  have hoL : (((s.heap.push (seqObj "list" #[] 0)).update s.heap.objs.size (Obj.mapSeq (· ++ vs.toArray))).push (seqObj "list" vs.toArray 0)).get? (s.heap.objs.size + 1) = some (seqObj "list" vs.toArray 0) := by
    rw [← hsz]; exact Heap.get?_push_size _ rfl
  have keep : Grown s.heap (((s.heap.push (seqObj "list" #[] 0)).update s.heap.objs.size (Obj.mapSeq (· ++ vs.toArray))).push (seqObj "list" vs.toArray 0)) := fun b o q => by
    have hlt : b < s.heap.objs.size := Heap.lt_size q
    rw [Heap.get?_push_ne _ _ _ (by rw [hsz]; exact Nat.ne_of_lt (Nat.lt_succ_of_lt hlt)), Heap.get?_update_ne _ _ _ _ (Nat.ne_of_lt hlt), Heap.get?_push_ne _ _ _ (Nat.ne_of_lt hlt)]
    exact q
  show wpAny _ _ _ _ _ { s with heap := ((s.heap.push (seqObj "list" #[] 0)).update s.heap.objs.size (Obj.mapSeq (· ++ vs.toArray))).push (seqObj "list" vs.toArray 0) }
  rw [hsz]
  generalize ((s.heap.push (seqObj "list" #[] 0)).update s.heap.objs.size (Obj.mapSeq (· ++ vs.toArray))).push (seqObj "list" vs.toArray 0) = h1 at hoL keep
  refine wpAny_bind (wpAny_holding (wpAny_call_entry slot_list_sort ⟨_, hoL, rfl⟩ entry_list_sort ?body (args_list_sort _)))
  have hout : s.heap.get? (s.heap.objs.size + 1) = none := get?_out (Nat.le_succ _)
  exact sort_in (s := { s with heap := h1 }) wo hoL h2 h64 hout keep (fun h' g Q q => hk h' g Q q) (fun h' i j C g hi hj k => hc h' i j C g hi hj k) fun h' c g e => ⟨_, rfl, wpAny_pure ⟨_, rfl, h _ h' c g hout e⟩⟩
end
end Mini
open PySem PySem.W PyProof PyProof.Rows PySem.Calls
namespace Mini
noncomputable def lxlt : List Int → List Int → Bool
  | _, [] => false
  | [], _ :: _ => true
  | x :: xs, y :: ys => if x = y then lxlt xs ys else decide (x < y)
theorem lxlt_asym : ∀ {xs ys : List Int}, lxlt xs ys = true → lxlt ys xs = false
  | _, [], h => by simp [lxlt] at h
  | [], _ :: _, h => by simp [lxlt]
  | x :: xs, y :: ys, h => by
    unfold lxlt at h ⊢
    by_cases e : x = y
    · subst e; simp only [if_true] at h ⊢; exact lxlt_asym h
    · rw [if_neg e] at h
      rw [if_neg (Ne.symm e)]
      simp at h ⊢; lia
theorem lxlt_ntr : ∀ {xs ys zs : List Int}, lxlt xs ys = false → lxlt ys zs = false → lxlt xs zs = false
  | _, _, [], _, _ => by simp [lxlt]
  | [], [], _ :: _, _, h => by simp [lxlt] at h
  | [], _ :: _, _ :: _, h, _ => by simp [lxlt] at h
  | _ :: _, [], _ :: _, _, h => by simp [lxlt] at h
  | x :: xs, y :: ys, z :: zs, h1, h2 => by
    unfold lxlt at h1 h2 ⊢
    by_cases e : x = y
    · subst e
      simp only [if_true] at h1
      by_cases e2 : x = z
      · subst e2; simp only [if_true] at h2 ⊢; exact lxlt_ntr h1 h2
      · rw [if_neg e2] at h2 ⊢; exact h2
    · rw [if_neg e] at h1
      by_cases e2 : y = z
      · subst e2; rw [if_neg e]; exact h1
      · rw [if_neg e2] at h2
        simp at h1 h2
        rw [if_neg (by lia)]
        simp; lia
theorem lxlt_swo (key : Nat → List Int) : Swo fun i j => lxlt (key i) (key j) := ⟨fun _ _ => lxlt_asym, fun _ _ _ => lxlt_ntr⟩
theorem ints_drop {items : Array Value} {i : Nat} {x : Int} {r : List Int} (h : IntsAre (items.toList.drop i) (x :: r)) : ∃ t, items[i]? = some (.int x t) ∧ IntsAre (items.toList.drop (i + 1)) r := by
  cases q : items.toList.drop i with
  | nil => rw [q] at h; cases h
  | cons v vs =>
    rw [q] at h
    cases h with
    | cons n t h' =>
      have e1 : items.toList[i]? = some (Value.int x t) := by
        have := List.getElem?_drop (xs := items.toList) (i := i) (j := 0)
        rw [q] at this; simpa using this.symm
      refine ⟨t, by simpa using e1, ?_⟩
      have : items.toList.drop (i + 1) = vs := by rw [← List.drop_drop, q]; rfl
      rw [this]; exact h'
theorem ints_drop_nil {items : Array Value} {i : Nat} (h : IntsAre (items.toList.drop i) []) : items.size ≤ i := by
  cases q : items.toList.drop i with
  | nil => simpa using q
  | cons v vs => rw [q] at h; cases h
section
theorem lt_loop (l b : Addr) (items items2 : Array Value) (n n2 : Nat) (dd dd2 : Option Addr) (sl sl2 : Array (Option Value)) : ∀ (r1 r2 : List Int) (i : Nat), IntsAre (items.toList.drop i) r1 → IntsAre (items2.toList.drop i) r2 → i ≤ items.size → i ≤ items2.size →
    Meets (Builtin.«list.__eq__.loop» ⟨[.ref l, .ref b, rawInt i, rawInt 0], []⟩)
      (fun A R s => s.heap.get? l = some { cls := .type "list", dict := dd, data := .seq items n, slots := sl } ∧ s.heap.get? b = some { cls := .type "list", dict := dd2, data := .seq items2 n2, slots := sl2 } ∧
        R (.ok (.ret (.bool (lxlt r1 r2)))) s) := by
  intro r1
  induction r1 with
  | nil =>
    intro r2 i h1 h2 l1 l2 prog w A R s h
    obtain ⟨hp, g, d, tk, os⟩ := s; obtain ⟨hl, hb, h⟩ := h
    have z1 := ints_drop_nil h1
    wp_walk using PySem.AutoSeq1.wpAny_loadPart' hl, PySem.AutoSeq1.wpAny_loadPart' hb
    have hi1 : items[((i : Nat) : Int).toNat]? = none := by simp; lia
    rw [hi1]
    wp_walk using PySem.AutoSeq1.wpAny_loadPart' hl, PySem.AutoSeq1.wpAny_loadPart' hb
    show R (.ok (.ret (.bool (decide (items.size < items2.size))))) _
    have e : lxlt [] r2 = decide (items.size < items2.size) := by
      cases r2 with
      | nil => have := ints_drop_nil h2; simp [lxlt]; lia
      | cons y r2 =>
        obtain ⟨t, e, _⟩ := ints_drop h2
        have := (Array.getElem?_eq_some_iff.mp e).1
        simp [lxlt]; lia
    rw [e] at h; exact h
  | cons x r1 ih =>
    intro r2 i h1 h2 l1 l2 prog w A R s h
    obtain ⟨hp, g, d, tk, os⟩ := s; obtain ⟨hl, hb, h⟩ := h
    obtain ⟨t, e1, h1'⟩ := ints_drop h1
    have hlt := (Array.getElem?_eq_some_iff.mp e1).1
    wp_walk using PySem.AutoSeq1.wpAny_loadPart' hl, PySem.AutoSeq1.wpAny_loadPart' hb
    have hi1 : items[((i : Nat) : Int).toNat]? = some (.int x t) := by simpa using e1
    rw [hi1]
    cases r2 with
    | nil =>
      have z2 := ints_drop_nil h2
      have hi2 : items2[((i : Nat) : Int).toNat]? = none := by simp; lia
      rw [hi2]
      wp_walk using PySem.AutoSeq1.wpAny_loadPart' hl, PySem.AutoSeq1.wpAny_loadPart' hb
      show R (.ok (.ret (.bool (decide (items.size < items2.size))))) _
      have e : lxlt (x :: r1) [] = decide (items.size < items2.size) := by simp [lxlt]; lia
      rw [e] at h; exact h
    | cons y r2 =>
      obtain ⟨u, e2, h2'⟩ := ints_drop h2
      have hlt2 := (Array.getElem?_eq_some_iff.mp e2).1
      have hi2 : items2[((i : Nat) : Int).toNat]? = some (.int y u) := by simpa using e2
      have hc : ((i : Int) + 1) = ((i + 1 : Nat) : Int) := by push_cast; rfl
      rw [hi2]
      refine wpAny_bind (wpAny_eqBool_int ?_)
      unfold lxlt at h
      by_cases exy : x = y
      · rw [beq_iff_eq.mpr exy]
        rw [if_pos exy] at h
        wp_walk
        rw [hc]
        exact ⟨plainId_quiet PySem.MeetsSeq3.plain_eq_loop _, codeAny_builtin PySem.MeetsSeq3.entry_eq_loop (by
          rw [Around.under_plainId PySem.MeetsSeq3.plain_eq_loop _]
          exact ih r2 (i + 1) h1' h2' (by lia) (by lia) prog w A R _ ⟨hl, hb, h⟩)⟩
      · rw [beq_eq_false_iff_ne.mpr exy]
        rw [if_neg exy] at h
        wp_walk using PySem.AutoSeq1.wpAny_loadPart' hl, PySem.AutoSeq1.wpAny_loadPart' hb
        rw [hi1, hi2]
        refine wpAny_bind (PySem.P.lt_int ?_)
        wp_walk
        exact h
theorem list_lt (l b : Addr) (items items2 : Array Value) (n n2 : Nat) (dd dd2 : Option Addr) (sl sl2 : Array (Option Value)) {xs ys : List Int} (h1 : IntsAre items.toList xs) (h2 : IntsAre items2.toList ys) :
    Meets (Builtin.«list.__lt__» ⟨[.ref l, .ref b], []⟩)
      (fun A R s => s.heap.get? l = some { cls := .type "list", dict := dd, data := .seq items n, slots := sl } ∧ s.heap.get? b = some { cls := .type "list", dict := dd2, data := .seq items2 n2, slots := sl2 } ∧
        R (.ok (.ret (.bool (lxlt xs ys)))) s) := by
  intro prog w A R s h
  obtain ⟨hp, g, d, tk, os⟩ := s; obtain ⟨hl, hb, h⟩ := h
  have f3 := PySem.AutoSeq1.sub_list_list
  wp_walk using PySem.AutoSeq1.wpAny_loadPart' hl, PySem.AutoSeq1.wpAny_loadPart' hb
  exact ⟨plainId_quiet PySem.MeetsSeq3.plain_eq_loop _, codeAny_builtin PySem.MeetsSeq3.entry_eq_loop (by
    rw [Around.under_plainId PySem.MeetsSeq3.plain_eq_loop _]
    exact lt_loop l b items items2 n n2 dd dd2 sl sl2 xs ys 0 h1 h2 (Nat.zero_le _) (Nat.zero_le _) prog w A R _ ⟨hl, hb, h⟩)⟩
end
end Mini
open PySem PySem.W PyProof PyProof.Rows PySem.Calls
namespace Mini
section
variable {prog : Program} {w : World} {A : Around} {E : Value → Shared → Prop} {s : Shared}
theorem key_lt_lists {a b : Addr} {xs ys : List Int} {va vb : Array Value} {na nb : Nat} {Q : Bool → Shared → Prop} (la : s.heap.get? a = some { cls := .type "list", data := .seq va na }) (ia : IntsAre va.toList xs) (lb : s.heap.get? b = some { cls := .type "list", data := .seq vb nb }) (ib : IntsAre vb.toList ys)
    (hu : A.units < cLine) (h : Q (lxlt xs ys) s) : wpAny (model prog w) A (keyLt' oneType' (.ref a) (.ref b)) Q E s := by
  rw [keyLt'_oneType, oneLt'_eq]
  simp only [if_true]
  refine wpAny_bind (wpAny_cRoomFor hu ?_)
  refine wpAny_bind (wpAny_callSpecialIfBound?_slot (T := "list") (id := "list.__lt__") ⟨_, la, rfl⟩ F.slot_list_lt (call_meets F.slot_list_lt ⟨_, la, rfl⟩ F.entry_list_lt (F.args_list_lt_2 _ _) (list_lt a b va vb na nb none none #[] #[] ia ib) ⟨la, lb, ?_⟩))
  exact wpAny_truthy_bool h
end
section
variable {c : Cx} {P : PI} {d : Nat} {A : Around} {kd : Kinds} {ρ ρ' : Vars} {G : Imm} {φ : List Loc} {σ σ' : St} {s : Shared} {v a b : AVal}
theorem ref_get {is : List Nat} {items : List Value} {k i : Nat} (h : VsRel c G φ (is.map .ref) items) (hk : is[k]? = some i) : ∃ l : Loc, φ[i]? = some l ∧ items[k]? = some (.ref l.a) := by
  obtain ⟨v', e, r⟩ := h.get (i := k) (v := .ref i) (by simp [hk])
  cases r with
  | ref e' => exact ⟨_, e', e⟩
theorem c_sortedLL {is : List Nat} {key : Nat → List Int} (h1 : listOf? σ b = some (is.map .ref)) (h2 : 2 ≤ is.length) (h3 : is.length < 64) (hk : ∀ k i : Nat, is[k]? = some i → σ[i]? = some (.list ((key k).map .int))) :
    EvC P (d + 2) (.bi "sorted") [b] σ (.ref σ.length) (σ ++ [.list ((srtBy (fun i j => lxlt (key i) (key j)) is.length).map fun k => .ref (is.getD k 0))]) := ⟨rfl, fun {c A G φ s f' vs'} ok ha R Vf V => by
  (cases Vf using VRel.biE)
  cases V using VsRel.consE with
  | cons hv ht =>
    (cases ht using VsRel.nilE)
    obtain ⟨la, o, items, m, rfl, g, cc, dd, rr⟩ := R.isList hv h1
    have hlen : items.length = is.length := by rw [← rr.length]; simp
    have hu : A.in1.in1.units < cLine := by have := (ha.in1.in1).eq; lia
    have at' : ∀ k, k < items.length → ∃ i l va na, is[k]? = some i ∧ φ[i]? = some l ∧ items[k]? = some (.ref l.a) ∧ s.heap.get? l.a = some { cls := .type "list", data := .seq va na } ∧ IntsAre va.toList (key k) := fun k hlt => by
      obtain ⟨i, hi⟩ : ∃ i, is[k]? = some i := ⟨_, List.getElem?_eq_getElem (by lia)⟩
      obtain ⟨l, e1, e2⟩ := ref_get rr hi
      obtain ⟨_, _, its, n, e, r⟩ := R.obj i l _ e1 (hk k i hi)
      exact ⟨i, l, its.toArray, n, hi, e1, e2, e, by simpa using ints_of r⟩
    refine sorted_by (κ := oneType') (lt := fun i j => lxlt (key i) (key j)) (lxlt_swo key) ⟨_, g, cc, _, dd⟩ (by lia) (by lia) (fun h' gr Q q => ?_) (fun h' i j C gr hi hj q => ?_) fun D h' n gr hD e => ?_
    · refine kas_kind (T := .type "list") (by lia) (fun v hv => ?_) (by decide) (by decide) q
      obtain ⟨k, hk'⟩ := List.getElem?_of_mem hv
      obtain ⟨i, l, va, na, _, _, e2, e3, _⟩ := at' k (List.getElem?_eq_some_iff.mp hk').1
      rw [e2] at hk'; cases hk'
      exact (Looks.ld (gr _ _ e3)).andThen .now
    · obtain ⟨_, l1, va, na, _, _, e2, e3, e4⟩ := at' i hi
      obtain ⟨_, l2, vb, nb, _, _, f2, f3, f4⟩ := at' j hj
      unfold kas_ask
      rw [show items.getD i Value.none = .ref l1.a by simp [List.getD, e2], show items.getD j Value.none = .ref l2.a by simp [List.getD, f2]]
      exact key_lt_lists (s := { s with heap := h' }) (gr _ _ e3) e4 (gr _ _ f3) f4 hu q
    · refine R.newListAt (tk := s.toks) (n := n) gr hD e ?_
      rw [hlen]
      have hp := srtBy_perm (lxlt_swo key) (n := is.length) (by lia)
      have : ∀ l : List Nat, (∀ k ∈ l, k < is.length) → VsRel c G φ (l.map fun k => AVal.ref (is.getD k 0)) (l.map fun k => items.getD k Value.none) := fun l => by
        induction l with
        | nil => exact fun _ => .nil
        | cons k r ih =>
          intro hm
          refine .cons ?_ (ih fun x hx => hm x (.tail _ hx))
          obtain ⟨i, l1, va, na, e1, e1', e2, _, _⟩ := at' k (by rw [hlen]; exact hm k (.head _))
          show VRel c G φ (.ref (is.getD k 0)) (items.getD k Value.none)
          rw [show items.getD k Value.none = .ref l1.a by simp [List.getD, e2], show is.getD k 0 = i by simp [List.getD, e1]]
          exact .ref e1'
      exact this _ fun k hk => by simpa using hp.mem_iff.mp hk⟩
end
end Mini
open PySem PySem.W PyProof PyProof.Rows PySem.Calls PySem.Spec PySem.SeqAt
namespace Mini
mutual
inductive Dt (σ : St) : AVal → PyData → Prop
  | none : Dt σ .none .none
  | bool {b : Bool} : Dt σ (.bool b) (.bool b)
  | int {i : Int} : Dt σ (.int i) (.int i)
  | str {x : Str} : Dt σ (.str x) (.str x)
  | tup {vs : List AVal} {ds : List PyData} (h : Dts σ vs ds) : Dt σ (.tup vs) (.tuple ds)
  | list {v : AVal} {vs : List AVal} {ds : List PyData} (e : listOf? σ v = some vs) (h : Dts σ vs ds) : Dt σ v (.list ds)
inductive Dts (σ : St) : List AVal → List PyData → Prop
  | nil : Dts σ [] []
  | cons {v : AVal} {d : PyData} {vs : List AVal} {ds : List PyData} (h : Dt σ v d) (t : Dts σ vs ds) : Dts σ (v :: vs) (d :: ds)
end
section
variable {c : Cx} {P : PI} {d : Nat} {A : Around} {kd : Kinds} {ρ ρ' : Vars} {G : Imm} {φ : List Loc} {σ σ' : St} {s : Shared} {v a b : AVal}
mutual
theorem Dt.reads (R : Rel c G φ σ s) : ∀ {v : AVal} {d : PyData} {v' : Value}, Dt σ v d → VRel c G φ v v' → ∃ as, Reads s.heap v' d as
  | _, _, _, .none, V => by (cases V using VRel.noneE); exact ⟨_, .none⟩
  | _, _, _, .bool, V => by (cases V using VRel.boolE); exact ⟨_, .bool _⟩
  | _, _, _, .int, V => by (cases V using VRel.intE); exact ⟨_, .int _ _⟩
  | _, _, _, .str, V => by (cases V using VRel.strE); exact ⟨_, .str _ _⟩
  | _, _, _, .tup h, V => by
    cases V using VRel.tupE with
    | tup n e r =>
      obtain ⟨as, x⟩ := Dts.reads R h r
      exact ⟨as, .tuple (R.gh _ _ e) rfl rfl (by simpa using x)⟩
  | _, _, _, .list e h, V => by
    obtain ⟨la, o, items, m, rfl, g, cc, dd, rr⟩ := R.isList V e
    obtain ⟨as, x⟩ := Dts.reads R h rr
    exact ⟨_, .list g cc dd (by simpa using x)⟩
theorem Dts.reads (R : Rel c G φ σ s) : ∀ {vs : List AVal} {ds : List PyData} {vs' : List Value}, Dts σ vs ds → VsRel c G φ vs vs' → ∃ as, ReadsAll s.heap vs' ds as
  | _, _, _, .nil, V => by (cases V using VsRel.nilE); exact ⟨_, .nil⟩
  | _, _, _, .cons h t, V => by
    cases V using VsRel.consE with
    | cons hv ht =>
      obtain ⟨a1, x1⟩ := Dt.reads R h hv
      obtain ⟨a2, x2⟩ := Dts.reads R t ht
      exact ⟨_, .cons x1 x2⟩
end
mutual
theorem noMix_self : ∀ {d : PyData}, d.canLay0 = true → noMix d d = true
  | .none, _ => by simp [noMix]
  | .bool _, _ => by simp [noMix]
  | .int _, _ => by simp [noMix]
  | .str _, _ => by simp [noMix]
  | .list xs, h => by simp only [noMix]; exact noMixAll_self (by simpa [PyData.canLay0] using h)
  | .tuple xs, h => by simp only [noMix]; exact noMixAll_self (by simpa [PyData.canLay0] using h)
  | .dict _, h => by simp [PyData.canLay0] at h
theorem noMixAll_self : ∀ {ds : List PyData}, PyData.canLayAll0 ds = true → noMixAll ds ds = true
  | [], _ => by simp [noMixAll]
  | d :: ds, h => by
    simp only [PyData.canLayAll0, Bool.and_eq_true] at h
    simp [noMixAll, noMix_self h.1, noMixAll_self h.2]
end
theorem c_neD {x y : PyData} {q : Bool} (h1 : Dt σ a x) (h2 : Dt σ b y) (s1 : shaped x = true) (s2 : shaped y = true) (hm : noMix x y = true) (h : (!PySem.Spec.same x y) = q) : CmpR .NotEq a b σ q := .intro fun ha R Va Vb k => by
  subst h
  obtain ⟨as, r1⟩ := h1.reads R Va
  obtain ⟨bs, r2⟩ := h2.reads R Vb
  exact ne_dataH_same r1 r2 s1 s2 ha.eq hm (k _ R (.refl ..))
theorem c_neS {x : PyData} (h1 : Dt σ a x) (h2 : Dt σ b x) (s1 : shaped x = true) : CmpR .NotEq a b σ false := c_neD h1 h2 s1 s1 (noMix_self (canLay_of_shaped s1)) (by rw [PySem.Spec.same_self]; rfl)
end
end Mini
open PySem PySem.W PySem.W.X PyProof PyProof.Rows PySem.Calls
namespace Mini
noncomputable def lamV (k : LB) (vs : List AVal) (ρf : Vars) : Vars := fun y => match k.names.lookup y with
  | some .free => ρf y
  | _ => bindAll k.params vs y
section
variable {c : Cx} {P : PI} {n d : Nat} {A : Around} {env : Env} {kd : Kinds} {ρ ρ' ρf : Vars} {G G' G₂ : Imm} {φ φ' φ₂ : List Loc} {σ σ' σ₂ : St} {s s' s₂ s₃ : Shared} {v : AVal}
theorem lam_call {k : LB} {fd : FuncData} {fa : Addr} {o : Obj} {vs : List AVal} {vs' : List Value} (hf : LFn G k fd) (e : G fa = some o) (hd : o.data = .func fd)
    (hcl : ∀ y w, k.names.lookup y = some .free → ρf y = some w → ∃ ca w', fd.closure.lookup y = some ca ∧ s.heap.IsCell ca (some w') ∧ VRel c G φ w w') (hcs : ∀ p ∈ fd.closure, p.2 ∉ foot c φ ∧ (s.heap.get? p.2).isSome)
    (hlen : k.params.length = vs.length) (h : EvE P d (fun x => k.names.lookup x) (lamV k vs ρf) k.body σ v σ') (ok : COk c P) (ha : GoodA (d + 1) A) (R : Rel c G φ σ s) (V : VsRel c G φ vs vs') : Gives c A G φ s (call (.ref fa) vs') v σ' := by
  have hcode : s.heap.CodeRec fd.code fd.qualname := by
    obtain ⟨ca, oc, vs, t, e1, e2, e3, e4⟩ := hf.code
    exact ⟨ca, oc, vs, t, e1, R.gh _ _ e2, e3, e4⟩
  have hL : vs'.length = k.params.length := by rw [← V.length, hlen]
  refine wpAny_call (kla_callFunE ha.room (R.gh _ _ e) hd hf.co hf.gen hf.body hcode ?_)
  refine wpAny_of_eq (hf.bind vs' hL) (wpAny_newFunctionEnv (by rw [hf.nm]; exact hf.nocell) (fun x hx' => by rw [hf.nm]; exact hf.pk _ (zip_keys hx')) (fun h' hn hs => ?_) hf.kind)
  have k1 : ∀ b o, s.heap.get? b = some o → h'.get? b = some o := fun b o e => hs.extBut b o (fun z => by rw [z, get?_size] at e; cases e) (Heap.get?_push_of_some _ e)
  refine ⟨(ok.ok.nolimit.keeps R.keepB).keeps k1, ?_⟩
  let env : Env := newEnv fd.scope s.heap.objs.size fd.globals fd.closure (fd.qualname ++ ".<locals>.") (some fa) fd.code none fd.builtins
  have hkd : (fun x => k.names.lookup x) = env.kindOf := funext fun x => by
    show k.names.lookup x = fd.scope.names.lookup x
    rw [hf.nm]
  have S₁ : Step c [] G φ s G φ { s with heap := h', toks := s.toks + (k.params.zip vs').length } := step_ext k1
  have R₁ : Rel c G φ σ { s with heap := h', toks := s.toks + (k.params.zip vs').length } := rel_ext R k1
  have hloc : (h'.get? s.heap.objs.size).isSome := by obtain ⟨o, _, _, e, _⟩ := hn; rw [e]; rfl
  have hkn : ∀ y, env.kindOf y = k.names.lookup y := fun y => by rw [← hkd]
  have L : LocRel c G φ env (lamV k vs ρf) h' := by
    refine ⟨hf.kind, hf.glob, hf.bi, ⟨_, hn, fun y w h1 h2 => ?_⟩, fun y w h1 h2 => ?_⟩
    · rw [hkn] at h1
      unfold lamV at h2
      rw [h1] at h2
      obtain ⟨i, h3, h4⟩ := bindAll_get h2
      obtain ⟨w', h5, Vw⟩ := V.get h4
      exact ⟨w', look_rev hf.nodup h3 h5, Vw⟩
    · rw [hkn] at h1
      have h1' : k.names.lookup y = some .free := by
        rcases h1 with z | z
        · exact absurd rfl (hf.nocell _ (mem_of_lookup z))
        · exact z
      unfold lamV at h2
      rw [h1'] at h2
      obtain ⟨ca, w', q1, ⟨oc, q2, q3⟩, q4⟩ := hcl y w h1' h2
      exact ⟨ca, w', q1, ⟨oc, k1 _ _ q2, q3⟩, q4⟩
  have O : Owns c G φ env { s with heap := h', toks := s.toks + (k.params.zip vs').length } := by
    refine ⟨fun b hb => ?_, fun y b hb => ?_⟩
    · cases List.mem_singleton.mp hb
      exact ⟨R.fresh_foot (get?_size _), R.fresh_G (get?_size _), hloc⟩
    · obtain ⟨z1, z2⟩ := hcs _ (mem_of_look hb)
      refine ⟨z1, S₁.keep _ z2, fun hy => ?_⟩
      rw [hkn] at hy
      exact absurd rfl (hf.nocell _ (mem_of_lookup hy))
  have H : Here c P d (A.deeper env) env (fun x => k.names.lookup x) (lamV k vs ρf) G φ σ { s with heap := h', toks := s.toks + (k.params.zip vs').length } := ⟨ok, ha.deeper env, hkd, R₁, L, O⟩
  refine kla_codeExpr (wpAny_mono (h.run H) (fun v' s₂ ⟨G₂, φ₂, R₂, V₂, S₂⟩ => ?_) fun _ _ e => e.elim)
  exact ⟨G₂, φ₂, R₂, V₂, S₁.trans' S₂⟩
noncomputable def lamOk (scope : Scope) (kd : Kinds) (ps : List Str) : Bool :=
  scope.kind == .function && !scope.isCoroutine && !scope.isGenerator && scope.names.all (fun p => p.2 != .cell) && (freeNames scope.names).all (fun y => scope.names.lookup y == some .free && kd y == some .cell) && ps.all (fun x => scope.names.lookup x == some .local) && decide ps.Nodup
inductive LamEnd (c : Cx) (env : Env) (G : Imm) (φ : List Loc) (s : Shared) (σ : St) (k : LB) (v' : Value) (s' : Shared) : Prop
  | mk (G' : Imm) (fa : Addr) (o : Obj) (fd : FuncData) (e : v' = .ref fa) (R : Rel c G' φ σ s') (S : Step c [] G φ s G' φ s') (g : G' fa = some o) (hd : o.data = .func fd) (hf : LFn G' k fd) (hc : fd.closure = clos env k.names [])
noncomputable def BindOk (params : Arguments) (ps : List Str) : Prop := ∀ fd : FuncData, fd.params = params → fd.defaults = .none → fd.kwdefaults = .none → ∀ vs', vs'.length = ps.length → bindArgs fd ⟨vs', []⟩ = pure (ps.zip vs')
theorem make_lam {params : Arguments} {body : Expr} {scope : Scope} {pos : Pos} {ps : List Str} {q : Addr × Addr} (hdef : ∀ env, defaultsOf params env = ([], [])) (hb : BindOk params ps) (hall : lamOk scope kd ps = true) (hvs : ∀ y ∈ freeNames scope.names, (ρ y).isSome = true) (M : EnvMk c env "<lambda>" q) (H : Here c P d A env kd ρ G φ σ s) :
    wpAny (Md c) A (PySem.eval (.Lambda params body scope pos) env) (LamEnd c env G φ s σ ⟨body, ps, scope.names⟩) (fun _ _ => False) s := by
  unfold lamOk at hall
  simp only [Bool.and_eq_true, Bool.not_eq_true', beq_iff_eq, List.all_eq_true, bne_iff_ne, ne_eq, decide_eq_true_eq] at hall
  obtain ⟨⟨⟨⟨⟨⟨hk, hco⟩, hgen⟩, hnc⟩, hfree⟩, hpk⟩, hnd⟩ := hall
  have hlook : ∀ p ∈ scope.names, p.2 = .free → (env.cells.lookup p.1).isSome = true := fun p hp hf => by
    have hm : p.1 ∈ freeNames scope.names := mem_freeNames (by rw [← hf]; exact hp)
    obtain ⟨w, hw⟩ := Option.isSome_iff_exists.mp (hvs _ hm)
    have hkk := (hfree _ hm).2
    rw [H.kd] at hkk
    obtain ⟨a, v', e, _⟩ := H.l.cell p.1 w (.inl hkk) hw
    rw [e]; rfl
  have hcl := closureFor_eq hlook
  obtain ⟨tb, hP, ht, hhit⟩ := H.r.tab q M.mem
  have hg := H.ok.ok.g.keeps H.r.keepB
  have hhd := M.hd.keeps H.r.keepB
  have hbi := M.bi.keeps H.r.keepB
  have hqual : env.qual ++ "<lambda>" = c.tq q.2 := M.tq.symm
  have fin : ∀ {G₁ : Imm} {s₁ : Shared} {fa : Addr} {o : Obj} {pm ctv cv : Value}, Rel c G₁ φ σ s₁ → Step c [] G φ s G₁ φ s₁ → G₁ fa = some o → o.data = .func (kla_fn "<lambda>" (env.qual ++ "<lambda>") params body scope (clos env scope.names []) pm cv ctv) →
      (∃ ca oc vs t, cv = .ref ca ∧ G₁ ca = some oc ∧ oc.data = .fields vs ∧ vs[1]? = some (.str (c.tq q.2) t)) → LamEnd c env G φ s σ ⟨body, ps, scope.names⟩ (.ref fa) s₁ := by
    intro G₁ s₁ fa o pm ctv cv R₁ S₁ hfa hd hcode
    refine ⟨G₁, fa, o, _, rfl, R₁, S₁, hfa, hd, ⟨rfl, rfl, hco, hgen, hk, rfl, rfl, hnc, ?_, hb _ rfl rfl rfl, hpk, hnd⟩, rfl⟩
    obtain ⟨ca, oc, ws, t, e1, e2, e3, e4⟩ := hcode
    exact ⟨ca, oc, ws, t, e1, e2, e3, by rw [← hqual] at e4; exact e4⟩
  refine kla_eval (hdef env) ?_
  cases hnf : codeAmong pos tb.toList with
  | some cv =>
    refine kla_makeFunctionHit (cv := cv) hcl H.l.glob hg M.code hhd hP ht hnf hbi fun ctv h' tk hk' hsz => ?_
    have R₁ : Rel c G φ σ { s with heap := h', toks := tk } := rel_ext H.r hk'
    have S₁ : Step c [] G φ s G φ { s with heap := h', toks := tk } := step_ext hk'
    refine fin (R₁.pushG _ rfl) (S₁.trans' (step_pushG R₁ _)) (Imm.add_self ..) rfl ?_
    obtain ⟨ca, oc, ws, t, e1, e2, e3, e4⟩ := hhit pos cv hnf
    exact ⟨ca, oc, ws, t, e1, (step_pushG (own := []) R₁ _).g _ _ e2, e3, e4⟩
  | none =>
    refine kla_makeFunction hcl H.l.glob hg M.code hhd hP ht hnf M.ng hbi fun c' ctv h' tk hx' hge hlt hrec htb => ?_
    obtain ⟨c₂, oc, ws, t, e2, hoc, hd, hv⟩ := hrec
    cases e2
    have hc0 : s.heap.get? c' = none := Heap.get?_none_of_le hge
    rw [hqual] at hv
    obtain ⟨R₁, S₁⟩ := H.r.tabled (tk := tk) M.mem hx' hc0 hoc ⟨_, htb, by simpa using TriplesOk_snoc _ _ _ _ ht, fun pos' cv hcv' => by
      rcases codeAmong_more tb.toList ht (by simpa using hcv') with z | z
      · obtain ⟨ca, o1, ws1, t1, e1, e2, e3, e4⟩ := hhit pos' cv z
        exact ⟨ca, o1, ws1, t1, e1, Imm.sub_add (H.r.fresh_G hc0) _ _ e2, e3, e4⟩
      · exact ⟨c', oc, ws, t, z, Imm.add_self .., hd, hv⟩⟩
    refine fin (R₁.pushG _ rfl) (S₁.trans' (step_pushG R₁ _)) (Imm.add_self ..) rfl ?_
    exact ⟨c', oc, ws, t, rfl, (step_pushG (own := []) R₁ _).g _ _ (Imm.add_self ..), hd, hv⟩
end
theorem bind_args0 : BindOk ⟨[], [], .none, [], [], .none, []⟩ [] := fun fd h1 h2 h3 vs' hl => by
  cases List.length_eq_zero_iff.mp hl
  unfold bindArgs
  rw [h1, h2, h3]
  rfl
end Mini
open PySem PySem.W PySem.W.X PyProof PyProof.Rows PySem.Calls
namespace Mini
section
variable {c : Cx} {P : PI} {n d : Nat} {A : Around} {env : Env} {kd : Kinds} {ρ ρ' ρf : Vars} {G G' : Imm} {φ φ' : List Loc} {σ σ' : St} {s s' : Shared} {v b : AVal}
end
end Mini
open PySem PySem.W PySem.W.X PyProof PyProof.Rows PySem.Calls
namespace Mini
structure EvEL (P : PI) (d : Nat) (nm : Str) (kd : Kinds) (ρ : Vars) (e : Expr) (σ : St) (v : AVal) (σ' : St) : Prop where
  intro ::
  run : ∀ {c A env G φ s q}, EnvMk c env nm q → Here c P d A env kd ρ G φ σ s → Gives c A G φ s (PySem.eval e env) v σ'
structure EvXL (P : PI) (d : Nat) (nm : Str) (kd : Kinds) (ρ : Vars) (st : Stmt) (σ : St) (f : Flw) (ρ' : Vars) (σ' : St) : Prop where
  intro ::
  run : ∀ {c A env G φ s q}, EnvMk c env nm q → HereX c P d A env kd ρ G φ σ s → Does c A env G φ s (PySem.exec st env) f ρ' σ'
structure EvXsL (P : PI) (d : Nat) (nm : Str) (kd : Kinds) (ρ : Vars) (ss : List Stmt) (σ : St) (f : Flw) (ρ' : Vars) (σ' : St) : Prop where
  intro ::
  run : ∀ {c A env G φ s q}, EnvMk c env nm q → HereX c P d A env kd ρ G φ σ s → Does c A env G φ s (PySem.execs ss env) f ρ' σ'
section
variable {P : PI} {d : Nat} {nm : Str} {kd : Kinds} {ρ ρ₁ ρ₂ ρ' : Vars} {σ σ₁ σ₂ σ₃ σ' : St} {v a b : AVal} {p : Pos}
theorem xsl_of {ss : List Stmt} {f : Flw} (h : EvXs P d kd ρ ss σ f ρ' σ') : EvXsL P d nm kd ρ ss σ f ρ' σ' := .intro fun _ H => h.run H
theorem xsl_cons {st : Stmt} {ss : List Stmt} {f : Flw} (h1 : EvX P d kd ρ st σ .next ρ₁ σ₁) (h2 : EvXsL P d nm kd ρ₁ ss σ₁ f ρ' σ') : EvXsL P d nm kd ρ (st :: ss) σ f ρ' σ' := .intro fun M H => by
  refine wpAny_execs_cons (wpAny_mono (h1.run H) (fun f' s₁ ⟨G₁, φ₁, R₁, L₁, F₁, S₁, FR⟩ => ?_) fun _ _ e => e)
  cases FR
  exact Does.after (h2.run M (H.then R₁ L₁ F₁ S₁)) S₁
theorem xsl_consL {st : Stmt} {ss : List Stmt} {f : Flw} (h1 : EvXL P d nm kd ρ st σ .next ρ₁ σ₁) (h2 : EvXsL P d nm kd ρ₁ ss σ₁ f ρ' σ') : EvXsL P d nm kd ρ (st :: ss) σ f ρ' σ' := .intro fun M H => by
  refine wpAny_execs_cons (wpAny_mono (h1.run M H) (fun f' s₁ ⟨G₁, φ₁, R₁, L₁, F₁, S₁, FR⟩ => ?_) fun _ _ e => e)
  cases FR
  exact Does.after (h2.run M (H.then R₁ L₁ F₁ S₁)) S₁
end
section
variable {c : Cx} {P : PI} {n d : Nat} {A : Around} {G : Imm} {φ : List Loc} {σ σ' : St} {s : Shared} {v : AVal}
theorem callFnL {x nm : Str} {f : Fn} {ps : List Str} {body : List Stmt} {names : List (Str × NameKind)} {vs : List AVal} {vs' : List Value} {fl : Flw} {ρ' : Vars} (F : FnOk c f ps body names) (hm : P.maker x = some nm) (hfx : c.fns x = some f)
    (h : EvXsL P d nm (fun x => names.lookup x) (bindAll ps vs) body σ fl ρ' σ') (hlen : ps.length = vs.length) (hfl : retOf fl = some v)
    (ok : COk c P) (ha : GoodA (d + 1) A) (R : Rel c G φ σ s) (V : VsRel c G φ vs vs') {Q : Value → Shared → Prop} {E : Value → Shared → Prop} (q : ∀ v' s' G' φ', Rel c G' φ' σ' s' → VRel c G' φ' v v' → Step c [] G φ s G' φ' s' → Q v' s') :
    codeAny (Md c) A (.call (.ref f.addr) ⟨vs', []⟩) (fun r s' => match r with | .ok (.ret v) => Q v s' | .ok _ => False | .error e => E e s') s := by
  obtain ⟨tb, M⟩ := ok.maker x nm f hm hfx
  refine fn_enter F hlen ok ha R V fun env s₁ G₁ he H S fresh => ?_
  have hM : EnvMk c env nm tb := by
    subst he
    exact ⟨M.mem, M.code, M.hd, M.tq, M.bi, M.ng, fun p hp hl => M.own _ p hp hl⟩
  refine wpAny_mono (h.run hM H) (fun f' s₂ ⟨G₂, φ₂, R₂, _, _, S₂, FR⟩ => ?_) fun _ _ e => e
  have SS : Step c [] G φ s G₂ φ₂ s₂ := S.trans S₂ fun b hb => .inr (fresh b hb)
  cases FR with
  | next => cases hfl; exact q _ _ _ _ R₂ .none SS
  | ret hv => cases hfl; exact q _ _ _ _ R₂ hv SS
  | brk => cases hfl
  | cont => cases hfl
end
end Mini
open PySem PySem.W PySem.W.X PyProof PyProof.Rows PySem.Calls
namespace Mini
theorem all_at {α : Type} (xs : List α) : (List.range xs.length).filterMap (xs[·]?) = xs := by
  have h := krv_all xs.toArray
  simpa using h
end Mini
open PySem PySem.W PySem.W.X PyProof PyProof.Rows PySem.Calls
namespace Mini
section
variable {c : Cx} {P : PI} {d : Nat} {A : Around} {kd : Kinds} {ρ ρ' : Vars} {G : Imm} {φ : List Loc} {σ σ' : St} {s : Shared} {v a b : AVal}
theorem it_last {w : AVal} {vs : List AVal} (h1 : listOf? σ v = some (vs ++ [w])) (hl : vs.length ≤ lim) : ItemR σ v (.int (-1)) w := .intro fun {c A G φ s a' b' x i Q E} R Va Vb q => by
  cases Vb using VRel.intE with
  | int tk =>
    obtain ⟨la, o, items, m, rfl, g, cc, dd, rr⟩ := R.isList Va h1
    obtain ⟨v', hv', V'⟩ := rr.get (i := vs.length) (v := w) (by simp)
    have hz := rr.length
    simp only [List.length_append, List.length_cons, List.length_nil] at hz
    obtain ⟨ops, hs⟩ := subscripted_any i (.ref la) (.int (-1) tk)
    exact tail_any (T := "list") ⟨_, g, cc⟩ slot_list_getitem.lookup (wpAny_getItem_list_neg (items := items.toArray) ⟨_, g, cc, _, dd⟩ (by decide) (by rw [List.size_toArray]; lia) (by decide) (by
      have : ((-1 : Int) + (items.toArray.size : Int)).toNat = vs.length := by rw [List.size_toArray]; lia
      rw [this]; simpa using hv') (q _ _ R (.refl ..) V')) hs
theorem c_eqNil {xs : List AVal} {q : Bool} (h1 : listOf? σ a = some xs) (h2 : listOf? σ b = some []) (h : xs.isEmpty = q) : CmpR .Eq a b σ q := .intro fun {c A d G φ s a' b' Q E} ha R Va Vb k => by
  subst h
  obtain ⟨aa, oa, ia, na, rfl, ga, ca, da, ra⟩ := R.isList Va h1
  obtain ⟨ab, ob, ib, nb, rfl, gb, cb, db, rb⟩ := R.isList Vb h2
  cases rb
  have hu : A.units < cLine := by have := ha.eq; lia
  cases ra with
  | nil => exact SeqAt.eq_listAt (e := fun _ => true) ⟨_, ga, ca, _, da⟩ ⟨_, gb, cb, _, db⟩ rfl hu (fun j h1 h2 => absurd h1 (Nat.not_lt_zero _)) (k _ R (.refl ..))
  | cons hv ht => exact SeqAt.eq_list_lengthsAt ⟨_, ga, ca, _, da⟩ ⟨_, gb, cb, _, db⟩ (by simp) hu (k _ R (.refl ..))
theorem c_neNil {xs : List AVal} {q : Bool} (h1 : listOf? σ a = some xs) (h2 : listOf? σ b = some []) (h : (!xs.isEmpty) = q) : CmpR .NotEq a b σ q := .intro fun {c A d G φ s a' b' Q E} ha R Va Vb k => by
  subst h
  cases xs with
  | nil => exact (c_lne (xs := []) (ys := []) h1 h2 rfl).run ha R Va Vb k
  | cons v vs =>
    obtain ⟨aa, oa, ia, na, rfl, ga, ca, da, ra⟩ := R.isList Va h1
    obtain ⟨ab, ob, ib, nb, rfl, gb, cb, db, rb⟩ := R.isList Vb h2
    cases rb
    have hu : A.units < cLine := by have := ha.eq; lia
    obtain ⟨oac, oad, oadt, oas⟩ := oa
    obtain ⟨obc, obd, obdt, obs⟩ := ob
    dsimp only at ca da cb db
    subst ca da cb db
    cases ra with
    | cons hv ht =>
      exact richCompare_meets_room (op := .NotEq) ⟨_, ga, rfl⟩ ⟨_, gb, rfl⟩ F.slot_list_ne F.entry_list_ne (F.args_list_ne_2 _ _) (SeqAt.list_ne_lengthsAt aa ab _ _ na nb oad obd oas obs (by simp))
        ⟨ga, gb, ⟨(fun x => nomatch x), k _ R (.refl ..)⟩⟩ hu
section
variable {prog : Program} {w : World} {E : Value → Shared → Prop}
end
end
end Mini
open PySem PySem.W PySem.W.X PyProof PyProof.Rows PySem.Calls
namespace Mini
section
variable {prog : Program} {w : World} {K : Type} [DecidableEq K] {knd : KeyKind prog w K} {A : Around} {E : Value → Shared → Prop} {s : Shared}
theorem dictAt_new (h : Heap) : (h.push { cls := .type "dict", data := .dict #[] }).DictAt knd h.objs.size [] ([] : List (K × Value)).length :=
  ⟨_, #[], Heap.get?_push_size _ rfl, ⟨rfl, rfl, rfl⟩, rfl, fun _ he => (by simp at he), Pairs.nil, List.nodup_nil⟩
theorem set_at {d : Addr} {kvs : List (K × Value)} {k : K} {key v : Value} {Q : Unit → Shared → Prop} (hkey : knd.is k key = true) (hm : s.heap.DictAt knd d kvs kvs.length)
    (hQ : ∀ h', h'.DictAt knd d (stored kvs k v) (stored kvs k v).length → Heap.SameBut d s.heap h' → Q () { s with heap := h', toks := s.toks + 1 }) (hsz : kvs.length ≤ sizeLine) :
    wpAny (model prog w) A (setItem (.ref d) key v) Q E s := by
  have hT := hm.dictOf.typeIs
  obtain ⟨o, es, ho, hc, hd, hk, hp, hn⟩ := hm
  have hlen : es.toList.length = kvs.length := hp.length
  have hes : es.size ≤ sizeLine := by rw [← Array.length_toList, hlen]; exact hsz
  have find : (es.findIdx? fun e => knd.is k e.key) = kvs.findIdx? fun kv => decide (kv.1 = k) := by
    rw [← hp.findIdx k]; obtain ⟨l⟩ := es; simp
  unfold setItem
  try with_reducible refine wpAny_holding ?_
  refine wpAny_bind (wpAny_sequenceKey hT (by decide) ?_)
  refine wpAny_bind (wpAny_callSpecial?_slot (name := Str.ofString "__setitem__") hT slot_dict_setitem (wpAny_call_entry slot_dict_setitem hT entry_dict_setitem ?_ (args_dict_setitem _ _ _)))
  show wpAny _ _ (Builtin.Dict.notOrdered "__setitem__" ⟨[.ref d, key, v], []⟩ >>= _) _ _ s
  refine wpAny_bind (wpAny_notOrdered_dict hT ?_)
  show wpAny _ _ (dictSet d key v >>= _) _ _ s
  refine wpAny_bind ?_
  unfold dictSet
  try with_reducible refine wpAny_holding ?_
  refine wpAny_bind (knd.pyHash hkey ?_)
  unfold dictSetHashed
  try with_reducible refine wpAny_holding ?_
  refine wpAny_bind (wpAny_dictFind_of (s := { s with toks := s.toks + 1 }) hkey ho hd hk ?_)
  cases hi : es.findIdx? fun e => knd.is k e.key with
  | some i =>
    have hst : stored kvs k v = kvs.map fun kv => if kv.1 = k then (kv.1, v) else kv := by rw [stored, if_pos (any_of_findIdx_some (find ▸ hi))]
    refine wpAny_bind (wpAny_rule (wpAny_bind (wpAny_updateDict (s := { s with toks := s.toks + 1 }) ho hd (wpAny_point (wpAny_pure ⟨.none, rfl, wpAny_pure (hQ _ ?_ (Heap.SameBut.update ..))⟩)))))
    rw [hst, List.length_map]
    refine ⟨_, _, Heap.get?_update_self _ ho (Obj.isFreed_of_dict (Obj.data_mapDict hd _)), hc.mapDict _, Obj.data_mapDict hd _, hk.modify _ _, ?_, ?_⟩
    · have hl : (es.toList.findIdx? fun e => knd.is k e.key) = some i := by rw [← hi]; obtain ⟨l⟩ := es; simp
      have := hp.modify hn hl v
      obtain ⟨l⟩ := es
      simpa using this
    · rw [keys_map_store]; exact hn
  | none =>
    have hnot : k ∉ kvs.map (·.1) := not_mem_of_findIdx_none (find ▸ hi)
    have hst : stored kvs k v = kvs ++ [(k, v)] := by
      rw [stored, if_neg]
      rw [List.any_eq_true]
      rintro ⟨kv, hkv, he⟩
      exact hnot (List.mem_map.mpr ⟨kv, hkv, of_decide_eq_true he⟩)
    refine wpAny_bind (wpAny_rule (wpAny_updateDictKeys (hz := hes) (s := { s with toks := s.toks + 1 }) ho hd (wpAny_pure ⟨.none, rfl, wpAny_pure (hQ _ ?_ (Heap.SameBut.update ..))⟩)))
    rw [hst, List.length_append, List.length_singleton]
    refine ⟨_, _, Heap.get?_update_self _ ho (Obj.isFreed_of_dict (Obj.data_mapDictKeys hd _)), hc.mapDictKeys _, Obj.data_mapDictKeys hd _, hk.push hkey _, ?_, ?_⟩
    · have := hp.append hkey (knd.hash k) v
      obtain ⟨l⟩ := es
      simpa using this
    · rw [List.map_append, List.nodup_append]
      refine ⟨hn, by simp, fun a ha b hb e => ?_⟩
      simp only [List.map_cons, List.map_nil, List.mem_singleton] at hb
      subst hb
      exact hnot (e ▸ ha)
end
noncomputable def lookD {K : Type} [DecidableEq K] : List (K × AVal) → K → Option AVal
  | [], _ => none
  | (j, v) :: r, k => if j = k then some v else lookD r k
noncomputable def hasD {K : Type} [DecidableEq K] (kvs : List (K × AVal)) (k : K) : Bool := kvs.any fun kv => decide (kv.1 = k)
noncomputable def putD {K : Type} [DecidableEq K] (kvs : List (K × AVal)) (k : K) (v : AVal) : List (K × AVal) :=
  if hasD kvs k then kvs.map (fun kv => if kv.1 = k then (kv.1, v) else kv) else kvs ++ [(k, v)]
section
variable {K : Type} [DecidableEq K] {c : Cx} {G : Imm} {φ : List Loc}
theorem look_rel {k : K} : ∀ {kvs : List (K × AVal)} {es : List (K × Value)}, es.map (·.1) = kvs.map (·.1) → VsRel c G φ (kvs.map (·.2)) (es.map (·.2)) → (∀ v, lookD kvs k = some v → ∃ v', valueAt es k = some v' ∧ VRel c G φ v v') ∧ (lookD kvs k = none → valueAt es k = none)
  | [], [], _, _ => ⟨fun v h => (by cases h), fun _ => rfl⟩
  | [], e :: r, h, _ => (by simp at h)
  | e :: r, [], h, _ => (by simp at h)
  | (j, v) :: r, (j', v') :: r', h, hv => by
    simp only [List.map_cons, List.cons.injEq] at h
    obtain ⟨rfl, h⟩ := h
    cases hv using VsRel.consE with
    | cons h1 h2 =>
      have ih := look_rel (k := k) h h2
      unfold lookD valueAt
      by_cases e : j' = k
      · rw [if_pos e, List.find?_cons_of_pos (by simpa using e)]
        exact ⟨fun w hw => (by cases hw; exact ⟨_, rfl, h1⟩), fun hw => (by cases hw)⟩
      · rw [if_neg e, List.find?_cons_of_neg (by simpa using e)]
        exact ih
theorem put_keys {α : Type} {k : K} {v : α} (es : List (K × α)) : (es.map fun kv => if kv.1 = k then (kv.1, v) else kv).map (·.1) = es.map (·.1) := by
  rw [List.map_map]
  refine List.map_congr_left fun e _ => ?_
  simp only [Function.comp_apply]
  split <;> rfl
theorem any_keys {α : Type} {k : K} (es : List (K × α)) : (es.any fun kv => decide (kv.1 = k)) = (es.map (·.1)).any fun j => decide (j = k) := by
  rw [List.any_map]; rfl
theorem put_vals {k : K} {v : AVal} {v' : Value} (hv : VRel c G φ v v') : ∀ {kvs : List (K × AVal)} {es : List (K × Value)}, es.map (·.1) = kvs.map (·.1) → VsRel c G φ (kvs.map (·.2)) (es.map (·.2)) →
    VsRel c G φ ((kvs.map fun kv => if kv.1 = k then (kv.1, v) else kv).map (·.2)) ((es.map fun kv => if kv.1 = k then (kv.1, v') else kv).map (·.2))
  | [], [], _, _ => .nil
  | [], e :: r, h, _ => (by simp at h)
  | e :: r, [], h, _ => (by simp at h)
  | (j, w) :: r, (j', w') :: r', h, hw => by
    simp only [List.map_cons, List.cons.injEq] at h
    obtain ⟨rfl, h⟩ := h
    cases hw using VsRel.consE with
    | cons h1 h2 =>
      have ih := put_vals (k := k) hv h h2
      rw [List.map_cons, List.map_cons, List.map_cons, List.map_cons]
      by_cases e : j' = k
      · rw [if_pos e, if_pos e]; exact .cons hv ih
      · rw [if_neg e, if_neg e]; exact .cons h1 ih
theorem put_rel {k : K} {v : AVal} {v' : Value} {kvs : List (K × AVal)} {es : List (K × Value)} (hv : VRel c G φ v v') (h : es.map (·.1) = kvs.map (·.1)) (r : VsRel c G φ (kvs.map (·.2)) (es.map (·.2))) :
    (stored es k v').map (·.1) = (putD kvs k v).map (·.1) ∧ VsRel c G φ ((putD kvs k v).map (·.2)) ((stored es k v').map (·.2)) := by
  have ha : (es.any fun kv => decide (kv.1 = k)) = hasD kvs k := by unfold hasD; rw [any_keys, any_keys, h]
  unfold stored putD
  rw [ha]
  split
  · exact ⟨by rw [put_keys, put_keys, h], put_vals hv h r⟩
  · rw [List.map_append, List.map_append, List.map_append, List.map_append, h]
    exact ⟨rfl, r.append (.cons hv .nil)⟩
theorem hasD_look {k : K} : ∀ kvs : List (K × AVal), hasD kvs k = (lookD kvs k).isSome
  | [] => rfl
  | (j, v) :: r => by
    unfold hasD lookD
    rw [List.any_cons]
    by_cases e : j = k
    · rw [if_pos e, decide_eq_true e]; rfl
    · rw [if_neg e, decide_eq_false e, Bool.false_or]; exact hasD_look r
end
section
variable {c : Cx} {P : PI} {n d : Nat} {A : Around} {env : Env} {kd : Kinds} {ρ ρ₁ ρ₂ ρ' : Vars} {G : Imm} {φ : List Loc} {σ σ₁ σ₂ σ₃ σ' : St} {s : Shared} {v a b : AVal} {p : Pos}
theorem size_sys (ok : CxOk c) (R : Rel c G φ σ s) : (s.heap.objs.size == sysModules) = false := by
  obtain ⟨o, es, ep, ho, _⟩ := ok.g
  have h := R.keepB _ _ ho
  have hlt := Heap.lt_size h
  have hlt : 3 < s.heap.objs.size := hlt
  exact beq_eq_false_iff_ne.mpr (show s.heap.objs.size ≠ 1 by lia)
theorem int_is {k : Int} {t : Tok} : (intKind c.prog c.w).is k (.int k t) = true := by
  show Value.isInt k (.int k t) = true
  simp [Value.isInt]
theorem e_dict0 : EvE P d kd ρ (.Dict [] [] p) σ (.ref σ.length) (σ ++ [.dict []]) := .intro fun {c A env G φ s} H => by
  refine wpAny_Dict_empty ?_
  have R := H.r
  have hn : ∀ a ∈ (⟨s.heap.objs.size, [], none⟩ : Loc).a :: (⟨s.heap.objs.size, [], none⟩ : Loc).ps, s.heap.get? a = none := fun a ha => by
    rcases List.mem_cons.mp ha with rfl | ha
    · exact get?_size _
    · cases ha
  refine ⟨G, φ ++ [⟨s.heap.objs.size, [], none⟩], R.add (fun a x e => Heap.get?_push_of_some _ e) hn (by simp) (fun a ha => ?_) ⟨rfl, rfl, [], dictAt_new _, rfl, .nil, size_sys H.ok.ok R⟩, ?_, step_add (fun a x e => Heap.get?_push_of_some _ e) hn rfl⟩
  · rcases List.mem_cons.mp ha with rfl | ha
    · rw [Heap.get?_push_size _ rfl]; rfl
    · cases ha
  · refine VRel.ref (l := ⟨s.heap.objs.size, [], none⟩) ?_
    rw [← R.len]; simp
theorem it_dict {i : Nat} {w : AVal} {kvs : List (Int × AVal)} {k : Int} (h1 : σ[i]? = some (.dict kvs)) (h2 : lookD kvs k = some w) : ItemR σ (.ref i) (.int k) w := .intro fun {c A G φ s a' b' x j Q E} R Va Vb q => by
  cases Vb using VRel.intE with
  | int tk =>
    cases Va using VRel.refE with
    | ref hl =>
      obtain ⟨_, _, es, e, hk, r, sm⟩ := R.obj _ _ _ hl h1
      obtain ⟨v', e1, e2⟩ := (look_rel (k := k) hk r).1 w h2
      obtain ⟨ops, hs⟩ := subscripted_any j (.ref _) (.int k tk)
      exact tail_any (T := "dict") e.dictOf.typeIs slot_dict_getitem.lookup (wpAny_getItem_of int_is e.dictOf.mapOf e1 (q _ _ (R.toks _) (step_toks _) e2)) hs
theorem c_inD {i : Nat} {kvs : List (Int × AVal)} {k : Int} {q : Bool} (h1 : σ[i]? = some (.dict kvs)) (h : (lookD kvs k).isSome = q) : CmpR .In (.int k) (.ref i) σ q := .intro fun ha R Va Vb g => by
  subst h
  cases Va using VRel.intE with
  | int tk =>
    cases Vb using VRel.refE with
    | ref hl =>
      obtain ⟨_, _, es, e, hk, r, sm⟩ := R.obj _ _ _ hl h1
      have hl' := look_rel (k := k) hk r
      refine wpAny_in_of int_is sm e.dictOf.mapOf ?_
      have : (valueAt es k).isSome = (lookD kvs k).isSome := by
        cases z : lookD kvs k with
        | none => rw [hl'.2 z]; rfl
        | some w => obtain ⟨v', e1, _⟩ := hl'.1 w z; rw [e1]; rfl
      rw [this]
      exact g _ (R.toks _) (step_toks _)
theorem c_lenD {i : Nat} {kvs : List (Int × AVal)} (h1 : σ[i]? = some (.dict kvs)) (h : kvs.length ≤ lim) : EvC P d (.bi "len") [.ref i] σ (.int kvs.length) σ := ⟨rfl, fun ok ha R Vf V => by
  (cases Vf using VRel.biE)
  cases V using VsRel.consE with
  | cons hv ht =>
    cases ht using VsRel.nilE
    cases hv using VRel.refE with
    | ref hl =>
      obtain ⟨_, _, es, e, hk, r, sm⟩ := R.obj _ _ _ hl h1
      have hlen : es.length = kvs.length := by have := congrArg List.length hk; simpa using this
      refine call_len_dict sm e.dictOf (by rw [hlen]; unfold lim at h; lia) ?_
      rw [hlen]
      exact gives_toks R (.int _ _)⟩
theorem a_itemD {o e : Expr} {q : Pos} {j : Nat} {k : Int} {kvs : List (Int × AVal)} (h1 : EvE P d kd ρ o σ (.ref j) σ₁) (h2 : EvE P d kd ρ e σ₁ (.int k) σ₂) (h3 : σ₂[j]? = some (.dict kvs)) (hk : kvs.length ≤ lim) :
    EvA P d kd ρ (.Subscript o e q) v σ ρ (σ₂.set j (.dict (putD kvs k v))) := ⟨rfl, fun {c A env G φ s v'} H V => by
  rw [assign_Subscript]
  refine wpAny_bind (wpAny_holding (wpAny_mono (h1.run H.toHere) (fun ov s₁ ⟨G₁, φ₁, R₁, V₁, S₁⟩ => wpAny_bind (wpAny_holding (wpAny_mono (h2.run (H.step R₁ S₁).toHere) (fun iv s₂ ⟨G₂, φ₂, R₂, V₂, S₂⟩ => wpAny_bind (wpAny_standAt (wpAny_bind (wpAny_holding ?_)))) fun _ _ e => e))) fun _ _ e => e))
  have H₂ := (H.step R₁ S₁).step R₂ S₂
  have SS := S₁.trans' S₂
  have V₁' := V₁.mono S₂.g S₂.ext
  cases V₂ using VRel.intE with
  | int tk =>
    cases V₁' using VRel.refE with
    | @ref l hl =>
      obtain ⟨p1, p2, es, e, hkk, r, sm⟩ := R₂.obj _ _ _ hl h3
      have hlen : es.length = kvs.length := by have := congrArg List.length hkk; simpa using this
      refine set_at (hsz := by rw [hlen]; exact lim_le hk) int_is e fun h' e' hs => wpAny_release ?_
      have pr := put_rel (k := k) (V.mono SS.g SS.ext) hkk r
      have ne : ∀ b, b ∉ l.a :: l.ps → b ≠ l.a := fun b hb z => hb (by rw [z]; exact .head _)
      have lv : ∀ b, (s₂.heap.get? b).isSome → (h'.get? b).isSome := fun b hb => by
        by_cases z : b = l.a
        · rw [z]
          obtain ⟨o, _, ho, _⟩ := e'
          rw [ho]; rfl
        · rw [hs.2 b z]; exact hb
      have R₃ : Rel c G₂ φ₂ (σ₂.set j (.dict (putD kvs k v))) { s₂ with heap := h', toks := s₂.toks + 1 } := R₂.set hl (fun b x hb _ e => (hs.2 b (ne b hb)).trans e) (fun a ha => lv a (R₂.live a (mem_foot hl ha))) ⟨p1, p2, _, e', pr.1, pr.2, sm⟩
      have S₃ : Step c [] G₂ φ₂ s₂ G₂ φ₂ { s₂ with heap := h', toks := s₂.toks + 1 } := step_set hl (fun b x hb _ e => (hs.2 b (ne b hb)).trans e) lv rfl
      have H₃ := H₂.step R₃ S₃
      exact ⟨G₂, φ₂, R₃, H₃.l, H₃.f, (SS.trans' S₃).weaken (fun _ h => nomatch h), trivial⟩⟩
end
end Mini
open PySem PySem.W PySem.W.X PyProof PyProof.Rows PySem.Calls
namespace Mini
theorem clos_free {env : Env} {p : Str × Addr} : ∀ (l : List (Str × NameKind)) (acc : List (Str × Addr)), p ∈ clos env l acc → p ∈ acc ∨ (p.1, NameKind.free) ∈ l
  | [], acc, h => .inl h
  | (n, k) :: r, acc, h => by
    unfold clos at h
    split at h
    · rename_i hk
      have hk : k = .free := by simpa using hk
      subst hk
      rcases clos_free r _ h with h | h
      · rcases List.mem_cons.mp h with rfl | h
        · exact .inr (.head _)
        · exact .inl h
      · exact .inr (.tail _ h)
    · rcases clos_free r _ h with h | h
      · exact .inl h
      · exact .inr (.tail _ h)
section
variable {P : PI} {d : Nat} {nm : Str} {kd : Kinds} {ρ ρ₁ ρ₂ ρ' : Vars} {σ σ₁ σ₂ σ₃ σ' : St} {v w a b : AVal} {p : Pos}
theorem c_lam {k : LB} {xs : List Str} {ws vs : List AVal} (hlen : k.params.length = vs.length) (h : EvE P d (fun x => k.names.lookup x) (lamV k vs (bindAll xs ws)) k.body σ v σ') : EvC P (d + 1) (.lam k xs ws) vs σ v σ' := ⟨rfl, fun {c A G φ s f' vs'} ok ha R Vf V => by
  cases Vf with
  | lam e hd hf hx hg hc r =>
    refine lam_call (ρf := bindAll xs ws) hf e hd (fun y w hy hw => ?_) (fun p hp => ?_) hlen h ok ha R V
    · obtain ⟨i, h3, h4⟩ := bindAll_get hw
      obtain ⟨w', h5, Vw⟩ := r.get h4
      obtain ⟨ca, oc, q1, q2, q3⟩ := hc i y w' h3 h5
      exact ⟨ca, w', q1, ⟨oc, R.gh _ _ q2, q3⟩, Vw⟩
    · obtain ⟨oc, ho⟩ := Option.isSome_iff_exists.mp (hg p hp)
      exact ⟨fun z => (by rw [R.gf _ z] at ho; cases ho), by rw [R.gh _ _ ho]; rfl⟩⟩
theorem el_lam1 {params : Arguments} {body : Expr} {scope : Scope} {pos : Pos} {ps : List Str} {y : Str} (hdef : ∀ env, defaultsOf params env = ([], [])) (hb : BindOk params ps) (hall : lamOk scope kd ps = true) (hfn : freeNames scope.names = [y]) (hy : ρ y = some w) (hz : P.frz y = true) :
    EvEL P d "<lambda>" kd ρ (.Lambda params body scope pos) σ (.lam ⟨body, ps, scope.names⟩ [y] [w]) σ := .intro fun {c A env G φ s q} M H => by
  refine wpAny_mono (make_lam hdef hb hall (fun z hz' => by rw [hfn] at hz'; cases List.mem_singleton.mp hz'; rw [hy]; rfl) M H) (fun fv s₂ hE => ?_) fun _ _ e => e
  obtain ⟨G₂, fa, o, fd, rfl, R₂, S₂, g, hd, hf, hc⟩ := hE
  have H₂ := H.step R₂ S₂
  have hyf : scope.names.lookup y = some .free ∧ kd y = some .cell := by
    unfold lamOk at hall
    simp only [Bool.and_eq_true, Bool.not_eq_true', beq_iff_eq, List.all_eq_true, bne_iff_ne, ne_eq, decide_eq_true_eq] at hall
    exact hall.1.1.2 y (by rw [hfn]; exact .head _)
  have hk : env.kindOf y = some .cell := by rw [← H.kd]; exact hyf.2
  obtain ⟨a, w', e, ⟨oc, ho, hdc⟩, Vw⟩ := H₂.l.cell y w (.inl hk) hy
  have hG : (G₂ a).isSome = true := by
    have := (H₂.o.cel y a e).2.2 hk
    rw [H.ok.frz, hz, if_pos rfl] at this
    exact this
  obtain ⟨og, hog⟩ := Option.isSome_iff_exists.mp hG
  have hoc : G₂ a = some oc := by
    have := R₂.gh _ _ hog
    rw [this] at ho
    rw [hog, Option.some.inj ho]
  have hlook : ∀ p ∈ scope.names, p.2 = .free → (env.cells.lookup p.1).isSome = true := fun p hp hf' => by
    have hm : p.1 ∈ freeNames scope.names := mem_freeNames (by rw [← hf']; exact hp)
    rw [hfn] at hm
    rw [List.mem_singleton.mp hm, e]; rfl
  have hcl : fd.closure.lookup y = some a := by
    obtain ⟨a', e'⟩ := Option.isSome_iff_exists.mp (clos_has (env := env) scope.names [] (y := y) (.inl (mem_of_lookup hyf.1)))
    have := clos_from scope.names [] hlook (fun _ z => by cases z) e'
    rw [e] at this; cases this
    rw [hc]; exact e'
  refine ⟨G₂, φ, R₂, .lam g hd hf (fun x hx => by cases List.mem_singleton.mp hx; exact hyf.1) (fun p hp => ?_) (fun i x v' h1 h2 => ?_) (.cons Vw .nil), S₂⟩
  · rw [hc] at hp
    have h1 := (clos_free _ _ hp).elim (fun z => nomatch z) id
    have h2 := (clos_mem _ _ hlook hp).elim (fun z => nomatch z) id
    have hm := mem_freeNames h1
    rw [hfn] at hm
    rw [List.mem_singleton.mp hm, e] at h2
    rw [← Option.some.inj h2]
    exact hG
  · cases i with
    | zero =>
      simp at h1 h2
      subst h1 h2
      exact ⟨a, oc, hcl, hoc, hdc⟩
    | succ i => simp at h1
theorem xl_assign {t e : Expr} (h0 : (noSwap kd t e && !isComp e) = true) (h1 : EvEL P d nm kd ρ e σ v σ₁) (h2 : EvA P d kd ρ t v σ₁ ρ' σ') : EvXL P d nm kd ρ (.Assign [t] e p) σ .next ρ' σ' := .intro fun {c A env G φ s q} M H => by
  rw [Bool.and_eq_true, Bool.not_eq_true'] at h0
  refine wpAny_Assign_stores (wpAny_mono (h1.run M H.toHere) (fun v' s₁ ⟨G₁, φ₁, R₁, V₁, S₁⟩ => ?_) fun _ _ e => e) (swaps_no h0.2) (swapped_no (by rw [← H.kd]; exact h0.1))
  rw [assignEach_cons (noSwap_star h0.1)]
  show wpAny _ _ (PySem.assign t env v') _ _ _
  have S₁' := S₁.weaken (own' := owns env) fun _ h => nomatch h
  refine wpAny_mono (h2.2 (H.step R₁ S₁) V₁) (fun _ s₂ q => ?_) fun _ _ e => e
  obtain ⟨G₂, φ₂, R₂, L₂, F₂, S₂, _⟩ := q
  exact ⟨G₂, φ₂, R₂, L₂, F₂, S₁'.trans' S₂, .next⟩
theorem x_assign2 {t t' e : Expr} (h0 : ∀ env, swappedStores [t, t'] e env = pure none) (he : ∀ env, (assignEach [t, t'] env).map (·.2) = [PySem.assign t env, PySem.assign t' env]) (h1 : EvE P d kd ρ e σ v σ₁) (h2 : EvA P d kd ρ t v σ₁ ρ₁ σ₂) (h3 : EvA P d kd ρ₁ t' v σ₂ ρ' σ') : EvX P d kd ρ (.Assign [t, t'] e p) σ .next ρ' σ' := .intro fun {c A env G φ s} H => by
  refine wpAny_Assign_two (wpAny_mono (h1.run H.toHere) (fun v' s₁ ⟨G₁, φ₁, R₁, V₁, S₁⟩ => ?_) fun _ _ e => e) (he env) (h0 env)
  have S₁' := S₁.weaken (own' := owns env) fun _ h => nomatch h
  refine wpAny_mono (h2.2 (H.step R₁ S₁) V₁) (fun _ s₂ q => ?_) fun _ _ e => e
  obtain ⟨G₂, φ₂, R₂, L₂, F₂, S₂, _⟩ := q
  refine wpAny_mono (h3.2 ((H.step R₁ S₁).then R₂ L₂ F₂ S₂) (V₁.mono S₂.g S₂.ext)) (fun _ s₃ q => ?_) fun _ _ e => e
  obtain ⟨G₃, φ₃, R₃, L₃, F₃, S₃, _⟩ := q
  exact ⟨G₃, φ₃, R₃, L₃, F₃, (S₁'.trans' S₂).trans' S₃, .next⟩
theorem e_attrC {o : Expr} {x : Str} {i : Nat} {ats : List (Str × AVal)} (h0 : PlainE o) (h0' : P.clsNone x = true) (h1 : EvE P d kd ρ o σ (.ref i) σ₁) (h2 : σ₁[i]? = some (.inst ats)) (h3 : ats.lookup x = none) : EvE P d kd ρ (.Attribute o x p) σ .none σ₁ := .intro fun {c A env G φ s} H => by
  refine Attribute_any_ (wpAny_mono (h1.run H) (fun a' s₁ ⟨G₁, φ₁, R₁, V₁, S₁⟩ => ?_) fun _ _ e => e) (by
    cases h0 <;> with_unfolding_all rfl)
  cases V₁ using VRel.refE with
  | ref hl =>
    obtain ⟨d, es, n, _, I, _, _, h6⟩ := R₁.instAt hl h2
    have h7 := h6 x
    rw [h3] at h7
    obtain ⟨z1, z2, z3⟩ := H.ok.cn x h0'
    exact get_value (H.ok.ok.x.keeps R₁.keepB) I H.ok.ga (findObj_cls H.ok.hd z1 z2 rfl z3 (by rw [lookIn_dict]; exact h7)) rfl ⟨G₁, φ₁, R₁.toks _, .none, S₁.trans' (step_toks _)⟩
theorem e_callAttr {o : Expr} {x : Str} {i : Nat} {ats : List (Str × AVal)} {ap : Pos} (h0 : PlainE o) (hl : (ap.endLine == p.line) = true) (h0' : (P.attrOk x && P.callAttr x) = true) (h1 : EvE P d kd ρ o σ (.ref i) σ₁) (h2 : σ₁[i]? = some (.inst ats)) (h3 : ats.lookup x = some a) (h4 : EvC P d a [] σ₁ v σ') :
    EvE P d kd ρ (.Call (.Attribute o x ap) [] [] p) σ v σ' := .intro fun {c A env G φ s} H => by
  rw [Bool.and_eq_true] at h0'
  rw [arm_eval_Call, show attributeBase o x env (PySem.eval o env) = PySem.eval o env by cases h0 <;> with_unfolding_all rfl]
  refine wpAny_bind (wpAny_mono (h1.run H) (fun ov s₁ ⟨G₁, φ₁, R₁, V₁, S₁⟩ => ?_) fun _ _ e => e)
  refine wpAny_bind (wpAny_standAt ?_)
  have hform : methodCallForm (([] : List Expr).length + ([] : List Keyword).length) (backTo p (starEach [] env)) (backToKw p (keywordEach [] env)) = true := rfl
  have hpos : methodCallPos true o env ap p = pure p := by unfold methodCallPos; simp [hl]
  unfold methodCall
  rw [hform]
  have H₁ := H.step R₁ S₁
  cases V₁ using VRel.refE with
  | ref hl =>
    obtain ⟨d, es, n, _, I, _, _, h6⟩ := R₁.instAt hl h2
    have h7 := h6 x
    rw [h3] at h7
    obtain ⟨v', e1, e2, e3⟩ := h7
    obtain ⟨_, at_, ha, hn⟩ := H.ok.attr x h0'.1
    obtain ⟨z1, z2⟩ := H.ok.ca x h0'.2
    have X := H.ok.ok.x.keeps R₁.keepB
    refine wpAny_bind (wpAny_holding (method_usual X I H.ok.ga z2 z1 rfl (get_value X I H.ok.ga (findObj_own H.ok.hd ha hn (by rw [lookIn_dict]; exact e1)) e2 ?_)))
    refine wpAny_bind (wpAny_of_eq hpos ?_)
    have R₂ := R₁.toks (s₁.toks + 1)
    have ST := step_toks (c := c) (own := []) (G := G₁) (φ := φ₁) (s := s₁) (s₁.toks + 1)
    exact call_rest (args := []) .nil h4 (H₁.step R₂ ST) e3 (S₁.trans' ST)
end
end Mini
open PySem PySem.W PyProof.Rows
open_top hd for PySem.Challenge.rw_dn0295_02
namespace Mini
noncomputable def fnsOf (p : Program) : List (Str × (List Str × List Stmt × List (Str × NameKind))) := p.main.body.filterMap fun st => match st with
  | .FunctionDef name args body _ _ _ scope _ _ _ => some (name, args.args.map (·.arg), body, scope.names)
  | _ => none
noncomputable def initOf (p : Program) : List Str × List Stmt × List (Str × NameKind) := (p.main.body.findSome? fun st => match st with
  | .ClassDef _ _ _ body _ _ _ _ _ _ _ => body.findSome? fun st => match st with
    | .FunctionDef _ args body _ _ _ scope _ _ _ => some (args.args.map (·.arg), body, scope.names)
    | _ => none
  | _ => none).getD ([], [], [])
noncomputable def fnsL : List (Str × (List Str × List Stmt × List (Str × NameKind))) := fnsOf PySem.Challenge.pw_dn0295_02
noncomputable def bodyAt (i : Nat) : List Stmt := ((fnsL[i]?).map (·.2.2.1)).getD []
noncomputable def namesAt (i : Nat) : List (Str × NameKind) := ((fnsL[i]?).map (·.2.2.2)).getD []
noncomputable def initL : List Str × List Stmt × List (Str × NameKind) := initOf PySem.Challenge.pw_dn0295_02
noncomputable abbrev KL (q : Params) : Frag := hd.heap_39 q
noncomputable def defsL : List (Str × (List Str × List Stmt × List (Str × NameKind))) := [("get_parent_map", (["context"], bodyAt 0, namesAt 0)), ("_law_text", (["script"], bodyAt 1, namesAt 1)), ("_law_open", (["text", "k"], bodyAt 2, namesAt 2)), ("_law_asked", (["rows"], bodyAt 3, namesAt 3)), ("law", (["script"], bodyAt 4, namesAt 4))]
noncomputable def globL : List (Str × AVal) := [("get_parent_map", .fn "get_parent_map"), ("_law_text", .fn "_law_text"), ("_law_open", .fn "_law_open"), ("_law_asked", .fn "_law_asked"), ("law", .fn "law"), ("_SelectorContext", .cls), ("len", .bi "len"), ("min", .bi "min"), ("sum", .bi "sum"), ("sorted", .bi "sorted"), ("range", .ty "range"), ("list", .ty "list")]
noncomputable def piL : PI where
  glob := fun x => globL.lookup x
  fn := fun x => defsL.lookup x
  maker := fun x => if x = "_law_asked" then some "<lambda>" else none
  attrOk := fun x => x = "root" || x = "parent_map" || x = "iter"
  init := initL
  frz := fun x => x = "rows"
  clsNone := fun x => x = "parent_map"
  callAttr := fun x => x = "iter"
noncomputable def fnL (q : Params) : List (Str × Fn) := [("get_parent_map", ⟨21, fdOf (KL q) 21, bodyAt 0, ["context"]⟩), ("_law_text", ⟨47, fdOf (KL q) 47, bodyAt 1, ["script"]⟩), ("_law_open", ⟨54, fdOf (KL q) 54, bodyAt 2, ["text", "k"]⟩), ("_law_asked", ⟨61, fdOf (KL q) 61, bodyAt 3, ["rows"]⟩), ("law", ⟨66, fdOf (KL q) 66, bodyAt 4, ["script"]⟩)]
noncomputable def cxL (w : World) (h : Heap) (mg mb : Str → Option Value) : Cx := ⟨PySem.Challenge.rw_dn0295_02.row.prog, w, KL w.params, ghostOf h [(60, 56)], mg, mb, 38, fun x => (fnL w.params).lookup x, [(60, 56)], fun P => "_law_asked.<locals>.<lambda>", fun x => x = "rows"⟩
section
variable {c : Cx} {q : Params} (X : (KL q).In c.B)
include X
theorem fnOk_get_parent_map : FnOk c ⟨21, fdOf (KL q) 21, bodyAt 0, ["context"]⟩ ["context"] (bodyAt 0) (namesAt 0) := fnOk_of X (by kernel_rfl) (by kernel_rfl) (by kernel_rfl) (ar1 rfl fun a => by kernel_rfl)
theorem fnOk_law_text : FnOk c ⟨47, fdOf (KL q) 47, bodyAt 1, ["script"]⟩ ["script"] (bodyAt 1) (namesAt 1) := fnOk_of X (by kernel_rfl) (by kernel_rfl) (by kernel_rfl) (ar1 rfl fun a => by kernel_rfl)
theorem fnOk_law_open : FnOk c ⟨54, fdOf (KL q) 54, bodyAt 2, ["text", "k"]⟩ ["text", "k"] (bodyAt 2) (namesAt 2) := fnOk_of X (by kernel_rfl) (by kernel_rfl) (by kernel_rfl) (ar2 rfl fun a b => by kernel_rfl)
theorem fnOk_law_asked : FnOk c ⟨61, fdOf (KL q) 61, bodyAt 3, ["rows"]⟩ ["rows"] (bodyAt 3) (namesAt 3) := fnOk_of X (by kernel_rfl) (by kernel_rfl) (by kernel_rfl) (ar1 rfl fun a => by kernel_rfl)
theorem fnOk_law : FnOk c ⟨66, fdOf (KL q) 66, bodyAt 4, ["script"]⟩ ["script"] (bodyAt 4) (namesAt 4) := fnOk_of X (by kernel_rfl) (by kernel_rfl) (by kernel_rfl) (ar1 rfl fun a => by kernel_rfl)
theorem init_ok : FnOk c ⟨35, fdOf (KL q) 35, initL.2.1, initL.1⟩ initL.1 initL.2.1 initL.2.2 := fnOk_of X (by kernel_rfl) (by kernel_rfl) (by kernel_rfl) (ar2 (by kernel_rfl) fun a b => by kernel_rfl)
end
theorem cokL {w : World} {h : Heap} {mg mb : Str → Option Value} {p : Program} {loose : List Str} {mean : ExcName → Option Value} (KX : (KL w.params).In h) (T : Top p loose mean mg mb h) (hT : TabsAt [(60, 56)] h) : COk (cxL w h mg mb) piL := by
  have X : (KL w.params).In (ghostOf h [(60, 56)]) := ghost_K hT KX (by kernel_rfl)
  have O : BOk (cxL w h mg mb) := ⟨X, ghost_ns hT T.g, T.builtins⟩
  refine { ok := ⟨X, O.2.1, ghost_ns hT T.b, ?_⟩, glob := fun x v => AllP.look (l := globL) (p := GOk _) ?_, ga := by kernel_rfl, sa := by kernel_rfl, po := by kernel_rfl, hd := by kernel_rfl, attr := ?_, fn := fun x ps body names hx => AllP.look (l := defsL) (p := fun x q => ∃ f, (cxL w h mg mb).fns x = some f ∧ FnOk (cxL w h mg mb) f q.1 q.2.1 q.2.2) ?_ hx, maker := ?_, fo := fun x f hx => AllP.look (l := fnL w.params) (p := fun _ (f : Fn) => ∃ o fd, (cxL w h mg mb).B.get? f.addr = some o ∧ o.data = .func fd) ?_ hx, mi := by kernel_rfl, frz := rfl, cn := fun x h => by (have e : x = "parent_map" := by simpa [piL] using h); subst e; exact ⟨by kernel_rfl, by kernel_rfl, by kernel_rfl⟩, ca := fun x h => by (have e : x = "iter" := by simpa [piL] using h); subst e; exact ⟨by kernel_rfl, by kernel_rfl⟩, init := ⟨⟨35, fdOf (KL w.params) 35, initL.2.1, initL.1⟩, by kernel_rfl, by kernel_rfl, init_ok X⟩ }
  · obtain ⟨mc, a, r⟩ := T.nolimit
    exact ⟨mc, ghost_ns hT a, r⟩
  · exact ⟨gk_fn O (by kernel_rfl) rfl, gk_fn O (by kernel_rfl) rfl, gk_fn O (by kernel_rfl) rfl, gk_fn O (by kernel_rfl) rfl, gk_fn O (by kernel_rfl) rfl, gk_cls O (by kernel_rfl), gk_bi O (by kernel_rfl) (by kernel_rfl) (by kernel_rfl), gk_bi O (by kernel_rfl) (by kernel_rfl) (by kernel_rfl), gk_bi O (by kernel_rfl) (by kernel_rfl) (by kernel_rfl), gk_bi O (by kernel_rfl) (by kernel_rfl) (by kernel_rfl), gk_ty O (by kernel_rfl) (by kernel_rfl) (by kernel_rfl), gk_ty O (by kernel_rfl) (by kernel_rfl) (by kernel_rfl), trivial⟩
  · intro x hx
    have hx' : x = "root" ∨ x = "parent_map" ∨ x = "iter" := by simpa [piL, or_assoc] using hx
    rcases hx' with rfl | rfl | rfl
    · exact ⟨by kernel_rfl, none, by kernel_rfl, by kernel_rfl⟩
    · exact ⟨by kernel_rfl, some .none, by kernel_rfl, by kernel_rfl⟩
    · exact ⟨by kernel_rfl, none, by kernel_rfl, by kernel_rfl⟩
  · exact ⟨⟨_, rfl, fnOk_get_parent_map X⟩, ⟨_, rfl, fnOk_law_text X⟩, ⟨_, rfl, fnOk_law_open X⟩, ⟨_, rfl, fnOk_law_asked X⟩, ⟨_, rfl, fnOk_law X⟩, trivial⟩
  · intro x nm f hx hf
    unfold piL at hx
    dsimp only at hx
    split at hx
    · rename_i e
      subst e
      cases hx
      have hf' : f = ⟨61, fdOf (KL w.params) 61, bodyAt 3, ["rows"]⟩ := (Option.some.inj (show some _ = some f from hf)).symm
      subst hf'
      exact ⟨(60, 56), mk_of rfl hT T (.head _) (by kernel_rfl) (by kernel_rfl) (by decide) (by kernel_rfl)⟩
    · cases hx
  · exact ⟨(let ⟨o, ho, hd⟩ := (fnOk_get_parent_map (c := cxL w h mg mb) X).o; ⟨o, _, ho, hd⟩), (let ⟨o, ho, hd⟩ := (fnOk_law_text (c := cxL w h mg mb) X).o; ⟨o, _, ho, hd⟩), (let ⟨o, ho, hd⟩ := (fnOk_law_open (c := cxL w h mg mb) X).o; ⟨o, _, ho, hd⟩), (let ⟨o, ho, hd⟩ := (fnOk_law_asked (c := cxL w h mg mb) X).o; ⟨o, _, ho, hd⟩), (let ⟨o, ho, hd⟩ := (fnOk_law (c := cxL w h mg mb) X).o; ⟨o, _, ho, hd⟩), trivial⟩
theorem g_get_parent_map : piL.glob "get_parent_map" = some (.fn "get_parent_map") := by kernel_rfl
theorem g_l_text : piL.glob "_law_text" = some (.fn "_law_text") := by kernel_rfl
theorem g_l_open : piL.glob "_law_open" = some (.fn "_law_open") := by kernel_rfl
theorem g_l_asked : piL.glob "_law_asked" = some (.fn "_law_asked") := by kernel_rfl
theorem g_cls : piL.glob "_SelectorContext" = some (.cls) := by kernel_rfl
theorem g_len : piL.glob "len" = some (.bi "len") := by kernel_rfl
theorem g_min : piL.glob "min" = some (.bi "min") := by kernel_rfl
theorem g_sum : piL.glob "sum" = some (.bi "sum") := by kernel_rfl
theorem g_sorted : piL.glob "sorted" = some (.bi "sorted") := by kernel_rfl
theorem g_range : piL.glob "range" = some (.ty "range") := by kernel_rfl
theorem g_list : piL.glob "list" = some (.ty "list") := by kernel_rfl
theorem f_get_parent_map : piL.fn "get_parent_map" = some (([Str.ofString "context"] : List Str), bodyAt 0, namesAt 0) := by kernel_rfl
theorem f_l_text : piL.fn "_law_text" = some (([Str.ofString "script"] : List Str), bodyAt 1, namesAt 1) := by kernel_rfl
theorem f_l_open : piL.fn "_law_open" = some (([Str.ofString "text", Str.ofString "k"] : List Str), bodyAt 2, namesAt 2) := by kernel_rfl
theorem f_l_asked : piL.fn "_law_asked" = some (([Str.ofString "rows"] : List Str), bodyAt 3, namesAt 3) := by kernel_rfl
theorem i_cls : piL.init = ([Str.ofString "self", Str.ofString "root"], initL.2.1, initL.2.2) := by kernel_rfl
noncomputable def forT (ss : List Stmt) (i : Nat) : Expr := match ss[i]? with
  | some (.For t _ _ _ _) => t
  | _ => default
noncomputable def forB (ss : List Stmt) (i : Nat) : List Stmt := match ss[i]? with
  | some (.For _ _ b _ _) => b
  | _ => []
noncomputable abbrev kdAt (i : Nat) : Kinds := fun x => (namesAt i).lookup x
noncomputable def st (i j : Nat) : Stmt := ((bodyAt i)[j]?).getD default
end Mini
namespace Mini
section
variable (T : Nat → Nat)
noncomputable def stk : Nat → List Nat
  | 0 => []
  | k + 1 => if T k = 0 then k :: stk k else if T k = 1 then (stk k).tail else stk k
noncomputable def cls : Nat → List (Nat × Nat)
  | 0 => []
  | k + 1 => if T k = 1 then (match stk T k with
    | o :: _ => cls k ++ [(o, k)]
    | [] => cls k) else cls k
noncomputable def due (k : Nat) : List Nat := if T k = 1 then (stk T k).tail else stk T k
end
section
variable {T : Nat → Nat}
theorem stk_lt : ∀ {k : Nat} {o : Nat}, o ∈ stk T k → o < k
  | 0, o, h => by simp [stk] at h
  | k + 1, o, h => by
    unfold stk at h
    split at h
    · rcases List.mem_cons.mp h with rfl | h
      · lia
      · have := stk_lt h; lia
    · split at h
      · have := stk_lt (List.mem_of_mem_tail h); lia
      · have := stk_lt h; lia
theorem stk_desc : ∀ k : Nat, (stk T k).Pairwise (· > ·)
  | 0 => .nil
  | k + 1 => by
    unfold stk
    split
    · exact .cons (fun o h => stk_lt h) (stk_desc k)
    · split
      · exact (stk_desc k).tail
      · exact stk_desc k
theorem cls_mem {n o c : Nat} : (o, c) ∈ cls T n ↔ c < n ∧ T c = 1 ∧ ∃ r, stk T c = o :: r := by
  induction n with
  | zero => simp [cls]
  | succ k ih =>
    unfold cls
    by_cases h : T k = 1
    · rw [if_pos h]
      cases hs : stk T k with
      | nil =>
        simp only
        rw [ih]
        constructor
        · rintro ⟨h1, h2, h3⟩; exact ⟨by lia, h2, h3⟩
        · rintro ⟨h1, h2, r, h3⟩
          have : c ≠ k := fun e => by rw [e, hs] at h3; cases h3
          exact ⟨by lia, h2, r, h3⟩
      | cons o' r' =>
        simp only [List.mem_append, List.mem_singleton, Prod.mk.injEq]
        rw [ih]
        constructor
        · rintro (⟨h1, h2, h3⟩ | ⟨rfl, rfl⟩)
          · exact ⟨by lia, h2, h3⟩
          · exact ⟨by lia, h, r', hs⟩
        · rintro ⟨h1, h2, r, h3⟩
          by_cases e : c = k
          · subst e
            rw [hs] at h3
            injection h3 with e1 e2
            exact .inr ⟨e1.symm, rfl⟩
          · exact .inl ⟨by lia, h2, r, h3⟩
    · rw [if_neg h, ih]
      constructor
      · rintro ⟨h1, h2, h3⟩; exact ⟨by lia, h2, h3⟩
      · rintro ⟨h1, h2, h3⟩
        have : c ≠ k := fun e => h (e ▸ h2)
        exact ⟨by lia, h2, h3⟩
theorem cls_asc : ∀ n : Nat, (cls T n).Pairwise fun a b => a.2 < b.2
  | 0 => .nil
  | k + 1 => by
    unfold cls
    split
    · split
      · rw [List.pairwise_append]
        exact ⟨cls_asc k, List.pairwise_singleton .., fun a ha b hb => by rw [List.mem_singleton.mp hb]; exact (cls_mem.mp ha).1⟩
      · exact cls_asc k
    · exact cls_asc k
theorem stk_back {j : Nat} : ∀ {k : Nat} {o : Nat}, o ∈ stk T k → j ≤ k → o < j → o ∈ stk T j
  | 0, o, h, hj, ho => by simp [stk] at h
  | k + 1, o, h, hj, ho => by
    by_cases e : j = k + 1
    · rw [e]; exact h
    · have hj' : j ≤ k := by lia
      unfold stk at h
      split at h
      · rcases List.mem_cons.mp h with rfl | h
        · lia
        · exact stk_back h hj' ho
      · split at h
        · exact stk_back (List.mem_of_mem_tail h) hj' ho
        · exact stk_back h hj' ho
theorem open_is {k o : Nat} (h : o ∈ stk T k) : T o = 0 := by
  induction k with
  | zero => simp [stk] at h
  | succ k ih =>
    unfold stk at h
    split at h
    · rename_i h0
      rcases List.mem_cons.mp h with rfl | h
      · exact h0
      · exact ih h
    · split at h
      · exact ih (List.mem_of_mem_tail h)
      · exact ih h
theorem stays {n : Nat} (h0 : stk T n = []) : ∀ (m : Nat) {t o : Nat}, t + m = n → o ∈ stk T t → ∃ c, (o, c) ∈ cls T n ∧ t ≤ c
  | 0, t, o, ht, h => by
    rw [show t = n by lia, h0] at h
    cases h
  | m + 1, t, o, ht, h => by
    by_cases h1 : o ∈ stk T (t + 1)
    · obtain ⟨c, q1, q2⟩ := stays h0 m (by lia) h1
      exact ⟨c, q1, by lia⟩
    · refine ⟨t, cls_mem.mpr ⟨by lia, ?_⟩, Nat.le_refl _⟩
      unfold stk at h1
      split at h1
      · exact absurd (List.mem_cons_of_mem _ h) h1
      · split at h1
        · rename_i hT
          refine ⟨hT, ?_⟩
          cases hs : stk T t with
          | nil => rw [hs] at h; cases h
          | cons o' r =>
            rw [hs] at h h1
            rcases List.mem_cons.mp h with rfl | h
            · exact ⟨r, rfl⟩
            · exact absurd h h1
        · exact absurd h h1
theorem gone {o c : Nat} (hT : T c = 1) {r : List Nat} (hs : stk T c = o :: r) : ∀ m : Nat, o ∉ stk T (c + 1 + m)
  | 0 => fun h => by
    have h' : o ∈ stk T (c + 1) := h
    unfold stk at h'
    rw [if_neg (by lia), if_pos hT, hs] at h'
    have := stk_desc (T := T) c
    rw [hs] at this
    have := List.rel_of_pairwise_cons this h'
    lia
  | m + 1 => fun h => by
    have ho : o < c := stk_lt (by rw [hs]; exact .head _)
    exact gone hT hs m (stk_back h (by lia) (by lia))
theorem cls_fun {n o c c' : Nat} (h : (o, c) ∈ cls T n) (h' : (o, c') ∈ cls T n) : c = c' := by
  obtain ⟨_, h2, r, h3⟩ := cls_mem.mp h
  obtain ⟨_, h2', r', h3'⟩ := cls_mem.mp h'
  rcases Nat.lt_trichotomy c c' with hlt | e | hlt
  · exact absurd (show o ∈ stk T c' by rw [h3']; exact .head _) (by have := gone h2 h3 (c' - (c + 1)); rw [show c + 1 + (c' - (c + 1)) = c' by lia] at this; exact this)
  · exact e
  · exact absurd (show o ∈ stk T c by rw [h3]; exact .head _) (by have := gone h2' h3' (c - (c' + 1)); rw [show c' + 1 + (c - (c' + 1)) = c by lia] at this; exact this)
theorem due_iff {n k o : Nat} (h0 : stk T n = []) (hk : k < n) : o ∈ due T k ↔ ∃ c, (o, c) ∈ cls T n ∧ o < k ∧ k < c := by
  constructor
  · intro h
    have hs : o ∈ stk T k := by
      unfold due at h
      split at h
      · exact List.mem_of_mem_tail h
      · exact h
    obtain ⟨c, q1, q2⟩ := stays h0 (n - k) (by lia) hs
    refine ⟨c, q1, stk_lt hs, ?_⟩
    by_cases e : c = k
    · exfalso
      obtain ⟨_, z2, r, z3⟩ := cls_mem.mp q1
      subst e
      unfold due at h
      rw [if_pos z2, z3] at h
      have := stk_desc (T := T) c
      rw [z3] at this
      have := List.rel_of_pairwise_cons this h
      lia
    · lia
  · rintro ⟨c, q1, q2, q3⟩
    obtain ⟨z1, z2, r, z3⟩ := cls_mem.mp q1
    have hs : o ∈ stk T k := stk_back (show o ∈ stk T c by rw [z3]; exact .head _) (by lia) q2
    unfold due
    split
    · rename_i hT
      cases hh : stk T k with
      | nil => rw [hh] at hs; cases hs
      | cons o' r' =>
        rw [hh] at hs
        rcases List.mem_cons.mp hs with rfl | hs
        · have := cls_fun q1 (cls_mem.mpr ⟨hk, hT, r', hh⟩)
          lia
        · exact hs
    · exact hs
theorem due_desc (k : Nat) : (due T k).Pairwise (· > ·) := by
  unfold due
  split
  · exact (stk_desc k).tail
  · exact stk_desc k
theorem nest {n o c o' c' : Nat} (h : (o, c) ∈ cls T n) (h' : (o', c') ∈ cls T n) (ho : o < o') (hc : o' < c) : c' < c := by
  obtain ⟨z1, z2, r, z3⟩ := cls_mem.mp h
  obtain ⟨y1, y2, r', y3⟩ := cls_mem.mp h'
  have hl' : o' < c' := stk_lt (by rw [y3]; exact .head _)
  rcases Nat.lt_trichotomy c' c with hlt | e | hlt
  · exact hlt
  · subst e
    rw [y3] at z3
    injection z3 with e1 e2
    lia
  · exfalso
    have hs : o' ∈ stk T c := stk_back (show o' ∈ stk T c' by rw [y3]; exact .head _) (by lia) hc
    have := stk_desc (T := T) c
    rw [z3] at this hs
    rcases List.mem_cons.mp hs with rfl | hs
    · lia
    · have := List.rel_of_pairwise_cons this hs
      lia
noncomputable def scan (T : Nat → Nat) : Nat → Nat → List Nat
  | 0, _ => []
  | j + 1, z => if T j = 1 then scan T j (z + 1) else if T j = 0 then (if z = 0 then j :: scan T j 0 else scan T j (z - 1)) else scan T j z
theorem scan_ok : ∀ (j z : Nat), scan T j z = (stk T j).drop z
  | 0, z => by simp [scan, stk]
  | j + 1, z => by
    unfold scan stk
    by_cases h1 : T j = 1
    · rw [if_pos h1, if_neg (by lia), if_pos h1, scan_ok j (z + 1)]
      rw [← List.drop_one, List.drop_drop]; congr 1; lia
    · rw [if_neg h1]
      by_cases h0 : T j = 0
      · rw [if_pos h0, if_pos h0]
        cases z with
        | zero => rw [if_pos rfl, scan_ok j 0]; rfl
        | succ z => rw [if_neg (by lia), Nat.add_sub_cancel, scan_ok j z]; rfl
      · rw [if_neg h0, if_neg h0, if_neg h1, scan_ok j z]
theorem due_scan (k : Nat) : due T k = scan T k (if T k = 1 then 1 else 0) := by
  rw [scan_ok]
  unfold due
  split
  · rw [List.drop_one]
  · rfl
noncomputable def lastIn (rows : List (Nat × Nat)) (e : Nat) : Option Nat := (rows.filter fun p => decide (p.1 < e) && decide (e < p.2)).getLast?.map (·.1)
theorem last_none {rows : List (Nat × Nat)} {n e : Nat} (h0 : stk T n = []) (he : e < n) (hr : ∀ p, p ∈ rows ↔ p ∈ cls T n) : lastIn rows e = none ↔ due T e = [] := by
  unfold lastIn
  rw [Option.map_eq_none_iff, List.getLast?_eq_none_iff, List.filter_eq_nil_iff]
  constructor
  · intro h
    rw [List.eq_nil_iff_forall_not_mem]
    intro o ho
    obtain ⟨c, q1, q2, q3⟩ := (due_iff h0 he).mp ho
    exact h (o, c) ((hr _).mpr q1) (by simp [q2, q3])
  · intro h p hp
    intro z
    simp at z
    have : p.1 ∈ due T e := (due_iff h0 he).mpr ⟨p.2, (hr _).mp hp, z.1, z.2⟩
    rw [h] at this
    cases this
theorem pw_last {α : Type} {R : α → α → Prop} : ∀ {l : List α} {x y : α}, l.Pairwise R → l.getLast? = some x → y ∈ l → y = x ∨ R y x
  | [], x, y, _, h, _ => by cases h
  | [a], x, y, _, h, hy => by
    simp at h hy
    exact .inl (hy.trans h)
  | a :: b :: l, x, y, hp, h, hy => by
    rw [List.getLast?_cons_cons] at h
    rcases List.mem_cons.mp hy with rfl | hy
    · exact .inr (List.rel_of_pairwise_cons hp (List.mem_of_getLast? h))
    · exact pw_last hp.tail h hy
theorem last_open {rows : List (Nat × Nat)} {n e : Nat} (h0 : stk T n = []) (he : e < n) (hr : ∀ p, p ∈ rows ↔ p ∈ cls T n) (hs : rows.Pairwise fun a b => a.1 < b.1) : lastIn rows e = (due T e).head? := by
  cases hd : due T e with
  | nil => rw [(last_none h0 he hr).mpr hd]; rfl
  | cons o r =>
    have hne : lastIn rows e ≠ none := fun h => by rw [(last_none h0 he hr).mp h] at hd; cases hd
    obtain ⟨x, hx⟩ := Option.ne_none_iff_exists'.mp hne
    rw [hx]
    unfold lastIn at hx
    obtain ⟨p, hp, rfl⟩ := Option.map_eq_some_iff.mp hx
    have hpm := List.mem_filter.mp (List.mem_of_getLast? hp)
    have hpc := (hr _).mp hpm.1
    have hpe := hpm.2
    simp at hpe
    have h1 : p.1 ∈ due T e := (due_iff h0 he).mpr ⟨p.2, hpc, hpe.1, hpe.2⟩
    obtain ⟨c, q1, q2, q3⟩ := (due_iff h0 he).mp (show o ∈ due T e by rw [hd]; exact .head _)
    have hm : (o, c) ∈ rows.filter fun p => decide (p.1 < e) && decide (e < p.2) := List.mem_filter.mpr ⟨(hr _).mpr q1, by simp [q2, q3]⟩
    have := due_desc (T := T) e
    rw [hd] at this h1
    rcases pw_last (hs.sublist List.filter_sublist) hp hm with z | z
    · rw [← z]; rfl
    · rcases List.mem_cons.mp h1 with h1 | h1
      · rw [h1]; rfl
      · have := List.rel_of_pairwise_cons this h1
        simp only at z
        lia
theorem last_close {n e : Nat} (h0 : stk T n = []) (he : e < n) : lastIn (cls T n) e = (due T e).getLast? := by
  have hr : ∀ p, p ∈ cls T n ↔ p ∈ cls T n := fun _ => Iff.rfl
  cases hd : (due T e).getLast? with
  | none => rw [(last_none h0 he hr).mpr (List.getLast?_eq_none_iff.mp hd)]
  | some o =>
    have hne : lastIn (cls T n) e ≠ none := fun h => by rw [(last_none h0 he hr).mp h] at hd; cases hd
    obtain ⟨x, hx⟩ := Option.ne_none_iff_exists'.mp hne
    rw [hx]
    unfold lastIn at hx
    obtain ⟨p, hp, rfl⟩ := Option.map_eq_some_iff.mp hx
    have hpm := List.mem_filter.mp (List.mem_of_getLast? hp)
    have hpe := hpm.2
    simp at hpe
    have h1 : p.1 ∈ due T e := (due_iff h0 he).mpr ⟨p.2, hpm.1, hpe.1, hpe.2⟩
    obtain ⟨c, q1, q2, q3⟩ := (due_iff h0 he).mp (List.mem_of_getLast? hd)
    have hm : (o, c) ∈ (cls T n).filter fun p => decide (p.1 < e) && decide (e < p.2) := List.mem_filter.mpr ⟨q1, by simp [q2, q3]⟩
    rcases pw_last ((cls_asc n).sublist List.filter_sublist) hp hm with z | z
    · rw [← z]
    · rcases pw_last (due_desc (T := T) e) hd h1 with y | y
      · rw [y]
      · have := nest q1 hpm.1 y (by lia)
        simp only at z
        lia
end
section
variable {T : Nat → Nat}
theorem stk_suffix {o : Nat} (h0 : T o = 0) : ∀ m : Nat, o ∈ stk T (o + 1 + m) → ∃ pre, stk T (o + 1 + m) = pre ++ o :: stk T o
  | 0, _ => ⟨[], by show stk T (o + 1) = _; rw [stk, if_pos h0]; rfl⟩
  | m + 1, h => by
    have hb : o ∈ stk T (o + 1 + m) := stk_back h (by lia) (by lia)
    obtain ⟨pre, hp⟩ := stk_suffix h0 m hb
    have h' : o ∈ stk T (o + 1 + m + 1) := h
    show ∃ pre, stk T (o + 1 + m + 1) = pre ++ o :: stk T o
    have hlo : o ∉ stk T o := fun z => Nat.lt_irrefl _ (stk_lt z)
    generalize stk T o = q at hp hlo ⊢
    unfold stk at h' ⊢
    split
    · exact ⟨_ :: pre, by rw [hp]; rfl⟩
    · rename_i h1
      rw [if_neg h1] at h'
      split
      · rename_i h2
        rw [if_pos h2] at h'
        rw [hp] at h' ⊢
        cases pre with
        | nil =>
          exact absurd h' hlo
        | cons a pre => exact ⟨pre, rfl⟩
      · exact ⟨pre, hp⟩
theorem due_up {k o : Nat} {r : List Nat} (h : due T k = o :: r) : due T o = r := by
  have hm : o ∈ stk T k := by
    have : o ∈ due T k := by rw [h]; exact .head _
    unfold due at this
    split at this
    · exact List.mem_of_mem_tail this
    · exact this
  have h0 := open_is hm
  have hlt := stk_lt hm
  obtain ⟨pre, hp⟩ := stk_suffix h0 (k - (o + 1)) (by rw [show o + 1 + (k - (o + 1)) = k by lia]; exact hm)
  rw [show o + 1 + (k - (o + 1)) = k by lia] at hp
  have hd : due T o = stk T o := by unfold due; rw [if_neg (by lia)]
  rw [hd]
  have hdesc := stk_desc (T := T) k
  unfold due at h
  split at h
  · rw [hp] at h hdesc
    cases pre with
    | nil =>
      exfalso
      have : o ∈ stk T o := by
        have h' : stk T o = o :: r := h
        rw [h']; exact .head _
      have := stk_lt this
      lia
    | cons a pre =>
      cases pre with
      | nil =>
        have h' : o :: stk T o = o :: r := h
        injection h'
      | cons b pre =>
        exfalso
        have h' : b :: (pre ++ o :: stk T o) = o :: r := h
        injection h' with e1 e2
        have : b > o := List.rel_of_pairwise_cons hdesc.tail (show o ∈ pre ++ o :: stk T o by simp)
        lia
  · rw [hp] at h hdesc
    cases pre with
    | nil =>
      have h' : o :: stk T o = o :: r := h
      injection h'
    | cons b pre =>
      exfalso
      have h' : b :: (pre ++ o :: stk T o) = o :: r := h
      injection h' with e1 e2
      have : b > o := List.rel_of_pairwise_cons hdesc (show o ∈ pre ++ o :: stk T o by simp)
      lia
theorem stk_congr {T' : Nat → Nat} : ∀ {n : Nat}, (∀ k, k < n → T k = T' k) → stk T n = stk T' n
  | 0, _ => rfl
  | n + 1, h => by
    unfold stk
    rw [h n (by lia), stk_congr fun k hk => h k (by lia)]
end
noncomputable def sg (L : List Nat) (k : Nat) : Nat := L.getD k 2
theorem sg_app {L M : List Nat} {k : Nat} (h : k < L.length) : sg (L ++ M) k = sg L k := by
  unfold sg
  simp [List.getD, List.getElem?_append_left h]
theorem sg_at {L M : List Nat} {a : Nat} : sg (L ++ a :: M) L.length = a := by
  unfold sg
  simp [List.getD]
structure Wf (L : List Nat) : Prop where
  open_ : ∀ k, k < L.length → sg L k = 1 → stk (sg L) k ≠ []
  hgt : (stk (sg L) L.length).length + L.count 1 = L.count 0
theorem Wf.nil : Wf [] := ⟨fun k h => absurd h (Nat.not_lt_zero _), rfl⟩
theorem Wf.snoc {L : List Nat} {a : Nat} (h : Wf L) (ha : a = 1 → L.count 0 ≠ L.count 1) : Wf (L ++ [a]) := by
  have e : stk (sg (L ++ [a])) L.length = stk (sg L) L.length := stk_congr fun k hk => sg_app hk
  have hh := h.hgt
  constructor
  · intro k hk h1
    by_cases hlt : k < L.length
    · rw [sg_app hlt] at h1
      rw [stk_congr (T' := sg L) fun j hj => sg_app (by lia)]
      exact h.open_ k hlt h1
    · have hk2 : k = L.length := by simp at hk; lia
      subst hk2
      rw [sg_at] at h1
      rw [e]
      intro z
      rw [z] at hh
      have := ha h1
      simp at hh
      lia
  · rw [List.length_append, List.length_singleton]
    unfold stk
    rw [sg_at, e, List.count_append, List.count_append]
    by_cases h0 : a = 0
    · rw [if_pos h0, h0]; simp; lia
    · rw [if_neg h0]
      by_cases h1 : a = 1
      · rw [if_pos h1, h1]
        have := ha h1
        have hne : (stk (sg L) L.length).length ≠ 0 := by lia
        simp
        lia
      · rw [if_neg h1]
        simp [List.count_singleton, h0, h1]
        lia
noncomputable def stepL (L : List Nat) (a : Nat) : List Nat := if a = 1 ∧ L.count 0 = L.count 1 then L ++ [2] else L ++ [a]
theorem Wf.step {L : List Nat} {a : Nat} (h : Wf L) : Wf (stepL L a) := by
  unfold stepL
  split
  · exact h.snoc fun e => absurd e (by decide)
  · rename_i hn
    exact h.snoc fun e z => hn ⟨e, z⟩
theorem Wf.steps {L : List Nat} (h : Wf L) (xs : List Nat) : Wf (xs.foldl stepL L) := by
  induction xs generalizing L with
  | nil => exact h
  | cons a r ih => exact ih h.step
theorem Wf.close {L : List Nat} : ∀ m : Nat, L.count 1 + m = L.count 0 → Wf L → Wf (L ++ List.replicate m 1) ∧ stk (sg (L ++ List.replicate m 1)) (L ++ List.replicate m 1).length = []
  | 0, hm, h => by
    have hh := h.hgt
    rw [List.replicate_zero, List.append_nil]
    exact ⟨h, List.length_eq_zero_iff.mp (by lia)⟩
  | m + 1, hm, h => by
    have h1 : Wf (L ++ [1]) := h.snoc fun _ => by lia
    have := Wf.close (L := L ++ [1]) m (by simp [List.count_append]; lia) h1
    rw [List.append_assoc] at this
    exact this
noncomputable def chr (a : Nat) : Nat := if a = 0 then 40 else if a = 1 then 41 else 46
noncomputable def tx (L : List Nat) : Str := mkS (L.map chr)
theorem tx_len (L : List Nat) : (tx L).length = L.length := by unfold tx; rw [mkS_len, List.length_map]
theorem tx_app (L M : List Nat) : tx L ++ tx M = tx (L ++ M) := by unfold tx; rw [mkS_app, List.map_append]
theorem chr_at (L : List Nat) (k : Nat) (h : k < L.length) : (tx L).cps[k]? = some (chr (sg L k)) := by
  unfold tx
  rw [mkS_get]
  simp [sg, List.getD, h]
theorem s0 : Str.ofString "(" = tx [0] := by decide +kernel
theorem s1 : Str.ofString ")" = tx [1] := by decide +kernel
theorem s2 : Str.ofString "." = tx [2] := by decide +kernel
theorem s3 : Str.ofString "()." = tx [0, 1, 2] := by decide +kernel
theorem se : Str.ofString "" = tx [] := by decide +kernel
noncomputable def Sgs (L : List Nat) : Prop := ∀ a ∈ L, a ≤ 2
theorem cnt_tx (b : Nat) (hb : b ≤ 1) : ∀ L : List Nat, Sgs L → PyProof.Rows.cnt (chr b) (L.map chr) = (L.count b : Int)
  | [], _ => rfl
  | a :: L, h => by
    have ih := cnt_tx b hb L fun x hx => h x (.tail _ hx)
    rw [List.map_cons, PyProof.Rows.cnt_cons, ih, List.count_cons]
    have ha := h a (.head _)
    have e : (chr a = chr b) ↔ a = b := by
      have : a = 0 ∨ a = 1 ∨ a = 2 := by lia
      have : b = 0 ∨ b = 1 := by lia
      rcases ‹a = 0 ∨ a = 1 ∨ a = 2› with rfl | rfl | rfl <;> rcases ‹b = 0 ∨ b = 1› with rfl | rfl <;> decide
    by_cases z : a = b
    · rw [if_pos (e.mpr z), z]; simp; lia
    · rw [if_neg fun y => z (e.mp y)]; simp [z]
theorem count_tx {L : List Nat} (b : Nat) (hb : b ≤ 1) (h : Sgs L) : Txt.count (tx L) (tx [b]) = (L.count b : Int) := by
  have := count_is (tx L) (chr b)
  refine Eq.trans this ?_
  have e : (tx L).cps.toList = L.map chr := by simp [tx, mkS]
  rw [e]
  exact cnt_tx b hb L h
theorem bo_mulS {x : Str} {n : Int} (h : MulOk x n) : BinR .Mult (.str x) (.int n) σ (.str (Txt.mul x n)) σ := .intro fun {c A G φ s a' b'} R Va Vb => by
  cases Va using VRel.strE with
  | str t =>
    cases Vb using VRel.intE with
    | int u => exact SB.mul h fun t' k => ⟨G, φ, R.toks _, .str _ _, step_toks _⟩
theorem mul_tx (n : Nat) (h : n ≤ 1000) : MulOk (tx [1]) (n : Int) ∧ Txt.mul (tx [1]) (n : Int) = tx (List.replicate n 1) := by
  have hl : (tx [1]).length = 1 := by decide +kernel
  constructor
  · refine ⟨by rw [Bool.or_eq_false_iff]; exact ⟨decide_eq_false (by lia), decide_eq_false (by lia)⟩, fun h1 h2 => ?_, fun h1 h2 => ?_⟩
    · rw [hl]
      have : (1 : Int) ≤ (2 ^ 63 - 1) / (n : Int) := by
        rw [Int.le_ediv_iff_mul_le (by lia)]; lia
      show ¬ ((1 : Nat) : Int) > _
      lia
    · rw [hl]
      unfold Builtin.Str.tooLong
      rw [sizeLine_eq]
      exact decide_eq_false (by lia)
  · unfold Txt.mul
    by_cases h1 : (n : Int) < 1
    · rw [if_pos h1, show n = 0 by lia]; decide +kernel
    · rw [if_neg h1]
      by_cases h2 : ((n : Int) == 1 || (tx [1]).length == 0) = true
      · rw [if_pos h2]
        rw [hl] at h2
        have : n = 1 := by
          have : (n : Int) = 1 := by simpa using h2
          lia
        rw [this]; rfl
      · rw [if_neg h2, Int.toNat_natCast]
        have e : ∀ (m : Nat) (a : Array Nat), (List.replicate m (tx [1]).cps).foldl (· ++ ·) a = a ++ (List.replicate m 41).toArray := by
          intro m
          induction m with
          | zero => intro a; simp
          | succ m ih =>
            intro a
            rw [List.replicate_succ, List.foldl_cons, ih, List.replicate_succ]
            show a ++ #[41] ++ _ = _
            apply Array.ext'
            simp
        rw [e]
        unfold tx mkS
        congr 1
        rw [List.map_replicate]
        show #[] ++ (List.replicate n 41).toArray = (List.replicate n 41).toArray
        simp
theorem Sgs.snoc {L : List Nat} {a : Nat} (h : Sgs L) (ha : a ≤ 2) : Sgs (L ++ [a]) := fun x hx => by
  rcases List.mem_append.mp hx with hx | hx
  · exact h x hx
  · rw [List.mem_singleton.mp hx]; exact ha
theorem Sgs.step {L : List Nat} {a : Nat} (h : Sgs L) (ha : a ≤ 2) : Sgs (stepL L a) := by
  unfold stepL
  split
  · exact h.snoc (by decide)
  · exact h.snoc ha
theorem step_len (L : List Nat) (a : Nat) : (stepL L a).length = L.length + 1 := by unfold stepL; split <;> simp
noncomputable def sgOf (x : Int) : Nat := (x.fmod 3).toNat
theorem sgOf_le (x : Int) : sgOf x ≤ 2 := by
  have h1 : 0 ≤ x.fmod 3 := Int.fmod_nonneg_of_pos x (by decide)
  have h2 : x.fmod 3 < 3 := Int.fmod_lt_of_pos x (by decide)
  unfold sgOf
  lia
theorem sgOf_eq (x : Int) : x.fmod 3 = (sgOf x : Int) := by
  have h1 : 0 ≤ x.fmod 3 := Int.fmod_nonneg_of_pos x (by decide)
  unfold sgOf
  lia
theorem sign_step {d : Nat} {σ : St} {ρ : Vars} {L : List Nat} {x : Int} (hL : Sgs L) (hl : L.length ≤ 1000) (h1 : ρ "text" = some (.str (tx L))) (h2 : ρ "x" = some (.int x)) :
    EvXs piL d (kdAt 1) ρ (forB (bodyAt 1) 1) σ .next (Vars.set ρ "text" (.str (tx (stepL L (sgOf x))))) σ := by
  have hx := sgOf_le x
  have ex := sgOf_eq x
  have hc : ∀ b, b ≤ 1 → Txt.count (tx L) (tx [b]) = (L.count b : Int) := fun b hb => count_tx b hb hL
  have c0 : EvC piL d (.bi "str.count") [.str (tx L), .str (Str.ofString "(")] σ (.int (L.count 0 : Int)) σ := by
    rw [s0, ← hc 0 (by decide)]; exact c_count
  have c1 : EvC piL d (.bi "str.count") [.str (tx L), .str (Str.ofString ")")] σ (.int (L.count 1 : Int)) σ := by
    rw [s1, ← hc 1 (by decide)]; exact c_count
  by_cases h : sgOf x = 1 ∧ L.count 0 = L.count 1
  · rw [show tx (stepL L (sgOf x)) = tx L ++ Str.ofString "." by unfold stepL; rw [if_pos h, s2, tx_app]]
    apply xs_cons
    · apply x_ifT
      · apply t_bool
        apply ts_andT
        · apply t_cmp (by rfl)
          · apply e_binop
            · (repeat (((with_reducible apply e_var); kernel_rfl; (focus ((repeat (assumption)); done)))))
            · (repeat ((with_reducible exact e_int)))
            · exact bo_mod (by decide)
          · (repeat ((with_reducible exact e_int)))
          · exact c_eq (by rw [ex, h.1]; rfl)
        · apply and_last
          apply t_cmp (by rfl)
          · apply e_meth
            · exact .plain (by constructor)
            · kernel_rfl
            · (repeat (((with_reducible apply e_var); kernel_rfl; (focus ((repeat (assumption)); done)))))
            · exact mt_count
            · (repeat (first | (with_reducible first | exact es_nil | exact e_str) | ((with_reducible apply es_cons); (kernel_rfl))))
            · exact c0
          · apply e_meth
            · exact .plain (by constructor)
            · kernel_rfl
            · (repeat (((with_reducible apply e_var); kernel_rfl; (focus ((repeat (assumption)); done)))))
            · exact mt_count
            · (repeat (first | (with_reducible first | exact es_nil | exact e_str) | ((with_reducible apply es_cons); (kernel_rfl))))
            · exact c1
          · exact c_eq (by rw [h.2]; simp)
      · apply xs_cons
        · apply x_assign
          · kernel_rfl
          · apply e_binop
            · (repeat (((with_reducible apply e_var); kernel_rfl; (focus ((repeat (assumption)); done)))))
            · (repeat ((with_reducible exact e_str)))
            · exact bo_str (by rw [tx_len, s2, tx_len]; unfold lim; simp; lia)
          · exact a_name rfl
        exact xs_nil
    exact xs_nil
  · have hch : ([0, 1, 2] : List Nat)[sgOf x]? = some (sgOf x) := by
      have : sgOf x = 0 ∨ sgOf x = 1 ∨ sgOf x = 2 := by lia
      rcases this with e | e | e <;> rw [e] <;> rfl
    have eg : (Str.ofString "().").cps[(x.fmod 3).toNat]? = some (chr (sgOf x)) := by
      rw [s3]
      unfold tx
      rw [mkS_get, List.getElem?_map]
      show Option.map chr ([0, 1, 2] : List Nat)[sgOf x]? = _
      rw [hch]; rfl
    have e1 : (⟨#[chr (sgOf x)]⟩ : Str) = tx [sgOf x] := rfl
    rw [show tx (stepL L (sgOf x)) = tx L ++ (⟨#[chr (sgOf x)]⟩ : Str) by unfold stepL; rw [if_neg h, e1, tx_app]]
    apply xs_cons
    · apply x_ifF
      · apply t_bool
        by_cases hq : sgOf x = 1
        · apply ts_andT
          · apply t_cmp (by rfl)
            · apply e_binop
              · (repeat (((with_reducible apply e_var); kernel_rfl; (focus ((repeat (assumption)); done)))))
              · (repeat ((with_reducible exact e_int)))
              · exact bo_mod (by decide)
            · (repeat ((with_reducible exact e_int)))
            · exact c_eq (by rw [ex, hq]; rfl)
          · apply and_last
            apply t_cmp (by rfl)
            · apply e_meth
              · exact .plain (by constructor)
              · kernel_rfl
              · (repeat (((with_reducible apply e_var); kernel_rfl; (focus ((repeat (assumption)); done)))))
              · exact mt_count
              · (repeat (first | (with_reducible first | exact es_nil | exact e_str) | ((with_reducible apply es_cons); (kernel_rfl))))
              · exact c0
            · apply e_meth
              · exact .plain (by constructor)
              · kernel_rfl
              · (repeat (((with_reducible apply e_var); kernel_rfl; (focus ((repeat (assumption)); done)))))
              · exact mt_count
              · (repeat (first | (with_reducible first | exact es_nil | exact e_str) | ((with_reducible apply es_cons); (kernel_rfl))))
              · exact c1
            · exact c_eq (beq_eq_false_iff_ne.mpr fun z => h ⟨hq, by lia⟩)
        · apply ts_andF
          apply t_cmp (by rfl)
          · apply e_binop
            · (repeat (((with_reducible apply e_var); kernel_rfl; (focus ((repeat (assumption)); done)))))
            · (repeat ((with_reducible exact e_int)))
            · exact bo_mod (by decide)
          · (repeat ((with_reducible exact e_int)))
          · exact c_eq (by rw [ex]; exact beq_eq_false_iff_ne.mpr (by lia))
      · apply xs_cons
        · apply x_assign
          · kernel_rfl
          · apply e_binop
            · (repeat (((with_reducible apply e_var); kernel_rfl; (focus ((repeat (assumption)); done)))))
            · apply e_item
              · (repeat ((with_reducible exact e_str)))
              · apply e_binop
                · (repeat (((with_reducible apply e_var); kernel_rfl; (focus ((repeat (assumption)); done)))))
                · (repeat ((with_reducible exact e_int)))
                · exact bo_mod (by decide)
              · exact it_str (by lia) (by rw [s3, tx_len]; exact (by decide : 3 ≤ lim)) eg (by lia)
            · exact bo_str (by rw [tx_len, e1, tx_len]; unfold lim; simp; lia)
          · exact a_name rfl
        exact xs_nil
    exact xs_nil
noncomputable def rawOf (xs : List Int) : List Nat := (xs.map sgOf).foldl stepL []
noncomputable def txtOf (xs : List Int) : List Nat := rawOf xs ++ List.replicate ((rawOf xs).count 0 - (rawOf xs).count 1) 1
theorem steps_sgs : ∀ (xs : List Int) (L : List Nat), Sgs L → Sgs ((xs.map sgOf).foldl stepL L) ∧ ((xs.map sgOf).foldl stepL L).length = L.length + xs.length
  | [], L, h => ⟨h, rfl⟩
  | x :: r, L, h => by
    have := steps_sgs r (stepL L (sgOf x)) (h.step (sgOf_le x))
    rw [step_len] at this
    refine ⟨this.1, ?_⟩
    rw [List.map_cons, List.foldl_cons, this.2, List.length_cons]
    lia
theorem raw_wf (xs : List Int) : Wf (rawOf xs) := Wf.nil.steps _
theorem raw_le (xs : List Int) : (rawOf xs).count 1 ≤ (rawOf xs).count 0 := by have := (raw_wf xs).hgt; lia
theorem txt_wf (xs : List Int) : Wf (txtOf xs) ∧ stk (sg (txtOf xs)) (txtOf xs).length = [] := Wf.close _ (by have := raw_le xs; lia) (raw_wf xs)
theorem txt_sgs (xs : List Int) : Sgs (txtOf xs) := fun a ha => by
  rcases List.mem_append.mp ha with ha | ha
  · exact (steps_sgs xs [] fun x hx => nomatch hx).1 a ha
  · rw [(List.mem_replicate.mp ha).2]; decide
theorem raw_len (xs : List Int) : (rawOf xs).length = xs.length := by
  have := (steps_sgs xs [] fun x hx => nomatch hx).2
  simpa [rawOf] using this
theorem txt_len (xs : List Int) : (txtOf xs).length ≤ 2 * xs.length := by
  have h1 := raw_len xs
  have h2 : (rawOf xs).count 0 ≤ (rawOf xs).length := List.count_le_length
  unfold txtOf
  rw [List.length_append, List.length_replicate]
  lia
theorem text_loop {d X : Nat} {xs : List Int} (hx : xs.length ≤ 100) : ∀ (rest done : List Int) (L : List Nat) (σ : St) (ρ : Vars), xs = done ++ rest → Sgs L → L.length = done.length → σ[X]? = some (.list (xs.map .int)) → ρ "text" = some (.str (tx L)) →
    ∃ ρ', EvF piL d (kdAt 1) ρ (forT (bodyAt 1) 1) (forB (bodyAt 1) 1) (.seq (.ref X) done.length) σ .next ρ' σ ∧ ρ' "text" = some (.str (tx ((rest.map sgOf).foldl stepL L)))
  | [], done, L, σ, ρ, hd, hL, hl, hX, h1 => by
    rw [List.append_nil] at hd
    subst hd
    exact ⟨ρ, f_end (n_seqEnd (lo_ref hX) (by simp)), h1⟩
  | x :: rest, done, L, σ, ρ, hd, hL, hl, hX, h1 => by
    have hg : (xs.map AVal.int)[done.length]? = some (.int x) := by rw [hd]; simp
    have hlen : L.length ≤ 1000 := by rw [hd] at hx; simp at hx; lia
    have s := sign_step (d := d) (σ := σ) (ρ := Vars.set ρ "x" (.int x)) (x := x) hL hlen (by (focus ((repeat (assumption)); done))) (by (focus ((repeat ((with_reducible exact v_hit))); done)))
    obtain ⟨ρ', t1, t2⟩ := text_loop (d := d) hx rest (done ++ [x]) (stepL L (sgOf x)) σ _ (by rw [hd]; simp) (hL.step (sgOf_le x)) (by rw [step_len]; simp [hl]) hX (v_hit (ρ := Vars.set ρ "x" (.int x)))
    rw [List.length_append] at t1
    exact ⟨ρ', f_more (n_seq (lo_ref hX) hg) (a_name (by kernel_rfl)) s t1, t2⟩
noncomputable def forC (s : Stmt) : Expr × Scope := match s with
  | .For _ (.BinOp (.ListComp e _ sc _) _ _ _) _ _ _ => (e, sc)
  | _ => (default, ⟨.function, [], false, false, []⟩)
theorem drawsOf_len (ns : List Int) (m : Nat) : (drawsOf ns m).length = min m ns.length := by simp [drawsOf]
noncomputable def xsOf (ns : List Int) : List Int := drawsOf ns 16 ++ [0, 0, 2, 1, 2, 1, 2]
theorem text_ok {d : Nat} {ns : List Int} {σ : St} (h : ns.length ≤ 63) : ∃ σ', EvC piL (d + 1) (.fn "_law_text") [.scr ns] σ (.str (tx (txtOf (xsOf ns)))) σ' ∧ ∀ (i : Nat) o', σ[i]? = some o' → σ'[i]? = some o' := by
  have z0 : (ns.map AVal.int).length ≤ lim := by simp [lim]; lia
  have hmin : (if (((ns.map AVal.int).length : Nat) : Int) < 16 then (((ns.map AVal.int).length : Nat) : Int) else 16) = ((min 16 ns.length : Nat) : Int) := by
    simp only [List.length_map]; split <;> lia
  let ρ1 : Vars := Vars.set (bindAll [Str.ofString "script"] [.scr ns]) "text" (.str (Str.ofString ""))
  obtain ⟨τ, hτ⟩ := cm_rngA (P := piL) (d := d) (kd := relabelK (forC (st 1 1)).2.names (kdAt 1)) (ρ := freeVars (relabelK (forC (st 1 1)).2.names (kdAt 1)) ρ1) (x := "k") (elt := (forC (st 1 1)).1) (σ₁ := σ) (f := fun k => AVal.int (pickL ns (some (k : Int)) none (some 16)).sum) (n₀ := min 16 ns.length) (by unfold lim; lia) (fun i hi l τ => by
    refine ⟨[.list ((pickL ns (some (i : Int)) none (some 16)).map .int)], ?_⟩
    rw [← List.append_assoc, ← pickL_map]
    apply e_call
    · (repeat (((with_reducible apply e_glob); kernel_rfl; (exact g_sum))))
    · apply es_cons (by rfl)
      · apply e_sliceL
        · (repeat (((with_reducible apply e_var); kernel_rfl; (focus ((repeat (first | (with_reducible exact b_hit) | ((with_reducible first | apply v_ne | apply fv_get); kernel_rfl))); done)))))
        · (repeat (first | (with_reducible first | apply o_some | exact oi_int) | ((with_reducible apply e_var); kernel_rfl; (focus ((repeat ((with_reducible exact v_hit))); done)))))
        · (repeat ((with_reducible exact o_none)))
        · (repeat ((with_reducible first | exact e_int | apply o_some | exact oi_int)))
        · rfl
        · exact lo_scr
        · exact z0
      · exact es_nil
    · refine c_sum (lo_ref ?_)
      rw [← pickL_map]
      exact get_new)
  have e1 : (List.range (min 16 ns.length)).map (fun k : Nat => AVal.int (pickL ns (some (k : Int)) none (some 16)).sum) = (drawsOf ns 16).map .int := by
    unfold drawsOf; rw [List.map_map]; rfl
  rw [e1] at hτ
  have hdl := drawsOf_len ns 16
  have hxl : (xsOf ns).length ≤ 23 := by unfold xsOf; simp; lia
  have z5 : ((drawsOf ns 16).map AVal.int).length + ([AVal.int 0, .int 0, .int 2, .int 1, .int 2, .int 1, .int 2]).length ≤ lim := by simp [lim]; lia
  obtain ⟨σ1, hσ1⟩ : ∃ σ1, σ1 = σ ++ [AObj.list ((drawsOf ns 16).map .int)] ++ τ ++ [.list [AVal.int 0, .int 0, .int 2, .int 1, .int 2, .int 1, .int 2]] := ⟨_, rfl⟩
  have g0 : σ1[σ.length]? = some (.list ((drawsOf ns 16).map .int)) := by rw [hσ1]; exact get_old (get_old get_new)
  have gn : σ1[(σ ++ [AObj.list ((drawsOf ns 16).map .int)] ++ τ).length]? = some (.list [AVal.int 0, .int 0, .int 2, .int 1, .int 2, .int 1, .int 2]) := by rw [hσ1]; exact get_new
  have k1 : ∀ (i : Nat) o', σ[i]? = some o' → σ1[i]? = some o' := fun i o' h => by rw [hσ1]; exact get_old (get_old (get_old h))
  have exs : (drawsOf ns 16).map AVal.int ++ [AVal.int 0, .int 0, .int 2, .int 1, .int 2, .int 1, .int 2] = (xsOf ns).map .int := by unfold xsOf; rw [List.map_append]; rfl
  obtain ⟨ρ', t1, t2⟩ := text_loop (d := d) (X := σ1.length) (xs := xsOf ns) (by lia) (xsOf ns) [] [] (σ1 ++ [.list ((xsOf ns).map .int)]) ρ1 rfl (fun x hx => nomatch hx) rfl get_new (by rw [se.symm]; exact v_hit)
  have hS : Sgs (rawOf (xsOf ns)) := (steps_sgs (xsOf ns) [] fun x hx => nomatch hx).1
  have hrl := raw_len (xsOf ns)
  have hc0 : (rawOf (xsOf ns)).count 0 ≤ (rawOf (xsOf ns)).length := List.count_le_length
  have hrle := raw_le (xsOf ns)
  have c0 : EvC piL d (.bi "str.count") [.str (tx (rawOf (xsOf ns))), .str (Str.ofString "(")] (σ1 ++ [.list ((xsOf ns).map .int)]) (.int ((rawOf (xsOf ns)).count 0 : Int)) (σ1 ++ [.list ((xsOf ns).map .int)]) := by
    rw [s0, ← count_tx 0 (by decide) hS]; exact c_count
  have c1 : EvC piL d (.bi "str.count") [.str (tx (rawOf (xsOf ns))), .str (Str.ofString ")")] (σ1 ++ [.list ((xsOf ns).map .int)]) (.int ((rawOf (xsOf ns)).count 1 : Int)) (σ1 ++ [.list ((xsOf ns).map .int)]) := by
    rw [s1, ← count_tx 1 (by decide) hS]; exact c_count
  have t2 : ρ' "text" = some (.str (tx (rawOf (xsOf ns)))) := t2
  have hmt := mul_tx ((rawOf (xsOf ns)).count 0 - (rawOf (xsOf ns)).count 1) (by lia)
  have hsub : ((rawOf (xsOf ns)).count 0 : Int) - ((rawOf (xsOf ns)).count 1 : Int) = (((rawOf (xsOf ns)).count 0 - (rawOf (xsOf ns)).count 1 : Nat) : Int) := by lia
  rw [← hsub, ← s1] at hmt
  refine ⟨σ1 ++ [.list ((xsOf ns).map .int)], ?_, fun i o' h => get_old (k1 i o' h)⟩
  unfold txtOf
  rw [← tx_app, ← hmt.2]
  apply c_fn f_l_text (by kernel_rfl) rfl
  apply xs_cons
  · (repeat (first | (with_reducible exact e_str) | ((with_reducible first | apply x_assign | apply a_name); kernel_rfl)))
  apply xs_cons
  · apply x_for
    · rfl
    · apply e_binop (v := .ref σ1.length) (σ₂ := σ1)
      · apply e_comp
        · kernel_rfl
        · rfl
        · (repeat (first | (with_reducible first | exact es_nil | exact e_int | apply e_call | exact c_range1 | exact c_min) | ((with_reducible apply es_cons); (kernel_rfl)) | ((with_reducible apply e_var); kernel_rfl; (focus ((repeat (first | (with_reducible exact b_hit) | ((with_reducible first | apply v_ne | apply b_ne); kernel_rfl))); done))) | ((with_reducible apply e_glob); kernel_rfl; (first | exact g_len | exact g_min | exact g_range)) | ((with_reducible apply c_lenList); ((with_reducible exact lo_scr))) | (focus ((repeat (assumption)); done))))
        · rw [hmin]
          refine mk_rng1 ⟨by lia, by lia, by lia⟩
        · rw [show ((min 16 ns.length : Nat) : Int) - 0 = (min 16 ns.length : Nat) by lia]
          exact hτ
      · rw [hσ1]
        apply e_list
        · (repeat (first | (with_reducible first | exact es_nil | exact e_int) | ((with_reducible apply es_cons); (kernel_rfl))))
        · exact (by decide : 7 ≤ lim)
      · exact bo_list (lo_ref g0) (lo_ref gn) z5
    · rw [exs]; exact mk_list get_new
    · (repeat (((with_reducible exact lk_name))))
    · rw [exs]; exact t1
  apply xs_ret
  apply x_return
  apply e_binop
  · apply e_var
    · kernel_rfl
    · exact t2
  · apply e_binop
    · (repeat ((with_reducible exact e_str)))
    · apply e_binop
      · apply e_meth
        · exact .plain (by constructor)
        · kernel_rfl
        · (repeat (((with_reducible apply e_var); kernel_rfl; (focus ((repeat (assumption)); done)))))
        · exact mt_count
        · (repeat (first | (with_reducible first | exact es_nil | exact e_str) | ((with_reducible apply es_cons); (kernel_rfl))))
        · exact c0
      · apply e_meth
        · exact .plain (by constructor)
        · kernel_rfl
        · (repeat (((with_reducible apply e_var); kernel_rfl; (focus ((repeat (assumption)); done)))))
        · exact mt_count
        · (repeat (first | (with_reducible first | exact es_nil | exact e_str) | ((with_reducible apply es_cons); (kernel_rfl))))
        · exact c1
      · exact bo_sub
    · exact bo_mulS hmt.1
  · exact bo_str (by rw [hmt.2, tx_len, tx_len, List.length_replicate]; unfold lim; lia)
theorem sgn_eq {L : List Nat} (hS : Sgs L) {k b : Nat} (hk : k < L.length) (hb : b ≤ 2) : ((⟨#[chr (sg L k)]⟩ : Str) == tx [b]) = decide (sg L k = b) := by
  have h1 : sg L k ≤ 2 := by
    have : sg L k = L[k] := by simp [sg, List.getD, hk]
    rw [this]; exact hS _ (List.getElem_mem _)
  have e : (⟨#[chr (sg L k)]⟩ : Str) = mkS [chr (sg L k)] := rfl
  rw [e]
  show (mkS [chr (sg L k)] == mkS [chr b]) = _
  rw [mkS_beq]
  refine decide_eq_decide.mpr ⟨fun z => ?_, fun z => by rw [z]⟩
  have z : chr (sg L k) = chr b := by injection z
  generalize sg L k = a at *
  have ha : a = 0 ∨ a = 1 ∨ a = 2 := by lia
  have hb' : b = 0 ∨ b = 1 ∨ b = 2 := by lia
  rcases ha with rfl | rfl | rfl <;> rcases hb' with rfl | rfl | rfl <;> first | rfl | (revert z; decide)
theorem sign_at {d : Nat} {kd : Kinds} {ρ : Vars} {σ : St} {L : List Nat} {o i : Expr} {pp : Pos} {k b : Nat} (hS : Sgs L) (hk : k < L.length) (hl : L.length ≤ 1000) (h1 : EvE piL d kd ρ o σ (.str (tx L)) σ) (h2 : EvE piL d kd ρ i σ (.int (k : Int)) σ) :
    EvE piL d kd ρ (.Subscript o i pp) σ (.str ⟨#[chr (sg L k)]⟩) σ := e_item h1 h2 (it_str (by lia) (by rw [tx_len]; unfold lim; lia) (by rw [Int.toNat_natCast]; exact chr_at L k hk) (by lia))
theorem open_loop {d F : Nat} {L : List Nat} (hS : Sgs L) (hl : L.length ≤ 1000) : ∀ (j z : Nat) (fs : List Nat) (σ : St) (ρ : Vars), j ≤ L.length → fs.length + j ≤ 2000 → z + j ≤ 2000 → ρ "text" = some (.str (tx L)) → ρ "found" = some (.ref F) → ρ "closed" = some (.int (z : Int)) → σ[F]? = some (.list ((fs.map fun n : Nat => (n : Int)).map .int)) →
    ∃ ρ' σ', EvF piL d (kdAt 2) ρ (forT (bodyAt 2) 2) (forB (bodyAt 2) 2) (.rng ((j : Int) - 1) j (-1)) σ .next ρ' σ' ∧ ρ' "found" = some (.ref F) ∧ σ'[F]? = some (.list (((fs ++ scan (sg L) j z).map fun n : Nat => (n : Int)).map .int)) ∧ ∀ (i : Nat) o', i ≠ F → σ[i]? = some o' → σ'[i]? = some o'
  | 0, z, fs, σ, ρ, hj, hf, hz, h1, h2, h3, hF => ⟨ρ, σ, f_end (n_rngEnd (by decide)), h2, by simpa [scan] using hF, fun _ _ _ h => h⟩
  | j + 1, z, fs, σ, ρ, hj, hf, hz, h1, h2, h3, hF => by
    have er : ((j + 1 : Nat) : Int) - 1 = (j : Int) := by lia
    have hat : ∀ b, b ≤ 2 → ((⟨#[chr (sg L j)]⟩ : Str) == tx [b]) = decide (sg L j = b) := fun b hb => sgn_eq hS (by lia) hb
    have zF : ((fs.map fun n : Nat => (n : Int)).map AVal.int).length ≤ lim := by simp [lim]; lia
    have next : ∀ {z' : Nat} {fs' : List Nat} {σ' : St} {ρ' : Vars}, EvXs piL d (kdAt 2) (Vars.set ρ "place" (.int (j : Int))) (forB (bodyAt 2) 2) σ .next ρ' σ' → fs'.length + j ≤ 2000 → z' + j ≤ 2000 → ρ' "text" = some (.str (tx L)) → ρ' "found" = some (.ref F) → ρ' "closed" = some (.int (z' : Int)) → σ'[F]? = some (.list ((fs'.map fun n : Nat => (n : Int)).map .int)) → fs ++ scan (sg L) (j + 1) z = fs' ++ scan (sg L) j z' → (∀ (i : Nat) o', i ≠ F → σ[i]? = some o' → σ'[i]? = some o') →
        ∃ ρ'' σ'', EvF piL d (kdAt 2) ρ (forT (bodyAt 2) 2) (forB (bodyAt 2) 2) (.rng (((j + 1 : Nat) : Int) - 1) ((j + 1 : Nat) : Int) (-1)) σ .next ρ'' σ'' ∧ ρ'' "found" = some (.ref F) ∧ σ''[F]? = some (.list (((fs ++ scan (sg L) (j + 1) z).map fun n : Nat => (n : Int)).map .int)) ∧ ∀ (i : Nat) o', i ≠ F → σ[i]? = some o' → σ''[i]? = some o' := by
      intro z' fs' σ' ρ' hb q1 q2 q3 q4 q5 q6 q7 q8
      obtain ⟨ρ'', σ'', t1, t2, t3, t4⟩ := open_loop (d := d) hS hl j z' fs' σ' ρ' (by lia) q1 q2 q3 q4 q5 q6
      refine ⟨ρ'', σ'', ?_, t2, by rw [q7]; exact t3, fun i o' hi h => t4 i o' hi (q8 i o' hi h)⟩
      rw [er]
      refine f_more (n_rng (by lia)) (a_name (by kernel_rfl)) hb ?_
      rw [show ((j + 1 : Nat) : Int) - 1 = (j : Int) by lia, show (j : Int) + -1 = (j : Int) - 1 by lia]
      exact t1
    have sc : scan (sg L) (j + 1) z = if sg L j = 1 then scan (sg L) j (z + 1) else if sg L j = 0 then (if z = 0 then j :: scan (sg L) j 0 else scan (sg L) j (z - 1)) else scan (sg L) j z := rfl
    by_cases c1 : sg L j = 1
    · rw [if_pos c1] at sc
      refine next (z' := z + 1) (fs' := fs) (σ' := σ) (ρ' := Vars.set (Vars.set ρ "place" (.int (j : Int))) "closed" (.int ((z : Int) + 1))) ?_ (by lia) (by lia) (by (focus ((repeat (assumption)); done))) (by (focus ((repeat (assumption)); done))) (by exact v_hit) hF (by rw [sc]) fun _ _ _ h => h
      apply xs_cons
      · apply x_ifT
        · apply t_cmp (by rfl)
          · apply sign_at (L := L) (k := j) (b := 1) hS (by lia) hl
            · (repeat (((with_reducible apply e_var); kernel_rfl; (focus ((repeat (assumption)); done)))))
            · (repeat (((with_reducible apply e_var); kernel_rfl; (focus ((repeat ((with_reducible exact v_hit))); done)))))
          · (repeat ((with_reducible exact e_str)))
          · exact c_seq (by rw [s1, hat 1 (by decide)]; exact decide_eq_true c1)
        · apply xs_cons
          · apply x_augAdd
            · kernel_rfl
            · (focus ((repeat (assumption)); done))
            · (repeat ((with_reducible exact e_int)))
          exact xs_nil
      exact xs_nil
    · rw [if_neg c1] at sc
      by_cases c0 : sg L j = 0
      · rw [if_pos c0] at sc
        by_cases hz0 : z = 0
        · rw [if_pos hz0] at sc
          refine next (z' := 0) (fs' := fs ++ [j]) (σ' := σ.set F (.list ((fs.map fun n : Nat => (n : Int)).map AVal.int ++ [.int (j : Int)]))) (ρ' := Vars.set ρ "place" (.int (j : Int))) ?_ (by simp; lia) (by lia) (by (focus ((repeat (assumption)); done))) (by (focus ((repeat (assumption)); done))) (by rw [← hz0]; (focus ((repeat (assumption)); done))) (by rw [set_hit hF]; simp) (by rw [sc]; simp) fun i o' hi h => set_ne (Ne.symm hi) h
          apply xs_cons
          · apply x_ifF
            · apply t_cmp (by rfl)
              · apply sign_at (L := L) (k := j) (b := 1) hS (by lia) hl
                · (repeat (((with_reducible apply e_var); kernel_rfl; (focus ((repeat (assumption)); done)))))
                · (repeat (((with_reducible apply e_var); kernel_rfl; (focus ((repeat ((with_reducible exact v_hit))); done)))))
              · (repeat ((with_reducible exact e_str)))
              · exact c_seq (by rw [s1, hat 1 (by decide)]; exact decide_eq_false c1)
            · apply xs_cons
              · apply x_ifT
                · apply t_cmp (by rfl)
                  · apply sign_at (L := L) (k := j) (b := 0) hS (by lia) hl
                    · (repeat (((with_reducible apply e_var); kernel_rfl; (focus ((repeat (assumption)); done)))))
                    · (repeat (((with_reducible apply e_var); kernel_rfl; (focus ((repeat ((with_reducible exact v_hit))); done)))))
                  · (repeat ((with_reducible exact e_str)))
                  · exact c_seq (by rw [s0, hat 0 (by decide)]; exact decide_eq_true c0)
                · apply xs_cons
                  · apply x_ifT
                    · apply t_cmp (by rfl)
                      · (repeat (((with_reducible apply e_var); kernel_rfl; (focus ((repeat (assumption)); done)))))
                      · (repeat ((with_reducible exact e_int)))
                      · exact c_eq (by rw [hz0]; rfl)
                    · apply xs_cons
                      · apply x_expr rfl
                        apply e_append
                        · constructor
                        · kernel_rfl
                        · (repeat (((with_reducible apply e_var); kernel_rfl; (focus ((repeat (assumption)); done)))))
                        · exact hF
                        · (repeat (((with_reducible apply e_var); kernel_rfl; (focus ((repeat ((with_reducible exact v_hit))); done)))))
                        · exact hF
                        · exact zF
                      exact xs_nil
                  exact xs_nil
              exact xs_nil
          exact xs_nil
        · rw [if_neg hz0] at sc
          refine next (z' := z - 1) (fs' := fs) (σ' := σ) (ρ' := Vars.set (Vars.set ρ "place" (.int (j : Int))) "closed" (.int ((z : Int) - 1))) ?_ (by lia) (by lia) (by (focus ((repeat (assumption)); done))) (by (focus ((repeat (assumption)); done))) (by rw [show ((z - 1 : Nat) : Int) = (z : Int) - 1 by lia]; exact v_hit) hF (by rw [sc]) fun _ _ _ h => h
          apply xs_cons
          · apply x_ifF
            · apply t_cmp (by rfl)
              · apply sign_at (L := L) (k := j) (b := 1) hS (by lia) hl
                · (repeat (((with_reducible apply e_var); kernel_rfl; (focus ((repeat (assumption)); done)))))
                · (repeat (((with_reducible apply e_var); kernel_rfl; (focus ((repeat ((with_reducible exact v_hit))); done)))))
              · (repeat ((with_reducible exact e_str)))
              · exact c_seq (by rw [s1, hat 1 (by decide)]; exact decide_eq_false c1)
            · apply xs_cons
              · apply x_ifT
                · apply t_cmp (by rfl)
                  · apply sign_at (L := L) (k := j) (b := 0) hS (by lia) hl
                    · (repeat (((with_reducible apply e_var); kernel_rfl; (focus ((repeat (assumption)); done)))))
                    · (repeat (((with_reducible apply e_var); kernel_rfl; (focus ((repeat ((with_reducible exact v_hit))); done)))))
                  · (repeat ((with_reducible exact e_str)))
                  · exact c_seq (by rw [s0, hat 0 (by decide)]; exact decide_eq_true c0)
                · apply xs_cons
                  · apply x_ifF
                    · apply t_cmp (by rfl)
                      · (repeat (((with_reducible apply e_var); kernel_rfl; (focus ((repeat (assumption)); done)))))
                      · (repeat ((with_reducible exact e_int)))
                      · exact c_eq (beq_eq_false_iff_ne.mpr (by lia))
                    · apply xs_cons
                      · apply x_augSub
                        · kernel_rfl
                        · (focus ((repeat (assumption)); done))
                        · (repeat ((with_reducible exact e_int)))
                      exact xs_nil
                  exact xs_nil
              exact xs_nil
          exact xs_nil
      · rw [if_neg c0] at sc
        refine next (z' := z) (fs' := fs) (σ' := σ) (ρ' := Vars.set ρ "place" (.int (j : Int))) ?_ (by lia) (by lia) (by (focus ((repeat (assumption)); done))) (by (focus ((repeat (assumption)); done))) (by (focus ((repeat (assumption)); done))) hF (by rw [sc]) fun _ _ _ h => h
        apply xs_cons
        · apply x_ifF
          · apply t_cmp (by rfl)
            · apply sign_at (L := L) (k := j) (b := 1) hS (by lia) hl
              · (repeat (((with_reducible apply e_var); kernel_rfl; (focus ((repeat (assumption)); done)))))
              · (repeat (((with_reducible apply e_var); kernel_rfl; (focus ((repeat ((with_reducible exact v_hit))); done)))))
            · (repeat ((with_reducible exact e_str)))
            · exact c_seq (by rw [s1, hat 1 (by decide)]; exact decide_eq_false c1)
          · apply xs_cons
            · apply x_ifF
              · apply t_cmp (by rfl)
                · apply sign_at (L := L) (k := j) (b := 0) hS (by lia) hl
                  · (repeat (((with_reducible apply e_var); kernel_rfl; (focus ((repeat (assumption)); done)))))
                  · (repeat (((with_reducible apply e_var); kernel_rfl; (focus ((repeat ((with_reducible exact v_hit))); done)))))
                · (repeat ((with_reducible exact e_str)))
                · exact c_seq (by rw [s0, hat 0 (by decide)]; exact decide_eq_false c0)
              · exact xs_nil
            exact xs_nil
        exact xs_nil
theorem size_back (k : Nat) : Builtin.Range.rangeSize ((k : Int) - 1) (-1) (-1) = (k : Int) := by
  unfold Builtin.Range.rangeSize
  simp
  lia
theorem small_back {k : Nat} (h : k ≤ 1000) : Builtin.Range.small ((k : Int) - 1) (-1) (-1) = true := by
  unfold Builtin.Range.small
  rw [size_back]
  simp [Builtin.Range.rangeFitsLong]
  lia
noncomputable def natsL (l : List Nat) : AObj := .list ((l.map fun n : Nat => (n : Int)).map .int)
theorem open_ok {d : Nat} {L : List Nat} {k : Nat} {σ : St} (hS : Sgs L) (hl : L.length ≤ 500) (hk : k < L.length) :
    ∃ σ' F, EvC piL (d + 1) (.fn "_law_open") [.str (tx L), .int (k : Int)] σ (.ref F) σ' ∧ σ'[F]? = some (natsL (due (sg L) k)) ∧ ∀ (i : Nat) o', σ[i]? = some o' → σ'[i]? = some o' := by
  have hat : ((⟨#[chr (sg L k)]⟩ : Str) == tx [1]) = decide (sg L k = 1) := sgn_eq hS hk (by decide)
  obtain ⟨z, hz⟩ : ∃ z : Nat, z = if sg L k = 1 then 1 else 0 := ⟨_, rfl⟩
  have hz1 : z ≤ 1 := by rw [hz]; split <;> decide
  obtain ⟨ρ', σ', t1, t2, t3, t4⟩ := open_loop (d := d) (F := σ.length) hS (by lia) k z [] (σ ++ [.list []]) (Vars.set (Vars.set (bindAll [Str.ofString "text", Str.ofString "k"] [.str (tx L), .int (k : Int)]) "found" (.ref σ.length)) "closed" (.int (z : Int))) (by lia) (by simp; lia) (by lia) (by (focus ((repeat (first | (with_reducible exact b_hit) | ((with_reducible apply v_ne); kernel_rfl))); done))) (by (focus ((repeat (first | (with_reducible exact v_hit) | ((with_reducible apply v_ne); kernel_rfl))); done))) (by exact v_hit) get_new
  have x1 : EvX piL d (kdAt 2) (Vars.set (bindAll [Str.ofString "text", Str.ofString "k"] [.str (tx L), .int (k : Int)]) "found" (.ref σ.length)) (st 2 1) (σ ++ [.list []]) .next (Vars.set (Vars.set (bindAll [Str.ofString "text", Str.ofString "k"] [.str (tx L), .int (k : Int)]) "found" (.ref σ.length)) "closed" (.int (z : Int))) (σ ++ [.list []]) := by
    apply x_assign (v := .int (z : Int)) (σ₁ := σ ++ [.list []])
    · kernel_rfl
    · by_cases h1 : sg L k = 1
      · rw [hz, if_pos h1]
        apply e_ifT
        · apply t_cmp (by rfl)
          · apply sign_at (L := L) (k := k) (b := 1) hS hk (by lia)
            · (repeat (((with_reducible apply e_var); kernel_rfl; (focus ((repeat (first | (with_reducible exact b_hit) | ((with_reducible apply v_ne); kernel_rfl))); done)))))
            · (repeat (((with_reducible apply e_var); kernel_rfl; (focus ((repeat (first | (with_reducible exact b_hit) | ((with_reducible first | apply v_ne | apply b_ne); kernel_rfl))); done)))))
          · (repeat ((with_reducible exact e_str)))
          · exact c_seq (by rw [s1, hat]; exact decide_eq_true h1)
        · show EvE _ _ _ _ _ _ (.int 1) _
          exact e_int
      · rw [hz, if_neg h1]
        apply e_ifF
        · apply t_cmp (by rfl)
          · apply sign_at (L := L) (k := k) (b := 1) hS hk (by lia)
            · (repeat (((with_reducible apply e_var); kernel_rfl; (focus ((repeat (first | (with_reducible exact b_hit) | ((with_reducible apply v_ne); kernel_rfl))); done)))))
            · (repeat (((with_reducible apply e_var); kernel_rfl; (focus ((repeat (first | (with_reducible exact b_hit) | ((with_reducible first | apply v_ne | apply b_ne); kernel_rfl))); done)))))
          · (repeat ((with_reducible exact e_str)))
          · exact c_seq (by rw [s1, hat]; exact decide_eq_false h1)
        · show EvE _ _ _ _ _ _ (.int 0) _
          exact e_int
    · exact a_name rfl
  have hds : due (sg L) k = scan (sg L) k z := by rw [due_scan, hz]
  refine ⟨σ', σ.length, ?_, by rw [hds]; simpa [natsL] using t3, fun i o' h => t4 i o' (ne_new h) (get_old h)⟩
  apply c_fn f_l_open (by kernel_rfl) rfl
  apply xs_cons
  · (repeat (first | (with_reducible first | exact es_nil | apply e_list) | ((with_reducible first | apply x_assign | apply a_name); kernel_rfl) | (decide)))
  apply xs_cons
  · exact x1
  apply xs_cons
  · apply x_for
    · rfl
    · (repeat (first | (with_reducible first | exact es_nil | exact e_int | apply e_binop | apply e_neg | apply e_call) | ((with_reducible apply es_cons); (kernel_rfl)) | ((with_reducible apply e_var); kernel_rfl; (focus ((repeat (first | (with_reducible exact b_hit) | ((with_reducible first | apply v_ne | apply b_ne); kernel_rfl))); done))) | ((with_reducible apply e_glob); kernel_rfl; (exact g_range)) | ((with_reducible apply c_range3); decide) | ((with_reducible exact bo_sub))))
    · have := mk_rng (σ := σ ++ [.list []]) (a := (k : Int) - 1) (b := -1) (c := -1) (small_back (by lia))
      rw [size_back] at this
      exact this
    · (repeat (((with_reducible exact lk_name))))
    · exact t1
  apply xs_ret
  apply x_return
  apply e_var
  · kernel_rfl
  · exact t2
noncomputable def ifB (s : Stmt) : List Stmt × List Stmt := match s with
  | .If _ x y _ => (x, y)
  | _ => ([], [])
noncomputable abbrev gb : List Stmt := (ifB (st 0 1)).1
noncomputable def famD (a : Nat) (D : List (Int × AVal)) (xs : List Int) : List (Int × AVal) := xs.foldl (fun D x => putD D x (.ref a)) D
noncomputable def tabD (D : List (Int × AVal)) (rows : List (Nat × List Int)) : List (Int × AVal) := rows.foldl (fun D q => famD q.1 D q.2) D
theorem putD_len {D : List (Int × AVal)} {x : Int} {v : AVal} : (putD D x v).length ≤ D.length + 1 := by
  unfold putD
  split
  · simp
  · simp
theorem famD_len (a : Nat) : ∀ (xs : List Int) (D : List (Int × AVal)), (famD a D xs).length ≤ D.length + xs.length
  | [], D => Nat.le_refl _
  | x :: r, D => by
    have h1 := famD_len a r (putD D x (.ref a))
    have h2 := putD_len (D := D) (x := x) (v := .ref a)
    show (famD a (putD D x (.ref a)) r).length ≤ _
    rw [List.length_cons]
    lia
theorem fam_loop {d M a : Nat} {xs : List Int} (hx : xs.length ≤ 200) (hne : a ≠ M) : ∀ (rest done : List Int) (D : List (Int × AVal)) (σ : St) (ρ : Vars), xs = done ++ rest → D.length + rest.length ≤ 100000 → σ[a]? = some (.list (xs.map .int)) → σ[M]? = some (.dict D) → ρ "p" = some (.ref a) → ρ "parent_map" = some (.ref M) →
    ∃ ρ' σ', EvF piL d (kdAt 0) ρ (forT (forB gb 1) 0) (forB (forB gb 1) 0) (.seq (.ref a) done.length) σ .next ρ' σ' ∧ ρ' "parent_map" = some (.ref M) ∧ σ'[M]? = some (.dict (famD a D rest)) ∧ ∀ (i : Nat) o', i ≠ M → σ[i]? = some o' → σ'[i]? = some o'
  | [], done, D, σ, ρ, hd, hl, ha, hM, h1, h2 => by
    rw [List.append_nil] at hd
    subst hd
    exact ⟨ρ, σ, f_end (n_seqEnd (lo_ref ha) (by simp)), h2, hM, fun _ _ _ h => h⟩
  | x :: rest, done, D, σ, ρ, hd, hl, ha, hM, h1, h2 => by
    have hg : (xs.map AVal.int)[done.length]? = some (.int x) := by rw [hd]; simp
    rw [List.length_cons] at hl
    have hpl := putD_len (D := D) (x := x) (v := .ref a)
    obtain ⟨ρ', σ', t1, t2, t3, t4⟩ := fam_loop (d := d) hx hne rest (done ++ [x]) (putD D x (.ref a)) (σ.set M (.dict (putD D x (.ref a)))) (Vars.set ρ "e" (.int x)) (by rw [hd]; simp) (by lia) (set_ne (Ne.symm hne) ha) (set_hit hM) (by (focus ((repeat (assumption)); done))) (by (focus ((repeat (assumption)); done)))
    rw [List.length_append] at t1
    refine ⟨ρ', σ', f_more (n_seq (lo_ref ha) hg) (a_name (by kernel_rfl)) ?_ t1, t2, t3, fun i o' hi h => t4 i o' hi (set_ne (Ne.symm hi) h)⟩
    apply xs_cons
    · apply x_assign
      · kernel_rfl
      · apply e_var
        · kernel_rfl
        · (focus ((repeat (assumption)); done))
      · apply a_itemD
        · apply e_var
          · kernel_rfl
          · (focus ((repeat (assumption)); done))
        · apply e_var
          · kernel_rfl
          · (focus ((repeat ((with_reducible exact v_hit))); done))
        · exact hM
        · unfold lim; lia
    exact xs_nil
structure Fam (σ : St) (R : Nat) (rows : List (Nat × List Int)) : Prop where
  row : σ[R]? = some (.list (rows.map fun q => .ref q.1))
  el : ∀ q ∈ rows, σ[q.1]? = some (.list (q.2.map .int)) ∧ q.2.length ≤ 200
theorem Fam.keep {σ σ' : St} {R : Nat} {rows : List (Nat × List Int)} (h : Fam σ R rows) (hf : ∀ (i : Nat) o', σ[i]? = some o' → σ'[i]? = some o') : Fam σ' R rows := ⟨hf _ _ h.row, fun q hq => ⟨hf _ _ (h.el q hq).1, (h.el q hq).2⟩⟩
theorem row_loop {d M R : Nat} {rows : List (Nat × List Int)} (hr : rows.length ≤ 200) (hRM : R ≠ M) : ∀ (rest done : List (Nat × List Int)) (D : List (Int × AVal)) (σ : St) (ρ : Vars), rows = done ++ rest → D.length ≤ 200 * done.length → Fam σ R rows → σ[M]? = some (.dict D) → ρ "parent_map" = some (.ref M) →
    ∃ ρ' σ', EvF piL d (kdAt 0) ρ (forT gb 1) (forB gb 1) (.seq (.ref R) done.length) σ .next ρ' σ' ∧ ρ' "parent_map" = some (.ref M) ∧ σ'[M]? = some (.dict (tabD D rest)) ∧ ∀ (i : Nat) o', i ≠ M → σ[i]? = some o' → σ'[i]? = some o'
  | [], done, D, σ, ρ, hd, hl, hF, hM, h2 => by
    rw [List.append_nil] at hd
    subst hd
    exact ⟨ρ, σ, f_end (n_seqEnd (lo_ref hF.row) (by simp)), h2, hM, fun _ _ _ h => h⟩
  | q :: rest, done, D, σ, ρ, hd, hl, hF, hM, h2 => by
    have hq : q ∈ rows := by rw [hd]; simp
    have hg : (rows.map fun q : Nat × List Int => AVal.ref q.1)[done.length]? = some (.ref q.1) := by rw [hd]; simp
    obtain ⟨e1, e2⟩ := hF.el q hq
    have hne : q.1 ≠ M := fun z => by rw [z, hM] at e1; cases e1
    have hdl : done.length ≤ 200 := by rw [hd] at hr; simp at hr; lia
    obtain ⟨ρ1, σ1, t1, t2, t3, t4⟩ := fam_loop (d := d) (M := M) (xs := q.2) e2 hne q.2 [] D σ (Vars.set ρ "p" (.ref q.1)) rfl (by lia) e1 hM (by exact v_hit) (by (focus ((repeat (assumption)); done)))
    have hfl := famD_len q.1 q.2 D
    have hF1 : Fam σ1 R rows := ⟨t4 _ _ hRM hF.row, fun q' hq' => ⟨t4 _ _ (fun z => by have := (hF.el q' hq').1; rw [z, hM] at this; cases this) (hF.el q' hq').1, (hF.el q' hq').2⟩⟩
    obtain ⟨ρ', σ', u1, u2, u3, u4⟩ := row_loop (d := d) hr hRM rest (done ++ [q]) (famD q.1 D q.2) σ1 ρ1 (by rw [hd]; simp) (by rw [List.length_append, List.length_singleton]; lia) hF1 t3 t2
    rw [List.length_append] at u1
    refine ⟨ρ', σ', f_more (n_seq (lo_ref hF.row) hg) (a_name (by kernel_rfl)) ?_ u1, u2, u3, fun i o' hi h => u4 i o' hi (t4 i o' hi h)⟩
    apply xs_cons
    · apply x_for
      · rfl
      · apply e_var
        · kernel_rfl
        · exact v_hit
      · exact mk_list e1
      · (repeat (((with_reducible exact lk_name))))
      · exact t1
    exact xs_nil
theorem put_pm {r v : AVal} : putAt "parent_map" v [(Str.ofString "root", r)] = [(Str.ofString "root", r), (Str.ofString "parent_map", v)] := rfl
theorem gpm_ok {d C Ro R : Nat} {lamv : AVal} {rows : List (Nat × List Int)} {σ : St} (hr : rows.length ≤ 200) (hF : Fam σ R rows) (hC : σ[C]? = some (.inst [(Str.ofString "root", .ref Ro)])) (hRo : σ[Ro]? = some (.inst [(Str.ofString "root", .none), (Str.ofString "iter", lamv)])) (hcall : ∀ σ, EvC piL d lamv [] σ (.ref R) σ) :
    ∃ σ', EvC piL (d + 1) (.fn "get_parent_map") [.ref C] σ (.ref σ.length) σ' ∧ σ'[σ.length]? = some (.dict (tabD [] rows)) ∧ ∀ (i : Nat) o', i ≠ C → σ[i]? = some o' → σ'[i]? = some o' := by
  have lC := lt_get hC
  have lR := lt_get hF.row
  have hRC : R ≠ C := fun z => by have := hF.row; rw [z, hC] at this; cases this
  have hRoC : Ro ≠ C := fun z => by
    rw [z, hC] at hRo
    injection hRo with hRo
    injection hRo with hRo
    exact absurd (show (1 : Nat) = 2 from congrArg List.length hRo) (by decide)
  obtain ⟨σ1, hσ1⟩ : ∃ σ1, σ1 = (σ ++ [AObj.dict []]).set C (.inst (putAt "parent_map" (.ref σ.length) [(Str.ofString "root", .ref Ro)])) := ⟨_, rfl⟩
  have k1 : ∀ (i : Nat) o', i ≠ C → σ[i]? = some o' → σ1[i]? = some o' := fun i o' hi h => by rw [hσ1]; exact set_ne (Ne.symm hi) (get_old h)
  have gM : σ1[σ.length]? = some (.dict []) := by rw [hσ1]; exact set_ne (by lia) get_new
  have gC : σ1[C]? = some (.inst (putAt "parent_map" (.ref σ.length) [(Str.ofString "root", .ref Ro)])) := by rw [hσ1]; exact set_hit (get_old hC)
  have hF1 : Fam σ1 R rows := ⟨k1 _ _ hRC hF.row, fun q hq => ⟨k1 _ _ (fun z => by have := (hF.el q hq).1; rw [z, hC] at this; cases this) (hF.el q hq).1, (hF.el q hq).2⟩⟩
  obtain ⟨ρ', σ', t1, t2, t3, t4⟩ := row_loop (d := d) (M := σ.length) hr (by lia) rows [] [] σ1 (Vars.set (Vars.set (bindAll [Str.ofString "context"] [.ref C]) "parent_map" .none) "parent_map" (.ref σ.length)) rfl (by simp) hF1 gM (by exact v_hit)
  refine ⟨σ', ?_, t3, fun i o' hi h => t4 i o' (by have := lt_get h; lia) (k1 i o' hi h)⟩
  have x1 : EvX piL d (kdAt 0) (Vars.set (bindAll [Str.ofString "context"] [.ref C]) "parent_map" .none) (gb.getD 0 default) σ .next (Vars.set (Vars.set (bindAll [Str.ofString "context"] [.ref C]) "parent_map" .none) "parent_map" (.ref σ.length)) σ1 := by
    rw [hσ1]
    apply x_assign2
    · exact fun env => rfl
    · exact fun env => rfl
    · exact e_dict0
    · apply a_attr
      · kernel_rfl
      · (repeat (((with_reducible apply e_var); kernel_rfl; (focus ((repeat (first | (with_reducible exact b_hit) | ((with_reducible apply v_ne); kernel_rfl))); done)))))
      · exact get_old hC
      · simp
    · exact a_name rfl
  apply c_fn f_get_parent_map (by kernel_rfl) rfl
  apply xs_cons
  · apply x_assign
    · kernel_rfl
    · apply e_attrC
      · constructor
      · kernel_rfl
      · (repeat (((with_reducible apply e_var); kernel_rfl; (focus ((repeat ((with_reducible exact b_hit))); done)))))
      · exact hC
      · rfl
    · exact a_name rfl
  apply xs_cons
  · apply x_ifT
    · apply t_cmp (by rfl)
      · (repeat (((with_reducible apply e_var); kernel_rfl; (focus ((repeat ((with_reducible exact v_hit))); done)))))
      · (repeat ((with_reducible exact e_none)))
      · exact c_isNN
    · apply xs_cons
      · exact x1
      apply xs_cons
      · apply x_for
        · rfl
        · apply e_callAttr
          · constructor
          · rfl
          · kernel_rfl
          · apply e_attr
            · constructor
            · kernel_rfl
            · (repeat (((with_reducible apply e_var); kernel_rfl; (focus ((repeat (first | (with_reducible exact b_hit) | ((with_reducible apply v_ne); kernel_rfl))); done)))))
            · exact io_ref (by rw [gC, put_pm])
            · (repeat ((focus ((repeat ((with_reducible exact l_hit))); done))))
          · exact k1 _ _ hRoC hRo
          · rfl
          · exact hcall _
        · exact mk_list hF1.row
        · (repeat (((with_reducible exact lk_name))))
        · exact t1
      exact xs_nil
  apply xs_ret
  apply x_return
  apply e_var
  · kernel_rfl
  · exact t2
theorem c_fnL {P : PI} {d : Nat} {ρ' : Vars} {σ σ' : St} {v : AVal} {x nm : Str} {ps : List Str} {body : List Stmt} {names : List (Str × NameKind)} {vs : List AVal} {fl : Flw} (h0 : P.fn x = some (ps, body, names)) (h1 : P.maker x = some nm) (h2 : ps.length = vs.length) (hr : retOf fl = some v)
    (h3 : EvXsL P d nm (fun x => names.lookup x) (bindAll ps vs) body σ fl ρ' σ') : EvC P (d + 1) (.fn x) vs σ v σ' := ⟨rfl, fun ok ha R Vf V => by
  obtain ⟨f, hf, F⟩ := ok.fn x ps body names h0
  cases Vf using VRel.fnE with
  | fn e =>
    rw [hf] at e; cases e
    exact wpAny_call (callFnL F h1 hf h3 h2 hr ok ha R V fun v' s' G' φ' R' V' S' => ⟨G', φ', R', V', S'⟩)⟩
theorem cls_ok {d : Nat} {σ : St} {v : AVal} (h : notBi v = true) : EvC piL (d + 2) .cls [v] σ (.ref σ.length) (σ ++ [.inst [(Str.ofString "root", v)]]) := by
  rw [show σ ++ [AObj.inst [(Str.ofString "root", v)]] = (σ ++ [AObj.inst []]).set σ.length (.inst (putAt "root" v [])) by rw [set_new]; rfl]
  apply c_cls' i_cls
  · rfl
  · apply xs_cons
    · apply x_assign
      · kernel_rfl
      · (repeat (((with_reducible apply e_var); kernel_rfl; (focus ((repeat (first | (with_reducible exact b_hit) | ((with_reducible apply b_ne); kernel_rfl))); done)))))
      · apply a_attr
        · rw [h]; kernel_rfl
        · (repeat (((with_reducible apply e_var); kernel_rfl; (focus ((repeat ((with_reducible exact b_hit))); done)))))
        · exact get_new
        · decide
    · (repeat ((with_reducible exact xs_nil)))
noncomputable def lamK (s : Stmt) : LB := match s with
  | .Assign _ (.Lambda _ b sc _) _ => ⟨b, [], sc.names⟩
  | _ => default
theorem put_it {r v : AVal} : putAt "iter" v [(Str.ofString "root", r)] = [(Str.ofString "root", r), (Str.ofString "iter", v)] := rfl
theorem asked_ok {d R : Nat} {rows : List (Nat × List Int)} {σ : St} (hr : rows.length ≤ 200) (hF : Fam σ R rows) :
    ∃ σ' M, EvC piL (d + 4) (.fn "_law_asked") [.ref R] σ (.ref M) σ' ∧ σ'[M]? = some (.dict (tabD [] rows)) ∧ ∀ (i : Nat) o', σ[i]? = some o' → σ'[i]? = some o' := by
  obtain ⟨lamv, hlam⟩ : ∃ lamv, lamv = AVal.lam (lamK (st 3 1)) [Str.ofString "rows"] [.ref R] := ⟨_, rfl⟩
  have hcall : ∀ σ, EvC piL (d + 2) lamv [] σ (.ref R) σ := fun σ => by
    rw [hlam]
    apply c_lam
    · kernel_rfl
    · apply e_var
      · kernel_rfl
      · kernel_rfl
  obtain ⟨σ1, hσ1⟩ : ∃ σ1, σ1 = σ ++ [AObj.inst [(Str.ofString "root", .none)]] := ⟨_, rfl⟩
  have g1 : σ1[σ.length]? = some (.inst [(Str.ofString "root", .none)]) := by rw [hσ1]; exact get_new
  obtain ⟨σ2, hσ2⟩ : ∃ σ2, σ2 = σ1.set σ.length (.inst (putAt "iter" lamv [(Str.ofString "root", .none)])) := ⟨_, rfl⟩
  have g2 : σ2[σ.length]? = some (.inst [(Str.ofString "root", .none), (Str.ofString "iter", lamv)]) := by rw [hσ2, set_hit g1, put_it]
  have k2 : ∀ (i : Nat) o', σ[i]? = some o' → σ2[i]? = some o' := fun i o' h => by rw [hσ2, hσ1]; exact set_ne (by have := lt_get h; lia) (get_old h)
  obtain ⟨σ3, hσ3⟩ : ∃ σ3, σ3 = σ2 ++ [AObj.inst [(Str.ofString "root", .ref σ.length)]] := ⟨_, rfl⟩
  have k3 : ∀ (i : Nat) o', σ2[i]? = some o' → σ3[i]? = some o' := fun i o' h => by rw [hσ3]; exact get_old h
  have g3 : σ3[σ2.length]? = some (.inst [(Str.ofString "root", .ref σ.length)]) := by rw [hσ3]; exact get_new
  obtain ⟨σ', a1, a2, a3⟩ := gpm_ok (d := d + 2) (C := σ2.length) (Ro := σ.length) (lamv := lamv) hr (hF.keep fun i o' h => k3 _ _ (k2 i o' h)) g3 (k3 _ _ g2) hcall
  have l2 : σ.length < σ2.length := lt_get g2
  refine ⟨σ', σ3.length, ?_, a2, fun i o' h => a3 i o' (by have := lt_get h; lia) (k3 _ _ (k2 i o' h))⟩
  apply c_fnL (fl := .ret (.ref σ3.length)) f_l_asked (by kernel_rfl) rfl rfl
  apply xsl_cons (ρ₁ := Vars.set (bindAll [Str.ofString "rows"] [.ref R]) "root" (.ref σ.length)) (σ₁ := σ1)
  · rw [hσ1]
    apply x_assign
    · kernel_rfl
    · apply e_call
      · (repeat (((with_reducible apply e_glob); kernel_rfl; (exact g_cls))))
      · (repeat (first | (with_reducible first | exact es_nil | exact e_none) | ((with_reducible apply es_cons); (kernel_rfl))))
      · exact cls_ok rfl
    · exact a_name rfl
  apply xsl_consL (ρ₁ := Vars.set (bindAll [Str.ofString "rows"] [.ref R]) "root" (.ref σ.length)) (σ₁ := σ2)
  · rw [hσ2]
    apply xl_assign (v := lamv) (σ₁ := σ1)
    · kernel_rfl
    · rw [hlam]
      apply el_lam1
      · exact fun env => rfl
      · exact bind_args0
      · kernel_rfl
      · kernel_rfl
      · (focus ((repeat (first | (with_reducible exact b_hit) | ((with_reducible apply v_ne); kernel_rfl))); done))
      · kernel_rfl
    · apply a_attr
      · rw [hlam]; kernel_rfl
      · (repeat (((with_reducible apply e_var); kernel_rfl; (focus ((repeat ((with_reducible exact v_hit))); done)))))
      · exact g1
      · simp
  apply xsl_of
  apply xs_ret
  apply x_return
  apply e_call (σ₂ := σ3)
  · (repeat (((with_reducible apply e_glob); kernel_rfl; (exact g_get_parent_map))))
  · apply es_cons (by rfl) (v := .ref σ2.length) (σ₁ := σ3)
    · rw [hσ3]
      apply e_call
      · (repeat (((with_reducible apply e_glob); kernel_rfl; (exact g_cls))))
      · (repeat (first | (with_reducible exact es_nil) | ((with_reducible apply es_cons); (kernel_rfl)) | ((with_reducible apply e_var); kernel_rfl; (focus ((repeat ((with_reducible exact v_hit))); done)))))
      · exact cls_ok rfl
    · exact es_nil
  · exact a1
theorem putD_look {K : Type} [DecidableEq K] {k j : K} {v : AVal} : ∀ D : List (K × AVal), lookD (putD D k v) j = if j = k then some v else lookD D j := by
  have ap : ∀ D : List (K × AVal), hasD D k = false → lookD (D ++ [(k, v)]) j = if j = k then some v else lookD D j := by
    intro D
    induction D with
    | nil =>
      intro _
      show (if k = j then some v else none) = _
      by_cases e : j = k
      · rw [if_pos e, if_pos e.symm]
      · rw [if_neg e, if_neg (Ne.symm e)]; rfl
    | cons p r ih =>
      intro h
      unfold hasD at h
      rw [List.any_cons, Bool.or_eq_false_iff] at h
      have ih := ih h.2
      obtain ⟨a, w⟩ := p
      have hne : ¬ a = k := by simpa using h.1
      show (if a = j then some w else lookD (r ++ [(k, v)]) j) = if j = k then some v else (if a = j then some w else lookD r j)
      by_cases e : a = j
      · rw [if_pos e, if_pos e, if_neg fun z => hne (e.trans z)]
      · rw [if_neg e, if_neg e]; exact ih
  have mp : ∀ D : List (K × AVal), hasD D k = true → lookD (D.map fun kv => if kv.1 = k then (kv.1, v) else kv) j = if j = k then some v else lookD D j := by
    intro D
    induction D with
    | nil => intro h; cases h
    | cons p r ih =>
      intro h
      obtain ⟨a, w⟩ := p
      rw [List.map_cons]
      by_cases ea : a = k
      · rw [if_pos ea]
        show (if a = j then some v else lookD (r.map _) j) = if j = k then some v else (if a = j then some w else lookD r j)
        by_cases e : a = j
        · rw [if_pos e, if_pos (e.symm.trans ea)]
        · rw [if_neg e, if_neg e, if_neg fun z => e (ea.trans z.symm)]
          have hj : ¬ j = k := fun z => e (ea.trans z.symm)
          clear ih h
          induction r with
          | nil => rfl
          | cons q r ih =>
            obtain ⟨b, u⟩ := q
            rw [List.map_cons]
            by_cases eb : b = k
            · rw [if_pos eb]
              show (if b = j then some v else lookD (r.map _) j) = (if b = j then some u else lookD r j)
              rw [if_neg fun z => hj (z.symm.trans eb), if_neg fun z => hj (z.symm.trans eb)]
              exact ih
            · rw [if_neg eb]
              show (if b = j then some u else lookD (r.map _) j) = (if b = j then some u else lookD r j)
              rw [ih]
      · rw [if_neg ea]
        unfold hasD at h
        rw [List.any_cons, decide_eq_false ea, Bool.false_or] at h
        show (if a = j then some w else lookD (r.map _) j) = if j = k then some v else (if a = j then some w else lookD r j)
        by_cases e : a = j
        · rw [if_pos e, if_pos e, if_neg fun z => ea (e.trans z)]
        · rw [if_neg e, if_neg e]; exact ih h
  intro D
  unfold putD
  cases h : hasD D k with
  | true => rw [if_pos rfl]; exact mp D h
  | false => rw [if_neg (by decide)]; exact ap D h
theorem famD_look (a : Nat) (j : Int) : ∀ (xs : List Int) (D : List (Int × AVal)), lookD (famD a D xs) j = if j ∈ xs then some (.ref a) else lookD D j
  | [], D => by rw [if_neg (fun h => nomatch h)]; rfl
  | x :: r, D => by
    show lookD (famD a (putD D x (.ref a)) r) j = _
    rw [famD_look a j r, putD_look]
    by_cases h : j ∈ r
    · rw [if_pos h, if_pos (.tail _ h)]
    · rw [if_neg h]
      by_cases e : j = x
      · rw [if_pos e, if_pos (by rw [e]; exact .head _)]
      · rw [if_neg e, if_neg fun z => (List.mem_cons.mp z).elim e h]
theorem tabD_look (j : Int) : ∀ (rows : List (Nat × List Int)) (D : List (Int × AVal)), lookD (tabD D rows) j = match (rows.filter fun q => decide (j ∈ q.2)).getLast? with
    | some q => some (.ref q.1)
    | none => lookD D j
  | [], D => rfl
  | q :: r, D => by
    show lookD (tabD (famD q.1 D q.2) r) j = _
    rw [tabD_look j r, famD_look]
    by_cases h : j ∈ q.2
    · rw [if_pos h, List.filter_cons_of_pos (by simpa using h), List.getLast?_cons]
      cases (r.filter fun q => decide (j ∈ q.2)).getLast? <;> rfl
    · rw [if_neg h, List.filter_cons_of_neg (by simpa using h)]
theorem putD_nodup {D : List (Int × AVal)} {k : Int} {v : AVal} (h : (D.map (·.1)).Nodup) : ((putD D k v).map (·.1)).Nodup := by
  unfold putD
  cases q : hasD D k with
  | true => rw [if_pos rfl, put_keys]; exact h
  | false =>
    rw [if_neg (by decide), List.map_append, List.nodup_append]
    refine ⟨h, by simp, fun a ha b hb => ?_⟩
    rw [List.mem_singleton.mp hb]
    intro e
    unfold hasD at q
    rw [any_keys, List.any_eq_false] at q
    exact q a ha (decide_eq_true e)
theorem famD_nodup (a : Nat) : ∀ (xs : List Int) (D : List (Int × AVal)), (D.map (·.1)).Nodup → ((famD a D xs).map (·.1)).Nodup
  | [], D, h => h
  | x :: r, D, h => famD_nodup a r _ (putD_nodup h)
theorem tabD_nodup : ∀ (rows : List (Nat × List Int)) (D : List (Int × AVal)), (D.map (·.1)).Nodup → ((tabD D rows).map (·.1)).Nodup
  | [], D, h => h
  | q :: r, D, h => tabD_nodup r _ (famD_nodup _ _ _ h)
theorem key_look {j : Int} : ∀ D : List (Int × AVal), j ∈ D.map (·.1) ↔ (lookD D j).isSome = true := fun D => by
  rw [← hasD_look]
  unfold hasD
  rw [any_keys, List.any_eq_true]
  constructor
  · intro h; exact ⟨j, h, by simp⟩
  · rintro ⟨x, hx, e⟩
    have : x = j := by simpa using e
    exact this ▸ hx
noncomputable def secOf (p : Nat × Nat) : List Int := (List.range (p.2 - p.1)).map fun i : Nat => (p.1 : Int) + (i : Int)
structure Cls (S : Nat) (σ : St) (C : Nat) (ads : List Nat) (ps : List (Nat × Nat)) : Prop where
  row : σ[C]? = some (.list (ads.map .ref))
  len : ads.length = ps.length
  el : ∀ (i : Nat) a p, ads[i]? = some a → ps[i]? = some p → σ[a]? = some (.list ((secOf p).map .int))
  ne : ∀ a ∈ ads, a ≠ S ∧ a ≠ C
theorem cls_len (T : Nat → Nat) : ∀ k, (cls T k).length ≤ k
  | 0 => Nat.le_refl _
  | k + 1 => by
    have := cls_len T k
    unfold cls
    split
    · split
      · rw [List.length_append, List.length_singleton]; lia
      · lia
    · lia
theorem stk_len (T : Nat → Nat) : ∀ k, (stk T k).length ≤ k
  | 0 => Nat.le_refl _
  | k + 1 => by
    have := stk_len T k
    unfold stk
    split
    · rw [List.length_cons]; lia
    · split
      · rw [List.length_tail]; lia
      · lia
noncomputable def natR (l : List Nat) : AObj := .list ((l.reverse.map fun n : Nat => (n : Int)).map .int)
theorem first_loop {d S C : Nat} {L : List Nat} (hS : Sgs L) (hW : Wf L) (hl : L.length ≤ 500) (hSC : S ≠ C) : ∀ (m k : Nat) (σ : St) (ρ : Vars) (ads : List Nat), k + m = L.length → ρ "text" = some (.str (tx L)) → ρ "stack" = some (.ref S) → ρ "closing" = some (.ref C) → σ[S]? = some (natR (stk (sg L) k)) → Cls S σ C ads (cls (sg L) k) →
    ∃ ρ' σ' ads', EvF piL d (kdAt 4) ρ (forT (bodyAt 4) 3) (forB (bodyAt 4) 3) (.rng k m 1) σ .next ρ' σ' ∧ ρ' "text" = some (.str (tx L)) ∧ ρ' "closing" = some (.ref C) ∧ Cls S σ' C ads' (cls (sg L) L.length)
  | 0, k, σ, ρ, ads, hk, h1, h2, h3, hs, hC => ⟨ρ, σ, ads, f_end (n_rngEnd (by decide)), h1, h3, by rw [← show k = L.length by lia]; exact hC⟩
  | m + 1, k, σ, ρ, ads, hk, h1, h2, h3, hs, hC => by
    have hkl : k < L.length := by lia
    have hat : ∀ b, b ≤ 2 → ((⟨#[chr (sg L k)]⟩ : Str) == tx [b]) = decide (sg L k = b) := fun b hb => sgn_eq hS hkl hb
    have next : ∀ {σ1 : St} {ρ1 : Vars} {ads1 : List Nat}, EvXs piL d (kdAt 4) (Vars.set ρ "k" (.int (k : Int))) (forB (bodyAt 4) 3) σ .next ρ1 σ1 → ρ1 "text" = some (.str (tx L)) → ρ1 "stack" = some (.ref S) → ρ1 "closing" = some (.ref C) → σ1[S]? = some (natR (stk (sg L) (k + 1))) → Cls S σ1 C ads1 (cls (sg L) (k + 1)) →
        ∃ ρ' σ' ads', EvF piL d (kdAt 4) ρ (forT (bodyAt 4) 3) (forB (bodyAt 4) 3) (.rng k ((m + 1 : Nat) : Int) 1) σ .next ρ' σ' ∧ ρ' "text" = some (.str (tx L)) ∧ ρ' "closing" = some (.ref C) ∧ Cls S σ' C ads' (cls (sg L) L.length) := by
      intro σ1 ρ1 ads1 hb q1 q2 q3 q4 q5
      obtain ⟨ρ', σ', ads', t1, t2, t3, t4⟩ := first_loop (d := d) hS hW hl hSC m (k + 1) σ1 ρ1 ads1 (by lia) q1 q2 q3 q4 q5
      refine ⟨ρ', σ', ads', f_more (n_rng (by lia)) (a_name (by kernel_rfl)) hb ?_, t2, t3, t4⟩
      rw [show ((m + 1 : Nat) : Int) - 1 = (m : Int) by lia, show (k : Int) + 1 = ((k + 1 : Nat) : Int) by lia]
      exact t1
    have lsk := stk_len (sg L) k
    have lck := cls_len (sg L) k
    have hCr := hC.row
    have hCl := hC.len
    unfold natR at hs
    by_cases c0 : sg L k = 0
    · have es : stk (sg L) (k + 1) = k :: stk (sg L) k := by rw [stk, if_pos c0]
      have ec : cls (sg L) (k + 1) = cls (sg L) k := by rw [cls, if_neg (by lia)]
      have zS : (((stk (sg L) k).reverse.map fun n : Nat => (n : Int)).map AVal.int).length ≤ lim := by simp [lim]; lia
      refine next (σ1 := σ.set S (.list (((stk (sg L) k).reverse.map fun n : Nat => (n : Int)).map AVal.int ++ [.int (k : Int)]))) (ρ1 := Vars.set ρ "k" (.int (k : Int))) (ads1 := ads) ?_ (by (focus ((repeat (assumption)); done))) (by (focus ((repeat (assumption)); done))) (by (focus ((repeat (assumption)); done))) (by rw [es, set_hit hs]; simp [natR]) ?_
      · apply xs_cons
        · apply x_ifT
          · apply t_cmp (by rfl)
            · apply sign_at (L := L) (k := k) (b := 0) hS hkl (by lia)
              · (repeat (((with_reducible apply e_var); kernel_rfl; (focus ((repeat (assumption)); done)))))
              · (repeat (((with_reducible apply e_var); kernel_rfl; (focus ((repeat ((with_reducible exact v_hit))); done)))))
            · (repeat ((with_reducible exact e_str)))
            · exact c_seq (by rw [s0, hat 0 (by decide)]; exact decide_eq_true c0)
          · apply xs_cons
            · apply x_expr rfl
              apply e_append
              · constructor
              · kernel_rfl
              · (repeat (((with_reducible apply e_var); kernel_rfl; (focus ((repeat (assumption)); done)))))
              · exact hs
              · (repeat (((with_reducible apply e_var); kernel_rfl; (focus ((repeat ((with_reducible exact v_hit))); done)))))
              · exact hs
              · exact zS
            exact xs_nil
        exact xs_nil
      · rw [ec]
        exact ⟨set_ne hSC hCr, hCl, fun i a p h1 h2 => set_ne (Ne.symm (hC.ne a (List.mem_of_getElem? h1)).1) (hC.el i a p h1 h2), hC.ne⟩
    · by_cases c1 : sg L k = 1
      · obtain ⟨o, r, hor⟩ : ∃ o r, stk (sg L) k = o :: r := by
          cases hq : stk (sg L) k with
          | nil => exact absurd hq (hW.open_ k hkl c1)
          | cons o r => exact ⟨o, r, rfl⟩
        have ho : o < k := stk_lt (T := sg L) (by rw [hor]; exact .head _)
        have es : stk (sg L) (k + 1) = r := by rw [stk, if_neg c0, if_pos c1, hor]; rfl
        have ec : cls (sg L) (k + 1) = cls (sg L) k ++ [(o, k)] := by rw [cls, if_pos c1, hor]
        have hs' : σ[S]? = some (.list ((r.reverse.map fun n : Nat => (n : Int)).map AVal.int ++ [.int (o : Int)])) := by rw [hs, hor]; simp
        have lr : r.length < k := by rw [hor, List.length_cons] at lsk; lia
        have zS : ((r.reverse.map fun n : Nat => (n : Int)).map AVal.int).length < lim := by simp [lim]; lia
        obtain ⟨σa, hσa⟩ : ∃ σa, σa = σ.set S (.list ((r.reverse.map fun n : Nat => (n : Int)).map AVal.int)) := ⟨_, rfl⟩
        have ga : σa[S]? = some (natR r) := by rw [hσa]; exact set_hit hs'
        have ka : ∀ (i : Nat) o', i ≠ S → σ[i]? = some o' → σa[i]? = some o' := fun i o' hi h => by rw [hσa]; exact set_ne (Ne.symm hi) h
        have hz : Builtin.Range.rangeSize (o : Int) (k : Int) 1 = ((k - o : Nat) : Int) := by rw [rangeSize_one]; simp; lia
        have hlr : EvC piL d (.ty "list") [.rng (o : Int) (k : Int) 1] σa (.ref σa.length) (σa ++ [.list ((secOf (o, k)).map .int)]) := by
          have := c_listRange (P := piL) (d := d) (σ := σa) (x := (o : Int)) (y := (k : Int)) (small_one (by lia) (by lia) (by lia) (by lia)) (by rw [hz]; unfold lim; lia)
          rw [hz, Int.toNat_natCast] at this
          unfold secOf
          rw [List.map_map]
          exact this
        obtain ⟨σb, hσb⟩ : ∃ σb, σb = σa ++ [AObj.list ((secOf (o, k)).map .int)] := ⟨_, rfl⟩
        have gb' : σb[σa.length]? = some (.list ((secOf (o, k)).map .int)) := by rw [hσb]; exact get_new
        have kb : ∀ (i : Nat) o', σa[i]? = some o' → σb[i]? = some o' := fun i o' h => by rw [hσb]; exact get_old h
        rw [← hσb] at hlr
        have hCa := ka _ _ (Ne.symm hSC) hCr
        have hCb := kb _ _ hCa
        have zC : (ads.map AVal.ref).length ≤ lim := by simp [lim]; lia
        have lS := lt_get ga
        have lC := lt_get hCa
        refine next (σ1 := σb.set C (.list (ads.map AVal.ref ++ [.ref σa.length]))) (ρ1 := Vars.set ρ "k" (.int (k : Int))) (ads1 := ads ++ [σa.length]) ?_ (by (focus ((repeat (assumption)); done))) (by (focus ((repeat (assumption)); done))) (by (focus ((repeat (assumption)); done))) (by rw [es]; exact set_ne (Ne.symm hSC) (kb _ _ ga)) ?_
        · apply xs_cons
          · apply x_ifF
            · apply t_cmp (by rfl)
              · apply sign_at (L := L) (k := k) (b := 0) hS hkl (by lia)
                · (repeat (((with_reducible apply e_var); kernel_rfl; (focus ((repeat (assumption)); done)))))
                · (repeat (((with_reducible apply e_var); kernel_rfl; (focus ((repeat ((with_reducible exact v_hit))); done)))))
              · (repeat ((with_reducible exact e_str)))
              · exact c_seq (by rw [s0, hat 0 (by decide)]; exact decide_eq_false c0)
            · apply xs_cons
              · apply x_ifT
                · apply t_cmp (by rfl)
                  · apply sign_at (L := L) (k := k) (b := 1) hS hkl (by lia)
                    · (repeat (((with_reducible apply e_var); kernel_rfl; (focus ((repeat (assumption)); done)))))
                    · (repeat (((with_reducible apply e_var); kernel_rfl; (focus ((repeat ((with_reducible exact v_hit))); done)))))
                  · (repeat ((with_reducible exact e_str)))
                  · exact c_seq (by rw [s1, hat 1 (by decide)]; exact decide_eq_true c1)
                · apply xs_cons
                  · apply x_expr rfl
                    apply e_append (σ₂ := σb)
                    · constructor
                    · kernel_rfl
                    · (repeat (((with_reducible apply e_var); kernel_rfl; (focus ((repeat (assumption)); done)))))
                    · exact hCr
                    · apply e_call (σ₂ := σa)
                      · (repeat (((with_reducible apply e_glob); kernel_rfl; (exact g_list))))
                      · apply es_cons (by rfl) (v := .rng (o : Int) (k : Int) 1) (σ₁ := σa)
                        · apply e_call (σ₂ := σa)
                          · (repeat (((with_reducible apply e_glob); kernel_rfl; (exact g_range))))
                          · apply es_cons (by rfl) (v := .int (o : Int)) (σ₁ := σa)
                            · rw [hσa]
                              apply e_meth
                              · exact .plain (by constructor)
                              · kernel_rfl
                              · (repeat (((with_reducible apply e_var); kernel_rfl; (focus ((repeat (assumption)); done)))))
                              · exact mt_pop hs'
                              · exact es_nil
                              · exact c_pop hs' zS
                            apply es_cons (by rfl) (v := .int (k : Int)) (σ₁ := σa)
                            · (repeat (((with_reducible apply e_var); kernel_rfl; (focus ((repeat ((with_reducible exact v_hit))); done)))))
                            exact es_nil
                          · exact c_range2
                        exact es_nil
                      · exact hlr
                    · exact hCb
                    · exact zC
                  exact xs_nil
              exact xs_nil
          exact xs_nil
        · rw [ec]
          have e0 : ads.map AVal.ref ++ [.ref σa.length] = (ads ++ [σa.length]).map AVal.ref := by simp
          rw [e0]
          refine ⟨set_hit hCb, by simp [hCl], fun i a p h1 h2 => ?_, fun a ha => ?_⟩
          · by_cases hi : i < ads.length
            · rw [List.getElem?_append_left hi] at h1
              rw [List.getElem?_append_left (by lia)] at h2
              obtain ⟨n1, n2⟩ := hC.ne a (List.mem_of_getElem? h1)
              exact set_ne (Ne.symm n2) (kb _ _ (ka _ _ n1 (hC.el i a p h1 h2)))
            · have hi2 : i = ads.length := by
                have := (List.getElem?_eq_some_iff.mp h1).1
                simp at this; lia
              subst hi2
              rw [List.getElem?_append_right (by lia)] at h1
              rw [hCl, List.getElem?_append_right (by lia)] at h2
              simp at h1 h2
              subst h1 h2
              exact set_ne (by lia) gb'
          · rcases List.mem_append.mp ha with ha | ha
            · exact hC.ne a ha
            · rw [List.mem_singleton.mp ha]; exact ⟨by lia, by lia⟩
      · have es : stk (sg L) (k + 1) = stk (sg L) k := by rw [stk, if_neg c0, if_neg c1]
        have ec : cls (sg L) (k + 1) = cls (sg L) k := by rw [cls, if_neg c1]
        refine next (σ1 := σ) (ρ1 := Vars.set ρ "k" (.int (k : Int))) (ads1 := ads) ?_ (by (focus ((repeat (assumption)); done))) (by (focus ((repeat (assumption)); done))) (by (focus ((repeat (assumption)); done))) (by rw [es]; exact hs) (by rw [ec]; exact hC)
        apply xs_cons
        · apply x_ifF
          · apply t_cmp (by rfl)
            · apply sign_at (L := L) (k := k) (b := 0) hS hkl (by lia)
              · (repeat (((with_reducible apply e_var); kernel_rfl; (focus ((repeat (assumption)); done)))))
              · (repeat (((with_reducible apply e_var); kernel_rfl; (focus ((repeat ((with_reducible exact v_hit))); done)))))
            · (repeat ((with_reducible exact e_str)))
            · exact c_seq (by rw [s0, hat 0 (by decide)]; exact decide_eq_false c0)
          · apply xs_cons
            · apply x_ifF
              · apply t_cmp (by rfl)
                · apply sign_at (L := L) (k := k) (b := 1) hS hkl (by lia)
                  · (repeat (((with_reducible apply e_var); kernel_rfl; (focus ((repeat (assumption)); done)))))
                  · (repeat (((with_reducible apply e_var); kernel_rfl; (focus ((repeat ((with_reducible exact v_hit))); done)))))
                · (repeat ((with_reducible exact e_str)))
                · exact c_seq (by rw [s1, hat 1 (by decide)]; exact decide_eq_false c1)
              · exact xs_nil
            exact xs_nil
        exact xs_nil
theorem pickL_tail {α : Type} (xs : List α) : pickL xs (some 1) none none = xs.drop 1 := by
  unfold pickL
  cases xs with
  | nil =>
    rfl
  | cons x r =>
    have hb : sliceBounds (some 1) none none (x :: r).length = (1, ((x :: r).length : Int), 1) := by
      unfold sliceBounds
      simp
      try lia
    rw [hb]
    have hs : sliceRange 1 ((x :: r).length : Int) 1 = (List.range r.length).map fun k => k + 1 := by
      unfold sliceRange
      rw [if_pos (by decide)]
      have hc : (if (1 : Int) < ((x :: r).length : Int) then (((x :: r).length : Int) - 1 + 1 - 1) / 1 else 0).toNat = r.length := by
        split
        · simp
        · rename_i h
          simp at h ⊢
          first | exact h.symm | (rw [h]; rfl) | lia
      show (List.range (if (1 : Int) < ((x :: r).length : Int) then (((x :: r).length : Int) - 1 + 1 - 1) / 1 else 0).toNat).map _ = _
      rw [hc]
      exact List.map_congr_left fun k _ => by lia
    show (sliceRange 1 ((x :: r).length : Int) 1).filterMap ((x :: r)[·]?) = r
    rw [hs, List.filterMap_map]
    have : ((fun y => (x :: r)[y]?) ∘ fun k => k + 1) = fun k => r[k]? := by funext k; simp
    rw [this]
    exact all_at r
noncomputable def rowsAt (b : Nat) (ps : List (Nat × Nat)) : List (Nat × List Int) := (List.range ps.length).map fun i => (b + 1 + i, (secOf (ps.getD i (0, 0))).drop 1)
noncomputable def cutO (σ : St) : AVal → AObj
  | .ref a => match σ[a]? with
    | some (.list vs) => .list (vs.drop 1)
    | _ => .lend
  | _ => .lend
structure Prs (σ : St) (W : Nat) (as : List Nat) (ps : List (Nat × Nat)) : Prop where
  row : σ[W]? = some (.list (as.map .ref))
  len : as.length = ps.length
  el : ∀ (i : Nat) a p, as[i]? = some a → ps[i]? = some p → σ[a]? = some (.list ((secOf p).map .int))
theorem secOf_len (p : Nat × Nat) : (secOf p).length = p.2 - p.1 := by simp [secOf]
theorem sliced {d W : Nat} {kd : Kinds} {ρ : Vars} {elt : Expr} {σ : St} {as : List Nat} {ps : List (Nat × Nat)} (hP : Prs σ W as ps) (hl : ps.length ≤ 200) (hs : ∀ p ∈ ps, p.2 ≤ 200)
    (hE : ∀ (a : Nat) (vs : List AVal) (τ : St), τ[a]? = some (.list vs) → vs.length ≤ lim → EvE piL d kd (Vars.set ρ "pair" (.ref a)) elt τ (.ref τ.length) (τ ++ [.list (vs.drop 1)])) :
    ∃ σ', EvCm piL d kd ρ "pair" elt [] σ.length (.seq (.ref W) 0) (σ ++ [.list []]) σ' ∧ Fam σ' σ.length (rowsAt σ.length ps) ∧ ∀ (i : Nat) o', σ[i]? = some o' → σ'[i]? = some o' := by
  have hpn : ∀ (i : Nat) a, as[i]? = some a → ∃ p, ps[i]? = some p ∧ σ[a]? = some (.list ((secOf p).map .int)) := fun i a h => by
    have hi : i < ps.length := by rw [← hP.len]; exact (List.getElem?_eq_some_iff.mp h).1
    exact ⟨ps[i], List.getElem?_eq_getElem hi, hP.el i a _ h (List.getElem?_eq_getElem hi)⟩
  have hcm := cm_alloc (P := piL) (d := d) (kd := kd) (ρ := ρ) (x := "pair") (elt := elt) (σ₁ := σ) (w := .ref W) (vs := as.map AVal.ref) (f := cutO σ) (fun l τ => src_ref2 hP.row) (by have := hP.len; simp [lim]; lia) fun v hv l τ => by
    obtain ⟨a, ha, rfl⟩ := List.mem_map.mp hv
    obtain ⟨i, hi⟩ := List.getElem?_of_mem ha
    obtain ⟨p, h1, h2⟩ := hpn i a hi
    have hp2 := hs p (List.mem_of_getElem? h1)
    have e : cutO σ (.ref a) = .list (((secOf p).map AVal.int).drop 1) := by
      show (match σ[a]? with | some (.list vs) => AObj.list (vs.drop 1) | _ => .lend) = _
      rw [h2]
    rw [e]
    exact hE a _ _ (get_old (get_old h2)) (by rw [List.length_map, secOf_len]; unfold lim; lia)
  refine ⟨_, hcm, ⟨?_, fun q hq => ?_⟩, fun i o' h => get_old (get_old h)⟩
  · rw [get_old get_new]
    unfold rowsAt
    rw [List.length_map, hP.len, List.map_map]; rfl
  · obtain ⟨i, hi, rfl⟩ := List.mem_map.mp hq
    have hi := List.mem_range.mp hi
    obtain ⟨a, ha⟩ : ∃ a, as[i]? = some a := ⟨_, List.getElem?_eq_getElem (by rw [hP.len]; exact hi)⟩
    obtain ⟨p, h1, h2⟩ := hpn i a ha
    have hp2 := hs p (List.mem_of_getElem? h1)
    have hg : ps.getD i (0, 0) = p := by simp [List.getD, h1]
    refine ⟨?_, ?_⟩
    · show (σ ++ [AObj.list _] ++ (as.map AVal.ref).map (cutO σ))[σ.length + 1 + i]? = some (.list (((secOf (ps.getD i (0, 0))).drop 1).map .int))
      rw [List.getElem?_append_right (by simp)]
      rw [show σ.length + 1 + i - (σ ++ [AObj.list ((List.range (as.map AVal.ref).length).map fun i => .ref (σ.length + 1 + i))]).length = i by simp]
      rw [hg, List.getElem?_map, List.getElem?_map, ha]
      show some (match σ[a]? with | some (.list vs) => AObj.list (vs.drop 1) | _ => .lend) = _
      rw [h2, List.map_drop]
    · show ((secOf (ps.getD i (0, 0))).drop 1).length ≤ 200
      rw [hg, List.length_drop, secOf_len]; lia
theorem sec_mem {p : Nat × Nat} {e : Nat} : ((e : Int) ∈ (secOf p).drop 1) ↔ p.1 < e ∧ e < p.2 := by
  have h : (secOf p).drop 1 = (List.range' 1 (p.2 - p.1 - 1)).map fun i : Nat => (p.1 : Int) + (i : Int) := by
    unfold secOf
    rw [← List.map_drop, List.range_eq_range', List.drop_range', Nat.zero_add, Nat.mul_one]
  rw [h, List.mem_map]
  constructor
  · rintro ⟨i, hi, he⟩
    have := List.mem_range'_1.mp hi
    lia
  · rintro ⟨h1, h2⟩
    exact ⟨e - p.1, List.mem_range'_1.mpr ⟨by lia, by lia⟩, by lia⟩
theorem sec_head {p : Nat × Nat} (h : p.1 + 1 < p.2) : ((secOf p).drop 1)[0]? = some ((p.1 : Int) + 1) := by
  unfold secOf
  rw [List.getElem?_drop, List.getElem?_map, List.getElem?_range (by lia)]
  rfl
theorem table_at {b e : Nat} {ps : List (Nat × Nat)} : match lastIn ps e with
    | none => lookD (tabD [] (rowsAt b ps)) (e : Int) = none
    | some o => ∃ q ∈ rowsAt b ps, lookD (tabD [] (rowsAt b ps)) (e : Int) = some (.ref q.1) ∧ q.2[0]? = some ((o : Int) + 1) := by
  have hz : ps = (List.range ps.length).map fun i => ps.getD i (0, 0) := by
    refine List.ext_getElem? fun i => ?_
    by_cases h : i < ps.length
    · simp [h]
    · simp [h]
  have e1 : (rowsAt b ps).filter (fun q => decide ((e : Int) ∈ q.2)) = ((List.range ps.length).filter fun i => decide ((ps.getD i (0, 0)).1 < e) && decide (e < (ps.getD i (0, 0)).2)).map fun i => (b + 1 + i, (secOf (ps.getD i (0, 0))).drop 1) := by
    unfold rowsAt
    rw [List.filter_map]
    congr 1
    refine List.filter_congr fun i _ => ?_
    show decide ((e : Int) ∈ (secOf (ps.getD i (0, 0))).drop 1) = _
    rw [Bool.eq_iff_iff, decide_eq_true_iff, sec_mem, Bool.and_eq_true, decide_eq_true_iff, decide_eq_true_iff]
  have e2 : ps.filter (fun p => decide (p.1 < e) && decide (e < p.2)) = ((List.range ps.length).filter fun i => decide ((ps.getD i (0, 0)).1 < e) && decide (e < (ps.getD i (0, 0)).2)).map fun i => ps.getD i (0, 0) := by
    have := congrArg (List.filter fun p : Nat × Nat => decide (p.1 < e) && decide (e < p.2)) hz
    rw [List.filter_map] at this
    exact this
  have hlast : lastIn ps e = (((List.range ps.length).filter fun i => decide ((ps.getD i (0, 0)).1 < e) && decide (e < (ps.getD i (0, 0)).2)).getLast?).map fun i => (ps.getD i (0, 0)).1 := by
    unfold lastIn
    rw [e2, List.getLast?_map, Option.map_map]; rfl
  have hlook := tabD_look (e : Int) (rowsAt b ps) []
  rw [e1, List.getLast?_map] at hlook
  rw [hlast]
  cases hq : ((List.range ps.length).filter fun i => decide ((ps.getD i (0, 0)).1 < e) && decide (e < (ps.getD i (0, 0)).2)).getLast? with
  | none =>
    rw [hq] at hlook
    exact hlook
  | some i =>
    rw [hq] at hlook
    have hm := List.mem_filter.mp (List.mem_of_getLast? hq)
    have hm2 := hm.2
    rw [Bool.and_eq_true, decide_eq_true_eq, decide_eq_true_eq] at hm2
    exact ⟨(b + 1 + i, (secOf (ps.getD i (0, 0))).drop 1), List.mem_map.mpr ⟨i, hm.1, rfl⟩, hlook, sec_head (by lia)⟩
noncomputable def Says (B : Nat) (σ : St) (D : List (Int × AVal)) (e : Nat) : Option Nat → Prop
  | none => lookD D (e : Int) = none
  | some o => ∃ a xs, lookD D (e : Int) = some (.ref a) ∧ σ[a]? = some (.list ((xs : List Int).map .int)) ∧ xs[0]? = some ((o : Int) + 1) ∧ a < B
structure Tab (B : Nat) (σ : St) (M : Nat) (D : List (Int × AVal)) (n : Nat) (sel : Nat → Option Nat) : Prop where
  dict : σ[M]? = some (.dict D)
  lt : M < B
  at_ : ∀ e, e < n → Says B σ D e (sel e)
theorem Tab.keep {B : Nat} {σ σ' : St} {M n : Nat} {D : List (Int × AVal)} {sel : Nat → Option Nat} (h : Tab B σ M D n sel) (hf : ∀ (i : Nat) o', i < B → σ[i]? = some o' → σ'[i]? = some o') : Tab B σ' M D n sel := ⟨hf _ _ h.lt h.dict, h.lt, fun e he => by
  have := h.at_ e he
  revert this
  cases sel e with
  | none => exact id
  | some o => exact fun ⟨a, xs, h1, h2, h3, h4⟩ => ⟨a, xs, h1, hf _ _ h4 h2, h3, h4⟩⟩
theorem Tab.isSome {B : Nat} {σ : St} {M n e : Nat} {D : List (Int × AVal)} {sel : Nat → Option Nat} (h : Tab B σ M D n sel) (he : e < n) : (lookD D (e : Int)).isSome = (sel e).isSome := by
  have := h.at_ e he
  revert this
  cases sel e with
  | none => intro h; rw [show lookD D (e : Int) = none from h]; rfl
  | some o => rintro ⟨a, xs, h1, _⟩; rw [h1]; rfl
noncomputable def wB (s : Stmt) : Expr × List Stmt := match s with
  | .While t b _ _ => (t, b)
  | _ => (default, [])
noncomputable abbrev lb (i : Nat) : Stmt := (forB (bodyAt 4) 7).getD i default
noncomputable abbrev wt : Expr := (wB (lb 5)).1
noncomputable abbrev wk : List Stmt := (wB (lb 5)).2
theorem set_set {ρ : Vars} {x : Str} {v w : AVal} : Vars.set (Vars.set ρ x v) x w = Vars.set ρ x w := by
  funext y
  unfold Vars.set
  split <;> rfl
theorem climb {B d I Mt k : Nat} {L : List Nat} {D : List (Int × AVal)} (hl : L.length ≤ 500) (hk : k < L.length) : ∀ (rest ms : List Nat) (x : Nat) (σ : St) (ρ : Vars), x < L.length → due (sg L) x = rest → due (sg L) k = ms ++ rest → Tab B σ I D L.length (fun e => (due (sg L) e).head?) → B ≤ Mt →
    ρ "text" = some (.str (tx L)) → ρ "inner" = some (.ref I) → ρ "met" = some (.ref Mt) → ρ "at" = some (.int (x : Int)) → σ[Mt]? = some (natsL ms) →
    ∃ at_ σ', EvW piL d (kdAt 4) ρ wt wk σ .next (Vars.set ρ "at" at_) σ' ∧ σ'[Mt]? = some (natsL (due (sg L) k)) ∧ ∀ (i : Nat) o', i ≠ Mt → σ[i]? = some o' → σ'[i]? = some o'
  | [], ms, x, σ, ρ, hx, hd, hdk, hT, hIM, h1, h2, h3, h4, hM => by
    have hn : (lookD D (x : Int)).isSome = false := by rw [hT.isSome hx, hd]; rfl
    refine ⟨.int (x : Int), σ, ?_, by rw [hdk, List.append_nil]; exact hM, fun _ _ _ h => h⟩
    have hρ : Vars.set ρ "at" (.int (x : Int)) = ρ := by
      funext y
      unfold Vars.set
      split
      · rename_i e; rw [e]; exact h4.symm
      · rfl
    rw [hρ]
    apply w_end
    apply t_bool
    apply ts_andF
    apply t_cmp (by rfl)
    · apply e_var
      · kernel_rfl
      · exact h4
    · apply e_var
      · kernel_rfl
      · exact h2
    · exact c_inD hT.dict hn
  | o :: rest, ms, x, σ, ρ, hx, hd, hdk, hT, hIM, h1, h2, h3, h4, hM => by
    have hs : (lookD D (x : Int)).isSome = true := by rw [hT.isSome hx, hd]; rfl
    have hsay := hT.at_ x hx
    rw [hd] at hsay
    obtain ⟨a, xs, q1, q2, q3, q4⟩ := hsay
    have ho : o ∈ due (sg L) x := by rw [hd]; exact .head _
    have hox : o < x := by
      unfold due at ho
      split at ho
      · exact stk_lt (List.mem_of_mem_tail ho)
      · exact stk_lt ho
    have hdl : (due (sg L) k).length ≤ k := by
      have := stk_len (sg L) k
      unfold due
      split
      · rw [List.length_tail]; lia
      · exact this
    have hml : ms.length < L.length := by rw [hdk, List.length_append, List.length_cons] at hdl; lia
    unfold natsL at hM
    have zM : ((ms.map fun n : Nat => (n : Int)).map AVal.int).length ≤ lim := by simp [lim]; lia
    have zM2 : ((ms.map fun n : Nat => (n : Int)).map AVal.int).length < L.length := by simpa using hml
    have hxs : (xs.map AVal.int)[(0 : Int).toNat]? = some (.int ((o : Int) + 1)) := by
      show (xs.map AVal.int)[0]? = _
      rw [List.getElem?_map, q3]; rfl
    have hD := hT.dict
    obtain ⟨at_, σ', t1, t2, t3⟩ := climb (B := B) (d := d) (I := I) (Mt := Mt) (k := k) (D := D) hl hk rest (ms ++ [o]) o (σ.set Mt (.list ((ms.map fun n : Nat => (n : Int)).map AVal.int ++ [.int (o : Int)]))) (Vars.set ρ "at" (.int (o : Int))) (by lia) (due_up hd) (by rw [hdk]; simp) (hT.keep fun i o' hi h => set_ne (by lia) h) hIM (by (focus ((repeat (assumption)); done))) (by (focus ((repeat (assumption)); done))) (by (focus ((repeat (assumption)); done))) (by exact v_hit) (by rw [set_hit hM]; simp [natsL])
    rw [set_set] at t1
    refine ⟨at_, σ', w_more (σ₁ := σ) (ρ₁ := Vars.set ρ "at" (.int (o : Int))) ?_ ?_ t1, t2, fun i o' hi h => t3 i o' hi (set_ne (Ne.symm hi) h)⟩
    · apply t_bool
      apply ts_andT (σ₁ := σ)
      · apply t_cmp (by rfl)
        · apply e_var
          · kernel_rfl
          · exact h4
        · apply e_var
          · kernel_rfl
          · exact h2
        · exact c_inD hD hs
      · apply and_last
        apply t_cmp (σ₁ := σ) (σ₂ := σ) (by rfl)
        · apply e_call
          · (repeat (((with_reducible apply e_glob); kernel_rfl; (exact g_len))))
          · (repeat (first | (with_reducible exact es_nil) | ((with_reducible apply es_cons); (kernel_rfl)) | ((with_reducible apply e_var); kernel_rfl; (focus ((repeat (assumption)); done)))))
          · exact c_lenList (lo_ref hM) zM
        · apply e_call
          · (repeat (((with_reducible apply e_glob); kernel_rfl; (exact g_len))))
          · (repeat (first | (with_reducible exact es_nil) | ((with_reducible apply es_cons); (kernel_rfl)) | ((with_reducible apply e_var); kernel_rfl; (focus ((repeat (assumption)); done)))))
          · exact c_lenStr (by rw [tx_len]; unfold lim; lia)
        · exact c_lt (by rw [tx_len]; exact decide_eq_true (by lia))
    · apply xs_cons (ρ₁ := Vars.set ρ "at" (.int (o : Int))) (σ₁ := σ)
      · have e1 : ((o : Int) + 1) - 1 = (o : Int) := by lia
        rw [← e1]
        apply x_assign
        · kernel_rfl
        · apply e_binop
          · apply e_item
            · apply e_item
              · apply e_var
                · kernel_rfl
                · exact h2
              · apply e_var
                · kernel_rfl
                · exact h4
              · exact it_dict hD q1
            · (repeat ((with_reducible exact e_int)))
            · exact it_list (lo_ref q2) (by decide) hxs (by decide)
          · (repeat ((with_reducible exact e_int)))
          · exact bo_sub
        · exact a_name rfl
      apply xs_cons
      · apply x_expr rfl
        apply e_append
        · constructor
        · kernel_rfl
        · (repeat (((with_reducible apply e_var); kernel_rfl; (focus ((repeat (assumption)); done)))))
        · exact hM
        · (repeat (((with_reducible apply e_var); kernel_rfl; (focus ((repeat ((with_reducible exact v_hit))); done)))))
        · exact hM
        · exact zM
      exact xs_nil
theorem due_ne {d : Nat} {kd : Kinds} {ρ : Vars} {σ : St} {F : Nat} {l : List Nat} (hF : σ[F]? = some (natsL l)) : CmpR .NotEq (.ref F) (.ref σ.length) (σ ++ [.list []]) (decide (l ≠ [])) := by
  refine c_neNil (lo_ref (get_old hF)) (lo_ref get_new) ?_
  cases l with
  | nil => rfl
  | cons a r => simp
theorem turn_ok {B d I O k : Nat} {h : Int} {L : List Nat} {DI DO : List (Int × AVal)} {σ : St} {ρ : Vars} (hS : Sgs L) (hl : L.length ≤ 500) (hk : k < L.length) (hTI : Tab B σ I DI L.length fun e => (due (sg L) e).head?) (hTO : Tab B σ O DO L.length fun e => (due (sg L) e).getLast?) (hB : B ≤ σ.length)
    (h1 : ρ "text" = some (.str (tx L))) (h2 : ρ "inner" = some (.ref I)) (h3 : ρ "outer" = some (.ref O)) (h4 : ρ "held" = some (.int h)) (h5 : ρ "k" = some (.int (k : Int))) :
    ∃ ρ' σ', EvXs piL (d + 1) (kdAt 4) ρ (forB (bodyAt 4) 7) σ .next ρ' σ' ∧ ρ' "text" = some (.str (tx L)) ∧ ρ' "inner" = some (.ref I) ∧ ρ' "outer" = some (.ref O) ∧ ρ' "held" = some (.int (h + if due (sg L) k ≠ [] then 1 else 0)) ∧ ∀ (i : Nat) o', σ[i]? = some o' → σ'[i]? = some o' := by
  obtain ⟨σ1, F, a1, a2, a3⟩ := open_ok (d := d) (σ := σ) hS hl hk
  obtain ⟨σ2, hσ2⟩ : ∃ σ2, σ2 = σ1 ++ [AObj.list []] := ⟨_, rfl⟩
  have k2 : ∀ (i : Nat) o', σ1[i]? = some o' → σ2[i]? = some o' := fun i o' h => by rw [hσ2]; exact get_old h
  have n2 := due_ne (d := d) (kd := kdAt 4) (ρ := ρ) a2
  rw [← hσ2] at n2
  obtain ⟨σ3, hσ3⟩ : ∃ σ3, σ3 = σ2 ++ [AObj.list []] := ⟨_, rfl⟩
  have k3 : ∀ (i : Nat) o', σ2[i]? = some o' → σ3[i]? = some o' := fun i o' h => by rw [hσ3]; exact get_old h
  have n3 := due_ne (d := d) (kd := kdAt 4) (ρ := ρ) (k2 _ _ a2)
  rw [← hσ3] at n3
  obtain ⟨σ4, hσ4⟩ : ∃ σ4, σ4 = σ3 ++ [AObj.list []] := ⟨_, rfl⟩
  have k4 : ∀ (i : Nat) o', σ3[i]? = some o' → σ4[i]? = some o' := fun i o' h => by rw [hσ4]; exact get_old h
  have n4 := due_ne (d := d) (kd := kdAt 4) (ρ := ρ) (k3 _ _ (k2 _ _ a2))
  rw [← hσ4] at n4
  obtain ⟨σ5, hσ5⟩ : ∃ σ5, σ5 = σ4 ++ [AObj.list []] := ⟨_, rfl⟩
  have k5 : ∀ (i : Nat) o', σ4[i]? = some o' → σ5[i]? = some o' := fun i o' h => by rw [hσ5]; exact get_old h
  have g5 : σ5[σ4.length]? = some (natsL []) := by rw [hσ5]; exact get_new
  have all5 : ∀ (i : Nat) o', σ[i]? = some o' → σ5[i]? = some o' := fun i o' h => k5 _ _ (k4 _ _ (k3 _ _ (k2 _ _ (a3 i o' h))))
  have hsI := hTI.isSome hk
  have hsO := hTO.isSome hk
  have inI : (lookD DI (k : Int)).isSome = decide (due (sg L) k ≠ []) := by
    rw [hsI]; cases due (sg L) k <;> rfl
  have inO : (lookD DO (k : Int)).isSome = decide (due (sg L) k ≠ []) := by
    rw [hsO]; cases hq : due (sg L) k with
    | nil => rfl
    | cons a r => simp [List.getLast?_cons]
  have hBl : B ≤ σ4.length := by
    have e1 : σ4.length = σ1.length + 3 := by rw [hσ4, hσ3, hσ2]; simp
    have := lt_get (a3 _ _ hTI.dict)
    by_cases hz : σ.length ≤ σ1.length
    · lia
    · exfalso
      have hlt : σ1.length < σ.length := by lia
      have := lt_get (a3 _ _ (List.getElem?_eq_getElem hlt))
      lia
  generalize hρ4 : Vars.set (Vars.set (Vars.set (Vars.set ρ "due" (.ref F)) "held" (.int (h + if due (sg L) k ≠ [] then 1 else 0))) "met" (.ref σ4.length)) "at" (.int (k : Int)) = ρ4
  have r1 : ρ4 "text" = some (.str (tx L)) := by rw [← hρ4]; (focus ((repeat (assumption)); done))
  have r2 : ρ4 "inner" = some (.ref I) := by rw [← hρ4]; (focus ((repeat (assumption)); done))
  have r3 : ρ4 "outer" = some (.ref O) := by rw [← hρ4]; (focus ((repeat (assumption)); done))
  have r4 : ρ4 "held" = some (.int (h + if due (sg L) k ≠ [] then 1 else 0)) := by rw [← hρ4]; (focus ((repeat (first | (with_reducible exact v_hit) | ((with_reducible apply v_ne); kernel_rfl))); done))
  have r5 : ρ4 "k" = some (.int (k : Int)) := by rw [← hρ4]; (focus ((repeat (assumption)); done))
  have r6 : ρ4 "met" = some (.ref σ4.length) := by rw [← hρ4]; (focus ((repeat (first | (with_reducible exact v_hit) | ((with_reducible apply v_ne); kernel_rfl))); done))
  have r7 : ρ4 "at" = some (.int (k : Int)) := by rw [← hρ4]; exact v_hit
  have r8 : ρ4 "due" = some (.ref F) := by rw [← hρ4]; (focus ((repeat (first | (with_reducible exact v_hit) | ((with_reducible apply v_ne); kernel_rfl))); done))
  obtain ⟨at_, σ6, c1, c2, c3⟩ := climb (B := B) (d := d + 1) (I := I) (Mt := σ4.length) (k := k) (D := DI) hl hk (due (sg L) k) [] k σ5 ρ4 hk rfl rfl (hTI.keep fun i o' _ h => all5 i o' h) hBl r1 r2 r6 r7 g5
  have all6 : ∀ (i : Nat) o', σ[i]? = some o' → σ6[i]? = some o' := fun i o' h => c3 i o' (by
    have := lt_get (k4 _ _ (k3 _ _ (k2 _ _ (a3 i o' h)))); lia) (all5 i o' h)
  have gF6 : σ6[F]? = some (natsL (due (sg L) k)) := c3 F _ (by have := lt_get (k4 _ _ (k3 _ _ (k2 _ _ a2))); lia) (k5 _ _ (k4 _ _ (k3 _ _ (k2 _ _ a2))))
  have x0 : EvX piL (d + 1) (kdAt 4) ρ (lb 0) σ .next (Vars.set ρ "due" (.ref F)) σ1 := by
    apply x_assign
    · kernel_rfl
    · apply e_call
      · (repeat (((with_reducible apply e_glob); kernel_rfl; (exact g_l_open))))
      · (repeat (first | (with_reducible exact es_nil) | ((with_reducible apply es_cons); (kernel_rfl)) | ((with_reducible apply e_var); kernel_rfl; (focus ((repeat (assumption)); done)))))
      · exact a1
    · exact a_name rfl
  have x1 : EvX piL (d + 1) (kdAt 4) (Vars.set ρ "due" (.ref F)) (lb 1) σ1 .next (Vars.set (Vars.set ρ "due" (.ref F)) "held" (.int (h + if due (sg L) k ≠ [] then 1 else 0))) σ2 := by
    apply x_augAdd
    · kernel_rfl
    · (focus ((repeat (assumption)); done))
    · by_cases hd : due (sg L) k ≠ []
      · rw [if_pos hd]
        rw [decide_eq_true hd] at n2
        apply e_ifT (σ₁ := σ2)
        · apply t_cmp (σ₁ := σ1) (σ₂ := σ2) (by rfl)
          · (repeat (((with_reducible apply e_var); kernel_rfl; (focus ((repeat ((with_reducible exact v_hit))); done)))))
          · rw [hσ2]
            apply e_list
            · (repeat ((with_reducible exact es_nil)))
            · exact (by decide : 0 ≤ lim)
          · exact n2
        · (repeat ((with_reducible exact e_int)))
      · rw [if_neg hd]
        rw [decide_eq_false hd] at n2
        apply e_ifF (σ₁ := σ2)
        · apply t_cmp (σ₁ := σ1) (σ₂ := σ2) (by rfl)
          · (repeat (((with_reducible apply e_var); kernel_rfl; (focus ((repeat ((with_reducible exact v_hit))); done)))))
          · rw [hσ2]
            apply e_list
            · (repeat ((with_reducible exact es_nil)))
            · exact (by decide : 0 ≤ lim)
          · exact n2
        · (repeat ((with_reducible exact e_int)))
  generalize hρ2 : Vars.set (Vars.set ρ "due" (.ref F)) "held" (.int (h + if due (sg L) k ≠ [] then 1 else 0)) = ρ2 at x1 hρ4
  have p1 : ρ2 "k" = some (.int (k : Int)) := by rw [← hρ2]; (focus ((repeat (assumption)); done))
  have p2 : ρ2 "inner" = some (.ref I) := by rw [← hρ2]; (focus ((repeat (assumption)); done))
  have p3 : ρ2 "outer" = some (.ref O) := by rw [← hρ2]; (focus ((repeat (assumption)); done))
  have p4 : ρ2 "due" = some (.ref F) := by rw [← hρ2]; (focus ((repeat (first | (with_reducible exact v_hit) | ((with_reducible apply v_ne); kernel_rfl))); done))
  have x2 : EvX piL (d + 1) (kdAt 4) ρ2 (lb 2) σ2 .next ρ2 σ4 := by
    apply x_ifF (σ₁ := σ4)
    · apply t_bool
      apply ts_orF (σ₁ := σ3)
      · apply t_cmp (σ₁ := σ2) (σ₂ := σ3) (by rfl)
        · apply e_cmp (σ₁ := σ2) (σ₂ := σ2) (by rfl)
          · (repeat (((with_reducible apply e_var); kernel_rfl; (focus ((repeat (assumption)); done)))))
          · (repeat (((with_reducible apply e_var); kernel_rfl; (focus ((repeat (assumption)); done)))))
          · exact c_inD (k2 _ _ (a3 _ _ hTI.dict)) inI
        · apply e_cmp (σ₁ := σ2) (σ₂ := σ3) (by rfl)
          · (repeat (((with_reducible apply e_var); kernel_rfl; (focus ((repeat (assumption)); done)))))
          · rw [hσ3]
            apply e_list
            · (repeat ((with_reducible exact es_nil)))
            · exact (by decide : 0 ≤ lim)
          · exact n3
        · exact c_neS .bool .bool rfl
      · apply or_last
        apply t_cmp (σ₁ := σ3) (σ₂ := σ4) (by rfl)
        · apply e_cmp (σ₁ := σ3) (σ₂ := σ3) (by rfl)
          · (repeat (((with_reducible apply e_var); kernel_rfl; (focus ((repeat (assumption)); done)))))
          · (repeat (((with_reducible apply e_var); kernel_rfl; (focus ((repeat (assumption)); done)))))
          · exact c_inD (k3 _ _ (k2 _ _ (a3 _ _ hTO.dict))) inO
        · apply e_cmp (σ₁ := σ3) (σ₂ := σ4) (by rfl)
          · (repeat (((with_reducible apply e_var); kernel_rfl; (focus ((repeat (assumption)); done)))))
          · rw [hσ4]
            apply e_list
            · (repeat ((with_reducible exact es_nil)))
            · exact (by decide : 0 ≤ lim)
          · exact n4
        · exact c_neS .bool .bool rfl
    · exact xs_nil
  have x3 : EvX piL (d + 1) (kdAt 4) ρ2 (lb 3) σ4 .next (Vars.set ρ2 "met" (.ref σ4.length)) σ5 := by
    rw [hσ5]
    apply x_assign
    · kernel_rfl
    · apply e_list
      · (repeat ((with_reducible exact es_nil)))
      · exact (by decide : 0 ≤ lim)
    · exact a_name rfl
  have x4 : EvX piL (d + 1) (kdAt 4) (Vars.set ρ2 "met" (.ref σ4.length)) (lb 4) σ5 .next ρ4 σ5 := by
    rw [← hρ4]
    apply x_assign
    · kernel_rfl
    · apply e_var
      · kernel_rfl
      · (focus ((repeat (assumption)); done))
    · exact a_name rfl
  have x6 : EvX piL (d + 1) (kdAt 4) (Vars.set ρ4 "at" at_) (lb 6) σ6 .next (Vars.set ρ4 "at" at_) σ6 := by
    apply x_ifF (σ₁ := σ6)
    · apply t_cmp (σ₁ := σ6) (σ₂ := σ6) (by rfl)
      · apply e_var
        · kernel_rfl
        · (focus ((repeat (assumption)); done))
      · apply e_var
        · kernel_rfl
        · (focus ((repeat (assumption)); done))
      · exact c_lne (lo_ref c2) (lo_ref gF6) (by simp)
    · exact xs_nil
  have n7 := due_ne (d := d) (kd := kdAt 4) (ρ := ρ) gF6
  obtain ⟨σ7, hσ7⟩ : ∃ σ7, σ7 = σ6 ++ [AObj.list []] := ⟨_, rfl⟩
  have k7 : ∀ (i : Nat) o', σ6[i]? = some o' → σ7[i]? = some o' := fun i o' h => by rw [hσ7]; exact get_old h
  rw [← hσ7] at n7
  have x7 : EvX piL (d + 1) (kdAt 4) (Vars.set ρ4 "at" at_) (lb 7) σ6 .next (Vars.set ρ4 "at" at_) σ7 := by
    apply x_ifF (σ₁ := σ7)
    · apply t_bool
      by_cases hd : due (sg L) k = []
      · rw [decide_eq_false (not_not_intro hd)] at n7
        apply ts_andF
        apply t_cmp (σ₁ := σ6) (σ₂ := σ7) (by rfl)
        · apply e_var
          · kernel_rfl
          · (focus ((repeat (assumption)); done))
        · rw [hσ7]
          apply e_list
          · (repeat ((with_reducible exact es_nil)))
          · exact (by decide : 0 ≤ lim)
        · exact n7
      · rw [decide_eq_true hd] at n7
        obtain ⟨o, ho⟩ : ∃ o, (due (sg L) k).getLast? = some o := Option.ne_none_iff_exists'.mp fun z => hd (List.getLast?_eq_none_iff.mp z)
        have hsay := hTO.at_ k hk
        rw [ho] at hsay
        obtain ⟨a, xs, q1, q2, q3, q4⟩ := hsay
        obtain ⟨pre, hpre⟩ := List.getLast?_eq_some_iff.mp ho
        have hxs : (xs.map AVal.int)[(0 : Int).toNat]? = some (.int ((o : Int) + 1)) := by
          show (xs.map AVal.int)[0]? = _
          rw [List.getElem?_map, q3]; rfl
        have gF7 : σ7[F]? = some (.list ((pre.map fun n : Nat => (n : Int)).map AVal.int ++ [.int (o : Int)])) := by
          rw [k7 _ _ gF6, hpre]; simp [natsL]
        have hpl : pre.length ≤ 500 := by
          have h1 := stk_len (sg L) k
          have h2 : (due (sg L) k).length ≤ k := by
            unfold due
            split
            · rw [List.length_tail]; lia
            · exact h1
          rw [hpre] at h2
          simp at h2; lia
        apply ts_andT (σ₁ := σ7)
        · apply t_cmp (σ₁ := σ6) (σ₂ := σ7) (by rfl)
          · apply e_var
            · kernel_rfl
            · (focus ((repeat (assumption)); done))
          · rw [hσ7]
            apply e_list
            · (repeat ((with_reducible exact es_nil)))
            · exact (by decide : 0 ≤ lim)
          · exact n7
        · apply and_last
          apply t_cmp (σ₁ := σ7) (σ₂ := σ7) (by rfl)
          · apply e_binop
            · apply e_item
              · apply e_item
                · apply e_var
                  · kernel_rfl
                  · (focus ((repeat (assumption)); done))
                · apply e_var
                  · kernel_rfl
                  · (focus ((repeat (assumption)); done))
                · exact it_dict (k7 _ _ (all6 _ _ hTO.dict)) q1
              · (repeat ((with_reducible exact e_int)))
              · exact it_list (lo_ref (k7 _ _ (all6 _ _ q2))) (by decide) hxs (by decide)
            · (repeat ((with_reducible exact e_int)))
            · exact bo_sub
          · apply e_item
            · apply e_var
              · kernel_rfl
              · (focus ((repeat (assumption)); done))
            · (repeat ((with_reducible first | exact e_int | apply e_neg)))
            · exact it_last (lo_ref gF7) (by simp [lim]; lia)
          · exact c_ne (by simp)
    · exact xs_nil
  refine ⟨Vars.set ρ4 "at" at_, σ7, ?_, by (focus ((repeat (assumption)); done)), by (focus ((repeat (assumption)); done)), by (focus ((repeat (assumption)); done)), by (focus ((repeat (assumption)); done)), fun i o' h => k7 _ _ (all6 i o' h)⟩
  apply xs_cons
  · exact x0
  apply xs_cons
  · exact x1
  apply xs_cons
  · exact x2
  apply xs_cons
  · exact x3
  apply xs_cons
  · exact x4
  apply xs_cons
  · apply x_while
    exact c1
  apply xs_cons
  · exact x6
  apply xs_cons
  · exact x7
  exact xs_nil
noncomputable def heldN (T : Nat → Nat) (k : Nat) : Nat := ((List.range k).filter fun e => decide (due T e ≠ [])).length
theorem heldN_succ (T : Nat → Nat) (k : Nat) : heldN T (k + 1) = heldN T k + if due T k ≠ [] then 1 else 0 := by
  unfold heldN
  rw [List.range_succ, List.filter_append, List.length_append]
  congr 1
  by_cases h : due T k ≠ []
  · rw [if_pos h, List.filter_cons_of_pos (by simpa using h)]; rfl
  · rw [if_neg h, List.filter_cons_of_neg (by simpa using h)]; rfl
theorem check_loop {B d I O : Nat} {L : List Nat} {DI DO : List (Int × AVal)} (hS : Sgs L) (hl : L.length ≤ 500) : ∀ (m k : Nat) (σ : St) (ρ : Vars), k + m = L.length → Tab B σ I DI L.length (fun e => (due (sg L) e).head?) → Tab B σ O DO L.length (fun e => (due (sg L) e).getLast?) → B ≤ σ.length →
    ρ "text" = some (.str (tx L)) → ρ "inner" = some (.ref I) → ρ "outer" = some (.ref O) → ρ "held" = some (.int (heldN (sg L) k : Int)) →
    ∃ ρ' σ', EvF piL (d + 1) (kdAt 4) ρ (forT (bodyAt 4) 7) (forB (bodyAt 4) 7) (.rng k m 1) σ .next ρ' σ' ∧ ρ' "inner" = some (.ref I) ∧ ρ' "outer" = some (.ref O) ∧ ρ' "held" = some (.int (heldN (sg L) L.length : Int)) ∧ ∀ (i : Nat) o', σ[i]? = some o' → σ'[i]? = some o'
  | 0, k, σ, ρ, hk, hTI, hTO, hB, h1, h2, h3, h4 => ⟨ρ, σ, f_end (n_rngEnd (by decide)), h2, h3, by rw [h4, show k = L.length by lia], fun _ _ h => h⟩
  | m + 1, k, σ, ρ, hk, hTI, hTO, hB, h1, h2, h3, h4 => by
    obtain ⟨ρ1, σ1, a1, a2, a3, a4, a5, a6⟩ := turn_ok (B := B) (d := d) (σ := σ) (ρ := Vars.set ρ "k" (.int (k : Int))) hS hl (k := k) (by lia) hTI hTO hB (by (focus ((repeat (assumption)); done))) (by (focus ((repeat (assumption)); done))) (by (focus ((repeat (assumption)); done))) (by (focus ((repeat (assumption)); done))) (by exact v_hit)
    have hB1 : B ≤ σ1.length := by
      by_cases hz : σ.length ≤ σ1.length
      · lia
      · exfalso
        have hlt : σ1.length < σ.length := by lia
        have := lt_get (a6 _ _ (List.getElem?_eq_getElem hlt))
        lia
    have e1 : (heldN (sg L) k : Int) + (if due (sg L) k ≠ [] then 1 else 0) = (heldN (sg L) (k + 1) : Int) := by
      rw [heldN_succ]
      by_cases h : due (sg L) k ≠ []
      · rw [if_pos h, if_pos h]; lia
      · rw [if_neg h, if_neg h]; lia
    rw [e1] at a5
    obtain ⟨ρ', σ', b1, b2, b3, b4, b5⟩ := check_loop (B := B) (d := d) hS hl m (k + 1) σ1 ρ1 (by lia) (hTI.keep fun i o' _ h => a6 i o' h) (hTO.keep fun i o' _ h => a6 i o' h) hB1 a2 a3 a4 a5
    refine ⟨ρ', σ', f_more (n_rng (by lia)) (a_name (by kernel_rfl)) a1 ?_, b2, b3, b4, fun i o' h => b5 i o' (a6 i o' h)⟩
    rw [show ((m + 1 : Nat) : Int) - 1 = (m : Int) by lia, show (k : Int) + 1 = ((k + 1 : Nat) : Int) by lia]
    exact b1
theorem tab_len {rows : List (Nat × List Int)} {n : Nat} {T : Nat → Nat} (h1 : ∀ e : Nat, e < n → (lookD (tabD [] rows) (e : Int)).isSome = decide (due T e ≠ [])) (h2 : ∀ j : Int, (lookD (tabD [] rows) j).isSome = true → 0 ≤ j ∧ j.toNat < n) : (tabD [] rows).length = heldN T n := by
  have hp : ((tabD [] rows).map (·.1)).Perm (((List.range n).filter fun e => decide (due T e ≠ [])).map fun e : Nat => (e : Int)) := by
    refine (List.perm_ext_iff_of_nodup (tabD_nodup rows [] List.nodup_nil) ?_).mpr fun j => ?_
    · exact List.Pairwise.map _ (fun a b hab q => hab (by lia)) (List.nodup_range.filter _)
    · rw [key_look]
      constructor
      · intro h
        obtain ⟨z1, z2⟩ := h2 j h
        refine List.mem_map.mpr ⟨j.toNat, List.mem_filter.mpr ⟨List.mem_range.mpr z2, ?_⟩, by lia⟩
        rw [← h1 _ z2, show ((j.toNat : Nat) : Int) = j by lia]; exact h
      · intro h
        obtain ⟨e, he, rfl⟩ := List.mem_map.mp h
        obtain ⟨q1, q2⟩ := List.mem_filter.mp he
        rw [h1 e (List.mem_range.mp q1)]; exact q2
  have := hp.length_eq
  unfold heldN
  simpa using this
theorem cls_lt {T : Nat → Nat} {n : Nat} {p : Nat × Nat} (h : p ∈ cls T n) : p.1 < p.2 ∧ p.2 < n := by
  obtain ⟨o, c⟩ := p
  obtain ⟨h1, h2, r, h3⟩ := cls_mem.mp h
  exact ⟨stk_lt (T := T) (by rw [h3]; exact .head _), h1⟩
theorem cls_firsts (T : Nat → Nat) (n : Nat) : (cls T n).Pairwise fun a b => a.1 ≠ b.1 :=
  (cls_asc (T := T) n).imp_of_mem fun {a b} ha hb hab z => by
    obtain ⟨o, c⟩ := a
    obtain ⟨o', c'⟩ := b
    have z : o = o' := z
    subst z
    have := cls_fun ha hb
    simp only at hab
    lia
noncomputable def soOf (cs : List (Nat × Nat)) : List Nat := srtBy (fun i j => lxlt (secOf (cs.getD i (0, 0))) (secOf (cs.getD j (0, 0)))) cs.length
noncomputable def psrt (cs : List (Nat × Nat)) : List (Nat × Nat) := (soOf cs).map fun k => cs.getD k (0, 0)
theorem sec_cons {p : Nat × Nat} (h : p.1 < p.2) : ∃ r, secOf p = (p.1 : Int) :: r := by
  unfold secOf
  obtain ⟨m, hm⟩ : ∃ m, p.2 - p.1 = m + 1 := ⟨p.2 - p.1 - 1, by lia⟩
  rw [hm, List.range_succ_eq_map]
  refine ⟨(List.map Nat.succ (List.range m)).map fun i : Nat => (p.1 : Int) + (i : Int), ?_⟩
  rw [List.map_cons]
  congr 1
theorem so_perm {cs : List (Nat × Nat)} (h1 : 1 ≤ cs.length) : (soOf cs).Perm (List.range cs.length) := srtBy_perm (lxlt_swo fun i => secOf (cs.getD i (0, 0))) h1
theorem srt_pairs {T : Nat → Nat} {n : Nat} (h1 : 1 ≤ (cls T n).length) : (∀ p, p ∈ psrt (cls T n) ↔ p ∈ cls T n) ∧ (psrt (cls T n)).Pairwise fun a b => a.1 < b.1 := by
  have hp := so_perm h1
  have hst : (soOf (cls T n)).Pairwise (Stb fun i j => lxlt (secOf ((cls T n).getD i (0, 0))) (secOf ((cls T n).getD j (0, 0)))) := srtBy_sorted (lxlt_swo fun i => secOf ((cls T n).getD i (0, 0))) h1
  have hnd : (soOf (cls T n)).Nodup := hp.nodup_iff.mpr List.nodup_range
  have hf := cls_firsts T n
  have hmem : ∀ k, k ∈ soOf (cls T n) → ∃ h : k < (cls T n).length, (cls T n).getD k (0, 0) = (cls T n)[k] := fun k hk => by
    have := List.mem_range.mp (hp.mem_iff.mp hk)
    exact ⟨this, by simp [List.getD, this]⟩
  constructor
  · intro p
    unfold psrt
    rw [List.mem_map]
    constructor
    · rintro ⟨k, hk, rfl⟩
      obtain ⟨h, e⟩ := hmem k hk
      rw [e]; exact List.getElem_mem _
    · intro h
      obtain ⟨k, hk, e⟩ := List.getElem_of_mem h
      exact ⟨k, hp.mem_iff.mpr (List.mem_range.mpr hk), by simp [List.getD, hk, e]⟩
  · unfold psrt
    rw [List.pairwise_map]
    refine (hst.and hnd).imp_of_mem fun {i j} hi hj hij => ?_
    obtain ⟨hi', ei⟩ := hmem i hi
    obtain ⟨hj', ej⟩ := hmem j hj
    obtain ⟨hs, hne⟩ := hij
    unfold Stb at hs
    dsimp only at hs
    rw [ei, ej] at hs ⊢
    have hfi : ((cls T n)[i]).1 ≠ ((cls T n)[j]).1 := by
      rw [List.pairwise_iff_getElem] at hf
      rcases Nat.lt_or_gt_of_ne hne with q | q
      · exact hf i j hi' hj' q
      · exact (hf j i hj' hi' q).symm
    obtain ⟨ri, eri⟩ := sec_cons (cls_lt (List.getElem_mem hi')).1
    obtain ⟨rj, erj⟩ := sec_cons (cls_lt (List.getElem_mem hj')).1
    rw [eri, erj] at hs
    unfold lxlt at hs
    rw [if_neg (by lia), if_neg (by lia)] at hs
    simp only [decide_eq_true_eq, decide_eq_false_iff_not] at hs
    lia
theorem sorted_prs {d C S : Nat} {T : Nat → Nat} {n : Nat} {ads : List Nat} {σ : St} (hC : Cls S σ C ads (cls T n)) (h2 : 2 ≤ (cls T n).length) (h64 : (cls T n).length < 64) :
    EvC piL (d + 2) (.bi "sorted") [.ref C] σ (.ref σ.length) (σ ++ [.list (((soOf (cls T n)).map fun k => ads.getD k 0).map .ref)]) ∧ Prs (σ ++ [.list (((soOf (cls T n)).map fun k => ads.getD k 0).map .ref)]) σ.length ((soOf (cls T n)).map fun k => ads.getD k 0) (psrt (cls T n)) := by
  have hl := hC.len
  constructor
  · have := c_sortedLL (P := piL) (d := d) (σ := σ) (b := .ref C) (is := ads) (key := fun k => secOf ((cls T n).getD k (0, 0))) (lo_ref hC.row) (by lia) (by lia) fun k i hk => by
      have hkl := (List.getElem?_eq_some_iff.mp hk).1
      refine hC.el k i _ hk ?_
      have : k < (cls T n).length := by lia
      simp [List.getD, this]
    rw [hl] at this
    rw [List.map_map]
    exact this
  · refine ⟨get_new, by simp [psrt], fun i a p h1 h3 => get_old ?_⟩
    unfold psrt at h3
    rw [List.getElem?_map] at h1 h3
    cases hk : (soOf (cls T n))[i]? with
    | none => rw [hk] at h1; cases h1
    | some k =>
      rw [hk] at h1 h3
      have hkl : k < (cls T n).length := List.mem_range.mp ((so_perm (by lia)).mem_iff.mp (List.mem_of_getElem? hk))
      simp only [Option.map_some, Option.some.injEq] at h1 h3
      refine hC.el k a p ?_ ?_
      · rw [← h1]; simp [List.getD, show k < ads.length by lia]
      · rw [← h3]; simp [List.getD, hkl]
theorem tab_of {σ : St} {b M n : Nat} {ps : List (Nat × Nat)} {sel : Nat → Option Nat} (hF : Fam σ b (rowsAt b ps)) (hM : σ[M]? = some (.dict (tabD [] (rowsAt b ps)))) (hsel : ∀ e, e < n → lastIn ps e = sel e) : Tab σ.length σ M (tabD [] (rowsAt b ps)) n sel := by
  refine ⟨hM, lt_get hM, fun e he => ?_⟩
  have h := table_at (b := b) (e := e) (ps := ps)
  rw [hsel e he] at h
  revert h
  cases sel e with
  | none => exact id
  | some o =>
    rintro ⟨q, hq, h1, h2⟩
    exact ⟨q.1, q.2, h1, (hF.el q hq).1, h2, lt_get (hF.el q hq).1⟩
theorem keys_in {b n : Nat} {ps : List (Nat × Nat)} (h : ∀ p ∈ ps, p.2 < n) (j : Int) (hj : (lookD (tabD [] (rowsAt b ps)) j).isSome = true) : 0 ≤ j ∧ j.toNat < n := by
  rw [tabD_look] at hj
  cases hq : ((rowsAt b ps).filter fun q => decide (j ∈ q.2)).getLast? with
  | none => rw [hq] at hj; cases hj
  | some q =>
    have hm := List.mem_filter.mp (List.mem_of_getLast? hq)
    have hjm : j ∈ q.2 := by simpa using hm.2
    obtain ⟨i, hi, rfl⟩ := List.mem_map.mp hm.1
    have hi := List.mem_range.mp hi
    have hp := h (ps.getD i (0, 0)) (by simp [List.getD, hi])
    have hjm : j ∈ (secOf (ps.getD i (0, 0))).drop 1 := hjm
    have := List.mem_of_mem_drop hjm
    unfold secOf at this
    obtain ⟨x, hx, rfl⟩ := List.mem_map.mp this
    have := List.mem_range.mp hx
    lia
theorem steps_app : ∀ (xs L : List Nat), ∃ M, xs.foldl stepL L = L ++ M
  | [], L => ⟨[], by simp⟩
  | x :: r, L => by
    obtain ⟨M, h⟩ := steps_app r (stepL L x)
    rw [List.foldl_cons, h]
    unfold stepL
    split
    · exact ⟨[2] ++ M, by rw [List.append_assoc]⟩
    · exact ⟨[x] ++ M, by rw [List.append_assoc]⟩
theorem two_open (ns : List Int) : ∃ P M, txtOf (xsOf ns) = P ++ 0 :: 0 :: M := by
  obtain ⟨P, hP⟩ : ∃ P, P = ((drawsOf ns 16).map sgOf).foldl stepL [] := ⟨_, rfl⟩
  obtain ⟨M, hM⟩ := steps_app [2, 1, 2, 1, 2] (P ++ [0] ++ [0])
  have h : rawOf (xsOf ns) = P ++ [0] ++ [0] ++ M := by
    unfold rawOf xsOf
    rw [List.map_append, List.foldl_append, ← hP, ← hM]
    rfl
  unfold txtOf
  rw [h]
  exact ⟨P, M ++ List.replicate ((P ++ [0] ++ [0] ++ M).count 0 - (P ++ [0] ++ [0] ++ M).count 1) 1, by simp⟩
theorem two_cls {L : List Nat} {P M : List Nat} (h : L = P ++ 0 :: 0 :: M) (h0 : stk (sg L) L.length = []) : 2 ≤ (cls (sg L) L.length).length := by
  have hl : P.length + 2 ≤ L.length := by rw [h]; simp
  have e1 : sg L P.length = 0 := by rw [h]; exact sg_at
  have e2 : sg L (P.length + 1) = 0 := by
    have : L = (P ++ [0]) ++ 0 :: M := by rw [h]; simp
    have q := sg_at (L := P ++ [0]) (M := M) (a := 0)
    rw [← this] at q
    simpa using q
  obtain ⟨c1, q1, _⟩ := stays h0 (L.length - (P.length + 1)) (t := P.length + 1) (o := P.length) (by lia) (by rw [stk, if_pos e1]; exact .head _)
  obtain ⟨c2, q2, _⟩ := stays h0 (L.length - (P.length + 2)) (t := P.length + 2) (o := P.length + 1) (by lia) (by rw [stk, if_pos e2]; exact .head _)
  match hc : cls (sg L) L.length, q1, q2 with
  | [], q1, _ => cases q1
  | [a], q1, q2 =>
    have z1 := List.mem_singleton.mp q1
    have z2 := List.mem_singleton.mp q2
    rw [← z2] at z1
    have := congrArg Prod.fst z1
    simp at this
  | a :: b :: r, _, _ => simp
noncomputable def argC (s : Stmt) : Expr × Scope := match s with
  | .Assign _ (.Call _ [.ListComp e _ sc _] _ _) _ => (e, sc)
  | _ => (default, ⟨.function, [], false, false, []⟩)
theorem pureL (ns : List Int) (h : ns.length ≤ 63) : ∃ ρ' σ', EvXs piL 10 (fun y => (namesAt 4).lookup y) (bindAll ["script"] [.scr ns]) (bodyAt 4) [] (.ret (.bool true)) ρ' σ' := by
  obtain ⟨σ0, a1, _⟩ := text_ok (d := 9) (σ := []) h
  obtain ⟨L, hL⟩ : ∃ L, L = txtOf (xsOf ns) := ⟨_, rfl⟩
  have hS : Sgs L := by rw [hL]; exact txt_sgs _
  obtain ⟨hW, h0⟩ := txt_wf (xsOf ns)
  have hlen := txt_len (xsOf ns)
  have hxl : (xsOf ns).length ≤ 23 := by
    have := drawsOf_len ns 16
    unfold xsOf; simp; lia
  obtain ⟨P, M, hPM⟩ := two_open ns
  rw [← hL] at a1 hW h0 hlen hPM
  have h2 := two_cls hPM h0
  have h64 := cls_len (sg L) L.length
  have ho := srt_pairs (T := sg L) (n := L.length) (by lia)
  obtain ⟨ρ1, hρ1⟩ : ∃ ρ1, ρ1 = Vars.set (Vars.set (Vars.set (bindAll [Str.ofString "script"] [.scr ns]) "text" (.str (tx L))) "stack" (.ref σ0.length)) "closing" (.ref (σ0.length + 1)) := ⟨_, rfl⟩
  obtain ⟨σ1, hσ1⟩ : ∃ σ1, σ1 = σ0 ++ [AObj.list []] ++ [AObj.list []] := ⟨_, rfl⟩
  have gC : σ1[σ0.length + 1]? = some (.list []) := by
    rw [hσ1]
    have := get_new (σ := σ0 ++ [AObj.list []]) (o := AObj.list [])
    simpa using this
  obtain ⟨ρ2, σ2, ads, b1, b2, b3, b4⟩ := first_loop (d := 10) (S := σ0.length) (C := σ0.length + 1) hS hW (by lia) (by lia) L.length 0 σ1 ρ1 [] (by lia) (by rw [hρ1]; (focus ((repeat (first | (with_reducible exact v_hit) | ((with_reducible apply v_ne); kernel_rfl))); done))) (by rw [hρ1]; (focus ((repeat (first | (with_reducible exact v_hit) | ((with_reducible apply v_ne); kernel_rfl))); done))) (by rw [hρ1]; exact v_hit) (by rw [hσ1]; exact get_old get_new) ⟨gC, rfl, fun i a p h => by simp at h, fun a ha => nomatch ha⟩
  have hn : ∀ p ∈ cls (sg L) L.length, p.2 ≤ 200 := fun p hp => by have := (cls_lt hp).2; lia
  -- inner
  obtain ⟨s1, s2⟩ := sorted_prs (d := 8) b4 h2 (by lia)
  obtain ⟨σ3, hσ3⟩ : ∃ σ3, σ3 = σ2 ++ [AObj.list (((soOf (cls (sg L) L.length)).map fun k => ads.getD k 0).map .ref)] := ⟨_, rfl⟩
  rw [← hσ3] at s1 s2
  obtain ⟨σ4, c1, c2, c3⟩ := sliced (d := 10) (kd := relabelK (argC (st 4 4)).2.names (kdAt 4)) (ρ := freeVars (relabelK (argC (st 4 4)).2.names (kdAt 4)) ρ2) (elt := (argC (st 4 4)).1) s2 (by unfold psrt; rw [List.length_map, (so_perm (by lia)).length_eq, List.length_range]; lia) (fun p hp => hn p ((ho.1 p).mp hp)) fun a vs τ ha hz => by
    rw [← pickL_tail]
    apply e_sliceL
    · apply e_var
      · kernel_rfl
      · (focus ((repeat ((with_reducible exact v_hit))); done))
    · (repeat ((with_reducible first | exact e_int | apply o_some | exact oi_int)))
    · (repeat ((with_reducible exact o_none)))
    · (repeat ((with_reducible exact o_none)))
    · rfl
    · exact lo_ref ha
    · exact hz
  obtain ⟨σ5, I, d1, d2, d3⟩ := asked_ok (d := 6) (by unfold rowsAt; rw [List.length_map, List.length_range]; unfold psrt; rw [List.length_map, (so_perm (by lia)).length_eq, List.length_range]; lia) c2
  have x4 : EvX piL 10 (kdAt 4) ρ2 (st 4 4) σ2 .next (Vars.set ρ2 "inner" (.ref I)) σ5 := by
    apply x_assign (σ₁ := σ5)
    · kernel_rfl
    · apply e_call (σ₂ := σ4)
      · (repeat (((with_reducible apply e_glob); kernel_rfl; (exact g_l_asked))))
      · apply es_cons (by rfl) (v := .ref σ3.length) (σ₁ := σ4)
        · apply e_comp (σ₁ := σ3)
          · exact compOk_mono (ρ₂ := dom []) (by kernel_rfl) dom_nil
          · rfl
          · apply e_call (σ₂ := σ2)
            · (repeat (((with_reducible apply e_glob); kernel_rfl; (exact g_sorted))))
            · (repeat (first | (with_reducible exact es_nil) | ((with_reducible apply es_cons); (kernel_rfl)) | ((with_reducible apply e_var); kernel_rfl; (focus ((repeat (assumption)); done)))))
            · exact s1
          · exact mk_list s2.row
          · exact c1
        · exact es_nil
      · exact d1
    · exact a_name rfl
  have k25 : ∀ (i : Nat) o', σ2[i]? = some o' → σ5[i]? = some o' := fun i o' h => d3 _ _ (c3 _ _ (by rw [hσ3]; exact get_old h))
  have P5 : Prs σ5 (σ0.length + 1) ads (cls (sg L) L.length) := ⟨k25 _ _ b4.row, b4.len, fun i a p q1 q2 => k25 _ _ (b4.el i a p q1 q2)⟩
  obtain ⟨σ6, e1, e2, e3⟩ := sliced (d := 10) (kd := relabelK (argC (st 4 5)).2.names (kdAt 4)) (ρ := freeVars (relabelK (argC (st 4 5)).2.names (kdAt 4)) (Vars.set ρ2 "inner" (.ref I))) (elt := (argC (st 4 5)).1) P5 (by lia) hn fun a vs τ ha hz => by
    rw [← pickL_tail]
    apply e_sliceL
    · apply e_var
      · kernel_rfl
      · (focus ((repeat ((with_reducible exact v_hit))); done))
    · (repeat ((with_reducible first | exact e_int | apply o_some | exact oi_int)))
    · (repeat ((with_reducible exact o_none)))
    · (repeat ((with_reducible exact o_none)))
    · rfl
    · exact lo_ref ha
    · exact hz
  obtain ⟨σ7, O, f1, f2, f3⟩ := asked_ok (d := 6) (by unfold rowsAt; rw [List.length_map, List.length_range]; lia) e2
  have x5 : EvX piL 10 (kdAt 4) (Vars.set ρ2 "inner" (.ref I)) (st 4 5) σ5 .next (Vars.set (Vars.set ρ2 "inner" (.ref I)) "outer" (.ref O)) σ7 := by
    apply x_assign (σ₁ := σ7)
    · kernel_rfl
    · apply e_call (σ₂ := σ6)
      · (repeat (((with_reducible apply e_glob); kernel_rfl; (exact g_l_asked))))
      · apply es_cons (by rfl) (v := .ref σ5.length) (σ₁ := σ6)
        · apply e_comp (σ₁ := σ5)
          · exact compOk_mono (ρ₂ := dom []) (by kernel_rfl) dom_nil
          · rfl
          · (repeat (((with_reducible apply e_var); kernel_rfl; (focus ((repeat (assumption)); done)))))
          · exact mk_list P5.row
          · exact e1
        · exact es_nil
      · exact f1
    · exact a_name rfl
  have k57 : ∀ (i : Nat) o', σ5[i]? = some o' → σ7[i]? = some o' := fun i o' h => f3 _ _ (e3 _ _ h)
  have TI : Tab σ7.length σ7 I (tabD [] (rowsAt σ3.length (psrt (cls (sg L) L.length)))) L.length fun e => (due (sg L) e).head? := tab_of (c2.keep fun i o' h => k57 _ _ (d3 _ _ h)) (k57 _ _ d2) fun e he => last_open h0 he ho.1 ho.2
  have TO : Tab σ7.length σ7 O (tabD [] (rowsAt σ5.length (cls (sg L) L.length))) L.length fun e => (due (sg L) e).getLast? := tab_of (e2.keep fun i o' h => f3 _ _ h) f2 fun e he => last_close h0 he
  have lI : (tabD [] (rowsAt σ3.length (psrt (cls (sg L) L.length)))).length = heldN (sg L) L.length := tab_len (fun e he => by rw [TI.isSome he]; cases due (sg L) e <;> rfl) fun j hj => keys_in (fun p hp => (cls_lt ((ho.1 p).mp hp)).2) j hj
  have lO : (tabD [] (rowsAt σ5.length (cls (sg L) L.length))).length = heldN (sg L) L.length := tab_len (fun e he => by
    rw [TO.isSome he]
    cases due (sg L) e with
    | nil => rfl
    | cons a r => simp [List.getLast?_cons]) fun j hj => keys_in (fun p hp => (cls_lt hp).2) j hj
  have hh : heldN (sg L) L.length ≤ L.length := by
    unfold heldN
    exact Nat.le_trans (List.length_filter_le _ _) (by rw [List.length_range]; exact Nat.le_refl _)
  obtain ⟨ρ8, σ8, g1, g2, g3, g4, g5⟩ := check_loop (B := σ7.length) (d := 9) (I := I) (O := O) hS (by lia) L.length 0 σ7 (Vars.set (Vars.set (Vars.set ρ2 "inner" (.ref I)) "outer" (.ref O)) "held" (.int 0)) (by lia) TI TO (Nat.le_refl _) (by (focus ((repeat (assumption)); done))) (by (focus ((repeat (first | (with_reducible exact v_hit) | ((with_reducible apply v_ne); kernel_rfl))); done))) (by (focus ((repeat (first | (with_reducible exact v_hit) | ((with_reducible apply v_ne); kernel_rfl))); done))) (by exact v_hit)
  obtain ⟨σ9, hσ9⟩ : ∃ σ9, σ9 = σ8 ++ [AObj.list [.int (heldN (sg L) L.length : Int), .int (heldN (sg L) L.length : Int)]] := ⟨_, rfl⟩
  obtain ⟨σX, hσX⟩ : ∃ σX, σX = σ9 ++ [AObj.list [.int (heldN (sg L) L.length : Int), .int (heldN (sg L) L.length : Int)]] := ⟨_, rfl⟩
  have cI : EvC piL 10 (.bi "len") [.ref I] σ8 (.int (heldN (sg L) L.length : Int)) σ8 := by
    rw [← lI]; exact c_lenD (g5 _ _ TI.dict) (by rw [lI]; unfold lim; lia)
  have cO : EvC piL 10 (.bi "len") [.ref O] σ8 (.int (heldN (sg L) L.length : Int)) σ8 := by
    rw [← lO]; exact c_lenD (g5 _ _ TO.dict) (by rw [lO]; unfold lim; lia)
  refine ⟨ρ8, σX, ?_⟩
  apply xs_cons (ρ₁ := Vars.set (bindAll [Str.ofString "script"] [.scr ns]) "text" (.str (tx L))) (σ₁ := σ0)
  · apply x_assign
    · kernel_rfl
    · apply e_call
      · (repeat (((with_reducible apply e_glob); kernel_rfl; (exact g_l_text))))
      · (repeat (first | (with_reducible exact es_nil) | ((with_reducible apply es_cons); (kernel_rfl)) | ((with_reducible apply e_var); kernel_rfl; (focus ((repeat ((with_reducible exact b_hit))); done)))))
      · exact a1
    · exact a_name rfl
  apply xs_cons
  · (repeat (first | (with_reducible first | exact es_nil | apply e_list) | ((with_reducible first | apply x_assign | apply a_name); kernel_rfl) | (decide)))
  apply xs_cons (ρ₁ := ρ1) (σ₁ := σ1)
  · rw [hρ1, hσ1, show σ0.length + 1 = (σ0 ++ [AObj.list []]).length by simp]
    (repeat (first | (with_reducible first | exact es_nil | apply e_list) | ((with_reducible first | apply x_assign | apply a_name); kernel_rfl) | (decide)))
  apply xs_cons (ρ₁ := ρ2) (σ₁ := σ2)
  · apply x_for (σ₁ := σ1) (v := .rng 0 ((tx L).length : Int) 1)
    · rfl
    · apply e_call (σ₂ := σ1)
      · (repeat (((with_reducible apply e_glob); kernel_rfl; (exact g_range))))
      · apply es_cons (by rfl) (v := .int ((tx L).length : Int)) (σ₁ := σ1)
        · apply e_call (σ₂ := σ1)
          · (repeat (((with_reducible apply e_glob); kernel_rfl; (exact g_len))))
          · apply es_cons (by rfl) (v := .str (tx L)) (σ₁ := σ1)
            · apply e_var
              · kernel_rfl
              · rw [hρ1]; (focus ((repeat (first | (with_reducible exact v_hit) | ((with_reducible apply v_ne); kernel_rfl))); done))
            · exact es_nil
          · exact c_lenStr (by rw [tx_len]; unfold lim; lia)
        · exact es_nil
      · exact c_range1
    · exact mk_rng1 ⟨by lia, by lia, by rw [tx_len]; lia⟩
    · (repeat (((with_reducible exact lk_name))))
    · rw [tx_len, show ((L.length : Nat) : Int) - 0 = (L.length : Int) by lia]
      exact b1
  apply xs_cons
  · exact x4
  apply xs_cons
  · exact x5
  apply xs_cons (ρ₁ := Vars.set (Vars.set (Vars.set ρ2 "inner" (.ref I)) "outer" (.ref O)) "held" (.int 0)) (σ₁ := σ7)
  · (repeat (first | (with_reducible exact e_int) | ((with_reducible first | apply x_assign | apply a_name); kernel_rfl)))
  apply xs_cons (ρ₁ := ρ8) (σ₁ := σ8)
  · apply x_for (σ₁ := σ7) (v := .rng 0 ((tx L).length : Int) 1)
    · rfl
    · apply e_call (σ₂ := σ7)
      · (repeat (((with_reducible apply e_glob); kernel_rfl; (exact g_range))))
      · apply es_cons (by rfl) (v := .int ((tx L).length : Int)) (σ₁ := σ7)
        · apply e_call (σ₂ := σ7)
          · (repeat (((with_reducible apply e_glob); kernel_rfl; (exact g_len))))
          · apply es_cons (by rfl) (v := .str (tx L)) (σ₁ := σ7)
            · apply e_var
              · kernel_rfl
              · (focus ((repeat (assumption)); done))
            · exact es_nil
          · exact c_lenStr (by rw [tx_len]; unfold lim; lia)
        · exact es_nil
      · exact c_range1
    · exact mk_rng1 ⟨by lia, by lia, by rw [tx_len]; lia⟩
    · (repeat (((with_reducible exact lk_name))))
    · rw [tx_len, show ((L.length : Nat) : Int) - 0 = (L.length : Int) by lia]
      exact g1
  apply xs_ret
  apply x_return
  apply e_cmp (σ₁ := σ9) (σ₂ := σX) (by rfl)
  · rw [hσ9]
    apply e_list
    · apply es_cons (by rfl) (σ₁ := σ8)
      · apply e_call (σ₂ := σ8)
        · (repeat (((with_reducible apply e_glob); kernel_rfl; (exact g_len))))
        · apply es_cons (by rfl) (v := .ref I) (σ₁ := σ8)
          · apply e_var
            · kernel_rfl
            · exact g2
          · exact es_nil
        · exact cI
      apply es_cons (by rfl) (σ₁ := σ8)
      · apply e_call (σ₂ := σ8)
        · (repeat (((with_reducible apply e_glob); kernel_rfl; (exact g_len))))
        · apply es_cons (by rfl) (v := .ref O) (σ₁ := σ8)
          · apply e_var
            · kernel_rfl
            · exact g3
          · exact es_nil
        · exact cO
      exact es_nil
    · exact (by decide : 2 ≤ lim)
  · rw [hσX]
    apply e_list
    · apply es_cons (by rfl) (σ₁ := σ9)
      · apply e_var
        · kernel_rfl
        · exact g4
      apply es_cons (by rfl) (σ₁ := σ9)
      · apply e_var
        · kernel_rfl
        · exact g4
      exact es_nil
    · exact (by decide : 2 ≤ lim)
  · refine c_leq (xs := [(heldN (sg L) L.length : Int), (heldN (sg L) L.length : Int)]) (ys := [(heldN (sg L) L.length : Int), (heldN (sg L) L.length : Int)]) (lo_ref ?_) (lo_ref ?_) (by simp)
    · rw [hσX, hσ9]; exact get_old get_new
    · rw [hσX]; exact get_new
end Mini
open PySem PySem.W PyProof.Rows
namespace Mini
theorem joinL {w : World} {s₁ : Shared} {mg mb : Str → Option Value} {p : Program} {loose : List Str} {mean mean' : ExcName → Option Value} {cl : Str → Option Addr} {fa L : Addr} {items : List Value} {ns : List Int}
    (KX : (KL w.params).In s₁.heap) (T : Top p loose mean mg mb s₁.heap) (hT : TabsAt [(60, 56)] s₁.heap) (hg : s₁.gens = #[]) (hmg : mg "law" = some (.ref fa)) (hL : s₁.heap.IsList L items.toArray) (hI : IntsAre items ns) (hl : ¬ ((63 : Nat) : Int) < ns.length) :
    codeAny (model PySem.Challenge.rw_dn0295_02.row.prog w) callerA (Code.call (.ref fa) { pos := [.ref L] }) (GoodWG PySem.Challenge.rw_dn0295_02.row.claim cl mean' [ofPy (PyData.list (List.map PyData.int ns))] s₁) s₁ := by
  have ok : COk (cxL w s₁.heap mg mb) piL := cokL KX T hT
  have X : (KL w.params).In (ghostOf s₁.heap [(60, 56)]) := ghost_K hT KX (by kernel_rfl)
  have hgl : (ghostOf s₁.heap [(60, 56)]).Ns mainGlobals mg := ghost_ns hT T.g
  have hfa : fa = 66 := by
    have h1 : mg "law" = some (.ref 66) := mg_of X hgl (by kernel_rfl)
    rw [hmg] at h1
    cases h1; rfl
  subst hfa
  obtain ⟨ρ', σ', hrun⟩ := pureL ns (by lia)
  exact law_join (c := cxL w s₁.heap mg mb) ok rfl hT (by show ([56] : List Addr).Nodup; decide) hg (fnOk_law X) hL hI ⟨by kernel_rfl, by decide, by decide⟩ hrun (by kernel_rfl) (fun _ => rfl)
end Mini
theorem PySem.Challenge.cw_dn0295_02_holds : PySem.Challenge.rw_dn0295_02.Holds := by
  exact hd (by
    w_strict (
      k_fill
      intro w s₀ s₁ mg mb G Y fa o pm cd doc dV kV ho hd hcd hD hmg hg args vals as hpre hlay hrd hwl hlo
      have KX := km_in_of Y
      km_tabs Y
      have X := (Ground.X G).1
      have V := (Ground.X G).2
      refine Ground.open G ?_
      intro T B D TE TW
      try (refine guard_noD D (by decide +kernel) ?_; clear D)
      have hmg0 := hmg
      km_lay T hmg ho hd cd
      wrow_args hpre hlay hrd hwl hlo
      all_goals (
        first | refine callC_kw (enter_call ?_) | refine enter_call ?_
        exact Mini.joinL KX T hT9 hg hmg0 (by assumption) (by assumption) (by assumption))))
