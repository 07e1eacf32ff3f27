import PyProof.Rows.All
import Wide.All
import OpenK.AllK
import Wide.FinOn
import Lean
import PySem.Challenge.RW_xi0005_01
set_option Elab.async false
set_option linter.all false
namespace Mine

section
open PySem PySem.Calls PySem.W PyProof.Rows
set_option maxRecDepth 100000

noncomputable abbrev pw : Program := PySem.Challenge.pw_xi0005_01

/-- the two code tables that a nested def fills -/
noncomputable def TT : List Addr := [52, 59]

noncomputable def Keep (X : List Addr) (h h' : Heap) : Prop := ∀ b o, b ∉ X → h.get? b = some o → h'.get? b = some o
theorem Keep.refl (X h) : Keep X h h := fun _ _ _ e => e
theorem Keep.trans {X h h' h''} (a : Keep X h h') (b : Keep X h' h'') : Keep X h h'' := fun c o n e => b c o n (a c o n e)
theorem Keep.nil {X h h'} (a : Keep [] h h') : Keep X h h' := fun c o _ e => a c o (by simp) e
theorem Keep.toTT {X h h'} (hX : ∀ x ∈ X, x ∈ TT) (a : Keep X h h') : Keep TT h h' := fun c o n e => a c o (fun hc => n (hX c hc)) e
theorem Keep.of {X h h'} (k : ∀ b o, h.get? b = some o → h'.get? b = some o) : Keep X h h' := fun b o _ e => k b o e
theorem Keep.all {h h'} (k : Keep [] h h') : ∀ b o, h.get? b = some o → h'.get? b = some o := fun b o e => k b o (by simp) e
theorem Keep.none {X h h' a} (k : Keep X h h') (hn : h'.get? a = none) (ha : a ∉ X) : h.get? a = none := by
  cases e : h.get? a with
  | none => rfl
  | some o => rw [k a o ha e] at hn; cases hn

inductive PV where
  | none
  | bool (b : Bool)
  | int (n : Int)
  | bytes (b : Array UInt8)
  | list (l : List PV)
  | tup (l : List PV)
  | dict (l : List (Int × Int))
  | mat (x : Array UInt8) (i j : Nat)
  | fn (a : Addr) (o : Obj)

noncomputable def PV.imm : PV → Bool
  | .none => true | .bool _ => true | .int _ => true | .bytes _ => true | _ => false

noncomputable abbrev View := Addr → Option Obj
noncomputable def hid (mu : List Addr) (h : Heap) : View := fun a => if a ∈ TT ∨ a ∈ mu then Option.none else h.get? a
/-- the addresses that an expression may turn -/
noncomputable def xs : Bool → List Addr
  | true => TT
  | false => []
theorem xs_TT (b) : ∀ x ∈ xs b, x ∈ TT := by cases b <;> simp [xs]
noncomputable def View.le (G G' : View) : Prop := ∀ a o, G a = some o → G' a = some o

/-- entries of a dict from ints to ints -/
noncomputable def IntDict (es : List DictEntry) : List (Int × Int) → Prop
  | [] => es = []
  | (k, v) :: r => ∃ e es', es = e :: es' ∧ (∃ t, e.key = .int k t) ∧ e.hash = hashInt k ∧ (∃ t, e.val = .int v t) ∧ IntDict es' r

mutual
inductive Rep (G : View) : PV → Value → Prop where
  | none : Rep G .none .none
  | bool (b) : Rep G (.bool b) (.bool b)
  | int (n t) : Rep G (.int n) (.int n t)
  | bytes (b t) : Rep G (.bytes b) (.bytes b t)
  | list {l a vs n} : G a = some { cls := .type "list", data := .seq vs.toArray n } → RepL G l vs → Rep G (.list l) (.ref a)
  | tup {l a vs n} : G a = some { cls := .type "tuple", data := .seq vs.toArray n } → RepL G l vs → Rep G (.tup l) (.ref a)
  | dict {l a es n} : G a = some { cls := .type "dict", data := .dict es n } → IntDict es.toList l → (l.map (·.1)).Nodup → (a == sysModules) = false → Rep G (.dict l) (.ref a)
  | mat {x i j a t u li st en n} : G a = some { cls := .type "re.Match", data := .fields #[.bytes x u, .ref 36, rawInt 0, rawInt (x.size : Nat), rawInt li, .ref t] } →
    G t = some { cls := .type "tuple", data := .seq #[rawInt st, rawInt en, rawInt (i : Nat), rawInt (j : Nat)] n } → Rep G (.mat x i j) (.ref a)
  | fn {a o fd c oc vs t} : G a = some o → o.cls = .type "function" → o.dict = Option.none → o.data = .func fd → fd.code = .ref c → G c = some oc → oc.data = .fields vs → vs[1]? = some (.str fd.qualname t) → Rep G (.fn a o) (.ref a)
inductive RepL (G : View) : List PV → List Value → Prop where
  | nil : RepL G [] []
  | cons {p v ps vs} : Rep G p v → RepL G ps vs → RepL G (p :: ps) (v :: vs)
end

mutual
theorem Rep.mono {G G' : View} (k : View.le G G') : ∀ {p v}, Rep G p v → Rep G' p v
  | _, _, .none => .none
  | _, _, .bool b => .bool b
  | _, _, .int n t => .int n t
  | _, _, .bytes b t => .bytes b t
  | _, _, .list e r => .list (k _ _ e) (RepL.mono k r)
  | _, _, .tup e r => .tup (k _ _ e) (RepL.mono k r)
  | _, _, .dict e r n q => .dict (k _ _ e) r n q
  | _, _, .mat e r => .mat (k _ _ e) (k _ _ r)
  | _, _, .fn e c d e1 e2 e3 e4 e5 => .fn (k _ _ e) c d e1 e2 (k _ _ e3) e4 e5
theorem RepL.mono {G G' : View} (k : View.le G G') : ∀ {p v}, RepL G p v → RepL G' p v
  | _, _, .nil => .nil
  | _, _, .cons a b => .cons (Rep.mono k a) (RepL.mono k b)
end

theorem Rep.none_inv {G : View} {v} (r : Rep G .none v) : v = .none := by cases r; rfl
theorem Rep.bool_inv {G : View} {b v} (r : Rep G (.bool b) v) : v = .bool b := by cases r; rfl
theorem Rep.int_inv {G : View} {n v} (r : Rep G (.int n) v) : ∃ t, v = .int n t := by cases r; exact ⟨_, rfl⟩
theorem Rep.bytes_inv {G : View} {b v} (r : Rep G (.bytes b) v) : ∃ t, v = .bytes b t := by cases r; exact ⟨_, rfl⟩
/-- an object that a plain value may be of -/
noncomputable def isCon0 (o : Obj) : Prop := o.cls = .type "list" ∨ o.cls = .type "tuple" ∨ o.cls = .type "dict" ∨ o.cls = .type "re.Match" ∨ o.cls = .type "function"
noncomputable def isCon (o : Obj) : Prop := isCon0 o ∨ ∃ vs q t, o.data = .fields vs ∧ vs[1]? = some (.str q t)
mutual
theorem Rep.monoC {G G' : View} (k : ∀ a o, isCon o → G a = some o → G' a = some o) : ∀ {p v}, Rep G p v → Rep G' p v
  | _, _, .none => .none
  | _, _, .bool b => .bool b
  | _, _, .int n t => .int n t
  | _, _, .bytes b t => .bytes b t
  | _, _, .list e r => .list (k _ _ (.inl (.inl rfl)) e) (RepL.monoC k r)
  | _, _, .tup e r => .tup (k _ _ (.inl (.inr (.inl rfl))) e) (RepL.monoC k r)
  | _, _, .dict e r n q => .dict (k _ _ (.inl (.inr (.inr (.inl rfl)))) e) r n q
  | _, _, .mat e r => .mat (k _ _ (.inl (.inr (.inr (.inr (.inl rfl))))) e) (k _ _ (.inl (.inr (.inl rfl))) r)
  | _, _, .fn e c d e1 e2 e3 e4 e5 => .fn (k _ _ (.inl (.inr (.inr (.inr (.inr c))))) e) c d e1 e2 (k _ _ (.inr ⟨_, _, _, e4, e5⟩) e3) e4 e5
theorem RepL.monoC {G G' : View} (k : ∀ a o, isCon o → G a = some o → G' a = some o) : ∀ {p v}, RepL G p v → RepL G' p v
  | _, _, .nil => .nil
  | _, _, .cons a b => .cons (Rep.monoC k a) (RepL.monoC k b)
end
theorem Rep.imm {G G' : View} {p v} (hp : p.imm = true) (h : Rep G p v) : Rep G' p v := by
  cases h <;> first | exact .none | exact .bool _ | exact .int _ _ | exact .bytes _ _ | (cases hp)
theorem RepL.imm {G G' : View} : ∀ {ps vs}, (∀ p ∈ ps, p.imm = true) → RepL G ps vs → RepL G' ps vs
  | _, _, _, .nil => .nil
  | _, _, hp, .cons a b => .cons (a.imm (hp _ (.head _))) (RepL.imm (fun p h => hp p (.tail _ h)) b)
theorem RepL.length {G : View} : ∀ {ps vs}, RepL G ps vs → ps.length = vs.length
  | _, _, .nil => rfl
  | _, _, .cons _ b => by simp [RepL.length b]
theorem RepL.get {G : View} : ∀ {ps vs}, RepL G ps vs → ∀ {i : Nat} {p}, ps[i]? = some p → ∃ v, vs[i]? = some v ∧ Rep G p v
  | _, _, .nil, i, p, h => by simp at h
  | _, _, .cons a b, 0, p, h => by simp at h; subst h; exact ⟨_, rfl, a⟩
  | _, _, .cons a b, i + 1, p, h => by simpa using RepL.get b (i := i) (by simpa using h)
theorem RepL.get' {G : View} : ∀ {ps vs}, RepL G ps vs → ∀ {i : Nat} {v}, vs[i]? = some v → ∃ p, ps[i]? = some p ∧ Rep G p v
  | _, _, .nil, i, p, h => by simp at h
  | _, _, .cons a b, 0, p, h => by simp at h; subst h; exact ⟨_, rfl, a⟩
  | _, _, .cons a b, i + 1, p, h => by simpa using RepL.get' b (i := i) (by simpa using h)
theorem RepL.append {G : View} : ∀ {ps vs ps' vs'}, RepL G ps vs → RepL G ps' vs' → RepL G (ps ++ ps') (vs ++ vs')
  | _, _, _, _, .nil, h => h
  | _, _, _, _, .cons a b, h => .cons a (RepL.append b h)
theorem RepL.set {G : View} : ∀ {ps vs}, RepL G ps vs → ∀ {n : Nat} {p v}, Rep G p v → RepL G (ps.set n p) (vs.set n v)
  | _, _, .nil, n, _, _, _ => by simpa using RepL.nil
  | _, _, .cons a b, 0, _, _, h => by simpa using RepL.cons h b
  | _, _, .cons a b, n + 1, _, _, h => by simpa using RepL.cons a (RepL.set b h)

theorem hid_some {mu h a o} (e : hid mu h a = some o) : h.get? a = some o ∧ a ∉ TT ∧ a ∉ mu := by
  unfold hid at e
  by_cases ha : a ∈ TT ∨ a ∈ mu
  · rw [if_pos ha] at e; cases e
  · rw [if_neg ha] at e; exact ⟨e, fun q => ha (.inl q), fun q => ha (.inr q)⟩
theorem hid_of {mu h a o} (e : h.get? a = some o) (hT : a ∉ TT) (ha : a ∉ mu) : hid mu h a = some o := by unfold hid; rw [if_neg (by simp [hT, ha])]; exact e
theorem hid_le {mu h h'} (k : ∀ b o, b ∉ TT → b ∉ mu → h.get? b = some o → h'.get? b = some o) : View.le (hid mu h) (hid mu h') := by
  intro a o e
  obtain ⟨e, hT, hm⟩ := hid_some e
  exact hid_of (k a o hT hm e) hT hm
theorem hid_keep {mu h h'} (k : Keep TT h h') : View.le (hid mu h) (hid mu h') := hid_le fun b o hT _ e => k b o hT e
theorem hid_sub {mu mu' h} (k : ∀ a ∈ mu', a ∈ mu) : View.le (hid mu h) (hid mu' h) := by
  intro a o e
  obtain ⟨e, hT, hm⟩ := hid_some e
  exact hid_of e hT fun q => hm (k a q)
theorem Rep.all {mu h p v} (r : Rep (hid mu h) p v) : Rep (hid [] h) p v := r.mono (hid_sub (by simp))

/-- the tables' state -/
noncomputable def TabAt (h : Heap) (c P : Addr) (line col : Nat) (q : Str) : Prop :=
  ∃ ps, h.IsCode c P ps ∧ h.TableAt c P ps ∧ (ps = #[] ∨ ∃ c', ps = #[rawInt line, rawInt col, .ref c'] ∧ h.CodeRec (.ref c') q)
theorem TabAt.keeps {h h' : Heap} {c P line col q} (x : TabAt h c P line col q) (hk : Keep [] h h') : TabAt h' c P line col q := by
  obtain ⟨ps, a, b, d⟩ := x
  refine ⟨ps, a.keeps hk.all, b.keeps hk.all, d.imp id fun ⟨c', e, r⟩ => ⟨c', e, r.keeps hk.all⟩⟩

noncomputable def fnStmt (i : Nat) : Stmt := pw.main.body.getD i (.Pass default)
noncomputable def fnName (i : Nat) : Str := match fnStmt i with | .FunctionDef n .. => n | _ => Str.empty
noncomputable def fnParams (i : Nat) : Arguments := match fnStmt i with | .FunctionDef _ a .. => a | _ => default
noncomputable def fnBody (i : Nat) : List Stmt := match fnStmt i with | .FunctionDef _ _ b .. => b | _ => []
noncomputable def fnScope (i : Nat) : Scope := match fnStmt i with | .FunctionDef _ _ _ _ _ _ s .. => s | _ => default
/-- the function object's data of the def at row i of the top, its module's name, its code object -/
noncomputable def fnData (i : Nat) (pm : Value) (cd : Addr) : FuncData := fnOf (fnName i) (fnName i) (fnParams i) (fnBody i) (fnScope i) .none .none .none pm none (.ref cd) .none

/-- (name, row, address, code object, module's name) of the top's defs -/
structure Def where
  name : Str
  row : Nat
  addr : Addr
  code : Addr
  mod : Value
noncomputable def Def.data (d : Def) : FuncData := fnData d.row d.mod d.code

noncomputable def mImap : Value := .str "cpy313.imaplib" 282
noncomputable def mLong : Value := .str "cpy313._pylong" 351
noncomputable def mOp : Value := .str "cpy313.operator" 375
noncomputable def mLaw : Value := .str "law_xi0005_01" 417
noncomputable def dInt2AP : Def := ⟨"Int2AP", 3, 43, 42, mImap⟩
noncomputable def dParse : Def := ⟨"ParseFlags", 4, 50, 49, mImap⟩
noncomputable def dI2D : Def := ⟨"_int2digits", 6, 57, 56, mLong⟩
noncomputable def dD2I : Def := ⟨"_digits2int", 7, 64, 63, mLong⟩
noncomputable def dIadd : Def := ⟨"iadd", 9, 71, 70, mOp⟩
noncomputable def dIand : Def := ⟨"iand", 10, 78, 77, mOp⟩
noncomputable def dIlshift : Def := ⟨"ilshift", 11, 85, 84, mOp⟩
noncomputable def dImod : Def := ⟨"imod", 12, 92, 91, mOp⟩
noncomputable def dIrshift : Def := ⟨"irshift", 13, 99, 98, mOp⟩
noncomputable def dTold : Def := ⟨"_law_told", 15, 104, 103, mLaw⟩
noncomputable def dLost : Def := ⟨"_law_lost", 16, 109, 108, mLaw⟩
noncomputable def dReply : Def := ⟨"_law_reply", 17, 114, 113, mLaw⟩
noncomputable def dDrawn : Def := ⟨"_law_drawn", 18, 121, 120, mLaw⟩
noncomputable def dLaw : Def := ⟨"law", 19, 126, 125, mLaw⟩
noncomputable def defs : List Def := [dInt2AP, dParse, dI2D, dD2I, dIadd, dIand, dIlshift, dImod, dIrshift, dTold, dLost, dReply, dDrawn, dLaw]

/-- the names that are built in -/
noncomputable def bnames : List (Str × Value) := [("abs", .builtin "abs"), ("int", .type "int"), ("divmod", .builtin "divmod"), ("len", .builtin "len"), ("list", .type "list"), ("range", .type "range"),
  ("sum", .builtin "sum"), ("enumerate", .type "enumerate"), ("isinstance", .builtin "isinstance"), ("tuple", .type "tuple"), ("bytes", .type "bytes"), ("min", .builtin "min")]

noncomputable def patCode : List Nat := [14, 4, 0, 8, 4294967295, 24, 5, 0, 4294967295, 2, 1, 16, 70, 16, 76, 16, 65, 16, 71, 16, 83, 16, 32, 16, 40, 17, 0, 24, 6, 0, 4294967295, 20, 41, 1, 17, 1, 16, 41, 1]
noncomputable def patObj : Obj := { cls := .type "re.Pattern", data := .fields #[.bytes #[46, 42, 70, 76, 65, 71, 83, 32, 92, 40, 40, 63, 80, 60, 102, 108, 97, 103, 115, 62, 91, 94, 92, 41, 93, 42, 41, 92, 41] 285,
  .int 0 331, .int 1 0, .ref 33, .ref 34, .ref 35, .int 1 0] }
noncomputable def patTup : Obj := { cls := .type "tuple", data := .seq (patCode.map fun (n : Nat) => Value.int (n : Int) 0).toArray }
noncomputable def patDict (P : Params) : Obj := { cls := .type "dict", data := .dict #[{ hash := PyData.keyHash P "flags", key := .str "flags" 327, val := .int 1 328 }] 1 }

/-- what stands of the top at every heap of the law's run -/
structure Ok (w : World) (h : Heap) : Prop where
  fn : ∀ d ∈ defs, h.get? d.addr = some { cls := .type "function", data := .func d.data }
  cr : ∀ d ∈ defs, h.CodeRec (.ref d.code) d.name
  g : ∃ mg, h.Ns mainGlobals mg ∧ (∀ d ∈ defs, mg d.name = some (.ref d.addr)) ∧ mg "Flags" = some (.ref 36) ∧ ∀ x ∈ bnames, mg x.1 = none
  b : ∃ mb, h.Ns builtinsNs mb ∧ ∀ x ∈ bnames, mb x.1 = some x.2
  gb : ∃ mg, h.Ns mainGlobals mg ∧ mg "__builtins__" = some (.ref 4)
  bmod : ∃ ob, h.get? 4 = some ob ∧ ob.cls = .type "module" ∧ ob.dict = some builtinsNs ∧ ob.data = .plain
  nolimit : h.NoLimit
  pat : h.get? 36 = some patObj
  ptup : h.get? 35 = some patTup
  pdict : h.get? 33 = some (patDict w.params)
  t1 : TabAt h 56 52 21 4 "_int2digits.<locals>.inner"
  t2 : TabAt h 63 59 36 4 "_digits2int.<locals>.inner"
theorem Ok.keeps {w h h'} (x : Ok w h) (k : Keep [] h h') : Ok w h' where
  fn d hd := k.all _ _ (x.fn d hd)
  cr d hd := (x.cr d hd).keeps k.all
  g := let ⟨mg, a, r⟩ := x.g; ⟨mg, a.keeps k.all, r⟩
  b := let ⟨mb, a, r⟩ := x.b; ⟨mb, a.keeps k.all, r⟩
  gb := let ⟨mg, a, r⟩ := x.gb; ⟨mg, a.keeps k.all, r⟩
  bmod := let ⟨ob, a, r⟩ := x.bmod; ⟨ob, k.all _ _ a, r⟩
  nolimit := let ⟨mc, a, b⟩ := x.nolimit; ⟨mc, a.keeps k.all, b⟩
  pat := k.all _ _ x.pat
  ptup := k.all _ _ x.ptup
  pdict := k.all _ _ x.pdict
  t1 := x.t1.keeps k
  t2 := x.t2.keeps k

structure Nx (X : List Addr) (s s' : Shared) : Prop where
  keep : Keep X s.heap s'.heap
  gens : s'.gens = s.gens
  os : s'.os = s.os
theorem Nx.refl (X s) : Nx X s s := ⟨.refl _ _, rfl, rfl⟩
theorem Nx.trans {X s s' s''} (a : Nx X s s') (b : Nx X s' s'') : Nx X s s'' := ⟨a.keep.trans b.keep, b.gens.trans a.gens, b.os.trans a.os⟩
theorem Nx.nil {X s s'} (a : Nx [] s s') : Nx X s s' := ⟨a.keep.nil, a.gens, a.os⟩
theorem Nx.ok {w s s'} (a : Nx [] s s') (o : Ok w s.heap) : Ok w s'.heap := o.keeps a.keep

noncomputable def NoE : Value → Shared → Prop := fun _ _ => False

/-- room for n more frames -/
structure Room (n : Nat) (A : Around) : Prop where
  handled : A.handled = none
  depth : A.depth + n < recursionLimit
  units : A.units + 8 * n < cLine
theorem Room.le {n m A} (r : Room n A) (h : m ≤ n) : Room m A := ⟨r.handled, by have := r.depth; omega, by have := r.units; omega⟩
theorem Room.deeper {n A} (r : Room (n + 1) A) (env : Env) : Room n (A.deeper env) := ⟨r.handled, by have := r.depth; show A.depth + 1 + n < _; omega, by have := r.units; show A.units + 3 + _ < _; omega⟩

/-- expression e gives p -/
noncomputable def Ev (w : World) (X : Bool) (A : Around) (env : Env) (mu : List Addr) (h₁ : Heap) (e : Expr) (p : PV) : Prop :=
  ∀ s : Shared, Ok w s.heap → Keep TT h₁ s.heap → wpAny (model pw w) A (eval e env) (fun v s' => Nx (xs X) s s' ∧ Ok w s'.heap ∧ Rep (hid mu s'.heap) p v) NoE s
noncomputable def EvL (w : World) (X : Bool) (A : Around) (env : Env) (mu : List Addr) (h₁ : Heap) (es : List Expr) (ps : List PV) : Prop :=
  ∀ (pos : Pos) (s : Shared), Ok w s.heap → Keep TT h₁ s.heap → wpAny (model pw w) A (spliced (backTo pos (starEach es env))) (fun vs s' => Nx (xs X) s s' ∧ Ok w s'.heap ∧ RepL (hid mu s'.heap) ps vs) NoE s
noncomputable def EvT (w : World) (X : Bool) (A : Around) (env : Env) (h₁ : Heap) (e : Expr) (b : Bool) : Prop :=
  ∀ s : Shared, Ok w s.heap → Keep TT h₁ s.heap → wpAny (model pw w) A (isTrue e env (eval e env)) (fun r s' => Nx (xs X) s s' ∧ Ok w s'.heap ∧ r = b) NoE s
/-- what is hidden stands -/
noncomputable def MuOld (mu : List Addr) (h : Heap) : Prop := ∀ a ∈ mu, a ∉ TT ∧ ∃ x, h.get? a = some x
theorem MuOld.at {mu : List Addr} {h h' : Heap} (m : MuOld mu h) (k : Keep TT h h') : ∀ a ∈ mu, ∃ x, h'.get? a = some x := fun a ha => let ⟨t, x, e⟩ := m a ha; ⟨x, k _ _ t e⟩
theorem MuOld.kp {mu : List Addr} {h h' : Heap} (m : MuOld mu h) (k : Keep TT h h') : MuOld mu h' := fun a ha => let ⟨t, x, e⟩ := m a ha; ⟨t, x, k _ _ t e⟩
theorem MuOld.nil {h : Heap} : MuOld [] h := fun _ h => by cases h
/-- the def at address f, given ps, gives p -/
noncomputable def Fn (w : World) (X : Bool) (n : Nat) (f : Addr) (ps : List PV) (p : PV) : Prop :=
  ∀ (A : Around) (s : Shared) (vs : List Value) (mu : List Addr), Room n A → Ok w s.heap → MuOld mu s.heap → RepL (hid mu s.heap) ps vs →
    wpAny (model pw w) A (call (.ref f) vs) (fun v s' => Nx (xs X) s s' ∧ Ok w s'.heap ∧ Rep (hid mu s'.heap) p v) NoE s
end

section
open PySem PySem.Calls PySem.W PyProof.Rows
set_option maxRecDepth 100000
variable {w : World} {b : Bool} {A : Around} {env : Env} {mu : List Addr} {h₁ : Heap}

theorem Ok.some52 {h} (o : Ok w h) : ∃ x, h.get? 52 = some x := by
  obtain ⟨ps, _, t, _⟩ := o.t1
  exact ⟨_, t.2⟩
theorem Ok.some59 {h} (o : Ok w h) : ∃ x, h.get? 59 = some x := by
  obtain ⟨ps, _, t, _⟩ := o.t2
  exact ⟨_, t.2⟩
theorem Ok.fresh {h a} (o : Ok w h) (e : h.get? a = none) : a ∉ TT := by
  intro q
  simp only [TT, List.mem_cons, List.not_mem_nil, or_false] at q
  rcases q with rfl | rfl
  · obtain ⟨x, hx⟩ := o.some52; rw [hx] at e; cases e
  · obtain ⟨x, hx⟩ := o.some59; rw [hx] at e; cases e

theorem get_size (h : Heap) : h.get? h.objs.size = none := by
  cases e : h.get? h.objs.size with
  | none => rfl
  | some o => exact absurd (Heap.lt_size e) (Nat.lt_irrefl _)

theorem Keep.push (X) (h : Heap) (o : Obj) : Keep X h (h.push o) := fun _ _ _ e => Heap.get?_push_of_some _ e

/-- what binds a name -/
noncomputable def BindIs (env : Env) (h : Heap) (x : Str) (v : Value) : Prop :=
  (env.kindOf x = some .local ∧ env.locals ∉ TT ∧ ∃ m, h.Ns env.locals m ∧ m x = some v) ∨
  ((env.kindOf x = some .cell ∨ env.kindOf x = some .free) ∧ ∃ c, env.cells.lookup x = some c ∧ c ∉ TT ∧ h.IsCell c (some v))

theorem Ns.keepT {h h' : Heap} {a m} (n : h.Ns a m) (k : Keep TT h h') (ha : a ∉ TT) : h'.Ns a m :=
  let ⟨o, es, ep, e, r⟩ := n; ⟨o, es, ep, k _ _ ha e, r⟩
theorem IsCell.keepT {h h' : Heap} {a m} (n : h.IsCell a m) (k : Keep TT h h') (ha : a ∉ TT) : h'.IsCell a m :=
  let ⟨o, e, r⟩ := n; ⟨o, k _ _ ha e, r⟩
theorem BindIs.keep {h h' : Heap} {x v} (B : BindIs env h x v) (k : Keep TT h h') : BindIs env h' x v := by
  rcases B with ⟨a, l, m, n, e⟩ | ⟨a, c, hc, hT, e⟩
  · exact .inl ⟨a, l, m, Ns.keepT n k l, e⟩
  · exact .inr ⟨a, c, hc, hT, IsCell.keepT e k hT⟩

structure EnvOk (env : Env) : Prop where
  kind : env.scope.kind = .function
  glob : env.globals = mainGlobals
  bi : env.builtins = builtinsNs

structure Vars (env : Env) (mu : List Addr) (σ : List (Str × PV)) (h : Heap) : Prop where
  ok : EnvOk env
  var : ∀ x p, σ.lookup x = some p → ∃ v, BindIs env h x v ∧ Rep (hid mu h) p v
/-- a list, a dict that is still turned -/
structure VarsB (env : Env) (mu : List Addr) (σ : List (Str × PV)) (h : Heap) : Prop where
  ok : EnvOk env
  var : ∀ x p, σ.lookup x = some p → ∃ v, BindIs env h x v ∧ Rep (hid mu h) p v

theorem loadName_of {s : Shared} {x v} {Q : Value → Shared → Prop} {E} (ok : EnvOk env) (B : BindIs env s.heap x v) (hc : (x == ("__classdict__" : Str)) = false) (h : Q v s) :
    wpAny (model pw w) A (loadName env x) Q E s := by
  rcases B with ⟨a, _, m, n, e⟩ | ⟨a, c, hc', _, e⟩
  · exact wpAny_loadName_local ok.kind a n e h
  · rcases a with a | a
    · exact wpAny_loadName_cell ok.kind a hc' e h
    · exact wpAny_loadName_free ok.kind a hc' e h hc
theorem Name_of {s : Shared} {x v pos} {Q : Value → Shared → Prop} {E} (ok : EnvOk env) (B : BindIs env s.heap x v) (h : Q v s)
    (hd : (x == ("__debug__" : Str)) = false := by decide) (hc : (x == ("__classdict__" : Str)) = false := by decide) :
    wpAny (model pw w) A (eval (.Name x pos) env) Q E s := wpAny_Name (loadName_of ok B hc h) hd

theorem Ev.eq {e p p'} (h : Ev w b A env mu h₁ e p) (hp : p = p') : Ev w b A env mu h₁ e p' := hp ▸ h
theorem EvT.eq {e p p'} (h : EvT w b A env h₁ e p) (hp : p = p') : EvT w b A env h₁ e p' := hp ▸ h
theorem Ev.use {e p} {s : Shared} {Q : Value → Shared → Prop} {E} (h : Ev w b A env mu h₁ e p) (o : Ok w s.heap) (k : Keep TT h₁ s.heap)
    (c : ∀ v s', Nx (xs b) s s' → Ok w s'.heap → Keep TT h₁ s'.heap → Rep (hid mu s'.heap) p v → Q v s') : wpAny (model pw w) A (eval e env) Q E s :=
  wpAny_mono (h s o k) (fun v s' ⟨n, o', r⟩ => c v s' n o' (k.trans (n.keep.toTT (xs_TT b))) r) fun _ _ f => f.elim
theorem EvL.use {es ps pos} {s : Shared} {Q : List Value → Shared → Prop} {E} (h : EvL w b A env mu h₁ es ps) (o : Ok w s.heap) (k : Keep TT h₁ s.heap)
    (c : ∀ v s', Nx (xs b) s s' → Ok w s'.heap → Keep TT h₁ s'.heap → RepL (hid mu s'.heap) ps v → Q v s') : wpAny (model pw w) A (spliced (backTo pos (starEach es env))) Q E s :=
  wpAny_mono (h pos s o k) (fun v s' ⟨n, o', r⟩ => c v s' n o' (k.trans (n.keep.toTT (xs_TT b))) r) fun _ _ f => f.elim
theorem EvT.use {e r} {s : Shared} {Q : Bool → Shared → Prop} {E} (h : EvT w b A env h₁ e r) (o : Ok w s.heap) (k : Keep TT h₁ s.heap)
    (c : ∀ s', Nx (xs b) s s' → Ok w s'.heap → Keep TT h₁ s'.heap → Q r s') : wpAny (model pw w) A (isTrue e env (eval e env)) Q E s :=
  wpAny_mono (h s o k) (fun v s' ⟨n, o', e⟩ => e ▸ c s' n o' (k.trans (n.keep.toTT (xs_TT b)))) fun _ _ f => f.elim

theorem Nx.tok {s : Shared} {tk} : Nx (xs b) s { s with toks := tk } := ⟨.refl _ _, rfl, rfl⟩

theorem Ev.name {σ mu' x p pos} (V : Vars env mu' σ h₁) (hx : σ.lookup x = some p) (hm : ∀ a ∈ mu, a ∈ mu')
    (hd : (x == ("__debug__" : Str)) = false) (hc : (x == ("__classdict__" : Str)) = false) : Ev w b A env mu h₁ (.Name x pos) p := fun s o k => by
  obtain ⟨v, B, r⟩ := V.var x p hx
  exact Name_of V.ok (B.keep k) ⟨.refl _ _, o, (r.mono (hid_keep k)).mono (hid_sub hm)⟩ hd hc
theorem Ev.nameB {σ mu' x p pos} (V : VarsB env mu' σ h₁) (hx : σ.lookup x = some p) (hm : ∀ a ∈ mu, a ∈ mu')
    (hd : (x == ("__debug__" : Str)) = false) (hc : (x == ("__classdict__" : Str)) = false) : Ev w b A env mu h₁ (.Name x pos) p :=
  Ev.name (V := ⟨V.ok, V.var⟩) hx hm hd hc

theorem Ev.cInt {i k pos} : Ev w b A env mu h₁ (.Constant (.int i) k pos) (.int i) := fun _ o _ => wpAny_Constant_int ⟨Nx.tok, o, .int _ _⟩
theorem Ev.cBytes {i k pos} : Ev w b A env mu h₁ (.Constant (.bytes i) k pos) (.bytes i.toArray) := fun _ o _ => Constant_bytes ⟨Nx.tok, o, .bytes _ _⟩
theorem Ev.cNone {k pos} : Ev w b A env mu h₁ (.Constant .none k pos) .none := fun _ o _ => wpAny_Constant_none ⟨.refl _ _, o, .none⟩
theorem Ev.cBool {i k pos} : Ev w b A env mu h₁ (.Constant (.bool i) k pos) (.bool i) := fun _ o _ => wpAny_Constant_bool ⟨.refl _ _, o, .bool _⟩

inductive BinR : Operator → PV → PV → PV → Prop where
  | add {a c} : BinR .Add (.int a) (.int c) (.int (a + c))
  | sub {a c} : BinR .Sub (.int a) (.int c) (.int (a - c))
  | mul {a c} (h : IntMulOk a c) : BinR .Mult (.int a) (.int c) (.int (a * c))
  | mod {a c} (h : c ≠ 0) : BinR .Mod (.int a) (.int c) (.int (a.fmod c))
  | shr {a c} (h : 0 ≤ c) : BinR .RShift (.int a) (.int c) (.int (a.fdiv (2 ^ c.toNat)))
  | shl {a c} (h : 0 ≤ c) (h2 : c ≤ 1000000) (h3 : a.natAbs < 2 ^ 64) : BinR .LShift (.int a) (.int c) (.int (a * 2 ^ c.toNat))
  | and {a c} : BinR .BitAnd (.int a) (.int c) (.int (Builtin.bitAnd a c))
  | xor {a c} : BinR .BitXor (.int a) (.int c) (.int (Builtin.bitXor a c))
  | addB {a c} (h : a.size + c.size ≤ 16777216) : BinR .Add (.bytes a) (.bytes c) (.bytes (a ++ c))

theorem BinR.go {op p q r v u} {G : View} {s : Shared} {Q : Value → Shared → Prop} {E} (hb : BinR op p q r) (h1 : Rep G p v) (h2 : Rep G q u)
    (c : ∀ x tk, (∀ G, Rep G r x) → Q x { s with toks := tk }) : wpAny (model pw w) A (binaryOp op v u) Q E s := by
  cases hb with
  | add => obtain ⟨_, rfl⟩ := h1.int_inv; obtain ⟨_, rfl⟩ := h2.int_inv; exact P.add_int (c _ _ fun _ => .int _ _)
  | sub => obtain ⟨_, rfl⟩ := h1.int_inv; obtain ⟨_, rfl⟩ := h2.int_inv; exact P.sub_int (c _ _ fun _ => .int _ _)
  | mul h => obtain ⟨_, rfl⟩ := h1.int_inv; obtain ⟨_, rfl⟩ := h2.int_inv; exact P.mul_int (c _ _ fun _ => .int _ _) h
  | mod h => obtain ⟨_, rfl⟩ := h1.int_inv; obtain ⟨_, rfl⟩ := h2.int_inv; exact mod_int' h (c _ _ fun _ => .int _ _)
  | shr h => obtain ⟨_, rfl⟩ := h1.int_inv; obtain ⟨_, rfl⟩ := h2.int_inv; exact rshift_int h (c _ _ fun _ => .int _ _)
  | shl h h2' h3 => obtain ⟨_, rfl⟩ := h1.int_inv; obtain ⟨_, rfl⟩ := h2.int_inv; exact lshift_int_small h h2' h3 (c _ _ fun _ => .int _ _)
  | and => obtain ⟨_, rfl⟩ := h1.int_inv; obtain ⟨_, rfl⟩ := h2.int_inv; exact and_int (c _ _ fun _ => .int _ _)
  | xor => obtain ⟨_, rfl⟩ := h1.int_inv; obtain ⟨_, rfl⟩ := h2.int_inv; exact xor_int (c _ _ fun _ => .int _ _)
  | addB h => obtain ⟨_, rfl⟩ := h1.bytes_inv; obtain ⟨_, rfl⟩ := h2.bytes_inv; exact KBy.add_bytes h fun _ _ => c _ _ fun _ => .bytes _ _
theorem BinR.immL {op p q r} (h : BinR op p q r) : p.imm = true := by cases h <;> rfl
theorem Ev.bin {l op r pos p q u} (h1 : Ev w b A env [] h₁ l p) (h2 : Ev w b A env [] h₁ r q) (hb : BinR op p q u) : Ev w b A env mu h₁ (.BinOp l op r pos) u := fun s o k =>
  wpAny_BinOp (h1.use o k fun v s₁ n₁ o₁ k₁ r₁ => h2.use o₁ k₁ fun v₂ s₂ n₂ o₂ k₂ r₂ =>
    hb.go (r₁.imm (G' := hid [] s₂.heap) hb.immL) r₂ fun x tk hx => ⟨n₁.trans (n₂.trans Nx.tok), o₂, hx _⟩)

inductive InpR : Operator → PV → PV → PV → Prop where
  | add {a c} : InpR .Add (.int a) (.int c) (.int (a + c))
  | mod {a c} (h : c ≠ 0) : InpR .Mod (.int a) (.int c) (.int (a.fmod c))
  | shr {a c} (h : 0 ≤ c) : InpR .RShift (.int a) (.int c) (.int (a.fdiv (2 ^ c.toNat)))
  | shl {a c} (h : 0 ≤ c) (h2 : c ≤ 1000000) (h3 : a.natAbs < 2 ^ 64) : InpR .LShift (.int a) (.int c) (.int (a * 2 ^ c.toNat))
  | and {a c} : InpR .BitAnd (.int a) (.int c) (.int (Builtin.bitAnd a c))
theorem InpR.go {op p q r v u} {G : View} {s : Shared} {Q : Value → Shared → Prop} {E} (hb : InpR op p q r) (h1 : Rep G p v) (h2 : Rep G q u)
    (c : ∀ x tk, (∀ G, Rep G r x) → Q x { s with toks := tk }) : wpAny (model pw w) A (inplaceOp op v u) Q E s := by
  cases hb with
  | add => obtain ⟨_, rfl⟩ := h1.int_inv; obtain ⟨_, rfl⟩ := h2.int_inv; exact P.iadd_int (c _ _ fun _ => .int _ _)
  | mod h => obtain ⟨_, rfl⟩ := h1.int_inv; obtain ⟨_, rfl⟩ := h2.int_inv; exact imod_int h (c _ _ fun _ => .int _ _)
  | shr h => obtain ⟨_, rfl⟩ := h1.int_inv; obtain ⟨_, rfl⟩ := h2.int_inv; exact irshift_int h (c _ _ fun _ => .int _ _)
  | shl h h2' h3 => obtain ⟨_, rfl⟩ := h1.int_inv; obtain ⟨_, rfl⟩ := h2.int_inv; exact ilshift_int_small h h2' h3 (c _ _ fun _ => .int _ _)
  | and => obtain ⟨_, rfl⟩ := h1.int_inv; obtain ⟨_, rfl⟩ := h2.int_inv; exact iand_int (c _ _ fun _ => .int _ _)
theorem InpR.immL {op p q r} (h : InpR op p q r) : p.imm = true := by cases h <;> rfl
inductive CmpR : CmpOp → PV → PV → Bool → Prop where
  | lt {a c} : CmpR .Lt (.int a) (.int c) (decide (a < c))
  | gt {a c} : CmpR .Gt (.int a) (.int c) (decide (a > c))
  | le {a c} : CmpR .LtE (.int a) (.int c) (decide (a ≤ c))
  | ge {a c} : CmpR .GtE (.int a) (.int c) (decide (a ≥ c))
  | eq {a c} : CmpR .Eq (.int a) (.int c) (a == c)
  | ne {a c} : CmpR .NotEq (.int a) (.int c) (a != c)
  | eqB {a c} : CmpR .Eq (.bytes a) (.bytes c) (a.toList == c.toList)
  | neB {a c} : CmpR .NotEq (.bytes a) (.bytes c) (a.toList != c.toList)
theorem CmpR.go {op p q r v u} {G : View} {s : Shared} {Q : Value → Shared → Prop} {E} (hb : CmpR op p q r) (h1 : Rep G p v) (h2 : Rep G q u)
    (c : Q (.bool r) s) : wpAny (model pw w) A (compareOp op v u) Q E s := by
  cases hb with
  | lt => obtain ⟨_, rfl⟩ := h1.int_inv; obtain ⟨_, rfl⟩ := h2.int_inv; exact P.lt_int c
  | gt => obtain ⟨_, rfl⟩ := h1.int_inv; obtain ⟨_, rfl⟩ := h2.int_inv; exact P.gt_int c
  | le => obtain ⟨_, rfl⟩ := h1.int_inv; obtain ⟨_, rfl⟩ := h2.int_inv; exact P.le_int c
  | ge => obtain ⟨_, rfl⟩ := h1.int_inv; obtain ⟨_, rfl⟩ := h2.int_inv; exact P.ge_int c
  | eq => obtain ⟨_, rfl⟩ := h1.int_inv; obtain ⟨_, rfl⟩ := h2.int_inv; exact P.eq_int c
  | ne => obtain ⟨_, rfl⟩ := h1.int_inv; obtain ⟨_, rfl⟩ := h2.int_inv; exact P.ne_int c
  | eqB => obtain ⟨_, rfl⟩ := h1.bytes_inv; obtain ⟨_, rfl⟩ := h2.bytes_inv; exact eq_bytes c
  | neB => obtain ⟨_, rfl⟩ := h1.bytes_inv; obtain ⟨_, rfl⟩ := h2.bytes_inv; exact ne_bytes c
theorem CmpR.immL {op p q r} (h : CmpR op p q r) : p.imm = true := by cases h <;> rfl

theorem EvT.cmp {l op r pos p q u} (h1 : Ev w b A env [] h₁ l p) (h2 : Ev w b A env [] h₁ r q) (hb : CmpR op p q u) (hm : behindInMarks op r = false) :
    EvT w b A env h₁ (.Compare l [op] [r] pos) u := fun s o k =>
  wpAny_isTrue_Compare1 (h1.use o k fun v s₁ n₁ o₁ k₁ r₁ => h2.use o₁ k₁ fun v₂ s₂ n₂ o₂ k₂ r₂ =>
    hb.go (r₁.imm (G' := hid [] s₂.heap) hb.immL) r₂ (wpAny_truthy_bool ⟨n₁.trans n₂, o₂, rfl⟩)) hm
theorem EvT.not {x pos u} (h : EvT w b A env h₁ x u) : EvT w b A env h₁ (.UnaryOp .Not x pos) (!u) := fun s o k =>
  wpAny_isTrue_Not (h.use o k fun s' n o' k' => ⟨n, o', rfl⟩)

/-- truth of a plain value -/
noncomputable def PV.truth : PV → Bool
  | .none => false | .bool x => x | .int n => n != 0 | .bytes x => !x.isEmpty | .list l => !l.isEmpty | .tup l => !l.isEmpty | .dict l => !l.isEmpty | .mat .. => true | .fn .. => true
end

section
open PySem PySem.Calls PySem.W PyProof.Rows
set_option maxRecDepth 100000
variable {w : World} {b : Bool} {A : Around} {env : Env} {mu : List Addr} {h₁ : Heap}

theorem Rep.isList {l a} {h : Heap} (r : Rep (hid mu h) (.list l) (.ref a)) : ∃ vs : List Value, h.IsList a vs.toArray ∧ h.PlainList a vs.toArray ∧ RepL (hid mu h) l vs ∧ a ∉ TT ∧ a ∉ mu := by
  cases r with
  | list e r =>
    obtain ⟨e, hT, hm⟩ := hid_some e
    exact ⟨_, ⟨_, e, rfl, _, rfl⟩, ⟨_, e⟩, r, hT, hm⟩
theorem Rep.isTup {l a} {h : Heap} (r : Rep (hid mu h) (.tup l) (.ref a)) : ∃ vs : List Value, IsTup h a vs.toArray ∧ h.IsTuple a vs.toArray ∧ RepL (hid mu h) l vs ∧ a ∉ TT ∧ a ∉ mu := by
  cases r with
  | tup e r =>
    obtain ⟨e, hT, hm⟩ := hid_some e
    exact ⟨_, ⟨_, e, rfl, _, rfl⟩, ⟨_, e, rfl, _, rfl⟩, r, hT, hm⟩
theorem Rep.refList {l v} {G : View} (r : Rep G (.list l) v) : ∃ a, v = .ref a := by cases r; exact ⟨_, rfl⟩
theorem Rep.refTup {l v} {G : View} (r : Rep G (.tup l) v) : ∃ a, v = .ref a := by cases r; exact ⟨_, rfl⟩

/-- the sizes that truth, len ask -/
noncomputable def PV.fits : PV → Prop
  | .bytes x => x.size ≤ 1099511627776 | .list l => l.length ≤ 16777216 | .tup l => l.length ≤ 16777216 | .dict l => False | .fn _ _ => False | _ => True

theorem truthy_go {p v} {s : Shared} {Q : Bool → Shared → Prop} {E} (hf : p.fits) (r : Rep (hid mu s.heap) p v) (c : ∀ tk, Q p.truth { s with toks := tk }) :
    wpAny (model pw w) A (truthy v) Q E s := by
  cases p with
  | none => cases r.none_inv; exact truthy_none (c s.toks)
  | bool x => cases r.bool_inv; exact wpAny_truthy_bool (c s.toks)
  | int n => obtain ⟨_, rfl⟩ := r.int_inv; exact P.truthy_int (c s.toks)
  | bytes x =>
    obtain ⟨_, rfl⟩ := r.bytes_inv
    refine truthy_bytes hf ?_
    have := c (s.toks + 1 + 1)
    have e : ((x.size : Int) != 0) = !x.isEmpty := by
      show ((x.size : Int) != 0) = !(decide (x.size = 0))
      by_cases h : x.size = 0 <;> simp [h]
    rw [e]; exact this
  | list l =>
    obtain ⟨a, rfl⟩ := r.refList
    obtain ⟨vs, hl, _, r, _⟩ := r.isList
    have hlen := r.length
    refine wpAny_truthy_list hl (by simp only [List.size_toArray]; have : l.length ≤ 16777216 := hf; omega) ?_
    have e : (!vs.toArray.isEmpty) = !l.isEmpty := by
      cases vs <;> cases l <;> simp_all
    rw [e]; exact c _
  | tup l =>
    obtain ⟨a, rfl⟩ := r.refTup
    obtain ⟨vs, hl, _, r, _⟩ := r.isTup
    have hlen := r.length
    refine truthy_tuple hl (by simp only [List.size_toArray]; have : l.length ≤ 16777216 := hf; omega) ?_
    have e : (!vs.toArray.isEmpty) = !l.isEmpty := by
      cases vs <;> cases l <;> simp_all
    rw [e]; exact c _
  | dict l => exact hf.elim
  | fn a o => exact hf.elim
  | mat x i j =>
    obtain ⟨a, rfl⟩ : ∃ a, v = .ref a := by cases r; exact ⟨_, rfl⟩
    obtain ⟨o, ho, hc⟩ : ∃ o, s.heap.get? a = some o ∧ o.cls = .type "re.Match" := by
      cases r with | mat e _ => exact ⟨_, (hid_some e).1, rfl⟩
    have hT : s.TypeIs (.ref a) "re.Match" := ⟨o, ho, hc⟩
    unfold truthy
    refine wpAny_bind (wpAny_callSpecial?_none hT (by rw [typeLookup_type, builtinLookup_eq_fast]; kernel_rfl) ?_)
    refine wpAny_bind (wpAny_specialOf hT (name := "__len__") (r := none) (by rw [typeLookup_type, builtinLookup_eq_fast]; kernel_rfl) ?_)
    exact wpAny_pure (c s.toks)

theorem EvT.value {e p} (h : Ev w b A env [] h₁ e p) (hf : p.fits)
    (he : ∀ whole : Sem Value, isTrue e env whole = (do let v ← whole; standAt e.pos; holding [v] (truthy v))) : EvT w b A env h₁ e p.truth := fun s o k =>
  wpAny_isTrue_value (h.use o k fun v s₁ n₁ o₁ k₁ r₁ => truthy_go hf r₁ fun tk => ⟨n₁.trans Nx.tok, o₁, rfl⟩) (he _)

noncomputable def EvTL (w : World) (X : Bool) (A : Around) (env : Env) (h₁ : Heap) (op : BoolOp) (es : List Expr) (b : Bool) : Prop :=
  ∀ s : Shared, Ok w s.heap → Keep TT h₁ s.heap → wpAny (model pw w) A (allTrue op es env) (fun r s' => Nx (xs X) s s' ∧ Ok w s'.heap ∧ r = b) NoE s
theorem EvTL.and_nil : EvTL w b A env h₁ .And [] true := fun s o k => wpAny_allTrue_And_nil ⟨.refl _ _, o, rfl⟩
theorem EvTL.or_nil : EvTL w b A env h₁ .Or [] false := fun s o k => wpAny_allTrue_Or_nil ⟨.refl _ _, o, rfl⟩
theorem EvTL.and {x rest u r} (h : EvT w b A env h₁ x u) (h2 : u = true → EvTL w b A env h₁ .And rest r) : EvTL w b A env h₁ .And (x :: rest) (u && r) := fun s o k =>
  wpAny_allTrue_And_cons (h.use o k fun s' n o' k' => by
    cases u with
    | false => exact ⟨n, o', rfl⟩
    | true => exact wpAny_mono (h2 rfl s' o' k') (fun _ _ ⟨n', o'', e⟩ => ⟨n.trans n', o'', e⟩) fun _ _ f => f)
theorem EvTL.or {x rest u r} (h : EvT w b A env h₁ x u) (h2 : u = false → EvTL w b A env h₁ .Or rest r) : EvTL w b A env h₁ .Or (x :: rest) (u || r) := fun s o k =>
  wpAny_allTrue_Or_cons (h.use o k fun s' n o' k' => by
    cases u with
    | true => exact ⟨n, o', rfl⟩
    | false => exact wpAny_mono (h2 rfl s' o' k') (fun _ _ ⟨n', o'', e⟩ => ⟨n.trans n', o'', e⟩) fun _ _ f => f)
theorem EvT.bool {op es pos r} (h : EvTL w b A env h₁ op es r) : EvT w b A env h₁ (.BoolOp op es pos) r := fun s o k => wpAny_isTrue_BoolOp (h s o k)

theorem Ev.ifexp {t e1 e2 pos u p} (ht : EvT w b A env h₁ t u) (h1 : u = true → Ev w b A env mu h₁ e1 p) (h2 : u = false → Ev w b A env mu h₁ e2 p) :
    Ev w b A env mu h₁ (.IfExp t e1 e2 pos) p := fun s o k => wpAny_IfExp (ht.use o k fun s' n o' k' => by
  cases u with
  | true => exact wpAny_mono (h1 rfl s' o' k') (fun _ _ ⟨n', r⟩ => ⟨n.trans n', r⟩) fun _ _ f => f
  | false => exact wpAny_mono (h2 rfl s' o' k') (fun _ _ ⟨n', r⟩ => ⟨n.trans n', r⟩) fun _ _ f => f)

theorem EvL.nil : EvL w b A env mu h₁ [] [] := fun pos s o k => wpAny_items_nil ⟨.refl _ _, o, .nil⟩
theorem EvL.cons {e es p ps} (h : Ev w b A env mu h₁ e p) (h2 : EvL w b A env mu h₁ es ps) (he : starEach (e :: es) env = (false, eval e env) :: starEach es env) : EvL w b A env mu h₁ (e :: es) (p :: ps) := fun pos s o k =>
  wpAny_items_cons (h.use o k fun v s₁ n₁ o₁ k₁ r₁ => h2.use o₁ k₁ fun vs s₂ n₂ o₂ k₂ r₂ => ⟨n₁.trans n₂, o₂, .cons (r₁.mono (hid_keep (n₂.keep.toTT (xs_TT b)))) r₂⟩) he

theorem Ev.app {x np e rest pos d ps p n} (G : EnvOk env) (hx : env.kindOf x = some .globalImplicit) (hd : d ∈ defs) (hn : d.name = x) (F : Fn w b n d.addr ps p) (R : Room n A) (hm : MuOld mu h₁)
    (ha : EvL w b A env mu h₁ (e :: rest) ps) (he : starEach (e :: rest) env = (false, eval e env) :: starEach rest env) (hdb : (x == ("__debug__" : Str)) = false) :
    Ev w b A env mu h₁ (.Call (.Name x np) (e :: rest) [] pos) p := fun s o k => by
  refine wpAny_Call_NameR ?_
  obtain ⟨mg, hg, hmg, _⟩ := o.g
  refine Name_function_global G.kind hx (loadGlobal_global (by rw [G.glob]; exact hg) (by rw [← hn]; exact hmg d hd) ?_) hdb
  exact callWith_def (o := { cls := .type "function", data := .func d.data }) (fd := d.data) rfl (ha.use o k fun vs s₁ n₁ o₁ k₁ r₁ => ⟨o₁.fn d hd, wpAny_mono (F A s₁ vs mu R o₁ (hm.kp k₁) r₁) (fun _ _ ⟨n₂, r⟩ => ⟨n₁.trans n₂, r⟩) fun _ _ f => f⟩) he

/-- what a built-in call gives, the heap only grown -/
noncomputable def Bi (w : World) (A : Around) (mu : List Addr) (f : Value) (ps : List PV) (q : PV) (h₁ : Heap) : Prop :=
  ∀ (s : Shared) vs, Ok w s.heap → Keep TT h₁ s.heap → RepL (hid mu s.heap) ps vs → wpAny (model pw w) A (PySem.call f vs) (fun r s' => Nx [] s s' ∧ Rep (hid mu s'.heap) q r) NoE s
/-- a built-in function -/
theorem Ev.bif {x np e rest pos id ps q mu'} (G : EnvOk env) (hx : env.kindOf x = some .globalImplicit) (hb : (x, Value.builtin id) ∈ bnames)
    (ha : EvL w b A env mu' h₁ (e :: rest) ps) (hc : Bi w A mu' (.builtin id) ps q h₁) (hm' : ∀ (h : Heap) v, Rep (hid mu' h) q v → Rep (hid mu h) q v)
    (he : starEach (e :: rest) env = (false, eval e env) :: starEach rest env) (hpl : (backTo pos (starEach rest env)).any (·.1) = false) (hdb : (x == ("__debug__" : Str)) = false) :
    Ev w b A env mu h₁ (.Call (.Name x np) (e :: rest) [] pos) q := fun s o k => by
  refine wpAny_Call_NameR ?_
  obtain ⟨mg, hg, _, _, hm⟩ := o.g
  obtain ⟨mb, hb', hmb⟩ := o.b
  refine Name_function_global G.kind hx (loadGlobal_builtin (by rw [G.glob]; exact hg) (hm _ hb) (by rw [G.bi]; exact hb') (hmb _ hb) ?_) hdb
  exact callWith_builtin1 (ha.use o k fun vs s₁ n₁ o₁ k₁ r₁ => wpAny_mono (hc s₁ vs o₁ k₁ r₁) (fun _ _ ⟨n₂, r⟩ => ⟨n₁.trans n₂.nil, n₂.ok o₁, hm' _ _ r⟩) fun _ _ f => f.elim) he hpl
/-- a built-in type called -/
theorem Ev.bit {x np e pos T p q mu'} (G : EnvOk env) (hx : env.kindOf x = some .globalImplicit) (hb : (x, Value.type T) ∈ bnames)
    (ha : Ev w b A env mu' h₁ e p) (hc : Bi w A mu' (.type T) [p] q h₁) (hm' : ∀ (h : Heap) v, Rep (hid mu' h) q v → Rep (hid mu h) q v)
    (he : starEach [e] env = [(false, eval e env)]) (hdb : (x == ("__debug__" : Str)) = false) :
    Ev w b A env mu h₁ (.Call (.Name x np) [e] [] pos) q := fun s o k => by
  refine wpAny_Call_NameR ?_
  obtain ⟨mg, hg, _, _, hm⟩ := o.g
  obtain ⟨mb, hb', hmb⟩ := o.b
  refine Name_function_global G.kind hx (loadGlobal_builtin (by rw [G.glob]; exact hg) (hm _ hb) (by rw [G.bi]; exact hb') (hmb _ hb) ?_) hdb
  have L : EvL w b A env mu' h₁ [e] [p] := .cons ha .nil he
  exact PyProof.Rows.callWith_type1 (L.use o k fun vs s₁ n₁ o₁ k₁ r₁ => wpAny_mono (hc s₁ vs o₁ k₁ r₁) (fun _ _ ⟨n₂, r⟩ => ⟨n₁.trans n₂.nil, n₂.ok o₁, hm' _ _ r⟩) fun _ _ f => f.elim) he
theorem imm_any {q : PV} (hq : q.imm = true) {mu' : List Addr} : ∀ (h : Heap) v, Rep (hid mu' h) q v → Rep (hid mu h) q v := fun h v r => r.imm hq

theorem RepL.one {G : View} {p vs} (r : RepL G [p] vs) : ∃ v, vs = [v] ∧ Rep G p v := by
  cases r with | cons a b => cases b; exact ⟨_, rfl, a⟩
theorem RepL.two {G : View} {p q vs} (r : RepL G [p, q] vs) : ∃ v u, vs = [v, u] ∧ Rep G p v ∧ Rep G q u := by
  cases r with | cons a b => obtain ⟨u, rfl, r⟩ := b.one; exact ⟨_, _, rfl, a, r⟩

theorem bi_len_list {l : List PV} (hf : l.length ≤ 16777216) : Bi w A mu (.builtin "len") [.list l] (.int l.length) h₁ := fun s vs o k r => by
  obtain ⟨v, rfl, r1⟩ := r.one
  obtain ⟨a, rfl⟩ := r1.refList
  obtain ⟨vs, hl, _, r2, _⟩ := r1.isList
  have hlen := r2.length
  refine call_len_list hl (by simp only [List.size_toArray]; omega) ⟨Nx.tok (b := false), ?_⟩
  have : (vs.toArray.size : Int) = (l.length : Int) := by simp [hlen]
  rw [this]; exact .int _ _
theorem bi_abs {n : Int} : Bi w A mu (.builtin "abs") [.int n] (.int (if n < 0 then -n else n)) h₁ := fun s vs o k r => by
  obtain ⟨v, rfl, r1⟩ := r.one
  obtain ⟨_, rfl⟩ := r1.int_inv
  exact call_abs_int fun u tk => ⟨Nx.tok (b := false), .int _ _⟩

/-- an address that is new, an object there -/
theorem new_hid {s : Shared} {o : Obj} (ok : Ok w s.heap) (hm : ∀ a ∈ mu, ∃ x, s.heap.get? a = some x) (hf : o.isFreed = false := by rfl) : hid mu (s.heap.push o) s.heap.objs.size = some o := by
  refine hid_of (Heap.get?_push_size _ hf) (ok.fresh (get_size _)) fun q => ?_
  obtain ⟨x, e⟩ := hm _ q
  rw [get_size] at e; cases e
theorem bi_divmod {a c : Int} (hc : c ≠ 0) (hc2 : c.natAbs < 1073741824) (hm : MuOld mu h₁) : Bi w A mu (.builtin "divmod") [.int a, .int c] (.tup [.int (a.fdiv c), .int (a.fmod c)]) h₁ := fun s vs o k r => by
  obtain ⟨v, u, rfl, r1, r2⟩ := r.two
  obtain ⟨_, rfl⟩ := r1.int_inv; obtain ⟨_, rfl⟩ := r2.int_inv
  exact divmod_int hc ⟨⟨.push _ _ _, rfl, rfl⟩, .tup (vs := [_, _]) (new_hid o (hm.at k)) (.cons (.int _ _) (.cons (.int _ _) .nil))⟩ (.inl (PyProof.noPylong_small hc2))

/-- a display -/
theorem Ev.tuple {es ps k pos} (h : EvL w b A env mu h₁ es ps) (hm : MuOld mu h₁) (hf : ps.length ≤ 16777216) : Ev w b A env mu h₁ (.Tuple es k pos) (.tup ps) := fun s o kk =>
  wpAny_Tuple (h.use o kk fun vs s₁ n₁ o₁ k₁ r₁ => ⟨by rw [← r₁.length, sizeLine_eq]; exact hf, n₁.trans ⟨.push _ _ _, rfl, rfl⟩, o₁.keeps (.push _ _ _), .tup (vs := vs) (new_hid o₁ (hm.at k₁)) (r₁.mono (hid_keep (.push _ _ _)))⟩)
theorem Ev.list {es ps pos} (h : EvL w b A env mu h₁ es ps) (hm : MuOld mu h₁) (hf : ps.length ≤ 16777216) : Ev w b A env mu h₁ (.List es pos) (.list ps) := fun s o kk =>
  wpAny_List (h.use o kk fun vs s₁ n₁ o₁ k₁ r₁ => ⟨by rw [← r₁.length, sizeLine_eq]; exact hf, n₁.trans ⟨.push _ _ _, rfl, rfl⟩, o₁.keeps (.push _ _ _), .list (vs := vs) (new_hid o₁ (hm.at k₁)) (r₁.mono (hid_keep (.push _ _ _)))⟩)

/-- an item of a list -/
theorem Ev.item {v i pos p l n} (hv : Ev w b A env mu h₁ v (.list l)) (hi : Ev w b A env [] h₁ i (.int n)) (h0 : 0 ≤ n) (hn : n < 16777216) (hp : l[n.toNat]? = some p)
    (hs : ∀ a t, subscripted i false (.ref a) (.int n t) = operate [.ref a, .int n t] (getItem (.ref a) (.int n t))) (ht : ∀ a r, letTemporaryGo v (.ref a) r = pure ()) :
    Ev w b A env mu h₁ (.Subscript v i pos) p := fun s o k =>
  Subscript_ (hv.use o k fun x s₁ n₁ o₁ k₁ r₁ => hi.use o₁ k₁ fun y s₂ n₂ o₂ k₂ r₂ => by
    obtain ⟨_, rfl⟩ := r₂.int_inv
    obtain ⟨a, rfl⟩ := r₁.refList
    obtain ⟨vs, hl, hpl, r, hT, _⟩ := (r₁.mono (hid_keep (n₂.keep.toTT (xs_TT b)))).isList
    obtain ⟨u, hu, ru⟩ := r.get hp
    refine subscriptTail_builtin (T := "list") (id := "list.__getitem__") hl.typeIs list_getitem_lookup (wpAny_getItem_list hl h0 (by omega) (x := u) (by simpa using hu) ⟨n₁.trans n₂, o₂, ru⟩) (hs _ _) (ht _)
    )
end

section
open PySem PySem.Calls PySem.W PyProof.Rows
set_option maxRecDepth 100000
variable {w : World} {b : Bool} {A : Around} {env : Env} {mu : List Addr} {h₁ : Heap}

/-- the addresses that Ok speaks of -/
noncomputable def okAddrs : List Addr := defs.map (·.addr) ++ defs.map (·.code) ++ [mainGlobals, builtinsNs, cStatics, 33, 35, 36, 52, 59, 4]
theorem Ok.addr {h} (o : Ok w h) : ∀ a ∈ okAddrs, ∃ x, h.get? a = some x := by
  intro a ha
  simp only [okAddrs, List.mem_append, List.mem_map, List.mem_cons, List.not_mem_nil, or_false] at ha
  rcases ha with (⟨d, hd, rfl⟩ | ⟨d, hd, rfl⟩) | ha
  · exact ⟨_, o.fn d hd⟩
  · obtain ⟨c, x, vs, t, e, hx, _⟩ := o.cr d hd
    cases e; exact ⟨x, hx⟩
  · rcases ha with rfl | rfl | rfl | rfl | rfl | rfl | rfl | rfl | rfl
    · obtain ⟨mg, ⟨x, _, _, e, _⟩, _⟩ := o.g; exact ⟨x, e⟩
    · obtain ⟨mg, ⟨x, _, _, e, _⟩, _⟩ := o.b; exact ⟨x, e⟩
    · obtain ⟨mg, ⟨x, _, _, e, _⟩, _⟩ := o.nolimit; exact ⟨x, e⟩
    · exact ⟨_, o.pdict⟩
    · exact ⟨_, o.ptup⟩
    · exact ⟨_, o.pat⟩
    · exact o.some52
    · exact o.some59
    · obtain ⟨ob, e, _⟩ := o.bmod; exact ⟨ob, e⟩

/-- no code object, no code table -/
noncomputable def NoCode (o : Obj) : Prop := ∀ vs, o.data = .fields vs → vs.size ≤ 6 ∧ ∀ q t, vs[1]? ≠ some (.str q t)
theorem NoCode.nf {o : Obj} (h : ∀ vs, o.data ≠ .fields vs) : NoCode o := fun vs e => absurd e (h vs)
theorem CodeRec.butC {h h' : Heap} {cd q a oa} (x : h.CodeRec cd q) (k : ∀ b o, b ≠ a → h.get? b = some o → h'.get? b = some o) (ha : h.get? a = some oa) (hnf : NoCode oa) : h'.CodeRec cd q :=
  let ⟨c, o, vs, t, e, g, d, r⟩ := x
  ⟨c, o, vs, t, e, k _ _ (by rintro rfl; rw [ha] at g; cases g; exact (hnf _ d).2 _ _ r) g, d, r⟩
theorem TabAt.but {h h' : Heap} {c P line col q a oa} (x : TabAt h c P line col q) (k : ∀ b o, b ≠ a → h.get? b = some o → h'.get? b = some o) (ha : h.get? a = some oa) (hnf : NoCode oa) (hPa : P ≠ a) : TabAt h' c P line col q := by
  obtain ⟨ps, hc, ht, r⟩ := x
  have k' : Heap.ExtBut a h h' := k
  have hca : c ≠ a := by
    rintro rfl
    obtain ⟨o, vs, _, _, _, _, _, _, _, _, ho, hd, hp, _⟩ := hc
    rw [ha] at ho; cases ho
    have h1 := (hnf _ hd).1
    have : vs.getD 11 .none = .none := by simp [Array.getD]; omega
    rw [this] at hp; cases hp
  exact ⟨ps, hc.extBut k' hca hPa, ht.extBut k' hca hPa, r.imp id fun ⟨c', e, r⟩ => ⟨c', e, CodeRec.butC r k ha hnf⟩⟩
theorem Ok.but {h h' : Heap} {a oa} (x : Ok w h) (k : ∀ b o, b ≠ a → h.get? b = some o → h'.get? b = some o) (ha : h.get? a = some oa) (hnf : NoCode oa) (hn : a ∉ okAddrs) : Ok w h' := by
  have k' : Heap.ExtBut a h h' := k
  have ne : ∀ c ∈ okAddrs, c ≠ a := fun c hc e => hn (e ▸ hc)
  exact {
    fn := fun d hd => k _ _ (ne _ (by simp only [okAddrs, List.mem_append, List.mem_map]; exact .inl (.inl ⟨d, hd, rfl⟩))) (x.fn d hd)
    cr := fun d hd => CodeRec.butC (x.cr d hd) k ha hnf
    g := let ⟨mg, n, r⟩ := x.g; ⟨mg, n.extBut k' (ne _ (by simp [okAddrs])), r⟩
    b := let ⟨mg, n, r⟩ := x.b; ⟨mg, n.extBut k' (ne _ (by simp [okAddrs])), r⟩
    gb := let ⟨mg, n, r⟩ := x.gb; ⟨mg, n.extBut k' (ne _ (by simp [okAddrs])), r⟩
    bmod := let ⟨ob, e, r⟩ := x.bmod; ⟨ob, k _ _ (ne _ (by simp [okAddrs])) e, r⟩
    nolimit := let ⟨mg, n, r⟩ := x.nolimit; ⟨mg, n.extBut k' (ne _ (by simp [okAddrs])), r⟩
    pat := k _ _ (ne _ (by simp [okAddrs])) x.pat
    ptup := k _ _ (ne _ (by simp [okAddrs])) x.ptup
    pdict := k _ _ (ne _ (by simp [okAddrs])) x.pdict
    t1 := x.t1.but k ha hnf (ne _ (by simp [okAddrs]))
    t2 := x.t2.but k ha hnf (ne _ (by simp [okAddrs])) }
/-- what the base tells stands -/
noncomputable def KeepV (X : List Addr) (B : View) (h : Heap) : Prop := ∀ b o, b ∉ X → B b = some o → h.get? b = some o
theorem KeepV.trans {X B h h'} (a : KeepV X B h) (k : Keep X h h') : KeepV X B h' := fun b o n e => k b o n (a b o n e)

noncomputable def own (env : Env) : List Addr := env.locals :: (env.cells.filter fun y => env.kindOf y.1 == some .cell).map (·.2)
theorem mem_ownC {env : Env} {a : Addr} : a ∈ own env ↔ a = env.locals ∨ ∃ y ∈ env.cells, env.kindOf y.1 = some .cell ∧ y.2 = a := by
  simp only [own, List.mem_cons, List.mem_map, List.mem_filter, beq_iff_eq]
  constructor
  · rintro (h | ⟨y, ⟨h1, h2⟩, h3⟩)
    · exact .inl h
    · exact .inr ⟨y, h1, h2, h3⟩
  · rintro (h | ⟨y, h1, h2, h3⟩)
    · exact .inl h
    · exact .inr ⟨y, ⟨h1, h2⟩, h3⟩
noncomputable def bxa : Option (Str × Addr × PV) → List Addr
  | none => []
  | some (_, a, _) => [a]

/-- the frame of a def's call -/
structure Fm (w : World) (X : Bool) (h₀ : View) (env : Env) (mu : List Addr) (σ : List (Str × PV)) (bx : Option (Str × Addr × PV)) (h : Heap) : Prop where
  ok : EnvOk env
  keep : KeepV (xs X) h₀ h
  newO : ∀ a ∈ own env, h₀ a = none ∧ a ∉ TT ∧ a ∉ okAddrs
  ns : ∃ m, h.Ns env.locals m
  cell : ∀ y ∈ env.cells, env.kindOf y.1 = some .cell → ∃ v, h.IsCell y.2 v
  apart : env.cells.Pairwise fun x y => x.2 ≠ y.2
  muOld : MuOld mu h
  vars : ∀ x p, σ.lookup x = some p → ∃ v, BindIs env h x v ∧ Rep (hid (bxa bx ++ own env ++ mu) h) p v
  box : ∀ x a p, bx = some (x, a, p) → BindIs env h x (.ref a) ∧ Rep (hid (own env ++ mu) h) p (.ref a) ∧ h₀ a = none ∧ a ∉ okAddrs

section
variable {X : Bool} {h₀ : View} {h : Heap} {σ : List (Str × PV)} {bx : Option (Str × Addr × PV)}
noncomputable abbrev full (env : Env) (mu : List Addr) (bx : Option (Str × Addr × PV)) : List Addr := bxa bx ++ own env ++ mu

theorem Fm.toVars (F : Fm w X h₀ env mu σ bx h) : Vars env (full env mu bx) σ h := ⟨F.ok, F.vars⟩
theorem Fm.toVarsB {x a p} (F : Fm w X h₀ env mu σ (some (x, a, p)) h) : VarsB env (own env ++ mu) [(x, p)] h := ⟨F.ok, fun y q e => by
  simp only [List.lookup] at e
  split at e
  · rename_i hy
    cases e
    obtain ⟨b1, r, _⟩ := F.box _ _ _ rfl
    rw [beq_iff_eq.mp hy]
    exact ⟨_, b1, r⟩
  · cases e⟩
theorem Fm.newT (F : Fm w X h₀ env mu σ bx h) : ∀ a ∈ own env, a ∉ TT := fun a ha => (F.newO a ha).2.1
theorem Rep.refAt {G : View} {p a} (r : Rep G p (.ref a)) : ∃ o, G a = some o := by
  cases r with
  | list e _ => exact ⟨_, e⟩
  | tup e _ => exact ⟨_, e⟩
  | dict e _ _ _ => exact ⟨_, e⟩
  | mat e _ => exact ⟨_, e⟩
  | fn e => exact ⟨_, e⟩
theorem Fm.muOld' (F : Fm w X h₀ env mu σ bx h) : MuOld (full env mu bx) h := by
  intro a ha
  rcases List.mem_append.mp ha with ha | ha
  · rcases List.mem_append.mp ha with ha | ha
    · cases bx with
      | none => cases ha
      | some y =>
        obtain ⟨x, a', p⟩ := y
        have e : a = a' := by simpa [bxa] using ha
        subst e
        obtain ⟨_, r, n⟩ := F.box _ _ _ rfl
        obtain ⟨o, ho⟩ := r.refAt
        exact ⟨(hid_some ho).2.1, o, (hid_some ho).1⟩
    · refine ⟨F.newT a ha, ?_⟩
      rcases mem_ownC.mp ha with rfl | ⟨y, hy, hk, rfl⟩
      · obtain ⟨m, o, _, _, e, _⟩ := F.ns; exact ⟨o, e⟩
      · obtain ⟨v, o, e, _⟩ := F.cell y hy hk; exact ⟨o, e⟩
  · exact F.muOld a ha
theorem Fm.muO (F : Fm w X h₀ env mu σ bx h) : MuOld mu h := F.muOld
theorem Fm.weaken {σ'} (F : Fm w X h₀ env mu σ bx h) (hs : ∀ e ∈ σ', σ.lookup e.1 = some e.2) : Fm w X h₀ env mu σ' bx h :=
  { F with vars := fun x p e => F.vars x p (hs _ (mem_of_lookup e)) }
theorem Fm.kp {h'} (F : Fm w X h₀ env mu σ bx h) (k : Keep (xs X) h h') : Fm w X h₀ env mu σ bx h' := by
  have kT := k.toTT (xs_TT X)
  exact { F with
    keep := F.keep.trans k
    muOld := F.muOld.kp kT
    ns := let ⟨m, n⟩ := F.ns; ⟨m, Ns.keepT n kT (F.newT _ (by simp [own]))⟩
    cell := fun y hy hk => let ⟨v, c⟩ := F.cell y hy hk; ⟨v, IsCell.keepT c kT (F.newT _ (mem_ownC.mpr (.inr ⟨y, hy, hk, rfl⟩)))⟩
    vars := fun x p e => let ⟨v, B, r⟩ := F.vars x p e; ⟨v, B.keep kT, r.mono (hid_keep kT)⟩
    box := fun x a p e => let ⟨B, r, n⟩ := F.box x a p e; ⟨B.keep kT, r.mono (hid_keep kT), n⟩ }

/-- a name that is stored -/
noncomputable def StoreOk (env : Env) (x : Str) : Prop := env.kindOf x = some .local ∨ (env.kindOf x = some .cell ∧ ∃ c, env.cells.lookup x = some c)

theorem store_gen {s : Shared} {x v} {σ' : List (Str × PV)} {Q : Unit → Shared → Prop} {E} (F : Fm w X h₀ env mu σ bx s.heap) (O : Ok w s.heap) (hst : StoreOk env x) (hbx : ∀ y a q, bx = some (y, a, q) → x ≠ y)
    (hσ : ∀ y p, σ'.lookup y = some p → (y = x ∧ Rep (hid (full env mu bx) s.heap) p v) ∨ (y ≠ x ∧ σ.lookup y = some p))
    (c : ∀ h' tk, Fm w X h₀ env mu σ' bx h' → Ok w h' → BindIs env h' x v → (∀ M, (∀ a ∈ own env, a ∈ M) → View.le (hid M s.heap) (hid M h')) → Q () { s with heap := h', toks := tk }) :
    wpAny (model pw w) A (storeName env x v) Q E s := by
  have hpu : (env.scope.kind == .class || (env.scope.kind == .module && env.locals != env.globals)) = false := by rw [F.ok.kind]; rfl
  -- what holds for every heap that parts from this one at an own address alone
  have go : ∀ (a : Addr) (oa : Obj) (h' : Heap), a ∈ own env → s.heap.get? a = some oa → (∀ vs, oa.data ≠ .fields vs) → (∃ o, h'.get? a = some o) → Heap.SameBut a s.heap h' → (∃ m, h'.Ns env.locals m) → (∀ y ∈ env.cells, env.kindOf y.1 = some .cell → ∃ v, h'.IsCell y.2 v) →
      BindIs env h' x v → (∀ y u, y ≠ x → BindIs env s.heap y u → BindIs env h' y u) → Fm w X h₀ env mu σ' bx h' ∧ Ok w h' ∧ BindIs env h' x v ∧ (∀ M, (∀ a ∈ own env, a ∈ M) → View.le (hid M s.heap) (hid M h')) := by
    intro a oa h' ha ho hnf hex hs hns hcl hB hk
    have ext : ∀ b o, b ≠ a → s.heap.get? b = some o → h'.get? b = some o := fun b o n e => (hs.2 b n).trans e
    have hle : ∀ M, a ∈ M → View.le (hid M s.heap) (hid M h') := fun M hM => hid_le fun b o _ hb e => ext b o (fun q => hb (q ▸ hM)) e
    have inF : a ∈ full env mu bx := by simp only [full, List.mem_append]; exact .inl (.inr ha)
    refine ⟨{ F with keep := ?_, ns := hns, cell := hcl, vars := ?_, box := ?_, muOld := ?_ }, O.but ext ho (.nf hnf) (F.newO a ha).2.2, hB, fun M hM => hle M (hM a ha)⟩
    · intro b o nX e
      exact ext b o (by rintro rfl; rw [(F.newO _ ha).1] at e; cases e) (F.keep b o nX e)
    · intro b hb
      obtain ⟨t, o, e⟩ := F.muOld b hb
      by_cases q : b = a
      · subst q; exact ⟨t, hex⟩
      · exact ⟨t, o, ext b o q e⟩
    · intro y q e
      rcases hσ y q e with ⟨rfl, r⟩ | ⟨hy, e⟩
      · exact ⟨v, hB, r.mono (hle _ inF)⟩
      · obtain ⟨u, B, r'⟩ := F.vars y q e
        exact ⟨u, hk y u hy B, r'.mono (hle _ inF)⟩
    · intro y a' q e
      obtain ⟨B, r', n⟩ := F.box y a' q e
      exact ⟨hk y _ (Ne.symm (hbx y a' q e)) B, r'.mono (hle _ (List.mem_append_left _ ha)), n⟩
  rcases hst with hl | ⟨hl, cc, hc⟩
  · obtain ⟨m, hm⟩ := F.ns
    obtain ⟨oL, es, ep, hL, hd, _⟩ := id hm
    refine wpAny_storeName_local hl hm (fun h' hn hs => ?_) hpu
    have hc' : ∀ c u, s.heap.IsCell c u → c ≠ env.locals := fun c u ⟨o, ho, hdo⟩ e => by
      rw [e, hL] at ho; cases ho; rw [hd] at hdo; cases hdo
    obtain ⟨f, o, hB', l⟩ := go env.locals oL h' (by simp [own]) hL (fun vs e => by rw [hd] at e; cases e) (let ⟨o, _, _, e, _⟩ := hn; ⟨o, e⟩) hs ⟨_, hn⟩ (fun y hy hk => let ⟨u, q⟩ := F.cell y hy hk; ⟨u, q.sameBut hs (hc' _ _ q)⟩)
      (.inl ⟨hl, F.newT _ (by simp [own]), _, hn, by simp⟩) fun y u hy B => by
        rcases B with ⟨a1, a2, m', n', e'⟩ | ⟨a1, c', hc1, a3, a4⟩
        · have : m' = m := by
            funext z
            obtain ⟨o1, es1, ep1, g1, d1, _, f1⟩ := n'
            obtain ⟨o2, es2, ep2, g2, d2, _, f2⟩ := hm
            rw [g1] at g2; cases g2; rw [d1] at d2; cases d2
            rw [← f1, ← f2]
          subst this
          exact .inl ⟨a1, a2, _, hn, by simp [hy, e']⟩
        · exact .inr ⟨a1, c', hc1, a3, a4.sameBut hs (hc' _ _ a4)⟩
    exact c _ _ f o hB' l
  · have hmem := mem_of_lookup hc
    obtain ⟨v₀, hv₀⟩ := F.cell _ hmem hl
    obtain ⟨oc, hoc, hdc⟩ := id hv₀
    refine wpAny_storeName_cell F.ok.kind hl hc hv₀ fun h' hcl hs => ?_
    have hin : cc ∈ own env := mem_ownC.mpr (.inr ⟨_, hmem, hl, rfl⟩)
    obtain ⟨m, hm⟩ := F.ns
    obtain ⟨oL, es, ep, hL, hd, _⟩ := id hm
    have hLc : env.locals ≠ cc := fun e => by rw [e, hoc] at hL; cases hL; rw [hdc] at hd; cases hd
    obtain ⟨f, o, hB', l⟩ := go cc oc h' hin hoc (fun vs e => by rw [hdc] at e; cases e) (let ⟨o, e, _⟩ := hcl; ⟨o, e⟩) hs ⟨m, hm.sameBut hs hLc⟩
      (fun y hy hk => by
        by_cases e : y.2 = cc
        · rw [e]; exact ⟨_, hcl⟩
        · obtain ⟨u, q⟩ := F.cell y hy hk; exact ⟨u, q.sameBut hs e⟩)
      (.inr ⟨.inl hl, cc, hc, F.newT _ hin, hcl⟩) fun y u hy B => by
        rcases B with ⟨a1, a2, m', n', e'⟩ | ⟨a1, c', hc1, a3, a4⟩
        · exact .inl ⟨a1, a2, m', n'.sameBut hs hLc, e'⟩
        · refine .inr ⟨a1, c', hc1, a3, a4.sameBut hs fun e => hy ?_⟩
          subst e
          exact name_of_addr F.apart (mem_of_lookup hc1) hmem
    exact c _ _ f o hB' l
theorem store_go {s : Shared} {x p v} {Q : Unit → Shared → Prop} {E} (F : Fm w X h₀ env mu σ bx s.heap) (O : Ok w s.heap) (hst : StoreOk env x) (hbx : ∀ y a q, bx = some (y, a, q) → x ≠ y)
    (r : Rep (hid (full env mu bx) s.heap) p v) (c : ∀ h' tk, Fm w X h₀ env mu ((x, p) :: σ) bx h' → Ok w h' → Q () { s with heap := h', toks := tk }) :
    wpAny (model pw w) A (storeName env x v) Q E s :=
  store_gen F O hst hbx (σ' := (x, p) :: σ) (fun y q e => by
    simp only [List.lookup] at e
    split at e
    · rename_i hy
      cases e
      exact .inl ⟨beq_iff_eq.mp hy, r⟩
    · rename_i hy
      exact .inr ⟨by simpa using hy, e⟩) fun h' tk f o _ _ => c h' tk f o
end
end

section
open PySem PySem.Calls PySem.W PyProof.Rows
set_option maxRecDepth 100000
variable {w : World} {X : Bool} {A : Around} {env : Env} {mu : List Addr} {h₀ : View} {h₁ : Heap} {σ : List (Str × PV)} {bx : Option (Str × Addr × PV)}

theorem execs_append (env : Env) : ∀ a b : List Stmt, execs (a ++ b) env = (do match ← execs a env with | .next => execs b env | f => pure f)
  | [], b => by rw [execs_nil, pure_bind]; rfl
  | s :: a, b => by
    rw [List.cons_append, execs_cons, execs_cons, LawfulMonad.bind_assoc]
    refine congrArg _ (funext fun f => ?_)
    cases f with
    | next => exact execs_append env a b
    | _ => rw [pure_bind]

/-- from I, the statements end in J -/
noncomputable def Ex (w : World) (A : Around) (env : Env) (I : Heap → Prop) (ss : List Stmt) (J : Flow → Heap → Prop) : Prop :=
  ∀ s : Shared, Ok w s.heap → I s.heap → wpAny (model pw w) A (execs ss env) (fun fl s' => s'.gens = s.gens ∧ s'.os = s.os ∧ Ok w s'.heap ∧ J fl s'.heap) NoE s

theorem Ex.nil {I J} (h : ∀ h, I h → J .next h) : Ex w A env I [] J := fun s o i => wpAny_execs_nil ⟨rfl, rfl, o, h _ i⟩
theorem Ex.pre {I I' : Heap → Prop} {ss J} (hi : ∀ h, Ok w h → I h → I' h) (h : Ex w A env I' ss J) : Ex w A env I ss J := fun s o i => h s o (hi _ o i)
theorem Ex.post {I : Heap → Prop} {ss J J'} (h : Ex w A env I ss J) (hj : ∀ f h, Ok w h → J f h → J' f h) : Ex w A env I ss J' := fun s o i => wpAny_mono (h s o i) (fun _ _ ⟨a, b, c, d⟩ => ⟨a, b, c, hj _ _ c d⟩) fun _ _ f => f
theorem Ex.ex {α : Type} {I : α → Heap → Prop} {ss J} (h : ∀ a, Ex w A env (I a) ss J) : Ex w A env (fun h => ∃ a, I a h) ss J := fun s o ⟨a, i⟩ => h a s o i

/-- one statement -/
noncomputable def Ex1 (w : World) (A : Around) (env : Env) (I : Heap → Prop) (st : Stmt) (J : Flow → Heap → Prop) : Prop :=
  ∀ s : Shared, Ok w s.heap → I s.heap → wpAny (model pw w) A (exec st env) (fun fl s' => s'.gens = s.gens ∧ s'.os = s.os ∧ Ok w s'.heap ∧ J fl s'.heap) NoE s
theorem Ex.cons {I I' st rest J} (h : Ex1 w A env I st (fun f h => match f with | .next => I' h | f => J f h)) (hr : Ex w A env I' rest J) : Ex w A env I (st :: rest) J := fun s o i =>
  wpAny_execs_cons (wpAny_mono (h s o i) (fun f s' ⟨g, os, o', j⟩ => by
    cases f with
    | next => exact wpAny_mono (hr s' o' j) (fun _ _ ⟨g', os', r⟩ => ⟨g'.trans g, os'.trans os, r⟩) fun _ _ f => f
    | _ => exact ⟨g, os, o', j⟩) fun _ _ f => f)
theorem Ex1.nextOnly {I : Heap → Prop} {st} {J : Flow → Heap → Prop} {I' : Heap → Prop} (h : Ex1 w A env I st (fun f h => f = .next ∧ I' h)) : Ex1 w A env I st (fun f h => match f with | .next => I' h | f => J f h) := fun s o i =>
  wpAny_mono (h s o i) (fun f s' ⟨g, os, o', e, j⟩ => by subst e; exact ⟨g, os, o', j⟩) fun _ _ f => f

theorem Ex.assign {x pos' e pos rest p J} (he : ∀ h, Ok w h → Fm w X h₀ env mu σ bx h → Ev w X A env (full env mu bx) h e p) (hsw : swapsWith e (some (.Name x pos')) pos.line env = pure false)
    (hst : StoreOk env x) (hbx : ∀ y a q, bx = some (y, a, q) → x ≠ y) (hr : Ex w A env (Fm w X h₀ env mu ((x, p) :: σ) bx) rest J) :
    Ex w A env (Fm w X h₀ env mu σ bx) (.Assign [.Name x pos'] e pos :: rest) J :=
  Ex.cons (Ex1.nextOnly fun s o i => wpAny_Assign_Name ((he _ o i).use o (.refl _ _) fun v s₁ n₁ o₁ k₁ r₁ =>
    store_go (i.kp n₁.keep) o₁ hst hbx r₁ fun h' tk F O => ⟨n₁.gens, n₁.os, O, rfl, F⟩) hsw) hr

theorem Ex.aug {x pos' op e pos rest p q r J} (hp : σ.lookup x = some p) (he : ∀ h, Ok w h → Fm w X h₀ env mu σ bx h → Ev w X A env [] h e q) (hop : InpR op p q r)
    (hc : (x == ("__classdict__" : Str)) = false) (hst : StoreOk env x) (hbx : ∀ y a q, bx = some (y, a, q) → x ≠ y) (hr : Ex w A env (Fm w X h₀ env mu ((x, r) :: σ) bx) rest J) :
    Ex w A env (Fm w X h₀ env mu σ bx) (.AugAssign (.Name x pos') op e pos :: rest) J :=
  Ex.cons (Ex1.nextOnly fun s o i => by
    obtain ⟨v, B, r₀⟩ := i.vars x p hp
    refine wpAny_AugAssign_Name (loadName_of i.ok B hc ((he _ o i).use o (.refl _ _) fun u s₁ n₁ o₁ k₁ r₁ => hop.go (r₀.imm (G' := hid [] s₁.heap) hop.immL) r₁ fun x' tk hx => ?_))
    exact store_go (s := { s₁ with toks := tk }) (i.kp n₁.keep) o₁ hst hbx (hx _) fun h' tk F O => ⟨n₁.gens, n₁.os, O, rfl, F⟩) hr

noncomputable def RetJ (w : World) (X : Bool) (h₀ : View) (mu : List Addr) (p : PV) : Flow → Heap → Prop := fun f h => ∃ v, f = .ret v ∧ KeepV (xs X) h₀ h ∧ Rep (hid mu h) p v
theorem Ex.ret {e pos rest p} (he : ∀ h, Ok w h → Fm w X h₀ env mu σ bx h → Ev w X A env mu h e p) : Ex w A env (Fm w X h₀ env mu σ bx) (.Return (some e) pos :: rest) (RetJ w X h₀ mu p) :=
  Ex.cons (I' := fun _ => False) (fun s o i => wpAny_Return_some ((he _ o i).use o (.refl _ _) fun v s₁ n₁ o₁ k₁ r₁ => ⟨n₁.gens, n₁.os, o₁, ⟨v, rfl, i.keep.trans n₁.keep, r₁⟩⟩)) fun _ _ f => f.elim

theorem execs_If (env : Env) (t : Expr) (body orelse rest : List Stmt) (pos : Pos) : execs (.If t body orelse pos :: rest) env = (do
    standAt pos; if ← isTrue t env (eval t env) then execs (body ++ rest) env else execs (orelse ++ rest) env) := by
  rw [execs_cons, exec_If]
  simp only [LawfulMonad.bind_assoc]
  refine congrArg _ (funext fun _ => congrArg _ (funext fun b => ?_))
  cases b
  · simp only [Bool.false_eq_true, if_false]; rw [execs_append]; rfl
  · simp only [if_true]; rw [execs_append]; rfl
theorem Ex.ite {t body orelse pos rest u J} (ht : ∀ h, Ok w h → Fm w X h₀ env mu σ bx h → EvT w X A env h t u) (h1 : u = true → Ex w A env (Fm w X h₀ env mu σ bx) (body ++ rest) J)
    (h2 : u = false → Ex w A env (Fm w X h₀ env mu σ bx) (orelse ++ rest) J) : Ex w A env (Fm w X h₀ env mu σ bx) (.If t body orelse pos :: rest) J := fun s o i => by
  rw [execs_If]
  refine wpAny_bind (wpAny_standAt (wpAny_bind ((ht _ o i).use o (.refl _ _) fun s' n o' k => ?_)))
  cases u with
  | true => exact wpAny_mono (h1 rfl s' o' (i.kp n.keep)) (fun _ _ ⟨a, b, c⟩ => ⟨a.trans n.gens, b.trans n.os, c⟩) fun _ _ f => f
  | false => exact wpAny_mono (h2 rfl s' o' (i.kp n.keep)) (fun _ _ ⟨a, b, c⟩ => ⟨a.trans n.gens, b.trans n.os, c⟩) fun _ _ f => f

/-- a while by a measure: I n at the test -/
theorem Ex.whil {t body pos rest J} (I : Nat → Heap → Prop) (u : Nat → Bool)
    (ht : ∀ n h, Ok w h → I n h → EvT w false A env h t (u n)) (hk : ∀ n h h', I n h → Keep [] h h' → I n h')
    (hb : ∀ n, u n = true → Ex w A env (I n) body (fun f h => f = .next ∧ ∃ m, m < n ∧ I m h))
    (n : Nat) (hr : Ex w A env (fun h => ∃ n, u n = false ∧ I n h) rest J) : Ex w A env (I n) (.While t body [] pos :: rest) J :=
  Ex.cons (Ex1.nextOnly (I' := fun h => ∃ n, u n = false ∧ I n h) fun s o i => by
    refine wpAny_While (codeAny_whileLoop (fun k s' => s'.gens = s.gens ∧ s'.os = s.os ∧ Ok w s'.heap ∧ I k s'.heap) ?_ n ⟨rfl, rfl, o, i⟩)
    rintro k s' ⟨g, os, o', i'⟩
    refine (ht k _ o' i').use o' (.refl _ _) fun s₂ n₂ o₂ k₂ => ?_
    have i₂ := hk k _ _ i' n₂.keep
    cases hu : u k with
    | true =>
      refine wpAny_mono (hb k hu s₂ o₂ i₂) (fun f s₃ ⟨g₃, os₃, o₃, e, m, hm, i₃⟩ => ?_) fun _ _ f => f.elim
      subst e
      exact ⟨m, hm, g₃.trans (n₂.gens.trans g), os₃.trans (n₂.os.trans os), o₃, i₃⟩
    | false =>
      refine wpAny_execs_nil ?_
      exact ⟨n₂.gens.trans g, n₂.os.trans os, o₂, rfl, k, hu, i₂⟩) hr

/-- what the environment of a call of d is -/
noncomputable def fenv (d : Def) (L : Addr) : Env := newEnv (fnScope d.row) L mainGlobals (cellsFrom (L + 1) (fnScope d.row).names []) (d.name ++ ".<locals>.") (some d.addr) (.ref d.code) none builtinsNs

theorem cellsFrom_fst : ∀ (names : List (Str × NameKind)) (n m : Nat) (acc acc' : List (Str × Addr)), acc.map (·.1) = acc'.map (·.1) → (cellsFrom n names acc).map (·.1) = (cellsFrom m names acc').map (·.1)
  | [], _, _, _, _, h => h
  | (x, k) :: r, n, m, acc, acc', h => by
    unfold cellsFrom
    split
    · exact cellsFrom_fst r _ _ _ _ (by simp [h])
    · exact cellsFrom_fst r _ _ _ _ h
theorem lookup_of_nodup {α : Type} : ∀ {l : List (Str × α)} {x : Str} {c : α}, (l.map (·.1)).Nodup → (x, c) ∈ l → l.lookup x = some c
  | (y, v) :: r, x, c, hn, h => by
    rw [List.map_cons, List.nodup_cons] at hn
    rw [List.lookup_cons]
    rcases List.mem_cons.mp h with e | h
    · cases e; simp
    · have : (x == y) = false := by
        cases e : x == y with
        | false => rfl
        | true => exact absurd (List.mem_map.mpr ⟨_, h, rfl⟩) (by rw [beq_iff_eq.mp e]; exact hn.1)
      rw [this]; exact lookup_of_nodup hn.2 h

theorem bindL_other {ko : Str → Option NameKind} : ∀ {bs : List (Str × Value)} {m : Str → Option Value} {x}, x ∉ bs.map (·.1) → bindL ko bs m x = m x
  | [], _, _, _ => rfl
  | (n, v) :: r, m, x, h => by
    simp only [List.map_cons, List.mem_cons, not_or] at h
    rw [bindL, bindL_other h.2]
    split
    · show (if x = n then some v else m x) = m x; rw [if_neg h.1]
    · rfl
theorem bindC_other {ko : Str → Option NameKind} : ∀ {bs : List (Str × Value)} {m : Str → Option Value} {x}, x ∉ bs.map (·.1) → bindC ko bs m x = m x
  | [], _, _, _ => rfl
  | (n, v) :: r, m, x, h => by
    simp only [List.map_cons, List.mem_cons, not_or] at h
    rw [bindC, bindC_other h.2]
    split
    · rfl
    · show (if x = n then some v else m x) = m x; rw [if_neg h.1]
theorem bindL_get {ko : Str → Option NameKind} : ∀ {bs : List (Str × Value)} {m : Str → Option Value} {x v}, (bs.map (·.1)).Nodup → (x, v) ∈ bs → ko x = some .local → bindL ko bs m x = some v
  | (n, u) :: r, m, x, v, hn, h, hk => by
    rw [List.map_cons, List.nodup_cons] at hn
    rcases List.mem_cons.mp h with e | h
    · cases e
      rw [bindL, bindL_other hn.1, if_pos hk]; simp
    · rw [bindL]; exact bindL_get hn.2 h hk
theorem bindC_get {ko : Str → Option NameKind} : ∀ {bs : List (Str × Value)} {m : Str → Option Value} {x v}, (bs.map (·.1)).Nodup → (x, v) ∈ bs → ko x = some .cell → bindC ko bs m x = some v
  | (n, u) :: r, m, x, v, hn, h, hk => by
    rw [List.map_cons, List.nodup_cons] at hn
    rcases List.mem_cons.mp h with e | h
    · cases e
      rw [bindC, bindC_other hn.1, if_neg (by rw [hk]; intro q; cases q)]; simp
    · rw [bindC]; exact bindC_get hn.2 h hk

theorem zip_rep {G : View} : ∀ {names : List Str} {ps vs}, RepL G ps vs → ∀ {x p}, (names.zip ps).lookup x = some p → ∃ v, (x, v) ∈ names.zip vs ∧ Rep G p v
  | [], _, _, _, x, p, h => by simp at h
  | n :: ns, _, _, .nil, x, p, h => by simp at h
  | n :: ns, _, _, .cons a b, x, p, h => by
    simp only [List.zip_cons_cons, List.lookup_cons] at h
    split at h
    · rename_i hx
      cases h
      exact ⟨_, by rw [beq_iff_eq.mp hx]; exact List.mem_cons_self, a⟩
    · obtain ⟨v, hv, r⟩ := zip_rep b h
      exact ⟨v, List.mem_cons_of_mem _ hv, r⟩
theorem zip_fst {α : Type} : ∀ {names : List Str} {vs : List α}, names.length = vs.length → (names.zip vs).map (·.1) = names
  | [], _, _ => by simp
  | n :: ns, [], h => by simp at h
  | n :: ns, v :: vs, h => by simp at h; simp [zip_fst h]

/-- a def of the top by its body -/
theorem Fn.ofM {d : Def} {n ps p} (names : List Str) (hd : d ∈ defs) (hlen : names.length = ps.length)
    (hbind : ∀ vs : List Value, names.length = vs.length → bindArgs d.data ⟨vs, []⟩ = pure (names.zip vs))
    (hkind : ∀ x ∈ names, (fnScope d.row).names.lookup x = some .local ∨ (fnScope d.row).names.lookup x = some .cell)
    (hcell : ∀ x ∈ names, (fnScope d.row).names.lookup x = some .cell → x ∈ (cellsFrom 0 (fnScope d.row).names []).map (·.1))
    (hnd : names.Nodup) (hcn : ((cellsFrom 0 (fnScope d.row).names []).map (·.1)).Nodup)
    (hk : (fnScope d.row).kind = .function) (hco : (fnScope d.row).isCoroutine = false) (hgen : (fnScope d.row).isGenerator = false) (hname : fnName d.row = d.name)
    (H : ∀ (A : Around) (L : Addr) (mu : List Addr) (h₀ : View), Room n A → (∀ a ∈ mu, a ∉ TT ∧ ∃ x, h₀ a = some x) → Ex w A (fenv d L) (Fm w X h₀ (fenv d L) mu (names.zip ps) none) (fnBody d.row) (RetJ w X h₀ mu p)) : Fn w X (n + 1) d.addr ps p := by
  intro A s vs mu R o hmo r
  have hlv : names.length = vs.length := by rw [hlen, r.length]
  have hcd : s.heap.CodeRec d.data.code d.data.qualname := by have := o.cr d hd; rw [← hname] at this; exact this
  have hcf : ∀ m, ((cellsFrom m (fnScope d.row).names []).map (·.1)) = ((cellsFrom 0 (fnScope d.row).names []).map (·.1)) := fun m => cellsFrom_fst _ _ _ _ _ rfl
  refine wpAny_call (codeAny_call_function (fd := d.data) (body := fnBody d.row) (by have := R.depth; omega) (o.fn d hd) rfl hco hgen rfl hcd ?_)
  rw [hbind vs hlv]
  refine wpAny_pure ?_
  refine wpAny_newFunctionEnv_cells hk (fun x hx => ?_) fun env he s' IC => ?_
  · have hxn : x.1 ∈ names := by rw [← zip_fst (vs := vs) hlv]; exact List.mem_map.mpr ⟨x, hx, rfl⟩
    rcases hkind _ hxn with q | q
    · exact .inl q
    · refine .inr ⟨q, ?_⟩
      have := hcell _ hxn q
      rw [← hcf (s.heap.objs.size + 1)] at this
      obtain ⟨y, hy, e⟩ := List.mem_map.mp this
      have hl := lookup_of_nodup (by rw [hcf]; exact hcn) (show (y.1, y.2) ∈ cellsFrom (s.heap.objs.size + 1) (fnScope d.row).names [] from hy)
      rw [← e]; exact congrArg Option.isSome hl
  · have he' : env = fenv d s.heap.objs.size := by rw [he]; unfold fenv; rw [← hname]; rfl
    have hL : env.locals = s.heap.objs.size := by rw [he']; rfl
    have hcells : env.cells = cellsFrom (s.heap.objs.size + 1) (fnScope d.row).names [] := by rw [he']; rfl
    have hkd : ∀ x, env.kindOf x = (fnScope d.row).names.lookup x := fun x => by rw [he']; rfl
    obtain ⟨⟨⟨h', tk, rfl⟩, hns, hkeep, hfr⟩, hcl, hap, hab⟩ := IC
    have o' : Ok w h' := o.keeps (Keep.of hkeep)
    refine ⟨o'.nolimit, ?_⟩
    refine codeAny_func ?_
    have hnew : ∀ a ∈ own env, s.heap.get? a = none := by
      intro a ha
      have : s.heap.objs.size ≤ a := by
        rcases mem_ownC.mp ha with rfl | ⟨y, hy, _, rfl⟩
        · exact hfr
        · exact Nat.le_trans hfr (Nat.le_of_lt (hab y.1 y.2 hy))
      cases e : s.heap.get? a with
      | none => rfl
      | some ob => exact absurd (Heap.lt_size e) (Nat.not_lt.mpr this)
    have hmem : ∀ y ∈ env.cells, env.cells.lookup y.1 = some y.2 := fun y hy => lookup_of_nodup (by rw [hcells, hcf]; exact hcn) hy
    have F : Fm w X (fun a => s.heap.get? a) env mu (names.zip ps) none h' := {
      ok := ⟨by rw [he']; exact hk, by rw [he']; rfl, by rw [he']; rfl⟩
      keep := fun b o _ e => hkeep b o e
      newO := fun a ha => ⟨hnew a ha, o.fresh (hnew a ha), fun q => by obtain ⟨x, e⟩ := o.addr a q; rw [hnew a ha] at e; cases e⟩
      ns := ⟨_, hns⟩
      cell := fun y hy _ => ⟨_, hcl _ _ (hmem y hy)⟩
      apart := hap
      muOld := hmo.kp (Keep.of hkeep)
      vars := fun x q e => by
        obtain ⟨v, hv, rv⟩ := zip_rep r e
        have hxn : x ∈ names := by rw [← zip_fst (vs := vs) hlv]; exact List.mem_map.mpr ⟨_, hv, rfl⟩
        have hnz : ((names.zip vs).map (·.1)).Nodup := by rw [zip_fst hlv]; exact hnd
        refine ⟨v, ?_, ?_⟩
        · rcases hkind x hxn with q | q
          · exact .inl ⟨(hkd x).trans q, o.fresh (hnew _ (by simp [own])), _, hns, bindL_get hnz hv ((hkd x).trans q)⟩
          · have := hcell _ hxn q
            rw [← hcf (s.heap.objs.size + 1), ← hcells] at this
            obtain ⟨y, hy, ey⟩ := List.mem_map.mp this
            have hl := hmem y hy
            rw [ey] at hl
            refine .inr ⟨.inl ((hkd x).trans q), y.2, hl, o.fresh (hnew _ (mem_ownC.mpr (.inr ⟨y, hy, by rw [ey]; exact (hkd x).trans q, rfl⟩))), ?_⟩
            have := hcl _ _ hl
            rw [bindC_get hnz hv ((hkd x).trans q)] at this
            exact this
        · refine rv.mono fun a ob ea => ?_
          obtain ⟨e1, e2, e3⟩ := hid_some ea
          refine hid_of (hkeep _ _ e1) e2 fun hm => ?_
          rcases List.mem_append.mp hm with hm | hm
          · have := hnew a (by simpa [bxa] using hm)
            rw [this] at e1; cases e1
          · exact e3 hm
      box := fun x a q e => by cases e }
    subst he'
    refine wpAny_mono (H (A.deeper (fenv d s.heap.objs.size)) s.heap.objs.size mu (fun a => s.heap.get? a) (R.deeper _) hmo { s with heap := h', toks := tk } o' F) (fun f s'' ⟨g, os, o'', v, ef, kk, rr⟩ => ?_) fun _ _ f => f.elim
    subst ef
    exact ⟨⟨kk, g, os⟩, o'', rr⟩
theorem Fn.of {d : Def} {n ps p} (names : List Str) (hd : d ∈ defs) (hlen : names.length = ps.length)
    (hbind : ∀ vs : List Value, names.length = vs.length → bindArgs d.data ⟨vs, []⟩ = pure (names.zip vs))
    (hkind : ∀ x ∈ names, (fnScope d.row).names.lookup x = some .local ∨ (fnScope d.row).names.lookup x = some .cell)
    (hcell : ∀ x ∈ names, (fnScope d.row).names.lookup x = some .cell → x ∈ (cellsFrom 0 (fnScope d.row).names []).map (·.1))
    (hnd : names.Nodup) (hcn : ((cellsFrom 0 (fnScope d.row).names []).map (·.1)).Nodup)
    (hk : (fnScope d.row).kind = .function) (hco : (fnScope d.row).isCoroutine = false) (hgen : (fnScope d.row).isGenerator = false) (hname : fnName d.row = d.name)
    (H : ∀ (A : Around) (L : Addr) (mu : List Addr) (h₀ : View), Room n A → Ex w A (fenv d L) (Fm w X h₀ (fenv d L) mu (names.zip ps) none) (fnBody d.row) (RetJ w X h₀ mu p)) : Fn w X (n + 1) d.addr ps p :=
  Fn.ofM names hd hlen hbind hkind hcell hnd hcn hk hco hgen hname fun A L mu h₀ R _ => H A L mu h₀ R
end

section
open PySem PySem.Calls PySem.W PyProof.Rows
set_option maxRecDepth 100000
variable {w : World} {X : Bool} {A : Around} {env : Env} {mu : List Addr} {h₀ : View} {h₁ : Heap} {σ : List (Str × PV)} {bx : Option (Str × Addr × PV)}

theorem bi_int {n : Int} : Bi w A mu (.type "int") [.int n] (.int n) h₁ := fun s vs o k r => by
  obtain ⟨v, rfl, r1⟩ := r.one
  obtain ⟨_, rfl⟩ := r1.int_inv
  exact call_int_int ⟨.refl _ _, .int _ _⟩

/-- a part of a slice: nothing, or an int -/
inductive PartR (w : World) (X : Bool) (A : Around) (env : Env) (h₁ : Heap) : Option Expr → Option Int → Prop where
  | none : PartR w X A env h₁ none none
  | some {e n} (h : Ev w X A env [] h₁ e (.int n)) : PartR w X A env h₁ (some e) (some n)
theorem PartR.use {e n} {s : Shared} {Q : Value → Shared → Prop} {E} (h : PartR w X A env h₁ e n) (o : Ok w s.heap) (k : Keep TT h₁ s.heap)
    (c : ∀ v s', Nx (xs X) s s' → Ok w s'.heap → Keep TT h₁ s'.heap → IsPart v n → Q v s') : wpAny (model pw w) A (evalPart e env) Q E s := by
  cases h with
  | none => exact evalPart_none_step (c _ _ (.refl _ _) o k .none)
  | some h => exact evalPart_some_step (h.use o k fun v s' n o' k' r => by obtain ⟨_, rfl⟩ := r.int_inv; exact c _ _ n o' k' (.int _ _))

theorem Ev.sliceB {v lo hi p pos x l u} (hv : Ev w X A env [] h₁ v (.bytes x)) (hl : PartR w X A env h₁ lo l) (hu : PartR w X A env h₁ hi u) (hsz : x.size ≤ 16777216)
    (ht : ∀ o r, letTemporaryGo v o r = pure ()) : Ev w X A env mu h₁ (.Subscript v (.Slice lo hi none p) pos) (.bytes (KBy.picked x l u)) := fun s o k =>
  Subscript_ (hv.use o k fun v₁ s₁ n₁ o₁ k₁ r₁ => wpAny_Slice (hl.use o₁ k₁ fun vl s₂ n₂ o₂ k₂ hpl => hu.use o₂ k₂ fun vu s₃ n₃ o₃ k₃ hpu => by
    refine evalPart_none_step ?_
    obtain ⟨_, rfl⟩ := r₁.bytes_inv
    refine tail_of_ItemOn ⟨"bytes", _, FB.slot_bytes_getitem.lookup, typeIs_bytes _ _ _, getItem_meets (typeIs_bytes _ _ _) (by decide) FB.slot_bytes_getitem FB.entry_bytes_getitem (FB.args_bytes_getitem_2 _ _) (KBc.meets_slice2 x _ _ hpl hpu)
      ⟨Heap.IsSliceOf.new _ _ _ _, Nat.le_trans (KBc.size_picked_le x l u) (by rw [sizeLine_eq]; exact hsz), fun t' tk => ⟨n₁.trans (n₂.trans (n₃.trans ⟨.push _ _ _, rfl, rfl⟩)), o₃.keeps (.push _ _ _), .bytes _ _⟩⟩⟩ (ops := [.ref s₃.heap.objs.size, .bytes x _]) rfl fun r => ht _ r))

/-- picking by places, on both sides -/
theorem RepL.pick {G : View} {ps : List PV} {vs : List Value} (h : RepL G ps vs) : ∀ is : List Nat, RepL G (is.filterMap (ps[·]?)) (is.filterMap (vs[·]?))
  | [] => .nil
  | i :: is => by
    have ih := RepL.pick h is
    rw [List.filterMap_cons, List.filterMap_cons]
    cases e : ps[i]? with
    | none =>
      have : vs[i]? = none := by
        rw [List.getElem?_eq_none_iff] at e ⊢
        rw [← h.length]; exact e
      simp only [this]; exact ih
    | some p =>
      obtain ⟨v, ev, r⟩ := h.get e
      simp only [ev]; exact .cons r ih
noncomputable def pickP (l : List PV) (lo hi st : Option Int) : List PV := (sliceRange (sliceBounds lo hi st l.length).1 (sliceBounds lo hi st l.length).2.1 (sliceBounds lo hi st l.length).2.2).filterMap (l[·]?)
theorem RepL.slice {G : View} {ps vs} (h : RepL G ps vs) (lo hi st) : ∃ us : List Value, slicePick vs.toArray lo hi st = us.toArray ∧ RepL G (pickP ps lo hi st) us := by
  refine ⟨_, rfl, ?_⟩
  unfold pickP
  have e : vs.toArray.size = ps.length := by simp [h.length]
  rw [e]
  have := h.pick (sliceRange (sliceBounds lo hi st ps.length).1 (sliceBounds lo hi st ps.length).2.1 (sliceBounds lo hi st ps.length).2.2)
  simpa using this

theorem Ev.sliceL {v lo hi st p pos l a u c} (hv : Ev w X A env mu h₁ v (.list l)) (hl : PartR w X A env h₁ lo a) (hu : PartR w X A env h₁ hi u) (hs : PartR w X A env h₁ st c) (h0 : c ≠ some 0) (hsz : l.length ≤ 16777216) (hm : MuOld mu h₁)
    (hsub : ∀ x y, ∃ ops, subscripted (.Slice lo hi st p) false (.ref x) (.ref y) = operate ops (getItem (.ref x) (.ref y))) (ht : ∀ o r, letTemporaryGo v (.ref o) r = pure ()) :
    Ev w X A env mu h₁ (.Subscript v (.Slice lo hi st p) pos) (.list (pickP l a u c)) := fun s o k =>
  Subscript_ (hv.use o k fun v₁ s₁ n₁ o₁ k₁ r₁ => wpAny_Slice (hl.use o₁ k₁ fun vl s₂ n₂ o₂ k₂ hpl => hu.use o₂ k₂ fun vu s₃ n₃ o₃ k₃ hpu => hs.use o₃ k₃ fun vc s₄ n₄ o₄ k₄ hpc => by
    obtain ⟨x, rfl⟩ := r₁.refList
    have kk : Keep TT s₁.heap (s₄.heap.push { cls := .type "slice", data := .fields #[vl, vu, vc] }) := (n₂.trans (n₃.trans n₄)).keep.toTT (xs_TT X) |>.trans (.push _ _ _)
    obtain ⟨vs, hl', _, r, _, _⟩ := (r₁.mono (hid_keep kk)).isList
    obtain ⟨ops, hops⟩ := hsub x s₄.heap.objs.size
    obtain ⟨us, hus, ru⟩ := r.slice a u c
    have hlen := r.length
    refine tail_of_ItemOn ⟨"list", _, list_getitem_lookup, hl'.typeIs, wpAny_getItem_list_slice hl' (Heap.IsSliceOf.new _ _ _ _) hpl hpu hpc h0 ?_ ?_⟩ hops fun r => ht _ r
    · have o₅ : Ok w (s₄.heap.push { cls := .type "slice", data := .fields #[vl, vu, vc] }) := o₄.keeps (.push _ _ _)
      refine ⟨n₁.trans (n₂.trans (n₃.trans (n₄.trans ⟨(Keep.push _ _ _).trans (Keep.push _ _ _), rfl, rfl⟩))), o₅.keeps (.push _ _ _), ?_⟩
      rw [hus]
      refine .list (vs := us) (n := 0) ?_ (ru.mono (hid_keep (.push _ _ _)))
      refine new_hid (s := { s₄ with heap := s₄.heap.push { cls := .type "slice", data := .fields #[vl, vu, vc] } }) o₅ ?_
      exact hm.at (k₄.trans (.push _ _ _))
    · rw [List.size_toArray, ← hlen, sizeLine_eq]; exact hsz))

theorem pair_go {s : Shared} {x y px py p q v} {Q : Unit → Shared → Prop} {E} (R : Room 0 A) (F : Fm w X h₀ env mu σ bx s.heap) (O : Ok w s.heap) (hx : StoreOk env x) (hy : StoreOk env y) (hbx : ∀ z a q, bx = some (z, a, q) → x ≠ z)
    (hby : ∀ z a q, bx = some (z, a, q) → y ≠ z) (r : Rep (hid (full env mu bx) s.heap) (.tup [p, q]) v) (hp : p.imm = true) (hq : q.imm = true) (k : Nat) (tpos : Pos)
    (c : ∀ h' tk, Fm w X h₀ env mu ((y, q) :: (x, p) :: σ) bx h' → Ok w h' → Q () { s with heap := h', toks := tk }) :
    wpAny (model pw w) A (assign (.Tuple [.Name x px, .Name y py] k tpos) env v) Q E s := by
  obtain ⟨a, rfl⟩ := r.refTup
  obtain ⟨vs, _, ht, rl, _⟩ := r.isTup
  obtain ⟨v₁, v₂, rfl, r1, r2⟩ := rl.two
  refine wpAny_assign_Tuple R.handled ht rfl rfl fun h' he => ?_
  have kk : Keep (xs X) s.heap h' := fun b o _ e => he b o (Nat.ne_of_lt (Heap.lt_size e)) e
  have O' : Ok w h' := O.keeps fun b o _ e => he b o (Nat.ne_of_lt (Heap.lt_size e)) e
  refine wpAny_assignInOrder_more (PyProof.Rows.assign_Name (store_go (s := { s with heap := h' }) (F.kp kk) O' hx hbx (r1.imm hp) fun h₂ tk₂ F₂ O₂ => ?_))
  refine wpAny_assignInOrder_more (PyProof.Rows.assign_Name (store_go (s := { s with heap := h₂, toks := tk₂ }) F₂ O₂ hy hby (r2.imm hq) fun h₃ tk₃ F₃ O₃ => ?_))
  exact wpAny_assignInOrder_none (c _ _ F₃ O₃)

theorem Ex.pair {x y px py k tpos e pos rest p q J} (R : Room 0 A) (he : ∀ h, Ok w h → Fm w X h₀ env mu σ bx h → Ev w X A env (full env mu bx) h e (.tup [p, q])) (hp : p.imm = true) (hq : q.imm = true)
    (hx : StoreOk env x) (hy : StoreOk env y) (hbx : ∀ z a q, bx = some (z, a, q) → x ≠ z) (hby : ∀ z a q, bx = some (z, a, q) → y ≠ z)
    (hs : swapsWithSole [.Tuple [.Name x px, .Name y py] k tpos] e pos.line env = pure false) (hw : swappedStores [.Tuple [.Name x px, .Name y py] k tpos] e env = pure none)
    (hr : Ex w A env (Fm w X h₀ env mu ((y, q) :: (x, p) :: σ) bx) rest J) : Ex w A env (Fm w X h₀ env mu σ bx) (.Assign [.Tuple [.Name x px, .Name y py] k tpos] e pos :: rest) J :=
  Ex.cons (Ex1.nextOnly fun s o i => Assign_Tuple ((he _ o i).use o (.refl _ _) fun v s₁ n₁ o₁ k₁ r₁ =>
    pair_go R (i.kp n₁.keep) o₁ hx hy hbx hby r₁ hp hq k tpos fun h' tk F O => ⟨n₁.gens, n₁.os, O, rfl, F⟩) hs hw) hr
end

section
open PySem PySem.Calls PySem.W PyProof.Rows
set_option maxRecDepth 100000
variable {w : World} {X : Bool} {A : Around} {env : Env} {mu : List Addr} {h₀ : View} {h₁ : Heap} {σ : List (Str × PV)} {bx : Option (Str × Addr × PV)}

theorem pa_pat : PlainAttrs "re.Pattern" := ⟨⟨"object.__getattribute__", by rw [typeLookup_type, builtinLookup_eq_fast]; kernel_rfl, by decide +kernel⟩, by rw [typeLookup_type, builtinLookup_eq_fast]; kernel_rfl⟩
theorem pa_mat : PlainAttrs "re.Match" := ⟨⟨"object.__getattribute__", by rw [typeLookup_type, builtinLookup_eq_fast]; kernel_rfl, by decide +kernel⟩, by rw [typeLookup_type, builtinLookup_eq_fast]; kernel_rfl⟩
theorem pa_bytes : PlainAttrs "bytes" := ⟨⟨"bytes.__getattribute__", by rw [typeLookup_type, builtinLookup_eq_fast]; kernel_rfl, by decide +kernel⟩, by rw [typeLookup_type, builtinLookup_eq_fast]; kernel_rfl⟩
theorem slot_match : Slot "re.Pattern" "match" "re.Pattern.match" :=
  .of (owner := "re.Pattern") (n := "match") (by rw [typeLookup_type, builtinLookup_eq_fast]; kernel_rfl) (by decide +kernel) (by decide +kernel) (by decide +kernel)
    (by first | exact .inl (by decide +kernel) | exact .inr (by decide +kernel)) (by rw [isSubtype_type]; kernel_rfl)
theorem entry_match : entryFor table "re.Pattern.match" = some Builtin.«re.Pattern.match» := entryFor_of_fast (by kernel_rfl)
theorem ty_match : typeOf (.builtin "re.Pattern.match") = pure (.type "method_descriptor") := by show builtinType _ = _; rw [builtinType_eq_fast]; kernel_rfl
theorem args_match (a b : Value) : argsOk "re.Pattern.match" ⟨[a, b], []⟩ := by unfold argsOk; kernel_rfl

theorem slot_group : Slot "re.Match" "group" "re.Match.group" :=
  .of (owner := "re.Match") (n := "group") (by rw [typeLookup_type, builtinLookup_eq_fast]; kernel_rfl) (by decide +kernel) (by decide +kernel) (by decide +kernel)
    (by first | exact .inl (by decide +kernel) | exact .inr (by decide +kernel)) (by rw [isSubtype_type]; kernel_rfl)
theorem entry_group : entryFor table "re.Match.group" = some Builtin.«re.Match.group» := entryFor_of_fast (by kernel_rfl)
theorem ty_group : typeOf (.builtin "re.Match.group") = pure (.type "method_descriptor") := by show builtinType _ = _; rw [builtinType_eq_fast]; kernel_rfl
theorem args_group (a b : Value) : argsOk "re.Match.group" ⟨[a, b], []⟩ := by unfold argsOk; kernel_rfl
theorem slot_split : Slot "bytes" "split" "bytes.split" :=
  .of (owner := "bytes") (n := "split") (by rw [typeLookup_type, builtinLookup_eq_fast]; kernel_rfl) (by decide +kernel) (by decide +kernel) (by decide +kernel)
    (by first | exact .inl (by decide +kernel) | exact .inr (by decide +kernel)) (by rw [isSubtype_type]; kernel_rfl)
theorem ty_split : typeOf (.builtin "bytes.split") = pure (.type "method_descriptor") := by show builtinType _ = _; rw [builtinType_eq_fast]; kernel_rfl
theorem slot_join : Slot "bytes" "join" "bytes.join" :=
  .of (owner := "bytes") (n := "join") (by rw [typeLookup_type, builtinLookup_eq_fast]; kernel_rfl) (by decide +kernel) (by decide +kernel) (by decide +kernel)
    (by first | exact .inl (by decide +kernel) | exact .inr (by decide +kernel)) (by rw [isSubtype_type]; kernel_rfl)
theorem ty_join : typeOf (.builtin "bytes.join") = pure (.type "method_descriptor") := by show builtinType _ = _; rw [builtinType_eq_fast]; kernel_rfl
theorem slot_lstrip : Slot "bytes" "lstrip" "bytes.lstrip" :=
  .of (owner := "bytes") (n := "lstrip") (by rw [typeLookup_type, builtinLookup_eq_fast]; kernel_rfl) (by decide +kernel) (by decide +kernel) (by decide +kernel)
    (by first | exact .inl (by decide +kernel) | exact .inr (by decide +kernel)) (by rw [isSubtype_type]; kernel_rfl)
theorem ty_lstrip : typeOf (.builtin "bytes.lstrip") = pure (.type "method_descriptor") := by show builtinType _ = _; rw [builtinType_eq_fast]; kernel_rfl
end

section
open PySem PySem.Calls PySem.W PyProof.Rows
set_option maxRecDepth 100000
variable {w : World} {X : Bool} {A : Around} {env : Env} {mu : List Addr} {h₀ : View} {h₁ : Heap} {σ : List (Str × PV)} {bx : Option (Str × Addr × PV)}

section
variable {s : Shared} {E : Value → Shared → Prop}
open PySem.Builtin PySem.Builtin.Re
theorem asStr_bytes (x : Array UInt8) (t : Tok) : asStr? (.bytes x t) = pure none := rfl
theorem quiet_bytes (x : Array UInt8) (t : Tok) (id : String) : Bytes.bufferQuiet? id (.bytes x t) = pure (some x) := by
  unfold Bytes.bufferQuiet?
  rw [KBy.buffer_eq]
  rfl
theorem sub_bytes : isSubtype (.type "bytes") (.type "bytes") = pure true := by rw [isSubtype_type]; kernel_rfl
theorem target_match (x : Array UInt8) (t : Tok) (hx : x.size ≤ 16777216) (o : Ok w s.heap) {Q : ReTarget → Shared → Prop}
    (h : Q { pattern := .ref 36, string := .bytes x t, code := patCode.toArray, text := x.map (·.toNat), kind := 1, groups := 1, pos := 0, lim := x.size } s) :
    wpAny (model pw w) A (reTarget "re.Pattern.match" "match" ⟨[.ref 36, .bytes x t], []⟩) Q E s := by
  unfold reTarget
  dsimp only
  refine wpAny_bind (wpAny_of_eq (a := [some (.bytes x t), none, none]) rfl ?_)
  dsimp only
  refine wpAny_bind (wpAny_pure (wpAny_bind (wpAny_pure ?_)))
  refine wpAny_bind (wpAny_fieldsOf o.pat rfl ?_)
  refine wpAny_bind (m := reTextOf _) ?_
  unfold reTextOf
  refine wpAny_bind (wpAny_of_eq (asStr_bytes x t) ?_)
  dsimp only
  refine wpAny_bind (wpAny_of_eq (quiet_bytes x t _) ?_)
  dsimp only
  refine wpAny_pure ?_
  dsimp only
  rw [if_neg (by decide), if_neg (by decide)]
  refine wpAny_bind (m := reNoCollectionInside _ _) ?_
  unfold reNoCollectionInside
  rw [if_pos (by decide)]
  refine wpAny_bind (wpAny_isInstance_val (T := "bytes") rfl sub_bytes ?_)
  rw [if_neg (by decide)]
  refine wpAny_pure ?_
  refine wpAny_bind (m := reRawItems _) ?_
  unfold reRawItems
  refine wpAny_bind (wpAny_seqItems o.ptup rfl ?_)
  refine wpAny_pure ?_
  refine wpAny_pure ?_
  have e1 : Array.map (fun (x : Int) => x.toNat) (Array.map reRawOf ((some (List.map (fun (n : Nat) => Value.int (n : Int) 0) patCode).toArray).getD #[])) = patCode.toArray := by decide +kernel
  have e2 : min (2 ^ 63 - 1 : Int).toNat (Array.map (fun x : UInt8 => x.toNat) x).size = x.size := by
    rw [Array.size_map]
    have : ((2 ^ 63 - 1 : Int)).toNat = 9223372036854775807 := by decide
    rw [this]; omega
  rw [e1, e2]
  exact h

theorem runFor_done {m : Sre.M} (h : m.outcome.isSome = true) : ∀ n, Sre.M.runFor n m = m
  | 0 => rfl
  | n + 1 => by rw [Sre.M.runFor, if_pos h]
theorem runFor_add (a c : Nat) : ∀ m : Sre.M, Sre.M.runFor (a + c) m = Sre.M.runFor c (Sre.M.runFor a m) := by
  induction a with
  | zero => intro m; rw [Nat.zero_add]; rfl
  | succ a ih =>
    intro m
    rw [Nat.succ_add, Sre.M.runFor, Sre.M.runFor]
    by_cases h : m.outcome.isSome = true
    · rw [if_pos h, if_pos h, runFor_done h]
    · rw [if_neg h, if_neg h, ih]
theorem drive_go {mf : Sre.M} {Q : Sre.M → Shared → Prop} (hf : mf.outcome.isSome = true) (hQ : Q mf s) : ∀ (t : Nat) (m : Sre.M) (n : Nat), 0 < t → n ≤ 4 * t → Sre.M.runFor n m = mf → wpAny (model pw w) A (reDrive t m) Q E s
  | 0, _, _, h, _, _ => absurd h (Nat.lt_irrefl _)
  | t + 1, m, n, _, hn, hr => by
    rw [reDrive]
    show wpAny _ A (if (Sre.M.runFor 4 m).outcome.isSome = true then pure (Sre.M.runFor 4 m) else (do rule "sre.turn"; reDrive t (Sre.M.runFor 4 m))) Q E s
    by_cases h4 : (Sre.M.runFor 4 m).outcome.isSome = true
    · rw [if_pos h4]
      have : Sre.M.runFor 4 m = mf := by
        by_cases hle : 4 ≤ n
        · have := runFor_add 4 (n - 4) m
          rw [Nat.add_sub_cancel' hle, hr, runFor_done h4] at this
          exact this.symm
        · have := runFor_add n (4 - n) m
          rw [Nat.add_sub_cancel' (by omega), hr, runFor_done hf] at this
          exact this
      rw [this]; exact wpAny_pure hQ
    · rw [if_neg h4]
      refine wpAny_bind (wpAny_rule ?_)
      have hlt : 4 < n := by
        rcases Nat.lt_or_ge 4 n with h | h
        · exact h
        · exfalso
          have := runFor_add n (4 - n) m
          rw [Nat.add_sub_cancel' h, hr, runFor_done hf] at this
          rw [this] at h4; exact h4 hf
      refine drive_go hf hQ t _ (n - 4) (by omega) (by omega) ?_
      rw [← runFor_add, Nat.add_sub_cancel' (by omega)]; exact hr
theorem runToEnd_go {m mf : Sre.M} {n : Nat} {Q : Option Sre.M → Shared → Prop} (hn : n ≤ 2 ^ 64) (hr : Sre.M.runFor n m = mf) (ho : mf.outcome = some .matched ∨ mf.outcome = some .failed)
    (h1 : mf.outcome = some .matched → Q (some mf) s) (h2 : mf.outcome = some .failed → Q none s) : wpAny (model pw w) A (reRunToEnd m) Q E s := by
  unfold reRunToEnd
  refine wpAny_bind (drive_go (mf := mf) (by rcases ho with h | h <;> rw [h] <;> rfl) ?_ _ m n (by decide) (by omega) hr)
  refine wpAny_bind (wpAny_mono (Q := fun _ s' => s' = s) (wpAny_forIn_list _ (fun _ _ s' => s' = s) _ (fun i rest u s' e => ?_) (fun _ _ h => h) _ _ rfl) (fun _ s' e => ?_) (fun _ _ x => x))
  · subst e
    split
    · exact wpAny_bind (wpAny_rule (wpAny_pure rfl))
    · exact wpAny_pure rfl
  · subst e
    rcases ho with h | h
    · rw [h]; exact wpAny_pure (h1 h)
    · rw [h]; exact wpAny_pure (h2 h)

noncomputable def mat0 (x : Array UInt8) : Sre.M := Sre.forMatch patCode.toArray (x.map (·.toNat)) 1 0 x.size false false
/-- the machine comes through on x: the group from i to j -/
structure Comes (x : Array UInt8) (i j : Nat) : Prop where
  run : ∃ n mf, n ≤ 2 ^ 64 ∧ Sre.M.runFor n (mat0 x) = mf ∧ mf.outcome = some .matched ∧ mf.lastmark = 1 ∧ mf.marks.getD 0 none = some i ∧ mf.marks.getD 1 none = some j
  le : i ≤ j
noncomputable def Fails (x : Array UInt8) : Prop := ∃ n mf, n ≤ 2 ^ 64 ∧ Sre.M.runFor n (mat0 x) = mf ∧ mf.outcome = some .failed

theorem newFields_go {cls : String} {vs : List Value} {Q : Value → Shared → Prop} (hs : vs.length ≤ 16) (h : Q (.ref s.heap.objs.size) { s with heap := s.heap.push { cls := .type cls, data := .fields vs.toArray } }) : wpAny (model pw w) A (newFields cls vs) Q E s := by
  exact wpAny_newObj_type h (by show vs.toArray.size ≤ sizeLine + 2; rw [List.size_toArray, sizeLine_eq]; omega)
theorem bi_match {x : Array UInt8} (hx : x.size ≤ 16777216) (hm : MuOld mu h₁) {q : PV} (hq : (∃ i j, Comes x i j ∧ q = .mat x i j) ∨ (Fails x ∧ q = .none)) (s : Shared) (v : Value) (o : Ok w s.heap) (k : Keep TT h₁ s.heap) (r : Rep (hid mu s.heap) (.bytes x) v) :
    wpAny (model pw w) A (PySem.call (.builtin "re.Pattern.match") [.ref 36, v]) (fun r s' => Nx [] s s' ∧ Rep (hid mu s'.heap) q r) NoE s := by
  obtain ⟨_, rfl⟩ := r.bytes_inv
  refine wpAny_call_entry slot_match (T := "re.Pattern") ⟨_, o.pat, rfl⟩ entry_match ?_ (args_match _ _)
  unfold Builtin.«re.Pattern.match»
  refine wpAny_bind (target_match x _ hx o ?_)
  unfold reAnswer
  rcases hq with ⟨i, j, ⟨⟨n, mf, hn, hr, ho, hl, m0, m1⟩, hij⟩, rfl⟩ | ⟨⟨n, mf, hn, hr, ho⟩, rfl⟩
  · refine wpAny_bind (runToEnd_go hn hr (.inl ho) (fun _ => ?_) fun h => by rw [ho] at h; cases h)
    dsimp only
    refine wpAny_bind (m := reNewMatch _ _ _ _ _ _) ?_
    unfold reNewMatch
    dsimp only
    have m0' : mf.marks.getD (2 * 0) none = some i := m0
    have m1' : mf.marks.getD (2 * 0 + 1) none = some j := m1
    have hl' : (((2 * 0 + 1 : Nat) : Int) ≤ mf.lastmark) := by rw [hl]; decide
    have hji : ¬ j < i := by omega
    simp only [show List.range 1 = [0] from rfl, List.any_cons, List.any_nil, List.flatMap_cons, List.flatMap_nil, m0', m1', Bool.or_false, decide_eq_false hji, Bool.and_false, if_pos hl', List.append_nil, Bool.false_eq_true, if_false]
    refine wpAny_bind (wpAny_newTuple (h := ?_) ?_)
    · refine newFields_go (by simp) (wpAny_pure ⟨_, rfl, ⟨(Keep.push _ _ _).trans (Keep.push _ _ _), rfl, rfl⟩, ?_⟩)
      have o₁ : Ok w (s.heap.push { cls := .type "tuple", data := .seq [rawInt mf.start, rawInt mf.handed, rawInt (i : Nat), rawInt (j : Nat)].toArray }) := o.keeps (.push _ _ _)
      have hn : ∀ a ∈ mu, ∃ x, (s.heap.push { cls := .type "tuple", data := .seq [rawInt mf.start, rawInt mf.handed, rawInt (i : Nat), rawInt (j : Nat)].toArray }).get? a = some x := hm.at (k.trans (.push _ _ _))
      refine .mat (t := s.heap.objs.size) (new_hid (s := { s with heap := s.heap.push { cls := .type "tuple", data := .seq [rawInt mf.start, rawInt mf.handed, rawInt (i : Nat), rawInt (j : Nat)].toArray } }) o₁ hn)
        (n := 0) (hid_keep (.push _ _ _) _ _ (new_hid o (hm.at k)))
    · rw [sizeLine_eq]; show 4 ≤ 16777216; omega
  · refine wpAny_bind (runToEnd_go hn hr (.inr ho) (fun h => by rw [ho] at h; cases h) fun _ => ?_)
    exact wpAny_pure ⟨_, rfl, .refl _ _, .none⟩
end
end

section
open PySem PySem.Calls PySem.W PyProof.Rows
set_option maxRecDepth 100000
variable {w : World} {X : Bool} {A : Around} {env : Env} {mu : List Addr} {h₀ : View} {h₁ : Heap} {σ : List (Str × PV)} {bx : Option (Str × Addr × PV)}
section
variable {s : Shared} {E : Value → Shared → Prop}
open PySem.Builtin PySem.Builtin.Re

theorem flags_map {h : Heap} (o : Ok w h) : h.MapOf (strKind pw w) 33 (fun k => findBy Value.isStrOf #[{ hash := PyData.keyHash w.params "flags", key := .str "flags" 327, val := .int 1 328 }] k) :=
  ⟨_, _, 1, o.pdict, ⟨rfl, rfl, rfl⟩, rfl, fun e he => by
    have : e = { hash := PyData.keyHash w.params "flags", key := .str "flags" 327, val := .int 1 328 } := by simpa using he
    subst this
    exact ⟨"flags", strKind_is pw w _ _, rfl⟩, fun _ => rfl⟩

theorem toNat_back (x : Array UInt8) (i j : Nat) : ((x.map (·.toNat)).extract i j).map (·.toUInt8) = x.extract i j := by
  apply Array.ext'
  simp [List.map_drop, List.map_take, Function.comp_def]

theorem bi_group {x : Array UInt8} {i j : Nat} (hx : x.size ≤ 16777216) (t : Tok) (v : Value) (o : Ok w s.heap) (r : Rep (hid mu s.heap) (.mat x i j) v) :
    wpAny (model pw w) A (PySem.call (.builtin "re.Match.group") [v, .str "flags" t]) (fun r s' => Nx [] s s' ∧ Rep (hid mu s'.heap) (.bytes (x.extract i j)) r) NoE s := by
  cases r with
  | @mat _ _ _ a tt u li st en n e1 e2 =>
    have g1 := (hid_some e1).1
    have g2 := (hid_some e2).1
    refine wpAny_call_entry slot_group (T := "re.Match") ⟨_, g1, rfl⟩ entry_group ?_ (args_group _ _)
    unfold Builtin.«re.Match.group»
    refine wpAny_bind (wpAny_of_eq (a := ()) rfl ?_)
    dsimp only
    refine wpAny_bind (m := reFound _) ?_
    unfold reFound
    refine wpAny_bind (wpAny_fieldsOf g1 rfl ?_)
    refine wpAny_bind (m := reRawItems _) ?_
    unfold reRawItems
    refine wpAny_bind (wpAny_seqItems g2 rfl ?_)
    refine wpAny_pure ?_
    refine wpAny_pure ?_
    have esp : Array.map reRawOf ((some #[rawInt st, rawInt en, rawInt (i : Nat), rawInt (j : Nat)]).getD #[]) = #[st, en, (i : Int), (j : Int)] := by simp [reRawOf, rawInt]
    rw [esp]
    refine wpAny_bind (m := reGroupNumber _ _) ?_
    unfold reGroupNumber
    refine wpAny_bind (wpAny_of_eq (a := none) rfl ?_)
    dsimp only
    rw [if_neg (by decide)]
    refine wpAny_bind (wpAny_specialOf (T := "str") (r := none) rfl (by rw [typeLookup_type, builtinLookup_eq_fast]; kernel_rfl) ?_)
    rw [if_neg (by decide)]
    refine wpAny_bind (wpAny_fieldsOf o.pat rfl ?_)
    show wpAny _ _ (dictGet 33 (.str "flags" t) >>= _) _ _ s
    refine wpAny_bind (wpAny_dictGet_of (strKind_is pw w _ _) (flags_map o) ?_)
    have ef : findBy Value.isStrOf #[{ hash := PyData.keyHash w.params "flags", key := Value.str "flags" 327, val := Value.int 1 328 }] "flags" = some (.int 1 328) := rfl
    rw [ef]
    dsimp only
    refine wpAny_bind (wpAny_of_eq (a := some 1) rfl ?_)
    refine wpAny_bind (wpAny_pure ?_)
    refine wpAny_ite ?_
    simp only [Option.getD_some]
    refine KBy.ite_no (by simp) ?_
    refine wpAny_pure ?_
    refine wpAny_bind (m := reGroupText _ _ _) ?_
    unfold reGroupText
    have e1' : (#[st, en, (i : Int), (j : Int)] : Array Int).getD (2 * (1 : Int).toNat) (-1) = i := rfl
    have e2' : (#[st, en, (i : Int), (j : Int)] : Array Int).getD (2 * (1 : Int).toNat + 1) (-1) = j := rfl
    simp only [e1', e2']
    show wpAny _ _ (if (decide ((i : Int) < 0) || decide ((j : Int) < 0)) = true then pure Value.none else reTextOf (.bytes x u) >>= fun r => reSlice r.1 r.2 (i : Int).toNat (j : Int).toNat) _ _ _
    have e0 : (decide ((i : Int) < 0) || decide ((j : Int) < 0)) = false := by simp
    rw [e0, if_neg Bool.false_ne_true]
    refine wpAny_bind (m := reTextOf _) ?_
    unfold reTextOf
    refine wpAny_bind (wpAny_of_eq (asStr_bytes x u) ?_)
    dsimp only
    refine wpAny_bind (wpAny_of_eq (quiet_bytes x u _) ?_)
    refine wpAny_pure ?_
    unfold reSlice
    dsimp only
    rw [if_neg (by decide), Int.toNat_natCast, Int.toNat_natCast, toNat_back]
    refine wpAny_mkBytes (wpAny_pure ⟨_, rfl, ⟨.refl _ _, rfl, rfl⟩, .bytes _ _⟩) ?_
    rw [Array.size_extract, sizeLine_eq]; omega
end
end

section
open PySem PySem.Calls PySem.W PyProof.Rows
set_option maxRecDepth 100000
variable {w : World} {X : Bool} {A : Around} {env : Env} {mu : List Addr} {h₀ : View} {h₁ : Heap} {σ : List (Str × PV)} {bx : Option (Str × Addr × PV)}
section
variable {s : Shared} {E : Value → Shared → Prop}
open PySem.Builtin

/-- the words between blanks, as split() reads them -/
noncomputable def splitW (x : List UInt8) : List (List UInt8) := if !x.isEmpty && !x.any Bytes.isSpace then [x] else Bytes.words (x.length + 1) (x.length + 1) x
theorem words_len : ∀ (n l : Nat) (x : List UInt8), (Bytes.words n l x).length ≤ n
  | 0, _, _ => by simp [Bytes.words]
  | n + 1, l, x => by
    rw [Bytes.words]
    split
    · simp
    · split
      · simp
      · simp only [List.length_cons]; have := words_len n (l - 1) ; exact Nat.succ_le_succ (this _)
theorem words_mem : ∀ (n l : Nat) (x y : List UInt8), y ∈ Bytes.words n l x → y.length ≤ x.length
  | 0, _, _, _, h => by simp [Bytes.words] at h
  | n + 1, l, x, y, h => by
    rw [Bytes.words] at h
    have hd : (x.dropWhile Bytes.isSpace).length ≤ x.length := (List.dropWhile_sublist _).length_le
    split at h
    · simp at h
    · split at h
      · simp only [List.mem_singleton] at h; subst h; exact hd
      · rcases List.mem_cons.mp h with rfl | h
        · exact Nat.le_trans (List.takeWhile_sublist _).length_le hd
        · exact Nat.le_trans (words_mem n _ _ _ h) (Nat.le_trans (List.dropWhile_sublist _).length_le hd)
theorem mapM_new {G : View} : ∀ (ws : List (List UInt8)) (s : Shared) {Q : List Value → Shared → Prop}, (∀ y ∈ ws, y.length ≤ 16777216) → (∀ vs tk, RepL G (ws.map fun y => .bytes y.toArray) vs → Q vs { s with toks := tk }) →
    wpAny (model pw w) A (ws.mapM fun y => Bytes.Kind.bytes.new y.toArray) Q E s
  | [], s, Q, _, h => by rw [List.mapM_nil]; exact wpAny_pure (h [] s.toks .nil)
  | y :: ws, s, Q, hl, h => by
    rw [List.mapM_cons]
    refine wpAny_bind (wpAny_mkBytes ?_ (by rw [List.size_toArray, sizeLine_eq]; exact hl y (.head _)))
    refine wpAny_bind (mapM_new ws _ (fun z hz => hl z (.tail _ hz)) fun vs tk r => wpAny_pure (h _ _ (.cons (.bytes _ _) r)))

theorem entry_split : entryFor table "bytes.split" = some Builtin.«bytes.split» := entryFor_of_fast (by kernel_rfl)
theorem args_split (a : Value) : argsOk "bytes.split" ⟨[a], []⟩ := by unfold argsOk; kernel_rfl
theorem bi_split {x : Array UInt8} (hx : x.size ≤ 1000000) (hm : MuOld mu h₁) : Bi w A mu (.builtin "bytes.split") [.bytes x] (.list ((splitW x.toList).map fun y => .bytes y.toArray)) h₁ := fun s vs o k r => by
  obtain ⟨v, rfl, r1⟩ := r.one
  obtain ⟨t, rfl⟩ := r1.bytes_inv
  refine wpAny_call_entry slot_split (T := "bytes") rfl entry_split ?_ (args_split _)
  show wpAny _ _ (Bytes.splitM .bytes "split" false ⟨[.bytes x t], []⟩) _ _ s
  unfold Bytes.splitM
  dsimp only
  refine wpAny_bind (wpAny_of_eq (a := [none, none]) rfl ?_)
  dsimp only
  refine wpAny_bind (wpAny_pure ?_)
  refine wpAny_bind (wpAny_of_eq (a := x) rfl ?_)
  refine wpAny_bind (wpAny_rule ?_)
  have hlim : (if (-1 : Int) < 0 then x.size + 1 else (-1 : Int).toNat) = x.size + 1 := rfl
  simp only [hlim]
  have hc : (decide (x.size + 1 > 0) && !x.isEmpty && !x.any Bytes.isSpace) = (!x.toList.isEmpty && !x.toList.any Bytes.isSpace) := by
    rw [decide_eq_true (by omega), Bool.true_and, Array.any_toList]
    congr 1
    cases x; rename_i l; cases l <;> rfl
  rw [hc]
  unfold splitW
  by_cases hb : (!x.toList.isEmpty && !x.toList.any Bytes.isSpace) = true
  · rw [if_pos hb, if_pos hb]
    refine wpAny_bind (wpAny_of_eq (a := .bytes x t) rfl ?_)
    refine wpAny_bind (wpAny_newObj_type ?_ (by show 1 ≤ sizeLine; rw [sizeLine_eq]; omega))
    refine wpAny_pure ⟨_, rfl, ⟨.push _ _ _, rfl, rfl⟩, .list (vs := [.bytes x t]) (new_hid o (hm.at k)) (.cons (by simpa using Rep.bytes x t) .nil)⟩
  · rw [if_neg hb, if_neg hb]
    simp only [Bool.false_eq_true, if_false]
    refine wpAny_bind (mapM_new (G := hid mu s.heap) (Bytes.words (x.size + 1) (x.size + 1) x.toList) s (fun y hy => ?_) fun vs tk rv => ?_)
    · have h1 := words_mem _ _ _ _ hy
      have h2 : x.toList.length = x.size := Array.length_toList
      rw [h2] at h1
      exact Nat.le_trans h1 (by omega)
    · have hl := rv.length
      have hw := words_len (x.size + 1) (x.size + 1) x.toList
      rw [List.length_map] at hl
      refine wpAny_bind (wpAny_newObj_type ?_ (by show _ ≤ sizeLine; rw [sizeLine_eq, List.size_toArray]; omega))
      refine wpAny_pure ⟨_, rfl, ⟨.push _ _ _, rfl, rfl⟩, .list (vs := vs) (new_hid (s := { s with toks := tk }) o (hm.at k)) ?_⟩
      rw [Array.length_toList]
      exact rv.mono (hid_keep (.push _ _ _))

theorem bi_tuple {l : List PV} (hl : l.length ≤ 16777216) (hm : MuOld mu h₁) : Bi w A mu (.type "tuple") [.list l] (.tup l) h₁ := fun s vs o k r => by
  obtain ⟨v, rfl, r1⟩ := r.one
  obtain ⟨a, rfl⟩ := r1.refList
  obtain ⟨vs, hl', _, rl, _⟩ := r1.isList
  have hlen := rl.length
  refine call_tuple_list hl' (fun h' hk => ?_) (by rw [List.size_toArray, sizeLine_eq]; omega)
  have k1 : Keep [] s.heap h' := Keep.of hk
  refine ⟨⟨k1.trans (.push _ _ _), rfl, rfl⟩, .tup (vs := vs) (new_hid (s := { s with heap := h' }) (o.keeps k1) (hm.at (k.trans k1.nil))) (rl.mono (hid_keep (k1.trans (.push _ _ _)).nil))⟩
end
end

section
open PySem PySem.Calls PySem.W PyProof.Rows
set_option maxRecDepth 100000
variable {w : World} {X : Bool} {A : Around} {env : Env} {mu : List Addr} {h₀ : View} {h₁ : Heap} {σ : List (Str × PV)} {bx : Option (Str × Addr × PV)}
section
variable {s : Shared} {E : Value → Shared → Prop}
open PySem.Builtin

theorem entry_join : entryFor table "bytes.join" = some Builtin.«bytes.join» := entryFor_of_fast (by kernel_rfl)
theorem args_join (a b : Value) : argsOk "bytes.join" ⟨[a, b], []⟩ := by unfold argsOk; kernel_rfl
theorem take_bytes (x : Array UInt8) (t : Tok) (id : String) : Bytes.takeBufferQuiet? id (.bytes x t) 0 = pure (some (x, none)) := by
  unfold Bytes.takeBufferQuiet? Bytes.takeBuffer?
  have hb : Bytes.buffer? id (.bytes x t) (0 == Bytes.fullReadOnly) = pure (some x) := KBy.buffer_eq
  rw [KBy.special_eq KBy.look_buffer, KBy.own_buffer, hb]
  rfl

theorem RepL.bytesAt {G : View} {ps : List (Array UInt8)} {vs} (r : RepL G (ps.map .bytes) vs) {i : Nat} {v} (h : vs[i]? = some v) : ∃ p t, ps[i]? = some p ∧ v = .bytes p t := by
  obtain ⟨p, hp, r'⟩ := r.get' h
  rw [List.getElem?_map] at hp
  cases e : ps[i]? with
  | none => rw [e] at hp; cases hp
  | some q => rw [e] at hp; cases hp; obtain ⟨_, rfl⟩ := r'.bytes_inv; exact ⟨q, _, rfl, rfl⟩

theorem joinLetGo_go {keep : List Value} : ∀ (l : List Value) (s : Shared) {Q : Unit → Shared → Prop}, Q () s → wpAny (model pw w) A (Bytes.joinLetGo (l.map fun v => (v, none)) keep) Q E s
  | [], s, Q, h => by rw [List.map_nil, Bytes.joinLetGo]; exact wpAny_pure h
  | v :: l, s, Q, h => by
    rw [List.map_cons, Bytes.joinLetGo]
    · refine wpAny_bind (wpAny_letGo ?_)
      exact joinLetGo_go l s h
    · intro _ h; cases h

theorem not_heap {G : View} : ∀ {ps : List (Array UInt8)} {vs}, RepL G (ps.map .bytes) vs → ∀ n : Nat, ((vs.take n).map fun v => ((v, none) : Value × Option Value)).any (fun x => x.1.onHeap) = false
  | [], _, .nil, n => by simp
  | p :: ps, _, .cons a b, 0 => by simp
  | p :: ps, _, .cons a b, n + 1 => by
    have := not_heap b n
    cases a
    simpa [Value.onHeap] using this

theorem bi_join {sep : Array UInt8} {ps : List (Array UInt8)} (hp : ps.length ≤ 16777216) (hsz : ps.foldl (fun n x => n + x.size) (sep.size * (ps.length - 1)) ≤ 16777216) (hj : (Bytes.joined sep ps).size ≤ 16777216) :
    Bi w A mu (.builtin "bytes.join") [.bytes sep, .list (ps.map .bytes)] (.bytes (Bytes.joined sep ps)) h₁ := fun s vs o k r => by
  obtain ⟨v, u, rfl, r1, r2⟩ := r.two
  obtain ⟨t, rfl⟩ := r1.bytes_inv
  obtain ⟨a, rfl⟩ := r2.refList
  obtain ⟨vs, hl, ⟨n, ho⟩, rl, _⟩ := r2.isList
  have hlen : ps.length = vs.length := by simpa using rl.length
  refine wpAny_call_entry slot_join (T := "bytes") rfl entry_join ?_ (args_join _ _)
  show wpAny _ _ (Bytes.joinM .bytes ⟨[.bytes sep t, .ref a], []⟩) _ _ s
  unfold Bytes.joinM
  dsimp only
  refine wpAny_bind (wpAny_of_eq (a := (.bytes sep t, .ref a)) rfl ?_)
  dsimp only
  rw [if_pos (by decide)]
  refine wpAny_bind (m := Bytes.joinItems _) ?_
  unfold Bytes.joinItems
  refine wpAny_bind (wpAny_typeOf hl.typeIs ?_)
  rw [if_pos (by decide)]
  refine wpAny_pure ?_
  refine wpAny_bind (wpAny_seqItems ho rfl ?_)
  dsimp only
  rw [if_pos (by decide)]
  have one : ∀ p : Array UInt8, Bytes.joined sep [p] = p := fun p => by simp [Bytes.joined]
  by_cases h1 : vs.length = 1
  · obtain ⟨x, rfl⟩ := List.length_eq_one_iff.mp h1
    obtain ⟨p, rfl⟩ := List.length_eq_one_iff.mp (hlen.trans h1)
    obtain ⟨v, ev, rv⟩ := rl.one
    cases ev
    rw [one]
    obtain ⟨_, rfl⟩ := rv.bytes_inv
    refine wpAny_bind (wpAny_of_eq (a := .type "bytes") rfl ?_)
    rw [if_pos (by decide)]
    exact wpAny_bind (wpAny_rule (wpAny_pure ⟨_, rfl, .refl _ _, .bytes _ _⟩))
  · have tail : ∀ (f : Nat → Array (Array UInt8) × List (Value × Option Value) → Sem (ForInStep (Array (Array UInt8) × List (Value × Option Value)))) (g : Array (Array UInt8) × List (Value × Option Value) → Sem Fin),
        (∀ i p t, i < vs.length → ps[i]? = some p → vs[i]? = some (.bytes p t) → wpAny (model pw w) A.in1 (f i ((ps.take i).toArray, (vs.take i).map fun v => (v, none))) (fun r s' => r = .yield ((ps.take i).toArray.push p, ((vs.take i).map fun v => (v, none)) ++ [(.bytes p t, none)]) ∧ s' = s) NoE s) →
        (wpAny (model pw w) A.in1 (g (ps.toArray, vs.map fun v => (v, none))) (fun fin s' => ∃ v, fin = Fin.done (Flow.ret v) ∧ Nx [] s s' ∧ Rep (hid mu s'.heap) (PV.bytes (Bytes.joined sep ps)) v) NoE s) →
        wpAny (model pw w) A.in1 (forIn [:vs.toArray.size] (#[], []) f >>= g) (fun fin s' => ∃ v, fin = Fin.done (Flow.ret v) ∧ Nx [] s s' ∧ Rep (hid mu s'.heap) (PV.bytes (Bytes.joined sep ps)) v) NoE s := by
      intro f g hf hg
      refine wpAny_bind ?_
      rw [Std.Legacy.Range.forIn_eq_forIn_range']
      have es : ([:vs.toArray.size] : Std.Legacy.Range).size = vs.length := by simp [Std.Legacy.Range.size]
      refine wpAny_mono (Q := fun pt s' => pt = (ps.toArray, vs.map fun v => (v, none)) ∧ s' = s) (wpAny_forIn_list f (fun rest pt s' => s' = s ∧ ∃ i, i ≤ vs.length ∧ rest = List.range' i (vs.length - i) ∧ pt = ((ps.take i).toArray, (vs.take i).map fun v => (v, none))) _ ?_ ?_ _ _ ?_) (fun pt s' ⟨e1, e2⟩ => by subst e1; subst e2; exact hg) fun _ _ x => x
      · rintro x rest pt s' ⟨rfl, i, hi, hr, rfl⟩
        have hlt : i < vs.length := by
          rcases Nat.lt_or_ge i vs.length with h | h
          · exact h
          · rw [Nat.sub_eq_zero_of_le h] at hr; cases hr
        obtain ⟨m, hm⟩ : ∃ m, vs.length - i = m + 1 := ⟨vs.length - i - 1, by omega⟩
        rw [hm, List.range'_succ] at hr
        cases hr
        have hv : vs[x]? = some vs[x] := by simp [hlt]
        obtain ⟨p, t', ep, ev⟩ := rl.bytesAt hv
        refine wpAny_mono (hf x p t' hlt ep (hv.trans (by rw [ev]))) (fun r s' ⟨e1, e2⟩ => ?_) fun _ _ f => f
        subst e1; subst e2
        refine ⟨rfl, x + 1, hlt, by rw [show vs.length - (x + 1) = m by omega], ?_⟩
        rw [List.take_add_one, List.take_add_one, ep, hv, ev]
        simp
      · rintro pt s' ⟨rfl, i, hi, hr, rfl⟩
        have : vs.length - i = 0 := by
          cases e : vs.length - i with
          | zero => rfl
          | succ m => rw [e, List.range'_succ] at hr; cases hr
        have : i = vs.length := by omega
        subst this
        rw [List.take_length, List.take_of_length_le (by omega)]
        exact ⟨rfl, rfl⟩
      · exact ⟨rfl, 0, Nat.zero_le _, by rw [es]; simp, by simp⟩
    have body : ∀ (i : Nat) (p : Array UInt8) (t : Tok), i < vs.length → vs[i]? = some (.bytes p t) → vs.toArray.getD i Value.none = .bytes p t := fun i p t h e => by
      rw [Array.getD_eq_getD_getElem?]; simp [e]
    have big : ¬ (Bytes.tooLong (Array.foldl (fun (x1 : Nat) (x2 : Array UInt8) => x1 + x2.size) (sep.size * (ps.toArray.size - 1)) ps.toArray) = true) := by
      rw [KBy.tooLong_not (by simpa using hsz)]; exact Bool.false_ne_true
    rcases vs with _ | ⟨v0, _ | ⟨v1, rest⟩⟩
    · refine tail _ _ ?_ ?_
      · intro i p t h; simp at h
      · refine wpAny_bind (wpAny_of_eq (a := sep) rfl ?_)
        dsimp only
        rw [if_neg big]
        refine wpAny_bind (wpAny_mkBytes ?_ (by rw [sizeLine_eq]; exact hj))
        refine wpAny_bind (wpAny_holding (wpAny_point ?_))
        refine wpAny_bind (joinLetGo_go _ _ ?_)
        exact wpAny_pure ⟨_, rfl, Nx.tok (b := false), .bytes _ _⟩
    · exact absurd rfl h1
    · refine tail _ _ ?_ ?_
      · intro i p t hi ep ev
        refine wpAny_bind (wpAny_seqItems ho rfl ?_)
        dsimp only
        rw [not_heap rl i, body i p t hi ev]
        rw [if_neg (by decide)]
        refine wpAny_bind (wpAny_holding (wpAny_of_eq (take_bytes p t _) ?_))
        refine wpAny_bind (wpAny_seqItems ho rfl ?_)
        dsimp only
        rw [if_neg (by simp)]
        exact wpAny_pure ⟨rfl, rfl⟩
      · refine wpAny_bind (wpAny_of_eq (a := sep) rfl ?_)
        dsimp only
        rw [if_neg big]
        refine wpAny_bind (wpAny_mkBytes ?_ (by rw [sizeLine_eq]; exact hj))
        refine wpAny_bind (wpAny_holding (wpAny_point ?_))
        refine wpAny_bind (joinLetGo_go _ _ ?_)
        exact wpAny_pure ⟨_, rfl, Nx.tok (b := false), .bytes _ _⟩
end
end

section
open PySem PySem.Calls PySem.W PyProof.Rows
set_option maxRecDepth 100000
variable {w : World} {X : Bool} {A : Around} {env : Env} {mu : List Addr} {h₀ : View} {h₁ : Heap} {σ : List (Str × PV)} {bx : Option (Str × Addr × PV)}
section
variable {s : Shared} {E : Value → Shared → Prop}
open PySem.Builtin

theorem entry_lstrip : entryFor table "bytes.lstrip" = some Builtin.«bytes.lstrip» := entryFor_of_fast (by kernel_rfl)
theorem args_lstrip (a b : Value) : argsOk "bytes.lstrip" ⟨[a, b], []⟩ := by unfold argsOk; kernel_rfl
theorem bi_lstrip {x y : Array UInt8} (hx : x.size ≤ 16777216) : Bi w A mu (.builtin "bytes.lstrip") [.bytes x, .bytes y] (.bytes (x.toList.dropWhile y.contains).toArray) h₁ := fun s vs o k r => by
  obtain ⟨v, u, rfl, r1, r2⟩ := r.two
  obtain ⟨t, rfl⟩ := r1.bytes_inv
  obtain ⟨t', rfl⟩ := r2.bytes_inv
  refine wpAny_call_entry slot_lstrip (T := "bytes") rfl entry_lstrip ?_ (args_lstrip _ _)
  show wpAny _ _ (Bytes.stripM .bytes "lstrip" true false ⟨[.bytes x t, .bytes y t'], []⟩) _ _ s
  unfold Bytes.stripM
  dsimp only
  refine wpAny_bind (wpAny_of_eq (a := (.bytes x t, [.bytes y t'])) rfl ?_)
  dsimp only
  refine wpAny_bind (m := Bytes.bytesLike _ _) ?_
  unfold Bytes.bytesLike
  refine wpAny_bind (wpAny_of_eq (KBy.buffer_eq (b := y) (t := t')) ?_)
  dsimp only
  refine wpAny_pure (wpAny_bind (wpAny_pure ?_))
  refine wpAny_bind (wpAny_of_eq (a := x) rfl ?_)
  simp only [Bool.false_eq_true, if_false, if_true]
  by_cases hc : ((List.dropWhile y.contains x.toList).length == x.size) = true
  · rw [if_pos hc]
    have e : List.dropWhile y.contains x.toList = x.toList := (List.dropWhile_suffix _).eq_of_length (by rw [beq_iff_eq.mp hc, Array.length_toList])
    refine wpAny_bind (wpAny_rule ?_)
    refine wpAny_bind (wpAny_of_eq (a := .bytes x t) rfl ?_)
    refine wpAny_pure ⟨_, rfl, .refl _ _, ?_⟩
    rw [e]; exact .bytes _ _
  · rw [if_neg hc]
    refine wpAny_bind (wpAny_mkBytes ?_ ?_)
    · exact wpAny_pure ⟨_, rfl, Nx.tok (b := false), .bytes _ _⟩
    · rw [List.size_toArray, sizeLine_eq]
      have h1 := (List.dropWhile_sublist (p := y.contains) (l := x.toList)).length_le
      have h2 : x.toList.length = x.size := Array.length_toList
      rw [h2] at h1; omega

theorem slot_bl : Slot "int" "bit_length" "int.bit_length" := slot_int_bit_length
theorem bi_bitlen {n : Int} : Bi w A mu (.builtin "int.bit_length") [.int n] (.int (Builtin.Int.intBits n)) h₁ := fun s vs o k r => by
  obtain ⟨v, rfl, r1⟩ := r.one
  obtain ⟨_, rfl⟩ := r1.int_inv
  exact call_int_bit_length ⟨Nx.tok (b := false), .int _ _⟩

/-- the type of a plain value's own -/
noncomputable def PV.ty : PV → String
  | .none => "NoneType" | .bool _ => "bool" | .int _ => "int" | .bytes _ => "bytes" | .list _ => "list" | .tup _ => "tuple" | .dict _ => "dict" | .mat .. => "re.Match" | .fn .. => "function"
theorem Rep.typeIs {p v} (r : Rep (hid mu s.heap) p v) : s.TypeIs v p.ty ∧ ∀ a, v = .ref a → ∃ ob, s.heap.get? a = some ob ∧ ob.dict = Option.none := by
  cases r with
  | none => exact ⟨rfl, fun _ h => by cases h⟩
  | bool => exact ⟨rfl, fun _ h => by cases h⟩
  | int => exact ⟨rfl, fun _ h => by cases h⟩
  | bytes => exact ⟨rfl, fun _ h => by cases h⟩
  | list e _ => exact ⟨⟨_, (hid_some e).1, rfl⟩, fun _ h => by cases h; exact ⟨_, (hid_some e).1, rfl⟩⟩
  | tup e _ => exact ⟨⟨_, (hid_some e).1, rfl⟩, fun _ h => by cases h; exact ⟨_, (hid_some e).1, rfl⟩⟩
  | dict e _ _ _ => exact ⟨⟨_, (hid_some e).1, rfl⟩, fun _ h => by cases h; exact ⟨_, (hid_some e).1, rfl⟩⟩
  | mat e _ => exact ⟨⟨_, (hid_some e).1, rfl⟩, fun _ h => by cases h; exact ⟨_, (hid_some e).1, rfl⟩⟩
  | fn e c d _ _ _ _ _ => exact ⟨⟨_, (hid_some e).1, c⟩, fun _ h => by cases h; exact ⟨_, (hid_some e).1, d⟩⟩

theorem Ev.meth0 {o name apos pos id p q mu'} (pa : PlainAttrs p.ty) (slot : Slot p.ty name id) (hty : typeOf (.builtin id) = pure (.type "method_descriptor"))
    (ho : Ev w X A env mu' h₁ o p) (hc : Bi w A mu' (.builtin id) [p] q h₁) (hm' : ∀ (h : Heap) v, Rep (hid mu' h) q v → Rep (hid mu h) q v)
    (hbase : attributeBase o name env (eval o env) = eval o env) (hline : (apos.endLine == pos.line) = true) :
    Ev w X A env mu h₁ (.Call (.Attribute o name apos) [] [] pos) q := fun s ok k =>
  wpAny_Call_method hbase rfl hline pa slot hty (ho.use ok k fun v s₁ n₁ o₁ k₁ r₁ => ⟨r₁.typeIs.1, r₁.typeIs.2, callWith_method0 (wpAny_mono (hc s₁ [v] o₁ k₁ (.cons r₁ .nil)) (fun _ _ ⟨n₂, r⟩ => ⟨n₁.trans n₂.nil, n₂.ok o₁, hm' _ _ r⟩) fun _ _ f => f.elim)⟩)
theorem Ev.meth1 {o name apos pos id p q mu' e pe} (pa : PlainAttrs p.ty) (slot : Slot p.ty name id) (hty : typeOf (.builtin id) = pure (.type "method_descriptor"))
    (ho : Ev w X A env mu' h₁ o p) (he : Ev w X A env mu' h₁ e pe) (hc : Bi w A mu' (.builtin id) [p, pe] q h₁) (hm' : ∀ (h : Heap) v, Rep (hid mu' h) q v → Rep (hid mu h) q v)
    (hbase : attributeBase o name env (eval o env) = eval o env) (hline : (apos.endLine == pos.line) = true) (hs : starEach [e] env = [(false, eval e env)]) :
    Ev w X A env mu h₁ (.Call (.Attribute o name apos) [e] [] pos) q := fun s ok k =>
  have L : EvL w X A env mu' h₁ [e] [pe] := .cons he .nil hs
  wpAny_Call_method hbase (by rw [hs]; rfl) hline pa slot hty (ho.use ok k fun v s₁ n₁ o₁ k₁ r₁ => ⟨r₁.typeIs.1, r₁.typeIs.2, callWith_method1 (L.use o₁ k₁ fun vs s₂ n₂ o₂ k₂ r₂ =>
    wpAny_mono (hc s₂ (v :: vs) o₂ k₂ (.cons (r₁.mono (hid_keep (n₂.keep.toTT (xs_TT X)))) r₂)) (fun _ _ ⟨n₃, r⟩ => ⟨n₁.trans (n₂.trans n₃.nil), n₃.ok o₂, hm' _ _ r⟩) fun _ _ f => f.elim) hs⟩)

/-- Flags.match(e) -/
theorem Ev.flagsMatch {np apos pos e x q} (G : EnvOk env) (hk : env.kindOf "Flags" = some .globalImplicit) (he : Ev w X A env [] h₁ e (.bytes x)) (hx : x.size ≤ 16777216) (hm : MuOld mu h₁)
    (hq : (∃ i j, Comes x i j ∧ q = .mat x i j) ∨ (Fails x ∧ q = .none)) (hbase : attributeBase (.Name "Flags" np) "match" env (eval (.Name "Flags" np) env) = eval (.Name "Flags" np) env)
    (hline : (apos.endLine == pos.line) = true) (hs : starEach [e] env = [(false, eval e env)]) :
    Ev w X A env mu h₁ (.Call (.Attribute (.Name "Flags" np) "match" apos) [e] [] pos) q := fun s ok k => by
  refine wpAny_Call_method hbase (by rw [hs]; rfl) hline pa_pat slot_match ty_match ?_
  obtain ⟨mg, hg, _, hf, _⟩ := ok.g
  refine Name_function_global G.kind hk (loadGlobal_global (by rw [G.glob]; exact hg) hf ?_)
  refine ⟨⟨_, ok.pat, rfl⟩, fun a h => by cases h; exact ⟨_, ok.pat, rfl⟩, ?_⟩
  have L : EvL w X A env [] h₁ [e] [.bytes x] := .cons he .nil hs
  refine callWith_method1 (L.use ok k fun vs s₂ n₂ o₂ k₂ r₂ => ?_) hs
  obtain ⟨v, rfl, rv⟩ := r₂.one
  exact wpAny_mono (bi_match hx hm hq s₂ v o₂ k₂ (rv.imm rfl)) (fun _ _ ⟨n₃, r⟩ => ⟨n₂.trans n₃.nil, n₃.ok o₂, r⟩) fun _ _ f => f.elim
/-- e.group('flags') -/
theorem Ev.group {o apos pos c np x i j} (ho : Ev w X A env [] h₁ o (.mat x i j)) (hx : x.size ≤ 16777216) (hbase : attributeBase o "group" env (eval o env) = eval o env) (hline : (apos.endLine == pos.line) = true) :
    Ev w X A env mu h₁ (.Call (.Attribute o "group" apos) [.Constant (.str "flags") c np] [] pos) (.bytes (x.extract i j)) := fun s ok k => by
  refine wpAny_Call_method (T := "re.Match") hbase rfl hline pa_mat slot_group ty_group (ho.use ok k fun v s₁ n₁ o₁ k₁ r₁ => ⟨r₁.typeIs.1, r₁.typeIs.2, ?_⟩)
  refine callWith_method1 (wpAny_items_cons (Calls.Constant_str (wpAny_items_nil ?_)))
  exact wpAny_mono (bi_group (s := { s₁ with toks := s₁.toks + 1 }) hx _ v o₁ r₁) (fun _ _ ⟨n₃, r⟩ => ⟨n₁.trans (Nx.tok.trans n₃.nil), n₃.ok o₁, r.imm rfl⟩) fun _ _ f => f.elim
end
end

section
open PySem PySem.Calls PySem.W PyProof.Rows
set_option maxRecDepth 100000
variable {w : World} {X : Bool}

theorem sub_nil {m : List Addr} : ∀ a ∈ ([] : List Addr), a ∈ m := fun _ h => by cases h
theorem sub_refl {m : List Addr} : ∀ a ∈ m, a ∈ m := fun _ h => h
theorem sub_mu {env mu bx} : ∀ a ∈ mu, a ∈ full env mu bx := fun a h => List.mem_append_right _ h
theorem sub_own {env mu bx} : ∀ a ∈ own env ++ mu, a ∈ full env mu bx := fun a h => by
  rcases List.mem_append.mp h with h | h
  · exact List.mem_append_left _ (List.mem_append_right _ h)
  · exact List.mem_append_right _ h
theorem sub_muo {env : Env} {mu : List Addr} : ∀ a ∈ mu, a ∈ own env ++ mu := fun a h => List.mem_append_right _ h
theorem no_box : ∀ (x : Str) y a q, (none : Option (Str × Addr × PV)) = some (y, a, q) → x ≠ y := fun _ _ _ _ h => by cases h


end

section
local macro_rules | `(tactic| walk_at "sub") => `(tactic| first | exact sub_nil | exact sub_refl | exact sub_mu | exact sub_own | exact sub_muo)
local macro_rules | `(tactic| walk_at "op") => `(tactic| first | exact .add | exact .sub | exact .and | exact .xor | exact .mod (by first | assumption | omega) | exact .shr (by first | assumption | omega) | exact .shl (by first | assumption | omega) (by first | assumption | omega) (by first | assumption | omega))
local macro_rules | `(tactic| walk_at "cmp") => `(tactic| first | exact .lt | exact .gt | exact .le | exact .ge | exact .eq | exact .ne | exact .eqB | exact .neB)
local macro_rules | `(tactic| walk_at "ev") => `(tactic| first
  | exact Ev.cInt | exact Ev.cBytes | exact Ev.cNone | exact Ev.cBool
  | exact Ev.name (Fm.toVars (by assumption)) rfl (by walk_at "sub") rfl rfl
  | (refine' Ev.bin ?e1 ?e2 ?e3; (case e1 => walk_at "ev"); (case e2 => walk_at "ev"); (case e3 => walk_at "op")))
local macro_rules | `(tactic| walk_at "fn") => `(tactic| first | decide +kernel | rfl | (intro vs h; match vs, h with | [_, _], _ => rfl) | (intro vs h; match vs, h with | [_], _ => rfl) | (intro vs h; match vs, h with | [_, _, _], _ => rfl))

section
open PySem PySem.Calls PySem.W PyProof.Rows
set_option maxRecDepth 100000
variable {w : World} {X : Bool}
theorem fn_iadd (a c : Int) : Fn w false 1 dIadd.addr [.int a, .int c] (.int (a + c)) := by
  refine Fn.of ["a", "b"] (by simp [defs]) rfl (by walk_at "fn") (by walk_at "fn") (by walk_at "fn") (by walk_at "fn") (by walk_at "fn") rfl rfl rfl rfl ?_
  intro A L mu h₀ R
  refine' Ex.aug (p := .int a) (q := .int c) rfl (fun h o F => ?e1) ?op rfl (.inl rfl) (no_box _) ?rest
  case op => walk_at "op"
  case e1 => walk_at "ev"
  case rest => exact Ex.ret fun h o F => by walk_at "ev"
theorem fn_imod (a c : Int) (hc : c ≠ 0) : Fn w false 1 dImod.addr [.int a, .int c] (.int (a.fmod c)) := by
  refine Fn.of ["a", "b"] (by simp [defs]) rfl (by walk_at "fn") (by walk_at "fn") (by walk_at "fn") (by walk_at "fn") (by walk_at "fn") rfl rfl rfl rfl ?_
  intro A L mu h₀ R
  refine' Ex.aug (p := .int a) (q := .int c) rfl (fun h o F => ?e1) ?op rfl (.inl rfl) (no_box _) ?rest
  case op => walk_at "op"
  case e1 => walk_at "ev"
  case rest => exact Ex.ret fun h o F => by walk_at "ev"
theorem fn_iand (a c : Int) : Fn w false 1 dIand.addr [.int a, .int c] (.int (Builtin.bitAnd a c)) := by
  refine Fn.of ["a", "b"] (by simp [defs]) rfl (by walk_at "fn") (by walk_at "fn") (by walk_at "fn") (by walk_at "fn") (by walk_at "fn") rfl rfl rfl rfl ?_
  intro A L mu h₀ R
  refine' Ex.aug (p := .int a) (q := .int c) rfl (fun h o F => ?e1) ?op rfl (.inl rfl) (no_box _) ?rest
  case op => walk_at "op"
  case e1 => walk_at "ev"
  case rest => exact Ex.ret fun h o F => by walk_at "ev"
theorem fn_irshift (a c : Int) (hc : 0 ≤ c) : Fn w false 1 dIrshift.addr [.int a, .int c] (.int (a.fdiv (2 ^ c.toNat))) := by
  refine Fn.of ["a", "b"] (by simp [defs]) rfl (by walk_at "fn") (by walk_at "fn") (by walk_at "fn") (by walk_at "fn") (by walk_at "fn") rfl rfl rfl rfl ?_
  intro A L mu h₀ R
  refine' Ex.aug (p := .int a) (q := .int c) rfl (fun h o F => ?e1) ?op rfl (.inl rfl) (no_box _) ?rest
  case op => walk_at "op"
  case e1 => walk_at "ev"
  case rest => exact Ex.ret fun h o F => by walk_at "ev"
theorem fn_ilshift (a c : Int) (hc : 0 ≤ c) (hc2 : c ≤ 1000000) (ha : a.natAbs < 2 ^ 64) : Fn w false 1 dIlshift.addr [.int a, .int c] (.int (a * 2 ^ c.toNat)) := by
  refine Fn.of ["a", "b"] (by simp [defs]) rfl (by walk_at "fn") (by walk_at "fn") (by walk_at "fn") (by walk_at "fn") (by walk_at "fn") rfl rfl rfl rfl ?_
  intro A L mu h₀ R
  refine' Ex.aug (p := .int a) (q := .int c) rfl (fun h o F => ?e1) ?op rfl (.inl rfl) (no_box _) ?rest
  case op => walk_at "op"
  case e1 => walk_at "ev"
  case rest => exact Ex.ret fun h o F => by walk_at "ev"
end

section
open PySem PySem.Calls PySem.W PyProof.Rows
set_option maxRecDepth 100000
variable {w : World} {X : Bool}

noncomputable def apL : List UInt8 := [65, 66, 67, 68, 69, 70, 71, 72, 73, 74, 75, 76, 77, 78, 79, 80]
noncomputable def apAt (n : Nat) : UInt8 := (65 + n % 16).toUInt8
noncomputable def i2ap (n : Nat) : List UInt8 := if h : n = 0 then [] else i2ap (n / 16) ++ [apAt n]
termination_by n
decreasing_by omega

theorem picked_one (n : Nat) : KBy.picked apL.toArray (some ((n % 16 : Nat) : Int)) (some (((n % 16 : Nat) : Int) + 1)) = #[apAt n] := by
  have h : n % 16 < 16 := Nat.mod_lt _ (by omega)
  unfold apAt
  generalize n % 16 = m at h
  have key : ∀ m : Fin 16, KBy.picked apL.toArray (some ((m.val : Nat) : Int)) (some (((m.val : Nat) : Int) + 1)) = #[(65 + m.val).toUInt8] := by decide +kernel
  exact key ⟨m, h⟩

theorem fdiv16 (n : Nat) : (n : Int).fdiv 16 = ((n / 16 : Nat) : Int) := by
  rw [Int.fdiv_eq_ediv_of_nonneg _ (by omega)]; omega
theorem fmod16 (n : Nat) : (n : Int).fmod 16 = ((n % 16 : Nat) : Int) := by
  rw [Int.fmod_eq_emod_of_nonneg _ (by omega)]; omega

theorem i2ap_step (n : Nat) (h : n ≠ 0) : i2ap n = i2ap (n / 16) ++ [apAt n] := by
  conv => lhs; unfold i2ap
  rw [dif_neg h]

noncomputable def sAP (k : Nat) (v : List UInt8) : List (Str × PV) := [("num", .int k), ("val", .bytes v.toArray), ("AP", .bytes apL.toArray)]
theorem fn_int2ap (n : Nat) (hn : (i2ap n).length ≤ 1000) : Fn w false 1 dInt2AP.addr [.int n] (.bytes (i2ap n).toArray) := by
  refine Fn.of ["num"] (by simp [defs]) rfl (by walk_at "fn") (by walk_at "fn") (by walk_at "fn") (by walk_at "fn") (by walk_at "fn") rfl rfl rfl rfl ?_
  intro A L mu h₀ R
  refine Ex.assign (p := .bytes #[]) (fun h o F => by walk_at "ev") rfl (.inl rfl) (no_box _) ?_
  refine Ex.assign (p := .bytes apL.toArray) (fun h o F => by walk_at "ev") rfl (.inl rfl) (no_box _) ?_
  refine Ex.assign (p := .int n) (fun h o F => ?_) rfl (.inl rfl) (no_box _) ?_
  · refine Ev.bit (mu' := []) (T := "int") (p := .int n) F.ok rfl (by simp [bnames]) ?_ bi_int (imm_any rfl) rfl rfl
    have e : (if (n : Int) < 0 then -(n : Int) else n) = n := by rw [if_neg (by omega)]
    refine (Ev.bif (mu' := []) (id := "abs") F.ok rfl (by simp [bnames]) (.cons (p := .int n) (by walk_at "ev") .nil rfl) bi_abs (imm_any rfl) rfl rfl rfl).eq (by rw [e])
  refine Ex.pre (I' := fun h => ∃ v, i2ap n ++ v = i2ap n ∧ Fm w false h₀ (fenv dInt2AP L) mu (sAP n v) none h) (fun h o F => ⟨[], by simp, F.weaken (by simp only [sAP, List.forall_mem_cons]; exact ⟨rfl, rfl, rfl, by simp⟩)⟩) ?_
  refine Ex.whil (fun k h => ∃ v, i2ap k ++ v = i2ap n ∧ Fm w false h₀ (fenv dInt2AP L) mu (sAP k v) none h) (fun k => (k : Int) != 0) ?_ ?_ ?_ n ?_
  · rintro k h o ⟨v, e, F⟩
    exact EvT.value (p := .int k) (by walk_at "ev") trivial fun _ => rfl
  · rintro k h h' ⟨v, e, F⟩ kk
    exact ⟨v, e, F.kp kk.nil⟩
  · intro k hk
    have hk0 : k ≠ 0 := by rintro rfl; exact absurd hk (by decide)
    refine Ex.ex fun v => ?_
    by_cases e : i2ap k ++ v = i2ap n
    · refine Ex.pre (I' := Fm w false h₀ (fenv dInt2AP L) mu (sAP k v) none) (fun h o F => F.2) ?_
      refine Ex.pair (R.le (Nat.zero_le _)) (p := .int ((k / 16 : Nat) : Int)) (q := .int ((k % 16 : Nat) : Int)) (fun h o F => ?_) rfl rfl (.inl rfl) (.inl rfl) (no_box _) (no_box _) rfl rfl ?_
      · refine (Ev.bif (id := "divmod") F.ok rfl (by simp [bnames]) (.cons (p := .int k) (by walk_at "ev") (.cons (p := .int 16) (by walk_at "ev") .nil rfl) rfl) (bi_divmod (by omega) (by decide) F.muOld') (fun _ _ h => h) rfl rfl rfl).eq ?_
        rw [fdiv16, fmod16]
      · refine Ex.assign (p := .bytes (apAt k :: v).toArray) (fun h o F => ?_) rfl (.inl rfl) (no_box _) ?_
        · refine (Ev.bin (p := .bytes #[apAt k]) (q := .bytes v.toArray) ?_ (by walk_at "ev") (.addB ?_)).eq ?_
          · rw [← picked_one]
            exact Ev.sliceB (by walk_at "ev") (.some (by walk_at "ev")) (.some (by walk_at "ev")) (by decide) fun _ _ => rfl
          · have := congrArg List.length e
            rw [List.length_append] at this
            simp only [List.size_toArray, Array.size_singleton]
            show 1 + v.length ≤ _
            omega
          · simp
        · refine Ex.nil fun h F => ⟨rfl, k / 16, by omega, apAt k :: v, ?_, F.weaken (by simp only [sAP, List.forall_mem_cons]; exact ⟨rfl, rfl, rfl, by simp⟩)⟩
          rw [← e, i2ap_step k hk0]; simp
    · exact fun s o i => absurd i.1 e
  · refine Ex.pre (I' := Fm w false h₀ (fenv dInt2AP L) mu (sAP 0 (i2ap n)) none) ?_ ?_
    · rintro h o ⟨k, hk, v, e, F⟩
      have : k = 0 := by
        have h1 : ¬ ((k : Int) ≠ 0) := by simpa using hk
        omega
      subst this
      have : i2ap 0 = [] := by unfold i2ap; rw [dif_pos rfl]
      rw [this, List.nil_append] at e
      subst e; exact F
    · exact Ex.ret fun h o F => by walk_at "ev"
end

section
open PySem PySem.Calls PySem.W PyProof.Rows
set_option maxRecDepth 100000
variable {w : World} {X : Bool}

theorem splitW_len (x : List UInt8) : (splitW x).length ≤ x.length + 1 := by
  unfold splitW
  split
  · simp
  · exact words_len _ _ _

theorem fn_parse_none (x : Array UInt8) (hx : x.size ≤ 1000000) (hf : Fails x) : Fn w false 1 dParse.addr [.bytes x] (.tup []) := by
  refine Fn.of ["resp"] (by simp [defs]) rfl (by walk_at "fn") (by walk_at "fn") (by walk_at "fn") (by walk_at "fn") (by walk_at "fn") rfl rfl rfl rfl ?_
  intro A L mu h₀ R
  refine Ex.assign (p := .none) (fun h o F => Ev.flagsMatch (x := x) F.ok rfl (by walk_at "ev") (by omega) F.muOld' (.inr ⟨hf, rfl⟩) rfl rfl rfl) rfl (.inl rfl) (no_box _) ?_
  refine Ex.ite (u := !false) (fun h o F => EvT.not (EvT.value (p := .none) (by walk_at "ev") trivial fun _ => rfl)) (fun _ => ?_) (fun h => by cases h)
  exact Ex.ret fun h o F => Ev.tuple .nil (F.muO) (by simp)
theorem fn_parse_some (x : Array UInt8) (i j : Nat) (hx : x.size ≤ 1000000) (hf : Comes x i j) : Fn w false 1 dParse.addr [.bytes x] (.tup ((splitW (x.extract i j).toList).map fun y => .bytes y.toArray)) := by
  refine Fn.of ["resp"] (by simp [defs]) rfl (by walk_at "fn") (by walk_at "fn") (by walk_at "fn") (by walk_at "fn") (by walk_at "fn") rfl rfl rfl rfl ?_
  intro A L mu h₀ R
  refine Ex.assign (p := .mat x i j) (fun h o F => Ev.flagsMatch (x := x) F.ok rfl (by walk_at "ev") (by omega) F.muOld' (.inl ⟨i, j, hf, rfl⟩) rfl rfl rfl) rfl (.inl rfl) (no_box _) ?_
  refine Ex.ite (u := !true) (fun h o F => EvT.not (EvT.value (p := .mat x i j) (by walk_at "ev") trivial fun _ => rfl)) (fun h => by cases h) (fun _ => ?_)
  have hs : (x.extract i j).size ≤ 1000000 := by rw [Array.size_extract]; omega
  have hl : ((splitW (x.extract i j).toList).map fun y => PV.bytes y.toArray).length ≤ 16777216 := by
    rw [List.length_map]
    refine Nat.le_trans (splitW_len _) ?_
    rw [Array.length_toList]; omega
  refine Ex.ret fun h o F => ?_
  have hm := F.muO
  refine Ev.bit (T := "tuple") F.ok rfl (by simp [bnames]) ?_ (bi_tuple hl hm) (fun _ _ h => h) rfl rfl
  exact Ev.meth0 (p := .bytes (x.extract i j)) pa_bytes slot_split ty_split (Ev.group (by walk_at "ev") (by omega) rfl rfl) (bi_split hs hm) (fun _ _ h => h) rfl rfl
end
end

section
open PySem PySem.Calls PySem.W PyProof.Rows
set_option maxRecDepth 100000
variable {w : World} {X : Bool} {A : Around} {env : Env} {mu : List Addr} {h₀ : View} {h₁ : Heap} {σ : List (Str × PV)} {bx : Option (Str × Addr × PV)}

/-- an iterator at I, that gives qs -/
noncomputable def Src (w : World) (A : Around) (mu : List Addr) (qs : List PV) (I : Addr) (h : Heap) : Prop :=
  ∃ fp P St, Walks pw w A I fp [I] qs.length P St ∧ St 0 h ∧ (∀ b ∈ fp, b = I ∨ (b ∉ TT ∧ b ∉ mu ∧ ∃ o, h.get? b = some o)) ∧
    (∀ i h, St i h → ∃ o, h.get? I = some o ∧ NoCode o ∧ ¬ isCon0 o ∧ ∀ v, o.data ≠ .cell v) ∧ ∀ i v, P i v → ∃ q, qs[i]? = some q ∧ Rep (hid (I :: mu) h) q v
noncomputable def It (w : World) (X : Bool) (A : Around) (env : Env) (mu : List Addr) (h₁ : Heap) (e : Expr) (qs : List PV) : Prop :=
  ∀ s : Shared, Ok w s.heap → Keep TT h₁ s.heap → wpAny (model pw w) A (eval e env) (fun xv s₁ => Nx (xs X) s s₁ ∧ Ok w s₁.heap ∧
    wpAny (model pw w) A (pyIter xv) (fun it s₂ => Nx [] s₁ s₂ ∧ ∃ I, it = .ref I ∧ s₁.heap.get? I = none ∧ Src w A mu qs I s₂.heap) NoE s₁) NoE s

/-- a view that hides what is new -/
theorem hid_new {h h' : Heap} {z mu : List Addr} (k : Keep TT h h') (hz : ∀ a ∈ z, h.get? a = none) : View.le (hid mu h) (hid (z ++ mu) h') := by
  intro a o e
  obtain ⟨e, hT, hm⟩ := hid_some e
  refine hid_of (k a o hT e) hT fun q => ?_
  rcases List.mem_append.mp q with q | q
  · rw [hz a q] at e; cases e
  · exact hm q

section
variable {s : Shared}
theorem It.list {e l} (h : Ev w X A env mu h₁ e (.list l)) (hh : A.handled = none) : It w X A env mu h₁ e l := fun s o k =>
  h.use o k fun v s₁ n₁ o₁ k₁ r₁ => by
    obtain ⟨a, rfl⟩ := r₁.refList
    obtain ⟨vs, hl, _, r, hT, hm⟩ := r₁.isList
    refine ⟨n₁, o₁, wpAny_pyIter_list hl ⟨⟨.push _ _ _, rfl, rfl⟩, _, rfl, get_size _, ?_⟩⟩
    obtain ⟨ob, hob, _⟩ := id hl
    have hne : a ≠ s₁.heap.objs.size := Nat.ne_of_lt (Heap.lt_size hob)
    have W := Walks.list (prog := pw) (w := w) hh s₁.heap.objs.size a hne vs.toArray
    have eW : vs.toArray.size = l.length := by simp [r.length]
    rw [eW] at W
    refine ⟨_, _, _, W, ⟨⟨_, Heap.get?_push_size _ rfl, rfl, rfl⟩, hl.push _⟩, fun b hb => ?_, fun i h st => ?_, fun i v hv => ?_⟩
    · rcases List.mem_cons.mp hb with e | hb
      · exact .inl e
      · have : b = a := by simpa using hb
        subst this
        exact .inr ⟨hT, hm, _, Heap.get?_push_of_some _ hob⟩
    · obtain ⟨⟨o, ho, hc, hd⟩, _⟩ := st
      refine ⟨o, ho, fun us e => ?_, by unfold isCon0; rw [hc]; simp, fun v e => by rw [hd] at e; cases e⟩
      rw [hd] at e; cases e
      exact ⟨by simp, fun q t h => by cases h⟩
    · obtain ⟨q, hq, rq⟩ := r.get' (i := i) (by simpa using hv)
      exact ⟨q, hq, rq.mono (hid_new (z := [_]) (.push _ _ _) (by simpa using get_size _))⟩
theorem It.tup {e l} (h : Ev w X A env mu h₁ e (.tup l)) (hh : A.handled = none) : It w X A env mu h₁ e l := fun s o k =>
  h.use o k fun v s₁ n₁ o₁ k₁ r₁ => by
    obtain ⟨a, rfl⟩ := r₁.refTup
    obtain ⟨vs, _, hl, r, hT, hm⟩ := r₁.isTup
    refine ⟨n₁, o₁, wpAny_pyIter_tuple hl ⟨⟨.push _ _ _, rfl, rfl⟩, _, rfl, get_size _, ?_⟩⟩
    obtain ⟨ob, hob, _⟩ := id hl
    have hne : a ≠ s₁.heap.objs.size := Nat.ne_of_lt (Heap.lt_size hob)
    have W := Walks.tuple (prog := pw) (w := w) hh s₁.heap.objs.size a hne vs.toArray
    have eW : vs.toArray.size = l.length := by simp [r.length]
    rw [eW] at W
    refine ⟨_, _, _, W, ⟨⟨_, Heap.get?_push_size _ rfl, rfl, rfl⟩, hl.push _⟩, fun b hb => ?_, fun i h st => ?_, fun i v hv => ?_⟩
    · rcases List.mem_cons.mp hb with e | hb
      · exact .inl e
      · have : b = a := by simpa using hb
        subst this
        exact .inr ⟨hT, hm, _, Heap.get?_push_of_some _ hob⟩
    · obtain ⟨⟨o, ho, hc, hd⟩, _⟩ := st
      refine ⟨o, ho, fun us e => ?_, by unfold isCon0; rw [hc]; simp, fun v e => by rw [hd] at e; cases e⟩
      rw [hd] at e; cases e
      exact ⟨by simp, fun q t h => by cases h⟩
    · obtain ⟨q, hq, rq⟩ := r.get' (i := i) (by simpa using hv)
      exact ⟨q, hq, rq.mono (hid_new (z := [_]) (.push _ _ _) (by simpa using get_size _))⟩
theorem It.bytes {e x} (h : Ev w X A env mu h₁ e (.bytes x)) (hh : A.handled = none) : It w X A env mu h₁ e (x.toList.map fun c => .int (c.toNat : Int)) := fun s o k =>
  h.use o k fun v s₁ n₁ o₁ k₁ r₁ => by
    obtain ⟨_, rfl⟩ := r₁.bytes_inv
    refine ⟨n₁, o₁, KBw.pyIter_bytes ⟨⟨.push _ _ _, rfl, rfl⟩, _, rfl, get_size _, ?_⟩⟩
    have W := KBw.walks (prog := pw) (w := w) hh s₁.heap.objs.size x ‹_›
    have e : x.size = (x.toList.map fun c => PV.int (c.toNat : Int)).length := by simp
    rw [e] at W
    refine ⟨_, _, _, W, ⟨_, Heap.get?_push_size _ rfl, rfl, rfl⟩, fun b hb => .inl (by simpa using hb), fun i h st => ?_, fun i v hv => ?_⟩
    · obtain ⟨o, ho, hc, hd⟩ := st
      refine ⟨o, ho, fun us e => ?_, by unfold isCon0; rw [hc]; simp, fun v e => by rw [hd] at e; cases e⟩
      rw [hd] at e; cases e
      exact ⟨by simp, fun q t h => by cases h⟩
    · obtain ⟨c, u, hc, rfl⟩ := hv
      exact ⟨.int c.toNat, by simp [hc], .int _ _⟩
noncomputable def rngP (n : Nat) : List PV := (List.range n).map fun (i : Nat) => .int (i : Int)
/-- range(e) -/
theorem It.range1 {x np e pos} {n : Nat} (G : EnvOk env) (hk : env.kindOf x = some .globalImplicit) (hx : x = "range") (h : Ev w X A env [] h₁ e (.int n)) (hh : A.handled = none) (hn : n ≤ 1000000)
    (hs : starEach [e] env = [(false, eval e env)]) : It w X A env mu h₁ (.Call (.Name x np) [e] [] pos) (rngP n) := fun s ok k => by
  subst hx
  refine wpAny_Call_NameR ?_
  obtain ⟨mg, hg, _, _, hm⟩ := ok.g
  obtain ⟨mb, hb', hmb⟩ := ok.b
  have hb : (("range" : Str), Value.type "range") ∈ bnames := by simp [bnames]
  refine Name_function_global G.kind hk (loadGlobal_builtin (by rw [G.glob]; exact hg) (hm _ hb) (by rw [G.bi]; exact hb') (hmb _ hb) ?_)
  have L : EvL w X A env [] h₁ [e] [.int n] := .cons h .nil hs
  refine PyProof.Rows.callWith_type1 (L.use ok k fun vs s₁ n₁ o₁ k₁ r₁ => ?_) hs
  obtain ⟨v, rfl, rv⟩ := r₁.one
  obtain ⟨_, rfl⟩ := rv.int_inv
  have nn : Nx [] s₁ { s₁ with heap := s₁.heap.push { cls := .type "range", data := .fields #[.int 0 s₁.toks, .int n ‹_›, .int 1 (s₁.toks + 1)] }, toks := s₁.toks + 1 + 1 } := ⟨.push _ _ _, rfl, rfl⟩
  refine call_range_1 ⟨n₁.trans nn.nil, o₁.keeps nn.keep, ?_⟩
  refine wpAny_pyIter_range (IsRange.new ..) (small_one (by decide) (by decide) (by omega) (by omega)) ⟨⟨.push _ _ _, rfl, rfl⟩, _, rfl, get_size _, ?_⟩
  generalize hI : (s₁.heap.push { cls := .type "range", data := .fields #[.int 0 s₁.toks, .int n ‹_›, .int 1 (s₁.toks + 1)] }).objs.size = I
  have W := Walks.range (prog := pw) (w := w) (A := A) hh I 0 1 (rngP n).length
  have e : (rngP n).length = n := by simp [rngP]
  refine ⟨_, _, _, W.bound, ?_, fun b hb => .inl (by simpa using hb), fun i h st => ?_, fun i v hv => ?_⟩
  · rw [e]
    have : Builtin.Range.rangeSize 0 (n : Int) 1 = n := by rw [rangeSize_one]; split <;> omega
    show Heap.get? _ _ = _
    rw [← hI, this]
    exact Heap.get?_push_size _ rfl
  · exact ⟨_, st, fun us e => by cases e; exact ⟨by simp, fun q t h => by cases h⟩, by unfold isCon0; simp, fun v e => by cases e⟩
  · obtain ⟨hi, t, rfl⟩ := hv
    rw [e] at hi
    refine ⟨.int i, by simp [hi, rngP], ?_⟩
    have : (0 : Int) + (i : Int) * 1 = i := by omega
    rw [this]; exact .int _ _
end
end

section
open PySem PySem.Calls PySem.W PyProof.Rows
set_option maxRecDepth 100000
variable {w : World} {X : Bool} {A : Around} {env : Env} {mu : List Addr} {h₀ : View} {h₁ : Heap} {σ : List (Str × PV)} {bx : Option (Str × Addr × PV)}

/-- the base of a loop's turn: all that stands, but for the frame's own and the box -/
noncomputable def turnB (env : Env) (bx : Option (Str × Addr × PV)) (h : Heap) : View := fun a => if a ∈ bxa bx ++ own env then none else h.get? a
theorem turnB_of {h : Heap} {a o} (e : h.get? a = some o) (ha : a ∉ bxa bx ++ own env) : turnB env bx h a = some o := by unfold turnB; rw [if_neg ha]; exact e
theorem turnB_some {h : Heap} {a o} (e : turnB env bx h a = some o) : h.get? a = some o ∧ a ∉ bxa bx ++ own env := by
  unfold turnB at e
  split at e
  · cases e
  · exact ⟨e, by assumption⟩
theorem turnB_none {h : Heap} {a} (ha : a ∈ bxa bx ++ own env) : turnB env bx h a = none := by unfold turnB; rw [if_pos ha]

theorem Fm.turn {h : Heap} (F : Fm w X h₀ env mu σ bx h) : Fm w X (turnB env bx h) env mu σ bx h :=
  { F with
    keep := fun b o _ e => (turnB_some e).1
    newO := fun a ha => ⟨turnB_none (List.mem_append_right _ ha), (F.newO a ha).2⟩
    box := fun x a p e => let ⟨b, r, n⟩ := F.box x a p e; ⟨b, r, turnB_none (by subst e; simp [bxa]), n.2⟩ }
/-- back to the loop's base -/
theorem KeepV.back {h h' : Heap} (F : Fm w X h₀ env mu σ bx h) (k : KeepV (xs X) (turnB env bx h) h') : KeepV (xs X) h₀ h' := fun b o n e => by
  refine k b o n (turnB_of (F.keep b o n e) fun q => ?_)
  rcases List.mem_append.mp q with q | q
  · cases bx with
    | none => cases q
    | some y =>
      obtain ⟨x, a, p⟩ := y
      have : b = a := by simpa [bxa] using q
      subst this
      rw [(F.box _ _ _ rfl).2.2.1] at e; cases e
  · rw [(F.newO b q).1] at e; cases e
theorem Fm.back {h h' : Heap} {σ' bx'} (F : Fm w X h₀ env mu σ bx h) (F' : Fm w X (turnB env bx h) env mu σ' bx' h') (hb : bxa bx' = bxa bx) : Fm w X h₀ env mu σ' bx' h' :=
  { F' with
    keep := KeepV.back F F'.keep
    newO := F.newO
    box := fun x a p e => by
      obtain ⟨b, r, n⟩ := F'.box x a p e
      refine ⟨b, r, ?_, n.2⟩
      subst e
      cases bx with
      | none => cases hb
      | some y =>
        obtain ⟨x', a', p'⟩ := y
        have : a = a' := by simpa [bxa] using hb
        subst this
        exact (F.box _ _ _ rfl).2.2.1 }
theorem RetJ.back {h h' : Heap} {p f} (F : Fm w X h₀ env mu σ bx h) (r : RetJ w X (turnB env bx h) mu p f h') : RetJ w X h₀ mu p f h' :=
  let ⟨v, e, k, r⟩ := r; ⟨v, e, KeepV.back F k, r⟩

/-- a change at I alone, which is no one's -/
theorem Fm.at {h h' : Heap} {I : Addr} {mu'} (F : Fm w X h₀ env mu' σ bx h) (k : ∀ b o, b ≠ I → h.get? b = some o → h'.get? b = some o) (hI : I ∉ bxa bx ++ own env) (hT : I ∉ TT) (hB : h₀ I = none)
    (hm : ∀ a ∈ mu', a ≠ I) (hcon : ∀ o, h.get? I = some o → ¬ isCon o) (hncl : ∀ c v, h.IsCell c v → c ≠ I) : Fm w X h₀ env mu' σ bx h' := by
  have hown : ∀ a ∈ own env, a ≠ I := fun a ha q => hI (List.mem_append_right _ (q ▸ ha))
  have hL : env.locals ≠ I := hown _ (by simp [own])
  have k' : Heap.ExtBut I h h' := k
  have bind : ∀ x v, BindIs env h x v → BindIs env h' x v := fun x v B => by
    rcases B with ⟨a, l, m, n, e⟩ | ⟨a, c, hc', hT', e⟩
    · exact .inl ⟨a, l, m, n.extBut k' hL, e⟩
    · exact .inr ⟨a, c, hc', hT', let ⟨o, ho, r⟩ := e; ⟨o, k' _ _ (hncl _ _ ⟨o, ho, r⟩) ho, r⟩⟩
  have le : ∀ M a o, isCon o → hid M h a = some o → hid M h' a = some o := fun M a o c e => by
    obtain ⟨e, h1, h2⟩ := hid_some e
    exact hid_of (k a o (by rintro rfl; exact hcon _ e c) e) h1 h2
  exact { F with
    keep := fun b o n e => k b o (fun q => by subst q; rw [hB] at e; cases e) (F.keep b o n e)
    ns := let ⟨m, n⟩ := F.ns; ⟨m, n.extBut k' hL⟩
    cell := fun y hy hk => let ⟨v, o, ho, r⟩ := F.cell y hy hk; ⟨v, o, k _ _ (hncl _ _ ⟨o, ho, r⟩) ho, r⟩
    muOld := fun a ha => let ⟨t, o, e⟩ := F.muOld a ha; ⟨t, o, k _ _ (hm a ha) e⟩
    vars := fun x p e => let ⟨v, B, r⟩ := F.vars x p e; ⟨v, bind x v B, r.monoC (le _)⟩
    box := fun x a p e => let ⟨B, r, n⟩ := F.box x a p e; ⟨bind x _ B, r.monoC (le _), n⟩ }

theorem Ex.forr {x px iter body rest pos J p} {qs : List PV} (σs : Nat → List (Str × PV)) (bxs : Nat → Option (Str × Addr × PV))
    (hit : ∀ h, Ok w h → Fm w X h₀ env mu (σs 0) (bxs 0) h → It w X A env (full env mu (bxs 0)) h iter qs)
    (hst : StoreOk env x) (hbx : ∀ i y a q, bxs i = some (y, a, q) → x ≠ y) (hba : ∀ i, bxa (bxs i) = bxa (bxs 0))
    (hbody : ∀ i q B, qs[i]? = some q → Ex w A env (Fm w X B env mu ((x, q) :: σs i) (bxs i)) body (fun f h => (f = .next ∧ Fm w X B env mu (σs (i + 1)) (bxs (i + 1)) h) ∨ RetJ w X B mu p f h))
    (hJ : ∀ f h, RetJ w X h₀ mu p f h → J f h) (hr : Ex w A env (Fm w X h₀ env mu (σs qs.length) (bxs qs.length)) rest J)
    (hs : ∀ x, foldedSetIterable iter env x = pure x := by intro _; rfl) :
    Ex w A env (Fm w X h₀ env mu (σs 0) (bxs 0)) (.For (.Name x px) iter body [] pos :: rest) J := by
  refine Ex.cons (I' := Fm w X h₀ env mu (σs qs.length) (bxs qs.length)) (fun s o F => wpAny_For ?_ hs) hr
  refine wpAny_mono (hit _ o F s o (.refl _ _)) (fun xv s₁ ⟨n₁, o₁, h₁⟩ => ?_) fun _ _ f => f.elim
  refine wpAny_mono h₁ (fun it s₂ ⟨n₂, I, hI, hIn, fp, P, St, W, hst0, hfp, hcls, hitem⟩ => ?_) fun _ _ f => f.elim
  subst hI
  have F₁ := F.kp n₁.keep
  have o₂ := n₂.ok o₁
  have F₂ := F₁.kp (X := X) n₂.keep.nil
  have hIT : I ∉ TT := o₁.fresh hIn
  have hIk : I ∉ okAddrs := fun q => by obtain ⟨z, e⟩ := o₁.addr I q; rw [hIn] at e; cases e
  have hIf : I ∉ full env mu (bxs 0) := fun q => by obtain ⟨_, z, e⟩ := F₁.muOld' I q; rw [hIn] at e; cases e
  have hIm : ∀ a ∈ mu, a ≠ I := fun a ha q => hIf (by rw [← q]; exact List.mem_append_right _ ha)
  have hIB : h₀ I = none := by
    cases e : h₀ I with
    | none => rfl
    | some z => rw [F₁.keep I z (fun q => hIT (xs_TT X _ q)) e] at hIn; cases hIn
  have hfull : ∀ i, full env mu (bxs i) = full env mu (bxs 0) := fun i => by unfold full; rw [hba i]
  have hIo : ∀ i, I ∉ bxa (bxs i) ++ own env := fun i q => hIf (by rw [← hfull i]; exact List.mem_append_left _ q)
  have hfo : ∀ i, ∀ b ∈ fp, b ∉ TT ∧ b ∉ bxa (bxs i) ++ own env := fun i b hb => by
    rcases hfp b hb with rfl | ⟨t, m, _⟩
    · exact ⟨hIT, hIo i⟩
    · exact ⟨t, fun q => m (by rw [← hfull i]; exact List.mem_append_left _ q)⟩
  refine codeAny_forLoop_any (fun k s' => ∃ i, i ≤ qs.length ∧ k = qs.length + 1 - i ∧ s'.gens = s.gens ∧ s'.os = s.os ∧ Ok w s'.heap ∧ Fm w X h₀ env mu (σs i) (bxs i) s'.heap ∧ St i s'.heap ∧
    ∀ b o, b ∉ TT → b ∉ full env mu (bxs 0) → b ≠ I → s₂.heap.get? b = some o → s'.heap.get? b = some o) ?_ (qs.length + 1)
    ⟨0, Nat.zero_le _, rfl, n₂.gens.trans n₁.gens, n₂.os.trans n₁.os, o₂, F₂, hst0, fun _ _ _ _ _ e => e⟩
  rintro k s' ⟨i, hi, rfl, hg, hos, o', F', hst', hK⟩
  obtain ⟨oI, hoI, hnc, hcon0, hdc⟩ := hcls _ _ hst'
  have hcon : ¬ isCon oI := fun h => h.elim hcon0 fun ⟨vs, q, t, d, e⟩ => (hnc vs d).2 q t e
  have step : ∀ h', (∀ b o, b ∉ [I] → s'.heap.get? b = some o → h'.get? b = some o) → Fm w X h₀ env mu (σs i) (bxs i) h' ∧ Ok w h' := fun h' k => by
    have k' : ∀ b o, b ≠ I → s'.heap.get? b = some o → h'.get? b = some o := fun b o n e => k b o (by simpa using n) e
    exact ⟨F'.at k' (hIo i) hIT hIB hIm (fun o e => by rw [hoI] at e; cases e; exact hcon) (fun c v ⟨o, e, d⟩ q => by subst q; rw [hoI] at e; cases e; exact hdc _ d), o'.but k' hoI hnc hIk⟩
  by_cases hlt : i < qs.length
  · refine W.item i _ _ _ hlt hst' fun v h₃ tk₃ hP hst₃ hk₃ => ?_
    obtain ⟨q, hq, rq⟩ := hitem i v hP
    obtain ⟨F₃, o₃⟩ := step h₃ hk₃
    have rq' : Rep (hid (full env mu (bxs i)) h₃) q v := by
      rw [hfull i]
      refine rq.mono fun a o e => ?_
      obtain ⟨e, t, m⟩ := hid_some e
      simp only [List.mem_cons, not_or] at m
      exact hid_of (hk₃ a o (by simpa using m.1) (hK a o t m.2 m.1 e)) t m.2
    refine wpAny_of_eq (a := ()) rfl (PyProof.Rows.assign_Name (store_go (s := { s' with heap := h₃, toks := tk₃ }) F₃.turn o₃ hst (hbx i) rq' fun h₄ tk₄ F₄ o₄ => ?_))
    refine wpAny_mono (hbody i q _ hq _ o₄ F₄) (fun f s₅ ⟨g₅, os₅, o₅, r₅⟩ => ?_) fun _ _ f => f.elim
    rcases r₅ with ⟨rfl, F₅⟩ | ⟨v', rfl, r₅⟩
    · refine ⟨qs.length + 1 - (i + 1), by omega, i + 1, hlt, rfl, g₅.trans hg, os₅.trans hos, o₅, F₃.back F₅ ((hba (i + 1)).trans (hba i).symm), ?_, fun b o t m n e => ?_⟩
      · exact W.frame _ _ _ hst₃ fun b hb o e => F₅.keep b o (fun q => (hfo i b hb).1 (xs_TT X _ q)) (turnB_of e (hfo i b hb).2)
      · exact F₅.keep b o (fun q => t (xs_TT X _ q)) (turnB_of (hk₃ b o (by simpa using n) (hK b o t m n e)) fun q => m (by rw [← hfull i]; exact List.mem_append_left _ q))
    · exact ⟨g₅.trans hg, os₅.trans hos, o₅, hJ _ _ (RetJ.back F₃ ⟨v', rfl, r₅⟩)⟩
  · obtain rfl : i = qs.length := Nat.le_antisymm hi (Nat.not_lt.mp hlt)
    refine W.done _ _ _ hst' fun h₃ tk₃ hk₃ => ?_
    obtain ⟨F₃, o₃⟩ := step h₃ hk₃
    exact wpAny_execs_nil ⟨hg, hos, o₃, F₃⟩
end

section
open PySem PySem.Calls PySem.W PyProof.Rows
set_option maxRecDepth 100000
variable {w : World} {X : Bool} {A : Around} {env : Env} {mu : List Addr} {h₀ : View} {h₁ : Heap} {σ : List (Str × PV)} {bx : Option (Str × Addr × PV)}

/-- a comprehension's environment -/
noncomputable def cenvOf (scope : Scope) (cl : List (Str × Addr)) (C : Addr) (env : Env) : Env := compEnvC scope (cellsFrom (C + 1) scope.names cl) C env

structure CompAt (w : World) (env cenv : Env) (mu z : List Addr) (h₁ h : Heap) (x : Str) (q : PV) : Prop where
  ok : EnvOk cenv
  keep : Keep TT h₁ h
  new : ∀ a ∈ z, h₁.get? a = none
  tt : ∀ a ∈ z, a ∉ TT ∧ ∃ o, h.get? a = some o
  var : ∃ v, BindIs cenv h x v ∧ Rep (hid (z ++ mu) h) q v

/-- the names of σ are the same cells within -/
noncomputable def Sub (env cenv : Env) (σ : List (Str × PV)) : Prop := ∀ y ∈ σ.map (·.1), (env.kindOf y = some .cell ∨ env.kindOf y = some .free) ∧ (cenv.kindOf y = some .cell ∨ cenv.kindOf y = some .free) ∧ cenv.cells.lookup y = env.cells.lookup y
theorem CompAt.vars {cenv z h x q mu'} (c : CompAt w env cenv mu z h₁ h x q) (V : Vars env mu' σ h₁) (S : Sub env cenv σ) : Vars cenv (z ++ mu') σ h where
  ok := c.ok
  var y p e := by
    obtain ⟨v, B, r⟩ := V.var y p e
    obtain ⟨k1, k2, k3⟩ := S y (List.mem_map.mpr ⟨_, mem_of_lookup e, rfl⟩)
    refine ⟨v, ?_, r.mono (hid_new c.keep c.new)⟩
    rcases B with ⟨a, _⟩ | ⟨_, cc, hc, hT, hv⟩
    · rcases k1 with k1 | k1 <;> (rw [k1] at a; cases a)
    · exact .inr ⟨k2, cc, by rw [k3]; exact hc, hT, IsCell.keepT hv c.keep hT⟩
theorem CompAt.x {cenv z h x q} (c : CompAt w env cenv mu z h₁ h x q) : Vars cenv (z ++ mu) [(x, q)] h where
  ok := c.ok
  var y p e := by
    simp only [List.lookup] at e
    split at e
    · rename_i hy
      cases e
      rw [beq_iff_eq.mp hy]
      exact c.var
    · cases e
theorem Vars.join {σ' mu'} (V : Vars env mu σ h₁) (V' : Vars env mu' σ' h₁) (hm : ∀ a ∈ mu, a ∈ mu') : Vars env mu (σ ++ σ') h₁ where
  ok := V.ok
  var y p e := by
    cases e1 : σ.lookup y with
    | some p' =>
      have : (σ ++ σ').lookup y = some p' := by rw [List.lookup_append, e1]; rfl
      rw [this] at e; cases e
      exact V.var y _ e1
    | none =>
      rw [List.lookup_append, e1] at e
      obtain ⟨v, B, r⟩ := V'.var y p e
      exact ⟨v, B, r.mono (hid_sub hm)⟩
theorem CompAt.muOld {cenv z h x q} (c : CompAt w env cenv mu z h₁ h x q) (m : MuOld mu h₁) : MuOld (z ++ mu) h := fun a ha => by
  rcases List.mem_append.mp ha with ha | ha
  · exact c.tt a ha
  · exact m.kp c.keep a ha

/-- the tests of a clause -/
noncomputable def EvI (w : World) (A : Around) (env : Env) (h : Heap) : List Expr → Bool → Prop
  | [], r => r = true
  | [t], r => EvT w false A env h t r
  | _, _ => False
theorem EvI.go {env h} {ifs r} {s : Shared} {Q : Bool → Shared → Prop} {E} (H : EvI w A env h ifs r) (o : Ok w s.heap) (k : Keep TT h s.heap) (c : ∀ s', Nx [] s s' → Ok w s'.heap → Keep TT h s'.heap → Q r s') :
    wpAny (model pw w) A (forIn ifs true fun c r => if r = true then do let ok ← isTrue c env (eval c env); pure (ForInStep.yield ok) else pure (ForInStep.yield r)) Q E s := by
  match ifs, H with
  | [], H => have : r = true := H; subst this; exact wpAny_tests_nil (c _ (.refl _ _) o k)
  | [t], H => exact wpAny_tests_one (EvT.use (h := H) o k c)

theorem append_go {D : Addr} {ys : Array Value} {x : Value} {s : Shared} {Q : Value → Shared → Prop} {E} (hl : s.heap.PlainList D ys) (hsz : ys.size ≤ 16777216)
    (hQ : ∀ h', h'.PlainList D (ys.push x) → Heap.SameBut D s.heap h' → Q .none { s with heap := h' }) : wpAny (model pw w) A (PySem.call (.builtin "list.append") [.ref D, x]) Q E s := by
  obtain ⟨n, ho⟩ := id hl
  refine wpAny_call_entry slot_list_append hl.isList.typeIs entry_list_append ?_ (args_list_append _ _)
  show wpAny _ _ (updateSeq D (·.push x) >>= fun _ => ret .none) _ _ s
  refine wpAny_bind ?_
  refine wpAny_updateSeq ho rfl (wpAny_pure ⟨.none, rfl, hQ _ ⟨_, Heap.get?_update_self _ ho rfl⟩ (Heap.SameBut.update ..)⟩)

/-- the store of a comprehension's variable -/
theorem cstore {cenv : Env} {cx : Bool} {C : Addr} {x : Str} {v : Value} {h₃ : Heap} {s : Shared} {Q : Unit → Shared → Prop} {E} (hs : s.heap = h₃) (hkind : cenv.scope.kind = .function) (hL : cenv.locals = C) (hx : cenv.kindOf x = some (if cx then .cell else .local))
    (hlk : cx = true → cenv.cells.lookup x = some (C + 1)) (hC : C ∉ TT) (hC1 : C + 1 ∉ TT) (hn : ∃ m, h₃.Ns C m) (hcl : cx = true → ∃ u, h₃.IsCell (C + 1) u)
    (hQ : ∀ a h₄ tk oa, (a = C ∨ (cx = true ∧ a = C + 1)) → h₃.get? a = some oa → (∀ vs, oa.data ≠ .fields vs) → Heap.SameBut a h₃ h₄ → (∃ m, h₄.Ns C m) → (cx = true → ∃ u, h₄.IsCell (C + 1) u) → BindIs cenv h₄ x v → Q () { s with heap := h₄, toks := tk }) :
    wpAny (model pw w) A (storeName cenv x v) Q E s := by
  subst hs; subst hL
  obtain ⟨m, hm⟩ := hn
  obtain ⟨oL, es, ep, hL, hd, hr⟩ := id hm
  cases cx with
  | false =>
    refine wpAny_storeName_local hx hm (fun h' hn' hs' => ?_) (by rw [hkind]; rfl)
    exact hQ _ h' _ oL (.inl rfl) hL (fun vs e => by rw [hd] at e; cases e) hs' ⟨_, hn'⟩ (fun h => by cases h) (.inl ⟨hx, hC, _, hn', by simp⟩)
  | true =>
    obtain ⟨u, hu⟩ := hcl rfl
    obtain ⟨oc, hoc, hdc⟩ := id hu
    refine wpAny_storeName_cell hkind hx (hlk rfl) hu fun h' hc' hs' => ?_
    have hne : cenv.locals ≠ cenv.locals + 1 := Nat.ne_of_lt (Nat.lt_succ_self _)
    exact hQ _ h' _ oc (.inr ⟨rfl, rfl⟩) hoc (fun vs e => by rw [hdc] at e; cases e) hs' ⟨m, hm.sameBut hs' hne⟩ (fun _ => ⟨_, hc'⟩) (.inr ⟨.inl hx, _, hlk rfl, hC1, hc'⟩)

/-- the block of a list comprehension: the iterator stands at I -/
theorem comp_block {elt iter : Expr} {x : Str} {px : Pos} {ifs : List Expr} {scope : Scope} {cl : List (Str × Addr)} {pos : Pos} {E : Value → Shared → Prop} {qs : List PV} {s₁ s₂ : Shared} {I : Addr} (cx : Bool) (pB : PV → Bool) (f : PV → PV) {RR : Value → Addr → Result → Shared → Prop}
    (hcells : ∀ n, cellsFrom n scope.names cl = if cx then (x, n) :: cl else cl) (hpush : ∀ h, pushCells h scope.names = if cx then h.push { cls := .type "cell", data := .cell none } else h)
    (hkind : scope.kind = .function) (hx : ∀ C, (cenvOf scope cl C env).kindOf x = some (if cx then .cell else .local))
    (G : EnvOk env) (o₁ : Ok w s₁.heap) (n₂ : Nx [] s₁ s₂) (hI : s₁.heap.get? I = none) (S : Src w A mu qs I s₂.heap) (hsz : qs.length ≤ 16777216) (hmo : MuOld mu s₁.heap)
    (he : ∀ C z h q, q ∈ qs → Ok w h → CompAt w env (cenvOf scope cl C env) mu z s₁.heap h x q → EvI w A (cenvOf scope cl C env) h ifs (pB q) ∧ (pB q = true → Ev w false A (cenvOf scope cl C env) (z ++ mu) h elt (f q)))
    (hR : ∀ C D s', Nx [] s₁ s' → (∃ m, s'.heap.Ns C m) → s₁.heap.get? C = none → s₁.heap.get? D = none → C ≠ D → Rep (hid (C :: mu) s'.heap) (.list ((qs.filter pB).map f)) (.ref D) → RR (.ref D) C (.ok .next) s') :
    wpAny (model pw w) A (newList []) (fun acc s₃ => wpAny (model pw w) A (newFunctionEnv scope env.globals cl [] env.qual none .none (some env)) (fun cenv s₄ =>
      codeAny (model pw w) A (.compStart (.ListComp elt [⟨.Name x px, iter, ifs, 0⟩] scope pos) 0 (.ref I) acc { cenv with scope := relabel scope env }) (RR acc cenv.locals) s₄) E s₃) E s₂ := by
  obtain ⟨fp, P, St, W, hst0, hfp, hcls, hitem⟩ := S
  refine wpAny_newObj_type ?_
  generalize hD : s₂.heap.objs.size = D
  generalize hH3 : s₂.heap.push { cls := .type "list", dict := Option.none, data := .seq ([] : List Value).toArray } = H3
  have hC : H3.objs.size = D + 1 := by rw [← hH3, Heap.size_push, hD]
  simp only [newFunctionEnv, Option.isSome_some, if_true]
  refine wpAny_bind (wpAny_alloc ?_)
  refine wpAny_bind (wpAny_layCells _ (fun name kind cells => by cases hkc : kind == NameKind.cell <;> simp) _ _ _ _ ?_)
  refine wpAny_bind ?_
  rw [List.forIn_nil]
  refine wpAny_pure (wpAny_pure ?_)
  have hlk : cx = true → (cenvOf scope cl H3.objs.size env).cells.lookup x = some (H3.objs.size + 1) := by
    rintro rfl
    show List.lookup x (cellsFrom (H3.objs.size + 1) scope.names cl) = _
    rw [hcells]
    simp
  obtain ⟨oI₀, hoI₀, _⟩ := hcls _ _ hst0
  have hIlt : I < D := hD ▸ Heap.lt_size hoI₀
  have ar : ∀ (i d c : Nat), i < d → c = d + 1 → d ≠ i ∧ c ≠ i ∧ c + 1 ≠ i ∧ d ≠ c ∧ d ≠ c + 1 ∧ d ≤ c ∧ d ≤ c + 1 := by omega
  have hDn : s₁.heap.get? D = none := n₂.keep.none (hD ▸ get_size _) (by simp)
  have fresh : ∀ a, D ≤ a → s₁.heap.get? a = none := fun a ha => by
    cases e : s₁.heap.get? a with
    | none => rfl
    | some o' => exact absurd (Heap.lt_size (n₂.keep a o' (by simp) e)) (Nat.not_lt.mpr (hD ▸ ha))
  generalize hCe : H3.objs.size = C at hC hlk
  obtain ⟨aDI, aCI, aC1I, aDC, aDC1, lC, lC1⟩ := ar I D C hIlt hC
  have hCn := fresh C lC
  have hC1n := fresh (C + 1) lC1
  -- all that stands when the loop begins
  generalize hH5 : pushCells (H3.push { cls := .type "dict", data := .dict #[] }) scope.names = H5
  have k35 : ∀ b o, H3.get? b = some o → H5.get? b = some o := fun b o e => by
    rw [← hH5, hpush]
    split
    · exact Heap.get?_push_of_some _ (Heap.get?_push_of_some _ e)
    · exact Heap.get?_push_of_some _ e
  have k25 : ∀ b o, s₂.heap.get? b = some o → H5.get? b = some o := fun b o e => k35 b o (hH3 ▸ Heap.get?_push_of_some _ e)
  have hD5 : H5.PlainList D #[] := ⟨0, k35 _ _ (by rw [← hH3, ← hD]; exact Heap.get?_push_size _ rfl)⟩
  have hC5 : H5.Ns C (fun _ => none) := by
    have := Heap.Ns.new H3 (.type "dict")
    rw [hCe] at this
    refine this.keeps fun b o e => ?_
    rw [← hH5, hpush]
    split
    · exact Heap.get?_push_of_some _ e
    · exact e
  have hcl5 : cx = true → ∃ u, H5.IsCell (C + 1) u := by
    rintro rfl
    refine ⟨none, { cls := .type "cell", data := .cell none }, ?_, rfl⟩
    rw [← hH5, hpush, if_pos rfl]
    have : C + 1 = (H3.push { cls := .type "dict", data := .dict #[] }).objs.size := by rw [Heap.size_push, hCe]
    rw [this]
    exact Heap.get?_push_size _ rfl
  have o₂ : Ok w s₂.heap := n₂.ok o₁
  have o₅ : Ok w H5 := o₂.keeps (Keep.of k25)
  generalize hz : ([D, C, I] ++ (if cx then [C + 1] else []) : List Addr) = z
  have zD : D ∈ z := by rw [← hz]; simp
  have zC : C ∈ z := by rw [← hz]; simp
  have zI : I ∈ z := by rw [← hz]; simp
  have zC1 : cx = true → C + 1 ∈ z := by rintro rfl; rw [← hz]; simp
  have zcase : ∀ a ∈ z, a = D ∨ a = C ∨ a = I ∨ (cx = true ∧ a = C + 1) := fun a ha => by
    rw [← hz] at ha
    cases cx <;> simp at ha <;> rcases ha with rfl | rfl | rfl | rfl <;> simp
  have znew : ∀ a ∈ z, s₁.heap.get? a = none := fun a ha => by
    rcases zcase a ha with rfl | rfl | rfl | ⟨_, rfl⟩ <;> assumption
  have ztt : ∀ a ∈ z, a ∉ TT := fun a ha => o₁.fresh (znew a ha)
  have zok : ∀ a ∈ z, a ∉ okAddrs := fun a ha q => by obtain ⟨y, e⟩ := o₁.addr a q; rw [znew a ha] at e; cases e
  have zmu : ∀ a ∈ z, a ∉ mu := fun a ha q => by obtain ⟨_, y, e⟩ := hmo a q; rw [znew a ha] at e; cases e
  have below : ∀ b o, s₂.heap.get? b = some o → b ≠ I → b ∉ z := fun b o e n q => by
    have := Heap.lt_size e
    rw [hD] at this
    rcases zcase b q with e' | e' | e' | ⟨_, e'⟩
    · rw [e'] at this; exact absurd this (Nat.lt_irrefl _)
    · rw [e'] at this; exact absurd this (Nat.not_lt.mpr lC)
    · exact n e'
    · rw [e'] at this; exact absurd this (Nat.not_lt.mpr lC1)
  have hfpz : ∀ b ∈ fp, b = D ∨ b = C ∨ b = C + 1 → False := fun b hb q => by
    rcases hfp b hb with e' | ⟨_, _, o, e⟩
    · rw [e'] at q; rcases q with e | e | e
      · exact aDI e.symm
      · exact aCI e.symm
      · exact aC1I e.symm
    · have := Heap.lt_size e
      rw [hD] at this
      rcases q with e' | e' | e' <;> rw [e'] at this
      · exact absurd this (Nat.lt_irrefl _)
      · exact absurd this (Nat.not_lt.mpr lC)
      · exact absurd this (Nat.not_lt.mpr lC1)
  have hkc : (cenvOf scope cl C env).scope.kind = .function := hkind
  have loop : codeAny (model pw w) A (.compLoop (.ListComp elt [⟨.Name x px, iter, ifs, 0⟩] scope pos) 0 (.ref I) (.ref D) (cenvOf scope cl C env)) (RR (.ref D) C) { s₂ with heap := H5 } := by
    refine codeAny_compLoop_tests (fun k s' => ∃ i ys, i ≤ qs.length ∧ k = qs.length + 1 - i ∧ s'.gens = s₁.gens ∧ s'.os = s₁.os ∧ Ok w s'.heap ∧ St i s'.heap ∧ s'.heap.PlainList D ys ∧ ys.size ≤ i ∧
      RepL (hid (z ++ mu) s'.heap) (((qs.take i).filter pB).map f) ys.toList ∧ (∃ m, s'.heap.Ns C m) ∧ (cx = true → ∃ u, s'.heap.IsCell (C + 1) u) ∧
      ∀ b o, b ∉ z → s₂.heap.get? b = some o → s'.heap.get? b = some o) ?_ (qs.length + 1)
      ⟨0, #[], Nat.zero_le _, rfl, n₂.gens, n₂.os, o₅, W.frame _ _ _ hst0 fun b _ o e => k25 b o e, hD5, Nat.le_refl _, .nil, ⟨_, hC5⟩, hcl5, fun b o _ e => k25 b o e⟩
    rintro k s' ⟨i, ys, hi, rfl, hg, hos, o', hst', hpl, hys, hrl, hns, hcl, hK⟩
    obtain ⟨oI, hoI, hnc, _⟩ := hcls _ _ hst'
    by_cases hlt : i < qs.length
    · refine W.item i _ _ _ hlt hst' fun v h₃ tk₃ hP hst₃ hk₃ => ?_
      have hk₃' : ∀ b o, b ≠ I → s'.heap.get? b = some o → h₃.get? b = some o := fun b o n e => hk₃ b o (by simpa using n) e
      obtain ⟨q, hq, rq⟩ := hitem i v hP
      have o₃ : Ok w h₃ := o'.but hk₃' hoI hnc (zok I zI)
      have hne : ∀ b, b = D ∨ b = C ∨ b = C + 1 → b ≠ I := fun b q => by rcases q with e | e | e <;> (rw [e]; assumption)
      have hns₃ : ∃ m, h₃.Ns C m := let ⟨m, n⟩ := hns; ⟨m, n.extBut (b := I) hk₃' (hne C (by simp))⟩
      have hcl₃ : cx = true → ∃ u, h₃.IsCell (C + 1) u := fun h => let ⟨u, o, e, r⟩ := hcl h; ⟨u, o, hk₃' _ _ (hne _ (by simp)) e, r⟩
      refine PyProof.Rows.assign_Name (cstore (s := { s' with heap := h₃, toks := tk₃ }) rfl hkc rfl (hx C) hlk (ztt C zC) (o₁.fresh hC1n) hns₃ hcl₃ fun a h₄ tk₄ oa ha hoa hdf hsb hns₄ hcl₄ hB => ?_)
      have haz : a ∈ z := by
        rcases ha with e | ⟨h, e⟩
        · rw [e]; exact zC
        · rw [e]; exact zC1 h
      have haD : D ≠ a := by rcases ha with e | ⟨h, e⟩ <;> (rw [e]; assumption)
      have haf : ∀ b ∈ fp, b ≠ a := fun b hb e => hfpz b hb (by rw [e]; rcases ha with e' | ⟨_, e'⟩ <;> rw [e']; exact .inr (.inl rfl); exact .inr (.inr rfl))
      have o₄ : Ok w h₄ := o₃.but (fun b o n e => hsb.extBut b o n e) hoa (.nf hdf) (zok a haz)
      have hst₄ : St (i + 1) h₄ := W.frame _ _ _ hst₃ fun b hb o e => hsb.extBut b o (haf b hb) e
      have k24 : ∀ b o, b ∉ z → s₂.heap.get? b = some o → h₄.get? b = some o := fun b o n e => hsb.extBut b o (fun q => n (q ▸ haz)) (hk₃' b o (fun q => n (q ▸ zI)) (hK b o n e))
      have hpl₄ : h₄.PlainList D ys := let ⟨n, e⟩ := hpl; ⟨n, hsb.extBut _ _ haD (hk₃' _ _ (hne D (by simp)) e)⟩
      have ex₄ : ∀ b ∈ z, ∃ o, h₄.get? b = some o := fun b hb => by
        rcases zcase b hb with rfl | rfl | rfl | ⟨h, rfl⟩
        · obtain ⟨n, e⟩ := hpl₄; exact ⟨_, e⟩
        · obtain ⟨m, o, _, _, e, _⟩ := hns₄; exact ⟨_, e⟩
        · obtain ⟨o, e, _⟩ := hcls _ _ hst₄; exact ⟨_, e⟩
        · obtain ⟨u, o, e, _⟩ := hcl₄ h; exact ⟨_, e⟩
      have k14 : Keep [] s₁.heap h₄ := fun b o _ e => by
        have e2 := n₂.keep b o (by simp) e
        exact k24 b o (fun q => by rw [znew b q] at e; cases e) e2
      have le24 : View.le (hid (I :: mu) s₂.heap) (hid (z ++ mu) h₄) := fun b o e => by
        obtain ⟨e, t, m⟩ := hid_some e
        simp only [List.mem_cons, not_or] at m
        have := below b o e m.1
        exact hid_of (k24 b o this e) t (by simp [this, m.2])
      have hc : CompAt w env (cenvOf scope cl C env) mu z s₁.heap h₄ x q := ⟨⟨hkc, G.glob, G.bi⟩, k14.nil, znew, fun b hb => ⟨ztt b hb, ex₄ b hb⟩, v, hB, rq.mono le24⟩
      have hrl₄ : RepL (hid (z ++ mu) h₄) (((qs.take i).filter pB).map f) ys.toList := hrl.mono (hid_le fun b o _ m e => by
        have : b ∉ z := fun q => m (List.mem_append_left _ q)
        exact hsb.extBut b o (fun q => this (q ▸ haz)) (hk₃' b o (fun q => this (q ▸ zI)) e))
      obtain ⟨hI', hE'⟩ := he C z h₄ q (List.mem_of_getElem? hq) o₄ hc
      refine hI'.go (s := { s' with heap := h₄, toks := tk₄ }) o₄ (.refl _ _) fun s₅ n₅ o₅ k₅ => ?_
      have k5 : ∀ b o, h₄.get? b = some o → s₅.heap.get? b = some o := n₅.keep.all
      have htk : (qs.take (i + 1)).filter pB = (qs.take i).filter pB ++ (if pB q then [q] else []) := take_succ_filter pB _ i q hq
      by_cases hp : pB q = true
      · rw [if_pos hp]
        refine (hE' hp).use o₅ k₅ fun u s₆ n₆ o₆ k₆ r₆ => ?_
        have k6 : ∀ b o, h₄.get? b = some o → s₆.heap.get? b = some o := fun b o e => n₆.keep b o (by simp [xs]) (k5 b o e)
        have hpl₆ : s₆.heap.PlainList D ys := let ⟨n, e⟩ := hpl₄; ⟨n, k6 _ _ e⟩
        refine append_go hpl₆ (by omega) fun h₇ hpl₇ hs₇ => ?_
        obtain ⟨nD, eD⟩ := hpl₆
        have le7 : View.le (hid (z ++ mu) s₆.heap) (hid (z ++ mu) h₇) := hid_le fun b o _ m e => hs₇.extBut b o (fun q => m (List.mem_append_left _ (q ▸ zD))) e
        refine ⟨qs.length + 1 - (i + 1), by omega, i + 1, ys.push u, hlt, rfl, n₆.gens.trans (n₅.gens.trans hg), n₆.os.trans (n₅.os.trans hos), o₆.but (fun b o n e => hs₇.extBut b o n e) eD (.nf fun vs e => by cases e) (zok D zD),
          W.frame _ _ _ hst₄ fun b hb o e => hs₇.extBut b o (fun q => hfpz b hb (.inl q)) (k6 b o e), hpl₇, by rw [Array.size_push]; omega, ?_, ?_, ?_, fun b o n e => hs₇.extBut b o (fun q => n (q ▸ zD)) (k6 b o (k24 b o n e))⟩
        · rw [htk, if_pos hp, List.map_append, Array.toList_push]
          exact ((hrl₄.mono (hid_keep (Keep.of k6))).mono le7).append (.cons (r₆.mono le7) .nil)
        · obtain ⟨m, n⟩ := hns₄
          exact ⟨m, (n.keeps k6).sameBut hs₇ (Ne.symm aDC)⟩
        · intro h
          obtain ⟨u', o, e, r⟩ := hcl₄ h
          exact ⟨u', o, hs₇.extBut _ _ (Ne.symm aDC1) (k6 _ _ e), r⟩
      · rw [if_neg hp]
        refine ⟨qs.length + 1 - (i + 1), by omega, i + 1, ys, hlt, rfl, n₅.gens.trans hg, n₅.os.trans hos, o₅, W.frame _ _ _ hst₄ fun b hb o e => k5 b o e, let ⟨n, e⟩ := hpl₄; ⟨n, k5 _ _ e⟩, by omega, ?_, ?_, ?_,
          fun b o n e => k5 b o (k24 b o n e)⟩
        · rw [htk, if_neg hp, List.append_nil]
          exact hrl₄.mono (hid_keep (Keep.of k5))
        · obtain ⟨m, n⟩ := hns₄; exact ⟨m, n.keeps k5⟩
        · intro h
          obtain ⟨u', o, e, r⟩ := hcl₄ h
          exact ⟨u', o, k5 _ _ e, r⟩
    · obtain rfl : i = qs.length := Nat.le_antisymm hi (Nat.not_lt.mp hlt)
      refine W.done _ _ _ hst' fun h₃ tk₃ hk₃ => ?_
      have hk₃' : ∀ b o, b ≠ I → s'.heap.get? b = some o → h₃.get? b = some o := fun b o n e => hk₃ b o (by simpa using n) e
      have hne : ∀ b, b = D ∨ b = C ∨ b = C + 1 → b ≠ I := fun b q => by rcases q with e | e | e <;> (rw [e]; assumption)
      refine hR C D _ ⟨fun b o _ e => ?_, hg, hos⟩ ?_ hCn hDn (Ne.symm aDC) ?_
      · have nz : b ∉ z := fun q => by rw [znew b q] at e; cases e
        exact hk₃' b o (fun q => nz (q ▸ zI)) (hK b o nz (n₂.keep b o (by simp) e))
      · obtain ⟨m, n⟩ := hns
        exact ⟨m, n.extBut (b := I) hk₃' (hne C (by simp))⟩
      · obtain ⟨nD, eD⟩ := hpl
        refine .list (vs := ys.toList) (n := nD) (hid_of ?_ (ztt D zD) ?_) ?_
        · rw [Array.toArray_toList]; exact hk₃' _ _ (hne D (by simp)) eD
        · simp only [List.mem_cons, not_or]; exact ⟨aDC, zmu D zD⟩
        · rw [List.take_length] at hrl
          refine hrl.mono fun b o e => ?_
          obtain ⟨e, t, m⟩ := hid_some e
          simp only [List.mem_append, not_or] at m
          exact hid_of (hk₃' b o (fun q => m.1 (q ▸ zI)) e) t (by simp only [List.mem_cons, not_or]; exact ⟨fun q => m.1 (q ▸ zC), m.2⟩)
  have e5 : (H3.push { cls := .type "dict", data := .dict #[] }).objs.size = C + 1 := by rw [Heap.size_push, hCe]
  dsimp only
  rw [e5]
  exact codeAny_compStart_list loop (W.self 0 _ _ _ (W.frame _ _ _ hst0 fun b _ o e => k25 b o e) loop)
end

section
open PySem PySem.Calls PySem.W PyProof.Rows
set_option maxRecDepth 100000
variable {w : World} {X : Bool} {A : Around} {env : Env} {mu : List Addr} {h₀ : View} {h₁ : Heap} {σ : List (Str × PV)} {bx : Option (Str × Addr × PV)}

theorem hid_unC {h h' : Heap} {C : Addr} {mu : List Addr} (hs : Heap.SameBut C h h') : View.le (hid (C :: mu) h) (hid mu h') := fun a o e => by
  obtain ⟨e, t, m⟩ := hid_some e
  simp only [List.mem_cons, not_or] at m
  exact hid_of (hs.extBut a o m.1 e) t m.2
theorem mem_full {a C : Addr} {env : Env} {mu : List Addr} {bx : Option (Str × Addr × PV)} : a ∈ full env (C :: mu) bx ↔ a = C ∨ a ∈ full env mu bx := by
  simp only [full, List.mem_append, List.mem_cons]
  constructor
  · rintro ((h | h) | h | h) <;> simp [h]
  · rintro (h | (h | h) | h) <;> simp [h]
theorem mem_own {a C : Addr} {env : Env} {mu : List Addr} : a ∈ own env ++ (C :: mu) ↔ a = C ∨ a ∈ own env ++ mu := by
  simp only [List.mem_append, List.mem_cons]
  constructor
  · rintro (h | h | h) <;> simp [h]
  · rintro (h | h | h) <;> simp [h]
/-- a new address is hidden -/
theorem Fm.hide {h h' : Heap} {C : Addr} (F : Fm w X h₀ env mu σ bx h) (k : Keep (xs X) h h') (hn : h.get? C = none) (he : ∃ o, h'.get? C = some o) (hT : C ∉ TT) : Fm w X h₀ env (C :: mu) σ bx h' := by
  have F' := F.kp k
  have kT := k.toTT (xs_TT X)
  exact { F' with
    muOld := fun a ha => by
      rcases List.mem_cons.mp ha with rfl | ha
      · exact ⟨hT, he⟩
      · exact F'.muOld a ha
    vars := fun x p e => let ⟨v, B, r⟩ := F.vars x p e; ⟨v, B.keep kT, r.mono fun a o e => by
      obtain ⟨e, t, m⟩ := hid_some e
      exact hid_of (kT a o t e) t fun q => by
        rcases mem_full.mp q with rfl | q
        · rw [hn] at e; cases e
        · exact m q⟩
    box := fun x a p e => let ⟨B, r, n⟩ := F.box x a p e; ⟨B.keep kT, r.mono fun a o e => by
      obtain ⟨e, t, m⟩ := hid_some e
      exact hid_of (kT a o t e) t fun q => by
        rcases mem_own.mp q with rfl | q
        · rw [hn] at e; cases e
        · exact m q, n⟩ }
theorem Fm.unhide {h h' : Heap} {C : Addr} (F : Fm w X h₀ env (C :: mu) σ bx h) (hs : Heap.SameBut C h h') (hC : C ∉ bxa bx ++ own env) (hB : h₀ C = none) (hm : C ∉ mu) (hncl : ∀ c v, h.IsCell c v → c ≠ C) : Fm w X h₀ env mu σ bx h' := by
  have hown : ∀ a ∈ own env, a ≠ C := fun a ha q => hC (List.mem_append_right _ (q ▸ ha))
  have hL : env.locals ≠ C := hown _ (by simp [own])
  have k' : Heap.ExtBut C h h' := hs.extBut
  have bind : ∀ x v, BindIs env h x v → BindIs env h' x v := fun x v B => by
    rcases B with ⟨a, l, m, n, e⟩ | ⟨a, c, hc', hT', e⟩
    · exact .inl ⟨a, l, m, n.extBut k' hL, e⟩
    · exact .inr ⟨a, c, hc', hT', let ⟨o, ho, r⟩ := e; ⟨o, k' _ _ (hncl _ _ ⟨o, ho, r⟩) ho, r⟩⟩
  exact { F with
    keep := fun b o n e => k' b o (fun q => by subst q; rw [hB] at e; cases e) (F.keep b o n e)
    ns := let ⟨m, n⟩ := F.ns; ⟨m, n.extBut k' hL⟩
    cell := fun y hy hk => let ⟨v, o, ho, r⟩ := F.cell y hy hk; ⟨v, o, k' _ _ (hncl _ _ ⟨o, ho, r⟩) ho, r⟩
    muOld := fun a ha => let ⟨t, o, e⟩ := F.muOld a (List.mem_cons_of_mem _ ha); ⟨t, o, k' _ _ (fun q => hm (q ▸ ha)) e⟩
    vars := fun x p e => let ⟨v, B, r⟩ := F.vars x p e; ⟨v, bind x v B, r.mono fun a o e => by
      obtain ⟨e, t, m⟩ := hid_some e
      rw [mem_full, not_or] at m
      exact hid_of (k' a o m.1 e) t m.2⟩
    box := fun x a p e => let ⟨B, r, n⟩ := F.box x a p e; ⟨bind x _ B, r.mono fun a o e => by
      obtain ⟨e, t, m⟩ := hid_some e
      rw [mem_own, not_or] at m
      exact hid_of (k' a o m.1 e) t m.2, n⟩ }
theorem CompAt.base {cenv z h x q} {h₁' : Heap} (c : CompAt w env cenv mu z h₁' h x q) (k : Keep TT h₁ h₁') : CompAt w env cenv mu z h₁ h x q where
  ok := c.ok
  keep := k.trans c.keep
  new a ha := k.none (c.new a ha) (c.tt a ha).1
  tt := c.tt
  var := c.var

/-- what a comprehension's scope must be, all seen by rfl -/
structure CS (env : Env) (scope : Scope) (cl : List (Str × Addr)) (x : Str) (cx : Bool) : Prop where
  clos : closureFor scope env = pure cl
  cells : ∀ n, cellsFrom n scope.names cl = if cx then (x, n) :: cl else cl
  push : ∀ h, pushCells h scope.names = if cx then h.push { cls := .type "cell", data := .cell none } else h
  kind : scope.kind = .function
  names : ∀ y ∈ scope.names, y.2 = .local → scope.names.lookup y.1 = some .local
  var : ∀ C, (cenvOf scope cl C env).kindOf x = some (if cx then .cell else .local)

theorem Ev.lcomp {elt iter : Expr} {x : Str} {px : Pos} {ifs : List Expr} {scope : Scope} {cl : List (Str × Addr)} {pos : Pos} {qs : List PV} {cx : Bool} (pB : PV → Bool) (f : PV → PV) (cs : CS env scope cl x cx)
    (G : EnvOk env) (hi : It w X A env mu h₁ iter qs) (hsz : qs.length ≤ 16777216) (hm : MuOld mu h₁)
    (he : ∀ C z h q, q ∈ qs → Ok w h → CompAt w env (cenvOf scope cl C env) mu z h₁ h x q → EvI w A (cenvOf scope cl C env) h ifs (pB q) ∧ (pB q = true → Ev w false A (cenvOf scope cl C env) (z ++ mu) h elt (f q)))
    (hs : ∀ x, foldedSetIterable iter env x = pure x := by intro _; rfl) : Ev w X A env mu h₁ (.ListComp elt [⟨.Name x px, iter, ifs, 0⟩] scope pos) (.list ((qs.filter pB).map f)) := fun s o k => by
  rw [eval_ListComp]
  refine wpAny_comprehension_free (use := none) rfl hs cs.clos cs.kind cs.names ?_
  refine wpAny_mono (hi s o k) (fun xv s₁ ⟨n₁, o₁, h₂⟩ => ?_) fun _ _ f => f.elim
  refine wpAny_mono h₂ (fun it s₂ ⟨n₂, I, hI, hIn, S⟩ => ?_) fun _ _ f => f.elim
  subst hI
  have k₁ := k.trans (n₁.keep.toTT (xs_TT X))
  refine comp_block (RR := fun acc C => compPost (model pw w) A NoE none _ acc C) cx pB f cs.cells cs.push cs.kind cs.var G o₁ n₂ hIn S hsz (hm.kp k₁) (fun C z h q hq ho hc => he C z h q hq ho (hc.base k₁)) ?_
  intro C D s' n' hns hC hD hCD r
  obtain ⟨m, hns⟩ := hns
  refine ⟨m, hns, fun h' hs' => ?_⟩
  have hk : Keep [] s₁.heap h' := fun b ob _ e => hs'.extBut b ob (by rintro rfl; rw [hC] at e; cases e) (n'.keep b ob (by simp) e)
  refine ⟨n₁.trans ⟨hk.nil, n'.gens, n'.os⟩, o₁.keeps hk, r.mono (hid_unC hs')⟩

/-- y = [ .. ] -/
theorem Ex.lcomp {elt iter : Expr} {x y : Str} {px py : Pos} {ifs : List Expr} {scope : Scope} {cl : List (Str × Addr)} {pos spos : Pos} {qs : List PV} {cx : Bool} {rest J} (pB : PV → Bool) (f : PV → PV)
    (hi : ∀ h, Ok w h → Fm w X h₀ env mu σ bx h → It w X A env (full env mu bx) h iter qs) (hsz : qs.length ≤ 16777216)
    (he : ∀ h₁, Ok w h₁ → Fm w X h₀ env mu σ bx h₁ → CS env scope cl x cx ∧ ∀ C z h q, q ∈ qs → Ok w h → CompAt w env (cenvOf scope cl C env) (full env mu bx) z h₁ h x q →
      EvI w A (cenvOf scope cl C env) h ifs (pB q) ∧ (pB q = true → Ev w false A (cenvOf scope cl C env) (z ++ full env mu bx) h elt (f q)))
    (hsw : swapsWith (.ListComp elt [⟨.Name x px, iter, ifs, 0⟩] scope pos) (some (.Name y py)) spos.line env = pure true) (hst : StoreOk env y) (hbx : ∀ z a q, bx = some (z, a, q) → y ≠ z)
    (hr : Ex w A env (Fm w X h₀ env mu ((y, .list ((qs.filter pB).map f)) :: σ) bx) rest J)
    (hs : ∀ x, foldedSetIterable iter env x = pure x := by intro _; rfl) :
    Ex w A env (Fm w X h₀ env mu σ bx) (.Assign [.Name y py] (.ListComp elt [⟨.Name x px, iter, ifs, 0⟩] scope pos) spos :: rest) J := by
  refine Ex.cons (Ex1.nextOnly fun s o F => ?_) hr
  obtain ⟨cs, he⟩ := he _ o F
  have G := F.ok
  rw [exec_Assign_Name_used _ _ _ _ hsw]
  refine wpAny_bind (wpAny_standAt (wpAny_bind ?_))
  show wpAny _ A (do let _ ← comprehension (.ListComp elt [⟨.Name x px, iter, ifs, 0⟩] scope pos) scope env _ (newList []) false (eval iter env) (some (PySem.assign (.Name y py) env))) _ _ s
  refine wpAny_bind (wpAny_mono (wpAny_comprehension_free (use := some (PySem.assign (.Name y py) env)) (E := NoE) (Q := fun _ s' => s'.gens = s.gens ∧ s'.os = s.os ∧ Ok w s'.heap ∧ Fm w X h₀ env mu ((y, .list ((qs.filter pB).map f)) :: σ) bx s'.heap) rfl hs cs.clos cs.kind cs.names ?_)
    (fun _ s' ⟨a, b, c, d⟩ => wpAny_pure (wpAny_pure ⟨a, b, c, rfl, d⟩)) fun _ _ f => f.elim)
  refine wpAny_mono (hi _ o F s o (.refl _ _)) (fun xv s₁ ⟨n₁, o₁, h₂⟩ => ?_) fun _ _ f => f.elim
  refine wpAny_mono h₂ (fun it s₂ ⟨n₂, I, hI, hIn, S⟩ => ?_) fun _ _ f => f.elim
  subst hI
  have k₁ : Keep TT s.heap s₁.heap := n₁.keep.toTT (xs_TT X)
  have F₁ := F.kp n₁.keep
  refine comp_block (RR := fun acc C => compPost (model pw w) A NoE (some (PySem.assign (.Name y py) env)) _ acc C) cx pB f cs.cells cs.push cs.kind cs.var G o₁ n₂ hIn S hsz F₁.muOld' (fun C z h q hq ho hc => he C z h q hq ho (hc.base k₁)) ?_
  intro C D s' n' hns hC hD hCD r
  obtain ⟨m, hns⟩ := hns
  have hCT : C ∉ TT := o₁.fresh hC
  have hCf : C ∉ full env mu bx := fun q => by obtain ⟨_, z, e⟩ := F₁.muOld' C q; rw [hC] at e; cases e
  have hCo : C ∉ bxa bx ++ own env := fun q => hCf (List.mem_append_left _ q)
  have hCB : h₀ C = none := by
    cases e : h₀ C with
    | none => rfl
    | some z => rw [F₁.keep C z (fun q => hCT (xs_TT X _ q)) e] at hC; cases hC
  have hCk : C ∉ okAddrs := fun q => by obtain ⟨z, e⟩ := o₁.addr C q; rw [hC] at e; cases e
  have o' : Ok w s'.heap := n'.ok o₁
  obtain ⟨oC, esC, epC, heC, hdC, _⟩ := id hns
  have F' : Fm w X h₀ env (C :: mu) σ bx s'.heap := F₁.hide n'.keep.nil hC ⟨_, heC⟩ hCT
  refine PyProof.Rows.assign_Name (store_go (s := s') F'.turn o' hst hbx (r.mono (hid_sub fun a ha => ?_)) fun h₅ tk F₅ o₅ => ?_)
  · rcases mem_full.mp ha with rfl | ha
    · exact List.mem_cons_self
    · exact List.mem_cons_of_mem _ ha
  · have kC : h₅.get? C = some oC := F₅.keep C oC (fun q => hCT (xs_TT X _ q)) (turnB_of heC hCo)
    have hnsC : h₅.Ns C m := by
      obtain ⟨o1, es1, ep1, e1, r1⟩ := hns
      rw [heC] at e1; cases e1
      exact ⟨oC, es1, ep1, kC, r1⟩
    refine ⟨m, hnsC, fun h₆ hs' => ?_⟩
    have Fb := F'.back F₅ rfl
    exact ⟨n'.gens.trans n₁.gens, n'.os.trans n₁.os, o₅.but (fun b ob n e => hs'.extBut b ob n e) kC (.nf fun vs e => by rw [hdC] at e; cases e) hCk, Fb.unhide hs' hCo hCB (fun q => hCf (List.mem_append_right _ q)) fun c v ⟨o, e, d⟩ q => by subst q; rw [kC] at e; cases e; rw [hdC] at d; cases d⟩
end

section
open PySem PySem.Calls PySem.W PyProof.Rows
set_option maxRecDepth 100000
variable {w : World} {X : Bool} {A : Around} {env : Env} {mu : List Addr} {h₀ : View} {h₁ : Heap} {σ : List (Str × PV)} {bx : Option (Str × Addr × PV)}
section
variable {s : Shared} {E : Value → Shared → Prop}
open PySem.SeqAt

theorem eqBool_bytes {a c : Array UInt8} {t u : Tok} : EqAt A s (.bytes a t) (.bytes c u) (a.toList == c.toList) := fun prog w E Q h => by
  unfold eqBool
  show wpAny _ _ (if (Value.bytes a t == Value.bytes c u) = true then _ else _) Q E s
  by_cases hab : (Value.bytes a t == Value.bytes c u) = true
  · rw [if_pos hab]
    have e : a = c := by have := eq_of_beq hab; injection this
    subst e
    exact wpAny_bind (wpAny_rule (wpAny_pure (by simpa using h)))
  · rw [if_neg hab]
    exact wpAny_bind (eq_bytes (Q := fun v s => wpAny _ _ (truthOfDropped v) Q E s) (wpAny_truthy_bool h))

noncomputable def eq0 : PV → PV → Bool
  | .int a, .int b => a == b | .bytes a, .bytes b => a.toList == b.toList | _, _ => false
noncomputable def ok0 : PV → PV → Prop
  | .int _, .int _ => True | .bytes _, .bytes _ => True | _, _ => False
noncomputable def eqL (e : PV → PV → Bool) (l m : List PV) : Bool := l.length == m.length && (l.zip m).all fun x => e x.1 x.2
noncomputable def eq1 : PV → PV → Bool
  | .tup l, .tup m => eqL eq0 l m | a, b => eq0 a b
noncomputable def ok1 : PV → PV → Prop
  | .tup l, .tup m => ∀ p ∈ l, ∀ q ∈ m, ok0 p q | a, b => ok0 a b
theorem ok0_cases {p q : PV} (o : ok0 p q) : (∃ a c, p = .int a ∧ q = .int c) ∨ ∃ a c, p = .bytes a ∧ q = .bytes c := by
  cases p with
  | int a =>
    cases q with
    | int c => exact .inl ⟨a, c, rfl, rfl⟩
    | _ => exact o.elim
  | bytes a =>
    cases q with
    | bytes c => exact .inr ⟨a, c, rfl, rfl⟩
    | _ => exact o.elim
  | _ => exact o.elim
theorem eq0_at {G : View} {p q v u} (o : ok0 p q) (r1 : Rep G p v) (r2 : Rep G q u) : EqAt A s v u (eq0 p q) := by
  rcases ok0_cases o with ⟨a, c, rfl, rfl⟩ | ⟨a, c, rfl, rfl⟩
  · obtain ⟨_, rfl⟩ := r1.int_inv; obtain ⟨_, rfl⟩ := r2.int_inv
    exact EqAt.int_int _ _ _ _
  · obtain ⟨_, rfl⟩ := r1.bytes_inv; obtain ⟨_, rfl⟩ := r2.bytes_inv
    exact eqBool_bytes
theorem all_range {l m : List PV} (e : PV → PV → Bool) (hl : l.length = m.length) : (List.range l.length).all (fun j => e (l.getD j .none) (m.getD j .none)) = (l.zip m).all fun x => e x.1 x.2 := by
  induction l generalizing m with
  | nil => rfl
  | cons a l ih =>
    cases m with
    | nil => simp at hl
    | cons b m =>
      simp only [List.length_cons, Nat.add_right_cancel_iff] at hl
      rw [List.length_cons, List.range_succ_eq_map, List.all_cons, List.zip_cons_cons, List.all_cons, ← ih hl, List.all_map]
      rfl
theorem all_range_min {l m : List PV} (e : PV → PV → Bool) : ((List.range (min l.length m.length)).all (fun j => e (l.getD j .none) (m.getD j .none)) && l.length == m.length) = eqL e l m := by
  unfold eqL
  by_cases h : l.length = m.length
  · rw [← h, Nat.min_self, all_range e h]; simp
  · have : (l.length == m.length) = false := by simpa using h
    rw [this]; simp
theorem items_at {G : View} {ps vs} (r : RepL G ps vs) {j : Nat} (h : j < vs.toArray.size) : Rep G (ps.getD j .none) vs.toArray[j] := by
  have hj : j < vs.length := by simpa using h
  obtain ⟨p, hp, rp⟩ := r.get' (i := j) (v := vs[j]) (by simp [hj])
  have e : ps.getD j .none = p := by simp [List.getD, hp]
  rw [e]
  have e2 : vs.toArray[j] = vs[j] := by simp
  rw [e2]; exact rp
theorem getD_mem {ps : List PV} {j : Nat} (h : j < ps.length) : ps.getD j .none ∈ ps := by
  simp [List.getD, h]
theorem same0 {G : View} {p q v} (o : ok0 p q) (r1 : Rep G p v) (r2 : Rep G q v) : eq0 p q = true := by
  rcases ok0_cases o with ⟨a, c, rfl, rfl⟩ | ⟨a, c, rfl, rfl⟩
  · obtain ⟨t, rfl⟩ := r1.int_inv
    obtain ⟨t', e⟩ := r2.int_inv
    injection e with e
    exact beq_iff_eq.mpr e
  · obtain ⟨t, rfl⟩ := r1.bytes_inv
    obtain ⟨t', e⟩ := r2.bytes_inv
    injection e with e
    exact beq_iff_eq.mpr (congrArg Array.toList e)
theorem same_all {G : View} : ∀ {ps qs vs}, RepL G ps vs → RepL G qs vs → (∀ p ∈ ps, ∀ q ∈ qs, ok0 p q) → ((ps.zip qs).all fun x => eq0 x.1 x.2) = true
  | _, _, _, .nil, .nil, _ => rfl
  | _, _, _, .cons a r, .cons b r', o => by
    rw [List.zip_cons_cons, List.all_cons, Bool.and_eq_true]
    exact ⟨same0 (o _ (.head _) _ (.head _)) a b, same_all r r' fun p hp q hq => o p (.tail _ hp) q (.tail _ hq)⟩
theorem ok1_cases {p q : PV} (o : ok1 p q) : (∃ l m, p = .tup l ∧ q = .tup m ∧ ∀ p ∈ l, ∀ q ∈ m, ok0 p q) ∨ (ok0 p q ∧ eq1 p q = eq0 p q) := by
  cases p with
  | tup l =>
    cases q with
    | tup m => exact .inl ⟨l, m, rfl, rfl, o⟩
    | _ => exact .inr ⟨o, rfl⟩
  | _ => exact .inr ⟨o, rfl⟩
theorem eq1_at {p q v u} (o : ok1 p q) (hu : A.units < cLine) (r1 : Rep (hid mu s.heap) p v) (r2 : Rep (hid mu s.heap) q u) : EqAt A s v u (eq1 p q) := by
  rcases ok1_cases o with ⟨l, m, rfl, rfl, o⟩ | ⟨o, h0⟩
  · obtain ⟨a, rfl⟩ := r1.refTup
    obtain ⟨b, rfl⟩ := r2.refTup
    obtain ⟨vs, _, ha, ra, _⟩ := r1.isTup
    obtain ⟨us, _, hb, rb, _⟩ := r2.isTup
    by_cases hne : a = b
    · subst hne
      obtain ⟨o1, e1, c1, n1, d1⟩ := ha
      obtain ⟨o2, e2, c2, n2, d2⟩ := hb
      rw [e1] at e2; cases e2
      rw [d1] at d2
      have : vs = us := by
        have h := (Data.seq.inj d2).1
        simpa using congrArg Array.toList h
      subst this
      have hlen : l.length = m.length := ra.length.trans rb.length.symm
      have : eqL eq0 l m = true := by
        unfold eqL
        rw [Bool.and_eq_true]
        exact ⟨by simpa using hlen, same_all ra rb o⟩
      show EqAt A s _ _ (eqL eq0 l m)
      rw [this]; exact EqAt.same _
    · refine .of_refs hne ?_
      have := RcAt.tuples (A := A) (s := s) (e := fun j => eq0 (l.getD j .none) (m.getD j .none)) ha hb hu fun j h1 h2 => eq0_at (o _ (getD_mem (by rw [ra.length]; simpa using h1)) _ (getD_mem (by rw [rb.length]; simpa using h2))) (items_at ra h1) (items_at rb h2)
      show RcAt A s _ _ (eqL eq0 l m)
      rw [← all_range_min]
      have e1 : vs.toArray.size = l.length := by simp [ra.length]
      have e2 : us.toArray.size = m.length := by simp [rb.length]
      rw [e1, e2] at this
      exact this
  · rw [h0]; exact eq0_at o r1 r2

theorem lists_go {ps qs v u} {Q : Value → Shared → Prop} (o : ∀ p ∈ ps, ∀ q ∈ qs, ok1 p q) (R : Room 1 A) (r1 : Rep (hid mu s.heap) (.list ps) v) (r2 : Rep (hid mu s.heap) (.list qs) u)
    (c : Q (.bool (eqL eq1 ps qs)) s) : wpAny (model pw w) A (compareOp .Eq v u) Q E s := by
  obtain ⟨a, rfl⟩ := r1.refList
  obtain ⟨b, rfl⟩ := r2.refList
  obtain ⟨vs, ha, _, ra, _⟩ := r1.isList
  obtain ⟨us, hb, _, rb, _⟩ := r2.isList
  have hu := R.units
  have e1 : vs.toArray.size = ps.length := by simp [ra.length]
  have e2 : us.toArray.size = qs.length := by simp [rb.length]
  by_cases hl : ps.length = qs.length
  · refine eq_listAt (e := fun j => eq1 (ps.getD j .none) (qs.getD j .none)) ha hb (by rw [e1, e2, hl]) (by omega) (fun j h1 h2 => eq1_at (A := A.in1) (o _ (getD_mem (by rw [← e1]; exact h1)) _ (getD_mem (by rw [← e2]; exact h2))) (by show A.units + 1 < _; omega) (items_at ra h1) (items_at rb h2)) ?_
    rw [e1, all_range eq1 hl]
    have : eqL eq1 ps qs = (ps.zip qs).all fun x => eq1 x.1 x.2 := by unfold eqL; rw [beq_iff_eq.mpr hl]; rfl
    rw [← this]; exact c
  · have : eqL eq1 ps qs = false := by unfold eqL; rw [show (ps.length == qs.length) = false by simpa using hl]; rfl
    rw [this] at c
    exact eq_list_lengthsAt ha hb (by rw [e1, e2]; simpa using hl) (by omega) c
theorem lists_ne_go {ps qs v u} {Q : Value → Shared → Prop} (o : ∀ p ∈ ps, ∀ q ∈ qs, ok1 p q) (R : Room 1 A) (r1 : Rep (hid mu s.heap) (.list ps) v) (r2 : Rep (hid mu s.heap) (.list qs) u)
    (c : Q (.bool (!eqL eq1 ps qs)) s) : wpAny (model pw w) A (compareOp .NotEq v u) Q E s := by
  obtain ⟨a, rfl⟩ := r1.refList
  obtain ⟨b, rfl⟩ := r2.refList
  obtain ⟨vs, ha, _, ra, _⟩ := r1.isList
  obtain ⟨us, hb, _, rb, _⟩ := r2.isList
  have hu := R.units
  have e1 : vs.toArray.size = ps.length := by simp [ra.length]
  have e2 : us.toArray.size = qs.length := by simp [rb.length]
  by_cases hl : ps.length = qs.length
  · refine RcNeAt.lists (e := fun j => eq1 (ps.getD j .none) (qs.getD j .none)) ha hb (by rw [e1, e2, hl]) (by omega) (fun j h1 h2 => eq1_at (A := A.in1) (o _ (getD_mem (by rw [← e1]; exact h1)) _ (getD_mem (by rw [← e2]; exact h2))) (by show A.units + 1 < _; omega) (items_at ra h1) (items_at rb h2)) pw w E Q ?_
    rw [e1, all_range eq1 hl]
    have : eqL eq1 ps qs = (ps.zip qs).all fun x => eq1 x.1 x.2 := by unfold eqL; rw [beq_iff_eq.mpr hl]; rfl
    rw [← this]; exact c
  · have : eqL eq1 ps qs = false := by unfold eqL; rw [show (ps.length == qs.length) = false by simpa using hl]; rfl
    rw [this] at c
    exact RcNeAt.lists_lengths ha hb (by rw [e1, e2]; simpa using hl) (by omega) pw w E Q c
end
/-- the comparisons of two lists -/
inductive LCmp : CmpOp → Bool → Bool → Prop where
  | eq {b} : LCmp .Eq b b
  | ne {b} : LCmp .NotEq b (!b)
theorem LCmp.go {op ps qs v u b} {s : Shared} {Q : Value → Shared → Prop} {E} (h : LCmp op (eqL eq1 ps qs) b) (o : ∀ p ∈ ps, ∀ q ∈ qs, ok1 p q) (R : Room 1 A) (r1 : Rep (hid mu s.heap) (.list ps) v) (r2 : Rep (hid mu s.heap) (.list qs) u)
    (c : Q (.bool b) s) : wpAny (model pw w) A (compareOp op v u) Q E s := by
  cases h with
  | eq => exact lists_go o R r1 r2 c
  | ne => exact lists_ne_go o R r1 r2 c
theorem Ev.lists {l op r pos ps qs b} (h1 : Ev w X A env [] h₁ l (.list ps)) (h2 : Ev w X A env [] h₁ r (.list qs)) (o : ∀ p ∈ ps, ∀ q ∈ qs, ok1 p q) (R : Room 1 A) (hb : LCmp op (eqL eq1 ps qs) b) (hm : behindInMarks op r = false) :
    Ev w X A env mu h₁ (.Compare l [op] [r] pos) (.bool b) := fun s ok k =>
  wpAny_Compare1 (h1.use ok k fun v s₁ n₁ o₁ k₁ r₁ => h2.use o₁ k₁ fun v₂ s₂ n₂ o₂ k₂ r₂ =>
    hb.go o R (r₁.mono (hid_keep (n₂.keep.toTT (xs_TT X)))) r₂ ⟨n₁.trans n₂, o₂, .bool _⟩) hm
theorem EvT.lists {l op r pos ps qs b} (h1 : Ev w X A env [] h₁ l (.list ps)) (h2 : Ev w X A env [] h₁ r (.list qs)) (o : ∀ p ∈ ps, ∀ q ∈ qs, ok1 p q) (R : Room 1 A) (hb : LCmp op (eqL eq1 ps qs) b) (hm : behindInMarks op r = false) :
    EvT w X A env h₁ (.Compare l [op] [r] pos) b := fun s ok k =>
  wpAny_isTrue_Compare1 (h1.use ok k fun v s₁ n₁ o₁ k₁ r₁ => h2.use o₁ k₁ fun v₂ s₂ n₂ o₂ k₂ r₂ =>
    hb.go o R (r₁.mono (hid_keep (n₂.keep.toTT (xs_TT X)))) r₂ (wpAny_truthy_bool ⟨n₁.trans n₂, o₂, rfl⟩)) hm

/-- is None, is not True -/
noncomputable def isP : PV → PV → Option Bool
  | .none, .none => some true | .bool a, .bool b => some (a == b)
  | .list _, .none => some false | .bool _, .none => some false | _, _ => none
theorem isP_cases {p q : PV} {b : Bool} (h : isP p q = some b) : (p = .none ∧ q = .none ∧ b = true) ∨ (∃ x y, p = .bool x ∧ q = .bool y ∧ b = (x == y)) ∨ (∃ l, p = .list l ∧ q = .none ∧ b = false) ∨ ∃ x, p = .bool x ∧ q = .none ∧ b = false := by
  cases p with
  | none =>
    cases q with
    | none => exact .inl ⟨rfl, rfl, (Option.some.inj h).symm⟩
    | _ => exact absurd h (Option.some_ne_none _).symm
  | bool x =>
    cases q with
    | none => exact .inr (.inr (.inr ⟨x, rfl, rfl, (Option.some.inj h).symm⟩))
    | bool y => exact .inr (.inl ⟨x, y, rfl, rfl, (Option.some.inj h).symm⟩)
    | _ => exact absurd h (Option.some_ne_none _).symm
  | list l =>
    cases q with
    | none => exact .inr (.inr (.inl ⟨l, rfl, rfl, (Option.some.inj h).symm⟩))
    | _ => exact absurd h (Option.some_ne_none _).symm
  | _ => exact absurd h (Option.some_ne_none _).symm
theorem isP_go {p q v u b} {G : View} {s : Shared} {Q : Value → Shared → Prop} {E} (h : isP p q = some b) (r1 : Rep G p v) (r2 : Rep G q u) (op : CmpOp) (hop : op = .Is ∨ op = .IsNot) (c : Q (.bool (if op = .Is then b else !b)) s) :
    wpAny (model pw w) A (compareOp op v u) Q E s := by
  have key : plainIs v u = true ∧ (v == u) = b := by
    rcases isP_cases h with ⟨rfl, rfl, rfl⟩ | ⟨x, y, rfl, rfl, rfl⟩ | ⟨l, rfl, rfl, rfl⟩ | ⟨x, rfl, rfl, rfl⟩
    · rw [r1.none_inv, r2.none_inv]; exact ⟨rfl, rfl⟩
    · rw [r1.bool_inv, r2.bool_inv]; exact ⟨rfl, by cases x <;> cases y <;> rfl⟩
    · obtain ⟨a, rfl⟩ := r1.refList
      rw [r2.none_inv]; exact ⟨rfl, rfl⟩
    · rw [r1.bool_inv, r2.none_inv]; exact ⟨rfl, rfl⟩
  rcases hop with rfl | rfl
  · exact wpAny_is_plain key.1 (by rw [key.2]; exact c)
  · exact wpAny_isNot_plain key.1 (by rw [key.2]; exact c)
theorem EvT.is {l op r pos p q b} (h1 : Ev w X A env [] h₁ l p) (h2 : Ev w X A env [] h₁ r q) (hb : isP p q = some b) (hop : op = .Is ∨ op = .IsNot) (hm : behindInMarks op r = false) :
    EvT w X A env h₁ (.Compare l [op] [r] pos) (if op = .Is then b else !b) := fun s ok k =>
  wpAny_isTrue_Compare1 (h1.use ok k fun v s₁ n₁ o₁ k₁ r₁ => h2.use o₁ k₁ fun v₂ s₂ n₂ o₂ k₂ r₂ =>
    isP_go hb (r₁.mono (hid_keep (n₂.keep.toTT (xs_TT X)))) r₂ op hop (wpAny_truthy_bool ⟨n₁.trans n₂, o₂, rfl⟩)) hm

/-- isinstance(e, T), where it is one -/
theorem EvT.isInst {np tp e x pos T p} (G : EnvOk env) (hk : env.kindOf "isinstance" = some .globalImplicit) (hkt : env.kindOf x = some .globalImplicit) (hb : (x, Value.type T) ∈ bnames) (h : Ev w X A env [] h₁ e p) (hp : p.ty = T)
    (hty : typeOf (.type T) = pure (.type "type")) (hsub : isSubtype (.type T) (.type T) = pure true)
    (he : starEach [e, .Name x tp] env = (false, eval e env) :: starEach [.Name x tp] env) (hpl : (backTo pos (starEach [.Name x tp] env)).any (·.1) = false) (hd : (x == ("__debug__" : Str)) = false)
    (hw : ∀ whole : Sem Value, isTrue (.Call (.Name "isinstance" np) [e, .Name x tp] [] pos) env whole = (do let v ← whole; standAt pos; holding [v] (truthy v))) :
    EvT w X A env h₁ (.Call (.Name "isinstance" np) [e, .Name x tp] [] pos) true := fun s o k => by
  subst hp
  refine wpAny_isTrue_value (e := .Call (.Name "isinstance" np) [e, .Name x tp] [] pos) ?_ (hw _)
  refine wpAny_Call_NameR ?_
  obtain ⟨mg, hg, _, _, hm⟩ := o.g
  obtain ⟨mb, hb', hmb⟩ := o.b
  have hbi : (("isinstance" : Str), Value.builtin "isinstance") ∈ bnames := by simp [bnames]
  refine Name_function_global G.kind hk (loadGlobal_builtin (by rw [G.glob]; exact hg) (hm _ hbi) (by rw [G.bi]; exact hb') (hmb _ hbi) ?_)
  refine PyProof.Rows.callWith_builtin1 (wpAny_items_cons (h.use o k fun v s₁ n₁ o₁ k₁ r₁ => ?_) he) he hpl
  obtain ⟨mg', hg', _, _, hm'⟩ := o₁.g
  obtain ⟨mb', hb'', hmb'⟩ := o₁.b
  refine wpAny_items_cons (Name_function_global G.kind hkt (loadGlobal_builtin (by rw [G.glob]; exact hg') (hm' _ hb) (by rw [G.bi]; exact hb'') (hmb' _ hb) (wpAny_items_nil ?_)) hd)
  exact call_isinstance_yes r₁.typeIs.1 hty hsub (wpAny_truthy_bool ⟨n₁, o₁, rfl⟩)
end

section
open PySem PySem.Calls PySem.W PyProof.Rows
set_option maxRecDepth 100000
variable {w : World} {X : Bool} {A : Around} {env : Env} {mu : List Addr} {h₀ : View} {h₁ : Heap} {σ : List (Str × PV)} {bx : Option (Str × Addr × PV)}

/-- the library's pairs and ours -/
inductive VL : List (Int × Value) → List (Int × Int) → Prop where
  | nil : VL [] []
  | cons {k v t kvs l} : VL kvs l → VL ((k, .int v t) :: kvs) ((k, v) :: l)
theorem VL.keys : ∀ {kvs l}, VL kvs l → kvs.map (·.1) = l.map (·.1)
  | _, _, .nil => rfl
  | _, _, .cons r => by rw [List.map_cons, List.map_cons, r.keys]
theorem VL.length {kvs l} (h : VL kvs l) : kvs.length = l.length := by have := congrArg List.length h.keys; simpa using this
theorem VL.get : ∀ {kvs l}, VL kvs l → ∀ {i : Nat} {k x}, kvs[i]? = some (k, x) → ∃ v t, l[i]? = some (k, v) ∧ x = .int v t
  | _, _, .nil, i, k, x, h => by simp at h
  | _, _, .cons r, 0, k, x, h => by simp at h; obtain ⟨rfl, rfl⟩ := h; exact ⟨_, _, rfl, rfl⟩
  | _, _, .cons r, i + 1, k, x, h => by simpa using r.get (i := i) (by simpa using h)
noncomputable def dget (l : List (Int × Int)) (k : Int) : Option Int := (l.find? fun x => x.1 = k).map (·.2)
noncomputable def dput (l : List (Int × Int)) (k v : Int) : List (Int × Int) :=
  if l.any (fun x => x.1 = k) then l.map (fun x => if x.1 = k then (x.1, v) else x) else l ++ [(k, v)]
theorem VL.at_ : ∀ {kvs l}, VL kvs l → ∀ k, (dget l k = none ∧ valueAt kvs k = none) ∨ ∃ v t, dget l k = some v ∧ valueAt kvs k = some (.int v t)
  | _, _, .nil, k => .inl ⟨rfl, rfl⟩
  | _, _, .cons (k := k') (v := v) (t := t) r, k => by
    by_cases h : k' = k
    · refine .inr ⟨v, t, ?_, ?_⟩
      · unfold dget; rw [List.find?_cons]; simp [h]
      · unfold valueAt; rw [List.find?_cons]; simp [h]
    · rcases r.at_ k with ⟨a, b⟩ | ⟨v', t', a, b⟩
      · refine .inl ⟨?_, ?_⟩
        · unfold dget at a ⊢; rw [List.find?_cons]; simp only [h, decide_false]; exact a
        · unfold valueAt at b ⊢; rw [List.find?_cons]; simp only [h, decide_false]; exact b
      · refine .inr ⟨v', t', ?_, ?_⟩
        · unfold dget at a ⊢; rw [List.find?_cons]; simp only [h, decide_false]; exact a
        · unfold valueAt at b ⊢; rw [List.find?_cons]; simp only [h, decide_false]; exact b
theorem VL.any_ : ∀ {kvs l}, VL kvs l → ∀ k, kvs.any (fun x => x.1 = k) = l.any (fun x => x.1 = k)
  | _, _, .nil, k => rfl
  | _, _, .cons r, k => by rw [List.any_cons, List.any_cons, r.any_ k]
theorem VL.append : ∀ {kvs l kvs' l'}, VL kvs l → VL kvs' l' → VL (kvs ++ kvs') (l ++ l')
  | _, _, _, _, .nil, h => h
  | _, _, _, _, .cons a, h => .cons (a.append h)
theorem VL.map_ (k v : Int) (t : Tok) : ∀ {kvs l}, VL kvs l → VL (kvs.map fun x => if x.1 = k then (x.1, .int v t) else x) (l.map fun x => if x.1 = k then (x.1, v) else x)
  | _, _, .nil => .nil
  | _, _, .cons (k := k') r => by
    rw [List.map_cons, List.map_cons]
    by_cases h : k' = k
    · simp only [h, if_true]; exact .cons (VL.map_ k v t r)
    · simp only [h, if_false]; exact .cons (VL.map_ k v t r)
theorem VL.stored_ {kvs l} (h : VL kvs l) (k v : Int) (t : Tok) : VL (stored kvs k (.int v t)) (dput l k v) := by
  unfold stored dput
  rw [h.any_ k]
  split
  · exact VL.map_ k v t h
  · exact h.append (.cons .nil)

theorem intDict_of : ∀ {l : List (Int × Int)} {es : List DictEntry}, IntDict es l → ∃ kvs, VL kvs l ∧ Pairs (intKind pw w) es kvs ∧ ∀ e ∈ es, ∃ k, (intKind pw w).is k e.key = true ∧ e.hash = (intKind pw w).hash k
  | [], es, h => by
    have : es = [] := h
    subst this
    exact ⟨[], .nil, .nil, by simp⟩
  | (k, v) :: l, es, h => by
    obtain ⟨e, es', rfl, ⟨t, hk⟩, hh, ⟨t', hv⟩, r⟩ := h
    obtain ⟨kvs, a, b, c⟩ := intDict_of r
    refine ⟨(k, .int v t') :: kvs, .cons a, .cons (by rw [hk]; exact intKind_is pw w k t) hv b, fun e' he => ?_⟩
    rcases List.mem_cons.mp he with rfl | he
    · exact ⟨k, by rw [hk]; exact intKind_is pw w k t, hh⟩
    · exact c e' he
theorem intDict_to : ∀ {es : List DictEntry} {kvs : List (Int × Value)} {l : List (Int × Int)}, Pairs (intKind pw w) es kvs → VL kvs l → (∀ e ∈ es, ∃ k, (intKind pw w).is k e.key = true ∧ e.hash = (intKind pw w).hash k) → IntDict es l
  | _, _, _, .nil, .nil, _ => rfl
  | e :: es, _, _, .cons a b c, h2, h => by
    cases h2 with
    | @cons k v t _ _ r =>
      obtain ⟨t', hk⟩ := Value.isInt_shape a
      obtain ⟨k', h1, h2⟩ := h e List.mem_cons_self
      obtain ⟨t'', hk'⟩ := Value.isInt_shape h1
      have hke : k' = k := by
        have : e.key = .int k t' := hk
        rw [hk'] at this
        injection this
      subst hke
      exact ⟨e, es, rfl, ⟨t', hk⟩, h2, ⟨t, b⟩, intDict_to c r fun e' he => h e' (List.mem_cons_of_mem _ he)⟩

theorem RepL.of_get {G : View} : ∀ {ps : List PV} {vs : List Value}, ps.length = vs.length → (∀ (i : Nat) v, vs[i]? = some v → ∃ p, ps[i]? = some p ∧ Rep G p v) → RepL G ps vs
  | [], [], _, _ => .nil
  | p :: ps, v :: vs, hl, h => by
    obtain ⟨p', hp, r⟩ := h 0 v rfl
    have : p = p' := by simpa using hp
    subst this
    exact .cons r (RepL.of_get (by simpa using hl) fun i v' hv => h (i + 1) v' (by simpa using hv))
section
variable {s : Shared} {E : Value → Shared → Prop}
theorem Rep.refDict {l v} {G : View} (r : Rep G (.dict l) v) : ∃ a, v = .ref a := by cases r; exact ⟨_, rfl⟩
theorem Rep.isDict {l a} {h : Heap} (r : Rep (hid mu h) (.dict l) (.ref a)) : ∃ kvs ep, VL kvs l ∧ h.DictAt (intKind pw w) a kvs ep ∧ (a == sysModules) = false ∧ a ∉ TT ∧ a ∉ mu ∧ (l.map (·.1)).Nodup := by
  cases r with
  | @dict _ _ es n e r nd q =>
    obtain ⟨e, hT, hm⟩ := hid_some e
    obtain ⟨kvs, a, b, c⟩ := intDict_of (w := w) r
    exact ⟨kvs, n, a, ⟨_, es, e, ⟨rfl, rfl, rfl⟩, rfl, fun x hx => c x (by simpa using hx), b, by rw [a.keys]; exact nd⟩, q, hT, hm, nd⟩
theorem Rep.ofDict {l a kvs} {h : Heap} (v : VL kvs l) (d : h.DictOf (intKind pw w) a kvs) (q : (a == sysModules) = false) (hT : a ∉ TT) (hm : a ∉ mu) : Rep (hid mu h) (.dict l) (.ref a) := by
  obtain ⟨o, es, ep, ho, ⟨hc, hdd, hsl⟩, hd, hk, hp, hn⟩ := d
  have : o = { cls := .type "dict", data := .dict es ep } := by
    obtain ⟨c, dd, dt, sl⟩ := o
    simp only at hc hdd hsl hd
    subst hc hdd hsl hd; rfl
  subst this
  exact .dict (hid_of ho hT hm) (intDict_to hp v fun e he => hk e (by simpa using he)) (by rw [← v.keys]; exact hn) q

theorem It.dict {e l} (h : Ev w X A env mu h₁ e (.dict l)) (hh : A.handled = none) : It w X A env mu h₁ e (l.map fun x => .int x.1) := fun s o k =>
  h.use o k fun v s₁ n₁ o₁ k₁ r₁ => by
    obtain ⟨a, rfl⟩ := r₁.refDict
    obtain ⟨kvs, ep, vl, hd, hs, hT, hm, _⟩ := r₁.isDict (w := w)
    refine ⟨n₁, o₁, wpAny_pyIter_dict hs hd ⟨⟨.push _ _ _, rfl, rfl⟩, _, rfl, get_size _, ?_⟩⟩
    have hne : a ≠ s₁.heap.objs.size := Nat.ne_of_lt hd.lt_size
    have W := Walks.dictKeys (prog := pw) (w := w) (knd := intKind pw w) hh s₁.heap.objs.size a hne kvs ep
    have eW : kvs.length = (l.map fun x => PV.int x.1).length := by simp [vl.length]
    obtain ⟨oD, esD, hoD, _⟩ := id hd
    refine ⟨_, _, _, eW ▸ W, ⟨⟨_, Heap.get?_push_size _ rfl, rfl, by rw [← eW]; rfl⟩, hd.push _⟩, fun b hb => ?_, fun i h st => ?_, fun i v hv => ?_⟩
    · rcases List.mem_cons.mp hb with e | hb
      · exact .inl e
      · have : b = a := by simpa using hb
        subst this
        exact .inr ⟨hT, hm, _, Heap.get?_push_of_some _ hoD⟩
    · obtain ⟨⟨o, ho, hc, hd⟩, _⟩ := st
      refine ⟨o, ho, fun us e => ?_, by unfold isCon0; rw [hc]; simp, fun v e => by rw [hd] at e; cases e⟩
      rw [hd] at e; cases e
      exact ⟨by simp, fun q t h => by cases h⟩
    · obtain ⟨k, x, hx, hk⟩ := hv
      obtain ⟨t, rfl⟩ := Value.isInt_shape hk
      obtain ⟨v, t', hv, _⟩ := vl.get hx
      exact ⟨.int k, by simp [hv], .int _ _⟩
theorem bi_len_dict {l : List (Int × Int)} (hf : l.length ≤ 16777216) : Bi w A mu (.builtin "len") [.dict l] (.int l.length) h₁ := fun s vs o k r => by
  obtain ⟨v, rfl, r1⟩ := r.one
  obtain ⟨a, rfl⟩ := r1.refDict
  obtain ⟨kvs, ep, vl, hd, hs, _⟩ := r1.isDict (w := w)
  have hl := vl.length
  refine call_len_dict hs hd.dictOf (by omega) ⟨Nx.tok (b := false), ?_⟩
  rw [hl]; exact .int _ _
end

/-- k in d, k not in d -/
inductive DCmp : CmpOp → Bool → Bool → Prop where
  | isIn {b} : DCmp .In b b
  | notIn {b} : DCmp .NotIn b (!b)
theorem dict_in {d l k t op b} {s : Shared} {Q : Value → Shared → Prop} {E} (hb : DCmp op (dget l k).isSome b) (r : Rep (hid mu s.heap) (.dict l) (.ref d)) (c : ∀ tk, Q (.bool b) { s with toks := tk }) : wpAny (model pw w) A (compareOp op (.int k t) (.ref d)) Q E s := by
  obtain ⟨kvs, ep, vl, hd, hs, _⟩ := r.isDict (w := w)
  have e : (valueAt kvs k).isSome = (dget l k).isSome := by rcases vl.at_ k with ⟨a, b⟩ | ⟨v, t, a, b⟩ <;> rw [a, b] <;> rfl
  cases hb with
  | isIn => exact wpAny_in_of (knd := intKind pw w) (intKind_is pw w k t) hs hd.dictOf.mapOf (by rw [e]; exact c _)
  | notIn => exact wpAny_notIn_of (knd := intKind pw w) (intKind_is pw w k t) hs hd.dictOf.mapOf (by rw [e]; exact c _)
theorem EvT.inDict {x y pos op k l b mu'} (hx : Ev w X A env [] h₁ x (.int k)) (hy : Ev w X A env mu' h₁ y (.dict l)) (hb : DCmp op (dget l k).isSome b) (hm : behindInMarks op y = false) : EvT w X A env h₁ (.Compare x [op] [y] pos) b := fun s o kk =>
  wpAny_isTrue_Compare1 (hx.use o kk fun v s₁ n₁ o₁ k₁ r₁ => hy.use o₁ k₁ fun v₂ s₂ n₂ o₂ k₂ r₂ => by
    obtain ⟨_, rfl⟩ := r₁.int_inv
    obtain ⟨a, rfl⟩ := r₂.refDict
    exact dict_in hb r₂ fun tk => wpAny_truthy_bool ⟨n₁.trans (n₂.trans Nx.tok), o₂, rfl⟩) hm
/-- d[k] -/
theorem Ev.itemD {v i pos l k x mu'} (hv : Ev w X A env mu' h₁ v (.dict l)) (hi : Ev w X A env [] h₁ i (.int k)) (hp : dget l k = some x)
    (hs : ∀ a t, subscripted i false (.ref a) (.int k t) = operate [.ref a, .int k t] (getItem (.ref a) (.int k t))) (ht : ∀ a r, letTemporaryGo v (.ref a) r = pure ()) :
    Ev w X A env mu h₁ (.Subscript v i pos) (.int x) := fun s o kk =>
  Subscript_ (hv.use o kk fun x s₁ n₁ o₁ k₁ r₁ => hi.use o₁ k₁ fun y s₂ n₂ o₂ k₂ r₂ => by
    obtain ⟨_, rfl⟩ := r₂.int_inv
    obtain ⟨a, rfl⟩ := r₁.refDict
    obtain ⟨kvs, ep, vl, hd, hsy, _⟩ := (r₁.mono (hid_keep (n₂.keep.toTT (xs_TT X)))).isDict (w := w)
    rcases vl.at_ k with ⟨e1, e2⟩ | ⟨v', t', e1, e2⟩
    · rw [hp] at e1; cases e1
    · rw [hp] at e1; cases e1
      refine subscriptTail_builtin (T := "dict") (id := "dict.__getitem__") hd.dictOf.typeIs slot_dict_getitem.lookup (wpAny_getItem_of (knd := intKind pw w) (intKind_is pw w k _) hd.dictOf.mapOf e2 ⟨n₁.trans (n₂.trans Nx.tok), o₂, .int _ _⟩) (hs _ _) (ht _))
/-- d.get(k, e) -/
theorem Ev.get {o apos pos a c k l u mu'} (ho : Ev w X A env mu' h₁ o (.dict l)) (ha : Ev w X A env [] h₁ a (.int k)) (hc : Ev w X A env [] h₁ c (.int u))
    (hbase : attributeBase o "get" env (eval o env) = eval o env) (hline : (apos.endLine == pos.line) = true) (hfew : ((backTo pos (starEach [a, c] env)).all (fun x => !x.1) && (backToKw pos (keywordEach [] env)).all (fun x => x.1.isSome)
      && decide ([a, c].length + ([] : List Keyword).length + (if ([] : List Keyword).isEmpty then 0 else 1) < 30)) = true) (hs : starEach [a, c] env = [(false, eval a env), (false, eval c env)]) (hbt : ∀ x y : Sem Value, backTo pos [(false, x), (false, y)] = [(false, x), (false, y)]) :
    Ev w X A env mu h₁ (.Call (.Attribute o "get" apos) [a, c] [] pos) (.int ((dget l k).getD u)) := fun s ok kk => by
  refine wpAny_Call_method hbase hfew hline PySem.F.plainAttrs_dict PySem.F.slot_dict_get PySem.F.type_dict_get (ho.use ok kk fun v s₁ n₁ o₁ k₁ r₁ => ⟨r₁.typeIs.1, r₁.typeIs.2, ?_⟩)
  obtain ⟨d, rfl⟩ := r₁.refDict
  obtain ⟨kvs, ep, vl, hd, hsy, _⟩ := r₁.isDict (w := w)
  rw [hs, hbt]
  refine wpAny_dict_get2 (knd := intKind pw w) hsy (ha.use o₁ k₁ fun key s₂ n₂ o₂ k₂ r₂ => hc.use o₂ k₂ fun dflt s₃ n₃ o₃ k₃ r₃ => ?_)
  obtain ⟨_, rfl⟩ := r₂.int_inv; obtain ⟨_, rfl⟩ := r₃.int_inv
  obtain ⟨kvs, ep, vl, hd, hsy, _⟩ := (r₁.mono (hid_keep ((n₂.trans n₃).keep.toTT (xs_TT X)))).isDict (w := w)
  refine ⟨k, _, intKind_is pw w k _, hd.dictOf.mapOf, n₁.trans (n₂.trans (n₃.trans Nx.tok)), o₃, ?_⟩
  rcases vl.at_ k with ⟨e1, e2⟩ | ⟨v', t', e1, e2⟩
  · rw [e1, e2]; exact .int _ _
  · rw [e1, e2]; exact .int _ _
end

section
open PySem PySem.Calls PySem.W PyProof.Rows
set_option maxRecDepth 100000
variable {w : World} {X : Bool} {A : Around} {env : Env} {mu : List Addr} {h₀ : View} {h₁ : Heap} {σ : List (Str × PV)} {bx : Option (Str × Addr × PV)}

/-- e gives a new p -/
noncomputable def EvN (w : World) (X : Bool) (A : Around) (env : Env) (h₁ : Heap) (e : Expr) (p : PV) : Prop :=
  ∀ s : Shared, Ok w s.heap → Keep TT h₁ s.heap → wpAny (model pw w) A (eval e env) (fun v s' => Nx (xs X) s s' ∧ Ok w s'.heap ∧ ∃ a, v = .ref a ∧ s.heap.get? a = none ∧ ∀ M, a ∉ M → Rep (hid M s'.heap) p v) NoE s
theorem big_size {s : Heap} (o : Ok w s) : (s.objs.size == sysModules) = false := by
  have := Heap.lt_size o.pat
  have h : s.objs.size ≠ 1 := fun e => by rw [e] at this; exact absurd this (by decide)
  simpa [sysModules] using h
theorem EvN.nil {pos} : EvN w X A env h₁ (.List [] pos) (.list []) := fun s o k =>
  wpAny_List (wpAny_items_nil ⟨Nat.zero_le _, ⟨.push _ _ _, rfl, rfl⟩, o.keeps (.push _ _ _), _, rfl, get_size _, fun M hM => .list (vs := []) (n := 0) (hid_of (Heap.get?_push_size _ rfl) (o.fresh (get_size _)) hM) .nil⟩)
theorem EvN.emp {pos} : EvN w X A env h₁ (.Dict [] [] pos) (.dict []) := fun s o k =>
  wpAny_Dict_empty ⟨⟨.push _ _ _, rfl, rfl⟩, o.keeps (.push _ _ _), _, rfl, get_size _, fun M hM => .dict (n := 0) (hid_of (Heap.get?_push_size _ rfl) (o.fresh (get_size _)) hM) rfl (by simp) (big_size o)⟩
/-- list(e), of plain items -/
theorem EvN.copy {np e pos l} (G : EnvOk env) (hk : env.kindOf "list" = some .globalImplicit) (h : Ev w X A env [] h₁ e (.list l)) (hi : ∀ p ∈ l, p.imm = true) (hl : l.length ≤ 16777216) (hs : starEach [e] env = [(false, eval e env)]) :
    EvN w X A env h₁ (.Call (.Name "list" np) [e] [] pos) (.list l) := fun s o k => by
  refine wpAny_Call_NameR ?_
  obtain ⟨mg, hg, _, _, hm⟩ := o.g
  obtain ⟨mb, hb', hmb⟩ := o.b
  have hb : (("list" : Str), Value.type "list") ∈ bnames := by simp [bnames]
  refine Name_function_global G.kind hk (loadGlobal_builtin (by rw [G.glob]; exact hg) (hm _ hb) (by rw [G.bi]; exact hb') (hmb _ hb) ?_)
  have L : EvL w X A env [] h₁ [e] [.list l] := .cons h .nil hs
  refine PyProof.Rows.callWith_type1 (L.use o k fun vs s₁ n₁ o₁ k₁ r₁ => ?_) hs
  obtain ⟨v, rfl, r1⟩ := r₁.one
  obtain ⟨a, rfl⟩ := r1.refList
  obtain ⟨vs, ⟨ob, ho, hc, n, hd⟩, _, rl, _⟩ := r1.isList
  have hlen := rl.length
  refine call_list_seq (hsz := by rw [List.size_toArray, sizeLine_eq]; omega) a (.inl rfl) ho hc hd fun h' c' hk hD => ?_
  have k1 : Keep [] s₁.heap h' := Keep.of hk
  refine ⟨n₁.trans ⟨k1.nil, rfl, rfl⟩, o₁.keeps k1, _, rfl, ?_, fun M hM => .list (vs := vs) (n := c') (hid_of hD (o₁.fresh (get_size _)) hM) (rl.imm hi)⟩
  exact n₁.keep.none (get_size _) fun q => o₁.fresh (get_size _) (xs_TT X _ q)

/-- the box begins -/
theorem Ex.newBox {x px e pos rest p J} (he : ∀ h, Ok w h → Fm w X h₀ env mu σ none h → EvN w X A env h e p) (hx : ∀ y ∈ σ, y.1 ≠ x) (hsw : swapsWith e (some (.Name x px)) pos.line env = pure false)
    (hst : StoreOk env x) (hr : ∀ a, Ex w A env (Fm w X h₀ env mu σ (some (x, a, p))) rest J) :
    Ex w A env (Fm w X h₀ env mu σ none) (.Assign [.Name x px] e pos :: rest) J := by
  refine Ex.cons (I' := fun h => ∃ a, Fm w X h₀ env mu σ (some (x, a, p)) h) (Ex1.nextOnly fun s o F => wpAny_Assign_Name ?_ hsw) (Ex.ex hr)
  refine wpAny_mono (he _ o F s o (.refl _ _)) (fun v s₁ ⟨n₁, o₁, a, hv, hn, hrep⟩ => ?_) fun _ _ f => f.elim
  subst hv
  have haT : a ∉ TT := o.fresh hn
  have hak : a ∉ okAddrs := fun q => by obtain ⟨z, e⟩ := o.addr a q; rw [hn] at e; cases e
  have haf : a ∉ full env mu none := fun q => by obtain ⟨_, z, e⟩ := F.muOld' a q; rw [hn] at e; cases e
  have hB : h₀ a = none := by
    cases e : h₀ a with
    | none => rfl
    | some z => rw [F.keep a z (fun q => haT (xs_TT X _ q)) e] at hn; cases hn
  obtain ⟨oa, hoa⟩ := (hrep [] (by simp)).refAt
  have F₁ := F.hide (C := a) n₁.keep hn ⟨oa, (hid_some hoa).1⟩ haT
  refine store_gen (σ' := σ) F₁ o₁ hst (fun y a q h => by cases h) (fun y q e => .inr ⟨hx _ (mem_of_lookup e), e⟩) fun h' tk F₂ o₂ B le => ⟨n₁.gens, n₁.os, o₂, rfl, a, ?_⟩
  have hsub : ∀ b, b ∈ full env mu (some (x, a, p)) ↔ b ∈ full env (a :: mu) none := fun b => by
    rw [mem_full]; simp [full, bxa]
  exact {
    ok := F₂.ok, keep := F₂.keep, newO := F₂.newO, ns := F₂.ns, cell := F₂.cell, apart := F₂.apart
    muOld := fun b hb => F₂.muOld b (List.mem_cons_of_mem _ hb)
    vars := fun y q e => let ⟨v, B, r⟩ := F₂.vars y q e; ⟨v, B, r.mono (hid_sub fun b hb => (hsub b).mp hb)⟩
    box := fun y b q e => by
      cases e
      exact ⟨B, (hrep (own env ++ mu) haf).mono (le _ fun b hb => List.mem_append_left _ hb), hB, hak⟩ }
/-- the box ends -/
theorem Fm.unbox {x a p h} (F : Fm w X h₀ env mu σ (some (x, a, p)) h) : Fm w X h₀ env mu ((x, p) :: σ) none h :=
  { F with
    vars := fun y q e => by
      simp only [List.lookup] at e
      split at e
      · rename_i hy
        cases e
        obtain ⟨B, r, _⟩ := F.box _ _ _ rfl
        rw [beq_iff_eq.mp hy]
        exact ⟨_, B, r⟩
      · obtain ⟨v, B, r⟩ := F.vars y q e
        exact ⟨v, B, r.mono (hid_sub fun b hb => by simp only [bxa, List.mem_append] at hb ⊢; rcases hb with (hb | hb) | hb <;> simp_all)⟩
    box := fun y b q e => by cases e }
theorem Ex.unbox {x a p ss J} (h : Ex w A env (Fm w X h₀ env mu ((x, p) :: σ) none) ss J) : Ex w A env (Fm w X h₀ env mu σ (some (x, a, p))) ss J := h.pre fun h _ F => F.unbox

/-- a change of the box -/
theorem Fm.boxSet {x a p p' h h'} (F : Fm w X h₀ env mu σ (some (x, a, p)) h) (O : Ok w h) (k : ∀ b o, b ≠ a → h.get? b = some o → h'.get? b = some o) (hnc : ∀ o, h.get? a = some o → NoCode o ∧ ∀ v, o.data ≠ .cell v) (hr : Rep (hid (own env ++ mu) h') p' (.ref a)) :
    Fm w X h₀ env mu σ (some (x, a, p')) h' ∧ Ok w h' := by
  obtain ⟨B, r, hB, hak⟩ := F.box _ _ _ rfl
  obtain ⟨oa, hoa⟩ := r.refAt
  obtain ⟨hoa, haT, hao⟩ := hid_some hoa
  simp only [List.mem_append, not_or] at hao
  have hown : ∀ b ∈ own env, b ≠ a := fun b hb q => hao.1 (q ▸ hb)
  have hL : env.locals ≠ a := hown _ (by simp [own])
  have k' : Heap.ExtBut a h h' := k
  have hncl : ∀ c v, h.IsCell c v → c ≠ a := fun c v ⟨o, e, d⟩ q => by subst q; exact (hnc _ e).2 _ d
  have bind : ∀ x v, BindIs env h x v → BindIs env h' x v := fun x v B => by
    rcases B with ⟨a, l, m, n, e⟩ | ⟨a, c, hc', hT', e⟩
    · exact .inl ⟨a, l, m, n.extBut k' hL, e⟩
    · exact .inr ⟨a, c, hc', hT', let ⟨o, ho, r⟩ := e; ⟨o, k' _ _ (hncl _ _ ⟨o, ho, r⟩) ho, r⟩⟩
  refine ⟨{ F with
    keep := fun b o n e => k b o (fun q => by subst q; rw [hB] at e; cases e) (F.keep b o n e)
    ns := let ⟨m, n⟩ := F.ns; ⟨m, n.extBut k' hL⟩
    cell := fun y hy hk => let ⟨v, o, ho, r⟩ := F.cell y hy hk; ⟨v, o, k _ _ (hncl _ _ ⟨o, ho, r⟩) ho, r⟩
    muOld := fun b hb => let ⟨t, o, e⟩ := F.muOld b hb; ⟨t, o, k _ _ (fun q => hao.2 (q ▸ hb)) e⟩
    vars := fun y q e => let ⟨v, B, r⟩ := F.vars y q e; ⟨v, bind y v B, r.mono (hid_le fun b o _ m e => k b o (fun q => m (by simp [bxa, q])) e)⟩
    box := fun y b q e => by cases e; exact ⟨bind _ _ B, hr, hB, hak⟩ }, O.but k hoa (hnc _ hoa).1 hak⟩
end

section
open PySem PySem.Calls PySem.W PyProof.Rows
set_option maxRecDepth 100000
variable {w : World} {X : Bool} {A : Around} {env : Env} {mu : List Addr} {h₀ : View} {h₁ : Heap} {σ : List (Str × PV)} {bx : Option (Str × Addr × PV)}

theorem Ex.append {x np apos e pos spos rest a l p J} (he : ∀ h, Ok w h → Fm w X h₀ env mu σ (some (x, a, .list l)) h → Ev w X A env [] h e p) (hp : p.imm = true) (hli : ∀ q ∈ l, q.imm = true) (hl : l.length ≤ 16777216)
    (hbase : attributeBase (.Name x np) "append" env (eval (.Name x np) env) = eval (.Name x np) env) (hline : (apos.endLine == pos.line) = true) (hs : starEach [e] env = [(false, eval e env)])
    (hd : (x == ("__debug__" : Str)) = false) (hc : (x == ("__classdict__" : Str)) = false) (hi : interactive env = false) (hsw : swapsWith (.Call (.Attribute (.Name x np) "append" apos) [e] [] pos) none spos.line env = pure false)
    (hr : Ex w A env (Fm w X h₀ env mu σ (some (x, a, .list (l ++ [p])))) rest J) :
    Ex w A env (Fm w X h₀ env mu σ (some (x, a, .list l))) (.Expr (.Call (.Attribute (.Name x np) "append" apos) [e] [] pos) spos :: rest) J := by
  refine Ex.cons (Ex1.nextOnly fun s o F => wpAny_Expr ?_ hi hsw) hr
  refine wpAny_Call_method hbase (by rw [hs]; rfl) hline PySem.F.plainAttrs_list slot_list_append PySem.F.type_list_append ?_
  obtain ⟨B, r, _⟩ := F.box _ _ _ rfl
  refine Name_of F.ok B ⟨r.typeIs.1, r.typeIs.2, ?_⟩ hd hc
  have L : EvL w X A env [] s.heap [e] [p] := .cons (he _ o F) .nil hs
  refine callWith_method1 (L.use o (.refl _ _) fun vs s₂ n₂ o₂ k₂ r₂ => ?_) hs
  obtain ⟨v, rfl, rv⟩ := r₂.one
  have F₂ := F.kp n₂.keep
  obtain ⟨_, r', _⟩ := F₂.box _ _ _ rfl
  obtain ⟨vs, _, ⟨n, hn⟩, rl, haT, ham⟩ := r'.isList
  refine append_go ⟨n, hn⟩ (by have := rl.length; simp only [List.size_toArray]; omega) fun h' ⟨n', hp'⟩ hs' => ?_
  obtain ⟨F₃, o₃⟩ := F₂.boxSet (p' := .list (l ++ [p])) o₂ hs'.extBut (fun o e => by rw [hn] at e; cases e; exact ⟨.nf (fun vs e => by cases e), fun v e => by cases e⟩)
    (.list (vs := vs ++ [v]) (n := n') (hid_of (by rw [hp']; simp) haT ham) ((rl.imm hli).append (.cons (rv.imm hp) .nil)))
  exact ⟨n₂.gens, n₂.os, o₃, rfl, F₃⟩

/-- x[k] = e, x a dict -/
theorem Ex.dput {x np i ipos e pos rest a l k v J} (hi : ∀ h, Ok w h → Fm w X h₀ env mu σ (some (x, a, .dict l)) h → Ev w X A env [] h i (.int k)) (he : ∀ h, Ok w h → Fm w X h₀ env mu σ (some (x, a, .dict l)) h → Ev w X A env [] h e (.int v)) (hl : l.length ≤ 16777216)
    (hd : (x == ("__debug__" : Str)) = false) (hc : (x == ("__classdict__" : Str)) = false) (hsw : swapsWith e (some (.Subscript (.Name x np) i ipos)) pos.line env = pure false)
    (hr : Ex w A env (Fm w X h₀ env mu σ (some (x, a, .dict (Mine.dput l k v)))) rest J) :
    Ex w A env (Fm w X h₀ env mu σ (some (x, a, .dict l))) (.Assign [.Subscript (.Name x np) i ipos] e pos :: rest) J := by
  refine Ex.cons (Ex1.nextOnly fun s o F => ?_) hr
  rw [exec_Assign_Subscript _ _ _ _ _ hsw]
  refine wpAny_bind (wpAny_standAt (wpAny_bind ((he _ o F).use o (.refl _ _) fun y s₁ n₁ o₁ k₁ r₁ => ?_)))
  have F₁ := F.kp n₁.keep
  refine wpAny_bind ?_
  rw [assign_Subscript]
  obtain ⟨B, r, _⟩ := F₁.box _ _ _ rfl
  refine wpAny_bind (wpAny_holding (Name_of F₁.ok B ?_ hd hc))
  refine wpAny_bind (wpAny_holding ((hi _ o₁ F₁).use o₁ (.refl _ _) fun z s₂ n₂ o₂ k₂ r₂ => ?_))
  have F₂ := F₁.kp n₂.keep
  obtain ⟨_, rfl⟩ := r₁.int_inv; obtain ⟨_, rfl⟩ := r₂.int_inv
  obtain ⟨_, r', _⟩ := F₂.box _ _ _ rfl
  obtain ⟨kvs, ep, vl, hdd, hsy, haT, ham, _⟩ := r'.isDict (w := w)
  obtain ⟨oD, esD, hoD, hex, hdat, _⟩ := id hdd
  refine wpAny_bind (wpAny_standAt (wpAny_bind (wpAny_holding (wpAny_setItem_pairs (knd := intKind pw w) (intKind_is pw w k _) hdd.dictOf (fun h' hd' hs' => ?_) (by rw [sizeLine_eq, vl.length]; exact hl)))))
  obtain ⟨F₃, o₃⟩ := F₂.boxSet (p' := .dict (Mine.dput l k v)) o₂ hs'.extBut (fun o e => by rw [hoD] at e; cases e; exact ⟨.nf (fun vs e => by rw [hdat] at e; cases e), fun v e => by rw [hdat] at e; cases e⟩) (Rep.ofDict (vl.stored_ k v _) hd' hsy haT ham)
  exact PyProof.Rows.wpAny_release' (wpAny_pure ⟨n₂.gens.trans n₁.gens, n₂.os.trans n₁.os, o₃, rfl, F₃⟩)

theorem setList_go {l : Addr} {vs : List Value} {n : Nat} {k : Int} {t : Tok} {v : Value} {s : Shared} {Q : Unit → Shared → Prop} {E} (ho : s.heap.get? l = some { cls := .type "list", data := .seq vs.toArray n }) (h0 : 0 ≤ k) (hn : k < vs.length) (hl : vs.length ≤ 16777216)
    (hQ : ∀ h' n', h'.get? l = some { cls := .type "list", data := .seq (vs.set k.toNat v).toArray n' } → Heap.SameBut l s.heap h' → Q () { s with heap := h' }) :
    wpAny (model pw w) A (setItem (.ref l) (.int k t) v) Q E s := by
  have hl' : s.heap.IsList l vs.toArray := ⟨_, ho, rfl, _, rfl⟩
  unfold setItem
  try with_reducible refine wpAny_holding ?_
  first | refine wpAny_bind (wpAny_pure ?_) | skip
  refine wpAny_bind (wpAny_sequenceKey hl'.typeIs (by decide) ?_)
  refine wpAny_bind (wpAny_callSpecial?_slot (name := Str.ofString "__setitem__") hl'.typeIs slot_list_setitem
    (wpAny_call_entry slot_list_setitem hl'.typeIs entry_list_setitem ?_ (args_list_setitem _ _ _)))
  show wpAny _ _ (Builtin.List.listSubscript? (.int k t) >>= _) _ _ s
  refine wpAny_bind (wpAny_listSubscript_int (fitsIndex_of h0 (by omega)) ?_)
  obtain ⟨j, rfl⟩ := Int.eq_ofNat_of_zero_le h0
  have hj : j < vs.toArray.size := by simp; omega
  have hx' : vs.toArray[j]? = some vs.toArray[j] := Array.getElem?_eq_getElem hj
  show wpAny _ _ ((seqItemAt l j >>= fun r => pure (r.map (j, ·))) >>= _) _ _ s
  refine wpAny_bind (wpAny_bind (wpAny_seqItemAt ho rfl (wpAny_pure ?_)))
  rw [hx']
  show wpAny _ _ (setSeqItemAt l j v >>= _) _ _ s
  refine wpAny_bind (wpAny_setSeqItemAt ho rfl ?_)
  have hfin : ∃ n', (s.heap.update l (Obj.mapSeq (·.setIfInBounds j v))).get? l = some { cls := .type "list", data := .seq (vs.set j v).toArray n' } := by
    have h1 := Heap.get?_update_self (Obj.mapSeq (·.setIfInBounds j v)) ho rfl
    obtain ⟨n', h2⟩ : ∃ n', Obj.mapSeq (·.setIfInBounds j v) { cls := .type "list", data := .seq vs.toArray n } = { cls := .type "list", data := .seq (vs.set j v).toArray n' } := by
      refine ⟨(match Obj.mapSeq (·.setIfInBounds j v) { cls := .type "list", data := .seq vs.toArray n } with | ⟨_, _, .seq _ n, _⟩ => n | _ => 0), ?_⟩
      simp [Obj.mapSeq]
    exact ⟨n', h1.trans (congrArg some h2)⟩
  obtain ⟨n', hfin⟩ := hfin
  first
    | exact wpAny_bind (wpAny_pure (wpAny_pure ⟨.none, rfl, wpAny_pure (hQ _ n' hfin (Heap.SameBut.update ..))⟩))
    | exact wpAny_pure ⟨.none, rfl, wpAny_pure (hQ _ n' hfin (Heap.SameBut.update ..))⟩
end

section
open PySem PySem.Calls PySem.W PyProof.Rows
set_option maxRecDepth 100000
variable {w : World} {X : Bool} {A : Around} {env : Env} {mu : List Addr} {h₀ : View} {h₁ : Heap} {σ : List (Str × PV)} {bx : Option (Str × Addr × PV)}

theorem Ex.pair2 {x y px py k tpos e pos rest p q J} (R : Room 0 A) (he : ∀ h, Ok w h → Fm w X h₀ env mu σ bx h → Ev w X A env (full env mu bx) h e (.tup [p, q]))
    (hx : StoreOk env x) (hy : StoreOk env y) (hbx : ∀ z a q, bx = some (z, a, q) → x ≠ z) (hby : ∀ z a q, bx = some (z, a, q) → y ≠ z)
    (hs : swapsWithSole [.Tuple [.Name x px, .Name y py] k tpos] e pos.line env = pure false) (hw : swappedStores [.Tuple [.Name x px, .Name y py] k tpos] e env = pure none)
    (hr : Ex w A env (Fm w X h₀ env mu ((y, q) :: (x, p) :: σ) bx) rest J) : Ex w A env (Fm w X h₀ env mu σ bx) (.Assign [.Tuple [.Name x px, .Name y py] k tpos] e pos :: rest) J :=
  Ex.cons (Ex1.nextOnly fun s o i => Assign_Tuple ((he _ o i).use o (.refl _ _) fun v s₁ n₁ o₁ k₁ r₁ => by
    have F := i.kp n₁.keep
    obtain ⟨a, rfl⟩ := r₁.refTup
    obtain ⟨vs, _, ht, rl, _⟩ := r₁.isTup
    obtain ⟨v₁, v₂, rfl, r1, r2⟩ := rl.two
    refine wpAny_assign_Tuple R.handled ht rfl rfl fun h' he' => ?_
    have kk : Keep (xs X) s₁.heap h' := fun b o _ e => he' b o (Nat.ne_of_lt (Heap.lt_size e)) e
    have k0 : Keep [] s₁.heap h' := fun b o _ e => he' b o (Nat.ne_of_lt (Heap.lt_size e)) e
    have O' : Ok w h' := o₁.keeps k0
    refine wpAny_assignInOrder_more (PyProof.Rows.assign_Name (store_gen (s := { s₁ with heap := h' }) (σ' := (x, p) :: σ) (F.kp kk) O' hx hbx (fun z q' e => ?_) fun h₂ tk₂ F₂ O₂ _ le => ?_))
    · simp only [List.lookup] at e
      split at e
      · rename_i hz
        cases e
        exact .inl ⟨beq_iff_eq.mp hz, r1.mono (hid_keep k0.nil)⟩
      · rename_i hz
        exact .inr ⟨by simpa using hz, e⟩
    · refine wpAny_assignInOrder_more (PyProof.Rows.assign_Name (store_go (s := { s₁ with heap := h₂, toks := tk₂ }) F₂ O₂ hy hby ((r2.mono (hid_keep k0.nil)).mono (le _ fun b hb => List.mem_append_left _ (List.mem_append_right _ hb))) fun h₃ tk₃ F₃ O₃ => ?_))
      exact wpAny_assignInOrder_none ⟨n₁.gens, n₁.os, O₃, rfl, F₃⟩) hs hw) hr

/-- x, y[i] = e -/
theorem Ex.pairSet {x y px py i ipos k tpos e pos rest p q J a l n} (R : Room 0 A) (he : ∀ h, Ok w h → Fm w X h₀ env mu σ (some (y, a, .list l)) h → Ev w X A env (full env mu (some (y, a, .list l))) h e (.tup [p, q])) (hp : p.imm = true) (hq : q.imm = true)
    (hi : ∀ h, Ok w h → Fm w X h₀ env mu ((x, p) :: σ) (some (y, a, .list l)) h → Ev w X A env [] h i (.int n)) (h0 : 0 ≤ n) (hn : n < l.length) (hl : l.length ≤ 16777216) (hli : ∀ q ∈ l, q.imm = true)
    (hx : StoreOk env x) (hxy : x ≠ y) (hd : (y == ("__debug__" : Str)) = false) (hc : (y == ("__classdict__" : Str)) = false)
    (hs : swapsWithSole [.Tuple [.Name x px, .Subscript (.Name y py) i ipos] k tpos] e pos.line env = pure false) (hw : swappedStores [.Tuple [.Name x px, .Subscript (.Name y py) i ipos] k tpos] e env = pure none)
    (hst : (assignEach [.Name x px, .Subscript (.Name y py) i ipos] env) = [(false, PySem.assign (.Name x px) env), (false, PySem.assign (.Subscript (.Name y py) i ipos) env)])
    (hr : Ex w A env (Fm w X h₀ env mu ((x, p) :: σ) (some (y, a, .list (l.set n.toNat q)))) rest J) :
    Ex w A env (Fm w X h₀ env mu σ (some (y, a, .list l))) (.Assign [.Tuple [.Name x px, .Subscript (.Name y py) i ipos] k tpos] e pos :: rest) J :=
  Ex.cons (Ex1.nextOnly fun s o i' => Assign_Tuple ((he _ o i').use o (.refl _ _) fun v s₁ n₁ o₁ k₁ r₁ => by
    have F := i'.kp n₁.keep
    obtain ⟨ta, rfl⟩ := r₁.refTup
    obtain ⟨vs, _, ht, rl, _⟩ := r₁.isTup
    obtain ⟨v₁, v₂, rfl, r1, r2⟩ := rl.two
    refine wpAny_assign_Tuple R.handled ht (by rw [hst]; rfl) (by rw [hst]; rfl) fun h' he' => ?_
    rw [hst]
    have kk : Keep (xs X) s₁.heap h' := fun b o _ e => he' b o (Nat.ne_of_lt (Heap.lt_size e)) e
    have O' : Ok w h' := o₁.keeps fun b o _ e => he' b o (Nat.ne_of_lt (Heap.lt_size e)) e
    refine wpAny_assignInOrder_more (PyProof.Rows.assign_Name (store_go (s := { s₁ with heap := h' }) (F.kp kk) O' hx (fun z a q e => by cases e; exact hxy) (r1.imm hp) fun h₂ tk₂ F₂ O₂ => ?_))
    refine wpAny_assignInOrder_more ?_
    dsimp only
    rw [assign_Subscript]
    obtain ⟨B, r, _⟩ := F₂.box _ _ _ rfl
    refine wpAny_bind (wpAny_holding (Name_of F₂.ok B ?_ hd hc))
    refine wpAny_bind (wpAny_holding ((hi _ O₂ F₂).use (s := { s₁ with heap := h₂, toks := tk₂ }) O₂ (.refl _ _) fun z s₃ n₃ o₃ k₃ r₃ => ?_))
    have F₃ := F₂.kp n₃.keep
    obtain ⟨_, rfl⟩ := r₃.int_inv
    obtain ⟨_, r', _⟩ := F₃.box _ _ _ rfl
    obtain ⟨us, _, ⟨nn, hnn⟩, rl', haT, ham⟩ := r'.isList
    have hlen := rl'.length
    refine wpAny_bind (wpAny_standAt (wpAny_bind (wpAny_holding (setList_go hnn h0 (by omega) (by omega) fun h₄ n₄ e₄ hs₄ => ?_))))
    obtain ⟨F₄, o₄⟩ := F₃.boxSet (p' := .list (l.set n.toNat q)) o₃ hs₄.extBut (fun o e => by rw [hnn] at e; cases e; exact ⟨.nf (fun vs e => by cases e), fun v e => by cases e⟩)
      (.list (vs := us.set n.toNat v₂) (n := n₄) (hid_of e₄ haT ham) ((rl'.imm hli).set (r2.imm hq)))
    exact PyProof.Rows.wpAny_release' (wpAny_assignInOrder_none ⟨n₃.gens.trans n₁.gens, n₃.os.trans n₁.os, o₄, rfl, F₄⟩)) hs hw) hr

/-- x, y = e1, e2 where the stores come the other way round -/
theorem Ex.pairSw {x y px py k tpos e pos rest p q J} (R : Room 0 A) (he : ∀ h, Ok w h → Fm w X h₀ env mu σ bx h → Ev w X A env (full env mu bx) h e (.tup [p, q]))
    (hx : StoreOk env x) (hy : StoreOk env y) (hbx : ∀ z a q, bx = some (z, a, q) → x ≠ z) (hby : ∀ z a q, bx = some (z, a, q) → y ≠ z)
    (hs : swapsWithSole [.Tuple [.Name x px, .Name y py] k tpos] e pos.line env = pure false) (hw : swappedStores [.Tuple [.Name x px, .Name y py] k tpos] e env = pure (some [x, y]))
    (hr : Ex w A env (Fm w X h₀ env mu ((x, p) :: (y, q) :: σ) bx) rest J) : Ex w A env (Fm w X h₀ env mu σ bx) (.Assign [.Tuple [.Name x px, .Name y py] k tpos] e pos :: rest) J :=
  Ex.cons (Ex1.nextOnly fun s o i => Assign_Tuple_swapped ((he _ o i).use o (.refl _ _) fun v s₁ n₁ o₁ k₁ r₁ => by
    have F := i.kp n₁.keep
    obtain ⟨a, rfl⟩ := r₁.refTup
    obtain ⟨vs, _, ht, rl, _⟩ := r₁.isTup
    obtain ⟨v₁, v₂, rfl, r1, r2⟩ := rl.two
    show wpAny (model pw w) A (unpackItems (.ref a) ([v₁, v₂].toArray).size Option.none) _ _ _
    refine wpAny_unpackItems_tuple (items := [v₁, v₂].toArray) R.handled ht fun h' he' => ?_
    show wpAny (model pw w) A (assignInOrder [bindName env y, bindName env x] [v₂, v₁]) _ _ _
    have kk : Keep (xs X) s₁.heap h' := fun b o _ e => he' b o (Nat.ne_of_lt (Heap.lt_size e)) e
    have k0 : Keep [] s₁.heap h' := fun b o _ e => he' b o (Nat.ne_of_lt (Heap.lt_size e)) e
    have O' : Ok w h' := o₁.keeps k0
    refine wpAny_assignInOrder_more (PyProof.Rows.bindName_ (store_gen (s := { s₁ with heap := h' }) (σ' := (y, q) :: σ) (F.kp kk) O' hy hby (fun z q' e => ?_) fun h₂ tk₂ F₂ O₂ _ le => ?_))
    · simp only [List.lookup] at e
      split at e
      · rename_i hz
        cases e
        exact .inl ⟨beq_iff_eq.mp hz, r2.mono (hid_keep k0.nil)⟩
      · rename_i hz
        exact .inr ⟨by simpa using hz, e⟩
    · refine wpAny_assignInOrder_more (PyProof.Rows.bindName_ (store_go (s := { s₁ with heap := h₂, toks := tk₂ }) F₂ O₂ hx hbx ((r1.mono (hid_keep k0.nil)).mono (le _ fun b hb => List.mem_append_left _ (List.mem_append_right _ hb))) fun h₃ tk₃ F₃ O₃ => ?_))
      exact wpAny_assignInOrder_none ⟨n₁.gens, n₁.os, O₃, rfl, F₃⟩) hs hw) hr
end

section
open PySem PySem.Calls PySem.W PyProof.Rows
set_option maxRecDepth 100000
variable {w : World} {X : Bool} {A : Around} {env : Env} {mu : List Addr} {h₀ : View} {h₁ : Heap} {σ : List (Str × PV)} {bx : Option (Str × Addr × PV)}

noncomputable abbrev intsP (ns : List Int) : List PV := ns.map .int
theorem RepL.intsAre {G : View} : ∀ {ns : List Int} {vs}, RepL G (intsP ns) vs → IntsAre vs ns
  | [], _, .nil => .nil
  | n :: ns, _, .cons a r => by cases a; exact .cons _ _ r.intsAre
theorem bi_sum {ns : List Int} (hh : A.handled = none) : Bi w A mu (.builtin "sum") [.list (intsP ns)] (.int ns.sum) h₁ := fun s vs o k r => by
  obtain ⟨v, rfl, r1⟩ := r.one
  obtain ⟨a, rfl⟩ := r1.refList
  obtain ⟨vs, hl, _, rl, _⟩ := r1.isList
  have hi := rl.intsAre
  obtain ⟨xs, hxs⟩ := hi.allInts.items
  rw [hxs] at hl
  refine sum_intListG hh hl fun h' tk t' hk => ⟨⟨Keep.of hk, rfl, rfl⟩, ?_⟩
  have e : preSum (numAt xs) xs.size = ns.sum := by
    have h1 : ns = numsOf vs.toArray.toList := hi.numsOf.symm
    rw [preSum_eq, List.take_of_length_le (by simp), h1, hxs, nums_intItems]
  rw [e]; exact .int _ _
theorem bi_min {a c : Int} (hh : A.handled = none) : Bi w A mu (.builtin "min") [.int a, .int c] (.int (if c < a then c else a)) h₁ := fun s vs o k r => by
  obtain ⟨v, u, rfl, r1, r2⟩ := r.two
  obtain ⟨_, rfl⟩ := r1.int_inv; obtain ⟨_, rfl⟩ := r2.int_inv
  refine min_two_ints hh fun h' tk hk => ⟨⟨Keep.of hk, rfl, rfl⟩, ?_⟩
  split <;> exact .int _ _
theorem bi_bytes {ns : List Int} (hr : ∀ n ∈ ns, 0 ≤ n ∧ n < 256) (hz : ns.length ≤ 16777216) (hh : A.handled = none) : Bi w A mu (.type "bytes") [.list (intsP ns)] (.bytes (byteArr ns)) h₁ := fun s vs o k r => by
  obtain ⟨v, rfl, r1⟩ := r.one
  obtain ⟨a, rfl⟩ := r1.refList
  obtain ⟨vs, hl, _, rl, _⟩ := r1.isList
  have hi := rl.intsAre
  exact call_bytes_ints hl hi hr (by rw [hi.length, sizeLine_eq]; exact hz) hh fun h' t k hk => ⟨⟨Keep.of hk, rfl, rfl⟩, .bytes _ _⟩
theorem Ev.fdiv {l r pos a c} (h1 : Ev w X A env [] h₁ l (.int a)) (h2 : Ev w X A env [] h₁ r (.int c)) (hc : c ≠ 0) (hc2 : c.natAbs < 1073741824) : Ev w X A env mu h₁ (.BinOp l .FloorDiv r pos) (.int (a.fdiv c)) := fun s o k =>
  wpAny_BinOp (h1.use o k fun v s₁ n₁ o₁ k₁ r₁ => h2.use o₁ k₁ fun v₂ s₂ n₂ o₂ k₂ r₂ => by
    obtain ⟨_, rfl⟩ := r₁.int_inv; obtain ⟨_, rfl⟩ := r₂.int_inv
    exact floordiv_int hc ⟨n₁.trans (n₂.trans Nx.tok), o₂, .int _ _⟩ (.inl (PyProof.noPylong_small hc2)))
/-- [x] * e -/
theorem EvN.mul {l r pos lp} {p : PV} {n : Nat} (h1 : Ev w X A env [] h₁ l p) (hp : p.imm = true) (h2 : Ev w X A env [] h₁ r (.int n)) (hn : n ≤ 16777216) (hs : starEach [l] env = [(false, eval l env)]) :
    EvN w X A env h₁ (.BinOp (.List [l] lp) .Mult r pos) (.list (List.replicate n p)) := fun s o k => by
  refine wpAny_BinOp (wpAny_List (EvL.use (h := .cons h1 .nil hs) o k fun vs s₁ n₁ o₁ k₁ r₁ => ?_))
  obtain ⟨v, rfl, rv⟩ := r₁.one
  refine ⟨by rw [sizeLine_eq]; exact (by decide : 1 ≤ 16777216), ?_⟩
  have kp : Keep [] s₁.heap (s₁.heap.push { cls := .type "list", data := .seq [v].toArray }) := .push _ _ _
  refine h2.use (s := { s₁ with heap := s₁.heap.push { cls := .type "list", data := .seq [v].toArray } }) (o₁.keeps kp) (k₁.trans kp.nil) fun u s₂ n₂ o₂ k₂ r₂ => ?_
  obtain ⟨_, rfl⟩ := r₂.int_inv
  have hla : s₁.heap.objs.size ∉ TT := o₁.fresh (get_size _)
  have hl : s₂.heap.get? s₁.heap.objs.size = some { cls := .type "list", dict := none, data := .seq [v].toArray 0, slots := #[] } := (n₂.keep.toTT (xs_TT X)) _ _ hla (Heap.get?_push_size _ rfl)
  rename_i tk
  generalize hx : (n : Int) = x
  have hxn : x.toNat = n := by omega
  have hc0 : ¬(!Builtin.List.listFitsIndex x) = true := by
    have : Builtin.List.listFitsIndex x = true := by
      unfold Builtin.List.listFitsIndex
      rw [Bool.and_eq_true, decide_eq_true_eq, decide_eq_true_eq]
      omega
    rw [this]; decide
  have hz : (#[v] : Array Value).size * x.toNat = n := by
    show 1 * x.toNat = n
    omega
  have hc2 : ¬Builtin.List.listTooLong ((#[v] : Array Value).size * x.toNat) = true := by
    rw [hz]
    unfold Builtin.List.listTooLong
    rw [decide_eq_true_eq, sizeLine_eq]; omega
  have hj : ∀ (k : Nat) (acc : Array Value), List.foldl (fun x1 x2 => x1 ++ x2) acc (List.replicate k #[v]) = (acc.toList ++ List.replicate k v).toArray := by
    intro k
    induction k with
    | zero => intro acc; simp
    | succ k ih => intro acc; rw [List.replicate_succ, List.foldl_cons, ih]; simp [List.replicate_succ]
  have hl' : s₂.heap.get? s₁.heap.objs.size = some { cls := .type "list", dict := none, data := .seq #[v] 0, slots := #[] } := hl
  have hM := fun h1 => AutoListH.list___mul___list_int_3 s₁.heap.objs.size #[v] 0 x tk hc0 h1 hc2
  have hM := hM (by rw [hz]; omega)
  refine wpAny_binaryOp_repeat_ref (T := "list") (U := "int") (by decide) ⟨_, hl', rfl⟩ (fun s' => typeIs_int s' _ _) noFill_list_mul PySem.F.fills_int_mul PySem.F.slot_int_rmul repeat_list PySem.F.slot_int_index.lookup
    (call_meets PySem.F.slot_int_rmul (typeIs_int _ _ _) PySem.F.entry_int_rmul (PySem.F.args_int_rmul_2 _ _) (int___rmul___int_list x tk s₁.heap.objs.size #[v] 0)
      ⟨hl', rfl, ⟨_, hl', rfl⟩, call_meets PySem.F.slot_list_mul ⟨_, hl', rfl⟩ PySem.F.entry_list_mul (PySem.F.args_list_mul_2 _ _) hM ⟨hl', ?_⟩⟩)
  refine ⟨n₁.trans ((⟨kp.nil, rfl, rfl⟩ : Nx (xs X) s₁ { s₁ with heap := s₁.heap.push { cls := .type "list", data := .seq [v].toArray } }).trans (n₂.trans ⟨.push _ _ _, rfl, rfl⟩)), o₂.keeps (.push _ _ _), _, rfl, ?_, fun M hM => ?_⟩
  · refine (n₁.trans ((⟨kp.nil, rfl, rfl⟩ : Nx (xs X) s₁ { s₁ with heap := s₁.heap.push { cls := .type "list", data := .seq [v].toArray } }).trans n₂)).keep.none (get_size _) fun q => o₂.fresh (get_size _) (xs_TT X _ q)
  · have e1 : (if (#[v] : Array Value).isEmpty = true then 0 else x.toNat) = n := by simp [hxn]
    have e2 : List.foldl (fun x1 x2 => x1 ++ x2) #[] (List.replicate (if (#[v] : Array Value).isEmpty = true then 0 else x.toNat) #[v]) = (List.replicate n v).toArray := by rw [e1, hj]; simp
    refine .list (vs := List.replicate n v) (n := 0) (hid_of ?_ (o₂.fresh (get_size _)) hM) ?_
    · rw [← e2]; exact Heap.get?_push_size _ rfl
    · clear hc0 hz hc2 hj hl hl' hM e1 e2
      have : ∀ (G : View) (k : Nat), RepL G (List.replicate k p) (List.replicate k v) := by
        intro G k
        induction k with
        | zero => exact .nil
        | succ k ih => rw [List.replicate_succ, List.replicate_succ]; exact .cons (rv.imm hp) ih
      exact this _ n
end

section
open PySem PySem.Calls PySem.W PyProof.Rows
set_option maxRecDepth 100000
variable {w : World} {X : Bool} {A : Around} {env : Env} {mu : List Addr} {h₀ : View} {h₁ : Heap} {σ : List (Str × PV)} {bx : Option (Str × Addr × PV)}
theorem Ev.join {o apos pos e} {sep : Array UInt8} {ps : List (Array UInt8)} (ho : Ev w X A env [] h₁ o (.bytes sep)) (he : Ev w X A env [] h₁ e (.list (ps.map .bytes)))
    (hp : ps.length ≤ 16777216) (hsz : ps.foldl (fun n x => n + x.size) (sep.size * (ps.length - 1)) ≤ 16777216) (hj : (PySem.Builtin.Bytes.joined sep ps).size ≤ 16777216)
    (hbase : attributeBase o "join" env (eval o env) = eval o env) (hline : (apos.endLine == pos.line) = true) (hs : starEach [e] env = [(false, eval e env)]) :
    Ev w X A env mu h₁ (.Call (.Attribute o "join" apos) [e] [] pos) (.bytes (PySem.Builtin.Bytes.joined sep ps)) :=
  Ev.meth1 (mu' := []) (p := .bytes sep) pa_bytes slot_join ty_join ho he (bi_join hp hsz hj) (imm_any rfl) hbase hline hs
theorem Ev.lstrip {o apos pos e} {x y : Array UInt8} (ho : Ev w X A env [] h₁ o (.bytes x)) (he : Ev w X A env [] h₁ e (.bytes y)) (hx : x.size ≤ 16777216)
    (hbase : attributeBase o "lstrip" env (eval o env) = eval o env) (hline : (apos.endLine == pos.line) = true) (hs : starEach [e] env = [(false, eval e env)]) :
    Ev w X A env mu h₁ (.Call (.Attribute o "lstrip" apos) [e] [] pos) (.bytes (x.toList.dropWhile y.contains).toArray) :=
  Ev.meth1 (mu' := []) (p := .bytes x) pa_bytes slot_lstrip ty_lstrip ho he (bi_lstrip hx) (imm_any rfl) hbase hline hs
theorem ty_bl : typeOf (.builtin "int.bit_length") = pure (.type "method_descriptor") := by show builtinType _ = _; rw [builtinType_eq_fast]; kernel_rfl
theorem Ev.bitlen {o apos pos} {n : Int} (ho : Ev w X A env [] h₁ o (.int n)) (hbase : attributeBase o "bit_length" env (eval o env) = eval o env) (hline : (apos.endLine == pos.line) = true) :
    Ev w X A env mu h₁ (.Call (.Attribute o "bit_length" apos) [] [] pos) (.int (Builtin.Int.intBits n)) :=
  Ev.meth0 (mu' := []) (p := .int n) PySem.F.plainAttrs_int slot_bl ty_bl ho bi_bitlen (imm_any rfl) hbase hline
theorem tyt_tuple : typeOf (.type "tuple") = pure (.type "type") := by rfl
theorem tyt_bytes : typeOf (.type "bytes") = pure (.type "type") := by rfl
theorem sub_tuple : isSubtype (.type "tuple") (.type "tuple") = pure true := by rw [isSubtype_type]; kernel_rfl
theorem EvT.isTup {np tp e pos l} (G : EnvOk env) (hk : env.kindOf "isinstance" = some .globalImplicit) (hkt : env.kindOf "tuple" = some .globalImplicit) (h : Ev w X A env [] h₁ e (.tup l))
    (he : starEach [e, .Name "tuple" tp] env = (false, eval e env) :: starEach [.Name "tuple" tp] env) (hpl : (backTo pos (starEach [.Name "tuple" tp] env)).any (·.1) = false) 
    (hw : ∀ whole : Sem Value, isTrue (.Call (.Name "isinstance" np) [e, .Name "tuple" tp] [] pos) env whole = (do let v ← whole; standAt pos; holding [v] (truthy v))) :
    EvT w X A env h₁ (.Call (.Name "isinstance" np) [e, .Name "tuple" tp] [] pos) true :=
  EvT.isInst (p := .tup l) G hk hkt (T := "tuple") (by simp [bnames]) h rfl tyt_tuple sub_tuple he hpl rfl hw
theorem EvT.isByt {np tp e pos l} (G : EnvOk env) (hk : env.kindOf "isinstance" = some .globalImplicit) (hkt : env.kindOf "bytes" = some .globalImplicit) (h : Ev w X A env [] h₁ e (.bytes l))
    (he : starEach [e, .Name "bytes" tp] env = (false, eval e env) :: starEach [.Name "bytes" tp] env) (hpl : (backTo pos (starEach [.Name "bytes" tp] env)).any (·.1) = false) 
    (hw : ∀ whole : Sem Value, isTrue (.Call (.Name "isinstance" np) [e, .Name "bytes" tp] [] pos) env whole = (do let v ← whole; standAt pos; holding [v] (truthy v))) :
    EvT w X A env h₁ (.Call (.Name "isinstance" np) [e, .Name "bytes" tp] [] pos) true :=
  EvT.isInst (p := .bytes l) G hk hkt (T := "bytes") (by simp [bnames]) h rfl tyt_bytes sub_bytes he hpl rfl hw
theorem filt_true : ∀ l : List PV, l.filter (fun _ => true) = l := fun l => by simp
noncomputable abbrev natsP (hs : List Nat) : List PV := hs.map fun (n : Nat) => PV.int (n : Int)
theorem nats_imm (hs : List Nat) : ∀ q ∈ natsP hs, q.imm = true := fun q hq => by obtain ⟨n, _, rfl⟩ := List.mem_map.mp hq; rfl
theorem ints_ok {l m : List Int} : ∀ p ∈ intsP l, ∀ q ∈ intsP m, ok1 p q := fun p hp q hq => by
  obtain ⟨a, _, rfl⟩ := List.mem_map.mp hp
  obtain ⟨b, _, rfl⟩ := List.mem_map.mp hq
  trivial
theorem nats_ints (hs : List Nat) : natsP hs = intsP (hs.map fun (n : Nat) => (n : Int)) := by simp [natsP, intsP, Function.comp_def]
theorem nats_ok {l m : List Nat} : ∀ p ∈ natsP l, ∀ q ∈ natsP m, ok1 p q := by rw [nats_ints, nats_ints]; exact ints_ok
theorem eqL_self : ∀ l : List Int, eqL eq1 (intsP l) (intsP l) = true
  | [] => rfl
  | a :: l => by
    have := eqL_self l
    unfold eqL at this ⊢
    simp only [List.map_cons, List.length_cons, List.zip_cons_cons, List.all_cons, beq_self_eq_true, Bool.true_and] at this ⊢
    rw [this]
    show ((a == a) && true) = true
    simp
theorem eqL_nil (l : List PV) : eqL eq1 l [] = l.isEmpty := by
  cases l with
  | nil => rfl
  | cons a l => rfl
theorem filt_nats (p : PV → Bool) (q : Nat → Bool) (h : ∀ n : Nat, p (.int n) = q n) (hs : List Nat) : (natsP hs).filter p = natsP (hs.filter q) := by
  induction hs with
  | nil => rfl
  | cons a l ih =>
    rw [natsP, List.map_cons, List.filter_cons, List.filter_cons, h a]
    cases q a
    · exact ih
    · simp only [if_true, List.map_cons]; exact congrArg _ ih
theorem rng_get {n i : Nat} {q : PV} (h : (rngP n)[i]? = some q) : i < n ∧ q = .int (i : Int) := by
  unfold rngP at h
  rw [List.getElem?_map] at h
  obtain ⟨k, hk, rfl⟩ := Option.map_eq_some_iff.mp h
  have hl := (List.getElem?_eq_some_iff.mp hk).1
  rw [List.length_range] at hl
  rw [List.getElem?_range hl] at hk
  cases hk
  exact ⟨hl, rfl⟩
theorem nats_get {hs : List Nat} {i : Nat} (h : i < hs.length) : (natsP hs)[((i : Nat) : Int).toNat]? = some (.int (hs[i] : Nat)) := by
  rw [Int.toNat_natCast]; simp [natsP, h]
end

section
open PySem PySem.Calls PySem.W PyProof.Rows
set_option maxRecDepth 100000
variable {w : World} {X : Bool} {A : Around} {env : Env} {mu : List Addr} {h₀ : View} {h₁ : Heap} {σ : List (Str × PV)} {bx : Option (Str × Addr × PV)}

/-- picking from a list, whatever it holds -/
noncomputable def pickA {α : Type} (l : List α) (lo hi st : Option Int) : List α := (sliceRange (sliceBounds lo hi st l.length).1 (sliceBounds lo hi st l.length).2.1 (sliceBounds lo hi st l.length).2.2).filterMap (l[·]?)
theorem filterMap_get_map {α β : Type} (f : α → β) (l : List α) : ∀ is : List Nat, is.filterMap ((l.map f)[·]?) = (is.filterMap (l[·]?)).map f
  | [] => rfl
  | i :: is => by
    rw [List.filterMap_cons, List.filterMap_cons, List.getElem?_map, filterMap_get_map f l is]
    cases l[i]? <;> rfl
theorem pickP_map {α : Type} (f : α → PV) (l : List α) (lo hi st) : pickP (l.map f) lo hi st = (pickA l lo hi st).map f := by
  unfold pickP pickA
  rw [List.length_map]
  exact filterMap_get_map f l _
theorem range_get {α : Type} (l : List α) : ∀ (c a : Nat), a + c ≤ l.length → ((List.range c).map (a + ·)).filterMap (l[·]?) = (l.drop a).take c
  | 0, a, _ => by simp
  | c + 1, a, h => by
    have hlt : a < l.length := by omega
    rw [List.range_succ_eq_map, List.map_cons, List.filterMap_cons, Nat.add_zero, List.getElem?_eq_getElem hlt]
    simp only [List.map_map]
    have e : ((fun x => a + x) ∘ Nat.succ) = (fun x => (a + 1) + x) := by funext x; simp; omega
    rw [e, range_get l c (a + 1) (by omega), List.drop_eq_getElem_cons hlt, List.take_succ_cons]
theorem clipAt_nat (n k : Nat) : clipAt n (k : Int) = min n k := by
  have h := clipAt_min (n := n) (y := (k : Int)) (by omega)
  split at h <;> omega
theorem pick_take {α : Type} (l : List α) (k : Nat) : pickA l none (some (k : Int)) none = l.take k := by
  unfold pickA
  rw [sliceBounds_plain]
  simp only [Option.elim_none, Option.elim_some]
  rw [clipAt_nat, sliceRange_one, range_get l _ 0 (by omega), List.drop_zero, Nat.sub_zero]
  by_cases h : l.length ≤ k
  · rw [Nat.min_eq_left h, List.take_length, List.take_of_length_le h]
  · rw [Nat.min_eq_right (by omega)]
theorem pick_mid {α : Type} (l : List α) (a b : Nat) (hab : a ≤ b) (hb : b ≤ l.length) : pickA l (some (a : Int)) (some (b : Int)) none = (l.drop a).take (b - a) := by
  unfold pickA
  rw [sliceBounds_plain]
  simp only [Option.elim_some]
  rw [clipAt_nat, clipAt_nat, Nat.min_eq_right (by omega), Nat.min_eq_right (by omega), sliceRange_one, range_get l _ a (by omega)]

/-- a built-in type called, its argument under other eyes than its result -/
noncomputable def BiX (w : World) (A : Around) (mu' mu : List Addr) (f : Value) (ps : List PV) (q : PV) (h₁ : Heap) : Prop :=
  ∀ (s : Shared) vs, Ok w s.heap → Keep TT h₁ s.heap → RepL (hid mu' s.heap) ps vs → wpAny (model pw w) A (PySem.call f vs) (fun r s' => Nx [] s s' ∧ Rep (hid mu s'.heap) q r) NoE s
theorem Ev.bitX {x np e pos T p q mu'} (G : EnvOk env) (hx : env.kindOf x = some .globalImplicit) (hb : (x, Value.type T) ∈ bnames)
    (ha : Ev w X A env mu' h₁ e p) (hc : BiX w A mu' mu (.type T) [p] q h₁)
    (he : starEach [e] env = [(false, eval e env)]) (hdb : (x == ("__debug__" : Str)) = false) :
    Ev w X A env mu h₁ (.Call (.Name x np) [e] [] pos) q := fun s o k => by
  refine wpAny_Call_NameR ?_
  obtain ⟨mg, hg, _, _, hm⟩ := o.g
  obtain ⟨mb, hb', hmb⟩ := o.b
  refine Name_function_global G.kind hx (loadGlobal_builtin (by rw [G.glob]; exact hg) (hm _ hb) (by rw [G.bi]; exact hb') (hmb _ hb) ?_) hdb
  have L : EvL w X A env mu' h₁ [e] [p] := .cons ha .nil he
  exact PyProof.Rows.callWith_type1 (L.use o k fun vs s₁ n₁ o₁ k₁ r₁ => wpAny_mono (hc s₁ vs o₁ k₁ r₁) (fun _ _ ⟨n₂, r⟩ => ⟨n₁.trans n₂.nil, n₂.ok o₁, r⟩) fun _ _ f => f.elim) he
theorem bix_list_dict {mu'} {l : List (Int × Int)} (hh : A.handled = none) (hf : l.length ≤ 16777216) (hm : MuOld mu h₁) : BiX w A mu' mu (.type "list") [.dict l] (.list (l.map fun x => .int x.1)) h₁ := fun s vs o k r => by
  obtain ⟨v, rfl, r1⟩ := r.one
  obtain ⟨a, rfl⟩ := r1.refDict
  obtain ⟨kvs, ep, vl, hd, hs, _⟩ := r1.isDict (w := w)
  have hl := vl.length
  refine kdl_call (kdl_dict (knd := intKind pw w) (kvs := kvs) (ep := ep) hs) hh hd (by rw [sizeLine_eq]; omega) fun h' tk acc c' hk hD hacc => ?_
  have k1 : Keep [] s.heap h' := Keep.of hk
  refine ⟨⟨k1, rfl, rfl⟩, .list (vs := acc.toList) (n := c') (hid_of (by rw [Array.toArray_toList]; exact hD) (o.fresh (get_size _)) fun q => ?_) ?_⟩
  · obtain ⟨y, e⟩ := hm.at k _ q
    rw [get_size] at e; cases e
  · refine RepL.of_get (by have := hacc.1; simp [this, hl]) fun i v hv => ?_
    obtain ⟨k', x, hx, hk'⟩ := hacc.2 i v (by simpa using hv)
    obtain ⟨t, rfl⟩ := Value.isInt_shape hk'
    obtain ⟨v', t', hv', _⟩ := vl.get hx
    exact ⟨.int k', by simp [hv'], .int _ _⟩

/-- dicts of naturals -/
noncomputable def castD (d : List (Nat × Nat)) : List (Int × Int) := d.map fun x => ((x.1 : Int), (x.2 : Int))
noncomputable def getN (d : List (Nat × Nat)) (k : Nat) : Option Nat := (d.find? fun x => x.1 = k).map (·.2)
noncomputable def putN (d : List (Nat × Nat)) (k v : Nat) : List (Nat × Nat) :=
  if d.any (fun x => x.1 = k) then d.map (fun x => if x.1 = k then (x.1, v) else x) else d ++ [(k, v)]
theorem dget_cast (d : List (Nat × Nat)) (k : Nat) : dget (castD d) (k : Int) = (getN d k).map fun (n : Nat) => (n : Int) := by
  induction d with
  | nil => rfl
  | cons a d ih =>
    unfold dget getN castD at *
    rw [List.map_cons, List.find?_cons, List.find?_cons]
    by_cases h : a.1 = k
    · simp [h]
    · have h' : ¬ ((a.1 : Int) = (k : Int)) := by omega
      simp only [h, h', decide_false]
      exact ih
theorem dput_cast (d : List (Nat × Nat)) (k v : Nat) : dput (castD d) (k : Int) (v : Int) = castD (putN d k v) := by
  have e1 : (castD d).any (fun x => x.1 = (k : Int)) = d.any (fun x => x.1 = k) := by
    unfold castD
    rw [List.any_map]
    congr 1
    funext x
    simp only [Function.comp_def, decide_eq_decide]
    omega
  unfold dput putN
  rw [e1]
  split
  · unfold castD
    rw [List.map_map, List.map_map]
    congr 1
    funext x
    by_cases h : x.1 = k
    · have h' : ((x.1 : Int) = (k : Int)) := by omega
      simp [h]
    · have h' : ¬ ((x.1 : Int) = (k : Int)) := by omega
      simp [h]
      intro e; omega
  · simp [castD]
theorem cast_keys (d : List (Nat × Nat)) : ((castD d).map fun x => PV.int x.1) = natsP (d.map (·.1)) := by simp [castD, natsP, Function.comp_def]
theorem cast_len (d : List (Nat × Nat)) : (castD d).length = d.length := by simp [castD]
theorem and_one (x : Nat) : Builtin.bitAnd (x : Int) 1 = ((x % 2 : Nat) : Int) := by rw [bitAnd_m1]; omega
theorem shr_nat (n p : Nat) : (n : Int).fdiv (2 ^ (p : Int).toNat) = ((n / 2 ^ p : Nat) : Int) := by
  rw [Int.toNat_natCast, Int.fdiv_eq_ediv_of_nonneg _ (by exact Int.le_of_lt (Int.pow_pos (by decide)))]
  norm_cast
theorem shl_nat (n p : Nat) : (n : Int) * 2 ^ (p : Int).toNat = ((n * 2 ^ p : Nat) : Int) := by rw [Int.toNat_natCast]; norm_cast
theorem Sub.nil {env cenv : Env} : Sub env cenv [] := fun y h => by cases h
theorem Sub.cons {env cenv : Env} {x : Str} {p : PV} (h1 : env.kindOf x = some .cell) (h2 : cenv.kindOf x = some .cell) (h3 : cenv.cells.lookup x = env.cells.lookup x) (S : Sub env cenv σ) : Sub env cenv ((x, p) :: σ) := fun y h => by
  rw [List.map_cons, List.mem_cons] at h
  rcases h with rfl | h
  · exact ⟨.inl h1, .inl h2, h3⟩
  · exact S y h
theorem tail_any {s : Shared} {E : Value → Shared → Prop} {value slice : Expr} {o i : Value} {ops : List Value} {Q : Value → Shared → Prop} (h : ItemOn (model pw w) A E o i Q s)
    (hs : subscripted slice false o i = operate ops (getItem o i)) : wpAny (model pw w) A (subscriptTail value slice o i) Q E s := by
  obtain ⟨T, id, hl, hT, hg⟩ := h
  unfold subscriptTail
  refine wpAny_bind ?_
  rw [getitemInPython_of_ne hT.not_modules]
  refine wpAny_bind (wpAny_specialOf hT hl ?_)
  have fin : wpAny (model pw w) A (subscripted slice false o i) (fun r s₃ => wpAny (model pw w) A (letTemporaryGo value o r >>= fun _ => pure r) Q E s₃) E s := by
    rw [hs]
    exact wpAny_operating (wpAny_mono hg (fun r s₃ h₃ => wpAny_bind (wpAny_letTemporaryGo (wpAny_pure h₃))) fun _ _ x => x)
  first
    | exact wpAny_pure (wpAny_bind fin)
    | exact wpAny_bind (wpAny_pure (wpAny_bind fin))
    | exact wpAny_bind fin
theorem Ev.sliceT {v lo hi st p pos l a u c} (hv : Ev w X A env mu h₁ v (.list l)) (hl : PartR w X A env h₁ lo a) (hu : PartR w X A env h₁ hi u) (hs : PartR w X A env h₁ st c) (h0 : c ≠ some 0) (hsz : l.length ≤ 16777216) (hm : MuOld mu h₁)
    (hsub : ∀ x y, ∃ ops, subscripted (.Slice lo hi st p) false (.ref x) (.ref y) = operate ops (getItem (.ref x) (.ref y))) :
    Ev w X A env mu h₁ (.Subscript v (.Slice lo hi st p) pos) (.list (pickP l a u c)) := fun s o k =>
  Subscript_ (hv.use o k fun v₁ s₁ n₁ o₁ k₁ r₁ => wpAny_Slice (hl.use o₁ k₁ fun vl s₂ n₂ o₂ k₂ hpl => hu.use o₂ k₂ fun vu s₃ n₃ o₃ k₃ hpu => hs.use o₃ k₃ fun vc s₄ n₄ o₄ k₄ hpc => by
    obtain ⟨x, rfl⟩ := r₁.refList
    have kk : Keep TT s₁.heap (s₄.heap.push { cls := .type "slice", data := .fields #[vl, vu, vc] }) := (n₂.trans (n₃.trans n₄)).keep.toTT (xs_TT X) |>.trans (.push _ _ _)
    obtain ⟨vs, hl', _, r, _, _⟩ := (r₁.mono (hid_keep kk)).isList
    obtain ⟨ops, hops⟩ := hsub x s₄.heap.objs.size
    obtain ⟨us, hus, ru⟩ := r.slice a u c
    have hlen := r.length
    refine tail_any ⟨"list", _, list_getitem_lookup, hl'.typeIs, wpAny_getItem_list_slice hl' (Heap.IsSliceOf.new _ _ _ _) hpl hpu hpc h0 ?_ ?_⟩ hops
    · have o₅ : Ok w (s₄.heap.push { cls := .type "slice", data := .fields #[vl, vu, vc] }) := o₄.keeps (.push _ _ _)
      refine ⟨n₁.trans (n₂.trans (n₃.trans (n₄.trans ⟨(Keep.push _ _ _).trans (Keep.push _ _ _), rfl, rfl⟩))), o₅.keeps (.push _ _ _), ?_⟩
      rw [hus]
      refine .list (vs := us) (n := 0) ?_ (ru.mono (hid_keep (.push _ _ _)))
      refine new_hid (s := { s₄ with heap := s₄.heap.push { cls := .type "slice", data := .fields #[vl, vu, vc] } }) o₅ ?_
      exact hm.at (k₄.trans (.push _ _ _))
    · rw [List.size_toArray, ← hlen, sizeLine_eq]; exact hsz))

end

section
/-! plain facts of Int2AP's words -/
open PySem
noncomputable def val (l : List UInt8) : Nat := l.foldl (fun w c => w * 16 + (c.toNat - 65)) 0
theorem val_snoc (l : List UInt8) (c : UInt8) : val (l ++ [c]) = val l * 16 + (c.toNat - 65) := by unfold val; rw [List.foldl_append]; rfl
theorem apAt_nat (n : Nat) : (apAt n).toNat = 65 + n % 16 := by
  unfold apAt
  have h : n % 16 < 16 := Nat.mod_lt _ (by omega)
  rw [Nat.toUInt8_eq, UInt8.toNat_ofNat']
  omega
theorem i2ap_zero : i2ap 0 = [] := by unfold i2ap; rw [dif_pos rfl]
theorem val_i2ap (n : Nat) : val (i2ap n) = n := by
  induction n using Nat.strongRecOn with
  | ind n ih =>
    by_cases h : n = 0
    · subst h; rw [i2ap_zero]; rfl
    · rw [i2ap_step n h, val_snoc, ih _ (by omega), apAt_nat]; omega
theorem i2ap_ne {n : Nat} (h : n ≠ 0) : i2ap n ≠ [] := by rw [i2ap_step n h]; simp
theorem ap_good (n : Nat) : ∀ i c, (i2ap n)[i]? = some c → (65 ≤ c.toNat ∧ c.toNat ≤ 80) ∧ ¬ (val ((i2ap n).take i) = 0 ∧ c.toNat = 65) := by
  induction n using Nat.strongRecOn with
  | ind n ih =>
    intro i c hc
    by_cases h : n = 0
    · subst h; rw [i2ap_zero] at hc; simp at hc
    · rw [i2ap_step n h] at hc ⊢
      by_cases hi : i < (i2ap (n / 16)).length
      · rw [List.getElem?_append_left hi] at hc
        rw [List.take_append_of_le_length (by omega)]
        exact ih _ (by omega) i c hc
      · have hi' : i = (i2ap (n / 16)).length := by
          have := (List.getElem?_eq_some_iff.mp hc).1
          simp only [List.length_append, List.length_singleton] at this
          omega
        subst hi'
        rw [List.getElem?_append_right (Nat.le_refl _), Nat.sub_self] at hc
        have : c = apAt n := by simpa using hc.symm
        subst this
        rw [apAt_nat]
        refine ⟨by omega, fun ⟨h1, h2⟩ => ?_⟩
        rw [List.take_append_of_le_length (Nat.le_refl _), List.take_length, val_i2ap] at h1
        omega
theorem val_take (l : List UInt8) (i : Nat) (c : UInt8) (h : l[i]? = some c) : val (l.take (i + 1)) = val (l.take i) * 16 + (c.toNat - 65) := by
  rw [List.take_add_one, h]; exact val_snoc _ _
theorem i2ap_len (n k : Nat) (h : n < 16 ^ k) : (i2ap n).length ≤ k := by
  induction k generalizing n with
  | zero => have : n = 0 := by simpa using h
            subst this; rw [i2ap_zero]; simp
  | succ k ih =>
    by_cases h0 : n = 0
    · subst h0; rw [i2ap_zero]; simp
    · rw [i2ap_step n h0, List.length_append, List.length_singleton]
      have := ih (n / 16) (by rw [Nat.pow_succ] at h; omega)
      omega
end

section
local macro_rules | `(tactic| walk_at "sub") => `(tactic| first | exact sub_nil | exact sub_refl | exact sub_mu | exact sub_own | exact sub_muo)
local macro_rules | `(tactic| walk_at "op") => `(tactic| first | exact .add | exact .sub | exact .and | exact .xor | exact .mod (by first | assumption | omega) | exact .shr (by first | assumption | omega) | exact .shl (by first | assumption | omega) (by first | assumption | omega) (by first | assumption | omega) | exact .mul (by first | assumption | exact .of_right (by decide)))
local macro_rules | `(tactic| walk_at "cmp") => `(tactic| first | exact .lt | exact .gt | exact .le | exact .ge | exact .eq | exact .ne | exact .eqB | exact .neB)
local macro_rules | `(tactic| walk_at "ev") => `(tactic| first
  | exact Ev.cInt | exact Ev.cBytes | exact Ev.cNone | exact Ev.cBool
  | exact Ev.name (Fm.toVars (by assumption)) rfl (by walk_at "sub") rfl rfl
  | exact Ev.name (by assumption : Vars _ _ _ _) rfl (by walk_at "sub") rfl rfl
  | exact Ev.name (CompAt.x (by assumption)) rfl (by walk_at "sub") rfl rfl
  | exact Ev.nameB (Fm.toVarsB (by assumption)) rfl (by walk_at "sub") rfl rfl
  | (refine' Ev.bin ?e1 ?e2 ?e3; (case e1 => walk_at "ev"); (case e2 => walk_at "ev"); (case e3 => walk_at "op")))
local macro_rules | `(tactic| walk_at "evt") => `(tactic| first
  | (refine' EvT.cmp ?e1 ?e2 ?e3 ?e4; (case e1 => walk_at "ev"); (case e2 => walk_at "ev"); (case e3 => walk_at "cmp"); (case e4 => rfl)))
local macro_rules | `(tactic| walk_at "fn") => `(tactic| first | decide +kernel | rfl | (intro vs h; match vs, h with | [_, _], _ => rfl) | (intro vs h; match vs, h with | [_], _ => rfl) | (intro vs h; match vs, h with | [_, _, _], _ => rfl))
local macro_rules | `(tactic| walk_at "cs") => `(tactic| exact ⟨rfl, fun _ => rfl, fun _ => rfl, rfl, by decide +kernel, fun _ => rfl⟩)
local macro_rules | `(tactic| walk_at "ty") => `(tactic| (show builtinType _ = _; rw [builtinType_eq_fast]; kernel_rfl))

section
open PySem PySem.Calls PySem.W PyProof.Rows
set_option maxRecDepth 100000
variable {w : World} {X : Bool}

noncomputable abbrev bytesP (ws : List (List UInt8)) : List PV := ws.map fun x => .bytes x.toArray
noncomputable def tail : List UInt8 := [41, 32, 85, 73, 68, 32, 55, 41]
noncomputable def flagsW : List UInt8 := [70, 76, 65, 71, 83, 32, 40]
noncomputable abbrev spB : Array UInt8 := #[32]
noncomputable def bodyOf (hs : List Nat) : Array UInt8 := PySem.Builtin.Bytes.joined spB (hs.map fun n => (i2ap n).toArray)
noncomputable def lineOf (ahead : Array UInt8) (hs : List Nat) : Array UInt8 := ahead ++ flagsW.toArray ++ bodyOf hs ++ tail.toArray
noncomputable def apP : PV → PV | .int n => .bytes (i2ap n.toNat).toArray | p => p

theorem fn_told (hs : List Nat) (ahead : Array UInt8) (hl : hs.length ≤ 5) (hb : ∀ n ∈ hs, n < 32) (hsz : ahead.size ≤ 1000) (ws : List Nat) (hws : ws.length ≤ 5) (hwb : ∀ n ∈ ws, n < 32)
    (hj : (bodyOf hs).size ≤ 1000) (hj2 : (hs.map fun n => (i2ap n).toArray).foldl (fun n x => n + x.size) (1 * (hs.length - 1)) ≤ 1000)
    (hP : Fn w false 1 dParse.addr [.bytes (lineOf ahead hs)] (.tup (bytesP (ws.map i2ap)))) (heq : ws = hs.filter (0 < ·)) : Fn w false 2 dTold.addr [.list (natsP hs), .bytes ahead] (.list (natsP ws)) := by
  refine Fn.of ["heaps", "ahead"] (by simp [defs]) rfl (by walk_at "fn") (by walk_at "fn") (by walk_at "fn") (by walk_at "fn") (by walk_at "fn") rfl rfl rfl rfl ?_
  intro A L mu h₀ R
  refine Ex.assign (p := .tup (bytesP (ws.map i2ap))) (fun h o F => ?_) rfl (.inl rfl) (no_box _) ?_
  · refine Ev.app (d := dParse) F.ok rfl (by simp [defs]) rfl hP R F.muOld' (.cons ?_ .nil rfl) rfl rfl
    refine (Ev.bin (p := .bytes (ahead ++ flagsW.toArray ++ bodyOf hs)) (q := .bytes tail.toArray) ?_ (by walk_at "ev") (.addB ?_)).eq rfl
    · refine (Ev.bin (p := .bytes (ahead ++ flagsW.toArray)) (q := .bytes (bodyOf hs)) ?_ ?_ (.addB ?_))
      · refine Ev.bin (p := .bytes ahead) (q := .bytes flagsW.toArray) ?_ (by walk_at "ev") (.addB ?_)
        · walk_at "ev"
        · simp [flagsW]; omega
      · refine Ev.join (sep := spB) (ps := hs.map fun n => (i2ap n).toArray) (by walk_at "ev") ?_ (by simp; omega) ?_ ?_ rfl rfl rfl
        · refine' Ev.eq ?a1 ?b1
          case a1 =>
            refine Ev.lcomp (qs := natsP hs) (cx := false) (cl := []) (fun _ => true) apP (by walk_at "cs") F.ok (It.list (by walk_at "ev") R.handled) (by simp; omega) MuOld.nil (fun C z h' q hq ho hc => ⟨rfl, fun _ => ?_⟩)
            obtain ⟨n, hn, rfl⟩ := List.mem_map.mp hq
            refine Ev.app (d := dInt2AP) hc.ok rfl (by simp [defs]) rfl (fn_int2ap n ?_) R (hc.muOld MuOld.nil) (.cons (by walk_at "ev") .nil rfl) rfl rfl
            exact Nat.le_trans (i2ap_len n 2 (by have := hb n hn; omega)) (by decide)
          case b1 => rw [filt_true, List.map_map, List.map_map]; rfl
        · simp only [List.length_map]; exact Nat.le_trans hj2 (by decide)
        · exact Nat.le_trans hj (by decide)
      · simp [flagsW]; omega
    · simp [flagsW, tail]; omega
  refine Ex.ite (u := !true) (fun h o F => EvT.not (EvT.isTup F.ok rfl rfl (by walk_at "ev") rfl rfl (fun _ => rfl))) (fun h => by cases h) (fun _ => ?_)
  refine Ex.newBox (fun h o F => EvN.nil) (by simp; decide) rfl (.inl rfl) fun a => ?_
  let σ₀ : List (Str × PV) := [("told", .tup (bytesP (ws.map i2ap))), ("heaps", .list (natsP hs)), ("ahead", .bytes ahead)]
  refine Ex.pre (I' := Fm w false h₀ (fenv dTold L) mu σ₀ (some ("read", a, .list (natsP (ws.take 0))))) (fun h o F => F) ?_
  refine Ex.forr (p := .list (natsP ws)) (qs := bytesP (ws.map i2ap)) (fun _ => σ₀) (fun i => some ("read", a, .list (natsP (ws.take i)))) (fun h o F => It.tup (by walk_at "ev") R.handled) (.inl rfl) (fun i y b q e => by cases e; decide) (fun _ => rfl) ?_ (fun _ _ h => h) ?_
  · intro i q B hq
    obtain ⟨x, hx, rfl⟩ := List.getElem?_map .. ▸ hq |> Option.map_eq_some_iff.mp
    rw [List.getElem?_map] at hx
    obtain ⟨m, hm, rfl⟩ := Option.map_eq_some_iff.mp hx
    have hmem : m ∈ ws := List.mem_of_getElem? hm
    have hmh : m < 32 := hwb m hmem
    have hm0 : m ≠ 0 := by
      rw [heq] at hmem
      have := (List.mem_filter.mp hmem).2
      simp at this; omega
    have hlen : (i2ap m).length ≤ 2 := i2ap_len m 2 (by omega)
    refine Ex.ite (u := !true) (fun h o F => EvT.not (EvT.isByt (l := (i2ap m).toArray) F.ok rfl rfl (by walk_at "ev") rfl rfl (fun _ => rfl))) (fun h => by cases h) (fun _ => ?_)
    refine Ex.assign (p := .int 0) (fun h o F => by walk_at "ev") rfl (.inl rfl) (fun y b q e => by cases e; decide) ?_
    let σ₁ : List (Str × PV) := [("word", .bytes (i2ap m).toArray), ("told", .tup (bytesP (ws.map i2ap))), ("heaps", .list (natsP hs)), ("ahead", .bytes ahead)]
    refine Ex.pre (I' := Fm w false B (fenv dTold L) mu (("worth", .int (val ((i2ap m).take 0) : Nat)) :: σ₁) (some ("read", a, .list (natsP (ws.take i))))) (fun h o F => F.weaken (by simp only [σ₁, List.forall_mem_cons]; exact ⟨rfl, rfl, rfl, rfl, rfl, by simp⟩)) ?_
    refine Ex.forr (p := .list (natsP ws)) (qs := (i2ap m).toArray.toList.map fun c => .int (c.toNat : Int)) (fun j => ("worth", .int (val ((i2ap m).take j) : Nat)) :: σ₁) (fun _ => some ("read", a, .list (natsP (ws.take i)))) (fun h o F => It.bytes (by walk_at "ev") R.handled) (.inl rfl) (fun i y b q e => by cases e; decide) (fun _ => rfl) ?_ (fun _ _ h => .inr h) ?_
    · intro j q B hq
      rw [List.getElem?_map] at hq
      obtain ⟨c, hc, rfl⟩ := Option.map_eq_some_iff.mp hq
      have hc' : (i2ap m)[j]? = some c := by simpa using hc
      obtain ⟨⟨g1, g2⟩, g3⟩ := ap_good m j c hc'
      refine Ex.ite (u := false) (fun h o F => ?_) (fun h => by cases h) (fun _ => ?_)
      · refine' EvT.eq ?a2 ?b2
        case a2 =>
          refine' EvT.bool (EvTL.or ?t1 fun _ => EvTL.or ?t2 fun _ => EvTL.or (EvT.bool (EvTL.and ?t3 fun _ => EvTL.and ?t4 fun _ => EvTL.and_nil)) fun _ => EvTL.or_nil)
          case t1 => walk_at "evt"
          case t2 => walk_at "evt"
          case t3 => walk_at "evt"
          case t4 => walk_at "evt"
        case b2 =>
          have e1 : decide ((c.toNat : Int) < 65) = false := by simp; omega
          have e2 : decide ((c.toNat : Int) > 80) = false := by simp; omega
          have e3 : (((val ((i2ap m).take j) : Nat) : Int) == 0 && ((c.toNat : Int) == 65 && true)) = false := by
            rw [Bool.and_true, Bool.and_eq_false_iff]
            by_cases hv : val ((i2ap m).take j) = 0
            · right; simp; omega
            · left; simp; omega
          rw [e1, e2, e3]; rfl
      · refine Ex.assign (p := .int (val ((i2ap m).take (j + 1)) : Nat)) (fun h o F => ?_) rfl (.inl rfl) (fun y b q e => by cases e; decide) ?_
        · refine' Ev.eq ?a3 ?b3
          case a3 => walk_at "ev"
          case b3 =>
            have := val_take _ _ _ hc'
            rw [this]
            congr 1
            omega
        · exact Ex.nil fun h F => .inl ⟨rfl, F.weaken (by simp only [σ₁, List.forall_mem_cons]; exact ⟨rfl, rfl, rfl, rfl, rfl, by simp⟩)⟩
    · have e1 : ((i2ap m).toArray.toList.map fun c => PV.int (c.toNat : Int)).length = (i2ap m).length := by simp
      rw [e1, List.take_length, val_i2ap]
      refine Ex.append (p := .int (m : Int)) (fun h o F => by walk_at "ev") rfl (fun q hq => by obtain ⟨n, _, rfl⟩ := List.mem_map.mp (List.mem_of_mem_take (by rw [natsP, List.map_take] at hq; exact hq)); rfl) (by simp; omega) rfl rfl rfl rfl rfl rfl rfl ?_
      have e2 : natsP (ws.take i) ++ [.int (m : Int)] = natsP (ws.take (i + 1)) := by
        rw [List.take_add_one, hm]; simp [natsP]
      rw [e2]
      exact Ex.nil fun h F => .inl ⟨rfl, F.weaken (by simp only [σ₀, List.forall_mem_cons]; exact ⟨rfl, rfl, rfl, by simp⟩)⟩
  · refine Ex.unbox ?_
    have e1 : (bytesP (ws.map i2ap)).length = ws.length := by simp
    rw [e1, List.take_length]
    refine Ex.ret fun h o F => ?_
    refine Ev.ifexp (u := true) ?_ (fun _ => by walk_at "ev") (fun h => by cases h)
    refine' EvT.eq (EvT.lists (ps := natsP ws) (qs := natsP ws) (by walk_at "ev") ?c4 ?o4 (R.le (Nat.le_refl _)) .eq rfl) ?e4
    case c4 =>
      refine' Ev.eq ?a5 ?b5
      case a5 =>
        refine Ev.lcomp (qs := natsP hs) (cx := false) (cl := []) (fun p => match p with | .int n => decide (n > 0) | _ => false) id (by walk_at "cs") F.ok (It.list (by walk_at "ev") R.handled) (by simp; omega) MuOld.nil (fun C z h' q hq ho hc => ?_)
        obtain ⟨n, hn, rfl⟩ := List.mem_map.mp hq
        exact ⟨(by walk_at "evt" : EvT _ _ _ _ _ _ _), fun _ => by walk_at "ev"⟩
      case b5 =>
        rw [heq, List.map_id]
        exact congrArg PV.list (filt_nats _ _ (fun n => by show decide ((n : Int) > 0) = decide (0 < n); simp) hs)
    case o4 => exact nats_ok
    case e4 => rw [nats_ints]; exact eqL_self _
end

section
open PySem PySem.Calls PySem.W PyProof.Rows
set_option maxRecDepth 100000
variable {w : World} {X : Bool}

noncomputable def drawStep (hs : List Nat) (f : Nat) (st : Int × List Nat) (k : Nat) : Int × List Nat :=
  (st.1.fdiv (hs.getD ((f + k) % hs.length) 1 : Nat), st.2.set ((f + k) % hs.length) (st.1.fmod (hs.getD ((f + k) % hs.length) 1 : Nat)).toNat)
noncomputable def drawGo (hs : List Nat) (f : Nat) (c : Int) (n : Nat) : Int × List Nat := (List.range n).foldl (drawStep hs f) (c, hs)
theorem drawGo_succ (hs : List Nat) (f : Nat) (c : Int) (n : Nat) : drawGo hs f c (n + 1) = drawStep hs f (drawGo hs f c n) n := by
  unfold drawGo; rw [List.range_succ, List.foldl_append]; rfl
theorem drawGo_len (hs : List Nat) (f : Nat) (c : Int) : ∀ n, (drawGo hs f c n).2.length = hs.length
  | 0 => rfl
  | n + 1 => by rw [drawGo_succ]; unfold drawStep; rw [List.length_set]; exact drawGo_len hs f c n
noncomputable def drawF (hs : List Nat) (c : Int) : Nat := (c.fmod (hs.length : Nat)).toNat
noncomputable def drawN (hs : List Nat) (most : Nat) (c : Int) : Nat := min (((c.fdiv (hs.length : Nat)).fmod (most : Nat)).toNat + 1) hs.length
noncomputable def drawn (hs : List Nat) (most : Nat) (c : Int) : Int × List Nat := drawGo hs (drawF hs c) ((c.fdiv (hs.length : Nat)).fdiv (most : Nat)) (drawN hs most c)
theorem fmod_nat (c : Int) (n : Nat) (h : 0 < n) : 0 ≤ c.fmod n ∧ c.fmod n < n := by
  rw [Int.fmod_eq_emod_of_nonneg _ (by omega)]
  exact ⟨Int.emod_nonneg _ (by omega), Int.emod_lt_of_pos _ (by omega)⟩

theorem fn_drawn (hs : List Nat) (most : Nat) (c : Int) (hl : hs.length ≤ 5) (hl0 : 0 < hs.length) (hb : ∀ n ∈ hs, 0 < n ∧ n < 32) (hm : 0 < most ∧ most ≤ 3) :
    Fn w false 2 dDrawn.addr [.list (natsP hs), .int most, .int c] (.tup [.list (natsP (drawn hs most c).2), .int (drawn hs most c).1]) := by
  refine Fn.of ["heaps", "most", "cell"] (by simp [defs]) rfl (by walk_at "fn") (by walk_at "fn") (by walk_at "fn") (by walk_at "fn") (by walk_at "fn") rfl rfl rfl rfl ?_
  intro A L mu h₀ R
  refine Ex.newBox (fun h o F => EvN.copy F.ok rfl (by walk_at "ev") (nats_imm hs) (by simp; omega) rfl) (by simp; decide) rfl (.inl rfl) fun a => ?_
  have lenE : (natsP hs).length = hs.length := by simp
  obtain ⟨f1, f2⟩ := fmod_nat c hs.length hl0
  obtain ⟨m1, m2⟩ := fmod_nat (c.fdiv (hs.length : Nat)) most hm.1
  refine Ex.pair (R.le (Nat.zero_le _)) (p := .int (c.fdiv (hs.length : Nat))) (q := .int (drawF hs c : Nat)) (fun h o F => ?_) rfl rfl (.inl rfl) (.inl rfl) (fun y b q e => by cases e; decide) (fun y b q e => by cases e; decide) rfl rfl ?_
  · refine' Ev.eq (Ev.bif (id := "divmod") F.ok rfl (by simp [bnames]) (.cons (p := .int c) (by walk_at "ev") (.cons (p := .int (hs.length : Nat)) ?len1 .nil rfl) rfl) (bi_divmod (by omega) (by omega) F.muOld') (fun _ _ h => h) rfl rfl rfl) ?e1
    case len1 =>
      refine Ev.eq (Ev.bif (mu' := full _ mu _) (id := "len") F.ok rfl (by simp [bnames]) (.cons (p := .list (natsP hs)) (by walk_at "ev") .nil rfl) (bi_len_list (by omega)) (imm_any rfl) rfl rfl rfl) (by rw [lenE])
    case e1 => unfold drawF; rw [Int.toNat_of_nonneg f1]
  refine Ex.pair (R.le (Nat.zero_le _)) (p := .int ((c.fdiv (hs.length : Nat)).fdiv (most : Nat))) (q := .int (((c.fdiv (hs.length : Nat)).fmod (most : Nat)).toNat : Nat)) (fun h o F => ?_) rfl rfl (.inl rfl) (.inl rfl) (fun y b q e => by cases e; decide) (fun y b q e => by cases e; decide) rfl rfl ?_
  · refine' Ev.eq (Ev.bif (id := "divmod") F.ok rfl (by simp [bnames]) (.cons (p := .int (c.fdiv (hs.length : Nat))) (by walk_at "ev") (.cons (p := .int (most : Nat)) (by walk_at "ev") .nil rfl) rfl) (bi_divmod (by omega) (by omega) F.muOld') (fun _ _ h => h) rfl rfl rfl) ?e2
    case e2 => rw [Int.toNat_of_nonneg m1]
  let c₂ := (c.fdiv (hs.length : Nat)).fdiv (most : Nat)
  let σ₀ : List (Str × PV) := [("first", .int (drawF hs c : Nat)), ("heaps", .list (natsP hs))]
  refine Ex.pre (I' := Fm w false h₀ (fenv dDrawn L) mu (("cell", .int (drawGo hs (drawF hs c) c₂ 0).1) :: ("many", .int (((c.fdiv (hs.length : Nat)).fmod (most : Nat)).toNat : Nat)) :: σ₀) (some ("moved", a, .list (natsP (drawGo hs (drawF hs c) c₂ 0).2)))) (fun h o F => F.weaken (by simp only [σ₀, List.forall_mem_cons]; exact ⟨rfl, rfl, rfl, rfl, by simp⟩)) ?_
  refine Ex.forr (p := .tup [.list (natsP (drawn hs most c).2), .int (drawn hs most c).1]) (qs := rngP (drawN hs most c)) (fun i => ("cell", .int (drawGo hs (drawF hs c) c₂ i).1) :: ("many", .int (((c.fdiv (hs.length : Nat)).fmod (most : Nat)).toNat : Nat)) :: σ₀) (fun i => some ("moved", a, .list (natsP (drawGo hs (drawF hs c) c₂ i).2)))
    (fun h o F => ?_) (.inl rfl) (fun i y b q e => by cases e; decide) (fun _ => rfl) ?_ (fun _ _ h => h) ?_
  · refine It.range1 F.ok rfl rfl ?_ R.handled (by unfold drawN; omega) rfl
    refine' Ev.eq (Ev.bif (mu' := []) (id := "min") F.ok rfl (by simp [bnames]) (.cons (p := .int ((((c.fdiv (hs.length : Nat)).fmod (most : Nat)).toNat : Nat) + 1 : Int)) (by walk_at "ev") (.cons (p := .int (hs.length : Nat)) ?len3 .nil rfl) rfl) (bi_min R.handled) (imm_any rfl) rfl rfl rfl) ?e3
    case len3 =>
      refine Ev.eq (Ev.bif (mu' := full _ mu _) (id := "len") F.ok rfl (by simp [bnames]) (.cons (p := .list (natsP hs)) (by walk_at "ev") .nil rfl) (bi_len_list (by omega)) (imm_any rfl) rfl rfl rfl) (by rw [lenE])
    case e3 =>
      unfold drawN
      congr 1
      split <;> omega
  · intro i q B hq
    obtain ⟨hi, rfl⟩ := rng_get hq
    have hat : (drawF hs c + i) % hs.length < hs.length := Nat.mod_lt _ hl0
    have hh := hb _ (List.getElem_mem hat)
    have hgd : hs.getD ((drawF hs c + i) % hs.length) 1 = hs[(drawF hs c + i) % hs.length] := by simp [List.getD, hat]
    refine Ex.assign (p := .int ((drawF hs c + i) % hs.length : Nat)) (fun h o F => ?_) rfl (.inl rfl) (fun y b q e => by cases e; decide) ?_
    · refine' Ev.eq (Ev.bin (p := .int (drawF hs c + i : Int)) (q := .int (hs.length : Nat)) ?l4 ?r4 (.mod (by omega))) ?e4
      case l4 => walk_at "ev"
      case r4 => refine Ev.eq (Ev.bif (mu' := full _ mu _) (id := "len") F.ok rfl (by simp [bnames]) (.cons (p := .list (natsP hs)) (by walk_at "ev") .nil rfl) (bi_len_list (by omega)) (imm_any rfl) rfl rfl rfl) (by rw [lenE])
      case e4 => rw [Int.fmod_eq_emod_of_nonneg _ (by omega)]; simp
    refine Ex.pairSet (R.le (Nat.zero_le _)) (p := .int (drawGo hs (drawF hs c) c₂ (i + 1)).1) (q := .int (((drawGo hs (drawF hs c) c₂ i).1.fmod (hs.getD ((drawF hs c + i) % hs.length) 1 : Nat)).toNat : Nat)) (n := ((drawF hs c + i) % hs.length : Nat)) (fun h o F => ?_) rfl rfl (fun h o F => by walk_at "ev")
      (by omega) (by simp [drawGo_len]; exact_mod_cast hat) (by simp [drawGo_len]; omega) (nats_imm _) (.inl rfl) (by decide) rfl rfl rfl rfl rfl ?_
    · refine' Ev.eq (Ev.bif (id := "divmod") F.ok rfl (by simp [bnames]) (.cons (p := .int (drawGo hs (drawF hs c) c₂ i).1) (by walk_at "ev") (.cons (p := .int (hs[(drawF hs c + i) % hs.length] : Nat)) ?it5 .nil rfl) rfl) (bi_divmod (by omega) (by omega) F.muOld') (fun _ _ h => h) rfl rfl rfl) ?e5
      case it5 =>
        refine Ev.item (l := natsP hs) (n := ((drawF hs c + i) % hs.length : Nat)) (by walk_at "ev") (by walk_at "ev") (by omega) (by omega) (nats_get hat) (fun _ _ => rfl) (fun _ _ => rfl)
      case e5 =>
        rw [drawGo_succ, drawStep, hgd, Int.toNat_of_nonneg (fmod_nat _ _ hh.1).1]
    · have e1 : (natsP (drawGo hs (drawF hs c) c₂ i).2).set (((drawF hs c + i) % hs.length : Nat) : Int).toNat (.int (((drawGo hs (drawF hs c) c₂ i).1.fmod (hs.getD ((drawF hs c + i) % hs.length) 1 : Nat)).toNat : Nat)) = natsP (drawGo hs (drawF hs c) c₂ (i + 1)).2 := by
        rw [drawGo_succ, drawStep, Int.toNat_natCast]; simp [natsP, List.map_set]
      rw [e1]
      exact Ex.nil fun h F => .inl ⟨rfl, F.weaken (by simp only [σ₀, List.forall_mem_cons]; exact ⟨rfl, rfl, rfl, rfl, by simp⟩)⟩
  · refine Ex.unbox ?_
    have e1 : (rngP (drawN hs most c)).length = drawN hs most c := by simp [rngP]
    rw [e1]
    exact Ex.ret fun h o F => Ev.tuple (.cons (by walk_at "ev") (.cons (by walk_at "ev") .nil rfl) rfl) F.muO (by simp)
end

section
open PySem PySem.Calls PySem.W PyProof.Rows
set_option maxRecDepth 100000
set_option maxHeartbeats 4000000
variable {w : World} {X : Bool}

noncomputable def onesOf (hs : List Nat) (d : List (Nat × Nat)) (p : Nat) : List Nat := (List.range hs.length).filter fun k => (getN d k).isNone && (hs.getD k 0 / 2 ^ p) % 2 == 1
noncomputable def raiseAll (p : Nat) (d : List (Nat × Nat)) (ks : List Nat) : List (Nat × Nat) := ks.foldl (fun d k => putN d k ((getN d k).getD 0 + 2 ^ p)) d
noncomputable def cutAll (hs : List Nat) (p : Nat) (d : List (Nat × Nat)) (ks : List Nat) : List (Nat × Nat) := ks.foldl (fun d k => putN d k (hs.getD k 0 / 2 ^ (p + 1) * 2 ^ (p + 1))) d
noncomputable def replyStep (hs : List Nat) (most : Nat) (d : List (Nat × Nat)) (p : Nat) : List (Nat × Nat) :=
  if (onesOf hs d p).length % (most + 1) + d.length > most then raiseAll p d ((d.map (·.1)).take (most + 1 - (onesOf hs d p).length % (most + 1)))
  else cutAll hs p d ((onesOf hs d p).take ((onesOf hs d p).length % (most + 1)))
noncomputable def places : List Nat := [4, 3, 2, 1, 0]
noncomputable def replyOf (hs : List Nat) (most : Nat) : List (Nat × Nat) := places.foldl (replyStep hs most) []
theorem foldl_take {α β : Type} (f : α → β → α) (a : α) (l : List β) (i : Nat) (x : β) (h : l[i]? = some x) : (l.take (i + 1)).foldl f a = f ((l.take i).foldl f a) x := by
  rw [List.take_add_one, h, Option.toList_some, List.foldl_append]; rfl
theorem putN_len (d : List (Nat × Nat)) (k v : Nat) : (putN d k v).length ≤ d.length + 1 := by
  unfold putN; split <;> simp
theorem putN_keys (d : List (Nat × Nat)) (k v : Nat) (h : (getN d k).isSome = true) : (putN d k v).map (·.1) = d.map (·.1) := by
  unfold putN
  have : d.any (fun x => x.1 = k) = true := by
    unfold getN at h
    rw [Option.isSome_map, List.find?_isSome] at h
    rw [List.any_eq_true]; exact h
  rw [if_pos this, List.map_map]
  congr 1
  funext x
  by_cases e : x.1 = k <;> simp [e]
theorem getN_mem (d : List (Nat × Nat)) (k : Nat) (h : k ∈ d.map (·.1)) : (getN d k).isSome = true := by
  unfold getN
  rw [Option.isSome_map, List.find?_isSome]
  obtain ⟨x, hx, rfl⟩ := List.mem_map.mp h
  exact ⟨x, hx, by simp⟩
theorem raise_keys (p : Nat) : ∀ (ks : List Nat) (d : List (Nat × Nat)), (∀ k ∈ ks, k ∈ d.map (·.1)) → (raiseAll p d ks).map (·.1) = d.map (·.1)
  | [], d, _ => rfl
  | k :: ks, d, h => by
    have h1 := putN_keys d k ((getN d k).getD 0 + 2 ^ p) (getN_mem d k (h k (.head _)))
    show (raiseAll p (putN d k _) ks).map (·.1) = _
    rw [raise_keys p ks _ (fun j hj => by rw [h1]; exact h j (.tail _ hj)), h1]
theorem cut_len (hs : List Nat) (p : Nat) : ∀ (ks : List Nat) (d : List (Nat × Nat)), (cutAll hs p d ks).length ≤ d.length + ks.length
  | [], d => Nat.le_refl _
  | k :: ks, d => by
    have h1 := putN_len d k (hs.getD k 0 / 2 ^ (p + 1) * 2 ^ (p + 1))
    have h2 := cut_len hs p ks (putN d k (hs.getD k 0 / 2 ^ (p + 1) * 2 ^ (p + 1)))
    show (cutAll hs p (putN d k _) ks).length ≤ _
    rw [List.length_cons]; omega
theorem reply_len (hs : List Nat) (most : Nat) (d : List (Nat × Nat)) (p : Nat) : (replyStep hs most d p).length ≤ d.length + most := by
  unfold replyStep
  split
  · have := congrArg List.length (raise_keys p ((d.map (·.1)).take (most + 1 - (onesOf hs d p).length % (most + 1))) d fun k hk => List.mem_of_mem_take hk)
    simp only [List.length_map] at this
    omega
  · have := cut_len hs p ((onesOf hs d p).take ((onesOf hs d p).length % (most + 1))) d
    have h2 : (onesOf hs d p).length % (most + 1) < most + 1 := Nat.mod_lt _ (by omega)
    rw [List.length_take] at this
    omega
theorem reply_take_len (hs : List Nat) (most : Nat) : ∀ (l : List Nat) (d : List (Nat × Nat)), (l.foldl (replyStep hs most) d).length ≤ d.length + l.length * most
  | [], d => by simp
  | p :: l, d => by
    have h1 := reply_len hs most d p
    have h2 := reply_take_len hs most l (replyStep hs most d p)
    rw [List.foldl_cons, List.length_cons, Nat.add_mul]
    omega

noncomputable abbrev σR (hs : List Nat) (most : Nat) : List (Str × PV) := [("heaps", .list (natsP hs)), ("most", .int (most : Nat))]
theorem fn_reply (hs : List Nat) (most : Nat) (hl : hs.length ≤ 5) (hb : ∀ n ∈ hs, n < 32) (hm : 0 < most ∧ most ≤ 3) :
    Fn w false 2 dReply.addr [.list (natsP hs), .int most] (.dict (castD (replyOf hs most))) := by
  refine Fn.of ["heaps", "most"] (by simp [defs]) rfl (by walk_at "fn") (by walk_at "fn") (by walk_at "fn") (by walk_at "fn") (by walk_at "fn") rfl rfl rfl rfl ?_
  intro A L mu h₀ R
  have lenE : (natsP hs).length = hs.length := by simp
  refine Ex.newBox (fun h o F => EvN.emp) (by simp; decide) rfl (.inr ⟨rfl, _, rfl⟩) fun a => ?_
  refine Ex.pre (I' := Fm w false h₀ (fenv dReply L) mu (σR hs most) (some ("lowered", a, .dict (castD ((places.take 0).foldl (replyStep hs most) []))))) (fun h o F => F) ?_
  refine Ex.forr (p := .dict (castD (replyOf hs most))) (qs := natsP places) (fun _ => σR hs most) (fun i => some ("lowered", a, .dict (castD ((places.take i).foldl (replyStep hs most) []))))
    (fun h o F => It.list (Ev.list (.cons (by walk_at "ev") (.cons (by walk_at "ev") (.cons (by walk_at "ev") (.cons (by walk_at "ev") (.cons (by walk_at "ev") .nil rfl) rfl) rfl) rfl) rfl) F.muOld' (by simp [places])) R.handled) (.inr ⟨rfl, _, rfl⟩) (fun i y b q e => by cases e; decide) (fun _ => rfl) ?_ (fun _ _ h => h) ?_
  · intro i q B hq
    rw [List.getElem?_map] at hq
    obtain ⟨p, hp, rfl⟩ := Option.map_eq_some_iff.mp hq
    have hp4 : p ≤ 4 := by
      have := List.mem_of_getElem? hp
      simp [places] at this
      omega
    have hp1 : (p : Int) + 1 = ((p + 1 : Nat) : Int) := by omega
    have hil : i < 5 := (List.getElem?_eq_some_iff.mp hp).1
    rw [foldl_take _ _ _ _ _ hp]
    have hdl : ((places.take i).foldl (replyStep hs most) []).length ≤ 15 := by
      have := reply_take_len hs most (places.take i) []
      have h2 : (places.take i).length ≤ 5 := by rw [List.length_take]; simp [places]; omega
      have h3 : (places.take i).length * most ≤ 5 * 3 := Nat.mul_le_mul h2 hm.2
      simp only [List.length_nil] at this
      omega
    generalize (places.take i).foldl (replyStep hs most) [] = d at hdl
    have ol : (onesOf hs d p).length ≤ 5 := Nat.le_trans (List.length_filter_le _ _) (by rw [List.length_range]; exact hl)
    refine Ex.lcomp (qs := rngP hs.length) (cx := false) (cl := [("place", L + 3), ("lowered", L + 2), ("heaps", L + 1)]) (fun p' => match p' with | .int n => (getN d n.toNat).isNone && (hs.getD n.toNat 0 / 2 ^ p) % 2 == 1 | _ => false) id
      (fun h o F => It.range1 F.ok rfl rfl ?_ R.handled (by omega) rfl) (by simp [rngP]; omega) (fun h₁ o₁ F => ⟨by walk_at "cs", fun C z h' q hq ho hc => ?_⟩) rfl (.inl rfl) (fun y b q e => by cases e; decide) ?_
    · refine Ev.eq (Ev.bif (mu' := full _ mu _) (id := "len") F.ok rfl (by simp [bnames]) (.cons (p := .list (natsP hs)) (by walk_at "ev") .nil rfl) (bi_len_list (by omega)) (imm_any rfl) rfl rfl rfl) (by rw [lenE])
    · obtain ⟨k, hk, rfl⟩ := List.mem_map.mp hq
      have hkl : k < hs.length := by simpa using hk
      have hgd : hs.getD k 0 = hs[k] := by simp [List.getD, hkl]
      have V : Vars (fenv dReply L) (full (fenv dReply L) mu _) [("heaps", .list (natsP hs)), ("place", .int p)] h₁ := (F.weaken (σ' := [("heaps", .list (natsP hs)), ("place", .int p)]) (by simp only [List.forall_mem_cons]; exact ⟨rfl, rfl, by simp⟩)).toVars
      have VB : Vars (fenv dReply L) (own (fenv dReply L) ++ mu) [("lowered", .dict (castD d))] h₁ := ⟨F.ok, F.toVarsB.var⟩
      have V1 := hc.vars V (.cons rfl rfl rfl (.cons rfl rfl rfl .nil))
      have V2 := hc.vars VB (.cons rfl rfl rfl .nil)
      have V3 := hc.x.join V1 sub_refl
      clear V1 V VB
      refine ⟨?_, fun _ => by walk_at "ev"⟩
      refine' EvT.eq (EvT.bool (EvTL.and (EvT.inDict (mu' := z ++ (own (fenv dReply L) ++ mu)) (k := (k : Int)) (l := castD d) (by walk_at "ev") (Ev.name V2 rfl sub_refl rfl rfl) .notIn rfl) fun _ => EvTL.and (EvT.cmp (p := .int ((hs.getD k 0 / 2 ^ p % 2 : Nat) : Int)) (q := .int 1) ?xa1 (by walk_at "ev") .eq rfl) fun _ => EvTL.and_nil)) ?e1
      case xa1 =>
        refine Ev.eq (Ev.app (d := dIand) hc.ok rfl (by simp [defs]) rfl (fn_iand _ 1) R MuOld.nil (.cons (p := .int ((hs.getD k 0 / 2 ^ p : Nat) : Int)) ?_ (.cons (by walk_at "ev") .nil rfl) rfl) rfl rfl) (by rw [and_one])
        refine Ev.eq (Ev.app (d := dIrshift) hc.ok rfl (by simp [defs]) rfl (fn_irshift (hs[k] : Nat) (p : Nat) (by omega)) R MuOld.nil (.cons ?_ (.cons (by walk_at "ev") .nil rfl) rfl) rfl rfl) (by rw [shr_nat, hgd])
        exact Ev.item (l := natsP hs) (n := (k : Nat)) (by walk_at "ev") (by walk_at "ev") (by omega) (by omega) (nats_get hkl) (fun _ _ => rfl) (fun _ _ => rfl)
      case e1 =>
        show ((!(dget (castD d) (k : Int)).isSome) && (((hs.getD k 0 / 2 ^ p % 2 : Nat) : Int) == 1 && true)) = ((getN d (k : Int).toNat).isNone && hs.getD (k : Int).toNat 0 / 2 ^ p % 2 == 1)
        rw [dget_cast, Int.toNat_natCast, Option.isSome_map, Bool.and_true]
        congr 1
        · cases getN d k <;> rfl
        · by_cases hx : hs.getD k 0 / 2 ^ p % 2 = 1
          · rw [hx]; rfl
          · have h1 : (hs.getD k 0 / 2 ^ p % 2 == 1) = false := by simpa using hx
            rw [h1]
            simp only [beq_eq_false_iff_ne, ne_eq]
            omega
    · have eo : ((rngP hs.length).filter (fun p' => match p' with | .int n => (getN d n.toNat).isNone && (hs.getD n.toNat 0 / 2 ^ p) % 2 == 1 | _ => false)).map id = natsP (onesOf hs d p) := by
        rw [List.map_id]
        exact filt_nats _ _ (fun n => by simp) _
      rw [eo]
      have ml : (onesOf hs d p).length % (most + 1) < most + 1 := Nat.mod_lt _ (by omega)
      have eR : replyStep hs most d p = if (onesOf hs d p).length % (most + 1) + d.length > most then raiseAll p d ((d.map (·.1)).take (most + 1 - (onesOf hs d p).length % (most + 1)))
          else cutAll hs p d ((onesOf hs d p).take ((onesOf hs d p).length % (most + 1))) := rfl
      have oE : (natsP (onesOf hs d p)).length = (onesOf hs d p).length := by simp
      have om : ∀ k ∈ onesOf hs d p, k < hs.length := fun k hk => by
        have := (List.mem_filter.mp hk).1
        simpa using this
      refine Ex.assign (p := .int ((onesOf hs d p).length % (most + 1) : Nat)) (fun h o F => ?_) rfl (.inl rfl) (fun y b q e => by cases e; decide) ?_
      · refine' Ev.eq (Ev.app (d := dImod) F.ok rfl (by simp [defs]) rfl (fn_imod ((onesOf hs d p).length : Nat) ((most : Nat) + 1 : Int) (by omega)) R F.muOld' (.cons ?l2 (.cons (by walk_at "ev") .nil rfl) rfl) rfl rfl) ?e2
        case l2 => exact Ev.eq (Ev.bif (mu' := full _ mu _) (id := "len") F.ok rfl (by simp [bnames]) (.cons (p := .list (natsP (onesOf hs d p))) (by walk_at "ev") .nil rfl) (bi_len_list (by omega)) (imm_any rfl) rfl rfl rfl) (by rw [oE])
        case e2 =>
          have : ((most : Int) + 1) = ((most + 1 : Nat) : Int) := by omega
          rw [this, Int.fmod_eq_emod_of_nonneg _ (by omega)]
          norm_cast
      generalize hlk : (onesOf hs d p).length % (most + 1) = lack at ml eR
      refine Ex.ite (u := decide ((lack : Int) + (d.length : Nat) > (most : Nat))) (fun h o F => ?_) (fun hu => ?_) (fun hu => ?_)
      · refine' EvT.eq (EvT.cmp (p := .int ((lack : Int) + (d.length : Nat))) (q := .int (most : Nat)) ?x3 (by walk_at "ev") .gt rfl) rfl
        case x3 =>
          refine' Ev.bin (p := .int (lack : Nat)) (q := .int (d.length : Nat)) (by walk_at "ev") ?y4 .add
          case y4 => exact Ev.eq (Ev.bif (mu' := own _ ++ mu) (id := "len") F.ok rfl (by simp [bnames]) (.cons (p := .dict (castD d)) (by walk_at "ev") .nil rfl) (bi_len_dict (by rw [cast_len]; omega)) (imm_any rfl) rfl rfl rfl) (by rw [cast_len])
      · have hu' : lack + d.length > most := by have := of_decide_eq_true hu; omega
        rw [if_pos hu'] at eR
        rw [eR]
        let σ₁ : List (Str × PV) := ("lack", .int (lack : Nat)) :: ("ones", .list (natsP (onesOf hs d p))) :: ("place", .int (p : Nat)) :: σR hs most
        refine Ex.pre (I' := Fm w false B (fenv dReply L) mu σ₁ (some ("lowered", a, .dict (castD (raiseAll p d (((d.map (·.1)).take (most + 1 - lack)).take 0)))))) (fun h o F => F) ?_
        refine Ex.forr (p := .dict (castD (replyOf hs most))) (qs := natsP ((d.map (·.1)).take (most + 1 - lack))) (fun _ => σ₁) (fun i => some ("lowered", a, .dict (castD (raiseAll p d (((d.map (·.1)).take (most + 1 - lack)).take i)))))
          (fun h o F => ?_) (.inl rfl) (fun i y b q e => by cases e; decide) (fun _ => rfl) ?_ (fun _ _ h => .inr h) ?_
        · refine It.list ?_ R.handled
          refine' Ev.eq (Ev.sliceT (l := natsP (d.map (·.1))) (u := some (((most : Int) + 1) - (lack : Nat))) ?v5 .none (.some (by walk_at "ev")) .none (by decide) (by simp; omega) F.muOld' (fun _ _ => ⟨_, rfl⟩)) ?e5
          case v5 => exact Ev.eq (Ev.bitX (T := "list") (mu' := own _ ++ mu) (p := .dict (castD d)) F.ok rfl (by simp [bnames]) (by walk_at "ev") (bix_list_dict R.handled (by rw [cast_len]; omega) F.muOld') rfl rfl) (by rw [cast_keys])
          case e5 =>
            have : ((most : Int) + 1) - (lack : Nat) = ((most + 1 - lack : Nat) : Int) := by omega
            rw [this, natsP, pickP_map, pick_take]
        · intro j q B' hq'
          rw [List.getElem?_map] at hq'
          obtain ⟨k, hk, rfl⟩ := Option.map_eq_some_iff.mp hq'
          have ek : raiseAll p d (((d.map (·.1)).take (most + 1 - lack)).take (j + 1)) = putN (raiseAll p d (((d.map (·.1)).take (most + 1 - lack)).take j)) k ((getN (raiseAll p d (((d.map (·.1)).take (most + 1 - lack)).take j)) k).getD 0 + 2 ^ p) := foldl_take _ _ _ _ _ hk
          have hkeys := raise_keys p (((d.map (·.1)).take (most + 1 - lack)).take j) d fun k hk => List.mem_of_mem_take (List.mem_of_mem_take hk)
          have hkl := congrArg List.length hkeys
          simp only [List.length_map] at hkl
          have hks : (getN (raiseAll p d (((d.map (·.1)).take (most + 1 - lack)).take j)) k).isSome = true := getN_mem _ _ (by rw [hkeys]; exact List.mem_of_mem_take (List.mem_of_getElem? hk))
          generalize raiseAll p d (((d.map (·.1)).take (most + 1 - lack)).take j) = d' at ek hkl hks
          obtain ⟨x, hx⟩ := Option.isSome_iff_exists.mp hks
          rw [hx, Option.getD_some] at ek
          refine Ex.dput (k := (k : Int)) (v := ((x + 2 ^ p : Nat) : Int)) (fun h o F => by walk_at "ev") (fun h o F => ?_) (by rw [cast_len, hkl]; omega) rfl rfl rfl ?_
          · refine' Ev.eq (Ev.app (d := dIadd) F.ok rfl (by simp [defs]) rfl (fn_iadd (x : Nat) (2 ^ p : Nat)) R MuOld.nil (.cons ?xa6 (.cons ?xb6 .nil rfl) rfl) rfl rfl) ?xc6
            case xa6 => exact Ev.itemD (mu' := own _ ++ mu) (l := castD d') (k := (k : Nat)) (by walk_at "ev") (by walk_at "ev") (by rw [dget_cast, hx]; rfl) (fun _ _ => rfl) (fun _ _ => rfl)
            case xb6 => exact Ev.eq (Ev.app (d := dIlshift) F.ok rfl (by simp [defs]) rfl (fn_ilshift (1 : Nat) (p : Nat) (by omega) (by omega) (by decide)) R MuOld.nil (.cons (by walk_at "ev") (.cons (by walk_at "ev") .nil rfl) rfl) rfl rfl) (by rw [shl_nat, Nat.one_mul])
            case xc6 => norm_cast
          · rw [dput_cast, ← ek]
            exact Ex.nil fun h F => .inl ⟨rfl, F.weaken (by simp only [σ₁, σR, List.forall_mem_cons]; exact ⟨rfl, rfl, rfl, rfl, rfl, by simp⟩)⟩
        · have e1 : (natsP ((d.map (·.1)).take (most + 1 - lack))).length = ((d.map (·.1)).take (most + 1 - lack)).length := by simp
          rw [e1, List.take_length]
          exact Ex.nil fun h F => .inl ⟨rfl, F.weaken (by simp only [σ₁, σR, List.forall_mem_cons]; exact ⟨rfl, rfl, by simp⟩)⟩
      · have hu' : ¬ (lack + d.length > most) := by have := of_decide_eq_false hu; omega
        rw [if_neg hu'] at eR
        rw [eR]
        let σ₁ : List (Str × PV) := ("lack", .int (lack : Nat)) :: ("ones", .list (natsP (onesOf hs d p))) :: ("place", .int (p : Nat)) :: σR hs most
        refine Ex.pre (I' := Fm w false B (fenv dReply L) mu σ₁ (some ("lowered", a, .dict (castD (cutAll hs p d (((onesOf hs d p).take lack).take 0)))))) (fun h o F => F) ?_
        refine Ex.forr (p := .dict (castD (replyOf hs most))) (qs := natsP ((onesOf hs d p).take lack)) (fun _ => σ₁) (fun i => some ("lowered", a, .dict (castD (cutAll hs p d (((onesOf hs d p).take lack).take i)))))
          (fun h o F => ?_) (.inl rfl) (fun i y b q e => by cases e; decide) (fun _ => rfl) ?_ (fun _ _ h => .inr h) ?_
        · refine It.list ?_ R.handled
          refine' Ev.eq (Ev.sliceL (l := natsP (onesOf hs d p)) (u := some ((lack : Nat) : Int)) (by walk_at "ev") .none (.some (by walk_at "ev")) .none (by decide) (by simp; omega) F.muOld' (fun _ _ => ⟨_, rfl⟩) (fun _ _ => rfl)) ?e7
          case e7 => rw [natsP, pickP_map, pick_take]
        · intro j q B' hq'
          rw [List.getElem?_map] at hq'
          obtain ⟨k, hk, rfl⟩ := Option.map_eq_some_iff.mp hq'
          have hkn : k < hs.length := om k (List.mem_of_mem_take (List.mem_of_getElem? hk))
          have hgd : hs.getD k 0 = hs[k] := by simp [List.getD, hkn]
          have hb32 := hb _ (List.getElem_mem hkn)
          have ek : cutAll hs p d (((onesOf hs d p).take lack).take (j + 1)) = putN (cutAll hs p d (((onesOf hs d p).take lack).take j)) k (hs.getD k 0 / 2 ^ (p + 1) * 2 ^ (p + 1)) := foldl_take _ _ _ _ _ hk
          have hcl := cut_len hs p (((onesOf hs d p).take lack).take j) d
          have hcl2 : (((onesOf hs d p).take lack).take j).length ≤ 5 := by rw [List.length_take, List.length_take]; omega
          generalize cutAll hs p d (((onesOf hs d p).take lack).take j) = d' at ek hcl
          have hdiv : hs[k] / 2 ^ (p + 1) ≤ hs[k] := Nat.div_le_self _ _
          refine Ex.dput (k := (k : Int)) (v := ((hs.getD k 0 / 2 ^ (p + 1) * 2 ^ (p + 1) : Nat) : Int)) (fun h o F => by walk_at "ev") (fun h o F => ?_) (by rw [cast_len]; omega) rfl rfl rfl ?_
          · refine' Ev.eq (Ev.app (d := dIlshift) F.ok rfl (by simp [defs]) rfl (fn_ilshift (hs[k] / 2 ^ (p + 1) : Nat) ((p + 1 : Nat) : Int) (by omega) (by omega) (by rw [Int.natAbs_natCast]; omega)) R MuOld.nil (.cons ?xa8 (.cons ?xb8 .nil rfl) rfl) rfl rfl) ?xc8
            case xa8 =>
              refine' Ev.eq (Ev.app (d := dIrshift) F.ok rfl (by simp [defs]) rfl (fn_irshift (hs[k] : Nat) ((p + 1 : Nat) : Int) (by omega)) R MuOld.nil (.cons ?ya9 (.cons ?yb9 .nil rfl) rfl) rfl rfl) ?yc9
              case ya9 => exact Ev.item (l := natsP hs) (n := (k : Nat)) (by walk_at "ev") (by walk_at "ev") (by omega) (by omega) (nats_get hkn) (fun _ _ => rfl) (fun _ _ => rfl)
              case yb9 => exact Ev.eq (p := PV.int ((p : Int) + 1)) (by walk_at "ev") (congrArg PV.int hp1)
              case yc9 => rw [shr_nat]
            case xb8 => exact Ev.eq (p := PV.int ((p : Int) + 1)) (by walk_at "ev") (congrArg PV.int hp1)
            case xc8 => rw [shl_nat, hgd]
          · rw [dput_cast, ← ek]
            exact Ex.nil fun h F => .inl ⟨rfl, F.weaken (by simp only [σ₁, σR, List.forall_mem_cons]; exact ⟨rfl, rfl, rfl, rfl, rfl, by simp⟩)⟩
        · have e1 : (natsP ((onesOf hs d p).take lack)).length = ((onesOf hs d p).take lack).length := by simp
          rw [e1, List.take_length]
          exact Ex.nil fun h F => .inl ⟨rfl, F.weaken (by simp only [σ₁, σR, List.forall_mem_cons]; exact ⟨rfl, rfl, by simp⟩)⟩
  · refine Ex.unbox ?_
    exact Ex.ret fun h o F => by walk_at "ev"
end

section
open PySem PySem.Calls PySem.W PyProof.Rows
set_option maxRecDepth 100000
variable {w : World} {X : Bool} {A : Around} {env : Env} {mu : List Addr} {h₀ : View} {h₁ : Heap} {σ : List (Str × PV)} {bx : Option (Str × Addr × PV)}

/-- the environment of a call of a nested def -/
noncomputable def cenvF (sc : Scope) (L : Addr) (clos : List (Str × Addr)) (q : Str) (f : Addr) (cd : Value) : Env := newEnv sc L mainGlobals clos (q ++ ".<locals>.") (some f) cd none builtinsNs

theorem clos_open {f : Addr} {o : Obj} {fd : FuncData} {sc : Scope} {clos : List (Str × Addr)} {body : List Stmt} {names : List Str} {ps : List PV} {vs : List Value} {s : Shared} {σc : List (Str × PV)} {Q : Value → Shared → Prop}
    (O : Ok w s.heap) (hrep : Rep (hid [] s.heap) (.fn f o) (.ref f)) (hd : o.data = .func fd) (hsc : fd.scope = sc) (hg : fd.globals = mainGlobals) (hbi : fd.builtins = builtinsNs) (hcl : fd.closure = clos) (hbody : fd.body = .stmts body)
    (hbind : bindArgs fd ⟨vs, []⟩ = pure (names.zip vs)) (hlen : names.length = ps.length) (hnd : names.Nodup) (hr : RepL (hid (bxa bx) s.heap) ps vs) (hkind : ∀ x ∈ names, sc.names.lookup x = some .local) (hcell : ∀ x ∈ sc.names, x.2 ≠ .cell) (hclk : ∀ y ∈ clos, sc.names.lookup y.1 = some .free)
    (hk : sc.kind = .function) (hco : sc.isCoroutine = false) (hgen : sc.isGenerator = false) (hap : clos.Pairwise fun x y => x.2 ≠ y.2) (R : A.depth < recursionLimit)
    (hc : ∀ x p, σc.lookup x = some p → sc.names.lookup x = some .free ∧ ∃ v c, clos.lookup x = some c ∧ c ∉ TT ∧ s.heap.IsCell c (some v) ∧ Rep (hid (bxa bx) s.heap) p v)
    (hbx : ∀ x a p, bx = some (x, a, p) → sc.names.lookup x = some .free ∧ (∃ c, clos.lookup x = some c ∧ c ∉ TT ∧ s.heap.IsCell c (some (.ref a))) ∧ Rep (hid [] s.heap) p (.ref a) ∧ a ∉ okAddrs)
    (H : ∀ L h' tk, (∀ b o, s.heap.get? b = some o → h'.get? b = some o) → Ok w h' → Fm w false (fun b => if b ∈ bxa bx then none else s.heap.get? b) (cenvF sc L clos fd.qualname f fd.code) [] (names.zip ps ++ σc) bx h' →
      wpAny (model pw w) (A.deeper (cenvF sc L clos fd.qualname f fd.code)) (execs body (cenvF sc L clos fd.qualname f fd.code)) (fun fl s' => Q (match fl with | .ret v => v | _ => .none) s') NoE { s with heap := h', toks := tk }) :
    wpAny (model pw w) A (PySem.call (.ref f) vs) Q NoE s := by
  cases hrep with
  | @fn _ _ fd' c oc us t e hcls hdn hd' hcode hoc hocd hv =>
    rw [hd] at hd'; cases hd'
    have hf := (hid_some e).1
    have hcd : s.heap.CodeRec fd.code fd.qualname := ⟨c, oc, us, t, hcode, (hid_some hoc).1, hocd, hv⟩
    have hlv : names.length = vs.length := by rw [hlen, hr.length]
    refine wpAny_call (codeAny_call_function (fd := fd) (body := body) R hf hd (by rw [hsc]; exact hco) (by rw [hsc]; exact hgen) hbody hcd ?_)
    rw [hbind]
    refine wpAny_pure (wpAny_newFunctionEnv (by rw [hsc]; exact hcell) (fun x hx => ?_) (fun h' hns hsb => ?_) (by rw [hsc]; exact hk))
    · have hxn : x.1 ∈ names := by rw [← zip_fst (vs := vs) hlv]; exact List.mem_map.mpr ⟨x, hx, rfl⟩
      rw [hsc]; exact hkind _ hxn
    · rw [hsc, hg, hbi, hcl]
      have hk' : ∀ b ob, s.heap.get? b = some ob → h'.get? b = some ob := fun b ob eb => by
        exact hsb.extBut b ob (Nat.ne_of_lt (Heap.lt_size eb)) (Heap.get?_push_of_some _ eb)
      have O' : Ok w h' := O.keeps (Keep.of hk')
      refine ⟨O'.nolimit, codeAny_func ?_⟩
      have hnew : s.heap.get? s.heap.objs.size = none := get_size _
      have hown : ∀ b ∈ own (cenvF sc s.heap.objs.size clos fd.qualname f fd.code), b = s.heap.objs.size := fun b hb => by
        rcases mem_ownC.mp hb with h | ⟨y, hy, hky, _⟩
        · exact h
        · have := hclk y hy
          have h2 : (cenvF sc s.heap.objs.size clos fd.qualname f fd.code).kindOf y.1 = sc.names.lookup y.1 := rfl
          rw [h2, this] at hky; cases hky
      have hle : View.le (hid (bxa bx) s.heap) (hid (bxa bx ++ own (cenvF sc s.heap.objs.size clos fd.qualname f fd.code) ++ []) h') := fun b ob eb => by
        obtain ⟨e1, e2, e3⟩ := hid_some eb
        refine hid_of (hk' _ _ e1) e2 fun q => ?_
        simp only [List.append_nil, List.mem_append] at q
        rcases q with q | q
        · exact e3 q
        · rw [hown b q, hnew] at e1; cases e1
      refine wpAny_mono (H s.heap.objs.size h' _ hk' O' ?_) (fun _ _ h => h) fun _ _ f => f.elim
      exact {
        ok := ⟨hk, rfl, rfl⟩
        keep := fun b ob _ eb => by
          dsimp only at eb
          split at eb
          · cases eb
          · exact hk' _ _ eb
        newO := fun b hb => by
          rw [hown b hb]
          refine ⟨?_, O.fresh hnew, fun q => by obtain ⟨x, ex⟩ := O.addr _ q; rw [hnew] at ex; cases ex⟩
          split
          · rfl
          · exact hnew
        ns := ⟨_, hns⟩
        cell := fun y hy hky => by
          have := hclk y hy
          have h2 : (cenvF sc s.heap.objs.size clos fd.qualname f fd.code).kindOf y.1 = sc.names.lookup y.1 := rfl
          rw [h2, this] at hky; cases hky
        apart := hap
        muOld := MuOld.nil
        vars := fun x p ex => by
          rw [List.lookup_append] at ex
          cases e1 : (names.zip ps).lookup x with
          | some p' =>
            rw [e1] at ex
            have : p' = p := by simpa using ex
            subst this
            obtain ⟨v, hv', rv⟩ := zip_rep hr e1
            have hxn : x ∈ names := by rw [← zip_fst (vs := vs) hlv]; exact List.mem_map.mpr ⟨_, hv', rfl⟩
            refine ⟨v, .inl ⟨hkind x hxn, O.fresh hnew, _, hns, ?_⟩, rv.mono hle⟩
            refine lookup_of_nodup (l := (names.zip vs).reverse) ?_ (List.mem_reverse.mpr hv')
            rw [List.map_reverse, zip_fst hlv]
            exact List.pairwise_reverse.mpr (List.Pairwise.imp (fun h => Ne.symm h) hnd)
          | none =>
            rw [e1] at ex
            obtain ⟨k1, v, cc, k2, k3, k4, k5⟩ := hc x p (by simpa using ex)
            exact ⟨v, .inr ⟨.inr k1, cc, k2, k3, let ⟨oo, ho, hh⟩ := k4; ⟨oo, hk' _ _ ho, hh⟩⟩, k5.mono hle⟩
        box := fun x a p ex => by
          obtain ⟨k1, ⟨cc, k2, k3, k4⟩, k5, k6⟩ := hbx x a p ex
          refine ⟨.inr ⟨.inr k1, cc, k2, k3, let ⟨oo, ho, hh⟩ := k4; ⟨oo, hk' _ _ ho, hh⟩⟩, k5.mono fun b ob eb => ?_, ?_, k6⟩
          · obtain ⟨e1, e2, e3⟩ := hid_some eb
            refine hid_of (hk' _ _ e1) e2 fun q => ?_
            simp only [List.append_nil] at q
            rw [hown b q, hnew] at e1; cases e1
          · subst ex
            exact if_pos (by simp [bxa]) }
end

section
open PySem PySem.Calls PySem.W PyProof.Rows
set_option maxRecDepth 100000
variable {w : World} {X : Bool} {A : Around} {env : Env} {mu : List Addr} {h₀ : View} {h₁ : Heap} {σ : List (Str × PV)} {bx : Option (Str × Addr × PV)}

theorem CodeRec.tab {h h' : Heap} {cd q P ps} (x : h.CodeRec cd q) (k : Heap.ExtBut P h h') (hP : h.get? P = some (tabObj ps)) (hps : ∀ q t, ps[1]? ≠ some (.str q t)) : h'.CodeRec cd q :=
  let ⟨c, o, vs, t, e, g, d, r⟩ := x
  ⟨c, o, vs, t, e, k _ _ (by rintro rfl; rw [hP] at g; cases g; cases d; exact hps _ _ r) g, d, r⟩
theorem TabAt.tab {h h' : Heap} {c P line col q P' ps'} (x : TabAt h c P line col q) (k : Heap.ExtBut P' h h') (hP : h.get? P' = some (tabObj ps')) (hps : ∀ q t, ps'[1]? ≠ some (.str q t)) (h1 : c ≠ P') (h2 : P ≠ P') : TabAt h' c P line col q := by
  obtain ⟨ps, hc, ht, r⟩ := x
  exact ⟨ps, hc.extBut k h1 h2, ht.extBut k h1 h2, r.imp id fun ⟨c', e, r⟩ => ⟨c', e, CodeRec.tab r k hP hps⟩⟩
theorem Ok.turned {h h' : Heap} {P ps} (x : Ok w h) (k : Heap.ExtBut P h h') (hP : h.get? P = some (tabObj ps)) (hps : ∀ q t, ps[1]? ≠ some (.str q t))
    (hne : P ∉ defs.map (·.addr) ++ defs.map (·.code) ++ [mainGlobals, builtinsNs, cStatics, 33, 35, 36, 4]) (t1 : TabAt h' 56 52 21 4 "_int2digits.<locals>.inner") (t2 : TabAt h' 63 59 36 4 "_digits2int.<locals>.inner") : Ok w h' := by
  have ne : ∀ c ∈ defs.map (·.addr) ++ defs.map (·.code) ++ [mainGlobals, builtinsNs, cStatics, 33, 35, 36, 4], c ≠ P := fun c hc e => hne (e ▸ hc)
  exact {
    fn := fun d hd => k _ _ (ne _ (by simp only [List.mem_append, List.mem_map]; exact .inl (.inl ⟨d, hd, rfl⟩))) (x.fn d hd)
    cr := fun d hd => CodeRec.tab (x.cr d hd) k hP hps
    g := let ⟨mg, n, r⟩ := x.g; ⟨mg, n.extBut k (ne _ (by simp)), r⟩
    b := let ⟨mg, n, r⟩ := x.b; ⟨mg, n.extBut k (ne _ (by simp)), r⟩
    gb := let ⟨mg, n, r⟩ := x.gb; ⟨mg, n.extBut k (ne _ (by simp)), r⟩
    bmod := let ⟨ob, e, r⟩ := x.bmod; ⟨ob, k _ _ (ne _ (by simp)) e, r⟩
    nolimit := let ⟨mg, n, r⟩ := x.nolimit; ⟨mg, n.extBut k (ne _ (by simp)), r⟩
    pat := k _ _ (ne _ (by simp)) x.pat
    ptup := k _ _ (ne _ (by simp)) x.ptup
    pdict := k _ _ (ne _ (by simp)) x.pdict
    t1 := t1
    t2 := t2 }

theorem codeHd_keepsT {h h' : Heap} {c P P' : Addr} (x : CodeHd h c P) (k : Heap.ExtBut P' h h') (hn : c ≠ P') : CodeHd h' c P :=
  let ⟨o, vs, file, tf, flags, tg, inF, text, tt, e, r⟩ := x; ⟨o, vs, file, tf, flags, tg, inF, text, tt, k _ _ hn e, r⟩
/-- what a nested def's function object is -/
noncomputable def MadeF (o : Obj) (name q : Str) (params : Arguments) (body : List Stmt) (scope : Scope) (clos : List (Str × Addr)) : Prop :=
  ∃ doc pm c ct, o.data = .func (fnX name q params body scope clos .none .none doc pm none (.ref c) ct)

/-- no record of a code object -/
noncomputable def NoRec (o : Obj) : Prop := ∀ vs q t, o.data = .fields vs → vs[1]? ≠ some (.str q t)
theorem Fm.noRec {h : Heap} (F : Fm w X h₀ env [] σ bx h) (hb : ∀ x a p, bx = some (x, a, p) → (∃ l, p = .list l)) : ∀ a ∈ full env [] bx, ∀ o, h.get? a = some o → NoRec o := by
  intro a ha o e vs q t d
  simp only [full, List.append_nil, List.mem_append] at ha
  rcases ha with ha | ha
  · cases bx with
    | none => cases ha
    | some y =>
      obtain ⟨x, a', p⟩ := y
      have ea : a = a' := by simpa [bxa] using ha
      subst ea
      obtain ⟨_, r, _⟩ := F.box _ _ _ rfl
      obtain ⟨l, rfl⟩ := hb _ _ _ rfl
      cases r with
      | list e1 _ => rw [(hid_some e1).1] at e; cases e; cases d
  · rcases mem_ownC.mp ha with rfl | ⟨y, hy, hk, rfl⟩
    · obtain ⟨m, ob, es, ep, e1, d1, _⟩ := F.ns
      rw [e1] at e; cases e; rw [d1] at d; cases d
    · obtain ⟨v, ob, e1, d1⟩ := F.cell y hy hk
      rw [e1] at e; cases e; rw [d1] at d; cases d

/-- def name(..): within a def of the top; P the table of its code object -/
theorem Ex.nest {name : Str} {params : Arguments} {body rest : List Stmt} {scope : Scope} {pos : Pos} {J clos} {c P : Addr} {q : Str}
    (hP : (c = 56 ∧ P = 52 ∧ pos.line = 21 ∧ pos.col = 4 ∧ q = "_int2digits.<locals>.inner") ∨ (c = 63 ∧ P = 59 ∧ pos.line = 36 ∧ pos.col = 4 ∧ q = "_digits2int.<locals>.inner"))
    (hcode : env.code = .ref c) (hq : qualnameIn env name name = q) (hcl : closureFor scope env = pure clos) (hd0 : params.defaults = []) (hk0 : params.kw_defaults = []) (ha : annTrees params none env = [])
    (hst : StoreOk env name) (hbx : ∀ y a q, bx = some (y, a, q) → name ≠ y) (hb : ∀ x a p, bx = some (x, a, p) → (∃ l, p = .list l))
    (hr : ∀ f o, MadeF o name q params body scope clos → Ex w A env (Fm w true h₀ env [] ((name, .fn f o) :: σ) bx) rest J) :
    Ex w A env (Fm w true h₀ env [] σ bx) (.FunctionDef name params body [] none [] scope none name pos :: rest) J := by
  refine Ex.cons (I' := fun h => ∃ fo : Addr × Obj, MadeF fo.2 name q params body scope clos ∧ Fm w true h₀ env [] ((name, .fn fo.1 fo.2) :: σ) bx h) (Ex1.nextOnly fun s O F => nestDef_K hd0 hk0 ha ?_) (Ex.ex fun fo => fun s o ⟨m, F⟩ => hr fo.1 fo.2 m s o F)
  rw [hq]
  have G := F.ok.glob
  obtain ⟨mg, hg, hbm⟩ := O.gb
  obtain ⟨ob, hob, o1, o2, o3⟩ := O.bmod
  have hT : ∃ ps, s.heap.IsCode c P ps ∧ s.heap.TableAt c P ps ∧ (ps = #[] ∨ ∃ c', ps = #[rawInt pos.line, rawInt pos.col, .ref c'] ∧ s.heap.CodeRec (.ref c') q) := by
    rcases hP with ⟨rfl, rfl, e1, e2, rfl⟩ | ⟨rfl, rfl, e1, e2, rfl⟩
    · rw [e1, e2]; exact O.t1
    · rw [e1, e2]; exact O.t2
  have hPT : P ∈ TT := by rcases hP with ⟨_, rfl, _⟩ | ⟨_, rfl, _⟩ <;> simp [TT]
  have hP4 : 4 ≠ P := by rcases hP with ⟨_, rfl, _⟩ | ⟨_, rfl, _⟩ <;> decide
  have hPg : mainGlobals ≠ P := by rcases hP with ⟨_, rfl, _⟩ | ⟨_, rfl, _⟩ <;> decide
  obtain ⟨ps, hc, ht, hps⟩ := hT
  have C := CodeHd.of hc ht
  have trip : TriplesOk ps.toList := by obtain ⟨_, _, _, _, _, _, _, _, _, _, _, _, _, _, _, _, _, _, _, h, _⟩ := hc; exact h
  have hBA : s.heap.BuiltinsAt mg P := ⟨4, ob, hbm, by decide, by decide, hP4, hob, o1, o2, o3⟩
  have hfull := F.noRec hb
  have hps1 : ∀ q t, ps[1]? ≠ some (.str q t) := fun q t => by
    rcases hps with rfl | ⟨c', rfl, _⟩ <;> simp [rawInt]
  -- what both ways come to
  have fin : ∀ (c' : Addr) (ctv doc : Value) (h' : Heap) (tk : Tok), Heap.ExtBut P s.heap h' → s.heap.objs.size ≤ h'.objs.size → Ok w h' → h'.CodeRec (.ref c') q → (c' ∉ TT ∧ c' ∉ full env [] bx) →
      wpAny (model pw w) A (storeName env name (.ref h'.objs.size)) (fun _ s'' => s''.gens = s.gens ∧ s''.os = s.os ∧ Ok w s''.heap ∧ Flow.next = Flow.next ∧ ∃ fo : Addr × Obj, MadeF fo.2 name q params body scope clos ∧ Fm w true h₀ env [] ((name, .fn fo.1 fo.2) :: σ) bx s''.heap) NoE
        { s with heap := h'.push (fnMade name q params body scope clos doc ((mg "__name__").getD .none) c' ctv), toks := tk } := by
    intro c' ctv doc h' tk hx hsz O' hrec hcf
    have kT : Keep (xs true) s.heap (h'.push (fnMade name q params body scope clos doc ((mg "__name__").getD .none) c' ctv)) := fun b o hb e => Heap.get?_push_of_some _ (hx b o (fun q => hb (q ▸ hPT)) e)
    have F' := F.kp kT
    have O₂ : Ok w (h'.push (fnMade name q params body scope clos doc ((mg "__name__").getD .none) c' ctv)) := O'.keeps (.push _ _ _)
    have hfn : h'.objs.size ∉ full env [] bx := fun q => by
      obtain ⟨_, x, e⟩ := F.muOld' _ q
      exact absurd (Heap.lt_size e) (Nat.not_lt.mpr hsz)
    obtain ⟨c₂, oc, vs, t, e2, hoc, hd, hv⟩ := hrec
    cases e2
    refine store_go (p := .fn h'.objs.size (fnMade name q params body scope clos doc ((mg "__name__").getD .none) c' ctv)) F' O₂ hst hbx ?_ fun h₃ tk₃ F₃ O₃ => ⟨rfl, rfl, O₃, rfl, (_, _), ⟨doc, _, c', ctv, rfl⟩, F₃⟩
    refine .fn (c := c') (oc := oc) (vs := vs) (t := t) (hid_of (Heap.get?_push_size _ rfl) (O'.fresh (get_size _)) hfn) rfl rfl rfl rfl (hid_of (Heap.get?_push_of_some _ hoc) hcf.1 hcf.2) hd hv
  rcases hps with rfl | ⟨c', rfl, hrec⟩
  · refine makeFunction_K (mg := mg) hcl G hg hcode C ht.2 trip rfl hPg hBA fun c' ctv doc h' tk hx hge hlt hrec htb => ?_
    have hnew : s.heap.get? c' = none := by
      cases e : s.heap.get? c' with
      | none => rfl
      | some o => exact absurd (Heap.lt_size e) (Nat.not_lt.mpr hge)
    have hsz : s.heap.objs.size ≤ h'.objs.size := Nat.le_of_lt (Nat.lt_of_le_of_lt hge hlt)
    have htab : TabAt h' c P pos.line pos.col q := ⟨_, (codeHd_keepsT C hx (by rcases hP with ⟨rfl, rfl, _⟩ | ⟨rfl, rfl, _⟩ <;> decide)).code htb (by simp [TriplesOk, rawInt]), (codeHd_keepsT C hx (by rcases hP with ⟨rfl, rfl, _⟩ | ⟨rfl, rfl, _⟩ <;> decide)).tab htb, .inr ⟨c', by simp, hrec⟩⟩
    have O' : Ok w h' := by
      rcases hP with ⟨rfl, rfl, e1, e2, rfl⟩ | ⟨rfl, rfl, e1, e2, rfl⟩
      · rw [e1, e2] at htab
        exact O.turned hx ht.2 (fun q t => by simp) (by decide +kernel) htab (O.t2.tab hx ht.2 (fun q t => by simp) (by decide) (by decide))
      · rw [e1, e2] at htab
        exact O.turned hx ht.2 (fun q t => by simp) (by decide +kernel) (O.t1.tab hx ht.2 (fun q t => by simp) (by decide) (by decide)) htab
    refine fin c' ctv doc h' tk hx hsz O' hrec ⟨O.fresh hnew, fun q => ?_⟩
    obtain ⟨_, x, e⟩ := F.muOld' _ q
    rw [hnew] at e; cases e
  · refine makeFunction_hit (mg := mg) (cv := .ref c') hcl G hg hcode C ht.2 trip ?_ hBA fun ctv doc h' tk hk hsz => ?_
    · simp [codeAmong, rawInt]
    · have hcn : c' ∉ TT ∧ c' ∉ full env [] bx := by
        obtain ⟨c₂, oc, vs, t, e2, hoc, hd, hv⟩ := hrec
        cases e2
        refine ⟨fun q => ?_, fun q => hfull _ q _ hoc _ _ _ hd hv⟩
        have tabs : ∀ c P line col q', TabAt s.heap c P line col q' → ∀ o, s.heap.get? P = some o → NoRec o := fun c P line col q' ⟨ps, _, tt, hh⟩ o e vs q t d => by
          rw [tt.2] at e; cases e; cases d
          rcases hh with rfl | ⟨_, rfl, _⟩ <;> simp [rawInt]
        simp only [TT, List.mem_cons, List.not_mem_nil, or_false] at q
        rcases q with rfl | rfl
        · exact tabs _ _ _ _ _ O.t1 _ hoc _ _ _ hd hv
        · exact tabs _ _ _ _ _ O.t2 _ hoc _ _ _ hd hv
      exact fin c' ctv doc h' tk (fun b o _ e => hk b o e) hsz (O.keeps (Keep.of hk)) (hrec.keeps hk) hcn
end

section
open PySem PySem.Calls PySem.W PyProof.Rows
set_option maxRecDepth 100000
variable {w : World} {X : Bool} {A : Around} {env : Env} {mu : List Addr} {h₀ : View} {h₁ : Heap} {σ : List (Str × PV)} {bx : Option (Str × Addr × PV)}

/-- the values of a nested def's free names -/
noncomputable def Closed (clos : List (Str × Addr)) (σc : List (Str × PV)) (M : List Addr) (h : Heap) : Prop :=
  ∀ x p, σc.lookup x = some p → ∃ v c, clos.lookup x = some c ∧ c ∉ TT ∧ h.IsCell c (some v) ∧ Rep (hid M h) p v
theorem Closed.keep {clos σc M} {h h' : Heap} (C : Closed clos σc M h) (k : Keep TT h h') : Closed clos σc M h' := fun x p e =>
  let ⟨v, c, a, b, d, r⟩ := C x p e; ⟨v, c, a, b, IsCell.keepT d k b, r.mono (hid_keep k)⟩
theorem Vars.closed {clos σc} {h : Heap} (V : Vars env mu σc h) (hs : ∀ x ∈ σc.map (·.1), env.kindOf x = some .cell ∧ env.cells.lookup x = clos.lookup x) : Closed clos σc mu h := fun x p e => by
  obtain ⟨v, B, r⟩ := V.var x p e
  obtain ⟨k1, k2⟩ := hs x (List.mem_map.mpr ⟨_, mem_of_lookup e, rfl⟩)
  rcases B with ⟨a, _⟩ | ⟨_, c, hc, hT, hv⟩
  · rw [k1] at a; cases a
  · exact ⟨v, c, by rw [← k2]; exact hc, hT, hv, r⟩

/-- a nested def called by its name -/
theorem Ev.clos {x np e rest pos f o ps p mu'} (V : Vars env mu' σ h₁) (hx : σ.lookup x = some (.fn f o)) (ha : EvL w X A env [] h₁ (e :: rest) ps) (hp : p.imm = true)
    (hc : ∀ s vs, Ok w s.heap → Keep TT h₁ s.heap → RepL (hid [] s.heap) ps vs → wpAny (model pw w) A (PySem.call (.ref f) vs) (fun v s' => Nx [] s s' ∧ Rep (hid [] s'.heap) p v) NoE s)
    (he : starEach (e :: rest) env = (false, eval e env) :: starEach rest env) (hd : (x == ("__debug__" : Str)) = false) (hcd : (x == ("__classdict__" : Str)) = false) :
    Ev w X A env mu h₁ (.Call (.Name x np) (e :: rest) [] pos) p := fun s ok k => by
  refine wpAny_Call_NameR ?_
  obtain ⟨v, B, r⟩ := V.var x _ hx
  have hv : v = .ref f := by cases r; rfl
  subst hv
  refine Name_of V.ok (B.keep k) ?_ hd hcd
  obtain ⟨fd, hfd⟩ : ∃ fd, o.data = .func fd := by cases r; exact ⟨_, ‹_›⟩
  have hget : ∀ h, Keep TT h₁ h → h.get? f = some o := fun h kk => by
    cases r with
    | fn e1 _ _ _ _ _ _ _ => exact kk _ _ (hid_some e1).2.1 (hid_some e1).1
  exact callWith_def (o := o) (fd := fd) hfd (ha.use ok k fun vs s₁ n₁ o₁ k₁ r₁ => ⟨hget _ k₁, wpAny_mono (hc s₁ vs o₁ k₁ r₁) (fun _ _ ⟨n₂, r⟩ => ⟨n₁.trans n₂.nil, n₂.ok o₁, r.imm hp⟩) fun _ _ f => f.elim⟩) he

noncomputable def hexVal : List Nat → Nat
  | [] => 0
  | d :: ds => d + 16 * hexVal ds
theorem hexVal_append (a b : List Nat) : hexVal (a ++ b) = hexVal a + 16 ^ a.length * hexVal b := by
  induction a with
  | nil => simp [hexVal]
  | cons d a ih =>
    rw [List.cons_append, hexVal, hexVal, ih, List.length_cons, Nat.pow_succ]
    have : 16 ^ a.length * 16 * hexVal b = 16 * (16 ^ a.length * hexVal b) := by rw [Nat.mul_comm (16 ^ a.length) 16, Nat.mul_assoc]
    rw [this]; omega
noncomputable def seg (ds : List Nat) (l r : Nat) : Nat := hexVal ((ds.drop l).take (r - l))
theorem seg_one (ds : List Nat) (l : Nat) (h : l < ds.length) : seg ds l (l + 1) = ds[l] := by
  unfold seg
  rw [show l + 1 - l = 1 by omega, List.drop_eq_getElem_cons h, List.take_succ_cons, List.take_zero]
  rfl
theorem seg_split (ds : List Nat) (l m r : Nat) (h1 : l ≤ m) (h2 : m ≤ r) (h3 : r ≤ ds.length) : seg ds l r = seg ds m r * 16 ^ (m - l) + seg ds l m := by
  unfold seg
  have e1 : r - l = (m - l) + (r - m) := by omega
  rw [e1, List.take_add, hexVal_append, List.drop_drop, List.length_take, List.length_drop, Nat.min_eq_left (by omega), show l + (m - l) = m by omega, Nat.mul_comm]
  omega
theorem seg_lt (ds : List Nat) (hb : ∀ d ∈ ds, d < 16) (l r : Nat) : seg ds l r < 16 ^ (r - l) := by
  have key : ∀ x : List Nat, (∀ d ∈ x, d < 16) → hexVal x < 16 ^ x.length := by
    intro x
    induction x with
    | nil => intro _; simp [hexVal]
    | cons d x ih =>
      intro h
      have h1 := ih fun e he => h e (.tail _ he)
      have h2 := h d (.head _)
      rw [hexVal, List.length_cons, Nat.pow_succ]
      omega
  unfold seg
  refine Nat.lt_of_lt_of_le (key _ fun d hd => hb d (List.mem_of_mem_drop (List.mem_of_mem_take hd))) (Nat.pow_le_pow_right (by omega) ?_)
  rw [List.length_take]; omega
end

section
open PySem PySem.Calls PySem.W PyProof.Rows
set_option maxRecDepth 100000
set_option maxHeartbeats 4000000
variable {w : World} {X : Bool}

theorem Fm.unmu {w : World} {X : Bool} {h₀ : View} {env : Env} {mu : List Addr} {σ : List (Str × PV)} {h : Heap} (F : Fm w X h₀ env mu σ none h) : Fm w X h₀ env [] σ none h :=
  { F with
    muOld := MuOld.nil
    vars := fun x p e => let ⟨v, B, r⟩ := F.vars x p e; ⟨v, B, r.mono (hid_sub fun a ha => by simp only [bxa, List.nil_append, List.append_nil] at ha ⊢; exact List.mem_append_left _ ha)⟩
    box := fun x a p e => by cases e }
noncomputable def d2iBody : List Stmt := match (fnBody 7) with | .FunctionDef _ _ b .. :: _ => b | _ => []
noncomputable def d2iScope : Scope := match (fnBody 7) with | .FunctionDef _ _ _ _ _ _ sc .. :: _ => sc | _ => default
noncomputable def d2iParams : Arguments := match (fnBody 7) with | .FunctionDef _ p .. :: _ => p | _ => default
noncomputable abbrev d2iQ : Str := "_digits2int.<locals>.inner"
noncomputable abbrev d2iClos (Lo : Addr) : List (Str × Addr) := [("n", Lo + 2), ("inner", Lo + 3), ("digits", Lo + 1)]
noncomputable abbrev d2iσ (ds : List Nat) (f : Addr) (o : Obj) : List (Str × PV) := [("digits", .list (natsP ds)), ("n", .int 4), ("inner", .fn f o)]

theorem d2i_go (ds : List Nat) (hd : ∀ d ∈ ds, d < 16) (hl : ds.length ≤ 5) (Lo f : Addr) (o : Obj) (hm : MadeF o "inner" d2iQ d2iParams d2iBody d2iScope (d2iClos Lo)) :
    ∀ (k l r : Nat), l < r → r ≤ ds.length → r - l ≤ k → ∀ (A : Around) (s : Shared) (vs : List Value), Room k A → Ok w s.heap → Closed (d2iClos Lo) (d2iσ ds f o) [] s.heap →
      RepL (hid [] s.heap) [.int (l : Nat), .int (r : Nat)] vs → wpAny (model pw w) A (PySem.call (.ref f) vs) (fun v s' => Nx [] s s' ∧ Rep (hid [] s'.heap) (.int (seg ds l r : Nat)) v) NoE s := by
  intro k
  induction k with
  | zero => intro l r h1 h2 h3; omega
  | succ k ih =>
    intro l r h1 h2 h3 A s vs R O C rv
    obtain ⟨doc, pm, c, ct, hdat⟩ := hm
    obtain ⟨vf, cf, _, _, _, rf⟩ := C "inner" (.fn f o) rfl
    have hvf : vf = .ref f := by cases rf; rfl
    subst hvf
    have hlen := rv.length
    refine clos_open (bx := none) (names := ["L", "R"]) (ps := [.int (l : Nat), .int (r : Nat)]) (sc := d2iScope) (clos := d2iClos Lo) (body := d2iBody) (σc := d2iσ ds f o) O rf hdat rfl rfl rfl rfl rfl ?_ rfl (by decide) rv (by decide +kernel) (by decide +kernel) (fun y hy => ?_) rfl rfl rfl ?_ (by have := R.depth; omega) (fun x p e => ?_) (fun x a p e => by cases e) fun L h' tk hk O' F => ?_
    · match vs, hlen with | [_, _], _ => rfl
    · simp only [d2iClos, List.mem_cons, List.not_mem_nil, or_false] at hy
      rcases hy with rfl | rfl | rfl <;> rfl
    · simp [d2iClos]
    · obtain ⟨v, cc, a, b, d, rr⟩ := C x p e
      refine ⟨?_, v, cc, a, b, d, rr⟩
      have this : x ∈ (d2iσ ds f o).map (·.1) := List.mem_map.mpr ⟨(x, p), mem_of_lookup e, rfl⟩
      simp only [d2iσ, List.map_cons, List.map_nil, List.mem_cons, List.not_mem_nil, or_false] at this
      rcases this with h | h | h <;> (rw [h]; rfl)
    · have E : Ex w (A.deeper (cenvF d2iScope L (d2iClos Lo) d2iQ f (.ref c))) (cenvF d2iScope L (d2iClos Lo) d2iQ f (.ref c))
          (Fm w false (fun b => if b ∈ bxa none then none else s.heap.get? b) (cenvF d2iScope L (d2iClos Lo) d2iQ f (.ref c)) [] ((([("L", PV.int (l : Nat)), ("R", PV.int (r : Nat))] : List (Str × PV))) ++ d2iσ ds f o) none) d2iBody
          (RetJ w false (fun b => if b ∈ bxa none then none else s.heap.get? b) [] (.int (seg ds l r : Nat))) := by
        have R' := R.deeper (cenvF d2iScope L (d2iClos Lo) d2iQ f (.ref c))
        refine Ex.ite (u := ((l : Int) + 1 == (r : Int))) (fun h o F => by walk_at "evt") (fun hu => ?_) (fun hu => ?_)
        · have hlr : r = l + 1 := by have := beq_iff_eq.mp hu; omega
          refine Ex.ret fun h o F => Ev.eq (Ev.item (l := natsP ds) (n := (l : Nat)) (by walk_at "ev") (by walk_at "ev") (by omega) (by omega) (nats_get (by omega)) (fun _ _ => rfl) (fun _ _ => rfl)) ?_
          have es := seg_one ds l (by omega)
          rw [← hlr] at es
          rw [es]
        · have hlr : r ≠ l + 1 := by intro e; rw [e] at hu; simp at hu
          have hm1 : l < (l + r) / 2 := by omega
          have hm2 : (l + r) / 2 < r := by omega
          have em : ((l : Int) + (r : Int)).fdiv (2 ^ (1 : Int).toNat) = (((l + r) / 2 : Nat) : Int) := by
            have := shr_nat (l + r) 1
            simpa using this
          generalize (l + r) / 2 = m at hm1 hm2 em
          refine Ex.assign (p := .int (m : Nat)) (fun h o F => Ev.eq (p := PV.int (((l : Int) + (r : Int)).fdiv (2 ^ (1 : Int).toNat))) (by walk_at "ev") (congrArg PV.int em)) rfl (.inl rfl) (no_box _) ?_
          have es : ((m : Int) - (l : Int)) * 4 = (((m - l) * 4 : Nat) : Int) := by omega
          refine Ex.assign (p := .int ((m - l) * 4 : Nat)) (fun h o F => Ev.eq (p := PV.int (((m : Int) - (l : Int)) * 4)) (by walk_at "ev") (congrArg PV.int es)) rfl (.inl rfl) (no_box _) ?_
          refine Ex.ret fun h o F => ?_
          have Ch : ∀ s' : Shared, Keep TT h s'.heap → Closed (d2iClos Lo) (d2iσ ds f _) [] s'.heap := fun s' kk => (C.keep (h' := h) fun b ob _ eb => F.keep b ob (by simp [xs]) (by show (if _ then _ else _) = _; rw [if_neg (by simp [bxa])]; exact eb)).keep kk
          have lt1 := seg_lt ds hd m r
          have lt2 : 16 ^ (r - m) ≤ 16 ^ 5 := Nat.pow_le_pow_right (by omega) (by omega)
          refine' Ev.eq (Ev.bin (p := .int ((seg ds m r : Nat) * 2 ^ (((m - l) * 4 : Nat) : Int).toNat : Int)) (q := .int (seg ds l m : Nat)) (Ev.bin (p := .int (seg ds m r : Nat)) (q := .int ((m - l) * 4 : Nat)) ?a1 ?b1 (.shl (by omega) (by omega) (by rw [Int.natAbs_natCast]; omega))) ?c1 .add) ?d1
          case a1 => exact Ev.clos (ps := [.int (m : Nat), .int (r : Nat)]) F.toVars rfl (.cons (by walk_at "ev") (.cons (by walk_at "ev") .nil rfl) rfl) rfl (fun s' vs' O' kk rv' => ih m r hm2 h2 (by omega) _ s' vs' R' O' (Ch s' kk) rv') rfl rfl rfl
          case b1 => walk_at "ev"
          case c1 => exact Ev.clos (ps := [.int (l : Nat), .int (m : Nat)]) F.toVars rfl (.cons (by walk_at "ev") (.cons (by walk_at "ev") .nil rfl) rfl) rfl (fun s' vs' O' kk rv' => ih l m hm1 (by omega) (by omega) _ s' vs' R' O' (Ch s' kk) rv') rfl rfl rfl
          case d1 =>
            rw [shl_nat, seg_split ds l m r (by omega) (by omega) h2]
            have : 2 ^ ((m - l) * 4) = 16 ^ (m - l) := by rw [Nat.mul_comm, Nat.pow_mul]
            rw [this]; norm_cast
      refine wpAny_mono (E { s with heap := h', toks := tk } O' F) (fun fl s' ⟨g, os, o', v, e, kk, rr⟩ => ?_) fun _ _ f => f.elim
      subst e
      exact ⟨⟨fun b ob _ eb => kk b ob (by simp [xs]) (by show (if _ then _ else _) = _; rw [if_neg (by simp [bxa])]; exact eb), g, os⟩, rr⟩

theorem fn_d2i (ds : List Nat) (hd : ∀ d ∈ ds, d < 16) (hl : ds.length ≤ 5) : Fn w true 7 dD2I.addr [.list (natsP ds), .int 4] (.int (hexVal ds : Nat)) := by
  refine Fn.ofM ["digits", "n"] (by simp [defs]) rfl (by walk_at "fn") (by walk_at "fn") (by walk_at "fn") (by walk_at "fn") (by walk_at "fn") rfl rfl rfl rfl ?_
  intro A L mu h₀ R hmu
  refine Ex.pre (I' := Fm w true h₀ (fenv dD2I L) [] [("digits", .list (natsP ds)), ("n", .int 4)] none) (fun h o F => F.unmu) ?_
  refine Ex.nest (c := 63) (P := 59) (q := d2iQ) (clos := d2iClos L) (.inr ⟨rfl, rfl, rfl, rfl, rfl⟩) rfl (by kernel_rfl) rfl rfl rfl rfl (.inr ⟨rfl, _, rfl⟩) (no_box _) (fun _ _ _ h => by cases h) fun f o hm => ?_
  refine Ex.post (J := RetJ w true h₀ [] (.int (hexVal ds : Nat))) ?_ (fun f h o ⟨v, e, k, r⟩ => ⟨v, e, k, r.imm rfl⟩)
  refine Ex.ret fun h o F => ?_
  refine Ev.ifexp (u := !ds.isEmpty) ?_ (fun hu => ?_) (fun hu => ?_)
  · exact EvT.eq (EvT.value (p := .list (natsP ds)) (by walk_at "ev") (by show (natsP ds).length ≤ 16777216; simp; omega) fun _ => rfl) (by show (!(natsP ds).isEmpty) = _; cases ds <;> rfl)
  · have hne : 0 < ds.length := by cases ds with | nil => cases hu | cons a b => simp
    refine' Ev.eq (Ev.clos (ps := [.int (0 : Nat), .int (ds.length : Nat)]) F.toVars rfl (.cons (by walk_at "ev") (.cons ?a2 .nil rfl) rfl) rfl (fun s' vs' O' kk rv' => d2i_go ds hd hl L f _ hm 6 0 ds.length hne (Nat.le_refl _) (by omega) _ s' vs' R O' ?c2 rv') rfl rfl rfl) ?b2
    case a2 => exact Ev.eq (Ev.bif (mu' := full _ [] _) (id := "len") F.ok rfl (by simp [bnames]) (.cons (p := .list (natsP ds)) (by walk_at "ev") .nil rfl) (bi_len_list (by simp; omega)) (imm_any rfl) rfl rfl rfl) (by simp)
    case b2 =>
      have : seg ds 0 ds.length = hexVal ds := by unfold seg; simp
      rw [this]
    case c2 =>
      have V : Vars (fenv dD2I L) (full (fenv dD2I L) [] none) (d2iσ ds f _) h := (F.weaken (σ' := d2iσ ds f _) (by simp only [d2iσ, List.forall_mem_cons]; exact ⟨rfl, rfl, rfl, by simp⟩)).toVars
      have V' : Vars (fenv dD2I L) [] (d2iσ ds f _) h := ⟨V.ok, fun x p e => let ⟨v, b, r⟩ := V.var x p e; ⟨v, b, r.mono (hid_sub fun a ha => by cases ha)⟩⟩
      refine (V'.closed (clos := d2iClos L) fun x hx => ?_).keep kk
      simp only [d2iσ, List.map_cons, List.map_nil, List.mem_cons, List.not_mem_nil, or_false] at hx
      rcases hx with rfl | rfl | rfl <;> exact ⟨rfl, rfl⟩
  · have : ds = [] := by cases ds with | nil => rfl | cons a b => cases hu
    subst this
    walk_at "ev"
end

section
open PySem PySem.Calls PySem.W PyProof.Rows
set_option maxRecDepth 100000
variable {w : World} {X : Bool} {A : Around} {env : Env} {mu : List Addr} {h₀ : View} {h₁ : Heap} {σ : List (Str × PV)} {bx : Option (Str × Addr × PV)}

/-- x[i] = e, x a list -/
theorem Ex.lput {x np i ipos e pos rest a l n p J} (hi : ∀ h, Ok w h → Fm w X h₀ env mu σ (some (x, a, .list l)) h → Ev w X A env [] h i (.int n)) (he : ∀ h, Ok w h → Fm w X h₀ env mu σ (some (x, a, .list l)) h → Ev w X A env [] h e p) (hp : p.imm = true)
    (h0 : 0 ≤ n) (hn : n < l.length) (hl : l.length ≤ 16777216) (hli : ∀ q ∈ l, q.imm = true)
    (hd : (x == ("__debug__" : Str)) = false) (hc : (x == ("__classdict__" : Str)) = false) (hsw : swapsWith e (some (.Subscript (.Name x np) i ipos)) pos.line env = pure false)
    (hr : Ex w A env (Fm w X h₀ env mu σ (some (x, a, .list (l.set n.toNat p)))) rest J) :
    Ex w A env (Fm w X h₀ env mu σ (some (x, a, .list l))) (.Assign [.Subscript (.Name x np) i ipos] e pos :: rest) J := by
  refine Ex.cons (Ex1.nextOnly fun s o F => ?_) hr
  rw [exec_Assign_Subscript _ _ _ _ _ hsw]
  refine wpAny_bind (wpAny_standAt (wpAny_bind ((he _ o F).use o (.refl _ _) fun y s₁ n₁ o₁ k₁ r₁ => ?_)))
  have F₁ := F.kp n₁.keep
  refine wpAny_bind ?_
  rw [assign_Subscript]
  obtain ⟨B, r, _⟩ := F₁.box _ _ _ rfl
  refine wpAny_bind (wpAny_holding (Name_of F₁.ok B ?_ hd hc))
  refine wpAny_bind (wpAny_holding ((hi _ o₁ F₁).use o₁ (.refl _ _) fun z s₂ n₂ o₂ k₂ r₂ => ?_))
  have F₂ := F₁.kp n₂.keep
  obtain ⟨_, rfl⟩ := r₂.int_inv
  obtain ⟨_, r', _⟩ := F₂.box _ _ _ rfl
  obtain ⟨us, _, ⟨nn, hnn⟩, rl', haT, ham⟩ := r'.isList
  have hlen := rl'.length
  refine wpAny_bind (wpAny_standAt (wpAny_bind (wpAny_holding (setList_go hnn h0 (by omega) (by omega) fun h₄ n₄ e₄ hs₄ => ?_))))
  obtain ⟨F₄, o₄⟩ := F₂.boxSet (p' := .list (l.set n.toNat p)) o₂ hs₄.extBut (fun o e => by rw [hnn] at e; cases e; exact ⟨.nf (fun vs e => by cases e), fun v e => by cases e⟩)
    (.list (vs := us.set n.toNat y) (n := n₄) (hid_of e₄ haT ham) ((rl'.imm hli).set (r₁.imm hp)))
  exact PyProof.Rows.wpAny_release' (wpAny_pure ⟨n₂.gens.trans n₁.gens, n₂.os.trans n₁.os, o₄, rfl, F₄⟩)

/-- the contract of a nested def that turns the list at D from l to l' -/
noncomputable def BoxFn (w : World) (A : Around) (f D : Addr) (h : Heap) (ps l l' : List PV) : Prop :=
  ∀ (s : Shared) vs, Ok w s.heap → (∀ b o, b ∉ TT → b ≠ D → h.get? b = some o → s.heap.get? b = some o) → Rep (hid [] s.heap) (.list l) (.ref D) → RepL (hid [D] s.heap) ps vs →
    wpAny (model pw w) A (PySem.call (.ref f) vs) (fun v s' => s'.gens = s.gens ∧ s'.os = s.os ∧ Ok w s'.heap ∧ (∀ b o, b ≠ D → s.heap.get? b = some o → s'.heap.get? b = some o) ∧ Rep (hid [] s'.heap) (.list l') (.ref D) ∧ v = .none) NoE s

/-- f(..), a nested def that turns the box -/
theorem Ex.closS {x y np e es pos spos rest f o D ps l l' J} (hx : σ.lookup x = some (.fn f o)) (ha : ∀ h, Ok w h → Fm w X h₀ env mu σ (some (y, D, .list l)) h → EvL w X A env [] h (e :: es) ps) (hpi : ∀ p ∈ ps, p.imm = true) (hli : ∀ q ∈ l', q.imm = true)
    (hc : ∀ h, Ok w h → Fm w X h₀ env mu σ (some (y, D, .list l)) h → BoxFn w A f D h ps l l')
    (he : starEach (e :: es) env = (false, eval e env) :: starEach es env) (hd : (x == ("__debug__" : Str)) = false) (hcd : (x == ("__classdict__" : Str)) = false) (hi : interactive env = false) (hsw : swapsWith (.Call (.Name x np) (e :: es) [] pos) none spos.line env = pure false)
    (hr : Ex w A env (Fm w X h₀ env mu σ (some (y, D, .list l'))) rest J) :
    Ex w A env (Fm w X h₀ env mu σ (some (y, D, .list l))) (.Expr (.Call (.Name x np) (e :: es) [] pos) spos :: rest) J := by
  refine Ex.cons (Ex1.nextOnly fun s O F => wpAny_Expr ?_ hi hsw) hr
  refine wpAny_Call_NameR ?_
  obtain ⟨v, B, r⟩ := F.vars x _ hx
  have hv : v = .ref f := by cases r; rfl
  subst hv
  refine Name_of F.ok B ?_ hd hcd
  obtain ⟨fd, hfd⟩ : ∃ fd, o.data = .func fd := by cases r; exact ⟨_, ‹_›⟩
  have hget : ∀ h, Keep TT s.heap h → h.get? f = some o := fun h kk => by
    cases r with
    | fn e1 _ _ _ _ _ _ _ => exact kk _ _ (hid_some e1).2.1 (hid_some e1).1
  refine callWith_def (o := o) (fd := fd) hfd ((ha _ O F).use O (.refl _ _) fun vs s₁ n₁ o₁ k₁ r₁ => ⟨hget _ k₁, ?_⟩) he
  have F₁ := F.kp n₁.keep
  obtain ⟨B₁, rD, _⟩ := F₁.box _ _ _ rfl
  refine wpAny_mono (hc _ o₁ F₁ s₁ vs o₁ (fun _ _ _ _ e => e) rD.all (r₁.imm hpi)) (fun v s₂ ⟨g, os, o₂, kk, r₂, hv⟩ => ?_) fun _ _ f => f.elim
  subst hv
  obtain ⟨us, _, ⟨nn, hnn⟩, _, haT, ham⟩ := rD.isList
  obtain ⟨us', _, ⟨nn', hnn'⟩, rl', _, _⟩ := r₂.isList
  obtain ⟨F₂, o₃⟩ := F₁.boxSet (p' := .list l') o₁ kk (fun o e => by rw [hnn] at e; cases e; exact ⟨.nf (fun vs e => by cases e), fun v e => by cases e⟩)
    (.list (vs := us') (n := nn') (hid_of hnn' haT ham) (rl'.imm hli))
  exact ⟨g.trans n₁.gens, os.trans n₁.os, o₂, rfl, F₂⟩

/-- return x, the box -/
theorem Ex.retBox {x np pos rest D l} {mu' : List Addr} (hmu : ∀ a ∈ mu', a ∉ TT ∧ ∃ o, h₀ a = some o) (hli : ∀ q ∈ l, q.imm = true) (hd : (x == ("__debug__" : Str)) = false) (hcd : (x == ("__classdict__" : Str)) = false) :
    Ex w A env (Fm w X h₀ env mu σ (some (x, D, .list l))) (.Return (some (.Name x np)) pos :: rest) (RetJ w X h₀ mu' (.list l)) :=
  Ex.cons (I' := fun _ => False) (fun s O F => wpAny_Return_some (by
    obtain ⟨B, r, hB, _⟩ := F.box _ _ _ rfl
    refine Name_of F.ok B ⟨rfl, rfl, O, _, rfl, F.keep, ?_⟩ hd hcd
    obtain ⟨us, _, ⟨nn, hnn⟩, rl, haT, _⟩ := r.isList
    refine .list (vs := us) (n := nn) (hid_of hnn haT fun q => ?_) (rl.imm hli)
    obtain ⟨_, o, e⟩ := hmu D q
    rw [hB] at e; cases e)) fun _ _ f => f.elim
/-- return -/
theorem Ex.retNone {pos rest} {I : Heap → Prop} : Ex w A env I (.Return none pos :: rest) (fun f h => f = .ret .none ∧ I h) :=
  Ex.cons (I' := fun _ => False) (fun s O i => wpAny_Return_none ⟨rfl, rfl, O, rfl, i⟩) fun _ _ f => f.elim
end

section
open PySem PySem.Calls PySem.W PyProof.Rows
set_option maxRecDepth 100000
set_option maxHeartbeats 4000000
variable {w : World} {X : Bool}

noncomputable def setBits (lst : List Nat) (l x : Nat) : Nat → List Nat
  | 0 => lst
  | n + 1 => setBits (lst.set l (x % 2)) (l + 1) (x / 2) n
theorem setBits_len (n : Nat) : ∀ lst l x, (setBits lst l x n).length = lst.length := by
  induction n with
  | zero => intros; rfl
  | succ n ih => intro lst l x; rw [setBits, ih, List.length_set]
theorem setBits_split (a b : Nat) : ∀ lst l x, setBits lst l x (a + b) = setBits (setBits lst l (x % 2 ^ a) a) (l + a) (x / 2 ^ a) b := by
  induction a with
  | zero => intro lst l x; simp [setBits]
  | succ a ih =>
    intro lst l x
    rw [show a + 1 + b = (a + b) + 1 by omega, setBits, ih, setBits]
    have e1 : x % 2 ^ (a + 1) % 2 = x % 2 := by rw [Nat.pow_succ, Nat.mul_comm, Nat.mod_mul_right_mod]
    have e2 : x % 2 ^ (a + 1) / 2 = x / 2 % 2 ^ a := by rw [Nat.pow_succ, Nat.mul_comm, Nat.mod_mul_right_div_self]
    have e3 : x / 2 / 2 ^ a = x / 2 ^ (a + 1) := by rw [Nat.div_div_eq_div_mul, Nat.pow_succ, Nat.mul_comm]
    rw [e1, e2, e3, show l + 1 + a = l + (a + 1) by omega]
theorem xor_low : ∀ x : Fin 32, ∀ s : Fin 6, Builtin.bitXor (x.val : Int) ((x.val / 2 ^ s.val * 2 ^ s.val : Nat) : Int) = ((x.val % 2 ^ s.val : Nat) : Int) := by decide +kernel

noncomputable def i2dBody : List Stmt := match (fnBody 6) with | _ :: .FunctionDef _ _ b .. :: _ => b | _ => []
noncomputable def i2dScope : Scope := match (fnBody 6) with | _ :: .FunctionDef _ _ _ _ _ _ sc .. :: _ => sc | _ => default
noncomputable def i2dParams : Arguments := match (fnBody 6) with | _ :: .FunctionDef _ p .. :: _ => p | _ => default
noncomputable abbrev i2dQ : Str := "_int2digits.<locals>.inner"
noncomputable abbrev i2dClos (Lo : Addr) : List (Str × Addr) := [("n", Lo + 1), ("inner", Lo + 3), ("a_digits", Lo + 2)]
noncomputable abbrev i2dσ (f : Addr) (o : Obj) : List (Str × PV) := [("n", .int 1), ("inner", .fn f o)]

theorem i2d_go (Lo f D : Addr) (o : Obj) (hm : MadeF o "inner" i2dQ i2dParams i2dBody i2dScope (i2dClos Lo)) (hD : D ∉ okAddrs) (hDT : D ∉ TT) :
    ∀ (k l r x : Nat) (lst : List Nat), l < r → r ≤ lst.length → lst.length ≤ 5 → r - l ≤ k → x < 2 ^ (r - l) → ∀ (A : Around) (h : Heap), Room k A → Closed (i2dClos Lo) (i2dσ f o) [D] h →
      (∃ c, (i2dClos Lo).lookup ("a_digits" : Str) = some c ∧ c ∉ TT ∧ h.IsCell c (some (.ref D))) → (∀ c u, h.IsCell c u → c ≠ D) →
      BoxFn w A f D h [.int (x : Nat), .int (l : Nat), .int (r : Nat)] (natsP lst) (natsP (setBits lst l x (r - l))) := by
  intro k
  induction k with
  | zero => intro l r x lst h1 h2 h3 h4; omega
  | succ k ih =>
    intro l r x lst h1 h2 h3 h4 hx A h R C hcell hcD s vs O kk rD rv
    obtain ⟨doc, pm, c, ct, hdat⟩ := hm
    -- the free names at s
    have kc : ∀ c u, c ∉ TT → h.IsCell c u → s.heap.IsCell c u := fun c u hT ⟨oo, e, d⟩ => ⟨oo, kk c oo hT (hcD c u ⟨oo, e, d⟩) e, d⟩
    have Cs : Closed (i2dClos Lo) (i2dσ f o) [D] s.heap := fun y p e => by
      obtain ⟨v, cc, a, b, d, rr⟩ := C y p e
      exact ⟨v, cc, a, b, kc _ _ b d, rr.mono (hid_le fun b o hT hm e => kk b o hT (by simpa using hm) e)⟩
    have hcs : ∃ c, (i2dClos Lo).lookup ("a_digits" : Str) = some c ∧ c ∉ TT ∧ s.heap.IsCell c (some (.ref D)) := let ⟨c, a, b, d⟩ := hcell; ⟨c, a, b, kc _ _ b d⟩
    obtain ⟨vf, cf, _, _, _, rf⟩ := Cs "inner" (.fn f o) rfl
    have hvf : vf = .ref f := by cases rf; rfl
    subst hvf
    have hlen := rv.length
    refine clos_open (bx := some ("a_digits", D, .list (natsP lst))) (names := ["x", "L", "R"]) (ps := [.int (x : Nat), .int (l : Nat), .int (r : Nat)]) (sc := i2dScope) (clos := i2dClos Lo) (body := i2dBody) (σc := i2dσ f o) O rf.all hdat rfl rfl rfl rfl rfl ?_ rfl (by decide) rv (by decide +kernel) (by decide +kernel) (fun y hy => ?_) rfl rfl rfl ?_ (by have := R.depth; omega) (fun y p e => ?_) (fun y a p e => ?_) fun L h' tk hk O' F => ?_
    · match vs, hlen with | [_, _, _], _ => rfl
    · simp only [i2dClos, List.mem_cons, List.not_mem_nil, or_false] at hy
      rcases hy with rfl | rfl | rfl <;> rfl
    · simp [i2dClos]
    · obtain ⟨v, cc, a, b, d, rr⟩ := Cs y p e
      refine ⟨?_, v, cc, a, b, d, rr⟩
      have this : y ∈ (i2dσ f o).map (·.1) := List.mem_map.mpr ⟨(y, p), mem_of_lookup e, rfl⟩
      simp only [i2dσ, List.map_cons, List.map_nil, List.mem_cons, List.not_mem_nil, or_false] at this
      rcases this with h | h <;> (rw [h]; rfl)
    · cases e
      exact ⟨rfl, hcs, rD, hD⟩
    · have E : Ex w (A.deeper (cenvF i2dScope L (i2dClos Lo) i2dQ f (.ref c))) (cenvF i2dScope L (i2dClos Lo) i2dQ f (.ref c))
          (Fm w false (fun b => if b ∈ bxa (some (("a_digits" : Str), D, PV.list (natsP lst))) then none else s.heap.get? b) (cenvF i2dScope L (i2dClos Lo) i2dQ f (.ref c)) [] ((([("x", PV.int (x : Nat)), ("L", PV.int (l : Nat)), ("R", PV.int (r : Nat))] : List (Str × PV))) ++ i2dσ f o) (some ("a_digits", D, .list (natsP lst)))) i2dBody
          (fun fl h => (fl = .next ∨ fl = .ret .none) ∧ ∃ σ', Fm w false (fun b => if b ∈ bxa (some (("a_digits" : Str), D, PV.list (natsP lst))) then none else s.heap.get? b) (cenvF i2dScope L (i2dClos Lo) i2dQ f (.ref c)) [] σ' (some ("a_digits", D, .list (natsP (setBits lst l x (r - l))))) h) := by
        have R' := R.deeper (cenvF i2dScope L (i2dClos Lo) i2dQ f (.ref c))
        refine Ex.ite (u := ((l : Int) + 1 == (r : Int))) (fun h o F => by walk_at "evt") (fun hu => ?_) (fun hu => ?_)
        · have hlr : r - l = 1 := by have := beq_iff_eq.mp hu; omega
          refine Ex.lput (n := (l : Nat)) (p := .int (x : Nat)) (fun h o F => by walk_at "ev") (fun h o F => by walk_at "ev") rfl (by omega) (by simp; omega) (by simp; omega) (nats_imm _) rfl rfl rfl ?_
          refine Ex.post Ex.retNone fun fl h o ⟨e, F⟩ => ?_
          rw [hlr] at hx ⊢
          have e1 : (natsP lst).set ((l : Nat) : Int).toNat (.int (x : Nat)) = natsP (setBits lst l x 1) := by
            rw [Int.toNat_natCast, setBits, setBits, Nat.mod_eq_of_lt (by omega)]; simp [natsP, List.map_set]
          rw [e1] at F
          exact ⟨.inr e, _, F⟩
        · have hlr : r ≠ l + 1 := by intro e; rw [e] at hu; simp at hu
          have hm1 : l < (l + r) / 2 := by omega
          have hm2 : (l + r) / 2 < r := by omega
          have em : ((l : Int) + (r : Int)).fdiv (2 ^ (1 : Int).toNat) = (((l + r) / 2 : Nat) : Int) := by
            have := shr_nat (l + r) 1
            simpa using this
          generalize (l + r) / 2 = m at hm1 hm2 em
          have up : ∀ (h : Heap) (σ' : List (Str × PV)) (lst' : List Nat), Fm w false (fun b => if b ∈ bxa (some (("a_digits" : Str), D, PV.list (natsP lst))) then none else s.heap.get? b) (cenvF i2dScope L (i2dClos Lo) i2dQ f (.ref c)) [] σ' (some ("a_digits", D, .list (natsP lst'))) h →
              Closed (i2dClos Lo) (i2dσ f o) [D] h ∧ (∃ c, (i2dClos Lo).lookup ("a_digits" : Str) = some c ∧ c ∉ TT ∧ h.IsCell c (some (.ref D))) ∧ ∀ c u, h.IsCell c u → c ≠ D := by
            intro h σ' lst' F'
            have kp : ∀ b o, b ≠ D → s.heap.get? b = some o → h.get? b = some o := fun b ob hb eb => F'.keep b ob (by simp [xs]) (by show (if _ then _ else _) = _; rw [if_neg (by simpa [bxa] using hb)]; exact eb)
            obtain ⟨us, _, ⟨nn, hnn⟩, _, _, _⟩ := rD.isList
            have sD : ∀ c u, s.heap.IsCell c u → c ≠ D := fun c u ⟨oo, e, d⟩ q => by subst q; rw [hnn] at e; cases e; cases d
            refine ⟨fun y p e => ?_, ?_, fun c u ⟨oo, e, d⟩ q => ?_⟩
            · obtain ⟨v, cc, a, b, ⟨oo, e1, d1⟩, rr⟩ := Cs y p e
              exact ⟨v, cc, a, b, ⟨oo, kp _ _ (sD _ _ ⟨oo, e1, d1⟩) e1, d1⟩, rr.mono (hid_le fun b o _ hm e => kp b o (by simpa using hm) e)⟩
            · obtain ⟨cc, a, b, oo, e1, d1⟩ := hcs
              exact ⟨cc, a, b, oo, kp _ _ (sD _ _ ⟨oo, e1, d1⟩) e1, d1⟩
            · subst q
              obtain ⟨_, r', _⟩ := F'.box _ _ _ rfl
              obtain ⟨_, _, ⟨_, hnn'⟩, _, _, _⟩ := r'.isList
              rw [hnn'] at e; cases e; cases d
          have hx32 : x < 32 := Nat.lt_of_lt_of_le hx (Nat.pow_le_pow_right (n := 2) (by omega) (show r - l ≤ 5 by omega))
          have es : ((m : Int) - (l : Int)) * 1 = ((m - l : Nat) : Int) := by omega
          have hs6 : m - l < 6 := by omega
          have hsl : r - l = (m - l) + (r - m) := by omega
          have hx2 : x / 2 ^ (m - l) < 2 ^ (r - m) := by rw [Nat.div_lt_iff_lt_mul (Nat.pow_pos (by omega)), ← Nat.pow_add, Nat.add_comm, ← hsl]; exact hx
          have hx1 : x % 2 ^ (m - l) < 2 ^ (m - l) := Nat.mod_lt _ (Nat.pow_pos (by omega))
          have hxor := xor_low ⟨x, hx32⟩ ⟨m - l, hs6⟩
          have hsp := setBits_split (m - l) (r - m) lst l x
          rw [← hsl, show l + (m - l) = m by omega] at hsp
          have hq : x / 2 ^ (m - l) ≤ x := Nat.div_le_self _ _
          generalize hsd : m - l = sh at es hs6 hx1 hx2 hxor hsp hq
          refine Ex.assign (p := .int (m : Nat)) (fun h o F => Ev.eq (p := PV.int (((l : Int) + (r : Int)).fdiv (2 ^ (1 : Int).toNat))) (by walk_at "ev") (congrArg PV.int em)) rfl (.inl rfl) (fun y b q e => by cases e; decide) ?_
          refine Ex.assign (p := .int (sh : Nat)) (fun h o F => Ev.eq (p := PV.int (((m : Int) - (l : Int)) * 1)) (by walk_at "ev") (congrArg PV.int es)) rfl (.inl rfl) (fun y b q e => by cases e; decide) ?_
          refine Ex.assign (p := .int (x / 2 ^ sh : Nat)) (fun h o F => Ev.eq (p := PV.int ((x : Int).fdiv (2 ^ ((sh : Nat) : Int).toNat))) (by walk_at "ev") (congrArg PV.int (shr_nat x sh))) rfl (.inl rfl) (fun y b q e => by cases e; decide) ?_
          refine Ex.assign (p := .int (x % 2 ^ sh : Nat)) (fun h o F => Ev.eq (p := PV.int (Builtin.bitXor (x : Int) ((x / 2 ^ sh * 2 ^ sh : Nat) : Int))) (Ev.bin (p := .int (x : Nat)) (q := .int (x / 2 ^ sh * 2 ^ sh : Nat)) (by walk_at "ev") (Ev.eq (p := PV.int (((x / 2 ^ sh : Nat) : Int) * 2 ^ ((sh : Nat) : Int).toNat)) (Ev.bin (p := .int (x / 2 ^ sh : Nat)) (q := .int (sh : Nat)) (by walk_at "ev") (by walk_at "ev") (.shl (by omega) (by omega) (by rw [Int.natAbs_natCast]; omega))) (congrArg PV.int (shl_nat _ _))) .xor) (congrArg PV.int hxor)) rfl (.inl rfl) (fun y b q e => by cases e; decide) ?_
          refine Ex.closS (ps := [.int (x % 2 ^ sh : Nat), .int (l : Nat), .int (m : Nat)]) (l' := natsP (setBits lst l (x % 2 ^ sh) sh)) rfl (fun h o F => .cons (by walk_at "ev") (.cons (by walk_at "ev") (.cons (by walk_at "ev") .nil rfl) rfl) rfl) (by simp; exact ⟨rfl, rfl, rfl⟩) (nats_imm _) (fun h o F => ?_) rfl rfl rfl rfl rfl ?_
          · obtain ⟨u1, u2, u3⟩ := up _ _ _ F
            have := ih l m (x % 2 ^ sh) lst hm1 (by omega) h3 (by omega) (by rw [hsd]; exact hx1) _ h R' u1 u2 u3
            rw [hsd] at this; exact this
          refine Ex.closS (ps := [.int (x / 2 ^ sh : Nat), .int (m : Nat), .int (r : Nat)]) (l' := natsP (setBits lst l x (r - l))) rfl (fun h o F => .cons (by walk_at "ev") (.cons (by walk_at "ev") (.cons (by walk_at "ev") .nil rfl) rfl) rfl) (by simp; exact ⟨rfl, rfl, rfl⟩) (nats_imm _) (fun h o F => ?_) rfl rfl rfl rfl rfl ?_
          · obtain ⟨u1, u2, u3⟩ := up _ _ _ F
            have := ih m r (x / 2 ^ sh) (setBits lst l (x % 2 ^ sh) sh) hm2 (by rw [setBits_len]; exact h2) (by rw [setBits_len]; exact h3) (by omega) hx2 _ h R' u1 u2 u3
            rw [hsp]; exact this
          · exact Ex.nil fun h F => ⟨.inl rfl, _, F⟩
      refine wpAny_mono (E { s with heap := h', toks := tk } O' F) (fun fl s' ⟨g, os, o', e, σ', F'⟩ => ?_) fun _ _ f => f.elim
      obtain ⟨_, rr, _⟩ := F'.box _ _ _ rfl
      refine ⟨g, os, o', fun b ob hb eb => F'.keep b ob (by simp [xs]) (by show (if _ then _ else _) = _; rw [if_neg (by simpa [bxa] using hb)]; exact eb), rr.all, ?_⟩
      rcases e with rfl | rfl <;> rfl

noncomputable def nbits (n : Nat) : Nat := Builtin.Int.intBits (n : Int)
theorem nbits_ok : ∀ n : Fin 32, nbits n.val ≤ 5 ∧ n.val < 2 ^ nbits n.val ∧ (n.val ≠ 0 → 0 < nbits n.val) := by decide +kernel
noncomputable def bitsOf (n : Nat) : List Nat := (List.range (nbits n)).map fun p => n / 2 ^ p % 2
theorem setBits_all : ∀ n : Fin 32, setBits (List.replicate (nbits n.val) 0) 0 n.val (nbits n.val) = bitsOf n.val := by decide +kernel
theorem fn_i2d (n : Nat) (hn : n < 32) : Fn w true 8 dI2D.addr [.int n, .int 1] (.list (natsP (bitsOf n))) := by
  obtain ⟨b1, b2, b3⟩ := nbits_ok ⟨n, hn⟩
  have b4 := setBits_all ⟨n, hn⟩
  simp only at b1 b2 b3 b4
  refine Fn.ofM ["a", "n"] (by simp [defs]) rfl (by walk_at "fn") (by walk_at "fn") (by walk_at "fn") (by walk_at "fn") (by walk_at "fn") rfl rfl rfl rfl ?_
  intro A L mu h₀ R hmu
  refine Ex.pre (I' := Fm w true h₀ (fenv dI2D L) [] [("a", .int n), ("n", .int 1)] none) (fun h o F => F.unmu) ?_
  refine Ex.newBox (p := .list (natsP (List.replicate (nbits n) 0))) (fun h o F => ?_) (by simp; decide) rfl (.inr ⟨rfl, _, rfl⟩) fun D => ?_
  · have e : PV.list (List.replicate (nbits n) (.int 0)) = .list (natsP (List.replicate (nbits n) 0)) := by simp [natsP]
    rw [← e]
    refine EvN.mul (by walk_at "ev") rfl ?_ (by omega) rfl
    refine' Ev.eq (Ev.fdiv (a := (nbits n : Int) + 1 - 1) (c := 1) (Ev.bin (p := .int ((nbits n : Int) + 1)) (q := .int 1) (Ev.bin (p := .int (nbits n : Nat)) (q := .int 1) ?bl1 (by walk_at "ev") .add) (by walk_at "ev") .sub) (by walk_at "ev") (by decide) (by decide)) ?e1
    case bl1 => exact Ev.bitlen (n := (n : Int)) (by walk_at "ev") rfl rfl
    case e1 => rw [Int.fdiv_one]; congr 1; omega
  refine Ex.nest (c := 56) (P := 52) (q := i2dQ) (clos := i2dClos L) (.inl ⟨rfl, rfl, rfl, rfl, rfl⟩) rfl (by kernel_rfl) rfl rfl rfl rfl (.inr ⟨rfl, _, rfl⟩) (fun y b q e => by cases e; decide) (fun _ _ _ e => by cases e; exact ⟨_, rfl⟩) fun f o hm => ?_
  have lenE : (natsP (List.replicate (nbits n) 0)).length = nbits n := by simp
  refine Ex.ite (u := ((n : Int) != 0)) (fun h o F => EvT.value (p := .int n) (by walk_at "ev") trivial fun _ => rfl) (fun hu => ?_) (fun hu => ?_)
  · have hn0 : n ≠ 0 := by rintro rfl; exact absurd hu (by decide)
    refine Ex.closS (ps := [.int (n : Nat), .int (0 : Nat), .int (nbits n : Nat)]) (l' := natsP (setBits (List.replicate (nbits n) 0) 0 n (nbits n - 0))) rfl (fun h o F => .cons (by walk_at "ev") (.cons (by walk_at "ev") (.cons ?_ .nil rfl) rfl) rfl) (by simp; exact ⟨rfl, rfl, rfl⟩) (nats_imm _) (fun h O F => ?_) rfl rfl rfl rfl rfl ?_
    · exact Ev.eq (Ev.bif (mu' := own _ ++ []) (id := "len") F.ok rfl (by simp [bnames]) (.cons (p := .list (natsP (List.replicate (nbits n) 0))) (by walk_at "ev") .nil rfl) (bi_len_list (by omega)) (imm_any rfl) rfl rfl rfl) (by rw [lenE])
    · obtain ⟨B, rD, _, hDk⟩ := F.box _ _ _ rfl
      obtain ⟨us, _, ⟨nn, hnn⟩, _, hDT, hDo⟩ := rD.isList
      have V : Vars (fenv dI2D L) (full (fenv dI2D L) [] _) (i2dσ f o) h := (F.weaken (σ' := i2dσ f o) (by simp only [i2dσ, List.forall_mem_cons]; exact ⟨rfl, rfl, by simp⟩)).toVars
      have V' : Vars (fenv dI2D L) [D] (i2dσ f o) h := ⟨V.ok, fun x p e => let ⟨v, b, r⟩ := V.var x p e; ⟨v, b, r.mono (hid_sub fun a ha => by
        have : a = D := by simpa using ha
        subst this; simp [bxa])⟩⟩
      refine i2d_go L f D o hm hDk hDT 7 0 (nbits n) n (List.replicate (nbits n) 0) (b3 hn0) (by simp) (by simp; omega) (by omega) (by rw [Nat.sub_zero]; exact b2) A h R (V'.closed (clos := i2dClos L) fun x hx => ?_) ?_ ?_
      · simp only [i2dσ, List.map_cons, List.map_nil, List.mem_cons, List.not_mem_nil, or_false] at hx
        rcases hx with rfl | rfl <;> exact ⟨rfl, rfl⟩
      · rcases B with ⟨a, _⟩ | ⟨_, c, hc, hT, hv⟩
        · cases a
        · have : c = L + 2 := (Option.some.inj (hc : some (L + 2) = some c)).symm
          subst this
          exact ⟨L + 2, rfl, hT, hv⟩
      · rintro c u ⟨oo, e, d⟩ q
        subst q; rw [hnn] at e; cases e; cases d
    · rw [Nat.sub_zero, b4]
      exact Ex.retBox hmu (nats_imm _) rfl rfl
  · have hn0 : n = 0 := by simpa using hu
    have : bitsOf n = List.replicate (nbits n) 0 := by subst hn0; decide
    rw [this]
    exact Ex.retBox hmu (nats_imm _) rfl rfl
end

section
/-! plain facts: the sum's word tells the counts -/
open PySem
set_option maxRecDepth 100000
theorem snoc_ind {α : Type} {P : List α → Prop} (nil : P []) (append_singleton : ∀ (l : List α) (a : α), P l → P (l ++ [a])) (l : List α) : P l := by
  have : ∀ n, ∀ l : List α, l.length = n → P l := by
    intro n
    induction n with
    | zero => intro l h; have : l = [] := List.eq_nil_of_length_eq_zero h; subst this; exact nil
    | succ n ih =>
      intro l h
      have hne : l ≠ [] := by rintro rfl; simp at h
      rw [← List.dropLast_concat_getLast hne]
      exact append_singleton _ _ (ih _ (by rw [List.length_dropLast]; omega))
  exact this _ l rfl
noncomputable def bit (h p : Nat) : Nat := h / 2 ^ p % 2
noncomputable def cnt (hs : List Nat) (p : Nat) : Nat := (hs.filter fun h => h / 2 ^ p % 2 == 1).length
noncomputable def totalOf (hs : List Nat) : Nat := (hs.map fun h => hexVal (bitsOf h)).sum
noncomputable def lostOf (hs : List Nat) (most : Nat) : Bool := [4, 3, 2, 1, 0].all fun p => cnt hs p % (most + 1) == 0
theorem hex_bits : ∀ h : Fin 32, hexVal (bitsOf h.val) = (((h.val / 2 ^ 4 % 2 * 16 + h.val / 2 ^ 3 % 2) * 16 + h.val / 2 ^ 2 % 2) * 16 + h.val / 2 ^ 1 % 2) * 16 + h.val / 2 ^ 0 % 2 := by decide +kernel
theorem cnt_cons (h : Nat) (hs : List Nat) (p : Nat) : cnt (h :: hs) p = h / 2 ^ p % 2 + cnt hs p := by
  unfold cnt
  rw [List.filter_cons]
  have := Nat.mod_lt (h / 2 ^ p) (show 2 > 0 by decide)
  by_cases e : h / 2 ^ p % 2 = 1
  · rw [e]; simp; omega
  · have : h / 2 ^ p % 2 = 0 := by omega
    rw [this]; simp
theorem cnt_le (hs : List Nat) (p : Nat) : cnt hs p ≤ hs.length := List.length_filter_le _ _
theorem total_eq (hs : List Nat) (hb : ∀ h ∈ hs, h < 32) : totalOf hs = (((cnt hs 4 * 16 + cnt hs 3) * 16 + cnt hs 2) * 16 + cnt hs 1) * 16 + cnt hs 0 := by
  induction hs with
  | nil => rfl
  | cons h hs ih =>
    have ih := ih fun x hx => hb x (.tail _ hx)
    have h1 := hex_bits ⟨h, hb h (.head _)⟩
    unfold totalOf at ih ⊢
    rw [List.map_cons, List.sum_cons, ih]
    simp only at h1
    rw [h1, cnt_cons, cnt_cons, cnt_cons, cnt_cons, cnt_cons]
    omega
noncomputable def horner (ds : List Nat) : Nat := ds.foldl (fun a d => a * 16 + d) 0
theorem horner_snoc (ds : List Nat) (d : Nat) : horner (ds ++ [d]) = horner ds * 16 + d := by unfold horner; rw [List.foldl_append]; rfl
noncomputable def capital (d : Nat) : UInt8 := (65 + d).toUInt8
theorem capital_nat {d : Nat} (h : d < 16) : (capital d).toNat = 65 + d := by
  unfold capital; rw [Nat.toUInt8_eq, UInt8.toNat_ofNat']; omega
theorem i2ap_horner (ds : List Nat) (hd : ∀ d ∈ ds, d < 16) : i2ap (horner ds) = (ds.map capital).dropWhile (· == 65) := by
  induction ds using snoc_ind with
  | nil => exact i2ap_zero
  | append_singleton ds d ih =>
    have ih := ih fun e he => hd e (List.mem_append_left _ he)
    have hd16 := hd d (List.mem_append_right _ (by simp))
    rw [horner_snoc, List.map_append, List.map_singleton, List.dropWhile_append]
    have hc : (capital d == 65) = (d == 0) := by
      by_cases e : d = 0
      · subst e; rfl
      · have : capital d ≠ 65 := fun q => by
          have := congrArg UInt8.toNat q
          rw [capital_nat hd16] at this
          have h65 : (65 : UInt8).toNat = 65 := rfl
          omega
        rw [show (capital d == 65) = false by simpa using this, show (d == 0) = false by simpa using e]
    by_cases hz : horner ds = 0
    · have : (ds.map capital).dropWhile (· == 65) = [] := by rw [← ih, hz, i2ap_zero]
      rw [this]
      simp only [List.isEmpty_nil, if_true]
      by_cases e : d = 0
      · subst e
        rw [hz, List.dropWhile_cons_of_pos (by rw [hc]; rfl)]; exact i2ap_zero
      · rw [hz, List.dropWhile_cons_of_neg (by rw [hc]; simpa using e)]
        rw [i2ap_step _ (by omega)]
        have h1 : (0 * 16 + d) / 16 = 0 := by omega
        have h2 : apAt (0 * 16 + d) = capital d := by unfold apAt capital; congr 2; omega
        rw [h1, i2ap_zero, h2]; rfl
    · have : (ds.map capital).dropWhile (· == 65) ≠ [] := by rw [← ih]; exact i2ap_ne hz
      have h0 : ((ds.map capital).dropWhile (· == 65)).isEmpty = false := by cases h : (ds.map capital).dropWhile (· == 65) with | nil => exact absurd h this | cons a b => rfl
      rw [h0]
      simp only [Bool.false_eq_true, if_false]
      rw [← ih, i2ap_step _ (by omega)]
      have h1 : (horner ds * 16 + d) / 16 = horner ds := by omega
      have h2 : apAt (horner ds * 16 + d) = capital d := by unfold apAt capital; congr 2; omega
      rw [h1, h2]
noncomputable def countsOf (hs : List Nat) : List Nat := [4, 3, 2, 1, 0].map fun p => cnt hs p
theorem word_eq (hs : List Nat) (hl : hs.length ≤ 5) (hb : ∀ h ∈ hs, h < 32) : i2ap (totalOf hs) = ((countsOf hs).map capital).dropWhile (· == 65) := by
  rw [← i2ap_horner]
  · rw [total_eq hs hb]
    congr 1
    unfold countsOf horner
    simp
  · intro d hd
    obtain ⟨p, _, rfl⟩ := List.mem_map.mp hd
    have := cnt_le hs p
    omega
theorem lost_eq (hs : List Nat) (most : Nat) (hl : hs.length ≤ 5) (hb : ∀ h ∈ hs, h < 32) : ((i2ap (totalOf hs)).filter fun c => (c.toNat - 65) % (most + 1) != 0).isEmpty = lostOf hs most := by
  rw [word_eq hs hl hb]
  have key : ∀ ds : List Nat, (∀ d ∈ ds, d < 16) → (((ds.map capital).dropWhile (· == 65)).filter fun c => (c.toNat - 65) % (most + 1) != 0).isEmpty = ds.all fun d => d % (most + 1) == 0 := by
    intro ds
    induction ds with
    | nil => intro _; rfl
    | cons d ds ih =>
      intro h
      have hd := h d (.head _)
      have ih := ih fun e he => h e (.tail _ he)
      have all : ∀ es : List Nat, (∀ e ∈ es, e < 16) → ((es.map capital).filter fun c => (c.toNat - 65) % (most + 1) != 0).isEmpty = es.all fun d => d % (most + 1) == 0 := by
        intro es
        induction es with
        | nil => intro _; rfl
        | cons e es ih2 =>
          intro h2
          rw [List.map_cons, List.filter_cons, capital_nat (h2 e (.head _)), List.all_cons, ← ih2 fun x hx => h2 x (.tail _ hx), show 65 + e - 65 = e by omega]
          by_cases hz : e % (most + 1) = 0
          · rw [hz]; simp
          · have : (e % (most + 1) != 0) = true := by simpa using hz
            rw [this, show (e % (most + 1) == 0) = false by simpa using hz]; simp
      rw [List.map_cons, List.all_cons]
      by_cases e : d = 0
      · subst e
        rw [List.dropWhile_cons_of_pos (by rfl), ih]; simp
      · have hc : ¬ (capital d == 65) = true := fun q => by
          have := congrArg UInt8.toNat (beq_iff_eq.mp q)
          rw [capital_nat hd] at this
          have h65 : (65 : UInt8).toNat = 65 := rfl
          omega
        rw [List.dropWhile_cons_of_neg (p := fun x => x == 65) hc, ← List.map_cons, all (d :: ds) h, List.all_cons]
  rw [key]
  · unfold lostOf countsOf; rw [List.all_map]; rfl
  · intro d hd
    obtain ⟨p, _, rfl⟩ := List.mem_map.mp hd
    have := cnt_le hs p
    omega
end

section
open PySem PySem.Calls PySem.W PyProof.Rows
set_option maxRecDepth 100000
set_option maxHeartbeats 4000000
variable {w : World} {X : Bool}

theorem Fn.lo {n f ps p} (h : Fn w false n f ps p) : Fn w X n f ps p := fun A s vs mu R o m r => wpAny_mono (h A s vs mu R o m r) (fun _ _ ⟨a, b⟩ => ⟨a.nil, b⟩) fun _ _ f => f
theorem sub_app {z m m' : List Addr} (h : ∀ a ∈ m, a ∈ m') : ∀ a ∈ z ++ m, a ∈ z ++ m' := fun a ha => by
  rcases List.mem_append.mp ha with q | q
  · exact List.mem_append_left _ q
  · exact List.mem_append_right _ (h a q)
noncomputable def bitP (h : Nat) : PV → PV | .int p => .int (h / 2 ^ p.toNat % 2 : Nat) | p => p
noncomputable def cntP (hs : List Nat) : PV → PV | .int p => .int (cnt hs p.toNat : Nat) | p => p
noncomputable def capInts (l : List Nat) : List Int := l.map fun (n : Nat) => 65 + (n : Int)
noncomputable def capP : PV → PV | .int n => .int (65 + n) | p => p
theorem map_nats (f : PV → PV) (g : Nat → Nat) (l : List Nat) (h : ∀ n ∈ l, f (.int (n : Nat)) = .int (g n : Nat)) : (natsP l).map f = natsP (l.map g) := by
  rw [natsP, natsP, List.map_map, List.map_map]
  exact List.map_congr_left fun n hn => h n hn
theorem rng_nats (n : Nat) : rngP n = natsP (List.range n) := rfl

theorem fn_lost (hs : List Nat) (most : Nat) (hl : hs.length ≤ 5) (hb : ∀ n ∈ hs, n < 32) (hm : 0 < most ∧ most ≤ 3) :
    Fn w true 9 dLost.addr [.list (natsP hs), .int most] (.bool (lostOf hs most)) := by
  refine Fn.of ["heaps", "most"] (by simp [defs]) rfl (by walk_at "fn") (by walk_at "fn") (by walk_at "fn") (by walk_at "fn") (by walk_at "fn") rfl rfl rfl rfl ?_
  intro A L mu h₀ R
  let σ₀ : List (Str × PV) := [("heaps", .list (natsP hs)), ("most", .int (most : Nat))]
  refine Ex.assign (p := .int ((totalOf (hs.take 0) : Nat) : Int)) (fun h o F => by walk_at "ev") rfl (.inl rfl) (no_box _) ?_
  refine Ex.forr (p := .bool (lostOf hs most)) (qs := natsP hs) (fun i => ("total", .int ((totalOf (hs.take i) : Nat) : Int)) :: σ₀) (fun _ => none) (fun h o F => It.list (by walk_at "ev") R.handled) (.inr ⟨rfl, _, rfl⟩) (fun _ => no_box _) (fun _ => rfl) ?_ (fun _ _ h => h) ?_
  · intro i q B hq
    rw [List.getElem?_map] at hq
    obtain ⟨h, hh, rfl⟩ := Option.map_eq_some_iff.mp hq
    have h32 : h < 32 := hb h (List.mem_of_getElem? hh)
    obtain ⟨b1, b2, b3⟩ := nbits_ok ⟨h, h32⟩
    simp only at b1 b2 b3
    have blen : (bitsOf h).length ≤ 5 := by simp [bitsOf]; exact b1
    have bb : ∀ d ∈ bitsOf h, d < 16 := fun d hd => by
      obtain ⟨p, _, rfl⟩ := List.mem_map.mp hd
      have := Nat.mod_lt (h / 2 ^ p) (show 2 > 0 by decide)
      omega
    refine Ex.assign (p := .list (natsP (bitsOf h))) (fun hp o F => ?_) rfl (.inl rfl) (no_box _) ?_
    · exact Ev.app (d := dI2D) F.ok rfl (by simp [defs]) rfl (fn_i2d h h32) R F.muOld' (.cons (by walk_at "ev") (.cons (by walk_at "ev") .nil rfl) rfl) rfl rfl
    refine Ex.ite (u := !true) (fun hp o F => ?_) (fun h => by cases h) (fun _ => ?_)
    · have e := eqL_self ((bitsOf h).map fun (n : Nat) => (n : Int))
      rw [← nats_ints] at e
      refine' EvT.eq (EvT.lists (ps := natsP (bitsOf h)) (qs := natsP (bitsOf h)) (b := !eqL eq1 (natsP (bitsOf h)) (natsP (bitsOf h))) (by walk_at "ev") ?c1 nats_ok (R.le (by omega)) .ne rfl) (by rw [e])
      case c1 =>
        have V : Vars (fenv dLost L) (full (fenv dLost L) mu none) [("heap", .int (h : Nat))] hp := (F.weaken (σ' := [("heap", .int (h : Nat))]) (by simp only [List.forall_mem_cons]; exact ⟨rfl, by simp⟩)).toVars
        refine' Ev.eq (Ev.lcomp (qs := rngP (nbits h)) (cx := false) (cl := [("heap", L + 3)]) (fun _ => true) (bitP h) (by walk_at "cs") F.ok (It.range1 F.ok rfl rfl ?n2 R.handled (by omega) rfl) (by simp [rngP]; omega) MuOld.nil (fun C z h' q hq ho hc => ⟨rfl, fun _ => ?el2⟩)) ?e2
        case n2 => exact Ev.bitlen (n := (h : Int)) (by walk_at "ev") rfl rfl
        case el2 =>
          obtain ⟨p, hp', rfl⟩ := List.mem_map.mp hq
          have V3 := hc.x.join (hc.vars V (.cons rfl rfl rfl .nil)) (sub_app sub_nil)
          refine Ev.eq (p := .int (Builtin.bitAnd ((h : Int).fdiv (2 ^ ((p : Nat) : Int).toNat)) 1)) (by walk_at "ev") ?_
          rw [shr_nat, and_one]; rfl
        case e2 =>
          rw [filt_true, rng_nats]
          exact congrArg PV.list (map_nats _ _ _ fun n _ => rfl)
    refine Ex.assign (p := .int ((totalOf (hs.take (i + 1)) : Nat) : Int)) (fun hp o F => ?_) rfl (.inl rfl) (no_box _) ?_
    · refine' Ev.eq (Ev.app (d := dIadd) F.ok rfl (by simp [defs]) rfl (Fn.lo (fn_iadd ((totalOf (hs.take i) : Nat) : Int) ((hexVal (bitsOf h) : Nat) : Int))) (R.le (by omega)) F.muOld' (.cons (by walk_at "ev") (.cons ?d3 .nil rfl) rfl) rfl rfl) ?e3
      case d3 => exact Ev.app (d := dD2I) F.ok rfl (by simp [defs]) rfl (fn_d2i (bitsOf h) bb blen) (R.le (by omega)) F.muOld' (.cons (by walk_at "ev") (.cons (by walk_at "ev") .nil rfl) rfl) rfl rfl
      case e3 =>
        have : totalOf (hs.take (i + 1)) = totalOf (hs.take i) + hexVal (bitsOf h) := by
          unfold totalOf; rw [List.take_add_one, hh]; simp
        rw [this]; norm_cast
    exact Ex.nil fun hp F => .inl ⟨rfl, F.weaken (by simp only [σ₀, List.forall_mem_cons]; exact ⟨rfl, rfl, rfl, by simp⟩)⟩
  · have e1 : (natsP hs).length = hs.length := by simp
    rw [e1, List.take_length]
    have tb : totalOf hs < 16 ^ 6 := by
      rw [total_eq hs hb]
      have := fun p => cnt_le hs p
      have h4 := this 4; have h3 := this 3; have h2 := this 2; have h1 := this 1; have h0 := this 0
      omega
    have wl : (i2ap (totalOf hs)).length ≤ 6 := i2ap_len _ 6 tb
    refine Ex.assign (p := .bytes (i2ap (totalOf hs)).toArray) (fun h o F => ?_) rfl (.inl rfl) (no_box _) ?_
    · exact Ev.app (d := dInt2AP) F.ok rfl (by simp [defs]) rfl (Fn.lo (fn_int2ap (totalOf hs) (by omega))) (R.le (by omega)) F.muOld' (.cons (by walk_at "ev") .nil rfl) rfl rfl
    have ce : ((natsP places).filter (fun _ => true)).map (cntP hs) = natsP (countsOf hs) := by
      rw [filt_true]
      exact map_nats _ _ _ fun n _ => rfl
    have cl5 : (countsOf hs).length = 5 := rfl
    refine Ex.lcomp (qs := natsP places) (cx := true) (cl := [("heaps", L + 1)]) (fun _ => true) (cntP hs)
      (fun h o F => It.list (Ev.list (.cons (by walk_at "ev") (.cons (by walk_at "ev") (.cons (by walk_at "ev") (.cons (by walk_at "ev") (.cons (by walk_at "ev") .nil rfl) rfl) rfl) rfl) rfl) F.muOld' (by simp [places])) R.handled) (by simp [places]) (fun h₁ o₁ F => ⟨by walk_at "cs", fun C z h' q hq ho hc => ⟨rfl, fun _ => ?_⟩⟩) rfl (.inl rfl) (no_box _) ?_
    · obtain ⟨p, hp, rfl⟩ := List.mem_map.mp hq
      have V : Vars (fenv dLost L) (full (fenv dLost L) mu none) [("heaps", .list (natsP hs))] h₁ := (F.weaken (σ' := [("heaps", .list (natsP hs))]) (by simp only [List.forall_mem_cons]; exact ⟨rfl, by simp⟩)).toVars
      have V1 := hc.vars V (.cons rfl rfl rfl .nil)
      have VX := hc.x
      refine Ev.eq (Ev.bif (mu' := []) (id := "len") hc.ok rfl (by simp [bnames]) (.cons (p := .list (natsP (hs.filter fun h => h / 2 ^ p % 2 == 1))) ?_ .nil rfl) (bi_len_list ?_) (imm_any rfl) rfl rfl rfl) ?_
      · refine' Ev.eq (Ev.lcomp (qs := natsP hs) (cx := false) (cl := [("place", C + 1)]) (fun x => match x with | .int n => n.toNat / 2 ^ p % 2 == 1 | _ => false) id (by walk_at "cs") hc.ok (It.list (Ev.name V1 rfl sub_nil rfl rfl) R.handled) (by simp; omega) MuOld.nil (fun C' z' h'' q' hq' ho' hc' => ⟨?te1, fun _ => ?el1⟩)) ?e1
        case te1 =>
          obtain ⟨n, hn, rfl⟩ := List.mem_map.mp hq'
          have V2 := hc'.vars VX (.cons rfl rfl rfl .nil)
          have V3 := hc'.x.join V2 (sub_app sub_nil)
          clear V2
          refine EvT.eq (EvT.value (p := .int ((n / 2 ^ p % 2 : Nat) : Int)) (Ev.eq (p := .int (Builtin.bitAnd ((n : Int).fdiv (2 ^ ((p : Nat) : Int).toNat)) 1)) (by walk_at "ev") (by rw [shr_nat, and_one])) trivial fun _ => rfl) ?_
          show (((n / 2 ^ p % 2 : Nat) : Int) != 0) = ((n : Int).toNat / 2 ^ p % 2 == 1)
          rw [Int.toNat_natCast]
          have := Nat.mod_lt (n / 2 ^ p) (show 2 > 0 by decide)
          by_cases e : n / 2 ^ p % 2 = 1
          · rw [e]; rfl
          · have : n / 2 ^ p % 2 = 0 := by omega
            rw [this]; rfl
        case el1 =>
          obtain ⟨n, hn, rfl⟩ := List.mem_map.mp hq'
          have V3 := hc'.x
          walk_at "ev"
        case e1 =>
          rw [List.map_id]
          exact congrArg PV.list (filt_nats _ _ (fun n => by simp) hs)
      · simp only [List.length_map]; exact Nat.le_trans (List.length_filter_le _ _) (by omega)
      · simp [cntP, cnt]
    rw [ce]
    have cc : ∀ c ∈ countsOf hs, c ≤ 5 := fun c hc => by
      obtain ⟨p, _, rfl⟩ := List.mem_map.mp hc
      exact Nat.le_trans (cnt_le hs p) hl
    have we := word_eq hs hl hb
    refine Ex.ite (u := false) (fun h o F => ?_) (fun h => by cases h) (fun _ => ?_)
    · refine' EvT.eq (EvT.cmp (p := .bytes (i2ap (totalOf hs)).toArray) (q := .bytes ((byteArr (capInts (countsOf hs))).toList.dropWhile (#[65] : Array UInt8).contains).toArray) (by walk_at "ev") ?q2 .neB rfl) ?e2
      case q2 =>
        refine Ev.lstrip (y := #[65]) ?_ (by walk_at "ev") (by simp [byteArr, capInts, cl5]) rfl rfl rfl
        refine Ev.bit (mu' := []) (T := "bytes") F.ok rfl (by simp [bnames]) ?_ (bi_bytes (ns := capInts (countsOf hs)) ?_ (by simp [capInts, cl5]) R.handled) (imm_any rfl) rfl rfl
        · refine' Ev.eq (Ev.lcomp (qs := natsP (countsOf hs)) (cx := false) (cl := []) (fun _ => true) capP (by walk_at "cs") F.ok (It.list (by walk_at "ev") R.handled) (by simp [cl5]) MuOld.nil (fun C z h' q hq ho hc => ⟨rfl, fun _ => ?el3⟩)) ?ee3
          case el3 =>
            obtain ⟨n, hn, rfl⟩ := List.mem_map.mp hq
            have V3 := hc.x
            exact Ev.eq (p := .int (65 + (n : Int))) (by walk_at "ev") rfl
          case ee3 => rw [filt_true]; simp [natsP, intsP, capP, capInts, Function.comp_def]
        · intro n hn
          obtain ⟨c, hc, rfl⟩ := List.mem_map.mp hn
          have := cc c hc
          omega
      case e2 =>
        have : ((byteArr (capInts (countsOf hs))).toList.dropWhile (#[65] : Array UInt8).contains) = i2ap (totalOf hs) := by
          rw [we]
          unfold byteArr capInts
          simp only [List.map_map]
          have e1 : (#[65] : Array UInt8).contains = fun x => x == 65 := by funext x; rw [Bool.eq_iff_iff]; simp
          rw [e1]
          congr 1
        show ((i2ap (totalOf hs)).toArray.toList != ((byteArr (capInts (countsOf hs))).toList.dropWhile (#[65] : Array UInt8).contains).toArray.toList) = false
        rw [this]; simp
    refine Ex.ret fun h o F => ?_
    have V : Vars (fenv dLost L) (full (fenv dLost L) mu none) [("most", .int (most : Nat))] h := (F.weaken (σ' := [("most", .int (most : Nat))]) (by simp only [List.forall_mem_cons]; exact ⟨rfl, by simp⟩)).toVars
    refine' Ev.eq (Ev.lists (ps := intsP (((i2ap (totalOf hs)).filter fun c => (c.toNat - 65) % (most + 1) != 0).map fun c => (c.toNat : Int))) (qs := []) ?c4 (Ev.list .nil MuOld.nil (by simp)) (by simp) (R.le (by omega)) .eq rfl) ?e4
    case c4 =>
      have bounds : ∀ c ∈ i2ap (totalOf hs), 65 ≤ c.toNat := fun c hc => by
        obtain ⟨i, hi⟩ := List.mem_iff_getElem?.mp hc
        exact (ap_good _ i c hi).1.1
      refine' Ev.eq (Ev.lcomp (qs := (i2ap (totalOf hs)).toArray.toList.map fun c => .int (c.toNat : Int)) (cx := false) (cl := [("most", L + 2)]) (fun x => match x with | .int n => (n.toNat - 65) % (most + 1) != 0 | _ => false) id (by walk_at "cs") F.ok (It.bytes (by walk_at "ev") R.handled) (by simp; omega) MuOld.nil (fun C z h' q hq ho hc => ⟨?te5, fun _ => ?el5⟩)) ?e5
      case te5 =>
        obtain ⟨c, hcm, rfl⟩ := List.mem_map.mp hq
        have hb65 := bounds c (by simpa using hcm)
        have V3 := hc.x.join (hc.vars V (.cons rfl rfl rfl .nil)) (sub_app sub_nil)
        refine' EvT.eq (EvT.cmp (p := .int (((c.toNat - 65) % (most + 1) : Nat) : Int)) (q := .int 0) ?x6 (by walk_at "ev") .ne rfl) ?y6
        case x6 =>
          refine Ev.eq (Ev.app (d := dImod) hc.ok rfl (by simp [defs]) rfl (fn_imod ((c.toNat : Int) - 65) ((most : Nat) + 1 : Int) (by omega)) (R.le (by omega)) MuOld.nil (.cons (by walk_at "ev") (.cons (by walk_at "ev") .nil rfl) rfl) rfl rfl) ?_
          rw [Int.fmod_eq_emod_of_nonneg _ (by omega)]
          have h1 : ((c.toNat : Int) - 65) = ((c.toNat - 65 : Nat) : Int) := by omega
          have h2 : ((most : Int) + 1) = ((most + 1 : Nat) : Int) := by omega
          rw [h1, h2]; norm_cast
        case y6 =>
          show ((((c.toNat - 65) % (most + 1) : Nat) : Int) != 0) = (((c.toNat : Int).toNat - 65) % (most + 1) != 0)
          rw [Int.toNat_natCast]
          by_cases e : (c.toNat - 65) % (most + 1) = 0
          · rw [e]; rfl
          · rw [show ((c.toNat - 65) % (most + 1) != 0) = true by simpa using e]
            simp only [bne_iff_ne, ne_eq]; omega
      case el5 =>
        obtain ⟨c, hcm, rfl⟩ := List.mem_map.mp hq
        have V3 := hc.x
        walk_at "ev"
      case e5 =>
        rw [List.map_id]
        simp only [List.filter_map, intsP, List.map_map]
        rfl
    case e4 =>
      rw [eqL_nil, ← lost_eq hs most hl hb]
      congr 1
      simp [intsP]
end

section
/-! the machine's run on a line -/
open PySem PySem.Sre
set_option maxRecDepth 100000
/-- the machine's state, what matters -/
structure Sm where
  pc : Nat
  pos : Nat
  fr : List Sre.Frame
  w : Nat
  lm : Int
  li : Int
  mks : Array (Option Nat)
  hd : Nat
  out : Bool
  ans : Option Bool
  seen : Seen
noncomputable def Sm.m (x : Array UInt8) (t : Sm) : M :=
  { code := patCode.toArray, text := x.map (·.toNat), lim := x.size, start := 0, pc := t.pc, pos := t.pos, handed := t.hd, outermost := t.out, marks := t.mks, lastmark := t.lm, lastindex := t.li, frames := t.fr, weight := t.w, answer := t.ans, seen := t.seen }
noncomputable def Go (x : Array UInt8) (k : Nat) (t u : Sm) : Prop := ∃ n, n ≤ k ∧ M.runFor n (t.m x) = u.m x
theorem Go.refl {x k t} : Go x k t t := ⟨0, Nat.zero_le _, rfl⟩
theorem Go.trans {x k l t u v} (a : Go x k t u) (b : Go x l u v) : Go x (k + l) t v :=
  let ⟨n, hn, e⟩ := a; let ⟨m, hm, f⟩ := b; ⟨n + m, by omega, by rw [runFor_add, e, f]⟩
theorem Go.mono {x k l t u} (a : Go x k t u) (h : k ≤ l) : Go x l t u := let ⟨n, hn, e⟩ := a; ⟨n, by omega, e⟩
theorem Go.one {x t u} (h : (t.m x).step = u.m x) : Go x 1 t u := ⟨1, Nat.le_refl _, by
  show M.runFor 1 (t.m x) = _
  unfold M.runFor
  rw [if_neg (by simp [Sm.m]), h]; rfl⟩
theorem Go.cons {x k t u v} (h : (t.m x).step = u.m x) (b : Go x k u v) : Go x (k + 1) t v := (Go.one h).trans b |>.mono (by omega)

theorem step_exec {m : M} (ho : m.outcome = none) (ha : m.answer = none) (hp : m.pc < m.code.size) : m.step = m.exec := by
  unfold M.step
  rw [ho, ha]
  simp only [Option.isSome_none, Bool.false_eq_true, if_false]
  rw [if_pos hp]
theorem acc_lit {code : Array Nat} {i c : Nat} {seen : Seen} (h : code.getD i 0 = 16) : accepts code i c seen = .ok (c == code.getD (i + 1) 0, seen) := by
  unfold accepts
  rw [show ops[code.getD i 0]? = some .LITERAL by rw [h]; rfl]
theorem acc_any {code : Array Nat} {i c : Nat} {seen : Seen} (h : code.getD i 0 = 2) : accepts code i c seen = .ok (c != 10, seen) := by
  unfold accepts
  rw [show ops[code.getD i 0]? = some .ANY by rw [h]; rfl]
theorem acc_not {code : Array Nat} {i c : Nat} {seen : Seen} (h : code.getD i 0 = 20) : accepts code i c seen = .ok (c != code.getD (i + 1) 0, seen) := by
  unfold accepts
  rw [show ops[code.getD i 0]? = some .NOT_LITERAL by rw [h]; rfl]
theorem width_lit {code : Array Nat} {i : Nat} (h : code.getD i 0 = 16) : itemWidth code i = 2 := by
  unfold itemWidth
  rw [show ops[code.getD i 0]? = some .LITERAL by rw [h]; rfl]
theorem exec_lit {m : M} (hw : m.code.getD m.pc 0 = 16) (hp : m.pos < m.lim) (b : Bool) (hc : (m.text.getD m.pos 0 == m.code.getD (m.pc + 1) 0) = b) :
    m.exec = if b then { m with seen := m.seen.add 16, pc := m.pc + 2, pos := m.pos + 1 } else ({ m with seen := m.seen.add 16 } : M).say false := by
  have hw0 : m.word 0 = 16 := hw
  have ho : ops[m.word 0]? = some .LITERAL := by rw [hw0]; rfl
  unfold M.exec
  simp only [ho]
  rw [if_neg (by omega), acc_lit hw, hc, hw0]
  cases b
  · rfl
  · simp only [width_lit hw, if_true]
theorem exec_lit_end {m : M} (hw : m.code.getD m.pc 0 = 16) (hp : m.lim ≤ m.pos) : m.exec = ({ m with seen := m.seen.add 16 } : M).say false := by
  have hw0 : m.word 0 = 16 := hw
  have ho : ops[m.word 0]? = some .LITERAL := by rw [hw0]; rfl
  unfold M.exec
  simp only [ho]
  rw [if_pos hp, hw0]
theorem exec_ok {m : M} (hw : m.code.getD m.pc 0 = 1) (h1 : m.wholeText = false) (h2 : m.mustAdvance = false) : m.exec = ({ m with seen := m.seen.add 1, handed := m.pos } : M).say true := by
  have hw0 : m.word 0 = 1 := hw
  have ho : ops[m.word 0]? = some .SUCCESS := by rw [hw0]; rfl
  unfold M.exec
  simp only [ho]
  rw [h1, h2, hw0]
  simp
theorem exec_mark {m : M} (hw : m.code.getD m.pc 0 = 17) : m.exec = ({ m with seen := m.seen.add 17 } : M).mark (m.code.getD (m.pc + 1) 0) := by
  have hw0 : m.word 0 = 17 := hw
  have ho : ops[m.word 0]? = some .MARK := by rw [hw0]; rfl
  unfold M.exec
  simp only [ho]
  rw [hw0]; rfl
theorem exec_rep {m : M} (hw : m.code.getD m.pc 0 = 24) (hl : m.code.getD (m.pc + 2) 0 = 0) (hp : m.pos ≤ m.lim) (n : Nat) (s : Seen) (hi : m.inner = none)
    (hr : Sre.run m.code m.text (m.pc + 4) (min (m.code.getD (m.pc + 3) 0) (m.lim - m.pos)) m.pos 0 ((m.seen.add 24).add (m.code.getD (m.pc + 4) 0)) = .ok (n, s)) :
    m.exec = ({ m with seen := s, pos := m.pos + n } : M).afterRun .giveBack n { lastmark := m.lastmark, lastindex := m.lastindex } := by
  have hw0 : m.word 0 = 24 := hw
  have ho : ops[m.word 0]? = some .REPEAT_ONE := by rw [hw0]; rfl
  have hw2 : m.word 2 = 0 := hl
  have hroom : ((m.lim : Int) - (m.pos : Int)).toNat = m.lim - m.pos := by omega
  unfold M.exec
  simp only [ho, hroom]
  have hw2' : ∀ s : Seen, ({ m with seen := s } : M).word 2 = 0 := fun _ => hl
  rw [if_neg (by rw [hw2']; omega)]
  simp only [Bool.false_eq_true, if_false]
  have hr' : Sre.run m.code m.text (m.pc + 4) (min (m.word 3) (m.lim - m.pos)) m.pos 0 ((m.seen.add (m.word 0)).add (m.word 4)) = .ok (n, s) := by rw [hw0]; exact hr
  simp only [M.word] at hr' ⊢
  rw [hr']
  simp only [hl]
  simp only [Nat.not_lt_zero, if_false]
  simp only [M.keep, hi]
  rfl
theorem run_any (code text : Array Nat) (i : Nat) (h : code.getD i 0 = 2) : ∀ (n p f : Nat) (s : Seen), (∀ q, p ≤ q → q < p + n → text.getD q 0 ≠ 10) → Sre.run code text i n p f s = .ok (f + n, s)
  | 0, p, f, s, _ => rfl
  | n + 1, p, f, s, hq => by
    unfold Sre.run
    rw [acc_any h]
    have : (text.getD p 0 != 10) = true := by simpa using hq p (Nat.le_refl _) (by omega)
    simp only [this]
    show (if true = true then Sre.run code text i n (p + 1) (f + 1) s else pure (f, s)) = _
    rw [if_pos rfl, run_any code text i h n (p + 1) (f + 1) s fun q h1 h2 => hq q (by omega) (by omega)]
    congr 2; omega
theorem run_not (code text : Array Nat) (i c : Nat) (h : code.getD i 0 = 20) (hc : code.getD (i + 1) 0 = c) : ∀ (k n p f : Nat) (s : Seen), (∀ q, p ≤ q → q < p + k → text.getD q 0 ≠ c) → k ≤ n → (k < n → text.getD (p + k) 0 = c) → Sre.run code text i n p f s = .ok (f + k, s)
  | 0, 0, p, f, s, _, _, _ => rfl
  | 0, n + 1, p, f, s, _, _, he => by
    unfold Sre.run
    rw [acc_not h, hc]
    have : (text.getD p 0 != c) = false := by simpa using he (by omega)
    simp only [this]
    rfl
  | k + 1, 0, p, f, s, _, hk, _ => by omega
  | k + 1, n + 1, p, f, s, hq, hk, he => by
    unfold Sre.run
    rw [acc_not h, hc]
    have : (text.getD p 0 != c) = true := by simpa using hq p (Nat.le_refl _) (by omega)
    simp only [this]
    show (if true = true then Sre.run code text i n (p + 1) (f + 1) s else pure (f, s)) = _
    rw [if_pos rfl, run_not code text i c h hc k n (p + 1) (f + 1) s (fun q h1 h2 => hq q (by omega) (by omega)) (by omega) (fun h3 => by have := he (by omega); rwa [show p + 1 + k = p + (k + 1) by omega])]
    congr 2; omega
end

section
open PySem PySem.Sre
set_option maxRecDepth 100000
set_option maxHeartbeats 1000000
noncomputable def litP : List Nat := [70, 76, 65, 71, 83, 32, 40]
noncomputable def chr (x : Array UInt8) (i : Nat) : Nat := (x.map (·.toNat)).getD i 0
noncomputable def matchAt (x : Array UInt8) (p : Nat) : Prop := ∀ k, k < 7 → p + k < x.size ∧ chr x (p + k) = litP.getD k 0
noncomputable def f1 (p : Nat) : Sre.Frame := { wait := .giveBack, pc := 5, pos := p, outermost := true, count := (p : Int), kept := { lastmark := -1, lastindex := -1 } }
theorem code_lit : ∀ k : Fin 7, patCode.toArray.getD (11 + 2 * k.val) 0 = 16 ∧ patCode.toArray.getD (11 + 2 * k.val + 1) 0 = litP.getD k.val 0 := by decide +kernel

/-- where the first run is given back to p -/
structure isA (t : Sm) (p : Nat) : Prop where
  pc : t.pc = 11
  pos : t.pos = p
  fr : t.fr = [f1 p]
  w : t.w = 1
  lm : t.lm = -1
  li : t.li = -1
  mks : t.mks.size = 2
  out : t.out = true
  ans : t.ans = none

theorem lits_yes (x : Array UInt8) (p : Nat) : ∀ (j k : Nat), k + j = 7 → (∀ i, k ≤ i → i < 7 → p + i < x.size ∧ chr x (p + i) = litP.getD i 0) → ∀ t : Sm, t.pc = 11 + 2 * k → t.pos = p + k → t.ans = none →
    ∃ s, Go x j t { t with pc := 25, pos := p + 7, seen := s }
  | 0, k, hk, hm, t, h1, h2, h3 => ⟨t.seen, by
    have : k = 7 := by omega
    subst this
    obtain ⟨pc, pos, fr, w, lm, li, mks, hd, out, ans, seen⟩ := t
    simp only at h1 h2 h3
    subst h1 h2
    exact .refl⟩
  | j + 1, k, hk, hm, t, h1, h2, h3 => by
    obtain ⟨c1, c2⟩ := code_lit ⟨k, by omega⟩
    obtain ⟨m1, m2⟩ := hm k (Nat.le_refl _) (by omega)
    obtain ⟨s, hs⟩ := lits_yes x p j (k + 1) (by omega) (fun i a b => hm i (by omega) b) { t with pc := 11 + 2 * (k + 1), pos := p + (k + 1), seen := t.seen.add 16 } rfl rfl h3
    refine ⟨s, Go.cons (u := { t with pc := 11 + 2 * (k + 1), pos := p + (k + 1), seen := t.seen.add 16 }) ?_ hs⟩
    rw [step_exec rfl h3 (by show t.pc < patCode.toArray.size; rw [h1]; have : patCode.toArray.size = 39 := by decide
                             omega)]
    rw [exec_lit (b := true) (by show patCode.toArray.getD t.pc 0 = 16; rw [h1]; exact c1) (by show t.pos < x.size; rw [h2]; exact m1) (by
      show (chr x t.pos == patCode.toArray.getD (t.pc + 1) 0) = true
      rw [h1, h2, c2, m2]; simp)]
    simp only [if_true]
    show ({ (t.m x) with seen := t.seen.add 16, pc := t.pc + 2, pos := t.pos + 1 } : M) = _
    rw [h1, h2]
    rfl
theorem lits_no (x : Array UInt8) (p : Nat) : ∀ (j k : Nat), k + j = 7 → ¬ (∀ i, k ≤ i → i < 7 → p + i < x.size ∧ chr x (p + i) = litP.getD i 0) → ∀ t : Sm, t.pc = 11 + 2 * k → t.pos = p + k → t.ans = none →
    ∃ s pc pos, Go x j t { t with pc := pc, pos := pos, seen := s, ans := some false }
  | 0, k, hk, hm, t, h1, h2, h3 => absurd (fun i a b => by omega) hm
  | j + 1, k, hk, hm, t, h1, h2, h3 => by
    obtain ⟨c1, c2⟩ := code_lit ⟨k, by omega⟩
    have hst := step_exec (m := t.m x) rfl h3 (by show t.pc < patCode.toArray.size; rw [h1]; have : patCode.toArray.size = 39 := by decide
                                                  omega)
    by_cases hp : p + k < x.size
    · by_cases hc : chr x (p + k) = litP.getD k 0
      · obtain ⟨s, pc, pos, hs⟩ := lits_no x p j (k + 1) (by omega) (fun q => hm fun i a b => by
          by_cases e : i = k
          · subst e; exact ⟨hp, hc⟩
          · exact q i (by omega) b) { t with pc := 11 + 2 * (k + 1), pos := p + (k + 1), seen := t.seen.add 16 } rfl rfl h3
        refine ⟨s, pc, pos, Go.cons (u := { t with pc := 11 + 2 * (k + 1), pos := p + (k + 1), seen := t.seen.add 16 }) ?_ hs⟩
        rw [hst, exec_lit (b := true) (by show patCode.toArray.getD t.pc 0 = 16; rw [h1]; exact c1) (by show t.pos < x.size; rw [h2]; exact hp) (by
          show (chr x t.pos == patCode.toArray.getD (t.pc + 1) 0) = true
          rw [h1, h2, c2, hc]; simp)]
        simp only [if_true]
        show ({ (t.m x) with seen := t.seen.add 16, pc := t.pc + 2, pos := t.pos + 1 } : M) = _
        rw [h1, h2]
        rfl
      · refine ⟨t.seen.add 16, t.pc, t.pos, (Go.one ?_).mono (by omega)⟩
        rw [hst, exec_lit (b := false) (by show patCode.toArray.getD t.pc 0 = 16; rw [h1]; exact c1) (by show t.pos < x.size; rw [h2]; exact hp) (by
          show (chr x t.pos == patCode.toArray.getD (t.pc + 1) 0) = false
          rw [h1, h2, c2]; simpa using hc)]
        rfl
    · refine ⟨t.seen.add 16, t.pc, t.pos, (Go.one ?_).mono (by omega)⟩
      rw [hst, exec_lit_end (by show patCode.toArray.getD t.pc 0 = 16; rw [h1]; exact c1) (by show x.size ≤ t.pos; rw [h2]; omega)]
      rfl
theorem w5 : patCode.toArray.getD (5 + 2) 0 = 0 ∧ patCode.toArray.getD (5 + 1) 0 = 5 := by decide +kernel
theorem putBack_no {m : M} {k : Sre.Kept} (h : k.whole = false) : m.putBack k = { m with lastmark := k.lastmark, lastindex := k.lastindex } := by unfold M.putBack; rw [h]; rfl
theorem attempt_ok {m : M} {f : Sre.Frame} {a b o} (hk : f.kept.marks = #[]) (hw : m.weight < 16777216) : m.attempt f a b o = { m with frames := f :: m.frames, weight := m.weight + 1, pc := a, pos := b, handed := b, outermost := o } := by
  unfold M.attempt
  rw [hk]
  rw [if_neg (by simp; omega)]
  rfl
/-- no, and a frame that gives back -/
theorem step_back {m : M} {f : Sre.Frame} {rest : List Sre.Frame} (ho : m.outcome = none) (ha : m.answer = some false) (hf : m.frames = f :: rest) (hw : f.wait = .giveBack) (hk : f.kept.marks = #[]) (hkw : f.kept.whole = false) (hl : m.code.getD (f.pc + 2) 0 = 0) (hwt : m.weight < 16777216) :
    m.step = if f.count - 1 < 0 then { m with answer := some false, frames := rest, weight := m.weight - 1, pc := f.pc, pos := f.pos, outermost := f.outermost, lastmark := f.kept.lastmark, lastindex := f.kept.lastindex }
      else { m with answer := none, frames := { wait := .giveBack, pc := f.pc, pos := f.pos - 1, outermost := f.outermost, count := f.count - 1, kept := f.kept } :: rest, weight := m.weight - 1 + 1, pc := f.pc + 1 + m.code.getD (f.pc + 1) 0, pos := f.pos - 1, handed := f.pos - 1, outermost := f.outermost, lastmark := f.kept.lastmark, lastindex := f.kept.lastindex } := by
  unfold M.step
  rw [ho, ha, hf]
  simp only [Option.isSome_none, Bool.false_eq_true, if_false]
  unfold M.resume
  rw [hw, hk]
  simp only [Bool.false_eq_true, if_false]
  by_cases hc : f.count - 1 < 0
  · rw [if_pos hc]
    refine (if_pos ?_).trans ?_
    · show f.count - 1 < ((m.code.getD (f.pc + 2) 0 : Nat) : Int)
      rw [hl]; simpa using hc
    · rw [putBack_no hkw]; rfl
  · rw [if_neg hc]
    refine (if_neg ?_).trans ?_
    · show ¬ f.count - 1 < ((m.code.getD (f.pc + 2) 0 : Nat) : Int)
      rw [hl]; simpa using hc
    rw [putBack_no hkw]
    unfold M.afterRun
    rw [attempt_ok (by exact hk) (by show m.weight - (1 + 0) < _; omega)]
    rfl
theorem step_yes {m : M} {f : Sre.Frame} {rest : List Sre.Frame} (ho : m.outcome = none) (ha : m.answer = some true) (hf : m.frames = f :: rest) (hw : f.wait = .giveBack) (hk : f.kept.marks = #[]) :
    m.step = { m with answer := some true, frames := rest, weight := m.weight - 1, pc := f.pc, pos := f.pos, outermost := f.outermost } := by
  unfold M.step
  rw [ho, ha, hf]
  simp only [Option.isSome_none, Bool.false_eq_true, if_false]
  unfold M.resume
  rw [hw, hk]
  rfl
theorem step_end {m : M} {b : Bool} (ho : m.outcome = none) (ha : m.answer = some b) (hf : m.frames = []) : m.step = { m with outcome := some (if b then .matched else .failed) } := by
  unfold M.step
  rw [ho, ha, hf]
  rfl
/-- the first run given back by one -/
theorem back_one (x : Array UInt8) (p : Nat) (t : Sm) (hf : t.fr = [f1 (p + 1)]) (hw : t.w = 1) (ha : t.ans = some false) (hm : t.mks.size = 2) : ∃ u, Go x 1 t u ∧ isA u p := by
  refine ⟨{ t with pc := 11, pos := p, fr := [f1 p], w := 1, lm := -1, li := -1, hd := p, out := true, ans := none }, Go.one ?_, ⟨rfl, rfl, rfl, rfl, rfl, rfl, hm, rfl, rfl⟩⟩
  have hc : ((p + 1 : Nat) : Int) - 1 = (p : Int) := by omega
  rw [step_back (f := f1 (p + 1)) (rest := []) rfl ha hf rfl rfl rfl w5.1 (by show t.w < _; rw [hw]; decide)]
  rw [if_neg (by show ¬ ((p + 1 : Nat) : Int) - 1 < 0; omega)]
  obtain ⟨pc, pos, fr, w, lm, li, mks, hd, out, ans, seen⟩ := t
  simp only at hf hw ha hm
  subst hf hw ha
  have h6 := w5.2
  simp only [Sm.m, f1, hc, Nat.add_sub_cancel]
  rw [h6]
/-- and at the end -/
theorem back_end (x : Array UInt8) (t : Sm) (hf : t.fr = [f1 0]) (hw : t.w = 1) (ha : t.ans = some false) : ∃ n mf, n ≤ 2 ∧ M.runFor n (t.m x) = mf ∧ mf.outcome = some .failed := by
  refine ⟨2, _, Nat.le_refl _, rfl, ?_⟩
  show (M.runFor 2 (t.m x)).outcome = _
  rw [M.runFor, if_neg (by simp [Sm.m]), step_back (f := f1 0) (rest := []) rfl ha hf rfl rfl rfl w5.1 (by show t.w < _; rw [hw]; decide), if_pos (by show ((0 : Nat) : Int) - 1 < 0; omega), M.runFor, if_neg (by simp [Sm.m]), step_end rfl rfl rfl]
  rfl
end

section
open PySem PySem.Sre
set_option maxRecDepth 100000
set_option maxHeartbeats 1000000
noncomputable def f2 (b c : Nat) : Sre.Frame := { wait := .giveBack, pc := 27, pos := b + c, outermost := true, count := (c : Int), kept := { lastmark := 0, lastindex := -1 } }
theorem codes : patCode.toArray.size = 39 ∧ patCode.toArray.getD 25 0 = 17 ∧ patCode.toArray.getD 26 0 = 0 ∧ patCode.toArray.getD 27 0 = 24 ∧ patCode.toArray.getD 28 0 = 6 ∧ patCode.toArray.getD 29 0 = 0 ∧ patCode.toArray.getD 30 0 = 4294967295 ∧
    patCode.toArray.getD 31 0 = 20 ∧ patCode.toArray.getD 32 0 = 41 ∧ patCode.toArray.getD 34 0 = 17 ∧ patCode.toArray.getD 35 0 = 1 ∧ patCode.toArray.getD 36 0 = 16 ∧ patCode.toArray.getD 37 0 = 41 ∧ patCode.toArray.getD 38 0 = 1 := by decide +kernel
theorem mark_ok {m : M} {i : Nat} (h : (i : Int) ≤ m.lastmark + 1) : m.mark i = { m with marks := m.marks.setIfInBounds i (some m.pos), lastmark := max m.lastmark i, lastindex := if i % 2 == 1 then (i / 2 + 1 : Nat) else m.lastindex, pc := m.pc + 2 } := by
  unfold M.mark
  rw [if_pos h]

/-- the second run stands at c -/
structure isB (t : Sm) (p b c : Nat) : Prop where
  pc : t.pc = 34
  pos : t.pos = b + c
  fr : t.fr = [f2 b c, f1 p]
  w : t.w = 2
  lm : t.lm = 0
  li : t.li = -1
  mks : t.mks.size = 2
  mk0 : t.mks.getD 0 none = some b
  out : t.out = true
  ans : t.ans = none

theorem to_lit (x : Array UInt8) (t : Sm) (p b c : Nat) (h : isB t p b c) : ∃ s, Go x 1 t { t with pc := 36, mks := t.mks.setIfInBounds 1 (some (b + c)), lm := 1, li := 1, seen := s } := by
  obtain ⟨c0, _, _, _, _, _, _, _, _, c34, c35, _⟩ := codes
  refine ⟨t.seen.add 17, Go.one ?_⟩
  rw [step_exec rfl h.ans (by show t.pc < patCode.toArray.size; rw [h.pc, c0]; decide), exec_mark (by show patCode.toArray.getD t.pc 0 = 17; rw [h.pc]; exact c34)]
  have e : (t.m x).code.getD ((t.m x).pc + 1) 0 = 1 := by show patCode.toArray.getD (t.pc + 1) 0 = 1; rw [h.pc]; exact c35
  rw [e, mark_ok (by show ((1 : Nat) : Int) ≤ t.lm + 1; rw [h.lm]; decide)]
  obtain ⟨pc, pos, fr, w, lm, li, mks, hd, out, ans, seen⟩ := t
  have h1 := h.pc; have h2 := h.pos; have h3 := h.lm
  simp only at h1 h2 h3
  subst h1 h2 h3
  rfl

theorem lit_no (x : Array UInt8) (t : Sm) (hpc : t.pc = 36) (ha : t.ans = none) (hc : t.pos < x.size → chr x t.pos ≠ 41) : ∃ s, Go x 1 t { t with ans := some false, seen := s } := by
  obtain ⟨c0, _, _, _, _, _, _, _, _, _, _, c36, c37, _⟩ := codes
  have hst := step_exec (m := t.m x) rfl ha (by show t.pc < patCode.toArray.size; rw [hpc, c0]; decide)
  refine ⟨t.seen.add 16, Go.one ?_⟩
  by_cases hp : t.pos < x.size
  · rw [hst, exec_lit (b := false) (by show patCode.toArray.getD t.pc 0 = 16; rw [hpc]; exact c36) hp (by
      show (chr x t.pos == patCode.toArray.getD (t.pc + 1) 0) = false
      rw [hpc, c37]; simpa using hc hp)]
    rfl
  · rw [hst, exec_lit_end (by show patCode.toArray.getD t.pc 0 = 16; rw [hpc]; exact c36) (by show x.size ≤ t.pos; omega)]
    rfl
theorem w27 : patCode.toArray.getD (27 + 2) 0 = 0 ∧ patCode.toArray.getD (27 + 1) 0 = 6 := by decide +kernel
theorem set1 {mks : Array (Option Nat)} {v : Option Nat} (h : mks.size = 2) : (mks.setIfInBounds 1 v).size = 2 ∧ (mks.setIfInBounds 1 v).getD 0 none = mks.getD 0 none ∧ (mks.setIfInBounds 1 v).getD 1 none = v := by
  obtain ⟨l⟩ := mks
  match l, h with
  | [a, b], _ => exact ⟨rfl, rfl, rfl⟩

theorem inner_no (x : Array UInt8) (p b : Nat) : ∀ (c : Nat) (t : Sm), isB t p b c → (∀ i, b ≤ i → i ≤ b + c → i < x.size → chr x i ≠ 41) →
    ∃ u, Go x (3 * (c + 1)) t u ∧ u.fr = [f1 p] ∧ u.w = 1 ∧ u.ans = some false ∧ u.mks.size = 2 := by
  intro c
  induction c with
  | zero =>
    intro t h hc
    obtain ⟨s, g⟩ := to_lit x t p b 0 h
    obtain ⟨s', g'⟩ := lit_no x { t with pc := 36, mks := t.mks.setIfInBounds 1 (some (b + 0)), lm := 1, li := 1, seen := s } rfl h.ans (fun hp => by
      have e : t.pos = b + 0 := h.pos
      show chr x t.pos ≠ 41
      rw [e]; exact hc _ (by omega) (Nat.le_refl _) (by rw [← e]; exact hp))
    obtain ⟨m1, m2, m3⟩ := set1 (v := some (b + 0)) h.mks
    refine ⟨{ t with pc := 27, pos := b + 0, fr := [f1 p], w := 1, mks := t.mks.setIfInBounds 1 (some (b + 0)), lm := 0, li := -1, out := true, ans := some false, seen := s' }, ((g.trans g').trans (Go.one ?_)).mono (by omega), rfl, rfl, rfl, m1⟩
    rw [step_back (f := f2 b 0) (rest := [f1 p]) rfl rfl h.fr rfl rfl rfl w27.1 (by show t.w < _; rw [h.w]; decide), if_pos (by show ((0 : Nat) : Int) - 1 < 0; omega)]
    obtain ⟨pc, pos, fr, w, lm, li, mks, hd, out, ans, seen⟩ := t
    have h4 := h.w
    simp only at h4
    subst h4
    rfl
  | succ c ih =>
    intro t h hc
    obtain ⟨s, g⟩ := to_lit x t p b (c + 1) h
    obtain ⟨s', g'⟩ := lit_no x { t with pc := 36, mks := t.mks.setIfInBounds 1 (some (b + (c + 1))), lm := 1, li := 1, seen := s } rfl h.ans (fun hp => by
      have e : t.pos = b + (c + 1) := h.pos
      show chr x t.pos ≠ 41
      rw [e]; exact hc _ (by omega) (Nat.le_refl _) (by rw [← e]; exact hp))
    obtain ⟨m1, m2, m3⟩ := set1 (v := some (b + (c + 1))) h.mks
    have hB : isB { t with pc := 34, pos := b + c, fr := [f2 b c, f1 p], w := 2, mks := t.mks.setIfInBounds 1 (some (b + (c + 1))), lm := 0, li := -1, hd := b + c, out := true, ans := none, seen := s' } p b c := ⟨rfl, rfl, rfl, rfl, rfl, rfl, m1, by rw [m2]; exact h.mk0, rfl, rfl⟩
    obtain ⟨u, gu, hu⟩ := ih _ hB (fun i h1 h2 h3 => hc i h1 (by omega) h3)
    refine ⟨u, (((g.trans g').trans (Go.one ?_)).trans gu).mono (by omega), hu⟩
    rw [step_back (f := f2 b (c + 1)) (rest := [f1 p]) rfl rfl h.fr rfl rfl rfl w27.1 (by show t.w < _; rw [h.w]; decide), if_neg (by show ¬ ((c + 1 : Nat) : Int) - 1 < 0; omega)]
    have e1 : ((c + 1 : Nat) : Int) - 1 = (c : Int) := by omega
    have e2 : b + (c + 1) - 1 = b + c := by omega
    obtain ⟨pc, pos, fr, w, lm, li, mks, hd, out, ans, seen⟩ := t
    have h4 := h.w
    simp only at h4
    subst h4
    have h6 := w27.2
    simp only [Sm.m, f2, e1, e2]
    rw [h6]

theorem inner_yes (x : Array UInt8) (t : Sm) (p b c : Nat) (h : isB t p b c) (hs : b + c < x.size) (hc : chr x (b + c) = 41) :
    ∃ n mf, n ≤ 6 ∧ M.runFor n (t.m x) = mf ∧ mf.outcome = some .matched ∧ mf.lastmark = 1 ∧ mf.marks.getD 0 none = some b ∧ mf.marks.getD 1 none = some (b + c) := by
  obtain ⟨c0, _, _, _, _, _, _, _, _, _, _, c36, c37, c38⟩ := codes
  obtain ⟨s, n1, hn1, g⟩ := to_lit x t p b c h
  obtain ⟨m1, m2, m3⟩ := set1 (v := some (b + c)) h.mks
  have hpos := h.pos
  -- the literal, the success, two yes, the end
  have g2 : Go x 1 { t with pc := 36, mks := t.mks.setIfInBounds 1 (some (b + c)), lm := 1, li := 1, seen := s } { t with pc := 38, pos := b + c + 1, mks := t.mks.setIfInBounds 1 (some (b + c)), lm := 1, li := 1, seen := s.add 16 } := Go.one (by
    rw [step_exec rfl h.ans (by show 36 < patCode.toArray.size; rw [c0]; decide), exec_lit (b := true) c36 (by show t.pos < x.size; rw [hpos]; exact hs) (by
      show (chr x t.pos == patCode.toArray.getD 37 0) = true
      rw [hpos, hc, c37]; rfl)]
    simp only [if_true]
    show ({ (Sm.m x { t with pc := 36, mks := t.mks.setIfInBounds 1 (some (b + c)), lm := 1, li := 1, seen := s }) with seen := s.add 16, pc := 36 + 2, pos := t.pos + 1 } : M) = _
    rw [hpos]
    rfl)
  have g3 : Go x 1 { t with pc := 38, pos := b + c + 1, mks := t.mks.setIfInBounds 1 (some (b + c)), lm := 1, li := 1, seen := s.add 16 } { t with pc := 38, pos := b + c + 1, mks := t.mks.setIfInBounds 1 (some (b + c)), lm := 1, li := 1, hd := b + c + 1, ans := some true, seen := (s.add 16).add 1 } := Go.one (by
    rw [step_exec rfl h.ans (by show 38 < patCode.toArray.size; rw [c0]; decide), exec_ok c38 rfl rfl]
    rfl)
  have g4 : Go x 1 { t with pc := 38, pos := b + c + 1, mks := t.mks.setIfInBounds 1 (some (b + c)), lm := 1, li := 1, hd := b + c + 1, ans := some true, seen := (s.add 16).add 1 } { t with pc := 27, pos := b + c, fr := [f1 p], w := t.w - 1, mks := t.mks.setIfInBounds 1 (some (b + c)), lm := 1, li := 1, hd := b + c + 1, out := true, ans := some true, seen := (s.add 16).add 1 } := Go.one (by
    rw [step_yes (f := f2 b c) (rest := [f1 p]) rfl rfl h.fr rfl rfl]
    rfl)
  have g5 : Go x 1 { t with pc := 27, pos := b + c, fr := [f1 p], w := t.w - 1, mks := t.mks.setIfInBounds 1 (some (b + c)), lm := 1, li := 1, hd := b + c + 1, out := true, ans := some true, seen := (s.add 16).add 1 } { t with pc := 5, pos := p, fr := [], w := t.w - 1 - 1, mks := t.mks.setIfInBounds 1 (some (b + c)), lm := 1, li := 1, hd := b + c + 1, out := true, ans := some true, seen := (s.add 16).add 1 } := Go.one (by
    rw [step_yes (f := f1 p) (rest := []) rfl rfl rfl rfl rfl]
    rfl)
  have gg : Go x 1 t _ := ⟨n1, hn1, g⟩
  obtain ⟨n, hn, e⟩ := ((((gg.trans g2).trans g3).trans g4).trans g5)
  refine ⟨n + 1, _, by omega, rfl, ?_⟩
  rw [runFor_add, e, M.runFor, if_neg (by simp [Sm.m]), step_end rfl rfl rfl]
  exact ⟨rfl, rfl, by show (t.mks.setIfInBounds 1 (some (b + c))).getD 0 none = _; rw [m2]; exact h.mk0, m3⟩
end

section
open PySem PySem.Sre
set_option maxRecDepth 100000
set_option maxHeartbeats 1000000
theorem set0 {mks : Array (Option Nat)} {v : Option Nat} (h : mks.size = 2) : (mks.setIfInBounds 0 v).size = 2 ∧ (mks.setIfInBounds 0 v).getD 0 none = v := by
  obtain ⟨l⟩ := mks
  match l, h with
  | [a, b], _ => exact ⟨rfl, rfl⟩
theorem to_B (x : Array UInt8) (hx : x.size ≤ 1000000) (t : Sm) (p e : Nat) (h : isA t p) (hm : matchAt x p) (h1 : p + 7 ≤ e) (h2 : e ≤ x.size) (h3 : ∀ q, p + 7 ≤ q → q < e → chr x q ≠ 41) (h4 : e < x.size → chr x e = 41) :
    ∃ u, Go x 9 t u ∧ isB u p (p + 7) (e - (p + 7)) := by
  obtain ⟨c0, c25, c26, c27, c28, c29, c30, c31, c32, _⟩ := codes
  obtain ⟨s, g⟩ := lits_yes x p 7 0 rfl (fun i _ b => hm i b) t (by rw [h.pc]) (by rw [h.pos]; rfl) h.ans
  obtain ⟨m1, m2⟩ := set0 (v := some (p + 7)) h.mks
  have g1 : Go x 1 { t with pc := 25, pos := p + 7, seen := s } { t with pc := 27, pos := p + 7, mks := t.mks.setIfInBounds 0 (some (p + 7)), lm := 0, seen := s.add 17 } := Go.one (by
    rw [step_exec rfl h.ans (by show 25 < patCode.toArray.size; rw [c0]; decide), exec_mark c25]
    have e : (Sm.m x { t with pc := 25, pos := p + 7, seen := s }).code.getD ((Sm.m x { t with pc := 25, pos := p + 7, seen := s }).pc + 1) 0 = 0 := c26
    rw [e, mark_ok (by show ((0 : Nat) : Int) ≤ t.lm + 1; rw [h.lm]; decide)]
    obtain ⟨pc, pos, fr, w, lm, li, mks, hd, out, ans, seen⟩ := t
    have q3 := h.lm
    simp only at q3
    subst q3
    rfl)
  have hrun := run_not patCode.toArray (x.map (·.toNat)) 31 41 c31 c32 (e - (p + 7)) (x.size - (p + 7)) (p + 7) 0 (((s.add 17).add 24).add 20) (fun q a b => h3 q a (by omega)) (by omega) (fun q => by
    have e1 : p + 7 + (e - (p + 7)) = e := by omega
    rw [e1]; exact h4 (by omega))
  refine ⟨{ t with pc := 34, pos := p + 7 + (e - (p + 7)), fr := [f2 (p + 7) (e - (p + 7)), f1 p], w := 2, mks := t.mks.setIfInBounds 0 (some (p + 7)), lm := 0, li := -1, hd := p + 7 + (e - (p + 7)), out := true, ans := none, seen := ((s.add 17).add 24).add 20 }, ((g.trans g1).trans (Go.one ?_)).mono (by omega), ⟨rfl, rfl, rfl, rfl, rfl, rfl, m1, m2, rfl, rfl⟩⟩
  rw [step_exec rfl h.ans (by show 27 < patCode.toArray.size; rw [c0]; decide)]
  have hmin : min (patCode.toArray.getD (27 + 3) 0) (x.size - (p + 7)) = x.size - (p + 7) := by
    have : patCode.toArray.getD (27 + 3) 0 = 4294967295 := c30
    rw [this]; omega
  rw [exec_rep (n := e - (p + 7)) (s := ((s.add 17).add 24).add 20) c27 c29 (by show p + 7 ≤ x.size; omega) rfl (by
    show Sre.run patCode.toArray (x.map (·.toNat)) 31 (min (patCode.toArray.getD (27 + 3) 0) (x.size - (p + 7))) (p + 7) 0 (((s.add 17).add 24).add (patCode.toArray.getD 31 0)) = _
    rw [hmin, c31, hrun, Nat.zero_add])]
  unfold M.afterRun
  rw [attempt_ok rfl (by show t.w < _; rw [h.w]; decide)]
  obtain ⟨pc, pos, fr, w, lm, li, mks, hd, out, ans, seen⟩ := t
  have q1 := h.fr; have q2 := h.w; have q3 := h.li; have q4 := h.out; have q5 := h.ans
  simp only at q1 q2 q3 q4 q5
  subst q1 q2 q3 q4 q5
  have h6 : patCode.toArray.getD (27 + 1) 0 = 6 := c28
  simp only [Sm.m, M.word, M.frame, f2]
  rw [h6]

/-- nothing comes of a place -/
noncomputable def Dead (x : Array UInt8) (p : Nat) : Prop := ¬ matchAt x p ∨ ∀ i, p + 7 ≤ i → i < x.size → chr x i ≠ 41
theorem dead_no (x : Array UInt8) (hx : x.size ≤ 1000000) (t : Sm) (p : Nat) (h : isA t p) (hp : p ≤ x.size) (hd : Dead x p) : ∃ u, Go x (3 * x.size + 20) t u ∧ u.fr = [f1 p] ∧ u.w = 1 ∧ u.ans = some false ∧ u.mks.size = 2 := by
  by_cases hm : matchAt x p
  · have hd : ∀ i, p + 7 ≤ i → i < x.size → chr x i ≠ 41 := hd.resolve_left fun q => q hm
    have h6 := (hm 6 (by omega)).1
    obtain ⟨u, g, hB⟩ := to_B x hx t p x.size h hm (by omega) (Nat.le_refl _) (fun q a b => hd q a b) (fun q => by omega)
    obtain ⟨v, g', hv⟩ := inner_no x p (p + 7) (x.size - (p + 7)) u hB (fun i a b c => hd i a c)
    exact ⟨v, (g.trans g').mono (by omega), hv⟩
  · obtain ⟨s, pc, pos, g⟩ := lits_no x p 7 0 rfl (fun q => hm fun k hk => q k (by omega) hk) t (by rw [h.pc]) (by rw [h.pos]; rfl) h.ans
    exact ⟨_, g.mono (by omega), h.fr, h.w, rfl, h.mks⟩
/-- down from q to p -/
theorem go_down (x : Array UInt8) (hx : x.size ≤ 1000000) (p : Nat) : ∀ (k : Nat) (t : Sm), isA t (p + k) → p + k ≤ x.size → (∀ q, p < q → q ≤ p + k → Dead x q) → ∃ u, Go x (k * (3 * x.size + 21)) t u ∧ isA u p
  | 0, t, h, _, _ => ⟨t, by rw [Nat.zero_mul]; exact .refl, h⟩
  | k + 1, t, h, hp, hd => by
    obtain ⟨u, g, hf, hw, ha, hm⟩ := dead_no x hx t (p + (k + 1)) h hp (hd _ (by omega) (Nat.le_refl _))
    obtain ⟨v, g', hv⟩ := back_one x (p + k) u hf hw ha hm
    obtain ⟨z, g'', hz⟩ := go_down x hx p k v hv (by omega) (fun q a b => hd q a (by omega))
    exact ⟨z, ((g.trans g').trans g'').mono (by rw [Nat.add_mul]; omega), hz⟩
noncomputable def sm0 : Sm := { pc := 5, pos := 0, fr := [], w := 0, lm := -1, li := -1, mks := #[none, none], hd := 0, out := true, ans := none, seen := ({} : Seen).add 14 }
theorem mat0_eq (x : Array UInt8) (h : 8 ≤ x.size) : mat0 x = sm0.m x := by
  unfold mat0 forMatch
  have hh : header patCode.toArray = (8, 5) := by decide +kernel
  simp only [hh]
  rw [if_neg (by simp; omega)]
  rfl
theorem codes5 : patCode.toArray.getD 5 0 = 24 ∧ patCode.toArray.getD 6 0 = 5 ∧ patCode.toArray.getD 7 0 = 0 ∧ patCode.toArray.getD 8 0 = 4294967295 ∧ patCode.toArray.getD 9 0 = 2 := by decide +kernel
theorem start (x : Array UInt8) (h8 : 8 ≤ x.size) (hx : x.size ≤ 1000000) (hn : ∀ q, q < x.size → chr x q ≠ 10) : ∃ u, Go x 1 sm0 u ∧ isA u x.size := by
  obtain ⟨c5, c6, c7, c8, c9⟩ := codes5
  have c0 := codes.1
  have hrun := run_any patCode.toArray (x.map (fun c : UInt8 => c.toNat)) 9 c9 x.size 0 0 ((sm0.seen.add 24).add 2) (fun q _ b => hn q (by omega))
  refine ⟨{ sm0 with pc := 11, pos := x.size, fr := [f1 x.size], w := 1, hd := x.size, seen := (sm0.seen.add 24).add 2 }, Go.one ?_, ⟨rfl, rfl, rfl, rfl, rfl, rfl, rfl, rfl, rfl⟩⟩
  have hmin : min (patCode.toArray.getD (5 + 3) 0) (x.size - 0) = x.size := by
    have : patCode.toArray.getD (5 + 3) 0 = 4294967295 := c8
    rw [this]; omega
  rw [step_exec rfl rfl (by show 5 < patCode.toArray.size; rw [c0]; decide), exec_rep (n := x.size) (s := (sm0.seen.add 24).add 2) c5 c7 (by show 0 ≤ x.size; omega) rfl (by
    show Sre.run patCode.toArray (x.map (·.toNat)) 9 (min (patCode.toArray.getD (5 + 3) 0) (x.size - 0)) 0 0 ((sm0.seen.add 24).add (patCode.toArray.getD 9 0)) = _
    rw [hmin, c9, hrun, Nat.zero_add])]
  unfold M.afterRun
  rw [attempt_ok rfl (by show 0 < _; decide)]
  have h6 : patCode.toArray.getD (5 + 1) 0 = 5 := c6
  simp only [Sm.m, sm0, M.word, M.frame, f1, Nat.zero_add]
  rw [h6]
theorem sq_le (n : Nat) (h : n ≤ 1000000) (k : Nat) (hk : k ≤ n) : k * (3 * n + 21) ≤ 4000000000000 := by
  have h1 : k * (3 * n + 21) ≤ 1000000 * 3000021 := Nat.mul_le_mul (by omega) (by omega)
  omega
theorem comes_of (x : Array UInt8) (p e : Nat) (h8 : 8 ≤ x.size) (hx : x.size ≤ 1000000) (hn : ∀ q, q < x.size → chr x q ≠ 10) (hm : matchAt x p) (h1 : p + 7 ≤ e) (h2 : e < x.size) (h3 : ∀ q, p + 7 ≤ q → q < e → chr x q ≠ 41) (h4 : chr x e = 41)
    (hd : ∀ q, p < q → q ≤ x.size → Dead x q) : Comes x (p + 7) e := by
  have hpk : p + (x.size - p) = x.size := by omega
  obtain ⟨u, g, hu⟩ := start x h8 hx hn
  obtain ⟨v, g', hv⟩ := go_down x hx p (x.size - p) u (by rw [hpk]; exact hu) (by omega) (fun q a b => hd q a (by omega))
  obtain ⟨z, g'', hz⟩ := to_B x hx v p e hv hm h1 (by omega) h3 (fun _ => h4)
  have hbe : p + 7 + (e - (p + 7)) = e := by omega
  obtain ⟨n, mf, hn', hr, ho, hl, m0, m1⟩ := inner_yes x z p (p + 7) (e - (p + 7)) hz (by omega) (by rw [hbe]; exact h4)
  obtain ⟨k, hk, ek⟩ := (g.trans g').trans g''
  have := sq_le x.size hx (x.size - p) (by omega)
  refine ⟨⟨k + n, mf, ?_, by rw [mat0_eq x h8, runFor_add, ek, hr], ho, hl, m0, by rw [m1, hbe]⟩, h1⟩
  have h64 : (2 : Nat) ^ 64 = 18446744073709551616 := by decide
  rw [h64]; omega
theorem fails_of (x : Array UInt8) (h8 : 8 ≤ x.size) (hx : x.size ≤ 1000000) (hn : ∀ q, q < x.size → chr x q ≠ 10) (hd : ∀ q, q ≤ x.size → Dead x q) : Fails x := by
  obtain ⟨u, g, hu⟩ := start x h8 hx hn
  obtain ⟨v, g', hv⟩ := go_down x hx 0 x.size u (by rw [Nat.zero_add]; exact hu) (by omega) (fun q a b => hd q (by omega))
  obtain ⟨z, g'', hf, hw, ha, _⟩ := dead_no x hx v 0 hv (by omega) (hd 0 (by omega))
  obtain ⟨n, mf, hn', hr, ho⟩ := back_end x z hf hw ha
  obtain ⟨k, hk, ek⟩ := (g.trans g').trans g''
  have := sq_le x.size hx x.size (Nat.le_refl _)
  refine ⟨k + n, mf, ?_, by rw [mat0_eq x h8, runFor_add, ek, hr], ho⟩
  have h64 : (2 : Nat) ^ 64 = 18446744073709551616 := by decide
  rw [h64]; omega
end

section
open PySem PySem.Sre
set_option maxRecDepth 100000
set_option maxHeartbeats 1000000
theorem chrL (l : List UInt8) (i : Nat) : chr l.toArray i = (l.getD i 0).toNat := by
  unfold chr
  simp only [Array.getD, List.map_toArray, List.size_toArray, List.length_map, List.getD]
  by_cases h : i < l.length
  · simp [h]
  · simp [h]
theorem byte_mem (l : List UInt8) (i : Nat) (c : UInt8) (hc : c ≠ 0) (h : l.getD i 0 = c) : c ∈ l := by
  rw [List.getD_eq_getElem?_getD] at h
  by_cases q : i < l.length
  · rw [List.getElem?_eq_getElem q] at h
    simp only [Option.getD_some] at h
    rw [← h]; exact List.getElem_mem q
  · rw [List.getElem?_eq_none (by omega)] at h
    exact absurd h.symm hc
theorem chr_ne {l : List UInt8} {i : Nat} (c : UInt8) (hc : c ≠ 0) (h : c ∉ l) : chr l.toArray i ≠ c.toNat := by
  rw [chrL]
  intro e
  exact h (byte_mem l i c hc (UInt8.toNat_inj.mp e))
theorem getD_left (a b : List UInt8) (i : Nat) (h : i < a.length) : (a ++ b).getD i 0 = a.getD i 0 := by
  simp only [List.getD_eq_getElem?_getD, List.getElem?_append_left h]
theorem getD_right (a b : List UInt8) (i : Nat) : (a ++ b).getD (a.length + i) 0 = b.getD i 0 := by
  simp only [List.getD_eq_getElem?_getD, List.getElem?_append_right (Nat.le_add_right _ _), Nat.add_sub_cancel_left]
theorem chr_right (a b : List UInt8) (i : Nat) : chr (a ++ b).toArray (a.length + i) = chr b.toArray i := by
  rw [chrL, chrL, getD_right]
theorem chr_left (a b : List UInt8) (i : Nat) (h : i < a.length) : chr (a ++ b).toArray i = chr a.toArray i := by
  rw [chrL, chrL, getD_left a b i h]
/-- FLAGS and a bracket stand at the end of pre -/
theorem match_line (pre rest : List UInt8) : matchAt (pre ++ (flagsW ++ rest)).toArray pre.length := fun k hk => by
  have hl : flagsW.length = 7 := rfl
  refine ⟨by simp only [List.size_toArray, List.length_append]; omega, ?_⟩
  rw [chr_right, chr_left _ _ _ (by omega), chrL]
  match k, hk with
  | 0, _ | 1, _ | 2, _ | 3, _ | 4, _ | 5, _ | 6, _ => rfl
  | k + 7, h => exact absurd h (by omega)
/-- no S at the fifth place: no FLAGS -/
theorem dead_S {x : Array UInt8} {q : Nat} (h : chr x (q + 4) ≠ 83) : Dead x q := .inl fun m => h (m 4 (by omega)).2
/-- behind a FLAGS with a bracket no S -/
theorem no_S_behind (pre rest : List UInt8) (h : (83 : UInt8) ∉ rest) (q : Nat) (hq : pre.length < q) : chr (pre ++ (flagsW ++ rest)).toArray (q + 4) ≠ 83 := by
  obtain ⟨j, rfl⟩ : ∃ j, q = pre.length + (j + 1) := ⟨q - pre.length - 1, by omega⟩
  have e : pre.length + (j + 1) + 4 = pre.length + (j + 5) := by omega
  rw [e, chr_right]
  match j with
  | 0 => rw [chrL]; simp [flagsW]
  | 1 => rw [chrL]; simp [flagsW]
  | j + 2 =>
    have e : j + 2 + 5 = flagsW.length + j := by show _ = 7 + j; omega
    rw [e, chr_right]
    exact chr_ne 83 (by decide) h
theorem comes_line (pre body rest : List UInt8) (hpre : (10 : UInt8) ∉ pre) (hb : ∀ c ∈ body, c ≠ 10 ∧ c ≠ 41 ∧ c ≠ 83) (hr : (10 : UInt8) ∉ rest ∧ (83 : UInt8) ∉ rest) (hs : pre.length + body.length + rest.length ≤ 900000) :
    Comes (pre ++ (flagsW ++ (body ++ 41 :: rest))).toArray (pre.length + 7) (pre.length + 7 + body.length) := by
  have hfl : flagsW.length = 7 := rfl
  have hsz : (pre ++ (flagsW ++ (body ++ 41 :: rest))).toArray.size = pre.length + (7 + (body.length + (rest.length + 1))) := by
    simp only [List.size_toArray, List.length_append, List.length_cons, hfl]
  have hS : (83 : UInt8) ∉ body ++ 41 :: rest := by
    intro h
    rcases List.mem_append.mp h with h | h
    · exact (hb _ h).2.2 rfl
    · rcases List.mem_cons.mp h with h | h
      · exact absurd h (by decide)
      · exact hr.2 h
  refine comes_of _ pre.length _ (by rw [hsz]; omega) (by rw [hsz]; omega) (fun q _ => ?_) (match_line pre _) (by omega) (by rw [hsz]; omega) (fun q a b => ?_) ?_ (fun q a b => dead_S (no_S_behind pre _ hS q a))
  · refine chr_ne 10 (by decide) fun h => ?_
    rcases List.mem_append.mp h with h | h
    · exact hpre h
    · rcases List.mem_append.mp h with h | h
      · exact absurd h (by decide)
      · rcases List.mem_append.mp h with h | h
        · exact (hb _ h).1 rfl
        · rcases List.mem_cons.mp h with h | h
          · exact absurd h (by decide)
          · exact hr.1 h
  · obtain ⟨j, rfl⟩ : ∃ j, q = pre.length + (flagsW.length + j) := ⟨q - pre.length - 7, by omega⟩
    rw [chr_right, chr_right, chr_left _ _ _ (by omega)]
    exact chr_ne 41 (by decide) fun h => (hb _ h).2.1 rfl
  · have e : pre.length + 7 + body.length = pre.length + (flagsW.length + (body.length + 0)) := by omega
    rw [e, chr_right, chr_right, chr_right]
    rw [chrL]; rfl
theorem extract_line (pre body rest : List UInt8) : ((pre ++ (flagsW ++ (body ++ 41 :: rest))).toArray.extract (pre.length + 7) (pre.length + 7 + body.length)).toList = body := by
  have e : pre.length + 7 = (pre ++ flagsW).length := by simp [flagsW]
  rw [e]
  simp only [List.extract_toArray, List.extract_eq_take_drop, ← List.append_assoc]
  rw [List.append_assoc (pre ++ flagsW), List.drop_left, Nat.add_sub_cancel_left, List.take_left]
/-- an unended list behind a line that has one (or none) -/
theorem dead_open (pre rest : List UInt8) (h : (83 : UInt8) ∉ rest) (h41 : (41 : UInt8) ∉ rest) (q : Nat) (hq : pre.length ≤ q) : Dead (pre ++ (flagsW ++ rest)).toArray q := by
  by_cases e : q = pre.length
  · subst e
    refine .inr fun i a b => ?_
    obtain ⟨j, rfl⟩ : ∃ j, i = pre.length + (flagsW.length + j) := ⟨i - pre.length - 7, by show i = _ + (7 + _); omega⟩
    rw [chr_right, chr_right]
    exact chr_ne 41 (by decide) h41
  · exact dead_S (no_S_behind pre rest h q (by omega))
end

section
open PySem PySem.Sre PySem.Builtin
set_option maxRecDepth 100000
set_option maxHeartbeats 1000000
noncomputable def flat : List (List UInt8) → List UInt8
  | [] => []
  | a :: r => 32 :: (a ++ flat r)
noncomputable def glue : List (List UInt8) → List UInt8
  | [] => []
  | a :: r => a ++ flat r
theorem joined_go : ∀ (l : List (List UInt8)) (i : Nat) (acc : Array UInt8), 0 < i → (((l.map List.toArray).zipIdx i).foldl (fun (out : Array UInt8) (q : Array UInt8 × Nat) => (if q.2 > 0 then out ++ spB else out) ++ q.1) acc).toList = acc.toList ++ flat l
  | [], i, acc, _ => by simp [flat]
  | a :: r, i, acc, hi => by
    simp only [List.map_cons, List.zipIdx_cons, List.foldl_cons]
    rw [joined_go r (i + 1) _ (by omega), if_pos hi]
    simp [flat]
theorem joined_glue (l : List (List UInt8)) : (Bytes.joined spB (l.map List.toArray)).toList = glue l := by
  unfold Bytes.joined
  match l with
  | [] => rfl
  | a :: r =>
    simp only [List.map_cons, List.zipIdx_cons, List.foldl_cons]
    rw [joined_go r (0 + 1) _ (by omega)]
    simp [glue]
theorem words_blank (f l : Nat) (t : List UInt8) : Bytes.words f l (32 :: t) = Bytes.words f l t := by
  match f with
  | 0 => rfl
  | f + 1 => rfl
theorem flat_tw (r : List (List UInt8)) : (flat r).takeWhile (fun c => !Bytes.isSpace c) = [] := by
  cases r <;> rfl
theorem flat_dw (r : List (List UInt8)) : (flat r).dropWhile (fun c => !Bytes.isSpace c) = flat r := by
  cases r <;> rfl
theorem tw_app (a t : List UInt8) (h : ∀ c ∈ a, Bytes.isSpace c = false) : (a ++ t).takeWhile (fun c => !Bytes.isSpace c) = a ++ t.takeWhile (fun c => !Bytes.isSpace c) ∧ (a ++ t).dropWhile (fun c => !Bytes.isSpace c) = t.dropWhile (fun c => !Bytes.isSpace c) := by
  induction a with
  | nil => exact ⟨rfl, rfl⟩
  | cons c a ih =>
    have hc := h c (.head _)
    obtain ⟨h1, h2⟩ := ih fun d hd => h d (.tail _ hd)
    constructor
    · rw [List.cons_append, List.takeWhile_cons, hc, h1]; rfl
    · rw [List.cons_append, List.dropWhile_cons, hc, h2]; rfl
noncomputable def ne (a : List UInt8) : Bool := !a.isEmpty
theorem words_flat : ∀ (r : List (List UInt8)) (f l : Nat), (∀ a ∈ r, ∀ c ∈ a, Bytes.isSpace c = false) → (r.filter ne).length ≤ f → (r.filter ne).length ≤ l → Bytes.words f l (flat r) = r.filter ne
  | [], f, l, _, _, _ => by cases f <;> rfl
  | [] :: r, f, l, h, h1, h2 => by
    rw [flat, words_blank, List.nil_append]
    exact words_flat r f l (fun a ha => h a (.tail _ ha)) h1 h2
  | (c :: a) :: r, f, l, h, h1, h2 => by
    rw [flat, words_blank]
    have e : ((c :: a) :: r).filter ne = (c :: a) :: r.filter ne := rfl
    rw [e] at h1 h2 ⊢
    rw [List.length_cons] at h1 h2
    match f, l, h1, h2 with
    | f + 1, l + 1, h1, h2 =>
      have hc := h _ (.head _) c (.head _)
      obtain ⟨t1, t2⟩ := tw_app (c :: a) (flat r) (h _ (.head _))
      have hd : ((c :: a) ++ flat r).dropWhile Bytes.isSpace = (c :: a) ++ flat r := by
        rw [List.cons_append, List.dropWhile_cons, hc]; rfl
      rw [Bytes.words, hd]
      simp only [List.cons_append]
      rw [if_neg (by simp)]
      rw [← List.cons_append, t1, t2, flat_tw, flat_dw, List.append_nil, Nat.add_sub_cancel]
      rw [words_flat r f l (fun a ha => h a (.tail _ ha)) (by omega) (by omega)]
theorem flat_len : ∀ r : List (List UInt8), r.length ≤ (flat r).length
  | [] => Nat.le_refl _
  | a :: r => by have := flat_len r; simp only [flat, List.length_cons, List.length_append]; omega
theorem split_glue (r : List (List UInt8)) (h : ∀ a ∈ r, ∀ c ∈ a, Bytes.isSpace c = false) : splitW (glue r) = r.filter ne := by
  have hlen : (r.filter ne).length ≤ (glue r).length + 1 := by
    refine Nat.le_trans (List.length_filter_le _ _) ?_
    cases r with
    | nil => simp
    | cons a r => have := flat_len r; simp only [glue, List.length_cons, List.length_append]; omega
  have hw : ∀ f l, (r.filter ne).length ≤ f → (r.filter ne).length ≤ l → Bytes.words f l (glue r) = r.filter ne := fun f l h1 h2 => by
    cases r with
    | nil => cases f <;> rfl
    | cons a t => rw [glue, ← words_flat (a :: t) f l h h1 h2, flat, words_blank]
  unfold splitW
  split
  · rename_i hc
    match r, h, hc with
    | [], h, hc => simp [glue] at hc
    | [a], h, hc =>
      simp only [glue, flat, List.append_nil] at hc ⊢
      cases a with
      | nil => simp at hc
      | cons c a => rfl
    | a :: b :: r, h, hc =>
      have q : (glue (a :: b :: r)).any Bytes.isSpace = true := List.any_eq_true.mpr ⟨32, by simp [glue, flat], rfl⟩
      rw [q] at hc
      simp at hc
  · exact hw _ _ hlen hlen
/-! the words of numbers below 32 -/
theorem i2ap_small : ∀ n : Fin 32, (i2ap n.val).length ≤ 2 ∧ (i2ap n.val).isEmpty = decide (n.val = 0) ∧ ∀ c ∈ i2ap n.val, 65 ≤ c ∧ c ≤ 80 := by
  intro n
  have e0 : i2ap 0 = [] := by rw [i2ap]; rfl
  have e1 : ∀ m, m ≠ 0 → m < 16 → i2ap m = [apAt m] := fun m h h2 => by
    rw [i2ap, dif_neg h, Nat.div_eq_of_lt h2, e0]; rfl
  by_cases h : n.val = 0
  · rw [h, e0]; simp
  · by_cases h2 : n.val < 16
    · rw [e1 _ h h2]
      have key : ∀ n : Fin 32, 65 ≤ apAt n.val ∧ apAt n.val ≤ 80 := by decide +kernel
      refine ⟨by simp, by simp [h], fun c hc => ?_⟩
      rw [List.mem_singleton] at hc; subst hc; exact key n
    · rw [i2ap, dif_neg h, e1 (n.val / 16) (by omega) (by omega)]
      have key : ∀ n : Fin 32, (65 ≤ apAt n.val ∧ apAt n.val ≤ 80) ∧ 65 ≤ apAt (n.val / 16) ∧ apAt (n.val / 16) ≤ 80 := by decide +kernel
      refine ⟨by simp, by simp [h], fun c hc => ?_⟩
      simp only [List.cons_append, List.nil_append, List.mem_cons, List.not_mem_nil, or_false] at hc
      rcases hc with rfl | rfl
      · exact (key n).2
      · exact (key n).1
theorem letter_not {c : UInt8} (h : 65 ≤ c ∧ c ≤ 80) : c ≠ 10 ∧ c ≠ 41 ∧ c ≠ 83 ∧ Bytes.isSpace c = false := by
  have key : ∀ n : Fin 256, 65 ≤ UInt8.ofNat n.val ∧ UInt8.ofNat n.val ≤ 80 → UInt8.ofNat n.val ≠ 10 ∧ UInt8.ofNat n.val ≠ 41 ∧ UInt8.ofNat n.val ≠ 83 ∧ Bytes.isSpace (UInt8.ofNat n.val) = false := by decide +kernel
  have e : UInt8.ofNat c.toNat = c := by simp
  have := key ⟨c.toNat, UInt8.toNat_lt c⟩
  simp only [e] at this
  exact this h
theorem glue_mem : ∀ (r : List (List UInt8)) (c : UInt8), c ∈ glue r → c = 32 ∨ ∃ a ∈ r, c ∈ a := by
  have hf : ∀ (r : List (List UInt8)) (c : UInt8), c ∈ flat r → c = 32 ∨ ∃ a ∈ r, c ∈ a := fun r => by
    induction r with
    | nil => intro c h; simp [flat] at h
    | cons a r ih =>
      intro c h
      rcases List.mem_cons.mp h with h | h
      · exact .inl h
      · rcases List.mem_append.mp h with h | h
        · exact .inr ⟨a, .head _, h⟩
        · exact (ih c h).imp id fun ⟨b, hb, hc⟩ => ⟨b, .tail _ hb, hc⟩
  intro r c h
  cases r with
  | nil => simp [glue] at h
  | cons a r =>
    rcases List.mem_append.mp h with h | h
    · exact .inr ⟨a, .head _, h⟩
    · exact (hf r c h).imp id fun ⟨b, hb, hc⟩ => ⟨b, .tail _ hb, hc⟩
noncomputable def bodyL (hs : List Nat) : List UInt8 := glue (hs.map i2ap)
theorem bodyOf_eq (hs : List Nat) : (bodyOf hs).toList = bodyL hs := by
  unfold bodyOf bodyL
  rw [← joined_glue, List.map_map]; rfl
theorem body_ok (hs : List Nat) (hb : ∀ n ∈ hs, n < 32) : ∀ c ∈ bodyL hs, c ≠ 10 ∧ c ≠ 41 ∧ c ≠ 83 := fun c hc => by
  rcases glue_mem _ c hc with rfl | ⟨a, ha, hc⟩
  · decide
  · obtain ⟨n, hn, rfl⟩ := List.mem_map.mp ha
    have := letter_not ((i2ap_small ⟨n, hb n hn⟩).2.2 c hc)
    exact ⟨this.1, this.2.1, this.2.2.1⟩
theorem split_body (hs : List Nat) (hb : ∀ n ∈ hs, n < 32) : splitW (bodyL hs) = (hs.filter (0 < ·)).map i2ap := by
  unfold bodyL
  rw [split_glue]
  · induction hs with
    | nil => rfl
    | cons n hs ih =>
      have h := (i2ap_small ⟨n, hb n (.head _)⟩).2.1
      simp only at h
      rw [List.map_cons, List.filter_cons, List.filter_cons, ih fun m hm => hb m (.tail _ hm)]
      unfold ne
      rw [h]
      by_cases h0 : n = 0
      · subst h0; simp
      · rw [if_pos (by simp [h0]), if_pos (by simp; omega)]; rfl
  · intro a ha c hc
    obtain ⟨n, hn, rfl⟩ := List.mem_map.mp ha
    exact (letter_not ((i2ap_small ⟨n, hb n hn⟩).2.2 c hc)).2.2.2
theorem flat_size : ∀ (hs : List Nat), (∀ n ∈ hs, n < 32) → (flat (hs.map i2ap)).length ≤ 3 * hs.length
  | [], _ => Nat.le_refl _
  | n :: hs, h => by
    have h1 := (i2ap_small ⟨n, h n (.head _)⟩).1
    have h2 := flat_size hs fun m hm => h m (.tail _ hm)
    simp only at h1
    simp only [List.map_cons, flat, List.length_cons, List.length_append]; omega
theorem body_size (hs : List Nat) (hb : ∀ n ∈ hs, n < 32) : (bodyL hs).length ≤ 3 * hs.length := by
  cases hs with
  | nil => exact Nat.zero_le _
  | cons n hs =>
    have := flat_size (n :: hs) hb
    simp only [List.map_cons, flat, List.length_cons, List.length_append] at this
    simp only [bodyL, List.map_cons, glue, List.length_cons, List.length_append]
    omega
theorem sum_size : ∀ (hs : List Nat) (k : Nat), (∀ n ∈ hs, n < 32) → (hs.map fun n => (i2ap n).toArray).foldl (fun n x => n + x.size) k ≤ k + 2 * hs.length
  | [], k, _ => Nat.le_refl _
  | n :: hs, k, h => by
    have h1 := (i2ap_small ⟨n, h n (.head _)⟩).1
    simp only at h1
    rw [List.map_cons, List.foldl_cons]
    refine Nat.le_trans (sum_size hs _ fun m hm => h m (.tail _ hm)) ?_
    simp only [List.size_toArray, List.length_cons]; omega
end

section
open PySem PySem.Sre PySem.Builtin
set_option maxRecDepth 100000
set_option maxHeartbeats 1000000
/-- * 5 FETCH ( -/
noncomputable def bareL : List UInt8 := [42, 32, 53, 32, 70, 69, 84, 67, 72, 32, 40]
/-- and PERMANENT -/
noncomputable def headL : List UInt8 := bareL ++ [80, 69, 82, 77, 65, 78, 69, 78, 84]
noncomputable def wordA : List UInt8 := [92, 83, 101, 101, 110]
noncomputable def wordB : List UInt8 := [36, 74, 117, 110, 107]
noncomputable def seenL : List UInt8 := wordA ++ 32 :: wordB
noncomputable def listedL : List UInt8 := headL ++ (flagsW ++ (seenL ++ [41, 32]))
theorem line_told (ahead : List UInt8) (h10 : (10 : UInt8) ∉ ahead) (hs : List Nat) (hsz : ahead.length ≤ 1000) (hl : hs.length ≤ 5) (hb : ∀ n ∈ hs, n < 32) :
    ∃ i j, Comes (lineOf ahead.toArray hs) i j ∧ ((lineOf ahead.toArray hs).extract i j).toList = bodyL hs := by
  have e : lineOf ahead.toArray hs = (ahead ++ (flagsW ++ (bodyL hs ++ 41 :: [32, 85, 73, 68, 32, 55, 41]))).toArray := by
    unfold lineOf
    apply Array.toList_inj.mp
    simp only [Array.toList_append, bodyOf_eq, List.append_assoc]
    rfl
  have := body_size hs hb
  refine ⟨ahead.length + 7, ahead.length + 7 + (bodyL hs).length, ?_, ?_⟩
  · rw [e]
    exact comes_line ahead (bodyL hs) _ h10 (body_ok hs hb) ⟨by decide, by decide⟩ (by simp only [List.length_cons, List.length_nil]; omega)
  · rw [e]
    exact extract_line _ _ _
/-- an empty list -/
theorem line_empty : Comes (listedL ++ (flagsW ++ ([] ++ 41 :: [41]))).toArray (listedL.length + 7) (listedL.length + 7 + 0) ∧ ((listedL ++ (flagsW ++ ([] ++ 41 :: [41]))).toArray.extract (listedL.length + 7) (listedL.length + 7 + 0)).toList = [] :=
  ⟨comes_line listedL [] [41] (by decide) (fun c hc => by cases hc) (by decide) (by decide), extract_line listedL [] [41]⟩
theorem line_bare : Fails bareL.toArray := by
  refine fails_of _ (by decide) (by decide) (fun q _ => chr_ne 10 (by decide) (by decide)) fun q hq => dead_S (chr_ne 83 (by decide) (by decide))
theorem body_no (hs : List Nat) (hb : ∀ n ∈ hs, n < 32) : (10 : UInt8) ∉ bodyL hs ∧ (41 : UInt8) ∉ bodyL hs ∧ (83 : UInt8) ∉ bodyL hs :=
  ⟨fun h => (body_ok hs hb _ h).1 rfl, fun h => (body_ok hs hb _ h).2.1 rfl, fun h => (body_ok hs hb _ h).2.2 rfl⟩
theorem line_open (hs : List Nat) (hl : hs.length ≤ 5) (hb : ∀ n ∈ hs, n < 32) : Fails (bareL ++ (flagsW ++ bodyL hs)).toArray := by
  obtain ⟨b1, b2, b3⟩ := body_no hs hb
  have := body_size hs hb
  have hs1 : (bareL ++ (flagsW ++ bodyL hs)).toArray.size = 18 + (bodyL hs).length := by
    simp only [List.size_toArray, List.length_append]; show 11 + (7 + _) = _; omega
  refine fails_of _ (by omega) (by omega) (fun q _ => chr_ne 10 (by decide) ?_) fun q hq => ?_
  · simp only [List.mem_append, not_or]; exact ⟨by decide, by decide, b1⟩
  · by_cases h : bareL.length ≤ q
    · exact dead_open bareL _ b3 b2 q h
    · have h : q < 11 := Nat.lt_of_not_le h
      refine dead_S ?_
      rw [← List.append_assoc, chr_left _ _ _ (by show q + 4 < 18; omega), chrL]
      have key : ∀ q : Fin 11, ((bareL ++ flagsW).getD (q.val + 4) 0).toNat ≠ 83 := by decide
      exact key ⟨q, h⟩
theorem line_open2 (hs : List Nat) (hl : hs.length ≤ 5) (hb : ∀ n ∈ hs, n < 32) : Comes (listedL ++ (flagsW ++ bodyL hs)).toArray 27 38 ∧ ((listedL ++ (flagsW ++ bodyL hs)).toArray.extract 27 38).toList = seenL := by
  obtain ⟨b1, b2, b3⟩ := body_no hs hb
  have := body_size hs hb
  have hs1 : (listedL ++ (flagsW ++ bodyL hs)).toArray.size = 47 + (bodyL hs).length := by
    simp only [List.size_toArray, List.length_append]; show 40 + (7 + _) = _; omega
  have e : listedL ++ (flagsW ++ bodyL hs) = headL ++ (flagsW ++ (seenL ++ 41 :: (32 :: (flagsW ++ bodyL hs)))) := by
    simp only [listedL, List.append_assoc, List.cons_append, List.nil_append]
  have hc : ∀ q, q < 40 → chr (listedL ++ (flagsW ++ bodyL hs)).toArray q = (listedL.getD q 0).toNat := fun q hq => by
    rw [chr_left _ _ _ (by exact hq), chrL]
  constructor
  · refine comes_of _ 20 38 (by omega) (by omega) (fun q _ => chr_ne 10 (by decide) ?_) ?_ (by omega) (by omega) (fun q h1 h2 => ?_) ?_ (fun q h1 h2 => ?_)
    · simp only [List.mem_append, not_or]; exact ⟨by decide, by decide, b1⟩
    · rw [e]; exact match_line headL _
    · rw [hc q (by omega)]
      have key : ∀ q : Fin 38, 27 ≤ q.val → (listedL.getD q.val 0).toNat ≠ 41 := by decide
      exact key ⟨q, h2⟩ h1
    · rw [hc 38 (by omega)]; decide
    · by_cases h : listedL.length ≤ q
      · exact dead_open listedL _ b3 b2 q h
      · have h : q < 40 := Nat.lt_of_not_le h
        have key : ∀ q : Fin 40, 20 < q.val → ((listedL ++ flagsW).getD (q.val + 4) 0).toNat ≠ 83 ∨ ((listedL ++ flagsW).getD (q.val + 0) 0).toNat ≠ 70 := by decide
        have hc' : ∀ j, q + j < 47 → chr (listedL ++ (flagsW ++ bodyL hs)).toArray (q + j) = ((listedL ++ flagsW).getD (q + j) 0).toNat := fun j hj => by
          rw [← List.append_assoc, chr_left _ _ _ (by exact hj), chrL]
        rcases key ⟨q, h⟩ h1 with k | k
        · exact dead_S (by rw [hc' 4 (by omega)]; exact k)
        · refine .inl fun m => ?_
          have := (m 0 (by omega)).2
          rw [hc' 0 (by omega)] at this
          exact k this
  · rw [e]
    have := extract_line headL seenL (32 :: (flagsW ++ bodyL hs))
    exact this
theorem split_seen : splitW seenL = [wordA, wordB] := by decide
variable {w : World}
theorem parse_told (ahead : List UInt8) (h10 : (10 : UInt8) ∉ ahead) (hs : List Nat) (hsz : ahead.length ≤ 1000) (hl : hs.length ≤ 5) (hb : ∀ n ∈ hs, n < 32) :
    Fn w false 1 dParse.addr [.bytes (lineOf ahead.toArray hs)] (.tup (bytesP ((hs.filter (0 < ·)).map i2ap))) := by
  obtain ⟨i, j, hc, he⟩ := line_told ahead h10 hs hsz hl hb
  have hx : (lineOf ahead.toArray hs).size ≤ 1000000 := by
    have := body_size hs hb
    have e : (bodyOf hs).size = (bodyL hs).length := by rw [← bodyOf_eq]; simp
    unfold lineOf
    simp only [Array.size_append, e, List.size_toArray]
    have h1 : flagsW.length = 7 := rfl
    have h2 : tail.length = 8 := rfl
    omega
  have := fn_parse_some (w := w) _ i j hx hc
  rw [he, split_body hs hb] at this
  exact this
theorem told_ok (ahead : List UInt8) (h10 : (10 : UInt8) ∉ ahead) (hs : List Nat) (hsz : ahead.length ≤ 1000) (hl : hs.length ≤ 5) (hb : ∀ n ∈ hs, n < 32) :
    Fn w false 2 dTold.addr [.list (natsP hs), .bytes ahead.toArray] (.list (natsP (hs.filter (0 < ·)))) := by
  have h1 := body_size hs hb
  have h2 := sum_size hs (1 * (hs.length - 1)) hb
  have e : (bodyOf hs).size = (bodyL hs).length := by rw [← bodyOf_eq]; simp
  exact fn_told hs ahead.toArray hl hb (by simpa using hsz) (hs.filter (0 < ·)) (Nat.le_trans (List.length_filter_le _ _) hl) (fun n hn => hb n (List.mem_filter.mp hn).1) (by omega) (by omega) (parse_told ahead h10 hs hsz hl hb) rfl
theorem parse_bare : Fn w false 1 dParse.addr [.bytes bareL.toArray] (.tup []) := fn_parse_none _ (by decide) line_bare
theorem parse_empty : Fn w false 1 dParse.addr [.bytes (listedL ++ (flagsW ++ ([] ++ 41 :: [41]))).toArray] (.tup []) := by
  have := fn_parse_some (w := w) _ _ _ (by decide) line_empty.1
  rw [line_empty.2] at this
  exact this
theorem parse_open (hs : List Nat) (hl : hs.length ≤ 5) (hb : ∀ n ∈ hs, n < 32) : Fn w false 1 dParse.addr [.bytes (bareL ++ (flagsW ++ bodyL hs)).toArray] (.tup []) := by
  have := body_size hs hb
  refine fn_parse_none _ ?_ (line_open hs hl hb)
  simp only [List.size_toArray, List.length_append]; show 11 + (7 + _) ≤ _; omega
theorem parse_open2 (hs : List Nat) (hl : hs.length ≤ 5) (hb : ∀ n ∈ hs, n < 32) : Fn w false 1 dParse.addr [.bytes (listedL ++ (flagsW ++ bodyL hs)).toArray] (.tup (bytesP [wordA, wordB])) := by
  have h := body_size hs hb
  have := fn_parse_some (w := w) _ _ _ (by simp only [List.size_toArray, List.length_append]; show 40 + (7 + _) ≤ _; omega) (line_open2 hs hl hb).1
  rw [(line_open2 hs hl hb).2, split_seen] at this
  exact this
end

section
set_option maxHeartbeats 1000000
theorem half (h p : Nat) : h / 2 ^ p = 2 * (h / 2 ^ (p + 1)) + h / 2 ^ p % 2 := by
  rw [Nat.pow_succ, ← Nat.div_div_eq_div_mul]; omega
/-- the heaps before and behind -/
noncomputable abbrev Prs := List (Nat × Nat)
noncomputable def moves (ps : Prs) : Nat := (ps.filter fun q => q.1 != q.2).length
noncomputable def moveb (p : Nat) (ps : Prs) : Nat := (ps.filter fun q => q.1 / 2 ^ p != q.2 / 2 ^ p).length
theorem moveb_le (p : Nat) : ∀ ps : Prs, moveb p ps ≤ moves ps
  | [] => Nat.le_refl _
  | (a, b) :: ps => by
    have ih := moveb_le p ps
    unfold moveb moves at *
    simp only [List.filter_cons]
    by_cases h : a = b
    · subst h; simp; exact ih
    · rw [if_pos (show (a != b) = true by simpa using h)]
      split <;> simp only [List.length_cons] <;> omega
theorem cnt_moveb (p : Nat) : ∀ ps : Prs, (∀ q ∈ ps, q.2 ≤ q.1) → (∀ q ∈ ps, q.1 / 2 ^ (p + 1) = q.2 / 2 ^ (p + 1)) → cnt (ps.map (·.1)) p = cnt (ps.map (·.2)) p + moveb p ps
  | [], _, _ => rfl
  | (a, b) :: ps, h1, h2 => by
    have ih := cnt_moveb p ps (fun q hq => h1 q (.tail _ hq)) (fun q hq => h2 q (.tail _ hq))
    have e1 := h1 _ (.head _)
    have e2 := h2 _ (.head _)
    simp only at e1 e2
    have d := Nat.div_le_div_right (c := 2 ^ p) e1
    have g1 := half a p
    have g2 := half b p
    rw [e2] at g1
    rw [List.map_cons, List.map_cons, cnt_cons, cnt_cons, ih]
    unfold moveb
    rw [List.filter_cons]
    have r1 := Nat.mod_lt (a / 2 ^ p) (show 2 > 0 by decide)
    have r2 := Nat.mod_lt (b / 2 ^ p) (show 2 > 0 by decide)
    by_cases h : a / 2 ^ p = b / 2 ^ p
    · rw [if_neg (by simpa using h), h]; simp only; omega
    · rw [if_pos (by simpa using h), List.length_cons]
      simp only
      generalize a / 2 ^ p % 2 = u at *
      generalize b / 2 ^ p % 2 = v at *
      omega
theorem moveb_zero (p : Nat) (ps : Prs) (h : moveb p ps = 0) : ∀ q ∈ ps, q.1 / 2 ^ p = q.2 / 2 ^ p := fun q hq => by
  unfold moveb at h
  have := List.eq_nil_of_length_eq_zero h
  have := List.filter_eq_nil_iff.mp this q hq
  simpa using this
theorem lost_cnt {hs : List Nat} {most : Nat} : lostOf hs most = true ↔ ∀ p, p < 5 → cnt hs p % (most + 1) = 0 := by
  unfold lostOf
  simp only [List.all_cons, List.all_nil, Bool.and_true, Bool.and_eq_true, beq_iff_eq]
  constructor
  · intro h p hp
    match p, hp with
    | 0, _ => exact h.2.2.2.2
    | 1, _ => exact h.2.2.2.1
    | 2, _ => exact h.2.2.1
    | 3, _ => exact h.2.1
    | 4, _ => exact h.1
  · intro h
    exact ⟨h 4 (by decide), h 3 (by decide), h 2 (by decide), h 1 (by decide), h 0 (by decide)⟩
/-- a move from a balanced place leads to one that is not -/
theorem moved_not (ps : Prs) (most : Nat) (h1 : ∀ q ∈ ps, q.2 ≤ q.1 ∧ q.1 < 32) (hm : moves ps ≤ most) (hm0 : 0 < moves ps) (hL : lostOf (ps.map (·.1)) most = true) : lostOf (ps.map (·.2)) most = false := by
  rw [← Bool.not_eq_true]
  intro hR
  rw [lost_cnt] at hL hR
  have down : ∀ k, k ≤ 5 → ∀ q ∈ ps, q.1 / 2 ^ (5 - k) = q.2 / 2 ^ (5 - k) := by
    intro k
    induction k with
    | zero =>
      intro _ q hq
      obtain ⟨a, b⟩ := h1 q hq
      rw [Nat.div_eq_of_lt (by simpa using b), Nat.div_eq_of_lt (by simp; omega)]
    | succ k ih =>
      intro hk
      have ih := ih (by omega)
      obtain ⟨p, hp⟩ : ∃ p, 5 - (k + 1) = p := ⟨_, rfl⟩
      have hp' : 5 - k = p + 1 := by omega
      rw [hp'] at ih
      rw [hp]
      refine moveb_zero p ps ?_
      have c := cnt_moveb p ps (fun q hq => (h1 q hq).1) ih
      have a1 := hL p (by omega)
      have a2 := hR p (by omega)
      have a3 := moveb_le p ps
      rw [c, Nat.add_mod, a2, Nat.zero_add, Nat.mod_mod] at a1
      rw [Nat.mod_eq_of_lt (by omega)] at a1
      exact a1
  have h0 := down 5 (Nat.le_refl _)
  have : moves ps = 0 := by
    unfold moves
    rw [List.length_eq_zero_iff, List.filter_eq_nil_iff]
    intro q hq
    have := h0 q hq
    simpa using this
  omega
theorem cnt_filter (hs : List Nat) (p : Nat) : cnt (hs.filter (0 < ·)) p = cnt hs p := by
  induction hs with
  | nil => rfl
  | cons h hs ih =>
    rw [List.filter_cons, cnt_cons]
    by_cases e : 0 < h
    · rw [if_pos (by simpa using e), cnt_cons, ih]
    · have : h = 0 := by omega
      subst this
      rw [if_neg (by simp), ih]
      simp
theorem lost_filter (hs : List Nat) (most : Nat) : lostOf (hs.filter (0 < ·)) most = lostOf hs most := by
  unfold lostOf
  simp only [cnt_filter]
end

section
set_option maxHeartbeats 1000000
theorem moves_set : ∀ (hs l : List Nat) (i v : Nat), moves (hs.zip (l.set i v)) ≤ moves (hs.zip l) + 1
  | [], l, i, v => by simp [moves]
  | h :: hs, [], i, v => by simp [moves]
  | h :: hs, a :: l, 0, v => by
    simp only [List.set_cons_zero, List.zip_cons_cons, moves, List.filter_cons]
    split <;> split <;> (try simp only [List.length_cons]) <;> omega
  | h :: hs, a :: l, i + 1, v => by
    have := moves_set hs l i v
    simp only [moves] at this
    simp only [List.set_cons_succ, List.zip_cons_cons, moves, List.filter_cons]
    split <;> (try simp only [List.length_cons]) <;> omega
theorem moves_pos (ps : Prs) (q : Nat × Nat) (h : q ∈ ps) (hn : q.1 ≠ q.2) : 0 < moves ps := by
  unfold moves
  exact List.length_pos_of_mem (List.mem_filter.mpr ⟨h, by simpa using hn⟩)
theorem draw_le (hs : List Nat) (f : Nat) (c : Int) (h0 : 0 < hs.length) (hb : ∀ n ∈ hs, 0 < n) : ∀ n, (∀ j, (drawGo hs f c n).2.getD j 0 ≤ hs.getD j 0) ∧ moves (hs.zip (drawGo hs f c n).2) ≤ n ∧ (0 < n → 0 < moves (hs.zip (drawGo hs f c n).2))
  | 0 => by
    refine ⟨fun j => Nat.le_refl _, ?_, fun h => absurd h (by decide)⟩
    show moves (hs.zip hs) ≤ 0
    unfold moves
    rw [Nat.le_zero_eq, List.length_eq_zero_iff, List.filter_eq_nil_iff]
    intro q hq
    have : q.1 = q.2 := by
      clear h0 hb
      induction hs with
      | nil => simp at hq
      | cons a hs ih =>
        rcases List.mem_cons.mp hq with h | h
        · rw [h]
        · exact ih h
    simpa using this
  | n + 1 => by
    obtain ⟨i1, i2, i3⟩ := draw_le hs f c h0 hb n
    have hlen := drawGo_len hs f c n
    rw [drawGo_succ]
    unfold drawStep
    dsimp only
    have hi : (f + n) % hs.length < hs.length := Nat.mod_lt _ h0
    generalize (f + n) % hs.length = i at hi
    have e1 : hs.getD i 1 = hs[i] := by rw [List.getD_eq_getElem?_getD, List.getElem?_eq_getElem hi]; rfl
    have e0 : hs.getD i 0 = hs[i] := by rw [List.getD_eq_getElem?_getD, List.getElem?_eq_getElem hi]; rfl
    have hp : 0 < hs[i] := hb _ (List.getElem_mem hi)
    obtain ⟨f1, f2⟩ := fmod_nat (drawGo hs f c n).1 hs[i] hp
    rw [e1]
    generalize hv : ((drawGo hs f c n).1.fmod (hs[i] : Nat)).toNat = v
    have hvl : v < hs[i] := by omega
    refine ⟨fun j => ?_, ?_, fun _ => ?_⟩
    · by_cases e : j = i
      · subst e
        rw [List.getD_eq_getElem?_getD, List.getElem?_set_self (by omega), e0]
        simp only [Option.getD_some]; omega
      · rw [List.getD_eq_getElem?_getD, List.getElem?_set_ne (fun q => e q.symm), ← List.getD_eq_getElem?_getD]; exact i1 j
    · have := moves_set hs (drawGo hs f c n).2 i v
      omega
    · have hz : i < (hs.zip ((drawGo hs f c n).2.set i v)).length := by rw [List.length_zip, List.length_set]; omega
      refine moves_pos _ _ (List.getElem_mem hz) ?_
      rw [List.getElem_zip]
      simp only [List.getElem_set_self]
      omega
theorem drawn_ok (hs : List Nat) (most : Nat) (c : Int) (hl0 : 0 < hs.length) (hb : ∀ n ∈ hs, 0 < n ∧ n < 32) (hm : 0 < most) :
    (drawn hs most c).2.length = hs.length ∧ (∀ n ∈ (drawn hs most c).2, n < 32) ∧ (lostOf hs most = true → lostOf (drawn hs most c).2 most = false) := by
  unfold drawn
  generalize hc : (c.fdiv (hs.length : Nat)).fdiv (most : Nat) = c'
  have hlen := drawGo_len hs (drawF hs c) c' (drawN hs most c)
  obtain ⟨d1, d2, d3⟩ := draw_le hs (drawF hs c) c' hl0 (fun n h => (hb n h).1) (drawN hs most c)
  have hn1 : 0 < drawN hs most c := by unfold drawN; omega
  have hn2 : drawN hs most c ≤ most := by
    unfold drawN
    obtain ⟨f1, f2⟩ := fmod_nat (c.fdiv (hs.length : Nat)) most hm
    omega
  generalize hl' : (drawGo hs (drawF hs c) c' (drawN hs most c)).2 = l at *
  have hp : ∀ q ∈ hs.zip l, q.2 ≤ q.1 ∧ q.1 < 32 := fun q hq => by
    obtain ⟨j, hj, rfl⟩ := List.getElem_of_mem hq
    rw [List.length_zip] at hj
    rw [List.getElem_zip]
    have := d1 j
    rw [List.getD_eq_getElem?_getD, List.getD_eq_getElem?_getD, List.getElem?_eq_getElem (by omega), List.getElem?_eq_getElem (by omega)] at this
    exact ⟨this, (hb _ (List.getElem_mem _)).2⟩
  refine ⟨hlen, fun n hn => ?_, fun h => ?_⟩
  · obtain ⟨j, hj, rfl⟩ := List.getElem_of_mem hn
    have := hp _ (List.getElem_mem (l := hs.zip l) (n := j) (by rw [List.length_zip]; omega))
    rw [List.getElem_zip] at this
    simp only at this
    omega
  · have := moved_not (hs.zip l) most hp (by omega) (d3 hn1) (by rw [List.map_fst_zip (by omega)]; exact h)
    rw [List.map_snd_zip (by omega)] at this
    exact this
end

section
set_option maxHeartbeats 1000000
theorem getN_put (d : List (Nat × Nat)) (k v j : Nat) : getN (putN d k v) j = if j = k then some v else getN d j := by
  unfold getN putN
  by_cases h : d.any (fun x => x.1 = k) = true
  · rw [if_pos h, List.find?_map]
    have e : ((fun x : Nat × Nat => decide (x.1 = j)) ∘ fun x => if x.1 = k then (x.1, v) else x) = fun x => decide (x.1 = j) := by
      funext x
      show decide ((if x.1 = k then (x.1, v) else x).1 = j) = _
      split <;> rfl
    rw [e]
    by_cases hj : j = k
    · subst hj
      rw [if_pos rfl]
      rw [List.any_eq_true, ← List.find?_isSome] at h
      obtain ⟨x, hx⟩ := Option.isSome_iff_exists.mp h
      rw [hx]
      have := List.find?_some hx
      simp only [decide_eq_true_eq] at this
      simp [this]
    · rw [if_neg hj]
      cases hx : d.find? (fun x => decide (x.1 = j)) with
      | none => rfl
      | some x =>
        have := List.find?_some hx
        simp only [decide_eq_true_eq] at this
        have hk : ¬ x.1 = k := fun q => hj (this ▸ q)
        simp [hk]
  · rw [if_neg h, List.find?_append]
    by_cases hj : j = k
    · subst hj
      rw [if_pos rfl]
      have : d.find? (fun x => decide (x.1 = j)) = none := by
        rw [← Option.not_isSome_iff_eq_none, List.find?_isSome, ← List.any_eq_true]; exact h
      rw [this]; simp
    · rw [if_neg hj]
      have : ([(k, v)] : List (Nat × Nat)).find? (fun x => decide (x.1 = j)) = none := by
        simp; exact fun q => hj q.symm
      rw [this]; simp
theorem cnt_set : ∀ (l : List Nat) (k v p : Nat) (h : k < l.length), cnt (l.set k v) p + l.getD k 0 / 2 ^ p % 2 = cnt l p + v / 2 ^ p % 2
  | a :: l, 0, v, p, _ => by
    rw [List.set_cons_zero, cnt_cons, cnt_cons, List.getD_cons_zero]; omega
  | a :: l, k + 1, v, p, h => by
    have := cnt_set l k v p (by simpa using h)
    rw [List.set_cons_succ, cnt_cons, cnt_cons, List.getD_cons_succ]; omega
noncomputable def valN (hs : List Nat) (d : List (Nat × Nat)) (k : Nat) : Nat := (getN d k).getD (hs.getD k 0)
noncomputable def aplN (hs : List Nat) (d : List (Nat × Nat)) : List Nat := (List.range hs.length).map (valN hs d)
theorem apl_len (hs : List Nat) (d : List (Nat × Nat)) : (aplN hs d).length = hs.length := by simp [aplN]
theorem apl_get (hs : List Nat) (d : List (Nat × Nat)) (k : Nat) (h : k < hs.length) : (aplN hs d).getD k 0 = valN hs d k := by
  rw [List.getD_eq_getElem?_getD, List.getElem?_eq_getElem (by rw [apl_len]; exact h)]
  simp [aplN]
theorem apl_put (hs : List Nat) (d : List (Nat × Nat)) (k v : Nat) (h : k < hs.length) : aplN hs (putN d k v) = (aplN hs d).set k v := by
  apply List.ext_getElem
  · simp [aplN]
  · intro i h1 h2
    rw [List.getElem_set]
    simp only [aplN, List.getElem_map, List.getElem_range]
    unfold valN
    rw [getN_put]
    by_cases e : k = i
    · subst e; simp
    · rw [if_neg (fun q => e q.symm), if_neg e]
theorem cnt_put (hs : List Nat) (d : List (Nat × Nat)) (k v p : Nat) (h : k < hs.length) : cnt (aplN hs (putN d k v)) p + valN hs d k / 2 ^ p % 2 = cnt (aplN hs d) p + v / 2 ^ p % 2 := by
  rw [apl_put hs d k v h, ← apl_get hs d k h]
  exact cnt_set _ k v p (by rw [apl_len]; exact h)
theorem div_up {a b p q : Nat} (h : a / 2 ^ p = b / 2 ^ p) (hq : p ≤ q) : a / 2 ^ q = b / 2 ^ q := by
  obtain ⟨r, rfl⟩ : ∃ r, q = p + r := ⟨q - p, by omega⟩
  rw [Nat.pow_add, ← Nat.div_div_eq_div_mul, ← Nat.div_div_eq_div_mul, h]
theorem low0 {v p : Nat} (h : v % 2 ^ (p + 1) = 0) : v / 2 ^ p = 2 * (v / 2 ^ (p + 1)) ∧ v % 2 ^ p = 0 := by
  have hp : 0 < 2 ^ p := Nat.pow_pos (by decide)
  have e : v = 2 ^ p * (2 * (v / 2 ^ (p + 1))) := by
    have := Nat.div_add_mod v (2 ^ (p + 1))
    rw [h, Nat.add_zero, Nat.pow_succ, Nat.mul_assoc] at this
    rw [Nat.pow_succ]; exact this.symm
  constructor
  · rw [Nat.div_eq_of_eq_mul_right hp e]
  · rw [e]; exact Nat.mul_mod_right _ _
theorem raise_bits {v p : Nat} (h : v % 2 ^ (p + 1) = 0) : (v + 2 ^ p) / 2 ^ p = 2 * (v / 2 ^ (p + 1)) + 1 ∧ (v + 2 ^ p) % 2 ^ p = 0 ∧ (v + 2 ^ p) / 2 ^ (p + 1) = v / 2 ^ (p + 1) := by
  obtain ⟨l1, l2⟩ := low0 h
  have hp : 0 < 2 ^ p := Nat.pow_pos (by decide)
  have e1 : (v + 2 ^ p) / 2 ^ p = 2 * (v / 2 ^ (p + 1)) + 1 := by rw [Nat.add_div_right _ hp, l1]
  refine ⟨e1, by rw [Nat.add_mod_right]; exact l2, ?_⟩
  rw [Nat.pow_succ, ← Nat.div_div_eq_div_mul, e1, Nat.pow_succ]; omega
theorem cut_bits (h p : Nat) (hb : h / 2 ^ p % 2 = 1) : (h / 2 ^ (p + 1) * 2 ^ (p + 1)) % 2 ^ (p + 1) = 0 ∧ (h / 2 ^ (p + 1) * 2 ^ (p + 1)) / 2 ^ (p + 1) = h / 2 ^ (p + 1) :=
  ⟨Nat.mul_mod_left _ _, Nat.mul_div_cancel _ (Nat.pow_pos (by decide))⟩
theorem keys_get {d : List (Nat × Nat)} {k : Nat} : k ∈ d.map (·.1) ↔ (getN d k).isSome = true := by
  constructor
  · exact getN_mem d k
  · intro h
    unfold getN at h
    rw [Option.isSome_map, List.find?_isSome] at h
    obtain ⟨x, hx, e⟩ := h
    exact List.mem_map.mpr ⟨x, hx, by simpa using e⟩
theorem raise_ok (hs : List Nat) (p : Nat) : ∀ (ks : List Nat) (d : List (Nat × Nat)), ks.Nodup → (∀ k ∈ ks, k < hs.length ∧ ∃ v, getN d k = some v ∧ v % 2 ^ (p + 1) = 0) →
    (∀ k, getN (raiseAll p d ks) k = if k ∈ ks then (getN d k).map (· + 2 ^ p) else getN d k) ∧
    (∀ q, p < q → cnt (aplN hs (raiseAll p d ks)) q = cnt (aplN hs d) q) ∧ cnt (aplN hs (raiseAll p d ks)) p = cnt (aplN hs d) p + ks.length
  | [], d, _, _ => ⟨fun k => by simp [raiseAll], fun q _ => rfl, rfl⟩
  | k :: ks, d, hn, hk => by
    obtain ⟨hkl, v, hv, h0⟩ := hk k (.head _)
    obtain ⟨n1, n2⟩ := List.nodup_cons.mp hn
    have e : raiseAll p d (k :: ks) = raiseAll p (putN d k (v + 2 ^ p)) ks := by
      unfold raiseAll; rw [List.foldl_cons, hv]; rfl
    obtain ⟨i1, i2, i3⟩ := raise_ok hs p ks (putN d k (v + 2 ^ p)) n2 (fun j hj => by
      obtain ⟨a, u, b, c⟩ := hk j (.tail _ hj)
      refine ⟨a, u, ?_, c⟩
      rw [getN_put, if_neg (fun (q : j = k) => n1 (q ▸ hj))]; exact b)
    obtain ⟨r1, r2, r3⟩ := raise_bits h0
    obtain ⟨l1, l2⟩ := low0 h0
    have hval : valN hs d k = v := by unfold valN; rw [hv]; rfl
    rw [e]
    refine ⟨fun j => ?_, fun q hq => ?_, ?_⟩
    · rw [i1 j, getN_put]
      by_cases ej : j = k
      · subst ej
        rw [if_neg n1, if_pos rfl, if_pos (.head _), hv]; rfl
      · rw [if_neg ej]
        by_cases m : j ∈ ks
        · rw [if_pos m, if_pos (.tail _ m)]
        · rw [if_neg m, if_neg (by simp [ej, m])]
    · have c := cnt_put hs d k (v + 2 ^ p) q hkl
      rw [hval, div_up (q := q) r3 (by omega)] at c
      rw [i2 q hq]; omega
    · have c := cnt_put hs d k (v + 2 ^ p) p hkl
      rw [hval, r1, l1] at c
      rw [i3, List.length_cons]; omega
theorem put_none (d : List (Nat × Nat)) (k v : Nat) (h : getN d k = none) : putN d k v = d ++ [(k, v)] := by
  unfold putN
  rw [if_neg]
  intro q
  have : (getN d k).isSome = true := by
    unfold getN
    rw [Option.isSome_map, List.find?_isSome, ← List.any_eq_true]; exact q
  rw [h] at this; cases this
theorem cut_ok (hs : List Nat) (p : Nat) : ∀ (ks : List Nat) (d : List (Nat × Nat)), ks.Nodup → (∀ k ∈ ks, k < hs.length ∧ getN d k = none ∧ hs.getD k 0 / 2 ^ p % 2 = 1) → (d.map (·.1)).Nodup →
    (∀ k, getN (cutAll hs p d ks) k = if k ∈ ks then some (hs.getD k 0 / 2 ^ (p + 1) * 2 ^ (p + 1)) else getN d k) ∧
    (∀ q, p < q → cnt (aplN hs (cutAll hs p d ks)) q = cnt (aplN hs d) q) ∧ cnt (aplN hs (cutAll hs p d ks)) p + ks.length = cnt (aplN hs d) p ∧
    ((cutAll hs p d ks).map (·.1)).Nodup ∧ (cutAll hs p d ks).length = d.length + ks.length
  | [], d, _, _, hd => ⟨fun k => by simp [cutAll], fun q _ => rfl, rfl, hd, rfl⟩
  | k :: ks, d, hn, hk, hd => by
    obtain ⟨hkl, hv, hb⟩ := hk k (.head _)
    obtain ⟨n1, n2⟩ := List.nodup_cons.mp hn
    generalize hw : hs.getD k 0 / 2 ^ (p + 1) * 2 ^ (p + 1) = w
    have e : cutAll hs p d (k :: ks) = cutAll hs p (putN d k w) ks := by
      unfold cutAll; rw [List.foldl_cons, hw]
    have hd' : ((putN d k w).map (·.1)).Nodup := by
      rw [put_none d k w hv, List.map_append, List.nodup_append]
      refine ⟨hd, by simp, fun a ha b hb' => ?_⟩
      simp only [List.map_cons, List.map_nil, List.mem_singleton] at hb'
      subst hb'
      intro q
      subst q
      rw [keys_get, hv] at ha; cases ha
    obtain ⟨i1, i2, i3, i4, i5⟩ := cut_ok hs p ks (putN d k w) n2 (fun j hj => by
      obtain ⟨a, b, c⟩ := hk j (.tail _ hj)
      refine ⟨a, ?_, c⟩
      rw [getN_put, if_neg (fun (q : j = k) => n1 (q ▸ hj))]; exact b) hd'
    obtain ⟨r1, r2⟩ := cut_bits _ p hb
    rw [hw] at r1 r2
    obtain ⟨l1, l2⟩ := low0 r1
    have hval : valN hs d k = hs.getD k 0 := by unfold valN; rw [hv]; rfl
    rw [e]
    refine ⟨fun j => ?_, fun q hq => ?_, ?_, i4, ?_⟩
    · rw [i1 j, getN_put]
      by_cases ej : j = k
      · subst ej
        rw [if_neg n1, if_pos rfl, if_pos (.head _), hw]
      · rw [if_neg ej]
        by_cases m : j ∈ ks
        · rw [if_pos m, if_pos (.tail _ m)]
        · rw [if_neg m, if_neg (by simp [ej, m])]
    · have c := cnt_put hs d k w q hkl
      rw [hval, div_up (q := q) r2 (by omega)] at c
      rw [i2 q hq]; omega
    · have c := cnt_put hs d k w p hkl
      rw [hval, hb, l1] at c
      rw [List.length_cons]; omega
    · rw [i5, put_none d k w hv, List.length_append, List.length_cons]; simp only [List.length_cons, List.length_nil]; omega
structure Inv (hs : List Nat) (most P : Nat) (d : List (Nat × Nat)) : Prop where
  nd : (d.map (·.1)).Nodup
  key : ∀ k v, getN d k = some v → k < hs.length ∧ v / 2 ^ P < hs.getD k 0 / 2 ^ P ∧ v % 2 ^ P = 0
  len : d.length ≤ most
  bal : ∀ p, P ≤ p → p < 5 → cnt (aplN hs d) p % (most + 1) = 0
theorem ones_cnt (hs : List Nat) (p : Nat) (d : List (Nat × Nat)) (h : ∀ k v, getN d k = some v → v % 2 ^ (p + 1) = 0) : cnt (aplN hs d) p = (onesOf hs d p).length := by
  unfold cnt aplN onesOf
  rw [List.filter_map, List.length_map]
  congr 1
  refine List.filter_congr fun k _ => ?_
  show (valN hs d k / 2 ^ p % 2 == 1) = _
  unfold valN
  cases hk : getN d k with
  | none => rfl
  | some v =>
    have := (low0 (h k v hk)).1
    simp only [Option.getD_some, Option.isNone_some, Bool.false_and, this]
    have : 2 * (v / 2 ^ (p + 1)) % 2 = 0 := Nat.mul_mod_right _ _
    rw [this]; rfl
theorem step_ok (hs : List Nat) (most p : Nat) (d : List (Nat × Nat)) (hp : p < 5) (I : Inv hs most (p + 1) d) : Inv hs most p (replyStep hs most d p) := by
  have hc := ones_cnt hs p d fun k v h => (I.key k v h).2.2
  have hon : (onesOf hs d p).Nodup := List.nodup_range.filter _
  unfold replyStep
  generalize hone : onesOf hs d p = ones at *
  have old : ∀ k v, getN d k = some v → k < hs.length ∧ v / 2 ^ p < hs.getD k 0 / 2 ^ p ∧ v % 2 ^ p = 0 := fun k v h => by
    obtain ⟨a, b, c⟩ := I.key k v h
    obtain ⟨l1, l2⟩ := low0 c
    have := half (hs.getD k 0) p
    exact ⟨a, by omega, l2⟩
  have hmod := Nat.mod_lt ones.length (show most + 1 > 0 by omega)
  have hdm := Nat.div_add_mod ones.length (most + 1)
  by_cases hcase : ones.length % (most + 1) + d.length > most
  · rw [if_pos hcase]
    have hks : ((d.map (·.1)).take (most + 1 - ones.length % (most + 1))).Nodup := I.nd.sublist (List.take_sublist _ _)
    have hmem : ∀ k ∈ (d.map (·.1)).take (most + 1 - ones.length % (most + 1)), k ∈ d.map (·.1) := fun k h => List.mem_of_mem_take h
    obtain ⟨r1, r2, r3⟩ := raise_ok hs p _ d hks fun k hk => by
      obtain ⟨v, hv⟩ := Option.isSome_iff_exists.mp (keys_get.mp (hmem k hk))
      obtain ⟨a, b, c⟩ := I.key k v hv
      exact ⟨a, v, hv, c⟩
    have hkeys := raise_keys p _ d hmem
    have hlen : ((d.map (·.1)).take (most + 1 - ones.length % (most + 1))).length = most + 1 - ones.length % (most + 1) := by
      rw [List.length_take, List.length_map]; omega
    refine ⟨by rw [hkeys]; exact I.nd, fun k v h => ?_, ?_, fun q h1 h2 => ?_⟩
    · rw [r1 k] at h
      split at h
      · rename_i hk
        obtain ⟨u, hu⟩ := Option.isSome_iff_exists.mp (keys_get.mp (hmem k hk))
        rw [hu] at h
        simp only [Option.map_some, Option.some.injEq] at h
        subst h
        obtain ⟨a, b, c⟩ := I.key k u hu
        obtain ⟨x1, x2, x3⟩ := raise_bits c
        have := half (hs.getD k 0) p
        exact ⟨a, by omega, x2⟩
      · exact old k v h
    · have := congrArg List.length hkeys
      rw [List.length_map, List.length_map] at this
      rw [this]; exact I.len
    · by_cases e : q = p
      · subst e
        rw [r3, hlen, hc]
        have : ones.length + (most + 1 - ones.length % (most + 1)) = (most + 1) * (ones.length / (most + 1) + 1) := by
          rw [Nat.mul_add, Nat.mul_one]; omega
        rw [this]; exact Nat.mul_mod_right _ _
      · rw [r2 q (by omega)]; exact I.bal q (by omega) h2
  · rw [if_neg hcase]
    have hks : (ones.take (ones.length % (most + 1))).Nodup := hon.sublist (List.take_sublist _ _)
    have hle : ones.length % (most + 1) ≤ ones.length := Nat.mod_le _ _
    have hlen : (ones.take (ones.length % (most + 1))).length = ones.length % (most + 1) := by
      rw [List.length_take]; omega
    have hin : ∀ k ∈ ones.take (ones.length % (most + 1)), k < hs.length ∧ getN d k = none ∧ hs.getD k 0 / 2 ^ p % 2 = 1 := fun k hk => by
      have := List.mem_of_mem_take hk
      rw [← hone] at this
      unfold onesOf at this
      rw [List.mem_filter, List.mem_range, Bool.and_eq_true, Option.isNone_iff_eq_none, beq_iff_eq] at this
      exact this
    obtain ⟨r1, r2, r3, r4, r5⟩ := cut_ok hs p _ d hks hin I.nd
    refine ⟨r4, fun k v h => ?_, by rw [r5, hlen]; omega, fun q h1 h2 => ?_⟩
    · rw [r1 k] at h
      split at h
      · rename_i hk
        simp only [Option.some.injEq] at h
        subst h
        obtain ⟨a, b, c⟩ := hin k hk
        obtain ⟨x1, x2⟩ := cut_bits _ p c
        obtain ⟨l1, l2⟩ := low0 x1
        have := half (hs.getD k 0) p
        exact ⟨a, by omega, l2⟩
      · exact old k v h
    · by_cases e : q = p
      · subst e
        have : cnt (aplN hs (cutAll hs q d (ones.take (ones.length % (most + 1))))) q = (most + 1) * (ones.length / (most + 1)) := by omega
        rw [this]; exact Nat.mul_mod_right _ _
      · rw [r2 q (by omega)]; exact I.bal q (by omega) h2
theorem reply_inv (hs : List Nat) (most : Nat) : Inv hs most 0 (replyOf hs most) := by
  unfold replyOf places
  simp only [List.foldl_cons, List.foldl_nil]
  have h5 : Inv hs most 5 [] := ⟨by simp, fun k v h => (by cases h), Nat.zero_le _, fun p a b => absurd a (by omega)⟩
  have h4 := step_ok hs most 4 _ (by decide) h5
  have h3 := step_ok hs most 3 _ (by decide) h4
  have h2 := step_ok hs most 2 _ (by decide) h3
  have h1 := step_ok hs most 1 _ (by decide) h2
  generalize replyStep hs most (replyStep hs most (replyStep hs most (replyStep hs most [] 4) 3) 2) 1 = d at h1 ⊢
  exact step_ok hs most 0 d (by decide) h1
theorem apl_nil (hs : List Nat) : aplN hs [] = hs := by
  apply List.ext_getElem
  · simp [aplN]
  · intro i h1 h2
    simp only [aplN, List.getElem_map, List.getElem_range]
    unfold valN
    show (getN [] i).getD (hs.getD i 0) = _
    simp only [getN, List.find?_nil, Option.map_none, Option.getD_none]
    rw [List.getD_eq_getElem?_getD, List.getElem?_eq_getElem h2]; rfl
/-- the move that is found -/
theorem reply_ok (hs : List Nat) (most : Nat) (hb : ∀ n ∈ hs, n < 32) (hL : lostOf hs most = false) :
    (replyOf hs most).length ≠ 0 ∧ (∀ k v, getN (replyOf hs most) k = some v → k < hs.length ∧ v < hs.getD k 0) ∧ (replyOf hs most).length ≤ most ∧
    lostOf (aplN hs (replyOf hs most)) most = true ∧ (∀ n ∈ aplN hs (replyOf hs most), n < 32) := by
  have I := reply_inv hs most
  have hlt : ∀ k v, getN (replyOf hs most) k = some v → k < hs.length ∧ v < hs.getD k 0 := fun k v h => by
    obtain ⟨a, b, c⟩ := I.key k v h
    simpa using And.intro a b
  have hg : ∀ k, k < hs.length → hs.getD k 0 < 32 := fun k hk => by
    rw [List.getD_eq_getElem?_getD, List.getElem?_eq_getElem hk]; exact hb _ (List.getElem_mem hk)
  have hwin : lostOf (aplN hs (replyOf hs most)) most = true := lost_cnt.mpr fun p hp => I.bal p (Nat.zero_le _) hp
  refine ⟨fun h => ?_, hlt, I.len, hwin, fun n hn => ?_⟩
  · have e := List.eq_nil_of_length_eq_zero h
    rw [e, apl_nil, hL] at hwin; cases hwin
  · obtain ⟨k, hk, rfl⟩ := List.mem_map.mp hn
    rw [List.mem_range] at hk
    unfold valN
    cases hv : getN (replyOf hs most) k with
    | none => exact hg k hk
    | some v => exact Nat.lt_trans (hlt k v hv).2 (hg k hk)
end

section
open PySem PySem.Calls PySem.W PyProof.Rows
set_option maxRecDepth 100000
set_option maxHeartbeats 4000000
variable {w : World} {X : Bool} {A : Around} {env : Env} {mu : List Addr} {h₀ : View} {h₁ : Heap} {σ : List (Str × PV)} {bx : Option (Str × Addr × PV)}
/-- enumerate over a list of ints -/
noncomputable def EnumAt (qs : List Int) (I it : Addr) (i : Nat) (h : Heap) : Prop :=
  ∃ (l : Addr) (items : Array Value), I ≠ it ∧ l ≠ I ∧ l ≠ it ∧ (∃ old, IsEnum h I it (i : Int) old) ∧ h.IsListIter it l i ∧ h.IsList l items ∧ items.size = qs.length ∧ ∀ (j : Nat) (v : Value), items[j]? = some v → ∃ n t, qs[j]? = some n ∧ v = Value.int n t
noncomputable def ItE (w : World) (A : Around) (env : Env) (h₁ : Heap) (e : Expr) (qs : List Int) : Prop :=
  ∀ s : Shared, Ok w s.heap → Keep TT h₁ s.heap → wpAny (model pw w) A (eval e env) (fun xv s₂ => Nx [] s s₂ ∧ ∃ I it, xv = .ref I ∧ s.heap.get? I = none ∧ s.heap.get? it = none ∧ EnumAt qs I it 0 s₂.heap) NoE s

section
variable {s : Shared}
theorem ItE.enum {x np e pos} {qs : List Int} (G : EnvOk env) (hk : env.kindOf x = some .globalImplicit) (hx : x = "enumerate") (h : Ev w false A env [] h₁ e (.list (qs.map fun n => PV.int n)))
    (hs : starEach [e] env = [(false, eval e env)]) : ItE w A env h₁ (.Call (.Name x np) [e] [] pos) qs := fun s ok k => by
  subst hx
  refine wpAny_Call_NameR ?_
  obtain ⟨mg, hg, _, _, hm⟩ := ok.g
  obtain ⟨mb, hb', hmb⟩ := ok.b
  have hb : (("enumerate" : Str), Value.type "enumerate") ∈ bnames := by simp [bnames]
  refine Name_function_global G.kind hk (loadGlobal_builtin (by rw [G.glob]; exact hg) (hm _ hb) (by rw [G.bi]; exact hb') (hmb _ hb) ?_)
  have L : EvL w false A env [] h₁ [e] [.list (qs.map fun n => PV.int n)] := .cons h .nil hs
  refine PyProof.Rows.callWith_type1 (L.use ok k fun vs s₁ n₁ o₁ k₁ r₁ => ?_) hs
  obtain ⟨v, rfl, rv⟩ := r₁.one
  obtain ⟨a, rfl⟩ := rv.refList
  obtain ⟨vs, hl, _, r, hT, hm⟩ := rv.isList
  have hsn : ∀ b, s₁.heap.objs.size ≤ b → s.heap.get? b = none := fun b hb => by
    cases e : s.heap.get? b with
    | none => rfl
    | some o' => exact absurd (Heap.lt_size (n₁.keep b o' (by simp [xs]) e)) (Nat.not_lt.mpr hb)
  obtain ⟨ob, hob, _⟩ := id hl
  have hlt := Heap.lt_size hob
  refine call_enumerate_list hl fun h' he hit hsz hk => ⟨⟨fun b o hb e => hk b o (n₁.keep b o (by simp [xs]) e), n₁.gens, n₁.os⟩, _, _, rfl, hsn _ (Nat.le_succ _), hsn _ (Nat.le_refl _), a, vs.toArray, Nat.succ_ne_self _, Nat.ne_of_lt (Nat.lt_succ_of_lt hlt), Nat.ne_of_lt hlt, ⟨_, he⟩, hit, hl.at fun o e => hk a o e, ?_, ?_⟩
  · have := r.length
    simp only [List.length_map] at this
    simp [this]
  · intro i v hv
    obtain ⟨q, hq, rq⟩ := r.get' (i := i) (by simpa using hv)
    rw [List.getElem?_map] at hq
    obtain ⟨n, hn, rfl⟩ := Option.map_eq_some_iff.mp hq
    cases rq
    exact ⟨n, _, hn, rfl⟩
end

theorem comp_block2 {elt iter : Expr} {a b : Str} {pa pb tp : Pos} {kk : Nat} {scope : Scope} {cl : List (Str × Addr)} {pos : Pos} {E : Value → Shared → Prop} {qs : List Int} {s₁ s₂ : Shared} {I it : Addr} (f : Nat → Int → PV) {RR : Value → Addr → Result → Shared → Prop}
    (hcells : ∀ n, cellsFrom n scope.names cl = cl) (hpush : ∀ h, pushCells h scope.names = h)
    (hkind : scope.kind = .function) (hxa : ∀ C, (cenvOf scope cl C env).kindOf a = some .local) (hxb : ∀ C, (cenvOf scope cl C env).kindOf b = some .local) (hab : ¬ a = b)
    (G : EnvOk env) (o₁ : Ok w s₁.heap) (n₂ : Nx [] s₁ s₂) (hI : s₁.heap.get? I = none) (hIt : s₁.heap.get? it = none) (hh : A.handled = none) (S : EnumAt qs I it 0 s₂.heap) (hsz : qs.length ≤ 16777216) (hmo : MuOld mu s₁.heap)
    (he : ∀ C z h i q, qs[i]? = some q → Ok w h → CompAt w env (cenvOf scope cl C env) mu z s₁.heap h a (.int (i : Nat)) → CompAt w env (cenvOf scope cl C env) mu z s₁.heap h b (.int q) → Ev w false A (cenvOf scope cl C env) (z ++ mu) h elt (f i q))
    (hR : ∀ C D s', Nx [] s₁ s' → (∃ m, s'.heap.Ns C m) → s₁.heap.get? C = none → s₁.heap.get? D = none → C ≠ D → Rep (hid (C :: mu) s'.heap) (.list ((List.range qs.length).map fun i => f i (qs.getD i 0))) (.ref D) → RR (.ref D) C (.ok .next) s') :
    wpAny (model pw w) A (newList []) (fun acc s₃ => wpAny (model pw w) A (newFunctionEnv scope env.globals cl [] env.qual none .none (some env)) (fun cenv s₄ =>
      codeAny (model pw w) A (.compStart (.ListComp elt [⟨.Tuple [.Name a pa, .Name b pb] kk tp, iter, [], 0⟩] scope pos) 0 (.ref I) acc { cenv with scope := relabel scope env }) (RR acc cenv.locals) s₄) E s₃) E s₂ := by
  obtain ⟨l, items, hIit, hlI, hlit, ⟨old0, hen⟩, hli, hll, hlen, hitems⟩ := S
  have W := WalksT.enumerate (prog := pw) (w := w) (A := A) hh I it l hIit hlI hlit items
  refine wpAny_newObj_type ?_
  generalize hD : s₂.heap.objs.size = D
  generalize hH3 : s₂.heap.push { cls := .type "list", dict := Option.none, data := .seq ([] : List Value).toArray } = H3
  have hC : H3.objs.size = D + 1 := by rw [← hH3, Heap.size_push, hD]
  simp only [newFunctionEnv, Option.isSome_some, if_true]
  refine wpAny_bind (wpAny_alloc ?_)
  refine wpAny_bind (wpAny_layCells _ (fun name kind cells => by cases hkc : kind == NameKind.cell <;> simp) _ _ _ _ ?_)
  refine wpAny_bind ?_
  rw [List.forIn_nil]
  refine wpAny_pure (wpAny_pure ?_)
  have hIlt : I < D := hD ▸ Heap.lt_size hen
  obtain ⟨oit, hoit, _⟩ := id hli
  have hItlt : it < D := hD ▸ Heap.lt_size hoit
  obtain ⟨oll, holl, _⟩ := id hll
  have hllt : l < D := hD ▸ Heap.lt_size holl
  have ar : ∀ (i d c : Nat), i < d → c = d + 1 → d ≠ i ∧ c ≠ i := by omega
  have ar2 : ∀ (d c : Nat), c = d + 1 → d ≠ c ∧ d ≤ c := by omega
  have fresh : ∀ a, D ≤ a → s₁.heap.get? a = none := fun a ha => by
    cases e : s₁.heap.get? a with
    | none => rfl
    | some o' => exact absurd (Heap.lt_size (n₂.keep a o' (by simp) e)) (Nat.not_lt.mpr (hD ▸ ha))
  generalize hCe : H3.objs.size = C at hC
  obtain ⟨aDI, aCI⟩ := ar I D C hIlt hC
  obtain ⟨aDt, aCt⟩ := ar it D C hItlt hC
  obtain ⟨aDC, lC⟩ := ar2 D C hC
  have hDn := fresh D (Nat.le_refl _)
  have hCn := fresh C lC
  generalize hH5 : pushCells (H3.push { cls := .type "dict", data := .dict #[] }) scope.names = H5
  have hH5' : H5 = H3.push { cls := .type "dict", data := .dict #[] } := by rw [← hH5, hpush]
  have k35 : ∀ b o, H3.get? b = some o → H5.get? b = some o := fun b o e => by
    rw [hH5']; exact Heap.get?_push_of_some _ e
  have k25 : ∀ b o, s₂.heap.get? b = some o → H5.get? b = some o := fun b o e => k35 b o (hH3 ▸ Heap.get?_push_of_some _ e)
  have hD5 : H5.PlainList D #[] := ⟨0, k35 _ _ (by rw [← hH3, ← hD]; exact Heap.get?_push_size _ rfl)⟩
  have hC5 : H5.Ns C (fun _ => none) := by
    have := Heap.Ns.new H3 (.type "dict")
    rw [hCe] at this
    exact this.keeps fun b o e => by rw [hH5']; exact e
  have o₂ : Ok w s₂.heap := n₂.ok o₁
  have o₅ : Ok w H5 := o₂.keeps (Keep.of k25)
  generalize hz : ([D, C, I, it] : List Addr) = z
  have zD : D ∈ z := by rw [← hz]; simp
  have zC : C ∈ z := by rw [← hz]; simp
  have zI : I ∈ z := by rw [← hz]; simp
  have zt : it ∈ z := by rw [← hz]; simp
  have zcase : ∀ a ∈ z, a = D ∨ a = C ∨ a = I ∨ a = it := fun a ha => by
    rw [← hz] at ha
    simpa using ha
  have znew : ∀ a ∈ z, s₁.heap.get? a = none := fun a ha => by
    rcases zcase a ha with rfl | rfl | rfl | rfl <;> assumption
  have ztt : ∀ a ∈ z, a ∉ TT := fun a ha => o₁.fresh (znew a ha)
  have zok : ∀ a ∈ z, a ∉ okAddrs := fun a ha q => by obtain ⟨y, e⟩ := o₁.addr a q; rw [znew a ha] at e; cases e
  have zmu : ∀ a ∈ z, a ∉ mu := fun a ha q => by obtain ⟨_, y, e⟩ := hmo a q; rw [znew a ha] at e; cases e
  have hkc : (cenvOf scope cl C env).scope.kind = .function := hkind
  have hL : (cenvOf scope cl C env).locals = C := rfl
  generalize hF : (fun i => f i (qs.getD i 0)) = F
  have hwr : ∀ b, b ∉ z → b ∉ [I, it] := fun b n q => by
    rcases List.mem_cons.mp q with e | q
    · exact n (e ▸ zI)
    · exact n ((List.mem_singleton.mp q) ▸ zt)
  have lz : l ∉ z := fun q => by
    rcases zcase l q with e | e | e | e
    · rw [e] at hllt; exact absurd hllt (Nat.lt_irrefl _)
    · rw [e] at hllt; exact absurd hllt (Nat.not_lt.mpr lC)
    · exact hlI e
    · exact hlit e
  have loop : codeAny (model pw w) A (.compLoop (.ListComp elt [⟨.Tuple [.Name a pa, .Name b pb] kk tp, iter, [], 0⟩] scope pos) 0 (.ref I) (.ref D) (cenvOf scope cl C env)) (RR (.ref D) C) { s₂ with heap := H5 } := by
    have k15 : ∀ h : Heap, (∀ b o, b ∉ z → s₂.heap.get? b = some o → h.get? b = some o) → Keep [] s₁.heap h := fun h k b o _ e =>
      k b o (fun q => by rw [znew b q] at e; cases e) (n₂.keep b o (by simp) e)
    refine kcp_loop (fun k s' => ∃ i ys, i ≤ qs.length ∧ k = qs.length + 1 - i ∧ s'.gens = s₁.gens ∧ s'.os = s₁.os ∧ ((∃ old, IsEnum s'.heap I it (i : Int) old) ∧ s'.heap.IsListIter it l i ∧ s'.heap.IsList l items) ∧ s'.heap.PlainList D ys ∧ ys.size ≤ i ∧
      RepL (hid (z ++ mu) s'.heap) ((List.range i).map F) ys.toList ∧ (∃ m, s'.heap.Ns C m) ∧
      ∀ b o, b ∉ z → s₂.heap.get? b = some o → s'.heap.get? b = some o) ?_ (qs.length + 1)
      ⟨0, #[], Nat.zero_le _, rfl, n₂.gens, n₂.os, ⟨⟨_, k25 _ _ hen⟩, hli.at fun o e => k25 _ _ e, hll.at fun o e => k25 _ _ e⟩, hD5, Nat.le_refl _, .nil, ⟨_, hC5⟩, fun b o _ e => k25 b o e⟩
    rintro k s' ⟨i, ys, hi, rfl, hg, hos, hst', hpl, hys, hrl, hns, hK⟩
    by_cases hlt : i < qs.length
    · refine W.item i _ _ _ (by rw [hlen]; exact hlt) hst' fun T vals h₃ tk₃ ⟨t, x, hx, hvals⟩ hTs hT hmid hk₃ => ?_
      obtain ⟨n, u, hn, rfl⟩ := hitems i x hx
      subst hvals
      have hTne : ∀ b o, s'.heap.get? b = some o → b ≠ T := fun b o e q => by subst q; exact absurd (Heap.lt_size e) (Nat.not_lt.mpr hTs)
      refine W.go _ _ _ i T _ _ _ hmid fun h₄ hst₄ hk₄ => ?_
      have hk₄' : ∀ b o, b ∉ [I, it] → s'.heap.get? b = some o → h₄.get? b = some o := fun b o m e => hk₄ b o m (hk₃ b o m e)
      have hT₄ : h₄.IsTuple T #[.int i t, .int n u] := hT.at fun o e => hk₄ T o (W.apart _ _ _ hmid) e
      have inI : ∀ b, b ≠ I → b ≠ it → b ∉ [I, it] := fun b p q m => by
        rcases List.mem_cons.mp m with e | m
        · exact p e
        · exact q (List.mem_singleton.mp m)
      obtain ⟨m, hm⟩ := hns
      have hm₄ : h₄.Ns C m := hm.at' fun o e => hk₄' C o (inI C aCI aCt) e
      obtain ⟨nD, eD⟩ := hpl
      have eD₄ := hk₄' D _ (inI D aDI aDt) eD
      refine kcp_assign (s := { s' with heap := h₄, toks := tk₃ }) hh hT₄ (hxa C) (hxb C) (by rw [hkc]; rfl) (by rw [hL]; exact hm₄) fun h₅ tk₅ hns₅ hk₅ => ?_
      rw [hL] at hns₅ hk₅
      have k25' : ∀ b o, b ∉ z → s₂.heap.get? b = some o → h₅.get? b = some o := fun b o nz e => hk₅ b o (fun q => nz (q ▸ zC)) (hk₄' b o (hwr b nz) (hK b o nz e))
      have k1 := k15 h₅ k25'
      have o₅' : Ok w h₅ := o₁.keeps k1
      have eD₅ := hk₅ D _ aDC eD₄
      have ex₅ : ∀ b ∈ z, ∃ o, h₅.get? b = some o := fun b hb => by
        rcases zcase b hb with rfl | rfl | rfl | rfl
        · exact ⟨_, eD₅⟩
        · obtain ⟨o, _, _, e, _⟩ := hns₅; exact ⟨_, e⟩
        · obtain ⟨⟨_, e⟩, _⟩ := hst₄; exact ⟨_, hk₅ _ _ (Ne.symm aCI) e⟩
        · obtain ⟨_, ⟨o, e, _⟩, _⟩ := hst₄; exact ⟨_, hk₅ _ _ (Ne.symm aCt) e⟩
      have eo : EnvOk (cenvOf scope cl C env) := ⟨hkc, G.glob, G.bi⟩
      have hc1 : CompAt w env (cenvOf scope cl C env) mu z s₁.heap h₅ a (.int (i : Nat)) := ⟨eo, k1.nil, znew, fun b hb => ⟨ztt b hb, ex₅ b hb⟩, .int i t, .inl ⟨hxa C, ztt C zC, _, hns₅, by simp [hab]⟩, .int _ _⟩
      have hc2 : CompAt w env (cenvOf scope cl C env) mu z s₁.heap h₅ b (.int n) := ⟨eo, k1.nil, znew, fun b hb => ⟨ztt b hb, ex₅ b hb⟩, .int n u, .inl ⟨hxb C, ztt C zC, _, hns₅, by simp⟩, .int _ _⟩
      refine (he C z h₅ i n hn o₅' hc1 hc2).use (s := { s' with heap := h₅, toks := tk₅ }) o₅' (.refl _ _) fun v s₆ n₆ o₆ k₆ r₆ => ?_
      have k6 : ∀ b o, h₅.get? b = some o → s₆.heap.get? b = some o := fun b o e => n₆.keep b o (by simp [xs]) e
      have hpl₆ : s₆.heap.PlainList D ys := ⟨nD, k6 _ _ eD₅⟩
      refine append_go hpl₆ (by omega) fun h₇ hpl₇ hs₇ => ?_
      have le7 : View.le (hid (z ++ mu) s₆.heap) (hid (z ++ mu) h₇) := hid_le fun b o _ m e => hs₇.extBut b o (fun q => m (List.mem_append_left _ (q ▸ zD))) e
      have le6 : View.le (hid (z ++ mu) s'.heap) (hid (z ++ mu) s₆.heap) := hid_le fun b o _ m e => by
        have : b ∉ z := fun q => m (List.mem_append_left _ q)
        exact k6 b o (hk₅ b o (fun q => this (q ▸ zC)) (hk₄' b o (hwr b this) e))
      obtain ⟨⟨old, e1⟩, e2, e3⟩ := hst₄
      have up : ∀ b o, b ≠ C → b ≠ D → h₄.get? b = some o → h₇.get? b = some o := fun b o p q e => hs₇.extBut b o q (k6 b o (hk₅ b o p e))
      refine ⟨qs.length + 1 - (i + 1), by omega, i + 1, ys.push v, hlt, rfl, n₆.gens.trans hg, n₆.os.trans hos, ⟨⟨old, up _ _ (Ne.symm aCI) (Ne.symm aDI) e1⟩, e2.at fun o e => up _ _ (Ne.symm aCt) (Ne.symm aDt) e, e3.at fun o e => up _ _ (fun q => lz (q ▸ zC)) (fun q => lz (q ▸ zD)) e⟩,
        hpl₇, by rw [Array.size_push]; omega, ?_, ⟨_, (hns₅.keeps k6).sameBut hs₇ (Ne.symm aDC)⟩, fun b o nz e => hs₇.extBut b o (fun q => nz (q ▸ zD)) (k6 b o (k25' b o nz e))⟩
      rw [List.range_succ, List.map_append, Array.toList_push]
      have hFi : F i = f i n := by
        rw [← hF]; show f i (qs.getD i 0) = _
        rw [List.getD_eq_getElem?_getD, hn]; rfl
      exact ((hrl.mono le6).mono le7).append (.cons (by rw [hFi]; exact r₆.mono le7) .nil)
    · obtain rfl : i = qs.length := Nat.le_antisymm hi (Nat.not_lt.mp hlt)
      refine W.done _ _ _ (by rw [hlen]; exact hst') fun h₃ tk₃ hk₃ => ?_
      have hwr' : ∀ b o, b ∉ z → s'.heap.get? b = some o → h₃.get? b = some o := fun b o nz e => hk₃ b o (hwr b nz) e
      have inI : ∀ b, b ≠ I → b ≠ it → b ∉ [I, it] := fun b p q m => by
        rcases List.mem_cons.mp m with e | m
        · exact p e
        · exact q (List.mem_singleton.mp m)
      refine hR C D _ ⟨k15 _ fun b o nz e => hwr' b o nz (hK b o nz e), hg, hos⟩ ?_ hCn hDn (Ne.symm aDC) ?_
      · obtain ⟨m, n⟩ := hns
        exact ⟨m, n.at' fun o e => hk₃ C o (inI C aCI aCt) e⟩
      · obtain ⟨nD, eD⟩ := hpl
        refine .list (vs := ys.toList) (n := nD) (hid_of ?_ (ztt D zD) ?_) ?_
        · rw [Array.toArray_toList]; exact hk₃ D _ (inI D aDI aDt) eD
        · simp only [List.mem_cons, not_or]; exact ⟨aDC, zmu D zD⟩
        · rw [hF]
          refine hrl.mono fun b o e => ?_
          obtain ⟨e, t, m⟩ := hid_some e
          simp only [List.mem_append, not_or] at m
          exact hid_of (hwr' b o m.1 e) t (by simp only [List.mem_cons, not_or]; exact ⟨fun q => m.1 (q ▸ zC), m.2⟩)
  have e5 : (H3.push { cls := .type "dict", data := .dict #[] }).objs.size = C + 1 := by rw [Heap.size_push, hCe]
  dsimp only
  rw [e5]
  exact codeAny_compStart_list loop (W.self 0 _ _ _ ⟨⟨_, k25 _ _ hen⟩, hli.at fun o e => k25 _ _ e, hll.at fun o e => k25 _ _ e⟩ loop)
end

section
open PySem PySem.Calls PySem.W PyProof.Rows
set_option maxRecDepth 100000
set_option maxHeartbeats 4000000
variable {w : World} {X : Bool} {A : Around} {env : Env} {mu : List Addr} {h₀ : View} {h₁ : Heap} {σ : List (Str × PV)} {bx : Option (Str × Addr × PV)}
/-- y = [ .. for a, b in enumerate(..)] -/
theorem Ex.lcompE {elt iter : Expr} {a b y : Str} {pa pb tp py : Pos} {kk : Nat} {scope : Scope} {cl : List (Str × Addr)} {pos spos : Pos} {qs : List Int} {rest J} (f : Nat → Int → PV)
    (hi : ∀ h, Ok w h → Fm w X h₀ env mu σ bx h → ItE w A env h iter qs) (hsz : qs.length ≤ 16777216) (hh : A.handled = none) (hab : ¬ a = b)
    (he : ∀ h₁, Ok w h₁ → Fm w X h₀ env mu σ bx h₁ → CS env scope cl a false ∧ (∀ C, (cenvOf scope cl C env).kindOf b = some .local) ∧ ∀ C z h i q, qs[i]? = some q → Ok w h → CompAt w env (cenvOf scope cl C env) (full env mu bx) z h₁ h a (.int (i : Nat)) → CompAt w env (cenvOf scope cl C env) (full env mu bx) z h₁ h b (.int q) →
      Ev w false A (cenvOf scope cl C env) (z ++ full env mu bx) h elt (f i q))
    (hsw : swapsWith (.ListComp elt [⟨.Tuple [.Name a pa, .Name b pb] kk tp, iter, [], 0⟩] scope pos) (some (.Name y py)) spos.line env = pure true) (hst : StoreOk env y) (hbx : ∀ z a q, bx = some (z, a, q) → y ≠ z)
    (hr : Ex w A env (Fm w X h₀ env mu ((y, .list ((List.range qs.length).map fun i => f i (qs.getD i 0))) :: σ) bx) rest J)
    (hs : ∀ x, foldedSetIterable iter env x = pure x := by intro _; rfl) :
    Ex w A env (Fm w X h₀ env mu σ bx) (.Assign [.Name y py] (.ListComp elt [⟨.Tuple [.Name a pa, .Name b pb] kk tp, iter, [], 0⟩] scope pos) spos :: rest) J := by
  refine Ex.cons (Ex1.nextOnly fun s o F => ?_) hr
  obtain ⟨cs, hb, he⟩ := he _ o F
  have G := F.ok
  rw [exec_Assign_Name_used _ _ _ _ hsw]
  refine wpAny_bind (wpAny_standAt (wpAny_bind ?_))
  show wpAny _ A (do let _ ← comprehension (.ListComp elt [⟨.Tuple [.Name a pa, .Name b pb] kk tp, iter, [], 0⟩] scope pos) scope env _ (newList []) false (eval iter env) (some (PySem.assign (.Name y py) env))) _ _ s
  refine wpAny_bind (wpAny_mono (wpAny_comprehension_free (use := some (PySem.assign (.Name y py) env)) (E := NoE) (Q := fun _ s' => s'.gens = s.gens ∧ s'.os = s.os ∧ Ok w s'.heap ∧ Fm w X h₀ env mu ((y, .list ((List.range qs.length).map fun i => f i (qs.getD i 0))) :: σ) bx s'.heap) rfl hs cs.clos cs.kind cs.names ?_)
    (fun _ s' ⟨a, b, c, d⟩ => wpAny_pure (wpAny_pure ⟨a, b, c, rfl, d⟩)) fun _ _ f => f.elim)
  refine wpAny_mono (hi _ o F s o (.refl _ _)) (fun xv s₂ ⟨n₂, I, it, hI, hIn, hItn, S⟩ => ?_) fun _ _ f => f.elim
  subst hI
  have hen : ∃ old, IsEnum s₂.heap I it ((0 : Nat) : Int) old := by obtain ⟨l, items, _, _, _, e, _⟩ := S; exact e
  obtain ⟨old, hen⟩ := hen
  refine wpAny_pyIter_enum hen ?_
  refine comp_block2 (RR := fun acc C => compPost (model pw w) A NoE (some (PySem.assign (.Name y py) env)) _ acc C) f (fun n => by rw [cs.cells]; rfl) (fun h => by rw [cs.push]; rfl) cs.kind cs.var hb hab G o n₂ hIn hItn hh S hsz F.muOld' he ?_
  intro C D s' n' hns hC hD hCD r
  obtain ⟨m, hns⟩ := hns
  have F₁ := F
  have hCT : C ∉ TT := o.fresh hC
  have hCf : C ∉ full env mu bx := fun q => by obtain ⟨_, z, e⟩ := F₁.muOld' C q; rw [hC] at e; cases e
  have hCo : C ∉ bxa bx ++ own env := fun q => hCf (List.mem_append_left _ q)
  have hCB : h₀ C = none := by
    cases e : h₀ C with
    | none => rfl
    | some z => rw [F₁.keep C z (fun q => hCT (xs_TT X _ q)) e] at hC; cases hC
  have hCk : C ∉ okAddrs := fun q => by obtain ⟨z, e⟩ := o.addr C q; rw [hC] at e; cases e
  have o' : Ok w s'.heap := n'.ok o
  obtain ⟨oC, esC, epC, heC, hdC, _⟩ := id hns
  have F' : Fm w X h₀ env (C :: mu) σ bx s'.heap := F₁.hide n'.keep.nil hC ⟨_, heC⟩ hCT
  refine PyProof.Rows.assign_Name (store_go (s := s') F'.turn o' hst hbx (r.mono (hid_sub fun a ha => ?_)) fun h₅ tk F₅ o₅ => ?_)
  · rcases mem_full.mp ha with rfl | ha
    · exact List.mem_cons_self
    · exact List.mem_cons_of_mem _ ha
  · have kC : h₅.get? C = some oC := F₅.keep C oC (fun q => hCT (xs_TT X _ q)) (turnB_of heC hCo)
    have hnsC : h₅.Ns C m := by
      obtain ⟨o1, es1, ep1, e1, r1⟩ := hns
      rw [heC] at e1; cases e1
      exact ⟨oC, es1, ep1, kC, r1⟩
    refine ⟨m, hnsC, fun h₆ hs' => ?_⟩
    have Fb := F'.back F₅ rfl
    exact ⟨n'.gens, n'.os, o₅.but (fun b ob n e => hs'.extBut b ob n e) kC (.nf fun vs e => by rw [hdC] at e; cases e) hCk, Fb.unhide hs' hCo hCB (fun q => hCf (List.mem_append_right _ q)) fun c v ⟨o, e, d⟩ q => by subst q; rw [kC] at e; cases e; rw [hdC] at d; cases d⟩
end

section
open PySem PySem.Calls PySem.W PyProof.Rows
set_option maxRecDepth 100000
set_option maxHeartbeats 4000000
variable {w : World} {X : Bool}

noncomputable def forBody : List Stmt := match (fnBody 19).getD 10 (.Pass default) with | .For _ _ b .. => b | _ => []
noncomputable def midOf (hs : List Nat) (most : Nat) : List Nat := if lostOf hs most then hs else (aplN hs (replyOf hs most)).filter (0 < ·)
noncomputable def σL (hs : List Nat) (most : Nat) (c : Int) : List (Str × PV) := [("heaps", .list (natsP hs)), ("most", .int (most : Nat)), ("cell", .int c), ("bare", .bytes bareL.toArray), ("listed", .bytes listedL.toArray)]
noncomputable def σT (hs : List Nat) (most : Nat) (c : Int) : List (Str × PV) := ("lost", .bool (lostOf hs most)) :: σL hs most c
noncomputable def nextH (hs : List Nat) (most : Nat) (c : Int) : List Nat := (drawn (midOf hs most) most c).2.filter (0 < ·)
noncomputable def nextC (hs : List Nat) (most : Nat) (c : Int) : Int := (drawn (midOf hs most) most c).1
/-- heaps in play -/
noncomputable def Good (hs : List Nat) : Prop := hs.length ≤ 5 ∧ ∀ n ∈ hs, 0 < n ∧ n < 32

theorem tail_body {A : Around} {L : Addr} {mu : List Addr} {B : View} (R : Room 9 A) (hs : List Nat) (most : Nat) (c : Int) (g : Good hs) (hm : 0 < most ∧ most ≤ 3) (hL : lostOf hs most = true) :
    Ex w A (fenv dLaw L) (Fm w true B (fenv dLaw L) mu (σL hs most c) none) (forBody.drop 2)
      (fun f h => (f = .next ∧ Fm w true B (fenv dLaw L) mu (σT ((drawn hs most c).2.filter (0 < ·)) most (drawn hs most c).1) none h) ∨ RetJ w true B mu (.bool true) f h) := by
  obtain ⟨g1, g2⟩ := g
  refine Ex.ite (u := hs.isEmpty) (fun h o F => ?_) (fun hu => ?_) (fun hu => ?_)
  · refine' EvT.eq (EvT.lists (ps := natsP hs) (qs := []) (by walk_at "ev") (Ev.list .nil MuOld.nil (by simp)) (by simp) (R.le (by omega)) .eq rfl) ?_
    rw [eqL_nil]; cases hs <;> rfl
  · exact (Ex.ret fun h o F => by walk_at "ev").post fun f h _ r => .inr r
  · have h0 : 0 < hs.length := by cases hs <;> simp_all
    obtain ⟨d1, d2, d3⟩ := drawn_ok hs most c h0 g2 hm.1
    have d3 := d3 hL
    refine Ex.pair2 (p := .list (natsP (drawn hs most c).2)) (q := .int (drawn hs most c).1) (R.le (by omega)) (fun h o F => ?_) (.inl rfl) (.inl rfl) (no_box _) (no_box _) rfl rfl ?_
    · exact Ev.app (d := dDrawn) F.ok rfl (by simp [defs]) rfl (fn_drawn hs most c g1 h0 g2 hm).lo (R.le (by omega)) F.muOld' (.cons (by walk_at "ev") (.cons (by walk_at "ev") (.cons (by walk_at "ev") .nil rfl) rfl) rfl) rfl rfl
    generalize drawn hs most c = dr at d1 d2 d3
    obtain ⟨c', mv⟩ := dr
    simp only at d1 d2 d3
    refine Ex.assign (p := .list (natsP (mv.filter (0 < ·)))) (fun h o F => ?_) rfl (.inr ⟨rfl, _, rfl⟩) (no_box _) ?_
    · exact Ev.app (d := dTold) F.ok rfl (by simp [defs]) rfl (told_ok listedL (by decide) mv (by decide) (by omega) d2).lo (R.le (by omega)) F.muOld' (.cons (by walk_at "ev") (.cons (by walk_at "ev") .nil rfl) rfl) rfl rfl
    have l1 : (mv.filter (0 < ·)).length ≤ 5 := Nat.le_trans (List.length_filter_le _ _) (by omega)
    have l2 : ∀ n ∈ mv.filter (0 < ·), n < 32 := fun n hn => d2 n (List.mem_filter.mp hn).1
    have l3 := lost_filter mv most
    rw [d3] at l3
    show Ex w A _ _ _ (fun f h => (f = .next ∧ Fm w true B (fenv dLaw L) mu (σT (mv.filter (0 < ·)) most c') none h) ∨ RetJ w true B mu (.bool true) f h)
    refine Ex.ite (u := false) (fun h o F => ?_) (fun hu => by cases hu) (fun _ => ?_)
    · exact EvT.eq (EvT.is (p := .list (natsP (mv.filter (0 < ·)))) (q := .none) (by walk_at "ev") (by walk_at "ev") rfl (.inl rfl) rfl) rfl
    refine Ex.assign (p := .bool false) (fun h o F => ?_) rfl (.inl rfl) (no_box _) ?_
    · rw [← l3]
      exact Ev.app (d := dLost) F.ok rfl (by simp [defs]) rfl (fn_lost (mv.filter (0 < ·)) most l1 l2 hm) R F.muOld' (.cons (by walk_at "ev") (.cons (by walk_at "ev") .nil rfl) rfl) rfl rfl
    refine Ex.ite (u := false) (fun h o F => ?_) (fun hu => by cases hu) (fun _ => ?_)
    · exact EvT.eq (EvT.is (p := .bool false) (q := .bool false) (by walk_at "ev") (by walk_at "ev") rfl (.inr rfl) rfl) rfl
    exact Ex.nil fun h F => .inl ⟨rfl, F.weaken (by unfold σT; rw [l3]; simp only [σL, List.forall_mem_cons]; exact ⟨rfl, rfl, rfl, rfl, rfl, rfl, by simp⟩)⟩
end

section
open PySem PySem.Calls PySem.W PyProof.Rows
set_option maxRecDepth 100000
set_option maxHeartbeats 4000000
variable {w : World} {X : Bool}

theorem apl_good (hs : List Nat) (d : List (Nat × Nat)) (g : Good hs) (hb : ∀ n ∈ aplN hs d, n < 32) : Good ((aplN hs d).filter (0 < ·)) :=
  ⟨Nat.le_trans (List.length_filter_le _ _) (by rw [apl_len]; exact g.1), fun n hn => ⟨by simpa using (List.mem_filter.mp hn).2, hb n (List.mem_filter.mp hn).1⟩⟩

theorem turn_body {A : Around} {L : Addr} {mu : List Addr} {B : View} {q : PV} (R : Room 9 A) (hs : List Nat) (most : Nat) (c : Int) (g : Good hs) (hm : 0 < most ∧ most ≤ 3) :
    Ex w A (fenv dLaw L) (Fm w true B (fenv dLaw L) mu (("turn", q) :: σT hs most c) none) forBody
      (fun f h => (f = .next ∧ Fm w true B (fenv dLaw L) mu (σT (nextH hs most c) most (nextC hs most c)) none h) ∨ RetJ w true B mu (.bool true) f h) := by
  refine Ex.ite (u := false) (fun h o F => ?_) (fun hu => by cases hu) (fun _ => ?_)
  · exact EvT.eq (EvT.is (p := .bool (lostOf hs most)) (q := .none) (by walk_at "ev") (by walk_at "ev") rfl (.inl rfl) rfl) rfl
  have ev : Good hs := g
  obtain ⟨g1, g2⟩ := g
  have lenE : (natsP hs).length = hs.length := by simp
  refine Ex.ite (u := !lostOf hs most) (fun h o F => EvT.not (EvT.value (p := .bool (lostOf hs most)) (by walk_at "ev") trivial fun _ => rfl)) (fun hu => ?_) (fun hu => ?_)
  · have hL : lostOf hs most = false := by simpa using hu
    obtain ⟨r1, r2, r3, r4, r5⟩ := reply_ok hs most (fun n hn => (g2 n hn).2) hL
    have gm := apl_good hs (replyOf hs most) ev r5
    have em : midOf hs most = (aplN hs (replyOf hs most)).filter (0 < ·) := by unfold midOf; rw [hL]; rfl
    have r4' : lostOf ((aplN hs (replyOf hs most)).filter (0 < ·)) most = true := by rw [lost_filter]; exact r4
    unfold nextH nextC
    rw [em]
    refine Ex.assign (p := .dict (castD (replyOf hs most))) (fun h o F => ?_) rfl (.inr ⟨rfl, _, rfl⟩) (no_box _) ?_
    · exact Ev.app (d := dReply) F.ok rfl (by simp [defs]) rfl (fn_reply hs most g1 (fun n hn => (g2 n hn).2) hm).lo (R.le (by omega)) F.muOld' (.cons (by walk_at "ev") (.cons (by walk_at "ev") .nil rfl) rfl) rfl rfl
    generalize hd : replyOf hs most = d at *
    refine Ex.ite (u := false) (fun h o F => ?_) (fun hu => by cases hu) (fun _ => ?_)
    · have V : Vars (fenv dLaw L) (full (fenv dLaw L) mu none) [("heaps", .list (natsP hs)), ("lowered", .dict (castD d))] h := (F.weaken (σ' := [("heaps", .list (natsP hs)), ("lowered", .dict (castD d))]) (by simp only [List.forall_mem_cons]; exact ⟨rfl, rfl, by simp⟩)).toVars
      refine' EvT.eq (EvT.bool (EvTL.or (EvT.cmp (p := .int (d.length : Nat)) (q := .int 0) ?x1 (by walk_at "ev") .eq rfl) fun _ =>
        EvTL.or (EvT.lists (ps := []) (qs := []) (b := false) ?x2 (Ev.list .nil MuOld.nil (by simp)) (by simp) (R.le (by omega)) ?x3 rfl) fun _ => EvTL.or_nil)) ?x4
      case x1 => exact Ev.eq (Ev.bif (mu' := full _ mu _) (id := "len") F.ok rfl (by simp [bnames]) (.cons (p := .dict (castD d)) (by walk_at "ev") .nil rfl) (bi_len_dict (by rw [cast_len]; omega)) (imm_any rfl) rfl rfl rfl) (by rw [cast_len])
      case x2 =>
        refine' Ev.eq (Ev.lcomp (qs := natsP (d.map (·.1))) (cx := false) (cl := [("lowered", L + 3), ("heaps", L + 2)]) (fun x => match x with | .int n => decide (((getN d n.toNat).getD 0 : Int) ≥ (hs.getD n.toNat 0 : Nat)) | _ => false) id (by walk_at "cs") F.ok ?y1 (by simp; omega) MuOld.nil (fun C z h' q hq ho hc => ⟨?y2, fun _ => ?y3⟩)) ?y4
        case y1 =>
          rw [← cast_keys]
          exact It.dict (by walk_at "ev") R.handled
        case y2 =>
          obtain ⟨k, hk, rfl⟩ := List.mem_map.mp hq
          obtain ⟨v, hv⟩ := Option.isSome_iff_exists.mp (getN_mem d k hk)
          obtain ⟨v1, v2⟩ := r2 k v hv
          have hgd : hs.getD k 0 = hs[k] := by simp [List.getD, v1]
          have V1 := hc.vars V (.cons rfl rfl rfl (.cons rfl rfl rfl .nil))
          have V3 := hc.x.join V1 (sub_app sub_nil)
          refine' EvT.eq (EvT.cmp (p := .int (v : Nat)) (q := .int (hs[k] : Nat)) ?z1 ?z2 .ge rfl) ?z3
          case z1 => exact Ev.itemD (mu' := z ++ full _ mu _) (l := castD d) (k := (k : Nat)) (Ev.name V1 rfl sub_refl rfl rfl) (by walk_at "ev") (by rw [dget_cast, hv]; rfl) (fun _ _ => rfl) (fun _ _ => rfl)
          case z2 => exact Ev.item (l := natsP hs) (n := (k : Nat)) (by walk_at "ev") (by walk_at "ev") (by omega) (by omega) (nats_get v1) (fun _ _ => rfl) (fun _ _ => rfl)
          case z3 =>
            show decide ((v : Int) ≥ (hs[k] : Nat)) = decide ((((getN d (k : Int).toNat).getD 0 : Nat) : Int) ≥ (hs.getD (k : Int).toNat 0 : Nat))
            rw [Int.toNat_natCast, hv, hgd]; rfl
        case y3 =>
          have VX := hc.x
          walk_at "ev"
        case y4 =>
          rw [List.map_id]
          refine congrArg PV.list (List.filter_eq_nil_iff.mpr fun q hq => ?_)
          obtain ⟨k, hk, rfl⟩ := List.mem_map.mp hq
          obtain ⟨v, hv⟩ := Option.isSome_iff_exists.mp (getN_mem d k hk)
          obtain ⟨v1, v2⟩ := r2 k v hv
          show ¬ decide ((((getN d (k : Int).toNat).getD 0 : Nat) : Int) ≥ (hs.getD (k : Int).toNat 0 : Nat)) = true
          rw [Int.toNat_natCast, hv, Option.getD_some, decide_eq_true_eq]
          omega
      case x3 => exact .ne
      case x4 =>
        have : ((d.length : Int) == 0) = false := by simpa using r1
        rw [this]; rfl
    refine Ex.assign (p := .list (natsP ((aplN hs d).filter (0 < ·)))) (fun h o F => ?_) rfl (.inr ⟨rfl, _, rfl⟩) (no_box _) ?_
    · have V : Vars (fenv dLaw L) (full (fenv dLaw L) mu none) [("heaps", .list (natsP hs)), ("lowered", .dict (castD d))] h := (F.weaken (σ' := [("heaps", .list (natsP hs)), ("lowered", .dict (castD d))]) (by simp only [List.forall_mem_cons]; exact ⟨rfl, rfl, by simp⟩)).toVars
      refine' Ev.app (d := dTold) F.ok rfl (by simp [defs]) rfl (told_ok bareL (by decide) (aplN hs d) (by decide) (by rw [apl_len]; exact g1) r5).lo (R.le (by omega)) F.muOld' (.cons ?t1 (.cons (by walk_at "ev") .nil rfl) rfl) rfl rfl
      case t1 =>
        refine' Ev.eq (Ev.lcomp (qs := rngP hs.length) (cx := false) (cl := [("lowered", L + 3), ("heaps", L + 2)]) (fun _ => true) (fun x => match x with | .int n => .int ((valN hs d n.toNat : Nat) : Int) | p => p) (by walk_at "cs") F.ok (It.range1 F.ok rfl rfl ?w1 R.handled (by omega) rfl) (by simp [rngP]; omega) F.muOld' (fun C z h' q hq ho hc => ⟨rfl, fun _ => ?w2⟩)) ?w3
        case w1 => exact Ev.eq (Ev.bif (mu' := full _ mu _) (id := "len") F.ok rfl (by simp [bnames]) (.cons (p := .list (natsP hs)) (by walk_at "ev") .nil rfl) (bi_len_list (by omega)) (imm_any rfl) rfl rfl rfl) (by rw [lenE])
        case w2 =>
          obtain ⟨k, hk, rfl⟩ := List.mem_map.mp hq
          have hkl : k < hs.length := by simpa using hk
          have hgd : hs.getD k 0 = hs[k] := by simp [List.getD, hkl]
          have V1 := hc.vars V (.cons rfl rfl rfl (.cons rfl rfl rfl .nil))
          have V3 := hc.x.join V1 sub_refl
          refine' Ev.eq (Ev.get (mu' := z ++ full _ mu _) (l := castD d) (k := (k : Nat)) (u := (hs[k] : Nat)) (Ev.name V1 rfl sub_refl rfl rfl) (by walk_at "ev") ?u1 rfl rfl rfl rfl (fun _ _ => rfl)) ?u2
          case u1 => exact Ev.item (l := natsP hs) (n := (k : Nat)) (by walk_at "ev") (by walk_at "ev") (by omega) (by omega) (nats_get hkl) (fun _ _ => rfl) (fun _ _ => rfl)
          case u2 =>
            show PV.int _ = PV.int ((valN hs d (k : Int).toNat : Nat) : Int)
            rw [dget_cast, Int.toNat_natCast]
            unfold valN
            rw [hgd]
            cases getN d k <;> rfl
        case w3 =>
          rw [filt_true, rng_nats, map_nats _ (valN hs d) _ (fun n _ => by show PV.int ((valN hs d (n : Int).toNat : Nat) : Int) = _; rw [Int.toNat_natCast])]
          rfl
    refine Ex.ite (u := false) (fun h o F => ?_) (fun hu => by cases hu) (fun _ => ?_)
    · refine' EvT.eq (EvT.bool (EvTL.or (EvT.is (p := .list (natsP ((aplN hs d).filter (0 < ·)))) (q := .none) (b := false) (by walk_at "ev") (by walk_at "ev") rfl (.inl rfl) rfl) fun _ =>
        EvTL.or (EvT.is (p := .bool (lostOf ((aplN hs d).filter (0 < ·)) most)) (q := .bool true) (b := true) ?f1 (by walk_at "ev") (by rw [r4']; rfl) (.inr rfl) rfl) fun _ => EvTL.or_nil)) rfl
      case f1 => exact Ev.app (d := dLost) F.ok rfl (by simp [defs]) rfl (fn_lost ((aplN hs d).filter (0 < ·)) most gm.1 (fun n hn => (gm.2 n hn).2) hm) R MuOld.nil (.cons (by walk_at "ev") (.cons (by walk_at "ev") .nil rfl) rfl) rfl rfl
    refine Ex.pre (I' := Fm w true B (fenv dLaw L) mu (σL ((aplN hs d).filter (0 < ·)) most c) none) (fun h o F => F.weaken (by simp only [σL, List.forall_mem_cons]; exact ⟨rfl, rfl, rfl, rfl, rfl, by simp⟩)) ?_
    exact tail_body R _ most c gm hm r4'
  · have hL : lostOf hs most = true := by simpa using hu
    have em : midOf hs most = hs := by unfold midOf; rw [hL]; rfl
    unfold nextH nextC
    rw [em]
    refine Ex.pre (I' := Fm w true B (fenv dLaw L) mu (σL hs most c) none) (fun h o F => F.weaken (by simp only [σL, List.forall_mem_cons]; exact ⟨rfl, rfl, rfl, rfl, rfl, by simp⟩)) ?_
    exact tail_body R _ most c ev hm hL
end

section
open PySem PySem.Calls PySem.W PyProof.Rows
set_option maxRecDepth 100000
set_option maxHeartbeats 4000000
variable {w : World} {X : Bool}
noncomputable def startsL : List Int := [1, 29, 7, 22, 14, 11, 1000]
noncomputable def cellAt (ns : List Int) (k : Nat) (start : Int) : Int := start + (pickA ns (some (k : Int)) none (some 7)).sum
noncomputable def cellsOf (ns : List Int) : List Int := (List.range 7).map fun i => cellAt ns i (startsL.getD i 0)
theorem cells_eq (ns : List Int) : (List.range startsL.length).map (fun i => PV.int (cellAt ns i (startsL.getD i 0))) = intsP (cellsOf ns) := by
  rfl
/-- the heaps and the last cell at the turns -/
noncomputable def stH (hs : List Nat) (most : Nat) (c : Int) : Nat → List Nat × Int
  | 0 => (hs, c)
  | i + 1 => (nextH (stH hs most c i).1 most (stH hs most c i).2, nextC (stH hs most c i).1 most (stH hs most c i).2)
theorem drawn_nil (most : Nat) (c : Int) : (drawn [] most c).2 = [] := by
  have := drawGo_len [] (drawF [] c) ((c.fdiv (([] : List Nat).length : Nat)).fdiv (most : Nat)) (drawN [] most c)
  exact List.eq_nil_of_length_eq_zero this
theorem mid_good (hs : List Nat) (most : Nat) (g : Good hs) : Good (midOf hs most) := by
  unfold midOf
  split
  · exact g
  · rename_i h
    exact apl_good hs _ g (reply_ok hs most (fun n hn => (g.2 n hn).2) (by simpa using h)).2.2.2.2
theorem next_good (hs : List Nat) (most : Nat) (c : Int) (g : Good hs) (hm : 0 < most ∧ most ≤ 3) : Good (nextH hs most c) := by
  have g' := mid_good hs most g
  unfold nextH
  generalize midOf hs most = m at g'
  cases m with
  | nil => rw [drawn_nil]; exact ⟨by simp, fun n hn => by cases hn⟩
  | cons a l =>
    obtain ⟨d1, d2, _⟩ := drawn_ok (a :: l) most c (by simp) g'.2 hm.1
    exact ⟨Nat.le_trans (List.length_filter_le _ _) (by rw [d1]; exact g'.1), fun n hn => ⟨by simpa using (List.mem_filter.mp hn).2, d2 n (List.mem_filter.mp hn).1⟩⟩
theorem stH_good (hs : List Nat) (most : Nat) (c : Int) (g : Good hs) (hm : 0 < most ∧ most ≤ 3) : ∀ i, Good (stH hs most c i).1
  | 0 => g
  | i + 1 => next_good _ most _ (stH_good hs most c g hm i) hm
theorem fn_law (ns : List Int) (hl : ns.length ≤ 63) : Fn w true 10 dLaw.addr [.list (intsP ns)] (.bool true) := by
  refine Fn.of ["script"] (by simp [defs]) rfl (by walk_at "fn") (by walk_at "fn") (by walk_at "fn") (by walk_at "fn") (by walk_at "fn") rfl rfl rfl rfl ?_
  intro A L mu h₀ R
  refine Ex.lcompE (qs := startsL) (cl := [("script", L + 1)]) (fun i n => .int (cellAt ns i n)) (fun h o F => ItE.enum F.ok rfl rfl ?_ rfl) (by decide) R.handled (by decide) (fun h₁ o₁ F => ⟨by walk_at "cs", fun _ => rfl, fun C z h i q hq ho hc hc2 => ?_⟩) rfl (.inl rfl) (no_box _) ?_
  · exact Ev.list (.cons Ev.cInt (.cons Ev.cInt (.cons Ev.cInt (.cons Ev.cInt (.cons Ev.cInt (.cons Ev.cInt (.cons Ev.cInt .nil rfl) rfl) rfl) rfl) rfl) rfl) rfl) MuOld.nil (by decide)
  · have V : Vars (fenv dLaw L) (full (fenv dLaw L) mu none) [("script", .list (intsP ns))] h₁ := (F.weaken (σ' := [("script", .list (intsP ns))]) (by simp only [List.forall_mem_cons]; exact ⟨rfl, by simp⟩)).toVars
    have V1 := hc.vars V (.cons rfl rfl rfl .nil)
    have VX := hc.x
    have VY := hc2.x
    refine' Ev.bin (p := .int q) (q := .int (pickA ns (some (i : Int)) none (some 7)).sum) ?a1 ?a2 .add
    case a1 => exact Ev.name VY rfl sub_nil rfl rfl
    case a2 =>
      refine' Ev.bif (mu' := z ++ full (fenv dLaw L) mu none) (id := "sum") hc.ok rfl (by simp [bnames]) (.cons (p := .list (intsP (pickA ns (some (i : Int)) none (some 7)))) ?a3 .nil rfl) (bi_sum R.handled) (imm_any rfl) rfl rfl rfl
      case a3 =>
        refine' Ev.eq (Ev.sliceL (l := intsP ns) (a := some (i : Int)) (c := some 7) ?a4 (.some ?a5) .none (.some Ev.cInt) (by decide) (by simp; omega) (hc.muOld F.muOld') (fun _ _ => ⟨_, rfl⟩) (fun _ _ => rfl)) ?a6
        case a4 => exact Ev.name V1 rfl sub_refl rfl rfl
        case a5 => exact Ev.name VX rfl sub_nil rfl rfl
        case a6 => exact congrArg PV.list (pickP_map _ _ _ _ _)
  · rw [cells_eq]
    obtain ⟨c0, c1, c2, c3, c4, c5, c6, hcs⟩ : ∃ c0 c1 c2 c3 c4 c5 c6, cellsOf ns = [c0, c1, c2, c3, c4, c5, c6] := ⟨_, _, _, _, _, _, _, rfl⟩
    rw [hcs]
    obtain ⟨m1, m2⟩ := fmod_nat c0 3 (by decide)
    obtain ⟨k, hk⟩ := Int.eq_ofNat_of_zero_le m1
    have hk3 : k < 3 := by have := m2; rw [hk] at this; exact_mod_cast this
    refine Ex.pairSw (p := .int ((1 + k : Nat) : Int)) (q := .int c6) (R.le (by omega)) (fun h o F => ?_) (.inl rfl) (.inl rfl) (no_box _) (no_box _) rfl rfl ?_
    · refine Ev.tuple (.cons ?_ (.cons ?_ .nil rfl) rfl) F.muOld' (by simp)
      · refine Ev.eq (Ev.bin (p := .int 1) (q := .int (c0.fmod 3)) Ev.cInt (Ev.bin (p := .int c0) (q := .int 3) (Ev.item (l := intsP [c0, c1, c2, c3, c4, c5, c6]) (n := 0) (mu := []) (Ev.name F.toVars rfl sub_nil rfl rfl) Ev.cInt (by decide) (by decide) rfl (fun _ _ => rfl) (fun _ _ => rfl)) Ev.cInt (.mod (by decide))) .add) ?_
        have : c0.fmod 3 = (k : Int) := hk
        rw [this]; rfl
      · exact Ev.item (l := intsP [c0, c1, c2, c3, c4, c5, c6]) (n := 6) (mu := full (fenv dLaw L) mu none) (Ev.name F.toVars rfl sub_refl rfl rfl) Ev.cInt (by decide) (by decide) rfl (fun _ _ => rfl) (fun _ _ => rfl)
    have hr32 : ∀ c : Int, 0 ≤ c.fmod 32 ∧ c.fmod 32 < 32 := fun c => fmod_nat c 32 (by decide)
    obtain ⟨hs, hhs, hlen, h32⟩ : ∃ hs : List Nat, natsP hs = [c1, c2, c3, c4, c5].map (fun c => PV.int (c.fmod 32)) ∧ hs.length = 5 ∧ ∀ n ∈ hs, n < 32 := by
      refine ⟨[c1, c2, c3, c4, c5].map fun c => (c.fmod 32).toNat, ?_, rfl, ?_⟩
      · rw [natsP, List.map_map]
        refine List.map_congr_left fun c _ => ?_
        show PV.int (((c.fmod 32).toNat : Nat) : Int) = _
        rw [Int.toNat_of_nonneg (hr32 c).1]
      · intro n hn
        obtain ⟨c, _, rfl⟩ := List.mem_map.mp hn
        have := hr32 c
        omega
    refine Ex.assign (p := .list (natsP hs)) (fun h o F => ?_) rfl (.inr ⟨rfl, _, rfl⟩) (no_box _) ?_
    · refine' Ev.eq (Ev.lcomp (qs := intsP [c1, c2, c3, c4, c5]) (cx := false) (cl := []) (fun _ => true) (fun p => match p with | .int c => .int (c.fmod 32) | p => p) (by walk_at "cs") F.ok (It.list ?a1 R.handled) (by simp) F.muOld' (fun C z h' q hq ho hc => ⟨rfl, fun _ => ?a2⟩)) ?a3
      case a1 =>
        refine' Ev.eq (Ev.sliceL (l := intsP [c0, c1, c2, c3, c4, c5, c6]) (a := some 1) (u := some 6) (Ev.name F.toVars rfl sub_refl rfl rfl) (.some Ev.cInt) (.some Ev.cInt) .none (by decide) (by simp) F.muOld' (fun _ _ => ⟨_, rfl⟩) (fun _ _ => rfl)) ?b1
        case b1 =>
          rw [pickP_map, show (some (1 : Int)) = some ((1 : Nat) : Int) from rfl, show (some (6 : Int)) = some ((6 : Nat) : Int) from rfl, pick_mid _ 1 6 (by decide) (by simp)]
          rfl
      case a2 =>
        obtain ⟨c, _, rfl⟩ := List.mem_map.mp hq
        have VX := hc.x
        exact Ev.bin (p := .int c) (q := .int 32) (Ev.name VX rfl sub_nil rfl rfl) Ev.cInt (.mod (by decide))
      case a3 => rw [hhs]; rfl
    refine Ex.pair (p := .bytes bareL.toArray) (q := .bytes listedL.toArray) (R.le (by omega)) (fun h o F => ?_) rfl rfl (.inl rfl) (.inl rfl) (no_box _) (no_box _) rfl rfl ?_
    · exact Ev.tuple (.cons (Ev.eq Ev.cBytes rfl) (.cons (Ev.eq Ev.cBytes rfl) .nil rfl) rfl) F.muOld' (by simp)
    have bl := body_size hs h32
    have bsz : (bodyOf hs).size = (bodyL hs).length := by rw [← bodyOf_eq]; simp
    have ssz := sum_size hs (1 * (hs.length - 1)) h32
    have hl5 : hs.length ≤ 5 := by omega
    refine Ex.assign (p := .bytes (flagsW ++ bodyL hs).toArray) (fun h o F => ?_) rfl (.inl rfl) (no_box _) ?_
    · refine' Ev.eq (Ev.bin (p := .bytes flagsW.toArray) (q := .bytes (bodyOf hs)) (Ev.eq Ev.cBytes rfl) ?c1 (.addB ?c2)) ?c3
      case c1 =>
        refine Ev.join (sep := spB) (ps := hs.map fun n => (i2ap n).toArray) (Ev.eq Ev.cBytes rfl) ?_ (by simp; omega) ?_ ?_ rfl rfl rfl
        · refine' Ev.eq ?d1 ?d2
          case d1 =>
            refine Ev.lcomp (qs := natsP hs) (cx := false) (cl := []) (fun _ => true) apP (by walk_at "cs") F.ok (It.list (by walk_at "ev") R.handled) (by simp; omega) MuOld.nil (fun C z h' q hq ho hc => ⟨rfl, fun _ => ?_⟩)
            obtain ⟨n, hn, rfl⟩ := List.mem_map.mp hq
            refine Ev.app (d := dInt2AP) hc.ok rfl (by simp [defs]) rfl (fn_int2ap n ?_) (R.le (by omega)) (hc.muOld MuOld.nil) (.cons (by walk_at "ev") .nil rfl) rfl rfl
            exact Nat.le_trans (i2ap_len n 2 (by have := h32 n hn; omega)) (by decide)
          case d2 => rw [filt_true, List.map_map, List.map_map]; rfl
        · simp only [List.length_map]
          refine Nat.le_trans ssz ?_
          omega
        · show (bodyOf hs).size ≤ _
          omega
      case c2 =>
        rw [bsz]
        show 7 + _ ≤ _
        omega
      case c3 =>
        refine congrArg PV.bytes ?_
        apply Array.toList_inj.mp
        rw [Array.toList_append, bodyOf_eq]
    have e1 : (listedL ++ (flagsW ++ ([] ++ 41 :: [41]))).toArray = listedL.toArray ++ ([70, 76, 65, 71, 83, 32, 40, 41, 41] : List UInt8).toArray := by decide
    have e2 : (listedL ++ (flagsW ++ bodyL hs)).toArray = listedL.toArray ++ (flagsW ++ bodyL hs).toArray := by simp
    have e3 : (bareL ++ (flagsW ++ bodyL hs)).toArray = bareL.toArray ++ (flagsW ++ bodyL hs).toArray := by simp
    have fsz : (flagsW ++ bodyL hs).toArray.size ≤ 22 := by simp only [List.size_toArray, List.length_append]; show 7 + _ ≤ _; omega
    have lsz : listedL.toArray.size = 40 := rfl
    have bsz2 : bareL.toArray.size = 11 := rfl
    have p1 := parse_bare (w := w)
    have p2 := parse_empty (w := w)
    have p3 := parse_open2 (w := w) hs hl5 h32
    have p4 := parse_open (w := w) hs hl5 h32
    rw [e1] at p2
    rw [e2] at p3
    rw [e3] at p4
    have hne : (flagsW ++ bodyL hs).toArray ≠ ([70, 76, 65, 71, 83, 32, 40, 41, 41] : List UInt8).toArray := by
      intro e
      have e := congrArg Array.toList e
      have e : flagsW ++ bodyL hs = flagsW ++ [41, 41] := e
      have e := List.append_cancel_left e
      exact (body_ok hs h32 41 (by rw [e]; exact .head _)).2.1 rfl
    generalize (flagsW ++ bodyL hs).toArray = lastB at *
    refine Ex.assign (p := .list [.bytes bareL.toArray, .bytes (listedL.toArray ++ ([70, 76, 65, 71, 83, 32, 40, 41, 41] : List UInt8).toArray), .bytes (listedL.toArray ++ lastB), .bytes (bareL.toArray ++ lastB)]) (fun h o F => ?_) rfl (.inl rfl) (no_box _) ?_
    · refine Ev.list (.cons ?_ (.cons ?_ (.cons ?_ (.cons ?_ .nil rfl) rfl) rfl) rfl) F.muOld' (by simp)
      · walk_at "ev"
      · refine Ev.bin (p := .bytes listedL.toArray) (q := .bytes ([70, 76, 65, 71, 83, 32, 40, 41, 41] : List UInt8).toArray) (by walk_at "ev") (Ev.eq Ev.cBytes rfl) (.addB (by decide))
      · refine Ev.bin (p := .bytes listedL.toArray) (q := .bytes lastB) (by walk_at "ev") (by walk_at "ev") (.addB (by omega))
      · refine Ev.bin (p := .bytes bareL.toArray) (q := .bytes lastB) (by walk_at "ev") (by walk_at "ev") (.addB (by omega))
    have n1 : bareL.toArray ≠ listedL.toArray ++ lastB := fun e => by
      have := congrArg Array.size e
      rw [Array.size_append] at this
      omega
    have n2 : listedL.toArray ++ ([70, 76, 65, 71, 83, 32, 40, 41, 41] : List UInt8).toArray ≠ listedL.toArray ++ lastB := fun e => by
      have := congrArg Array.toList e
      rw [Array.toList_append, Array.toList_append] at this
      exact hne (Array.toList_inj.mp (List.append_cancel_left this)).symm
    have n3 : bareL.toArray ++ lastB ≠ listedL.toArray ++ lastB := fun e => by
      have := congrArg Array.size e
      rw [Array.size_append, Array.size_append] at this
      omega
    refine Ex.ite (u := false) (fun h o F => ?_) (fun hu => by cases hu) (fun _ => ?_)
    · refine' EvT.lists (ps := [.tup [], .tup [], .tup (bytesP [wordA, wordB]), .tup []]) (qs := [.tup [], .tup [], .tup (bytesP [wordA, wordB]), .tup []]) ?g1 ?g2 ?g3 (R.le (by omega)) (b := false) ?g4 rfl
      case g1 =>
        refine' Ev.eq (Ev.lcomp (cx := false) (cl := []) (fun _ => true) (fun x => match x with | .bytes x => if x = listedL.toArray ++ lastB then .tup (bytesP [wordA, wordB]) else .tup [] | p => p) (by walk_at "cs") F.ok (It.list (by walk_at "ev") R.handled) (by simp) MuOld.nil (fun C z h' q hq ho hc => ⟨rfl, fun _ => ?i1⟩)) ?i2
        case i1 =>
          have VX := hc.x
          simp only [List.mem_cons, List.not_mem_nil, or_false] at hq
          rcases hq with rfl | rfl | rfl | rfl
          · show Ev _ _ _ _ _ _ _ (if _ then _ else _)
            rw [if_neg n1]
            exact Ev.app (d := dParse) hc.ok rfl (by simp [defs]) rfl p1 (R.le (by omega)) (hc.muOld MuOld.nil) (.cons (by walk_at "ev") .nil rfl) rfl rfl
          · show Ev _ _ _ _ _ _ _ (if _ then _ else _)
            rw [if_neg n2]
            exact Ev.app (d := dParse) hc.ok rfl (by simp [defs]) rfl p2 (R.le (by omega)) (hc.muOld MuOld.nil) (.cons (by walk_at "ev") .nil rfl) rfl rfl
          · show Ev _ _ _ _ _ _ _ (if _ then _ else _)
            rw [if_pos rfl]
            exact Ev.app (d := dParse) hc.ok rfl (by simp [defs]) rfl p3 (R.le (by omega)) (hc.muOld MuOld.nil) (.cons (by walk_at "ev") .nil rfl) rfl rfl
          · show Ev _ _ _ _ _ _ _ (if _ then _ else _)
            rw [if_neg n3]
            exact Ev.app (d := dParse) hc.ok rfl (by simp [defs]) rfl p4 (R.le (by omega)) (hc.muOld MuOld.nil) (.cons (by walk_at "ev") .nil rfl) rfl rfl
        case i2 =>
          rw [filt_true]
          simp only [List.map_cons, List.map_nil, if_neg n1, if_neg n2, if_neg n3, if_true]
      case g2 =>
        refine Ev.list (.cons (Ev.tuple .nil MuOld.nil (by simp)) (.cons (Ev.tuple .nil MuOld.nil (by simp)) (.cons (Ev.tuple (.cons (Ev.eq Ev.cBytes rfl) (.cons (Ev.eq Ev.cBytes rfl) .nil rfl) rfl) MuOld.nil (by simp)) (.cons (Ev.tuple .nil MuOld.nil (by simp)) .nil rfl) rfl) rfl) rfl) MuOld.nil (by simp)
      case g3 =>
        intro p hp q hq
        simp only [List.mem_cons, List.not_mem_nil, or_false] at hp hq
        rcases hp with rfl | rfl | rfl | rfl <;> rcases hq with rfl | rfl | rfl | rfl <;> (intro a ha b hb; simp only [bytesP, List.map_cons, List.map_nil, List.mem_cons, List.not_mem_nil, or_false] at ha hb) <;> (first | exact ha.elim | exact hb.elim | (rcases ha with rfl | rfl <;> rcases hb with rfl | rfl <;> trivial))
      case g4 =>
        have : eqL eq1 [.tup [], .tup [], .tup (bytesP [wordA, wordB]), .tup []] [.tup [], .tup [], .tup (bytesP [wordA, wordB]), .tup []] = true := by rfl
        have h := @LCmp.ne (eqL eq1 [.tup [], .tup [], .tup (bytesP [wordA, wordB]), .tup []] [.tup [], .tup [], .tup (bytesP [wordA, wordB]), .tup []])
        exact h
    have gh : Good (hs.filter (0 < ·)) := ⟨Nat.le_trans (List.length_filter_le _ _) hl5, fun n hn => ⟨by simpa using (List.mem_filter.mp hn).2, h32 n (List.mem_filter.mp hn).1⟩⟩
    have hm : 0 < 1 + k ∧ 1 + k ≤ 3 := by omega
    refine Ex.assign (p := .list (natsP (hs.filter (0 < ·)))) (fun h o F => ?_) rfl (.inr ⟨rfl, _, rfl⟩) (no_box _) ?_
    · exact Ev.app (d := dTold) F.ok rfl (by simp [defs]) rfl (told_ok listedL (by decide) hs (by decide) hl5 h32).lo (R.le (by omega)) F.muOld' (.cons (by walk_at "ev") (.cons (by walk_at "ev") .nil rfl) rfl) rfl rfl
    generalize hs.filter (0 < ·) = h0 at gh
    refine Ex.ite (u := false) (fun h o F => ?_) (fun hu => by cases hu) (fun _ => ?_)
    · exact EvT.eq (EvT.is (p := .list (natsP h0)) (q := .none) (by walk_at "ev") (by walk_at "ev") rfl (.inl rfl) rfl) rfl
    generalize hmost : 1 + k = most at hm
    refine Ex.assign (p := .bool (lostOf h0 most)) (fun h o F => ?_) rfl (.inl rfl) (no_box _) ?_
    · exact Ev.app (d := dLost) F.ok rfl (by simp [defs]) rfl (fn_lost h0 most gh.1 (fun n hn => (gh.2 n hn).2) hm) R F.muOld' (.cons (by walk_at "ev") (.cons (by walk_at "ev") .nil rfl) rfl) rfl rfl
    refine Ex.pre (I' := Fm w true h₀ (fenv dLaw L) mu (σT (stH h0 most c6 0).1 most (stH h0 most c6 0).2) none) (fun h o F => F.weaken (by simp only [σT, σL, stH, List.forall_mem_cons]; exact ⟨rfl, rfl, rfl, rfl, rfl, rfl, by simp⟩)) ?_
    refine Ex.forr (p := .bool true) (qs := rngP 2) (fun i => σT (stH h0 most c6 i).1 most (stH h0 most c6 i).2) (fun _ => none) (fun h o F => It.range1 F.ok rfl rfl (by walk_at "ev") R.handled (by omega) rfl) (.inl rfl) (fun i => no_box _) (fun _ => rfl) ?_ (fun _ _ h => h) ?_
    · intro i q B hq
      exact turn_body R _ most _ (stH_good h0 most c6 gh hm i) hm
    · exact Ex.ret fun h o F => by walk_at "ev"
end

section
open PySem PySem.Calls PySem.W PyProof.Rows
set_option maxRecDepth 100000
set_option maxHeartbeats 4000000
variable {w : World}

/-- a code object's name, read off the written part -/
noncomputable def recIn (K : Frag) (c : Addr) (q : Str) : Bool := match K.lookup c with
  | some ⟨_, _, .fields vs, _⟩ => (match (vs[1]? : Option Value) with | some (.str q' _) => q' == q | _ => false)
  | _ => false
theorem rec_of {K : Frag} {h : Heap} {c : Addr} {q : Str} (X : K.In h) (e : recIn K c q = true) : h.CodeRec (.ref c) q := by
  unfold recIn at e
  split at e
  · rename_i vs _ hk
    split at e
    · rename_i q' t h1
      have := beq_iff_eq.mp e
      subst this
      exact ⟨c, _, vs, t, rfl, X _ _ hk, rfl, h1⟩
    · cases e
  · cases e

/-- what the written part must show -/
structure Shows (w : World) (K : Frag) : Prop where
  fn : ∀ d ∈ defs, K.lookup d.addr = some { cls := .type "function", data := .func d.data }
  cr : ∀ d ∈ defs, recIn K d.code d.name = true
  g : ∀ d ∈ defs, nsIn K mainGlobals d.name = some (some (.ref d.addr))
  fl : nsIn K mainGlobals "Flags" = some (some (.ref 36))
  bn : ∀ x ∈ bnames, nsIn K mainGlobals x.1 = some none
  bi : nsIn K mainGlobals "__builtins__" = some (some (.ref 4))
  pat : K.lookup 36 = some patObj
  ptup : K.lookup 35 = some patTup
  pdict : K.lookup 33 = some (patDict w.params)
  c1 : codeHdIn K 56 52 = true
  c2 : codeHdIn K 63 59 = true
theorem forall_defs {P : Def → Prop} (a1 : P dInt2AP) (a2 : P dParse) (a3 : P dI2D) (a4 : P dD2I) (a5 : P dIadd) (a6 : P dIand) (a7 : P dIlshift) (a8 : P dImod) (a9 : P dIrshift) (b1 : P dTold) (b2 : P dLost) (b3 : P dReply) (b4 : P dDrawn) (b5 : P dLaw) :
    ∀ d ∈ defs, P d := by
  simp only [defs, List.forall_mem_cons]
  exact ⟨a1, a2, a3, a4, a5, a6, a7, a8, a9, b1, b2, b3, b4, b5, fun x hx => by cases hx⟩
theorem forall_bnames {P : Str × Value → Prop} (a1 : P ("abs", .builtin "abs")) (a2 : P ("int", .type "int")) (a3 : P ("divmod", .builtin "divmod")) (a4 : P ("len", .builtin "len")) (a5 : P ("list", .type "list")) (a6 : P ("range", .type "range"))
    (a7 : P ("sum", .builtin "sum")) (a8 : P ("enumerate", .type "enumerate")) (a9 : P ("isinstance", .builtin "isinstance")) (b1 : P ("tuple", .type "tuple")) (b2 : P ("bytes", .type "bytes")) (b3 : P ("min", .builtin "min")) : ∀ x ∈ bnames, P x := by
  simp only [bnames, List.forall_mem_cons]
  exact ⟨a1, a2, a3, a4, a5, a6, a7, a8, a9, b1, b2, b3, fun x hx => by cases hx⟩
theorem boot_names : ∀ x ∈ bnames, bootBuiltins x.1 = some x.2 ∧ x.1 ≠ "__name__" := by
  simp only [bnames, List.forall_mem_cons]
  refine ⟨?_, ?_, ?_, ?_, ?_, ?_, ?_, ?_, ?_, ?_, ?_, ?_, fun x hx => by cases hx⟩ <;> exact ⟨by kernel_rfl, by decide⟩
theorem ok_of {K : Frag} {p : Program} {loose : List Str} {mean : ExcName → Option Value} {mg mb : Str → Option Value} {h : Heap} (X : K.In h) (T : Top p loose mean mg mb h) (S : Shows w K) (TB : ∀ P ∈ ([59, 52] : List Addr), h.get? P = some (tabObj #[])) : Ok w h where
  fn := fun d hd => X _ _ (S.fn d hd)
  cr := fun d hd => rec_of X (S.cr d hd)
  g := ⟨mg, T.g, fun d hd => mg_of X T.g (S.g d hd), mg_of X T.g S.fl, fun x hx => mg_none_of X T.g (S.bn x hx)⟩
  b := ⟨mb, T.b, fun x hx => (T.builtins _ (boot_names x hx).2).trans (boot_names x hx).1⟩
  gb := ⟨mg, T.g, mg_of X T.g S.bi⟩
  bmod := by
    obtain ⟨bm, ob, h1, h2, h3, h4⟩ := T.bmain
    have := h1.symm.trans (mg_of X T.g S.bi)
    cases this
    exact ⟨ob, h3, h4⟩
  nolimit := T.nolimit
  pat := X _ _ S.pat
  ptup := X _ _ S.ptup
  pdict := X _ _ S.pdict
  t1 := ⟨#[], (codeHd_of_K X S.c1).code (TB 52 (by simp)) trivial, (codeHd_of_K X S.c1).tab (TB 52 (by simp)), .inl rfl⟩
  t2 := ⟨#[], (codeHd_of_K X S.c2).code (TB 59 (by simp)) trivial, (codeHd_of_K X S.c2).tab (TB 59 (by simp)), .inl rfl⟩

theorem well_ints {P : Params} {h : Heap} {G : View} : ∀ (ns : List Int) (vs : List Value), WellAll P h vs (ofPys (ns.map PyData.int)) → RepL G (intsP ns) vs
  | [], _, .nil => .nil
  | n :: ns, _, .cons a b => by
    cases a
    exact .cons (.int _ _) (well_ints ns _ b)
theorem old_of {h h' : Heap} (o : Ok w h) (o' : Ok w h') (k : Keep TT h h') (TB : ∀ P ∈ ([59, 52] : List Addr), h.get? P = some (tabObj #[])) : OldK h h' := by
  obtain ⟨ps1, _, t1, _⟩ := o.t1
  obtain ⟨ps2, _, t2, _⟩ := o.t2
  obtain ⟨qs1, _, u1, _⟩ := o'.t1
  obtain ⟨qs2, _, u2, _⟩ := o'.t2
  have key : ∀ b ob, h.get? b = some ob → b ∈ TT → ob = tabObj #[] ∧ isCodeTable h b ∧ ∃ qs, h'.get? b = some (tabObj qs) := fun b ob e hb => by
    simp only [TT, List.mem_cons, List.not_mem_nil, or_false] at hb
    rcases hb with rfl | rfl
    · have e2 := TB 52 (by simp)
      rw [e] at e2; cases e2
      exact ⟨rfl, t1.isCodeTable, qs1, u1.2⟩
    · have e2 := TB 59 (by simp)
      rw [e] at e2; cases e2
      exact ⟨rfl, t2.isCodeTable, qs2, u2.2⟩
  refine ⟨fun b ob e => ?_, fun b ob e => ?_⟩
  · by_cases hb : b ∈ TT
    · obtain ⟨rfl, c, qs, hq⟩ := key b ob e hb
      exact .inr (.inl ⟨c, rfl, #[], qs, rfl, by rw [hq]; simp⟩)
    · exact .inl (k b ob hb e)
  · by_cases hb : b ∈ TT
    · obtain ⟨_, _, qs, hq⟩ := key b ob e hb
      exact ⟨_, hq⟩
    · exact ⟨_, k b ob hb e⟩

theorem close_law {s₀ s₁ : Shared} {l : Addr} {ns : List Int} {args : List WData} (o : Ok w s₁.heap) (TB : ∀ P ∈ ([59, 52] : List Addr), s₁.heap.get? P = some (tabObj #[])) (hg : s₁.gens = #[]) (hl : ns.length ≤ 63)
    (W : Well w.params s₁.heap (.ref l) (ofPy (PyData.list (ns.map PyData.int)))) :
    wpAny (model pw w) callerA (call (.ref 126) [.ref l]) (fun v s' => GoodWG PySem.Challenge.rw_xi0005_01.row.claim (classAt s₀.heap) (ExcName.means s₀.heap) args s₁ (.ok (.ret v)) s')
      (fun e s' => GoodWG PySem.Challenge.rw_xi0005_01.row.claim (classAt s₀.heap) (ExcName.means s₀.heap) args s₁ (.error e) s') s₁ := by
  have r : RepL (hid [] s₁.heap) [.list (intsP ns)] [.ref l] := by
    refine .cons ?_ .nil
    have W' : Well w.params s₁.heap (.ref l) (.list (ofPys (ns.map PyData.int))) := W
    cases W' with
    | @list _ vs _ e ws =>
      refine .list (vs := vs) (n := 0) (hid_of e (fun q => ?_) (by simp)) (well_ints ns vs ws)
      simp only [TT, List.mem_cons, List.not_mem_nil, or_false] at q
      rcases q with rfl | rfl
      · rw [TB 52 (by simp)] at e; cases e
      · rw [TB 59 (by simp)] at e; cases e
  have R : Room 10 callerA := ⟨rfl, by decide +kernel, by decide +kernel⟩
  refine wpAny_mono (fn_law (w := w) ns hl callerA s₁ [.ref l] [] R o MuOld.nil r) (fun v s' ⟨n, o', rv⟩ => ?_) fun _ _ f => f.elim
  cases rv.bool_inv
  refine ⟨.inl ⟨_, .bool true, [], rfl, fun cls => rfl, .bool true, (by wrow_post), fun _ => ⟨List.nodup_nil, fun a ha => by cases ha⟩⟩, old_of o o' n.keep TB, n.os, .of_eq (n.gens.trans hg)⟩
end
end
end Mine

open PySem PySem.W PyProof.Rows
set_option maxRecDepth 100000 in
set_option maxHeartbeats 8000000 in
theorem PySem.Challenge.cw_xi0005_01_holds : PySem.Challenge.rw_xi0005_01.Holds := by
  w_on
  o_law
  k_head
  (case hw => w_witness2)
  intro w s₀ s₁ mg mb G Y fa o pm cd doc dV kV ho hd hcd hD hmg hg args vals as hpre hlay hrd hwl hlo
  have X := km_in_of Y
  have TB := km_tabs_of Y
  clear Y
  clear hd hcd hD
  wrow_args hpre hlay hrd hwl hlo
  have e1 : mg (Str.ofString "law") = some (.ref 126) := mg_of X G.T.g (by kernel_rfl)
  have e2 : fa = 126 := by have := hmg.symm.trans e1; cases this; rfl
  clear hmg
  subst e2
  have O : Mine.Ok w s₁.heap := by
    refine Mine.ok_of X G.T ?_ TB
    refine ⟨?_, ?_, ?_, by kernel_rfl, ?_, by kernel_rfl, by kernel_rfl, by kernel_rfl, by kernel_rfl, by kernel_rfl, by kernel_rfl⟩
    · refine Mine.forall_defs ?_ ?_ ?_ ?_ ?_ ?_ ?_ ?_ ?_ ?_ ?_ ?_ ?_ ?_ <;> kernel_rfl
    · refine Mine.forall_defs ?_ ?_ ?_ ?_ ?_ ?_ ?_ ?_ ?_ ?_ ?_ ?_ ?_ ?_ <;> kernel_rfl
    · refine Mine.forall_defs ?_ ?_ ?_ ?_ ?_ ?_ ?_ ?_ ?_ ?_ ?_ ?_ ?_ ?_ <;> kernel_rfl
    · refine Mine.forall_bnames ?_ ?_ ?_ ?_ ?_ ?_ ?_ ?_ ?_ ?_ ?_ ?_ <;> kernel_rfl
  refine' Mine.close_law O TB hg ?q1 ?q2
  case q2 => assumption
  case q1 => omega
