import PyProof.Rows.All
import Wide.All
import OpenK.AllK
import Wide.FinOn
import PySem.Challenge.RW_xv0001_08
open PySem PySem.W PyProof.Rows PySem.Calls
set_option Elab.async false
set_option genSizeOf false
set_option compiler.extract_closed false
set_option backward.eqns.nonrecursive false
set_option bootstrap.genMatcherCode false
set_option maxRecDepth 100000
namespace Mine
theorem Gen {B : Prop} (h : ∀ G : Prop, (B → G) → G) : B := h B id
inductive V where
  | unb | other | none
  | int (i : Int)
  | bool (b : Bool)
  | str (s : Str)
  | ref (a : Addr)
  | cell (a : Addr)
noncomputable def absV : Value → V
  | .int i _ => .int i
  | .bool b => .bool b
  | .none => .none
  | .str s _ => .str s
  | .ref a => .ref a
  | _ => .other
inductive O where
  | list (vs : List V)
  | tup (vs : List V)
  | ro (vs : List V)
  | cell (v : V)
  | rng (a b c : Int)
  | dict (D : Obj → Prop)
  | tab
noncomputable abbrev HP := Addr → Option O
noncomputable def hset (h : HP) (a : Addr) (o : O) : HP := fun b => if b = a then some o else h b
theorem hset_same {h : HP} {a : Addr} {o : O} : hset h a o a = some o := by simp [hset]
theorem hset_ne {h : HP} {a b : Addr} {o : O} (e : b ≠ a) : hset h a o b = h b := by simp [hset, e]
theorem hset_none {h : HP} {a b : Addr} {o : O} : hset h a o b = Option.none ↔ b ≠ a ∧ h b = Option.none := by
  unfold hset; by_cases e : b = a <;> simp [e]
set_option genCtorIdx false in
inductive Ex where
  | own (c : String)
  | up (c : String)
noncomputable def Ex.cls : Ex → String
  | .own c => c
  | .up c => c
noncomputable abbrev XT := Ex → HP → Prop
noncomputable abbrev XC := String → HP → Prop
noncomputable abbrev upX (X : XC) : XT := fun e h => X e.cls h
noncomputable abbrev dnX (X : XT) : XC := fun c h => X (.up c) h
noncomputable abbrev cX (X : XC) : XT := fun e h => match e with | .up c => X c h | .own _ => False
set_option genInjectivity false
structure G where
  prog : Program
  w : World
  K : Frag
  p : Program
  loose : List Str
  mean : ExcName → Option Value
  mg : Str → Option Value
  mb : Str → Option Value
structure CP where
  C : Addr
  ksc : Scope
  kcl : List (Str × Addr)
  knames : List Str
  kl : List V
structure Cx where
  g : G
  A₀ : Around
  base : Heap
  h₀ : Heap
  outer : List Env
  L : Addr
  qn : Str
  fsc : Scope
  fa : Addr
  cd : Value
  cl : List (Str × Addr)
  cp : Option CP
set_option genInjectivity true
noncomputable abbrev Cx.fenv (c : Cx) : Env := envX c.qn c.fsc c.L c.fa c.cd c.cl
noncomputable abbrev Cx.env (c : Cx) : Env := match c.cp with
  | none => c.fenv
  | some k => compEnvC k.ksc k.kcl k.C c.fenv
noncomputable abbrev Cx.sc (c : Cx) : Scope := match c.cp with
  | none => c.fsc
  | some k => relabel k.ksc c.fenv
noncomputable abbrev Cx.A (c : Cx) : Around := c.A₀.deeper c.fenv
noncomputable abbrev Cx.fs (c : Cx) : List Addr := c.outer.filterMap (·.frame)
noncomputable abbrev Cx.at (c : Cx) (g : Heap) : Cx := { c with h₀ := g }
structure TopW (p : Program) (loose : List Str) (mean : ExcName → Option Value) (mg mb : Str → Option Value) (h : Heap) : Prop extends TopRead p loose mg mb h where
  nodigits : ∃ mc, h.Ns cStatics mc ∧ mc "sys.int_max_str_digits" = none
  bmain : ∃ bm ob, mg "__builtins__" = some (.ref bm) ∧ bm ≠ builtinsNs ∧ h.get? bm = some ob ∧ ob.cls = .type "module" ∧ ob.dict = some builtinsNs ∧ ob.data = .plain
theorem TopW.keeps {p : Program} {loose : List Str} {mean : ExcName → Option Value} {mg mb : Str → Option Value} {h h' : Heap} (T : TopW p loose mean mg mb h) (k : ∀ b o, h.get? b = some o → h'.get? b = some o) : TopW p loose mean mg mb h' :=
  ⟨T.toTopRead.keeps k, T.nodigits.imp fun _ x => ⟨x.1.keeps k, x.2⟩, let ⟨bm, ob, a, b, c, d⟩ := T.bmain; ⟨bm, ob, a, b, k _ _ c, d⟩⟩
structure TurnG (fs : List Addr) (g g' : Heap) (gn : Array GenState) : Prop extends KtsTurn fs g g' where
  bare : AllBare gn
theorem TurnG.refl {fs : List Addr} {g : Heap} {gn : Array GenState} (b : AllBare gn) : TurnG fs g g gn := ⟨KtsTurn.refl, b⟩
theorem TurnG.next {fs fs' : List Addr} {a b c x y : Heap} {g1 g2 : Array GenState} (T : TurnG fs a b g1) (T3 : KtsTurn fs b c) (T2 : TurnG fs' x y g2) : TurnG fs a c g2 := ⟨T.toKtsTurn.trans T3, T2.bare⟩
structure Cx.Ok (c : Cx) : Prop where
  below : Below c.A₀ c.base c.outer c.h₀
  inK : c.g.K.In c.base
  top : TopW c.g.p c.g.loose c.g.mean c.g.mg c.g.mb c.base
  dicts : KtsDicts c.fs c.h₀
  kind : c.sc.kind = .function
  fkind : c.fsc.kind = .function
  gen : c.fsc.isGenerator = false
  cor : c.fsc.isCoroutine = false
  seer : c.base.NoSeer
  tree : c.g.prog.given.tree = none
noncomputable def RepO : O → Obj → Prop
  | .list vs, o => ∃ items n, o = { cls := .type "list", data := .seq items n } ∧ items.toList.map absV = vs
  | .tup vs, o => ∃ items n, o = { cls := .type "tuple", data := .seq items n } ∧ items.toList.map absV = vs
  | .ro _, _ => False
  | .cell v, o => ∃ w : Option Value, o.data = .cell w ∧ (match w with | Option.none => v = .unb | some val => v ≠ .unb ∧ absV val = v)
  | .rng a b c, o => ∃ t u v, o = { cls := .type "range", dict := none, data := .fields #[.int a t, .int b u, .int c v], slots := #[] }
  | .dict D, o => D o
  | .tab, o => ∃ ps : Array Value, o = { cls := .none, data := .fields ps } ∧ TriplesOk ps.toList
noncomputable def HpRep (c : Cx) (hp : HP) (h : Heap) : Prop :=
  (∃ D : List Addr, ∀ a o, hp a = some o → a ∈ D) ∧
  ∀ a o, hp a = some o → match o with
    | .ro vs => ∃ items : Array Value, c.base.IsList a items ∧ items.toList.map absV = vs
    | o => ∃ ob, h.get? a = some ob ∧ RepO o ob ∧ a ≠ c.L ∧ c.h₀.get? a = none
noncomputable def Loc (cl : List (Str × Addr)) (names : List Str) (l : List V) (m : Str → Option Value) : Prop :=
  ∀ (i : Nat) x v, names[i]? = some x → l[i]? = some v → v ≠ .unb → (∃ a, v = .cell a ∧ cl.lookup x = some a) ∨ ((∀ a, v ≠ .cell a) ∧ ∃ val, m x = some val ∧ absV val = v)
noncomputable def NsObj (o : Obj) (m : Str → Option Value) : Prop := ∃ es ep, o.data = .dict es ep ∧ StrKeys es ∧ ∀ name, nsFind es name = m name
noncomputable def LocX (c : Cx) (names : List Str) (l : List V) (m : Str → Option Value) (fr : List (Addr × Obj)) : Prop := match c.cp with
  | none => Loc c.cl names l m
  | some k => Loc c.cl k.knames k.kl m ∧ ∃ oC m₂, (k.C, oC) ∈ fr ∧ NsObj oC m₂ ∧ Loc k.kcl names l m₂
theorem LocX.sub {c : Cx} {names l m fr fr'} (h : LocX c names l m fr) (hs : ∀ p ∈ fr, p ∈ fr') : LocX c names l m fr' := by
  unfold LocX at h ⊢
  cases e : c.cp with
  | none => rw [e] at h; exact h
  | some k => rw [e] at h; obtain ⟨a, oC, m₂, b, c⟩ := h; exact ⟨a, oC, m₂, hs _ b, c⟩
theorem LocX.any {c : Cx} {names l m fr fr'} (h : LocX c names l m fr) (hc : c.cp = none) : LocX c names l m fr' := by
  unfold LocX at *
  rw [hc] at h ⊢; exact h
theorem LocX.plain {c : Cx} {names l m fr} (hc : c.cp = none) : LocX c names l m fr ↔ Loc c.cl names l m := by
  unfold LocX; rw [hc]
noncomputable def Rep0 (c : Cx) (names : List Str) (l : List V) (hp : HP) (fr : List (Addr × Obj)) (h : Heap) : Prop :=
  ∃ m, Fr c.h₀ c.L h m ∧ LocX c names l m fr ∧ HpRep c hp h ∧ News c.h₀ c.L h fr ∧ ∀ p ∈ fr, hp p.1 = Option.none
noncomputable def Rep (c : Cx) (names : List Str) (l : List V) (hp : HP) (fr : List (Addr × Obj)) (h : Heap) (gn : Array GenState) : Prop :=
  ∃ g, TurnG c.fs c.h₀ g gn ∧ Rep0 (c.at g) names l hp fr h
noncomputable def HpN (c : Cx) (hp : HP) (news : List (Addr × Obj)) : Prop :=
  (∃ D : List Addr, ∀ a o, hp a = some o → a ∈ D) ∧
  ∀ a o, hp a = some o → match o with
    | .ro vs => ∃ items : Array Value, c.base.IsList a items ∧ items.toList.map absV = vs
    | o => ∃ ob, (a, ob) ∈ news ∧ RepO o ob
noncomputable def Ctl (h : Heap) (e : Addr) : Prop := ∃ oe vs, h.get? e = some oe ∧ oe.data = .fields vs ∧ vs[2]? = some .none
noncomputable def Raised (c : Cx) (names : List Str) (l : List V) (hp : HP) (fr : List (Addr × Obj)) (x : Ex) (e : Addr) (h' : Heap) (gn : Array GenState) : Prop :=
  (∀ p ∈ fr, hp p.1 = Option.none) ∧ ∃ g m hh, TurnG c.fs c.h₀ g gn ∧ Fr g c.L hh m ∧ LocX c names l m fr ∧
    ((∃ cls t vs news, x = .up cls ∧ hh.UpToSlots h' ∧ RaisedS c.base hh (c.fenv :: c.outer) e (.type cls) t vs (news ++ fr) h' ∧ HpN c hp news ∧ Ctl h' e) ∨
     (∃ cls vs news, x = .own cls ∧ Heap.MadeExcOf hh h' e (.type cls) vs ∧ HpN c hp news ∧ News g c.L hh (news ++ fr)))
noncomputable def XP (c : Cx) (names : List Str) (l : List V) (fr : List (Addr × Obj)) (X : XT) (E : Value → Shared → Prop) (s : Shared) : Prop :=
  ∀ cls e hp' h' tk' gn', X cls hp' → Raised c names l hp' fr cls e h' gn' → E (.ref e) { s with heap := h', toks := tk', gens := gn' }
theorem XP.call {c : Cx} {names : List Str} {l : List V} {fr : List (Addr × Obj)} {X : XT} {E : Value → Shared → Prop} {s s' : Shared} (h : XP c names l fr X E s) (e : ∀ h' tk' gn', ({ s' with heap := h', toks := tk', gens := gn' } : Shared) = { s with heap := h', toks := tk', gens := gn' } := by intros; rfl) : XP c names l fr (cX (dnX X)) E s' := by
  intro x e' hp' h' tk' gn' hx hr
  rw [e]
  cases x with
  | up c => exact h (.up c) e' hp' h' tk' gn' hx hr
  | own c => exact hx.elim
noncomputable def W {α β : Type} (rel : β → α → Prop) (c : Cx) (names : List Str) (l : List V) (t : Sem α) (hp : HP) (Q : β → HP → Prop) (X : XT) : Prop :=
  ∀ (fr : List (Addr × Obj)) (s : Shared) (P : α → Shared → Prop) (E : Value → Shared → Prop), Rep c names l hp fr s.heap s.gens →
    (∀ b a hp' h' tk' gn', Q b hp' → rel b a → Rep c names l hp' fr h' gn' → P a { s with heap := h', toks := tk', gens := gn' }) →
    XP c names l fr X E s →
    wpAny (model c.g.prog c.g.w) c.A t P E s
noncomputable def rV (v : V) (val : Value) : Prop := absV val = v
noncomputable def rVs (vs : List V) (vals : List Value) : Prop := vals.map absV = vs
noncomputable def rB (b b' : Bool) : Prop := b' = b
noncomputable def room (c : Cx) (d : Nat) : Prop := c.A.depth + d + 200 < recursionLimit ∧ c.A.units + 8 * d + 200 < cLine
noncomputable def WC (c : Cx) (names : List Str) (l : List V) (k : Code) (hp : HP) (Q : V → HP → Prop) (X : XT) : Prop :=
  ∀ (fr : List (Addr × Obj)) (s : Shared) (P : Value → Shared → Prop) (E : Value → Shared → Prop), Rep c names l hp fr s.heap s.gens →
    (∀ b a hp' h' tk' gn', Q b hp' → rV b a → Rep c names l hp' fr h' gn' → P a { s with heap := h', toks := tk', gens := gn' }) →
    XP c names l fr X E s →
    codeAny (model c.g.prog c.g.w) c.A k (fun r s' => match r with | .ok (.ret v) => P v s' | .ok _ => False | .error e => E e s') s
theorem WC.w {c : Cx} {names l f pos kw hp Q X} (h : WC c names l (.call f ⟨pos, kw⟩) hp Q X) : W rV c names l (call f pos kw) hp Q X := fun fr s P E R hP hX => wpAny_call (h fr s P E R hP hX)
noncomputable def Calls (g : G) (d : Nat) (f : Addr) (args : List V) (kw : List (Str × V)) (hp : HP) (Q : V → HP → Prop) (X : XC) : Prop :=
  ∀ (c : Cx), c.g = g → c.Ok → c.A₀.handled = none → room c d → ∀ (names : List Str) (l : List V) (vals : List Value) (kvals : List (Str × Value)),
    vals.map absV = args → (kvals.map fun p => (p.1, absV p.2)) = kw →
    WC c names l (.call (.ref f) ⟨vals, kvals⟩) hp Q (cX X)
set_option genInjectivity false
inductive BOp where
  | add | sub | mul | fdiv | mod | pow | shl | shr | band
  deriving DecidableEq
inductive COp where
  | eq | ne | lt | le | gt | ge
  deriving DecidableEq
inductive Kd where
  | int | bool | list | tuple
  deriving DecidableEq
set_option genCtorIdx false in
inductive ME where
  | var (i : Nat)
  | int (i : Int)
  | bool (b : Bool)
  | none
  | bin (o : BOp) (a b : ME)
  | neg (a : ME)
  | cmp (o : COp) (a b : ME)
  | chain (a : ME) (o : COp) (b : ME) (p : COp) (d : ME)
  | isn (a : ME) (pos : Bool)
  | not (a : ME)
  | and (a b : ME)
  | or (a b : ME)
  | ite (a b d : ME)
  | call (f : Nat) (as : ME)
  | nil
  | cons (a b : ME)
  | tup (as : ME)
  | list (as : ME)
  | idx (a i : ME)
  | len (a : ME)
  | toInt (a : ME)
  | isi (a : ME) (k : Kd)
  | tv (a : ME)
  | slcF (a i : ME)
  | listOf (a : ME)
  | pop0 (a : ME)
  | app (a b : ME)
  | rev (a : ME)
  | bitlen (a : ME)
  | mn (a b : ME)
  | abs (a : ME)
  | dvm (a b : ME)
  | pow3 (a b e : ME)
  | cvar (i : Nat)
  | rng (a b e : ME)
  | sorted (a : ME)
  | compR (lo hi st cond elt : ME) (caps : List Nat)
  | compL (it cond elt : ME) (caps : List Nat)
  | inl (a b : ME) (pos : Bool)
  | sumG (P : Nat) (hi : ME) (a b e : Nat)
  | mx4 (a b e f : ME)
  | dct
  | dget (a k e : ME)
set_option genCtorIdx false in
inductive MH where
  | retB (b : Bool)
  | retN
  | inc (i : Nat) (k : Int)
  | retS (x : String)
set_option genCtorIdx false in
inductive TK where
  | expr | ret
  | asg (i : Nat)
set_option genCtorIdx false in
inductive MS where
  | skip
  | seq (a b : MS)
  | asg (i : Nat) (e : ME)
  | asgN (is : List Nat) (es : ME)
  | unp (is : List Nat) (e : ME)
  | aug (i : Nat) (o : BOp) (e : ME)
  | setI (a i e : ME)
  | ite (c : ME) (a b : MS)
  | whil (c : ME) (a b : MS)
  | forR (i : Nat) (lo hi st : ME) (a : MS)
  | forL (i : Nat) (e : ME) (a : MS)
  | ret (e : ME)
  | brk
  | expr (e : ME)
  | stop
  | casg (i : Nat) (e : ME)
  | asgC (is : List (Nat × Bool)) (es : ME)
  | unpC (is : List (Nat × Bool)) (e : ME)
set_option genInjectivity true
noncomputable def truV : V → HP → (Bool → Prop) → Prop
  | .int i, _, Q => Q (i != 0)
  | .bool b, _, Q => Q b
  | _, _, _ => False
noncomputable def intOk (i j : Int) : BOp → Prop
  | .mul => IntMulOk i j
  | .fdiv => j ≠ 0
  | .mod => j ≠ 0
  | .pow => 0 ≤ j ∧ (Builtin.Int.intBits i : Int) * j ≤ 2 ^ 27
  | .shl => 0 ≤ j ∧ (Builtin.Int.intBits i : Int) + j ≤ 2 ^ 27
  | .shr => 0 ≤ j
  | _ => True
noncomputable def intOp (i j : Int) : BOp → Int
  | .add => i + j
  | .sub => i - j
  | .mul => i * j
  | .fdiv => i.fdiv j
  | .mod => i.fmod j
  | .pow => i ^ j.toNat
  | .shl => i * 2 ^ j.toNat
  | .shr => i.fdiv (2 ^ j.toNat)
  | .band => Builtin.bitAnd i j
noncomputable def itemsOf : Option O → Option (List V)
  | some (.list vs) => some vs
  | some (.ro vs) => some vs
  | some (.tup vs) => some vs
  | some (.cell _) => Option.none
  | some (.rng _ _ _) => Option.none
  | some (.dict _) => Option.none
  | some .tab => Option.none
  | Option.none => Option.none
noncomputable def rngL (a b c : Int) : List V := (List.range (Builtin.Range.rangeSize a b c).toNat).map fun (k : Nat) => V.int (a + k * c)
noncomputable def iterOf : Option O → Option (List V)
  | some (.rng a b c) => if Builtin.Range.small a b c then some (rngL a b c) else Option.none
  | o => itemsOf o
noncomputable def listAt : Option O → Option (List V)
  | some (.list vs) => some vs
  | some (.ro vs) => some vs
  | _ => Option.none
noncomputable def eqI : V → V → Option Bool
  | .int i, .int j => some (i == j)
  | .none, .none => some true
  | .int _, .none => some false
  | .none, .int _ => some false
  | _, _ => Option.none
noncomputable def orO : Option Bool → Option Bool → Option Bool
  | some b, some c => some (b || c)
  | _, _ => Option.none
theorem orO_some {a b : Option Bool} {t : Bool} (h : orO a b = some t) : ∃ p q, a = some p ∧ b = some q ∧ (p || q) = t := by
  cases a with
  | none => injection h
  | some p => cases b with
    | none => injection h
    | some q => injection h with h; exact ⟨p, q, rfl, rfl, h⟩
noncomputable def inV (x : V) : List V → Option Bool
  | [] => some false
  | y :: r => orO (eqI y x) (inV x r)
noncomputable def newV (hp : HP) (o : O) (Q : V → HP → Prop) : Prop := ∀ r, hp r = Option.none → Q (.ref r) (hset hp r o)
noncomputable def binV (o : BOp) (v w : V) (hp : HP) (Q : V → HP → Prop) : Prop :=
  match v, w with
  | .int i, .int j => intOk i j o ∧ Q (.int (intOp i j o)) hp
  | .ref a, .ref b => match o with
    | .add => ∃ vs ws, listAt (hp a) = some vs ∧ listAt (hp b) = some ws ∧ vs.length + ws.length ≤ sizeLine ∧ newV hp (.list (vs ++ ws)) Q
    | _ => False
  | _, _ => False
noncomputable def augV (o : BOp) (v w : V) (hp : HP) (Q : V → HP → Prop) : Prop :=
  match v, w with
  | .int i, .int j => intOk i j o ∧ Q (.int (intOp i j o)) hp
  | _, _ => False
noncomputable def cmpI (i j : Int) : COp → Bool
  | .eq => decide (i = j)
  | .ne => !decide (i = j)
  | .lt => decide (i < j)
  | .le => decide (i ≤ j)
  | .gt => decide (j < i)
  | .ge => decide (j ≤ i)
mutual
inductive Rd (hp : HP) : V → PyData → Prop
  | int (i : Int) : Rd hp (.int i) (.int i)
  | bool (b : Bool) : Rd hp (.bool b) (.bool b)
  | none : Rd hp .none .none
  | str (x : Str) : Rd hp (.str x) (.str x)
  | list {a : Addr} {vs : List V} {ds : List PyData} : hp a = some (.list vs) → RdL hp vs ds → Rd hp (.ref a) (.list ds)
  | ro {a : Addr} {vs : List V} {ds : List PyData} : hp a = some (.ro vs) → RdL hp vs ds → Rd hp (.ref a) (.list ds)
  | tup {a : Addr} {vs : List V} {ds : List PyData} : hp a = some (.tup vs) → RdL hp vs ds → Rd hp (.ref a) (.tuple ds)
inductive RdL (hp : HP) : List V → List PyData → Prop
  | nil : RdL hp [] []
  | cons {v : V} {d : PyData} {vs : List V} {ds : List PyData} : Rd hp v d → RdL hp vs ds → RdL hp (v :: vs) (d :: ds)
end
noncomputable def isInts : V → V → Option (Int × Int)
  | .int i, .int j => some (i, j)
  | _, _ => Option.none
noncomputable def cmpV (o : COp) (v w : V) (hp : HP) (Q : Bool → Prop) : Prop :=
  match isInts v w with
  | some p => Q (cmpI p.1 p.2 o)
  | Option.none => match o with
    | .eq => ∃ d e, Rd hp v d ∧ Rd hp w e ∧ SeqAt.shaped d = true ∧ SeqAt.shaped e = true ∧ Q (PyData.eqv d e)
    | .ne => ∃ d e, Rd hp v d ∧ Rd hp w e ∧ SeqAt.shaped d = true ∧ SeqAt.shaped e = true ∧ Q (!PyData.eqv d e)
    | _ => False
noncomputable def isNone : V → Option Bool
  | .none => some true
  | .int _ => some false
  | .bool _ => some false
  | .ref _ => some false
  | _ => Option.none
noncomputable def isiV (v : V) (hp : HP) (k : Kd) (Q : Bool → Prop) : Prop :=
  match v, k with
  | .int _, .int => Q true
  | .int _, _ => Q false
  | .bool _, .int => Q true
  | .bool _, .bool => Q true
  | .bool _, _ => Q false
  | .ref a, k => (∃ vs, hp a = some (.list vs) ∧ Q (decide (k = .list))) ∨ (∃ vs, hp a = some (.tup vs) ∧ Q (decide (k = .tuple)))
  | _, _ => False
noncomputable def lget : List V → Nat → V
  | [], _ => .unb
  | v :: _, 0 => v
  | _ :: r, n + 1 => lget r n
noncomputable def lset : List V → Nat → V → List V
  | [], _, _ => []
  | _ :: r, 0, v => v :: r
  | x :: r, n + 1, v => x :: lset r n v
noncomputable def lsetN : List V → List Nat → List V → List V
  | l, i :: is, v :: vs => lsetN (lset l i v) is vs
  | l, _, _ => l
noncomputable def varV (l : List V) (i : Nat) (Q : V → Prop) : Prop :=
  match lget l i with
  | .unb => False
  | .cell _ => False
  | v => Q v
noncomputable def idxV (v w : V) (hp : HP) (Q : V → Prop) : Prop :=
  match v, w with
  | .ref a, .int k => ∃ vs x, itemsOf (hp a) = some vs ∧ (vs.length : Int) < 2 ^ 62 ∧ -(vs.length : Int) ≤ k ∧ k < vs.length ∧
      vs[(if k < 0 then k + vs.length else k).toNat]? = some x ∧ Q x
  | _, _ => False
noncomputable def lenV (v : V) (hp : HP) (Q : Int → Prop) : Prop :=
  match v with
  | .ref a => ∃ vs, itemsOf (hp a) = some vs ∧ (vs.length : Int) < 2 ^ 62 ∧ Q vs.length
  | .str x => (x.length : Int) < 2 ^ 62 ∧ Q x.length
  | _ => False
noncomputable def slcV (from' : Bool) (v w : V) (hp : HP) (Q : V → HP → Prop) : Prop :=
  match v, w with
  | .ref a, .int k => ∃ vs, listAt (hp a) = some vs ∧ vs.length ≤ sizeLine ∧ 0 ≤ k ∧ newV hp (.list (match from' with | true => vs.drop k.toNat | false => vs.take k.toNat)) Q
  | _, _ => False
noncomputable def lstV (v : V) (hp : HP) (Q : V → HP → Prop) : Prop :=
  match v with
  | .ref a => ∃ vs, iterOf (hp a) = some vs ∧ vs.length ≤ sizeLine ∧ newV hp (.list vs) Q
  | _ => False
noncomputable def pop0V (v : V) (hp : HP) (Q : V → HP → Prop) : Prop :=
  match v with
  | .ref a => ∃ x vs, hp a = some (.list (x :: vs)) ∧ vs.length < sizeLine ∧ Q x (hset hp a (.list vs))
  | _ => False
noncomputable def isLV (v : V) (hp : HP) (P : Prop) : Prop :=
  match v with
  | .ref a => (∃ vs, hp a = some (.list vs)) ∧ P
  | _ => False
noncomputable def appV (v x : V) (hp : HP) (Q : V → HP → Prop) : Prop :=
  match v with
  | .ref a => ∃ vs, hp a = some (.list vs) ∧ vs.length ≤ sizeLine ∧ Q .none (hset hp a (.list (vs ++ [x])))
  | _ => False
noncomputable def revV (v : V) (hp : HP) (Q : V → HP → Prop) : Prop :=
  match v with
  | .ref a => ∃ vs, hp a = some (.list vs) ∧ vs.length ≤ sizeLine ∧ Q .none (hset hp a (.list vs.reverse))
  | _ => False
noncomputable def cvarV (l : List V) (i : Nat) (hp : HP) (Q : V → Prop) : Prop :=
  match lget l i with
  | .cell a => ∃ v, hp a = some (.cell v) ∧ v ≠ .unb ∧ Q v
  | _ => False
noncomputable def cellL (l : List V) (h : HP) (i : Nat) (xs : List Int) : Prop := match lget l i with
  | .cell c => ∃ r, h c = some (.cell (.ref r)) ∧ listAt (h r) = some (xs.map .int) ∧ xs.length < 2 ^ 62
  | _ => False
noncomputable def sumGQ (l : List V) (P a b e : Nat) (Q : V → HP → Prop) (lo n st : Int) (h1 : HP) : Prop :=
  lo = 0 ∧ st = 1 ∧ 0 ≤ n ∧ n < 2 ^ 62 ∧ h1 P = some .tab ∧ ∃ as bs es : List Int, cellL l h1 a as ∧ cellL l h1 b bs ∧ cellL l h1 e es ∧ n.toNat ≤ as.length ∧ n.toNat ≤ bs.length ∧ n.toNat ≤ es.length ∧
    (∀ k < n.toNat, IntMulOk (as.getD k 0) (bs.getD k 0) ∧ IntMulOk (as.getD k 0 * bs.getD k 0) (es.getD k 0)) ∧ Q (.int (preSum (fun k => as.getD k 0 * bs.getD k 0 * es.getD k 0) n.toNat)) h1
noncomputable def capsV (l : List V) : List Nat → List V
  | [] => []
  | i :: r => lget l i :: capsV l r
noncomputable def cellsB (l : List V) : List Nat → Bool
  | [] => true
  | i :: r => (match lget l i with | .cell _ => true | _ => false) && cellsB l r
noncomputable def compI (test : List V → HP → (Bool → HP → Prop) → Prop) (elt : List V → HP → (V → HP → Prop) → Prop) (new : V → (List V → Prop) → HP → Prop) (vs : List V) (hp : HP) (K : HP → Prop) (Q : V → HP → Prop) : Prop :=
  ∃ I : Nat → List V → HP → Prop, I 0 [] hp ∧
    (∀ k x acc h, vs[k]? = some x → I k acc h → K h ∧ acc.length ≤ sizeLine ∧ new x (fun l => test l h fun t h1 =>
      (t = true → elt l h1 fun v h2 => I (k + 1) (acc ++ [v]) h2) ∧ (t = false → I (k + 1) acc h1)) h) ∧
    (∀ acc h, I vs.length acc h → K h ∧ newV h (.list acc) Q)
noncomputable def dictP (g : G) (c : List (Int × Int)) (o : Obj) : Prop := ∃ kvs, o.IsDictOf (PySem.intKind g.prog g.w) kvs ∧ PyProof.V.FlatPairs PyData.int kvs (kdfD c)
noncomputable def sortPQ (h1 : HP) (r : Addr) (Q : V → HP → Prop) : Prop :=
  ∃ rs : List (Addr × Int × Int), listAt (h1 r) = some (rs.map fun q => .ref q.1) ∧ 2 ≤ rs.length ∧ rs.length < 64 ∧ (∀ q ∈ rs, h1 q.1 = some (.tup [.int q.2.1, .int q.2.2]) ∧ q.2.2.natAbs < 500) ∧
    ∀ rs' : List (Addr × Int × Int), rs'.Perm rs → rs'.Pairwise (fun a b => a.2.1 * 1000 + a.2.2 ≤ b.2.1 * 1000 + b.2.2) → newV h1 (.list (rs'.map fun q => .ref q.1)) Q
mutual
noncomputable def ev (g : G) (d : Nat) : ME → List V → HP → (V → HP → Prop) → (XT) → Prop
  | .var i, l, hp, Q, _ => varV l i fun v => Q v hp
  | .int i, _, hp, Q, _ => Q (.int i) hp
  | .bool b, _, hp, Q, _ => Q (.bool b) hp
  | .none, _, hp, Q, _ => Q .none hp
  | .bin o a b, l, hp, Q, X => ev g d a l hp (fun v h1 => ev g d b l h1 (fun w h2 => binV o v w h2 Q) X) X
  | .neg a, l, hp, Q, X => ev g d a l hp (fun v h1 => match v with | .int i => Q (.int (-i)) h1 | _ => False) X
  | .cmp o a b, l, hp, Q, X => ev g d a l hp (fun v h1 => ev g d b l h1 (fun w h2 => cmpV o v w h2 fun t => Q (.bool t) h2) X) X
  | .chain a o b p e, l, hp, Q, X => ev g d a l hp (fun v h1 => ev g d b l h1 (fun w h2 => cmpV o v w h2 fun t =>
      (t = true → ev g d e l h2 (fun u h3 => cmpV p w u h3 fun t' => Q (.bool t') h3) X) ∧ (t = false → Q (.bool false) h2)) X) X
  | .isn a pos, l, hp, Q, X => ev g d a l hp (fun v h1 => match isNone v with | some b => Q (.bool (b == pos)) h1 | Option.none => False) X
  | .not a, l, hp, Q, X => ev g d a l hp (fun v h1 => truV v h1 fun t => Q (.bool (!t)) h1) X
  | .and a b, l, hp, Q, X => ev g d a l hp (fun v h1 => truV v h1 fun t => (t = true → ev g d b l h1 Q X) ∧ (t = false → Q v h1)) X
  | .or a b, l, hp, Q, X => ev g d a l hp (fun v h1 => truV v h1 fun t => (t = true → Q v h1) ∧ (t = false → ev g d b l h1 Q X)) X
  | .ite a b e, l, hp, Q, X => evT g d a l hp (fun t h1 => (t = true → ev g d b l h1 Q X) ∧ (t = false → ev g d e l h1 Q X)) X
  | .call f as, l, hp, Q, X => evs g d as l hp (fun vs h1 => Calls g d f vs [] h1 Q (dnX X)) X
  | .tup as, l, hp, Q, X => evs g d as l hp (fun vs h1 => vs.length ≤ sizeLine ∧ ∀ r, h1 r = Option.none → Q (.ref r) (hset h1 r (.tup vs))) X
  | .list as, l, hp, Q, X => evs g d as l hp (fun vs h1 => vs.length ≤ sizeLine ∧ ∀ r, h1 r = Option.none → Q (.ref r) (hset h1 r (.list vs))) X
  | .idx a i, l, hp, Q, X => ev g d a l hp (fun v h1 => ev g d i l h1 (fun w h2 => idxV v w h2 fun x => Q x h2) X) X
  | .len a, l, hp, Q, X => ev g d a l hp (fun v h1 => lenV v h1 fun n => Q (.int n) h1) X
  | .toInt a, l, hp, Q, X => ev g d a l hp (fun v h1 => match v with | .int i => Q (.int i) h1 | _ => False) X
  | .isi a k, l, hp, Q, X => ev g d a l hp (fun v h1 => isiV v h1 k fun t => Q (.bool t) h1) X
  | .nil, _, _, _, _ => False
  | .cons _ _, _, _, _, _ => False
  | .tv _, _, _, _, _ => False
  | .slcF a i, l, hp, Q, X => ev g d a l hp (fun v h1 => ev g d i l h1 (fun w h2 => slcV true v w h2 Q) X) X
  | .listOf a, l, hp, Q, X => ev g d a l hp (fun v h1 => lstV v h1 Q) X
  | .pop0 a, l, hp, Q, X => ev g d a l hp (fun v h1 => pop0V v h1 Q) X
  | .app a b, l, hp, Q, X => ev g d a l hp (fun v h1 => isLV v h1 (ev g d b l h1 (fun w h2 => appV v w h2 Q) X)) X
  | .rev a, l, hp, Q, X => ev g d a l hp (fun v h1 => revV v h1 Q) X
  | .bitlen a, l, hp, Q, X => ev g d a l hp (fun v h1 => match v with | .int i => Q (.int (Builtin.Int.intBits i)) h1 | _ => False) X
  | .mn a b, l, hp, Q, X => ev g d a l hp (fun v h1 => ev g d b l h1 (fun w h2 => match v, w with | .int i, .int j => Q (.int (if j < i then j else i)) h2 | _, _ => False) X) X
  | .abs a, l, hp, Q, X => ev g d a l hp (fun v h1 => match v with | .int i => Q (.int (if i < 0 then -i else i)) h1 | _ => False) X
  | .dvm a b, l, hp, Q, X => ev g d a l hp (fun v h1 => ev g d b l h1 (fun w h2 => match v, w with | .int i, .int j => j ≠ 0 ∧ newV h2 (.tup [.int (i.fdiv j), .int (i.fmod j)]) Q | _, _ => False) X) X
  | .cvar i, l, hp, Q, _ => cvarV l i hp fun v => Q v hp
  | .compR lo hi st cond elt caps, l, hp, Q, X => cellsB l caps = true ∧ ev g d lo l hp (fun x h1 => ev g d hi l h1 (fun y h2 => ev g d st l h2 (fun z h3 =>
      match x, y, z with
      | .int x, .int y, .int z => z ≠ 0 ∧ Builtin.Range.small x y z = true ∧ compI (fun l h R => evT g d cond l h R fun _ _ => False) (fun l h R => ev g d elt l h R fun _ _ => False) (fun v R _ => R (v :: capsV l caps))
          ((List.range (Builtin.Range.rangeSize x y z).toNat).map fun (k : Nat) => V.int (x + k * z)) h3 (fun _ => True) Q
      | _, _, _ => False) X) X) X
  | .compL it cond elt caps, l, hp, Q, X => cellsB l caps = true ∧ ev g d it l hp (fun v h1 => match v with
      | .ref r => ∃ vs, listAt (h1 r) = some vs ∧ (vs.length : Int) < 2 ^ 62 ∧ compI (fun l h R => evT g d cond l h R fun _ _ => False) (fun l h R => ev g d elt l h R fun _ _ => False) (fun v R _ => R (v :: capsV l caps)) vs h1 (fun h => h r = h1 r) Q
      | _ => False) X
  | .rng a b e, l, hp, Q, X => ev g d a l hp (fun v h1 => ev g d b l h1 (fun w h2 => ev g d e l h2 (fun u h3 => match v, w, u with
      | .int i, .int j, .int k => k ≠ 0 ∧ newV h3 (.rng i j k) Q | _, _, _ => False) X) X) X
  | .sorted a, l, hp, Q, X => ev g d a l hp (fun v h1 => match v with
      | .ref r => sortPQ h1 r Q | _ => False) X
  | .mx4 a b e f, l, hp, Q, X => ev g d a l hp (fun v h1 => ev g d b l h1 (fun w h2 => ev g d e l h2 (fun u h3 => ev g d f l h3 (fun t h4 => match isInts v w, isInts u t with
      | some p, some q => ∀ M, M ∈ [p.1, p.2, q.1, q.2] → (∀ x ∈ [p.1, p.2, q.1, q.2], x ≤ M) → Q (.int M) h4 | _, _ => False) X) X) X) X
  | .dct, _, hp, Q, _ => newV hp (.dict (dictP g [])) Q
  | .dget a b e, l, hp, Q, X => ev g d a l hp (fun v h1 => match v with
      | .ref r => (∃ c, h1 r = some (.dict (dictP g c))) ∧ ev g d b l h1 (fun w h2 => ev g d e l h2 (fun u h3 => match isInts w u with
        | some p => ∃ c, h3 r = some (.dict (dictP g c)) ∧ Q (.int (kdfLook c p.1 p.2)) h3 | Option.none => False) X) X
      | _ => False) X
  | .inl a b pos, l, hp, Q, X => ev g d a l hp (fun v h1 => ev g d b l h1 (fun w h2 => match w with
      | .ref r => ∃ vs t, itemsOf (h2 r) = some vs ∧ inV v vs = some t ∧ Q (.bool (t == pos)) h2 | _ => False) X) X
  | .sumG P hi a b e, l, hp, Q, X => cellsB l [a, b, e] = true ∧ ev g d hi l hp (fun v h1 => match v with
      | .int n => sumGQ l P a b e Q 0 n 1 h1
      | _ => False) X
  | .pow3 a b e, l, hp, Q, X => ev g d a l hp (fun v h1 => ev g d b l h1 (fun w h2 => ev g d e l h2 (fun u h3 => match v, w, u with
      | .int i, .int j, .int k => 0 ≤ j ∧ 0 < k ∧ Q (.int ((i ^ j.toNat).fmod k)) h3 | _, _, _ => False) X) X) X
termination_by structural m => m
noncomputable def evs (g : G) (d : Nat) : ME → List V → HP → (List V → HP → Prop) → (XT) → Prop
  | .nil, _, hp, Q, _ => Q [] hp
  | .cons a b, l, hp, Q, X => ev g d a l hp (fun v h1 => evs g d b l h1 (fun vs h2 => Q (v :: vs) h2) X) X
  | _, _, _, _, _ => False
termination_by structural m => m
noncomputable def evT (g : G) (d : Nat) : ME → List V → HP → (Bool → HP → Prop) → (XT) → Prop
  | .cmp o a b, l, hp, Q, X => ev g d a l hp (fun v h1 => ev g d b l h1 (fun w h2 => cmpV o v w h2 fun t => Q t h2) X) X
  | .chain a o b p e, l, hp, Q, X => ev g d a l hp (fun v h1 => ev g d b l h1 (fun w h2 => cmpV o v w h2 fun t =>
      (t = true → ev g d e l h2 (fun u h3 => cmpV p w u h3 fun t' => Q t' h3) X) ∧ (t = false → Q false h2)) X) X
  | .not a, l, hp, Q, X => evT g d a l hp (fun t h1 => Q (!t) h1) X
  | .and a b, l, hp, Q, X => evT g d a l hp (fun t h1 => (t = true → evT g d b l h1 Q X) ∧ (t = false → Q false h1)) X
  | .or a b, l, hp, Q, X => evT g d a l hp (fun t h1 => (t = true → Q true h1) ∧ (t = false → evT g d b l h1 Q X)) X
  | .ite a b e, l, hp, Q, X => evT g d a l hp (fun t h1 => (t = true → evT g d b l h1 Q X) ∧ (t = false → evT g d e l h1 Q X)) X
  | .tv a, l, hp, Q, X => ev g d a l hp (fun v h1 => truV v h1 fun t => Q t h1) X
  | _, _, _, _, _ => False
termination_by structural m => m
end
set_option genCtorIdx false in
inductive Out where
  | next | brk
  | ret (v : V)
noncomputable def setV (g : G) (v w x : V) (hp : HP) (Q : HP → Prop) : Prop :=
  match v, w with
  | .ref a, .int k => (∃ vs, hp a = some (.list vs) ∧ 0 ≤ k ∧ k < vs.length ∧ (vs.length : Int) < 2 ^ 62 ∧ Q (hset hp a (.list (vs.set k.toNat x)))) ∨ ∃ c y, hp a = some (.dict (dictP g c)) ∧ x = .int y ∧ c.length ≤ 16777216 ∧ Q (hset hp a (.dict (dictP g (kdfPut c k y))))
  | _, _ => False
noncomputable def unpL (v : V) (n : Nat) (hp : HP) (Q : List V → Prop) : Prop :=
  match v with
  | .ref a => ∃ vs, itemsOf (hp a) = some vs ∧ vs.length = n ∧ Q vs
  | _ => False
noncomputable def putN (l : List V) : List (Nat × Bool) → List V → HP → (List V → HP → Prop) → Prop
  | [], [], hp, Q => Q l hp
  | (i, false) :: is, v :: vs, hp, Q => putN (lset l i v) is vs hp Q
  | (i, true) :: is, v :: vs, hp, Q => match lget l i with
    | .cell a => (∃ w, hp a = some (.cell w)) ∧ putN l is vs (hset hp a (.cell v)) Q
    | _ => False
  | _, _, _, _ => False
theorem putN_cell {l : List V} {i : Nat} {is : List (Nat × Bool)} {v : V} {vs : List V} {hp : HP} {Q : List V → HP → Prop} (h : putN l ((i, true) :: is) (v :: vs) hp Q) :
    ∃ a, lget l i = .cell a ∧ (∃ w, hp a = some (.cell w)) ∧ putN l is vs (hset hp a (.cell v)) Q := by
  have h : (match lget l i with
    | .cell a => (∃ w, hp a = some (.cell w)) ∧ putN l is vs (hset hp a (.cell v)) Q
    | _ => False) := h
  revert h
  cases lget l i <;> intro h <;> first | exact h.elim | exact ⟨_, rfl, h.1, h.2⟩
noncomputable def forIn (turn : List V → HP → (Out → List V → HP → Prop) → Prop) (i : Nat) (vs : List V) (l : List V) (hp : HP) (K : HP → Prop) (Q : Out → List V → HP → Prop) : Prop :=
  ∃ I : Nat → List V → HP → Prop, I 0 l hp ∧
    (∀ k x l h, vs[k]? = some x → I k l h → K h ∧ turn (lset l i x) h (fun o l2 h2 => match o with
      | .next => I (k + 1) l2 h2 | .brk => Q .next l2 h2 | .ret v => Q (.ret v) l2 h2)) ∧
    (∀ l h, I vs.length l h → K h ∧ Q .next l h)
noncomputable def whileI (test : List V → HP → (Bool → HP → Prop) → Prop) (turn els : List V → HP → (Out → List V → HP → Prop) → Prop) (l : List V) (hp : HP) (Q : Out → List V → HP → Prop) : Prop :=
  ∃ I : Nat → List V → HP → Prop, (∃ n, I n l hp) ∧ ∀ n l h, I n l h → test l h (fun t h1 =>
    (t = true → turn l h1 (fun o l2 h2 => match o with
      | .next => ∃ m, m < n ∧ I m l2 h2 | .brk => Q .next l2 h2 | .ret v => Q (.ret v) l2 h2)) ∧
    (t = false → els l h1 Q))
noncomputable def sameLen : List V → List Nat → Bool
  | [], [] => true
  | _ :: r, _ :: t => sameLen r t
  | _, _ => false
theorem sameLen_len : ∀ {vs : List V} {is : List Nat}, sameLen vs is = true → vs.length = is.length
  | [], [], _ => rfl
  | [], _ :: _, h => by cases h
  | _ :: _, [], h => by cases h
  | _ :: r, _ :: t, h => by simp only [List.length_cons]; rw [sameLen_len (vs := r) (is := t) h]
noncomputable abbrev noX : XT := fun _ _ => False
noncomputable def exec (g : G) (d : Nat) : MS → List V → HP → (Out → List V → HP → Prop) → (XT) → Prop
  | .skip, l, hp, Q, _ => Q .next l hp
  | .seq a b, l, hp, Q, X => exec g d a l hp (fun o l1 h1 => match o with | .next => exec g d b l1 h1 Q X | .brk => Q .brk l1 h1 | .ret v => Q (.ret v) l1 h1) X
  | .asg i e, l, hp, Q, X => ev g d e l hp (fun v h1 => Q .next (lset l i v) h1) X
  | .asgN is es, l, hp, Q, X => evs g d es l hp (fun vs h1 => match sameLen vs is with | true => Q .next (lsetN l is vs) h1 | false => False) X
  | .unp is e, l, hp, Q, X => ev g d e l hp (fun v h1 => unpL v is.length h1 fun vs => Q .next (lsetN l is vs) h1) X
  | .aug i o e, l, hp, Q, X => varV l i fun v => ev g d e l hp (fun w h1 => augV o v w h1 fun r h2 => Q .next (lset l i r) h2) X
  | .setI a i e, l, hp, Q, X => ev g d e l hp (fun x h1 => ev g d a l h1 (fun v h2 => ev g d i l h2 (fun w h3 => setV g v w x h3 fun h4 => Q .next l h4) X) X) X
  | .ite c a b, l, hp, Q, X => evT g d c l hp (fun t h1 => (t = true → exec g d a l h1 Q X) ∧ (t = false → exec g d b l h1 Q X)) X
  | .whil c a b, l, hp, Q, _ => whileI (fun l h R => evT g d c l h R noX) (fun l h R => exec g d a l h R noX) (fun l h R => exec g d b l h R noX) l hp Q
  | .forR i lo hi st a, l, hp, Q, X => ev g d lo l hp (fun x h1 => ev g d hi l h1 (fun y h2 => ev g d st l h2 (fun z h3 =>
      match x, y, z with
      | .int x, .int y, .int z => z ≠ 0 ∧ Builtin.Range.small x y z = true ∧ forIn (fun l h R => exec g d a l h R noX) i ((List.range (Builtin.Range.rangeSize x y z).toNat).map fun (k : Nat) => V.int (x + k * z)) l h3 (fun _ => True) Q
      | _, _, _ => False) X) X) X
  | .forL i e a, l, hp, Q, X => ev g d e l hp (fun v h1 => match v with
      | .ref r => ∃ vs, iterOf (h1 r) = some vs ∧ (vs.length : Int) < 2 ^ 62 ∧ forIn (fun l h R => exec g d a l h R noX) i vs l h1 (fun h => h r = h1 r) Q
      | _ => False) X
  | .ret e, l, hp, Q, X => ev g d e l hp (fun v h1 => Q (.ret v) l h1) X
  | .brk, l, hp, Q, _ => Q .brk l hp
  | .expr e, l, hp, Q, X => ev g d e l hp (fun _ h1 => Q .next l h1) X
  | .stop, _, _, _, _ => False
  | .casg i e, l, hp, Q, X => ev g d e l hp (fun v h1 => match lget l i with | .cell a => (∃ w, h1 a = some (.cell w)) ∧ Q .next l (hset h1 a (.cell v)) | _ => False) X
  | .asgC is es, l, hp, Q, X => evs g d es l hp (fun vs h1 => putN l is vs h1 fun l2 h2 => Q .next l2 h2) X
  | .unpC is e, l, hp, Q, X => ev g d e l hp (fun v h1 => unpL v is.length h1 fun vs => putN l is vs h1 fun l2 h2 => Q .next l2 h2) X
set_option genInjectivity false in
structure Fx where
  g : G
  gt : List (Str × Addr)
  bt : List Str
  names : List Str
  sc : Scope
  top : Bool
  tr : Bool
  cold : Bool
  hot : Bool
  gc : Option (Addr × Addr)
noncomputable def catchOk (g : G) : Prop := (Str.ofString "ValueError") ∉ startupNames ∧ (Str.ofString "ValueError") ∉ g.loose ∧ (Str.ofString "ValueError") ∉ (recsOf g.p).map (·.name) ∧
  (Str.ofString "ValueError") ∉ (litsOf g.p).map (·.1) ∧ (Str.ofString "ValueError") ∉ (clssOf g.p g.loose).map (·.name)
set_option genInjectivity false in
structure Fx.Ok (F : Fx) : Prop where
  gt : ∀ x a, F.gt.lookup x = some a → nsIn F.g.K mainGlobals x = some (some (.ref a)) ∧ keepIn F.g.K (.ref a) = true
  bt : ∀ x ∈ F.bt, nsIn F.g.K mainGlobals x = some Option.none
  nd : F.names.Nodup
  tr : F.tr = true → catchOk F.g
noncomputable def HotC (c : Cx) : Prop := ∃ e oe vs, c.A₀.handled = some (.ref e) ∧ e ∉ c.fs ∧ c.h₀.get? e = some oe ∧ oe.data = .fields vs ∧ vs[2]? = some .none
noncomputable def SCF (c : Cx) (F : Fx) : Prop := c.sc = F.sc ∧ (F.top = true → c.cp = none) ∧ (F.top = true → (F.sc.names.all fun y => !(y.2 == .cell)) = true → c.cl = []) ∧ (F.cold = true → c.A₀.handled = none) ∧ (F.hot = true → HotC c) ∧ (∀ q, F.gc = some q → c.cd = .ref q.1)
noncomputable def SE (F : Fx) (e : Expr) (m : ME) : Prop := ∀ c d, F.Ok → c.g = F.g → SCF c F → c.Ok → room c d → ∀ l hp Q X, ev F.g d m l hp Q X → W rV c F.names l (eval e c.env) hp Q X
noncomputable def ST (F : Fx) (e : Expr) (m : ME) : Prop := ∀ c d, F.Ok → c.g = F.g → SCF c F → c.Ok → room c d → ∀ l hp Q X, evT F.g d m l hp Q X → ∀ whole, whole = eval e c.env → W rB c F.names l (isTrue e c.env whole) hp Q X
noncomputable def SEs (F : Fx) (es : List Expr) (m : ME) : Prop := ∀ c d, F.Ok → c.g = F.g → SCF c F → c.Ok → room c d → ∀ l hp Q X, evs F.g d m l hp Q X → ∀ pos, W rVs c F.names l (spliced (backTo pos (starEach es c.env))) hp Q X
noncomputable def notStar : Expr → Bool
  | .Starred .. => false
  | _ => true
theorem starEach_plain : ∀ (es : List Expr) (env : Env), es.all notStar = true → starEach es env = es.map fun e => (false, eval e env)
  | [], _, _ => rfl
  | e :: r, env, h => by
    simp only [List.all_cons, Bool.and_eq_true] at h
    have ih := starEach_plain r env h.2
    have : starEach (e :: r) env = (false, eval e env) :: starEach r env := by
      cases e <;> first | rfl | (exact absurd h.1 (by simp [notStar]))
    rw [this, ih]; rfl
theorem starEach_cons {e : Expr} {r : List Expr} {env : Env} (h : notStar e = true) : starEach (e :: r) env = (false, eval e env) :: starEach r env := by
  cases e <;> first | rfl | (exact absurd h (by simp [notStar]))
theorem backTo_any {es : List Expr} {env : Env} {pos : Pos} (h : es.all notStar = true) : (backTo pos (starEach es env)).any (·.1) = false := by
  rw [starEach_plain es env h]
  induction es with
  | nil => rfl
  | cons e r ih =>
    simp only [List.all_cons, Bool.and_eq_true] at h
    have := ih h.2
    simp only [backTo, List.map_cons, List.any_cons, Bool.false_or] at this ⊢
    exact this
theorem lget_some {v : V} : ∀ {l : List V} {i : Nat}, lget l i = v → v ≠ .unb → l[i]? = some v
  | [], _, h, n => absurd h.symm n
  | _ :: _, 0, h, _ => congrArg some h
  | _ :: r, _ + 1, h, n => lget_some (l := r) h n
theorem Cx.env_scope (c : Cx) : c.env.scope = c.sc := by unfold Cx.env Cx.sc; cases c.cp <;> rfl
theorem Cx.env_globals (c : Cx) : c.env.globals = mainGlobals := by unfold Cx.env; cases c.cp <;> rfl
theorem Cx.env_builtins (c : Cx) : c.env.builtins = builtinsNs := by unfold Cx.env; cases c.cp <;> rfl
theorem Cx.env_kindOf (c : Cx) (x : Str) : c.env.kindOf x = c.sc.names.lookup x := by rw [← c.env_scope]; rfl
theorem Cx.env_plain {c : Cx} (h : c.cp = none) : c.env = c.fenv := by unfold Cx.env; rw [h]
theorem Cx.sc_plain {c : Cx} (h : c.cp = none) : c.sc = c.fsc := by unfold Cx.sc; rw [h]
theorem Cx.Ok.turn {c : Cx} (ok : c.Ok) {g : Heap} (T : TurnG c.fs c.h₀ g gn) : (c.at g).Ok :=
  ⟨⟨ok.below.stack, fun b o e => T.other b o (ok.below.stays b o e) (fun hm => by rw [(ok.below.frames.mem hm).1] at e; cases e), ok.below.frames.of_keeps fun b o e _ => by
    obtain ⟨sl, hs⟩ := T.up e
    exact ⟨_, hs, rfl⟩⟩, ok.inK, ok.top, ok.dicts.turn T.toKtsTurn, ok.kind, ok.fkind, ok.gen, ok.cor, ok.seer, ok.tree⟩
theorem Rep.locals {c : Cx} {names l hp fr h} {i : Nat} {x : Str} {v : V} (R : Rep c names l hp fr h gn) (hx : names[i]? = some x) (hv : lget l i = v) (hn : v ≠ .unb) (hc : ∀ a, v ≠ .cell a) :
    ∃ m val, h.Ns c.env.locals m ∧ m x = some val ∧ absV val = v := by
  refine Gen fun Gq9 back => ?_
  rcases R with ⟨g, T, m, F, lo, _, N, _⟩
  refine back ?_
  clear back
  clear Gq9
  unfold LocX at lo
  unfold Cx.env
  cases e : c.cp with
  | none =>
    rw [e] at lo
    rcases lo i x v hx (lget_some hv hn) hn with ⟨a, q, _⟩ | ⟨_, val, a, b⟩
    · exact absurd q (hc a)
    · exact ⟨m, val, F.ns, a, b⟩
  | some k =>
    rw [e] at lo
    refine Gen fun Gq9 back => ?_
    rcases lo with ⟨_, oC, m₂, hm, ⟨es, ep, hd, r⟩, lo⟩
    refine back ?_
    clear back
    clear Gq9
    rcases lo i x v hx (lget_some hv hn) hn with ⟨a, q, _⟩ | ⟨_, val, a, b⟩
    · exact absurd q (hc a)
    · exact ⟨m₂, val, ⟨oC, es, ep, (N _ hm).1, hd, r⟩, a, b⟩
theorem Rep.cellOf {c : Cx} {names l hp fr h} {i : Nat} {x : Str} {a : Addr} (R : Rep c names l hp fr h gn) (hx : names[i]? = some x) (hv : lget l i = .cell a) : c.env.cells.lookup x = some a := by
  refine Gen fun Gq9 back => ?_
  rcases R with ⟨g, T, m, F, lo, _, N, _⟩
  refine back ?_
  clear back
  clear Gq9
  unfold LocX at lo
  unfold Cx.env
  cases e : c.cp with
  | none =>
    rw [e] at lo
    rcases lo i x _ hx (lget_some hv (fun q => nomatch q)) (fun q => nomatch q) with ⟨b, q, r⟩ | ⟨q, _⟩
    · cases q; exact r
    · exact absurd rfl (q a)
  | some k =>
    rw [e] at lo
    refine Gen fun Gq9 back => ?_
    rcases lo with ⟨_, oC, m₂, hm, _, lo⟩
    refine back ?_
    clear back
    clear Gq9
    rcases lo i x _ hx (lget_some hv (fun q => nomatch q)) (fun q => nomatch q) with ⟨b, q, r⟩ | ⟨q, _⟩
    · cases q; exact r
    · exact absurd rfl (q a)
theorem varV_iff {l : List V} {i : Nat} {Q : V → Prop} : varV l i Q ↔ (lget l i ≠ .unb ∧ ∀ a, lget l i ≠ .cell a) ∧ Q (lget l i) := by
  unfold varV; cases lget l i <;> simp
theorem Rep.keep {c : Cx} {names l hp fr h} (ok : c.Ok) (R : Rep c names l hp fr h gn) : ∀ b o, c.base.get? b = some o → h.get? b = some o :=
  let ⟨_, T, _, F, _⟩ := R; fun b o e => F.keep b o ((ok.turn T).below.stays b o e)
section
variable {F : Fx}
theorem se_var {x : Str} {pos : Pos} {i : Nat} (hi : F.names[i]? = some x) (hk : F.sc.names.lookup x = some .local) (hd : (x == ("__debug__" : Str)) = false) : SE F (.Name x pos) (.var i) := by
  intro c d FO hg hsc ok rm l hp Q X hev fr s P E R hP hX
  obtain ⟨⟨hn, hc⟩, hQ⟩ := varV_iff.mp hev
  refine Gen fun Gq9 back => ?_
  rcases R.locals hi rfl hn hc with ⟨m, val, hns, hm, hab⟩
  refine back ?_
  clear back
  clear Gq9
  exact wpAny_Name (wpAny_loadName_local (by rw [c.env_scope]; exact ok.kind) (by rw [c.env_kindOf, hsc.1]; exact hk) hns hm (hP _ val hp s.heap s.toks s.gens hQ hab R)) hd
theorem se_cvar {x : Str} {pos : Pos} {i : Nat} (hi : F.names[i]? = some x) (hk : F.sc.names.lookup x = some .cell) (hd : (x == ("__debug__" : Str)) = false) : SE F (.Name x pos) (.cvar i) := by
  intro c d FO hg hsc ok rm l hp Q X hev fr s P E R hP hX
  have hev : cvarV l i hp fun v => Q v hp := hev
  unfold cvarV at hev
  cases e : lget l i with
  | cell a =>
    rw [e] at hev
    refine Gen fun Gq9 back => ?_
    rcases hev with ⟨v, h1, hn, hQ⟩
    refine back ?_
    clear back
    clear Gq9
    have hcl := R.cellOf hi e
    refine Gen fun Gq9 back => ?_
    rcases id R with ⟨g, T, m, Fm, lo, H, N, D⟩
    refine back ?_
    clear back
    clear Gq9
    refine Gen fun Gq9 back => ?_
    rcases H.2 a _ h1 with ⟨ob, ho, ⟨w, hd', hw⟩, _⟩
    refine back ?_
    clear back
    clear Gq9
    cases w with
    | none => exact absurd hw hn
    | some val => exact wpAny_Name (wpAny_loadName_cell (by rw [c.env_scope]; exact ok.kind) (by rw [c.env_kindOf, hsc.1]; exact hk) hcl ⟨ob, ho, hd'⟩ (hP _ val hp s.heap s.toks s.gens hQ hw.2 R)) hd
  | _ => rw [e] at hev; exact hev.elim
theorem se_int {i : Int} {k pos} : SE F (.Constant (.int i) k pos) (.int i) := by
  intro c d FO hg hsc ok rm l hp Q X hev fr s P E R hP hX
  exact wpAny_Constant_int (hP _ _ hp s.heap _ _ hev rfl R)
theorem se_bool {b : Bool} {k pos} : SE F (.Constant (.bool b) k pos) (.bool b) := by
  intro c d FO hg hsc ok rm l hp Q X hev fr s P E R hP hX
  exact Constant_bool (hP _ _ hp s.heap s.toks s.gens hev rfl R)
noncomputable def opOf : Operator → Option BOp
  | .Add => some .add | .Sub => some .sub | .Mult => some .mul | .FloorDiv => some .fdiv | .Mod => some .mod
  | .Pow => some .pow | .LShift => some .shl | .RShift => some .shr | .BitAnd => some .band | _ => Option.none
theorem absV_int {v : Value} {i : Int} (h : absV v = .int i) : ∃ t, v = .int i t := by
  cases v with
  | int j t => exact ⟨t, congrArg (Value.int · t) (V.int.inj h)⟩
  | _ => injection h
theorem absV_bool {v : Value} {b : Bool} (h : absV v = .bool b) : v = .bool b := by
  cases v with
  | bool c => exact congrArg Value.bool (V.bool.inj h)
  | _ => injection h
theorem absV_str {v : Value} {x : Str} (h : absV v = .str x) : ∃ t, v = .str x t := by
  cases v with
  | str j t => exact ⟨t, congrArg (Value.str · t) (V.str.inj h)⟩
  | _ => injection h
theorem absV_ref {v : Value} {a : Addr} (h : absV v = .ref a) : v = .ref a := by
  cases v with
  | ref j => exact congrArg Value.ref (V.ref.inj h)
  | _ => injection h
theorem absV_none {v : Value} (h : absV v = .none) : v = .none := by
  cases v with
  | none => rfl
  | _ => injection h
theorem pylong {c : Cx} {names l hp fr} {s : Shared} {d : Nat} (ok : c.Ok) (rm : room c d) (R : Rep c names l hp fr s.heap s.gens) : PylongRoom (model c.g.prog c.g.w) c.A s := by
  refine PylongRoom.of (ok.top.nolimit.keeps (R.keep ok)) ?_ (SeerAt.of (ok.seer.keeps (R.keep ok)) ok.tree (Around.frames_deeper ok.below.stack) ok.gen ok.cor rfl rfl)
  have h1 := rm.1
  have : Builtin.pylongFrames = 100 := rfl
  (first | lia | omega)
theorem se_neg {a : Expr} {pos} {ma : ME} (ha : SE F a ma) : SE F (.UnaryOp .USub a pos) (.neg ma) := by
  intro c d FO hg hsc ok rm l hp Q X hev fr s P E R hP hX
  refine UnaryOp_ (ha c d FO hg hsc ok rm l hp _ X hev fr s _ E R (fun v x h1 hh tk gn hq hx R1 => ?_) hX)
  cases v with
  | int i =>
    obtain ⟨t, rfl⟩ := absV_int hx
    exact PyProof.Rows.neg_int (hP _ _ h1 hh _ _ hq rfl R1)
  | _ => exact hq.elim
theorem truS {c : Cx} {names : List Str} {l : List V} {hp : HP} {X : XT} {Q : Bool → HP → Prop} {v : V} {x : Value} (h : truV v hp fun t => Q t hp) (hx : absV x = v) : W rB c names l (truthy x) hp Q X := by
  intro fr s P E R hP hX
  cases v with
  | int i =>
    obtain ⟨t, rfl⟩ := absV_int hx
    exact PyProof.Rows.truthy_int (hP _ _ hp s.heap s.toks s.gens h rfl R)
  | bool b =>
    cases absV_bool hx
    exact wpAny_truthy_bool (hP _ _ hp s.heap s.toks s.gens h rfl R)
  | _ => exact h.elim
noncomputable def cmpOf : CmpOp → Option COp
  | .Eq => some .eq | .NotEq => some .ne | .Lt => some .lt | .LtE => some .le | .Gt => some .gt | .GtE => some .ge | _ => Option.none
theorem se_ite {a b e : Expr} {pos} {ma mb me : ME} (ha : ST F a ma) (hb : SE F b mb) (he : SE F e me) : SE F (.IfExp a b e pos) (.ite ma mb me) := by
  intro c d FO hg hsc ok rm l hp Q X hev fr s P E R hP hX
  refine IfExp_ (ha c d FO hg hsc ok rm l hp _ X hev _ rfl fr s _ E R (fun v x h1 hh tk gn hq hx R1 => ?_) hX)
  cases hx
  cases v with
  | true => rw [if_pos rfl]; exact hb c d FO hg hsc ok rm l h1 _ X (hq.1 rfl) fr _ _ E R1 hP hX
  | false => rw [if_neg (by decide)]; exact he c d FO hg hsc ok rm l h1 _ X (hq.2 rfl) fr _ _ E R1 hP hX
theorem se_not {a : Expr} {pos} {ma : ME} (ha : SE F a ma) (hun : ∀ M A v s (Q : Value → Shared → Prop) E, wpAny M A (truthy v) (fun t s' => Q (.bool (!t)) s') E s → wpAny M A (unaryOp .Not v) Q E s) : SE F (.UnaryOp .Not a pos) (.not ma) := by
  intro c d FO hg hsc ok rm l hp Q X hev fr s P E R hP hX
  refine UnaryOp_ (ha c d FO hg hsc ok rm l hp _ X hev fr s _ E R (fun v x h1 hh tk gn hq hx R1 => ?_) hX)
  refine hun _ _ _ _ _ _ (truS (Q := fun t h => Q (.bool (!t)) h) hq hx fr _ _ E R1 (fun u z h3 hh3 tk3 gn3 hq3 hz R3 => ?_) hX)
  cases hz
  exact hP _ _ h3 hh3 tk3 gn3 hq3 rfl R3
theorem st_not {a : Expr} {pos} {ma : ME} (ha : ST F a ma) : ST F (.UnaryOp .Not a pos) (.not ma) := by
  intro c d FO hg hsc ok rm l hp Q X hev whole hw fr s P E R hP hX
  refine isTrue_not (ha c d FO hg hsc ok rm l hp _ X hev _ rfl fr s _ E R (fun v x h1 hh tk gn hq hx R1 => ?_) hX)
  cases hx
  exact hP _ _ h1 hh tk gn hq rfl R1
theorem st_ite {a b e : Expr} {pos} {ma mb me : ME} (ha : ST F a ma) (hb : ST F b mb) (he : ST F e me) : ST F (.IfExp a b e pos) (.ite ma mb me) := by
  intro c d FO hg hsc ok rm l hp Q X hev whole hw fr s P E R hP hX
  refine isTrue_IfExp (ha c d FO hg hsc ok rm l hp _ X hev _ rfl fr s _ E R (fun v x h1 hh tk gn hq hx R1 => ?_) hX)
  cases hx
  cases v with
  | true => rw [if_pos rfl]; exact hb c d FO hg hsc ok rm l h1 _ X (hq.1 rfl) _ rfl fr _ _ E R1 hP hX
  | false => rw [if_neg (by decide)]; exact he c d FO hg hsc ok rm l h1 _ X (hq.2 rfl) _ rfl fr _ _ E R1 hP hX
noncomputable def plainTest : Expr → Bool
  | .BoolOp .. => false
  | .UnaryOp .. => false
  | .Compare .. => false
  | .IfExp .. => false
  | .NamedExpr .. => false
  | _ => true
theorem st_tv {e : Expr} {m : ME} (hp : plainTest e = true) (h : SE F e m) : ST F e (.tv m) := by
  intro c d FO hg hsc ok rm l hp' Q X hev whole hw fr s P E R hP hX
  subst hw
  refine isTrue_plain (h c d FO hg hsc ok rm l hp' _ X hev fr s _ E R (fun v x h1 hh tk gn hq hx R1 => ?_) hX) ?_
  · exact truS (Q := Q) hq hx fr _ _ E R1 hP hX
  · cases e <;> first | rfl | (exact absurd hp (by simp [plainTest]))
end
theorem base_lt {c : Cx} (ok : c.Ok) {m h a} {items : Array Value} (Fm : Fr c.h₀ c.L h m) (hb : c.base.IsList a items) : a < h.objs.size := by
  obtain ⟨o, ho, _⟩ := hb
  exact Heap.lt_size (Fm.keep _ _ (ok.below.stays _ _ ho))
noncomputable def isNew : Option O → Bool
  | some (.ro _) => false
  | some _ => true
  | Option.none => false
noncomputable def pick (hp : HP) (h : Heap) (a : Addr) : Option (Addr × Obj) := cond (isNew (hp a)) ((h.get? a).map (a, ·)) Option.none
theorem HpRep.news {c : Cx} {hp : HP} {h : Heap} (H : HpRep c hp h) : ∃ news, News c.h₀ c.L h news ∧ HpN c hp news := by
  obtain ⟨⟨D, hD⟩, hH⟩ := H
  refine ⟨D.filterMap (pick hp h), fun p hp' => ?_, ⟨D, hD⟩, fun a o ho => ?_⟩
  · obtain ⟨a, ha, e⟩ := List.mem_filterMap.mp hp'
    unfold pick at e
    cases q : hp a with
    | none => rw [q] at e; injection e
    | some o =>
      have := hH a _ q
      rw [q] at e
      cases o with
      | ro vs => injection e
      | _ =>
        refine Gen fun Gq9 back => ?_
        rcases this with ⟨ob, h1, _, h3, h4⟩
        refine back ?_
        clear back
        clear Gq9
        rw [h1] at e
        cases e
        exact ⟨h1, h3, h4⟩
  · have := hH a o ho
    have pk : ∀ ob, isNew (some o) = true → h.get? a = some ob → (a, ob) ∈ D.filterMap (pick hp h) := fun ob q h1 => List.mem_filterMap.mpr ⟨a, hD a _ ho, by unfold pick; rw [ho, q, h1]; rfl⟩
    cases o with
    | ro vs => exact this
    | _ =>
      refine Gen fun Gq9 back => ?_
      rcases this with ⟨ob, h1, h2, _⟩
      refine back ?_
      clear back
      clear Gq9
      exact ⟨ob, pk ob rfl h1, h2⟩
theorem HpN.rep {c : Cx} {hp : HP} {h : Heap} {news : List (Addr × Obj)} (H : HpN c hp news) (N : News c.h₀ c.L h news) : HpRep c hp h := by
  refine ⟨H.1, fun a o ho => ?_⟩
  have := H.2 a o ho
  cases o with
  | ro vs => exact this
  | list vs => obtain ⟨ob, h1, h2⟩ := this; exact ⟨ob, (N _ h1).1, h2, (N _ h1).2⟩
  | tup vs => obtain ⟨ob, h1, h2⟩ := this; exact ⟨ob, (N _ h1).1, h2, (N _ h1).2⟩
  | cell vs => obtain ⟨ob, h1, h2⟩ := this; exact ⟨ob, (N _ h1).1, h2, (N _ h1).2⟩
  | rng _ _ _ => obtain ⟨ob, h1, h2⟩ := this; exact ⟨ob, (N _ h1).1, h2, (N _ h1).2⟩
  | dict _ => obtain ⟨ob, h1, h2⟩ := this; exact ⟨ob, (N _ h1).1, h2, (N _ h1).2⟩
  | tab => obtain ⟨ob, h1, h2⟩ := this; exact ⟨ob, (N _ h1).1, h2, (N _ h1).2⟩
theorem Rep0.parts {c : Cx} {names l hp fr h} (R : Rep0 c names l hp fr h) :
    ∃ m news, Fr c.h₀ c.L h m ∧ LocX c names l m fr ∧ HpN c hp news ∧ News c.h₀ c.L h (news ++ fr) ∧ ∀ p ∈ fr, hp p.1 = Option.none := by
  refine Gen fun Gq9 back => ?_
  rcases R with ⟨m, Fm, lo, H, N, D⟩
  refine back ?_
  clear back
  clear Gq9
  obtain ⟨news, N1, H1⟩ := H.news
  exact ⟨m, news, Fm, lo, H1, N1.append N, D⟩
theorem Rep.parts {c : Cx} {names l hp fr h} (R : Rep c names l hp fr h gn) :
    ∃ g m news, TurnG c.fs c.h₀ g gn ∧ Fr g c.L h m ∧ LocX c names l m fr ∧ HpN c hp news ∧ News g c.L h (news ++ fr) ∧ ∀ p ∈ fr, hp p.1 = Option.none := by
  obtain ⟨g, T, R⟩ := R
  obtain ⟨m, news, r⟩ := R.parts
  exact ⟨g, m, news, T, r⟩
theorem News.left' {h₀ h : Heap} {L : Addr} {a b : List (Addr × Obj)} (N : News h₀ L h (a ++ b)) : News h₀ L h a := fun p hp => N p (List.mem_append_left _ hp)
theorem News.right' {h₀ h : Heap} {L : Addr} {a b : List (Addr × Obj)} (N : News h₀ L h (a ++ b)) : News h₀ L h b := fun p hp => N p (List.mem_append_right _ hp)
theorem Rep.of {c : Cx} {names l hp fr h m news g} (T : TurnG c.fs c.h₀ g gn) (Fm : Fr g c.L h m) (lo : LocX c names l m fr) (H : HpN c hp news) (N : News g c.L h (news ++ fr)) (D : ∀ p ∈ fr, hp p.1 = Option.none) : Rep c names l hp fr h gn :=
  ⟨g, T, m, Fm, lo, HpN.rep (c := c.at g) H (News.left' N), News.right' N, D⟩
theorem Rep.fresh {c : Cx} {names l hp fr h} (ok : c.Ok) (R : Rep c names l hp fr h gn) : hp h.objs.size = Option.none ∧ ∀ p ∈ fr, p.1 ≠ h.objs.size := by
  refine Gen fun Gq9 back => ?_
  rcases R with ⟨g, T, m, Fm, lo, H, N, D⟩
  refine back ?_
  clear back
  clear Gq9
  have ok := ok.turn T
  constructor
  · cases q : hp h.objs.size with
    | none => rfl
    | some o =>
      have := H.2 _ _ q
      cases o with
      | ro vs => obtain ⟨it, hb, _⟩ := this; exact absurd (base_lt ok Fm hb) (Nat.lt_irrefl _)
      | list vs => obtain ⟨ob, h1, _⟩ := this; exact absurd (Heap.lt_size h1) (Nat.lt_irrefl _)
      | tup vs => obtain ⟨ob, h1, _⟩ := this; exact absurd (Heap.lt_size h1) (Nat.lt_irrefl _)
      | cell vs => obtain ⟨ob, h1, _⟩ := this; exact absurd (Heap.lt_size h1) (Nat.lt_irrefl _)
      | rng _ _ _ => obtain ⟨ob, h1, _⟩ := this; exact absurd (Heap.lt_size h1) (Nat.lt_irrefl _)
      | dict _ => obtain ⟨ob, h1, _⟩ := this; exact absurd (Heap.lt_size h1) (Nat.lt_irrefl _)
      | tab => obtain ⟨ob, h1, _⟩ := this; exact absurd (Heap.lt_size h1) (Nat.lt_irrefl _)
  · intro p hp' e
    exact absurd (Heap.lt_size (N p hp').1) (by rw [e]; exact Nat.lt_irrefl _)
theorem Rep.more {c : Cx} {names : List Str} {l : List V} {hp : HP} {fr news : List (Addr × Obj)} {h' : Heap} {m : Str → Option Value} {r : Addr} {ob : Obj} {o : O} {g : Heap} (T : TurnG c.fs c.h₀ g gn) (Fm : Fr g c.L h' m) (lo : LocX c names l m fr) (H : HpN c hp news) (N : News g c.L h' ((r, ob) :: (news ++ fr)))
    (D : ∀ p ∈ fr, hp p.1 = Option.none) (hr : hp r = Option.none) (hf : ∀ p ∈ fr, p.1 ≠ r) (ho : RepO o ob) : Rep c names l (hset hp r o) fr h' gn := by
  refine Rep.of (news := (r, ob) :: news) T Fm lo ⟨?_, fun a x hx => ?_⟩ N fun p hp' => hset_none.mpr ⟨hf p hp', D p hp'⟩
  · obtain ⟨Dm, hD⟩ := H.1
    refine ⟨r :: Dm, fun a x hx => ?_⟩
    by_cases e : a = r
    · exact e ▸ .head _
    · rw [hset_ne e] at hx; exact .tail _ (hD a x hx)
  · by_cases e : a = r
    · subst e
      rw [hset_same] at hx
      cases hx
      cases o with
      | ro vs => exact ho.elim
      | list vs => exact ⟨ob, .head _, ho⟩
      | tup vs => exact ⟨ob, .head _, ho⟩
      | cell vs => exact ⟨ob, .head _, ho⟩
      | rng _ _ _ => exact ⟨ob, .head _, ho⟩
      | dict _ => exact ⟨ob, .head _, ho⟩
      | tab => exact ⟨ob, .head _, ho⟩
    · rw [hset_ne e] at hx
      have := H.2 a x hx
      cases x with
      | ro vs => exact this
      | list vs => obtain ⟨ob', h1, h2⟩ := this; exact ⟨ob', .tail _ h1, h2⟩
      | tup vs => obtain ⟨ob', h1, h2⟩ := this; exact ⟨ob', .tail _ h1, h2⟩
      | cell vs => obtain ⟨ob', h1, h2⟩ := this; exact ⟨ob', .tail _ h1, h2⟩
      | rng _ _ _ => obtain ⟨ob', h1, h2⟩ := this; exact ⟨ob', .tail _ h1, h2⟩
      | dict _ => obtain ⟨ob', h1, h2⟩ := this; exact ⟨ob', .tail _ h1, h2⟩
      | tab => obtain ⟨ob', h1, h2⟩ := this; exact ⟨ob', .tail _ h1, h2⟩
theorem newTupleS {c : Cx} {names l hp Q X} {vs : List V} {vals : List Value} (ok : c.Ok) (hv : vals.map absV = vs) (hsz : vs.length ≤ sizeLine)
    (h : ∀ r, hp r = Option.none → Q (.ref r) (hset hp r (.tup vs))) : W rV c names l (newTuple vals) hp Q X := by
  intro fr s P E R hP hX
  obtain ⟨f1, f2⟩ := R.fresh ok
  refine Gen fun Gq9 back => ?_
  rcases R.parts with ⟨g, m, news, T, Fm, lo, H, N, D⟩
  refine back ?_
  clear back
  clear Gq9
  refine newTuple_N Fm N (fun h' F' N' => hP _ _ _ h' _ _ (h _ f1) rfl ?_) (by rw [← hv, List.length_map] at hsz; exact hsz)
  exact Rep.more T F' lo H N' D f1 f2 ⟨vals.toArray, _, rfl, by simpa using hv⟩
theorem newListS {c : Cx} {names l hp Q X} {vs : List V} {vals : List Value} (ok : c.Ok) (hv : vals.map absV = vs) (hsz : vs.length ≤ sizeLine)
    (h : ∀ r, hp r = Option.none → Q (.ref r) (hset hp r (.list vs))) : W rV c names l (newList vals) hp Q X := by
  intro fr s P E R hP hX
  obtain ⟨f1, f2⟩ := R.fresh ok
  refine Gen fun Gq9 back => ?_
  rcases R.parts with ⟨g, m, news, T, Fm, lo, H, N, D⟩
  refine back ?_
  clear back
  clear Gq9
  refine newList_N Fm N (fun h' F' N' => hP _ _ _ h' _ _ (h _ f1) rfl ?_) (by rw [← hv, List.length_map] at hsz; exact hsz)
  exact Rep.more T F' lo H N' D f1 f2 ⟨vals.toArray, _, rfl, by simpa using hv⟩
theorem Rep.items {c : Cx} {names l hp fr h} {a : Addr} {vs : List V} (ok : c.Ok) (R : Rep c names l hp fr h gn) (e : itemsOf (hp a) = some vs) :
    ∃ items : Array Value, items.toList.map absV = vs ∧ ((h.IsList a items ∧ ∀ ws, hp a ≠ some (.tup ws)) ∨ (IsTup h a items ∧ hp a = some (.tup vs))) := by
  refine Gen fun Gq9 back => ?_
  rcases R with ⟨g, T, m, Fm, lo, H, N, D⟩
  refine back ?_
  clear back
  clear Gq9
  have ok := ok.turn T
  cases q : hp a with
  | none => rw [q] at e; cases e
  | some o =>
    have := H.2 _ _ q
    rw [q] at e
    cases o with
    | ro ws =>
      cases e
      refine Gen fun Gq9 back => ?_
      rcases this with ⟨it, ⟨ob, h1, h2⟩, h3⟩
      refine back ?_
      clear back
      clear Gq9
      exact ⟨it, h3, .inl ⟨⟨ob, Fm.keep _ _ (ok.below.stays _ _ h1), h2⟩, by intro ws; simp⟩⟩
    | list ws =>
      cases e
      refine Gen fun Gq9 back => ?_
      rcases this with ⟨ob, h1, ⟨it, n, hz1, h2⟩, _⟩
      refine back ?_
      clear back
      clear Gq9
      subst hz1
      exact ⟨it, h2, .inl ⟨⟨_, h1, rfl, n, rfl⟩, by intro ws; simp⟩⟩
    | tup ws =>
      cases e
      refine Gen fun Gq9 back => ?_
      rcases this with ⟨ob, h1, ⟨it, n, hz2, h2⟩, _⟩
      refine back ?_
      clear back
      clear Gq9
      subst hz2
      exact ⟨it, h2, .inr ⟨⟨_, h1, rfl, n, rfl⟩, rfl⟩⟩
    | cell ws => cases e
    | rng _ _ _ => cases e
    | dict _ => cases e
    | tab => cases e
theorem lenS {c : Cx} {names l hp X} {Q : V → HP → Prop} {v : V} {x : Value} (ok : c.Ok) (h : lenV v hp fun n => Q (.int n) hp) (hx : absV x = v) : W rV c names l (call (.builtin "len") [x]) hp Q X := by
  intro fr s P E R hP hX
  cases v with
  | ref a =>
    cases absV_ref hx
    refine Gen fun Gq9 back => ?_
    rcases h with ⟨vs, e, hfit, hq⟩
    refine back ?_
    clear back
    clear Gq9
    obtain ⟨items, hi, hl⟩ := R.items ok e
    have hsz : (items.size : Int) = vs.length := by rw [← hi]; simp
    rw [← hsz] at hq
    rcases hl with ⟨hl, _⟩ | ⟨hl, _⟩
    · exact call_len_list hl (by (first | lia | omega)) (hP _ _ hp s.heap _ _ hq rfl R)
    · exact len_tuple hl (by (first | lia | omega)) (hP _ _ hp s.heap _ _ hq rfl R)
  | str y =>
    obtain ⟨t, rfl⟩ := absV_str hx
    exact PySem.P.len_str (by have := h.1; (first | lia | omega)) (hP _ _ hp s.heap _ _ h.2 rfl R)
  | _ => exact h.elim
noncomputable def sliceOf : Expr → Bool
  | .Slice .. => true
  | _ => false
theorem sub_plain {slice : Expr} (h : sliceOf slice = false) (o i : Value) : subscripted slice false o i = operate [o, i] (getItem o i) := by
  cases slice <;> first | rfl | (exact absurd h (by simp [sliceOf]))
theorem idxS {c : Cx} {names l hp X} {Q : V → HP → Prop} {v w : V} {x y : Value} {value slice : Expr} (ok : c.Ok) (hs : sliceOf slice = false) (h : idxV v w hp fun u => Q u hp) (hx : absV x = v) (hy : absV y = w) : W rV c names l (subscriptTail value slice x y) hp Q X := by
  intro fr s P E R hP hX
  obtain ⟨a, k, rfl, rfl⟩ : ∃ a k, v = .ref a ∧ w = .int k := by cases v <;> first | exact h.elim | (cases w <;> first | exact h.elim | exact ⟨_, _, rfl, rfl⟩)
  · cases absV_ref hx
    obtain ⟨t, rfl⟩ := absV_int hy
    refine Gen fun Gq9 back => ?_
    rcases h with ⟨vs, u, e, hfit, hlo, hhi, hu, hq⟩
    refine back ?_
    clear back
    clear Gq9
    obtain ⟨items, hi, hl⟩ := R.items ok e
    have hsz : items.size = vs.length := by rw [← hi]; simp
    replace hu : items.toList[(if k < 0 then k + vs.length else k).toNat]?.map absV = some u := by rw [← List.getElem?_map, hi]; exact hu
    cases hit : items.toList[(if k < 0 then k + vs.length else k).toNat]? with
    | none => rw [hit] at hu; cases hu
    | some z =>
      rw [hit] at hu
      simp only [Option.map_some, Option.some.injEq] at hu
      rw [Array.getElem?_toList] at hit
      rcases hl with ⟨hl, _⟩ | ⟨hl, _⟩
      · refine tail_any hl.typeIs slot_list_getitem.lookup ?_ (sub_plain hs _ _)
        by_cases hk : k < 0
        · rw [if_pos hk] at hit
          exact wpAny_getItem_list_neg hl hk (by (first | lia | omega)) (by (first | lia | omega)) (by rw [hsz]; exact hit) (hP _ _ hp s.heap s.toks s.gens hq hu R)
        · rw [if_neg hk] at hit
          exact wpAny_getItem_list hl (by (first | lia | omega)) (by (first | lia | omega)) hit (hP _ _ hp s.heap s.toks s.gens hq hu R)
      · refine tail_any hl.typeIs slot_tuple_getitem.lookup ?_ (sub_plain hs _ _)
        refine getItem_tuple hl (j := (if k < 0 then k + vs.length else k).toNat) (by (first | lia | omega)) (by (first | lia | omega)) ?_ hit (hP _ _ hp s.heap s.toks s.gens hq hu R)
        unfold seqIndex?
        rw [hsz]
        by_cases hk : k < 0
        · simp only [hk, if_true]
          rw [if_pos (by simp only [Bool.and_eq_true, decide_eq_true_eq]; (first | lia | omega))]
        · simp only [hk, if_false]
          rw [if_pos (by simp only [Bool.and_eq_true, decide_eq_true_eq]; (first | lia | omega))]
theorem Rep.listI {c : Cx} {names l hp fr h} {a : Addr} {vs : List V} (ok : c.Ok) (R : Rep c names l hp fr h gn) (e : listAt (hp a) = some vs) :
    ∃ items : Array Value, items.toList.map absV = vs ∧ h.IsList a items := by
  have e' : itemsOf (hp a) = some vs := by
    cases q : hp a with
    | none => rw [q] at e; cases e
    | some o => rw [q] at e; cases o <;> first | exact e | cases e
  obtain ⟨items, hi, hl⟩ := R.items ok e'
  rcases hl with ⟨hl, _⟩ | ⟨_, hl⟩
  · exact ⟨items, hi, hl⟩
  · rw [hl] at e; cases e
theorem Rep.reads {c : Cx} {names l hp fr h} (ok : c.Ok) (R : Rep c names l hp fr h gn) {v : V} {d : PyData} (r : Rd hp v d) : ∀ {x : Value}, absV x = v → ∃ as, Reads h x d as := by
  have lst : ∀ {a : Addr} {vs : List V} {ds : List PyData}, listAt (hp a) = some vs → (∀ {xs : List Value}, xs.map absV = vs → ∃ as, ReadsAll h xs ds as) → ∀ {x : Value}, absV x = .ref a → ∃ as, Reads h x (.list ds) as := fun {a vs ds} e ih x hx => by
    cases absV_ref hx
    obtain ⟨items, hi, hl⟩ := R.listI ok (a := a) e
    obtain ⟨as, ra⟩ := ih hi
    refine Gen fun Gq9 back => ?_
    rcases hl with ⟨o, ho, hc, n, hd⟩
    refine back ?_
    clear back
    clear Gq9
    exact ⟨_, Reads.list ho hc hd ra⟩
  intro x hx
  refine Rd.rec (motive_1 := fun v d _ => ∀ {x : Value}, absV x = v → ∃ as, Reads h x d as) (motive_2 := fun vs ds _ => ∀ {xs : List Value}, xs.map absV = vs → ∃ as, ReadsAll h xs ds as) ?_ ?_ ?_ ?_ ?_ ?_ ?_ ?_ ?_ r hx
  · intro i x hx; obtain ⟨t, rfl⟩ := absV_int hx; exact ⟨_, .int i t⟩
  · intro b x hx; cases absV_bool hx; exact ⟨_, .bool b⟩
  · intro x hx; cases absV_none hx; exact ⟨_, .none⟩
  · intro y x hx; obtain ⟨_, rfl⟩ := absV_str hx; exact ⟨_, .str _ _⟩
  · intro a vs ds e _ ih; exact lst (by rw [e]; rfl) ih
  · intro a vs ds e _ ih; exact lst (by rw [e]; rfl) ih
  · intro a vs ds e _ ih x hx
    cases absV_ref hx
    obtain ⟨items, hi, hl⟩ := R.items ok (a := a) (by rw [e]; rfl)
    obtain ⟨as, ra⟩ := ih hi
    rcases hl with ⟨_, hl⟩ | ⟨hl, _⟩
    · exact absurd e (hl _)
    · refine Gen fun Gq9 back => ?_
      rcases hl with ⟨o, ho, hc, n, hd⟩
      refine back ?_
      clear back
      clear Gq9
      exact ⟨_, Reads.tuple ho hc hd ra⟩
  · intro xs hx
    cases xs with
    | nil => exact ⟨_, .nil⟩
    | cons y ys => injection hx
  · intro v d vs ds _ _ i1 i2 xs hx
    cases xs with
    | nil => injection hx
    | cons y ys =>
      obtain ⟨as, ra⟩ := i1 (List.head_eq_of_cons_eq hx)
      obtain ⟨bs, rb⟩ := i2 (List.tail_eq_of_cons_eq hx)
      exact ⟨_, .cons ra rb⟩
section
variable {F : Fx}
theorem binS {o : Operator} {b : BOp} (ho : opOf o = some b) {c : Cx} {d : Nat} (ok : c.Ok) (rm : room c d) {names l hp Q X} {v w : V} {x y : Value}
    (h : binV b v w hp Q) (hx : absV x = v) (hy : absV y = w) : W rV c names l (binaryOp o x y) hp Q X := by
  intro fr s P E R hP hX
  rcases (show (∃ i j, v = .int i ∧ w = .int j) ∨ (∃ a a', v = .ref a ∧ w = .ref a') by
    cases v <;> first | exact h.elim | (cases w <;> first | exact h.elim | exact .inl ⟨_, _, rfl, rfl⟩ | exact .inr ⟨_, _, rfl, rfl⟩)) with ⟨i, j, rfl, rfl⟩ | ⟨a, b', rfl, rfl⟩
  · obtain ⟨t, rfl⟩ := absV_int hx
    obtain ⟨u, rfl⟩ := absV_int hy
    obtain ⟨hok, hq⟩ := h
    cases o <;> first | (injection ho; done) | (injection ho with ho; subst ho)
    · exact PyProof.Rows.add_int (hP _ _ hp s.heap _ _ hq rfl R)
    · exact PyProof.Rows.sub_int (hP _ _ hp s.heap _ _ hq rfl R)
    · exact PyProof.Rows.mul_int (hP _ _ hp s.heap _ _ hq rfl R) hok
    · exact mod_int' hok (hP _ _ hp s.heap _ _ hq rfl R)
    · exact PyProof.Rows.pow_int hok.1 hok.2 (hP _ _ hp s.heap _ _ hq rfl R)
    · exact PyProof.Rows.lshift_int hok.1 hok.2 (hP _ _ hp s.heap _ _ hq rfl R)
    · exact PyProof.Rows.rshift_int hok (hP _ _ hp s.heap _ _ hq rfl R)
    · exact PyProof.Rows.and_int (hP _ _ hp s.heap _ _ hq rfl R)
    · exact floordiv_int hok (hP _ _ hp s.heap _ _ hq rfl R) (.inr (pylong ok rm R))
  · cases absV_ref hx
    cases absV_ref hy
    cases o <;> (first | (injection ho; done) | (injection ho with ho; subst ho)) <;> first | exact h.elim | skip
    refine Gen fun Gq9 back => ?_
    rcases h with ⟨vs, ws, e1, e2, hsz, hn⟩
    refine back ?_
    clear back
    clear Gq9
    obtain ⟨i1, hi1, hl1⟩ := R.listI ok e1
    obtain ⟨i2, hi2, hl2⟩ := R.listI ok e2
    obtain ⟨f1, f2⟩ := R.fresh ok
    refine Gen fun Gq9 back => ?_
    rcases R.parts with ⟨g, m, news, T, Fm, lo, H, N, D⟩
    refine back ?_
    clear back
    clear Gq9
    refine PyProof.Rows.add_arrays Fm N hl1 hl2 (fun h' F' N' => hP _ _ _ h' _ _ (hn _ f1) rfl ?_) (by rw [← hi1, ← hi2] at hsz; simpa using hsz)
    exact Rep.more T F' lo H N' D f1 f2 ⟨_, _, rfl, by simp [← hi1, ← hi2]⟩
theorem se_bin {a b : Expr} {o : Operator} {pos} {ma mb : ME} {bo : BOp} (ho : opOf o = some bo) (ha : SE F a ma) (hb : SE F b mb) : SE F (.BinOp a o b pos) (.bin bo ma mb) := by
  intro c d FO hg hsc ok rm l hp Q X hev fr s P E R hP hX
  refine wpAny_BinOp (ha c d FO hg hsc ok rm l hp _ X hev fr s _ E R (fun v x h1 hh tk gn hq hx R1 => ?_) hX)
  refine hb c d FO hg hsc ok rm l h1 _ X hq fr _ _ E R1 (fun w y h2 hh2 tk2 gn2 hq2 hy R2 => ?_) hX
  exact binS ho ok rm hq2 hx hy fr _ _ E R2 hP hX
theorem isInts_of {v w : V} {p : Int × Int} (h : isInts v w = some p) : v = .int p.1 ∧ w = .int p.2 := by
  cases v <;> first | (injection h; done) | (cases w <;> first | (injection h; done) | (injection h with h; subst h; exact ⟨rfl, rfl⟩))
theorem cmpS {o : CmpOp} {b : COp} (ho : cmpOf o = some b) {c : Cx} {d : Nat} (ok : c.Ok) (rm : room c d) {names : List Str} {l : List V} {hp : HP} {X : XT} {Q : Bool → HP → Prop} {v w : V} {x y : Value}
    (h : cmpV b v w hp fun t => Q t hp) (hx : absV x = v) (hy : absV y = w) : W rV c names l (compareOp o x y) hp (fun u h' => ∃ t, u = .bool t ∧ Q t h') X := by
  intro fr s P E R hP hX
  unfold cmpV at h
  cases q : isInts v w with
  | some p =>
    rw [q] at h
    obtain ⟨rfl, rfl⟩ := isInts_of q
    obtain ⟨t, rfl⟩ := absV_int hx
    obtain ⟨u, rfl⟩ := absV_int hy
    cases o <;> first | (injection ho; done) | (injection ho with ho; subst ho)
    · exact PyProof.Rows.eq_int (hP _ _ hp s.heap s.toks s.gens ⟨_, rfl, h⟩ rfl R)
    · exact PyProof.Rows.ne_int (hP _ _ hp s.heap s.toks s.gens ⟨_, rfl, h⟩ rfl R)
    · exact PyProof.Rows.lt_int (hP _ _ hp s.heap s.toks s.gens ⟨_, rfl, h⟩ rfl R)
    · exact PyProof.Rows.le_int (hP _ _ hp s.heap s.toks s.gens ⟨_, rfl, h⟩ rfl R)
    · exact PyProof.Rows.gt_int (hP _ _ hp s.heap s.toks s.gens ⟨_, rfl, h⟩ rfl R)
    · exact PyProof.Rows.ge_int (hP _ _ hp s.heap s.toks s.gens ⟨_, rfl, h⟩ rfl R)
  | none =>
    rw [q] at h
    cases o <;> (first | (injection ho; done) | (injection ho with ho; subst ho)) <;> first | exact h.elim | skip
    all_goals
      refine Gen fun Gq9 back => ?_
      rcases h with ⟨d', e, rd, re, sd, se, hq⟩
      refine back ?_
      clear back
      clear Gq9
      obtain ⟨as, ra⟩ := R.reads ok rd hx
      obtain ⟨bs, rb⟩ := R.reads ok re hy
    · exact eq_dataH ra rb sd se (by have := rm.2; (first | lia | omega)) (hP _ _ hp s.heap s.toks s.gens ⟨_, rfl, hq⟩ rfl R)
    · exact ne_dataH ra rb sd se (by have := rm.2; (first | lia | omega)) (hP _ _ hp s.heap s.toks s.gens ⟨_, rfl, hq⟩ rfl R)
theorem notIn_of_cmpOf {o : CmpOp} {b : COp} (ho : cmpOf o = some b) (e : Expr) : behindInMarks o e = false := by
  have h : ∀ q : CmpOp, (q == .In || q == .NotIn) = false → behindInMarks q e = false := fun q hq => by
    cases e <;> first | rfl | (rename_i k _; show ((k == 0 && (q == .In || q == .NotIn)) && _) = false; rw [hq, Bool.and_false, Bool.false_and])
  cases o <;> first | exact h _ rfl | injection ho
theorem se_cmp {a b : Expr} {o : CmpOp} {pos} {ma mb : ME} {bo : COp} (ho : cmpOf o = some bo) (ha : SE F a ma) (hb : SE F b mb) : SE F (.Compare a [o] [b] pos) (.cmp bo ma mb) := by
  intro c d FO hg hsc ok rm l hp Q X hev fr s P E R hP hX
  refine wpAny_Compare1 (ha c d FO hg hsc ok rm l hp _ X hev fr s _ E R (fun v x h1 hh tk gn hq hx R1 => ?_) hX) (notIn_of_cmpOf ho b)
  refine hb c d FO hg hsc ok rm l h1 _ X hq fr _ _ E R1 (fun w y h2 hh2 tk2 gn2 hq2 hy R2 => ?_) hX
  refine cmpS (Q := fun t h => Q (.bool t) h) ho ok rm hq2 hx hy fr _ _ E R2 (fun u z h3 hh3 tk3 gn3 hq3 hz R3 => ?_) hX
  obtain ⟨t, rfl, hq4⟩ := hq3
  exact hP _ _ h3 hh3 tk3 gn3 hq4 hz R3
theorem st_cmp {a b : Expr} {o : CmpOp} {pos} {ma mb : ME} {bo : COp} (ho : cmpOf o = some bo) (ha : SE F a ma) (hb : SE F b mb) : ST F (.Compare a [o] [b] pos) (.cmp bo ma mb) := by
  intro c d FO hg hsc ok rm l hp Q X hev whole hw fr s P E R hP hX
  refine wpAny_isTrue_Compare1 (ha c d FO hg hsc ok rm l hp _ X hev fr s _ E R (fun v x h1 hh tk gn hq hx R1 => ?_) hX) (notIn_of_cmpOf ho b)
  refine hb c d FO hg hsc ok rm l h1 _ X hq fr _ _ E R1 (fun w y h2 hh2 tk2 gn2 hq2 hy R2 => ?_) hX
  refine cmpS (Q := fun t h => Q t h) ho ok rm hq2 hx hy fr _ _ E R2 (fun u z h3 hh3 tk3 gn3 hq3 hz R3 => ?_) hX
  obtain ⟨t, rfl, hq4⟩ := hq3
  exact truS (Q := Q) (show truV (.bool t) h3 _ from hq4) hz fr _ _ E R3 hP hX
end
section
variable {F : Fx}
theorem ses_nil : SEs F [] .nil := by
  intro c d FO hg hsc ok rm l hp Q X hev pos fr s P E R hP hX
  exact spliced_none (hP _ _ hp s.heap s.toks s.gens hev rfl R)
theorem ses_cons {e : Expr} {es : List Expr} {m ms : ME} (hn : notStar e = true) (he : SE F e m) (hes : SEs F es ms) : SEs F (e :: es) (.cons m ms) := by
  intro c d FO hg hsc ok rm l hp Q X hev pos fr s P E R hP hX
  refine spliced_more (he c d FO hg hsc ok rm l hp _ X hev fr s _ E R (fun v x h1 hh tk gn hq hx R1 => ?_) hX) (starEach_cons hn)
  refine hes c d FO hg hsc ok rm l h1 _ X hq pos fr _ _ E R1 (fun vs xs h2 hh2 tk2 gn2 hq2 hxs R2 => ?_) hX
  exact hP _ _ h2 hh2 tk2 gn2 hq2 (by show absV x :: xs.map absV = _; rw [hx, hxs]) R2
theorem se_tup {es : List Expr} {ms : ME} {k pos} (hes : SEs F es ms) : SE F (.Tuple es k pos) (.tup ms) := by
  intro c d FO hg hsc ok rm l hp Q X hev fr s P E R hP hX
  refine Tuple_ (hes c d FO hg hsc ok rm l hp _ X hev pos fr s _ E R (fun vs xs h1 hh tk gn hq hx R1 => ?_) hX)
  exact newTupleS ok hx hq.1 hq.2 fr _ _ E R1 hP hX
theorem se_list {es : List Expr} {ms : ME} {pos} (hes : SEs F es ms) : SE F (.List es pos) (.list ms) := by
  intro c d FO hg hsc ok rm l hp Q X hev fr s P E R hP hX
  refine List_ (hes c d FO hg hsc ok rm l hp _ X hev pos fr s _ E R (fun vs xs h1 hh tk gn hq hx R1 => ?_) hX)
  exact newListS ok hx hq.1 hq.2 fr _ _ E R1 hP hX
theorem se_idx {a i : Expr} {pos} {ma mi : ME} (hs : sliceOf i = false) (ha : SE F a ma) (hi : SE F i mi) : SE F (.Subscript a i pos) (.idx ma mi) := by
  intro c d FO hg hsc ok rm l hp Q X hev fr s P E R hP hX
  refine Subscript_ (ha c d FO hg hsc ok rm l hp _ X hev fr s _ E R (fun v x h1 hh tk gn hq hx R1 => ?_) hX)
  refine hi c d FO hg hsc ok rm l h1 _ X hq fr _ _ E R1 (fun w y h2 hh2 tk2 gn2 hq2 hy R2 => ?_) hX
  exact idxS ok hs hq2 hx hy fr _ _ E R2 hP hX
theorem nameG {c : Cx} (FO : F.Ok) (hg : c.g = F.g) (hsc : SCF c F) (ok : c.Ok) {x : Str} {p : Pos} {a : Addr} (hx : F.gt.lookup x = some a) (hk : F.sc.names.lookup x = some .globalImplicit)
    (hd : (x == ("__debug__" : Str)) = false) {names l hp fr} {s : Shared} {P E : Value → Shared → Prop} (R : Rep c names l hp fr s.heap s.gens) (h : P (.ref a) s) :
    wpAny (model c.g.prog c.g.w) c.A (eval (.Name x p) c.env) P E s := by
  exact Name_function_global (by rw [c.env_scope]; exact ok.kind) (by rw [c.env_kindOf, hsc.1]; exact hk) (loadGlobal_global (by rw [c.env_globals]; exact (ok.top.toTopRead).g.keeps (R.keep ok)) (mg_of ok.inK (ok.top.toTopRead).g (by rw [hg]; exact (FO.gt x a hx).1)) h) hd
theorem nameB {c : Cx} (FO : F.Ok) (hg : c.g = F.g) (hsc : SCF c F) (ok : c.Ok) {x : Str} {p : Pos} {v : Value} (hx : x ∈ F.bt) (hv : bootBuiltins x = some v) (hk : F.sc.names.lookup x = some .globalImplicit)
    (hd : (x == ("__debug__" : Str)) = false) (hnm : x ≠ "__name__") {names l hp fr} {s : Shared} {P E : Value → Shared → Prop} (R : Rep c names l hp fr s.heap s.gens) (h : P v s) :
    wpAny (model c.g.prog c.g.w) c.A (eval (.Name x p) c.env) P E s := by
  exact Name_function_global (by rw [c.env_scope]; exact ok.kind) (by rw [c.env_kindOf, hsc.1]; exact hk) (loadGlobal_builtin (by rw [c.env_globals]; exact (ok.top.toTopRead).g.keeps (R.keep ok)) (mg_none_of ok.inK (ok.top.toTopRead).g (by rw [hg]; exact FO.bt x hx)) (by rw [c.env_builtins]; exact (ok.top.toTopRead).b.keeps (R.keep ok)) (((ok.top.toTopRead).builtins x hnm).trans hv) h) hd
theorem Rep.inK {c : Cx} (ok : c.Ok) {names l hp fr h} (R : Rep c names l hp fr h gn) : c.g.K.In h := ok.inK.keeps (R.keep ok)
theorem se_call (hF : F.cold = true) {x : Str} {p pos : Pos} {a : Addr} {e : Expr} {es : List Expr} {ms : ME} (hx : F.gt.lookup x = some a) (hk : F.sc.names.lookup x = some .globalImplicit) (hd : (x == ("__debug__" : Str)) = false)
    (hn : (e :: es).all notStar = true) (hes : SEs F (e :: es) ms) : SE F (.Call (.Name x p) (e :: es) [] pos) (.call a ms) := by
  intro c d FO hg hsc ok rm l hp Q X hev fr s P E R hP hX
  simp only [List.all_cons, Bool.and_eq_true] at hn
  refine Call_ (nameG FO hg hsc ok hx hk hd R ?_) rfl
  refine callWith_K ok.inK (by rw [hg]; exact (FO.gt x a hx).2) ?_ (starEach_cons hn.1) (backTo_any hn.2)
  refine hes c d FO hg hsc ok rm l hp _ X hev pos fr s _ E R (fun vs xs h1 hh tk gn hq hxs R1 => ⟨R1.inK ok, ?_⟩) hX
  rw [List.nil_append]
  exact (hq c hg ok (hsc.2.2.2.1 hF) rm F.names l xs [] hxs rfl).w fr _ _ E R1 hP hX.call
theorem se_len {x : Str} {p pos : Pos} {a : Expr} {ma : ME} (hxe : x = "len") (hx : x ∈ F.bt) (hk : F.sc.names.lookup x = some .globalImplicit) (hn : notStar a = true) (ha : SE F a ma) : SE F (.Call (.Name x p) [a] [] pos) (.len ma) := by
  intro c d FO hg hsc ok rm l hp Q X hev fr s P E R hP hX
  subst hxe
  refine Call_ (nameB FO hg hsc ok hx (v := .builtin "len") (by decide +kernel) hk (by decide) (by decide) R ?_) rfl
  refine PyProof.Rows.callWith_builtin1 ?_ (starEach_cons hn) rfl
  refine spliced_more (ha c d FO hg hsc ok rm l hp _ X hev fr s _ E R (fun v y h1 hh tk gn hq hy R1 => ?_) hX) (starEach_cons hn)
  refine spliced_none ?_
  exact lenS (Q := Q) ok hq hy fr _ _ E R1 hP hX
theorem se_toInt {x : Str} {p pos : Pos} {a : Expr} {ma : ME} (hxe : x = "int") (hx : x ∈ F.bt) (hk : F.sc.names.lookup x = some .globalImplicit) (hn : notStar a = true) (ha : SE F a ma) : SE F (.Call (.Name x p) [a] [] pos) (.toInt ma) := by
  intro c d FO hg hsc ok rm l hp Q X hev fr s P E R hP hX
  subst hxe
  refine Call_ (nameB FO hg hsc ok hx (v := .type "int") boot_int hk (by decide) (by decide) R ?_) rfl
  refine PyProof.Rows.callWith_type1 ?_ (starEach_cons hn) rfl
  refine spliced_more (ha c d FO hg hsc ok rm l hp _ X hev fr s _ E R (fun v y h1 hh tk gn hq hy R1 => ?_) hX) (starEach_cons hn)
  refine spliced_none ?_
  cases v with
  | int i =>
    obtain ⟨t, rfl⟩ := absV_int hy
    exact call_int_int (hP _ _ h1 hh tk gn hq rfl R1)
  | _ => exact hq.elim
theorem isiS {c : Cx} {names : List Str} {l : List V} {hp : HP} {X : XT} {Q : V → HP → Prop} {v : V} {x : Value} {k : Kd} {T : String}
    (hT : T = (match k with | .int => "int" | .bool => "bool" | .list => "list" | .tuple => "tuple"))
    (h : isiV v hp k fun t => Q (.bool t) hp) (hx : absV x = v) : W rV c names l (call (.builtin "isinstance") [x, .type T]) hp Q X := by
  intro fr s P E R hP hX
  have key : ∀ b, Q (.bool b) hp → ∀ tk, P (.bool b) { s with toks := tk } := fun b hb tk => hP _ _ hp s.heap tk s.gens hb rfl R
  cases v with
  | int i =>
    obtain ⟨t, rfl⟩ := absV_int hx
    cases k <;> subst hT
    · exact IsiPair.int_int (key _ h _)
    · exact IsiPair.int_bool (key _ h _)
    · exact IsiPair.int_list (key _ h _)
    · exact IsiPair.int_tuple (key _ h _)
  | bool b =>
    cases absV_bool hx
    cases k <;> subst hT
    · exact IsiPair.bool_int (key _ h _)
    · exact IsiPair.bool_bool (key _ h _)
    · exact IsiPair.bool_list (key _ h _)
    · exact IsiPair.bool_tuple (key _ h _)
  | ref a =>
    cases absV_ref hx
    refine Gen fun Gq9 back => ?_
    rcases id R with ⟨g, T, m, Fm, lo, H, N, D⟩
    refine back ?_
    clear back
    clear Gq9
    rcases h with ⟨vs, e, hq⟩ | ⟨vs, e, hq⟩
    · refine Gen fun Gq9 back => ?_
      rcases H.2 _ _ e with ⟨ob, h1, ⟨it, n, hz3, _⟩, _⟩
      refine back ?_
      clear back
      clear Gq9
      subst hz3
      cases k <;> subst hT
      · exact IsiPair.list_int h1 rfl (key _ hq _)
      · exact IsiPair.list_bool h1 rfl (key _ hq _)
      · exact IsiPair.list_list h1 rfl (key _ hq _)
      · exact IsiPair.list_tuple h1 rfl (key _ hq _)
    · refine Gen fun Gq9 back => ?_
      rcases H.2 _ _ e with ⟨ob, h1, ⟨it, n, hz4, _⟩, _⟩
      refine back ?_
      clear back
      clear Gq9
      subst hz4
      cases k <;> subst hT
      · exact IsiPair.tuple_int h1 rfl (key _ hq _)
      · exact IsiPair.tuple_bool h1 rfl (key _ hq _)
      · exact IsiPair.tuple_list h1 rfl (key _ hq _)
      · exact IsiPair.tuple_tuple h1 rfl (key _ hq _)
  | _ => exact h.elim
noncomputable def kdOf (T : Str) : Option Kd :=
  if T = "int" then some .int else if T = "bool" then some .bool else if T = "list" then some .list else if T = "tuple" then some .tuple else Option.none
theorem se_isi {x T : Str} {p pT pos : Pos} {a : Expr} {ma : ME} {k : Kd} (hxe : x = "isinstance") (hx : x ∈ F.bt) (hk : F.sc.names.lookup x = some .globalImplicit)
    (hT : T ∈ F.bt) (hkT : F.sc.names.lookup T = some .globalImplicit) (hkd : kdOf T = some k) (hn : notStar a = true) (ha : SE F a ma) : SE F (.Call (.Name x p) [a, .Name T pT] [] pos) (.isi ma k) := by
  intro c d FO hg hsc ok rm l hp Q X hev fr s P E R hP hX
  subst hxe
  refine Call_ (nameB FO hg hsc ok hx (v := .builtin "isinstance") boot_isinstance hk (by decide) (by decide) R ?_) rfl
  refine PyProof.Rows.callWith_builtin1 ?_ (starEach_cons hn) rfl
  refine spliced_more (ha c d FO hg hsc ok rm l hp _ X hev fr s _ E R (fun v y h1 hh tk gn hq hy R1 => ?_) hX) (starEach_cons hn)
  unfold kdOf at hkd
  split at hkd
  · rename_i e; subst e; cases hkd
    exact spliced_more (nameB FO hg hsc ok hT (v := .type "int") boot_int hkT (by decide) (by decide) R1 (spliced_none (isiS rfl hq hy fr _ _ E R1 hP hX))) rfl
  · split at hkd
    · rename_i e; subst e; cases hkd
      exact spliced_more (nameB FO hg hsc ok hT (v := .type "bool") boot_bool hkT (by decide) (by decide) R1 (spliced_none (isiS rfl hq hy fr _ _ E R1 hP hX))) rfl
    · split at hkd
      · rename_i e; subst e; cases hkd
        exact spliced_more (nameB FO hg hsc ok hT (v := .type "list") boot_list hkT (by decide) (by decide) R1 (spliced_none (isiS rfl hq hy fr _ _ E R1 hP hX))) rfl
      · split at hkd
        · rename_i e; subst e; cases hkd
          exact spliced_more (nameB FO hg hsc ok hT (v := .type "tuple") boot_tuple hkT (by decide) (by decide) R1 (spliced_none (isiS rfl hq hy fr _ _ E R1 hP hX))) rfl
        · cases hkd
theorem se_isn {a : Expr} {k pos cp} {ma : ME} (ha : SE F a ma) : SE F (.Compare a [.Is] [.Constant .none k cp] pos) (.isn ma true) := by
  intro c d FO hg hsc ok rm l hp Q X hev fr s P E R hP hX
  refine wpAny_Compare1 (ha c d FO hg hsc ok rm l hp _ X hev fr s _ E R (fun v x h1 hh tk gn hq hx R1 => ?_) hX) rfl
  refine wpAny_Constant_none (is_none ?_)
  cases hb : isNone v with
  | some b =>
    rw [hb] at hq
    refine hP _ _ h1 hh tk gn hq ?_ R1
    subst hx
    show V.bool _ = _
    congr 1
    cases x <;> (first | (injection hb; done) | (injection hb with hb; subst hb)) <;> first | rfl | simp
  | none => rw [hb] at hq; exact hq.elim
theorem se_isnn {a : Expr} {k pos cp} {ma : ME} (ha : SE F a ma) : SE F (.Compare a [.IsNot] [.Constant .none k cp] pos) (.isn ma false) := by
  intro c d FO hg hsc ok rm l hp Q X hev fr s P E R hP hX
  refine wpAny_Compare1 (ha c d FO hg hsc ok rm l hp _ X hev fr s _ E R (fun v x h1 hh tk gn hq hx R1 => ?_) hX) rfl
  refine wpAny_Constant_none (isnot_none_gen ?_)
  cases hb : isNone v with
  | some b =>
    rw [hb] at hq
    refine hP _ _ h1 hh tk gn hq ?_ R1
    subst hx
    show V.bool _ = _
    congr 1
    cases x <;> (first | (injection hb; done) | (injection hb with hb; subst hb)) <;> first | rfl | simp
  | none => rw [hb] at hq; exact hq.elim
theorem st_isn {a : Expr} {k pos cp} {ma : ME} (ha : SE F a ma) : ST F (.Compare a [.Is] [.Constant .none k cp] pos) (.tv (.isn ma true)) := by
  intro c d FO hg hsc ok rm l hp Q X hev whole hw fr s P E R hP hX
  refine wpAny_isTrue_Compare1 (ha c d FO hg hsc ok rm l hp _ X hev fr s _ E R (fun v x h1 hh tk gn hq hx R1 => ?_) hX) rfl
  refine wpAny_Constant_none (is_none (wpAny_truthy_bool ?_))
  cases hb : isNone v with
  | some b =>
    rw [hb] at hq
    refine hP _ _ h1 hh tk gn hq ?_ R1
    subst hx
    show _ = _
    cases x <;> (first | (injection hb; done) | (injection hb with hb; subst hb)) <;> first | rfl | simp
  | none => rw [hb] at hq; exact hq.elim
theorem st_isnn {a : Expr} {k pos cp} {ma : ME} (ha : SE F a ma) : ST F (.Compare a [.IsNot] [.Constant .none k cp] pos) (.tv (.isn ma false)) := by
  intro c d FO hg hsc ok rm l hp Q X hev whole hw fr s P E R hP hX
  refine wpAny_isTrue_Compare1 (ha c d FO hg hsc ok rm l hp _ X hev fr s _ E R (fun v x h1 hh tk gn hq hx R1 => ?_) hX) rfl
  refine wpAny_Constant_none (isnot_none_gen (wpAny_truthy_bool ?_))
  cases hb : isNone v with
  | some b =>
    rw [hb] at hq
    refine hP _ _ h1 hh tk gn hq ?_ R1
    subst hx
    show _ = _
    cases x <;> (first | (injection hb; done) | (injection hb with hb; subst hb)) <;> first | rfl | simp
  | none => rw [hb] at hq; exact hq.elim
theorem se_chain {a b e : Expr} {o p : CmpOp} {pos} {ma mb me : ME} {bo bp : COp} (ho : cmpOf o = some bo) (hp' : cmpOf p = some bp) (ha : SE F a ma) (hb : SE F b mb) (he : SE F e me) : SE F (.Compare a [o, p] [b, e] pos) (.chain ma bo mb bp me) := by
  intro c d FO hg hsc ok rm l hp Q X hev fr s P E R hP hX
  refine Compare_chain (ha c d FO hg hsc ok rm l hp _ X hev fr s _ E R (fun v x h1 hh tk gn hq hx R1 => ?_) hX) (notIn_of_cmpOf hp' e)
  refine chain_link (hb c d FO hg hsc ok rm l h1 _ X hq fr _ _ E R1 (fun w y h2 hh2 tk2 gn2 hq2 hy R2 => ?_) hX)
  refine cmpS (Q := fun t h => (t = true → ev F.g d me l h (fun u h3 => cmpV bp w u h3 fun t' => Q (.bool t') h3) X) ∧ (t = false → Q (.bool false) h)) ho ok rm hq2 hx hy fr _ _ E R2 (fun u z h3 hh3 tk3 gn3 hq3 hz R3 => ?_) hX
  obtain ⟨t, rfl, hq4⟩ := hq3
  cases absV_bool hz
  refine wpAny_truthy_bool ?_
  cases t with
  | false => rw [if_neg (by decide)]; exact hP _ _ h3 hh3 tk3 gn3 (hq4.2 rfl) rfl R3
  | true =>
    rw [if_pos rfl]
    refine chain_last (he c d FO hg hsc ok rm l h3 _ X (hq4.1 rfl) fr _ _ E R3 (fun w5 y5 h5 hh5 tk5 gn5 hq5 hy5 R5 => ?_) hX)
    refine cmpS (Q := fun t h => Q (.bool t) h) hp' ok rm hq5 hy hy5 fr _ _ E R5 (fun u6 z6 h6 hh6 tk6 gn6 hq6 hz6 R6 => ?_) hX
    obtain ⟨t, rfl, hq7⟩ := hq6
    exact hP _ _ h6 hh6 tk6 gn6 hq7 hz6 R6
theorem st_chain {a b e : Expr} {o p : CmpOp} {pos} {ma mb me : ME} {bo bp : COp} (ho : cmpOf o = some bo) (hp' : cmpOf p = some bp) (ha : SE F a ma) (hb : SE F b mb) (he : SE F e me) : ST F (.Compare a [o, p] [b, e] pos) (.chain ma bo mb bp me) := by
  intro c d FO hg hsc ok rm l hp Q X hev whole hw fr s P E R hP hX
  refine isTrue_chain (ha c d FO hg hsc ok rm l hp _ X hev fr s _ E R (fun v x h1 hh tk gn hq hx R1 => ?_) hX) (notIn_of_cmpOf hp' e)
  refine test_link (hb c d FO hg hsc ok rm l h1 _ X hq fr _ _ E R1 (fun w y h2 hh2 tk2 gn2 hq2 hy R2 => ?_) hX)
  refine cmpS (Q := fun t h => (t = true → ev F.g d me l h (fun u h3 => cmpV bp w u h3 fun t' => Q t' h3) X) ∧ (t = false → Q false h)) ho ok rm hq2 hx hy fr _ _ E R2 (fun u z h3 hh3 tk3 gn3 hq3 hz R3 => ?_) hX
  obtain ⟨t, rfl, hq4⟩ := hq3
  cases absV_bool hz
  refine wpAny_truthy_bool ?_
  cases t with
  | false => rw [if_neg (by decide)]; exact hP _ _ h3 hh3 tk3 gn3 (hq4.2 rfl) rfl R3
  | true =>
    rw [if_pos rfl]
    refine test_last (he c d FO hg hsc ok rm l h3 _ X (hq4.1 rfl) fr _ _ E R3 (fun w5 y5 h5 hh5 tk5 gn5 hq5 hy5 R5 => ?_) hX)
    refine cmpS (Q := fun t h => Q t h) hp' ok rm hq5 hy hy5 fr _ _ E R5 (fun u6 z6 h6 hh6 tk6 gn6 hq6 hz6 R6 => ?_) hX
    obtain ⟨t, rfl, hq7⟩ := hq6
    exact truS (Q := Q) (show truV (.bool t) h6 _ from hq7) hz6 fr _ _ E R6 hP hX
theorem se_and_one {a : Expr} {pos} {ma : ME} (o : BoolOp) (ha : SE F a ma) : SE F (.BoolOp o [a] pos) ma := by
  intro c d FO hg hsc ok rm l hp Q X hev fr s P E R hP hX
  exact BoolOp_one (ha c d FO hg hsc ok rm l hp Q X hev fr s P E R hP hX)
theorem se_and {a b : Expr} {r : List Expr} {pos} {ma mb : ME} (ha : SE F a ma) (hb : SE F (.BoolOp .And (b :: r) pos) mb) : SE F (.BoolOp .And (a :: b :: r) pos) (.and ma mb) := by
  intro c d FO hg hsc ok rm l hp Q X hev fr s P E R hP hX
  refine BoolOp_and (ha c d FO hg hsc ok rm l hp _ X hev fr s _ E R (fun v x h1 hh tk gn hq hx R1 => ?_) hX)
  refine truS (Q := fun t h => (t = true → ev F.g d mb l h Q X) ∧ (t = false → Q v h)) hq hx fr _ _ E R1 (fun t z h3 hh3 tk3 gn3 hq3 hz R3 => ?_) hX
  cases hz
  cases t with
  | true => rw [if_pos rfl]; exact hb c d FO hg hsc ok rm l h3 Q X (hq3.1 rfl) fr _ _ E R3 hP hX
  | false => rw [if_neg (by decide)]; exact hP _ _ h3 hh3 tk3 gn3 (hq3.2 rfl) hx R3
theorem se_or {a b : Expr} {r : List Expr} {pos} {ma mb : ME} (ha : SE F a ma) (hb : SE F (.BoolOp .Or (b :: r) pos) mb) : SE F (.BoolOp .Or (a :: b :: r) pos) (.or ma mb) := by
  intro c d FO hg hsc ok rm l hp Q X hev fr s P E R hP hX
  refine BoolOp_or (ha c d FO hg hsc ok rm l hp _ X hev fr s _ E R (fun v x h1 hh tk gn hq hx R1 => ?_) hX)
  refine truS (Q := fun t h => (t = true → Q v h) ∧ (t = false → ev F.g d mb l h Q X)) hq hx fr _ _ E R1 (fun t z h3 hh3 tk3 gn3 hq3 hz R3 => ?_) hX
  cases hz
  cases t with
  | true => rw [if_pos rfl]; exact hP _ _ h3 hh3 tk3 gn3 (hq3.1 rfl) hx R3
  | false => rw [if_neg (by decide)]; exact hb c d FO hg hsc ok rm l h3 Q X (hq3.2 rfl) fr _ _ E R3 hP hX
noncomputable def STB (F : Fx) (o : BoolOp) (es : List Expr) (pos : Pos) (m : ME) : Prop := ∀ c d, F.Ok → c.g = F.g → SCF c F → c.Ok → room c d → ∀ l hp Q X, evT F.g d m l hp Q X → ∀ whole, W rB c F.names l (isTrue (.BoolOp o es pos) c.env whole) hp Q X
theorem stb_and_one {a : Expr} {pos} {ma : ME} (ha : ST F a ma) : STB F .And [a] pos ma := by
  intro c d FO hg hsc ok rm l hp Q X hev whole fr s P E R hP hX
  refine PyProof.Rows.isTrue_and (ha c d FO hg hsc ok rm l hp _ X hev _ rfl fr s _ E R (fun v x h1 hh tk gn hq hx R1 => ?_) hX)
  cases hx
  cases v with
  | true => rw [if_pos rfl]; exact isTrue_and_nil (hP _ _ h1 hh tk gn hq rfl R1)
  | false => rw [if_neg (by decide)]; exact hP _ _ h1 hh tk gn hq rfl R1
theorem stb_or_one {a : Expr} {pos} {ma : ME} (ha : ST F a ma) : STB F .Or [a] pos ma := by
  intro c d FO hg hsc ok rm l hp Q X hev whole fr s P E R hP hX
  refine PyProof.Rows.isTrue_or (ha c d FO hg hsc ok rm l hp _ X hev _ rfl fr s _ E R (fun v x h1 hh tk gn hq hx R1 => ?_) hX)
  cases hx
  cases v with
  | true => rw [if_pos rfl]; exact hP _ _ h1 hh tk gn hq rfl R1
  | false => rw [if_neg (by decide)]; exact isTrue_or_nil (hP _ _ h1 hh tk gn hq rfl R1)
theorem stb_and {a : Expr} {r : List Expr} {pos} {ma mb : ME} (ha : ST F a ma) (hb : STB F .And r pos mb) : STB F .And (a :: r) pos (.and ma mb) := by
  intro c d FO hg hsc ok rm l hp Q X hev whole fr s P E R hP hX
  refine PyProof.Rows.isTrue_and (ha c d FO hg hsc ok rm l hp _ X hev _ rfl fr s _ E R (fun v x h1 hh tk gn hq hx R1 => ?_) hX)
  cases hx
  cases v with
  | true => rw [if_pos rfl]; exact hb c d FO hg hsc ok rm l h1 Q X (hq.1 rfl) _ fr _ _ E R1 hP hX
  | false => rw [if_neg (by decide)]; exact hP _ _ h1 hh tk gn (hq.2 rfl) rfl R1
theorem stb_or {a : Expr} {r : List Expr} {pos} {ma mb : ME} (ha : ST F a ma) (hb : STB F .Or r pos mb) : STB F .Or (a :: r) pos (.or ma mb) := by
  intro c d FO hg hsc ok rm l hp Q X hev whole fr s P E R hP hX
  refine PyProof.Rows.isTrue_or (ha c d FO hg hsc ok rm l hp _ X hev _ rfl fr s _ E R (fun v x h1 hh tk gn hq hx R1 => ?_) hX)
  cases hx
  cases v with
  | true => rw [if_pos rfl]; exact hP _ _ h1 hh tk gn (hq.1 rfl) rfl R1
  | false => rw [if_neg (by decide)]; exact hb c d FO hg hsc ok rm l h1 Q X (hq.2 rfl) _ fr _ _ E R1 hP hX
theorem st_of {o : BoolOp} {es : List Expr} {pos} {m : ME} (h : STB F o es pos m) : ST F (.BoolOp o es pos) m :=
  fun c d FO hg hsc ok rm l hp Q X hev whole _ => h c d FO hg hsc ok rm l hp Q X hev whole
end
noncomputable def rO (o : Out) (f : Flow) : Prop :=
  match o, f with
  | .next, .next => True
  | .brk, .brk => True
  | .ret v, .ret x => absV x = v
  | _, _ => False
noncomputable def WS (c : Cx) (names : List Str) (l : List V) (t : Sem Flow) (hp : HP) (Q : Out → List V → HP → Prop) (X : XT) : Prop :=
  c.cp = none → ∀ (fr : List (Addr × Obj)) (s : Shared) (P : Flow → Shared → Prop) (E : Value → Shared → Prop), Rep c names l hp fr s.heap s.gens →
    (∀ o f l' hp' h' tk' gn', Q o l' hp' → rO o f → Rep c names l' hp' fr h' gn' → P f { s with heap := h', toks := tk', gens := gn' }) →
    (∀ l', XP c names l' fr X E s) →
    wpAny (model c.g.prog c.g.w) c.A t P E s
noncomputable def SS (F : Fx) (st : Stmt) (m : MS) : Prop := ∀ c d, F.Ok → c.g = F.g → SCF c F → c.Ok → room c d → ∀ l hp Q X, exec F.g d m l hp Q X → WS c F.names l (PySem.exec st c.env) hp Q X
noncomputable def SB (F : Fx) (b : List Stmt) (m : MS) : Prop := ∀ c d, F.Ok → c.g = F.g → SCF c F → c.Ok → room c d → ∀ l hp Q X, exec F.g d m l hp Q X → WS c F.names l (execs b c.env) hp Q X
theorem lset_get {v : V} : ∀ {l : List V} {i j : Nat} {w : V}, (lset l i v)[j]? = some w → (j = i ∧ w = v) ∨ (j ≠ i ∧ l[j]? = some w)
  | [], _, _, _, h => nomatch (show (none : Option V) = some _ from h)
  | _ :: _, 0, 0, _, h => .inl ⟨rfl, (Option.some.inj h).symm⟩
  | _ :: _, 0, j + 1, _, h => .inr ⟨Nat.succ_ne_zero j, h⟩
  | _ :: _, i + 1, 0, _, h => .inr ⟨(Nat.succ_ne_zero i).symm, h⟩
  | _ :: r, i + 1, j + 1, _, h => (lset_get (l := r) (i := i) (j := j) h).imp (fun h => ⟨congrArg (· + 1) h.1, h.2⟩) fun h => ⟨fun e => h.1 (Nat.succ.inj e), h.2⟩
theorem Loc.set {cl : List (Str × Addr)} {names : List Str} {l : List V} {m : Str → Option Value} {i : Nat} {x : Str} {v : V} {val : Value} (nd : names.Nodup) (lo : Loc cl names l m) (hx : names[i]? = some x) (hv : absV val = v) :
    Loc cl names (lset l i v) (fun y => if y = x then some val else m y) := by
  intro j y w hy hw hn
  rcases lset_get hw with ⟨rfl, rfl⟩ | ⟨hne, hw⟩
  · rw [hx] at hy; cases hy
    exact .inr ⟨fun a e => by rw [e] at hv; cases val <;> simp [absV] at hv, val, by simp, hv⟩
  · have : y ≠ x := by
      intro e; subst e
      apply hne
      have h1 := (List.getElem?_eq_some_iff.mp hy)
      have h2 := (List.getElem?_eq_some_iff.mp hx)
      obtain ⟨a1, b1⟩ := h1
      obtain ⟨a2, b2⟩ := h2
      exact (List.getElem_inj nd).mp (b1.trans b2.symm)
    rcases lo j y w hy hw hn with h0 | ⟨h0, u, h1, h2⟩
    · exact .inl h0
    · exact .inr ⟨h0, u, by simp [this, h1], h2⟩
theorem noC {c : Cx} (h : c.cp = none) {it : Addr} : ∀ k, c.cp = some k → k.C ≠ it := fun k e => by rw [h] at e; cases e
theorem LocX.drop {c : Cx} {names l m fr} {it : Addr} {o : Obj} (h : LocX c names l m ((it, o) :: fr)) (hC : ∀ k, c.cp = some k → k.C ≠ it) : LocX c names l m fr := by
  unfold LocX at h ⊢
  cases e : c.cp with
  | none => rw [e] at h; exact h
  | some k =>
    rw [e] at h
    refine Gen fun Gq9 back => ?_
    rcases h with ⟨a, oC, m₂, b, r⟩
    refine back ?_
    clear back
    clear Gq9
    refine ⟨a, oC, m₂, ?_, r⟩
    rcases List.mem_cons.mp b with q | q
    · cases q; exact absurd rfl (hC k e)
    · exact q
theorem LocX.push {c : Cx} {names l m fr} {p : Addr × Obj} (h : LocX c names l m fr) : LocX c names l m (p :: fr) := h.sub fun _ => .tail _
theorem storeS {F : Fx} {c : Cx} (FO : F.Ok) (hsc : SCF c F) (ok : c.Ok) (hcp : c.cp = none) {x : Str} {i : Nat} {l hp fr} {s : Shared} {v : V} {val : Value} {P : Unit → Shared → Prop} {E : Value → Shared → Prop}
    (hi : F.names[i]? = some x) (hk : F.sc.names.lookup x = some .local) (R : Rep c F.names l hp fr s.heap s.gens) (hv : absV val = v)
    (h : ∀ h' tk' gn', Rep c F.names (lset l i v) hp fr h' gn' → P () { s with heap := h', toks := tk', gens := gn' }) :
    wpAny (model c.g.prog c.g.w) c.A (storeName c.env x val) P E s := by
  refine Gen fun Gq9 back => ?_
  rcases R.parts with ⟨g, m, news, T, Fm, lo, H, N, D⟩
  refine back ?_
  clear back
  clear Gq9
  rw [c.env_plain hcp]
  refine storeX_L Fm N (fun h' F' N' => h h' _ _ (Rep.of T F' ((LocX.plain hcp).mpr (((LocX.plain hcp).mp lo).set FO.nd hi hv)) H N' D)) ok.fkind (by show c.fsc.names.lookup x = _; rw [← c.sc_plain hcp, hsc.1]; exact hk)
noncomputable def compE : Expr → Bool
  | .ListComp .. => true
  | .SetComp .. => true
  | .DictComp .. => true
  | _ => false
theorem swaps_plain {e : Expr} (h : compE e = false) (t : Option Expr) (n : Nat) (env : Env) : swapsWith e t n env = pure false := by
  cases e <;> first | rfl | (exact absurd h (by simp [compE]))
section
variable {F : Fx}
theorem sb_nil : SB F [] .skip := by
  intro c d FO hg hsc ok rm l hp Q X hev hcp fr s P E R hP hX
  exact wpAny_execs_nil (hP .next .next l hp s.heap s.toks s.gens hev trivial R)
theorem sb_cons {st : Stmt} {r : List Stmt} {m mr : MS} (h : SS F st m) (hr : SB F r mr) : SB F (st :: r) (.seq m mr) := by
  intro c d FO hg hsc ok rm l hp Q X hev hcp fr s P E R hP hX
  refine wpAny_execs_cons (h c d FO hg hsc ok rm l hp _ X hev hcp fr s _ E R (fun o f l1 h1 hh tk gn hq hf R1 => ?_) hX)
  cases o with
  | next =>
    cases f <;> first | exact hf.elim | skip
    exact hr c d FO hg hsc ok rm l1 h1 Q X hq hcp fr _ _ E R1 hP hX
  | brk =>
    cases f <;> first | exact hf.elim | skip
    exact hP .brk .brk l1 h1 hh tk gn hq trivial R1
  | ret v =>
    cases f <;> first | exact hf.elim | skip
    exact hP (.ret v) _ l1 h1 hh tk gn hq hf R1
theorem ss_asg {x : Str} {p pos : Pos} {i : Nat} {e : Expr} {m : ME} (hi : F.names[i]? = some x) (hk : F.sc.names.lookup x = some .local) (hc : compE e = false) (he : SE F e m) : SS F (.Assign [.Name x p] e pos) (.asg i m) := by
  intro c d FO hg hsc ok rm l hp Q X hev hcp fr s P E R hP hX
  refine wpAny_Assign_Name (he c d FO hg hsc ok rm l hp _ X hev fr s _ E R (fun v y h1 hh tk gn hq hy R1 => ?_) (hX l)) (swaps_plain hc _ _ _)
  exact storeS FO hsc ok hcp hi hk R1 hy fun h' tk' gn' R' => hP .next .next _ h1 h' tk' gn' hq trivial R'
theorem ibinS {o : Operator} {b : BOp} (ho : opOf o = some b) (hno : b = .add ∨ b = .sub ∨ b = .mul ∨ b = .fdiv ∨ b = .mod ∨ b = .shr ∨ b = .band) {c : Cx} {d : Nat} (ok : c.Ok) (rm : room c d) {names l hp Q X} {v w : V} {x y : Value}
    (h : augV b v w hp Q) (hx : absV x = v) (hy : absV y = w) : W rV c names l (inplaceOp o x y) hp Q X := by
  intro fr s P E R hP hX
  obtain ⟨i, j, rfl, rfl⟩ : ∃ i j, v = .int i ∧ w = .int j := by cases v <;> first | exact h.elim | (cases w <;> first | exact h.elim | exact ⟨_, _, rfl, rfl⟩)
  · obtain ⟨t, rfl⟩ := absV_int hx
    obtain ⟨u, rfl⟩ := absV_int hy
    obtain ⟨hok, hq⟩ := h
    cases o <;> first | (injection ho; done) | (injection ho with ho; subst ho)
    · exact PyProof.Rows.iadd_int (hP _ _ hp s.heap _ _ hq rfl R)
    · exact PyProof.Rows.isub_int (hP _ _ hp s.heap _ _ hq rfl R)
    · exact PyProof.Rows.imul_int (hP _ _ hp s.heap _ _ hq rfl R) hok
    · exact imod_int hok (hP _ _ hp s.heap _ _ hq rfl R)
    · simp at hno
    · simp at hno
    · exact irshift_int hok (hP _ _ hp s.heap _ _ hq rfl R)
    · exact iand_int (hP _ _ hp s.heap _ _ hq rfl R)
    · exact ifloordiv_int hok (hP _ _ hp s.heap _ _ hq rfl R) (.inr (pylong ok rm R))
theorem ss_aug {x : Str} {p pos : Pos} {i : Nat} {o : Operator} {b : BOp} {e : Expr} {m : ME} (ho : opOf o = some b) (hno : b = .add ∨ b = .sub ∨ b = .mul ∨ b = .fdiv ∨ b = .mod ∨ b = .shr ∨ b = .band)
    (hi : F.names[i]? = some x) (hk : F.sc.names.lookup x = some .local) (he : SE F e m) : SS F (.AugAssign (.Name x p) o e pos) (.aug i b m) := by
  intro c d FO hg hsc ok rm l hp Q X hev hcp fr s P E R hP hX
  obtain ⟨⟨hn, hnc⟩, hev⟩ := varV_iff.mp hev
  refine Gen fun Gq9 back => ?_
  rcases R.locals hi rfl hn hnc with ⟨m', val, hns, hm, hab⟩
  refine back ?_
  clear back
  clear Gq9
  refine wpAny_AugAssign_Name (wpAny_loadName_local (by rw [c.env_scope]; exact ok.kind) (by rw [c.env_kindOf, hsc.1]; exact hk) hns hm ?_)
  refine he c d FO hg hsc ok rm l hp _ X hev fr s _ E R (fun v y h1 hh tk gn hq hy R1 => ?_) (hX l)
  refine ibinS ho hno ok rm hq hab hy fr _ _ E R1 (fun u z h2 hh2 tk2 gn2 hq2 hz R2 => ?_) (hX l)
  exact storeS FO hsc ok hcp hi hk R2 hz fun h' tk' gn' R' => hP .next .next _ h2 h' tk' gn' hq2 trivial R'
theorem ss_if {t : Expr} {a b : List Stmt} {pos : Pos} {mt : ME} {ma mb : MS} (ht : ST F t mt) (ha : SB F a ma) (hb : SB F b mb) : SS F (.If t a b pos) (.ite mt ma mb) := by
  intro c d FO hg hsc ok rm l hp Q X hev hcp fr s P E R hP hX
  refine wpAny_If (ht c d FO hg hsc ok rm l hp _ X hev _ rfl fr s _ E R (fun v y h1 hh tk gn hq hy R1 => ?_) (hX l))
  cases hy
  cases v with
  | true => rw [if_pos rfl]; exact ha c d FO hg hsc ok rm l h1 Q X (hq.1 rfl) hcp fr _ _ E R1 hP hX
  | false => rw [if_neg (by decide)]; exact hb c d FO hg hsc ok rm l h1 Q X (hq.2 rfl) hcp fr _ _ E R1 hP hX
theorem ss_ret {e : Expr} {pos : Pos} {m : ME} (he : SE F e m) : SS F (.Return (some e) pos) (.ret m) := by
  intro c d FO hg hsc ok rm l hp Q X hev hcp fr s P E R hP hX
  exact wpAny_Return_some (he c d FO hg hsc ok rm l hp _ X hev fr s _ E R (fun v y h1 hh tk gn hq hy R1 => hP (.ret v) (.ret y) l h1 hh tk gn hq hy R1) (hX l))
theorem ss_brk {pos : Pos} : SS F (.Break pos) .brk := by
  intro c d FO hg hsc ok rm l hp Q X hev hcp fr s P E R hP hX
  exact wpAny_Break (hP .brk .brk l hp s.heap s.toks s.gens hev trivial R)
theorem noXP {c : Cx} {names l fr E s} : XP c names l fr noX E s := fun _ _ _ _ _ _ h => h.elim
theorem ss_while {t : Expr} {a b : List Stmt} {pos : Pos} {mt : ME} {ma mb : MS} (ht : ST F t mt) (ha : SB F a ma) (hb : SB F b mb) : SS F (.While t a b pos) (.whil mt ma mb) := by
  intro c d FO hg hsc ok rm l hp Q X hev hcp fr s P E R hP hX
  refine Gen fun Gq9 back => ?_
  rcases hev with ⟨I, ⟨n, h0⟩, step⟩
  refine back ?_
  clear back
  clear Gq9
  refine wpAny_While (codeAny_whileLoop (fun n s' => ∃ l' hp' h' tk' gn', I n l' hp' ∧ Rep c F.names l' hp' fr h' gn' ∧ s' = { s with heap := h', toks := tk', gens := gn' }) ?_ n ⟨l, hp, s.heap, s.toks, s.gens, h0, R, rfl⟩)
  intro n s' qz5
  refine Gen fun Gq9 back => ?_
  rcases qz5 with ⟨l1, hp1, hh1, tk1, gn1, hI, R1, hz6⟩
  refine back ?_
  clear back
  clear Gq9
  subst hz6
  refine ht c d FO hg hsc ok rm l1 hp1 _ noX (step n l1 hp1 hI) _ rfl fr _ _ _ R1 (fun v y h2 hh2 tk2 gn2 hq hy R2 => ?_) noXP
  cases hy
  cases v with
  | true =>
    rw [if_pos rfl]
    refine ha c d FO hg hsc ok rm l1 h2 _ noX (hq.1 rfl) hcp fr _ _ _ R2 (fun o f l3 h3 hh3 tk3 gn3 hq3 hf R3 => ?_) fun _ => noXP
    cases o with
    | next =>
      cases f <;> first | exact hf.elim | skip
      obtain ⟨k, hk, hI3⟩ := hq3
      exact ⟨k, hk, l3, h3, hh3, tk3, gn3, hI3, R3, rfl⟩
    | brk =>
      cases f <;> first | exact hf.elim | skip
      exact hP .next .next l3 h3 hh3 tk3 gn3 hq3 trivial R3
    | ret v =>
      cases f <;> first | exact hf.elim | skip
      exact hP (.ret v) _ l3 h3 hh3 tk3 gn3 hq3 hf R3
  | false =>
    rw [if_neg (by decide)]
    exact hb c d FO hg hsc ok rm l1 h2 _ noX (hq.2 rfl) hcp fr _ _ _ R2 (fun o f l3 h3 hh3 tk3 gn3 hq3 hf R3 => hP o f l3 h3 hh3 tk3 gn3 hq3 hf R3) fun _ => noXP
theorem Rep.iter {c : Cx} {names l hp fr h h'} {it : Addr} {o o' : Obj} (R : Rep c names l hp ((it, o) :: fr) h gn) (hC : ∀ k, c.cp = some k → k.C ≠ it) (hs : ∀ b ob, b ≠ it → h.get? b = some ob → h'.get? b = some ob) (ho : h'.get? it = some o') (hfr : ∀ p ∈ fr, p.1 ≠ it) :
    Rep c names l hp ((it, o') :: fr) h' gn := by
  refine Gen fun Gq9 back => ?_
  rcases R with ⟨g, T, m, Fm, lo, H, N, D⟩
  refine back ?_
  clear back
  clear Gq9
  have hi := N (it, o) (.head _)
  refine ⟨g, T, m, ⟨Fm.ns.at' fun ob e => hs _ _ (Ne.symm hi.2.1) e, fun b ob e => hs b ob (fun q => by rw [q, hi.2.2] at e; cases e) (Fm.keep b ob e), Fm.above⟩, (lo.drop hC).push, ⟨H.1, fun a x hx => ?_⟩, fun p hp' => ?_, fun p hp' => ?_⟩
  · have := H.2 a x hx
    have hne : a ≠ it := by
      intro e
      have := D (it, o) (.head _)
      rw [← e] at this
      rw [this] at hx; cases hx
    cases x with
    | ro vs => exact this
    | list vs => obtain ⟨ob, h1, h2⟩ := this; exact ⟨ob, hs _ _ hne h1, h2⟩
    | tup vs => obtain ⟨ob, h1, h2⟩ := this; exact ⟨ob, hs _ _ hne h1, h2⟩
    | cell vs => obtain ⟨ob, h1, h2⟩ := this; exact ⟨ob, hs _ _ hne h1, h2⟩
    | rng _ _ _ => obtain ⟨ob, h1, h2⟩ := this; exact ⟨ob, hs _ _ hne h1, h2⟩
    | dict _ => obtain ⟨ob, h1, h2⟩ := this; exact ⟨ob, hs _ _ hne h1, h2⟩
    | tab => obtain ⟨ob, h1, h2⟩ := this; exact ⟨ob, hs _ _ hne h1, h2⟩
  · cases hp' with
    | head => exact ⟨ho, hi.2⟩
    | tail _ hp' => exact ⟨hs _ _ (hfr p hp') (N p (.tail _ hp')).1, (N p (.tail _ hp')).2⟩
  · cases hp' with
    | head => exact D (it, o) (.head _)
    | tail _ hp' => exact D p (.tail _ hp')
theorem Rep.drop {c : Cx} {names l hp fr h h'} {it : Addr} {o : Obj} (R : Rep c names l hp ((it, o) :: fr) h gn) (hC : ∀ k, c.cp = some k → k.C ≠ it) (hs : ∀ b ob, b ≠ it → h.get? b = some ob → h'.get? b = some ob) (hfr : ∀ p ∈ fr, p.1 ≠ it) :
    Rep c names l hp fr h' gn := by
  refine Gen fun Gq9 back => ?_
  rcases R with ⟨g, T, m, Fm, lo, H, N, D⟩
  refine back ?_
  clear back
  clear Gq9
  have hi := N (it, o) (.head _)
  refine ⟨g, T, m, ⟨Fm.ns.at' fun ob e => hs _ _ (Ne.symm hi.2.1) e, fun b ob e => hs b ob (fun q => by rw [q, hi.2.2] at e; cases e) (Fm.keep b ob e), Fm.above⟩, lo.drop hC, ⟨H.1, fun a x hx => ?_⟩, fun p hp' => ?_, fun p hp' => D p (.tail _ hp')⟩
  · have := H.2 a x hx
    have hne : a ≠ it := by
      intro e
      have := D (it, o) (.head _)
      rw [← e] at this
      rw [this] at hx; cases hx
    cases x with
    | ro vs => exact this
    | list vs => obtain ⟨ob, h1, h2⟩ := this; exact ⟨ob, hs _ _ hne h1, h2⟩
    | tup vs => obtain ⟨ob, h1, h2⟩ := this; exact ⟨ob, hs _ _ hne h1, h2⟩
    | cell vs => obtain ⟨ob, h1, h2⟩ := this; exact ⟨ob, hs _ _ hne h1, h2⟩
    | rng _ _ _ => obtain ⟨ob, h1, h2⟩ := this; exact ⟨ob, hs _ _ hne h1, h2⟩
    | dict _ => obtain ⟨ob, h1, h2⟩ := this; exact ⟨ob, hs _ _ hne h1, h2⟩
    | tab => obtain ⟨ob, h1, h2⟩ := this; exact ⟨ob, hs _ _ hne h1, h2⟩
  · exact ⟨hs _ _ (hfr p hp') (N p (.tail _ hp')).1, (N p (.tail _ hp')).2⟩
theorem Rep.push {c : Cx} {names l hp fr h} (ok : c.Ok) (R : Rep c names l hp fr h gn) (o : Obj) (hf : o.isFreed = false) : Rep c names l hp ((h.objs.size, o) :: fr) (h.push o) gn := by
  obtain ⟨f1, f2⟩ := R.fresh ok
  refine Gen fun Gq9 back => ?_
  rcases R.parts with ⟨g, m, news, T, Fm, lo, H, N, D⟩
  refine back ?_
  clear back
  clear Gq9
  have N2 := N.push Fm o hf
  refine ⟨g, T, m, Fm.push o, lo.push, HpN.rep (c := c.at g) H fun p hp' => N2 p (.tail _ (List.mem_append_left _ hp')), fun p hp' => ?_, fun p hp' => ?_⟩
  · cases hp' with
    | head => exact N2 _ (.head _)
    | tail _ hp' => exact N2 p (.tail _ (List.mem_append_right _ hp'))
  · cases hp' with
    | head => exact f1
    | tail _ hp' => exact D p hp'
end
noncomputable def Stl (A : Around) (h : Heap) : Prop := ∃ e oe vs, A.handled = some (.ref e) ∧ h.get? e = some oe ∧ oe.data = .fields vs ∧ vs[2]? = some .none
theorem Stl.keeps {A : Around} {h h' : Heap} (S : Stl A h) (k : ∀ b o, h.get? b = some o → h'.get? b = some o) : Stl A h' :=
  let ⟨e, oe, vs, a, b, c, d⟩ := S; ⟨e, oe, vs, a, k _ _ b, c, d⟩
theorem entry_unchain : entryFor table "proto.unchain" = some Builtin.«proto.unchain» := entryFor_of_fast (by kernel_rfl)
section
variable {prog : Program} {w : World} {A : Around} {E : Value → Shared → Prop} {s : Shared}
theorem unchain_none {x : Value} {e : Addr} {oe : Obj} {vs : Array Value} {Q : Value → Shared → Prop} (he : s.heap.get? e = some oe) (hd : oe.data = .fields vs) (h2 : vs[2]? = some .none) (h : Q .none s) :
    wpAny (model prog w) A (runValue (.builtin "proto.unchain" ⟨[x, .ref e, .ref e, .bool false], []⟩)) Q E s := by
  refine runValue_entry entry_unchain ?_
  show wpAny _ _ (field (.ref e) 2 >>= _) _ _ s
  refine wpAny_bind (wpAny_field he hd h2 ?_)
  exact wpAny_pure ⟨_, rfl, h⟩
theorem raise_any {α : Type} {a : Addr} {oa : Obj} {va : Array Value} {Q : α → Shared → Prop} (S : A.handled = none ∨ Stl A s.heap) (ha : s.heap.get? a = some oa) (hda : oa.data = .fields va) (hs : 2 < va.size) (hne : ∀ e, A.handled = some (.ref e) → e ≠ a)
    (h : ∀ h', (∃ o, h'.get? a = some o ∧ o.cls = oa.cls) → (∀ b o, b ≠ a → s.heap.get? b = some o → h'.get? b = some o) → E (.ref a) { s with heap := h' }) : wpAny (model prog w) A (raiseNew (.ref a) : Sem α) Q E s := by
  refine wpAny_bind (m := handled) (wpAny_handled ?_)
  rcases S with S | ⟨e, oe, vs, hh, he, hd, h2⟩
  · rw [S]
    exact wpAny_bind (wpAny_pure (wpAny_throw (h _ ⟨oa, ha, rfl⟩ fun _ _ _ e => e)))
  · rw [hh]
    have hn := hne e hh
    show wpAny _ _ (if (Value.ref e != Value.ref a) = true then _ else _) _ _ _
    rw [if_pos (by simpa using hn)]
    refine wpAny_bind (wpAny_holding (unchain_none he hd h2 ?_))
    refine wpAny_bind ?_
    show wpAny _ _ (setField (.ref a) 2 (.ref e)) _ _ _
    refine wpAny_setField ha hda hs (wpAny_throw (h _ ⟨_, Heap.get?_update_self _ ha (Obj.isFreed_of_fields (Obj.data_mapFields hda _)), Obj.cls_mapFields _ _⟩ fun b o hb e => ?_))
    rw [Heap.get?_update_other _ _ (Ne.symm hb)]; exact e
theorem stop_any {α : Type} {Q : α → Shared → Prop} (S : A.handled = none ∨ Stl A s.heap)
    (h : ∀ e h', (∃ o, h'.get? e = some o ∧ o.cls = .type "StopIteration") → (∀ b o, s.heap.get? b = some o → h'.get? b = some o) → E (.ref e) { s with heap := h' }) :
    wpAny (model prog w) A (newExc (.type "StopIteration") [] >>= fun e => (raiseNew e : Sem α)) Q E s := by
  refine wpAny_bind ?_
  simp only [newExc, newTuple]
  refine wpAny_bind (wpAny_newObj_type ?_ (by size_fits))
  refine wpAny_bind (m := firstArgMember _ _) (wpAny_of_eq (a := Value.none) (by first | rfl | (simp only [firstArgMember]; rfl)) ?_)
  refine wpAny_newObj_type ?_ (by size_fits)
  have keep : ∀ (o1 o2 : Obj) b o, s.heap.get? b = some o → ((s.heap.push o1).push o2).get? b = some o := fun _ _ b o e => Heap.get?_push_of_some _ (Heap.get?_push_of_some _ e)
  refine raise_any (S.imp_right fun S => S.keeps (keep _ _)) (Heap.get?_push_size _ rfl) rfl (by rw [Array.size_append]; exact Nat.lt_of_lt_of_le (show 2 < 6 by decide) (Nat.le_add_right _ _)) (fun e hh q => ?_) fun h' ho hk => h _ h' ho fun b o e => hk b o (fun q => ?_) (keep _ _ b o e)
  · rcases S with S | ⟨e', oe, vs, hh', he, _⟩
    · rw [S] at hh; injection hh
    · rw [hh'] at hh
      cases hh
      have := Heap.lt_size he
      rw [q] at this
      exact absurd this (by rw [Heap.size_push]; exact Nat.not_lt.mpr (Nat.le_succ _))
  · have := Heap.lt_size e
    rw [q] at this
    exact absurd this (by rw [Heap.size_push]; exact Nat.not_lt.mpr (Nat.le_succ _))
theorem range_end_any {it : Addr} {x left step : Int} {Q : Option Value → Shared → Prop} (S : A.handled = none ∨ Stl A s.heap) (hit : IsRangeIter s.heap it x left step) (hleft : left ≤ 0)
    (hQ : ∀ h', Heap.ExtBut it s.heap h' → Q none { s with heap := h' }) : wpAny (model prog w) A (pyNext (.ref it)) Q E s := by
  have hT : s.TypeIs (.ref it) "range_iterator" := ⟨_, hit, rfl⟩
  unfold pyNext
  refine wpAny_bind (wpAny_attempt (wpAny_callSpecial?_slot (name := Str.ofString "__next__") hT F.slot_range_iterator_next
    (wpAny_call_entry F.slot_range_iterator_next hT F.entry_range_iterator_next ?_ (F.args_range_iterator_next_1 _))))
  show wpAny _ _ (field (.ref it) 0 >>= _) _ _ s
  refine wpAny_bind (wpAny_field hit rfl (x := rawInt x) rfl ?_)
  show wpAny _ _ (field (.ref it) 1 >>= _) _ _ s
  refine wpAny_bind (wpAny_field hit rfl (x := rawInt left) rfl ?_)
  show wpAny _ _ (field (.ref it) 2 >>= _) _ _ s
  refine wpAny_bind (wpAny_field hit rfl (x := rawInt step) rfl ?_)
  show wpAny _ _ (if left ≤ 0 then _ else _) _ _ s
  rw [if_pos hleft]
  refine wpAny_bind (wpAny_rule ?_)
  refine wpAny_bind ?_
  refine stop_any S fun e h' he hk => ?_
  refine wpAny_bind (wpAny_isInstance (T := "StopIteration") (b := true) he isSubtype_stop ?_)
  exact wpAny_pure (hQ _ fun b o _ e => hk b o e)
theorem tuple_end_any {it t : Addr} {i : Nat} {items : Array Value} {Q : Option Value → Shared → Prop} (S : A.handled = none ∨ Stl A s.heap)
    (hit : IsTupIter s.heap it t i) (ht : IsTup s.heap t items) (hx : items[i]? = none)
    (hQ : ∀ h', Heap.ExtBut it s.heap h' → Q none { s with heap := h' }) : wpAny (model prog w) A (pyNext (.ref it)) Q E s := by
  refine Gen fun Gq9 back => ?_
  rcases id hit with ⟨o, ho, hc, hd⟩
  refine back ?_
  clear back
  clear Gq9
  refine Gen fun Gq9 back => ?_
  rcases ht with ⟨ol, hol, _, nl, hdl⟩
  refine back ?_
  clear back
  clear Gq9
  unfold pyNext
  refine wpAny_bind (wpAny_attempt (wpAny_callSpecial?_slot (name := Str.ofString "__next__") hit.typeIs slot_tupleiter_next
    (wpAny_call_entry slot_tupleiter_next hit.typeIs entry_tupleiter_next ?_ (args_tupleiter_next _))))
  show wpAny _ _ (field (.ref it) 0 >>= _) _ _ s
  refine wpAny_bind (wpAny_field ho hd (x := .ref t) rfl ?_)
  show wpAny _ _ (if (Value.ref t == Value.none) = true then _ else _) _ _ s
  rw [if_neg (show ¬ ((Value.ref t == Value.none) = true) from Bool.false_ne_true)]
  show wpAny _ _ (field (.ref it) 1 >>= _) _ _ s
  refine wpAny_bind (wpAny_field ho hd (x := .int i 0) rfl ?_)
  show wpAny _ _ (seqItems? (.ref t) >>= _) _ _ s
  refine wpAny_bind (wpAny_seqItems hol hdl ?_)
  simp only [Int.toNat_natCast, hx]
  refine wpAny_bind (wpAny_rule (wpAny_bind (wpAny_setField ho hd (by simp) ?_)))
  have keep : ∀ b o', b ≠ it → s.heap.get? b = some o' → (s.heap.update it (Obj.mapFields (·.setIfInBounds 0 Value.none))).get? b = some o' := fun b o' hb e => by
    rw [Heap.get?_update_other _ _ (Ne.symm hb)]; exact e
  refine stop_any (S.imp_right fun S => ?_) fun e h' he hk => ?_
  · refine Gen fun Gq9 back => ?_
    rcases S with ⟨e, oe, vs, a, b, c, d⟩
    refine back ?_
    clear back
    clear Gq9
    refine ⟨e, oe, vs, a, keep _ _ (fun q => ?_) b, c, d⟩
    rw [q, ho] at b
    cases b
    rw [hd] at c
    cases c
    cases d
  · refine wpAny_bind (wpAny_isInstance (T := "StopIteration") (b := true) he isSubtype_stop ?_)
    exact wpAny_pure (hQ _ fun b o hb e => hk b o (keep b o hb e))
theorem unpackItems_any {t : Addr} {items : Array Value} {Q : List Value → Shared → Prop} (S : A.handled = none ∨ Stl A s.heap) (ht : IsTup s.heap t items)
    (hQ : ∀ h', Heap.ExtBut s.heap.objs.size s.heap h' → Q items.toList { s with heap := h' }) : wpAny (model prog w) A (unpackItems (.ref t) items.size none) Q E s := by
  have hlt : t ≠ s.heap.objs.size := by obtain ⟨o, ho, _⟩ := ht; exact Nat.ne_of_lt (Heap.lt_size ho)
  unfold unpackItems
  refine wpAny_bind ?_
  unfold notIterableAtAll
  refine wpAny_bind (wpAny_specialOf ht.typeIs slot_tuple_iter.lookup (wpAny_pure ?_))
  simp only [Bool.false_eq_true, if_false]
  refine wpAny_bind (wpAny_holding (iter_tuple ht ?_))
  refine wpAny_bind (wpAny_holding (draw_tuple hlt items.size 0 _ _ ⟨_, Heap.get?_push_size _ rfl, rfl, rfl⟩ (ht.push _) (by (first | lia | omega)) fun h₁ hit₁ hs₁ => ?_))
  rw [show List.take items.size (List.drop 0 items.toList) = items.toList by rw [List.drop_zero]; exact List.take_of_length_le (by simp), if_neg (by simp)]
  have keep : ∀ b o, s.heap.get? b = some o → h₁.get? b = some o := fun b o e => hs₁.extBut b o (fun q => absurd (Heap.lt_size e) (by rw [q]; exact Nat.lt_irrefl _)) (Heap.get?_push_of_some _ e)
  refine wpAny_bind (wpAny_holding (tuple_end_any (S.imp_right fun S => S.keeps keep) hit₁ ((ht.push _).extBut hs₁.extBut hlt) (by simp) fun h₂ he₂ => ?_))
  simp only [Option.isSome_none, Bool.false_eq_true, if_false]
  exact wpAny_pure (hQ h₂ fun b o hb e => he₂ b o hb (keep b o e))
theorem unpackN_any {env : Env} {h₀ : Heap} {L : Addr} {m : Str → Option Value} {news : List (Addr × Obj)} {elts : List Expr} {k} {pos : Pos} {t : Addr} {items : Array Value} {Q : Unit → Shared → Prop} (F : Fr h₀ L s.heap m) (N : News h₀ L s.heap news) (ht : IsTup s.heap t items)
    (S : A.handled = none ∨ Stl A s.heap) (hn : (assignEach elts env).length = items.size) (hstar : (assignEach elts env).findIdx? (·.1) = none)
    (h : ∀ h', Fr h₀ L h' m → News h₀ L h' news → wpAny (model prog w) A (assignInOrder ((assignEach elts env).map (·.2)) items.toList) Q E { s with heap := h' }) :
    wpAny (model prog w) A (assign (.Tuple elts k pos) env (.ref t)) Q E s := by
  rw [assign_Tuple]
  refine wpAny_bind (wpAny_standAt ?_)
  unfold unpack
  rw [hn, hstar]
  exact wpAny_bind (wpAny_holding (unpackItems_any S ht fun h' he => h h' (F.extBut he (Nat.le_refl _)) (N.extBut he (Nat.le_refl _))))
theorem unpackItemsN_any {h₀ : Heap} {L : Addr} {m : Str → Option Value} {news : List (Addr × Obj)} {t : Addr} {items : Array Value} {n : Nat} {Q : List Value → Shared → Prop} (F : Fr h₀ L s.heap m) (N : News h₀ L s.heap news) (ht : IsTup s.heap t items)
    (S : A.handled = none ∨ Stl A s.heap) (hn : n = items.size) (h : ∀ h', Fr h₀ L h' m → News h₀ L h' news → Q items.toList { s with heap := h' }) : wpAny (model prog w) A (unpackItems (.ref t) n none) Q E s := by
  subst hn
  exact unpackItems_any S ht fun h' he => h h' (F.extBut he (Nat.le_refl _)) (N.extBut he (Nat.le_refl _))
end
theorem Ctl.keeps {h h' : Heap} {e : Addr} (S : Ctl h e) (k : ∀ o, h.get? e = some o → h'.get? e = some o) : Ctl h' e :=
  let ⟨oe, vs, a, b, c⟩ := S; ⟨oe, vs, k _ a, b, c⟩
section
variable {M : Model} {A : Around} {E : Value → Shared → Prop} {s : Shared} {base : Heap} {env : Env} {outer : List Env} {L e : Addr} {oe : Obj} {vs : Array Value} {cls a0 fl : Value}
theorem entryX {head : Value} {hadNext : Bool} {Q : Unit → Shared → Prop}
    (hfr : A.frames = some (env :: outer)) (hl : s.heap.FunFrames base (env :: outer)) (hf : env.frame = some L)
    (he : s.heap.get? e = some oe) (hkb : base.StaysIn s.heap) (hen : base.get? e = none) (hd : oe.data = .fields vs) (hsz : 1 < vs.size) (h0 : vs[0]? = some a0) (h2 : vs[2]? = some .none)
    (h : ∀ h', Heap.NotedW base (env :: outer) e oe.cls a0 (rawInt L) s.heap h' → Ctl h' e → Q () { s with heap := h' }) :
    wpAny M A (do let a ← frameOf env; let pl ← entryPlaceOf L hadNext; let b ← EntryCells.newEntry head a .none (rawInt L) .none pl; setField (.ref e) 1 b) Q E s := by
  have nf : e ∉ (env :: outer).filterMap (·.frame) := fun hm => by
    refine Gen fun Gq9 back => ?_
    rcases hl.mem hm with ⟨_, o, ho, hn⟩
    refine back ?_
    clear back
    clear Gq9
    rw [he] at ho; cases ho; exact hn vs hd
  refine wpAny_bind (wpAny_frameOf_fun hfr hl hf fun h₁ hs => wpAny_bind (wpAny_entryPlaceOf fun pl hpl => ?_))
  unfold EntryCells.newEntry newFields
  refine wpAny_bind (wpAny_newObj_type ?_ (hpl.sizeOk5 _ _ _ _ _))
  have e1 : h₁.get? e = some oe := (hs.2.1 e nf).trans he
  have k1 : base.StaysIn h₁ := fun b o q => (hs.2.1 b fun hm => by rw [(hl.mem hm).1] at q; cases q).trans (hkb b o q)
  have hT : h₁.objs.size ≠ e := Nat.ne_of_gt (Heap.lt_size e1)
  have sh3 : ([head, .ref L, .none, rawInt L, .none] ++ (if pl.isEmpty then List.replicate 6 Value.none else pl)).toArray[3]? = some (rawInt L) := by simp
  generalize hob : ({ cls := .type "traceback", dict := none, data := .fields ([head, .ref L, .none, rawInt L, .none] ++ (if pl.isEmpty then List.replicate 6 Value.none else pl)).toArray } : Obj) = ob
  have hobd : ob.data = .fields ([head, .ref L, .none, rawInt L, .none] ++ (if pl.isEmpty then List.replicate 6 Value.none else pl)).toArray := by rw [← hob]
  have hobf : ob.isFreed = false := by rw [← hob]; rfl
  generalize ([head, .ref L, .none, rawInt L, .none] ++ (if pl.isEmpty then List.replicate 6 Value.none else pl)).toArray = ts at *
  have e2 : (h₁.push ob).get? e = some oe := Heap.get?_push_of_some _ e1
  have d3 := Obj.data_mapFields hd (·.setIfInBounds 1 (Value.ref h₁.objs.size))
  have e3 := Heap.get?_update_self (Obj.mapFields (·.setIfInBounds 1 (Value.ref h₁.objs.size))) e2 (Obj.isFreed_of_fields d3)
  have T3 := (Heap.get?_update_other (h₁.push ob) (Obj.mapFields (·.setIfInBounds 1 (Value.ref h₁.objs.size))) (Ne.symm hT)).trans (Heap.get?_push_size h₁ hobf)
  have keep : ∀ b o, b ≠ e → h₁.get? b = some o → ((h₁.push ob).update e (Obj.mapFields (·.setIfInBounds 1 (Value.ref h₁.objs.size)))).get? b = some o := fun b o hb q => by
    rw [Heap.get?_update_other _ _ (Ne.symm hb)]; exact Heap.get?_push_of_some _ q
  have ne' : ∀ b o, s.heap.get? b = some o → (∀ vs, o.data ≠ .fields vs) → b ≠ e := fun b o q hn z => by
    rw [z, he] at q; cases q; exact hn vs hd
  refine wpAny_setField e2 hd hsz (h _ ⟨fun b o q => keep b o (fun z => by rw [z, hen] at q; cases q) (k1 b o q), hl.of_keeps fun b o q hn => ?_, ?_, fun b o q hn => ?_⟩ ⟨_, _, e3, d3, by rw [Array.getElem?_setIfInBounds_ne (by decide)]; exact h2⟩)
  · obtain ⟨sl, z⟩ := hs.2.2 b o q
    exact ⟨_, keep b _ (ne' b o q hn) z, rfl⟩
  · exact ⟨_, _, h₁.objs.size, _, _, e3, ⟨Obj.cls_mapFields _ _, by rw [Array.getElem?_setIfInBounds_ne (by decide)]; exact h0⟩, d3, by simp [hsz], k1.fresh, hT, T3, hobd, sh3⟩
  · obtain ⟨sl, z⟩ := hs.2.2 b o q
    exact ⟨sl, keep b _ (ne' b o q hn) z⟩
theorem noteFirstX {Q : Unit → Shared → Prop} (hfr : A.frames = some (env :: outer)) (hl : s.heap.FunFrames base (env :: outer)) (hf : env.frame = some L)
    (he : s.heap.get? e = some oe) (hkb : base.StaysIn s.heap) (hen : base.get? e = none) (hd : oe.data = .fields vs) (h1 : vs[1]? = some .none) (h0 : vs[0]? = some a0) (h2 : vs[2]? = some .none)
    (h : ∀ h', Heap.NotedW base (env :: outer) e oe.cls a0 (rawInt L) s.heap h' → Ctl h' e → Q () { s with heap := h' }) : wpAny M A (noteFrame (.ref e) env) Q E s := by
  unfold noteFrame
  simp only [hf]
  refine wpAny_bind (wpAny_field he hd h1 ?_)
  rw [if_neg (by decide)]
  exact entryX hfr hl hf he hkb hen hd (Array.getElem?_eq_some_iff.mp h1).1 h0 h2 h
theorem noteOnX {Q : Unit → Shared → Prop} (hfr : A.frames = some (env :: outer)) (hl : s.heap.FunFrames base (env :: outer)) (hf : env.frame = some L)
    (ht : s.heap.TracedW base e cls a0) (hc : Ctl s.heap e) (hkb : base.StaysIn s.heap) (hen : base.get? e = none)
    (h : ∀ h', Heap.NotedW base (env :: outer) e cls a0 (rawInt L) s.heap h' → Ctl h' e → Q () { s with heap := h' }) : wpAny M A (noteFrame (.ref e) env) Q E s := by
  refine Gen fun Gq9 back => ?_
  rcases ht with ⟨oe, vs, T, oT, ts, he, ⟨hcls, h0⟩, hd, h1, hnT, hTe, hT, hdT, h3⟩
  refine back ?_
  clear back
  clear Gq9
  refine Gen fun Gq9 back => ?_
  rcases hc with ⟨oe', vs', he', hd', h2⟩
  refine back ?_
  clear back
  clear Gq9
  rw [he] at he'; cases he'
  rw [hd] at hd'; cases hd'
  subst hcls
  unfold noteFrame
  simp only [hf]
  refine wpAny_bind (wpAny_field he hd h1 ?_)
  rw [if_pos (show (Value.ref T != Value.none) = true from by simp)]
  refine wpAny_bind (wpAny_field hT hdT h3 ?_)
  rw [if_neg (show ¬ ((Value.none == rawInt L) = true) from by simp [rawInt])]
  refine wpAny_bind (wpAny_setField hT hdT (Array.getElem?_eq_some_iff.mp h3).1 ?_)
  have other : ∀ b, b ≠ T → (s.heap.update T (Obj.mapFields (·.setIfInBounds 3 Value.none))).get? b = s.heap.get? b := fun b hb => Heap.get?_update_other _ _ (Ne.symm hb)
  have ne' : ∀ b o, s.heap.get? b = some o → (∀ vs, o.data ≠ .fields vs) → b ≠ T := fun b o q hn z => by
    rw [z, hT] at q; cases q; exact hn ts hdT
  exact entryX hfr (hl.of_keeps fun b o q hn => ⟨o, (other b (ne' b o q hn)).trans q, rfl⟩) hf ((other e (Ne.symm hTe)).trans he)
    (fun b o q => (other b fun z => by rw [z, hnT] at q; cases q).trans (hkb b o q)) hen hd (Array.getElem?_eq_some_iff.mp h1).1 h0 h2
    fun h' ⟨x1, x2, x3, x4⟩ hc => h h' ⟨x1, x2, x3, fun b o q hn => x4 b o ((other b (ne' b o q hn)).trans q) hn⟩ hc
theorem setFlightX {l : List Env} {Q : Unit → Shared → Prop} (hkb : base.StaysIn s.heap) (hl : s.heap.FunFrames base l) (ht : s.heap.TracedAtW base e cls a0 fl) (hc : Ctl s.heap e)
    (h : ∀ h', base.StaysIn h' → h'.FunFrames base l → h'.TracedW base e cls a0 → (∀ b o, s.heap.get? b = some o → (∀ vs, o.data ≠ .fields vs) → h'.get? b = some o) → Ctl h' e → Q () { s with heap := h' }) :
    wpAny M A (setFlight (.ref e) none) Q E s := by
  refine Gen fun Gq9 back => ?_
  rcases ht with ⟨oe, vs, T, oT, ts, he, hcls, hd, h1, hnT, hTe, hT, hdT, h3⟩
  refine back ?_
  clear back
  clear Gq9
  have other : ∀ b, b ≠ T → (s.heap.update T (Obj.mapFields (·.setIfInBounds 3 ((none : Option Addr).elim Value.none fun f => rawInt f)))).get? b = s.heap.get? b := fun b hb => Heap.get?_update_other _ _ (Ne.symm hb)
  have ne' : ∀ b o, s.heap.get? b = some o → (∀ vs, o.data ≠ .fields vs) → b ≠ T := fun b o q hn z => by
    rw [z, hT] at q; cases q; exact hn ts hdT
  have hs3 : 3 < ts.size := (Array.getElem?_eq_some_iff.mp h3).1
  unfold setFlight
  refine wpAny_bind (wpAny_field he hd h1 ?_)
  rw [if_pos (show (Value.ref T != Value.none) = true from by simp)]
  refine wpAny_setField hT hdT hs3 (h _ (fun b o q => (other b fun z => by rw [z, hnT] at q; cases q).trans (hkb b o q)) (hl.of_keeps fun b o q hn => ⟨o, (other b (ne' b o q hn)).trans q, rfl⟩) ?_
    (fun b o q hn => (other b (ne' b o q hn)).trans q) (hc.keeps fun o q => (other e (Ne.symm hTe)).trans q))
  exact ⟨oe, vs, T, _, _, (other e (Ne.symm hTe)).trans he, hcls, hd, h1, hnT, hTe, Heap.get?_update_self _ hT (Obj.isFreed_of_fields (Obj.data_mapFields hdT _)), Obj.data_mapFields hdT _, by simp [hs3]⟩
theorem leavesMadeX {h : Heap} {args : List Value} {Q : Unit → Shared → Prop} (hfr : A.frames = some (env :: outer)) (hf : env.frame = some L) (hkb : base.StaysIn h) (hl : h.FunFrames base (env :: outer)) (hx : Heap.MadeExcOf h s.heap e cls args)
    (hQ : ∀ h' t, Heap.FlyingW base outer e cls (.ref t) h' → h'.TupAt t args → base.get? t = none → s.heap.UpToSlots h' → Ctl h' e → Q () { s with heap := h' }) : wpAny M A (leaving env (.ref e)) Q E s := by
  refine Gen fun Gq9 back => ?_
  rcases hx.there with ⟨t, he, htn, ht⟩
  refine back ?_
  clear back
  clear Gq9
  have fresh : ∀ b, h.get? b = none → base.get? b = none := fun b hb => by
    cases hq : base.get? b with
    | none => rfl
    | some o' => have := hkb b o' hq; rw [hb] at this; cases this
  unfold leaving
  refine wpAny_bind (noteFirstX (a0 := .ref t) hfr (hl.of_keeps fun b o hb _ => ⟨o, hx.keeps b o hb, rfl⟩) hf he (fun b o hb => hx.keeps b o (hkb b o hb)) (fresh e hx.new) rfl rfl rfl rfl fun h1 hN hc => ?_)
  refine Gen fun Gq9 back => ?_
  rcases hN with ⟨x1, x2, x3, x4⟩
  refine back ?_
  clear back
  clear Gq9
  refine setFlightX x1 x2 x3 hc fun h2 y1 y2 y3 y4 hc2 => ?_
  have up : s.heap.UpToSlots h2 := Heap.UpToSlots.trans x4 fun b o q hn => ⟨o.slots, y4 b o q hn⟩
  exact hQ h2 t ⟨y1, fresh e hx.new, y2.2.2, y3⟩ (Heap.TupAt.of_slots ⟨_, _, ht, rfl, rfl⟩ up) (fresh t htn) up hc2
theorem leavesOnX {Q : Unit → Shared → Prop} (hfr : A.frames = some (env :: outer)) (hf : env.frame = some L) (hfl : Heap.FlyingW base (env :: outer) e cls a0 s.heap) (hc : Ctl s.heap e)
    (hQ : ∀ h', Heap.FlyingW base outer e cls a0 h' → s.heap.UpToSlots h' → Ctl h' e → Q () { s with heap := h' }) : wpAny M A (leaving env (.ref e)) Q E s := by
  refine Gen fun Gq9 back => ?_
  rcases hfl with ⟨f1, f2, f3, f4⟩
  refine back ?_
  clear back
  clear Gq9
  unfold leaving
  refine wpAny_bind (noteOnX hfr f3 hf f4 hc f1 f2 fun h1 hN hc => ?_)
  refine Gen fun Gq9 back => ?_
  rcases hN with ⟨x1, x2, x3, x4⟩
  refine back ?_
  clear back
  clear Gq9
  refine setFlightX x1 x2 x3 hc fun h2 y1 y2 y3 y4 hc2 => ?_
  exact hQ h2 ⟨y1, f2, y2.2.2, y3⟩ (Heap.UpToSlots.trans x4 fun b o q hn => ⟨o.slots, y4 b o q hn⟩) hc2
end
section
variable {M : Model} {A : Around} {E : Value → Shared → Prop} {s' : Shared} {base g g₂ h : Heap} {outer : List Env} {L a e t : Addr} {m : Str → Option Value} {name : Str} {scope : Scope} {cd : Value} {Q : Unit → Shared → Prop} {news : List (Addr × Obj)}
theorem leave_raiseX {cls : Value} {vs : List Value} (K : Below A base outer g) (hx : Heap.MadeExcOf h s'.heap e cls vs) (F : Fr g L h m) (N : News g L h news)
    (hQ : ∀ h' t, RaisedS base g outer e cls t vs news h' → g.UpToSlots h' → Ctl h' e → Q () { s' with heap := h' }) (hk : scope.kind = .function := by rfl) :
    wpAny M (A.deeper (envOf name scope L a cd)) (leaving (envOf name scope L a cd) (.ref e)) Q E s' := by
  have K' := K.push (name := name) (a := a) (cd := cd) F hk
  have st : base.StaysIn (hideAll h ((envOf name scope L a cd :: outer).filterMap (·.frame))) := fun b o q => hideAll_get _ (K'.stays b o q) fun hm => by
    rw [(K'.frames.mem hm).1] at q; cases q
  have sg : ∀ b o, g.get? b = some o → b ∉ outer.filterMap (·.frame) → (hideAll h ((envOf name scope L a cd :: outer).filterMap (·.frame))).get? b = some o := fun b o q nm => hideAll_get _ (F.keep b o q) fun hm => by
    rcases kts_mem hm with z | z
    · rw [z, kts_self F] at q; cases q
    · exact nm z
  have hl : ∀ q ∈ news, (hideAll h ((envOf name scope L a cd :: outer).filterMap (·.frame))).get? q.1 = some q.2 ∧ g.get? q.1 = none ∧ base.get? q.1 = none := fun q hq => by
    obtain ⟨n1, n2, n3⟩ := N q hq
    refine ⟨hideAll_get _ n1 fun hm => ?_, n3, fresh_of_stays K.stays n3⟩
    rcases kts_mem hm with z | z
    · exact n2 z
    · obtain ⟨o, ho, _⟩ := (K.frames.mem z).2
      rw [n3] at ho; cases ho
  exact leavesMadeX K'.stack rfl (fun b o q => of_hideAll _ q) (funFrames_hide K'.frames fun env he b hb => List.mem_filterMap.mpr ⟨env, he, hb⟩) hx fun h' t x1 x2 x3 x4 x5 =>
    hQ h' t ⟨⟨_, st, sg, hl, x1, x3⟩, x2⟩ (((Heap.UpToSlots.of_keeps F.keep).trans (Heap.UpToSlots.of_keeps hx.keeps)).trans x4) x5
theorem leave_onX {cls : Value} {vs : List Value} (K : Below A base outer g) (F : Fr g L g₂ m) (R : RaisedS base g₂ (envOf name scope L a cd :: outer) e cls t vs news s'.heap) (hc : Ctl s'.heap e) (hsm : g₂.UpToSlots s'.heap)
    (hQ : ∀ h', RaisedS base g outer e cls t vs news h' → g.UpToSlots h' → Ctl h' e → Q () { s' with heap := h' }) :
    wpAny M (A.deeper (envOf name scope L a cd)) (leaving (envOf name scope L a cd) (.ref e)) Q E s' := by
  refine Gen fun Gq9 back => ?_
  rcases R with ⟨⟨B, hB, hBG, hl, hfl, hnew⟩, htup⟩
  refine back ?_
  clear back
  clear Gq9
  refine leavesOnX (Around.frames_deeper K.stack) rfl hfl hc fun h' x1 x2 x3 => ?_
  refine hQ h' ⟨⟨B, hB, fun b o q nm => hBG b o (F.keep b o q) (fun hm => ?_), fun q hq => ⟨(hl q hq).1, kts_none F.keep (hl q hq).2.1, (hl q hq).2.2⟩, x1, hnew⟩, htup.of_slots x2⟩ ((Heap.UpToSlots.of_keeps F.keep).trans (hsm.trans x2)) x3
  rcases kts_mem hm with z | z
  · rw [z, kts_self F] at q; cases q
  · exact nm z
end
section
variable {prog : Program} {w : World} {A₀ : Around} {E : Value → Shared → Prop} {s' : Shared} {base g g₀ G : Heap} {outer : List Env} {L a e t : Addr} {m : Str → Option Value} {name : Str} {scope : Scope} {cd : Value}
  {vs : List Value} {b₀ : Stmt} {suite : List Stmt} {pos np : Pos} {rest : List ExceptHandler} {Q : Flow → Shared → Prop} {news : List (Addr × Obj)} {KF : Frag}
  {p : Program} {loose : List Str} {mean : ExcName → Option Value} {mg mb : Str → Option Value} {x : Str} {X T' : String}
end
/-! a list taken apart -/
section
variable {prog : Program} {w : World} {A : Around} {E : Value → Shared → Prop} {s : Shared}
theorem draw_list {it l : Addr} {items : Array Value} (hne : l ≠ it) : ∀ (n i : Nat) (s : Shared) (Q : List Value → Shared → Prop), s.heap.IsListIter it l i → s.heap.IsList l items → i + n ≤ items.size →
    (∀ h', h'.IsListIter it l (i + n) → Heap.SameBut it s.heap h' → Q ((items.toList.drop i).take n) { s with heap := h' }) → wpAny (model prog w) A (draw (.ref it) n) Q E s
  | 0, i, s, Q, hit, _, _, hQ => wpAny_pure (by simpa using hQ s.heap hit (Heap.SameBut.refl ..))
  | n + 1, i, s, Q, hit, hl, hle, hQ => by
    have hlt : i < items.size := by (first | lia | omega)
    show wpAny _ _ (pyNext (.ref it) >>= _) Q E s
    refine wpAny_bind (wpAny_pyNext_list_item hit hl (x := items[i]) (by simp [hlt]) fun h₁ hit₁ hs₁ => ?_)
    refine wpAny_bind (wpAny_holding (draw_list hne n (i + 1) _ _ hit₁ (hl.at fun o e => (hs₁.2 l hne).trans e) (by (first | lia | omega)) fun h₂ hit₂ hs₂ => wpAny_pure ?_))
    have := hQ h₂ (by rw [show i + (n + 1) = i + 1 + n by (first | lia | omega)]; exact hit₂) (hs₁.trans hs₂)
    rw [show items.toList.drop i = items[i] :: items.toList.drop (i + 1) by simp [List.drop_eq_getElem_cons, hlt], List.take_succ_cons] at this
    exact this
theorem unpackItems_list {l : Addr} {items : Array Value} {Q : List Value → Shared → Prop} (hh : A.handled = none) (hl : s.heap.IsList l items)
    (hQ : ∀ h', Heap.ExtBut s.heap.objs.size s.heap h' → Q items.toList { s with heap := h' }) : wpAny (model prog w) A (unpackItems (.ref l) items.size none) Q E s := by
  have hlt : l ≠ s.heap.objs.size := by obtain ⟨o, ho, _⟩ := id hl; exact Nat.ne_of_lt (Heap.lt_size ho)
  have push : ∀ o, (s.heap.push o).IsList l items := fun o => hl.at fun ob e => Heap.get?_push_of_some _ e
  unfold unpackItems
  refine wpAny_bind ?_
  unfold notIterableAtAll
  refine wpAny_bind (wpAny_specialOf hl.typeIs slot_list_iter.lookup (wpAny_pure ?_))
  simp only [Bool.false_eq_true, if_false]
  refine wpAny_bind (wpAny_holding (wpAny_pyIter_list hl ?_))
  refine wpAny_bind (wpAny_holding (draw_list hlt items.size 0 _ _ ⟨_, Heap.get?_push_size _ rfl, rfl, rfl⟩ (push _) (by (first | lia | omega)) fun h₁ hit₁ hs₁ => ?_))
  rw [show List.take items.size (List.drop 0 items.toList) = items.toList by rw [List.drop_zero]; exact List.take_of_length_le (by simp), if_neg (by simp)]
  refine wpAny_bind (wpAny_holding (wpAny_pyNext_list_end hh hit₁ ((push _).at fun o e => (hs₁.2 l hlt).trans e) (by simp) fun h₂ he₂ => ?_))
  simp only [Option.isSome_none, Bool.false_eq_true, if_false]
  exact wpAny_pure (hQ h₂ fun b o hb e => he₂ b o hb (hs₁.extBut b o hb (Heap.get?_push_of_some _ e)))
theorem unpackLT {env : Env} {h₀ : Heap} {L : Addr} {m : Str → Option Value} {news : List (Addr × Obj)} {elts : List Expr} {k} {pos : Pos} {t : Addr} {items : Array Value} {Q : Unit → Shared → Prop} (F : Fr h₀ L s.heap m) (N : News h₀ L s.heap news)
    (ht : s.heap.IsList t items ∨ IsTup s.heap t items) (hh : A.handled = none) (hn : (assignEach elts env).length = items.size) (hstar : (assignEach elts env).findIdx? (·.1) = none)
    (h : ∀ h', Fr h₀ L h' m → News h₀ L h' news → wpAny (model prog w) A (assignInOrder ((assignEach elts env).map (·.2)) items.toList) Q E { s with heap := h' }) :
    wpAny (model prog w) A (assign (.Tuple elts k pos) env (.ref t)) Q E s := by
  rcases ht with ht | ht
  · rw [assign_Tuple]
    refine wpAny_bind (wpAny_standAt ?_)
    unfold unpack
    rw [hn, hstar]
    exact wpAny_bind (wpAny_holding (unpackItems_list hh ht fun h' he => h h' (F.extBut he (Nat.le_refl _)) (N.extBut he (Nat.le_refl _))))
  · exact unpackN_ F N ht hh hn hstar h
end
section
variable {F : Fx}
theorem handled_none {c : Cx} {F : Fx} (hsc : SCF c F) (hF : F.cold = true) : c.A.handled = none := hsc.2.2.2.1 hF
theorem HotC.stl {c : Cx} {g h : Heap} {m : Str → Option Value} (H : HotC c) (T : TurnG c.fs c.h₀ g gn) (Fm : Fr g c.L h m) : Stl c.A h :=
  let ⟨e, oe, vs, a, n, b, d⟩ := H; ⟨e, oe, vs, a, Fm.keep _ _ (T.other _ _ b n), d⟩
theorem still {c : Cx} {F : Fx} {g h : Heap} {m : Str → Option Value} (hsc : SCF c F) (hF : F.cold = true ∨ F.hot = true) (T : TurnG c.fs c.h₀ g gn) (Fm : Fr g c.L h m) : c.A.handled = none ∨ Stl c.A h :=
  hF.imp (handled_none hsc) fun h => (hsc.2.2.2.2.1 h).stl T Fm
theorem forSG {c : Cx} (FO : F.Ok) (hsc : SCF c F) (ok : c.Ok) (hcp : c.cp = none) {tgt : Expr} {upd : V → List V → HP → (List V → Prop) → Prop} {b : List Stmt} {m : MS} {d : Nat} (hg : c.g = F.g) (rm : room c d)
    (hasg : ∀ (v : V) (val : Value) (l : List V) (hp : HP) (fr : List (Addr × Obj)) (s : Shared) (K : List V → Prop) (P : Unit → Shared → Prop) (E : Value → Shared → Prop), absV val = v → upd v l hp K → Rep c F.names l hp fr s.heap s.gens →
      (∀ l' h' tk' gn', K l' → Rep c F.names l' hp fr h' gn' → P () { s with heap := h', toks := tk', gens := gn' }) → wpAny (model c.g.prog c.g.w) c.A (assign tgt c.env val) P E s)
    (hb : SB F b m) {vs : List V} {K : HP → Prop} {Q : Out → List V → HP → Prop}
    {l : List V} {hp : HP} {fr : List (Addr × Obj)} {s : Shared} {it : Addr} (ItObj : Nat → Obj → Prop)
    (hgo : ∀ k o val (s' : Shared) (P : Unit → Shared → Prop) (E : Value → Shared → Prop), ItObj k o → s'.heap.get? it = some o → P () s' → wpAny (model c.g.prog c.g.w) c.A (letOwnedTupleGo tgt (.ref it) val) P E s')
    (next : ∀ k l hp o h (s' : Shared) (P : Option Value → Shared → Prop) (E : Value → Shared → Prop), K hp → ItObj k o → s'.heap = h → Rep c F.names l hp ((it, o) :: fr) h s'.gens → (∀ p ∈ fr, p.1 ≠ it) →
      (∀ val v h' tk' gn' o', vs[k]? = some v → absV val = v → ItObj (k + 1) o' → Rep c F.names l hp ((it, o') :: fr) h' gn' → P (some val) { s' with heap := h', toks := tk', gens := gn' }) →
      (k = vs.length → ∀ h' tk' gn', Rep c F.names l hp fr h' gn' → P Option.none { s' with heap := h', toks := tk', gens := gn' }) → k ≤ vs.length → wpAny (model c.g.prog c.g.w) c.A (pyNext (.ref it)) P E s')
    {o₀ : Obj} (h0 : ItObj 0 o₀) (R0 : Rep c F.names l hp ((it, o₀) :: fr) s.heap s.gens) (hfr : ∀ p ∈ fr, p.1 ≠ it)
    (hK : ∃ I : Nat → List V → HP → Prop, I 0 l hp ∧
      (∀ k x l h, vs[k]? = some x → I k l h → K h ∧ upd x l h fun l1 => exec F.g d m l1 h (fun o l2 h2 => match o with
        | .next => I (k + 1) l2 h2 | .brk => Q .next l2 h2 | .ret v => Q (.ret v) l2 h2) noX) ∧
      (∀ l h, I vs.length l h → K h ∧ Q .next l h)) {R : Result → Shared → Prop}
    (hR : ∀ o f l' hp' h' tk' gn', Q o l' hp' → rO o f → Rep c F.names l' hp' fr h' gn' → R (.ok f) { s with heap := h', toks := tk', gens := gn' }) :
    codeAny (model c.g.prog c.g.w) c.A (.forLoop tgt (.ref it) b [] c.env) R s := by
  refine Gen fun Gq9 back => ?_
  rcases hK with ⟨I, hI0, step, fin⟩
  refine back ?_
  clear back
  clear Gq9
  refine codeAny_forLoop_any (fun n s' => ∃ k l' hp' o h' tk' gn', n = vs.length + 1 - k ∧ k ≤ vs.length ∧ I k l' hp' ∧ ItObj k o ∧ Rep c F.names l' hp' ((it, o) :: fr) h' gn' ∧ s' = { s with heap := h', toks := tk', gens := gn' }) ?_ _ ⟨0, l, hp, o₀, s.heap, s.toks, s.gens, rfl, Nat.zero_le _, hI0, h0, R0, rfl⟩
  intro n s' qz7
  refine Gen fun Gq9 back => ?_
  rcases qz7 with ⟨k, l1, hp1, o1, hh1, tk1, gn1, hz8, hk1, hI, hO, R1, hz9⟩
  refine back ?_
  clear back
  clear Gq9
  subst hz8
  subst hz9
  have hKh : K hp1 := by
    by_cases hlt : k < vs.length
    · exact (step k vs[k] l1 hp1 (by simp [hlt]) hI).1
    · have : k = vs.length := by (first | lia | omega)
      subst this
      exact (fin l1 hp1 hI).1
  refine next k l1 hp1 o1 hh1 _ _ _ hKh hO rfl R1 hfr (fun val v h' tk' gn' o' hv hval hO' R2 => ?_) (fun hkl h' tk' gn' R2 => ?_) hk1
  · dsimp only
    refine hgo (k + 1) o' val _ _ _ hO' (by obtain ⟨_, _, _, _, _, _, N, _⟩ := id R2; exact (N _ (.head _)).1) ?_
    refine hasg v val _ _ _ { s with heap := h', toks := tk', gens := gn' } _ _ _ hval (step k v l1 hp1 hv hI).2 R2 fun l3 h3 tk3 gn3 hq3 R3 => ?_
    refine hb c d FO hg hsc ok rm _ hp1 _ noX hq3 hcp _ _ _ _ R3 (fun o f l4 h4 hh4 tk4 gn4 hq4 hf R4 => ?_) fun _ => noXP
    have hlt : k < vs.length := by
      rcases Nat.lt_or_ge k vs.length with h | h
      · exact h
      · rw [List.getElem?_eq_none h] at hv; cases hv
    cases o with
    | next =>
      cases f <;> first | exact hf.elim | skip
      exact ⟨vs.length + 1 - (k + 1), by (first | lia | omega), k + 1, l4, h4, o', hh4, tk4, gn4, rfl, by (first | lia | omega), hq4, hO', R4, rfl⟩
    | brk =>
      cases f <;> first | exact hf.elim | skip
      exact hR .next .next l4 h4 hh4 tk4 gn4 hq4 trivial (R4.drop (noC hcp) (fun _ _ _ e => e) hfr)
    | ret v =>
      cases f <;> first | exact hf.elim | skip
      exact hR (.ret v) _ l4 h4 hh4 tk4 gn4 hq4 hf (R4.drop (noC hcp) (fun _ _ _ e => e) hfr)
  · dsimp only
    subst hkl
    exact wpAny_execs_nil (hR .next .next l1 hp1 h' tk' gn' (fin l1 hp1 hI).2 trivial R2)
theorem forS {c : Cx} (FO : F.Ok) (hsc : SCF c F) (ok : c.Ok) (hcp : c.cp = none) {x : Str} {p : Pos} {i : Nat} {b : List Stmt} {m : MS} {d : Nat} (hg : c.g = F.g) (rm : room c d)
    (hi : F.names[i]? = some x) (hk : F.sc.names.lookup x = some .local) (hb : SB F b m) {vs : List V} {K : HP → Prop} {Q : Out → List V → HP → Prop}
    {l : List V} {hp : HP} {fr : List (Addr × Obj)} {s : Shared} {it : Addr} (ItObj : Nat → Obj → Prop)
    (next : ∀ k l hp o h (s' : Shared) (P : Option Value → Shared → Prop) (E : Value → Shared → Prop), K hp → ItObj k o → s'.heap = h → Rep c F.names l hp ((it, o) :: fr) h s'.gens → (∀ p ∈ fr, p.1 ≠ it) →
      (∀ val v h' tk' gn' o', vs[k]? = some v → absV val = v → ItObj (k + 1) o' → Rep c F.names l hp ((it, o') :: fr) h' gn' → P (some val) { s' with heap := h', toks := tk', gens := gn' }) →
      (k = vs.length → ∀ h' tk' gn', Rep c F.names l hp fr h' gn' → P Option.none { s' with heap := h', toks := tk', gens := gn' }) → k ≤ vs.length → wpAny (model c.g.prog c.g.w) c.A (pyNext (.ref it)) P E s')
    {o₀ : Obj} (h0 : ItObj 0 o₀) (R0 : Rep c F.names l hp ((it, o₀) :: fr) s.heap s.gens) (hfr : ∀ p ∈ fr, p.1 ≠ it)
    (hK : forIn (fun l h R => exec F.g d m l h R noX) i vs l hp K Q) {R : Result → Shared → Prop}
    (hR : ∀ o f l' hp' h' tk' gn', Q o l' hp' → rO o f → Rep c F.names l' hp' fr h' gn' → R (.ok f) { s with heap := h', toks := tk', gens := gn' }) :
    codeAny (model c.g.prog c.g.w) c.A (.forLoop (.Name x p) (.ref it) b [] c.env) R s :=
  forSG (upd := fun v l _ k => k (lset l i v)) FO hsc ok hcp hg rm
    (fun v val l hp fr s K P E hval hu R1 hP => wpAny_assign_Name (storeS FO hsc ok hcp hi hk R1 hval fun h3 tk3 gn3 R3 => hP _ h3 tk3 gn3 hu R3)) hb ItObj (fun _ _ _ _ _ _ _ _ h => wpAny_pure h) next h0 R0 hfr hK hR
theorem rangeSize_nn (lo hi' st : Int) : 0 ≤ Builtin.Range.rangeSize lo hi' st := by
  unfold Builtin.Range.rangeSize
  split <;> split <;> first | (first | lia | omega) | skip
  · exact Int.add_nonneg (Int.ediv_nonneg (by (first | lia | omega)) (by (first | lia | omega))) (by (first | lia | omega))
  · rename_i h1 h2
    by_cases hz : st = 0
    · subst hz; simp
    · exact Int.add_nonneg (Int.ediv_nonneg (by (first | lia | omega)) (by (first | lia | omega))) (by (first | lia | omega))
theorem ss_forR_core (hF : F.cold = true ∨ F.hot = true) {x : Str} {p pos : Pos} {i : Nat} {iter : Expr} {b : List Stmt} {m : MS} {c : Cx} {d : Nat} (FO : F.Ok) (hg : c.g = F.g) (hsc : SCF c F) (ok : c.Ok) (hcp : c.cp = none) (rm : room c d)
    (hi : F.names[i]? = some x) (hk : F.sc.names.lookup x = some .local) (hb : SB F b m) {Q : Out → List V → HP → Prop} {l : List V} {hp : HP} {fr : List (Addr × Obj)} {s : Shared}
    {lo hi' st : Int} {r : Addr} {t u v : Tok} (hsm : Builtin.Range.small lo hi' st = true) (R : Rep c F.names l hp fr s.heap s.gens) (hr : IsRange s.heap r lo hi' st t u v)
    (hK : forIn (fun l h R => exec F.g d m l h R noX) i ((List.range (Builtin.Range.rangeSize lo hi' st).toNat).map fun (k : Nat) => V.int (lo + k * st)) l hp (fun _ => True) Q)
    {P : Flow → Shared → Prop} {E : Value → Shared → Prop} (hP : ∀ o f l' hp' h' tk' gn', Q o l' hp' → rO o f → Rep c F.names l' hp' fr h' gn' → P f { s with heap := h', toks := tk', gens := gn' }) :
    wpAny (model c.g.prog c.g.w) c.A (pyIter (.ref r)) (fun it s₂ => codeAny (model c.g.prog c.g.w) c.A (.forLoop (.Name x p) it b [] c.env) (fun r s' => match r with | .ok f => P f s' | .error e => cameBackBy (model c.g.prog c.g.w) c.A c.env E e s') s₂) E s := by
  refine wpAny_pyIter_range hr hsm ?_
  have R0 := R.push ok { cls := Value.type "range_iterator", data := Data.fields #[rawInt lo, rawInt (Builtin.Range.rangeSize lo hi' st), rawInt st] } rfl
  have hsz := rangeSize_nn lo hi' st
  refine forS FO hsc ok hcp hg rm hi hk hb (fun k o => o = { cls := Value.type "range_iterator", data := Data.fields #[rawInt (lo + k * st), rawInt (Builtin.Range.rangeSize lo hi' st - k), rawInt st] }) ?_ ?_ R0 (R.fresh ok).2 hK hP
  · intro k l1 hp1 o1 h1 s' P1 E1 _ hO hs R1 hfr hitem hend hkl
    subst hO
    subst hs
    simp only [List.length_map, List.length_range] at hkl hend
    refine Gen fun Gq9 back => ?_
    rcases id R1 with ⟨g, T, m1, Fm, lo1, H, N, D⟩
    refine back ?_
    clear back
    clear Gq9
    have hit := (N _ (.head _)).1
    by_cases hlt : k < (Builtin.Range.rangeSize lo hi' st).toNat
    · refine wpAny_pyNext_range_item (it := s.heap.objs.size) hit (by (first | lia | omega)) fun h' hit' hs' => ?_
      refine hitem _ (.int (lo + k * st)) h' _ _ _ (by simp [hlt]) rfl ?_ (R1.iter (noC hcp) (fun b ob hne e => (hs'.2 b hne).trans e) hit' hfr)
      congr 4
      · rw [show ((k + 1 : Nat) : Int) * st = (k : Int) * st + st by push_cast; rw [Int.add_mul, Int.one_mul], Int.add_assoc]
      · rw [show Builtin.Range.rangeSize lo hi' st - ((k + 1 : Nat) : Int) = Builtin.Range.rangeSize lo hi' st - k - 1 by push_cast; (first | lia | omega)]
    · refine range_end_any (it := s.heap.objs.size) (still hsc hF T Fm) hit (by (first | lia | omega)) fun h' he => ?_
      exact hend (by (first | lia | omega)) h' _ _ (R1.drop (noC hcp) (fun b ob hne e => he b ob hne e) hfr)
  · simp
theorem se_rangeArgs1 {x : Str} {p pos : Pos} {a : Expr} {ma : ME} (hxe : x = "range") (hx : x ∈ F.bt) (hk : F.sc.names.lookup x = some .globalImplicit) (hn : notStar a = true) (ha : SE F a ma)
    {c : Cx} {d : Nat} (FO : F.Ok) (hg : c.g = F.g) (hsc : SCF c F) (ok : c.Ok) (rm : room c d) {l hp X} {Q : Int → Int → Int → HP → Prop}
    (hev : ev F.g d ma l hp (fun v h1 => match v with | .int n => Q 0 n 1 h1 | _ => False) X) {fr} {s : Shared} {P E : Value → Shared → Prop} (R : Rep c F.names l hp fr s.heap s.gens)
    (hP : ∀ lo hi st hp' h' tk' gn' r t u v, Q lo hi st hp' → Rep c F.names l hp' fr h' gn' → IsRange h' r lo hi st t u v → P (.ref r) { s with heap := h', toks := tk', gens := gn' }) (hX : XP c F.names l fr X E s) :
    wpAny (model c.g.prog c.g.w) c.A (eval (.Call (.Name x p) [a] [] pos) c.env) P E s := by
  subst hxe
  refine Call_ (nameB FO hg hsc ok hx (v := .type "range") boot_range hk (by decide) (by decide) R ?_) rfl
  refine PyProof.Rows.callWith_type1 ?_ (starEach_cons hn) rfl
  refine spliced_more (ha c d FO hg hsc ok rm l hp _ X hev fr s _ E R (fun v y h1 hh tk gn hq hy R1 => ?_) hX) (starEach_cons hn)
  refine spliced_none ?_
  cases v with
  | int i =>
    obtain ⟨t, rfl⟩ := absV_int hy
    refine Gen fun Gq9 back => ?_
    rcases R1.parts with ⟨g, m, news, T, Fm, lo, H, N, D⟩
    refine back ?_
    clear back
    clear Gq9
    exact range1_rows Fm N fun h' tk' t1 u1 v1 hr F' N' _ => hP _ _ _ h1 h' tk' _ _ _ _ _ hq (Rep.of T F' lo H N' D) hr
  | _ => exact hq.elim
theorem se_rangeArgs2 {x : Str} {p pos : Pos} {a b : Expr} {ma mb : ME} (hxe : x = "range") (hx : x ∈ F.bt) (hk : F.sc.names.lookup x = some .globalImplicit) (hn : notStar a = true) (ha : SE F a ma) (hn2 : notStar b = true) (hb : SE F b mb)
    {c : Cx} {d : Nat} (FO : F.Ok) (hg : c.g = F.g) (hsc : SCF c F) (ok : c.Ok) (rm : room c d) {l hp X} {Q : Int → Int → Int → HP → Prop}
    (hev : ev F.g d ma l hp (fun v h1 => ev F.g d mb l h1 (fun w h2 => match v, w with | .int a, .int b => Q a b 1 h2 | _, _ => False) X) X) {fr} {s : Shared} {P E : Value → Shared → Prop} (R : Rep c F.names l hp fr s.heap s.gens)
    (hP : ∀ lo hi st hp' h' tk' gn' r t u v, Q lo hi st hp' → Rep c F.names l hp' fr h' gn' → IsRange h' r lo hi st t u v → P (.ref r) { s with heap := h', toks := tk', gens := gn' }) (hX : XP c F.names l fr X E s) :
    wpAny (model c.g.prog c.g.w) c.A (eval (.Call (.Name x p) [a, b] [] pos) c.env) P E s := by
  subst hxe
  refine Call_ (nameB FO hg hsc ok hx (v := .type "range") boot_range hk (by decide) (by decide) R ?_) rfl
  refine PyProof.Rows.callWith_type1 ?_ (starEach_cons hn) (by rw [starEach_cons hn2]; rfl)
  refine spliced_more (ha c d FO hg hsc ok rm l hp _ X hev fr s _ E R (fun v y h1 hh tk gn hq hy R1 => ?_) hX) (starEach_cons hn)
  refine spliced_more (hb c d FO hg hsc ok rm l h1 _ X hq fr _ _ E R1 (fun w z h2 hh2 tk2 gn2 hq2 hz R2 => ?_) hX) (starEach_cons hn2)
  refine spliced_none ?_
  obtain ⟨i, j, rfl, rfl⟩ : ∃ i j, v = .int i ∧ w = .int j := by cases v <;> first | exact hq2.elim | (cases w <;> first | exact hq2.elim | exact ⟨_, _, rfl, rfl⟩)
  · obtain ⟨t, rfl⟩ := absV_int hy
    obtain ⟨u, rfl⟩ := absV_int hz
    refine Gen fun Gq9 back => ?_
    rcases R2.parts with ⟨g, m, news, T, Fm, lo, H, N, D⟩
    refine back ?_
    clear back
    clear Gq9
    exact range2_rows Fm N fun h' tk' t1 u1 v1 hr F' N' _ => hP _ _ _ h2 h' tk' _ _ _ _ _ hq2 (Rep.of T F' lo H N' D) hr
theorem se_rangeArgs3 {x : Str} {p pos : Pos} {a b e : Expr} {ma mb me : ME} (hxe : x = "range") (hx : x ∈ F.bt) (hk : F.sc.names.lookup x = some .globalImplicit) (hn : notStar a = true) (ha : SE F a ma) (hn2 : notStar b = true) (hb : SE F b mb) (hn3 : notStar e = true) (he : SE F e me)
    {c : Cx} {d : Nat} (FO : F.Ok) (hg : c.g = F.g) (hsc : SCF c F) (ok : c.Ok) (rm : room c d) {l hp X} {Q : Int → Int → Int → HP → Prop}
    (hev : ev F.g d ma l hp (fun v h1 => ev F.g d mb l h1 (fun w h2 => ev F.g d me l h2 (fun u h3 => match v, w, u with | .int a, .int b, .int e => e ≠ 0 ∧ Q a b e h3 | _, _, _ => False) X) X) X) {fr} {s : Shared} {P E : Value → Shared → Prop} (R : Rep c F.names l hp fr s.heap s.gens)
    (hP : ∀ lo hi st hp' h' tk' gn' r t u v, Q lo hi st hp' → Rep c F.names l hp' fr h' gn' → IsRange h' r lo hi st t u v → P (.ref r) { s with heap := h', toks := tk', gens := gn' }) (hX : XP c F.names l fr X E s) :
    wpAny (model c.g.prog c.g.w) c.A (eval (.Call (.Name x p) [a, b, e] [] pos) c.env) P E s := by
  subst hxe
  refine Call_ (nameB FO hg hsc ok hx (v := .type "range") boot_range hk (by decide) (by decide) R ?_) rfl
  refine PyProof.Rows.callWith_type1 ?_ (starEach_cons hn) (by rw [starEach_cons hn2, starEach_cons hn3]; rfl)
  refine spliced_more (ha c d FO hg hsc ok rm l hp _ X hev fr s _ E R (fun v y h1 hh tk gn hq hy R1 => ?_) hX) (starEach_cons hn)
  refine spliced_more (hb c d FO hg hsc ok rm l h1 _ X hq fr _ _ E R1 (fun w z h2 hh2 tk2 gn2 hq2 hz R2 => ?_) hX) (starEach_cons hn2)
  refine spliced_more (he c d FO hg hsc ok rm l h2 _ X hq2 fr _ _ E R2 (fun u z3 h3 hh3 tk3 gn3 hq3 hz3 R3 => ?_) hX) (starEach_cons hn3)
  refine spliced_none ?_
  obtain ⟨i, j, k, rfl, rfl, rfl⟩ : ∃ i j k, v = .int i ∧ w = .int j ∧ u = .int k := by cases v <;> first | exact hq3.elim | (cases w <;> first | exact hq3.elim | (cases u <;> first | exact hq3.elim | exact ⟨_, _, _, rfl, rfl, rfl⟩))
  · obtain ⟨t, rfl⟩ := absV_int hy
    obtain ⟨u, rfl⟩ := absV_int hz
    obtain ⟨u3, rfl⟩ := absV_int hz3
    refine Gen fun Gq9 back => ?_
    rcases R3.parts with ⟨g, m, news, T, Fm, lo, H, N, D⟩
    refine back ?_
    clear back
    clear Gq9
    exact range3_rows Fm N hq3.1 (fun h' tk' t1 u1 v1 hr F' N' _ => hP _ _ _ h3 h' tk' _ _ _ _ _ hq3.2 (Rep.of T F' lo H N' D) hr) (.inr (pylong ok rm R3))
theorem folded_call {f : Expr} {as : List Expr} {ks : List Keyword} {pos : Pos} {env : Env} (x : Value) : foldedSetIterable (.Call f as ks pos) env x = pure x := rfl
theorem ss_forR1 (hF : F.cold = true ∨ F.hot = true) {x r : Str} {p pr pc pos : Pos} {i : Nat} {a : Expr} {ma : ME} {b : List Stmt} {m : MS} (hre : r = "range") (hr : r ∈ F.bt) (hkr : F.sc.names.lookup r = some .globalImplicit) (hn : notStar a = true) (ha : SE F a ma)
    (hi : F.names[i]? = some x) (hk : F.sc.names.lookup x = some .local) (hb : SB F b m) : SS F (.For (.Name x p) (.Call (.Name r pr) [a] [] pc) b [] pos) (.forR i (.int 0) ma (.int 1) m) := by
  intro c d FO hg hsc ok rm l hp Q X hev hcp fr s P E R hP hX
  refine wpAny_For (se_rangeArgs1 hre hr hkr hn ha FO hg hsc ok rm (X := X)
    (Q := fun x y z h3 => z ≠ 0 ∧ Builtin.Range.small x y z = true ∧ forIn (fun l h R => exec F.g d m l h R noX) i ((List.range (Builtin.Range.rangeSize x y z).toNat).map fun (k : Nat) => V.int (x + k * z)) l h3 (fun _ => True) Q) ?_ R ?_ (hX l)) folded_call
  · refine Eq.mp ?_ hev
    show ev F.g d ma l hp _ X = ev F.g d ma l hp _ X
    congr 1
    funext v h1
    show (match V.int 0, v, V.int 1 with | .int x, .int y, .int z => _ | _, _, _ => False) = _
    cases v <;> rfl
  · intro lo hi' st hp' h' tk' gn' r' t u v hq R' hr'
    exact ss_forR_core hF (pos := pos) (iter := a) FO hg hsc ok hcp rm hi hk hb hq.2.1 R' hr' hq.2.2 hP
theorem ss_forR2 (hF : F.cold = true ∨ F.hot = true) {x r : Str} {p pr pc pos : Pos} {i : Nat} {a e : Expr} {ma me : ME} {b : List Stmt} {m : MS} (hre : r = "range") (hr : r ∈ F.bt) (hkr : F.sc.names.lookup r = some .globalImplicit) (hn : notStar a = true) (ha : SE F a ma) (hn2 : notStar e = true) (he : SE F e me)
    (hi : F.names[i]? = some x) (hk : F.sc.names.lookup x = some .local) (hb : SB F b m) : SS F (.For (.Name x p) (.Call (.Name r pr) [a, e] [] pc) b [] pos) (.forR i ma me (.int 1) m) := by
  intro c d FO hg hsc ok rm l hp Q X hev hcp fr s P E R hP hX
  refine wpAny_For (se_rangeArgs2 hre hr hkr hn ha hn2 he FO hg hsc ok rm (X := X)
    (Q := fun x y z h3 => z ≠ 0 ∧ Builtin.Range.small x y z = true ∧ forIn (fun l h R => exec F.g d m l h R noX) i ((List.range (Builtin.Range.rangeSize x y z).toNat).map fun (k : Nat) => V.int (x + k * z)) l h3 (fun _ => True) Q) ?_ R ?_ (hX l)) folded_call
  · refine Eq.mp ?_ hev
    show ev F.g d ma l hp _ X = ev F.g d ma l hp _ X
    congr 1
    funext v h1
    show ev F.g d me l h1 _ X = ev F.g d me l h1 _ X
    congr 1
    funext w h2
    show (match v, w, V.int 1 with | .int x, .int y, .int z => _ | _, _, _ => False) = _
    cases v <;> cases w <;> rfl
  · intro lo hi' st hp' h' tk' gn' r' t u v hq R' hr'
    exact ss_forR_core hF (pos := pos) (iter := a) FO hg hsc ok hcp rm hi hk hb hq.2.1 R' hr' hq.2.2 hP
theorem ss_forR3 (hF : F.cold = true ∨ F.hot = true) {x r : Str} {p pr pc pos : Pos} {i : Nat} {a e f : Expr} {ma me mf : ME} {b : List Stmt} {m : MS} (hre : r = "range") (hr : r ∈ F.bt) (hkr : F.sc.names.lookup r = some .globalImplicit) (hn : notStar a = true) (ha : SE F a ma) (hn2 : notStar e = true) (he : SE F e me)
    (hn3 : notStar f = true) (hf : SE F f mf)
    (hi : F.names[i]? = some x) (hk : F.sc.names.lookup x = some .local) (hb : SB F b m) : SS F (.For (.Name x p) (.Call (.Name r pr) [a, e, f] [] pc) b [] pos) (.forR i ma me mf m) := by
  intro c d FO hg hsc ok rm l hp Q X hev hcp fr s P E R hP hX
  refine wpAny_For (se_rangeArgs3 hre hr hkr hn ha hn2 he hn3 hf FO hg hsc ok rm (X := X)
    (Q := fun x y z h3 => Builtin.Range.small x y z = true ∧ forIn (fun l h R => exec F.g d m l h R noX) i ((List.range (Builtin.Range.rangeSize x y z).toNat).map fun (k : Nat) => V.int (x + k * z)) l h3 (fun _ => True) Q) ?_ R ?_ (hX l)) folded_call
  · exact hev
  · intro lo hi' st hp' h' tk' gn' r' t u v hq R' hr'
    exact ss_forR_core hF (pos := pos) (iter := a) FO hg hsc ok hcp rm hi hk hb hq.1 R' hr' hq.2 hP
end
noncomputable def setE : Expr → Bool
  | .Set .. => true
  | _ => false
theorem folded_plain {e : Expr} (h : setE e = false) {env : Env} (x : Value) : foldedSetIterable e env x = pure x := by
  cases e <;> first | rfl | (exact absurd h (by simp [setE]))
theorem lset_comm {a b : V} : ∀ {l : List V} {i j : Nat}, i ≠ j → lset (lset l i a) j b = lset (lset l j b) i a
  | [], _, _, _ => rfl
  | _ :: _, 0, 0, h => absurd rfl h
  | _ :: _, 0, _ + 1, _ => rfl
  | _ :: _, _ + 1, 0, _ => rfl
  | x :: r, i + 1, j + 1, h => congrArg (x :: ·) (lset_comm (l := r) fun e => h (congrArg (· + 1) e))
theorem lsetN_snoc : ∀ (is : List Nat) (vs : List V) (l : List V) (i : Nat) (v : V), is.length = vs.length → lsetN l (is ++ [i]) (vs ++ [v]) = lset (lsetN l is vs) i v
  | [], [], _, _, _, _ => rfl
  | [], _ :: _, _, _, _, h => nomatch h
  | _ :: _, [], _, _, _, h => nomatch h
  | j :: is, w :: vs, l, i, v, h => lsetN_snoc is vs (lset l j w) i v (Nat.succ.inj h)
theorem lsetN_lset : ∀ (is : List Nat) (vs : List V) (l : List V) (i : Nat) (v : V), i ∉ is → lset (lsetN l is vs) i v = lsetN (lset l i v) is vs
  | [], vs, _, _, _, _ => by cases vs <;> rfl
  | _ :: _, [], _, _, _, _ => rfl
  | j :: is, w :: vs, l, i, v, h => by
    show lset (lsetN (lset l j w) is vs) i v = lsetN (lset (lset l i v) j w) is vs
    rw [lsetN_lset is vs _ i v (fun q => h (.tail _ q)), lset_comm (fun e => h (by rw [e]; exact .head _))]
theorem lsetN_rev : ∀ (is : List Nat) (vs : List V) (l : List V), is.Nodup → is.length = vs.length → lsetN l is.reverse vs.reverse = lsetN l is vs
  | [], [], _, _, _ => rfl
  | [], _ :: _, _, _, h => nomatch h
  | _ :: _, [], _, _, h => nomatch h
  | j :: is, w :: vs, l, nd, h => by
    have h' : is.length = vs.length := Nat.succ.inj h
    rw [List.reverse_cons, List.reverse_cons, lsetN_snoc _ _ _ _ _ (by rw [List.length_reverse, List.length_reverse]; exact h')]
    rw [lsetN_rev is vs l (List.nodup_cons.mp nd).2 h', lsetN_lset _ _ _ _ _ (List.nodup_cons.mp nd).1]
    rfl
noncomputable def fIdx : List Str → Str → Nat → Option Nat
  | [], _, _ => none
  | y :: r, x, n => if y == x then some n else fIdx r x (n + 1)
theorem idx_more {α} {i n : Nat} {y : α} {r : List α} (a : n + 1 ≤ i) : n ≤ i ∧ (y :: r)[i - n]? = r[i - (n + 1)]? := ⟨Nat.le_of_succ_le a, by rw [show i - n = (i - (n + 1)) + 1 by (first | lia | omega)]; rfl⟩
theorem fIdx_get : ∀ {names : List Str} {x : Str} {n i : Nat}, fIdx names x n = some i → n ≤ i ∧ names[i - n]? = some x
  | [], _, _, _, h => by cases h
  | y :: r, x, n, i, h => by
    by_cases e : (y == x) = true
    · cases (Option.some.inj ((if_pos e).symm.trans h) : n = i)
      rw [beq_iff_eq.mp e, Nat.sub_self]
      exact ⟨Nat.le_refl n, rfl⟩
    · have k := fIdx_get ((if_neg e).symm.trans h)
      exact ⟨(idx_more (y := y) (r := r) k.1).1, (idx_more k.1).2.trans k.2⟩
noncomputable def loc? (F : Fx) (x : Str) : Option Nat :=
  match fIdx F.names x 0 with
  | some i => if F.sc.names.lookup x = some .local ∧ (x == ("__debug__" : Str)) = false then some i else none
  | none => none
theorem loc?_spec {F : Fx} {x : Str} {i : Nat} (h : loc? F x = some i) : F.names[i]? = some x ∧ F.sc.names.lookup x = some .local ∧ (x == ("__debug__" : Str)) = false := by
  unfold loc? at h
  cases hj : fIdx F.names x 0 with
  | none => rw [hj] at h; injection h
  | some j =>
    rw [hj] at h
    by_cases e : F.sc.names.lookup x = some .local ∧ (x == ("__debug__" : Str)) = false
    · have h := (if_pos e).symm.trans h
      injection h with h
      subst h
      exact ⟨by simpa using (fIdx_get hj).2, e.1, e.2⟩
    · have h := (if_neg e).symm.trans h
      injection h
noncomputable def consT (x : Str) : Option Nat → Option (List Str × List Nat) → Option (List Str × List Nat)
  | some i, some p => some (x :: p.1, i :: p.2)
  | _, _ => none
noncomputable def tgt? (F : Fx) : List Expr → Option (List Str × List Nat)
  | [] => some ([], [])
  | .Name x _ :: r => consT x (loc? F x) (tgt? F r)
  | _ :: _ => none
theorem tgt?_cons {F : Fx} {e : Expr} {r : List Expr} {xs : List Str} {is : List Nat} (h : tgt? F (e :: r) = some (xs, is)) :
    ∃ x p i ys js, e = .Name x p ∧ loc? F x = some i ∧ tgt? F r = some (ys, js) ∧ xs = x :: ys ∧ is = i :: js := by
  cases e <;> first | (injection h; done) | skip
  rename_i x p
  have h : consT x (loc? F x) (tgt? F r) = some (xs, is) := h
  cases ha : loc? F x with
  | none => rw [ha] at h; injection h
  | some i =>
    rw [ha] at h
    cases hb : tgt? F r with
    | none => rw [hb] at h; injection h
    | some q =>
      rw [hb] at h
      injection h with h
      injection h with h1 h2
      exact ⟨x, p, i, q.1, q.2, rfl, ha, rfl, h1.symm, h2.symm⟩
theorem assignEach_ok {x : Str} {p : Pos} {r : List Expr} {env : Env} {n : Nat} (h : (assignEach r env).length = r.length ∧ r.length = n ∧ List.findIdx? (fun x => x.fst) (assignEach r env) = none) :
    (assignEach (.Name x p :: r) env).length = (Expr.Name x p :: r).length ∧ (Expr.Name x p :: r).length = n + 1 ∧ List.findIdx? (fun x => x.fst) (assignEach (.Name x p :: r) env) = none := by
  refine ⟨congrArg (· + 1) h.1, congrArg (· + 1) h.2.1, ?_⟩
  show List.findIdx? (fun x => x.fst) ((false, assign (.Name x p) env) :: assignEach r env) = none
  rw [List.findIdx?_cons, h.2.2]; rfl
theorem tgt?_assign {F : Fx} {c : Cx} (FO : F.Ok) (hsc : SCF c F) (ok : c.Ok) (hcp : c.cp = none) : ∀ {ts : List Expr} {xs : List Str} {is : List Nat}, tgt? F ts = some (xs, is) →
    ((assignEach ts c.env).length = ts.length ∧ ts.length = is.length ∧ List.findIdx? (fun x => x.fst) (assignEach ts c.env) = none) ∧
    ∀ (l : List V) (hp : HP) (fr : List (Addr × Obj)) (s : Shared) (vs : List V) (vals : List Value) (P : Unit → Shared → Prop) (E : Value → Shared → Prop), vals.map absV = vs → vs.length = is.length → Rep c F.names l hp fr s.heap s.gens →
      (∀ h' tk' gn', Rep c F.names (lsetN l is vs) hp fr h' gn' → P () { s with heap := h', toks := tk', gens := gn' }) →
      wpAny (model c.g.prog c.g.w) c.A (assignInOrder ((assignEach ts c.env).map (fun x => x.snd)) vals) P E s
  | [], xs, is, h => by
    cases h
    refine ⟨⟨rfl, rfl, rfl⟩, fun l hp fr s vs vals P E hv hl R hP => ?_⟩
    have : vs = [] := by simpa using hl
    subst this
    exact assignInOrder_nil (hP s.heap s.toks s.gens R)
  | e :: r, xs, is, h => by
    refine Gen fun Gq9 back => ?_
    rcases tgt?_cons h with ⟨x, p, i, ys, js, hz10, hi, hr, hz11, hz12⟩
    refine back ?_
    clear back
    clear Gq9
    subst hz10
    subst hz11
    subst hz12
    · obtain ⟨a, ih⟩ := tgt?_assign FO hsc ok hcp hr
      obtain ⟨b1, b2, b3⟩ := loc?_spec hi
      refine ⟨assignEach_ok a, fun l hp fr s vs vals P E hv hl R hP => ?_⟩
      cases vals with
      | nil => subst hv; simp at hl
      | cons y ys' =>
        subst hv
        simp only [List.map_cons, List.length_cons] at hl
        show wpAny _ _ (assignInOrder (assign (.Name x p) c.env :: (assignEach r c.env).map (fun x => x.snd)) (y :: ys')) P E s
        refine assignInOrder_cons (PyProof.Rows.assign_Name (storeS FO hsc ok hcp b1 b2 R rfl fun h' tk' gn' R' => ?_))
        exact ih _ _ _ _ _ _ _ _ rfl (by simpa using hl) R' fun h2 tk2 gn2 R2 => hP h2 tk2 gn2 R2
theorem bindNames {F : Fx} {c : Cx} (FO : F.Ok) (hsc : SCF c F) (ok : c.Ok) (hcp : c.cp = none) : ∀ {xs : List Str} {is : List Nat}, xs.length = is.length → (∀ p ∈ xs.zip is, F.names[p.2]? = some p.1 ∧ F.sc.names.lookup p.1 = some .local) →
    ∀ (l : List V) (hp : HP) (fr : List (Addr × Obj)) (s : Shared) (vs : List V) (vals : List Value) (P : Unit → Shared → Prop) (E : Value → Shared → Prop), vals.map absV = vs → vs.length = is.length → Rep c F.names l hp fr s.heap s.gens →
      (∀ h' tk' gn', Rep c F.names (lsetN l is vs) hp fr h' gn' → P () { s with heap := h', toks := tk', gens := gn' }) →
      wpAny (model c.g.prog c.g.w) c.A (assignInOrder (xs.map fun n => bindName c.env n) vals) P E s
  | [], [], _, _ => fun l hp fr s vs vals P E hv hl R hP => by
    have : vs = [] := by simpa using hl
    subst this
    exact assignInOrder_nil (hP s.heap s.toks s.gens R)
  | [], _ :: _, h, _ => by simp at h
  | _ :: _, [], h, _ => by simp at h
  | x :: xs, i :: is, h, hz => fun l hp fr s vs vals P E hv hl R hP => by
    cases vals with
    | nil => subst hv; simp at hl
    | cons y ys' =>
      subst hv
      obtain ⟨b1, b2⟩ := hz (x, i) (by simp)
      refine assignInOrder_cons (bindName_ (storeS FO hsc ok hcp b1 b2 R rfl fun h' tk' gn' R' => ?_))
      exact bindNames FO hsc ok hcp (by simpa using h) (fun p hp => hz p (by simp only [List.zip_cons_cons]; exact .tail _ hp)) _ _ _ _ _ _ _ _ rfl (by simpa using hl) R' fun h2 tk2 gn2 R2 => hP h2 tk2 gn2 R2
theorem tgt?_zip {F : Fx} : ∀ {ts : List Expr} {xs : List Str} {is : List Nat}, tgt? F ts = some (xs, is) → xs.length = is.length ∧ ∀ p ∈ xs.zip is, F.names[p.2]? = some p.1 ∧ F.sc.names.lookup p.1 = some .local
  | [], xs, is, h => by cases h; simp
  | e :: r, xs, is, h => by
    refine Gen fun Gq9 back => ?_
    rcases tgt?_cons h with ⟨x, p, i, ys, js, hz13, hi, hr, hz14, hz15⟩
    refine back ?_
    clear back
    clear Gq9
    subst hz13
    subst hz14
    subst hz15
    · obtain ⟨a1, a2⟩ := tgt?_zip hr
      obtain ⟨b1, b2, b3⟩ := loc?_spec hi
      refine ⟨by simp [a1], fun p hp => ?_⟩
      simp only [List.zip_cons_cons] at hp
      cases hp with
      | head => exact ⟨b1, b2⟩
      | tail _ hp => exact a2 p hp
noncomputable def swr (sc : Scope) (ts vs : List Expr) : Option (Option (List Str)) :=
  if !(ts.length == 2 || ts.length == 3) || vs.length != ts.length then some none
  else if vs.any (fun | .Starred .. => true | _ => false) then some none
  else
    let line := (ts.head?.map (·.pos.line)).getD 0
    let names := ts.filterMap fun
      | .Name id pos => if sc.names.lookup id == some .local && pos.line == line then some id else none
      | _ => none
    if names.length != ts.length || names.eraseDups.length != names.length then some none
    else if vs.all (foldedForSure 8) then some none
    else if vs.all (constantsAlone 8) then none
    else some (some names)
theorem sw5 {n : List Str} {r : Option (List Str)} : ∀ b1 b2 b3 b4 b5 : Bool, (if b1 = true then some none else if b2 = true then some none else if b3 = true then some none else if b4 = true then some none else if b5 = true then none else some (some n)) = some r →
    ∀ u : Sem (Option (List Str)), (if b1 = true then pure none else if b2 = true then pure none else if b3 = true then pure none else if b4 = true then pure none else if b5 = true then u else pure (some n)) = (pure r : Sem _)
  | true, _, _, _, _, h, _ => by cases h; rfl
  | false, true, _, _, _, h, _ => by cases h; rfl
  | false, false, true, _, _, h, _ => by cases h; rfl
  | false, false, false, true, _, h, _ => by cases h; rfl
  | false, false, false, false, true, h, _ => nomatch h
  | false, false, false, false, false, h, _ => by cases h; rfl
theorem swr_spec {sc : Scope} {ts vs : List Expr} {r : Option (List Str)} (h : swr sc ts vs = some r) {env : Env} (he : env.scope = sc) (hk : sc.kind = .function) {k k' p p'} :
    swappedStores [.Tuple ts k p] (.Tuple vs k' p') env = pure r := by
  subst he
  have hb : (env.blockKind != .function) = false := by unfold Env.blockKind; rw [hk]; rfl
  show (if (_ || (env.blockKind != .function)) = true then _ else _) = _
  rw [hb, Bool.or_false]
  exact sw5 (!(ts.length == 2 || ts.length == 3) || vs.length != ts.length) _ _ _ _ h _
noncomputable def TupOr (e : Expr) : Prop := (∃ vs k' p', e = .Tuple vs k' p') ∨ ∀ ts k p, swappedStores [.Tuple ts k p] e = fun _ => pure none
theorem tup_t {vs k p} : TupOr (.Tuple vs k p) := .inl ⟨_, _, _, rfl⟩
theorem tup_n {e : Expr} (h : (fun ts k p => swappedStores [.Tuple ts k p] e) = fun _ _ _ _ => pure none) : TupOr e := .inr fun ts k p => congrFun (congrFun (congrFun h ts) k) p
theorem tup_or (e : Expr) : TupOr e := by
  cases e <;> first | exact tup_n rfl | exact tup_t
theorem unp_none {ts : List Expr} {k p} {e : Expr} (h : ∀ vs k' p', e ≠ .Tuple vs k' p') {env : Env} : swappedStores [.Tuple ts k p] e env = pure none :=
  (tup_or e).elim (fun ⟨_, _, _, q⟩ => absurd q (h _ _ _)) fun q => congrFun (q ts k p) env
section
variable {F : Fx}
theorem ss_asgN (hF : F.cold = true ∨ F.hot = true) {ts es : List Expr} {k k' p p' pos} {xs : List Str} {is : List Nat} {ms : ME} (ht : tgt? F ts = some (xs, is)) (hs : swr F.sc ts es = some none ∨ (swr F.sc ts es = some (some xs) ∧ is.Nodup))
    (hl : ts.length = es.length) (hsz : es.length ≤ 100) (hes : SEs F es ms) : SS F (.Assign [.Tuple ts k p] (.Tuple es k' p') pos) (.asgN is ms) := by
  intro c d FO hg hsc ok rm l hp Q X hev hcp fr s P E R hP hX
  refine Gen fun Gq9 back => ?_
  rcases tgt?_assign (c := c) FO hsc ok hcp ht with ⟨⟨a1, a2, a3⟩, hasg⟩
  refine back ?_
  clear back
  clear Gq9
  have hkf : F.sc.kind = .function := hsc.1 ▸ ok.kind
  have main : ∀ (vs : List V) (vals : List Value) (h1 : HP) (hh : Heap) (tk : Nat) (gn : Array GenState) (T₀ : Value → Shared → Prop), vals.map absV = vs → vs.length = is.length → Rep c F.names l h1 fr hh gn →
      (∀ r h' g m news, TurnG c.fs c.h₀ g gn → Fr g c.L h' m → LocX c F.names l m fr → HpN c h1 news → News g c.L h' ((r, { cls := .type "tuple", data := .seq vals.toArray }) :: (news ++ fr)) → (∀ p ∈ fr, h1 p.1 = Option.none) → T₀ (.ref r) { s with heap := h', toks := tk, gens := gn }) →
      wpAny (model c.g.prog c.g.w) c.A (newTuple vals) T₀ E { s with heap := hh, toks := tk, gens := gn } := by
    intro vs vals h1 hh tk gn T₀ hv hlv R1 hT
    refine Gen fun Gq9 back => ?_
    rcases R1.parts with ⟨g, m, news, T, Fm, lo, H, N, D⟩
    refine back ?_
    clear back
    clear Gq9
    refine newTuple_N Fm N (fun h' F' N' => hT _ h' g m news T F' lo H N' D) ?_
    have : vals.length = vs.length := by rw [← hv]; simp
    have h2 : sizeLine = 2 ^ 24 := rfl
    (first | lia | omega)
  have hsw : ∀ t, swapsWithSole [t] (.Tuple es k' p') pos.line c.env = pure false := fun t => swaps_plain (e := .Tuple es k' p') rfl (some t) pos.line c.env
  rcases hs with hs | ⟨hs, hnd⟩
  · refine Assign_Tuple ?_ (hsw _) (swr_spec hs (c.env_scope.trans hsc.1) hkf)
    refine Tuple_ (hes c d FO hg hsc ok rm l hp _ X hev p' fr s _ E R (fun vs vals h1 hh tk gn hq hx R1 => ?_) (hX l))
    dsimp only at hq
    cases hsl : sameLen vs is with
    | false => rw [hsl] at hq; exact hq.elim
    | true =>
      rw [hsl] at hq
      have hlv := sameLen_len hsl
      refine main vs vals h1 hh tk gn _ hx hlv R1 fun r h' g m news T F' lo H N' D => ?_
      refine unpackN_any F' N' (t := r) (items := vals.toArray) ⟨_, (N' _ (.head _)).1, rfl, _, rfl⟩ (still hsc hF T F') (by rw [a1, a2, ← hlv, ← hx]; simp) a3 fun h2 F2 N2 => ?_
      exact hasg _ _ _ _ vs vals.toArray.toList _ _ (by simpa [rVs] using hx) hlv (Rep.of T F2 lo H (fun p hp => N2 p (.tail _ hp)) D) fun h3 tk3 gn3 R3 => hP .next .next _ h1 h3 tk3 gn3 hq trivial R3
  · refine Assign_Tuple_swapped (names := xs) ?_ (hsw _) (swr_spec hs (c.env_scope.trans hsc.1) hkf)
    refine Tuple_ (hes c d FO hg hsc ok rm l hp _ X hev p' fr s _ E R (fun vs vals h1 hh tk gn hq hx R1 => ?_) (hX l))
    dsimp only at hq
    cases hsl : sameLen vs is with
    | false => rw [hsl] at hq; exact hq.elim
    | true =>
      rw [hsl] at hq
      have hlv := sameLen_len hsl
      obtain ⟨z1, z2⟩ := tgt?_zip ht
      refine main vs vals h1 hh tk gn _ hx hlv R1 fun r h' g m news T F' lo H N' D => ?_
      refine unpackItemsN_any F' N' (t := r) (items := vals.toArray) ⟨_, (N' _ (.head _)).1, rfl, _, rfl⟩ (still hsc hF T F') (by rw [z1, ← hlv, ← hx]; simp) fun h2 F2 N2 => ?_
      refine bindNames FO hsc ok hcp (xs := xs.reverse) (is := is.reverse) (by simpa using z1) (fun q hq' => z2 q ?_) _ _ _ _ vs.reverse _ _ _ (by rw [← hx]; simp) (by simpa using hlv) (Rep.of T F2 lo H (fun p hp => N2 p (.tail _ hp)) D) fun h3 tk3 gn3 R3 => ?_
      · have e9 : xs.reverse.zip is.reverse = (xs.zip is).reverse := by simp only [List.zip]; exact (List.reverse_zipWith z1).symm
        rw [e9] at hq'
        simpa using hq'
      · rw [lsetN_rev is vs l hnd hlv.symm] at R3
        exact hP .next .next _ h1 h3 tk3 gn3 hq trivial R3
theorem ss_unp (hF : F.cold = true) {ts : List Expr} {k p pos} {xs : List Str} {is : List Nat} {e : Expr} {m : ME} (ht : tgt? F ts = some (xs, is)) (hne : ∀ vs k' p', e ≠ .Tuple vs k' p') (hc : compE e = false)
    (he : SE F e m) : SS F (.Assign [.Tuple ts k p] e pos) (.unp is m) := by
  intro c d FO hg hsc ok rm l hp Q X hev hcp fr s P E R hP hX
  refine Gen fun Gq9 back => ?_
  rcases tgt?_assign (c := c) FO hsc ok hcp ht with ⟨⟨a1, a2, a3⟩, hasg⟩
  refine back ?_
  clear back
  clear Gq9
  have hsw : swapsWithSole [.Tuple ts k p] e pos.line c.env = pure false := swaps_plain hc (some (.Tuple ts k p)) pos.line c.env
  refine Assign_Tuple ?_ hsw (unp_none hne)
  refine he c d FO hg hsc ok rm l hp _ X hev fr s _ E R (fun v x h1 hh tk gn hq hx R1 => ?_) (hX l)
  cases v with
  | ref a =>
    cases absV_ref hx
    refine Gen fun Gq9 back => ?_
    rcases hq with ⟨vs, e1, hlv, hq⟩
    refine back ?_
    clear back
    clear Gq9
    obtain ⟨items, hi, hl⟩ := R1.items ok e1
    · refine Gen fun Gq9 back => ?_
      rcases R1.parts with ⟨g, m', news, T, Fm, lo, H, N, D⟩
      refine back ?_
      clear back
      clear Gq9
      refine unpackLT Fm N (hl.imp (·.1) (·.1)) (handled_none hsc hF) (by rw [a1, a2, ← hlv, ← hi]; simp) a3 fun h2 F2 N2 => ?_
      exact hasg _ _ _ _ vs items.toList _ _ hi hlv (Rep.of T F2 lo H N2 D) fun h3 tk3 gn3 R3 => hP .next .next _ h1 h3 tk3 gn3 hq trivial R3
  | _ => exact hq.elim
theorem Rep.upd {c : Cx} {names l hp fr h h'} {a : Addr} {o o₀ : O} {ob : Obj} (R : Rep c names l hp fr h gn) (h0 : hp a = some o₀) (hs : Heap.SameBut a h h') (ho : h'.get? a = some ob) (hr : RepO o ob)
    (hn : ∀ ws, o₀ ≠ .ro ws) : Rep c names l (hset hp a o) fr h' gn := by
  refine Gen fun Gq9 back => ?_
  rcases R with ⟨g, T, m, Fm, lo, H, N, D⟩
  refine back ?_
  clear back
  clear Gq9
  have ha : a ≠ c.L ∧ g.get? a = none := by
    have := H.2 a _ h0
    cases o₀ with
    | ro ws => exact absurd rfl (hn ws)
    | list ws => obtain ⟨_, _, _, q⟩ := this; exact q
    | tup ws => obtain ⟨_, _, _, q⟩ := this; exact q
    | cell ws => obtain ⟨_, _, _, q⟩ := this; exact q
    | rng _ _ _ => obtain ⟨_, _, _, q⟩ := this; exact q
    | dict _ => obtain ⟨_, _, _, q⟩ := this; exact q
    | tab => obtain ⟨_, _, _, q⟩ := this; exact q
  have hfr : ∀ p ∈ fr, p.1 ≠ a := fun p hp' e => by have := D p hp'; rw [e, h0] at this; cases this
  refine ⟨g, T, m, ⟨Fm.ns.at' fun ob' e => (hs.2 _ (Ne.symm ha.1)).trans e, fun b ob' e => (hs.2 b fun q => by rw [q, ha.2] at e; cases e).trans (Fm.keep b ob' e), Fm.above⟩, lo, ⟨?_, fun b x hx => ?_⟩, fun p hp' => ⟨(hs.2 _ (hfr p hp')).trans (N p hp').1, (N p hp').2⟩, fun p hp' => by rw [hset_ne (hfr p hp')]; exact D p hp'⟩
  · obtain ⟨Dm, hD⟩ := H.1
    refine ⟨a :: Dm, fun b x hx => ?_⟩
    by_cases e : b = a
    · exact e ▸ .head _
    · rw [hset_ne e] at hx; exact .tail _ (hD b x hx)
  · by_cases e : b = a
    · subst e
      rw [hset_same] at hx
      cases hx
      cases o with
      | ro vs => exact hr.elim
      | list vs => exact ⟨ob, ho, hr, ha⟩
      | tup vs => exact ⟨ob, ho, hr, ha⟩
      | cell vs => exact ⟨ob, ho, hr, ha⟩
      | rng _ _ _ => exact ⟨ob, ho, hr, ha⟩
      | dict _ => exact ⟨ob, ho, hr, ha⟩
      | tab => exact ⟨ob, ho, hr, ha⟩
    · rw [hset_ne e] at hx
      have := H.2 b x hx
      cases x with
      | ro vs => exact this
      | list vs => obtain ⟨ob', h1, h2⟩ := this; exact ⟨ob', (hs.2 _ e).trans h1, h2⟩
      | tup vs => obtain ⟨ob', h1, h2⟩ := this; exact ⟨ob', (hs.2 _ e).trans h1, h2⟩
      | cell vs => obtain ⟨ob', h1, h2⟩ := this; exact ⟨ob', (hs.2 _ e).trans h1, h2⟩
      | rng _ _ _ => obtain ⟨ob', h1, h2⟩ := this; exact ⟨ob', (hs.2 _ e).trans h1, h2⟩
      | dict _ => obtain ⟨ob', h1, h2⟩ := this; exact ⟨ob', (hs.2 _ e).trans h1, h2⟩
      | tab => obtain ⟨ob', h1, h2⟩ := this; exact ⟨ob', (hs.2 _ e).trans h1, h2⟩
end
/-! frames whose ground has turned -/
theorem turnBack {A₀ : Around} {base h₀ g g' H : Heap} {outer : List Env} {L : Addr} {m : Str → Option Value} (B : Below A₀ base outer h₀) (FG : Fr h₀ L g m)
    (T : KtsTurn (L :: outer.filterMap (·.frame)) g g') (k : ∀ b o, g'.get? b = some o → H.get? b = some o) :
    ∃ h', KtsTurn (outer.filterMap (·.frame)) h₀ h' ∧ Fr h' L H m ∧ ∀ b, g'.get? b = none → b ≠ L ∧ h'.get? b = none := by
  have nL : h₀.get? L = none := kts_self FG
  refine Gen fun Gq9 back => ?_
  rcases FG.ns with ⟨oL, es, ep, hL, hLd, hLk, hLf⟩
  refine back ?_
  clear back
  clear Gq9
  obtain ⟨sl, hs⟩ := T.up hL
  obtain ⟨T₁, S₁⟩ := kts_turn_at (h := H) (fs := outer.filterMap (·.frame)) (g := h₀)
    (fun b hb => by
      refine Gen fun Gq9 back => ?_
      rcases B.frames.mem hb with ⟨_, o, ho', _⟩
      refine back ?_
      clear back
      clear Gq9
      exact ⟨o, ho'⟩)
    (fun b o e nm => k b o (T.other b o (FG.keep b o e) (fun q => by
      rcases List.mem_cons.mp q with z | z
      · rw [z, nL] at e; cases e
      · exact nm z)))
    (fun b o e hm => by
      obtain ⟨sl', hs'⟩ := T.up (FG.keep b o e)
      exact ⟨sl', k _ _ hs'⟩)
  refine ⟨_, T₁, ⟨⟨_, es, ep, k _ _ hs, hLd, hLk, hLf⟩, S₁, by rw [T₁.size]; exact FG.above⟩, fun b hb => ⟨fun e => (by rw [e, hs] at hb; cases hb), T₁.none_ _ ?_⟩⟩
  cases q : h₀.get? b with
  | none => rfl
  | some o =>
    obtain ⟨sl', hs'⟩ := T.up (FG.keep _ _ q)
    rw [hs'] at hb; cases hb
noncomputable def LeaveT (fs : List Addr) (h₀ : Heap) (L : Addr) (m : Str → Option Value) (g : Heap) (R : Result → Shared → Prop) (v : Value) (s' : Shared) : Prop :=
  ∃ g' L' m' news', KtsTurn (L :: fs) g g' ∧ Fr g' L' s'.heap m' ∧ News g' L' s'.heap news' ∧ ∀ h₀', KtsTurn fs h₀ h₀' → Fr h₀' L s'.heap m → News h₀' L s'.heap news' → R (.ok (.ret v)) s'
theorem LeaveT.done {A₀ : Around} {base h₀ g : Heap} {outer : List Env} {L : Addr} {m : Str → Option Value} {R : Result → Shared → Prop} {v : Value} {s' : Shared} (B : Below A₀ base outer h₀) (FG : Fr h₀ L g m)
    (h : LeaveT (outer.filterMap (·.frame)) h₀ L m g R v s') : R (.ok (.ret v)) s' := by
  refine Gen fun Gq9 back => ?_
  rcases h with ⟨g', L', m', news', T, F', N', k⟩
  refine back ?_
  clear back
  clear Gq9
  refine Gen fun Gq9 back => ?_
  rcases turnBack (H := s'.heap) B FG T F'.keep with ⟨h', T₁, F₁, fr⟩
  refine back ?_
  clear back
  clear Gq9
  exact k h' T₁ F₁ fun p hp => ⟨(N' p hp).1, (fr _ (N' p hp).2.2).1, (fr _ (N' p hp).2.2).2⟩
section
variable {prog : Program} {w : World} {A₀ A : Around} {s : Shared} {base h₀ : Heap} {L : Addr} {m : Str → Option Value} {news : List (Addr × Obj)} {K : Frag} {p : Program} {loose : List Str} {mean : ExcName → Option Value} {mg mb : Str → Option Value}
  {env : Env} {outer : List Env} {R : Result → Shared → Prop} {name qual : Str} {params : Arguments} {body : List Stmt} {scope : Scope} {dV kV doc pm cdv ct oc : Value} {an od : Option Addr} {osl : Array (Option Value)} {f : Addr} {args : Args} {binds : List (Str × Value)}
theorem code_defT (B : Below A₀ base outer h₀) (F : Fr h₀ L s.heap m) (X₀ : K.In h₀) (N : News h₀ L s.heap news) (hlim : h₀.NoLimit) (hA : A.frames = some (env :: outer)) (hf : env.frame = some L) (hke : env.scope.kind = .function)
    (ho : K.lookup f = some ⟨oc, od, .func (fnOf name qual params body scope dV kV doc pm an cdv ct), osl⟩) (hcd : codeIn K cdv qual = true) (hroom : A.depth < recursionLimit)
    (hbind : BindsTo s (fnOf name qual params body scope dV kV doc pm an cdv ct) args binds) (hloc : ∀ y ∈ binds, scope.names.lookup y.1 = some .local)
    (h : ∀ g L' h₁, (∀ b o, s.heap.get? b = some o → b ∉ news.map (·.1) → g.get? b = some o) → Fr h₀ L g m → Fr g L' h₁ (fun y => binds.reverse.lookup y) → News g L' h₁ news → Below A base (env :: outer) g →
      wpAny (model prog w) (A.deeper (envOf qual scope L' f cdv)) (execs body (envOf qual scope L' f cdv))
        (fun fl s' => LeaveT (outer.filterMap (·.frame)) h₀ L m g R (match fl with | .ret v => v | _ => .none) s')
        (fun e s' => wpAny (model prog w) (A.deeper (envOf qual scope L' f cdv)) (leaving (envOf qual scope L' f cdv) e) (fun _ s'' => R (.error e) s'') (fun e' s'' => R (.error e') s'') s')
        { s with heap := h₁, toks := s.toks + binds.length })
    (hco : scope.isCoroutine = false) (hgen : scope.isGenerator = false) (hk : scope.kind = .function)
    (hcell : ∀ x ∈ scope.names, x.2 ≠ .cell) : codeAny (model prog w) A (.call (.ref f) args) R s := by
  refine Gen fun Gq9 back => ?_
  rcases groundX (R := R) B F N hA hf hke with ⟨FG, BG, st, lv⟩
  refine back ?_
  clear back
  clear Gq9
  refine codeAny_call_def (fd := fnOf name qual params body scope dV kV doc pm an cdv ct) (body := body) (binds := binds) hroom ((X₀.keeps F.keep) _ _ ho) rfl (hlim.keeps F.keep) (codeRec_of (X₀.keeps F.keep) hcd) rfl hbind hcell hloc (fun h₁ hns hk₁ => ?_) hco hgen hk
  exact wpAny_mono (h _ s.heap.objs.size h₁ (fun b o e n => hideAll_get _ e n) FG ⟨hns, fun b o e => hk₁ b o (of_hideAll _ e), Nat.le_of_eq (hideAll_size _ _)⟩
    (fun p hp => ⟨hk₁ _ _ (N p hp).1, Nat.ne_of_lt (Heap.lt_size (N p hp).1), hideAll_none _ (List.mem_map_of_mem hp)⟩) BG) (fun fl s' hl => hl.done B FG) fun _ _ y => y
theorem code_defCT (B : Below A₀ base outer h₀) (F : Fr h₀ L s.heap m) (X₀ : K.In h₀) (N : News h₀ L s.heap news) (hlim : h₀.NoLimit) (hA : A.frames = some (env :: outer)) (hf : env.frame = some L) (hke : env.scope.kind = .function)
    (ho : K.lookup f = some ⟨oc, od, .func (fnOf name qual params body scope dV kV doc pm an cdv ct), osl⟩) (hcd : codeIn K cdv qual = true) (hroom : A.depth < recursionLimit)
    (hbind : BindsTo s (fnOf name qual params body scope dV kV doc pm an cdv ct) args binds) (hkind : (binds.all fun y => scope.names.lookup y.1 == some .local || scope.names.lookup y.1 == some .cell) = true)
    (hnd : ((cellsFrom 0 scope.names []).map (·.1)).Nodup)
    (h : ∀ g L' h₁ tk cells, Fr h₀ L g m → Fr g L' h₁ (bindL (envOfC qual scope L' f cdv).kindOf binds fun _ => none) → News g L' h₁ (cells ++ news) →
      CellsAre (bindC (envOfC qual scope L' f cdv).kindOf binds fun _ => none) (cellsFrom (L' + 1) scope.names []) cells → Below A base (env :: outer) g → (∀ p ∈ news, p.1 < L') →
      wpAny (model prog w) (A.deeper (envOfC qual scope L' f cdv)) (execs body (envOfC qual scope L' f cdv))
        (fun fl s' => LeaveT (outer.filterMap (·.frame)) h₀ L m g R (match fl with | .ret v => v | _ => .none) s')
        (fun e s' => wpAny (model prog w) (A.deeper (envOfC qual scope L' f cdv)) (leaving (envOfC qual scope L' f cdv) e) (fun _ s'' => R (.error e) s'') (fun e' s'' => R (.error e') s'') s')
        { s with heap := h₁, toks := tk })
    (hco : scope.isCoroutine = false) (hgen : scope.isGenerator = false) (hk : scope.kind = .function) : codeAny (model prog w) A (.call (.ref f) args) R s := by
  refine Gen fun Gq9 back => ?_
  rcases groundX (R := R) B F N hA hf hke with ⟨FG, BG, st, lv⟩
  refine back ?_
  clear back
  clear Gq9
  refine codeAny_call_function hroom ((X₀.keeps F.keep) _ _ ho) rfl hco hgen rfl (codeRec_of (X₀.keeps F.keep) hcd) (hbind _ _ _ _ ?_)
  refine wpAny_newFunctionEnv_cells hk (kindsX hkind _) fun env' he s' x => ?_
  subst he
  refine ⟨(hlim.keeps F.keep).keeps x.toInCall.keep, codeAny_func ?_⟩
  refine Gen fun Gq9 back => ?_
  rcases x.done with ⟨h₁, tk, hz16, _⟩
  refine back ?_
  clear back
  clear Gq9
  subst hz16
  have hk₁ := x.toInCall.keep
  obtain ⟨cells, NC, Y⟩ := Cl.news (h₀ := s.heap) (Nat.le_refl _) fun n c hm => ⟨x.cell n c (lookup_of_mem_nodup (cellsFrom_names scope.names 0 (s.heap.objs.size + 1) [] [] rfl ▸ hnd) hm), x.above n c hm⟩
  refine wpAny_mono (h _ s.heap.objs.size h₁ tk cells FG ⟨x.toInCall.ns, fun b o e => hk₁ b o (of_hideAll _ e), Nat.le_of_eq (hideAll_size _ _)⟩ (fun p hp => ?_) Y BG (fun p hp => Heap.lt_size (N p hp).1)) (fun fl s' hl => hl.done B FG) fun _ _ y => y
  rcases List.mem_append.mp hp with hp | hp
  · refine ⟨(NC p hp).1, (NC p hp).2.1, ?_⟩
    cases q : (hideAll s.heap (news.map (·.1))).get? p.1 with
    | none => rfl
    | some o => have := of_hideAll _ q; rw [(NC p hp).2.2] at this; cases this
  · exact ⟨hk₁ _ _ (N p hp).1, Nat.ne_of_lt (Heap.lt_size (N p hp).1), hideAll_none _ (List.mem_map_of_mem hp)⟩
end
theorem Cx.Ok.dictsPush {c : Cx} (ok : c.Ok) {g : Heap} {m : Str → Option Value} (FG : Fr c.h₀ c.L g m) : KtsDicts (c.L :: c.fs) g := by
  intro b hb
  rcases List.mem_cons.mp hb with rfl | hb
  · refine Gen fun Gq9 back => ?_
    rcases FG.ns with ⟨oL, es, ep, hL, hLd, _⟩
    refine back ?_
    clear back
    clear Gq9
    exact ⟨oL, es, ep, hL, hLd⟩
  · refine Gen fun Gq9 back => ?_
    rcases ok.dicts b hb with ⟨o, es, n, ho, hd⟩
    refine back ?_
    clear back
    clear Gq9
    exact ⟨o, es, n, FG.keep b o ho, hd⟩
noncomputable def hclr (hp : HP) (a : Addr) : HP := fun b => if b = a then none else hp b
theorem Rep.atO {c : Cx} {names l hp fr h} {a : Addr} {o₀ : O} (R : Rep c names l hp fr h gn) (e : hp a = some o₀) (hn : ∀ ws, o₀ ≠ .ro ws) :
    ∃ g m news ob, TurnG c.fs c.h₀ g gn ∧ Fr g c.L h m ∧ LocX c names l m fr ∧ RepO o₀ ob ∧ HpN c (hclr hp a) news ∧ News g c.L h ((a, ob) :: (news ++ fr)) ∧
      (∀ p ∈ news ++ fr, p.1 ≠ a) ∧ ∀ p ∈ fr, hp p.1 = Option.none := by
  refine Gen fun Gq9 back => ?_
  rcases R with ⟨g, T, m, Fm, lo, H, N, D⟩
  refine back ?_
  clear back
  clear Gq9
  have H' : HpRep (c.at g) (hclr hp a) h := by
    refine ⟨?_, fun b o hb => ?_⟩
    · obtain ⟨Dm, hD⟩ := H.1
      refine ⟨Dm, fun b o hb => ?_⟩
      unfold hclr at hb
      split at hb
      · cases hb
      · exact hD b o hb
    · unfold hclr at hb
      split at hb
      · cases hb
      · exact H.2 b o hb
  obtain ⟨news, N1, H1⟩ := H'.news
  obtain ⟨ob, h1, hi, h2⟩ : ∃ ob, h.get? a = some ob ∧ RepO o₀ ob ∧ a ≠ c.L ∧ g.get? a = none := by
    have := H.2 a _ e
    cases o₀ with
    | ro ws => exact absurd rfl (hn ws)
    | list ws => exact this
    | tup ws => exact this
    | cell ws => exact this
    | rng _ _ _ => exact this
    | dict _ => exact this
    | tab => exact this
  have hfr : ∀ p ∈ fr, p.1 ≠ a := fun p hp' q => by have := D p hp'; rw [q, e] at this; cases this
  refine ⟨g, m, news.filter (fun p => p.1 != a), ob, T, Fm, lo, hi, ⟨H1.1, fun b o hb => ?_⟩, ?_, ?_, D⟩
  · have hba : b ≠ a := by intro q; unfold hclr at hb; rw [if_pos q] at hb; cases hb
    have := H1.2 b o hb
    cases o with
    | ro vs => exact this
    | list vs => obtain ⟨ob', q1, q2⟩ := this; exact ⟨ob', List.mem_filter.mpr ⟨q1, by simpa using hba⟩, q2⟩
    | tup vs => obtain ⟨ob', q1, q2⟩ := this; exact ⟨ob', List.mem_filter.mpr ⟨q1, by simpa using hba⟩, q2⟩
    | cell vs => obtain ⟨ob', q1, q2⟩ := this; exact ⟨ob', List.mem_filter.mpr ⟨q1, by simpa using hba⟩, q2⟩
    | rng _ _ _ => obtain ⟨ob', q1, q2⟩ := this; exact ⟨ob', List.mem_filter.mpr ⟨q1, by simpa using hba⟩, q2⟩
    | dict _ => obtain ⟨ob', q1, q2⟩ := this; exact ⟨ob', List.mem_filter.mpr ⟨q1, by simpa using hba⟩, q2⟩
    | tab => obtain ⟨ob', q1, q2⟩ := this; exact ⟨ob', List.mem_filter.mpr ⟨q1, by simpa using hba⟩, q2⟩
  · intro p hp'
    rcases List.mem_cons.mp hp' with rfl | hp'
    · exact ⟨h1, h2⟩
    · rcases List.mem_append.mp hp' with q | q
      · exact N1 p (List.mem_filter.mp q).1
      · exact N p q
  · intro p hp'
    rcases List.mem_append.mp hp' with q | q
    · have := (List.mem_filter.mp q).2
      simpa using this
    · exact hfr p q
theorem Rep.at {c : Cx} {names l hp fr h} {a : Addr} {vs : List V} (R : Rep c names l hp fr h gn) (e : hp a = some (.list vs)) :
    ∃ g m news items n, TurnG c.fs c.h₀ g gn ∧ Fr g c.L h m ∧ LocX c names l m fr ∧ items.toList.map absV = vs ∧ HpN c (hclr hp a) news ∧ News g c.L h ((a, listOf items n) :: (news ++ fr)) ∧
      (∀ p ∈ news ++ fr, p.1 ≠ a) ∧ ∀ p ∈ fr, hp p.1 = Option.none := by
  refine Gen fun Gq9 back => ?_
  rcases R.atO e (fun ws q => nomatch q) with ⟨g, m, news, ob, T, Fm, lo, ⟨items, n, hz17, hi⟩, H, N, hne, D⟩
  refine back ?_
  clear back
  clear Gq9
  subst hz17
  exact ⟨g, m, news, items, n, T, Fm, lo, hi, H, N, hne, D⟩
theorem Rep.backO {c : Cx} {names : List Str} {l : List V} {hp : HP} {fr news : List (Addr × Obj)} {h' : Heap} {m : Str → Option Value} {a : Addr} {ob : Obj} {o o₀ : O} {g : Heap}
    (T : TurnG c.fs c.h₀ g gn) (Fm : Fr g c.L h' m) (lo : LocX c names l m fr) (H : HpN c (hclr hp a) news) (N : News g c.L h' ((a, ob) :: (news ++ fr))) (D : ∀ p ∈ fr, hp p.1 = Option.none) (e : hp a = some o₀) (ho : RepO o ob) :
    Rep c names l (hset hp a o) fr h' gn := by
  have hfr : ∀ p ∈ fr, p.1 ≠ a := fun p hp' q => by have := D p hp'; rw [q, e] at this; cases this
  refine Rep.of (news := (a, ob) :: news) T Fm lo ⟨?_, fun b x hx => ?_⟩ N fun p hp' => by rw [hset_ne (hfr p hp')]; exact D p hp'
  · obtain ⟨Dm, hD⟩ := H.1
    refine ⟨a :: Dm, fun b x hx => ?_⟩
    by_cases q : b = a
    · exact q ▸ .head _
    · rw [hset_ne q] at hx; exact .tail _ (hD b x (by unfold hclr; rw [if_neg q]; exact hx))
  · by_cases q : b = a
    · subst q
      rw [hset_same] at hx
      cases hx
      cases o with
      | ro ws => exact ho.elim
      | list ws => exact ⟨_, .head _, ho⟩
      | tup ws => exact ⟨_, .head _, ho⟩
      | cell ws => exact ⟨_, .head _, ho⟩
      | rng _ _ _ => exact ⟨_, .head _, ho⟩
      | dict _ => exact ⟨_, .head _, ho⟩
      | tab => exact ⟨_, .head _, ho⟩
    · rw [hset_ne q] at hx
      have := H.2 b x (by unfold hclr; rw [if_neg q]; exact hx)
      cases x with
      | ro vs => exact this
      | list vs => obtain ⟨ob', h1, h2⟩ := this; exact ⟨ob', .tail _ h1, h2⟩
      | tup vs => obtain ⟨ob', h1, h2⟩ := this; exact ⟨ob', .tail _ h1, h2⟩
      | cell vs => obtain ⟨ob', h1, h2⟩ := this; exact ⟨ob', .tail _ h1, h2⟩
      | rng _ _ _ => obtain ⟨ob', h1, h2⟩ := this; exact ⟨ob', .tail _ h1, h2⟩
      | dict _ => obtain ⟨ob', h1, h2⟩ := this; exact ⟨ob', .tail _ h1, h2⟩
      | tab => obtain ⟨ob', h1, h2⟩ := this; exact ⟨ob', .tail _ h1, h2⟩
theorem Rep.back {c : Cx} {names : List Str} {l : List V} {hp : HP} {fr news : List (Addr × Obj)} {h' : Heap} {m : Str → Option Value} {a : Addr} {items : Array Value} {n : Nat} {o₀ : O} {g : Heap}
    (T : TurnG c.fs c.h₀ g gn) (Fm : Fr g c.L h' m) (lo : LocX c names l m fr) (H : HpN c (hclr hp a) news) (N : News g c.L h' ((a, listOf items n) :: (news ++ fr))) (D : ∀ p ∈ fr, hp p.1 = Option.none) (e : hp a = some o₀) :
    Rep c names l (hset hp a (.list (items.toList.map absV))) fr h' gn := Rep.backO T Fm lo H N D e ⟨items, n, rfl, rfl⟩
theorem setL_some : ∀ {l : List Value} {k : Nat} {v : Value}, k < l.length → ki_setL l k v = some (l.set k v)
  | [], _, _, h => by simp at h
  | _ :: _, 0, _, _ => rfl
  | x :: r, k + 1, v, h => by
    show (match ki_setL r k v with | some q => some (x :: q) | none => none) = _
    rw [setL_some (by simpa using h)]; rfl
section
variable {F : Fx}
theorem ss_setI {o i e : Expr} {p pos} {mo mi me : ME} (hc : compE e = false) (he : SE F e me) (ho : SE F o mo) (hi : SE F i mi) : SS F (.Assign [.Subscript o i p] e pos) (.setI mo mi me) := by
  intro c d FO hg hsc ok rm l hp Q X hev hcp fr s P E R hP hX
  refine wpAny_Assign_Subscript (he c d FO hg hsc ok rm l hp _ X hev fr s _ E R (fun u x h1 hh tk gn hq hx R1 => ?_) (hX l)) (swaps_plain hc _ _ _)
  refine ho c d FO hg hsc ok rm l h1 _ X hq fr _ _ E R1 (fun v y h2 hh2 tk2 gn2 hq2 hy R2 => ?_) (hX l)
  refine hi c d FO hg hsc ok rm l h2 _ X hq2 fr _ _ E R2 (fun w z h3 hh3 tk3 gn3 hq3 hz R3 => ?_) (hX l)
  obtain ⟨a, k, rfl, rfl⟩ : ∃ a k, v = .ref a ∧ w = .int k := by cases v <;> first | exact hq3.elim | (cases w <;> first | exact hq3.elim | exact ⟨_, _, rfl, rfl⟩)
  · cases absV_ref hy
    obtain ⟨t, rfl⟩ := absV_int hz
    rcases hq3 with ⟨vs, e1, h0, hlt, hfit, hq4⟩ | ⟨cc, yy, e1, rfl, hlen, hq4⟩
    rotate_left
    · refine Gen fun Gq9 back => ?_
      rcases R3.atO e1 (fun ws q => nomatch q) with ⟨g, m, news, ob, T, Fm, lo, ⟨kvs, hdd, hff⟩, H, N, hne, D⟩
      refine back ?_
      clear back
      clear Gq9
      obtain ⟨te, rfl⟩ := absV_int hx
      rw [← hg] at hdd
      refine kdf_setItem Fm N (.head hne) hdd hff hlen fun h' o' kvs' F' N' hd' hf' => ?_
      exact hP .next .next _ _ h' _ _ hq4 trivial (Rep.backO T F' lo H N' D e1 ⟨kvs', hg ▸ hd', hf'⟩)
    refine Gen fun Gq9 back => ?_
    rcases R3.at e1 with ⟨g, m, news, items, n, T, Fm, lo, hit, H, N, hne, D⟩
    refine back ?_
    clear back
    clear Gq9
    have hsz : items.size = vs.length := by rw [← hit]; simp
    cases hx
    refine ki_set (its := items) (n := n) (D := a) Fm N h0 (by (first | lia | omega)) (q := items.toList.set k.toNat x) ?_ (Upd.head hne) fun h' F' N' => ?_
    · exact setL_some (by rw [Array.length_toList]; (first | lia | omega))
    · have := Rep.back T F' lo H N' D e1
      refine hP .next .next _ _ h' _ _ hq4 trivial ?_
      simpa [← hit, List.map_set] using this
theorem iterOf_cases {o : Option O} {vs : List V} (h : iterOf o = some vs) : itemsOf o = some vs ∨ ∃ a b c, o = some (.rng a b c) ∧ Builtin.Range.small a b c = true ∧ vs = rngL a b c := by
  cases o with
  | none => exact .inl h
  | some o =>
    cases o with
    | rng a b c =>
      simp only [iterOf] at h
      split at h
      · rename_i q; exact .inr ⟨a, b, c, rfl, q, (Option.some.inj h).symm⟩
      · cases h
    | _ => exact .inl h
theorem Rep.rng {c : Cx} {names l hp fr h} {a : Addr} {x y z : Int} (R : Rep c names l hp fr h gn) (e : hp a = some (.rng x y z)) : ∃ t u v, IsRange h a x y z t u v := by
  refine Gen fun Gq9 back => ?_
  rcases R with ⟨g, T, m, Fm, lo, H, N, D⟩
  refine back ?_
  clear back
  clear Gq9
  refine Gen fun Gq9 back => ?_
  rcases H.2 a _ e with ⟨ob, h1, ⟨t, u, v, hz18⟩, _⟩
  refine back ?_
  clear back
  clear Gq9
  subst hz18
  exact ⟨t, u, v, h1⟩
theorem forLG (hF : F.cold = true) {tgt : Expr} {upd : V → List V → HP → (List V → Prop) → Prop} {pos : Pos} {iter : Expr} {mi : ME} {b : List Stmt} {m : MS} (hse : setE iter = false) (hit : SE F iter mi) (hb : SB F b m)
    {c : Cx} {d : Nat} (FO : F.Ok) (hg : c.g = F.g) (hsc : SCF c F) (ok : c.Ok) (hcp : c.cp = none) (rm : room c d)
    (hasg : ∀ (v : V) (val : Value) (l : List V) (hp : HP) (fr : List (Addr × Obj)) (s : Shared) (K : List V → Prop) (P : Unit → Shared → Prop) (E : Value → Shared → Prop), absV val = v → upd v l hp K → Rep c F.names l hp fr s.heap s.gens →
      (∀ l' h' tk' gn', K l' → Rep c F.names l' hp fr h' gn' → P () { s with heap := h', toks := tk', gens := gn' }) → wpAny (model c.g.prog c.g.w) c.A (assign tgt c.env val) P E s)
    (hgo : ∀ (it : Addr) (o : Obj) val (s' : Shared) (P : Unit → Shared → Prop) (E : Value → Shared → Prop), (o.cls = .type "list_iterator" ∨ o.cls = .type "tuple_iterator" ∨ o.cls = .type "range_iterator") → s'.heap.get? it = some o → P () s' → wpAny (model c.g.prog c.g.w) c.A (letOwnedTupleGo tgt (.ref it) val) P E s')
    {l : List V} {hp : HP} {Q : Out → List V → HP → Prop} {X : XT}
    (hev : ev F.g d mi l hp (fun v h1 => match v with
      | .ref r => ∃ vs, iterOf (h1 r) = some vs ∧ (vs.length : Int) < 2 ^ 62 ∧ ∃ I : Nat → List V → HP → Prop, I 0 l h1 ∧
          (∀ k x l h, vs[k]? = some x → I k l h → h r = h1 r ∧ upd x l h fun l1 => exec F.g d m l1 h (fun o l2 h2 => match o with
            | .next => I (k + 1) l2 h2 | .brk => Q .next l2 h2 | .ret v => Q (.ret v) l2 h2) noX) ∧
          (∀ l h, I vs.length l h → h r = h1 r ∧ Q .next l h)
      | _ => False) X) {fr : List (Addr × Obj)} {s : Shared} {P : Flow → Shared → Prop} {E : Value → Shared → Prop} (R : Rep c F.names l hp fr s.heap s.gens)
    (hP : ∀ o f l' hp' h' tk' gn', Q o l' hp' → rO o f → Rep c F.names l' hp' fr h' gn' → P f { s with heap := h', toks := tk', gens := gn' }) (hX : XP c F.names l fr X E s) :
    wpAny (model c.g.prog c.g.w) c.A (PySem.exec (.For tgt iter b [] pos) c.env) P E s := by
  refine wpAny_For (hit c d FO hg hsc ok rm l hp _ X hev fr s _ E R (fun v y h1 hh tk gn hq hy R1 => ?_) hX) (folded_plain hse)
  cases v with
  | ref r =>
    cases absV_ref hy
    refine Gen fun Gq9 back => ?_
    rcases hq with ⟨vs, e1, hfit, hq⟩
    refine back ?_
    clear back
    clear Gq9
    rcases iterOf_cases e1 with e1 | ⟨lo, hi', st, erg, hsm, rfl⟩
    case inr =>
      refine Gen fun Gq9 back => ?_
      rcases R1.rng erg with ⟨t, u, v, hr⟩
      refine back ?_
      clear back
      clear Gq9
      refine wpAny_pyIter_range hr hsm ?_
      have R0 := R1.push ok { cls := Value.type "range_iterator", data := Data.fields #[rawInt lo, rawInt (Builtin.Range.rangeSize lo hi' st), rawInt st] } rfl
      have hsz := rangeSize_nn lo hi' st
      refine forSG FO hsc ok hcp hg rm hasg hb (K := fun h => h r = h1 r) (fun k o => o = { cls := Value.type "range_iterator", data := Data.fields #[rawInt (lo + k * st), rawInt (Builtin.Range.rangeSize lo hi' st - k), rawInt st] })
        (fun k o val s' P E ho => hgo _ o val s' P E (.inr (.inr (by rw [ho])))) ?_ ?_ R0 (R1.fresh ok).2 hq hP
      · intro k l1 hp1 o1 h2 s' P1 E1 _ hO hs R2 hfr hitem hend hkl
        subst hO
        subst hs
        simp only [rngL, List.length_map, List.length_range] at hkl hend
        have hit := (by obtain ⟨_, _, _, _, _, _, N, _⟩ := id R2; exact (N _ (.head _)).1 : s'.heap.get? _ = some _)
        by_cases hlt : k < (Builtin.Range.rangeSize lo hi' st).toNat
        · refine wpAny_pyNext_range_item hit (by (first | lia | omega)) fun h' hit' hs' => ?_
          refine hitem _ (.int (lo + k * st)) h' _ _ _ (by simp [rngL, hlt]) rfl ?_ (R2.iter (noC hcp) (fun b ob hne e => (hs'.2 b hne).trans e) hit' hfr)
          congr 4
          · rw [show ((k + 1 : Nat) : Int) * st = (k : Int) * st + st by push_cast; rw [Int.add_mul, Int.one_mul], Int.add_assoc]
          · rw [show Builtin.Range.rangeSize lo hi' st - ((k + 1 : Nat) : Int) = Builtin.Range.rangeSize lo hi' st - k - 1 by push_cast; (first | lia | omega)]
        · refine wpAny_pyNext_range_end (handled_none hsc hF) hit (by (first | lia | omega)) fun h' he => ?_
          exact hend (by (first | lia | omega)) h' _ _ (R2.drop (noC hcp) (fun b ob hne e => he b ob hne e) hfr)
      · simp
    obtain ⟨items, hitems, hl⟩ := R1.items ok e1
    have hex : ∀ h : HP, h r = h1 r → itemsOf (h r) = some vs := fun h e => by rw [e]; exact e1
    rcases hl with ⟨hl, hnt⟩ | ⟨hl, htp⟩
    · refine wpAny_pyIter_list hl ?_
      refine forSG FO hsc ok hcp hg rm hasg hb (K := fun h => h r = h1 r) (fun k o => o.cls = .type "list_iterator" ∧ o.data = .fields #[.ref r, .int k 0]) (fun k o val s' P E ho => hgo _ o val s' P E (.inl ho.1)) ?_ ⟨rfl, rfl⟩ (R1.push ok _ rfl) (R1.fresh ok).2 hq hP
      intro k l1 hp1 o1 h2 s' P1 E1 hKh hO hs R2 hfr hitem hend hkl
      subst hs
      have hIt : s'.heap.IsListIter _ r k := ⟨o1, (by obtain ⟨_, _, _, _, _, _, N, _⟩ := id R2; exact (N _ (.head _)).1), hO⟩
      obtain ⟨items2, hitems2, hl2⟩ := R2.items ok (hex hp1 hKh)
      have hl3 : s'.heap.IsList r items2 := by
        rcases hl2 with ⟨q, _⟩ | ⟨_, q⟩
        · exact q
        · exact absurd (hKh ▸ q) (hnt _)
      have hsz : items2.size = vs.length := by rw [← hitems2]; simp
      by_cases hlt : k < vs.length
      · refine wpAny_pyNext_list_item hIt hl3 (x := items2[k]) (by simp [hsz, hlt]) fun h' hit' hs' => ?_
        obtain ⟨o', ho', hc'⟩ := hit'
        refine hitem _ (absV items2[k]) h' _ _ o' ?_ rfl hc' (R2.iter (noC hcp) (fun b ob hne e => (hs'.2 b hne).trans e) ho' hfr)
        have e9 : vs[k]? = (items2.toList.map absV)[k]? := by rw [hitems2]
        rw [e9]; simp [hsz, hlt]
      · refine wpAny_pyNext_list_end (handled_none hsc hF) hIt hl3 (by simp [hsz]; (first | lia | omega)) fun h' he => ?_
        exact hend (by (first | lia | omega)) h' _ _ (R2.drop (noC hcp) (fun b ob hne e => he b ob hne e) hfr)
    · refine wpAny_pyIter_tuple hl ?_
      refine forSG FO hsc ok hcp hg rm hasg hb (K := fun h => h r = h1 r) (fun k o => o.cls = .type "tuple_iterator" ∧ o.data = .fields #[.ref r, .int k 0]) (fun k o val s' P E ho => hgo _ o val s' P E (.inr (.inl ho.1))) ?_ ⟨rfl, rfl⟩ (R1.push ok _ rfl) (R1.fresh ok).2 hq hP
      intro k l1 hp1 o1 h2 s' P1 E1 hKh hO hs R2 hfr hitem hend hkl
      subst hs
      have hIt : s'.heap.IsTupleIter _ r k := ⟨o1, (by obtain ⟨_, _, _, _, _, _, N, _⟩ := id R2; exact (N _ (.head _)).1), hO⟩
      obtain ⟨items2, hitems2, hl2⟩ := R2.items ok (hex hp1 hKh)
      have hl3 : s'.heap.IsTuple r items2 := by
        rcases hl2 with ⟨_, q⟩ | ⟨q, _⟩
        · exact absurd (hKh.trans htp) (q _)
        · exact q
      have hsz : items2.size = vs.length := by rw [← hitems2]; simp
      by_cases hlt : k < vs.length
      · refine wpAny_pyNext_tuple_item hIt hl3 (x := items2[k]) (by simp [hsz, hlt]) fun h' hit' hs' => ?_
        obtain ⟨o', ho', hc'⟩ := hit'
        refine hitem _ (absV items2[k]) h' _ _ o' ?_ rfl hc' (R2.iter (noC hcp) (fun b ob hne e => (hs'.2 b hne).trans e) ho' hfr)
        have e9 : vs[k]? = (items2.toList.map absV)[k]? := by rw [hitems2]
        rw [e9]; simp [hsz, hlt]
      · refine wpAny_pyNext_tuple_end (handled_none hsc hF) hIt hl3 (by simp [hsz]; (first | lia | omega)) fun h' he => ?_
        exact hend (by (first | lia | omega)) h' _ _ (R2.drop (noC hcp) (fun b ob hne e => he b ob hne e) hfr)
  | _ => exact hq.elim
theorem ss_forL (hF : F.cold = true) {x : Str} {p pos : Pos} {i : Nat} {iter : Expr} {mi : ME} {b : List Stmt} {m : MS} (hse : setE iter = false) (hit : SE F iter mi)
    (hi : F.names[i]? = some x) (hk : F.sc.names.lookup x = some .local) (hb : SB F b m) : SS F (.For (.Name x p) iter b [] pos) (.forL i mi m) := by
  intro c d FO hg hsc ok rm l hp Q X hev hcp fr s P E R hP hX
  exact forLG hF (upd := fun v l _ k => k (lset l i v)) hse hit hb FO hg hsc ok hcp rm
    (fun v val l hp fr s K P E hval hu R1 hP => wpAny_assign_Name (storeS FO hsc ok hcp hi hk R1 hval fun h3 tk3 gn3 R3 => hP _ h3 tk3 gn3 hu R3)) (fun _ _ _ _ _ _ _ _ h => wpAny_pure h) hev R hP (hX l)
end
noncomputable def funOf (K : Frag) (f : Addr) : Option FuncData := match K.lookup f with
  | some ⟨_, _, .func fd, _⟩ => some fd
  | _ => none
theorem funOf_spec {K : Frag} {f : Addr} {fd : FuncData} (h : funOf K f = some fd) : ∃ oc od osl, K.lookup f = some ⟨oc, od, .func fd, osl⟩ := by
  unfold funOf at h
  cases q : K.lookup f with
  | none => rw [q] at h; injection h
  | some o =>
    rw [q] at h
    refine Gen fun Gq9 back => ?_
    rcases o with ⟨a, b, d, e⟩
    refine back ?_
    clear back
    clear Gq9
    cases d <;> first | (injection h; done) | (injection h with h; subst h; exact ⟨_, _, _, rfl⟩)
noncomputable def fnAt (K : Frag) (f : Addr) : FuncData := (funOf K f).getD default
noncomputable def stmtsOf : FuncBody → Option (List Stmt)
  | .stmts b => some b
  | _ => none
noncomputable def bodyAt (K : Frag) (f : Addr) : List Stmt := (stmtsOf (fnAt K f).body).getD []
noncomputable def fnOkB (K : Frag) (f : Addr) : Bool := match funOf K f with
  | some fd => fd.closure.isEmpty && fd.globals == mainGlobals && fd.builtins == builtinsNs && codeIn K fd.code fd.qualname && !fd.scope.isCoroutine && !fd.scope.isGenerator &&
      fd.scope.kind == .function && fd.scope.names.all (fun x => !(x.2 == .cell)) && (stmtsOf fd.body).isSome
  | none => false
theorem lookup_rev {binds : List (Str × Value)} {x : Str} {v : Value} (nd : (binds.map (·.1)).Nodup) (h : (x, v) ∈ binds) : binds.reverse.lookup x = some v := by
  have hn : (binds.reverse.map (·.1)).Nodup := by rw [List.map_reverse]; unfold List.Nodup at *; exact List.pairwise_reverse.mpr (nd.imp Ne.symm)
  have hm : (x, v) ∈ binds.reverse := List.mem_reverse.mpr h
  generalize binds.reverse = bs at hn hm
  induction bs with
  | nil => cases hm
  | cons p r ih =>
    obtain ⟨y, w⟩ := p
    simp only [List.map_cons, List.nodup_cons] at hn
    cases hm with
    | head => simp
    | tail _ hm =>
      have : x ≠ y := fun e => hn.1 (e ▸ List.mem_map_of_mem (f := (·.1)) hm)
      rw [List.lookup_cons, beq_eq_false_iff_ne.mpr this]
      exact ih hn.2 hm
theorem absV_cell {v : Value} {a : Addr} (h : absV v = .cell a) : False := by cases v <;> simp [absV] at h
theorem Loc.start {cl : List (Str × Addr)} {names : List Str} {binds : List (Str × Value)} {l : List V} (nd : names.Nodup) (hn : names.take binds.length = binds.map (·.1)) (hl : l = binds.map (fun p => absV p.2) ++ List.replicate (names.length - binds.length) V.unb) :
    Loc cl names l (fun y => binds.reverse.lookup y) := by
  intro i x v hx hv hne
  subst hl
  by_cases hi : i < binds.length
  · rw [List.getElem?_append_left (by simpa using hi)] at hv
    rw [List.getElem?_map] at hv
    have h1 : binds[i]? = some binds[i] := by simp [hi]
    rw [h1] at hv
    simp only [Option.map_some, Option.some.injEq] at hv
    have h2 : (names.take binds.length)[i]? = some x := by rw [List.getElem?_take, if_pos hi]; exact hx
    rw [hn, List.getElem?_map, h1] at h2
    simp only [Option.map_some, Option.some.injEq] at h2
    refine .inr ⟨fun a e => absV_cell (hv.trans e), binds[i].2, ?_, hv⟩
    have nd' : (binds.map (·.1)).Nodup := hn ▸ List.Sublist.nodup (List.take_sublist _ _) nd
    refine lookup_rev nd' ?_
    have : binds[i] ∈ binds := List.getElem_mem hi
    rw [← h2]; exact this
  · rw [List.getElem?_append_right (by simpa using hi)] at hv
    rw [List.getElem?_replicate] at hv
    split at hv
    · cases hv; exact absurd rfl hne
    · cases hv
noncomputable def retQ (Q : V → HP → Prop) (o : Out) (_ : List V) (h : HP) : Prop :=
  match o with
  | .ret v => Q v h
  | .next => Q .none h
  | .brk => False
noncomputable def Binds (g : G) (f : Addr) (args : List V) (kw : List (Str × V)) (bargs : List (Str × V)) : Prop :=
  ∀ (s : Shared) vals kvals, g.K.In s.heap → vals.map absV = args → (kvals.map fun p => (p.1, absV p.2)) = kw →
    ∃ binds : List (Str × Value), BindsTo s (fnAt g.K f) ⟨vals, kvals⟩ binds ∧ (binds.map fun p => (p.1, absV p.2)) = bargs
theorem calls_of {F : Fx} (hh : F.hot = false) {f : Addr} (hgc : ∀ q, F.gc = some q → (fnAt F.g.K f).code = .ref q.1) (FO : F.Ok) (hok : fnOkB F.g.K f = true) (hsc : (fnAt F.g.K f).scope = F.sc) {ms : MS} (hb : SB F (bodyAt F.g.K f) ms) {args : List V} {kw bargs : List (Str × V)}
    (hbind : Binds F.g f args kw bargs) (hnm : F.names.take bargs.length = bargs.map (·.1)) (hloc : (bargs.all fun p => F.sc.names.lookup p.1 == some .local) = true)
    {d : Nat} {hp : HP} {Q : V → HP → Prop} {X : XC}
    (h : exec F.g d ms (bargs.map (·.2) ++ List.replicate (F.names.length - bargs.length) V.unb) hp (retQ Q) (upX X)) : Calls F.g (d + 1) f args kw hp Q X := by
  intro c hg ok hcold rm names l vals kvals hv hkv fr s P E R hP hX
  unfold fnOkB at hok
  cases hfo : funOf F.g.K f with
  | some fd =>
    rw [hfo] at hok
    refine Gen fun Gq9 back => ?_
    rcases funOf_spec hfo with ⟨oc, od, osl, hK⟩
    refine back ?_
    clear back
    clear Gq9
    simp only [Bool.and_eq_true, Bool.not_eq_true', List.isEmpty_iff, beq_iff_eq] at hok
    refine Gen fun Gq9 back => ?_
    rcases hok with ⟨⟨⟨⟨⟨⟨⟨⟨k1, k2⟩, k3⟩, k4⟩, k5⟩, k6⟩, k7⟩, k8⟩, k9⟩
    refine back ?_
    clear back
    clear Gq9
    have hfd : fnAt F.g.K f = fd := by unfold fnAt; rw [hfo]; first | done | rfl
    cases hbd : fd.body with
    | expr _ => rw [hbd] at k9; cases k9
    | stmts body =>
      have hbody : bodyAt F.g.K f = body := by unfold bodyAt; rw [hfd, hbd]; first | done | rfl
      rw [hbody] at hb
      rw [hfd] at hsc
      obtain ⟨binds, hB, hbs⟩ := hbind s vals kvals (by rw [← hg]; exact R.inK ok) hv hkv
      rw [hfd] at hB
      have hfn : fd = fnOf fd.name fd.qualname fd.params body fd.scope fd.defaults fd.kwdefaults fd.doc fd.pyModule fd.annotations fd.code fd.closureTuple := by
        cases fd
        simp only at k1 k2 k3 hbd
        subst k1 k2 k3 hbd
        rfl
      refine Gen fun Gq9 back => ?_
      rcases R.parts with ⟨g, m, news, T, Fm, lo, H, N, D⟩
      refine back ?_
      clear back
      clear Gq9
      have hlen : binds.length = bargs.length := by rw [← hbs]; simp
      have hb1 : bargs.map (·.1) = binds.map (·.1) := by rw [← hbs]; simp
      have hb2 : bargs.map (·.2) = binds.map (fun p => absV p.2) := by rw [← hbs]; simp
      have okg := ok.turn T
      refine code_defT (K := c.g.K) okg.below Fm (ok.inK.keeps okg.below.stays) N ((ok.top.keeps okg.below.stays).nolimit) (Around.frames_deeper ok.below.stack) rfl ok.fkind (by rw [hg, hK, ← hfn]) (by rw [hg]; exact k4) (by have := rm.1; (first | lia | omega)) (by rw [← hfn]; exact hB) ?_ ?_ k5 k6 k7 ?_
      · intro y hy
        have : (y.1, absV y.2) ∈ bargs := by rw [← hbs]; exact List.mem_map_of_mem (f := fun p => (p.1, absV p.2)) hy
        have := List.all_eq_true.mp hloc _ this
        rw [hsc]; simpa using this
      · intro g' L' h₁ _ FG F' N' B'
        let c' : Cx := { g := c.g, A₀ := c.A, base := c.base, h₀ := g', outer := c.fenv :: c.outer, L := L', qn := fd.qualname, fsc := fd.scope, fa := f, cd := fd.code, cl := [], cp := none }
        have ok' : c'.Ok := ⟨B', ok.inK, ok.top, okg.dictsPush FG, k7, k7, k6, k5, ok.seer, ok.tree⟩
        have rm' : room c' d := ⟨by have := rm.1; show c.A.depth + 1 + d + 200 < _; (first | lia | omega), by have := rm.2; show c.A.units + 3 + 8 * d + 200 < _; (first | lia | omega)⟩
        have R' : Rep c' F.names (bargs.map (·.2) ++ List.replicate (F.names.length - bargs.length) V.unb) hp fr h₁ s.gens := by
          refine Rep.of (c := c') (news := news) (.refl T.bare) F' (Loc.start FO.nd (by rw [hlen, hnm, hb1]) (by rw [hb2, hlen])) H N' D
        refine hb c' d FO hg ⟨hsc, fun _ => rfl, fun _ _ => rfl, fun _ => hcold, fun q => (by rw [hh] at q; injection q), fun q e => (by have := hgc q e; rw [hfd] at this; exact this)⟩ ok' rm' _ hp _ (upX X) h rfl fr _ _ _ R' (fun o f' l' hp' h' tk' gn' hq hf R2 => ?_) (fun l' => ?_)
        · refine Gen fun Gq9 back => ?_
          rcases R2.parts with ⟨g2, m2, news2, T2, F2, lo2, H2, N2, D2⟩
          refine back ?_
          clear back
          clear Gq9
          refine ⟨g2, L', m2, news2 ++ fr, T2.toKtsTurn, F2, N2, fun h3 T3 F3 N3 => ?_⟩
          cases o with
          | next =>
            cases f' <;> first | exact hf.elim | skip
            exact hP .none .none hp' h' tk' gn' hq rfl (Rep.of (T.next T3 T2) F3 lo H2 N3 D2)
          | brk => exact hq.elim
          | ret v =>
            cases f' <;> first | exact hf.elim | skip
            exact hP v _ hp' h' tk' gn' hq hf (Rep.of (T.next T3 T2) F3 lo H2 N3 D2)
        · intro cls e hp' h' tk' gn' hx hr
          refine Gen fun Gq9 back => ?_
          rcases hr with ⟨hD, g2, m2, hh, T2, F2, lo2, hr⟩
          refine back ?_
          clear back
          clear Gq9
          have ok2 := ok'.turn T2
          refine Gen fun Gq9 back => ?_
          rcases turnBack (H := g2) okg.below FG T2.toKtsTurn (fun _ _ e => e) with ⟨h3, T3, F3, _⟩
          refine back ?_
          clear back
          clear Gq9
          rcases hr with ⟨c0, t, vs, news2, rfl, hup, hrk, hH, hcx⟩ | ⟨c0, vs, news2, rfl, hmade, hH, hN⟩
          · refine leave_onX (A := c.A) (g := g2) (g₂ := hh) ok2.below F2 hrk hcx hup fun h4 hrk4 hup4 hcx4 => ?_
            exact hX (.up c0) e hp' h4 tk' gn' hx ⟨hD, h3, m, g2, T.next T3 T2, F3, lo, .inl ⟨c0, t, vs, news2, rfl, hup4, hrk4, hH, hcx4⟩⟩
          · refine leave_raiseX (A := c.A) (g := g2) ok2.below hmade F2 hN (fun h4 t hrk4 hup4 hcx4 => ?_) k7
            exact hX (.up c0) e hp' h4 tk' gn' hx ⟨hD, h3, m, g2, T.next T3 T2, F3, lo, .inl ⟨c0, t, vs, news2, rfl, hup4, hrk4, hH, hcx4⟩⟩
      · intro x hx e
        have := List.all_eq_true.mp k8 x hx
        rw [e] at this
        simp at this
  | none => rw [hfo] at hok; injection hok
section
variable {F : Fx}
noncomputable def supE : Expr → Bool
  | .Call .. => true
  | _ => false
theorem base_plain {o : Expr} (h : supE o = false) (n : Str) (env : Env) : attributeBase o n env (eval o env) = eval o env := by
  cases o <;> first | rfl | (exact absurd h (by simp [supE]))
theorem typeIs_list {c : Cx} {names l hp fr} {s : Shared} {a : Addr} {vs : List V} (R : Rep c names l hp fr s.heap s.gens) (e : hp a = some (.list vs)) :
    s.TypeIs (.ref a) "list" ∧ ∀ a', Value.ref a = .ref a' → ∃ ob, s.heap.get? a' = some ob ∧ ob.dict = none := by
  refine Gen fun Gq9 back => ?_
  rcases R with ⟨g, T, m, Fm, lo, H, N, D⟩
  refine back ?_
  clear back
  clear Gq9
  refine Gen fun Gq9 back => ?_
  rcases H.2 a _ e with ⟨ob, h1, ⟨items, n, hz19, _⟩, _⟩
  refine back ?_
  clear back
  clear Gq9
  subst hz19
  exact ⟨⟨_, h1, rfl⟩, fun a' q => by cases q; exact ⟨_, h1, rfl⟩⟩
theorem margs0 {pos : Pos} {env : Env} : ((((backTo pos (starEach [] env)).all fun x => !x.fst) && (backToKw pos (keywordEach [] env)).all fun x => x.fst.isSome) && decide ((([] : List Expr).length + ([] : List Keyword).length + if ([] : List Keyword).isEmpty = true then 0 else 1) < 30)) = true := rfl
theorem margs1 {pos : Pos} {env : Env} {e : Expr} (h : notStar e = true) : ((((backTo pos (starEach [e] env)).all fun x => !x.fst) && (backToKw pos (keywordEach [] env)).all fun x => x.fst.isSome) && decide ((([e] : List Expr).length + ([] : List Keyword).length + if ([] : List Keyword).isEmpty = true then 0 else 1) < 30)) = true := by
  rw [starEach_cons h]; rfl
theorem se_app {o e : Expr} {apos pos : Pos} {nm : Str} {mo me : ME} (hnm : nm = "append") (hso : supE o = false) (hap : (apos.endLine == pos.line) = true) (hn : notStar e = true) (ho : SE F o mo) (he : SE F e me) :
    SE F (.Call (.Attribute o nm apos) [e] [] pos) (.app mo me) := by
  intro c d FO hg hsc ok rm l hp Q X hev fr s P E R hP hX
  subst hnm
  refine wpAny_Call_method (base_plain hso _ _) (margs1 hn) hap PySem.F.plainAttrs_list PySem.F.slot_list_append PySem.F.type_list_append (ho c d FO hg hsc ok rm l hp _ X hev fr s _ E R (fun v x h1 hh tk gn hq hx R1 => ?_) hX)
  cases v with
  | ref a =>
    cases absV_ref hx
    obtain ⟨⟨vs0, e0⟩, hq⟩ := hq
    obtain ⟨t1, t2⟩ := typeIs_list (s := { s with heap := hh, toks := tk, gens := gn }) R1 e0
    refine ⟨t1, t2, callWith_method1 ?_ (starEach_cons hn) rfl⟩
    refine spliced_more (he c d FO hg hsc ok rm l h1 _ X hq fr _ _ E R1 (fun w y h2 hh2 tk2 gn2 hq2 hy R2 => ?_) hX) (starEach_cons hn)
    refine spliced_none ?_
    refine Gen fun Gq9 back => ?_
    rcases hq2 with ⟨vs, e1, hsz, hq3⟩
    refine back ?_
    clear back
    clear Gq9
    refine Gen fun Gq9 back => ?_
    rcases R2.at e1 with ⟨g, m, news, items, n, T, Fm, lo, hit, H, N, hne, D⟩
    refine back ?_
    clear back
    clear Gq9
    refine append_K (D := a) (its := items) (n := n) Fm N (Upd.head hne) (fun h' F' N' => ?_) (by rw [← hit] at hsz; simpa using hsz)
    cases hy
    refine hP .none .none _ h' tk2 gn2 hq3 rfl ?_
    have := Rep.back T F' lo H N' D e1
    simpa [← hit] using this
  | _ => exact hq.elim
theorem se_rev {o : Expr} {apos pos : Pos} {nm : Str} {mo : ME} (hnm : nm = "reverse") (hso : supE o = false) (hap : (apos.endLine == pos.line) = true) (ho : SE F o mo) :
    SE F (.Call (.Attribute o nm apos) [] [] pos) (.rev mo) := by
  intro c d FO hg hsc ok rm l hp Q X hev fr s P E R hP hX
  subst hnm
  refine wpAny_Call_method (base_plain hso _ _) margs0 hap PySem.F.plainAttrs_list PySem.F.slot_list_reverse PySem.F.type_list_reverse (ho c d FO hg hsc ok rm l hp _ X hev fr s _ E R (fun v x h1 hh tk gn hq hx R1 => ?_) hX)
  cases v with
  | ref a =>
    cases absV_ref hx
    refine Gen fun Gq9 back => ?_
    rcases hq with ⟨vs, e1, hsz, hq3⟩
    refine back ?_
    clear back
    clear Gq9
    obtain ⟨t1, t2⟩ := typeIs_list (s := { s with heap := hh, toks := tk, gens := gn }) R1 e1
    refine ⟨t1, t2, callWith_method0 ?_⟩
    refine Gen fun Gq9 back => ?_
    rcases R1.at e1 with ⟨g, m, news, items, n, T, Fm, lo, hit, H, N, hne, D⟩
    refine back ?_
    clear back
    clear Gq9
    refine kl_reverse (D := a) (its := items) (n := n) (l := items.toList.reverse) Fm N rfl (Upd.head hne) (by rw [← hit] at hsz; simpa using hsz) (fun h' F' N' => ?_)
    refine hP .none .none _ h' tk gn hq3 rfl ?_
    have := Rep.back T F' lo H N' D e1
    simpa [← hit] using this
  | _ => exact hq.elim
theorem se_pop0 {o : Expr} {apos pos cp : Pos} {k : Nat} {nm : Str} {mo : ME} (hnm : nm = "pop") (hso : supE o = false) (hap : (apos.endLine == pos.line) = true) (ho : SE F o mo) :
    SE F (.Call (.Attribute o nm apos) [.Constant (.int 0) k cp] [] pos) (.pop0 mo) := by
  intro c d FO hg hsc ok rm l hp Q X hev fr s P E R hP hX
  subst hnm
  refine wpAny_Call_method (base_plain hso _ _) (margs1 rfl) hap PySem.F.plainAttrs_list PySem.F.slot_list_pop PySem.F.type_list_pop (ho c d FO hg hsc ok rm l hp _ X hev fr s _ E R (fun v x h1 hh tk gn hq hx R1 => ?_) hX)
  cases v with
  | ref a =>
    cases absV_ref hx
    refine Gen fun Gq9 back => ?_
    rcases hq with ⟨u, vs, e1, hsz, hq3⟩
    refine back ?_
    clear back
    clear Gq9
    obtain ⟨t1, t2⟩ := typeIs_list (s := { s with heap := hh, toks := tk, gens := gn }) R1 e1
    refine ⟨t1, t2, callWith_method1 ?_ rfl rfl⟩
    refine spliced_more (wpAny_Constant_int (spliced_none ?_)) rfl
    refine Gen fun Gq9 back => ?_
    rcases R1.at e1 with ⟨g, m, news, items, n, T, Fm, lo, hit, H, N, hne, D⟩
    refine back ?_
    clear back
    clear Gq9
    obtain ⟨y, ys, hys⟩ : ∃ y ys, items.toList = y :: ys := by
      cases q : items.toList with
      | nil => rw [q] at hit; cases hit
      | cons y ys => exact ⟨y, ys, rfl⟩
    rw [hys] at hit
    simp only [List.map_cons, List.cons.injEq] at hit
    have hlen : items.size = ys.length + 1 := by have := congrArg List.length hys; simpa using this
    have hl2 : vs.length = ys.length := by rw [← hit.2]; simp
    refine kl_popAt (D := a) (its := items) (n := n) (k := 0) (p := []) (q := ys) (y := y) Fm N (by decide +kernel) (by unfold seqIndex?; simp [hlen]) (by rw [hys]; rfl) (Upd.head hne) (by rw [hys]; simp; (first | lia | omega)) (fun h' F' N' => ?_)
    refine hP u y _ h' _ _ hq3 hit.1 ?_
    have := Rep.back T F' lo H N' D e1
    simpa [← hit.2] using this
  | _ => exact hq.elim
theorem se_bitlen {o : Expr} {apos pos : Pos} {nm : Str} {mo : ME} (hnm : nm = "bit_length") (hso : supE o = false) (hap : (apos.endLine == pos.line) = true) (ho : SE F o mo) :
    SE F (.Call (.Attribute o nm apos) [] [] pos) (.bitlen mo) := by
  intro c d FO hg hsc ok rm l hp Q X hev fr s P E R hP hX
  subst hnm
  refine wpAny_Call_method (base_plain hso _ _) margs0 hap PySem.F.plainAttrs_int PyProof.Rows.slot_int_bit_length PyProof.Rows.type_int_bit_length (ho c d FO hg hsc ok rm l hp _ X hev fr s _ E R (fun v x h1 hh tk gn hq hx R1 => ?_) hX)
  cases v with
  | int i =>
    obtain ⟨t, rfl⟩ := absV_int hx
    refine ⟨typeIs_int _ _ _, (fun a q => by cases q), callWith_method0 ?_⟩
    exact call_int_bit_length (hP _ _ h1 hh _ _ hq rfl R1)
  | _ => exact hq.elim
theorem Rep.noC {c : Cx} {names : List Str} {l : List V} {hp : HP} {fr : List (Addr × Obj)} {h : Heap} {it : Addr} (R : Rep c names l hp fr h gn) (hf : ∀ p ∈ fr, p.1 ≠ it) : ∀ k, c.cp = some k → k.C ≠ it := by
  intro k e
  refine Gen fun Gq9 back => ?_
  rcases R with ⟨g, T, m, Fm, lo, _⟩
  refine back ?_
  clear back
  clear Gq9
  unfold LocX at lo
  rw [show (c.at g).cp = some k from e] at lo
  refine Gen fun Gq9 back => ?_
  rcases lo with ⟨_, oC, m₂, hm, _⟩
  refine back ?_
  clear back
  clear Gq9
  exact hf _ hm
theorem fresh_of {c : Cx} (ok : c.Ok) {hp : HP} {news fr : List (Addr × Obj)} {h' : Heap} {D : Addr} {o : Obj} {g : Heap} (T : TurnG c.fs c.h₀ g gn) (H : HpN c hp news) (N : News g c.L h' ((D, o) :: (news ++ fr))) (hlt : ∀ q ∈ news ++ fr, q.1 < D) :
    hp D = none ∧ ∀ p ∈ fr, p.1 ≠ D := by
  refine ⟨?_, fun p hp' => Nat.ne_of_lt (hlt p (List.mem_append_right _ hp'))⟩
  cases q : hp D with
  | none => rfl
  | some o' =>
    have := H.2 _ _ q
    cases o' with
    | ro ws =>
      refine Gen fun Gq9 back => ?_
      rcases this with ⟨it, ⟨ob, hb, _⟩, _⟩
      refine back ?_
      clear back
      clear Gq9
      have h0 := (N _ (.head _)).2.2
      rw [(ok.turn T).below.stays _ _ hb] at h0; cases h0
    | list ws => obtain ⟨ob, hb, _⟩ := this; exact absurd (hlt _ (List.mem_append_left _ hb)) (Nat.lt_irrefl _)
    | tup ws => obtain ⟨ob, hb, _⟩ := this; exact absurd (hlt _ (List.mem_append_left _ hb)) (Nat.lt_irrefl _)
    | cell ws => obtain ⟨ob, hb, _⟩ := this; exact absurd (hlt _ (List.mem_append_left _ hb)) (Nat.lt_irrefl _)
    | rng _ _ _ => obtain ⟨ob, hb, _⟩ := this; exact absurd (hlt _ (List.mem_append_left _ hb)) (Nat.lt_irrefl _)
    | dict _ => obtain ⟨ob, hb, _⟩ := this; exact absurd (hlt _ (List.mem_append_left _ hb)) (Nat.lt_irrefl _)
    | tab => obtain ⟨ob, hb, _⟩ := this; exact absurd (hlt _ (List.mem_append_left _ hb)) (Nat.lt_irrefl _)
theorem se_listOf (hF : F.cold = true) {x : Str} {p pos : Pos} {a : Expr} {ma : ME} (hxe : x = "list") (hx : x ∈ F.bt) (hk : F.sc.names.lookup x = some .globalImplicit) (hn : notStar a = true) (ha : SE F a ma) : SE F (.Call (.Name x p) [a] [] pos) (.listOf ma) := by
  intro c d FO hg hsc ok rm l hp Q X hev fr s P E R hP hX
  subst hxe
  refine Call_ (nameB FO hg hsc ok hx (v := .type "list") boot_list hk (by decide) (by decide) R ?_) rfl
  refine PyProof.Rows.callWith_type1 ?_ (starEach_cons hn) rfl
  refine spliced_more (ha c d FO hg hsc ok rm l hp _ X hev fr s _ E R (fun v y h1 hh tk gn hq hy R1 => ?_) hX) (starEach_cons hn)
  refine spliced_none ?_
  cases v with
  | ref a =>
    cases absV_ref hy
    refine Gen fun Gq9 back => ?_
    rcases hq with ⟨vs, e1, hsz, hq⟩
    refine back ?_
    clear back
    clear Gq9
    rcases iterOf_cases e1 with e1 | ⟨lo, hi', st, erg, hsm, rfl⟩
    case inr =>
      refine Gen fun Gq9 back => ?_
      rcases R1.rng erg with ⟨t, u, v, hr⟩
      refine back ?_
      clear back
      clear Gq9
      obtain ⟨f1, f2⟩ := R1.fresh ok
      refine Gen fun Gq9 back => ?_
      rcases R1.parts with ⟨g, m, news, T, Fm, lo0, H, N, D⟩
      refine back ?_
      clear back
      clear Gq9
      have hsz0 := rangeSize_nn lo hi' st
      refine list_rangeD (n := (Builtin.Range.rangeSize lo hi' st).toNat) (handled_none hsc hF) Fm N hr hsm (Int.toNat_of_nonneg hsz0).symm (by simp only [rngL, List.length_map, List.length_range] at hsz; exact hsz) fun h' tk' ys F' N' hk hfr hl hpl hc => ?_
      obtain ⟨⟨c0, hob⟩, hne⟩ := hpl
      have hys : ys.map absV = rngL lo hi' st := by
        have key : ∀ {ys : List Value} {ns : List Int}, CarriedAll ys (ns.map .int) → ys.map absV = ns.map V.int := by
          intro ys
          induction ys with
          | nil => intro ns h; cases ns with
            | nil => rfl
            | cons _ _ => cases h
          | cons y ys ih => intro ns h; cases ns with
            | nil => cases h
            | cons n ns =>
              simp only [List.map_cons] at h ⊢
              cases h with
              | cons h1 h2 => cases h1; rw [ih h2]; rfl
        rw [key hc]; simp [rngL, rangeInts]
      refine hP _ _ _ h' tk' _ (hq _ f1) rfl (Rep.more (ob := listOf ys.toArray c0) T F' lo0 H (fun p hp' => ?_) D f1 f2 ⟨_, _, rfl, by simpa using hys⟩)
      rcases List.mem_cons.mp hp' with rfl | hp'
      · refine ⟨hob, fun e => ?_, hfr⟩
        refine Gen fun Gq9 back => ?_
        rcases Fm.ns with ⟨oL, _, _, hL, _⟩
        refine back ?_
        clear back
        clear Gq9
        exact absurd (Heap.lt_size hL) (by rw [← e]; exact Nat.lt_irrefl _)
      · exact N' p hp'
    obtain ⟨items, hi, hl⟩ := R1.items ok e1
    have hsz' : items.size ≤ sizeLine := by rw [← hi] at hsz; simpa using hsz
    refine Gen fun Gq9 back => ?_
    rcases R1.parts with ⟨g, m, news, T, Fm, lo, H, N, D⟩
    refine back ?_
    clear back
    clear Gq9
    have fin : ∀ D' c' h', Fr g c.L h' m → News g c.L h' ((D', W.listOf items c') :: (news ++ fr)) → (∀ q ∈ news ++ fr, q.1 < D') → P (.ref D') { s with heap := h', toks := tk, gens := gn } := by
      intro D' c' h' F' N' hlt
      obtain ⟨f1, f2⟩ := fresh_of ok T H N' hlt
      exact hP _ _ _ h' tk gn (hq _ f1) rfl (Rep.more T F' lo H N' D f1 f2 ⟨items, c', rfl, hi⟩)
    rcases hl with ⟨hl, _⟩ | ⟨hl, _⟩
    · exact list_copyK Fm N hl fin hsz'
    · exact list_copyKT Fm N hl fin hsz'
  | _ => exact hq.elim
theorem se_mn (hF : F.cold = true) {x : Str} {p pos : Pos} {a b : Expr} {ma mb : ME} (hxe : x = "min") (hx : x ∈ F.bt) (hk : F.sc.names.lookup x = some .globalImplicit) (hn : notStar a = true) (hn2 : notStar b = true) (ha : SE F a ma) (hb : SE F b mb) : SE F (.Call (.Name x p) [a, b] [] pos) (.mn ma mb) := by
  intro c d FO hg hsc ok rm l hp Q X hev fr s P E R hP hX
  subst hxe
  refine Call_ (nameB FO hg hsc ok hx (v := .builtin "min") boot_min hk (by decide) (by decide) R ?_) rfl
  refine PyProof.Rows.callWith_builtin1 ?_ (starEach_cons hn) (by rw [starEach_cons hn2]; rfl)
  refine spliced_more (ha c d FO hg hsc ok rm l hp _ X hev fr s _ E R (fun v y h1 hh tk gn hq hy R1 => ?_) hX) (starEach_cons hn)
  refine spliced_more (hb c d FO hg hsc ok rm l h1 _ X hq fr _ _ E R1 (fun w z h2 hh2 tk2 gn2 hq2 hz R2 => ?_) hX) (starEach_cons hn2)
  refine spliced_none ?_
  obtain ⟨i, j, rfl, rfl⟩ : ∃ i j, v = .int i ∧ w = .int j := by cases v <;> first | exact hq2.elim | (cases w <;> first | exact hq2.elim | exact ⟨_, _, rfl, rfl⟩)
  · obtain ⟨t, rfl⟩ := absV_int hy
    obtain ⟨u, rfl⟩ := absV_int hz
    refine Gen fun Gq9 back => ?_
    rcases R2.parts with ⟨g, m, news, T, Fm, lo, H, N, D⟩
    refine back ?_
    clear back
    clear Gq9
    exact min_two_N (handled_none hsc hF) Fm N fun h' tk' F' N' => hP _ _ _ h' tk' _ hq2 rfl (Rep.of T F' lo H N' D)
theorem se_dvm {x : Str} {p pos : Pos} {a b : Expr} {ma mb : ME} (hxe : x = "divmod") (hx : x ∈ F.bt) (hk : F.sc.names.lookup x = some .globalImplicit) (hn : notStar a = true) (hn2 : notStar b = true) (ha : SE F a ma) (hb : SE F b mb) : SE F (.Call (.Name x p) [a, b] [] pos) (.dvm ma mb) := by
  intro c d FO hg hsc ok rm l hp Q X hev fr s P E R hP hX
  subst hxe
  refine Call_ (nameB FO hg hsc ok hx (v := .builtin "divmod") boot_divmod hk (by decide) (by decide) R ?_) rfl
  refine PyProof.Rows.callWith_builtin1 ?_ (starEach_cons hn) (by rw [starEach_cons hn2]; rfl)
  refine spliced_more (ha c d FO hg hsc ok rm l hp _ X hev fr s _ E R (fun v y h1 hh tk gn hq hy R1 => ?_) hX) (starEach_cons hn)
  refine spliced_more (hb c d FO hg hsc ok rm l h1 _ X hq fr _ _ E R1 (fun w z h2 hh2 tk2 gn2 hq2 hz R2 => ?_) hX) (starEach_cons hn2)
  refine spliced_none ?_
  obtain ⟨i, j, rfl, rfl⟩ : ∃ i j, v = .int i ∧ w = .int j := by cases v <;> first | exact hq2.elim | (cases w <;> first | exact hq2.elim | exact ⟨_, _, rfl, rfl⟩)
  · obtain ⟨t, rfl⟩ := absV_int hy
    obtain ⟨u, rfl⟩ := absV_int hz
    refine Gen fun Gq9 back => ?_
    rcases R2.parts with ⟨g, m, news, T, Fm, lo, H, N, D⟩
    refine back ?_
    clear back
    clear Gq9
    obtain ⟨f1, f2⟩ := R2.fresh ok
    refine divmod_N Fm N hq2.1 (fun h' F' N' => hP _ _ _ h' _ _ (hq2.2 _ f1) rfl ?_) (.inr (pylong ok rm R2))
    exact Rep.more T F' lo H N' D f1 f2 ⟨_, _, rfl, rfl⟩
theorem se_abs {x : Str} {p pos : Pos} {a : Expr} {ma : ME} (hxe : x = "abs") (hx : x ∈ F.bt) (hk : F.sc.names.lookup x = some .globalImplicit) (hn : notStar a = true) (ha : SE F a ma) : SE F (.Call (.Name x p) [a] [] pos) (.abs ma) := by
  intro c d FO hg hsc ok rm l hp Q X hev fr s P E R hP hX
  subst hxe
  refine Call_ (nameB FO hg hsc ok hx (v := .builtin "abs") (by decide +kernel) hk (by decide) (by decide) R ?_) rfl
  refine PyProof.Rows.callWith_builtin1 ?_ (starEach_cons hn) rfl
  refine spliced_more (ha c d FO hg hsc ok rm l hp _ X hev fr s _ E R (fun v y h1 hh tk gn hq hy R1 => ?_) hX) (starEach_cons hn)
  refine spliced_none ?_
  cases v with
  | int i =>
    obtain ⟨t, rfl⟩ := absV_int hy
    exact call_abs_int fun u tk' => hP _ _ h1 hh tk' gn hq rfl R1
  | _ => exact hq.elim
theorem ss_stop {st : Stmt} : SS F st .stop := fun _ _ _ _ _ _ _ _ _ _ _ h => h.elim
theorem ss_expr {e : Expr} {pos : Pos} {m : ME} (hc : compE e = false) (he : SE F e m) : SS F (.Expr e pos) (.expr m) := by
  intro c d FO hg hsc ok rm l hp Q X hev hcp fr s P E R hP hX
  have hi : interactive c.env = false := by
    unfold interactive
    rw [show c.env.scope.kind = .function by rw [c.env_scope]; exact ok.kind]; rfl
  exact wpAny_Expr_any (he c d FO hg hsc ok rm l hp _ X hev fr s _ E R (fun v y h1 hh tk gn hq hy R1 => hP .next .next l h1 hh tk gn hq trivial R1) (hX l)) hi (swaps_plain hc _ _ _)
end
theorem entry_powT : entryFor table "pow" = some Builtin.«pow» := entryFor_of_fast (by kernel_rfl)
theorem kind_powT : builtinKind "pow" = none := by decide +kernel
theorem plain_powT : plainId "pow" = true := by decide +kernel
theorem boot_powT : bootBuiltins "pow" = some (.builtin "pow") := by decide +kernel
/-! comprehensions -/
noncomputable def cellA : V → Addr
  | .cell a => a
  | _ => 0
theorem cellsB_get {l : List V} : ∀ {is : List Nat}, cellsB l is = true → ∀ i ∈ is, lget l i = .cell (cellA (lget l i))
  | [], _, i, h => by cases h
  | j :: r, hc, i, h => by
    have hc : ((match lget l j with | .cell _ => true | _ => false) && cellsB l r) = true := hc
    rw [Bool.and_eq_true] at hc
    rcases List.mem_cons.mp h with rfl | h
    · have h1 := hc.1
      revert h1
      cases lget l i <;> intro h1 <;> first | rfl | cases h1
    · exact cellsB_get hc.2 i h
theorem closure_list {env : Env} (look : Str → Addr) : ∀ (ns : List (Str × NameKind)) (cs : List (Str × Addr)), (∀ y ∈ ns, y.2 = .free → env.cells.lookup y.1 = some (look y.1)) →
    (ForIn.forIn ns cs (fun x r => if (x.2 == NameKind.free) = true then (do let a ← cellOf env x.1; pure (ForInStep.yield ((x.1, a) :: r))) else pure (ForInStep.yield r)) : Sem (List (Str × Addr))) =
      pure (((ns.filter (·.2 == .free)).map fun y => (y.1, look y.1)).reverse ++ cs)
  | [], cs, _ => rfl
  | (n, k) :: r, cs, h => by
    rw [List.forIn_cons]
    cases hk : (k == NameKind.free) with
    | false =>
      have ih := closure_list look r cs fun y hy => h y (.tail _ hy)
      simp only [hk, Bool.false_eq_true, if_false, pure_bind, List.filter_cons]
      exact ih
    | true =>
      have e := h (n, k) (.head _) (beq_iff_eq.mp hk)
      have ih := closure_list look r ((n, look n) :: cs) fun y hy => h y (.tail _ hy)
      have ec : cellOf env n = pure (look n) := by unfold cellOf; rw [e]
      simp only [hk, if_true, ec, pure_bind, List.filter_cons, List.map_cons, List.reverse_cons, List.append_assoc, List.singleton_append]
      exact ih
theorem closureFor_list {scope : Scope} {env : Env} (look : Str → Addr) (h : ∀ y ∈ scope.names, y.2 = .free → env.cells.lookup y.1 = some (look y.1)) :
    closureFor scope env = pure ((scope.names.filter (·.2 == .free)).map fun y => (y.1, look y.1)).reverse := by
  have := closure_list look scope.names [] h
  rw [List.append_nil] at this
  unfold closureFor
  rw [← this, bind_pure]
structure CompOk (F : Fx) (scope : Scope) (x : Str) (xs : List Str) (is : List Nat) : Prop where
  kind : scope.kind = .function
  cell : ∀ y ∈ scope.names, y.2 ≠ .cell
  names : ∀ y ∈ scope.names, y.2 = .local → scope.names.lookup y.1 = some .local
  tgt : scope.names.lookup x = some .local
  free : (scope.names.filter (·.2 == .free)).map (·.1) = xs
  len : xs.length = is.length
  idx : ∀ p ∈ xs.zip is, F.names[p.2]? = some p.1
  nd : (x :: xs).Nodup
noncomputable def relabelS (scope sc : Scope) : Scope := relabel scope (envX (Str.ofString "") sc 0 0 .none [])
noncomputable abbrev Fx.inner (F : Fx) (scope : Scope) (names : List Str) : Fx := ⟨F.g, F.gt, F.bt, names, relabelS scope F.sc, false, false, F.cold, false, none⟩
theorem Fx.Ok.inner {F : Fx} (FO : F.Ok) {scope : Scope} {names : List Str} (nd : names.Nodup) : (F.inner scope names).Ok := ⟨FO.gt, FO.bt, nd, fun e => (nomatch e)⟩
noncomputable abbrev Cx.within (c : Cx) (C : Addr) (scope : Scope) (kcl : List (Str × Addr)) (names : List Str) (l : List V) : Cx := { c with cp := some ⟨C, scope, kcl, names, l⟩ }
theorem Rep.inner {c : Cx} (hcp : c.cp = none) {names names' : List Str} {l l' : List V} {hp : HP} {fr : List (Addr × Obj)} {h : Heap} {C : Addr} {scope : Scope} {kcl : List (Str × Addr)} {oC : Obj} {m₂ : Str → Option Value}
    (R : Rep c names l hp fr h gn) (hm : (C, oC) ∈ fr) (ho : NsObj oC m₂) (lo' : Loc kcl names' l' m₂) : Rep (c.within C scope kcl names l) names' l' hp fr h gn := by
  refine Gen fun Gq9 back => ?_
  rcases R with ⟨g, T, m, Fm, lo, H, N, D⟩
  refine back ?_
  clear back
  clear Gq9
  exact ⟨g, T, m, Fm, ⟨(LocX.plain (c := c.at g) hcp).mp lo, oC, m₂, hm, ho, lo'⟩, H, N, D⟩
theorem Rep.outer {c : Cx} (hcp : c.cp = none) {names names' : List Str} {l l' : List V} {hp : HP} {fr : List (Addr × Obj)} {h : Heap} {C : Addr} {scope : Scope} {kcl : List (Str × Addr)}
    (R : Rep (c.within C scope kcl names l) names' l' hp fr h gn) : Rep c names l hp fr h gn := by
  refine Gen fun Gq9 back => ?_
  rcases R with ⟨g, T, m, Fm, lo, H, N, D⟩
  refine back ?_
  clear back
  clear Gq9
  exact ⟨g, T, m, Fm, (LocX.plain (c := c.at g) hcp).mpr lo.1, H, N, D⟩
theorem Rep.perm {c : Cx} (hcp : c.cp = none) {names : List Str} {l : List V} {hp : HP} {fr fr' : List (Addr × Obj)} {h : Heap} (R : Rep c names l hp fr h gn) (hs : ∀ p ∈ fr', p ∈ fr) : Rep c names l hp fr' h gn := by
  refine Gen fun Gq9 back => ?_
  rcases R with ⟨g, T, m, Fm, lo, H, N, D⟩
  refine back ?_
  clear back
  clear Gq9
  exact ⟨g, T, m, Fm, lo.any hcp, H, fun p hp' => N p (hs p hp'), fun p hp' => D p (hs p hp')⟩
theorem Rep.prm {c : Cx} (hcp : c.cp = none) {names : List Str} {l : List V} {hp : HP} {fr fr' : List (Addr × Obj)} {h : Heap} (R : Rep c names l hp fr h gn) (hs : fr'.Perm fr) : Rep c names l hp fr' h gn := R.perm hcp fun _ h => hs.mem_iff.mp h
theorem pmR {α} (a b c : α) (l : List α) : (a :: b :: c :: l).Perm (b :: c :: a :: l) := (List.Perm.swap b a _).trans ((List.Perm.swap c a _).cons b)
theorem pmV {α} (a b c : α) (l : List α) : (a :: b :: c :: l).Perm (c :: b :: a :: l) := (pmR a b c l).trans (List.Perm.swap c b _)
theorem off2 {P : Addr → Prop} {a b : Addr × Obj} {fr : List (Addr × Obj)} (h1 : P a.1) (h2 : P b.1) (h : ∀ p ∈ fr, P p.1) : ∀ p ∈ a :: b :: fr, P p.1 :=
  List.forall_mem_cons.mpr ⟨h1, List.forall_mem_cons.mpr ⟨h2, h⟩⟩
theorem Rep.adopt {c : Cx} (hcp : c.cp = none) {names : List Str} {l : List V} {hp : HP} {fr : List (Addr × Obj)} {h : Heap} {r : Addr} {ob : Obj} {o : O} (R : Rep c names l hp ((r, ob) :: fr) h gn) (hf : ∀ p ∈ fr, p.1 ≠ r) (ho : RepO o ob) : Rep c names l (hset hp r o) fr h gn := by
  refine Gen fun Gq9 back => ?_
  rcases R.parts with ⟨g, m, news, T, Fm, lo, H, N, D⟩
  refine back ?_
  clear back
  clear Gq9
  refine Rep.more (news := news) T Fm (lo.any hcp) H (fun p hp' => N p ?_) (fun p hp' => D p (.tail _ hp')) (D _ (.head _)) hf ho
  rcases List.mem_cons.mp hp' with rfl | q
  · exact List.mem_append_right _ (.head _)
  · rcases List.mem_append.mp q with q | q
    · exact List.mem_append_left _ q
    · exact List.mem_append_right _ (.tail _ q)
noncomputable def STs (F : Fx) (es : List Expr) (m : ME) : Prop := ∀ c d, F.Ok → c.g = F.g → SCF c F → c.Ok → room c d → ∀ l hp Q X, evT F.g d m l hp Q X →
  W rB c F.names l (ForIn.forIn es true fun e r => if r = true then (do let ok ← isTrue e c.env (eval e c.env); pure (ForInStep.yield ok)) else pure (ForInStep.yield r)) hp Q X
theorem sts_nil {F : Fx} : STs F [] (.tv (.bool true)) := by
  intro c d FO hg hsc ok rm l hp Q X hev fr s P E R hP hX
  exact wpAny_tests_nil (hP true true hp s.heap s.toks s.gens hev rfl R)
theorem sts_one {F : Fx} {e : Expr} {m : ME} (h : ST F e m) : STs F [e] m := by
  intro c d FO hg hsc ok rm l hp Q X hev fr s P E R hP hX
  exact wpAny_tests_one (h c d FO hg hsc ok rm l hp Q X hev _ rfl fr s _ E R hP hX)
theorem caps_get {l : List V} : ∀ {is : List Nat} {j : Nat} {i : Nat}, is[j]? = some i → (capsV l is)[j]? = some (lget l i)
  | [], _, _, h => nomatch (show (none : Option Nat) = some _ from h)
  | _ :: _, 0, _, h => congrArg (fun i => some (lget l i)) (Option.some.inj h)
  | _ :: r, j + 1, _, h => caps_get (is := r) (j := j) h
noncomputable def lookOf (l : List V) (xs : List Str) (is : List Nat) (y : Str) : Addr := match (xs.zip is).lookup y with
  | some i => cellA (lget l i)
  | none => 0
theorem zip_lookup : ∀ {xs : List Str} {is : List Nat} {y : Str}, xs.length = is.length → y ∈ xs → ∃ i, (xs.zip is).lookup y = some i ∧ (y, i) ∈ xs.zip is
  | [], _, _, _, h => by cases h
  | x :: r, [], _, hl, _ => by simp at hl
  | x :: r, i :: is, y, hl, h => by
    cases e : y == x with
    | true => exact ⟨i, by simp [List.lookup_cons, e], by rw [beq_iff_eq.mp e]; exact .head _⟩
    | false =>
      have hne : y ≠ x := by simpa using e
      obtain ⟨j, a, b⟩ := zip_lookup (xs := r) (is := is) (by simpa using hl) ((List.mem_cons.mp h).resolve_left hne)
      exact ⟨j, by simp [List.lookup_cons, e, a], .tail _ b⟩
theorem zip_lookup_get : ∀ {xs : List Str} {is : List Nat} {y : Str} {j i : Nat}, xs.Nodup → xs[j]? = some y → is[j]? = some i → (xs.zip is).lookup y = some i
  | [], _, _, _, _, _, h, _ => by simp at h
  | _ :: _, [], _, _, _, _, _, h => by simp at h
  | x :: r, k :: is, y, 0, i, _, h, h' => by simp at h h'; subst h h'; simp
  | x :: r, k :: is, y, j + 1, i, nd, h, h' => by
    simp only [List.getElem?_cons_succ] at h h'
    have hm : y ∈ r := List.mem_of_getElem? h
    have hne : y ≠ x := fun e => (List.nodup_cons.mp nd).1 (e ▸ hm)
    simp only [List.zip_cons_cons, List.lookup_cons, beq_eq_false_iff_ne.mpr hne]
    exact zip_lookup_get (List.nodup_cons.mp nd).2 h h'
noncomputable abbrev kclOf (scope : Scope) (look : Str → Addr) : List (Str × Addr) := ((scope.names.filter (·.2 == .free)).map fun y => (y.1, look y.1)).reverse
theorem kcl_lookup {look : Str → Addr} : ∀ {ns : List (Str × NameKind)} {y : Str}, (ns.map (·.1)).Nodup → y ∈ ns.map (·.1) → ((ns.map fun y => (y.1, look y.1)).reverse).lookup y = some (look y) := by
  intro ns y nd hy
  have key : ∀ (ps : List (Str × Addr)), (∀ p ∈ ps, p.2 = look p.1) → y ∈ ps.map (·.1) → ps.lookup y = some (look y) := by
    intro ps
    induction ps with
    | nil => intro _ h; cases h
    | cons p r ih =>
      intro hp h
      cases e : y == p.1 with
      | true =>
        have := hp p (.head _)
        obtain ⟨a, b⟩ := p
        simp only at e this
        rw [beq_iff_eq.mp e] at *
        simp [List.lookup_cons, this]
      | false =>
        have hne : y ≠ p.1 := by simpa using e
        obtain ⟨a, b⟩ := p
        simp only at e hne
        simp only [List.lookup_cons, e]
        exact ih (fun q hq => hp q (.tail _ hq)) ((List.mem_cons.mp h).resolve_left hne)
  refine key _ (fun p hp => ?_) ?_
  · obtain ⟨q, _, rfl⟩ := List.mem_map.mp (List.mem_reverse.mp hp)
    rfl
  · rw [List.map_reverse, List.mem_reverse, List.map_map]
    exact hy
section
variable {F : Fx}
theorem comp_look {c : Cx} {x : Str} {xs : List Str} {is : List Nat} {scope : Scope} (co : CompOk F scope x xs is) {l : List V} {hp : HP} {fr : List (Addr × Obj)} {h : Heap} (R : Rep c F.names l hp fr h gn) (hcells : cellsB l is = true) :
    ∀ y ∈ scope.names, y.2 = .free → c.env.cells.lookup y.1 = some (lookOf l xs is y.1) := by
  intro y hy hk
  have hm : y.1 ∈ xs := by
    rw [← co.free]
    exact List.mem_map_of_mem (f := (·.1)) ((List.mem_filter (p := fun z : Str × NameKind => z.2 == .free)).mpr ⟨hy, by simp [hk]⟩)
  obtain ⟨i, h1, h2⟩ := zip_lookup co.len hm
  have h3 := co.idx _ h2
  have h4 := cellsB_get hcells i (List.of_mem_zip h2).2
  have := R.cellOf h3 h4
  unfold lookOf
  rw [h1]; exact this
theorem comp_loc {x : Str} {xs : List Str} {is : List Nat} {scope : Scope} (co : CompOk F scope x xs is) {l : List V} (hcells : cellsB l is = true) {m₂ : Str → Option Value} {v : V} {val : Value} (hx : m₂ x = some val) (hv : absV val = v) :
    Loc (kclOf scope (lookOf l xs is)) (x :: xs) (v :: capsV l is) m₂ := by
  intro j y w hy hw hn
  cases j with
  | zero =>
    simp at hy hw
    subst hy hw
    exact .inr ⟨fun a e => absV_cell (hv.trans e), val, hx, hv⟩
  | succ j =>
    simp only [List.getElem?_cons_succ] at hy hw
    have hj : j < is.length := by
      rw [← co.len]
      exact (List.getElem?_eq_some_iff.mp hy).1
    have hi : is[j]? = some is[j] := by simp [hj]
    rw [caps_get hi] at hw
    have hw : lget l is[j] = w := Option.some.inj hw
    have hc := cellsB_get hcells is[j] (List.getElem_mem hj)
    refine .inl ⟨cellA (lget l is[j]), by rw [← hw]; exact hc, ?_⟩
    have nd : xs.Nodup := (List.nodup_cons.mp co.nd).2
    have h1 := zip_lookup_get nd hy hi
    have : lookOf l xs is y = cellA (lget l is[j]) := by unfold lookOf; rw [h1]
    rw [← this]
    exact kcl_lookup (by rw [co.free]; exact nd) (by rw [co.free]; exact List.mem_of_getElem? hy)
theorem compG {c : Cx} {d : Nat} (FO : F.Ok) (hg : c.g = F.g) (hsc : SCF c F) (ok : c.Ok) (hcp : c.cp = none) (rm : room c d)
    {x : Str} {xs : List Str} {is : List Nat} {scope : Scope} (co : CompOk F scope x xs is) {px pos : Pos} {ifs : List Expr} {iter elt : Expr} {mc me : ME}
    (hc : STs (F.inner scope (x :: xs)) ifs mc) (he : SE (F.inner scope (x :: xs)) elt me)
    {vs : List V} {K : HP → Prop} {Q : V → HP → Prop} {l : List V} {hp : HP} {fr : List (Addr × Obj)} {s : Shared} {it : Addr} (ItObj : Nat → Obj → Prop)
    (again : ∀ o (s' : Shared) (P : Value → Shared → Prop) (E : Value → Shared → Prop), ItObj 0 o → s'.heap.get? it = some o → P (.ref it) s' → wpAny (model c.g.prog c.g.w) c.A (pyIter (.ref it)) P E s')
    (next : ∀ k l hp o h (s' : Shared) (fr : List (Addr × Obj)) (P : Option Value → Shared → Prop) (E : Value → Shared → Prop), K hp → ItObj k o → s'.heap = h → Rep c F.names l hp ((it, o) :: fr) h s'.gens → (∀ p ∈ fr, p.1 ≠ it) →
      (∀ val v h' tk' gn' o', vs[k]? = some v → absV val = v → ItObj (k + 1) o' → Rep c F.names l hp ((it, o') :: fr) h' gn' → P (some val) { s' with heap := h', toks := tk', gens := gn' }) →
      (k = vs.length → ∀ h' tk' gn', Rep c F.names l hp fr h' gn' → P Option.none { s' with heap := h', toks := tk', gens := gn' }) → k ≤ vs.length → wpAny (model c.g.prog c.g.w) c.A (pyNext (.ref it)) P E s')
    {o₀ : Obj} (h0 : ItObj 0 o₀) (R0 : Rep c F.names l hp ((it, o₀) :: fr) s.heap s.gens) (hfr : ∀ p ∈ fr, p.1 ≠ it) (hcells : cellsB l is = true)
    (hK : compI (fun l h R => evT F.g d mc l h R fun _ _ => False) (fun l h R => ev F.g d me l h R fun _ _ => False) (fun v R _ => R (v :: capsV l is)) vs hp K Q)
    {E : Value → Shared → Prop} {RR : Value → Addr → Result → Shared → Prop}
    (hRR : ∀ D C oC m₂ hp' h' tk' gn', Q (.ref D) hp' → NsObj oC m₂ → Rep c F.names l hp' ((C, oC) :: fr) h' gn' → (∀ p ∈ fr, p.1 ≠ C) → RR (.ref D) C (.ok .next) { s with heap := h', toks := tk', gens := gn' }) :
    wpAny (model c.g.prog c.g.w) c.A (newList []) (fun acc s₃ => wpAny (model c.g.prog c.g.w) c.A (newFunctionEnv scope c.env.globals (kclOf scope (lookOf l xs is)) [] c.env.qual none .none (some c.env)) (fun cenv s₄ =>
      codeAny (model c.g.prog c.g.w) c.A (.compStart (.ListComp elt [⟨.Name x px, iter, ifs, 0⟩] scope pos) 0 (.ref it) acc { cenv with scope := relabel scope c.env }) (RR acc cenv.locals) s₄) E s₃) E s := by
  refine Gen fun Gq9 back => ?_
  rcases hK with ⟨I, hI0, step, fin⟩
  refine back ?_
  clear back
  clear Gq9
  rw [c.env_plain hcp]
  refine wpAny_newObj_type (wpAny_newFunctionEnv co.cell (by intro y hy; simp at hy) (fun h₁ hns₁ hsb₁ => ?_) co.kind)
  dsimp only at hns₁ hsb₁ ⊢
  have R1 := R0.push ok { cls := .type "list", dict := none, data := .seq ([] : List Value).toArray } rfl
  have f1 := (R0.fresh ok).2
  have R2 := R1.push ok { cls := .type "dict", data := .dict #[] } rfl
  have f2 := (R1.fresh ok).2
  generalize hD : s.heap.objs.size = D at *
  generalize hH : s.heap.push { cls := .type "list", dict := none, data := .seq ([] : List Value).toArray } = H2 at *
  generalize hC : H2.objs.size = C at *
  have hDC : D ≠ C := f2 (D, _) (.head _)
  have hIC : it ≠ C := f2 (it, o₀) (.tail _ (.head _))
  have hID : it ≠ D := f1 (it, o₀) (.head _)
  have hfC : ∀ p ∈ fr, p.1 ≠ C := fun p hp' => f2 p (.tail _ (.tail _ hp'))
  have hfD : ∀ p ∈ fr, p.1 ≠ D := fun p hp' => f1 p (.tail _ hp')
  refine Gen fun Gq9 back => ?_
  rcases id hns₁ with ⟨oC, es, ep, hoC, hd0, hk0, hr0⟩
  refine back ?_
  clear back
  clear Gq9
  have R3 := R2.iter (noC hcp) (fun b ob hne e => (hsb₁.2 b hne).trans e) hoC f2
  have R4 : Rep c F.names l hp ((it, o₀) :: (C, oC) :: (D, listOf #[] 0) :: fr) h₁ s.gens := R3.prm hcp (pmR _ _ _ _)
  have offI : ∀ (oC : Obj) (its : Array Value) (n : Nat), ∀ p ∈ (C, oC) :: (D, listOf its n) :: fr, p.1 ≠ it := fun _ _ _ => off2 (P := (· ≠ it)) (Ne.symm hIC) (Ne.symm hID) hfr
  have loop : ∀ s₃ : Shared, s₃ = { s with heap := h₁, toks := s.toks + ([] : List (Str × Value)).length } →
      codeAny (model c.g.prog c.g.w) c.A (.compLoop (.ListComp elt [⟨.Name x px, iter, ifs, 0⟩] scope pos) 0 (.ref it) (.ref D) (compEnvC scope (kclOf scope (lookOf l xs is)) C c.fenv))
        (RR (.ref D) C) s₃ := by
    rintro s₃ rfl
    refine codeAny_compLoop_tests (fun n s' => ∃ k hp' oI oC m₂ its cnt h' tk gn, n = vs.length + 1 - k ∧ k ≤ vs.length ∧ I k (its.toList.map absV) hp' ∧ ItObj k oI ∧ NsObj oC m₂ ∧
      Rep c F.names l hp' ((it, oI) :: (C, oC) :: (D, listOf its cnt) :: fr) h' gn ∧ s' = { s with heap := h', toks := tk, gens := gn }) ?_ _ ⟨0, hp, o₀, oC, _, #[], 0, h₁, _, _, rfl, Nat.zero_le _, hI0, h0, ⟨es, ep, hd0, hk0, hr0⟩, R4, rfl⟩
    intro n s' qz20
    refine Gen fun Gq9 back => ?_
    rcases qz20 with ⟨k, hp1, oI, oC1, m₂, its, cnt, hh1, tk1, gn1, hz21, hk1, hI, hO, hNs, R5, hz22⟩
    refine back ?_
    clear back
    clear Gq9
    subst hz21
    subst hz22
    have hKh : K hp1 := by
      by_cases hlt : k < vs.length
      · exact (step k vs[k] _ hp1 (by simp [hlt]) hI).1
      · have : k = vs.length := by (first | lia | omega)
        subst this
        exact (fin _ hp1 hI).1
    refine next k l hp1 oI hh1 _ _ _ _ hKh hO rfl R5 (offI _ _ _) (fun val v h' tk' gn' o' hv hval hO' R6 => ?_) (fun hkl h' tk' gn' R6 => ?_) hk1
    · dsimp only
      have hlt : k < vs.length := by
        rcases Nat.lt_or_ge k vs.length with h | h
        · exact h
        · rw [List.getElem?_eq_none h] at hv; cases hv
      obtain ⟨_, hlen, hev⟩ := step k v _ hp1 hv hI
      have hgC : h'.get? C = some oC1 := by obtain ⟨_, _, _, _, _, _, N, _⟩ := id R6; exact (N _ (.tail _ (.head _))).1
      refine Gen fun Gq9 back => ?_
      rcases hNs with ⟨es1, ep1, hd1, hk1', hr1⟩
      refine back ?_
      clear back
      clear Gq9
      refine wpAny_assign_Name (wpAny_storeName_local (m := m₂) (lookup_relabel_local co.tgt) ⟨oC1, es1, ep1, hgC, hd1, hk1', hr1⟩ (fun h3 hn3 hs3 => ?_) (by simp [compEnvC, relabel, co.kind]))
      refine Gen fun Gq9 back => ?_
      rcases id hn3 with ⟨oC2, es2, ep2, hoC2, hd2, hk2, hr2⟩
      refine back ?_
      clear back
      clear Gq9
      have R7 : Rep c F.names l hp1 ((C, oC1) :: (it, o') :: (D, listOf its cnt) :: fr) h' gn' := R6.prm hcp (List.Perm.swap _ _ _)
      have offC : ∀ (o' : Obj) (its : Array Value) (n : Nat), ∀ p ∈ (it, o') :: (D, listOf its n) :: fr, p.1 ≠ C := fun _ _ _ => off2 (P := (· ≠ C)) hIC hDC hfC
      have R8 := R7.iter (noC hcp) (fun b ob hne e => (hs3.2 b hne).trans e) hoC2 (offC _ _ _)
      have hNs2 : NsObj oC2 (fun y => if y = x then some val else m₂ y) := ⟨es2, ep2, hd2, hk2, hr2⟩
      have lo2 := comp_loc co hcells (m₂ := fun y => if y = x then some val else m₂ y) (v := v) (val := val) (by simp) hval
      have RI := R8.inner (scope := scope) hcp (.head _) hNs2 lo2
      have hsc' : SCF (c.within C scope (kclOf scope (lookOf l xs is)) F.names l) (F.inner scope (x :: xs)) := by
        refine ⟨?_, fun e => (nomatch e), fun e => (nomatch e), hsc.2.2.2.1, fun e => (nomatch e), fun _ e => (nomatch e)⟩
        have : c.fsc = F.sc := (c.sc_plain hcp).symm.trans hsc.1
        show relabel scope c.fenv = relabelS scope F.sc
        rw [← this]; rfl
      have ok' : (c.within C scope (kclOf scope (lookOf l xs is)) F.names l).Ok := ⟨ok.below, ok.inK, ok.top, ok.dicts, co.kind, ok.fkind, ok.gen, ok.cor, ok.seer, ok.tree⟩
      refine hc (c.within C scope (kclOf scope (lookOf l xs is)) F.names l) d (FO.inner co.nd) hg hsc' ok' rm _ hp1 _ _ hev _ _ _ _ RI (fun b b' hp2 h4 tk4 gn4 hq4 hb4 R9 => ?_) (fun _ _ _ _ _ _ hx => hx.elim)
      cases hb4
      dsimp only
      cases b with
      | false =>
        rw [if_neg (by decide)]
        refine ⟨vs.length + 1 - (k + 1), by (first | lia | omega), k + 1, hp2, o', oC2, _, its, cnt, h4, tk4, gn4, rfl, by (first | lia | omega), hq4.2 rfl, hO', hNs2, (R9.outer hcp).prm hcp (List.Perm.swap _ _ _), rfl⟩
      | true =>
        rw [if_pos rfl]
        refine he (c.within C scope (kclOf scope (lookOf l xs is)) F.names l) d (FO.inner co.nd) hg hsc' ok' rm _ hp2 _ _ (hq4.1 rfl) _ _ _ _ R9 (fun w y hp3 h5 tk5 gn5 hq5 hy R10 => ?_) (fun _ _ _ _ _ _ hx => hx.elim)
        have R11 : Rep c F.names l hp3 ((D, listOf its cnt) :: (C, oC2) :: (it, o') :: fr) h5 gn5 := (R10.outer hcp).prm hcp (pmR _ _ _ _)
        have hgD : h5.get? D = some (listOf its cnt) := by obtain ⟨_, _, _, _, _, _, N, _⟩ := id R11; exact (N _ (.head _)).1
        refine append_at hgD (fun h6 hs6 ho6 => ?_) (by simpa using hlen)
        have offD : ∀ p ∈ (C, oC2) :: (it, o') :: fr, p.1 ≠ D := off2 (P := (· ≠ D)) (Ne.symm hDC) hID hfD
        have R12 := R11.iter (noC hcp) (fun b ob hne e => (hs6.2 b hne).trans e) ho6 offD
        refine ⟨vs.length + 1 - (k + 1), by (first | lia | omega), k + 1, hp3, o', oC2, _, its.push y, cnt + 1, h6, tk5, gn5, rfl, by (first | lia | omega), ?_, hO', hNs2, R12.prm hcp (pmV _ _ _ _), rfl⟩
        have : (its.push y).toList.map absV = its.toList.map absV ++ [w] := by cases hy; simp
        rw [this]; exact hq5
    · dsimp only
      subst hkl
      have R7 : Rep c F.names l hp1 ((D, listOf its cnt) :: (C, oC1) :: fr) h' gn' := R6.prm hcp (List.Perm.swap _ _ _)
      have R8 := Rep.adopt (o := .list (its.toList.map absV)) hcp R7 (List.forall_mem_cons.mpr ⟨Ne.symm hDC, hfD⟩) ⟨its, cnt, rfl, rfl⟩
      have hDn : hp1 D = none := by obtain ⟨_, _, _, _, _, _, _, D'⟩ := id R7; exact D' _ (.head _)
      exact hRR D C oC1 m₂ _ h' _ _ ((fin _ hp1 hI).2 D hDn) hNs R8 hfC
  have st : ∀ s₃ : Shared, s₃ = { s with heap := h₁, toks := s.toks + ([] : List (Str × Value)).length } → s₃.heap.get? it = some o₀ := by
    rintro s₃ rfl
    refine Gen fun Gq9 back => ?_
    rcases R4 with ⟨_, _, _, _, _, _, N, _⟩
    refine back ?_
    clear back
    clear Gq9
    exact (N _ (.head _)).1
  exact codeAny_compStart_list (loop _ rfl) (again o₀ _ _ _ h0 (st _ rfl) (loop _ rfl))
end
section
variable {F : Fx}
theorem comp_eval {c : Cx} {x : Str} {xs : List Str} {is : List Nat} {scope : Scope} (co : CompOk F scope x xs is) {tg : Expr} {pos : Pos} {ifs : List Expr} {iter elt : Expr} {l : List V} {hp : HP} {fr : List (Addr × Obj)} {s : Shared}
    (R : Rep c F.names l hp fr s.heap s.gens) (hs : ∀ v, foldedSetIterable iter c.env v = pure v) (hcells : cellsB l is = true) {P E : Value → Shared → Prop}
    (h : wpAny (model c.g.prog c.g.w) c.A (eval iter c.env) (fun xv s₁ => wpAny (model c.g.prog c.g.w) c.A (pyIter xv) (fun it s₂ => wpAny (model c.g.prog c.g.w) c.A (newList []) (fun acc s₃ =>
      wpAny (model c.g.prog c.g.w) c.A (newFunctionEnv scope c.env.globals (kclOf scope (lookOf l xs is)) [] c.env.qual none .none (some c.env)) (fun cenv s₄ =>
      codeAny (model c.g.prog c.g.w) c.A (.compStart (.ListComp elt [⟨tg, iter, ifs, 0⟩] scope pos) 0 it acc { cenv with scope := relabel scope c.env }) (compPost (model c.g.prog c.g.w) c.A E none P acc cenv.locals) s₄) E s₃) E s₂) E s₁) E s) :
    wpAny (model c.g.prog c.g.w) c.A (eval (.ListComp elt [⟨tg, iter, ifs, 0⟩] scope pos) c.env) P E s := by
  rw [eval_ListComp]
  exact wpAny_comprehension_free (use := none) rfl hs (closureFor_list _ (comp_look co R hcells)) co.kind co.names h
noncomputable def CompRun (F : Fx) (x : Str) (xs : List Str) (is : List Nat) (scope : Scope) (tg : Expr) (pos : Pos) (ifs : List Expr) (iter elt : Expr) (m : ME) : Prop := ∀ c d, F.Ok → c.g = F.g → SCF c F → c.Ok → room c d → c.cp = none → ∀ l hp Q X, ev F.g d m l hp Q X →
  cellsB l is = true ∧ ∀ (fr : List (Addr × Obj)) (s : Shared) (E : Value → Shared → Prop) (RR : Value → Addr → Result → Shared → Prop), Rep c F.names l hp fr s.heap s.gens → XP c F.names l fr X E s →
    (∀ D C oC m₂ hp' h' tk' gn', Q (.ref D) hp' → NsObj oC m₂ → Rep c F.names l hp' ((C, oC) :: fr) h' gn' → (∀ p ∈ fr, p.1 ≠ C) → RR (.ref D) C (.ok .next) { s with heap := h', toks := tk', gens := gn' }) →
    wpAny (model c.g.prog c.g.w) c.A (eval iter c.env) (fun xv s₁ => wpAny (model c.g.prog c.g.w) c.A (pyIter xv) (fun it s₂ => wpAny (model c.g.prog c.g.w) c.A (newList []) (fun acc s₃ =>
      wpAny (model c.g.prog c.g.w) c.A (newFunctionEnv scope c.env.globals (kclOf scope (lookOf l xs is)) [] c.env.qual none .none (some c.env)) (fun cenv s₄ =>
      codeAny (model c.g.prog c.g.w) c.A (.compStart (.ListComp elt [⟨tg, iter, ifs, 0⟩] scope pos) 0 it acc { cenv with scope := relabel scope c.env }) (RR acc cenv.locals) s₄) E s₃) E s₂) E s₁) E s
theorem se_comp {x : Str} {xs : List Str} {is : List Nat} {scope : Scope} (co : CompOk F scope x xs is) (ht : F.top = true) {tg : Expr} {pos : Pos} {ifs : List Expr} {iter elt : Expr} {m : ME} (hse : ∀ env v, foldedSetIterable iter env v = pure v)
    (h : CompRun F x xs is scope tg pos ifs iter elt m) : SE F (.ListComp elt [⟨tg, iter, ifs, 0⟩] scope pos) m := by
  intro c d FO hg hsc ok rm l hp Q X hev fr s P E R hP hX
  have hcp := hsc.2.1 ht
  obtain ⟨hcells, h⟩ := h c d FO hg hsc ok rm hcp l hp Q X hev
  refine comp_eval co R (hse _) hcells (h fr s E _ R hX fun D C oC m₂ hp' h' tk' gn' hq hNs R1 hfC => ?_)
  refine Gen fun Gq9 back => ?_
  rcases hNs with ⟨es1, ep1, hd1, hk1', hr1⟩
  refine back ?_
  clear back
  clear Gq9
  have hgC : h'.get? C = some oC := by obtain ⟨_, _, _, _, _, _, N, _⟩ := id R1; exact (N _ (.head _)).1
  refine ⟨m₂, ⟨oC, es1, ep1, hgC, hd1, hk1', hr1⟩, fun h'' hs'' => ?_⟩
  exact hP (.ref D) (.ref D) _ h'' _ _ hq rfl (R1.drop (noC hcp) (fun b ob hne e => (hs''.2 b hne).trans e) hfC)
theorem cr_compL (hF : F.cold = true) {x : Str} {xs : List Str} {is : List Nat} {scope : Scope} (co : CompOk F scope x xs is) {px pos : Pos} {ifs : List Expr} {iter elt : Expr} {mi mc me : ME} (hse : setE iter = false) (hit : SE F iter mi)
    (hc : STs (F.inner scope (x :: xs)) ifs mc) (he : SE (F.inner scope (x :: xs)) elt me) : CompRun F x xs is scope (.Name x px) pos ifs iter elt (.compL mi mc me is) := by
  intro c d FO hg hsc ok rm hcp l hp Q X hev
  obtain ⟨hcells, hev⟩ := hev
  refine ⟨hcells, fun fr s E RR R hX hRR => ?_⟩
  · refine (hit c d FO hg hsc ok rm l hp _ X hev fr s _ E R (fun v y h1 hh tk gn hq hy R1 => ?_) hX)
    cases v with
    | ref r =>
      cases absV_ref hy
      refine Gen fun Gq9 back => ?_
      rcases hq with ⟨vs, e1, hfit, hq⟩
      refine back ?_
      clear back
      clear Gq9
      obtain ⟨items, hitems, hl⟩ := R1.listI ok e1
      have hex : ∀ h : HP, h r = h1 r → listAt (h r) = some vs := fun h e => by rw [e]; exact e1
      refine wpAny_pyIter_list hl ?_
      refine compG FO hg hsc ok hcp rm co hc he (K := fun h => h r = h1 r) (fun k o => o.cls = .type "list_iterator" ∧ o.data = .fields #[.ref r, .int k 0]) (fun o s' P E ho hg' hP => ?_) ?_ ⟨rfl, rfl⟩ (R1.push ok _ rfl) (R1.fresh ok).2 hcells hq hRR
      · exact wpAny_pyIter_listiter (l := r) (i := 0) ⟨o, hg', ho⟩ hP
      · intro k l1 hp1 o1 h2 s' fr' P1 E1 hKh hO hs R2 hfr hitem hend hkl
        subst hs
        have hIt : s'.heap.IsListIter _ r k := ⟨o1, (by obtain ⟨_, _, _, _, _, _, N, _⟩ := id R2; exact (N _ (.head _)).1), hO⟩
        obtain ⟨items2, hitems2, hl3⟩ := R2.listI ok (hex hp1 hKh)
        have hsz : items2.size = vs.length := by rw [← hitems2]; simp
        by_cases hlt : k < vs.length
        · refine wpAny_pyNext_list_item hIt hl3 (x := items2[k]) (by simp [hsz, hlt]) fun h' hit' hs' => ?_
          obtain ⟨o', ho', hc'⟩ := hit'
          refine hitem _ (absV items2[k]) h' _ _ o' ?_ rfl hc' (R2.iter (noC hcp) (fun b ob hne e => (hs'.2 b hne).trans e) ho' hfr)
          have e9 : vs[k]? = (items2.toList.map absV)[k]? := by rw [hitems2]
          rw [e9]; simp [hsz, hlt]
        · refine wpAny_pyNext_list_end (handled_none hsc hF) hIt hl3 (by simp [hsz]; (first | lia | omega)) fun h' he => ?_
          exact hend (by (first | lia | omega)) h' _ _ (R2.drop (noC hcp) (fun b ob hne e => he b ob hne e) hfr)
    | _ => exact hq.elim
theorem comp_range (hF : F.cold = true) {c : Cx} {d : Nat} (FO : F.Ok) (hg : c.g = F.g) (hsc : SCF c F) (ok : c.Ok) (hcp : c.cp = none) (rm : room c d)
    {x : Str} {xs : List Str} {is : List Nat} {scope : Scope} (co : CompOk F scope x xs is) {px pos : Pos} {ifs : List Expr} {iter elt : Expr} {mc me : ME}
    (hc : STs (F.inner scope (x :: xs)) ifs mc) (he : SE (F.inner scope (x :: xs)) elt me) {Q : V → HP → Prop} {l : List V} {hp : HP} {fr : List (Addr × Obj)} {s : Shared}
    {lo hi' st : Int} {r : Addr} {t u v : Tok} (hsm : Builtin.Range.small lo hi' st = true) (R : Rep c F.names l hp fr s.heap s.gens) (hr : IsRange s.heap r lo hi' st t u v) (hcells : cellsB l is = true)
    (hK : compI (fun l h R => evT F.g d mc l h R fun _ _ => False) (fun l h R => ev F.g d me l h R fun _ _ => False) (fun v R _ => R (v :: capsV l is)) ((List.range (Builtin.Range.rangeSize lo hi' st).toNat).map fun (k : Nat) => V.int (lo + k * st)) hp (fun _ => True) Q)
    {E : Value → Shared → Prop} {RR : Value → Addr → Result → Shared → Prop}
    (hRR : ∀ D C oC m₂ hp' h' tk' gn', Q (.ref D) hp' → NsObj oC m₂ → Rep c F.names l hp' ((C, oC) :: fr) h' gn' → (∀ p ∈ fr, p.1 ≠ C) → RR (.ref D) C (.ok .next) { s with heap := h', toks := tk', gens := gn' }) :
    wpAny (model c.g.prog c.g.w) c.A (pyIter (.ref r)) (fun it s₂ => wpAny (model c.g.prog c.g.w) c.A (newList []) (fun acc s₃ =>
      wpAny (model c.g.prog c.g.w) c.A (newFunctionEnv scope c.env.globals (kclOf scope (lookOf l xs is)) [] c.env.qual none .none (some c.env)) (fun cenv s₄ =>
      codeAny (model c.g.prog c.g.w) c.A (.compStart (.ListComp elt [⟨.Name x px, iter, ifs, 0⟩] scope pos) 0 it acc { cenv with scope := relabel scope c.env }) (RR acc cenv.locals) s₄) E s₃) E s₂) E s := by
  refine wpAny_pyIter_range hr hsm ?_
  have R0 := R.push ok { cls := Value.type "range_iterator", data := Data.fields #[rawInt lo, rawInt (Builtin.Range.rangeSize lo hi' st), rawInt st] } rfl
  have hsz := rangeSize_nn lo hi' st
  refine compG FO hg hsc ok hcp rm co hc he (K := fun _ => True) (fun k o => o = { cls := Value.type "range_iterator", data := Data.fields #[rawInt (lo + k * st), rawInt (Builtin.Range.rangeSize lo hi' st - k), rawInt st] }) (fun o s' P E ho hg' hP => ?_) ?_ ?_ R0 (R.fresh ok).2 hcells hK hRR
  · subst ho
    exact wpAny_pyIter_rangeiter hg' hP
  · intro k l1 hp1 o1 h1 s' fr' P1 E1 _ hO hs R1 hfr hitem hend hkl
    subst hO
    subst hs
    simp only [List.length_map, List.length_range] at hkl hend
    refine Gen fun Gq9 back => ?_
    rcases id R1 with ⟨g, T, m1, Fm, lo1, H, N, D⟩
    refine back ?_
    clear back
    clear Gq9
    have hit := (N _ (.head _)).1
    by_cases hlt : k < (Builtin.Range.rangeSize lo hi' st).toNat
    · refine wpAny_pyNext_range_item (it := s.heap.objs.size) hit (by (first | lia | omega)) fun h' hit' hs' => ?_
      refine hitem _ (.int (lo + k * st)) h' _ _ _ (by simp [hlt]) rfl ?_ (R1.iter (noC hcp) (fun b ob hne e => (hs'.2 b hne).trans e) hit' hfr)
      congr 4
      · rw [show ((k + 1 : Nat) : Int) * st = (k : Int) * st + st by push_cast; rw [Int.add_mul, Int.one_mul], Int.add_assoc]
      · rw [show Builtin.Range.rangeSize lo hi' st - ((k + 1 : Nat) : Int) = Builtin.Range.rangeSize lo hi' st - k - 1 by push_cast; (first | lia | omega)]
    · refine wpAny_pyNext_range_end (it := s.heap.objs.size) (handled_none hsc hF) hit (by (first | lia | omega)) fun h' he => ?_
      exact hend (by (first | lia | omega)) h' _ _ (R1.drop (noC hcp) (fun b ob hne e => he b ob hne e) hfr)
  · simp
noncomputable abbrev RgQ (F : Fx) (d : Nat) (mc me : ME) (is : List Nat) (l : List V) (Q : V → HP → Prop) : Int → Int → Int → HP → Prop := fun x y z h3 => z ≠ 0 ∧ Builtin.Range.small x y z = true ∧
  compI (fun l h R => evT F.g d mc l h R fun _ _ => False) (fun l h R => ev F.g d me l h R fun _ _ => False) (fun v R _ => R (v :: capsV l is)) ((List.range (Builtin.Range.rangeSize x y z).toNat).map fun (k : Nat) => V.int (x + k * z)) h3 (fun _ => True) Q
theorem cr_compR1 (hF : F.cold = true) {x r : Str} {xs : List Str} {is : List Nat} {scope : Scope} (co : CompOk F scope x xs is) {px pos pr pc : Pos} {ifs : List Expr} {a elt : Expr} {ma mc me : ME}
    (hre : r = "range") (hr : r ∈ F.bt) (hkr : F.sc.names.lookup r = some .globalImplicit) (hn : notStar a = true) (ha : SE F a ma)
    (hc : STs (F.inner scope (x :: xs)) ifs mc) (he : SE (F.inner scope (x :: xs)) elt me) : CompRun F x xs is scope (.Name x px) pos ifs (.Call (.Name r pr) [a] [] pc) elt (.compR (.int 0) ma (.int 1) mc me is) := by
  intro c d FO hg hsc ok rm hcp l hp Q X hev
  obtain ⟨hcells, hev⟩ := hev
  refine ⟨hcells, fun fr s E RR R hX hRR => ?_⟩
  refine (se_rangeArgs1 hre hr hkr hn ha FO hg hsc ok rm (X := X) (Q := RgQ F d mc me is l Q) ?_ R ?_ hX)
  · refine Eq.mp ?_ hev
    show ev F.g d ma l hp _ X = ev F.g d ma l hp _ X
    congr 1
    funext v h1
    show (match V.int 0, v, V.int 1 with | .int x, .int y, .int z => _ | _, _, _ => False) = _
    cases v <;> rfl
  · intro lo hi' st hp' h' tk' gn' r' t u v hq R' hr'
    exact comp_range hF FO hg hsc ok hcp rm co hc he hq.2.1 R' hr' hcells hq.2.2 hRR
theorem cr_compR2 (hF : F.cold = true) {x r : Str} {xs : List Str} {is : List Nat} {scope : Scope} (co : CompOk F scope x xs is) {px pos pr pc : Pos} {ifs : List Expr} {a b elt : Expr} {ma mb mc me : ME}
    (hre : r = "range") (hr : r ∈ F.bt) (hkr : F.sc.names.lookup r = some .globalImplicit) (hn : notStar a = true) (ha : SE F a ma) (hn2 : notStar b = true) (hb : SE F b mb)
    (hc : STs (F.inner scope (x :: xs)) ifs mc) (he : SE (F.inner scope (x :: xs)) elt me) : CompRun F x xs is scope (.Name x px) pos ifs (.Call (.Name r pr) [a, b] [] pc) elt (.compR ma mb (.int 1) mc me is) := by
  intro c d FO hg hsc ok rm hcp l hp Q X hev
  obtain ⟨hcells, hev⟩ := hev
  refine ⟨hcells, fun fr s E RR R hX hRR => ?_⟩
  refine (se_rangeArgs2 hre hr hkr hn ha hn2 hb FO hg hsc ok rm (X := X) (Q := RgQ F d mc me is l Q) ?_ R ?_ hX)
  · refine Eq.mp ?_ hev
    show ev F.g d ma l hp _ X = ev F.g d ma l hp _ X
    congr 1
    funext v h1
    show ev F.g d mb l h1 _ X = ev F.g d mb l h1 _ X
    congr 1
    funext w h2
    show (match v, w, V.int 1 with | .int x, .int y, .int z => _ | _, _, _ => False) = _
    cases v <;> cases w <;> rfl
  · intro lo hi' st hp' h' tk' gn' r' t u v hq R' hr'
    exact comp_range hF FO hg hsc ok hcp rm co hc he hq.2.1 R' hr' hcells hq.2.2 hRR
theorem cr_compR3 (hF : F.cold = true) {x r : Str} {xs : List Str} {is : List Nat} {scope : Scope} (co : CompOk F scope x xs is) {px pos pr pc : Pos} {ifs : List Expr} {a b f elt : Expr} {ma mb mf mc me : ME}
    (hre : r = "range") (hr : r ∈ F.bt) (hkr : F.sc.names.lookup r = some .globalImplicit) (hn : notStar a = true) (ha : SE F a ma) (hn2 : notStar b = true) (hb : SE F b mb) (hn3 : notStar f = true) (hf : SE F f mf)
    (hc : STs (F.inner scope (x :: xs)) ifs mc) (he : SE (F.inner scope (x :: xs)) elt me) : CompRun F x xs is scope (.Name x px) pos ifs (.Call (.Name r pr) [a, b, f] [] pc) elt (.compR ma mb mf mc me is) := by
  intro c d FO hg hsc ok rm hcp l hp Q X hev
  obtain ⟨hcells, hev⟩ := hev
  refine ⟨hcells, fun fr s E RR R hX hRR => ?_⟩
  refine (se_rangeArgs3 hre hr hkr hn ha hn2 hb hn3 hf FO hg hsc ok rm (X := X) (Q := fun x y z h3 => Builtin.Range.small x y z = true ∧
    compI (fun l h R => evT F.g d mc l h R fun _ _ => False) (fun l h R => ev F.g d me l h R fun _ _ => False) (fun v R _ => R (v :: capsV l is)) ((List.range (Builtin.Range.rangeSize x y z).toNat).map fun (k : Nat) => V.int (x + k * z)) h3 (fun _ => True) Q) ?_ R ?_ hX)
  · exact hev
  · intro lo hi' st hp' h' tk' gn' r' t u v hq R' hr'
    exact comp_range hF FO hg hsc ok hcp rm co hc he hq.1 R' hr' hcells hq.2 hRR
end
/-! functions with cells -/
noncomputable def enterC : List (Bool × V) → HP → (List V → HP → Prop) → Prop
  | [], hp, k => k [] hp
  | (false, v) :: r, hp, k => enterC r hp fun l h => k (v :: l) h
  | (true, v) :: r, hp, k => ∀ a, hp a = none → enterC r (hset hp a (.cell v)) fun l h => k (.cell a :: l) h
noncomputable def cellNames : List Str → List (Bool × V) → List Str
  | x :: ns, (true, _) :: ps => x :: cellNames ns ps
  | _ :: ns, (false, _) :: ps => cellNames ns ps
  | _, _ => []
theorem enterS (look : Str → Addr) : ∀ (ns : List Str) (ps : List (Bool × V)) (hp : HP) (k : List V → HP → Prop), ns.length = ps.length → enterC ps hp k → (∀ x ∈ cellNames ns ps, hp (look x) = none) →
    ((cellNames ns ps).map look).Nodup → ∃ l' hp', k l' hp' ∧ l'.length = ps.length ∧ (∀ (i : Nat) (x : Str) (b : Bool) (v : V), ns[i]? = some x → ps[i]? = some (b, v) → l'[i]? = some (if b = true then V.cell (look x) else v)) ∧
      (∀ (i : Nat) (x : Str) (v : V), ns[i]? = some x → ps[i]? = some (true, v) → hp' (look x) = some (O.cell v)) ∧ (∀ a, a ∉ (cellNames ns ps).map look → hp' a = hp a)
  | [], [], hp, k, _, h, _, _ => ⟨[], hp, h, rfl, by simp, by simp, fun _ _ => rfl⟩
  | [], _ :: _, _, _, hl, _, _, _ => by simp at hl
  | _ :: _, [], _, _, hl, _, _, _ => by simp at hl
  | x :: ns, (false, v) :: ps, hp, k, hl, h, hf, nd => by
    refine Gen fun Gq9 back => ?_
    rcases enterS look ns ps hp _ (by simpa using hl) h hf nd with ⟨l', hp', h1, h2, h3, h4, h5⟩
    refine back ?_
    clear back
    clear Gq9
    refine ⟨v :: l', hp', h1, by simp [h2], ?_, ?_, h5⟩
    · intro i y b w hy hw
      cases i with
      | zero => simp at hy hw; obtain ⟨rfl, rfl⟩ := hw; simp
      | succ i => simpa using h3 i y b w (by simpa using hy) (by simpa using hw)
    · intro i y w hy hw
      cases i with
      | zero => simp at hw
      | succ i => exact h4 i y w (by simpa using hy) (by simpa using hw)
  | x :: ns, (true, v) :: ps, hp, k, hl, h, hf, nd => by
    have hx := hf x (.head _)
    rw [show cellNames (x :: ns) ((true, v) :: ps) = x :: cellNames ns ps from rfl, List.map_cons, List.nodup_cons] at nd
    obtain ⟨l', hp', h1, h2, h3, h4, h5⟩ := enterS look ns ps (hset hp (look x) (.cell v)) _ (by simpa using hl) (h (look x) hx) (fun y hy => by
      have e2 : look y ≠ look x := fun e => nd.1 (by rw [← e]; exact List.mem_map_of_mem hy)
      rw [hset_ne e2]; exact hf y (.tail _ hy)) nd.2
    refine ⟨.cell (look x) :: l', hp', h1, by simp [h2], ?_, ?_, ?_⟩
    · intro i y b w hy hw
      cases i with
      | zero => simp at hy hw; obtain ⟨rfl, rfl⟩ := hw; subst hy; simp
      | succ i => simpa using h3 i y b w (by simpa using hy) (by simpa using hw)
    · intro i y w hy hw
      cases i with
      | zero => simp at hy hw; subst hy hw; rw [h5 _ nd.1, hset_same]
      | succ i => exact h4 i y w (by simpa using hy) (by simpa using hw)
    · intro a ha
      rw [show cellNames (x :: ns) ((true, v) :: ps) = x :: cellNames ns ps from rfl, List.map_cons, List.mem_cons, not_or] at ha
      rw [h5 a ha.2, hset_ne ha.1]
theorem cellNames_mem : ∀ {ns : List Str} {ps : List (Bool × V)} {x : Str}, x ∈ cellNames ns ps → ∃ (i : Nat) (v : V), ns[i]? = some x ∧ ps[i]? = some (true, v)
  | [], _, _, h => absurd h List.not_mem_nil
  | _ :: _, [], _, h => absurd h List.not_mem_nil
  | y :: ns, (false, _) :: ps, x, h => by
    refine Gen fun Gq9 back => ?_
    rcases cellNames_mem (ns := ns) (ps := ps) h with ⟨i, v, a, b⟩
    refine back ?_
    clear back
    clear Gq9
    exact ⟨i + 1, v, by simpa using a, by simpa using b⟩
  | y :: ns, (true, w) :: ps, x, h => by
    rcases List.mem_cons.mp h with rfl | h
    · exact ⟨0, w, rfl, rfl⟩
    · refine Gen fun Gq9 back => ?_
      rcases cellNames_mem (ns := ns) (ps := ps) h with ⟨i, v, a, b⟩
      refine back ?_
      clear back
      clear Gq9
      exact ⟨i + 1, v, by simpa using a, by simpa using b⟩
theorem cellNames_sub : ∀ {ns : List Str} {ps : List (Bool × V)}, List.Sublist (cellNames ns ps) ns
  | [], _ => List.nil_sublist _
  | _ :: _, [] => List.nil_sublist _
  | _ :: ns, (false, _) :: ps => (cellNames_sub (ns := ns) (ps := ps)).cons _
  | _ :: ns, (true, _) :: ps => (cellNames_sub (ns := ns) (ps := ps)).cons_cons _
/-! the cells' places -/
theorem cellsFrom_get : ∀ (ns : List (Str × NameKind)) (n : Nat) (acc : List (Str × Addr)) (x : Str), ((x, NameKind.cell) ∈ ns ∨ x ∈ acc.map (·.1)) → x ∈ (cellsFrom n ns acc).map (·.1)
  | [], _, _, _, h => by
    rcases h with h | h
    · cases h
    · exact h
  | (y, k) :: r, n, acc, x, h => by
    unfold cellsFrom
    by_cases hk : (k == NameKind.cell) = true
    · rw [if_pos hk]
      refine cellsFrom_get r _ _ x ?_
      rcases h with h | h
      · rcases List.mem_cons.mp h with e | h
        · cases e; exact .inr (by simp)
        · exact .inl h
      · exact .inr (by rw [List.map_cons]; exact .tail _ h)
    · rw [if_neg hk]
      refine cellsFrom_get r _ _ x ?_
      rcases h with h | h
      · rcases List.mem_cons.mp h with e | h
        · cases e; exact absurd rfl hk
        · exact .inl h
      · exact .inr h
theorem cellsFrom_apart : ∀ (ns : List (Str × NameKind)) (n lo : Nat) (acc : List (Str × Addr)), lo ≤ n → (∀ p ∈ acc, lo ≤ p.2 ∧ p.2 < n) → (acc.map (·.2)).Nodup →
    ((cellsFrom n ns acc).map (·.2)).Nodup ∧ ∀ p ∈ cellsFrom n ns acc, lo ≤ p.2
  | [], _, _, _, _, h, nd => ⟨nd, fun p hp => (h p hp).1⟩
  | (y, k) :: r, n, lo, acc, hlo, h, nd => by
    unfold cellsFrom
    by_cases hk : (k == NameKind.cell) = true
    · rw [if_pos hk]
      refine cellsFrom_apart r _ lo _ (by (first | lia | omega)) (fun p hp => ?_) ?_
      · rcases List.mem_cons.mp hp with rfl | hp
        · exact ⟨hlo, Nat.lt_succ_self _⟩
        · have := h p hp; exact ⟨this.1, Nat.lt_succ_of_lt this.2⟩
      · rw [List.map_cons, List.nodup_cons]
        refine ⟨fun hm => ?_, nd⟩
        obtain ⟨p, hp, e⟩ := List.mem_map.mp hm
        have := (h p hp).2
        rw [e] at this
        exact Nat.lt_irrefl _ this
    · rw [if_neg hk]
      exact cellsFrom_apart r _ lo _ hlo h nd
theorem bindL_get {kindOf : Str → Option NameKind} {x : Str} {v : Value} : ∀ {binds : List (Str × Value)} {m : Str → Option Value}, (binds.map (·.1)).Nodup → (x, v) ∈ binds → kindOf x = some .local → bindL kindOf binds m x = some v := by
  have keep : ∀ {binds : List (Str × Value)} {m : Str → Option Value}, x ∉ binds.map (·.1) → bindL kindOf binds m x = m x := by
    intro binds
    induction binds with
    | nil => intro m _; rfl
    | cons p r ih =>
      intro m h
      obtain ⟨n, w⟩ := p
      rw [List.map_cons, List.mem_cons, not_or] at h
      unfold bindL
      rw [ih h.2]
      split
      · exact if_neg h.1
      · rfl
  intro binds
  induction binds with
  | nil => intro m _ h; cases h
  | cons p r ih =>
    intro m nd h hk
    obtain ⟨n, w⟩ := p
    rw [List.map_cons, List.nodup_cons] at nd
    unfold bindL
    rcases List.mem_cons.mp h with e | h
    · cases e
      rw [keep nd.1, if_pos hk]
      exact if_pos rfl
    · exact ih nd.2 h hk
theorem bindC_not {kindOf : Str → Option NameKind} {x : Str} : ∀ {binds : List (Str × Value)} {m : Str → Option Value}, x ∉ binds.map (·.1) → bindC kindOf binds m x = m x := by
  intro binds
  induction binds with
  | nil => intro m _; rfl
  | cons p r ih =>
    intro m h
    obtain ⟨n, w⟩ := p
    rw [List.map_cons, List.mem_cons, not_or] at h
    unfold bindC
    rw [ih h.2]
    split
    · rfl
    · exact if_neg h.1
theorem bindC_get {kindOf : Str → Option NameKind} {x : Str} {v : Value} : ∀ {binds : List (Str × Value)} {m : Str → Option Value}, (binds.map (·.1)).Nodup → (x, v) ∈ binds → kindOf x ≠ some .local → bindC kindOf binds m x = some v := by
  intro binds
  induction binds with
  | nil => intro m _ h; cases h
  | cons p r ih =>
    intro m nd h hk
    obtain ⟨n, w⟩ := p
    rw [List.map_cons, List.nodup_cons] at nd
    unfold bindC
    rcases List.mem_cons.mp h with e | h
    · cases e
      rw [bindC_not nd.1, if_neg hk]
      exact if_pos rfl
    · exact ih nd.2 h hk
theorem cellsAre_get {cm : Str → Option Value} {cs : List (Str × Addr)} {cells : List (Addr × Obj)} (H : CellsAre cm cs cells) : ∀ x a, (x, a) ∈ cs → ∃ o, (a, o) ∈ cells ∧ o.data = .cell (cm x) := by
  induction H with
  | nil => intro _ _ h; cases h
  | cons hd r ih =>
    intro x a h
    rcases List.mem_cons.mp h with e | h
    · cases e; exact ⟨_, .head _, hd⟩
    · obtain ⟨o, h1, h2⟩ := ih x a h; exact ⟨o, .tail _ h1, h2⟩
theorem lookup_of_mem {x : Str} : ∀ {cs : List (Str × Addr)}, x ∈ cs.map (·.1) → ∃ a, cs.lookup x = some a ∧ (x, a) ∈ cs
  | [], h => by cases h
  | (y, b) :: r, h => by
    cases e : x == y with
    | true => exact ⟨b, by simp [List.lookup_cons, e], by rw [beq_iff_eq.mp e]; exact .head _⟩
    | false =>
      have hne : x ≠ y := by simpa using e
      obtain ⟨a, h1, h2⟩ := lookup_of_mem (cs := r) ((List.mem_cons.mp h).resolve_left hne)
      exact ⟨a, by simp [List.lookup_cons, e, h1], .tail _ h2⟩
theorem mem_of_lookup' {α : Type} {x : Str} {k : α} : ∀ {l : List (Str × α)}, l.lookup x = some k → (x, k) ∈ l
  | [], h => by cases h
  | (y, b) :: r, h => by
    rw [List.lookup_cons] at h
    cases q : x == y with
    | true => rw [q] at h; cases h; rw [beq_iff_eq.mp q]; exact .head _
    | false => rw [q] at h; exact .tail _ (mem_of_lookup' h)
noncomputable def cellKs (sc : Scope) (names : List Str) : List Bool := names.map fun x => sc.names.lookup x == some .cell
noncomputable def unC (names : List Str) (bargs : List (Str × V)) : List V := bargs.map (·.2) ++ List.replicate (names.length - bargs.length) V.unb
noncomputable def fnOkC (K : Frag) (f : Addr) (names : List Str) : Bool := match funOf K f with
  | some fd => fd.closure.isEmpty && fd.globals == mainGlobals && fd.builtins == builtinsNs && codeIn K fd.code fd.qualname && !fd.scope.isCoroutine && !fd.scope.isGenerator &&
      (fd.scope.kind == .function) && decide ((cellsFrom 0 fd.scope.names []).map (·.1)).Nodup && (stmtsOf fd.body).isSome && names.all fun x => fd.scope.names.lookup x == some .local || fd.scope.names.lookup x == some .cell
  | none => false
theorem unC_get {names : List Str} {bargs : List (Str × V)} {i : Nat} {x : Str} {v : V} (hnm : names.take bargs.length = bargs.map (·.1)) (hx : names[i]? = some x) (hv : (unC names bargs)[i]? = some v) :
    (i < bargs.length ∧ bargs[i]? = some (x, v)) ∨ (bargs.length ≤ i ∧ v = .unb) := by
  unfold unC at hv
  rcases Nat.lt_or_ge i bargs.length with hi | hi
  · rw [List.getElem?_append_left (by simpa using hi)] at hv
    rw [List.getElem?_map] at hv
    have h2 : (names.take bargs.length)[i]? = some x := by rw [List.getElem?_take, if_pos hi]; exact hx
    rw [hnm, List.getElem?_map] at h2
    cases e : bargs[i]? with
    | none => rw [e] at hv; cases hv
    | some p =>
      rw [e] at hv h2
      simp only [Option.map_some, Option.some.injEq] at hv h2
      refine .inl ⟨hi, ?_⟩
      rw [← hv, ← h2]
  · rw [List.getElem?_append_right (by simpa using hi), List.getElem?_replicate] at hv
    split at hv
    · cases hv; exact .inr ⟨hi, rfl⟩
    · cases hv
theorem enter_rep {F : Fx} (FO : F.Ok) {gn₁ : Array GenState} (bare : AllBare gn₁) {c' : Cx} {sc : Scope} {L' : Addr} {cm m : Str → Option Value} {kindOf : Str → Option NameKind} {cells news0 fr : List (Addr × Obj)} {h₁ : Heap} {hp : HP} {binds : List (Str × Value)} {bargs : List (Str × V)}
    (hcl : c'.cl = cellsFrom (L' + 1) sc.names []) (hL : c'.L = L') (hcp : c'.cp = none) (hsc : sc = F.sc) (hko : kindOf = fun x => sc.names.lookup x) (hm : m = bindL kindOf binds fun _ => none) (hcm : cm = bindC kindOf binds fun _ => none)
    (F' : Fr c'.h₀ L' h₁ m) (N' : News c'.h₀ L' h₁ (cells ++ (news0 ++ fr))) (CA : CellsAre cm (cellsFrom (L' + 1) sc.names []) cells) (H : HpN c' hp news0) (hlt : ∀ p ∈ news0 ++ fr, p.1 < L') (D : ∀ p ∈ fr, hp p.1 = none)
    (hst : ∀ b o, c'.base.get? b = some o → c'.h₀.get? b = some o) (hbs : (binds.map fun p => (p.1, absV p.2)) = bargs) (hnm : F.names.take bargs.length = bargs.map (·.1))
    (hnl : ∀ x ∈ F.names, sc.names.lookup x = some .local ∨ sc.names.lookup x = some .cell) {k : List V → HP → Prop} (h : enterC ((cellKs F.sc F.names).zip (unC F.names bargs)) hp k) :
    ∃ l' hp', k l' hp' ∧ Rep c' F.names l' hp' fr h₁ gn₁ := by
  subst hsc
  have hlen : bargs.length ≤ F.names.length := by
    have := congrArg List.length hnm
    simp only [List.length_take, List.length_map] at this
    (first | lia | omega)
  have hbl : binds.length = bargs.length := by rw [← hbs]; simp
  have hb1 : bargs.map (·.1) = binds.map (·.1) := by rw [← hbs]; simp
  have ndb : (binds.map (·.1)).Nodup := by rw [← hb1, ← hnm]; exact List.Sublist.nodup (List.take_sublist _ _) FO.nd
  have hul : (unC F.names bargs).length = F.names.length := by unfold unC; simp; (first | lia | omega)
  have hkl : (cellKs F.sc F.names).length = F.names.length := by unfold cellKs; simp
  have hpl : F.names.length = ((cellKs F.sc F.names).zip (unC F.names bargs)).length := by simp [hul, hkl]
  have hpg : ∀ (i : Nat) (x : Str) (b : Bool) (v : V), F.names[i]? = some x → ((cellKs F.sc F.names).zip (unC F.names bargs))[i]? = some (b, v) → b = (F.sc.names.lookup x == some .cell) ∧ (unC F.names bargs)[i]? = some v := by
    intro i x b v hx hv
    rw [List.getElem?_zip_eq_some] at hv
    obtain ⟨h1, h2⟩ := hv
    unfold cellKs at h1
    rw [List.getElem?_map, hx] at h1
    exact ⟨(Option.some.inj h1).symm, h2⟩
  let look : Str → Addr := fun x => ((cellsFrom (L' + 1) F.sc.names []).lookup x).getD 0
  have hlook : ∀ x, F.sc.names.lookup x = some .cell → (cellsFrom (L' + 1) F.sc.names []).lookup x = some (look x) ∧ (x, look x) ∈ cellsFrom (L' + 1) F.sc.names [] := by
    intro x hx
    obtain ⟨a, h1, h2⟩ := lookup_of_mem (cellsFrom_get F.sc.names (L' + 1) [] x (.inl (mem_of_lookup' hx)))
    have : look x = a := by show ((cellsFrom (L' + 1) F.sc.names []).lookup x).getD 0 = a; rw [h1]; rfl
    rw [this]; exact ⟨h1, h2⟩
  obtain ⟨ndA, hge⟩ := cellsFrom_apart F.sc.names (L' + 1) (L' + 1) [] (Nat.le_refl _) (fun _ h => nomatch h) List.nodup_nil
  have isC : ∀ x ∈ cellNames F.names ((cellKs F.sc F.names).zip (unC F.names bargs)), F.sc.names.lookup x = some .cell := by
    intro x hx
    refine Gen fun Gq9 back => ?_
    rcases cellNames_mem hx with ⟨i, v, h1, h2⟩
    refine back ?_
    clear back
    clear Gq9
    have := (hpg i x true v h1 h2).1
    simpa using this.symm
  have hobj : ∀ x, F.sc.names.lookup x = some .cell → ∃ o, (look x, o) ∈ cells ∧ o.data = .cell (cm x) := fun x hx => cellsAre_get CA x _ (hlook x hx).2
  have hnew : ∀ x, F.sc.names.lookup x = some .cell → hp (look x) = none := by
    intro x hx
    obtain ⟨o, ho, _⟩ := hobj x hx
    have hgt := hge _ (hlook x hx).2
    cases q : hp (look x) with
    | none => rfl
    | some o' =>
      have := H.2 _ _ q
      cases o' with
      | ro vs =>
        refine Gen fun Gq9 back => ?_
        rcases this with ⟨it, ⟨ob, hb, _⟩, _⟩
        refine back ?_
        clear back
        clear Gq9
        have h0 := (N' _ (List.mem_append_left _ ho)).2.2
        rw [hst _ _ hb] at h0; cases h0
      | list vs => obtain ⟨ob, hb, _⟩ := this; exact absurd (hlt _ (List.mem_append_left _ hb)) (Nat.not_lt.mpr (Nat.le_of_succ_le hgt))
      | tup vs => obtain ⟨ob, hb, _⟩ := this; exact absurd (hlt _ (List.mem_append_left _ hb)) (Nat.not_lt.mpr (Nat.le_of_succ_le hgt))
      | cell vs => obtain ⟨ob, hb, _⟩ := this; exact absurd (hlt _ (List.mem_append_left _ hb)) (Nat.not_lt.mpr (Nat.le_of_succ_le hgt))
      | rng _ _ _ => obtain ⟨ob, hb, _⟩ := this; exact absurd (hlt _ (List.mem_append_left _ hb)) (Nat.not_lt.mpr (Nat.le_of_succ_le hgt))
      | dict _ => obtain ⟨ob, hb, _⟩ := this; exact absurd (hlt _ (List.mem_append_left _ hb)) (Nat.not_lt.mpr (Nat.le_of_succ_le hgt))
      | tab => obtain ⟨ob, hb, _⟩ := this; exact absurd (hlt _ (List.mem_append_left _ hb)) (Nat.not_lt.mpr (Nat.le_of_succ_le hgt))
  have ndl : ((cellNames F.names ((cellKs F.sc F.names).zip (unC F.names bargs))).map look).Nodup := by
    have nd0 : (cellNames F.names ((cellKs F.sc F.names).zip (unC F.names bargs))).Nodup := List.Sublist.nodup cellNames_sub FO.nd
    refine List.pairwise_map.mpr (List.Pairwise.imp_of_mem (fun {x y} hx hy hne e => hne ?_) nd0)
    have h1 := (hlook x (isC x hx)).2
    have h2 := (hlook y (isC y hy)).2
    rw [e] at h1
    have key : ∀ (cs : List (Str × Addr)) (a : Addr), (cs.map (·.2)).Nodup → (x, a) ∈ cs → (y, a) ∈ cs → x = y := by
      intro cs a
      induction cs with
      | nil => intro _ h; cases h
      | cons p r ih =>
        intro nd g1 g2
        rw [List.map_cons, List.nodup_cons] at nd
        rcases List.mem_cons.mp g1 with e1 | g1 <;> rcases List.mem_cons.mp g2 with e2 | g2
        · exact (Prod.mk.inj (e1.trans e2.symm)).1
        · exact absurd (by rw [← e1]; exact List.mem_map_of_mem (f := (·.2)) g2) nd.1
        · exact absurd (by rw [← e2]; exact List.mem_map_of_mem (f := (·.2)) g1) nd.1
        · exact ih nd.2 g1 g2
    exact key _ _ ndA h1 h2
  refine Gen fun Gq9 back => ?_
  rcases enterS look F.names _ hp k hpl h (fun x hx => hnew x (isC x hx)) ndl with ⟨l', hp', hk, hl', hget, hcell, hrest⟩
  refine back ?_
  clear back
  clear Gq9
  have bget : ∀ (i : Nat) (x : Str) (v : V), bargs[i]? = some (x, v) → ∃ val, (x, val) ∈ binds ∧ absV val = v := by
    intro i x v hb
    rw [← hbs, List.getElem?_map] at hb
    cases e : binds[i]? with
    | none => rw [e] at hb; cases hb
    | some p =>
      rw [e] at hb
      simp only [Option.map_some, Option.some.injEq, Prod.mk.injEq] at hb
      exact ⟨p.2, by rw [← hb.1]; exact List.mem_of_getElem? e, hb.2⟩
  refine ⟨l', hp', hk, ?_⟩
  refine Rep.of (news := cells ++ news0) (.refl bare) (by rw [hL]; exact hm ▸ F') ((LocX.plain hcp).mpr ?_) ⟨?_, ?_⟩ (by rw [hL, List.append_assoc]; exact N') ?_
  · intro i x v hx hv hn
    have hi : i < F.names.length := (List.getElem?_eq_some_iff.mp hx).1
    obtain ⟨⟨b, w⟩, hw⟩ : ∃ p, ((cellKs F.sc F.names).zip (unC F.names bargs))[i]? = some p := ⟨_, List.getElem?_eq_getElem (by rw [← hpl]; exact hi)⟩
    obtain ⟨hb, hu⟩ := hpg i x b w hx hw
    rw [hget i x b w hx hw] at hv
    rcases hnl x (List.mem_of_getElem? hx) with hk | hk
    · have : b = false := by rw [hb, hk]; rfl
      subst this
      simp only [Bool.false_eq_true, if_false, Option.some.injEq] at hv
      subst hv
      rcases unC_get hnm hx hu with ⟨_, hb'⟩ | ⟨_, e⟩
      · obtain ⟨val, h1, h2⟩ := bget i x w hb'
        exact .inr ⟨fun a e => absV_cell (h2.trans e), val, bindL_get ndb h1 (by rw [hko]; exact hk), h2⟩
      · exact absurd e hn
    · have : b = true := by rw [hb, hk]; rfl
      subst this
      simp only [if_true, Option.some.injEq] at hv
      exact .inl ⟨look x, hv.symm, by rw [hcl]; exact (hlook x hk).1⟩
  · obtain ⟨Dm, hD⟩ := H.1
    refine ⟨Dm ++ (cellNames F.names ((cellKs F.sc F.names).zip (unC F.names bargs))).map look, fun a o ho => ?_⟩
    by_cases q : a ∈ (cellNames F.names ((cellKs F.sc F.names).zip (unC F.names bargs))).map look
    · exact List.mem_append_right _ q
    · rw [hrest a q] at ho; exact List.mem_append_left _ (hD a o ho)
  · intro a o ho
    by_cases q : a ∈ (cellNames F.names ((cellKs F.sc F.names).zip (unC F.names bargs))).map look
    · obtain ⟨x, hx, rfl⟩ := List.mem_map.mp q
      refine Gen fun Gq9 back => ?_
      rcases cellNames_mem hx with ⟨i, v, h1, h2⟩
      refine back ?_
      clear back
      clear Gq9
      have hv := hcell i x v h1 h2
      have ho := ho.symm.trans hv
      obtain rfl := Option.some.inj ho
      obtain ⟨ob, hob, hd⟩ := hobj x (isC x hx)
      refine ⟨ob, List.mem_append_left _ hob, cm x, hd, ?_⟩
      have hu := (hpg i x true v h1 h2).2
      have hnk : kindOf x ≠ some .local := by rw [hko]; show F.sc.names.lookup x ≠ _; rw [isC x hx]; decide
      rcases unC_get hnm h1 hu with ⟨_, hb'⟩ | ⟨hge', e⟩
      · obtain ⟨val, g1, g2⟩ := bget i x v hb'
        rw [hcm, bindC_get ndb g1 hnk]
        exact ⟨fun e => by rw [e] at g2; cases val <;> simp [absV] at g2, g2⟩
      · rw [hcm, bindC_not (fun hm' => ?_)]
        · exact e
        · rw [← hb1, ← hnm] at hm'
          obtain ⟨j, hj, e'⟩ := List.mem_iff_getElem.mp hm'
          rw [List.length_take] at hj
          have g1 : F.names[j]? = some x := by
            rw [List.getElem_take] at e'
            rw [← e']; exact List.getElem?_eq_getElem _
          have g2 := List.getElem?_eq_some_iff.mp g1
          have g3 := List.getElem?_eq_some_iff.mp h1
          obtain ⟨a1, b1⟩ := g2
          obtain ⟨a2, b2⟩ := g3
          have := (List.getElem_inj FO.nd).mp (b1.trans b2.symm)
          (first | lia | omega)
    · rw [hrest a q] at ho
      have := H.2 a o ho
      cases o with
      | ro vs => exact this
      | list vs => obtain ⟨ob, h1, h2⟩ := this; exact ⟨ob, List.mem_append_right _ h1, h2⟩
      | tup vs => obtain ⟨ob, h1, h2⟩ := this; exact ⟨ob, List.mem_append_right _ h1, h2⟩
      | cell vs => obtain ⟨ob, h1, h2⟩ := this; exact ⟨ob, List.mem_append_right _ h1, h2⟩
      | rng _ _ _ => obtain ⟨ob, h1, h2⟩ := this; exact ⟨ob, List.mem_append_right _ h1, h2⟩
      | dict _ => obtain ⟨ob, h1, h2⟩ := this; exact ⟨ob, List.mem_append_right _ h1, h2⟩
      | tab => obtain ⟨ob, h1, h2⟩ := this; exact ⟨ob, List.mem_append_right _ h1, h2⟩
  · intro p hp'
    rw [hrest]
    · exact D p hp'
    · intro q
      obtain ⟨x, hx, e⟩ := List.mem_map.mp q
      have hgt := hge _ (hlook x (isC x hx)).2
      have := hlt p (List.mem_append_right _ hp')
      rw [← e] at this
      exact absurd this (Nat.not_lt.mpr (Nat.le_of_succ_le hgt))
theorem cellsFrom_none : ∀ {ns : List (Str × NameKind)} {n : Nat}, (ns.all fun y => !(y.2 == .cell)) = true → cellsFrom n ns [] = []
  | [], _, _ => rfl
  | (y, k) :: r, n, h => by
    simp only [List.all_cons, Bool.and_eq_true, Bool.not_eq_true'] at h
    unfold cellsFrom
    rw [if_neg (by rw [h.1]; decide)]
    exact cellsFrom_none h.2
theorem calls_ofC {F : Fx} (hh : F.hot = false) {f : Addr} (hgc : ∀ q, F.gc = some q → (fnAt F.g.K f).code = .ref q.1) (FO : F.Ok) (hok : fnOkC F.g.K f F.names = true) (hsc : (fnAt F.g.K f).scope = F.sc) {ms : MS} (hb : SB F (bodyAt F.g.K f) ms) {args : List V} {kw bargs : List (Str × V)}
    (hbind : Binds F.g f args kw bargs) (hnm : F.names.take bargs.length = bargs.map (·.1)) (hloc : (bargs.all fun p => F.sc.names.lookup p.1 == some .local || F.sc.names.lookup p.1 == some .cell) = true)
    {d : Nat} {hp : HP} {Q : V → HP → Prop} {X : XC}
    (h : enterC ((cellKs F.sc F.names).zip (unC F.names bargs)) hp fun l h0 => exec F.g d ms l h0 (retQ Q) noX) : Calls F.g (d + 1) f args kw hp Q X := by
  intro c hg ok hcold rm names l vals kvals hv hkv fr s P E R hP hX
  unfold fnOkC at hok
  cases hfo : funOf F.g.K f with
  | some fd =>
    rw [hfo] at hok
    refine Gen fun Gq9 back => ?_
    rcases funOf_spec hfo with ⟨oc, od, osl, hK⟩
    refine back ?_
    clear back
    clear Gq9
    simp only [Bool.and_eq_true, Bool.not_eq_true', List.isEmpty_iff, beq_iff_eq, decide_eq_true_eq] at hok
    refine Gen fun Gq9 back => ?_
    rcases hok with ⟨⟨⟨⟨⟨⟨⟨⟨⟨k1, k2⟩, k3⟩, k4⟩, k5⟩, k6⟩, k7⟩, k8⟩, k9⟩, k10⟩
    refine back ?_
    clear back
    clear Gq9
    have hfd : fnAt F.g.K f = fd := by unfold fnAt; rw [hfo]; first | done | rfl
    cases hbd : fd.body with
    | expr _ => rw [hbd] at k9; cases k9
    | stmts body =>
      have hbody : bodyAt F.g.K f = body := by unfold bodyAt; rw [hfd, hbd]; first | done | rfl
      rw [hbody] at hb
      rw [hfd] at hsc
      obtain ⟨binds, hB, hbs⟩ := hbind s vals kvals (by rw [← hg]; exact R.inK ok) hv hkv
      rw [hfd] at hB
      have hfn : fd = fnOf fd.name fd.qualname fd.params body fd.scope fd.defaults fd.kwdefaults fd.doc fd.pyModule fd.annotations fd.code fd.closureTuple := by
        cases fd
        simp only at k1 k2 k3 hbd
        subst k1 k2 k3 hbd
        rfl
      refine Gen fun Gq9 back => ?_
      rcases R.parts with ⟨g, m, news, T, Fm, lo, H, N, D⟩
      refine back ?_
      clear back
      clear Gq9
      have okg := ok.turn T
      refine code_defCT (K := c.g.K) okg.below Fm (ok.inK.keeps okg.below.stays) N ((ok.top.keeps okg.below.stays).nolimit) (Around.frames_deeper ok.below.stack) rfl ok.fkind (by rw [hg, hK, ← hfn]) (by rw [hg]; exact k4) (by have := rm.1; (first | lia | omega)) (by rw [← hfn]; exact hB) ?_ k8 ?_ k5 k6 k7
      · refine List.all_eq_true.mpr fun y hy => ?_
        have : (y.1, absV y.2) ∈ bargs := by rw [← hbs]; exact List.mem_map_of_mem (f := fun p => (p.1, absV p.2)) hy
        have := List.all_eq_true.mp hloc _ this
        rw [hsc]; exact this
      · intro g' L' h₁ tk cells FG F' N' CA B' hlt
        let c' : Cx := { g := c.g, A₀ := c.A, base := c.base, h₀ := g', outer := c.fenv :: c.outer, L := L', qn := fd.qualname, fsc := fd.scope, fa := f, cd := fd.code, cl := cellsFrom (L' + 1) fd.scope.names [], cp := none }
        have ok' : c'.Ok := ⟨B', ok.inK, ok.top, okg.dictsPush FG, k7, k7, k6, k5, ok.seer, ok.tree⟩
        have rm' : room c' d := ⟨by have := rm.1; show c.A.depth + 1 + d + 200 < _; (first | lia | omega), by have := rm.2; show c.A.units + 3 + 8 * d + 200 < _; (first | lia | omega)⟩
        obtain ⟨l', hp1, hex, R'⟩ := enter_rep FO T.bare (c' := c') rfl rfl rfl hsc rfl rfl rfl F' N' CA H hlt D (fun b o e => B'.stays b o e) hbs hnm
          (fun x hx => by have := List.all_eq_true.mp k10 x hx; simpa using this) h
        refine hb c' d FO hg ⟨hsc, fun _ => rfl, fun _ hc => by show cellsFrom (L' + 1) fd.scope.names [] = []; rw [hsc]; exact cellsFrom_none hc, fun _ => hcold, fun q => (by rw [hh] at q; injection q), fun q e => (by have := hgc q e; rw [hfd] at this; exact this)⟩ ok' rm' _ hp1 _ noX hex rfl fr _ _ _ R' (fun o f' l2 hp' h' tk' gn' hq hf R2 => ?_) (fun l' => noXP)
        refine Gen fun Gq9 back => ?_
        rcases R2.parts with ⟨g2, m2, news2, T2, F2, lo2, H2, N2, D2⟩
        refine back ?_
        clear back
        clear Gq9
        refine ⟨g2, L', m2, news2 ++ fr, T2.toKtsTurn, F2, N2, fun h3 T3 F3 N3 => ?_⟩
        cases o with
        | next =>
          cases f' <;> first | exact hf.elim | skip
          exact hP .none .none hp' h' tk' gn' hq rfl (Rep.of (T.next T3 T2) F3 lo H2 N3 D2)
        | brk => exact hq.elim
        | ret v =>
          cases f' <;> first | exact hf.elim | skip
          exact hP v _ hp' h' tk' gn' hq hf (Rep.of (T.next T3 T2) F3 lo H2 N3 D2)
  | none => rw [hfo] at hok; injection hok
section
variable {F : Fx}
theorem storeC {c : Cx} (hsc : SCF c F) (ok : c.Ok) {x : Str} {i : Nat} {a : Addr} {w : V} {l hp fr} {s : Shared} {v : V} {val : Value} {P : Unit → Shared → Prop} {E : Value → Shared → Prop}
    (hi : F.names[i]? = some x) (hk : F.sc.names.lookup x = some .cell) (R : Rep c F.names l hp fr s.heap s.gens) (hl : lget l i = .cell a) (h0 : hp a = some (.cell w)) (hv : absV val = v)
    (h : ∀ h' tk' gn', Rep c F.names l (hset hp a (.cell v)) fr h' gn' → P () { s with heap := h', toks := tk', gens := gn' }) :
    wpAny (model c.g.prog c.g.w) c.A (storeName c.env x val) P E s := by
  have hcl := R.cellOf hi hl
  refine Gen fun Gq9 back => ?_
  rcases id R with ⟨g, T, m, Fm, lo, H, N, D⟩
  refine back ?_
  clear back
  clear Gq9
  refine Gen fun Gq9 back => ?_
  rcases H.2 a _ h0 with ⟨ob, ho, ⟨w', hd, _⟩, _⟩
  refine back ?_
  clear back
  clear Gq9
  refine wpAny_storeName_cell (by rw [c.env_scope]; exact ok.kind) (by rw [c.env_kindOf, hsc.1]; exact hk) hcl ⟨ob, ho, hd⟩ fun h' hv' hs => ?_
  obtain ⟨ob', ho', hd'⟩ := hv'
  exact h h' s.toks s.gens (R.upd h0 hs ho' ⟨some val, hd', fun e => by rw [e] at hv; cases val <;> simp [absV] at hv, hv⟩ (fun ws e => by cases e))
end
section
variable {F : Fx}
theorem cell_at {v : V} {P : Addr → Prop} (h : match v with | .cell a => P a | _ => False) : ∃ a, v = .cell a ∧ P a := by
  cases v <;> first | exact ⟨_, rfl, h⟩ | exact h.elim
theorem ss_casgX {x : Str} {p pos : Pos} {i : Nat} {e : Expr} {m : ME} (hi : F.names[i]? = some x) (hk : F.sc.names.lookup x = some .cell) (he : SE F e m) : SS F (.Assign [.Name x p] e pos) (.casg i m) := by
  intro c d FO hg hsc ok rm l hp Q X hev hcp fr s P E R hP hX
  have hsw : swapsWith e (some (.Name x p)) pos.line c.env = pure false := by
    unfold swapsWith
    have hkc : c.env.kindOf x = some .cell := by rw [c.env_kindOf, hsc.1]; exact hk
    cases e <;> first | rfl | (show pure (((c.env.blockKind == .function && c.env.kindOf x == some .local) && _) && _) = _; rw [hkc, show (some NameKind.cell == some NameKind.local) = false from by decide, Bool.and_false, Bool.false_and, Bool.false_and])
  refine wpAny_Assign_Name (he c d FO hg hsc ok rm l hp _ X hev fr s _ E R (fun v y h1 hh tk gn hq hy R1 => ?_) (hX l)) hsw
  refine Gen fun Gq9 back => ?_
  rcases cell_at hq with ⟨a, hl, ⟨w, h0⟩, hq⟩
  refine back ?_
  clear back
  clear Gq9
  exact storeC hsc ok hi hk R1 hl h0 hy fun h' tk' gn' R' => hP .next .next _ _ h' tk' gn' hq trivial R'
end
section
variable {F : Fx}
noncomputable def swapB (F : Fx) (y : Str) (py : Pos) (scope : Scope) (pos : Pos) : Bool :=
  (F.sc.names.lookup y == some .local) && (py.line == pos.line) && !(scope.names.any fun z => z.1 == y && (z.2 == .local || z.2 == .cell))
theorem ss_asgX {x y : Str} {py spos : Pos} {i : Nat} {xs : List Str} {is : List Nat} {scope : Scope} (co : CompOk F scope x xs is) (ht : F.top = true) {tg : Expr} {pos : Pos} {ifs : List Expr} {iter elt : Expr} {m : ME} (hse : ∀ env v, foldedSetIterable iter env v = pure v)
    (h : CompRun F x xs is scope tg pos ifs iter elt m) (hi : F.names[i]? = some y) (hk : F.sc.names.lookup y = some .local) (hsw : swapB F y py scope pos = true) :
    SS F (.Assign [.Name y py] (.ListComp elt [⟨tg, iter, ifs, 0⟩] scope pos) spos) (.asg i m) := by
  intro c d FO hg hsc ok rm l hp Q X hev hcp fr s P E R hP hX
  have hs : swapsWith (.ListComp elt [⟨tg, iter, ifs, 0⟩] scope pos) (some (.Name y py)) spos.line c.env = pure true := by
    simp only [swapB, Bool.and_eq_true] at hsw
    have hb : c.env.blockKind = .function := by unfold Env.blockKind; rw [c.env_scope, ok.kind]; rfl
    show pure (((c.env.blockKind == .function && c.env.kindOf y == some .local) && _) && _) = _
    rw [hb, c.env_kindOf, hsc.1]
    rw [hsw.1.1]
    show pure (((_ && true) && (py.line == pos.line)) && _) = _
    rw [hsw.1.2, hsw.2]; rfl
  rw [exec_Assign_Name_used _ _ _ _ hs]
  refine wpAny_bind (wpAny_standAt (wpAny_bind ?_))
  show wpAny _ c.A (do let _ ← comprehension (.ListComp elt [⟨tg, iter, ifs, 0⟩] scope pos) scope c.env _ (newList []) false (eval iter c.env) (some (assign (.Name y py) c.env))) _ _ s
  obtain ⟨hcells, h⟩ := h c d FO hg hsc ok rm hcp l hp (fun v h1 => Q .next (lset l i v) h1) X hev
  refine wpAny_bind (wpAny_mono (wpAny_comprehension_free (use := some (assign (.Name y py) c.env)) (Q := fun _ s' => P .next s') rfl (hse _) (closureFor_list _ (comp_look co R hcells)) co.kind co.names
    (h fr s E _ R (hX l) fun D C oC m₂ hp' h' tk' gn' hq hNs R1 hfC => ?_)) (fun _ s' hq => wpAny_pure (wpAny_pure hq)) fun _ _ e => e)
  show wpAny _ c.A (assign (.Name y py) c.env (.ref D)) _ _ _
  refine wpAny_assign_Name (storeS FO hsc ok hcp hi hk R1 (v := .ref D) rfl fun h2 tk2 gn2 R2 => ?_)
  refine Gen fun Gq9 back => ?_
  rcases hNs with ⟨es1, ep1, hd1, hk1', hr1⟩
  refine back ?_
  clear back
  clear Gq9
  have hgC : h2.get? C = some oC := by obtain ⟨_, _, _, _, _, _, N, _⟩ := id R2; exact (N _ (.head _)).1
  refine ⟨m₂, ⟨oC, es1, ep1, hgC, hd1, hk1', hr1⟩, fun h'' hs'' => ?_⟩
  exact hP .next .next _ _ h'' _ _ hq trivial (R2.drop (noC hcp) (fun b ob hne e => (hs''.2 b hne).trans e) hfC)
end
theorem args_powT3 (a b c : Value) : argsOk "pow" ⟨[a, b, c], []⟩ := by unfold argsOk; kernel_rfl
theorem args_int_pow3 (a b c : Value) : argsOk "int.__pow__" ⟨[a, b, c], []⟩ := by unfold argsOk; kernel_rfl
theorem bind_pow3 (a b c : Value) : Builtin.Builtins.bindParams "pow" ["base", "exp", "mod"] 2 ⟨[a, b, c], []⟩ = pure [some a, some b, some c] := by kernel_rfl
/-! the power by bits -/
theorem powMod_go (b e m : Nat) : ∀ (k p : Nat), p % m = b ^ (e >>> k) % m → ((List.range k).reverse.foldl (fun p i => if e.testBit i then p * p % m * b % m else p * p % m) p) % m = b ^ e % m
  | 0, p, h => by simpa using h
  | k + 1, p, h => by
    rw [List.range_succ, List.reverse_append, List.reverse_cons, List.reverse_nil, List.nil_append, List.cons_append, List.nil_append, List.foldl_cons]
    refine powMod_go b e m k _ ?_
    have e1 : e >>> k = 2 * (e >>> (k + 1)) + (if e.testBit k then 1 else 0) := by
      rw [Nat.shiftRight_succ]
      have := Nat.div_add_mod (e >>> k) 2
      have h2 : (e >>> k) % 2 = (if e.testBit k then 1 else 0) := by
        unfold Nat.testBit
        rw [Nat.and_comm, Nat.and_one_is_mod]
        rcases Nat.mod_two_eq_zero_or_one (e >>> k) with h | h <;> simp [h]
      (first | lia | omega)
    rw [e1]
    cases hb : e.testBit k with
    | false =>
      simp only [Bool.false_eq_true, if_false, Nat.add_zero]
      rw [Nat.mod_mod, Nat.mul_mod, h, ← Nat.mul_mod, Nat.two_mul, Nat.pow_add]
    | true =>
      simp only [if_true]
      have h2 : p * p % m = b ^ (2 * e >>> (k + 1)) % m := by rw [Nat.mul_mod, h, ← Nat.mul_mod, Nat.two_mul, Nat.pow_add]
      rw [Nat.mod_mod, Nat.mul_mod, Nat.mod_mod, h2, ← Nat.mul_mod, Nat.pow_succ]
theorem powMod_eq (b e m : Nat) (hm : 0 < m) : Builtin.powMod b e m = b ^ e % m := by
  have h1 : Builtin.powMod b e m % m = b ^ e % m := by
    unfold Builtin.powMod
    refine powMod_go b e m _ _ ?_
    have : e >>> Builtin.Int.intBits e = 0 := by
      rw [Nat.shiftRight_eq_div_pow]
      apply Nat.div_eq_of_lt
      unfold Builtin.Int.intBits
      split
      · rename_i h; have : e = 0 := by simpa using h
        subst this; simp
      · exact Nat.lt_log2_self
    rw [this, Nat.mod_mod]; rfl
  have h2 : Builtin.powMod b e m < m := by
    unfold Builtin.powMod
    have : ∀ (l : List Nat) (p : Nat), p < m → l.foldl (fun p i => if e.testBit i then p * p % m * b % m else p * p % m) p < m := by
      intro l
      induction l with
      | nil => intro p h; exact h
      | cons i r ih => intro p h; refine ih _ ?_; show (if e.testBit i = true then _ else _) < m; split <;> exact Nat.mod_lt _ hm
    exact this _ _ (Nat.mod_lt _ hm)
  rw [Nat.mod_eq_of_lt h2] at h1; exact h1
theorem int_pow3 (a : Int) (t : Tok) (b : Int) (u : Tok) (c : Int) (v : Tok) (hc0 : ¬(c == 0) = true) (hc1 : ¬ (c.natAbs == 1) = true) (hb : ¬ b < 0) :
    Gives (Builtin.«int.__pow__» ⟨[.int a t, .int b u, .int c v], []⟩) (.int (if (decide (c < 0) && ((Builtin.powMod (a % (c.natAbs : Int)).toNat b.natAbs c.natAbs : Nat) : Int) != 0) = true then
        ((Builtin.powMod (a % (c.natAbs : Int)).toNat b.natAbs c.natAbs : Nat) : Int) - c.natAbs else ((Builtin.powMod (a % (c.natAbs : Int)).toNat b.natAbs c.natAbs : Nat) : Int))) :=
  .of_wp fun M A E s Q h => by obtain ⟨hp, g, d, tk, gn, os⟩ := s; wp_walk; exact ⟨_, rfl, h⟩
theorem pow_emod' (a : Int) (n : Nat) (m : Int) : (a % m) ^ n % m = a ^ n % m := by
  induction n with
  | zero => simp
  | succ n ih => rw [Int.pow_succ, Int.pow_succ, Int.mul_emod, ih, Int.emod_emod, ← Int.mul_emod]
theorem powMod_int {a c : Int} (n : Nat) (hc : 0 < c) : ((Builtin.powMod (a % (c.natAbs : Int)).toNat n c.natAbs : Nat) : Int) = (a ^ n).fmod c := by
  have hn : (c.natAbs : Int) = c := Int.natAbs_of_nonneg (by (first | lia | omega))
  rw [powMod_eq _ _ _ (by (first | lia | omega)), Int.fmod_eq_emod_of_nonneg _ (by (first | lia | omega))]
  push_cast
  rw [hn, Int.toNat_of_nonneg (Int.emod_nonneg _ (by (first | lia | omega))), pow_emod']
theorem call_int_pow3 {prog : Program} {w : World} {A : Around} {E : Value → Shared → Prop} {s : Shared} {a b c : Int} {t u v : Tok} (hb : 0 ≤ b) (hc : 0 < c) {Q : Value → Shared → Prop}
    (h : Q (.int ((a ^ b.toNat).fmod c) s.toks) { s with toks := s.toks + 1 }) : wpAny (model prog w) A (call (.builtin "int.__pow__") [.int a t, .int b u, .int c v]) Q E s := by
  by_cases h1 : c = 1
  · subst h1
    refine call_gives F.slot_int_pow (typeIs_int s a t) F.entry_int_pow (args_int_pow3 _ _ _) (AutoIntG3.int___pow___int_int_int_1 a t b u 1 v (by decide) (by decide)) ?_
    have e : (a ^ b.toNat).fmod 1 = 0 := by rw [Int.fmod_eq_emod_of_nonneg _ (by decide)]; (first | lia | omega)
    rw [e] at h
    exact h
  · refine call_gives F.slot_int_pow (typeIs_int s a t) F.entry_int_pow (args_int_pow3 _ _ _) (int_pow3 a t b u c v (by simp; (first | lia | omega)) (by simp; (first | lia | omega)) (by (first | lia | omega))) ?_
    rw [show decide (c < 0) = false by simp; (first | lia | omega), Bool.false_and]
    simp only [Bool.false_eq_true, if_false]
    rw [powMod_int _ hc, show b.natAbs = b.toNat by (first | lia | omega)]
    exact h
theorem call_pow3 {prog : Program} {w : World} {A : Around} {E : Value → Shared → Prop} {s : Shared} {a b c : Int} {t u v : Tok} (hb : 0 ≤ b) (hc : 0 < c) {Q : Value → Shared → Prop}
    (h : Q (.int ((a ^ b.toNat).fmod c) s.toks) { s with toks := s.toks + 1 }) : wpAny (model prog w) A (call (.builtin "pow") [.int a t, .int b u, .int c v]) Q E s := by
  refine Calls.call_function_entry kind_powT plain_powT entry_powT (args_powT3 _ _ _) ?_
  unfold Builtin.«pow»
  refine wpAny_bind (wpAny_of_eq (bind_pow3 _ _ _) ?_)
  show wpAny _ _ (rule _ >>= _) _ _ _
  refine wpAny_bind (wpAny_rule ?_)
  refine wpAny_bind (wpAny_typeOf (typeIs_int s a t) ?_)
  show wpAny _ _ (_ >>= _) _ _ _
  refine wpAny_bind (wpAny_of_eq F.slot_int_pow.lookup ?_)
  show wpAny _ _ (_ >>= _) _ _ _
  refine wpAny_bind (wpAny_callSpecial?_slot (name := Str.ofString "__pow__") (typeIs_int s a t) F.slot_int_pow (call_int_pow3 hb hc ?_))
  show wpAny _ _ (if (_ != _) = true then ret _ else _) _ _ _
  rw [if_pos (by rfl)]
  exact wpAny_pure ⟨_, rfl, h⟩
section
variable {F : Fx}
theorem se_pow3 {x : Str} {p pos : Pos} {a b e : Expr} {ma mb me : ME} (hxe : x = "pow") (hx : x ∈ F.bt) (hk : F.sc.names.lookup x = some .globalImplicit) (hn : notStar a = true) (hn2 : notStar b = true) (hn3 : notStar e = true) (ha : SE F a ma) (hb : SE F b mb) (he : SE F e me) :
    SE F (.Call (.Name x p) [a, b, e] [] pos) (.pow3 ma mb me) := by
  intro c d FO hg hsc ok rm l hp Q X hev fr s P E R hP hX
  subst hxe
  refine Call_ (nameB FO hg hsc ok hx (v := .builtin "pow") boot_powT hk (by decide) (by decide) R ?_) rfl
  refine PyProof.Rows.callWith_builtin1 ?_ (starEach_cons hn) (by rw [starEach_cons hn2, starEach_cons hn3]; rfl)
  refine spliced_more (ha c d FO hg hsc ok rm l hp _ X hev fr s _ E R (fun v y h1 hh tk gn hq hy R1 => ?_) hX) (starEach_cons hn)
  refine spliced_more (hb c d FO hg hsc ok rm l h1 _ X hq fr _ _ E R1 (fun w z h2 hh2 tk2 gn2 hq2 hz R2 => ?_) hX) (starEach_cons hn2)
  refine spliced_more (he c d FO hg hsc ok rm l h2 _ X hq2 fr _ _ E R2 (fun u z3 h3 hh3 tk3 gn3 hq3 hz3 R3 => ?_) hX) (starEach_cons hn3)
  refine spliced_none ?_
  obtain ⟨i, j, k, rfl, rfl, rfl⟩ : ∃ i j k, v = .int i ∧ w = .int j ∧ u = .int k := by cases v <;> first | exact hq3.elim | (cases w <;> first | exact hq3.elim | (cases u <;> first | exact hq3.elim | exact ⟨_, _, _, rfl, rfl, rfl⟩))
  · obtain ⟨t, rfl⟩ := absV_int hy
    obtain ⟨u, rfl⟩ := absV_int hz
    obtain ⟨u3, rfl⟩ := absV_int hz3
    exact call_pow3 hq3.1 hq3.2.1 (hP _ _ h3 hh3 _ _ hq3.2.2 rfl R3)
end
theorem ints_abs {vs : List Value} {ns : List Int} (H : IntsAre vs ns) : vs.map absV = ns.map V.int := by
  induction H with
  | nil => rfl
  | cons n t r ih => exact congrArg (V.int n :: ·) ih
noncomputable def plcC? (F : Fx) (x : Str) : Option (Nat × Bool) :=
  match loc? F x with
  | some i => some (i, false)
  | none => match fIdx F.names x 0 with
    | some i => if F.sc.names.lookup x = some .cell then some (i, true) else none
    | none => none
noncomputable def consC : Option (Nat × Bool) → Option (List (Nat × Bool)) → Option (List (Nat × Bool))
  | some p, some is => some (p :: is)
  | _, _ => none
noncomputable def tgtC? (F : Fx) : List Expr → Option (List (Nat × Bool))
  | [] => some []
  | .Name x _ :: r => consC (plcC? F x) (tgtC? F r)
  | _ :: _ => none
theorem tgtC?_cons {F : Fx} {e : Expr} {r : List Expr} {is : List (Nat × Bool)} (h : tgtC? F (e :: r) = some is) :
    ∃ x p q js, e = .Name x p ∧ plcC? F x = some q ∧ tgtC? F r = some js ∧ is = q :: js := by
  cases e <;> first | (injection h; done) | skip
  rename_i x p
  have h : consC (plcC? F x) (tgtC? F r) = some is := h
  cases ha : plcC? F x with
  | none => rw [ha] at h; injection h
  | some i =>
    rw [ha] at h
    cases hb : tgtC? F r with
    | none => rw [hb] at h; injection h
    | some q =>
      rw [hb] at h
      injection h with h
      exact ⟨x, p, i, q, rfl, ha, rfl, h.symm⟩
theorem plcC?_spec {F : Fx} {x : Str} {q : Nat × Bool} (h : plcC? F x = some q) : (∃ i, q = (i, false) ∧ loc? F x = some i) ∨ (∃ i, q = (i, true) ∧ fIdx F.names x 0 = some i ∧ F.sc.names.lookup x = some .cell) := by
  unfold plcC? at h
  cases ha : loc? F x with
  | some i => rw [ha] at h; injection h with h; exact .inl ⟨i, h.symm, rfl⟩
  | none =>
    rw [ha] at h
    cases hb : fIdx F.names x 0 with
    | none => rw [hb] at h; injection h
    | some i =>
      rw [hb] at h
      by_cases e : F.sc.names.lookup x = some .cell
      · have h := (if_pos e).symm.trans h
        injection h with h
        exact .inr ⟨i, h.symm, rfl, e⟩
      · have h := (if_neg e).symm.trans h
        injection h
section
variable {F : Fx}
theorem tgtC?_assign {c : Cx} (FO : F.Ok) (hsc : SCF c F) (ok : c.Ok) (hcp : c.cp = none) : ∀ {ts : List Expr} {is : List (Nat × Bool)}, tgtC? F ts = some is →
    ((assignEach ts c.env).length = ts.length ∧ ts.length = is.length ∧ List.findIdx? (fun x => x.fst) (assignEach ts c.env) = none) ∧
    ∀ (l : List V) (hp : HP) (fr : List (Addr × Obj)) (s : Shared) (vs : List V) (vals : List Value) (K : List V → HP → Prop) (P : Unit → Shared → Prop) (E : Value → Shared → Prop), vals.map absV = vs → putN l is vs hp K → Rep c F.names l hp fr s.heap s.gens →
      (∀ l' hp' h' tk' gn', K l' hp' → Rep c F.names l' hp' fr h' gn' → P () { s with heap := h', toks := tk', gens := gn' }) →
      wpAny (model c.g.prog c.g.w) c.A (assignInOrder ((assignEach ts c.env).map (fun x => x.snd)) vals) P E s
  | [], is, h => by
    cases h
    refine ⟨⟨rfl, rfl, rfl⟩, fun l hp fr s vs vals K P E hv hq R hP => ?_⟩
    cases vals with
    | nil => subst hv; exact assignInOrder_nil (hP _ _ s.heap s.toks s.gens hq R)
    | cons y r => subst hv; exact hq.elim
  | e :: r, is, h => by
    refine Gen fun Gq9 back => ?_
    rcases tgtC?_cons h with ⟨x, p, q, js, hz23, hq0, hr, hz24⟩
    refine back ?_
    clear back
    clear Gq9
    subst hz23
    subst hz24
    obtain ⟨a, ih⟩ := tgtC?_assign FO hsc ok hcp hr
    refine ⟨assignEach_ok a, fun l hp fr s vs vals K P E hv hq R hP => ?_⟩
    rcases plcC?_spec hq0 with ⟨i, rfl, hi⟩ | ⟨i, rfl, hi, hcell⟩
    · obtain ⟨b1, b2, b3⟩ := loc?_spec hi
      cases vals with
      | nil => subst hv; exact hq.elim
      | cons y ys' =>
        subst hv
        refine assignInOrder_cons (t := assign (.Name x p) c.env) ?_
        exact PyProof.Rows.assign_Name (storeS FO hsc ok hcp b1 b2 R rfl fun h' tk' gn' R' => ih _ _ _ _ _ _ _ _ _ rfl hq R' fun l2 hp2 h2 tk2 gn2 hq2 R2 => hP l2 hp2 h2 tk2 gn2 hq2 R2)
    · have b1 : F.names[i]? = some x := by simpa using (fIdx_get hi).2
      cases vals with
      | nil => subst hv; exact hq.elim
      | cons y ys' =>
        subst hv
        refine assignInOrder_cons (t := assign (.Name x p) c.env) ?_
        refine Gen fun Gq9 back => ?_
        rcases putN_cell hq with ⟨a, hla, ⟨w, h0⟩, hq⟩
        refine back ?_
        clear back
        clear Gq9
        exact PyProof.Rows.assign_Name (storeC hsc ok b1 hcell R hla h0 rfl fun h' tk' gn' R' => ih _ _ _ _ _ _ _ _ _ rfl hq R' fun l2 hp2 h2 tk2 gn2 hq2 R2 => hP l2 hp2 h2 tk2 gn2 hq2 R2)
theorem ss_asgC (hF : F.cold = true) {ts es : List Expr} {k k' p p' pos} {is : List (Nat × Bool)} {ms : ME} (ht : tgtC? F ts = some is) (hs : swr F.sc ts es = some none) (hl : ts.length = es.length) (hsz : es.length ≤ 100) (hes : SEs F es ms) :
    SS F (.Assign [.Tuple ts k p] (.Tuple es k' p') pos) (.asgC is ms) := by
  intro c d FO hg hsc ok rm l hp Q X hev hcp fr s P E R hP hX
  refine Gen fun Gq9 back => ?_
  rcases tgtC?_assign (c := c) FO hsc ok hcp ht with ⟨⟨a1, a2, a3⟩, hasg⟩
  refine back ?_
  clear back
  clear Gq9
  have hkf : F.sc.kind = .function := hsc.1 ▸ ok.kind
  have hsw : ∀ t, swapsWithSole [t] (.Tuple es k' p') pos.line c.env = pure false := fun t => swaps_plain (e := .Tuple es k' p') rfl (some t) pos.line c.env
  refine Assign_Tuple ?_ (hsw _) (swr_spec hs (c.env_scope.trans hsc.1) hkf)
  refine Tuple_ (hes c d FO hg hsc ok rm l hp _ X hev p' fr s _ E R (fun vs vals h1 hh tk gn hq hx R1 => ?_) (hX l))
  have hlv : vs.length = is.length := by
    have : ∀ (is : List (Nat × Bool)) (vs : List V) (l : List V) (h : HP) (K : List V → HP → Prop), putN l is vs h K → vs.length = is.length := by
      intro is
      induction is with
      | nil => intro vs l h K hq; cases vs with
        | nil => rfl
        | cons _ _ => exact hq.elim
      | cons q is ih =>
        intro vs l h K hq
        obtain ⟨i, b⟩ := q
        cases vs with
        | nil => cases b <;> exact hq.elim
        | cons v vs =>
          cases b with
          | false => exact congrArg (· + 1) (ih vs _ h K hq)
          | true =>
            refine Gen fun Gq9 back => ?_
            rcases putN_cell hq with ⟨a, _, _, hq⟩
            refine back ?_
            clear back
            clear Gq9
            exact congrArg (· + 1) (ih vs _ _ K hq)
    exact this _ _ _ _ _ hq
  refine Gen fun Gq9 back => ?_
  rcases R1.parts with ⟨g, m, news, T, Fm, lo, H, N, D⟩
  refine back ?_
  clear back
  clear Gq9
  have hvl : vals.length = vs.length := by rw [← hx]; simp
  refine newTuple_N Fm N (fun h' F' N' => ?_) (by rw [sizeLine_eq]; (first | lia | omega))
  refine unpackN_ F' N' (t := hh.objs.size) (items := vals.toArray) ⟨_, (N' _ (.head _)).1, rfl, _, rfl⟩ (handled_none hsc hF) (by rw [a1, a2, ← hlv, ← hvl]; simp) a3 fun h2 F2 N2 => ?_
  exact hasg _ _ _ _ vs vals.toArray.toList _ _ _ (by simpa [rVs] using hx) hq (Rep.of T F2 lo H (fun p hp => N2 p (.tail _ hp)) D) fun l3 hp3 h3 tk3 gn3 hq3 R3 => hP .next .next _ _ h3 tk3 gn3 hq3 trivial R3
theorem ss_unpC (hF : F.cold = true) {ts : List Expr} {k p pos} {is : List (Nat × Bool)} {e : Expr} {m : ME} (ht : tgtC? F ts = some is) (hne : ∀ vs k' p', e ≠ .Tuple vs k' p') (hc : compE e = false)
    (he : SE F e m) : SS F (.Assign [.Tuple ts k p] e pos) (.unpC is m) := by
  intro c d FO hg hsc ok rm l hp Q X hev hcp fr s P E R hP hX
  refine Gen fun Gq9 back => ?_
  rcases tgtC?_assign (c := c) FO hsc ok hcp ht with ⟨⟨a1, a2, a3⟩, hasg⟩
  refine back ?_
  clear back
  clear Gq9
  have hsw : swapsWithSole [.Tuple ts k p] e pos.line c.env = pure false := swaps_plain hc (some (.Tuple ts k p)) pos.line c.env
  refine Assign_Tuple ?_ hsw (unp_none hne)
  refine he c d FO hg hsc ok rm l hp _ X hev fr s _ E R (fun v x h1 hh tk gn hq hx R1 => ?_) (hX l)
  cases v with
  | ref a =>
    cases absV_ref hx
    refine Gen fun Gq9 back => ?_
    rcases hq with ⟨vs, e1, hlv, hq⟩
    refine back ?_
    clear back
    clear Gq9
    obtain ⟨items, hi, hl⟩ := R1.items ok e1
    refine Gen fun Gq9 back => ?_
    rcases R1.parts with ⟨g, m', news, T, Fm, lo, H, N, D⟩
    refine back ?_
    clear back
    clear Gq9
    refine unpackLT Fm N (hl.imp (·.1) (·.1)) (handled_none hsc hF) (by rw [a1, a2, ← hlv, ← hi]; simp) a3 fun h2 F2 N2 => ?_
    exact hasg _ _ _ _ vs items.toList _ _ _ hi hq (Rep.of T F2 lo H N2 D) fun l3 hp3 h3 tk3 gn3 hq3 R3 => hP .next .next _ hp3 h3 tk3 gn3 hq3 trivial R3
  | _ => exact hq.elim
end
theorem eqI_at {A : Around} {s : Shared} {y x : Value} {b : Bool} (h : eqI (absV y) (absV x) = some b) : SeqAt.EqAt A s y x b := by
  cases y <;> cases x <;> (first | (injection h; done) | (injection h with h; subst h))
  · exact SeqAt.EqAt.same _
  · exact SeqAt.EqAt.none_int _ _
  · exact SeqAt.EqAt.int_none _ _
  · exact SeqAt.EqAt.int_int _ _ _ _
theorem inV_any {x : Value} : ∀ {items : List Value} {t : Bool}, inV (absV x) (items.map absV) = some t → (∀ y ∈ items, eqI (absV y) (absV x) = some ((eqI (absV y) (absV x)).getD false)) ∧ items.any (fun y => (eqI (absV y) (absV x)).getD false) = t
  | [], t, h => by
    injection h with h
    exact ⟨fun _ h => absurd h List.not_mem_nil, h⟩
  | y :: r, t, h => by
    refine Gen fun Gq9 back => ?_
    rcases orO_some (a := eqI (absV y) (absV x)) (b := inV (absV x) (r.map absV)) h with ⟨b, c, hb, hc, h⟩
    refine back ?_
    clear back
    clear Gq9
    · obtain ⟨i1, i2⟩ := inV_any hc
      refine ⟨fun z hz => ?_, ?_⟩
      · rcases List.mem_cons.mp hz with rfl | hz
        · rw [hb]; rfl
        · exact i1 z hz
      · rw [List.any_cons, i2, hb]; exact h
theorem inS {c : Cx} {names l hp X} {Q : Bool → HP → Prop} {v w : V} {x y : Value} (ok : c.Ok) (pos : Bool) (h : match w with | .ref r => ∃ vs t, itemsOf (hp r) = some vs ∧ inV v vs = some t ∧ Q (t == pos) hp | _ => False) (hx : absV x = v) (hy : absV y = w) :
    W (fun b val => val = .bool b) c names l (compareOp (if pos then .In else .NotIn) x y) hp Q X := by
  intro fr s P E R hP hX
  subst hx
  cases w with
  | ref r =>
    cases absV_ref hy
    refine Gen fun Gq9 back => ?_
    rcases h with ⟨vs, t, e1, e2, hq⟩
    refine back ?_
    clear back
    clear Gq9
    obtain ⟨items, hi, hl⟩ := R.items ok e1
    rw [← hi] at e2
    obtain ⟨a1, a2⟩ := inV_any e2
    have he : ∀ z, z ∈ items → SeqAt.EqAt c.A.in1 s z x ((eqI (absV z) (absV x)).getD false) := fun z hz => eqI_at (a1 z (by simpa using hz))
    have a3 : items.any (fun y => (eqI (absV y) (absV x)).getD false) = t := by rw [← a2]; simp
    cases pos with
    | true =>
      have fin : P (.bool (items.any fun y => (eqI (absV y) (absV x)).getD false)) s := by
        rw [a3]
        refine hP _ _ hp s.heap s.toks s.gens hq ?_ R
        simp
      rcases hl with ⟨hl, _⟩ | ⟨hl, _⟩
      · exact SeqAt.in_listAt _ hl he fin
      · exact SeqAt.in_tupleAt _ hl he fin
    | false =>
      have fin : P (.bool (!items.any fun y => (eqI (absV y) (absV x)).getD false)) s := by
        rw [a3]
        refine hP _ _ hp s.heap s.toks s.gens hq ?_ R
        cases t <;> rfl
      rcases hl with ⟨hl, _⟩ | ⟨hl, _⟩
      · exact SeqAt.notIn_listAt _ hl he fin
      · exact SeqAt.notIn_tupleAt _ hl he fin
  | _ => exact h.elim
section
variable {F : Fx}
theorem se_in {a b : Expr} {pos} {ma mb : ME} (hm : behindInMarks .In b = false) (ha : SE F a ma) (hb : SE F b mb) : SE F (.Compare a [.In] [b] pos) (.inl ma mb true) := by
  intro c d FO hg hsc ok rm l hp Q X hev fr s P E R hP hX
  refine wpAny_Compare1 (ha c d FO hg hsc ok rm l hp _ X hev fr s _ E R (fun v x h1 hh tk gn hq hx R1 => ?_) hX) hm
  refine hb c d FO hg hsc ok rm l h1 _ X hq fr _ _ E R1 (fun w y h2 hh2 tk2 gn2 hq2 hy R2 => ?_) hX
  refine inS (Q := fun t h => Q (.bool t) h) ok true hq2 hx hy fr _ _ E R2 (fun u z h3 hh3 tk3 gn3 hq3 hz R3 => ?_) hX
  exact hP _ _ h3 hh3 tk3 gn3 hq3 (by rw [hz]; rfl) R3
theorem se_nin {a b : Expr} {pos} {ma mb : ME} (hm : behindInMarks .NotIn b = false) (ha : SE F a ma) (hb : SE F b mb) : SE F (.Compare a [.NotIn] [b] pos) (.inl ma mb false) := by
  intro c d FO hg hsc ok rm l hp Q X hev fr s P E R hP hX
  refine wpAny_Compare1 (ha c d FO hg hsc ok rm l hp _ X hev fr s _ E R (fun v x h1 hh tk gn hq hx R1 => ?_) hX) hm
  refine hb c d FO hg hsc ok rm l h1 _ X hq fr _ _ E R1 (fun w y h2 hh2 tk2 gn2 hq2 hy R2 => ?_) hX
  refine inS (Q := fun t h => Q (.bool t) h) ok false hq2 hx hy fr _ _ E R2 (fun u z h3 hh3 tk3 gn3 hq3 hz R3 => ?_) hX
  exact hP _ _ h3 hh3 tk3 gn3 hq3 (by rw [hz]; rfl) R3
theorem inQ {g d ma mb l hp pos} {Q : Bool → HP → Prop} {X : XT} (h : evT g d (.tv (.inl ma mb pos)) l hp Q X) : ev g d ma l hp (fun v h1 => ev g d mb l h1 (fun w h2 => match w with
      | .ref r => ∃ vs t, itemsOf (h2 r) = some vs ∧ inV v vs = some t ∧ Q (t == pos) h2 | _ => False) X) X := by
  refine Eq.mp ?_ h
  show ev g d ma l hp _ X = _
  congr 1
theorem st_in {a b : Expr} {pos} {ma mb : ME} (hm : behindInMarks .In b = false) (ha : SE F a ma) (hb : SE F b mb) : ST F (.Compare a [.In] [b] pos) (.tv (.inl ma mb true)) := by
  intro c d FO hg hsc ok rm l hp Q X hev whole hw fr s P E R hP hX
  refine wpAny_isTrue_Compare1 (ha c d FO hg hsc ok rm l hp _ X (inQ hev) fr s _ E R (fun v x h1 hh tk gn hq hx R1 => ?_) hX) hm
  refine hb c d FO hg hsc ok rm l h1 _ X hq fr _ _ E R1 (fun w y h2 hh2 tk2 gn2 hq2 hy R2 => ?_) hX
  refine inS (Q := fun t h => Q t h) ok true hq2 hx hy fr _ _ E R2 (fun u z h3 hh3 tk3 gn3 hq3 hz R3 => ?_) hX
  subst hz
  exact wpAny_truthy_bool (hP _ _ h3 hh3 tk3 gn3 hq3 rfl R3)
theorem st_nin {a b : Expr} {pos} {ma mb : ME} (hm : behindInMarks .NotIn b = false) (ha : SE F a ma) (hb : SE F b mb) : ST F (.Compare a [.NotIn] [b] pos) (.tv (.inl ma mb false)) := by
  intro c d FO hg hsc ok rm l hp Q X hev whole hw fr s P E R hP hX
  refine wpAny_isTrue_Compare1 (ha c d FO hg hsc ok rm l hp _ X (inQ hev) fr s _ E R (fun v x h1 hh tk gn hq hx R1 => ?_) hX) hm
  refine hb c d FO hg hsc ok rm l h1 _ X hq fr _ _ E R1 (fun w y h2 hh2 tk2 gn2 hq2 hy R2 => ?_) hX
  refine inS (Q := fun t h => Q t h) ok false hq2 hx hy fr _ _ E R2 (fun u z h3 hh3 tk3 gn3 hq3 hz R3 => ?_) hX
  subst hz
  exact wpAny_truthy_bool (hP _ _ h3 hh3 tk3 gn3 hq3 rfl R3)
end
theorem Rep.grown {c : Cx} {names l hp fr h h' gn gn'} {P : Addr} {ps : Array Value} (R : Rep c names l hp fr h gn) (hP : hp P = some .tab) (hs : ∀ b ob, b ≠ P → h.get? b = some ob → h'.get? b = some ob)
    (ho : h'.get? P = some (tabObj ps)) (ht : TriplesOk ps.toList) (hb : AllBare gn') : Rep c names l hp fr h' gn' := by
  refine Gen fun Gq9 back => ?_
  rcases R with ⟨g, T, m, Fm, lo, H, N, D⟩
  refine back ?_
  clear back
  clear Gq9
  have hp0 := H.2 P _ hP
  refine Gen fun Gq9 back => ?_
  rcases hp0 with ⟨_, _, _, hL, hg⟩
  refine back ?_
  clear back
  clear Gq9
  refine ⟨g, ⟨T.toKtsTurn, hb⟩, m, ⟨Fm.ns.at' fun ob e => hs _ _ (Ne.symm hL) e, fun b ob e => hs b ob (fun q => by rw [q] at e; rw [show g.get? P = none from hg] at e; cases e) (Fm.keep b ob e), Fm.above⟩, lo, ⟨H.1, fun a x hx => ?_⟩, fun p hp' => ?_, D⟩
  · by_cases q : a = P
    · subst q
      rw [hP] at hx
      cases hx
      exact ⟨_, ho, ⟨ps, rfl, ht⟩, hL, hg⟩
    · have := H.2 a x hx
      cases x with
      | ro vs => exact this
      | list vs => obtain ⟨ob, h1, h2⟩ := this; exact ⟨ob, hs _ _ q h1, h2⟩
      | tup vs => obtain ⟨ob, h1, h2⟩ := this; exact ⟨ob, hs _ _ q h1, h2⟩
      | cell vs => obtain ⟨ob, h1, h2⟩ := this; exact ⟨ob, hs _ _ q h1, h2⟩
      | rng _ _ _ => obtain ⟨ob, h1, h2⟩ := this; exact ⟨ob, hs _ _ q h1, h2⟩
      | dict _ => obtain ⟨ob, h1, h2⟩ := this; exact ⟨ob, hs _ _ q h1, h2⟩
      | tab => obtain ⟨ob, h1, h2⟩ := this; exact ⟨ob, hs _ _ q h1, h2⟩
  · refine ⟨hs _ _ (fun q => ?_) (N p hp').1, (N p hp').2⟩
    have := D p hp'
    rw [q, hP] at this; cases this
section
variable {M : Model} {A : Around} {E : Value → Shared → Prop} {s : Shared}
theorem genexpTab {env : Env} {c P : Addr} {ps : Array Value} {pos : Pos} {qualname : Str} {scope : Scope} {Q : Value → Shared → Prop} (hc : env.code = .ref c) (C : CodeHd s.heap c P) (hP : s.heap.get? P = some (tabObj ps)) (ht : TriplesOk ps.toList)
    (hQ : ∀ code h' tk ps', Heap.ExtBut P s.heap h' → s.heap.objs.size ≤ h'.objs.size → h'.get? P = some (tabObj ps') → TriplesOk ps'.toList → Q code { s with heap := h', toks := tk }) :
    wpAny M A (genexprCode env pos qualname scope) Q E s := by
  cases hnf : codeAmong pos ps.toList with
  | none =>
    refine wpAny_genexprCodeX hc (C.code hP ht) (C.tab hP) hnf fun c' h₃ tk₃ hx₃ hge hlt hcode₃ _ htab₃ _ => ?_
    refine Gen fun Gq9 back => ?_
    rcases hcode₃ with ⟨_, _, _, _, _, _, _, _, _, op, _, _, _, _, _, _, _, hop, hpd, htr, _⟩
    refine back ?_
    clear back
    clear Gq9
    exact hQ _ h₃ _ _ hx₃ (Nat.le_trans hge (Nat.le_of_lt hlt)) htab₃.2 htr
  | some cv =>
    refine Gen fun Gq9 back => ?_
    rcases C.code hP ht with ⟨o, vs, file, tf, flags, tg, inF, text, tt, op, ho, hd, h11, h2, h7, h9, h10, hop, hpd, htr, hne⟩
    refine back ?_
    clear back
    clear Gq9
    unfold genexprCode codeAt
    rw [hc, if_neg (show ¬ ((Value.ref c == Value.none) = true) from Bool.false_ne_true)]
    refine wpAny_bind (wpAny_fieldsOf ho hd ?_)
    rw [h11]
    refine wpAny_bind (wpAny_fieldsOf hop hpd ?_)
    rw [hnf]
    exact wpAny_pure (hQ cv s.heap s.toks ps (Heap.ExtBut.refl _ _) (Nat.le_refl _) hP ht)
end
structure GenOk (F : Fx) (scope : Scope) (x xa xb xe : Str) (ia ib ie : Nat) : Prop where
  kind : scope.kind = .function
  cor : scope.isCoroutine = false
  cell : ∀ y ∈ scope.names, y.2 ≠ .cell
  dot : scope.names.lookup (".0" : Str) = some NameKind.local
  tgt : scope.names.lookup x = some .local
  fa : scope.names.lookup xa = some .free
  fb : scope.names.lookup xb = some .free
  fe : scope.names.lookup xe = some .free
  free : ∀ y ∈ scope.names, y.2 = .free → y.1 = xa ∨ y.1 = xb ∨ y.1 = xe
  na : F.names[ia]? = some xa
  nb : F.names[ib]? = some xb
  ne : F.names[ie]? = some xe
  da : (xa == ("__classdict__" : Str)) = false ∧ (xa == ("__debug__" : Str)) = false
  db : (xb == ("__classdict__" : Str)) = false ∧ (xb == ("__debug__" : Str)) = false
  de : (xe == ("__classdict__" : Str)) = false ∧ (xe == ("__debug__" : Str)) = false
  dx : (x == ("__debug__" : Str)) = false
  nd : ((scope.names.filter (·.2 == .free)).map (·.1)).Nodup
  mem : ∀ y, y = xa ∨ y = xb ∨ y = xe → y ∈ (scope.names.filter (·.2 == .free)).map (·.1)
theorem passing_all (n : Nat) : passing (fun _ => true) n 0 = List.range n := by
  simp [passing]
theorem Rep.cellList {c : Cx} {names l hp fr h gn} (ok : c.Ok) (R : Rep c names l hp fr h gn) {i : Nat} {x : Str} {xs : List Int} (hx : names[i]? = some x) (hc : cellL l hp i xs) :
    ∃ a r items, c.env.cells.lookup x = some a ∧ h.IsCell a (some (.ref r)) ∧ h.IsList r items ∧ items.toList.map absV = xs.map .int ∧ hp a ≠ some .tab ∧ hp r ≠ some .tab ∧ xs.length < 2 ^ 62 := by
  unfold cellL at hc
  cases e : lget l i with
  | cell a =>
    rw [e] at hc
    refine Gen fun Gq9 back => ?_
    rcases hc with ⟨r, h1, h2, h3⟩
    refine back ?_
    clear back
    clear Gq9
    have hcl := R.cellOf hx e
    obtain ⟨items, hi, hl⟩ := R.listI ok h2
    refine Gen fun Gq9 back => ?_
    rcases id R with ⟨g, T, m, Fm, lo, H, N, D⟩
    refine back ?_
    clear back
    clear Gq9
    refine Gen fun Gq9 back => ?_
    rcases H.2 a _ h1 with ⟨ob, ho, ⟨w, hd', hw⟩, _⟩
    refine back ?_
    clear back
    clear Gq9
    cases w with
    | none => cases hw
    | some val =>
      obtain ⟨_, hv⟩ := hw
      cases absV_ref hv
      refine ⟨a, r, items, hcl, ⟨ob, ho, hd'⟩, hl, hi, (fun q => by rw [h1] at q; cases q), (fun q => ?_), h3⟩
      rw [q] at h2; cases h2
  | _ => rw [e] at hc; exact hc.elim
theorem elt_int {items : Array Value} {xs : List Int} (h : items.toList.map absV = xs.map .int) {k : Nat} (hk : k < xs.length) : ∃ t, items[k]? = some (.int (xs.getD k 0) t) := by
  have hl : items.size = xs.length := by have := congrArg List.length h; simpa using this
  have h1 : (items.toList.map absV)[k]? = some (.int (xs.getD k 0)) := by rw [h, List.getElem?_map]; simp [hk, List.getD_eq_getElem?_getD]
  rw [List.getElem?_map] at h1
  cases e : items.toList[k]? with
  | none => rw [e] at h1; cases h1
  | some v =>
    rw [e] at h1
    obtain ⟨t, rfl⟩ := absV_int (Option.some.inj h1)
    exact ⟨t, by rw [← Array.getElem?_toList]; exact e⟩
section
variable {F : Fx}
theorem se_sumG (hF : F.cold = true) {xs xr x xa xb xe : Str} {ps' pr pc pn pa pb pe pe1 pe2 pe3 pna pnb pne pt1 pt2 pos pcall : Pos} {hi : Expr} {mhi : ME} {scope : Scope} {ia ib ie c0 P : Nat}
    (hxs : xs = "sum") (hbs : xs ∈ F.bt) (hks : F.sc.names.lookup xs = some .globalImplicit) (hxr : xr = "range") (hbr : xr ∈ F.bt) (hkr : F.sc.names.lookup xr = some .globalImplicit) (hn : notStar hi = true) (hhi : SE F hi mhi)
    (G : GenOk F scope x xa xb xe ia ib ie) (hgc : F.gc = some (c0, P)) (hcd : codeHdIn F.g.K c0 P = true) :
    SE F (.Call (.Name xs ps') [.GeneratorExp (.BinOp (.BinOp (.Subscript (.Name xa pa) (.Name x pna) pe1) .Mult (.Subscript (.Name xb pb) (.Name x pnb) pe2) pt1) .Mult (.Subscript (.Name xe pe) (.Name x pne) pe3) pt2)
      [⟨.Name x pn, .Call (.Name xr pr) [hi] [] pc, [], 0⟩] scope pos] [] pcall) (.sumG P mhi ia ib ie) := by
  intro c d FO hg hsc ok rm l hp Q X hev fr s PP E R hP hX
  subst hxs
  refine Call_ (nameB FO hg hsc ok hbs (v := .builtin "sum") (by decide +kernel) hks (by decide) (by decide) R ?_) rfl
  refine PyProof.Rows.callWith_builtin1 ?_ rfl rfl
  refine spliced_more ?_ rfl
  have hcold := handled_none hsc hF
  -- the code of the frame
  have hcode : c.env.code = .ref c0 := by
    have h1 := hsc.2.2.2.2.2 _ hgc
    unfold Cx.env
    cases c.cp with
    | none => exact h1
    | some k => exact h1
  obtain ⟨hcells, hev⟩ := hev
  have lka := R.cellOf G.na (cellsB_get hcells ia (.head _))
  have lkb := R.cellOf G.nb (cellsB_get hcells ib (.tail _ (.head _)))
  have lke := R.cellOf G.ne (cellsB_get hcells ie (.tail _ (.tail _ (.head _))))
  have hlook : ∀ y ∈ scope.names, y.2 = .free → c.env.cells.lookup y.1 = some ((fun z => (c.env.cells.lookup z).getD 0) y.1) := by
    intro y hy hf
    rcases G.free y hy hf with e | e | e <;> rw [e]
    · show _ = some ((c.env.cells.lookup xa).getD 0); rw [lka]; rfl
    · show _ = some ((c.env.cells.lookup xb).getD 0); rw [lkb]; rfl
    · show _ = some ((c.env.cells.lookup xe).getD 0); rw [lke]; rfl
  have hclos := closureFor_list (fun z => (c.env.cells.lookup z).getD 0) hlook
  generalize hcl : ((scope.names.filter (·.2 == .free)).map fun y => (y.1, (fun z => (c.env.cells.lookup z).getD 0) y.1)).reverse = cl at hclos
  have clk : ∀ y a, y = xa ∨ y = xb ∨ y = xe → c.env.cells.lookup y = some a → cl.lookup y = some a := by
    intro y a hy ha
    rw [← hcl, kcl_lookup (look := fun z => (c.env.cells.lookup z).getD 0) G.nd (G.mem y hy)]
    show some ((c.env.cells.lookup y).getD 0) = _
    rw [ha]; rfl
  refine wpAny_GeneratorExp_walksQ hcold G.cor hclos G.cell G.dot G.tgt G.kind (by have := rm.1; (first | lia | omega)) ?_ (fun y => folded_call (f := .Name xr pr) (as := [hi]) (ks := []) (pos := pc) (env := c.env) y)
  refine se_rangeArgs1 hxr hbr hkr hn hhi FO hg hsc ok rm hev R (fun lo n st hp1 h1 tk1 gn1 r t u v hq R1 hr => ?_) hX
  refine Gen fun Gq9 back => ?_
  rcases hq with ⟨hz25, hz26, hn0, hn62, hPt, as, bs, es, ca, cb, ce, la, lb, le, hmul, hq⟩
  refine back ?_
  clear back
  clear Gq9
  subst hz25
  subst hz26
  have hsm : Builtin.Range.small 0 n 1 = true := small_one (by decide) (by decide) (by (first | lia | omega)) hn62
  refine wpAny_pyIter_range hr hsm ?_
  refine Gen fun Gq9 back => ?_
  rcases R1.cellList ok G.na ca with ⟨aa, ra, ia', hla, hca, hlla, hia, hta, hta', fa62⟩
  refine back ?_
  clear back
  clear Gq9
  refine Gen fun Gq9 back => ?_
  rcases R1.cellList ok G.nb cb with ⟨ab, rb, ib', hlb, hcb, hllb, hib, htb, htb', fb62⟩
  refine back ?_
  clear back
  clear Gq9
  refine Gen fun Gq9 back => ?_
  rcases R1.cellList ok G.ne ce with ⟨ae, re, ie', hle, hce, hlle, hie, hte, hte', fe62⟩
  refine back ?_
  clear back
  clear Gq9
  have hKh := codeHd_of_K (R1.inK ok) (by rw [hg]; exact hcd : codeHdIn c.g.K c0 P = true)
  refine Gen fun Gq9 back => ?_
  rcases id R1 with ⟨g, T, m, Fm, lo, H, N, D⟩
  refine back ?_
  clear back
  clear Gq9
  refine Gen fun Gq9 back => ?_
  rcases H.2 P _ hPt with ⟨ob, hPob, ⟨psA, hz27, htA⟩, hPL, hPg⟩
  refine back ?_
  clear back
  clear Gq9
  subst hz27
  have hPlt : P < h1.objs.size := Heap.lt_size hPob
  have keep1 := R1.keep ok
  have hbP : ∀ b o, c.base.get? b = some o → b ≠ P := fun b o e q => by
    have := (ok.turn T).below.stays b o e
    rw [q] at this; rw [show g.get? P = none from hPg] at this; cases this
  have hcS : cStatics < h1.objs.size := let ⟨_, hn', _⟩ := ok.top.nolimit.keeps keep1; hn'.lt
  have pu : ∀ {b : Addr} {o : Obj} (oi : Obj), h1.get? b = some o → (h1.push oi).get? b = some o := fun oi e => Heap.get?_push_of_some oi e
  generalize hoi : ({ cls := Value.type "range_iterator", data := Data.fields #[rawInt 0, rawInt (Builtin.Range.rangeSize 0 n 1), rawInt 1] } : Obj) = oi
  refine ⟨(ok.top.nolimit.keeps keep1).push _, genexpTab hcode (hKh.keeps fun b o e => pu oi e) (pu oi hPob) htA fun code h3 tk3 ps3 hx3 hge hP3 ht3 => ?_⟩
  have hsz1 : (h1.push oi).objs.size = h1.objs.size + 1 := Heap.size_push ..
  have hge' : h1.objs.size + 1 ≤ h3.objs.size := by
    have : (h1.push oi).objs.size ≤ h3.objs.size := hge
    (first | lia | omega)
  have base3 : ∀ b o, c.base.get? b = some o → h3.get? b = some o := fun b o e => hx3 b o (hbP b o e) (pu oi (keep1 b o e))
  have T3 := ok.top.keeps base3
  refine Gen fun Gq9 back => ?_
  rcases T3.bmain with ⟨bm, obm, b1, b2, b3, b4, b5, b6⟩
  refine back ?_
  clear back
  clear Gq9
  refine wpAny_builtinsFor (m := c.g.mg) (by rw [c.env_globals]; exact T3.g) b1 b2 b3 b4 b5 b6 ?_
  have hrn : Builtin.Range.rangeSize 0 n 1 = ((n.toNat : Nat) : Int) := by rw [rangeSize_one]; split <;> (first | lia | omega)
  have hI : h3.get? h1.objs.size = some oi := hx3 _ _ (Nat.ne_of_gt hPlt) (Heap.get?_push_size _ (by rw [← hoi]; rfl))
  refine ⟨h1.objs.size, [h1.objs.size], [h1.objs.size], n.toNat, _, _, fun _ => true, fun k y => ∃ t, y = .int (as.getD k 0 * bs.getD k 0 * es.getD k 0) t, rfl, fun A' hA => (Walks.range hA _ 0 1 n.toNat).bound, ?_, ?_, T3.nolimit, ?_, fun href hhref => ⟨?_, ?_⟩, fun a h5 tk gs hgb hag hsz5 hk5 W hat => ?_⟩
  · show IsRangeIter _ _ _ _ _
    unfold IsRangeIter
    rw [hI, ← hoi, hrn]
    simp
  · intro b hb
    rcases List.mem_cons.mp hb with rfl | hb
    · exact Nat.lt_of_succ_le hge'
    · cases hb
  · intro hb
    rcases List.mem_cons.mp hb with e | hb
    · exact absurd hcS (by rw [e]; exact Nat.lt_irrefl _)
    · cases hb
  · intro A' E' k v t m₂ hA hPi hns hm hkp
    exact wpAny_pure ⟨rfl, t.heap, t.toks, rfl, fun _ _ e => e⟩
  · intro A' E' k v t m₂ hA hPi _ hns hm hkp
    obtain ⟨hk, tv, rfl⟩ := hPi
    have keepT : ∀ b o, b ≠ P → h1.get? b = some o → t.heap.get? b = some o := fun b o hb e => hkp b (List.mem_range.mpr (Nat.lt_of_lt_of_le (Heap.lt_size e) (Nat.le_of_succ_le hge'))) (fun hm => by
      rcases List.mem_cons.mp hm with q | q
      · exact absurd (Heap.lt_size e) (by rw [q]; exact Nat.lt_irrefl _)
      · cases q) o (hhref b o (hx3 b o hb (pu oi e)))
    have sub : ∀ (y : Str) (py pz pw : Pos) (ay ry : Addr) (items : Array Value) (ys : List Int) (t' : Shared) (Q' : Value → Shared → Prop) (E'' : Value → Shared → Prop), t'.heap = t.heap → scope.names.lookup y = some .free →
        (y == ("__classdict__" : Str)) = false → (y == ("__debug__" : Str)) = false → cl.lookup y = some ay → h1.IsCell ay (some (.ref ry)) → h1.IsList ry items → hp1 ay ≠ some .tab → hp1 ry ≠ some .tab → items.toList.map absV = ys.map .int → k < ys.length → ys.length < 2 ^ 62 →
        (∀ w, Q' (.int (ys.getD k 0) w) t') → wpAny (model c.g.prog c.g.w) A' (eval (.Subscript (.Name y py) (.Name x pz) pw) (genEnv scope cl h3.objs.size code builtinsNs c.env)) Q' E'' t' := by
      intro y py pz pw ay ry items ys t' Q' E'' ht' hfr hcd' hdb hlk hcell hlist hn1 hn2 habs hky h62 hQ'
      have nP : ∀ b, hp1 b ≠ some .tab → b ≠ P := fun b hb e => hb (by rw [e]; exact hPt)
      obtain ⟨oc, hoc, hod⟩ := hcell
      refine Subscript_ (wpAny_Name (wpAny_loadName_free (c := ay) (v := .ref ry) G.kind hfr hlk ⟨oc, by rw [ht']; exact keepT _ _ (nP _ hn1) hoc, hod⟩ ?_ hcd') hdb)
      refine wpAny_Name (wpAny_loadName_local G.kind G.tgt (by rw [ht']; exact hns) hm ?_) G.dx
      have hl' : t'.heap.IsList ry items := hlist.at fun o e => by rw [ht']; exact keepT _ _ (nP _ hn2) e
      obtain ⟨w, hw⟩ := elt_int habs hky
      refine tail_any hl'.typeIs slot_list_getitem.lookup ?_ (sub_plain rfl _ _)
      refine wpAny_getItem_list hl' (by (first | lia | omega)) (by (first | lia | omega)) (x := .int (ys.getD k 0) w) ?_ (hQ' w)
      rw [show (0 + (k : Int) * 1).toNat = k by (first | lia | omega)]; exact hw
    have hka : k < as.length := by (first | lia | omega)
    have hkb : k < bs.length := by (first | lia | omega)
    have hke : k < es.length := by (first | lia | omega)
    obtain ⟨m1, m2⟩ := hmul k hk
    refine wpAny_BinOp (wpAny_BinOp (sub xa _ _ _ aa ra ia' as t _ _ rfl G.fa G.da.1 G.da.2 (clk _ _ (.inl rfl) hla) hca hlla hta hta' hia hka fa62 fun w1 => ?_))
    refine sub xb _ _ _ ab rb ib' bs t _ _ rfl G.fb G.db.1 G.db.2 (clk _ _ (.inr (.inl rfl)) hlb) hcb hllb htb htb' hib hkb fb62 fun w2 => ?_
    refine PyProof.Rows.mul_int ?_ m1
    refine sub xe _ _ _ ae re ie' es _ _ _ rfl G.fe G.de.1 G.de.2 (clk _ _ (.inr (.inr rfl)) hle) hce hlle hte hte' hie hke fe62 fun w3 => ?_
    exact PyProof.Rows.mul_int ⟨⟨_, rfl⟩, _, _, rfl, fun _ _ e => e⟩ m2
  · refine spliced_none ?_
    have W' := W.in4_1
    rw [passing_all, List.length_range] at W'
    refine call_sum_walkAnyS (W'.self 0 _ _ _ hat ⟨a, _, _, _, _, _, _, fun k => as.getD k 0 * bs.getD k 0 * es.getD k 0, rfl, W', hat, ?_, ?_, fun s' t' hm => ?_⟩)
    · intro b hb
      show b < h5.objs.size
      rw [hsz5]
      rcases List.mem_cons.mp hb with rfl | hb
      · exact Nat.lt_succ_self _
      · rcases List.mem_cons.mp hb with rfl | hb
        · exact Nat.lt_succ_of_lt hag
        · exact Nat.lt_succ_of_lt (Nat.lt_trans (List.mem_range.mp hb) hag)
    · intro j y qz28
      refine Gen fun Gq9 back => ?_
      rcases qz28 with ⟨i, hij, w, hz29⟩
      refine back ?_
      clear back
      clear Gq9
      subst hz29
      have hji : i = j := by
        by_cases h : j < n.toNat
        · rw [List.getElem?_range h] at hij; exact (Option.some.inj hij).symm
        · rw [List.getElem?_eq_none (by simpa using Nat.le_of_not_lt h)] at hij; cases hij
      subst hji
      exact ⟨w, rfl⟩
    · have hP5 : h5.get? P = some (tabObj ps3) := hk5 P _ hP3
      have notw : ∀ b, b < h1.objs.size → b ∉ [h3.objs.size, h1.objs.size] := fun b hb hm => by
        rcases List.mem_cons.mp hm with q | q
        · exact absurd (Nat.lt_of_lt_of_le hb (Nat.le_of_succ_le hge')) (by rw [q]; exact Nat.lt_irrefl _)
        · rcases List.mem_cons.mp q with q | q
          · exact absurd hb (by rw [q]; exact Nat.lt_irrefl _)
          · cases q
      have R' : Rep c F.names l hp1 fr s'.heap s'.gens := R1.grown hPt (fun b o hb e => hm.heap b o (notw b (Heap.lt_size e)) (hk5 b o (hx3 b o hb (pu oi e)))) (hm.heap P _ (notw P hPlt) hP5) ht3 (AllBare.moved (T.bare.push hgb) hm.gens)
      have e1 := hm.drawn
      have e2 := hm.os
      refine Gen fun Gq9 back => ?_
      rcases s' with ⟨sh, sg, sd, st, so⟩
      refine back ?_
      clear back
      clear Gq9
      cases e1; cases e2
      exact hP _ _ hp1 sh st sg hq rfl R'
end
/-! the sorting tree with answers from a number f at every place -/
noncomputable def AskF (n : Nat) (f : Nat → Int) (cmp : Nat → Nat → (Bool → Shared → Prop) → Shared → Prop) (s : Shared) : Prop := ∀ i j (C : Bool → Shared → Prop), i < n → j < n → C (decide (f i < f j)) s → cmp i j C s
structure Arr (n : Nat) (p : Array Nat) : Prop where
  sz : p.size = n
  perm : p.toList.Perm (List.range n)
  n0 : 0 < n
noncomputable abbrev gv (f : Nat → Int) (p : Array Nat) (k : Nat) : Int := f (p.getD k 0)
theorem Arr.lt {n : Nat} {p : Array Nat} (a : Arr n p) (k : Nat) : p.getD k 0 < n := by
  rcases Nat.lt_or_ge k p.size with q | q
  · have : p.getD k 0 = p[k] := by simp [Array.getD, q]
    rw [this]
    exact List.mem_range.mp (a.perm.mem_iff.mp (Array.getElem_mem_toList q))
  · have : p.getD k 0 = 0 := by simp [Array.getD, Nat.not_lt.mpr q]
    rw [this]; exact a.n0
theorem getD_of {p q : Array Nat} {i j : Nat} (h : p[i]? = q[j]?) : p.getD i 0 = q.getD j 0 := by
  rw [Array.getD_eq_getD_getElem?, Array.getD_eq_getD_getElem?, h]
theorem Arr.rev {n i j : Nat} {p : Array Nat} (a : Arr n p) : Arr n (kas_rev p i j) :=
  ⟨(mirror_size _ _ _ _).trans a.sz, (mirror_perm p i j _).toList.trans a.perm, a.n0⟩
theorem Arr.bub {n i j : Nat} {p : Array Nat} (a : Arr n p) : Arr n (bubble p i j) :=
  ⟨(bubble_size _ _ _).trans a.sz, (bubble_perm p i j).toList.trans a.perm, a.n0⟩
theorem rev_getD {p : Array Nat} {i j : Nat} (hj : j ≤ p.size) (k : Nat) : (kas_rev p i j).getD k 0 = if i ≤ k ∧ k < j then p.getD (i + j - 1 - k) 0 else p.getD k 0 := by
  have e := getElem?_mirror_all (i := i) hj k
  by_cases h : i ≤ k ∧ k < j
  · rw [if_pos h] at e ⊢; exact getD_of e
  · rw [if_neg h] at e ⊢; exact getD_of e
theorem bub_getD {p : Array Nat} {k l : Nat} (hk : k < p.size) (hl : l ≤ k) (i : Nat) : (bubble p k (k - l)).getD i 0 = if i = l then p.getD k 0 else if l < i ∧ i ≤ k then p.getD (i - 1) 0 else p.getD i 0 := by
  have e := getElem?_bubble hk (k - l) (Nat.sub_le _ _) i
  rw [show k - (k - l) = l by (first | lia | omega)] at e
  by_cases h : i = l
  · rw [if_pos h] at e ⊢; exact getD_of e
  · rw [if_neg h] at e ⊢
    by_cases h2 : l < i ∧ i ≤ k
    · rw [if_pos h2] at e ⊢; exact getD_of e
    · rw [if_neg h2] at e ⊢; exact getD_of e
theorem rev_same {f : Nat → Int} {p : Array Nat} {i j : Nat} {c : Int} (hj : j ≤ p.size) (he : ∀ k, i ≤ k → k < j → gv f p k = c) (k : Nat) : gv f (kas_rev p i j) k = gv f p k := by
  unfold gv
  rw [rev_getD hj]
  split
  · rename_i h
    exact (he (i + j - 1 - k) (by (first | lia | omega)) (by (first | lia | omega))).trans (he k h.1 h.2).symm
  · rfl
section
variable {n : Nat} {f : Nat → Int} {cmp : Nat → Nat → (Bool → Shared → Prop) → Shared → Prop} {s : Shared}
theorem asc_wp (hc : AskF n f cmp s) {p : Array Nat} (a : Arr n p) {Q : Nat → Shared → Prop} : ∀ (fu m0 : Nat),
    (∀ m, m0 ≤ m → m ≤ m0 + fu → (∀ k, m0 ≤ k → k < m → gv f p (k - 1) ≤ gv f p k) → (m < m0 + fu → gv f p m < gv f p (m - 1)) → Q m s) → (kas_asc p fu m0).kasWp cmp Q s
  | 0, m0, h => h m0 (Nat.le_refl _) (Nat.le_refl _) (fun k h1 h2 => absurd h1 (Nat.not_le.mpr h2)) fun q => absurd q (Nat.lt_irrefl _)
  | fu + 1, m0, h => by
    refine hc _ _ _ (a.lt _) (a.lt _) ?_
    by_cases hlt : f (p.getD m0 0) < f (p.getD (m0 - 1) 0)
    · rw [decide_eq_true hlt]
      exact h m0 (Nat.le_refl _) (Nat.le_add_right _ _) (fun k h1 h2 => absurd h1 (Nat.not_le.mpr h2)) fun _ => hlt
    · rw [decide_eq_false hlt]
      refine asc_wp hc a fu (m0 + 1) fun m h1 h2 h3 h4 => h m (by (first | lia | omega)) (by (first | lia | omega)) (fun k k1 k2 => ?_) fun q => h4 (by (first | lia | omega))
      by_cases e : k = m0
      · subst e; exact Int.not_lt.mp hlt
      · exact h3 k (by (first | lia | omega)) k2
structure Desc (n : Nat) (f : Nat → Int) (p : Array Nat) (m q : Nat) : Prop where
  a : Arr n p
  q1 : q + 1 ≤ m
  mn : m ≤ n
  fall : ∀ k, 1 ≤ k → k < m → gv f p k ≤ gv f p (k - 1)
  eq : ∀ k, m - (q + 1) ≤ k → k < m → gv f p k = gv f p (m - 1)
theorem Desc.rev {p : Array Nat} {m q : Nat} (d : Desc n f p m q) : Desc n f (kas_rev p (m - (q + 1)) m) m q := by
  have e := rev_same (f := f) (i := m - (q + 1)) (show m ≤ p.size by rw [d.a.sz]; exact d.mn) d.eq
  exact ⟨d.a.rev, d.q1, d.mn, fun k h1 h2 => by rw [e, e]; exact d.fall k h1 h2, fun k h1 h2 => by rw [e, e]; exact d.eq k h1 h2⟩
theorem Desc.less {p : Array Nat} {m q : Nat} (d : Desc n f p m q) (hm : m < n) (h : gv f p m < gv f p (m - 1)) : Desc n f p (m + 1) 0 := by
  refine ⟨d.a, by (first | lia | omega), hm, fun k h1 h2 => ?_, fun k h1 h2 => ?_⟩
  · by_cases e : k = m
    · subst e; exact Int.le_of_lt h
    · exact d.fall k h1 (by (first | lia | omega))
  · rw [show k = m + 1 - 1 by (first | lia | omega)]
theorem Desc.same {p : Array Nat} {m q : Nat} (d : Desc n f p m q) (hm : m < n) (h : gv f p m = gv f p (m - 1)) : Desc n f p (m + 1) (q + 1) := by
  refine ⟨d.a, by have := d.q1; (first | lia | omega), hm, fun k h1 h2 => ?_, fun k h1 h2 => ?_⟩
  · by_cases e : k = m
    · subst e; exact Int.le_of_eq h
    · exact d.fall k h1 (by (first | lia | omega))
  · rw [show m + 1 - 1 = m by (first | lia | omega)]
    by_cases e : k = m
    · rw [e]
    · rw [h]; exact d.eq k (by (first | lia | omega)) (by (first | lia | omega))
theorem desc_wp (hc : AskF n f cmp s) {Q : Array Nat × Nat × Nat → Shared → Prop} : ∀ (fu : Nat) (p : Array Nat) (m q : Nat), Desc n f p m q → m + fu ≤ n →
    (∀ p' m' q', Desc n f p' m' q' → m ≤ m' → Q (p', m', q') s) → (kas_desc fu p m q).kasWp cmp Q s
  | 0, p, m, q, d, hf, h => h p m q d (Nat.le_refl _)
  | fu + 1, p, m, q, d, hf, h => by
    refine hc _ _ _ (d.a.lt _) (d.a.lt _) ?_
    by_cases hlt : f (p.getD m 0) < f (p.getD (m - 1) 0)
    · rw [decide_eq_true hlt]
      show KasT.kasWp cmp (if true = true then _ else _) Q s
      rw [if_pos rfl]
      by_cases hq : q > 0
      · rw [if_pos hq]
        have e := rev_same (f := f) (i := m - (q + 1)) (show m ≤ p.size by rw [d.a.sz]; exact d.mn) d.eq
        exact desc_wp hc fu _ _ _ (d.rev.less (by (first | lia | omega)) (by rw [e, e]; exact hlt)) (by (first | lia | omega)) fun p' m' q' d' hm => h p' m' q' d' (by (first | lia | omega))
      · rw [if_neg hq]
        exact desc_wp hc fu _ _ _ (d.less (by (first | lia | omega)) hlt) (by (first | lia | omega)) fun p' m' q' d' hm => h p' m' q' d' (by (first | lia | omega))
    · rw [decide_eq_false hlt]
      show KasT.kasWp cmp (if false = true then _ else _) Q s
      rw [if_neg Bool.false_ne_true]
      refine hc _ _ _ (d.a.lt _) (d.a.lt _) ?_
      by_cases hlt2 : f (p.getD (m - 1) 0) < f (p.getD m 0)
      · rw [decide_eq_true hlt2]
        show KasT.kasWp cmp (if true = true then _ else _) Q s
        rw [if_pos rfl]
        exact h p m q d (Nat.le_refl _)
      · rw [decide_eq_false hlt2]
        show KasT.kasWp cmp (if false = true then _ else _) Q s
        rw [if_neg Bool.false_ne_true]
        exact desc_wp hc fu _ _ _ (d.same (by (first | lia | omega)) (Int.le_antisymm (Int.not_lt.mp hlt2) (Int.not_lt.mp hlt))) (by (first | lia | omega)) fun p' m' q' d' hm => h p' m' q' d' (by (first | lia | omega))
structure Rise (n : Nat) (f : Nat → Int) (p : Array Nat) (m : Nat) : Prop where
  a : Arr n p
  m1 : 1 ≤ m
  mn : m ≤ n
  up : ∀ k, 1 ≤ k → k < m → gv f p (k - 1) ≤ gv f p k
theorem Rise.mono {p : Array Nat} {m : Nat} (r : Rise n f p m) : ∀ {i j : Nat}, i ≤ j → j < m → gv f p i ≤ gv f p j
  | i, j, h1, h2 => by
    induction j with
    | zero => rw [Nat.le_zero.mp h1]; exact Int.le_refl _
    | succ j ih =>
      by_cases e : i = j + 1
      · rw [e]; exact Int.le_refl _
      · exact Int.le_trans (ih (by (first | lia | omega)) (by (first | lia | omega))) (r.up (j + 1) (by (first | lia | omega)) h2)
theorem tail3_wp (hc : AskF n f cmp s) {Q : Nat × Array Nat → Shared → Prop} {p : Array Nat} {m q : Nat} (d : Desc n f p m q) (h : ∀ m' p', Rise n f p' m' → Q (m', p') s) : (kas_tail3 m n p).kasWp cmp Q s := by
  have hmn := d.mn
  have hm1 := d.q1
  unfold kas_tail3
  rw [KasT.kasWp_bind]
  refine asc_wp hc d.a.rev (n - m) m fun m' h1 h2 h3 _ => h m' _ ⟨d.a.rev, by (first | lia | omega), by (first | lia | omega), fun k k1 k2 => ?_⟩
  by_cases e : k < m
  · unfold gv
    rw [rev_getD (by rw [d.a.sz]; exact hmn), rev_getD (by rw [d.a.sz]; exact hmn), if_pos ⟨Nat.zero_le _, by (first | lia | omega)⟩, if_pos ⟨Nat.zero_le _, e⟩]
    have := d.fall (m - k) (by (first | lia | omega)) (by (first | lia | omega))
    rw [show 0 + m - 1 - (k - 1) = m - k by (first | lia | omega), show 0 + m - 1 - k = m - k - 1 by (first | lia | omega)]
    exact this
  · exact h3 k (by (first | lia | omega)) k2
theorem descPart_wp (hc : AskF n f cmp s) {Q : Nat × Array Nat → Shared → Prop} {p : Array Nat} {m : Nat} (d : Desc n f p (m + 1) 0) (h : ∀ m' p', Rise n f p' m' → Q (m', p') s) : (kas_descPart m n p).kasWp cmp Q s := by
  unfold kas_descPart
  rw [KasT.kasWp_bind]
  refine desc_wp hc _ _ _ _ d (by have := d.mn; (first | lia | omega)) fun p' m' q' d' _ => ?_
  show KasT.kasWp cmp (if q' > 0 then kas_tail3 m' n (kas_rev p' (m' - (q' + 1)) m') else kas_tail3 m' n p') Q s
  by_cases hq : q' > 0
  · rw [if_pos hq]; exact tail3_wp hc d'.rev h
  · rw [if_neg hq]; exact tail3_wp hc d' h
theorem count_wp (hc : AskF n f cmp s) {Q : Nat × Array Nat → Shared → Prop} {p : Array Nat} (a : Arr n p) (h : ∀ m' p', Rise n f p' m' → Q (m', p') s) : (kas_count n p).kasWp cmp Q s := by
  have hn := a.n0
  unfold kas_count
  rw [KasT.kasWp_bind]
  refine asc_wp hc a (n - 1) 1 fun m h1 h2 h3 h4 => ?_
  have R : Rise n f p m := ⟨a, h1, by (first | lia | omega), h3⟩
  by_cases e : m = n
  · subst e
    show KasT.kasWp cmp (if (m == m) = true then _ else _) Q s
    rw [if_pos (beq_self_eq_true m)]
    exact h m p R
  · show KasT.kasWp cmp (if (m == n) = true then _ else _) Q s
    rw [if_neg (by simpa using e)]
    have hlt := h4 (by (first | lia | omega))
    by_cases h5 : m > 1
    · rw [if_pos h5]
      refine hc _ _ _ (a.lt _) (a.lt _) ?_
      by_cases hq : f (p.getD 0 0) < f (p.getD (m - 1) 0)
      · rw [decide_eq_true hq]; show KasT.kasWp cmp (if true = true then _ else _) Q s; rw [if_pos rfl]; exact h m p R
      · rw [decide_eq_false hq]
        show KasT.kasWp cmp (if false = true then _ else _) Q s
        rw [if_neg Bool.false_ne_true]
        have hall : ∀ k, 0 ≤ k → k < m → gv f p k = gv f p (m - 1) := fun k _ hk => Int.le_antisymm (R.mono (by (first | lia | omega)) (by (first | lia | omega))) (Int.le_trans (Int.not_lt.mp hq) (R.mono (Nat.zero_le _) hk))
        have e2 := rev_same (f := f) (i := 0) (show m ≤ p.size by rw [a.sz]; (first | lia | omega)) hall
        refine descPart_wp hc (Desc.less (q := 0) ⟨a.rev, by (first | lia | omega), by (first | lia | omega), fun k k1 k2 => ?_, fun k k1 k2 => ?_⟩ (by (first | lia | omega)) (by rw [e2, e2]; exact hlt)) h
        · rw [e2, e2, hall k (by (first | lia | omega)) k2, hall (k - 1) (by (first | lia | omega)) (by (first | lia | omega))]; exact Int.le_refl _
        · rw [show k = m - 1 by (first | lia | omega)]
    · rw [if_neg h5]
      refine descPart_wp hc (Desc.less (q := 0) ⟨a, by (first | lia | omega), by (first | lia | omega), fun k k1 k2 => absurd k1 (by (first | lia | omega)), fun k k1 k2 => ?_⟩ (by (first | lia | omega)) hlt) h
      rw [show k = m - 1 by (first | lia | omega)]
theorem place_wp (hc : AskF n f cmp s) {Q : Nat → Shared → Prop} {p : Array Nat} {k : Nat} (R : Rise n f p k) : ∀ (fu l r : Nat), l ≤ r → r ≤ k → r - l ≤ fu → (∀ i, i < l → gv f p i ≤ gv f p k) → (∀ i, r ≤ i → i < k → gv f p k < gv f p i) →
    (∀ l', l' ≤ k → (∀ i, i < l' → gv f p i ≤ gv f p k) → (∀ i, l' ≤ i → i < k → gv f p k < gv f p i) → Q l' s) → (kas_place p k fu l r).kasWp cmp Q s
  | 0, l, r, h1, h2, h3, h4, h5, h => h l (by (first | lia | omega)) h4 fun i i1 i2 => h5 i (by (first | lia | omega)) i2
  | fu + 1, l, r, h1, h2, h3, h4, h5, h => by
    show KasT.kasWp cmp (if l ≥ r then _ else _) Q s
    by_cases e : l ≥ r
    · rw [if_pos e]; exact h l (by (first | lia | omega)) h4 fun i i1 i2 => h5 i (by (first | lia | omega)) i2
    · rw [if_neg e]
      refine hc _ _ _ (R.a.lt _) (R.a.lt _) ?_
      by_cases hq : f (p.getD k 0) < f (p.getD ((l + r) / 2) 0)
      · rw [decide_eq_true hq]
        show KasT.kasWp cmp (if true = true then _ else _) Q s
        rw [if_pos rfl]
        exact place_wp hc R fu _ _ (by (first | lia | omega)) (by (first | lia | omega)) (by (first | lia | omega)) h4 (fun i i1 i2 => Int.lt_of_lt_of_le hq (R.mono i1 i2)) h
      · rw [decide_eq_false hq]
        show KasT.kasWp cmp (if false = true then _ else _) Q s
        rw [if_neg Bool.false_ne_true]
        exact place_wp hc R fu _ _ (by (first | lia | omega)) (by (first | lia | omega)) (by (first | lia | omega)) (fun i i1 => Int.le_trans (R.mono (by (first | lia | omega)) (by (first | lia | omega))) (Int.not_lt.mp hq)) h5 h
theorem bin_wp (hc : AskF n f cmp s) {Q : Array Nat → Shared → Prop} : ∀ (fu : Nat) (p : Array Nat) (k : Nat), Rise n f p k → k + fu = n → (∀ p', Rise n f p' n → Q p' s) → (kas_bin fu p k).kasWp cmp Q s
  | 0, p, k, R, hk, h => by cases hk; exact h p R
  | fu + 1, p, k, R, hk, h => by
    show KasT.kasWp cmp ((kas_place p k k 0 k).bind fun l => kas_bin fu (bubble p k (k - l)) (k + 1)) Q s
    rw [KasT.kasWp_bind]
    refine place_wp hc R k 0 k (Nat.zero_le _) (Nat.le_refl _) (Nat.sub_le _ _) (fun i hi => absurd hi (Nat.not_lt_zero _)) (fun i i1 i2 => absurd i1 (Nat.not_le.mpr i2)) fun l hl g1 g2 => ?_
    have hsz : k < p.size := by rw [R.a.sz]; (first | lia | omega)
    refine bin_wp hc fu _ _ ⟨R.a.bub, by (first | lia | omega), by (first | lia | omega), fun i i1 i2 => ?_⟩ (by (first | lia | omega)) h
    unfold gv
    rw [bub_getD hsz hl, bub_getD hsz hl]
    by_cases q1 : i < l
    · rw [if_neg (by (first | lia | omega)), if_neg (by (first | lia | omega)), if_neg (by (first | lia | omega)), if_neg (by (first | lia | omega))]
      exact R.up i i1 (by (first | lia | omega))
    · by_cases q2 : i = l
      · rw [if_neg (by (first | lia | omega)), if_neg (by (first | lia | omega)), if_pos q2]
        exact g1 (i - 1) (by (first | lia | omega))
      · by_cases q3 : i - 1 = l
        · rw [if_pos q3, if_neg (show ¬ i = l from q2), if_pos ⟨by (first | lia | omega), by (first | lia | omega)⟩]
          exact Int.le_of_lt (g2 (i - 1) (by (first | lia | omega)) (by (first | lia | omega)))
        · rw [if_neg q3, if_pos ⟨by (first | lia | omega), by (first | lia | omega)⟩, if_neg (show ¬ i = l from q2), if_pos ⟨by (first | lia | omega), by (first | lia | omega)⟩]
          exact R.up (i - 1) (by (first | lia | omega)) (by (first | lia | omega))
theorem sort_wp (hc : AskF n f cmp s) (hn : 0 < n) {Q : Array Nat → Shared → Prop} (h : ∀ p, Rise n f p n → Q p s) : (kas_sort n).kasWp cmp Q s := by
  unfold kas_sort
  rw [KasT.kasWp_bind]
  refine count_wp hc ⟨by simp, by simp, hn⟩ fun m p R => ?_
  have := R.m1
  have := R.mn
  show KasT.kasWp cmp (if m < n then kas_bin (n - max m 1) p (max m 1) else .ret p) Q s
  by_cases e : m < n
  · rw [if_pos e]
    rw [show max m 1 = m by (first | lia | omega)]
    exact bin_wp hc _ _ _ R (by (first | lia | omega)) h
  · rw [if_neg e]
    have : m = n := by (first | lia | omega)
    subst this
    exact h p R
end
/-! a list of pairs of ints -/
noncomputable abbrev PR := Addr × Int × Int
noncomputable def keyP (q : PR) : Int := q.2.1 * 1000 + q.2.2
noncomputable def pRef (q : PR) : Value := .ref q.1
noncomputable def PairO (q : PR) (o : Obj) : Prop := ∃ t u n, o = { cls := .type "tuple", data := .seq #[.int q.2.1 t, .int q.2.2 u] n }
theorem getD_map {rs : List PR} {i : Nat} (h : i < rs.length) : (rs.map pRef).getD i Value.none = .ref (rs.getD i (0, 0, 0)).1 := by
  rw [List.getD_eq_getElem?_getD, List.getElem?_map, List.getD_eq_getElem?_getD, List.getElem?_eq_getElem h]; rfl
theorem getD_mem {rs : List PR} {i : Nat} (h : i < rs.length) : rs.getD i (0, 0, 0) ∈ rs := by
  rw [List.getD_eq_getElem?_getD, List.getElem?_eq_getElem h]; exact List.getElem_mem h
theorem range_map (rs : List PR) : (List.range rs.length).map (fun i => rs.getD i (0, 0, 0)) = rs := by
  apply List.ext_getElem?
  intro j
  rw [List.getElem?_map]
  rcases Nat.lt_or_ge j rs.length with q | q
  · rw [List.getElem?_range q, List.getElem?_eq_getElem q]
    show some (rs.getD j (0, 0, 0)) = _
    rw [List.getD_eq_getElem?_getD, List.getElem?_eq_getElem q]; rfl
  · rw [List.getElem?_eq_none (by simpa using q), List.getElem?_eq_none q]; rfl
theorem tups_of {h : Heap} : ∀ {rs : List PR}, (∀ q ∈ rs, ∃ o, h.get? q.1 = some o ∧ PairO q o) → ∃ fs, KatTups h (rs.map pRef) fs ∧ fs.length = rs.length ∧ ∀ v ∈ fs, ∃ i t, v = Value.int i t
  | [], _ => ⟨[], .nil, rfl, fun _ h => nomatch h⟩
  | q :: rs, hq => by
    refine Gen fun Gq9 back => ?_
    rcases tups_of (rs := rs) fun q' h' => hq q' (.tail _ h') with ⟨fs, h1, h2, h3⟩
    refine back ?_
    clear back
    clear Gq9
    refine Gen fun Gq9 back => ?_
    rcases hq q (.head _) with ⟨o, ho, t, u, n, hz30⟩
    refine back ?_
    clear back
    clear Gq9
    subst hz30
    refine ⟨.int q.2.1 t :: fs, .cons ho rfl rfl rfl h1, by simp [h2], fun v hv => ?_⟩
    rcases List.mem_cons.mp hv with rfl | hv
    · exact ⟨_, _, rfl⟩
    · exact h3 v hv
theorem ab500 {y : Int} (h : y.natAbs < 500) : -500 < y ∧ y < 500 := by (first | lia | omega)
theorem key_lt {a b : PR} (ha : a.2.2.natAbs < 500) (hb : b.2.2.natAbs < 500) : decide (keyP a < keyP b) = if a.2.1 = b.2.1 then decide (a.2.2 < b.2.2) else decide (a.2.1 < b.2.1) := by
  unfold keyP
  obtain ⟨a1, a2⟩ := ab500 ha
  obtain ⟨b1, b2⟩ := ab500 hb
  clear ha hb
  by_cases e : a.2.1 = b.2.1
  · rw [if_pos e, e]
    by_cases h : a.2.2 < b.2.2
    · rw [decide_eq_true h]; exact decide_eq_true (by (first | lia | omega))
    · rw [decide_eq_false h]; exact decide_eq_false (by (first | lia | omega))
  · rw [if_neg e]
    by_cases h : a.2.1 < b.2.1
    · rw [decide_eq_true h]; exact decide_eq_true (by (first | lia | omega))
    · rw [decide_eq_false h]; exact decide_eq_false (by (first | lia | omega))
section
variable {prog : Program} {w : World} {A : Around} {E : Value → Shared → Prop} {s : Shared} {h₀ : Heap} {L l : Addr} {m : Str → Option Value} {news : List (Addr × Obj)} {rs : List PR} {Q : Value → Shared → Prop}
theorem ask_pairs {n : Nat} (hn : n = rs.length) (hT : ∀ q ∈ rs, ∃ o, s.heap.get? q.1 = some o ∧ PairO q o) (hb : ∀ q ∈ rs, q.2.2.natAbs < 500) : AskF n (fun i => keyP (rs.getD i (0, 0, 0))) (kas_ask prog w A (tuples' true) (rs.map pRef)) s := by
  subst hn
  intro i j C hi hj hC
  unfold kas_ask
  rw [getD_map hi, getD_map hj]
  have hC := (key_lt (hb _ (getD_mem hi)) (hb _ (getD_mem hj))) ▸ hC
  refine Gen fun Gq9 back => ?_
  rcases hT _ (getD_mem hi) with ⟨ox, hx, t1, u1, n1, e1⟩
  refine back ?_
  clear back
  clear Gq9
  refine Gen fun Gq9 back => ?_
  rcases hT _ (getD_mem hj) with ⟨oy, hy, t2, u2, n2, e2⟩
  refine back ?_
  clear back
  clear Gq9
  subst e1 e2
  generalize rs.getD i (0, 0, 0) = a at *
  generalize rs.getD j (0, 0, 0) = b at *
  refine kat_lt hx rfl hy rfl (kat_cons (wpAny_eqBool_int (kat_go (fun h => ?_) fun h => ?_)))
  · have e := eq_of_beq h
    rw [if_pos e] at hC
    refine kat_yes (kat_cons (wpAny_eqBool_int (kat_go (fun h2 => ?_) fun h2 => ?_)))
    · have e2 := eq_of_beq h2
      rw [decide_eq_false (by (first | lia | omega))] at hC
      exact kat_yes (kat_nil hC)
    · exact kat_no (kat_one _ _ (lt_int hC))
  · have e : a.2.1 ≠ b.2.1 := fun q => by rw [q, beq_self_eq_true] at h; cases h
    rw [if_neg e] at hC
    exact kat_no (oneLt_int hC)
theorem sorted_pairs (F : Fr h₀ L s.heap m) (N : News h₀ L s.heap news) (hl : s.heap.IsList l (rs.map pRef).toArray) (hT : ∀ q ∈ rs, ∃ o, (q.1, o) ∈ news ∧ PairO q o) (h2 : 2 ≤ rs.length) (h64 : rs.length < 64) (hb : ∀ q ∈ rs, q.2.2.natAbs < 500)
    (h : ∀ D (rs' : List PR) c h', Fr h₀ L h' m → News h₀ L h' ((D, PySem.W.listOf (rs'.map pRef).toArray c) :: news) → (∀ q ∈ news, q.1 < D) → rs'.Perm rs → rs'.Pairwise (fun a b => keyP a ≤ keyP b) → Q (.ref D) { s with heap := h' }) :
    wpAny (model prog w) A (call (.builtin "sorted") [.ref l]) Q E s := by
  have hlen : (rs.map pRef).length = rs.length := List.length_map _
  refine kat_sorted F N hl (by rw [hlen]; exact h2) (by rw [hlen]; exact h64) fun D e1 h' F' N' hlt => ?_
  have hT' : ∀ q ∈ rs, ∃ o, h'.get? q.1 = some o ∧ PairO q o := fun q hq => by
    obtain ⟨o, ho, hp⟩ := hT q hq
    exact ⟨o, (N' _ (.tail _ ho)).1, hp⟩
  refine Gen fun Gq9 back => ?_
  rcases tups_of hT' with ⟨fs, k1, k2, k3⟩
  refine back ?_
  clear back
  clear Gq9
  refine kat_kind (T := .type "int") k1 (by (first | lia | omega)) (fun v hv => ?_) rfl ?_
  · obtain ⟨i, t, rfl⟩ := k3 v hv
    exact Looks.of_pure rfl
  refine sort_wp (ask_pairs (s := { s with heap := h' }) hlen hT' hb) (by (first | lia | omega)) fun p R => ?_
  refine KasFin.intro F' N' (.head fun q hq => Nat.ne_of_lt (hlt q hq)) fun h'' c F'' N'' => ?_
  have hmap : (p.toList.map fun i => (rs.map pRef).getD i Value.none) = (p.toList.map fun i => rs.getD i (0, 0, 0)).map pRef := by
    rw [List.map_map]
    refine List.map_congr_left fun i hi => ?_
    have hi' : i < rs.length := by have := List.mem_range.mp (R.a.perm.mem_iff.mp hi); (first | lia | omega)
    exact getD_map hi'
  rw [hmap] at N''
  refine h D _ c h'' F'' N'' hlt ?_ ?_
  · have := R.a.perm.map (fun i => rs.getD i (0, 0, 0))
    rwa [hlen, range_map] at this
  · rw [List.pairwise_map]
    refine List.pairwise_iff_getElem.mpr fun i j hi hj hij => ?_
    have hj' : j < p.size := by simpa using hj
    have hsz := R.a.sz
    have := R.mono (i := i) (j := j) (by (first | lia | omega)) (by (first | lia | omega))
    unfold gv at this
    have e1 : p.getD i 0 = p.toList[i] := by simp [Array.getD, show i < p.size by (first | lia | omega)]
    have e2 : p.getD j 0 = p.toList[j] := by simp [Array.getD, hj']
    rw [e1, e2] at this
    exact this
end
theorem pair_obj {q : PR} {ob : Obj} (h : RepO (.tup [.int q.2.1, .int q.2.2]) ob) : PairO q ob := by
  refine Gen fun Gq9 back => ?_
  rcases h with ⟨items, n, hz31, hi⟩
  refine back ?_
  clear back
  clear Gq9
  subst hz31
  obtain ⟨l⟩ := items
  match l, hi with
  | [], hi => cases hi
  | [_], hi => exact absurd (congrArg List.length hi) (by simp)
  | _ :: _ :: _ :: _, hi => exact absurd (congrArg List.length hi) (by simp)
  | [v, w], hi =>
    obtain ⟨h1, h2⟩ := List.cons.inj hi
    obtain ⟨t, rfl⟩ := absV_int h1
    obtain ⟨u, rfl⟩ := absV_int (List.cons.inj h2).1
    exact ⟨t, u, n, rfl⟩
theorem refs_of {rs : List PR} : ∀ {vs : List Value}, vs.map absV = rs.map (fun q => V.ref q.1) → vs = rs.map pRef := by
  induction rs with
  | nil => intro vs h; cases vs with
    | nil => rfl
    | cons _ _ => cases h
  | cons q rs ih => intro vs h; cases vs with
    | nil => cases h
    | cons v vs =>
      obtain ⟨h1, h2⟩ := List.cons.inj h
      rw [absV_ref h1, ih h2]; rfl
section
variable {F : Fx}
theorem se_sorted {x : Str} {p pos : Pos} {a : Expr} {ma : ME} (hxe : x = "sorted") (hx : x ∈ F.bt) (hk : F.sc.names.lookup x = some .globalImplicit) (hn : notStar a = true) (ha : SE F a ma) : SE F (.Call (.Name x p) [a] [] pos) (.sorted ma) := by
  intro c d FO hg hsc ok rm l hp Q X hev fr s P E R hP hX
  subst hxe
  refine Call_ (nameB FO hg hsc ok hx (v := .builtin "sorted") boot_sorted hk (by decide) (by decide) R ?_) rfl
  refine PyProof.Rows.callWith_builtin1 ?_ (starEach_cons hn) rfl
  refine spliced_more (ha c d FO hg hsc ok rm l hp _ X hev fr s _ E R (fun v y h1 hh tk gn hq hy R1 => ?_) hX) (starEach_cons hn)
  refine spliced_none ?_
  cases v with
  | ref r =>
    cases absV_ref hy
    refine Gen fun Gq9 back => ?_
    rcases hq with ⟨rs, e1, h2, h64, hq0, hq⟩
    refine back ?_
    clear back
    clear Gq9
    obtain ⟨items, hi, hl⟩ := R1.listI ok e1
    refine Gen fun Gq9 back => ?_
    rcases R1.parts with ⟨g, m, news, T, Fm, lo, H, N, D⟩
    refine back ?_
    clear back
    clear Gq9
    have hit := refs_of hi
    refine sorted_pairs (s := { s with heap := hh, toks := tk, gens := gn }) Fm N (rs := rs) (by rw [← hit]; simpa using hl) (fun q hq' => ?_) h2 h64 (fun q hq' => (hq0 q hq').2) fun D' rs' c' h' F' N' hlt hp' hs => ?_
    · obtain ⟨ob, h1', h2'⟩ := H.2 _ _ (hq0 q hq').1
      exact ⟨ob, List.mem_append_left _ h1', pair_obj h2'⟩
    obtain ⟨f1, f2⟩ := fresh_of ok T H N' hlt
    refine hP _ _ _ h' tk gn (hq rs' hp' hs _ f1) rfl (Rep.more T F' lo H N' D f1 f2 ⟨(rs'.map pRef).toArray, c', rfl, ?_⟩)
    rw [List.map_map]; rfl
  | _ => exact hq.elim
end
section
variable {prog : Program} {w : World} {A : Around} {E : Value → Shared → Prop} {s : Shared}
theorem args_max4 (a b c d : Value) : argsOk "max" ⟨[a, b, c, d], []⟩ := by unfold argsOk; kernel_rfl
theorem max4_walk {a b c d : Value} {Q : Value → Shared → Prop}
    (h : wpAny (model prog w) A.in1 (pyIter (.ref s.heap.objs.size)) (fun it s₂ => ∃ I fp wr n P St bt, it = .ref I ∧ Walks prog w A.in1 I fp wr n P St ∧ St 0 s₂.heap ∧ (∀ b ∈ fp, b < s₂.heap.objs.size) ∧ 0 < n ∧ CmpOf prog w A.in1 .Gt P bt ∧
      ∀ v h' tk, P (argBest bt (n - 1)) v → (∀ b o, b ∉ wr → s₂.heap.get? b = some o → h'.get? b = some o) → Q v { s₂ with heap := h', toks := tk }) E
      { s with heap := s.heap.push { cls := .type "tuple", data := .seq #[a, b, c, d] } }) : wpAny (model prog w) A (call (.builtin "max") [a, b, c, d]) Q E s := by
  have hname : (toString "max" ++ toString ".loop" : String) = "max.loop" := by decide
  refine call_function_tree F.kind_max F.plain_max F.entry_max (args_max4 _ _ _ _) ?_
  show wpAny _ A.in1 (Builtin.Builtins.bindParams "max" ["key", "default"] 0 ⟨[], []⟩ >>= _) _ _ s
  refine wpAny_bind (wpAny_of_eq (show Builtin.Builtins.bindParams "max" ["key", "default"] 0 ⟨[], []⟩ = pure [none, none] from rfl) ?_)
  show wpAny _ A.in1 (newTuple [a, b, c, d] >>= _) _ _ s
  refine wpAny_bind (wpAny_newObj_type (wpAny_bind (wpAny_mono h (fun it s₂ h₂ => ?_) fun _ _ e => e)))
  refine Gen fun Gq9 back => ?_
  rcases h₂ with ⟨I, fp, wr, n, P, St, bt, hz32, W, hst, hfp, hn, hcmp, hQ⟩
  refine back ?_
  clear back
  clear Gq9
  subst hz32
  refine wpAny_bind (wpAny_newObj_type ?_)
  rw [hname]
  exact wpAny_pure ⟨plainId_quiet F.plain_max_loop _, codeAny_max_loop_first W bt hcmp s₂.heap.objs.size (fun hm => Nat.lt_irrefl _ (hfp _ hm)) hn (W.frame _ _ _ hst fun b _ o e => Heap.get?_push_of_some _ e) (Heap.get?_push_size _ rfl)
    fun v h' tk hP hk => hQ v h' tk hP fun b o hbw e => hk b o hbw (Nat.ne_of_lt (Heap.lt_size e)) (Heap.get?_push_of_some _ e)⟩
theorem max4_N {a b c d : Int} {t u x y : Tok} {h₀ : Heap} {L : Addr} {m : Str → Option Value} {news : List (Addr × Obj)} {Q : Value → Shared → Prop} (hh : A.handled = none) (F : Fr h₀ L s.heap m) (N : News h₀ L s.heap news)
    (h : ∀ h' tk M t, Fr h₀ L h' m → News h₀ L h' news → M ∈ [a, b, c, d] → (∀ z ∈ [a, b, c, d], z ≤ M) → Q (.int M t) { s with heap := h', toks := tk }) :
    wpAny (model prog w) A (call (.builtin "max") [.int a t, .int b u, .int c x, .int d y]) Q E s := by
  have hT : (s.heap.push { cls := .type "tuple", data := .seq #[.int a t, .int b u, .int c x, .int d y] }).IsTuple s.heap.objs.size (intItems #[(a, t), (b, u), (c, x), (d, y)]) := ⟨_, Heap.get?_push_size _ rfl, rfl, 0, by simp [intItems]⟩
  refine max4_walk (wpAny_pyIter_tuple hT ?_)
  have hsz : (s.heap.push { cls := .type "tuple", data := .seq #[.int a t, .int b u, .int c x, .int d y] }).objs.size = s.heap.objs.size + 1 := Heap.size_push ..
  refine ⟨_, [_, s.heap.objs.size], [_], _, _, _, _, rfl, Walks.tuple (A := A.in1) hh _ s.heap.objs.size (by rw [hsz]; exact Nat.ne_of_lt (Nat.lt_succ_self _)) (intItems #[(a, t), (b, u), (c, x), (d, y)]),
    ⟨⟨_, Heap.get?_push_size _ rfl, rfl, rfl⟩, hT.push _⟩, fun d hd => ?_, by simp [intItems], CmpOf.ints_gt (numAt #[(a, t), (b, u), (c, x), (d, y)]) (fun _ _ => intItems_at), fun v h' tk hP hk => ?_⟩
  · show d < ((s.heap.push _).push _).objs.size
    rw [Heap.size_push, hsz]
    rcases List.mem_cons.mp hd with rfl | hd
    · rw [hsz]; exact Nat.lt_succ_self _
    · rcases List.mem_cons.mp hd with rfl | hd
      · exact Nat.lt_succ_of_lt (Nat.lt_succ_self _)
      · cases hd
  · have hold : ∀ d o, s.heap.get? d = some o → h'.get? d = some o := fun d o e => by
      refine hk d o (fun hm => ?_) (Heap.get?_push_of_some _ (Heap.get?_push_of_some _ e))
      rcases List.mem_cons.mp hm with e1 | hm
      · have := Heap.lt_size e; rw [e1, hsz] at this; exact Nat.lt_irrefl _ (Nat.lt_of_succ_lt this)
      · cases hm
    obtain ⟨tv, rfl⟩ := intItems_at hP
    have hs3 : (intItems #[(a, t), (b, u), (c, x), (d, y)]).size - 1 = 3 := by simp [intItems]
    rw [hs3]
    obtain ⟨g1, g2⟩ := argBest_gt (numAt #[(a, t), (b, u), (c, x), (d, y)]) 3
    refine h _ _ _ tv (F.grownK hold) (N.grown hold) ?_ fun z hz => ?_
    · generalize argBest (fun i j => decide (numAt #[(a, t), (b, u), (c, x), (d, y)] i > numAt #[(a, t), (b, u), (c, x), (d, y)] j)) 3 = k at g1
      rcases (by (first | lia | omega) : k = 0 ∨ k = 1 ∨ k = 2 ∨ k = 3) with rfl | rfl | rfl | rfl <;> simp [numAt]
    · simp only [List.mem_cons, List.not_mem_nil, or_false] at hz
      rcases hz with rfl | rfl | rfl | rfl
      · exact g2 0 (by (first | lia | omega))
      · exact g2 1 (by (first | lia | omega))
      · exact g2 2 (by (first | lia | omega))
      · exact g2 3 (by (first | lia | omega))
end
section
variable {F : Fx}
theorem isInts_two {v w : V} {K : Int × Int → Prop} (h : match isInts v w with | some p => K p | Option.none => False) : ∃ i j, v = .int i ∧ w = .int j ∧ K (i, j) := by
  revert h
  cases v <;> first | exact False.elim | skip
  cases w <;> first | exact False.elim | exact fun h => ⟨_, _, rfl, rfl, h⟩
theorem se_mx4 (hF : F.cold = true) {x : Str} {p pos : Pos} {a b e f : Expr} {ma mb me mf : ME} (hxe : x = "max") (hx : x ∈ F.bt) (hk : F.sc.names.lookup x = some .globalImplicit) (hn : notStar a = true) (hn2 : notStar b = true) (hn3 : notStar e = true) (hn4 : notStar f = true)
    (ha : SE F a ma) (hb : SE F b mb) (he : SE F e me) (hf : SE F f mf) : SE F (.Call (.Name x p) [a, b, e, f] [] pos) (.mx4 ma mb me mf) := by
  intro c d FO hg hsc ok rm l hp Q X hev fr s P E R hP hX
  subst hxe
  refine Call_ (nameB FO hg hsc ok hx (v := .builtin "max") boot_max hk (by decide) (by decide) R ?_) rfl
  refine PyProof.Rows.callWith_builtin1 ?_ (starEach_cons hn) (by rw [starEach_cons hn2, starEach_cons hn3, starEach_cons hn4]; rfl)
  refine spliced_more (ha c d FO hg hsc ok rm l hp _ X hev fr s _ E R (fun v y1 h1 hh1 tk1 gn1 hq1 hy1 R1 => ?_) hX) (starEach_cons hn)
  refine spliced_more (hb c d FO hg hsc ok rm l h1 _ X hq1 fr _ _ E R1 (fun w y2 h2 hh2 tk2 gn2 hq2 hy2 R2 => ?_) hX) (starEach_cons hn2)
  refine spliced_more (he c d FO hg hsc ok rm l h2 _ X hq2 fr _ _ E R2 (fun u y3 h3 hh3 tk3 gn3 hq3 hy3 R3 => ?_) hX) (starEach_cons hn3)
  refine spliced_more (hf c d FO hg hsc ok rm l h3 _ X hq3 fr _ _ E R3 (fun t y4 h4 hh4 tk4 gn4 hq4 hy4 R4 => ?_) hX) (starEach_cons hn4)
  refine spliced_none ?_
  obtain ⟨i, j, k, m', rfl, rfl, rfl, rfl⟩ : ∃ i j k m', v = .int i ∧ w = .int j ∧ u = .int k ∧ t = .int m' := by
    cases v <;> first | exact hq4.elim | (cases w <;> first | exact hq4.elim | (cases u <;> first | exact hq4.elim | (cases t <;> first | exact hq4.elim | exact ⟨_, _, _, _, rfl, rfl, rfl, rfl⟩)))
  obtain ⟨t1, rfl⟩ := absV_int hy1
  obtain ⟨t2, rfl⟩ := absV_int hy2
  obtain ⟨t3, rfl⟩ := absV_int hy3
  obtain ⟨t4, rfl⟩ := absV_int hy4
  refine Gen fun Gq9 back => ?_
  rcases R4.parts with ⟨g, m, news, T, Fm, lo, H, N, D⟩
  refine back ?_
  clear back
  clear Gq9
  exact max4_N (handled_none hsc hF) Fm N fun h' tk' M tM F' N' hM1 hM2 => hP _ _ _ h' tk' _ (hq4 M hM1 hM2) rfl (Rep.of T F' lo H N' D)
theorem se_dct {pos : Pos} : SE F (.Dict [] [] pos) .dct := by
  intro c d FO hg hsc ok rm l hp Q X hev fr s P E R hP hX
  refine Gen fun Gq9 back => ?_
  rcases R.parts with ⟨g, m, news, T, Fm, lo, H, N, D⟩
  refine back ?_
  clear back
  clear Gq9
  have okg := ok.turn T
  refine newDict_K Fm N ((okg.top.keeps okg.below.stays).nolimit) fun d' h' o F' N' hlt _ _ _ hd hf => ?_
  obtain ⟨f1, f2⟩ := fresh_of ok T H N' hlt
  exact hP _ _ _ h' _ _ (hev _ f1) rfl (Rep.more T F' lo H N' D f1 f2 ⟨[], hg ▸ hd, hf⟩)
theorem margs2 {pos : Pos} {env : Env} {e f : Expr} (h : notStar e = true) (h2 : notStar f = true) : ((((backTo pos (starEach [e, f] env)).all fun x => !x.fst) && (backToKw pos (keywordEach [] env)).all fun x => x.fst.isSome) && decide ((([e, f] : List Expr).length + ([] : List Keyword).length + if ([] : List Keyword).isEmpty = true then 0 else 1) < 30)) = true := by
  rw [starEach_cons h, starEach_cons h2]; rfl
theorem Rep.dict {c : Cx} {names l hp fr h} {a : Addr} {cc : List (Int × Int)} (ok : c.Ok) (R : Rep c names l hp fr h gn) (e : hp a = some (.dict (dictP c.g cc))) : IntTab c.g.prog c.g.w h a (kdfD cc) := by
  refine Gen fun Gq9 back => ?_
  rcases R.atO e (fun ws q => nomatch q) with ⟨g, m, news, ob, T, Fm, lo, ⟨kvs, hdd, hff⟩, H, N, hne, D⟩
  refine back ?_
  clear back
  clear Gq9
  have okg := ok.turn T
  have n1 := N _ (.head _)
  refine ⟨beq_eq_false_iff_ne.mpr fun q => ?_, kvs, Heap.dictOf_iff.mpr ⟨ob, n1.1, hdd⟩, hff⟩
  refine Gen fun Gq9 back => ?_
  rcases (okg.seer.keeps okg.below.stays).mods with ⟨mm, ⟨o, _, _, ho, _⟩, _⟩
  refine back ?_
  clear back
  clear Gq9
  have h2 : g.get? a = none := n1.2.2
  rw [q] at h2
  have ho : g.get? sysModules = some o := ho
  rw [h2] at ho; cases ho
theorem se_dget {o e f : Expr} {apos pos : Pos} {nm : Str} {mo me mf : ME} (hnm : nm = "get") (hso : supE o = false) (hap : (apos.endLine == pos.line) = true) (hn : notStar e = true) (hn2 : notStar f = true) (ho : SE F o mo) (he : SE F e me) (hf : SE F f mf) :
    SE F (.Call (.Attribute o nm apos) [e, f] [] pos) (.dget mo me mf) := by
  intro c d FO hg hsc ok rm l hp Q X hev fr s P E R hP hX
  subst hnm
  refine wpAny_Call_method (base_plain hso _ _) (margs2 hn hn2) hap PySem.F.plainAttrs_dict PySem.F.slot_dict_get PySem.F.type_dict_get (ho c d FO hg hsc ok rm l hp _ X hev fr s _ E R (fun v x h1 hh tk gn hq hx R1 => ?_) hX)
  cases v with
  | ref a =>
    cases absV_ref hx
    obtain ⟨⟨c0, e0⟩, hq⟩ := hq
    obtain ⟨_, kvs, hd0, _⟩ := R1.dict ok (cc := c0) (by rw [hg]; exact e0)
    refine ⟨hd0.typeIs, hd0.mapOf.noDict, callWith_method1 ?_ (starEach_cons hn) (by rw [starEach_cons hn2]; rfl)⟩
    refine spliced_more (he c d FO hg hsc ok rm l h1 _ X hq fr _ _ E R1 (fun w y h2 hh2 tk2 gn2 hq2 hy R2 => ?_) hX) (starEach_cons hn)
    refine spliced_more (hf c d FO hg hsc ok rm l h2 _ X hq2 fr _ _ E R2 (fun u z h3 hh3 tk3 gn3 hq3 hz R3 => ?_) hX) (starEach_cons hn2)
    refine spliced_none ?_
    refine Gen fun Gq9 back => ?_
    rcases isInts_two hq3 with ⟨i, j, hz33, hz34, cc, e1, hq4⟩
    refine back ?_
    clear back
    clear Gq9
    subst hz33
    subst hz34
    obtain ⟨t1, rfl⟩ := absV_int hy
    obtain ⟨t2, rfl⟩ := absV_int hz
    exact kdf_get2 (R3.dict ok (cc := cc) (by rw [hg]; exact e1)) fun t => hP _ _ _ _ _ _ hq4 rfl R3
  | _ => exact hq.elim
end
noncomputable abbrev RE (F : Fx) (e : Expr) := Option { m : ME // SE F e m }
noncomputable abbrev RT (F : Fx) (e : Expr) := Option { m : ME // ST F e m }
noncomputable abbrev REs (F : Fx) (es : List Expr) := Option { m : ME // SEs F es m }
noncomputable abbrev RTB (F : Fx) (o : BoolOp) (es : List Expr) (pos : Pos) := Option { m : ME // STB F o es pos m }
noncomputable def glob? (F : Fx) (x : Str) : Bool := decide (F.sc.names.lookup x = some .globalImplicit) && !(x == ("__debug__" : Str))
theorem glob?_spec {F : Fx} {x : Str} (h : glob? F x = true) : F.sc.names.lookup x = some .globalImplicit ∧ (x == ("__debug__" : Str)) = false := by
  simp only [glob?, Bool.and_eq_true, decide_eq_true_eq, Bool.not_eq_true'] at h; exact h
noncomputable def bi? (F : Fx) (x : Str) : Bool := glob? F x && F.bt.contains x
theorem bi?_spec {F : Fx} {x : Str} (h : bi? F x = true) : x ∈ F.bt ∧ F.sc.names.lookup x = some .globalImplicit := by
  simp only [bi?, Bool.and_eq_true, List.contains_iff_mem] at h; exact ⟨h.2, (glob?_spec h.1).1⟩
noncomputable def cB1 (F : Fx) (hF : F.cold = true) (x : Str) (p pos : Pos) (a : Expr) (hb : bi? F x = true) (hn : notStar a = true) (ma : { m : ME // SE F a m }) : RE F (.Call (.Name x p) [a] [] pos) :=
  if h : x = "len" then some ⟨.len ma.1, se_len h (bi?_spec hb).1 (bi?_spec hb).2 hn ma.2⟩
  else if h : x = "int" then some ⟨.toInt ma.1, se_toInt h (bi?_spec hb).1 (bi?_spec hb).2 hn ma.2⟩
  else if h : x = "list" then some ⟨.listOf ma.1, se_listOf hF h (bi?_spec hb).1 (bi?_spec hb).2 hn ma.2⟩
  else if h : x = "sorted" then some ⟨.sorted ma.1, se_sorted h (bi?_spec hb).1 (bi?_spec hb).2 hn ma.2⟩
  else if h : x = "abs" then some ⟨.abs ma.1, se_abs h (bi?_spec hb).1 (bi?_spec hb).2 hn ma.2⟩
  else none
noncomputable def cB2 (F : Fx) (hF : F.cold = true) (x : Str) (p pos : Pos) (a b : Expr) (hb : bi? F x = true) (hn : notStar a = true) (hn2 : notStar b = true) (ma : { m : ME // SE F a m }) (mb : { m : ME // SE F b m }) : RE F (.Call (.Name x p) [a, b] [] pos) :=
  if h : x = "min" then some ⟨.mn ma.1 mb.1, se_mn hF h (bi?_spec hb).1 (bi?_spec hb).2 hn hn2 ma.2 mb.2⟩
  else if h : x = "divmod" then some ⟨.dvm ma.1 mb.1, se_dvm h (bi?_spec hb).1 (bi?_spec hb).2 hn hn2 ma.2 mb.2⟩
  else none
noncomputable def cB3 (F : Fx) (hF : F.cold = true) (x : Str) (p pos : Pos) (a b e : Expr) (hb : bi? F x = true) (hn : notStar a = true) (hn2 : notStar b = true) (hn3 : notStar e = true) (ma : { m : ME // SE F a m }) (mb : { m : ME // SE F b m }) (me : { m : ME // SE F e m }) : RE F (.Call (.Name x p) [a, b, e] [] pos) :=
  if h : x = "pow" then some ⟨.pow3 ma.1 mb.1 me.1, se_pow3 h (bi?_spec hb).1 (bi?_spec hb).2 hn hn2 hn3 ma.2 mb.2 me.2⟩
  else none
noncomputable def locC? (F : Fx) (x : Str) : Option Nat :=
  match fIdx F.names x 0 with
  | some i => if F.sc.names.lookup x = some .cell ∧ (x == ("__debug__" : Str)) = false then some i else none
  | none => none
theorem locC?_spec {F : Fx} {x : Str} {i : Nat} (h : locC? F x = some i) : F.names[i]? = some x ∧ F.sc.names.lookup x = some .cell ∧ (x == ("__debug__" : Str)) = false := by
  unfold locC? at h
  cases hj : fIdx F.names x 0 with
  | none => rw [hj] at h; cases h
  | some j =>
    rw [hj] at h
    have h : (if F.sc.names.lookup x = some .cell ∧ (x == ("__debug__" : Str)) = false then some j else none) = some i := h
    by_cases e : F.sc.names.lookup x = some .cell ∧ (x == ("__debug__" : Str)) = false
    · rw [if_pos e] at h
      cases h
      exact ⟨by simpa using (fIdx_get hj).2, e.1, e.2⟩
    · rw [if_neg e] at h; cases h
noncomputable def ndB : List Str → Bool
  | [] => true
  | x :: r => !(r.contains x) && ndB r
theorem ndB_nodup : ∀ {l : List Str}, ndB l = true → l.Nodup
  | [], _ => List.nodup_nil
  | x :: r, h => by
    have h : (!(r.contains x) && ndB r) = true := h
    simp only [Bool.and_eq_true, Bool.not_eq_true', List.contains_eq_mem, decide_eq_false_iff_not] at h
    exact List.nodup_cons.mpr ⟨h.1, ndB_nodup h.2⟩
noncomputable def idxs (F : Fx) : List Str → Option (List Nat)
  | [] => some []
  | x :: r => match fIdx F.names x 0, idxs F r with
    | some i, some is => some (i :: is)
    | _, _ => none
noncomputable def freeOfS (scope : Scope) : List Str := (scope.names.filter (·.2 == .free)).map (·.1)
noncomputable def compB (F : Fx) (scope : Scope) (x : Str) (xs : List Str) (is : List Nat) : Bool :=
  (scope.kind == .function) && scope.names.all (fun y => !(y.2 == .cell)) && scope.names.all (fun y => !(y.2 == .local) || scope.names.lookup y.1 == some .local) && (scope.names.lookup x == some .local) &&
    (xs.length == is.length) && (xs.zip is).all (fun p => F.names[p.2]? == some p.1) && ndB (x :: xs)
theorem compB_spec {F : Fx} {scope : Scope} {x : Str} {is : List Nat} (h : compB F scope x (freeOfS scope) is = true) : CompOk F scope x (freeOfS scope) is := by
  simp only [compB, Bool.and_eq_true, beq_iff_eq] at h
  refine Gen fun Gq9 back => ?_
  rcases h with ⟨⟨⟨⟨⟨⟨h1, h2⟩, h3⟩, h4⟩, h5⟩, h6⟩, h7⟩
  refine back ?_
  clear back
  clear Gq9
  refine ⟨h1, fun y hy e => ?_, fun y hy e => ?_, h4, rfl, h5, fun p hp => ?_, ndB_nodup h7⟩
  · have := List.all_eq_true.mp h2 y hy
    rw [e] at this; revert this; decide
  · have := List.all_eq_true.mp h3 y hy
    rw [e] at this; simpa using this
  · simpa using List.all_eq_true.mp h6 p hp
noncomputable def compX (F : Fx) (scope : Scope) (x : Str) : Option { is : List Nat // CompOk F scope x (freeOfS scope) is } :=
  match idxs F (freeOfS scope) with
  | some is => if h : compB F scope x (freeOfS scope) is = true then some ⟨is, compB_spec h⟩ else none
  | none => none
set_option genInjectivity false in
structure RC (F : Fx) (x : Str) (tg : Expr) (iter : Expr) (ifs : List Expr) (scope : Scope) (pos : Pos) (elt : Expr) where
  m : ME
  is : List Nat
  co : CompOk F scope x (freeOfS scope) is
  hse : ∀ env v, foldedSetIterable iter env v = pure v
  run : CompRun F x (freeOfS scope) is scope tg pos ifs iter elt m
set_option genInjectivity false in
structure CR where
  C : (F : Fx) → F.cold = true → (x : Str) → (px : Pos) → (iter : Expr) → (ifs : List Expr) → (scope : Scope) → (pos : Pos) → (elt : Expr) → Option (RC F x (.Name x px) iter ifs scope pos elt)
  E : (F : Fx) → F.cold = true → (e : Expr) → RE F e
  Es : (F : Fx) → F.cold = true → (es : List Expr) → REs F es
  Ts : (F : Fx) → F.cold = true → (es : List Expr) → Option { m : ME // STs F es m }
  T : (F : Fx) → F.cold = true → (e : Expr) → RT F e
  TB : (F : Fx) → F.cold = true → (o : BoolOp) → (es : List Expr) → (pos : Pos) → RTB F o es pos
noncomputable def fC (kr : CR) (F : Fx) (hF : F.cold = true) : (x : Str) → (px : Pos) → (iter : Expr) → (ifs : List Expr) → (scope : Scope) → (pos : Pos) → (elt : Expr) → Option (RC F x (.Name x px) iter ifs scope pos elt)
  | x, px, iter, ifs, scope, pos, elt =>
      match compX F scope x with
      | none => none
      | some co => match kr.Ts (F.inner scope (x :: freeOfS scope)) hF ifs, kr.E (F.inner scope (x :: freeOfS scope)) hF elt with
        | some mc, some me => (match iter with
          | .Call (.Name r pr) [a] [] pc => if hr : r = "range" ∧ bi? F r = true ∧ notStar a = true then (match kr.E F hF a with
              | some ma => some ⟨.compR (.int 0) ma.1 (.int 1) mc.1 me.1 co.1, co.1, co.2, (fun _ => folded_call), (cr_compR1 hF co.2 hr.1 (bi?_spec hr.2.1).1 (bi?_spec hr.2.1).2 hr.2.2 ma.2 mc.2 me.2)⟩
              | none => none) else (match kr.E F hF (.Call (.Name r pr) [a] [] pc) with
              | some mi => some ⟨.compL mi.1 mc.1 me.1 co.1, co.1, co.2, (fun _ => folded_call), cr_compL hF co.2 rfl mi.2 mc.2 me.2⟩
              | none => none)
          | .Call (.Name r pr) [a, b] [] pc => if hr : r = "range" ∧ bi? F r = true ∧ notStar a = true ∧ notStar b = true then (match kr.E F hF a, kr.E F hF b with
              | some ma, some mb => some ⟨.compR ma.1 mb.1 (.int 1) mc.1 me.1 co.1, co.1, co.2, (fun _ => folded_call), (cr_compR2 hF co.2 hr.1 (bi?_spec hr.2.1).1 (bi?_spec hr.2.1).2 hr.2.2.1 ma.2 hr.2.2.2 mb.2 mc.2 me.2)⟩
              | _, _ => none) else none
          | .Call (.Name r pr) [a, b, f] [] pc => if hr : r = "range" ∧ bi? F r = true ∧ notStar a = true ∧ notStar b = true ∧ notStar f = true then (match kr.E F hF a, kr.E F hF b, kr.E F hF f with
              | some ma, some mb, some mf => some ⟨.compR ma.1 mb.1 mf.1 mc.1 me.1 co.1, co.1, co.2, (fun _ => folded_call), (cr_compR3 hF co.2 hr.1 (bi?_spec hr.2.1).1 (bi?_spec hr.2.1).2 hr.2.2.1 ma.2 hr.2.2.2.1 mb.2 hr.2.2.2.2 mf.2 mc.2 me.2)⟩
              | _, _, _ => none) else none
          | e => if hs : setE e = false then (match kr.E F hF e with
              | some mi => some ⟨.compL mi.1 mc.1 me.1 co.1, co.1, co.2, (fun _ => folded_plain hs), (cr_compL hF co.2 hs mi.2 mc.2 me.2)⟩
              | none => none) else none)
        | _, _ => none
noncomputable def genB (F : Fx) (scope : Scope) (x xa xb xe : Str) (ia ib ie : Nat) : Bool :=
  (scope.kind == .function) && !scope.isCoroutine && scope.names.all (fun y => !(y.2 == .cell)) && (scope.names.lookup (".0" : Str) == some .local) && (scope.names.lookup x == some .local) &&
    (scope.names.lookup xa == some .free) && (scope.names.lookup xb == some .free) && (scope.names.lookup xe == some .free) && scope.names.all (fun y => !(y.2 == .free) || y.1 == xa || y.1 == xb || y.1 == xe) &&
    (F.names[ia]? == some xa) && (F.names[ib]? == some xb) && (F.names[ie]? == some xe) && [xa, xb, xe].all (fun y => !(y == ("__classdict__" : Str)) && !(y == ("__debug__" : Str))) && !(x == ("__debug__" : Str)) &&
    ndB (freeOfS scope) && [xa, xb, xe].all (fun y => (freeOfS scope).contains y)
theorem genB_spec {F : Fx} {scope : Scope} {x xa xb xe : Str} {ia ib ie : Nat} (h : genB F scope x xa xb xe ia ib ie = true) : GenOk F scope x xa xb xe ia ib ie := by
  simp only [genB, Bool.and_eq_true, beq_iff_eq, Bool.not_eq_true', List.all_cons, List.all_nil, and_true, List.contains_iff_mem] at h
  refine Gen fun Gq9 back => ?_
  rcases h with ⟨⟨⟨⟨⟨⟨⟨⟨⟨⟨⟨⟨⟨⟨⟨h1, h2⟩, h3⟩, h4⟩, h5⟩, h6⟩, h7⟩, h8⟩, h9⟩, h10⟩, h11⟩, h12⟩, ⟨ha, hb, he⟩⟩, h14⟩, h15⟩, ⟨ma, mb, me⟩⟩
  refine back ?_
  clear back
  clear Gq9
  refine ⟨h1, h2, fun y hy e => ?_, h4, h5, h6, h7, h8, fun y hy e => ?_, h10, h11, h12, ha, hb, he, h14, ndB_nodup h15, fun y hy => ?_⟩
  · have := List.all_eq_true.mp h3 y hy
    rw [e] at this; revert this; decide
  · have := List.all_eq_true.mp h9 y hy
    rw [e] at this
    simp only [Bool.or_eq_true, beq_iff_eq] at this
    rcases this with (this | this) | this
    · rcases this with this | this
      · exact absurd this (by decide)
      · exact .inl this
    · exact .inr (.inl this)
    · exact .inr (.inr this)
  · rcases hy with e | e | e <;> rw [e]
    · exact ma
    · exact mb
    · exact me
noncomputable def fG (kr : CR) (F : Fx) (hF : F.cold = true) (xs : Str) (ps : Pos) (pcall pos : Pos) (scope : Scope) : (elt : Expr) → (gens : List Comprehension) → RE F (.Call (.Name xs ps) [.GeneratorExp elt gens scope pos] [] pcall)
  | .BinOp (.BinOp (.Subscript (.Name xa pa) (.Name x1 pna) pe1) .Mult (.Subscript (.Name xb pb) (.Name x2 pnb) pe2) pt1) .Mult (.Subscript (.Name xe pe) (.Name x3 pne) pe3) pt2, [⟨.Name x pn, .Call (.Name xr pr) [hi] [] pc, [], 0⟩] =>
    match hgc : F.gc, fIdx F.names xa 0, fIdx F.names xb 0, fIdx F.names xe 0, kr.E F hF hi with
    | some (c0, P), some ia, some ib, some ie, some mhi => if h : (xs = "sum" ∧ bi? F xs = true) ∧ (xr = "range" ∧ bi? F xr = true ∧ notStar hi = true) ∧ (x1 = x ∧ x2 = x ∧ x3 = x) ∧ codeHdIn F.g.K c0 P = true ∧ genB F scope x xa xb xe ia ib ie = true then
        some ⟨.sumG P mhi.1 ia ib ie, by
          refine Gen fun Gq9 back => ?_
          rcases h with ⟨⟨a1, a2⟩, ⟨b1, b2, b3⟩, ⟨c1, c2, c3⟩, d1, e1⟩
          refine back ?_
          clear back
          clear Gq9
          rw [c1, c2, c3]
          exact se_sumG hF a1 (bi?_spec a2).1 (bi?_spec a2).2 b1 (bi?_spec b2).1 (bi?_spec b2).2 b3 mhi.2 (genB_spec e1) hgc d1⟩ else none
    | _, _, _, _, _ => none
  | _, _ => none
noncomputable def fE (kr : CR) (F : Fx) (hF : F.cold = true) : (e : Expr) → RE F e
  | .Name x _ => match h : loc? F x with
    | some i => some ⟨.var i, se_var (loc?_spec h).1 (loc?_spec h).2.1 (loc?_spec h).2.2⟩
    | none => match h : locC? F x with
      | some i => some ⟨.cvar i, se_cvar (locC?_spec h).1 (locC?_spec h).2.1 (locC?_spec h).2.2⟩
      | none => none
  | .ListComp elt [⟨.Name x px, iter, ifs, 0⟩] scope pos => if ht : F.top = true then
      match kr.C F hF x px iter ifs scope pos elt with
      | some c => some ⟨c.m, se_comp c.co ht c.hse c.run⟩
      | none => none
    else none
  | .Constant (.int i) _ _ => some ⟨.int i, se_int⟩
  | .Constant (.bool b) _ _ => some ⟨.bool b, se_bool⟩
  | .BinOp a o b _ => match h : opOf o, kr.E F hF a, kr.E F hF b with
    | some bo, some ma, some mb => some ⟨.bin bo ma.1 mb.1, se_bin h ma.2 mb.2⟩
    | _, _, _ => none
  | .UnaryOp .USub a _ => (kr.E F hF a).map fun ma => ⟨.neg ma.1, se_neg ma.2⟩
  | .UnaryOp .Not a _ => (kr.E F hF a).map fun ma => ⟨.not ma.1, se_not ma.2 fun _ _ _ _ _ _ h => PyProof.Rows.not_of h⟩
  | .Compare a [.Is] [.Constant .none _ _] _ => (kr.E F hF a).map fun ma => ⟨.isn ma.1 true, se_isn ma.2⟩
  | .Compare a [.IsNot] [.Constant .none _ _] _ => (kr.E F hF a).map fun ma => ⟨.isn ma.1 false, se_isnn ma.2⟩
  | .Compare a [.In] [b] _ => if hm : behindInMarks .In b = false then match kr.E F hF a, kr.E F hF b with
    | some ma, some mb => some ⟨.inl ma.1 mb.1 true, se_in hm ma.2 mb.2⟩
    | _, _ => none
    else none
  | .Compare a [.NotIn] [b] _ => if hm : behindInMarks .NotIn b = false then match kr.E F hF a, kr.E F hF b with
    | some ma, some mb => some ⟨.inl ma.1 mb.1 false, se_nin hm ma.2 mb.2⟩
    | _, _ => none
    else none
  | .Compare a [o] [b] _ => match h : cmpOf o, kr.E F hF a, kr.E F hF b with
    | some bo, some ma, some mb => some ⟨.cmp bo ma.1 mb.1, se_cmp h ma.2 mb.2⟩
    | _, _, _ => none
  | .Compare a [o, q] [b, e] _ => match h : cmpOf o, h' : cmpOf q, kr.E F hF a, kr.E F hF b, kr.E F hF e with
    | some bo, some bq, some ma, some mb, some me => some ⟨.chain ma.1 bo mb.1 bq me.1, se_chain h h' ma.2 mb.2 me.2⟩
    | _, _, _, _, _ => none
  | .BoolOp o [a] _ => (kr.E F hF a).map fun ma => ⟨ma.1, se_and_one o ma.2⟩
  | .BoolOp .And (a :: b :: r) pos => match kr.E F hF a, kr.E F hF (.BoolOp .And (b :: r) pos) with
    | some ma, some mb => some ⟨.and ma.1 mb.1, se_and ma.2 mb.2⟩
    | _, _ => none
  | .BoolOp .Or (a :: b :: r) pos => match kr.E F hF a, kr.E F hF (.BoolOp .Or (b :: r) pos) with
    | some ma, some mb => some ⟨.or ma.1 mb.1, se_or ma.2 mb.2⟩
    | _, _ => none
  | .IfExp a b e _ => match kr.T F hF a, kr.E F hF b, kr.E F hF e with
    | some ma, some mb, some me => some ⟨.ite ma.1 mb.1 me.1, se_ite ma.2 mb.2 me.2⟩
    | _, _, _ => none
  | .Tuple es _ _ => (kr.Es F hF es).map fun ms => ⟨.tup ms.1, se_tup ms.2⟩
  | .List es _ => (kr.Es F hF es).map fun ms => ⟨.list ms.1, se_list ms.2⟩
  | .Dict [] [] _ => some ⟨.dct, se_dct⟩
  | .Call (.Attribute o nm apos) [e, f] [] pos => if hs : supE o = false ∧ (apos.endLine == pos.line) = true ∧ nm = "get" ∧ notStar e = true ∧ notStar f = true then match kr.E F hF o, kr.E F hF e, kr.E F hF f with
      | some mo, some me, some mf => some ⟨.dget mo.1 me.1 mf.1, se_dget hs.2.2.1 hs.1 hs.2.1 hs.2.2.2.1 hs.2.2.2.2 mo.2 me.2 mf.2⟩
      | _, _, _ => none
    else none
  | .Subscript a i _ => if h : sliceOf i = false then match kr.E F hF a, kr.E F hF i with
      | some ma, some mi => some ⟨.idx ma.1 mi.1, se_idx h ma.2 mi.2⟩
      | _, _ => none
    else none
  | .Call (.Attribute o nm apos) [] [] pos => if hs : supE o = false ∧ (apos.endLine == pos.line) = true then match kr.E F hF o with
      | some mo => if h : nm = "reverse" then some ⟨.rev mo.1, se_rev h hs.1 hs.2 mo.2⟩
        else if h : nm = "bit_length" then some ⟨.bitlen mo.1, se_bitlen h hs.1 hs.2 mo.2⟩
        else none
      | none => none
    else none
  | .Call (.Attribute o nm apos) [e] [] pos => if hs : supE o = false ∧ (apos.endLine == pos.line) = true then match kr.E F hF o with
      | some mo => if h : nm = "append" then (if hn : notStar e = true then (kr.E F hF e).map fun me => ⟨.app mo.1 me.1, se_app h hs.1 hs.2 hn mo.2 me.2⟩ else none)
        else if h : nm = "pop" then (match e with
          | .Constant (.int 0) _ _ => some ⟨.pop0 mo.1, se_pop0 h hs.1 hs.2 mo.2⟩
          | _ => none)
        else none
      | none => none
    else none
  | .Call (.Name xs p) [.GeneratorExp elt gens scope pos] [] pcall => fG kr F hF xs p pcall pos scope elt gens
  | .Call (.Name x p) (e :: es) [] pos => match h : F.gt.lookup x with
    | some a => if hx : glob? F x = true ∧ (e :: es).all notStar = true then
        (kr.Es F hF (e :: es)).map fun ms => ⟨.call a ms.1, se_call hF h (glob?_spec hx.1).1 (glob?_spec hx.1).2 hx.2 ms.2⟩
      else none
    | none => if hb : bi? F x = true then match es with
        | [] => if hn : notStar e = true then (match kr.E F hF e with | some ma => cB1 F hF x p pos e hb hn ma | none => none) else none
        | [.Name T pT] => if hi : x = "isinstance" then (match hk : kdOf T with
              | some k => if hT : bi? F T = true ∧ notStar e = true then (kr.E F hF e).map fun ma => ⟨.isi ma.1 k, se_isi hi (bi?_spec hb).1 (bi?_spec hb).2 (bi?_spec hT.1).1 (bi?_spec hT.1).2 hk hT.2 ma.2⟩ else none
              | none => none)
            else if hn : notStar e = true then (match kr.E F hF e, kr.E F hF (.Name T pT) with | some ma, some mb => cB2 F hF x p pos e (.Name T pT) hb hn rfl ma mb | _, _ => none) else none
        | [b] => if hn : notStar e = true ∧ notStar b = true then (match kr.E F hF e, kr.E F hF b with | some ma, some mb => cB2 F hF x p pos e b hb hn.1 hn.2 ma mb | _, _ => none) else none
        | [b, f] => if hn : notStar e = true ∧ notStar b = true ∧ notStar f = true then (match kr.E F hF e, kr.E F hF b, kr.E F hF f with | some ma, some mb, some mf => cB3 F hF x p pos e b f hb hn.1 hn.2.1 hn.2.2 ma mb mf | _, _, _ => none) else none
        | [b, f, k] => if hn : x = "max" ∧ notStar e = true ∧ notStar b = true ∧ notStar f = true ∧ notStar k = true then (match kr.E F hF e, kr.E F hF b, kr.E F hF f, kr.E F hF k with
            | some ma, some mb, some mf, some mk => some ⟨.mx4 ma.1 mb.1 mf.1 mk.1, se_mx4 hF hn.1 (bi?_spec hb).1 (bi?_spec hb).2 hn.2.1 hn.2.2.1 hn.2.2.2.1 hn.2.2.2.2 ma.2 mb.2 mf.2 mk.2⟩
            | _, _, _, _ => none) else none
        | _ => none
      else none
  | _ => none
noncomputable def fEs (kr : CR) (F : Fx) (hF : F.cold = true) : (es : List Expr) → REs F es
  | [] => some ⟨.nil, ses_nil⟩
  | e :: r => if h : notStar e = true then match kr.E F hF e, kr.Es F hF r with
      | some me, some mr => some ⟨.cons me.1 mr.1, ses_cons h me.2 mr.2⟩
      | _, _ => none
    else none
noncomputable def fTs (kr : CR) (F : Fx) (hF : F.cold = true) : (es : List Expr) → Option { m : ME // STs F es m }
  | [] => some ⟨.tv (.bool true), sts_nil⟩
  | [e] => (kr.T F hF e).map fun m => ⟨m.1, sts_one m.2⟩
  | _ => none
noncomputable def fT (kr : CR) (F : Fx) (hF : F.cold = true) : (e : Expr) → RT F e
  | .Compare a [.Is] [.Constant .none _ _] _ => (kr.E F hF a).map fun ma => ⟨.tv (.isn ma.1 true), st_isn ma.2⟩
  | .Compare a [.IsNot] [.Constant .none _ _] _ => (kr.E F hF a).map fun ma => ⟨.tv (.isn ma.1 false), st_isnn ma.2⟩
  | .Compare a [.In] [b] _ => if hm : behindInMarks .In b = false then match kr.E F hF a, kr.E F hF b with
    | some ma, some mb => some ⟨.tv (.inl ma.1 mb.1 true), st_in hm ma.2 mb.2⟩
    | _, _ => none
    else none
  | .Compare a [.NotIn] [b] _ => if hm : behindInMarks .NotIn b = false then match kr.E F hF a, kr.E F hF b with
    | some ma, some mb => some ⟨.tv (.inl ma.1 mb.1 false), st_nin hm ma.2 mb.2⟩
    | _, _ => none
    else none
  | .Compare a [o] [b] _ => match h : cmpOf o, kr.E F hF a, kr.E F hF b with
    | some bo, some ma, some mb => some ⟨.cmp bo ma.1 mb.1, st_cmp h ma.2 mb.2⟩
    | _, _, _ => none
  | .Compare a [o, q] [b, e] _ => match h : cmpOf o, h' : cmpOf q, kr.E F hF a, kr.E F hF b, kr.E F hF e with
    | some bo, some bq, some ma, some mb, some me => some ⟨.chain ma.1 bo mb.1 bq me.1, st_chain h h' ma.2 mb.2 me.2⟩
    | _, _, _, _, _ => none
  | .UnaryOp .Not a _ => (kr.T F hF a).map fun ma => ⟨.not ma.1, st_not ma.2⟩
  | .BoolOp o es pos => (kr.TB F hF o es pos).map fun m => ⟨m.1, st_of m.2⟩
  | .IfExp a b e _ => match kr.T F hF a, kr.T F hF b, kr.T F hF e with
    | some ma, some mb, some me => some ⟨.ite ma.1 mb.1 me.1, st_ite ma.2 mb.2 me.2⟩
    | _, _, _ => none
  | e => if h : plainTest e = true then (kr.E F hF e).map fun m => ⟨.tv m.1, st_tv h m.2⟩ else none
noncomputable def fTB (kr : CR) (F : Fx) (hF : F.cold = true) : (o : BoolOp) → (es : List Expr) → (pos : Pos) → RTB F o es pos
  | .And, [a], pos => (kr.T F hF a).map fun m => ⟨m.1, stb_and_one m.2⟩
  | .Or, [a], pos => (kr.T F hF a).map fun m => ⟨m.1, stb_or_one m.2⟩
  | .And, a :: r, pos => match kr.T F hF a, kr.TB F hF .And r pos with
    | some ma, some mr => some ⟨.and ma.1 mr.1, stb_and ma.2 mr.2⟩
    | _, _ => none
  | .Or, a :: r, pos => match kr.T F hF a, kr.TB F hF .Or r pos with
    | some ma, some mr => some ⟨.or ma.1 mr.1, stb_or ma.2 mr.2⟩
    | _, _ => none
  | _, _, _ => none
noncomputable def CR0 : CR where
  C _ _ _ _ _ _ _ _ _ := none
  E _ _ _ := none
  Es _ _ _ := none
  Ts _ _ _ := none
  T _ _ _ := none
  TB _ _ _ _ _ := none
noncomputable def CRs (kr : CR) : CR where
  C := fC kr
  E := fE kr
  Es := fEs kr
  Ts := fTs kr
  T := fT kr
  TB := fTB kr
noncomputable def CRn (n : Nat) : CR := Nat.rec CR0 (fun _ kr => CRs kr) n
noncomputable def cE (F : Fx) (hF : F.cold = true) (n : Nat) : (e : Expr) → RE F e := (CRn n).E F hF
noncomputable def cEs (F : Fx) (hF : F.cold = true) (n : Nat) : (es : List Expr) → REs F es := (CRn n).Es F hF
noncomputable def cT (F : Fx) (hF : F.cold = true) (n : Nat) : (e : Expr) → RT F e := (CRn n).T F hF
noncomputable def cC (F : Fx) (hF : F.cold = true) (n : Nat) : (x : Str) → (px : Pos) → (iter : Expr) → (ifs : List Expr) → (scope : Scope) → (pos : Pos) → (elt : Expr) → Option (RC F x (.Name x px) iter ifs scope pos elt) := (CRn n).C F hF
noncomputable abbrev RS (F : Fx) (st : Stmt) := Option { m : MS // SS F st m }
noncomputable abbrev RB (F : Fx) (b : List Stmt) := Option { m : MS // SB F b m }
theorem or7 {b : BOp} (h : (b == .add || b == .sub || b == .mul || b == .fdiv || b == .mod || b == .shr || b == .band) = true) : b = .add ∨ b = .sub ∨ b = .mul ∨ b = .fdiv ∨ b = .mod ∨ b = .shr ∨ b = .band := by
  cases b <;> simp_all <;> revert h <;> decide
noncomputable def isTup : Expr → Bool
  | .Tuple .. => true
  | _ => false
theorem isTup_ne {e : Expr} (h : isTup e = false) : ∀ vs k' p', e ≠ .Tuple vs k' p' := by
  intro vs k p q; subst q; cases h
set_option genInjectivity false in
structure SR where
  S : (F : Fx) → F.cold = true → (st : Stmt) → RS F st
  SB : (F : Fx) → F.cold = true → (b : List Stmt) → RB F b
noncomputable def fS (kr : SR) (F : Fx) (hF : F.cold = true) : (st : Stmt) → RS F st
  | .Assign [.Name x p] e pos => match h : loc? F x with
    | some i => if hc : compE e = false then (cE F hF 60 e).map fun m => ⟨.asg i m.1, ss_asg (loc?_spec h).1 (loc?_spec h).2.1 hc m.2⟩
      else (match e with
        | .ListComp elt [⟨.Name y px, iter, ifs, 0⟩] scope cpos => if hs : F.top = true ∧ swapB F x p scope cpos = true then (match cC F hF 60 y px iter ifs scope cpos elt with
            | some c => some ⟨.asg i c.m, ss_asgX c.co hs.1 c.hse c.run (loc?_spec h).1 (loc?_spec h).2.1 hs.2⟩
            | none => none) else none
        | _ => none)
    | none => match h : locC? F x with
      | some i => (cE F hF 60 e).map fun m => ⟨.casg i m.1, ss_casgX (locC?_spec h).1 (locC?_spec h).2.1 m.2⟩
      | none => none
  | .Assign [.Tuple ts k p] (.Tuple es k' p') pos => match ht : tgt? F ts with
    | some (xs, is) => if hl : ts.length = es.length ∧ es.length ≤ 100 then
        (match hs : swr F.sc ts es with
        | some none => (cEs F hF 60 es).map fun m => ⟨.asgN is m.1, ss_asgN (.inl hF) ht (.inl hs) hl.1 hl.2 m.2⟩
        | some (some ys) => if hy : ys = xs ∧ is.Nodup then (cEs F hF 60 es).map fun m => ⟨.asgN is m.1, ss_asgN (.inl hF) ht (.inr ⟨by rw [hs, hy.1], hy.2⟩) hl.1 hl.2 m.2⟩ else none
        | none => none)
      else none
    | none => match ht : tgtC? F ts with
      | some is => if hl : swr F.sc ts es = some none ∧ ts.length = es.length ∧ es.length ≤ 100 then (cEs F hF 60 es).map fun m => ⟨.asgC is m.1, ss_asgC hF ht hl.1 hl.2.1 hl.2.2 m.2⟩ else none
      | none => none
  | .Assign [.Tuple ts k p] e pos => match ht : tgt? F ts with
    | some (xs, is) => if hc : compE e = false ∧ isTup e = false then (cE F hF 60 e).map fun m => ⟨.unp is m.1, ss_unp hF ht (isTup_ne hc.2) hc.1 m.2⟩ else none
    | none => match ht : tgtC? F ts with
      | some is => if hc : compE e = false ∧ isTup e = false then (cE F hF 60 e).map fun m => ⟨.unpC is m.1, ss_unpC hF ht (isTup_ne hc.2) hc.1 m.2⟩ else none
      | none => none
  | .Assign [.Subscript o i p] e pos => if hc : compE e = false then
      (match cE F hF 60 o, cE F hF 60 i, cE F hF 60 e with
      | some mo, some mi, some me => some ⟨.setI mo.1 mi.1 me.1, ss_setI hc me.2 mo.2 mi.2⟩
      | _, _, _ => none) else none
  | .AugAssign (.Name x p) o e pos => match h : loc? F x, ho : opOf o with
    | some i, some b => if hb : (b == .add || b == .sub || b == .mul || b == .fdiv || b == .mod || b == .shr || b == .band) = true then
        (cE F hF 60 e).map fun m => ⟨.aug i b m.1, ss_aug ho (or7 hb) (loc?_spec h).1 (loc?_spec h).2.1 m.2⟩ else none
    | _, _ => none
  | .If t a b pos => match cT F hF 60 t, kr.SB F hF a, kr.SB F hF b with
    | some mt, some ma, some mb => some ⟨.ite mt.1 ma.1 mb.1, ss_if mt.2 ma.2 mb.2⟩
    | _, _, _ => none
  | .While t a b pos => match cT F hF 60 t, kr.SB F hF a, kr.SB F hF b with
    | some mt, some ma, some mb => some ⟨.whil mt.1 ma.1 mb.1, ss_while mt.2 ma.2 mb.2⟩
    | _, _, _ => none
  | .Return (some e) pos => (cE F hF 60 e).map fun m => ⟨.ret m.1, ss_ret m.2⟩
  | .Break pos => some ⟨.brk, ss_brk⟩
  | .Expr e pos => if hc : compE e = false then (cE F hF 60 e).map fun m => ⟨.expr m.1, ss_expr hc m.2⟩ else none
  | .For (.Name x p) (.Call (.Name r pr) [a] [] pc) b [] pos => if hr : r = "range" then
      (match h : loc? F x with
      | some i => if hb : bi? F r = true ∧ notStar a = true then (match cE F hF 60 a, kr.SB F hF b with
          | some ma, some mb => some ⟨.forR i (.int 0) ma.1 (.int 1) mb.1, ss_forR1 (.inl hF) hr (bi?_spec hb.1).1 (bi?_spec hb.1).2 hb.2 ma.2 (loc?_spec h).1 (loc?_spec h).2.1 mb.2⟩
          | _, _ => none) else none
      | none => none)
      else (match h : loc? F x with
      | some i => (match cE F hF 60 (.Call (.Name r pr) [a] [] pc), kr.SB F hF b with
          | some ma, some mb => some ⟨.forL i ma.1 mb.1, ss_forL hF rfl ma.2 (loc?_spec h).1 (loc?_spec h).2.1 mb.2⟩
          | _, _ => none)
      | none => none)
  | .For (.Name x p) (.Call (.Name r pr) [a, e] [] pc) b [] pos => if hr : r = "range" then
      (match h : loc? F x with
      | some i => if hb : bi? F r = true ∧ notStar a = true ∧ notStar e = true then (match cE F hF 60 a, cE F hF 60 e, kr.SB F hF b with
          | some ma, some me, some mb => some ⟨.forR i ma.1 me.1 (.int 1) mb.1, ss_forR2 (.inl hF) hr (bi?_spec hb.1).1 (bi?_spec hb.1).2 hb.2.1 ma.2 hb.2.2 me.2 (loc?_spec h).1 (loc?_spec h).2.1 mb.2⟩
          | _, _, _ => none) else none
      | none => none)
      else none
  | .For (.Name x p) (.Call (.Name r pr) [a, e, f] [] pc) b [] pos => if hr : r = "range" then
      (match h : loc? F x with
      | some i => if hb : bi? F r = true ∧ notStar a = true ∧ notStar e = true ∧ notStar f = true then (match cE F hF 60 a, cE F hF 60 e, cE F hF 60 f, kr.SB F hF b with
          | some ma, some me, some mf, some mb => some ⟨.forR i ma.1 me.1 mf.1 mb.1, ss_forR3 (.inl hF) hr (bi?_spec hb.1).1 (bi?_spec hb.1).2 hb.2.1 ma.2 hb.2.2.1 me.2 hb.2.2.2 mf.2 (loc?_spec h).1 (loc?_spec h).2.1 mb.2⟩
          | _, _, _, _ => none) else none
      | none => none)
      else none
  | .For (.Name x p) it b [] pos => if hs : setE it = false then
      (match h : loc? F x with
      | some i => (match cE F hF 60 it, kr.SB F hF b with
          | some ma, some mb => some ⟨.forL i ma.1 mb.1, ss_forL hF hs ma.2 (loc?_spec h).1 (loc?_spec h).2.1 mb.2⟩
          | _, _ => none)
      | none => none)
      else none
  | .Raise .. => some ⟨.stop, ss_stop⟩
  | _ => none
noncomputable def fSB (kr : SR) (F : Fx) (hF : F.cold = true) : (b : List Stmt) → RB F b
  | [] => some ⟨.skip, sb_nil⟩
  | st :: r => match kr.S F hF st, kr.SB F hF r with
    | some m, some mr => some ⟨.seq m.1 mr.1, sb_cons m.2 mr.2⟩
    | _, _ => none
noncomputable def SR0 : SR where
  S _ _ _ := none
  SB _ _ _ := none
noncomputable def SRs (kr : SR) : SR where
  S := fS kr
  SB := fSB kr
noncomputable def SRn (n : Nat) : SR := Nat.rec SR0 (fun _ kr => SRs kr) n
noncomputable def cSB (F : Fx) (n : Nat) (b : List Stmt) : RB F b := if hF : F.cold = true then (SRn n).SB F hF b else none
noncomputable def namesOf (sc : Scope) : List Str := sc.names.filterMap fun (x, k) => if k == .local || k == .cell then some x else none
noncomputable abbrev mkF (g : G) (gt : List (Str × Addr)) (bt : List Str) (f : Addr) (tr : Bool := false) (cold : Bool := true) (hot : Bool := false) (gc : Option (Addr × Addr) := none) : Fx := ⟨g, gt, bt, namesOf (fnAt g.K f).scope, (fnAt g.K f).scope, true, tr, cold, hot, gc⟩
theorem sb_of {F : Fx} {b : List Stmt} {n : Nat} {ms : MS} (h : (cSB F n b).map (fun m => m.1) = some ms) : SB F b ms := by
  cases q : cSB F n b with
  | none => rw [q] at h; cases h
  | some m => rw [q] at h; simp only [Option.map_some, Option.some.injEq] at h; exact h ▸ m.2
noncomputable def gtB (K : Frag) (gt : List (Str × Addr)) : Bool := gt.all fun p => (match nsIn K mainGlobals p.1 with | some (some (.ref a)) => a == p.2 | _ => false) && keepIn K (.ref p.2)
noncomputable def btB (K : Frag) (bt : List Str) : Bool := bt.all fun x => (match nsIn K mainGlobals x with | some Option.none => true | _ => false)
theorem lookup_mem {x : Str} {a : Addr} : ∀ {l : List (Str × Addr)}, l.lookup x = some a → (x, a) ∈ l
  | [], h => by cases h
  | (y, b) :: r, h => by
    rw [List.lookup_cons] at h
    cases q : x == y with
    | true => rw [q] at h; cases h; rw [beq_iff_eq.mp q]; exact .head _
    | false => rw [q] at h; exact .tail _ (lookup_mem h)
theorem gt_at {o : Option (Option Value)} {b : Addr} (h : (match o with | some (some (.ref a)) => a == b | _ => false) = true) : o = some (some (.ref b)) := by
  rcases o with _ | _ | v
  · exact Bool.noConfusion (h : false = true)
  · exact Bool.noConfusion (h : false = true)
  · cases v <;> first | exact Bool.noConfusion (h : false = true) | rw [eq_of_beq h]
theorem bt_at {o : Option (Option Value)} (h : (match o with | some none => true | _ => false) = true) : o = some none := by
  rcases o with _ | _ | v
  · exact Bool.noConfusion (h : false = true)
  · rfl
  · exact Bool.noConfusion (h : false = true)
theorem fok {g : G} {gt : List (Str × Addr)} {bt : List Str} {names : List Str} {sc : Scope} (h1 : gtB g.K gt = true) (h2 : btB g.K bt = true) (h3 : ndB names = true) {tr cold hot : Bool} {gc : Option (Addr × Addr)} (h4 : tr = true → catchOk g) : Fx.Ok ⟨g, gt, bt, names, sc, true, tr, cold, hot, gc⟩ where
  tr := h4
  gt := fun x a h => by
    have := List.all_eq_true.mp h1 _ (lookup_mem h)
    rw [Bool.and_eq_true] at this
    exact ⟨gt_at this.1, this.2⟩
  bt := fun x h => bt_at (List.all_eq_true.mp h2 _ h)
  nd := ndB_nodup h3
noncomputable def Upto (S : List Addr) (hp hp' : HP) : Prop := ∀ b, b ∉ S → ∀ o, hp b = some o → hp' b = some o
theorem Upto.refl {S hp} : Upto S hp hp := fun _ _ _ h => h
theorem Upto.trans {S hp h1 h2} (a : Upto S hp h1) (b : Upto S h1 h2) : Upto S hp h2 := fun x hx o h => b x hx o (a x hx o h)
theorem Upto.new {S hp r o} (h : hp r = none) : Upto S hp (hset hp r o) := fun x _ o' e => by rw [hset_ne (fun q => by rw [q, h] at e; cases e)]; exact e
theorem Upto.set {S hp r o} (h : r ∈ S) : Upto S hp (hset hp r o) := fun x hx o' e => by rw [hset_ne (fun q => hx (by rw [q]; exact h))]; exact e
theorem Upto.mono {S T hp hp'} (a : Upto S hp hp') (h : ∀ x ∈ S, x ∈ T) : Upto T hp hp' := fun x hx o e => a x (fun q => hx (h x q)) o e
theorem Upto.at {S hp hp' a o} (u : Upto S hp hp') (h : hp a = some o) (hn : a ∉ S := by simp) : hp' a = some o := u a hn o h
theorem ne_of_none {hp : HP} {a b : Addr} {o : O} (h : hp a = none) (h' : hp b = some o) : b ≠ a := fun e => by rw [e, h] at h'; cases h'
theorem turnNil {g g' h : Heap} {L : Addr} {m : Str → Option Value} (T : KtsTurn [] g g') (F : Fr g' L h m) : Fr g L h m :=
  ⟨F.ns, fun b o e => F.keep b o (T.other b o e (by simp)), by rw [← T.size]; exact F.above⟩
noncomputable def hp0 (b P : Addr) (ns : List Int) : HP := fun c => if c = b then some (.ro (ns.map .int)) else if c = P then some .tab else none
theorem law_endG {prog : Program} {w : World} {K : Frag} {p : Program} {loose : List Str} {mean : ExcName → Option Value} {mg mb : Str → Option Value} {gt : List (Str × Addr)} {bt : List Str} {f : Addr} {tr : Bool}
    (FO : Fx.Ok (mkF ⟨prog, w, K, p, loose, mean, mg, mb⟩ gt bt f tr)) {body : List Stmt} {ms : MS} (hb : SB (mkF ⟨prog, w, K, p, loose, mean, mg, mb⟩ gt bt f tr) body ms)
    {s₁ : Shared} {h₁ : Heap} {tk : Nat} {qn : Str} {sc : Scope} {fa : Addr} {cd : Value} {m : Str → Option Value} {a : Addr} {vs : List Value} {ns : List Int} {cells : List (Addr × Obj)} {c0 P0 : Addr}
    (T : Top p loose mean mg mb s₁.heap) (KX : K.In s₁.heap) (hT : TabsAt [(c0, P0)] s₁.heap) (hnt : noTabs K = true) (hgn : AllBare s₁.gens) (hF : Fr s₁.heap s₁.heap.objs.size h₁ m) (hN : News s₁.heap s₁.heap.objs.size h₁ cells) (hl : s₁.heap.IsList a vs.toArray) (hi : IntsAre vs ns)
    (hsc : sc = (fnAt K f).scope) (hk : sc.kind = .function) (hg : sc.isGenerator = false) (hc : sc.isCoroutine = false) (him : importsNone p = true) (htree : prog.given.tree = none)
    {x : Str} (hm : m = bindL (fun y => sc.names.lookup y) [(x, Value.ref a)] fun _ => none) (CA : CellsAre (bindC (fun y => sc.names.lookup y) [(x, Value.ref a)] fun _ => none) (cellsFrom (s₁.heap.objs.size + 1) sc.names []) cells)
    (hnm : (namesOf (fnAt K f).scope).take 1 = [x]) (hnl : ((namesOf (fnAt K f).scope).all fun x => (fnAt K f).scope.names.lookup x == some .local || (fnAt K f).scope.names.lookup x == some .cell) = true)
    {ps : V → List (Bool × V)} (hps : ∀ b, (cellKs (fnAt K f).scope (namesOf (fnAt K f).scope)).zip (unC (namesOf (fnAt K f).scope) [(x, V.ref b)]) = ps (.ref b))
    (hex : ∀ b, b ≠ P0 → enterC (ps (.ref b)) (hp0 b P0 ns) fun l h0 => exec ⟨prog, w, K, p, loose, mean, mg, mb⟩ 40 ms l h0 (fun o _ h => o = .ret (.bool true) ∧ h P0 = some .tab) noX)
    {Q : Flow → Shared → Prop} {E : Value → Shared → Prop} (hQ : ∀ h' tk' gn' m', Fr (ghostOf s₁.heap [(c0, P0)]) s₁.heap.objs.size h' m' → GrownAll [(c0, P0)] h' → AllBare gn' → Q (.ret (.bool true)) { s₁ with heap := h', toks := tk', gens := gn' }) :
    wpAny (model prog w) (callerA.deeper (envOfC qn sc s₁.heap.objs.size fa cd)) (execs body (envOfC qn sc s₁.heap.objs.size fa cd)) Q E { s₁ with heap := h₁, toks := tk } := by
  subst hsc
  have hP0 := (hT _ (.head _)).2
  have haP : a ≠ P0 := fun e => by
    refine Gen fun Gq9 back => ?_
    rcases hl with ⟨o, ho, hcl, _⟩
    refine back ?_
    clear back
    clear Gq9
    rw [e] at ho; rw [show s₁.heap.get? P0 = _ from hP0] at ho; cases ho; cases hcl
  let c : Cx := { g := ⟨prog, w, K, p, loose, mean, mg, mb⟩, A₀ := callerA, base := ghostOf s₁.heap [(c0, P0)], h₀ := ghostOf s₁.heap [(c0, P0)], outer := [], L := s₁.heap.objs.size, qn := qn, fsc := (fnAt K f).scope, fa := fa, cd := cd, cl := cellsFrom (s₁.heap.objs.size + 1) (fnAt K f).scope.names [], cp := none }
  have hseer : (ghostOf s₁.heap [(c0, P0)]).NoSeer := by
    have S := T.seer him
    exact ⟨let ⟨mc, a, b⟩ := S.statics; ⟨mc, ghost_ns hT a, b⟩, let ⟨mm, a, b⟩ := S.mods; ⟨mm, ghost_ns hT a, b⟩, let ⟨mb, a, b⟩ := S.imp; ⟨mb, ghost_ns hT a, b⟩,
      let ⟨mg, bm, ob, a, b, c, d, e⟩ := S.main; ⟨mg, bm, ob, ghost_ns hT a, b, ghost_get hT c (fun q => by rw [q] at d; cases d), d, e⟩⟩
  have hTop : TopW p loose mean mg mb (ghostOf s₁.heap [(c0, P0)]) :=
    ⟨⟨ghost_ns hT T.g, ghost_ns hT T.b, let ⟨mc, a, r⟩ := T.nolimit; ⟨mc, ghost_ns hT a, r⟩, T.builtins, T.free⟩, let ⟨mc, a, r⟩ := T.nodigits; ⟨mc, ghost_ns hT a, r⟩, let ⟨bm, ob, a1, a2, a3, a4, r⟩ := T.bmain; ⟨bm, ob, a1, a2, ghost_get hT a3 (fun q => by rw [q] at a4; cases a4), a4, r⟩⟩
  have ok : c.Ok := ⟨ghost_below hT, ghost_K hT KX hnt, hTop, ktsDicts_nil, hk, hk, hg, hc, hseer, htree⟩
  have hv := ints_abs hi
  have H : HpN c (hp0 a P0 ns) [(P0, tabObj #[])] := by
    refine ⟨⟨[a, P0], fun b o h => ?_⟩, fun b o h => ?_⟩
    · unfold hp0 at h
      by_cases q : b = a
      · simp [q]
      · by_cases q2 : b = P0
        · simp [q2]
        · simp [q, q2] at h
    · unfold hp0 at h
      by_cases q : b = a
      · simp only [q, if_true, Option.some.injEq] at h
        subst h; subst q
        exact ⟨vs.toArray, ghost_list hT hl, by simpa using hv⟩
      · by_cases q2 : b = P0
        · simp only [q, q2, if_true, if_false] at h
          rw [if_neg (fun e => q (q2.trans e))] at h
          cases h
          subst q2
          exact ⟨_, .head _, #[], rfl, trivial⟩
        · simp [q, q2] at h
  obtain ⟨l', hp1, hx1, R'⟩ := enter_rep (F := mkF ⟨prog, w, K, p, loose, mean, mg, mb⟩ gt bt f tr) FO hgn (c' := c) (sc := (fnAt K f).scope) (L' := s₁.heap.objs.size) (binds := [(x, Value.ref a)]) (bargs := [(x, V.ref a)]) (fr := []) (news0 := [(P0, tabObj #[])]) rfl rfl rfl rfl rfl hm rfl (ghost_fr hT hF) (by rw [List.append_nil]; exact ghost_news hT hF hN) CA H
    (fun p hp => ghost_lt hT hF p (by rw [List.append_nil] at hp; exact hp)) (fun _ h => nomatch h) (fun _ _ e => e) rfl (by simpa using hnm)
    (fun x hx => by have := List.all_eq_true.mp hnl x hx; simpa using this) (by rw [hps]; exact hex a haP)
  refine hb c 40 FO rfl ⟨rfl, fun _ => rfl, fun _ hc => cellsFrom_none hc, fun _ => rfl, fun q => (by injection q), fun _ e => (nomatch e)⟩ ok ⟨(by show callerA.depth + 1 + 40 + 200 < recursionLimit; decide), (by show callerA.units + 3 + 8 * 40 + 200 < cLine; decide)⟩ l' hp1 _ noX hx1 rfl [] _ _ _ R' (fun o f l' hp' h' tk' gn' ho hf R' => ?_) fun _ => noXP
  obtain ⟨rfl, htab⟩ := ho
  cases f <;> first | exact hf.elim | skip
  cases absV_bool hf
  refine Gen fun Gq9 back => ?_
  rcases R' with ⟨g, T, m', F', _, H', _⟩
  refine back ?_
  clear back
  clear Gq9
  refine Gen fun Gq9 back => ?_
  rcases H'.2 _ _ htab with ⟨ob, hob, ⟨ps, hz35, _⟩, _⟩
  refine back ?_
  clear back
  clear Gq9
  subst hz35
  exact hQ h' tk' gn' m' (turnNil (g' := g) T.toKtsTurn F') ⟨⟨ps, hob⟩, trivial⟩ T.bare
theorem goodG {cw : ClaimW} {cl : Str → Option Addr} {mean : ExcName → Option Value} {args : List WData} {s₁ s' : Shared} {L : Addr} {m : Str → Option Value} {c0 P0 : Addr} (hT : TabsAt [(c0, P0)] s₁.heap)
    (F : Fr (ghostOf s₁.heap [(c0, P0)]) L s'.heap m) (hgr : GrownAll [(c0, P0)] s'.heap) (hgn : AllBare s'.gens) {b : Bool} (hn : ∀ cls, cw.raises args cls = false) (hp : cw.post args (.bool b) args = true) (hos : s'.os = s₁.os := by rfl) :
    GoodWG cw cl mean args s₁ (.ok (.ret (.bool b))) s' := by
  have keep : ∀ b o, b ≠ P0 → s₁.heap.get? b = some o → s'.heap.get? b = some o := fun b o hb e => F.keep b o (ghost_ne e (by simpa using hb))
  obtain ⟨⟨ps, hP⟩, _⟩ := hgr
  have hP0 := (hT _ (.head _)).2
  have hcd := ((hT _ (.head _)).1.tab hP0).isCodeTable
  refine ⟨.inl ⟨.bool b, .bool b, [], rfl, hn, .bool b, hp, fun _ => ⟨List.nodup_nil, fun _ h => nomatch h⟩⟩, ⟨fun b o e => ?_, fun b o e => ?_⟩, hos, hgn⟩
  · by_cases hb : b = P0
    · subst hb
      rw [show s₁.heap.get? b = _ from hP0] at e
      cases e
      exact .inr (.inl ⟨hcd, rfl, #[], ps, rfl, by rw [Array.empty_append]; exact hP⟩)
    · exact .inl (keep b o hb e)
  · by_cases hb : b = P0
    · subst hb; exact ⟨_, hP⟩
    · exact ⟨o, keep b o hb e⟩
noncomputable def Pool (hp : HP) (p r : Addr) : Prop :=
  ∃ (x y : Int) (ns : List Int), hp p = some (.list [.int x, .int y, .ref r]) ∧ hp r = some (.list (ns.map .int)) ∧ p ≠ r ∧ 0 ≤ x ∧ 0 ≤ y ∧ ns.length < 1000
theorem Pool.up {S hp hp' p r} (P : Pool hp p r) (u : Upto S hp hp') (h1 : p ∉ S := by simp) (h2 : r ∉ S := by simp) : Pool hp' p r := by
  refine Gen fun Gq9 back => ?_
  rcases P with ⟨x, y, ns, a, b, c⟩
  refine back ?_
  clear back
  clear Gq9
  exact ⟨x, y, ns, u.at a h1, u.at b h2, c⟩
theorem mul_small_left {a b : Int} (h : a.natAbs < 2 ^ 64) : IntMulOk a b := IntMulOk.of_left (PySem.intBits_le_64 (by (first | lia | omega)) (by (first | lia | omega)))
theorem mul_small_right {a b : Int} (h : b.natAbs < 2 ^ 64) : IntMulOk a b := IntMulOk.of_right (PySem.intBits_le_64 (by (first | lia | omega)) (by (first | lia | omega)))
theorem rdL_ints {hp : HP} : ∀ (ns : List Int), RdL hp (ns.map .int) (ns.map .int)
  | [] => .nil
  | n :: r => .cons (.int n) (rdL_ints r)
theorem Upto.at' {S hp a o q x} (_u : Upto S hp (hset hp q x)) (h : hp a = some o) (hn : a ≠ q) : hset hp q x a = some o := by rw [hset_ne hn]; exact h
theorem idxE {v w : V} {hp : HP} {Q : V → Prop} {a : Addr} {k : Int} {vs : List V} {x : V} (hv : v = .ref a) (hw : w = .int k) (e : itemsOf (hp a) = some vs) (hfit : vs.length < 2 ^ 62) (h0 : 0 ≤ k) (hx : vs[k.toNat]? = some x) (h : Q x) : idxV v w hp Q := by
  subst hv; subst hw
  have hl : k.toNat < vs.length := by
    rcases Nat.lt_or_ge k.toNat vs.length with q | q
    · exact q
    · rw [List.getElem?_eq_none q] at hx; cases hx
  refine ⟨vs, x, e, by (first | lia | omega), by (first | lia | omega), by (first | lia | omega), ?_, h⟩
  rw [if_neg (by (first | lia | omega))]; exact hx
/-! plain facts -/
noncomputable def Bd (k : Nat) (x : Int) : Prop := x.natAbs < 2 ^ k
theorem Bd.mono {k j : Nat} {x : Int} (h : Bd k x) (hj : k ≤ j) : Bd j x := Nat.lt_of_lt_of_le h (Nat.pow_le_pow_right (by (first | lia | omega)) hj)
theorem Bd.mul {k j : Nat} {x y : Int} (h : Bd k x) (h' : Bd j y) : Bd (k + j) (x * y) := by
  unfold Bd at *
  rw [Int.natAbs_mul, Nat.pow_add]
  exact Nat.mul_lt_mul'' h h'
theorem Bd.neg {k : Nat} {x : Int} (h : Bd k x) : Bd k (-x) := by unfold Bd at *; rw [Int.natAbs_neg]; exact h
theorem Bd.add {k : Nat} {x y : Int} (h : Bd k x) (h' : Bd k y) : Bd (k + 1) (x + y) := by
  unfold Bd at *
  have := Int.natAbs_add_le x y
  rw [Nat.pow_succ]; (first | lia | omega)
theorem Bd.sub {k : Nat} {x y : Int} (h : Bd k x) (h' : Bd k y) : Bd (k + 1) (x - y) := by
  rw [Int.sub_eq_add_neg]; exact h.add h'.neg
theorem Bd.le {k : Nat} {x y : Int} (h : Bd k y) (hx : x.natAbs ≤ y.natAbs) : Bd k x := Nat.lt_of_le_of_lt hx h
theorem Bd.bits {k : Nat} {x : Int} (h : Bd k x) : Builtin.Int.intBits x ≤ k := by
  unfold Builtin.Int.intBits
  split
  · (first | lia | omega)
  · rename_i hx
    have h0 : x.natAbs ≠ 0 := by simpa using hx
    have := (Nat.log2_lt h0).mpr h
    (first | lia | omega)
theorem mulOk_bits {a b : Int} (h : Builtin.Int.intBits a + Builtin.Int.intBits b ≤ 2 ^ 27) : IntMulOk a b := by
  unfold IntMulOk Builtin.Int.intTooBig bitsLine
  simp only [Bool.and_eq_true, decide_eq_true_eq, not_and]
  intro _ h'
  (first | lia | omega)
theorem Bd.mulOk {k j : Nat} {a b : Int} (h : Bd k a) (h' : Bd j b) (hk : k + j ≤ 2 ^ 27 := by decide) : IntMulOk a b :=
  mulOk_bits (Nat.le_trans (Nat.add_le_add h.bits h'.bits) hk)
/-! loops -/
theorem forUp {turn : List V → HP → (Out → List V → HP → Prop) → Prop} {i : Nat} {lo hi : Int} {l : List V} {hp : HP} {Q : Out → List V → HP → Prop} (n : Nat) (hn : n = (hi - lo).toNat) (I : Nat → List V → HP → Prop)
    (h0 : I 0 l hp) (step : ∀ k l h, k < n → I k l h → turn (lset l i (.int (lo + k))) h (fun o l2 h2 => match o with | .next => I (k + 1) l2 h2 | .brk => Q .next l2 h2 | .ret v => Q (.ret v) l2 h2))
    (fin : ∀ l h, I n l h → Q .next l h) :
    forIn turn i ((List.range (Builtin.Range.rangeSize lo hi 1).toNat).map fun (k : Nat) => V.int (lo + k * 1)) l hp (fun _ => True) Q := by
  have hsz : (Builtin.Range.rangeSize lo hi 1).toNat = n := by rw [rangeSize_one]; split <;> (first | lia | omega)
  rw [hsz]
  refine ⟨I, h0, fun k x l h hx hI => ?_, fun l h hI => ⟨trivial, fin l h (by simpa using hI)⟩⟩
  have hk : k < n := by
    rcases Nat.lt_or_ge k n with q | q
    · exact q
    · rw [List.getElem?_eq_none (by simpa using q)] at hx; cases hx
  simp only [List.getElem?_map, List.getElem?_range hk, Option.map_some, Option.some.injEq, Int.mul_one] at hx
  subst hx
  exact ⟨trivial, step k l h hk hI⟩
/-! data -/
/-! what a comparison says -/
theorem ceq_t {a b : Int} : cmpI a b .eq = true ↔ a = b := by simp [cmpI]
theorem ceq_f {a b : Int} : cmpI a b .eq = false ↔ a ≠ b := by simp [cmpI]
theorem cne_t {a b : Int} : cmpI a b .ne = true ↔ a ≠ b := by simp [cmpI]
theorem cne_f {a b : Int} : cmpI a b .ne = false ↔ a = b := by simp [cmpI]
theorem clt_t {a b : Int} : cmpI a b .lt = true ↔ a < b := by simp [cmpI]
theorem clt_f {a b : Int} : cmpI a b .lt = false ↔ b ≤ a := by simp [cmpI]
theorem cgt_t {a b : Int} : cmpI a b .gt = true ↔ b < a := by simp [cmpI]
theorem cgt_f {a b : Int} : cmpI a b .gt = false ↔ a ≤ b := by simp [cmpI]
theorem cge_t {a b : Int} : cmpI a b .ge = true ↔ b ≤ a := by simp [cmpI]
theorem cge_f {a b : Int} : cmpI a b .ge = false ↔ a < b := by simp [cmpI]
theorem tru_t {a : Int} : ((a != 0) = true) ↔ a ≠ 0 := by simp
theorem tru_f {a : Int} : ((a != 0) = false) ↔ a = 0 := by simp
theorem not_t {b : Bool} : ((!b) = true) ↔ b = false := by simp
theorem not_f {b : Bool} : ((!b) = false) ↔ b = true := by simp
theorem Bd.abs {k : Nat} {x : Int} : Bd k x ↔ x.natAbs < 2 ^ k := .rfl
/-! the logarithm -/
structure LogOf (n b l : Nat) : Prop where
  two : 2 ≤ b
  lo : b ^ l ≤ n
  hi : n < b ^ (l + 1)
theorem LogOf.n1 {n b l : Nat} (h : LogOf n b l) : 1 ≤ n := Nat.le_trans (Nat.pow_pos (by have := h.two; (first | lia | omega))) h.lo
theorem Upto.fresh {S : List Addr} {hp h : HP} {r : Addr} {o : O} (u : Upto S hp h) (n : hp r = none) : Upto S hp (hset h r o) := fun x hx o' e => by
  rw [hset_ne (fun q => by rw [q, n] at e; cases e)]; exact u x hx o' e
/-! the square root -/
theorem compUp {test : List V → HP → (Bool → HP → Prop) → Prop} {elt : List V → HP → (V → HP → Prop) → Prop} {new : V → (List V → Prop) → HP → Prop} {lo hi : Int} {hp : HP} {Q : V → HP → Prop} (n : Nat) (hn : n = (hi - lo).toNat) (I : Nat → List V → HP → Prop) (h0 : I 0 [] hp)
    (step : ∀ k acc h, k < n → I k acc h → acc.length ≤ sizeLine ∧ new (.int (lo + k)) (fun l => test l h fun t h1 => (t = true → elt l h1 fun v h2 => I (k + 1) (acc ++ [v]) h2) ∧ (t = false → I (k + 1) acc h1)) h)
    (fin : ∀ acc h, I n acc h → newV h (.list acc) Q) :
    compI test elt new ((List.range (Builtin.Range.rangeSize lo hi 1).toNat).map fun (k : Nat) => V.int (lo + k * 1)) hp (fun _ => True) Q := by
  have hsz : (Builtin.Range.rangeSize lo hi 1).toNat = n := by rw [rangeSize_one]; split <;> (first | lia | omega)
  rw [hsz]
  refine ⟨I, h0, fun k x acc h hx hI => ?_, fun acc h hI => ⟨trivial, fin acc h (by simpa using hI)⟩⟩
  have hk : k < n := by
    rcases Nat.lt_or_ge k n with q | q
    · exact q
    · rw [List.getElem?_eq_none (by simpa using q)] at hx; cases hx
  simp only [List.getElem?_map, List.getElem?_range hk, Option.map_some, Option.some.injEq, Int.mul_one] at hx
  subst hx
  exact ⟨trivial, step k acc h hk hI⟩
/-! great numbers, drawn -/
set_option genInjectivity false in
structure HB where
  prog : Program
  w : World
  K : Frag
  p : Program
  lo : List Str
  gt : List (Str × Addr)
  bt : List Str
noncomputable abbrev HB.gm (b : HB) (mean : ExcName → Option Value) (mg mb : Str → Option Value) : G := ⟨b.prog, b.w, b.K, b.p, b.lo, mean, mg, mb⟩
noncomputable def HB.Fn (b : HB) (a : Addr) (names : List Str) (np : Nat) (ms : MS) : Prop :=
  fnOkB b.K a = true ∧ (∀ mean mg mb, (cSB (mkF (b.gm mean mg mb) b.gt b.bt a) 60 (bodyAt b.K a)).map (fun m => m.1) = some ms) ∧
    namesOf (fnAt b.K a).scope = names ∧ ndB names = true ∧ ((names.take np).all fun x => (fnAt b.K a).scope.names.lookup x == some .local) = true
noncomputable def BindN (K : Frag) (a : Addr) (xs : List Str) : Nat → List Value → Prop
  | 0, acc => bindArgs (fnAt K a) ⟨acc, []⟩ = pure (xs.zip acc)
  | n + 1, acc => ∀ v, BindN K a xs n (acc ++ [v])
theorem BindN.get {K : Frag} {a : Addr} {xs : List Str} : ∀ {n : Nat} {acc : List Value}, BindN K a xs n acc → ∀ vals : List Value, vals.length = n → bindArgs (fnAt K a) ⟨acc ++ vals, []⟩ = pure (xs.zip (acc ++ vals)) := by
  intro n
  induction n with
  | zero =>
    intro acc h vals hl
    cases vals with
    | nil => rw [List.append_nil]; exact h
    | cons _ _ => injection hl
  | succ n ih =>
    intro acc h vals hl
    cases vals with
    | nil => injection hl
    | cons v vs =>
      have := ih (h v) vs (Nat.succ.inj hl)
      rwa [List.append_assoc] at this
noncomputable def afterLoad {α : Type} (t : Sem α) (T : Addr) (o : Obj) : Option (Sem α) := match t with
  | .load a _ k => if a == T then some (k o) else none
  | _ => none
theorem BindsTo.of_load {s : Shared} {fd : FuncData} {args : Args} {binds : List (Str × Value)} {T : Addr} {o : Obj} (ho : s.heap.get? T = some o) (h : afterLoad (bindArgs fd args) T o = some (pure binds)) : BindsTo s fd args binds := fun M A E Q hq => by
  unfold afterLoad at h
  cases e : bindArgs fd args with
  | load a p k =>
    rw [e] at h
    by_cases ha : (a == T) = true
    · have h2 : (if (a == T) = true then some (k o) else none) = some (pure binds) := h
      rw [if_pos ha] at h2
      clear h
      cases eq_of_beq ha
      refine nd_load ho ?_
      rw [Option.some.inj h2]
      exact wpAny_pure hq
    · have h : (if (a == T) = true then some (k o) else none) = some (pure binds) := h
      rw [if_neg ha] at h
      injection h
  | _ => rw [e] at h; injection h
noncomputable abbrev tupO (items : Array Value) (k : Nat) : Obj := ⟨.type "tuple", none, .seq items k, #[]⟩
noncomputable def BindD (K : Frag) (a T : Addr) (xs : List Str) (o : Obj) (dv : List Value) : Nat → List Value → Prop
  | 0, acc => afterLoad (bindArgs (fnAt K a) ⟨acc, []⟩) T o = some (pure (xs.zip (acc ++ dv)))
  | n + 1, acc => ∀ v, BindD K a T xs o dv n (acc ++ [v])
theorem BindD.get {K : Frag} {a T : Addr} {xs : List Str} {o : Obj} {dv : List Value} : ∀ {n : Nat} {acc : List Value}, BindD K a T xs o dv n acc → ∀ vals : List Value, vals.length = n →
    afterLoad (bindArgs (fnAt K a) ⟨acc ++ vals, []⟩) T o = some (pure (xs.zip (acc ++ vals ++ dv))) := by
  intro n
  induction n with
  | zero =>
    intro acc h vals hl
    cases vals with
    | nil => rw [List.append_nil]; exact h
    | cons _ _ => injection hl
  | succ n ih =>
    intro acc h vals hl
    cases vals with
    | nil => injection hl
    | cons v vs =>
      have := ih (h v) vs (Nat.succ.inj hl)
      rwa [List.append_assoc] at this
noncomputable def BindK (K : Frag) (a T : Addr) (xs : List Str) (o : Obj) (kw : Str) : Nat → List Value → Prop
  | 0, acc => ∀ vk, afterLoad (bindArgs (fnAt K a) ⟨acc, [(kw, vk)]⟩) T o = some (pure (xs.zip (acc ++ [vk])))
  | n + 1, acc => ∀ v, BindK K a T xs o kw n (acc ++ [v])
theorem BindK.get {K : Frag} {a T : Addr} {xs : List Str} {o : Obj} {kw : Str} : ∀ {n : Nat} {acc : List Value}, BindK K a T xs o kw n acc → ∀ vals : List Value, vals.length = n → ∀ vk,
    afterLoad (bindArgs (fnAt K a) ⟨acc ++ vals, [(kw, vk)]⟩) T o = some (pure (xs.zip (acc ++ vals ++ [vk]))) := by
  intro n
  induction n with
  | zero =>
    intro acc h vals hl
    cases vals with
    | nil => rw [List.append_nil]; exact h
    | cons _ _ => injection hl
  | succ n ih =>
    intro acc h vals hl
    cases vals with
    | nil => injection hl
    | cons v vs =>
      have := ih (h v) vs (Nat.succ.inj hl)
      rwa [List.append_assoc] at this
theorem zipAbs (xs : List Str) (vals : List Value) : ((xs.zip vals).map fun p => (p.1, absV p.2)) = xs.zip (vals.map absV) := by
  rw [List.zip_map_right]; rfl
theorem binds0 {b : HB} {a : Addr} {xs : List Str} {np : Nat} (B : BindN b.K a xs np []) {mean mg mb} {args : List V} (hl : args.length = np) : Binds (b.gm mean mg mb) a args [] (xs.zip args) := fun s vals kvals _ hv hkv => by
  obtain rfl : kvals = [] := by simpa using hkv
  subst hv
  exact ⟨xs.zip vals, BindsTo.of_eq (B.get vals (by simpa using hl)), zipAbs _ _⟩
theorem bindsD {b : HB} {a T : Addr} {xs : List Str} {o : Obj} {dv : List Value} {np : Nat} (D : b.K.lookup T = some o) (B : BindD b.K a T xs o dv np []) {mean mg mb} {args dva : List V} (hl : args.length = np)
    (hd : dv.map absV = dva) : Binds (b.gm mean mg mb) a args [] (xs.zip (args ++ dva)) := fun s vals kvals hK hv hkv => by
  obtain rfl : kvals = [] := by simpa using hkv
  subst hv; subst hd
  refine ⟨xs.zip (vals ++ dv), BindsTo.of_load (hK T _ D) (B.get vals (by simpa using hl)), ?_⟩
  rw [zipAbs, List.map_append]
theorem zip_fst {α β : Type} : ∀ {xs : List α} {ys : List β}, xs.length = ys.length → (xs.zip ys).map (·.1) = xs
  | [], [], _ => rfl
  | x :: xs, y :: ys, h => by rw [List.zip_cons_cons, List.map_cons, zip_fst (Nat.succ.inj h)]
theorem zip_snd {α β : Type} : ∀ {xs : List α} {ys : List β}, xs.length = ys.length → (xs.zip ys).map (·.2) = ys
  | [], [], _ => rfl
  | x :: xs, y :: ys, h => by rw [List.zip_cons_cons, List.map_cons, zip_snd (Nat.succ.inj h)]
theorem take_len {α : Type} : ∀ (n : Nat) (l : List α), l.take (l.take n).length = l.take n
  | 0, _ => rfl
  | _ + 1, [] => rfl
  | n + 1, x :: l => by rw [List.take_succ_cons, List.length_cons, List.take_succ_cons, take_len n l]
theorem callF {b : HB} (hgt : gtB b.K b.gt = true) (hbt : btB b.K b.bt = true) {a : Addr} {names xs : List Str} {np : Nat} {ms : MS} (F : b.Fn a names np ms) {mean mg mb} {args bv : List V} {kw : List (Str × V)}
    (B : Binds (b.gm mean mg mb) a args kw (xs.zip bv)) (hx : names.take np = xs) (hl : xs.length = bv.length) {d : Nat} {hp : HP} {Q : V → HP → Prop} {X : XC}
    (h : exec (b.gm mean mg mb) d ms (bv ++ List.replicate (names.length - xs.length) V.unb) hp (retQ Q) (upX X)) : Calls (b.gm mean mg mb) (d + 1) a args kw hp Q X := by
  refine Gen fun Gq9 back => ?_
  rcases F with ⟨h1, h2, h3, h4, h5⟩
  refine back ?_
  clear back
  clear Gq9
  subst h3; subst hx
  have hm : (((namesOf (fnAt b.K a).scope).take np).zip bv).length = ((namesOf (fnAt b.K a).scope).take np).length := by rw [List.length_zip, hl, Nat.min_self]
  refine calls_of rfl (fun _ e => nomatch e) (F := mkF (b.gm mean mg mb) b.gt b.bt a) (fok hgt hbt h4 fun h => nomatch h) h1 rfl (sb_of (h2 mean mg mb)) B ?_ ?_ ?_
  · rw [zip_fst hl, hm]; exact take_len _ _
  · have := h5
    rw [← zip_fst hl, List.all_map] at this
    exact this
  · rw [zip_snd hl, hm]; exact h
noncomputable def HB.FnG (b : HB) (a : Addr) (names : List Str) (np : Nat) (ks : List Bool) (ms : MS) (q : Addr × Addr) : Prop :=
  fnOkC b.K a names = true ∧ (∀ mean mg mb, (cSB (mkF (b.gm mean mg mb) b.gt b.bt a (gc := some q)) 60 (bodyAt b.K a)).map (fun m => m.1) = some ms) ∧
    namesOf (fnAt b.K a).scope = names ∧ ndB names = true ∧ ((names.take np).all fun x => (fnAt b.K a).scope.names.lookup x == some .local || (fnAt b.K a).scope.names.lookup x == some .cell) = true ∧
    cellKs (fnAt b.K a).scope names = ks ∧ (fnAt b.K a).code = .ref q.1
theorem callG {b : HB} (hgt : gtB b.K b.gt = true) (hbt : btB b.K b.bt = true) {a : Addr} {names xs : List Str} {np : Nat} {ks : List Bool} {ms : MS} {q : Addr × Addr} (F : b.FnG a names np ks ms q) {mean mg mb} {args bv : List V} {kw : List (Str × V)}
    (B : Binds (b.gm mean mg mb) a args kw (xs.zip bv)) (hx : names.take np = xs) (hl : xs.length = bv.length) {ps : List (Bool × V)} (hps : ks.zip (unC names (xs.zip bv)) = ps) {d : Nat} {hp : HP} {Q : V → HP → Prop} {X : XC}
    (h : enterC ps hp fun l h0 => exec (b.gm mean mg mb) d ms l h0 (retQ Q) noX) : Calls (b.gm mean mg mb) (d + 1) a args kw hp Q X := by
  refine Gen fun Gq9 back => ?_
  rcases F with ⟨h1, h2, h3, h4, h5, h6, h7⟩
  refine back ?_
  clear back
  clear Gq9
  subst h3; subst hx; subst h6
  have hm : (((namesOf (fnAt b.K a).scope).take np).zip bv).length = ((namesOf (fnAt b.K a).scope).take np).length := by rw [List.length_zip, hl, Nat.min_self]
  refine calls_ofC rfl (fun q' e => by cases e; exact h7) (F := mkF (b.gm mean mg mb) b.gt b.bt a (gc := some q)) (fok hgt hbt h4 fun h => nomatch h) h1 rfl (sb_of (h2 mean mg mb)) B ?_ ?_ ?_
  · rw [zip_fst hl, hm]; exact take_len _ _
  · have := h5
    rw [← zip_fst hl, List.all_map] at this
    exact this
  · show enterC ((cellKs _ (namesOf (fnAt b.K a).scope)).zip _) _ _
    rw [hps]; exact h
noncomputable def pp (Mo : Nat → Nat) : Nat → Nat
  | 0 => 1
  | i + 1 => pp Mo i * Mo i
theorem pp_dvd {Mo : Nat → Nat} {j : Nat} : ∀ {n : Nat}, j < n → Mo j ∣ pp Mo n
  | 0, h => absurd h (Nat.not_lt_zero _)
  | n + 1, h => by
    by_cases e : j = n
    · subst e; exact Nat.dvd_mul_left _ _
    · exact Nat.dvd_mul_right_of_dvd (pp_dvd (by (first | lia | omega))) _
theorem pp_cop {Mo : Nat → Nat} {m : Nat} : ∀ {n : Nat}, (∀ j, j < n → Nat.Coprime (Mo j) m) → Nat.Coprime (pp Mo n) m
  | 0, _ => Nat.coprime_one_left _
  | n + 1, h => Nat.Coprime.mul_left (pp_cop fun j hj => h j (by (first | lia | omega))) (h n (by (first | lia | omega)))
theorem pp_pos {Mo : Nat → Nat} : ∀ {n : Nat}, (∀ j, j < n → 0 < Mo j) → 0 < pp Mo n
  | 0, _ => Nat.one_pos
  | n + 1, h => Nat.mul_pos (pp_pos fun j hj => h j (by (first | lia | omega))) (h n (by (first | lia | omega)))
theorem pp_le {Mo : Nat → Nat} {k : Nat} : ∀ {n : Nat}, k ≤ n → (∀ j, j < n → 0 < Mo j) → pp Mo k ≤ pp Mo n
  | 0, hk, _ => by rw [Nat.le_zero.mp hk]; exact Nat.le_refl _
  | n + 1, hk, h => by
    by_cases e : k = n + 1
    · rw [e]; exact Nat.le_refl _
    · exact Nat.le_trans (pp_le (by (first | lia | omega)) fun j hj => h j (by (first | lia | omega))) (Nat.le_mul_of_pos_right _ (h n (by (first | lia | omega))))
theorem pp_congr {Mo Mo' : Nat → Nat} : ∀ {n : Nat}, (∀ j, j < n → Mo j = Mo' j) → pp Mo n = pp Mo' n
  | 0, _ => rfl
  | n + 1, h => by show pp Mo n * Mo n = pp Mo' n * Mo' n; rw [pp_congr fun j hj => h j (by (first | lia | omega)), h n (by (first | lia | omega))]
theorem pp_dvdZ {Mo : Nat → Nat} {z : Int} : ∀ {n : Nat}, (∀ i j, i < j → j < n → Nat.Coprime (Mo i) (Mo j)) → (∀ j, j < n → (Mo j : Int) ∣ z) → ((pp Mo n : Nat) : Int) ∣ z
  | 0, _, _ => ⟨z, by show z = ((1 : Nat) : Int) * z; (first | lia | omega)⟩
  | n + 1, hc, h => by
    have h1 := pp_dvdZ (n := n) (fun i j hij hj => hc i j hij (by (first | lia | omega))) fun j hj => h j (by (first | lia | omega))
    have h2 := h n (by (first | lia | omega))
    have hcp : Nat.Coprime (pp Mo n) (Mo n) := pp_cop fun j hj => hc j n hj (by (first | lia | omega))
    have h3 : pp Mo n ∣ z.natAbs := by have := Int.natAbs_dvd_natAbs.mpr h1; rwa [Int.natAbs_natCast] at this
    have h4 : Mo n ∣ z.natAbs := by have := Int.natAbs_dvd_natAbs.mpr h2; rwa [Int.natAbs_natCast] at this
    exact Int.natAbs_dvd_natAbs.mp (by rw [Int.natAbs_natCast]; exact Nat.Coprime.mul_dvd_of_dvd_of_dvd hcp h3 h4)
theorem pp_uniq {Mo : Nat → Nat} {n x y : Nat} {A : Nat → Int} (hc : ∀ i j, i < j → j < n → Nat.Coprime (Mo i) (Mo j)) (hx : x < pp Mo n) (hy : y < pp Mo n)
    (h1 : ∀ j, j < n → (Mo j : Int) ∣ (x : Int) - A j) (h2 : ∀ j, j < n → (Mo j : Int) ∣ (y : Int) - A j) : x = y := by
  obtain ⟨c, hd⟩ := pp_dvdZ (z := (x : Int) - y) hc fun j hj => by
    have := Int.dvd_sub (h1 j hj) (h2 j hj)
    rwa [show (x : Int) - A j - (y - A j) = x - y by (first | lia | omega)] at this
  have hlt : ((x : Int) - y).natAbs < ((pp Mo n : Nat) : Int).natAbs := by (first | lia | omega)
  have := Int.eq_zero_of_dvd_of_natAbs_lt_natAbs ⟨c, hd⟩ hlt
  (first | lia | omega)
structure ModR (n : Nat) (Mo : Nat → Nat) (K : Nat) : Prop where
  n1 : 1 ≤ n
  nl : n ≤ 1000
  two : ∀ j, j < n → 2 ≤ Mo j
  cop : ∀ i j, i < j → j < n → Nat.Coprime (Mo i) (Mo j)
  bd : pp Mo n < 2 ^ K
  k0 : 4 * K + 100 ≤ 134217728
theorem ModR.pos {n K : Nat} {Mo : Nat → Nat} (M : ModR n Mo K) : ∀ j, j < n → 0 < Mo j := fun j hj => by have := M.two j hj; (first | lia | omega)
theorem ModR.p0 {n K : Nat} {Mo : Nat → Nat} (M : ModR n Mo K) {k : Nat} (hk : k ≤ n) : 0 < pp Mo k := pp_pos fun j hj => M.pos j (by (first | lia | omega))
theorem ModR.le {n K : Nat} {Mo : Nat → Nat} (M : ModR n Mo K) {j : Nat} (hj : j < n) : Mo j ≤ pp Mo n := Nat.le_of_dvd (M.p0 (Nat.le_refl _)) (pp_dvd hj)
theorem ModR.lt {n K : Nat} {Mo : Nat → Nat} (M : ModR n Mo K) {j : Nat} (hj : j < n) : Mo j < 2 ^ K := Nat.lt_of_le_of_lt (M.le hj) M.bd
theorem ModR.ltP {n K : Nat} {Mo : Nat → Nat} (M : ModR n Mo K) {k : Nat} (hk : k ≤ n) : pp Mo k < 2 ^ K := Nat.lt_of_le_of_lt (pp_le hk M.pos) M.bd
theorem ModR.bdM {n K : Nat} {Mo : Nat → Nat} (M : ModR n Mo K) {j : Nat} (hj : j < n) : Bd K (Mo j : Nat) := by unfold Bd; rw [Int.natAbs_natCast]; exact M.lt hj
theorem ModR.bdP {n K : Nat} {Mo : Nat → Nat} (M : ModR n Mo K) {k : Nat} (hk : k ≤ n) : Bd K (pp Mo k : Nat) := by unfold Bd; rw [Int.natAbs_natCast]; exact M.ltP hk
theorem ModR.copr {n K : Nat} {Mo : Nat → Nat} (M : ModR n Mo K) {i j : Nat} (h : i ≠ j) (hi : i < n) (hj : j < n) : Nat.Coprime (Mo i) (Mo j) := by
  rcases Nat.lt_or_gt_of_ne h with q | q
  · exact M.cop i j q hj
  · exact (M.cop j i q hi).symm
theorem mulBd {k j : Nat} {a b : Int} (h : Bd k a) (h' : Bd j b) (hk : k + j ≤ 134217728) : IntMulOk a b := Bd.mulOk h h' hk
theorem pp_but {Mo : Nat → Nat} {j : Nat} : ∀ {n : Nat}, j < n → ∃ g, pp Mo n = g * Mo j ∧ ∀ m, (∀ i, i < n → i ≠ j → Nat.Coprime (Mo i) m) → Nat.Coprime g m
  | 0, h => absurd h (Nat.not_lt_zero _)
  | n + 1, h => by
    by_cases e : j = n
    · subst e; exact ⟨pp Mo j, rfl, fun m hm => pp_cop fun i hi => hm i (by (first | lia | omega)) (by (first | lia | omega))⟩
    · obtain ⟨g, h1, h2⟩ := pp_but (n := n) (Mo := Mo) (j := j) (by (first | lia | omega))
      refine ⟨g * Mo n, ?_, fun m hm => Nat.Coprime.mul_left (h2 m fun i hi => hm i (by (first | lia | omega))) (hm n (by (first | lia | omega)) (by (first | lia | omega)))⟩
      show pp Mo n * Mo n = _
      rw [h1]; ac_rfl
structure ExtI (x y : Nat) (a b : Int) (g : Nat) (u v : Int) (z : Nat) : Prop where
  h1 : a * x + b * y = g
  h2 : u * x + v * y = z
  g0 : 0 < g
  gl : g ≤ x + y
  gcd : Nat.gcd g z = Nat.gcd x y
  sb : ∃ B V : Nat, ((b = -B ∧ v = V) ∨ (b = B ∧ v = -V)) ∧ B * z + V * g = x ∧ (y < x → B ≤ V ∧ z < g)
  sa : ∃ A U : Nat, ((a = -A ∧ u = U) ∨ (a = A ∧ u = -U)) ∧ A * z + U * g = y
theorem ext_pair {B V g z q r x : Nat} (h : B * z + V * g = x) (hd : z * q + r = g) : V * r + (B + q * V) * z = x := by
  subst hd
  rw [← h, Nat.mul_add, Nat.add_mul]
  have : V * (z * q) = q * V * z := by ac_rfl
  (first | lia | omega)
theorem ExtI.next {x y g z : Nat} {a b u v : Int} (h : ExtI x y a b g u v z) (hz : z ≠ 0) : ExtI x y u v z (a - (g / z : Nat) * u) (b - (g / z : Nat) * v) (g % z) := by
  refine Gen fun Gq9 back => ?_
  rcases h with ⟨h1, h2, hg0, hgl, hg, ⟨B, V, hs, hB, hV⟩, ⟨A, U, hs', hA⟩⟩
  refine back ?_
  clear back
  clear Gq9
  have hd : z * (g / z) + g % z = g := Nat.div_add_mod g z
  have hzl : z ≤ x + y := by
    by_cases q : V = 0
    · have hB0 : B ≠ 0 ∨ x = 0 := by
        by_cases q2 : B = 0
        · right; rw [← hB, q, q2]; (first | lia | omega)
        · exact .inl q2
      rcases hB0 with q2 | q2
      · have : z ≤ B * z := Nat.le_mul_of_pos_left z (by (first | lia | omega))
        (first | lia | omega)
      · by_cases q3 : A = 0
        · exfalso
          have ha : a = 0 := by rcases hs' with ⟨e, _⟩ | ⟨e, _⟩ <;> rw [e, q3] <;> rfl
          by_cases q4 : B = 0
          · have hb : b = 0 := by rcases hs with ⟨e, _⟩ | ⟨e, _⟩ <;> rw [e, q4] <;> rfl
            rw [ha, hb] at h1; (first | lia | omega)
          · have : z ≤ B * z := Nat.le_mul_of_pos_left z (by (first | lia | omega))
            (first | lia | omega)
        · have : z ≤ A * z := Nat.le_mul_of_pos_left z (by (first | lia | omega))
          (first | lia | omega)
    · by_cases q2 : B = 0
      · by_cases q3 : A = 0
        · exfalso
          have ha : a = 0 := by rcases hs' with ⟨e, _⟩ | ⟨e, _⟩ <;> rw [e, q3] <;> rfl
          have hb : b = 0 := by rcases hs with ⟨e, _⟩ | ⟨e, _⟩ <;> rw [e, q2] <;> rfl
          rw [ha, hb] at h1; (first | lia | omega)
        · have : z ≤ A * z := Nat.le_mul_of_pos_left z (by (first | lia | omega))
          (first | lia | omega)
      · have : z ≤ B * z := Nat.le_mul_of_pos_left z (by (first | lia | omega))
        (first | lia | omega)
  have er : ((g % z : Nat) : Int) = (g : Int) - (g / z : Nat) * (z : Nat) := by
    have : (g : Int) = ((z * (g / z) + g % z : Nat) : Int) := by rw [hd]
    rw [this]; push_cast; rw [Int.mul_comm ((g : Int) / z)]; (first | lia | omega)
  refine ⟨h2, ?_, by (first | lia | omega), hzl, ?_, ⟨V, B + (g / z) * V, ?_, ext_pair hB hd, fun hxy => ?_⟩, ⟨U, A + (g / z) * U, ?_, ext_pair hA hd⟩⟩
  · rw [er, ← h1, ← h2]
    simp only [Int.sub_mul, Int.mul_add, Int.mul_assoc]
    (first | lia | omega)
  · rw [← hg, Nat.gcd_comm z, ← Nat.gcd_rec, Nat.gcd_comm]
  · rcases hs with ⟨rfl, rfl⟩ | ⟨rfl, rfl⟩
    · exact .inr ⟨rfl, by push_cast; (first | lia | omega)⟩
    · refine .inl ⟨rfl, ?_⟩
      push_cast
      rw [Int.mul_neg]; (first | lia | omega)
  · have hq : 1 ≤ g / z := (Nat.le_div_iff_mul_le (by (first | lia | omega))).mpr (by have := (hV hxy).2; (first | lia | omega))
    exact ⟨Nat.le_trans (Nat.le_mul_of_pos_left V hq) (Nat.le_add_left _ _), Nat.mod_lt _ (by (first | lia | omega))⟩
  · rcases hs' with ⟨rfl, rfl⟩ | ⟨rfl, rfl⟩
    · exact .inr ⟨rfl, by push_cast; (first | lia | omega)⟩
    · refine .inl ⟨rfl, ?_⟩
      push_cast
      rw [Int.mul_neg]; (first | lia | omega)
theorem ExtI.bds {x y g z K : Nat} {a b u v : Int} (h : ExtI x y a b g u v z) (hx : x < 2 ^ K) (hy : y < 2 ^ K) : Bd (K + 1) ((g / z : Nat) : Int) ∧ Bd K u ∧ Bd K v := by
  refine Gen fun Gq9 back => ?_
  rcases h with ⟨_, _, hg0, hgl, _, ⟨B, V, hs, hB, _⟩, ⟨A, U, hs', hA⟩⟩
  refine back ?_
  clear back
  clear Gq9
  have hV : V ≤ V * g := Nat.le_mul_of_pos_right V hg0
  have hU : U ≤ U * g := Nat.le_mul_of_pos_right U hg0
  refine ⟨?_, ?_, ?_⟩
  · unfold Bd
    rw [Int.natAbs_natCast, Nat.pow_succ]
    have := Nat.div_le_self g z
    (first | lia | omega)
  · unfold Bd; rcases hs' with ⟨_, rfl⟩ | ⟨_, rfl⟩ <;> (first | lia | omega)
  · unfold Bd; rcases hs with ⟨_, rfl⟩ | ⟨_, rfl⟩ <;> (first | lia | omega)
theorem crt_step {Mo : Nat → Nat} {A : Nat → Int} {k : Nat} {y z v : Int} (hy : ∀ j, j ≤ k → (Mo j : Int) ∣ y - A j) (hz : (Mo (k + 1) : Int) ∣ (pp Mo (k + 1) : Nat) * z - 1)
    (hv : v = ((A (k + 1) - y) * z) % (Mo (k + 1) : Nat)) : ∀ j, j ≤ k + 1 → (Mo j : Int) ∣ y + v * (pp Mo (k + 1) : Nat) - A j := by
  intro j hj
  have ud := Int.emod_add_mul_ediv ((A (k + 1) - y) * z) ((Mo (k + 1) : Nat) : Int)
  rw [← hv] at ud
  rcases Nat.lt_or_ge j (k + 1) with q | q
  · have h7 : (Mo j : Int) ∣ v * (pp Mo (k + 1) : Nat) := Int.dvd_trans (Int.natCast_dvd_natCast.mpr (pp_dvd q)) ⟨v, Int.mul_comm _ _⟩
    have := Int.dvd_add (hy j (by (first | lia | omega))) h7
    rwa [show y - A j + v * (pp Mo (k + 1) : Nat) = y + v * (pp Mo (k + 1) : Nat) - A j by (first | lia | omega)] at this
  · have : j = k + 1 := by (first | lia | omega)
    subst this
    obtain ⟨q1, hq1⟩ := hz
    generalize (A (k + 1) - y) * z / (Mo (k + 1) : Nat) = q2 at *
    refine ⟨(A (k + 1) - y) * q1 - q2 * (pp Mo (k + 1) : Nat), ?_⟩
    have hv : v = (A (k + 1) - y) * z - (Mo (k + 1) : Nat) * q2 := by (first | lia | omega)
    rw [hv, Int.sub_mul, Int.mul_sub]
    have a1 : (A (k + 1) - y) * z * (pp Mo (k + 1) : Nat) = (A (k + 1) - y) * ((pp Mo (k + 1) : Nat) * z) := by ac_rfl
    have a2 : ((pp Mo (k + 1) : Nat) : Int) * z = (Mo (k + 1) : Int) * q1 + 1 := by (first | lia | omega)
    rw [a1, a2, Int.mul_add, Int.mul_one]
    have a3 : (A (k + 1) - y) * ((Mo (k + 1) : Int) * q1) = (Mo (k + 1) : Int) * ((A (k + 1) - y) * q1) := by ac_rfl
    have a4 : (Mo (k + 1) : Int) * q2 * (pp Mo (k + 1) : Nat) = (Mo (k + 1) : Int) * (q2 * (pp Mo (k + 1) : Nat)) := by ac_rfl
    rw [a3, a4]
    (first | lia | omega)
theorem crt_bd {Mo : Nat → Nat} {a : Int} {k : Nat} {y w v : Int} (hM : 0 < Mo (k + 1)) (h0 : 0 ≤ y - a) (h1 : y - a < (pp Mo (k + 1) : Nat)) (hv : v = w % (Mo (k + 1) : Nat)) :
    0 ≤ y + v * (pp Mo (k + 1) : Nat) - a ∧ y + v * (pp Mo (k + 1) : Nat) - a < (pp Mo (k + 2) : Nat) ∧ 0 ≤ v ∧ v < (Mo (k + 1) : Nat) := by
  have v0 : 0 ≤ v := hv ▸ Int.emod_nonneg w (by (first | lia | omega))
  have v1 : v < (Mo (k + 1) : Nat) := hv ▸ Int.emod_lt_of_pos w (by (first | lia | omega))
  obtain ⟨n, rfl⟩ := Int.eq_ofNat_of_zero_le v0
  have hn : n + 1 ≤ Mo (k + 1) := by (first | lia | omega)
  have h2 : (n + 1) * pp Mo (k + 1) ≤ Mo (k + 1) * pp Mo (k + 1) := Nat.mul_le_mul_right _ hn
  have h3 : pp Mo (k + 2) = Mo (k + 1) * pp Mo (k + 1) := Nat.mul_comm _ _
  rw [← h3, Nat.add_mul] at h2
  have h4 : ((n * pp Mo (k + 1) : Nat) : Int) = (n : Int) * (pp Mo (k + 1) : Nat) := Int.natCast_mul _ _
  rw [← h4]
  refine ⟨by (first | lia | omega), by (first | lia | omega), v0, v1⟩
theorem crt_fin {Mo : Nat → Nat} {A : Nat → Int} {n : Nat} {y : Int} (hp : 0 < pp Mo n) (hy : ∀ j, j < n → (Mo j : Int) ∣ y - A j) : ∃ x : Nat, y.fmod (pp Mo n : Nat) = x ∧ x < pp Mo n ∧ ∀ j, j < n → (Mo j : Int) ∣ (x : Int) - A j := by
  have t0 := Int.emod_nonneg y (b := ((pp Mo n : Nat) : Int)) (by (first | lia | omega))
  have t1 := Int.emod_lt_of_pos y (b := ((pp Mo n : Nat) : Int)) (by (first | lia | omega))
  have td := Int.emod_add_mul_ediv y ((pp Mo n : Nat) : Int)
  obtain ⟨x, hx⟩ := Int.eq_ofNat_of_zero_le t0
  rw [hx] at t1 td
  refine ⟨x, by rw [Int.fmod_eq_emod_of_nonneg _ (Int.natCast_nonneg _), hx], by (first | lia | omega), fun j hj => ?_⟩
  have h7 : (Mo j : Int) ∣ ((pp Mo n : Nat) : Int) * (y / (pp Mo n : Nat)) := Int.dvd_trans (Int.natCast_dvd_natCast.mpr (pp_dvd hj)) ⟨_, rfl⟩
  have := Int.dvd_sub (hy j hj) h7
  rwa [show y - A j - ((pp Mo n : Nat) : Int) * (y / (pp Mo n : Nat)) = (x : Int) - A j by (first | lia | omega)] at this
theorem gauss_sum {Mo : Nat → Nat} {A T : Nat → Int} {G : Nat → Nat} {n : Nat} (hG : ∀ j k, j < n → k < n → j ≠ k → Mo j ∣ G k) (hT : ∀ j, j < n → (Mo j : Int) ∣ (G j : Nat) * T j - 1) {j : Nat} (hj : j < n) :
    ∀ m, m ≤ n → (Mo j : Int) ∣ preSum (fun k => A k * (G k : Nat) * T k) m - (if j < m then A j else 0)
  | 0, _ => by rw [if_neg (by (first | lia | omega))]; exact Int.dvd_zero _
  | m + 1, hm => by
    have ih := gauss_sum hG hT hj m (by (first | lia | omega)) (A := A)
    show (Mo j : Int) ∣ preSum _ m + A m * (G m : Nat) * T m - _
    by_cases e : j = m
    · subst e
      rw [if_neg (Nat.lt_irrefl _)] at ih
      rw [if_pos (Nat.lt_succ_self _)]
      obtain ⟨q, hq⟩ := hT j hj
      have h2 : (Mo j : Int) ∣ A j * (G j : Nat) * T j - A j := ⟨A j * q, by
        have : A j * (G j : Nat) * T j - A j = A j * ((G j : Nat) * T j - 1) := by rw [Int.mul_sub, Int.mul_one, Int.mul_assoc]
        rw [this, hq]; ac_rfl⟩
      have := Int.dvd_add ih h2
      rwa [show preSum (fun k => A k * (G k : Nat) * T k) j - 0 + (A j * (G j : Nat) * T j - A j) = preSum (fun k => A k * (G k : Nat) * T k) j + A j * (G j : Nat) * T j - A j by (first | lia | omega)] at this
    · have h2 : (Mo j : Int) ∣ A m * (G m : Nat) * T m := by
        obtain ⟨c, hc⟩ := hG j m hj (by (first | lia | omega)) e
        refine ⟨A m * c * T m, ?_⟩
        rw [hc]; push_cast; ac_rfl
      have := Int.dvd_add ih h2
      by_cases q : j < m
      · rw [if_pos q] at this; rw [if_pos (by (first | lia | omega))]
        rwa [show preSum (fun k => A k * (G k : Nat) * T k) m - A j + A m * (G m : Nat) * T m = preSum (fun k => A k * (G k : Nat) * T k) m + A m * (G m : Nat) * T m - A j by (first | lia | omega)] at this
      · rw [if_neg q] at this; rw [if_neg (by (first | lia | omega))]
        rwa [show preSum (fun k => A k * (G k : Nat) * T k) m - 0 + A m * (G m : Nat) * T m = preSum (fun k => A k * (G k : Nat) * T k) m + A m * (G m : Nat) * T m - 0 by (first | lia | omega)] at this
/-! the Jacobi symbol as the program reckons it -/
noncomputable def evenF : Nat → Nat → Nat → Int → Option (Nat × Int)
  | 0, _, _, _ => none
  | k + 1, a, m, s => if a % 2 = 0 then evenF k (a / 2) m (if m % 8 = 3 ∨ m % 8 = 5 then -s else s) else some (a, s)
noncomputable def legF : Nat → Nat → Nat → Int → Option Int
  | 0, _, _, _ => none
  | k + 1, a, m, s => if a = 0 then some (if m = 1 then s else 0) else match evenF 6 a m s with
    | none => none
    | some (b, t) => legF k (m % b) b (if m % 4 = 3 ∧ b % 4 = 3 then -t else t)
noncomputable def legV (r p : Nat) : Option Int := legF 6 r p 1
noncomputable def primes11 : List Nat := [5, 13, 17, 29, 37, 41, 53]
noncomputable def tonF (A D p s : Nat) : Nat → Nat
  | 0 => 0
  | i + 1 => let m := tonF A D p s i
    if (A * (D ^ m % p)) ^ (2 ^ (s - 1 - (i + 1))) % p = p - 1 then m + 2 ^ (i + 1) else m
noncomputable def rootV (p r : Nat) : Nat :=
  if p % 8 = 3 ∨ p % 8 = 7 then r ^ (p / 4 + 1) % p
  else if p % 8 = 5 then (if (r ^ (p / 8 + 1) % p) ^ 2 % p = r then r ^ (p / 8 + 1) % p else (r ^ (p / 8 + 1) % p) * (2 ^ (p / 4) % p) % p)
  else
    let s := if p = 17 then 4 else 3
    let t := if p = 17 then 1 else 5
    let m := tonF (r ^ t % p) (3 ^ t % p) p s (s - 1)
    (r ^ ((t + 1) / 2) % p) * ((3 ^ t % p) ^ (m / 2) % p) % p
noncomputable def rowOk (p r : Nat) : Bool :=
  match legV r p with
  | none => false
  | some v => if r = 0 then decide (v = 0) else if v = 1 then decide (0 < rootV p r ∧ rootV p r < p ∧ rootV p r * rootV p r % p = r) else decide (v = -1) && (List.range p).all fun y => !(decide (y * y % p = r))
theorem rows_ok : (primes11.all fun p => (List.range p).all fun r => rowOk p r) = true := by decide +kernel
theorem row_ok {p r : Nat} (hp : p ∈ primes11) (hr : r < p) : rowOk p r = true := List.all_eq_true.mp (List.all_eq_true.mp rows_ok p hp) r (List.mem_range.mpr hr)
theorem cops_ok : (primes11.all fun p => (List.range p).all fun r => decide (r = 0) || decide (Nat.gcd p r = 1)) = true := by decide +kernel
theorem cop11 {p : Nat} (hp : p ∈ primes11) {m : Nat} (h : ¬ p ∣ m) : Nat.Coprime p m := by
  have hp0 : 0 < p := by
    have : primes11.all (fun p => decide (0 < p)) = true := by decide
    simpa using List.all_eq_true.mp this p hp
  have h1 := List.all_eq_true.mp (List.all_eq_true.mp cops_ok p hp) (m % p) (List.mem_range.mpr (Nat.mod_lt _ hp0))
  simp only [Bool.or_eq_true, decide_eq_true_eq] at h1
  rcases h1 with h1 | h1
  · exact absurd (Nat.dvd_of_mod_eq_zero h1) h
  · have e1 : Nat.gcd p m = Nat.gcd (m % p) p := Nat.gcd_rec p m
    rw [Nat.gcd_comm] at e1
    unfold Nat.Coprime
    rw [Nat.gcd_comm, e1, Nat.gcd_comm]; exact h1
theorem powmod {n : Int} {p : Nat} (_ : 0 < p) (k : Nat) : (n ^ k).fmod p = (((n % p).toNat ^ k % p : Nat) : Int) := by
  rw [Int.fmod_eq_emod_of_nonneg _ (by (first | lia | omega)), ← pow_emod']
  have : n % (p : Int) = ((n % (p : Int)).toNat : Int) := by have := Int.emod_nonneg n (b := (p : Int)) (by (first | lia | omega)); (first | lia | omega)
  rw [this]; push_cast; rfl
theorem lift {n x z : Int} {p q : Nat} (hq : (p : Int) ∣ q) (h : (q : Int) ∣ n - x * x) (hz : (p : Int) ∣ 2 * x * z - 1) :
    ((q * p : Nat) : Int) ∣ n - (x + ((n - x * x) / q * z % p) * q) * (x + ((n - x * x) / q * z % p) * q) := by
  obtain ⟨u, hu⟩ := h
  obtain ⟨w, hw⟩ := hz
  obtain ⟨v, hv⟩ := hq
  rcases Nat.eq_zero_or_pos q with q0 | q0
  · subst q0
    simp at hu
    have : n = x * x := by (first | lia | omega)
    simp [this]
  have e1 : (n - x * x) / (q : Int) = u := by rw [hu, Int.mul_ediv_cancel_left _ (by (first | lia | omega))]
  rw [e1]
  have e2 := Int.emod_add_mul_ediv (u * z) p
  generalize u * z % (p : Int) = t at *
  generalize u * z / (p : Int) = k at *
  have hn : n = x * x + q * u := by (first | lia | omega)
  have ht : t = u * z - p * k := by (first | lia | omega)
  refine ⟨-(u * w) + 2 * x * k - t * t * v, ?_⟩
  have hzw : 2 * x * z = p * w + 1 := by (first | lia | omega)
  rw [hn]
  have a1 : (x + t * q) * (x + t * q) = x * x + q * (2 * x * t) + q * (t * t * q) := by
    simp only [Int.mul_add, Int.add_mul]
    rw [show q * (2 * x * t) = x * (t * q) + t * q * x by
      rw [show (2 : Int) * x = x + x by (first | lia | omega)]; simp only [Int.mul_add, Int.add_mul]; ac_rfl]
    ac_rfl
  have a2 : 2 * x * t = u * (p * w + 1) - p * (2 * x * k) := by
    rw [ht, Int.mul_sub, ← hzw]; ac_rfl
  rw [a1, a2]
  push_cast
  conv => lhs; rw [show q * (t * t * (q : Int)) = q * p * (t * t * v) by rw [hv]; ac_rfl]
  simp only [Int.mul_add, Int.mul_sub, Int.mul_one, Int.mul_neg]
  rw [show (q : Int) * (u * (p * w)) = q * p * (u * w) by ac_rfl, show (q : Int) * (p * (2 * x * k)) = q * p * (2 * x * k) by ac_rfl]
  (first | lia | omega)
/-! the Gaussian integers, as pairs -/
noncomputable def gN (a b : Int) : Int := a * a + b * b
noncomputable def gD (g1 g2 a1 a2 : Int) : Prop := ∃ h1 h2, a1 = g1 * h1 - g2 * h2 ∧ a2 = g1 * h2 + g2 * h1
noncomputable def Pw : Nat → Int → Int → Int → Int → Prop
  | 0, a1, a2, c1, c2 => a1 = c1 ∧ a2 = c2
  | t + 1, a1, a2, c1, c2 => ∃ u v, a1 = u - v ∧ a2 = u + v ∧ Pw t u v c1 c2
theorem gN_nonneg (a b : Int) : 0 ≤ gN a b := by
  have h1 : 0 ≤ a * a := by rcases Int.le_total 0 a with h | h; exact Int.mul_nonneg h h; exact Int.mul_nonneg_of_nonpos_of_nonpos h h
  have h2 : 0 ≤ b * b := by rcases Int.le_total 0 b with h | h; exact Int.mul_nonneg h h; exact Int.mul_nonneg_of_nonpos_of_nonpos h h
  unfold gN; (first | lia | omega)
theorem gN_zero {a b : Int} (h : gN a b = 0) : a = 0 ∧ b = 0 := by
  have h1 : 0 ≤ a * a := by rcases Int.le_total 0 a with h | h; exact Int.mul_nonneg h h; exact Int.mul_nonneg_of_nonpos_of_nonpos h h
  have h2 : 0 ≤ b * b := by rcases Int.le_total 0 b with h | h; exact Int.mul_nonneg h h; exact Int.mul_nonneg_of_nonpos_of_nonpos h h
  unfold gN at h
  exact ⟨by rcases Int.mul_eq_zero.mp (show a * a = 0 by (first | lia | omega)) with h | h <;> exact h, by rcases Int.mul_eq_zero.mp (show b * b = 0 by (first | lia | omega)) with h | h <;> exact h⟩
theorem gN_pos {a b : Int} (h : a ≠ 0 ∨ b ≠ 0) : 0 < gN a b := by
  have := gN_nonneg a b
  rcases Int.lt_or_eq_of_le this with q | q
  · exact q
  · have := gN_zero q.symm
    (first | lia | omega)
theorem gN_step {u v : Int} : gN (u - v) (u + v) = 2 * gN u v := by unfold gN; grind
theorem Pw.norm : ∀ {t : Nat} {a1 a2 c1 c2 : Int}, Pw t a1 a2 c1 c2 → gN a1 a2 = 2 ^ t * gN c1 c2
  | 0, _, _, _, _, ⟨rfl, rfl⟩ => by rw [Int.pow_zero, Int.one_mul]
  | t + 1, _, _, _, _, ⟨u, v, rfl, rfl, h⟩ => by rw [gN_step, h.norm, Int.pow_succ, ← Int.mul_assoc, Int.mul_comm (2 : Int)]
theorem Pw.snoc : ∀ {t : Nat} {a1 a2 u v : Int}, Pw t a1 a2 (u - v) (u + v) → Pw (t + 1) a1 a2 u v
  | 0, _, _, _, _, ⟨rfl, rfl⟩ => ⟨_, _, rfl, rfl, rfl, rfl⟩
  | _ + 1, _, _, _, _, ⟨u, v, rfl, rfl, h⟩ => ⟨u, v, rfl, rfl, h.snoc⟩
theorem Pw.dvd : ∀ {t : Nat} {a1 a2 c1 c2 g1 g2 : Int}, Pw t a1 a2 c1 c2 → gD g1 g2 c1 c2 → gD g1 g2 a1 a2
  | 0, _, _, _, _, _, _, ⟨rfl, rfl⟩, h => h
  | _ + 1, _, _, _, _, _, _, ⟨u, v, rfl, rfl, h⟩, hd => by
    refine Gen fun Gq9 back => ?_
    rcases h.dvd hd with ⟨h1, h2, e1, e2⟩
    refine back ?_
    clear back
    clear Gq9
    exact ⟨h1 - h2, h1 + h2, by grind, by grind⟩
noncomputable def In (m r a1 a2 : Int) : Prop := m ∣ a1 - r * a2
theorem odd_cancel {m w : Int} (hm : m % 2 = 1) (h : m ∣ 2 * w) : m ∣ w := by
  obtain ⟨z, hz⟩ := h
  have hq : m = 2 * (m / 2) + 1 := by (first | lia | omega)
  generalize m / 2 = q at hq
  exact ⟨w - q * z, by grind⟩
theorem In.half {m r u v : Int} (hm : m % 2 = 1) (hr : m ∣ r * r + 1) (h : In m r (u - v) (u + v)) : In m r u v := by
  obtain ⟨k, hk⟩ := hr
  obtain ⟨j, hj⟩ := h
  exact odd_cancel hm ⟨j + r * j + k * (u + v), by grind⟩
theorem Pw.inn {m r : Int} (hm : m % 2 = 1) (hr : m ∣ r * r + 1) : ∀ {t : Nat} {a1 a2 c1 c2 : Int}, Pw t a1 a2 c1 c2 → In m r a1 a2 → In m r c1 c2
  | 0, _, _, _, _, ⟨rfl, rfl⟩, h => h
  | _ + 1, _, _, _, _, ⟨u, v, rfl, rfl, hp⟩, h => hp.inn hm hr (h.half hm hr)
noncomputable def Un (a1 a2 c1 c2 : Int) : Prop := (c1 = a1 ∧ c2 = a2) ∨ (c1 = -a2 ∧ c2 = a1) ∨ (c1 = -a1 ∧ c2 = -a2) ∨ (c1 = a2 ∧ c2 = -a1)
theorem Un.norm {a1 a2 c1 c2 : Int} (h : Un a1 a2 c1 c2) : gN c1 c2 = gN a1 a2 := by
  unfold gN
  rcases h with ⟨rfl, rfl⟩ | ⟨rfl, rfl⟩ | ⟨rfl, rfl⟩ | ⟨rfl, rfl⟩ <;> grind
theorem Un.dvd {a1 a2 c1 c2 g1 g2 : Int} (h : Un a1 a2 c1 c2) (hd : gD g1 g2 c1 c2) : gD g1 g2 a1 a2 := by
  refine Gen fun Gq9 back => ?_
  rcases hd with ⟨h1, h2, e1, e2⟩
  refine back ?_
  clear back
  clear Gq9
  rcases h with ⟨rfl, rfl⟩ | ⟨rfl, rfl⟩ | ⟨rfl, rfl⟩ | ⟨rfl, rfl⟩
  · exact ⟨h1, h2, e1, e2⟩
  · exact ⟨h2, -h1, by grind, by grind⟩
  · exact ⟨-h1, -h2, by grind, by grind⟩
  · exact ⟨-h2, h1, by grind, by grind⟩
theorem Un.inn {m r a1 a2 c1 c2 : Int} (hr : m ∣ r * r + 1) (h : Un a1 a2 c1 c2) (hi : In m r a1 a2) : In m r c1 c2 := by
  obtain ⟨k, hk⟩ := hr
  obtain ⟨j, hj⟩ := hi
  rcases h with ⟨p, q⟩ | ⟨p, q⟩ | ⟨p, q⟩ | ⟨p, q⟩ <;> rw [In, p, q]
  · exact ⟨j, hj⟩
  · exact ⟨-(r * j) - k * a2, by grind⟩
  · exact ⟨-j, by grind⟩
  · exact ⟨r * j + k * a2, by grind⟩
noncomputable def Adj (c1 c2 : Int) : Prop := c1 % 2 = 1 ∧ c2 % 2 = 0 ∧ (c2 - c1 + 1) % 4 = 0
theorem gN_odd {c1 c2 : Int} (h : (c1 - c2) % 2 = 1) : gN c1 c2 % 2 = 1 := by
  have e : gN c1 c2 = (c1 - c2) * (c1 - c2) + 2 * (c1 * c2) := by unfold gN; grind
  rw [e, Int.add_mul_emod_self_left, Int.mul_emod, h]; rfl
theorem al8 (x y z : Int) (h : x = y + 2 * z) : (2 * x) * (2 * x) + (2 * y) * (2 * y) = 8 * (2 * z * z + 2 * z * y + y * y) := by grind
theorem al4 {p q p' q' : Int} (h : (q - p + 1) % 4 = 0) (h' : (q' - p' + 1) % 4 = 0) : (4 : Int) ∣ (p - p') - (q - q') := by
  have := Int.dvd_sub (Int.dvd_of_emod_eq_zero h') (Int.dvd_of_emod_eq_zero h)
  rwa [show q' - p' + 1 - (q - p + 1) = (p - p') - (q - q') by (first | lia | omega)] at this
theorem adj_diff {a1 a2 b1 b2 : Int} (ha : Adj a1 a2) (hb : Adj b1 b2) : gN (a1 - b1) (a2 - b2) % 8 = 0 := by
  obtain ⟨x, hx⟩ := Int.dvd_of_emod_eq_zero (a := 2) (b := a1 - b1) (by rw [Int.sub_emod, ha.1, hb.1]; rfl)
  obtain ⟨y, hy⟩ := Int.dvd_of_emod_eq_zero (a := 2) (b := a2 - b2) (by rw [Int.sub_emod, ha.2.1, hb.2.1]; rfl)
  have h4 := al4 ha.2.2 hb.2.2
  rw [hx, hy] at h4
  clear ha hb
  obtain ⟨z, hz⟩ := h4
  unfold gN
  rw [hx, hy, al8 x y z (by (first | lia | omega))]
  exact Int.mul_emod_right 8 _
theorem gN_diff (a1 a2 b1 b2 : Int) : gN (a1 - b1) (a2 - b2) ≤ 2 * (gN a1 a2 + gN b1 b2) := by
  have := gN_nonneg (a1 + b1) (a2 + b2)
  have e : gN (a1 - b1) (a2 - b2) + gN (a1 + b1) (a2 + b2) = 2 * (gN a1 a2 + gN b1 b2) := by unfold gN; grind
  (first | lia | omega)
theorem pow2_le {t : Nat} {N : Int} (hN : N % 2 = 1) (h : (2 ^ t * N) % 8 = 0) : 3 ≤ t := by
  rcases (by (first | lia | omega) : t = 0 ∨ t = 1 ∨ t = 2 ∨ 3 ≤ t) with rfl | rfl | rfl | h3
  · rw [Int.pow_zero] at h; (first | lia | omega)
  · rw [show (2 : Int) ^ 1 = 2 from rfl] at h; (first | lia | omega)
  · rw [show (2 : Int) ^ 2 = 4 from rfl] at h; (first | lia | omega)
  · exact h3
theorem less_norm {t : Nat} {a1 a2 b1 b2 d1 d2 : Int} (ha : Adj a1 a2) (hb : Adj b1 b2) (hab : gN b1 b2 ≤ 2 * gN a1 a2) (hp : Pw t (a1 - b1) (a2 - b2) d1 d2) (hd : (d1 - d2) % 2 = 1) : gN d1 d2 < gN a1 a2 := by
  have h1 := gN_diff a1 a2 b1 b2
  have h2 := hp.norm
  have h3 := adj_diff ha hb
  have hdo := gN_odd hd
  rw [h2] at h1 h3
  have ht := pow2_le hdo h3
  obtain ⟨s, rfl⟩ : ∃ s, t = s + 3 := ⟨t - 3, by (first | lia | omega)⟩
  have h4 : (2 : Int) ^ (s + 3) = 8 * 2 ^ s := by rw [Int.pow_add, show (2 : Int) ^ 3 = 8 from rfl, Int.mul_comm]
  rw [h4] at h1
  have h5 : (1 : Int) ≤ 2 ^ s := by have : (0 : Int) < 2 ^ s := Int.pow_pos (by decide); (first | lia | omega)
  have h6 := gN_nonneg d1 d2
  have h7 : gN d1 d2 ≤ 2 ^ s * gN d1 d2 := by
    have := Int.mul_le_mul_of_nonneg_right h5 h6
    rwa [Int.one_mul] at this
  rw [Int.mul_assoc] at h1
  have h8 := gN_pos (a := a1) (b := a2) (.inl (by have := ha.1; (first | lia | omega)))
  (first | lia | omega)
theorem gcd_norm {m r : Int} {t : Nat} {a1 a2 c1 c2 b1 b2 : Int} (hm0 : 0 < m) (hr : m ∣ r * r + 1) (hi : In m r b1 b2) (ha : Un m 0 a1 a2) (hda : gD b1 b2 a1 a2) (hp : Pw t r 1 c1 c2) (hdc : gD b1 b2 c1 c2) : gN b1 b2 = m := by
  refine Gen fun Gq9 back => ?_
  rcases Un.dvd ha hda with ⟨h1, h2, e1, e2⟩
  refine back ?_
  clear back
  clear Gq9
  refine Gen fun Gq9 back => ?_
  rcases hp.dvd hdc with ⟨k1, k2, f1, f2⟩
  refine back ?_
  clear back
  clear Gq9
  have d1 : m ∣ gN b1 b2 := by
    obtain ⟨k, hk⟩ := hr
    obtain ⟨j, hj⟩ := hi
    unfold gN
    have hb : b1 = m * j + r * b2 := by (first | lia | omega)
    exact ⟨m * j * j + 2 * j * r * b2 + k * b2 * b2, by rw [hb]; grind⟩
  have d2 : gN b1 b2 ∣ m := by
    unfold gN
    have q1 : m * b1 = (b1 * b1 + b2 * b2) * h1 := by grind
    have q2 : m * b2 = -((b1 * b1 + b2 * b2) * h2) := by grind
    exact ⟨h1 * k2 - h2 * k1, by
      have : m = (m * b1) * k2 + (m * b2) * k1 := by grind
      rw [q1, q2] at this
      grind⟩
  have hn := gN_nonneg b1 b2
  exact Int.dvd_antisymm hn (Int.le_of_lt hm0) d2 d1
/-! the approximate norms -/
theorem near1 {m a b c d : Nat} (hm : 0 < m) (hc : c < 64 * m) (hd : d < 64 * m) (hbig : 254 ≤ (a / m) * (a / m) + (b / m) * (b / m)) (h : (c / m) * (c / m) + (d / m) * (d / m) ≤ (a / m) * (a / m) + (b / m) * (b / m)) : c * c + d * d ≤ 2 * (a * a + b * b) := by
  have sq : ∀ x y : Nat, x ≤ y → x * x ≤ y * y := fun x y q => Nat.mul_le_mul q q
  have ha1 := sq _ _ (Nat.div_mul_le_self a m)
  have hb1 := sq _ _ (Nat.div_mul_le_self b m)
  have up : ∀ x : Nat, x ≤ m * (x / m + 1) := fun x => by have := Nat.div_add_mod x m; have := Nat.mod_lt x hm; rw [Nat.mul_add]; (first | lia | omega)
  have hc1 := sq _ _ (up c)
  have hd1 := sq _ _ (up d)
  have hc2 : c / m ≤ 63 := by have := Nat.div_lt_of_lt_mul (show c < m * 64 by (first | lia | omega)); (first | lia | omega)
  have hd2 : d / m ≤ 63 := by have := Nat.div_lt_of_lt_mul (show d < m * 64 by (first | lia | omega)); (first | lia | omega)
  generalize a / m = a' at *
  generalize b / m = b' at *
  generalize c / m = c' at *
  generalize d / m = d' at *
  have e1 : a' * m * (a' * m) = m * m * (a' * a') := by ac_rfl
  have e2 : b' * m * (b' * m) = m * m * (b' * b') := by ac_rfl
  have e3 : m * (c' + 1) * (m * (c' + 1)) = m * m * (c' * c' + 2 * c' + 1) := by grind
  have e4 : m * (d' + 1) * (m * (d' + 1)) = m * m * (d' * d' + 2 * d' + 1) := by grind
  rw [e1] at ha1; rw [e2] at hb1; rw [e3] at hc1; rw [e4] at hd1
  have h5 : m * m * ((c' * c' + 2 * c' + 1) + (d' * d' + 2 * d' + 1)) ≤ m * m * (2 * (a' * a' + b' * b')) := Nat.mul_le_mul_left _ (by (first | lia | omega))
  have e5 : m * m * (2 * (a' * a' + b' * b')) = 2 * (m * m * (a' * a') + m * m * (b' * b')) := by grind
  rw [Nat.mul_add, e5] at h5
  (first | lia | omega)
theorem near_big {m a b c d : Nat} (hm : 0 < m) (hx : 32 * m ≤ a ∨ 32 * m ≤ b ∨ 32 * m ≤ c ∨ 32 * m ≤ d) : 1024 ≤ (a / m) * (a / m) + (b / m) * (b / m) ∨ 1024 ≤ (c / m) * (c / m) + (d / m) * (d / m) := by
  have sq : ∀ x : Nat, 32 * m ≤ x → 1024 ≤ (x / m) * (x / m) := fun x q => by
    have h1 : 32 ≤ x / m := (Nat.le_div_iff_mul_le hm).mpr q
    exact Nat.mul_le_mul h1 h1
  rcases hx with q | q | q | q <;> have := sq _ q <;> (first | lia | omega)
noncomputable def bn (x : Nat) : Nat := if x = 0 then 1 else Builtin.Int.intBits (x : Int)
theorem bn_lt (x : Nat) : x < 2 ^ bn x := by
  unfold bn
  by_cases h : x = 0
  · rw [if_pos h, h]; decide
  · rw [if_neg h]
    have := intBits_le_iff.mp (Nat.le_refl (Builtin.Int.intBits (x : Int)))
    rwa [Int.natAbs_natCast] at this
theorem bn_ge {x s : Nat} (h : s + 7 ≤ bn x) : 2 ^ (s + 6) ≤ x := by
  unfold bn at h
  by_cases h0 : x = 0
  · rw [if_pos h0] at h; (first | lia | omega)
  · rw [if_neg h0] at h
    rcases Nat.lt_or_ge x (2 ^ (s + 6)) with q | q
    · have := intBits_le_iff.mpr (show ((x : Int)).natAbs < 2 ^ (s + 6) by rw [Int.natAbs_natCast]; exact q)
      (first | lia | omega)
    · exact q
theorem gN_abs (a b : Int) : gN a b = ((a.natAbs * a.natAbs + b.natAbs * b.natAbs : Nat) : Int) := by
  unfold gN
  rw [Int.natCast_add, Int.natCast_mul, Int.natCast_mul]
  have sq : ∀ x : Int, x * x = (x.natAbs : Int) * x.natAbs := fun x => by
    rcases Int.natAbs_eq x with q | q <;> generalize x.natAbs = y at * <;> rw [q] <;> grind
  rw [sq a, sq b]
/-! sums of two squares -/
theorem one_of {d M : Int} (hd : 0 < d) (hM : 0 < M) (h : d * M ≤ M) : d = 1 := by
  rcases (by (first | lia | omega) : d = 1 ∨ 2 ≤ d) with q | q
  · exact q
  · have := Int.mul_le_mul_of_nonneg_right q (Int.le_of_lt hM)
    (first | lia | omega)
theorem prim_of {n r x y d : Int} (hn : 0 < n) (hr : n ∣ r * r + 1) (hN : gN x y = n) (hi : In n r x y) (hd0 : 0 < d) (hx : d ∣ x) (hy : d ∣ y) : d = 1 := by
  obtain ⟨x', rfl⟩ := hx
  obtain ⟨y', rfl⟩ := hy
  have e1 : n = d * (d * gN x' y') := by rw [← hN]; unfold gN; grind
  obtain ⟨k, hk⟩ := hr
  obtain ⟨j, hj⟩ := hi
  have hp := gN_nonneg x' y'
  have hM0 : 0 < gN x' y' := by
    rcases Int.lt_or_eq_of_le hp with q | q
    · exact q
    · rw [← q, Int.mul_zero, Int.mul_zero] at e1; (first | lia | omega)
  have hj2 : x' - r * y' = d * gN x' y' * j := by
    have : d * (x' - r * y') = d * (d * gN x' y' * j) := by rw [show d * (d * gN x' y' * j) = n * j by rw [e1]; grind, ← hj]; grind
    exact Int.eq_of_mul_eq_mul_left (by (first | lia | omega)) this
  have hd : d * gN x' y' ∣ gN x' y' := by
    generalize hM : gN x' y' = M at *
    have hx' : x' = d * M * j + r * y' := by (first | lia | omega)
    refine ⟨d * M * j * j + 2 * j * r * y' + d * k * y' * y', ?_⟩
    have hk2 : r * r + 1 = d * (d * M) * k := by rw [hk, e1]
    have : M = x' * x' + y' * y' := by rw [← hM]; rfl
    rw [this, hx']
    have e3 : (d * M * j + r * y') * (d * M * j + r * y') + y' * y' = d * M * (d * M * j * j + 2 * j * r * y') + (r * r + 1) * (y' * y') := by grind
    rw [e3, hk2]; grind
  exact one_of hd0 hM0 (Int.le_of_dvd hM0 hd)
theorem al1 (n a b : Int) : n * n * (a * a + b * b) = n * a * (n * a) + n * b * (n * b) := by grind
theorem unit_of {n r x y x' y' : Int} (hn : 0 < n) (hr : n ∣ r * r + 1) (hN : gN x y = n) (hi : In n r x y) (hN' : gN x' y' = n) (hi' : In n r x' y') : Un x' y' x y := by
  obtain ⟨k, hk⟩ := hr
  obtain ⟨j, hj⟩ := hi
  obtain ⟨i, hi⟩ := hi'
  have hx : x = n * j + r * y := by (first | lia | omega)
  have hx' : x' = n * i + r * y' := by (first | lia | omega)
  obtain ⟨a, ha⟩ : n ∣ x * x' + y * y' := ⟨n * j * i + j * r * y' + i * r * y + k * y * y', by rw [hx, hx']; grind⟩
  obtain ⟨b, hb⟩ : n ∣ y * x' - x * y' := ⟨i * y - j * y', by rw [hx, hx']; grind⟩
  have h1 : (x * x' + y * y') * (x * x' + y * y') + (y * x' - x * y') * (y * x' - x * y') = n * n := by
    have : (x * x' + y * y') * (x * x' + y * y') + (y * x' - x * y') * (y * x' - x * y') = gN x y * gN x' y' := by unfold gN; grind
    rw [this, hN, hN']
  rw [ha, hb] at h1
  have h2 : n * n * (a * a + b * b) = n * n * 1 := by rw [al1, h1, Int.mul_one]
  have h3 : a * a + b * b = 1 := Int.eq_of_mul_eq_mul_left (Int.mul_ne_zero (by (first | lia | omega)) (by (first | lia | omega))) h2
  have h4 : x = a * x' - b * y' := by
    have : n * x = n * (a * x' - b * y') := by
      rw [show n * (a * x' - b * y') = (n * a) * x' - (n * b) * y' by grind, ← ha, ← hb, ← hN']; unfold gN; grind
    exact Int.eq_of_mul_eq_mul_left (by (first | lia | omega)) this
  have h5 : y = a * y' + b * x' := by
    have : n * y = n * (a * y' + b * x') := by
      rw [show n * (a * y' + b * x') = (n * a) * y' + (n * b) * x' by grind, ← ha, ← hb, ← hN']; unfold gN; grind
    exact Int.eq_of_mul_eq_mul_left (by (first | lia | omega)) this
  have sq : ∀ z : Int, 0 ≤ z * z := fun z => by rcases Int.le_total 0 z with h | h; exact Int.mul_nonneg h h; exact Int.mul_nonneg_of_nonpos_of_nonpos h h
  have ba := sq a
  have bb := sq b
  have small : ∀ z : Int, z * z ≤ 1 → z = 0 ∨ z = 1 ∨ z = -1 := fun z hz => by
    rcases (by (first | lia | omega) : z ≤ -2 ∨ z = -1 ∨ z = 0 ∨ z = 1 ∨ 2 ≤ z) with q | q | q | q | q
    · have := Int.mul_le_mul_of_nonneg_left (a := 2) (b := -z) (c := -z) (by (first | lia | omega)) (by (first | lia | omega))
      rw [Int.neg_mul_neg] at this; (first | lia | omega)
    · exact .inr (.inr q)
    · exact .inl q
    · exact .inr (.inl q)
    · have := Int.mul_le_mul_of_nonneg_left (a := 2) (b := z) (c := z) q (by (first | lia | omega)); (first | lia | omega)
  rcases small a (by (first | lia | omega)) with rfl | rfl | rfl <;> rcases small b (by (first | lia | omega)) with rfl | rfl | rfl <;> first | (exfalso; (first | lia | omega)) | skip
  · exact .inr (.inl ⟨by (first | lia | omega), by (first | lia | omega)⟩)
  · exact .inr (.inr (.inr ⟨by (first | lia | omega), by (first | lia | omega)⟩))
  · exact .inl ⟨by (first | lia | omega), by (first | lia | omega)⟩
  · exact .inr (.inr (.inl ⟨by (first | lia | omega), by (first | lia | omega)⟩))
theorem root_uniq {n r s x y : Int} (hn : 0 < n) (hr : n ∣ r * r + 1) (hN : gN x y = n) (h1 : In n r x y) (h2 : In n s x y) : n ∣ r - s := by
  have hg : Int.gcd n y = 1 := by
    have := prim_of (d := (Int.gcd n y : Int)) hn hr hN h1 (by have : Int.gcd n y ≠ 0 := fun q => by have := (Int.gcd_eq_zero_iff.mp q).1; (first | lia | omega)
                                                               (first | lia | omega)) ?_ (Int.gcd_dvd_right ..)
    · (first | lia | omega)
    · have e1 : (Int.gcd n y : Int) ∣ n := Int.gcd_dvd_left ..
      have e2 : (Int.gcd n y : Int) ∣ y := Int.gcd_dvd_right ..
      have := Int.dvd_add (Int.dvd_trans e1 h1) (Int.dvd_trans e2 ⟨r, Int.mul_comm r y⟩)
      rwa [show x - r * y + r * y = x by (first | lia | omega)] at this
  have h3 : n ∣ (r - s) * y := by
    have := Int.dvd_sub h2 h1
    rwa [show x - s * y - (x - r * y) = (r - s) * y by rw [Int.sub_mul]; (first | lia | omega)] at this
  have h4 : n.natAbs ∣ (r - s).natAbs * y.natAbs := by rw [← Int.natAbs_mul]; exact Int.natAbs_dvd_natAbs.mpr h3
  exact Int.natAbs_dvd_natAbs.mp (Nat.Coprime.dvd_of_dvd_mul_right (show Nat.Coprime n.natAbs y.natAbs from hg) h4)
/-! the primes, their powers and the roots of -1 that the law has drawn -/
noncomputable abbrev TR := Nat × Nat × Nat
noncomputable def tq (t : TR) : Nat := t.1 ^ t.2.1
structure GoodT (t : TR) : Prop where
  p : t.1 ∈ primes11
  e : 1 ≤ t.2.1
  r0 : 0 < t.2.2
  r1 : t.2.2 < tq t
  sq : ((tq t : Nat) : Int) ∣ (t.2.2 : Int) * t.2.2 + 1
noncomputable def atL (L : List TR) (j : Nat) : TR := L.getD j (5, 1, 2)
noncomputable def moL (L : List TR) (j : Nat) : Nat := if j < L.length then tq (atL L j) else 2
noncomputable def cnt (L : List TR) (b : Bool) : Nat := L.length + if b = true then 1 else 0
noncomputable def rsd (L : List TR) (c j : Nat) : Int := if j < L.length then (if c / 2 ^ j % 2 = 0 then ((atL L j).2.2 : Int) else (tq (atL L j) : Int) - (atL L j).2.2) else 1
structure GoodL (L : List TR) : Prop where
  ok : ∀ t ∈ L, GoodT t
  nd : (L.map (·.1)).Nodup
theorem atL_mem {L : List TR} {j : Nat} (h : j < L.length) : atL L j ∈ L := by
  unfold atL; rw [List.getD_eq_getElem?_getD, List.getElem?_eq_getElem h]; exact List.getElem_mem h
theorem p11 {p : Nat} (hp : p ∈ primes11) : 5 ≤ p ∧ p ≤ 53 ∧ p % 2 = 1 := by
  have : primes11.all (fun p => decide (5 ≤ p ∧ p ≤ 53 ∧ p % 2 = 1)) = true := by decide
  simpa using List.all_eq_true.mp this p hp
theorem pair11 {p q : Nat} (hp : p ∈ primes11) (hq : q ∈ primes11) (h : p ≠ q) : ¬ p ∣ q := by
  have : primes11.all (fun p => primes11.all fun q => decide (p = q) || decide (q % p ≠ 0)) = true := by decide
  have := List.all_eq_true.mp (List.all_eq_true.mp this p hp) q hq
  simp only [Bool.or_eq_true, decide_eq_true_eq] at this
  intro d
  rcases this with e | e
  · exact h e
  · exact e (Nat.mod_eq_zero_of_dvd d)
theorem GoodT.pq {t : TR} (g : GoodT t) : t.1 ∣ tq t := by
  obtain ⟨e, he⟩ : ∃ e, t.2.1 = e + 1 := ⟨t.2.1 - 1, by have := g.e; (first | lia | omega)⟩
  unfold tq; rw [he, Nat.pow_succ]; exact Nat.dvd_mul_left _ _
theorem GoodT.five {t : TR} (g : GoodT t) : 5 ≤ tq t := by
  have h1 := p11 g.p
  have h2 : 0 < tq t := Nat.pow_pos (by (first | lia | omega))
  have := Nat.le_of_dvd h2 g.pq
  (first | lia | omega)
theorem GoodT.odd {t : TR} (g : GoodT t) : tq t % 2 = 1 := by
  unfold tq
  rw [Nat.pow_mod, (p11 g.p).2.2, Nat.one_pow]
theorem GoodL.ne {L : List TR} (G : GoodL L) {i j : Nat} (hij : i < j) (hj : j < L.length) : (atL L i).1 ≠ (atL L j).1 := by
  have := List.pairwise_iff_getElem.mp (List.nodup_iff_pairwise_ne.mp G.nd) i j (by rw [List.length_map]; (first | lia | omega)) (by rw [List.length_map]; exact hj) hij
  rw [List.getElem_map, List.getElem_map] at this
  have e1 : atL L i = L[i]'(by (first | lia | omega)) := by unfold atL; rw [List.getD_eq_getElem?_getD, List.getElem?_eq_getElem (by (first | lia | omega))]; rfl
  have e2 : atL L j = L[j] := by unfold atL; rw [List.getD_eq_getElem?_getD, List.getElem?_eq_getElem hj]; rfl
  rw [e1, e2]; exact this
theorem GoodL.two {L : List TR} (G : GoodL L) (j : Nat) : 2 ≤ moL L j := by
  unfold moL
  split
  · rename_i h; have := (G.ok _ (atL_mem h)).five; (first | lia | omega)
  · exact Nat.le_refl _
theorem GoodL.cop {L : List TR} (G : GoodL L) {b : Bool} {i j : Nat} (hij : i < j) (hj : j < cnt L b) : Nat.Coprime (moL L i) (moL L j) := by
  unfold cnt at hj
  have hi : i < L.length := by split at hj <;> (first | lia | omega)
  have gi := G.ok _ (atL_mem hi)
  unfold moL
  rw [if_pos hi]
  split
  · rename_i h
    have gj := G.ok _ (atL_mem h)
    exact Nat.Coprime.pow _ _ (cop11 gi.p (pair11 gi.p gj.p (G.ne hij h)))
  · refine Nat.Coprime.pow_left _ (cop11 gi.p fun q => ?_)
    have := Nat.le_of_dvd (by decide) q
    have := (p11 gi.p).1
    (first | lia | omega)
theorem GoodL.modR {L : List TR} (G : GoodL L) {b : Bool} (h1 : 1 ≤ L.length) (h3 : L.length ≤ 3) (hs : pp (moL L) (cnt L b) ≤ 40000) : ModR (cnt L b) (moL L) 16 :=
  ⟨by unfold cnt; (first | lia | omega), by unfold cnt; split <;> (first | lia | omega), fun j _ => G.two j, fun i j hij hj => G.cop hij hj, by (first | lia | omega), by decide⟩
theorem GoodL.rsd_sq {L : List TR} (G : GoodL L) (c j : Nat) : (moL L j : Int) ∣ rsd L c j * rsd L c j + 1 := by
  unfold moL rsd
  by_cases h : j < L.length
  · rw [if_pos h, if_pos h]
    obtain ⟨k, hk⟩ := (G.ok _ (atL_mem h)).sq
    generalize (tq (atL L j) : Int) = q at *
    generalize ((atL L j).2.2 : Int) = r at *
    split
    · exact ⟨k, hk⟩
    · exact ⟨q - 2 * r + k, by grind⟩
  · rw [if_neg h, if_neg h]; exact ⟨1, by decide⟩
theorem sq_of {m z s : Int} (h1 : m ∣ z - s) (h2 : m ∣ s * s + 1) : m ∣ z * z + 1 := by
  obtain ⟨j, hj⟩ := h1
  obtain ⟨k, hk⟩ := h2
  exact ⟨j * (z + s) + k, by grind⟩
theorem GoodL.root_sq {L : List TR} (G : GoodL L) {b : Bool} {c x : Nat} (hx : ∀ j, j < cnt L b → (moL L j : Int) ∣ (x : Int) - rsd L c j) : ((pp (moL L) (cnt L b) : Nat) : Int) ∣ (x : Int) * x + 1 :=
  pp_dvdZ (fun i j hij hj => G.cop hij hj) fun j hj => sq_of (hx j hj) (G.rsd_sq c j)
theorem bits_eq : ∀ (k c c' : Nat), c < 2 ^ k → c' < 2 ^ k → (∀ j, j < k → c / 2 ^ j % 2 = c' / 2 ^ j % 2) → c = c'
  | 0, c, c', h1, h2, _ => by rw [Nat.pow_zero] at h1 h2; (first | lia | omega)
  | k + 1, c, c', h1, h2, h => by
    rw [Nat.pow_succ] at h1 h2
    have h0 := h 0 (by (first | lia | omega))
    rw [Nat.pow_zero, Nat.div_one, Nat.div_one] at h0
    have := bits_eq k (c / 2) (c' / 2) (by (first | lia | omega)) (by (first | lia | omega)) fun j hj => by
      have := h (j + 1) (by (first | lia | omega))
      rwa [Nat.pow_succ, Nat.mul_comm, ← Nat.div_div_eq_div_mul, ← Nat.div_div_eq_div_mul] at this
    (first | lia | omega)
theorem bits_ex : ∀ (k : Nat) (b : Nat → Bool), ∃ c, c < 2 ^ k ∧ ∀ j, j < k → (c / 2 ^ j % 2 = 0 ↔ b j = true)
  | 0, _ => ⟨0, by decide, fun j h => absurd h (Nat.not_lt_zero _)⟩
  | k + 1, b => by
    obtain ⟨c, hc, h⟩ := bits_ex k fun j => b (j + 1)
    refine ⟨2 * c + if b 0 = true then 0 else 1, by rw [Nat.pow_succ]; split <;> (first | lia | omega), fun j hj => ?_⟩
    cases j with
    | zero =>
      rw [Nat.pow_zero, Nat.div_one]
      split
      · rename_i q; rw [q]; simp
      · rename_i q; constructor
        · intro e; (first | lia | omega)
        · intro e; exact absurd e q
    | succ j =>
      have e : (2 * c + if b 0 = true then 0 else 1) / 2 ^ (j + 1) = c / 2 ^ j := by
        rw [Nat.pow_succ, Nat.mul_comm (2 ^ j) 2, ← Nat.div_div_eq_div_mul]
        congr 1
        split <;> (first | lia | omega)
      rw [e]; exact h j (by (first | lia | omega))
theorem GoodL.inj {L : List TR} (G : GoodL L) {b : Bool} {c c' : Nat} {x : Int} (hc : c < 2 ^ L.length) (hc' : c' < 2 ^ L.length) (h1 : ∀ j, j < cnt L b → (moL L j : Int) ∣ x - rsd L c j) (h2 : ∀ j, j < cnt L b → (moL L j : Int) ∣ x - rsd L c' j) : c = c' := by
  refine bits_eq _ _ _ hc hc' fun j hj => ?_
  have hj2 : j < cnt L b := by unfold cnt; (first | lia | omega)
  have h3 := Int.dvd_sub (h2 j hj2) (h1 j hj2)
  rw [show x - rsd L c' j - (x - rsd L c j) = rsd L c j - rsd L c' j by (first | lia | omega)] at h3
  have g := G.ok _ (atL_mem hj)
  have bad : ¬ (tq (atL L j) : Int) ∣ 2 * ((atL L j).2.2 : Int) := fun q => by
    have h4 := odd_cancel (by have := g.odd; (first | lia | omega)) q
    have := Nat.le_of_dvd g.r0 (Int.natCast_dvd_natCast.mp h4)
    have := g.r1
    (first | lia | omega)
  unfold moL rsd at h3
  rw [if_pos hj, if_pos hj, if_pos hj] at h3
  generalize (tq (atL L j) : Int) = q at *
  generalize ((atL L j).2.2 : Int) = r at *
  obtain ⟨z, hz⟩ := h3
  by_cases e1 : c / 2 ^ j % 2 = 0 <;> by_cases e2 : c' / 2 ^ j % 2 = 0
  · (first | lia | omega)
  · rw [if_pos e1, if_neg e2] at hz; exact absurd ⟨z + 1, by grind⟩ bad
  · rw [if_neg e1, if_pos e2] at hz; exact absurd ⟨1 - z, by grind⟩ bad
  · (first | lia | omega)
theorem GoodL.surj {L : List TR} (G : GoodL L) {b : Bool} {x y : Int} (hN : gN x y = (pp (moL L) (cnt L b) : Nat)) (hap : ∀ t ∈ L, ¬ ((t.1 : Int) ∣ x ∧ (t.1 : Int) ∣ y)) :
    ∃ c, c < 2 ^ L.length ∧ ∀ z : Int, (∀ j, j < cnt L b → (moL L j : Int) ∣ z - rsd L c j) → In ((pp (moL L) (cnt L b) : Nat) : Int) z x y := by
  obtain ⟨c, hc, hb⟩ := bits_ex L.length fun j => decide ((tq (atL L j) : Int) ∣ x - (atL L j).2.2 * y)
  refine ⟨c, hc, fun z hz => pp_dvdZ (fun i j hij hj => G.cop hij hj) fun j hj => ?_⟩
  have hdN : (moL L j : Int) ∣ gN x y := by rw [hN]; exact Int.natCast_dvd_natCast.mpr (pp_dvd hj)
  have hzj := hz j hj
  by_cases h : j < L.length
  · have g := G.ok _ (atL_mem h)
    have hapj := hap _ (atL_mem h)
    have hbj := hb j h
    rw [decide_eq_true_eq] at hbj
    unfold moL rsd at *
    rw [if_pos h] at hdN hzj ⊢
    rw [if_pos h] at hzj
    have hpq := g.pq
    have hsq := g.sq
    have hr : ¬ (atL L j).1 ∣ (atL L j).2.2 := fun q => by
      have h1 := Int.dvd_trans (Int.natCast_dvd_natCast.mpr hpq) hsq
      have h2 : ((atL L j).1 : Int) ∣ ((atL L j).2.2 : Int) * (atL L j).2.2 := Int.dvd_trans (Int.natCast_dvd_natCast.mpr q) ⟨_, rfl⟩
      have h3 := Int.dvd_sub h1 h2
      rw [show ((atL L j).2.2 : Int) * (atL L j).2.2 + 1 - ((atL L j).2.2 : Int) * (atL L j).2.2 = 1 by (first | lia | omega)] at h3
      have := Int.le_of_dvd (by decide) h3
      have := (p11 g.p).1
      (first | lia | omega)
    have key : (tq (atL L j) : Int) ∣ (x - (atL L j).2.2 * y) * (x + (atL L j).2.2 * y) := by
      have h1 := Int.dvd_sub hdN (Int.dvd_trans hsq ⟨y * y, rfl⟩)
      unfold gN at h1
      rwa [show x * x + y * y - (((atL L j).2.2 : Int) * (atL L j).2.2 + 1) * (y * y) = (x - (atL L j).2.2 * y) * (x + (atL L j).2.2 * y) by grind] at h1
    have hp := g.p
    have hodd := (p11 hp).2.2
    have hp5 := (p11 hp).1
    have hcopp : ∀ w : Int, ¬ (((atL L j).1 : Nat) : Int) ∣ w → Nat.Coprime (tq (atL L j)) w.natAbs := fun w hw => Nat.Coprime.pow_left _ (cop11 hp fun q => hw (Int.ofNat_dvd_left.mpr q))
    have dv : ∀ w v : Int, (tq (atL L j) : Int) ∣ w * v → ¬ (((atL L j).1 : Nat) : Int) ∣ v → (tq (atL L j) : Int) ∣ w := fun w v hwv hv => by
      have h4 : tq (atL L j) ∣ w.natAbs * v.natAbs := by
        have := Int.natAbs_dvd_natAbs.mpr hwv
        rwa [Int.natAbs_natCast, Int.natAbs_mul] at this
      exact Int.ofNat_dvd_left.mpr ((hcopp v hv).dvd_of_dvd_mul_right h4)
    have side : (tq (atL L j) : Int) ∣ x - (atL L j).2.2 * y ∨ (tq (atL L j) : Int) ∣ x + (atL L j).2.2 * y := by
      by_cases q1 : (((atL L j).1 : Nat) : Int) ∣ x + (atL L j).2.2 * y
      · by_cases q2 : (((atL L j).1 : Nat) : Int) ∣ x - (atL L j).2.2 * y
        · exfalso
          have h5 := Int.dvd_add q1 q2
          rw [show x + (atL L j).2.2 * y + (x - (atL L j).2.2 * y) = 2 * x by (first | lia | omega)] at h5
          have hx := odd_cancel (by (first | lia | omega)) h5
          have h6 := Int.dvd_sub q1 hx
          rw [show x + (atL L j).2.2 * y - x = (atL L j).2.2 * y by (first | lia | omega)] at h6
          have h7 : (atL L j).1 ∣ (atL L j).2.2 * y.natAbs := by
            have := Int.natAbs_dvd_natAbs.mpr h6
            rwa [Int.natAbs_natCast, Int.natAbs_mul, Int.natAbs_natCast] at this
          exact hapj ⟨hx, Int.ofNat_dvd_left.mpr ((cop11 hp hr).dvd_of_dvd_mul_left h7)⟩
        · right; exact dv _ _ (by rw [Int.mul_comm]; exact key) q2
      · left; exact dv _ _ key q1
    clear key dv hcopp hr hdN hapj
    generalize (tq (atL L j) : Int) = q at *
    generalize ((atL L j).2.2 : Int) = r at *
    obtain ⟨i, hi⟩ := hzj
    by_cases e : c / 2 ^ j % 2 = 0
    · rw [if_pos e] at hi
      obtain ⟨k, hk⟩ := hbj.mp e
      exact ⟨k - i * y, by grind⟩
    · rw [if_neg e] at hi
      obtain ⟨k, hk⟩ := side.resolve_left fun w => e (hbj.mpr w)
      exact ⟨k - y - i * y, by grind⟩
  · unfold moL rsd at *
    rw [if_neg h] at hdN hzj ⊢
    rw [if_neg h] at hzj
    obtain ⟨k, hk⟩ := hdN
    obtain ⟨i, hi⟩ := hzj
    unfold gN at hk
    have ex : x = 2 * (x / 2) + x % 2 := by (first | lia | omega)
    have ey : y = 2 * (y / 2) + y % 2 := by (first | lia | omega)
    have hz' : z = 1 + 2 * i := by have : ((2 : Nat) : Int) = 2 := rfl; (first | lia | omega)
    have hpar : (x - y) % 2 = 0 := by
      have h1 : (x - y) * (x - y) = 2 * (k - x * y) := by have : ((2 : Nat) : Int) = 2 := rfl; rw [this] at hk; grind
      rcases (by (first | lia | omega) : (x - y) % 2 = 0 ∨ (x - y) % 2 = 1) with q | q
      · exact q
      · exfalso
        have ew : x - y = 2 * ((x - y) / 2) + 1 := by (first | lia | omega)
        generalize (x - y) / 2 = w at ew
        rw [ew] at h1
        have : (2 * w + 1) * (2 * w + 1) = 2 * (2 * w * w + 2 * w) + 1 := by grind
        (first | lia | omega)
    have hw : x - y = 2 * ((x - y) / 2) := by (first | lia | omega)
    generalize (x - y) / 2 = w at hw
    exact ⟨w - i * y, by rw [hz']; have : ((2 : Nat) : Int) = 2 := rfl
                         rw [this]; grind⟩
noncomputable def sqs (k : Nat) : List (Int × Int) := (List.range k).map fun y => (((y : Nat) : Int) * y, (y : Int))
theorem sqs_mem {k : Nat} {q : Int × Int} : q ∈ sqs k ↔ ∃ y : Nat, y < k ∧ q = ((y : Int) * y, (y : Int)) := by
  unfold sqs
  rw [List.mem_map]
  constructor
  · rintro ⟨y, hy, rfl⟩; exact ⟨y, List.mem_range.mp hy, rfl⟩
  · rintro ⟨y, hy, rfl⟩; exact ⟨y, List.mem_range.mpr hy, rfl⟩
theorem sq_inj {a b : Nat} (h : (a : Int) * a = b * b) : a = b := by
  have h : a * a = b * b := by exact_mod_cast h
  exact Nat.mul_self_inj.mp h
theorem sqs_put (k : Nat) : kdfPut (sqs k) ((k : Int) * k) k = sqs (k + 1) := by
  unfold kdfPut
  rw [if_neg]
  · unfold sqs; rw [List.range_succ, List.map_append]; rfl
  · intro h
    obtain ⟨q, hq, h2⟩ := List.any_eq_true.mp h
    obtain ⟨y, hy, rfl⟩ := sqs_mem.mp hq
    have := sq_inj (of_decide_eq_true h2)
    (first | lia | omega)
theorem look_sqs (k : Nat) (z : Int) : (∃ y : Nat, y < k ∧ z = (y : Int) * y ∧ kdfLook (sqs k) z (-1) = y) ∨ ((∀ y : Nat, y < k → z ≠ (y : Int) * y) ∧ kdfLook (sqs k) z (-1) = -1) := by
  unfold kdfLook
  cases hf : (sqs k).find? fun p => decide (p.1 = z) with
  | none =>
    refine .inr ⟨fun y hy e => ?_, rfl⟩
    have := List.find?_eq_none.mp hf _ (sqs_mem.mpr ⟨y, hy, rfl⟩)
    exact this (decide_eq_true e.symm)
  | some q =>
    obtain ⟨y, hy, rfl⟩ := sqs_mem.mp (List.mem_of_find?_eq_some hf)
    have := of_decide_eq_true (List.find?_some (p := fun p : Int × Int => decide (p.1 = z)) hf)
    exact .inl ⟨y, hy, this.symm, rfl⟩
noncomputable def yOf (n x : Int) : Int := kdfLook (sqs 202) (n - x * x) (-1)
noncomputable def apartB (ps : List Nat) (x y : Int) : Bool := ps.all fun p => !(decide (x % (p : Int) = 0) && decide (y % (p : Int) = 0))
noncomputable def wOf (n : Int) (ps : List Nat) (x : Int) : List (Int × Int) :=
  if 0 ≤ yOf n x ∧ apartB ps x (yOf n x) = true then (x, yOf n x) :: (if 0 < yOf n x then [(x, -(yOf n x))] else []) else []
noncomputable def wL (n : Int) (ps : List Nat) (k : Nat) : List (Int × Int) := (List.range k).flatMap fun (j : Nat) => wOf n ps ((j : Int) - 201)
theorem wL_succ (n : Int) (ps : List Nat) (k : Nat) : wL n ps (k + 1) = wL n ps k ++ wOf n ps ((k : Int) - 201) := by
  unfold wL; rw [List.range_succ, List.flatMap_append]; simp
theorem apartB_neg {ps : List Nat} {x y : Int} : apartB ps x (-y) = apartB ps x y := by
  unfold apartB
  congr 1
  funext p
  rw [decide_eq_decide.mpr (show (-y) % (p : Int) = 0 ↔ y % (p : Int) = 0 from ⟨fun h => Int.emod_eq_zero_of_dvd (Int.dvd_neg.mp (Int.dvd_of_emod_eq_zero h)), fun h => Int.emod_eq_zero_of_dvd (Int.dvd_neg.mpr (Int.dvd_of_emod_eq_zero h))⟩)]
theorem gN_neg (x v : Int) : gN x (-v) = gN x v := by unfold gN; rw [Int.neg_mul_neg]
theorem mem_wOf {n x u v : Int} {ps : List Nat} (h : (u, v) ∈ wOf n ps x) : u = x ∧ gN x v = n ∧ apartB ps x v = true := by
  unfold wOf at h
  split at h
  · rename_i hy
    have e : gN x (yOf n x) = n := by
      rcases look_sqs 202 (n - x * x) with ⟨y, _, h1, h2⟩ | ⟨_, h2⟩
      · have : yOf n x = y := h2
        rw [this]; unfold gN; (first | lia | omega)
      · have : yOf n x = -1 := h2
        (first | lia | omega)
    rcases List.mem_cons.mp h with h | h
    · cases h; exact ⟨rfl, e, hy.2⟩
    · split at h
      · cases List.mem_singleton.mp h
        refine ⟨rfl, ?_, by rw [apartB_neg]; exact hy.2⟩
        rw [gN_neg]; exact e
      · cases h
  · cases h
theorem le200 {x y n : Int} (h : gN x y = n) (hn : n ≤ 40000) : -200 ≤ x ∧ x ≤ 200 := by
  have h2 : 0 ≤ y * y := by rcases Int.le_total 0 y with h | h; exact Int.mul_nonneg h h; exact Int.mul_nonneg_of_nonpos_of_nonpos h h
  unfold gN at h
  have h3 : x * x ≤ 40000 := by (first | lia | omega)
  constructor
  · rcases Int.lt_or_le x (-200) with q | q
    · have := Int.mul_le_mul_of_nonneg_left (a := 201) (b := -x) (c := -x) (by (first | lia | omega)) (by (first | lia | omega))
      rw [Int.neg_mul_neg] at this; (first | lia | omega)
    · exact q
  · rcases Int.lt_or_le 200 x with q | q
    · have := Int.mul_le_mul_of_nonneg_left (a := 201) (b := x) (c := x) (by (first | lia | omega)) (by (first | lia | omega)); (first | lia | omega)
    · exact q
theorem gN_swap (x y : Int) : gN y x = gN x y := by unfold gN; (first | lia | omega)
theorem wOf_mem {n x v : Int} {ps : List Nat} (hn : n ≤ 40000) (h : gN x v = n) (ha : apartB ps x v = true) : (x, v) ∈ wOf n ps x := by
  have hv := le200 (x := v) (y := x) (by rw [gN_swap]; exact h) hn
  have hy : yOf n x = (v.natAbs : Int) := by
    have e : n - x * x = (v.natAbs : Int) * v.natAbs := by
      rw [← h, gN_abs]; have := gN_abs x 0; unfold gN at this; push_cast at *; (first | lia | omega)
    rcases look_sqs 202 (n - x * x) with ⟨y, _, h1, h2⟩ | ⟨h1, _⟩
    · have : yOf n x = y := h2
      rw [this, sq_inj (h1.symm.trans e)]
    · exact absurd e (h1 v.natAbs (by (first | lia | omega)))
  have ha' : apartB ps x (v.natAbs : Int) = true := by
    rcases Int.natAbs_eq v with q | q
    · rw [← q]; exact ha
    · rw [← apartB_neg, ← q]; exact ha
  unfold wOf
  rw [hy, if_pos ⟨by (first | lia | omega), ha'⟩]
  rcases Int.le_total 0 v with q | q
  · rw [show v = (v.natAbs : Int) by (first | lia | omega)]
    exact .head _
  · by_cases h0 : v = 0
    · rw [h0]; exact .head _
    · rw [if_pos (by (first | lia | omega))]
      refine .tail _ ?_
      rw [show -(v.natAbs : Int) = v by (first | lia | omega)]
      exact .head _
theorem mem_wL {n : Int} {ps : List Nat} (hn : n ≤ 40000) {p : Int × Int} : p ∈ wL n ps 403 ↔ gN p.1 p.2 = n ∧ apartB ps p.1 p.2 = true := by
  obtain ⟨u, v⟩ := p
  unfold wL
  rw [List.mem_flatMap]
  constructor
  · rintro ⟨j, _, h⟩
    obtain ⟨rfl, h2, h3⟩ := mem_wOf h
    exact ⟨h2, h3⟩
  · rintro ⟨h1, h2⟩
    have := le200 h1 hn
    refine ⟨(u + 201).toNat, List.mem_range.mpr (by (first | lia | omega)), ?_⟩
    rw [show (((u + 201).toNat : Nat) : Int) - 201 = u by (first | lia | omega)]
    exact wOf_mem hn h1 h2
theorem nodup_wOf {n x : Int} {ps : List Nat} : (wOf n ps x).Pairwise (· ≠ ·) := by
  unfold wOf
  split
  · split
    · rename_i h
      refine List.pairwise_cons.mpr ⟨fun q hq e => ?_, List.pairwise_singleton ..⟩
      rw [List.mem_singleton.mp hq] at e
      injection e with _ e
      (first | lia | omega)
    · exact List.pairwise_singleton ..
  · exact .nil
theorem nodup_wL {n : Int} {ps : List Nat} {k : Nat} : (wL n ps k).Nodup := by
  rw [List.nodup_iff_pairwise_ne]
  unfold wL
  rw [List.pairwise_flatMap]
  refine ⟨fun _ _ => nodup_wOf, ?_⟩
  refine List.pairwise_iff_getElem.mpr fun i j hi hj hij a ha b hb e => ?_
  rw [List.getElem_range] at ha hb
  obtain ⟨a1, a2⟩ := a
  obtain ⟨b1, b2⟩ := b
  have h1 := (mem_wOf ha).1
  have h2 := (mem_wOf hb).1
  injection e with e _
  (first | lia | omega)
noncomputable def four (p : Int × Int) : List (Int × Int) := [(p.1, p.2), (-p.2, p.1), (-p.1, -p.2), (p.2, -p.1)]
noncomputable def metL (f : Nat → Int × Int) (k : Nat) : List (Int × Int) := (List.range k).flatMap fun c => four (f c)
theorem metL_succ (f : Nat → Int × Int) (k : Nat) : metL f (k + 1) = metL f k ++ four (f k) := by
  unfold metL; rw [List.range_succ, List.flatMap_append]; simp
theorem mem_four {p q : Int × Int} : q ∈ four p ↔ Un p.1 p.2 q.1 q.2 := by
  obtain ⟨a, b⟩ := p
  obtain ⟨c, d⟩ := q
  unfold four Un
  simp only [List.mem_cons, List.not_mem_nil, or_false, Prod.mk.injEq]
theorem nodup_four {p : Int × Int} (h : p.1 ≠ 0 ∨ p.2 ≠ 0) : (four p).Pairwise (· ≠ ·) := by
  obtain ⟨a, b⟩ := p
  unfold four
  simp only [List.pairwise_cons, List.mem_cons, List.not_mem_nil, or_false, ne_eq, forall_eq_or_imp, forall_eq, Prod.mk.injEq, not_and, List.Pairwise.nil, and_true, false_implies, implies_true]
  refine ⟨⟨fun h1 => ?_, fun h1 => ?_, fun h1 => ?_⟩, ⟨fun h1 => ?_, fun h1 => ?_⟩, fun h1 => ?_⟩ <;> intro h2 <;> simp only at h <;> (first | lia | omega)
theorem met_perm {L : List TR} (G : GoodL L) {b : Bool} (h1 : 1 ≤ L.length) (hs : pp (moL L) (cnt L b) ≤ 40000) {f : Nat → Int × Int} {z : Nat → Nat}
    (hz : ∀ c, c < 2 ^ L.length → z c < pp (moL L) (cnt L b) ∧ ∀ j, j < cnt L b → (moL L j : Int) ∣ (z c : Int) - rsd L c j)
    (hf : ∀ c, c < 2 ^ L.length → gN (f c).1 (f c).2 = (pp (moL L) (cnt L b) : Nat) ∧ In ((pp (moL L) (cnt L b) : Nat) : Int) (z c) (f c).1 (f c).2) :
    (metL f (2 ^ L.length)).Perm (wL (pp (moL L) (cnt L b) : Nat) (L.map (·.1)) 403) := by
  have hn0 : 0 < pp (moL L) (cnt L b) := pp_pos fun j _ => by have := G.two j; (first | lia | omega)
  have hroot : ∀ c, c < 2 ^ L.length → ((pp (moL L) (cnt L b) : Nat) : Int) ∣ (z c : Int) * z c + 1 := fun c hc => G.root_sq (hz c hc).2
  have nm : (metL f (2 ^ L.length)).Nodup := by
    rw [List.nodup_iff_pairwise_ne]
    unfold metL
    rw [List.pairwise_flatMap]
    refine ⟨fun c hc => nodup_four ?_, ?_⟩
    · have := (hf c (List.mem_range.mp hc)).1
      rcases Decidable.em ((f c).1 ≠ 0 ∨ (f c).2 ≠ 0) with q | q
      · exact q
      · rw [show (f c).1 = 0 by (first | lia | omega), show (f c).2 = 0 by (first | lia | omega)] at this
        unfold gN at this; (first | lia | omega)
    · refine List.pairwise_iff_getElem.mpr fun i j hi hj hij x hx y hy e => ?_
      rw [List.getElem_range] at hx hy
      rw [List.length_range] at hi hj
      subst e
      have u1 := mem_four.mp hx
      have u2 := mem_four.mp hy
      have i1 := u1.inn (hroot i hi) (hf i hi).2
      have i2 := u2.inn (hroot j hj) (hf j hj).2
      have hN : gN x.1 x.2 = (pp (moL L) (cnt L b) : Nat) := by rw [u1.norm]; exact (hf i hi).1
      have hd := root_uniq (by (first | lia | omega)) (hroot i hi) hN i1 i2
      have e : (z i : Int) - z j = 0 := Int.eq_zero_of_dvd_of_natAbs_lt_natAbs hd (by have := (hz i hi).1; have := (hz j hj).1; (first | lia | omega))
      have ez : (z i : Int) = z j := by (first | lia | omega)
      have := G.inj hi hj (hz i hi).2 (by rw [ez]; exact (hz j hj).2)
      (first | lia | omega)
  refine (List.perm_ext_iff_of_nodup nm nodup_wL).mpr fun p => ?_
  rw [mem_wL (by (first | lia | omega))]
  unfold metL
  rw [List.mem_flatMap]
  constructor
  · rintro ⟨c, hc, hp⟩
    have hc := List.mem_range.mp hc
    have u := mem_four.mp hp
    have hN : gN p.1 p.2 = (pp (moL L) (cnt L b) : Nat) := by rw [u.norm]; exact (hf c hc).1
    have hi := u.inn (hroot c hc) (hf c hc).2
    refine ⟨hN, List.all_eq_true.mpr fun q hq => ?_⟩
    obtain ⟨t, ht, rfl⟩ := List.mem_map.mp hq
    have hp5 := (p11 (G.ok t ht).p).1
    rw [Bool.not_eq_true', Bool.and_eq_false_iff]
    rcases Decidable.em (p.1 % ((t.1 : Nat) : Int) = 0) with q1 | q1
    · right
      refine decide_eq_false fun q2 => ?_
      have := prim_of (d := ((t.1 : Nat) : Int)) (by (first | lia | omega)) (hroot c hc) hN hi (by (first | lia | omega)) (Int.dvd_of_emod_eq_zero q1) (Int.dvd_of_emod_eq_zero q2)
      (first | lia | omega)
    · left; exact decide_eq_false q1
  · rintro ⟨hN, ha⟩
    obtain ⟨c, hc, hall⟩ := G.surj hN fun t ht ⟨d1, d2⟩ => by
      have := List.all_eq_true.mp ha t.1 (List.mem_map.mpr ⟨t, ht, rfl⟩)
      rw [decide_eq_true (Int.emod_eq_zero_of_dvd d1), decide_eq_true (Int.emod_eq_zero_of_dvd d2)] at this
      cases this
    refine ⟨c, List.mem_range.mpr hc, mem_four.mpr ?_⟩
    exact unit_of (by (first | lia | omega)) (hroot c hc) hN (hall _ (hz c hc).2) (hf c hc).1 (hf c hc).2
noncomputable def gt : List (Str × Addr) := [((Str.ofString "bit_num"), 21), ((Str.ofString "arygcd_i"), 28), ((Str.ofString "_ap_norm_i"), 35), ((Str.ofString "_n_pow_i"), 42), ((Str.ofString "_FormAdj_i"), 49), ((Str.ofString "extgcd"), 56), ((Str.ofString "legendre"), 63), ((Str.ofString "modsqrt"), 71), ((Str.ofString "inverse"), 78), ((Str.ofString "CRT"), 85), ((Str.ofString "CRT_"), 93), ((Str.ofString "CRT_Gauss"), 99), ((Str.ofString "vp"), 107), ((Str.ofString "product"), 115), ((Str.ofString "_law_take"), 122), ((Str.ofString "_law_prime"), 129), ((Str.ofString "_law_ways"), 136), ((Str.ofString "law"), 141)]
noncomputable def bt : List Str := [(Str.ofString "len"), (Str.ofString "int"), (Str.ofString "list"), (Str.ofString "tuple"), (Str.ofString "abs"), (Str.ofString "min"), (Str.ofString "max"), (Str.ofString "divmod"), (Str.ofString "isinstance"), (Str.ofString "bool"), (Str.ofString "range"), (Str.ofString "ValueError"), (Str.ofString "sorted"), (Str.ofString "set"), (Str.ofString "sum"), (Str.ofString "zip"), (Str.ofString "enumerate"), (Str.ofString "pow"), (Str.ofString "str")]
-- bit_num at 21: ['a']
noncomputable def m_bit_num : MS := (.seq (.ite (.cmp .eq (.var 0) (.int 0)) (.seq (.ret (.int 1)) .skip) (.seq (.ret (.bitlen (.var 0))) .skip)) .skip)
noncomputable abbrev n_bit_num : List Str := [(Str.ofString "a")]
noncomputable abbrev p_bit_num : List Str := [(Str.ofString "a")]
-- arygcd_i at 28: ['a1', 'a2', 'b1', 'b2', 'ap', 'bp', 'k', 'norm_a', 'norm_b', 's', 't']
noncomputable def m_arygcd_i : MS := (.seq (.ite (.and (.cmp .eq (.var 0) (.int 0)) (.cmp .eq (.var 1) (.int 0))) (.seq (.ret (.tup (.cons (.var 2) (.cons (.var 3) .nil)))) .skip) (.seq (.ite (.and (.cmp .eq (.var 2) (.int 0)) (.cmp .eq (.var 3) (.int 0))) (.seq (.ret (.tup (.cons (.var 0) (.cons (.var 1) .nil)))) .skip) .skip) .skip)) (.seq (.asgN [4, 5] (.cons (.int 0) (.cons (.int 0) .nil))) (.seq (.whil (.cmp .eq (.bin .band (.bin .sub (.var 0) (.var 1)) (.int 1)) (.int 0)) (.seq (.asgN [0, 1] (.cons (.bin .shr (.bin .add (.var 0) (.var 1)) (.int 1)) (.cons (.bin .shr (.bin .sub (.var 1) (.var 0)) (.int 1)) .nil))) (.seq (.aug 4 .add (.int 1)) .skip)) .skip) (.seq (.whil (.cmp .eq (.bin .band (.bin .sub (.var 2) (.var 3)) (.int 1)) (.int 0)) (.seq (.asgN [2, 3] (.cons (.bin .shr (.bin .add (.var 2) (.var 3)) (.int 1)) (.cons (.bin .shr (.bin .sub (.var 3) (.var 2)) (.int 1)) .nil))) (.seq (.aug 5 .add (.int 1)) .skip)) .skip) (.seq (.asg 6 (.mn (.var 4) (.var 5))) (.seq (.whil (.or (.cmp .ne (.var 0) (.int 0)) (.cmp .ne (.var 1) (.int 0))) (.seq (.whil (.cmp .eq (.bin .band (.bin .sub (.var 0) (.var 1)) (.int 1)) (.int 0)) (.seq (.asgN [0, 1] (.cons (.bin .shr (.bin .add (.var 0) (.var 1)) (.int 1)) (.cons (.bin .shr (.bin .sub (.var 1) (.var 0)) (.int 1)) .nil))) .skip) .skip) (.seq (.unp [7, 8] (.call 35 (.cons (.var 0) (.cons (.var 1) (.cons (.var 2) (.cons (.var 3) .nil)))))) (.seq (.ite (.cmp .lt (.var 7) (.var 8)) (.seq (.asgN [0, 1, 2, 3] (.cons (.var 2) (.cons (.var 3) (.cons (.var 0) (.cons (.var 1) .nil))))) .skip) .skip) (.seq (.unp [0, 1] (.call 49 (.cons (.var 0) (.cons (.var 1) .nil)))) (.seq (.unp [2, 3] (.call 49 (.cons (.var 2) (.cons (.var 3) .nil)))) (.seq (.asgN [0, 1] (.cons (.bin .sub (.var 0) (.var 2)) (.cons (.bin .sub (.var 1) (.var 3)) .nil))) .skip)))))) .skip) (.seq (.ite (.tv (.inl (.int 0) (.tup (.cons (.var 4) (.cons (.var 5) .nil))) true)) (.seq (.ret (.tup (.cons (.var 2) (.cons (.var 3) .nil)))) .skip) (.seq (.unp [9, 10] (.call 42 (.cons (.int 1) (.cons (.int 1) (.cons (.var 6) .nil))))) (.seq (.ret (.tup (.cons (.bin .sub (.bin .mul (.var 2) (.var 9)) (.bin .mul (.var 3) (.var 10))) (.cons (.bin .add (.bin .mul (.var 2) (.var 10)) (.bin .mul (.var 3) (.var 9))) .nil)))) .skip))) .skip)))))))
noncomputable abbrev n_arygcd_i : List Str := [(Str.ofString "a1"), (Str.ofString "a2"), (Str.ofString "b1"), (Str.ofString "b2"), (Str.ofString "ap"), (Str.ofString "bp"), (Str.ofString "k"), (Str.ofString "norm_a"), (Str.ofString "norm_b"), (Str.ofString "s"), (Str.ofString "t")]
noncomputable abbrev p_arygcd_i : List Str := [(Str.ofString "a1"), (Str.ofString "a2"), (Str.ofString "b1"), (Str.ofString "b2")]
-- _ap_norm_i at 35: ['a', 'b', 'c', 'd', 'max_dig', 'sft_num']
noncomputable def m_ap_norm_i : MS := (.seq (.asgN [0, 1, 2, 3] (.cons (.abs (.var 0)) (.cons (.abs (.var 1)) (.cons (.abs (.var 2)) (.cons (.abs (.var 3)) .nil))))) (.seq (.asg 4 (.mx4 (.call 21 (.cons (.var 0) .nil)) (.call 21 (.cons (.var 1) .nil)) (.call 21 (.cons (.var 2) .nil)) (.call 21 (.cons (.var 3) .nil)))) (.seq (.ite (.cmp .gt (.var 4) (.int 6)) (.seq (.asg 5 (.bin .sub (.var 4) (.int 6))) (.seq (.asgN [0, 1, 2, 3] (.cons (.bin .shr (.var 0) (.var 5)) (.cons (.bin .shr (.var 1) (.var 5)) (.cons (.bin .shr (.var 2) (.var 5)) (.cons (.bin .shr (.var 3) (.var 5)) .nil))))) (.seq (.ret (.tup (.cons (.bin .add (.bin .mul (.var 0) (.var 0)) (.bin .mul (.var 1) (.var 1))) (.cons (.bin .add (.bin .mul (.var 2) (.var 2)) (.bin .mul (.var 3) (.var 3))) .nil)))) .skip))) (.seq (.ret (.tup (.cons (.bin .add (.bin .mul (.var 0) (.var 0)) (.bin .mul (.var 1) (.var 1))) (.cons (.bin .add (.bin .mul (.var 2) (.var 2)) (.bin .mul (.var 3) (.var 3))) .nil)))) .skip)) .skip)))
noncomputable abbrev n_ap_norm_i : List Str := [(Str.ofString "a"), (Str.ofString "b"), (Str.ofString "c"), (Str.ofString "d"), (Str.ofString "max_dig"), (Str.ofString "sft_num")]
noncomputable abbrev p_ap_norm_i : List Str := [(Str.ofString "a"), (Str.ofString "b"), (Str.ofString "c"), (Str.ofString "d")]
-- _n_pow_i at 42: ['a', 'b', 'n', 'x', 'y', 'i', 'x1', 'y1']
noncomputable def m_n_pow_i : MS := (.seq (.asg 3 (.var 0)) (.seq (.asg 4 (.var 1)) (.seq (.forR 5 (.int 1) (.var 2) (.int 1) (.seq (.asg 6 (.bin .sub (.bin .mul (.var 3) (.var 0)) (.bin .mul (.var 4) (.var 1)))) (.seq (.asg 7 (.bin .add (.bin .mul (.var 4) (.var 0)) (.bin .mul (.var 3) (.var 1)))) (.seq (.asg 3 (.var 6)) (.seq (.asg 4 (.var 7)) .skip))))) (.seq (.ret (.tup (.cons (.var 3) (.cons (.var 4) .nil)))) .skip))))
noncomputable abbrev n_n_pow_i : List Str := [(Str.ofString "a"), (Str.ofString "b"), (Str.ofString "n"), (Str.ofString "x"), (Str.ofString "y"), (Str.ofString "i"), (Str.ofString "x1"), (Str.ofString "y1")]
noncomputable abbrev p_n_pow_i : List Str := [(Str.ofString "a"), (Str.ofString "b"), (Str.ofString "n")]
-- _FormAdj_i at 49: ['a', 'b']
noncomputable def m_FormAdj_i : MS := (.seq (.ite (.cmp .eq (.bin .band (.var 0) (.int 1)) (.int 0)) (.seq (.asgN [0, 1] (.cons (.neg (.var 1)) (.cons (.var 0) .nil))) .skip) .skip) (.seq (.ite (.cmp .eq (.bin .band (.bin .add (.bin .sub (.var 1) (.var 0)) (.int 1)) (.int 3)) (.int 0)) (.seq (.ret (.tup (.cons (.var 0) (.cons (.var 1) .nil)))) .skip) (.seq (.ret (.tup (.cons (.neg (.var 0)) (.cons (.neg (.var 1)) .nil)))) .skip)) .skip))
noncomputable abbrev n_FormAdj_i : List Str := [(Str.ofString "a"), (Str.ofString "b")]
noncomputable abbrev p_FormAdj_i : List Str := [(Str.ofString "a"), (Str.ofString "b")]
-- extgcd at 56: ['x', 'y', 'a', 'b', 'g', 'u', 'v', 'w', 'q', 't']
noncomputable def m_extgcd : MS := (.seq (.asgN [2, 3, 4, 5, 6, 7] (.cons (.int 1) (.cons (.int 0) (.cons (.var 0) (.cons (.int 0) (.cons (.int 1) (.cons (.var 1) .nil))))))) (.seq (.whil (.tv (.var 7)) (.seq (.unp [8, 9] (.dvm (.var 4) (.var 7))) (.seq (.asgN [2, 3, 4, 5, 6, 7] (.cons (.var 5) (.cons (.var 6) (.cons (.var 7) (.cons (.bin .sub (.var 2) (.bin .mul (.var 8) (.var 5))) (.cons (.bin .sub (.var 3) (.bin .mul (.var 8) (.var 6))) (.cons (.var 9) .nil))))))) .skip)) .skip) (.seq (.ite (.cmp .ge (.var 4) (.int 0)) (.seq (.ret (.tup (.cons (.var 2) (.cons (.var 3) (.cons (.var 4) .nil))))) .skip) (.seq (.ret (.tup (.cons (.neg (.var 2)) (.cons (.neg (.var 3)) (.cons (.neg (.var 4)) .nil))))) .skip)) .skip)))
noncomputable abbrev n_extgcd : List Str := [(Str.ofString "x"), (Str.ofString "y"), (Str.ofString "a"), (Str.ofString "b"), (Str.ofString "g"), (Str.ofString "u"), (Str.ofString "v"), (Str.ofString "w"), (Str.ofString "q"), (Str.ofString "t")]
noncomputable abbrev p_extgcd : List Str := [(Str.ofString "x"), (Str.ofString "y")]
-- legendre at 63: ['a', 'm', 'symbol']
noncomputable def m_legendre : MS := (.seq (.asg 0 (.bin .mod (.var 0) (.var 1))) (.seq (.asg 2 (.int 1)) (.seq (.whil (.cmp .ne (.var 0) (.int 0)) (.seq (.whil (.cmp .eq (.bin .band (.var 0) (.int 1)) (.int 0)) (.seq (.aug 0 .shr (.int 1)) (.seq (.ite (.or (.cmp .eq (.bin .band (.var 1) (.int 7)) (.int 3)) (.cmp .eq (.bin .band (.var 1) (.int 7)) (.int 5))) (.seq (.asg 2 (.neg (.var 2))) .skip) .skip) .skip)) .skip) (.seq (.asgN [0, 1] (.cons (.var 1) (.cons (.var 0) .nil))) (.seq (.ite (.and (.cmp .eq (.bin .band (.var 0) (.int 3)) (.int 3)) (.cmp .eq (.bin .band (.var 1) (.int 3)) (.int 3))) (.seq (.asg 2 (.neg (.var 2))) .skip) .skip) (.seq (.asg 0 (.bin .mod (.var 0) (.var 1))) .skip)))) .skip) (.seq (.ite (.cmp .eq (.var 1) (.int 1)) (.seq (.ret (.var 2)) .skip) .skip) (.seq (.ret (.int 0)) .skip)))))
noncomputable abbrev n_legendre : List Str := [(Str.ofString "a"), (Str.ofString "m"), (Str.ofString "symbol")]
noncomputable abbrev p_legendre : List Str := [(Str.ofString "a"), (Str.ofString "m")]
-- modsqrt at 71: ['n', 'p', 'e', 'x', 'ppower', 'z', 'i', 'symbol', 'pmod8', 'c', 'd', 's', 't', 'A', 'D', 'm']
noncomputable def m_modsqrt : MS := (.seq (.ite (.cmp .lt (.int 1) (.var 2)) (.seq (.asg 3 (.call 71 (.cons (.var 0) (.cons (.var 1) .nil)))) (.seq (.ite (.cmp .eq (.int 0) (.var 3)) (.seq .stop .skip) .skip) (.seq (.asg 4 (.var 1)) (.seq (.asg 5 (.call 78 (.cons (.bin .shl (.var 3) (.int 1)) (.cons (.var 1) .nil)))) (.seq (.forR 6 (.int 0) (.bin .sub (.var 2) (.int 1)) (.int 1) (.seq (.aug 3 .add (.bin .mul (.bin .mod (.bin .mul (.bin .fdiv (.bin .sub (.var 0) (.bin .pow (.var 3) (.int 2))) (.var 4)) (.var 5)) (.var 1)) (.var 4))) (.seq (.aug 4 .mul (.var 1)) .skip))) (.seq (.ret (.var 3)) .skip)))))) .skip) (.seq (.asg 7 (.call 63 (.cons (.var 0) (.cons (.var 1) .nil)))) (.seq (.ite (.cmp .eq (.var 7) (.int 1)) (.seq (.asg 8 (.bin .band (.var 1) (.int 7))) (.seq (.ite (.cmp .ne (.var 8) (.int 1)) (.seq (.aug 0 .mod (.var 1)) (.seq (.ite (.or (.cmp .eq (.var 8) (.int 3)) (.cmp .eq (.var 8) (.int 7))) (.seq (.asg 3 (.pow3 (.var 0) (.bin .add (.bin .shr (.var 1) (.int 2)) (.int 1)) (.var 1))) .skip) (.seq (.asg 3 (.pow3 (.var 0) (.bin .add (.bin .shr (.var 1) (.int 3)) (.int 1)) (.var 1))) (.seq (.asg 9 (.pow3 (.var 3) (.int 2) (.var 1))) (.seq (.ite (.cmp .ne (.var 9) (.var 0)) (.seq (.asg 3 (.bin .mod (.bin .mul (.var 3) (.pow3 (.int 2) (.bin .shr (.var 1) (.int 2)) (.var 1))) (.var 1))) .skip) .skip) .skip)))) .skip)) (.seq (.asg 10 (.int 2)) (.seq (.whil (.cmp .ne (.call 63 (.cons (.var 10) (.cons (.var 1) .nil))) (.neg (.int 1))) (.seq (.aug 10 .add (.int 1)) .skip) .skip) (.seq (.unp [11, 12] (.call 107 (.cons (.bin .sub (.var 1) (.int 1)) (.cons (.int 2) .nil)))) (.seq (.asg 13 (.pow3 (.var 0) (.var 12) (.var 1))) (.seq (.asg 14 (.pow3 (.var 10) (.var 12) (.var 1))) (.seq (.asg 15 (.int 0)) (.seq (.forR 6 (.int 1) (.var 11) (.int 1) (.seq (.ite (.cmp .eq (.pow3 (.bin .mul (.var 13) (.pow3 (.var 14) (.var 15) (.var 1))) (.bin .shl (.int 1) (.bin .sub (.bin .sub (.var 11) (.int 1)) (.var 6))) (.var 1)) (.bin .sub (.var 1) (.int 1))) (.seq (.aug 15 .add (.bin .shl (.int 1) (.var 6))) .skip) .skip) .skip)) (.seq (.asg 3 (.bin .mod (.bin .mul (.pow3 (.var 0) (.bin .shr (.bin .add (.var 12) (.int 1)) (.int 1)) (.var 1)) (.pow3 (.var 14) (.bin .shr (.var 15) (.int 1)) (.var 1))) (.var 1))) .skip))))))))) (.seq (.ret (.var 3)) .skip))) (.seq (.ite (.cmp .eq (.var 7) (.int 0)) (.seq (.ret (.int 0)) .skip) (.seq .stop .skip)) .skip)) .skip)))
noncomputable abbrev n_modsqrt : List Str := [(Str.ofString "n"), (Str.ofString "p"), (Str.ofString "e"), (Str.ofString "x"), (Str.ofString "ppower"), (Str.ofString "z"), (Str.ofString "i"), (Str.ofString "symbol"), (Str.ofString "pmod8"), (Str.ofString "c"), (Str.ofString "d"), (Str.ofString "s"), (Str.ofString "t"), (Str.ofString "A"), (Str.ofString "D"), (Str.ofString "m")]
noncomputable abbrev p_modsqrt : List Str := [(Str.ofString "n"), (Str.ofString "p"), (Str.ofString "e")]
-- inverse at 78: ['x', 'n', 'y', 'r']
noncomputable def m_inverse : MS := (.seq (.asg 0 (.bin .mod (.var 0) (.var 1))) (.seq (.asg 2 (.call 56 (.cons (.var 1) (.cons (.var 0) .nil)))) (.seq (.ite (.cmp .eq (.idx (.var 2) (.int 2)) (.int 1)) (.seq (.ite (.cmp .lt (.idx (.var 2) (.int 1)) (.int 0)) (.seq (.asg 3 (.bin .add (.var 1) (.idx (.var 2) (.int 1)))) (.seq (.ret (.var 3)) .skip)) (.seq (.ret (.idx (.var 2) (.int 1))) .skip)) .skip) .skip) (.seq .stop .skip))))
noncomputable abbrev n_inverse : List Str := [(Str.ofString "x"), (Str.ofString "n"), (Str.ofString "y"), (Str.ofString "r")]
noncomputable abbrev p_inverse : List Str := [(Str.ofString "x"), (Str.ofString "n")]
-- CRT at 85: ['nlist', 'r', 'product', 'prodinv', 'm', 'i', 'c', 'M', 'n', 'u']
noncomputable def m_CRT : MS := (.seq (.asg 1 (.len (.var 0))) (.seq (.ite (.cmp .eq (.var 1) (.int 1)) (.seq (.ret (.idx (.idx (.var 0) (.int 0)) (.int 0))) .skip) .skip) (.seq (.asg 2 (.list .nil)) (.seq (.asg 3 (.list .nil)) (.seq (.asg 4 (.int 1)) (.seq (.forR 5 (.int 1) (.var 1) (.int 1) (.seq (.asg 4 (.bin .mul (.var 4) (.idx (.idx (.var 0) (.bin .sub (.var 5) (.int 1))) (.int 1)))) (.seq (.asg 6 (.call 78 (.cons (.var 4) (.cons (.idx (.idx (.var 0) (.var 5)) (.int 1)) .nil)))) (.seq (.expr (.app (.var 2) (.var 4))) (.seq (.expr (.app (.var 3) (.var 6))) .skip))))) (.seq (.asg 7 (.bin .mul (.idx (.var 2) (.bin .sub (.var 1) (.int 2))) (.idx (.idx (.var 0) (.bin .sub (.var 1) (.int 1))) (.int 1)))) (.seq (.asg 8 (.idx (.idx (.var 0) (.int 0)) (.int 0))) (.seq (.forR 5 (.int 1) (.var 1) (.int 1) (.seq (.asg 9 (.bin .mod (.bin .mul (.bin .sub (.idx (.idx (.var 0) (.var 5)) (.int 0)) (.var 8)) (.idx (.var 3) (.bin .sub (.var 5) (.int 1)))) (.idx (.idx (.var 0) (.var 5)) (.int 1)))) (.seq (.aug 8 .add (.bin .mul (.var 9) (.idx (.var 2) (.bin .sub (.var 5) (.int 1))))) .skip))) (.seq (.ret (.bin .mod (.var 8) (.var 7))) .skip))))))))))
noncomputable abbrev n_CRT : List Str := [(Str.ofString "nlist"), (Str.ofString "r"), (Str.ofString "product"), (Str.ofString "prodinv"), (Str.ofString "m"), (Str.ofString "i"), (Str.ofString "c"), (Str.ofString "M"), (Str.ofString "n"), (Str.ofString "u")]
noncomputable abbrev p_CRT : List Str := [(Str.ofString "nlist")]
-- CRT_ at 93: ['nlist', 'M', 'r', 'product', 'prodinv', 'i', 'c', 'n', 'u']
noncomputable def m_CRT_ : MS := (.seq (.asg 2 (.len (.var 0))) (.seq (.ite (.cmp .eq (.var 1) (.int 1)) (.seq (.asg 3 (.list .nil)) (.seq (.asg 4 (.list .nil)) (.seq (.forR 5 (.int 1) (.var 2) (.int 1) (.seq (.aug 1 .mul (.idx (.idx (.var 0) (.bin .sub (.var 5) (.int 1))) (.int 1))) (.seq (.asg 6 (.bin .mod (.idx (.call 56 (.cons (.var 1) (.cons (.idx (.idx (.var 0) (.var 5)) (.int 1)) .nil))) (.int 0)) (.idx (.idx (.var 0) (.var 5)) (.int 1)))) (.seq (.expr (.app (.var 3) (.var 1))) (.seq (.expr (.app (.var 4) (.var 6))) .skip))))) (.seq (.aug 1 .mul (.idx (.idx (.var 0) (.bin .sub (.var 2) (.int 1))) (.int 1))) .skip)))) (.seq (.unp [1, 3, 4] (.var 1)) .skip)) (.seq (.asg 7 (.idx (.idx (.var 0) (.int 0)) (.int 0))) (.seq (.forR 5 (.int 1) (.var 2) (.int 1) (.seq (.asg 8 (.bin .mod (.bin .mul (.bin .sub (.idx (.idx (.var 0) (.var 5)) (.int 0)) (.var 7)) (.idx (.var 4) (.bin .sub (.var 5) (.int 1)))) (.idx (.idx (.var 0) (.var 5)) (.int 1)))) (.seq (.aug 7 .add (.bin .mul (.var 8) (.idx (.var 3) (.bin .sub (.var 5) (.int 1))))) .skip))) (.seq (.ret (.tup (.cons (.bin .mod (.var 7) (.var 1)) (.cons (.list (.cons (.var 1) (.cons (.var 3) (.cons (.var 4) .nil)))) .nil)))) .skip)))))
noncomputable abbrev n_CRT_ : List Str := [(Str.ofString "nlist"), (Str.ofString "M"), (Str.ofString "r"), (Str.ofString "product"), (Str.ofString "prodinv"), (Str.ofString "i"), (Str.ofString "c"), (Str.ofString "n"), (Str.ofString "u")]
noncomputable abbrev p_CRT_ : List Str := [(Str.ofString "nlist"), (Str.ofString "M")]
-- CRT_Gauss at 99: ['a', 'm', 'P', 'k', 'N', 'M', 't']
noncomputable def m_CRT_Gauss : MS := (.seq (.asg 3 (.len (.cvar 1))) (.seq (.ite (.cmp .eq (.var 2) (.int 1)) (.seq (.casg 4 (.call 115 (.cons (.cvar 1) .nil))) (.seq (.casg 5 (.compR (.int 0) (.var 3) (.int 1) (.tv (.bool true)) (.bin .fdiv (.cvar 1) (.idx (.cvar 2) (.var 0))) [4, 1])) (.seq (.casg 6 (.compR (.int 0) (.var 3) (.int 1) (.tv (.bool true)) (.bin .mod (.idx (.call 56 (.cons (.idx (.cvar 1) (.var 0)) (.cons (.idx (.cvar 2) (.var 0)) .nil))) (.int 0)) (.idx (.cvar 2) (.var 0))) [5, 1])) .skip))) (.seq (.unpC [(4, true), (5, true), (6, true)] (.var 2)) .skip)) (.seq (.ret (.tup (.cons (.bin .mod (.sumG 96 (.var 3) 0 5 6) (.cvar 4)) (.cons (.list (.cons (.cvar 4) (.cons (.cvar 5) (.cons (.cvar 6) .nil)))) .nil)))) .skip)))
noncomputable abbrev n_CRT_Gauss : List Str := [(Str.ofString "a"), (Str.ofString "m"), (Str.ofString "P"), (Str.ofString "k"), (Str.ofString "N"), (Str.ofString "M"), (Str.ofString "t")]
noncomputable abbrev p_CRT_Gauss : List Str := [(Str.ofString "a"), (Str.ofString "m"), (Str.ofString "P")]
-- vp at 107: ['n', 'p', 'k', 'q']
noncomputable def m_vp : MS := (.seq (.asg 3 (.var 1)) (.seq (.whil (.not (.tv (.bin .mod (.var 0) (.var 3)))) (.seq (.aug 2 .add (.int 1)) (.seq (.aug 3 .mul (.var 1)) .skip)) .skip) (.seq (.ret (.tup (.cons (.var 2) (.cons (.bin .fdiv (.var 0) (.bin .fdiv (.var 3) (.var 1))) .nil)))) .skip)))
noncomputable abbrev n_vp : List Str := [(Str.ofString "n"), (Str.ofString "p"), (Str.ofString "k"), (Str.ofString "q")]
noncomputable abbrev p_vp : List Str := [(Str.ofString "n"), (Str.ofString "p"), (Str.ofString "k")]
-- product at 115: ['iterable', 'init', 'result', 'item']
noncomputable def m_product : MS := (.seq (.asg 2 (.var 1)) (.seq (.forL 3 (.var 0) (.seq (.ite (.tv (.isn (.var 2) true)) (.seq (.asg 2 (.var 3)) .skip) (.seq (.aug 2 .mul (.var 3)) .skip)) .skip)) (.seq (.ite (.tv (.isn (.var 2) true)) (.seq (.ret (.int 1)) .skip) .skip) (.seq (.ret (.var 2)) .skip))))
noncomputable abbrev n_product : List Str := [(Str.ofString "iterable"), (Str.ofString "init"), (Str.ofString "result"), (Str.ofString "item")]
noncomputable abbrev p_product : List Str := [(Str.ofString "iterable"), (Str.ofString "init")]
-- _law_take at 122: ['script', 'place']
noncomputable def m_l_take : MS := (.seq (.ite (.cmp .lt (.var 1) (.len (.var 0))) (.seq (.ret (.idx (.var 0) (.var 1))) .skip) .skip) (.seq (.ret (.bin .sub (.bin .mod (.bin .add (.bin .add (.bin .mul (.bin .mul (.var 1) (.var 1)) (.int 37)) (.bin .mul (.var 1) (.int 11))) (.int 5)) (.int 101)) (.int 40))) .skip))
noncomputable abbrev n_l_take : List Str := [(Str.ofString "script"), (Str.ofString "place")]
noncomputable abbrev p_l_take : List Str := [(Str.ofString "script"), (Str.ofString "place")]
-- _law_prime at 129: ['n', 'd']
noncomputable def m_l_prime : MS := (.seq (.ite (.cmp .lt (.var 0) (.int 2)) (.seq (.ret (.bool false)) .skip) .skip) (.seq (.forR 1 (.int 2) (.var 0) (.int 1) (.seq (.ite (.cmp .gt (.bin .mul (.var 1) (.var 1)) (.var 0)) (.seq .brk .skip) .skip) (.seq (.ite (.cmp .eq (.bin .mod (.var 0) (.var 1)) (.int 0)) (.seq (.ret (.bool false)) .skip) .skip) .skip))) (.seq (.ret (.bool true)) .skip)))
noncomputable abbrev n_l_prime : List Str := [(Str.ofString "n"), (Str.ofString "d")]
noncomputable abbrev p_l_prime : List Str := [(Str.ofString "n")]
-- _law_ways at 136: ['n', 'primes', 'roots', 'y', 'ways', 'x', 'apart', 'p']
noncomputable def m_l_ways : MS := (.seq (.asg 2 .dct) (.seq (.forR 3 (.int 0) (.int 202) (.int 1) (.seq (.setI (.var 2) (.bin .mul (.var 3) (.var 3)) (.var 3)) .skip)) (.seq (.asg 4 (.list .nil)) (.seq (.forR 5 (.neg (.int 201)) (.int 202) (.int 1) (.seq (.asg 3 (.dget (.var 2) (.bin .sub (.var 0) (.bin .mul (.var 5) (.var 5))) (.neg (.int 1)))) (.seq (.ite (.cmp .ge (.var 3) (.int 0)) (.seq (.asg 6 (.bool true)) (.seq (.forL 7 (.var 1) (.seq (.ite (.and (.cmp .eq (.bin .mod (.var 5) (.var 7)) (.int 0)) (.cmp .eq (.bin .mod (.var 3) (.var 7)) (.int 0))) (.seq (.asg 6 (.bool false)) .skip) .skip) .skip)) (.seq (.ite (.tv (.var 6)) (.seq (.expr (.app (.var 4) (.tup (.cons (.var 5) (.cons (.var 3) .nil))))) (.seq (.ite (.cmp .gt (.var 3) (.int 0)) (.seq (.expr (.app (.var 4) (.tup (.cons (.var 5) (.cons (.neg (.var 3)) .nil))))) .skip) .skip) .skip)) .skip) .skip))) .skip) .skip))) (.seq (.ret (.var 4)) .skip)))))
noncomputable abbrev n_l_ways : List Str := [(Str.ofString "n"), (Str.ofString "primes"), (Str.ofString "roots"), (Str.ofString "y"), (Str.ofString "ways"), (Str.ofString "x"), (Str.ofString "apart"), (Str.ofString "p")]
noncomputable abbrev p_l_ways : List Str := [(Str.ofString "n"), (Str.ofString "primes")]
-- law at 141: ['script', 'field', 'p', 'n', 'primes', 'powers', 'roots', 'j', 'e', 'q', 'r', 'moduli', 'met', 'choice', 'residues', 'left', 'pairs', 'root', 'x', 'y', 'turn']
noncomputable def m_law : MS := (.seq (.asg 1 (.list .nil)) (.seq (.forR 2 (.int 5) (.int 60) (.int 4) (.seq (.ite (.tv (.call 129 (.cons (.var 2) .nil))) (.seq (.expr (.app (.var 1) (.var 2))) .skip) .skip) .skip)) (.seq (.asg 3 (.int 1)) (.seq (.asg 4 (.list .nil)) (.seq (.asg 5 (.list .nil)) (.seq (.asg 6 (.list .nil)) (.seq (.forR 7 (.int 0) (.int 3) (.int 1) (.seq (.asg 2 (.idx (.var 1) (.bin .mod (.call 122 (.cons (.var 0) (.cons (.bin .mul (.int 2) (.var 7)) .nil))) (.len (.var 1))))) (.seq (.asg 8 (.bin .add (.int 1) (.bin .mod (.call 122 (.cons (.var 0) (.cons (.bin .add (.bin .mul (.int 2) (.var 7)) (.int 1)) .nil))) (.int 4)))) (.seq (.whil (.and (.cmp .gt (.var 8) (.int 0)) (.cmp .gt (.bin .mul (.var 3) (.bin .pow (.var 2) (.var 8))) (.int 20000))) (.seq (.asg 8 (.bin .sub (.var 8) (.int 1))) .skip) .skip) (.seq (.ite (.and (.tv (.inl (.var 2) (.var 4) false)) (.cmp .gt (.var 8) (.int 0))) (.seq (.asg 9 (.bin .pow (.var 2) (.var 8))) (.seq (.asg 10 (.call 71 (.cons (.bin .sub (.bin .mul (.bin .mod (.call 122 (.cons (.var 0) (.cons (.int 7) .nil))) (.int 4)) (.var 9)) (.int 1)) (.cons (.var 2) (.cons (.var 8) .nil))))) (.seq (.ite (.or (.not (.chain (.int 0) .lt (.var 10) .lt (.var 9))) (.cmp .ne (.bin .mod (.bin .add (.bin .mul (.var 10) (.var 10)) (.int 1)) (.var 9)) (.int 0))) (.seq (.ret (.bool false)) .skip) .skip) (.seq (.asg 3 (.bin .mul (.var 3) (.var 9))) (.seq (.expr (.app (.var 4) (.var 2))) (.seq (.expr (.app (.var 5) (.var 9))) (.seq (.expr (.app (.var 6) (.var 10))) .skip))))))) .skip) .skip))))) (.seq (.casg 11 (.listOf (.var 5))) (.seq (.ite (.cmp .eq (.bin .mod (.call 122 (.cons (.var 0) (.cons (.int 6) .nil))) (.int 2)) (.int 1)) (.seq (.asg 3 (.bin .mul (.var 3) (.int 2))) (.seq (.expr (.app (.cvar 11) (.int 2))) .skip)) .skip) (.seq (.asg 12 (.list .nil)) (.seq (.forR 13 (.int 0) (.bin .pow (.int 2) (.len (.var 4))) (.int 1) (.seq (.casg 14 (.list .nil)) (.seq (.asg 15 (.var 13)) (.seq (.forR 7 (.int 0) (.len (.var 4)) (.int 1) (.seq (.ite (.cmp .eq (.bin .mod (.var 15) (.int 2)) (.int 0)) (.seq (.expr (.app (.cvar 14) (.idx (.var 6) (.var 7)))) .skip) (.seq (.expr (.app (.cvar 14) (.bin .sub (.idx (.var 5) (.var 7)) (.idx (.var 6) (.var 7))))) .skip)) (.seq (.asg 15 (.bin .fdiv (.var 15) (.int 2))) .skip))) (.seq (.ite (.cmp .gt (.len (.cvar 11)) (.len (.cvar 14))) (.seq (.expr (.app (.cvar 14) (.int 1))) .skip) .skip) (.seq (.asg 16 (.compR (.int 0) (.len (.cvar 11)) (.int 1) (.tv (.bool true)) (.tup (.cons (.idx (.cvar 2) (.var 0)) (.cons (.idx (.cvar 1) (.var 0)) .nil))) [11, 14])) (.seq (.asg 17 (.call 85 (.cons (.var 16) .nil))) (.seq (.ite (.or (.not (.chain (.int 0) .lt (.var 17) .lt (.var 3))) (.cmp .ne (.bin .mod (.bin .add (.bin .mul (.var 17) (.var 17)) (.int 1)) (.var 3)) (.int 0))) (.seq (.ret (.bool false)) .skip) .skip) (.seq (.forR 7 (.int 0) (.len (.cvar 11)) (.int 1) (.seq (.ite (.cmp .ne (.bin .mod (.var 17) (.idx (.cvar 11) (.var 7))) (.idx (.cvar 14) (.var 7))) (.seq (.ret (.bool false)) .skip) .skip) .skip)) (.seq (.ite (.or (.cmp .ne (.idx (.call 93 (.cons (.var 16) .nil)) (.int 0)) (.var 17)) (.cmp .ne (.idx (.call 99 (.cons (.cvar 14) (.cons (.cvar 11) .nil))) (.int 0)) (.var 17))) (.seq (.ret (.bool false)) .skip) .skip) (.seq (.unp [18, 19] (.call 28 (.cons (.var 3) (.cons (.int 0) (.cons (.var 17) (.cons (.int 1) .nil)))))) (.seq (.ite (.cmp .ne (.bin .add (.bin .mul (.var 18) (.var 18)) (.bin .mul (.var 19) (.var 19))) (.var 3)) (.seq (.ret (.bool false)) .skip) .skip) (.seq (.ite (.or (.cmp .ne (.bin .mod (.bin .add (.bin .mul (.var 17) (.var 18)) (.var 19)) (.var 3)) (.int 0)) (.cmp .ne (.bin .mod (.bin .sub (.var 18) (.bin .mul (.var 17) (.var 19))) (.var 3)) (.int 0))) (.seq (.ret (.bool false)) .skip) .skip) (.seq (.forR 20 (.int 0) (.int 4) (.int 1) (.seq (.expr (.app (.var 12) (.tup (.cons (.var 18) (.cons (.var 19) .nil))))) (.seq (.asgN [18, 19] (.cons (.neg (.var 19)) (.cons (.var 18) .nil))) .skip))) .skip)))))))))))))) (.seq (.ret (.cmp .eq (.sorted (.var 12)) (.sorted (.call 136 (.cons (.var 3) (.cons (.var 4) .nil)))))) .skip))))))))))))
set_option genInjectivity false in
structure HW where
  b : HB
  gt : gtB b.K b.gt = true
  bt : btB b.K b.bt = true
  f_bit_num : b.Fn 21 n_bit_num 1 m_bit_num
  b_bit_num : BindN b.K 21 p_bit_num 1 []
  f_arygcd_i : b.Fn 28 n_arygcd_i 4 m_arygcd_i
  b_arygcd_i : BindN b.K 28 p_arygcd_i 4 []
  f_ap_norm_i : b.Fn 35 n_ap_norm_i 4 m_ap_norm_i
  b_ap_norm_i : BindN b.K 35 p_ap_norm_i 4 []
  f_n_pow_i : b.Fn 42 n_n_pow_i 3 m_n_pow_i
  b_n_pow_i : BindN b.K 42 p_n_pow_i 3 []
  f_FormAdj_i : b.Fn 49 n_FormAdj_i 2 m_FormAdj_i
  b_FormAdj_i : BindN b.K 49 p_FormAdj_i 2 []
  f_extgcd : b.Fn 56 n_extgcd 2 m_extgcd
  b_extgcd : BindN b.K 56 p_extgcd 2 []
  f_legendre : b.Fn 63 n_legendre 2 m_legendre
  b_legendre : BindN b.K 63 p_legendre 2 []
  f_modsqrt : b.Fn 71 n_modsqrt 3 m_modsqrt
  d_modsqrt : b.K.lookup 64 = some (tupO #[(.int 1 276)] 0)
  b_modsqrt2 : BindD b.K 71 64 p_modsqrt (tupO #[(.int 1 276)] 0) [(.int 1 276)] 2 []
  b_modsqrt3 : BindD b.K 71 64 p_modsqrt (tupO #[(.int 1 276)] 0) [] 3 []
  b_modsqrtk : BindK b.K 71 64 p_modsqrt (tupO #[(.int 1 276)] 0) (Str.ofString "e") 2 []
  f_inverse : b.Fn 78 n_inverse 2 m_inverse
  b_inverse : BindN b.K 78 p_inverse 2 []
  f_CRT : b.Fn 85 n_CRT 1 m_CRT
  b_CRT : BindN b.K 85 p_CRT 1 []
  f_CRT_ : b.Fn 93 n_CRT_ 2 m_CRT_
  d_CRT_ : b.K.lookup 86 = some (tupO #[(.int 1 325)] 0)
  b_CRT_1 : BindD b.K 93 86 p_CRT_ (tupO #[(.int 1 325)] 0) [(.int 1 325)] 1 []
  b_CRT_2 : BindD b.K 93 86 p_CRT_ (tupO #[(.int 1 325)] 0) [] 2 []
  b_CRT_k : BindK b.K 93 86 p_CRT_ (tupO #[(.int 1 325)] 0) (Str.ofString "M") 1 []
  f_CRT_Gauss : b.FnG 99 n_CRT_Gauss 3 [true, true, false, false, true, true, true] m_CRT_Gauss (98, 96)
  d_CRT_Gauss : b.K.lookup 94 = some (tupO #[(.int 1 341)] 0)
  b_CRT_Gauss2 : BindD b.K 99 94 p_CRT_Gauss (tupO #[(.int 1 341)] 0) [(.int 1 341)] 2 []
  b_CRT_Gauss3 : BindD b.K 99 94 p_CRT_Gauss (tupO #[(.int 1 341)] 0) [] 3 []
  b_CRT_Gaussk : BindK b.K 99 94 p_CRT_Gauss (tupO #[(.int 1 341)] 0) (Str.ofString "P") 2 []
  f_vp : b.Fn 107 n_vp 3 m_vp
  d_vp : b.K.lookup 100 = some (tupO #[(.int 0 348)] 0)
  b_vp2 : BindD b.K 107 100 p_vp (tupO #[(.int 0 348)] 0) [(.int 0 348)] 2 []
  b_vp3 : BindD b.K 107 100 p_vp (tupO #[(.int 0 348)] 0) [] 3 []
  b_vpk : BindK b.K 107 100 p_vp (tupO #[(.int 0 348)] 0) (Str.ofString "k") 2 []
  f_product : b.Fn 115 n_product 2 m_product
  d_product : b.K.lookup 108 = some (tupO #[.none] 0)
  b_product1 : BindD b.K 115 108 p_product (tupO #[.none] 0) [.none] 1 []
  b_product2 : BindD b.K 115 108 p_product (tupO #[.none] 0) [] 2 []
  b_productk : BindK b.K 115 108 p_product (tupO #[.none] 0) (Str.ofString "init") 1 []
  f_l_take : b.Fn 122 n_l_take 2 m_l_take
  b_l_take : BindN b.K 122 p_l_take 2 []
  f_l_prime : b.Fn 129 n_l_prime 1 m_l_prime
  b_l_prime : BindN b.K 129 p_l_prime 1 []
  f_l_ways : b.Fn 136 n_l_ways 2 m_l_ways
  b_l_ways : BindN b.K 136 p_l_ways 2 []
noncomputable abbrev gg (w : HW) (mean : ExcName → Option Value) (mg mb : Str → Option Value) : G := w.b.gm mean mg mb
theorem call_bit_num {w mean mg mb} {a0 : V} {d : Nat} {hp : HP} {Q : V → HP → Prop} {X : XC}
    (h : exec (gg w mean mg mb) d m_bit_num [a0] hp (retQ Q) (upX X)) : Calls (gg w mean mg mb) (d + 1) 21 [a0] [] hp Q X :=
  callF w.gt w.bt w.f_bit_num (bv := [a0]) (binds0 w.b_bit_num rfl) rfl rfl h
theorem call_arygcd_i {w mean mg mb} {a0 : V} {a1 : V} {a2 : V} {a3 : V} {d : Nat} {hp : HP} {Q : V → HP → Prop} {X : XC}
    (h : exec (gg w mean mg mb) d m_arygcd_i [a0, a1, a2, a3, .unb, .unb, .unb, .unb, .unb, .unb, .unb] hp (retQ Q) (upX X)) : Calls (gg w mean mg mb) (d + 1) 28 [a0, a1, a2, a3] [] hp Q X :=
  callF w.gt w.bt w.f_arygcd_i (bv := [a0, a1, a2, a3]) (binds0 w.b_arygcd_i rfl) rfl rfl h
theorem call_ap_norm_i {w mean mg mb} {a0 : V} {a1 : V} {a2 : V} {a3 : V} {d : Nat} {hp : HP} {Q : V → HP → Prop} {X : XC}
    (h : exec (gg w mean mg mb) d m_ap_norm_i [a0, a1, a2, a3, .unb, .unb] hp (retQ Q) (upX X)) : Calls (gg w mean mg mb) (d + 1) 35 [a0, a1, a2, a3] [] hp Q X :=
  callF w.gt w.bt w.f_ap_norm_i (bv := [a0, a1, a2, a3]) (binds0 w.b_ap_norm_i rfl) rfl rfl h
theorem call_n_pow_i {w mean mg mb} {a0 : V} {a1 : V} {a2 : V} {d : Nat} {hp : HP} {Q : V → HP → Prop} {X : XC}
    (h : exec (gg w mean mg mb) d m_n_pow_i [a0, a1, a2, .unb, .unb, .unb, .unb, .unb] hp (retQ Q) (upX X)) : Calls (gg w mean mg mb) (d + 1) 42 [a0, a1, a2] [] hp Q X :=
  callF w.gt w.bt w.f_n_pow_i (bv := [a0, a1, a2]) (binds0 w.b_n_pow_i rfl) rfl rfl h
theorem call_FormAdj_i {w mean mg mb} {a0 : V} {a1 : V} {d : Nat} {hp : HP} {Q : V → HP → Prop} {X : XC}
    (h : exec (gg w mean mg mb) d m_FormAdj_i [a0, a1] hp (retQ Q) (upX X)) : Calls (gg w mean mg mb) (d + 1) 49 [a0, a1] [] hp Q X :=
  callF w.gt w.bt w.f_FormAdj_i (bv := [a0, a1]) (binds0 w.b_FormAdj_i rfl) rfl rfl h
theorem call_extgcd {w mean mg mb} {a0 : V} {a1 : V} {d : Nat} {hp : HP} {Q : V → HP → Prop} {X : XC}
    (h : exec (gg w mean mg mb) d m_extgcd [a0, a1, .unb, .unb, .unb, .unb, .unb, .unb, .unb, .unb] hp (retQ Q) (upX X)) : Calls (gg w mean mg mb) (d + 1) 56 [a0, a1] [] hp Q X :=
  callF w.gt w.bt w.f_extgcd (bv := [a0, a1]) (binds0 w.b_extgcd rfl) rfl rfl h
theorem call_legendre {w mean mg mb} {a0 : V} {a1 : V} {d : Nat} {hp : HP} {Q : V → HP → Prop} {X : XC}
    (h : exec (gg w mean mg mb) d m_legendre [a0, a1, .unb] hp (retQ Q) (upX X)) : Calls (gg w mean mg mb) (d + 1) 63 [a0, a1] [] hp Q X :=
  callF w.gt w.bt w.f_legendre (bv := [a0, a1]) (binds0 w.b_legendre rfl) rfl rfl h
theorem call_modsqrt2 {w mean mg mb} {a0 : V} {a1 : V} {d : Nat} {hp : HP} {Q : V → HP → Prop} {X : XC}
    (h : exec (gg w mean mg mb) d m_modsqrt [a0, a1, .int 1, .unb, .unb, .unb, .unb, .unb, .unb, .unb, .unb, .unb, .unb, .unb, .unb, .unb] hp (retQ Q) (upX X)) : Calls (gg w mean mg mb) (d + 1) 71 [a0, a1] [] hp Q X :=
  callF w.gt w.bt w.f_modsqrt (bv := [a0, a1, .int 1]) (bindsD w.d_modsqrt w.b_modsqrt2 rfl rfl) rfl rfl h
theorem call_modsqrt3 {w mean mg mb} {a0 : V} {a1 : V} {a2 : V} {d : Nat} {hp : HP} {Q : V → HP → Prop} {X : XC}
    (h : exec (gg w mean mg mb) d m_modsqrt [a0, a1, a2, .unb, .unb, .unb, .unb, .unb, .unb, .unb, .unb, .unb, .unb, .unb, .unb, .unb] hp (retQ Q) (upX X)) : Calls (gg w mean mg mb) (d + 1) 71 [a0, a1, a2] [] hp Q X :=
  callF w.gt w.bt w.f_modsqrt (bv := [a0, a1, a2]) (bindsD w.d_modsqrt w.b_modsqrt3 rfl rfl) rfl rfl h
theorem call_inverse {w mean mg mb} {a0 : V} {a1 : V} {d : Nat} {hp : HP} {Q : V → HP → Prop} {X : XC}
    (h : exec (gg w mean mg mb) d m_inverse [a0, a1, .unb, .unb] hp (retQ Q) (upX X)) : Calls (gg w mean mg mb) (d + 1) 78 [a0, a1] [] hp Q X :=
  callF w.gt w.bt w.f_inverse (bv := [a0, a1]) (binds0 w.b_inverse rfl) rfl rfl h
theorem call_CRT {w mean mg mb} {a0 : V} {d : Nat} {hp : HP} {Q : V → HP → Prop} {X : XC}
    (h : exec (gg w mean mg mb) d m_CRT [a0, .unb, .unb, .unb, .unb, .unb, .unb, .unb, .unb, .unb] hp (retQ Q) (upX X)) : Calls (gg w mean mg mb) (d + 1) 85 [a0] [] hp Q X :=
  callF w.gt w.bt w.f_CRT (bv := [a0]) (binds0 w.b_CRT rfl) rfl rfl h
theorem call_CRT_1 {w mean mg mb} {a0 : V} {d : Nat} {hp : HP} {Q : V → HP → Prop} {X : XC}
    (h : exec (gg w mean mg mb) d m_CRT_ [a0, .int 1, .unb, .unb, .unb, .unb, .unb, .unb, .unb] hp (retQ Q) (upX X)) : Calls (gg w mean mg mb) (d + 1) 93 [a0] [] hp Q X :=
  callF w.gt w.bt w.f_CRT_ (bv := [a0, .int 1]) (bindsD w.d_CRT_ w.b_CRT_1 rfl rfl) rfl rfl h
theorem call_CRT_Gauss2 {w mean mg mb} {a0 : V} {a1 : V} {d : Nat} {hp : HP} {Q : V → HP → Prop} {X : XC}
    (h : enterC [(true, a0), (true, a1), (false, .int 1), (false, .unb), (true, .unb), (true, .unb), (true, .unb)] hp fun l h0 => exec (gg w mean mg mb) d m_CRT_Gauss l h0 (retQ Q) noX) : Calls (gg w mean mg mb) (d + 1) 99 [a0, a1] [] hp Q X :=
  callG w.gt w.bt w.f_CRT_Gauss (bv := [a0, a1, .int 1]) (bindsD w.d_CRT_Gauss w.b_CRT_Gauss2 rfl rfl) rfl rfl (by kernel_rfl!) h
theorem call_vp2 {w mean mg mb} {a0 : V} {a1 : V} {d : Nat} {hp : HP} {Q : V → HP → Prop} {X : XC}
    (h : exec (gg w mean mg mb) d m_vp [a0, a1, .int 0, .unb] hp (retQ Q) (upX X)) : Calls (gg w mean mg mb) (d + 1) 107 [a0, a1] [] hp Q X :=
  callF w.gt w.bt w.f_vp (bv := [a0, a1, .int 0]) (bindsD w.d_vp w.b_vp2 rfl rfl) rfl rfl h
theorem call_product1 {w mean mg mb} {a0 : V} {d : Nat} {hp : HP} {Q : V → HP → Prop} {X : XC}
    (h : exec (gg w mean mg mb) d m_product [a0, .none, .unb, .unb] hp (retQ Q) (upX X)) : Calls (gg w mean mg mb) (d + 1) 115 [a0] [] hp Q X :=
  callF w.gt w.bt w.f_product (bv := [a0, .none]) (bindsD w.d_product w.b_product1 rfl rfl) rfl rfl h
theorem call_l_take {w mean mg mb} {a0 : V} {a1 : V} {d : Nat} {hp : HP} {Q : V → HP → Prop} {X : XC}
    (h : exec (gg w mean mg mb) d m_l_take [a0, a1] hp (retQ Q) (upX X)) : Calls (gg w mean mg mb) (d + 1) 122 [a0, a1] [] hp Q X :=
  callF w.gt w.bt w.f_l_take (bv := [a0, a1]) (binds0 w.b_l_take rfl) rfl rfl h
theorem call_l_prime {w mean mg mb} {a0 : V} {d : Nat} {hp : HP} {Q : V → HP → Prop} {X : XC}
    (h : exec (gg w mean mg mb) d m_l_prime [a0, .unb] hp (retQ Q) (upX X)) : Calls (gg w mean mg mb) (d + 1) 129 [a0] [] hp Q X :=
  callF w.gt w.bt w.f_l_prime (bv := [a0]) (binds0 w.b_l_prime rfl) rfl rfl h
theorem call_l_ways {w mean mg mb} {a0 : V} {a1 : V} {d : Nat} {hp : HP} {Q : V → HP → Prop} {X : XC}
    (h : exec (gg w mean mg mb) d m_l_ways [a0, a1, .unb, .unb, .unb, .unb, .unb, .unb] hp (retQ Q) (upX X)) : Calls (gg w mean mg mb) (d + 1) 136 [a0, a1] [] hp Q X :=
  callF w.gt w.bt w.f_l_ways (bv := [a0, a1]) (binds0 w.b_l_ways rfl) rfl rfl h
theorem ne0 {p : Nat} (h : 0 < p) : (p : Int) ≠ 0 := Int.natCast_ne_zero.mpr (Nat.ne_of_gt h)
theorem pos0 {p : Nat} (h : 0 < p) : (0 : Int) < p := Int.natCast_pos.mpr h
theorem xg {g : G} {d : Nat} {m : MS} {l : List V} {hp : HP} {Q : Out → List V → HP → Prop} {X : XT} (h : ∀ Q' : Out → List V → HP → Prop, (∀ o l h, Q o l h → Q' o l h) → exec g d m l hp Q' X) : exec g d m l hp Q X := h Q fun _ _ _ h => h
theorem fdivN (a b : Nat) : (a : Int).fdiv b = ((a / b : Nat) : Int) := by
  rw [Int.fdiv_eq_ediv_of_nonneg _ (Int.natCast_nonneg _)]; push_cast; rfl
theorem fmodN (a b : Nat) : (a : Int).fmod b = ((a % b : Nat) : Int) := by
  rw [Int.fmod_eq_emod_of_nonneg _ (Int.natCast_nonneg _)]; push_cast; rfl
theorem bdN {k n : Nat} (h : n < 2 ^ k) : Bd k (n : Int) := by unfold Bd; rw [Int.natAbs_natCast]; exact h
theorem ext_exec {w mean mg mb} {d : Nat} {hp : HP} {x y K : Nat} (h0 : 0 < x) (hx : x < 2 ^ K) (hy : y < 2 ^ K) (hK : 4 * K + 100 ≤ 134217728) {Q : V → HP → Prop} {X : XT}
    (hQ : ∀ (A B : Int) h' r, Upto [] hp h' → h' r = some (.tup [.int A, .int B, .int (Nat.gcd x y)]) → A * x + B * y = Nat.gcd x y → (y < x → B.natAbs ≤ x) → Q (.ref r) h') :
    exec (gg w mean mg mb) d m_extgcd [.int x, .int y, .unb, .unb, .unb, .unb, .unb, .unb, .unb, .unb] hp (retQ Q) X := by
  refine ⟨fun k l h => ∃ (a b u v : Int) (g z : Nat) (x8 x9 : V), l = [.int x, .int y, .int a, .int b, .int g, .int u, .int v, .int z, x8, x9] ∧ Upto [] hp h ∧ ExtI x y a b g u v z ∧ k = z, ⟨y, 1, 0, 0, 1, x, y, _, _, rfl, .refl, ⟨by (first | lia | omega), by (first | lia | omega), h0, by (first | lia | omega), rfl, ⟨0, 1, .inl ⟨rfl, rfl⟩, by (first | lia | omega), fun h => ⟨by (first | lia | omega), h⟩⟩, 1, 0, .inr ⟨rfl, rfl⟩, by (first | lia | omega)⟩, rfl⟩, ?_⟩
  intro k l h qz71
  refine Gen fun Gq9 back => ?_
  rcases qz71 with ⟨a, b, u, v, g, z, x8, x9, hz72, up, hI, hkz⟩
  refine back ?_
  clear back
  clear Gq9
  subst hz72
  refine ⟨fun t => ?_, fun t => ?_⟩
  · have hz : (z : Int) ≠ 0 := tru_t.mp t
    have hz0 : z ≠ 0 := by (first | lia | omega)
    obtain ⟨b1, b2, b3⟩ := hI.bds hx hy
    rw [← fdivN] at b1
    refine ⟨hz, fun r nr => ⟨[.int ((g : Int).fdiv z), .int ((g : Int).fmod z)], (by rw [hset_same]; rfl), rfl, mulBd b1 b2 (by (first | lia | omega)), trivial, mulBd b1 b3 (by (first | lia | omega)), trivial, ?_⟩⟩
    refine ⟨g % z, by have := Nat.mod_lt g (show 0 < z by (first | lia | omega)); (first | lia | omega), _, _, _, _, z, g % z, .int ((g / z : Nat) : Int), .int ((g % z : Nat) : Int), ?_, up.trans (.new nr), hI.next hz0, rfl⟩
    rw [← fdivN, ← fmodN]; rfl
  · have hz : (z : Int) = 0 := tru_f.mp t
    have hz0 : z = 0 := by (first | lia | omega)
    subst hz0
    have hg : g = Nat.gcd x y := by rw [← hI.gcd, Nat.gcd_zero_right]
    have hg0 := hI.g0
    refine ⟨fun _ => ⟨by simp [sizeLine_eq], fun r nr => hQ a b _ r (up.trans (.new nr)) (by rw [hset_same, hg]; rfl) (by rw [hI.h1, hg]) fun hxy => ?_⟩, fun t => absurd (cge_f.mp t) (by (first | lia | omega))⟩
    refine Gen fun Gq9 back => ?_
    rcases hI.sb with ⟨B, V, hs, hB, hV⟩
    refine back ?_
    clear back
    clear Gq9
    have : V ≤ V * g := Nat.le_mul_of_pos_right V hg0
    have := (hV hxy).1
    rcases hs with ⟨rfl, rfl⟩ | ⟨rfl, rfl⟩ <;> (first | lia | omega)
theorem inv_exec {w mean mg mb} {d : Nat} {hp : HP} {p K : Nat} {n : Int} (hp0 : 0 < p) (hp6 : p < 2 ^ K) (hK : 4 * K + 100 ≤ 134217728) (hc : Nat.gcd p (n % p).toNat = 1) {Q : V → HP → Prop} {X : XT} (hQ : ∀ (z : Int) h', Upto [] hp h' → (p : Int) ∣ n * z - 1 → z.natAbs ≤ p → Q (.int z) h') :
    exec (gg w mean mg mb) (d + 1) m_inverse [.int n, .int p, .unb, .unb] hp (retQ Q) X := by
  refine ⟨(ne0 hp0), ?_⟩
  have e : intOp n p .mod = ((n % (p : Int)).toNat : Int) := by
    show n.fmod p = _
    rw [Int.fmod_eq_emod_of_nonneg _ (Int.natCast_nonneg _), Int.toNat_of_nonneg (Int.emod_nonneg _ (ne0 hp0))]
  show exec (gg w mean mg mb) (d + 1) _ [.int (intOp n p .mod), .int p, .unb, .unb] hp _ X
  rw [e]
  have hr : (((n % (p : Int)).toNat : Nat) : Int) = n % (p : Int) := Int.toNat_of_nonneg (Int.emod_nonneg _ (ne0 hp0))
  have hlt := Int.emod_lt_of_pos n (pos0 hp0)
  have hd := Int.emod_add_mul_ediv n p
  generalize (n % (p : Int)).toNat = r at *
  have hrp : r < p := by (first | lia | omega)
  refine call_extgcd (ext_exec hp0 hp6 (Nat.lt_trans hrp hp6) hK fun A B h1 q u1 hq hAB hBp => ?_)
  have hBp := hBp hrp
  rw [hc] at hq hAB
  have key : ∀ z : Int, (p : Int) ∣ z - B → (p : Int) ∣ n * z - 1 := by
    rintro z ⟨c, hcz⟩
    have e2 : z = B + p * c := by (first | lia | omega)
    refine ⟨n / p * B + n * c - A, ?_⟩
    rw [e2, Int.mul_add, Int.mul_sub, Int.mul_add]
    have e3 : n * B = r * B + p * (n / p * B) := by
      conv => lhs; rw [← hd, ← hr]
      rw [Int.add_mul, Int.mul_assoc]
    have e4 : (r : Int) * B = 1 - p * A := by rw [Int.mul_comm, Int.mul_comm (p : Int)]; (first | lia | omega)
    have e5 : n * ((p : Int) * c) = p * (n * c) := by ac_rfl
    (first | lia | omega)
  refine idxE (k := 2) rfl rfl (vs := [.int A, .int B, .int 1]) (by rw [hq]; rfl) (by simp) (by simp) rfl ⟨fun _ => ?_, fun t => nomatch t⟩
  refine idxE (k := 1) rfl rfl (vs := [.int A, .int B, .int 1]) (by rw [hq]; rfl) (by simp) (by simp) rfl ⟨fun t => ?_, fun t => ?_⟩
  · have hb : B < 0 := clt_t.mp t
    exact idxE (k := 1) rfl rfl (vs := [.int A, .int B, .int 1]) (by rw [hq]; rfl) (by simp) (by simp) rfl ⟨trivial, hQ (p + B) _ u1 (key _ ⟨1, by (first | lia | omega)⟩) (by (first | lia | omega))⟩
  · have hb : 0 ≤ B := clt_f.mp t
    exact idxE (k := 1) rfl rfl (vs := [.int A, .int B, .int 1]) (by rw [hq]; rfl) (by simp) (by simp) rfl (hQ B _ u1 (key _ ⟨0, by (first | lia | omega)⟩) hBp)
noncomputable def RowsAt (h : HP) (R : Addr) (n : Nat) (A : Nat → Int) (Mo : Nat → Nat) : Prop := ∃ ts : List Addr, h R = some (.list (ts.map .ref)) ∧ ts.length = n ∧ ∀ (j : Nat) (t : Addr), ts[j]? = some t → h t = some (.tup [.int (A j), .int (Mo j)])
theorem RowsAt.up {h h' : HP} {R : Addr} {n : Nat} {A : Nat → Int} {Mo : Nat → Nat} (r : RowsAt h R n A Mo) (u : Upto [] h h') : RowsAt h' R n A Mo := by
  refine Gen fun Gq9 back => ?_
  rcases r with ⟨ts, h1, h2, h3⟩
  refine back ?_
  clear back
  clear Gq9
  exact ⟨ts, u.at h1, h2, fun j t e => u.at (h3 j t e)⟩
theorem RowsAt.idx {h : HP} {R : Addr} {n : Nat} {A : Nat → Int} {Mo : Nat → Nat} (r : RowsAt h R n A Mo) (hn : n < 2 ^ 62) {v w : V} {i : Int} (hv : v = .ref R) (hw : w = .int i) {j : Nat} (hi : i = j) (hj : j < n) {K : V → Prop} (hQ : ∀ t, h t = some (.tup [.int (A j), .int (Mo j)]) → K (.ref t)) :
    idxV v w h K := by
  refine Gen fun Gq9 back => ?_
  rcases r with ⟨ts, h1, h2, h3⟩
  refine back ?_
  clear back
  clear Gq9
  have hlt : j < ts.length := by (first | lia | omega)
  exact idxE (k := i) hv hw (vs := ts.map .ref) (by rw [h1]; rfl) (by simp; (first | lia | omega)) (by (first | lia | omega)) (x := .ref ts[j]) (by subst hi; simp [hlt]) (hQ _ (h3 j _ (List.getElem?_eq_getElem hlt)))
noncomputable def ppL (Mo : Nat → Nat) (k : Nat) : List V := (List.range k).map fun j => .int (pp Mo (j + 1) : Nat)
theorem ppL_succ (Mo : Nat → Nat) (k : Nat) : ppL Mo (k + 1) = ppL Mo k ++ [.int (pp Mo (k + 1) : Nat)] := by simp [ppL, List.range_succ]
theorem ppL_at (Mo : Nat → Nat) {k j : Nat} (h : j < k) : (ppL Mo k)[j]? = some (.int (pp Mo (j + 1) : Nat)) := by simp [ppL, h]
noncomputable def InvZ (Mo : Nat → Nat) (zs : List Int) : Prop := ∀ (j : Nat) (z : Int), zs[j]? = some z → (Mo (j + 1) : Int) ∣ (pp Mo (j + 1) : Int) * z - 1 ∧ z.natAbs ≤ Mo (j + 1)
theorem InvZ.snoc {Mo : Nat → Nat} {zs : List Int} {z : Int} (h : InvZ Mo zs) (h1 : (Mo (zs.length + 1) : Int) ∣ (pp Mo (zs.length + 1) : Int) * z - 1) (h2 : z.natAbs ≤ Mo (zs.length + 1)) : InvZ Mo (zs ++ [z]) := by
  intro j y hj
  rcases Nat.lt_or_ge j zs.length with q | q
  · rw [List.getElem?_append_left q] at hj; exact h j y hj
  · rw [List.getElem?_append_right q] at hj
    have hj0 : j - zs.length = 0 := by
      rcases Nat.eq_zero_or_pos (j - zs.length) with z0 | z0
      · exact z0
      · rw [List.getElem?_eq_none (by simp; (first | lia | omega))] at hj; cases hj
    rw [hj0] at hj
    cases hj
    have : j = zs.length := by (first | lia | omega)
    subst this
    exact ⟨h1, h2⟩
theorem gcd_next {n K k : Nat} {Mo : Nat → Nat} (M : ModR n Mo K) (hk : k + 1 < n) : Nat.gcd (Mo (k + 1)) (pp Mo (k + 1)) = 1 := by
  rw [Nat.gcd_comm]
  exact pp_cop fun j hj => M.cop j (k + 1) (by (first | lia | omega)) hk
structure CrtI (Mo : Nat → Nat) (A : Nat → Int) (k : Nat) (y : Int) : Prop where
  dv : ∀ j, j ≤ k → (Mo j : Int) ∣ y - A j
  lo : 0 ≤ y - A 0
  hi : y - A 0 < (pp Mo (k + 1) : Nat)
theorem CrtI.start {Mo : Nat → Nat} {A : Nat → Int} (h : 0 < Mo 0) : CrtI Mo A 0 (A 0) := ⟨fun j hj => by rw [show j = 0 by (first | lia | omega), Int.sub_self]; exact Int.dvd_zero _, by (first | lia | omega), by have : pp Mo (0 + 1) = 1 * Mo 0 := rfl; (first | lia | omega)⟩
theorem CrtI.bd {n K k : Nat} {Mo : Nat → Nat} {A : Nat → Int} {y : Int} (C : CrtI Mo A k y) (M : ModR n Mo K) (hk : k < n) (hA : Bd K (A 0)) : Bd (K + 1) y := by
  have := M.ltP (k := k + 1) (by (first | lia | omega))
  obtain ⟨_, h1, h2⟩ := C
  unfold Bd at *
  rw [Nat.pow_succ]
  (first | lia | omega)
theorem CrtI.turn {n K k : Nat} {Mo : Nat → Nat} {A : Nat → Int} {y z : Int} (C : CrtI Mo A k y) (M : ModR n Mo K) (hk : k + 1 < n) (hA : ∀ j, j < n → Bd K (A j)) (hz : (Mo (k + 1) : Int) ∣ (pp Mo (k + 1) : Int) * z - 1) (hzb : z.natAbs ≤ Mo (k + 1)) :
    IntMulOk (A (k + 1) - y) z ∧ IntMulOk (intOp (intOp (intOp (A (k + 1)) y .sub) z .mul) ((Mo (k + 1) : Nat) : Int) .mod) ((pp Mo (k + 1) : Nat) : Int) ∧
      CrtI Mo A (k + 1) (y + intOp (intOp (intOp (intOp (A (k + 1)) y .sub) z .mul) ((Mo (k + 1) : Nat) : Int) .mod) ((pp Mo (k + 1) : Nat) : Int) .mul) := by
  have k0 := M.k0
  have eu : intOp (intOp (intOp (A (k + 1)) y .sub) z .mul) ((Mo (k + 1) : Nat) : Int) .mod = (A (k + 1) - y) * z % (Mo (k + 1) : Nat) := by
    show (_ : Int).fmod _ = _
    rw [Int.fmod_eq_emod_of_nonneg _ (Int.natCast_nonneg _)]; rfl
  rw [eu]
  have hz : (Mo (k + 1) : Int) ∣ (pp Mo (k + 1) : Nat) * z - 1 := hz
  refine Gen fun Gq9 back => ?_
  rcases crt_bd (Mo := Mo) (a := A 0) (w := (A (k + 1) - y) * z) (M.pos _ hk) C.lo C.hi rfl with ⟨b1, b2, b3, b4⟩
  refine back ?_
  clear back
  clear Gq9
  have by1 := C.bd M (by (first | lia | omega)) (hA 0 (by (first | lia | omega)))
  refine ⟨mulBd ((((hA _ hk).mono (show K ≤ K + 1 by (first | lia | omega))).sub by1 : Bd (K + 1 + 1) _)) (show Bd K z from Nat.lt_of_le_of_lt hzb (M.lt hk)) (by (first | lia | omega)), mulBd (k := K) (show Bd K _ from ?_) (M.bdP (k := k + 1) (by (first | lia | omega))) (by (first | lia | omega)), ⟨crt_step C.dv hz rfl, b1, b2⟩⟩
  have := M.lt hk
  unfold Bd; (first | lia | omega)
theorem CRT_one {w mean mg mb} {d : Nat} {hp : HP} {R : Addr} {A : Nat → Int} {Mo : Nat → Nat} (RA : RowsAt hp R 1 A Mo) {Q : V → HP → Prop} {X : XT} (hQ : Q (.int (A 0)) hp) :
    exec (gg w mean mg mb) d m_CRT [.ref R, .unb, .unb, .unb, .unb, .unb, .unb, .unb, .unb, .unb] hp (retQ Q) X := by
  refine Gen fun Gq9 back => ?_
  rcases id RA with ⟨ts, hts, htl, htj⟩
  refine back ?_
  clear back
  clear Gq9
  refine ⟨ts.map .ref, by rw [hts]; rfl, by simp; (first | lia | omega), ?_⟩
  rw [List.length_map, htl]
  refine ⟨fun _ => ?_, fun t => absurd rfl (ceq_f.mp t)⟩
  refine RA.idx (by (first | lia | omega)) rfl rfl (j := 0) rfl (by (first | lia | omega)) fun t ht => ?_
  exact idxE (k := 0) rfl rfl (by rw [ht]; rfl) (by simp) (by simp) rfl hQ
structure GrowL (hp h : HP) (a2 a3 : Addr) (Mo : Nat → Nat) (k : Nat) (zs : List Int) : Prop where
  u : Upto [] hp h
  e2 : h a2 = some (.list (ppL Mo k))
  e3 : h a3 = some (.list (zs.map .int))
  zl : zs.length = k
  z : InvZ Mo zs
theorem GrowL.start {hp : HP} {a2 a3 : Addr} {Mo : Nat → Nat} (n2 : hp a2 = none) (n3 : hset hp a2 (.list []) a3 = none) : GrowL hp (hset (hset hp a2 (.list [])) a3 (.list [])) a2 a3 Mo 0 [] := by
  have h32 : a3 ≠ a2 := (hset_none.mp n3).1
  exact ⟨(Upto.new n2).trans (Upto.new n3), by rw [hset_ne (Ne.symm h32), hset_same]; rfl, hset_same, rfl, fun j z h => by simp at h⟩
theorem GrowL.next {hp h h1 : HP} {a2 a3 : Addr} {Mo : Nat → Nat} {k : Nat} {zs : List Int} (G : GrowL hp h a2 a3 Mo k zs) (n2 : hp a2 = none) (n3 : hp a3 = none) (h32 : a3 ≠ a2) (u1 : Upto [] h h1) {z : Int}
    (h1' : (Mo (k + 1) : Int) ∣ (pp Mo (k + 1) : Int) * z - 1) (h2' : z.natAbs ≤ Mo (k + 1)) : GrowL hp (hset (hset h1 a2 (.list (ppL Mo k ++ [.int (pp Mo (k + 1) : Nat)]))) a3 (.list (zs.map .int ++ [.int z]))) a2 a3 Mo (k + 1) (zs ++ [z]) := by
  refine Gen fun Gq9 back => ?_
  rcases G with ⟨u, e2, e3, hzl, hz⟩
  refine back ?_
  clear back
  clear Gq9
  refine ⟨((u.trans u1).fresh n2).fresh n3, by rw [hset_ne (Ne.symm h32), hset_same, ppL_succ], by rw [hset_same, List.map_append]; rfl, by simp [hzl], hz.snoc (by rw [hzl]; exact h1') (by rw [hzl]; exact h2')⟩
theorem CRT_exec {w mean mg mb} {d : Nat} {hp : HP} {R : Addr} {n K : Nat} {A : Nat → Int} {Mo : Nat → Nat} (M : ModR n Mo K) (hn : 2 ≤ n) (RA : RowsAt hp R n A Mo) (hA : ∀ j, j < n → Bd K (A j)) {Q : V → HP → Prop} {X : XT}
    (hQ : ∀ (x : Nat) h', Upto [] hp h' → x < pp Mo n → (∀ j, j < n → (Mo j : Int) ∣ (x : Int) - A j) → Q (.int x) h') :
    exec (gg w mean mg mb) (d + 2) m_CRT [.ref R, .unb, .unb, .unb, .unb, .unb, .unb, .unb, .unb, .unb] hp (retQ Q) X := by
  have hnl := M.nl
  have k0 := M.k0
  refine Gen fun Gq9 back => ?_
  rcases id RA with ⟨ts, hts, htl, htj⟩
  refine back ?_
  clear back
  clear Gq9
  refine ⟨ts.map .ref, by rw [hts]; rfl, by simp; (first | lia | omega), ?_⟩
  rw [List.length_map, htl]
  refine ⟨fun t => absurd (ceq_t.mp t) (by (first | lia | omega)), fun _ => ?_⟩
  refine ⟨by simp [sizeLine_eq], fun a2 n2 => ⟨by simp [sizeLine_eq], fun a3 n3 => ?_⟩⟩
  have h32 : a3 ≠ a2 := (hset_none.mp n3).1
  have n3' : hp a3 = none := (hset_none.mp n3).2
  refine ⟨(show (1 : Int) ≠ 0 by decide), small_one (by decide) (by decide) (by (first | lia | omega)) (by (first | lia | omega)), ?_⟩
  refine forUp (l := [.ref R, .int n, .ref a2, .ref a3, .int 1, .unb, .unb, .unb, .unb, .unb]) (n - 1) (by (first | lia | omega))
    (fun k l h => ∃ (x5 x6 : V) (zs : List Int), l = [.ref R, .int n, .ref a2, .ref a3, .int (pp Mo k : Nat), x5, x6, .unb, .unb, .unb] ∧ GrowL hp h a2 a3 Mo k zs)
    ⟨.unb, .unb, [], rfl, .start n2 n3⟩ ?_ ?_
  · intro k l h hk qz73
    refine Gen fun Gq9 back => ?_
    rcases qz73 with ⟨x5, x6, zs, hz74, GL⟩
    refine back ?_
    clear back
    clear Gq9
    subst hz74
    refine Gen fun Gq9 back => ?_
    rcases id GL with ⟨u, e2, e3, hzl, hz⟩
    refine back ?_
    clear back
    clear Gq9
    have RA1 := RA.up u
    refine xg fun Q1 hq1 => ?_
    refine ⟨trivial, ?_⟩
    refine RA1.idx (by (first | lia | omega)) rfl rfl (j := k) (show (1 : Int) + k - 1 = k by (first | lia | omega)) (by (first | lia | omega)) fun t ht => ?_
    refine idxE (k := 1) rfl rfl (by rw [ht]; rfl) (by simp) (by simp) rfl ?_
    refine ⟨mulBd (M.bdP (k := k) (by (first | lia | omega))) (M.bdM (j := k) (by (first | lia | omega))) (by (first | lia | omega)), ?_⟩
    show exec (gg w mean mg mb) (d + 2) _ [.ref R, .int n, .ref a2, .ref a3, .int ((pp Mo k : Nat) * (Mo k : Nat) : Int), .int (1 + k), x6, .unb, .unb, .unb] h _ noX
    rw [← Int.natCast_mul, show pp Mo k * Mo k = pp Mo (k + 1) from rfl]
    refine RA1.idx (by (first | lia | omega)) rfl rfl (j := k + 1) (show (1 : Int) + k = (k + 1 : Nat) by (first | lia | omega)) (by (first | lia | omega)) fun t ht => ?_
    refine idxE (k := 1) rfl rfl (by rw [ht]; rfl) (by simp) (by simp) rfl ?_
    have hgc : Nat.gcd (Mo (k + 1)) (((pp Mo (k + 1) : Nat) : Int) % (Mo (k + 1) : Nat)).toNat = 1 := by
      rw [← Int.natCast_emod, Int.toNat_natCast, Nat.gcd_comm, ← Nat.gcd_rec]
      exact gcd_next M (by (first | lia | omega))
    refine call_inverse (inv_exec (M.pos (k + 1) (by (first | lia | omega))) (M.lt (by (first | lia | omega))) k0 hgc fun z h1 u1 hzd hzb => ?_)
    refine ⟨⟨_, u1.at e2⟩, _, u1.at e2, by simp [ppL, sizeLine_eq]; (first | lia | omega), ?_⟩
    refine ⟨⟨_, by rw [hset_ne h32]; exact u1.at e3⟩, _, by rw [hset_ne h32]; exact u1.at e3, by simp [sizeLine_eq]; (first | lia | omega), ?_⟩
    exact hq1 .next _ _ ⟨.int (1 + k), .int z, zs ++ [z], rfl, GL.next n2 n3' h32 u1 hzd hzb⟩
  · intro l h qz75
    refine Gen fun Gq9 back => ?_
    rcases qz75 with ⟨x5, x6, zs, hz76, u, e2, e3, hzl, hz⟩
    refine back ?_
    clear back
    clear Gq9
    subst hz76
    have RA1 := RA.up u
    refine ⟨trivial, ?_⟩
    refine idxE (k := (n : Int) - 2) rfl rfl (vs := ppL Mo (n - 1)) (by rw [e2]; rfl) (by simp [ppL]; (first | lia | omega)) (by (first | lia | omega)) (x := .int (pp Mo (n - 1) : Nat)) (by rw [show ((n : Int) - 2).toNat = n - 2 by (first | lia | omega), ppL_at _ (by (first | lia | omega)), show n - 2 + 1 = n - 1 by (first | lia | omega)]) ?_
    refine ⟨trivial, ?_⟩
    refine RA1.idx (by (first | lia | omega)) rfl rfl (j := n - 1) (show (n : Int) - 1 = (n - 1 : Nat) by (first | lia | omega)) (by (first | lia | omega)) fun t ht => ?_
    refine idxE (k := 1) rfl rfl (by rw [ht]; rfl) (by simp) (by simp) rfl ?_
    refine ⟨mulBd (M.bdP (k := n - 1) (by (first | lia | omega))) (M.bdM (j := n - 1) (by (first | lia | omega))) (by (first | lia | omega)), ?_⟩
    show exec (gg w mean mg mb) (d + 2) _ [.ref R, .int n, .ref a2, .ref a3, .int (pp Mo (n - 1) : Nat), x5, x6, .int ((pp Mo (n - 1) : Nat) * (Mo (n - 1) : Nat) : Int), .unb, .unb] h _ X
    rw [← Int.natCast_mul, show pp Mo (n - 1) * Mo (n - 1) = pp Mo n by rw [show n = n - 1 + 1 by (first | lia | omega)]; rfl]
    refine RA1.idx (by (first | lia | omega)) rfl rfl (j := 0) rfl (by (first | lia | omega)) fun t ht => ?_
    refine idxE (k := 0) rfl rfl (by rw [ht]; rfl) (by simp) (by simp) rfl ?_
    refine ⟨(show (1 : Int) ≠ 0 by decide), small_one (by decide) (by decide) (by (first | lia | omega)) (by (first | lia | omega)), ?_⟩
    refine forUp (l := [.ref R, .int n, .ref a2, .ref a3, .int (pp Mo (n - 1) : Nat), x5, x6, .int (pp Mo n : Nat), .int (A 0), .unb]) (n - 1) (by (first | lia | omega))
      (fun k l h' => ∃ (x5 x9 : V) (y : Int), l = [.ref R, .int n, .ref a2, .ref a3, .int (pp Mo (n - 1) : Nat), x5, x6, .int (pp Mo n : Nat), .int y, x9] ∧ h' = h ∧ CrtI Mo A k y)
      ⟨x5, .unb, _, rfl, rfl, .start (M.pos 0 (by (first | lia | omega)))⟩ ?_ ?_
    · intro k l h' hk qz77
      refine Gen fun Gq9 back => ?_
      rcases qz77 with ⟨x5, x9, y, hz78, hz79, hy⟩
      refine back ?_
      clear back
      clear Gq9
      subst hz78
      subst hz79
      refine xg fun Q1 hq1 => ?_
      obtain ⟨z, hzk⟩ : ∃ z, zs[k]? = some z := ⟨zs[k]'(by (first | lia | omega)), List.getElem?_eq_getElem (by (first | lia | omega))⟩
      obtain ⟨hzd, hzb⟩ := hz k z hzk
      obtain ⟨m1, m2, hy'⟩ := hy.turn M (by (first | lia | omega)) hA hzd hzb
      refine RA1.idx (by (first | lia | omega)) rfl rfl (j := k + 1) (show (1 : Int) + k = (k + 1 : Nat) by (first | lia | omega)) (by (first | lia | omega)) fun t ht => ?_
      refine idxE (k := 0) rfl rfl (by rw [ht]; rfl) (by simp) (by simp) rfl ?_
      refine ⟨trivial, ?_⟩
      refine ⟨trivial, ?_⟩
      refine idxE (k := (1 : Int) + k - 1) rfl rfl (vs := zs.map .int) (by rw [e3]; rfl) (by simp; (first | lia | omega)) (by (first | lia | omega)) (x := .int z) (by rw [show ((1 : Int) + k - 1).toNat = k by (first | lia | omega)]; simp [hzk]) ?_
      refine ⟨m1, ?_⟩
      refine RA1.idx (by (first | lia | omega)) rfl rfl (j := k + 1) (show (1 : Int) + k = (k + 1 : Nat) by (first | lia | omega)) (by (first | lia | omega)) fun t ht => ?_
      refine idxE (k := 1) rfl rfl (by rw [ht]; rfl) (by simp) (by simp) rfl ?_
      refine ⟨ne0 (M.pos _ (by (first | lia | omega))), ?_⟩
      refine ⟨trivial, ?_⟩
      refine idxE (k := (1 : Int) + k - 1) rfl rfl (vs := ppL Mo (n - 1)) (by rw [e2]; rfl) (by simp [ppL]; (first | lia | omega)) (by (first | lia | omega)) (x := .int (pp Mo (k + 1) : Nat)) (by rw [show ((1 : Int) + k - 1).toNat = k by (first | lia | omega)]; exact ppL_at _ hk) ?_
      exact ⟨m2, trivial, hq1 .next _ _ ⟨.int (1 + k), _, _, rfl, rfl, hy'⟩⟩
    · intro l h' qz80
      refine Gen fun Gq9 back => ?_
      rcases qz80 with ⟨x5, x9, y, hz81, hz82, hy⟩
      refine back ?_
      clear back
      clear Gq9
      subst hz81
      subst hz82
      refine Gen fun Gq9 back => ?_
      rcases crt_fin (M.p0 (Nat.le_refl n)) fun j hj => hy.dv j (by (first | lia | omega)) with ⟨x, hx, hxl, hxd⟩
      refine back ?_
      clear back
      clear Gq9
      refine ⟨ne0 (M.p0 (Nat.le_refl n)), ?_⟩
      show Q (.int (y.fmod _)) h'
      rw [hx]
      exact hQ x h' u hxl hxd
/-! data that are compared -/
theorem cmpR_eq {hp : HP} {a b : Addr} {d : PyData} {Q : Bool → Prop} (h1 : Rd hp (.ref a) d) (h2 : Rd hp (.ref b) d) (hs : SeqAt.shaped d = true) (h : Q true) : cmpV .eq (.ref a) (.ref b) hp Q :=
  ⟨d, d, h1, h2, hs, hs, by rw [PySem.SeqAt.eqv_refl d (Bool.and_eq_true_iff.mp hs).1]; exact h⟩
theorem rdL_of {hp : HP} : ∀ (vs : List V) (ds : List PyData), vs.length = ds.length → (∀ (j : Nat) v d, vs[j]? = some v → ds[j]? = some d → Rd hp v d) → RdL hp vs ds
  | [], [], _, _ => .nil
  | [], _ :: _, h, _ => by injection h
  | _ :: _, [], h, _ => by injection h
  | v :: vs, d :: ds, h, k => .cons (k 0 v d rfl rfl) (rdL_of vs ds (Nat.succ.inj h) fun j v' d' h1 h2 => k (j + 1) v' d' h1 h2)
theorem shaped_of {ds : List PyData} (h1 : PyData.canLayAll0 ds = true) (h2 : PyData.depthAll ds ≤ 1) : SeqAt.shaped (.list ds) = true := by
  have h3 : PyData.depth (.list ds) ≤ 64 := by simp only [PyData.depth]; (first | lia | omega)
  show (PyData.canLay0 (.list ds) && decide (PyData.depth (.list ds) ≤ 64)) = true
  rw [Bool.and_eq_true]
  exact ⟨by simp only [PyData.canLay0]; exact h1, decide_eq_true h3⟩
noncomputable def dKn (N : Int) (ps zs : List Int) : PyData := .list [.int N, .list (ps.map .int), .list (zs.map .int)]
noncomputable def ppI (Mo : Nat → Nat) (k : Nat) : List Int := (List.range k).map fun j => ((pp Mo (j + 1) : Nat) : Int)
theorem ppL_eq (Mo : Nat → Nat) (k : Nat) : ppL Mo k = (ppI Mo k).map .int := by simp [ppL, ppI]
structure KnAt (h : HP) (D P Q : Addr) (n : Nat) (Mo : Nat → Nat) (zs : List Int) : Prop where
  d : h D = some (.list [.int (pp Mo n : Nat), .ref P, .ref Q])
  p : h P = some (.list (ppL Mo (n - 1)))
  q : h Q = some (.list (zs.map .int))
  zl : zs.length = n - 1
  z : InvZ Mo zs
theorem KnAt.up {h h' : HP} {D P Q : Addr} {n : Nat} {Mo : Nat → Nat} {zs : List Int} (k : KnAt h D P Q n Mo zs) (u : Upto [] h h') : KnAt h' D P Q n Mo zs := ⟨u.at k.d, u.at k.p, u.at k.q, k.zl, k.z⟩
theorem KnAt.rd {h : HP} {D P Q : Addr} {n : Nat} {Mo : Nat → Nat} {zs : List Int} (k : KnAt h D P Q n Mo zs) : Rd h (.ref D) (dKn (pp Mo n : Nat) (ppI Mo (n - 1)) zs) :=
  .list k.d (.cons (.int _) (.cons (.list k.p (by rw [ppL_eq]; exact rdL_ints _)) (.cons (.list k.q (rdL_ints _)) .nil)))
noncomputable def RightX (n : Nat) (A : Nat → Int) (Mo : Nat → Nat) (x : Nat) : Prop := x < pp Mo n ∧ ∀ j, j < n → (Mo j : Int) ∣ (x : Int) - A j
noncomputable def dropS : Nat → MS → MS
  | 0, m => m
  | n + 1, .seq _ b => dropS n b
  | _ + 1, m => m
theorem crt_tail {w mean mg mb} {d : Nat} {hp : HP} {R P S : Addr} {n K : Nat} {A : Nat → Int} {Mo : Nat → Nat} {x5 x6 : V} {zs : List Int} (M : ModR n Mo K) (RA : RowsAt hp R n A Mo) (hA : ∀ j, j < n → Bd K (A j)) (kp : hp P = some (.list (ppL Mo (n - 1)))) (kq : hp S = some (.list (zs.map .int)))
    (kl : zs.length = n - 1) (kz : InvZ Mo zs) {Q : V → HP → Prop} {X : XT}
    (hQ : ∀ (x : Nat) h' T D, Upto [] hp h' → h' T = some (.tup [.int x, .ref D]) → KnAt h' D P S n Mo zs → RightX n A Mo x → Q (.ref T) h') :
    exec (gg w mean mg mb) d (dropS 2 m_CRT_) [.ref R, .int (pp Mo n : Nat), .int n, .ref P, .ref S, x5, x6, .unb, .unb] hp (retQ Q) X := by
  have hnl := M.nl
  have hn1 := M.n1
  refine RA.idx (by (first | lia | omega)) rfl rfl (j := 0) rfl (by (first | lia | omega)) fun t ht => ?_
  refine idxE (k := 0) rfl rfl (by rw [ht]; rfl) (by simp) (by simp) rfl ?_
  refine ⟨(show (1 : Int) ≠ 0 by decide), small_one (by decide) (by decide) (by (first | lia | omega)) (by (first | lia | omega)), ?_⟩
  refine forUp (l := [.ref R, .int (pp Mo n : Nat), .int n, .ref P, .ref S, x5, x6, .int (A 0), .unb]) (n - 1) (by (first | lia | omega))
    (fun k l h' => ∃ (x5 x8 : V) (y : Int), l = [.ref R, .int (pp Mo n : Nat), .int n, .ref P, .ref S, x5, x6, .int y, x8] ∧ h' = hp ∧ CrtI Mo A k y)
    ⟨x5, .unb, _, rfl, rfl, .start (M.pos 0 (by (first | lia | omega)))⟩ ?_ ?_
  · intro k l h' hk qz83
    refine Gen fun Gq9 back => ?_
    rcases qz83 with ⟨x5, x8, y, hz84, hz85, hy⟩
    refine back ?_
    clear back
    clear Gq9
    subst hz84
    subst hz85
    refine xg fun Q1 hq1 => ?_
    obtain ⟨z, hzk⟩ : ∃ z, zs[k]? = some z := ⟨zs[k]'(by (first | lia | omega)), List.getElem?_eq_getElem (by (first | lia | omega))⟩
    obtain ⟨hzd, hzb⟩ := kz k z hzk
    obtain ⟨m1, m2, hy'⟩ := hy.turn M (by (first | lia | omega)) hA hzd hzb
    refine RA.idx (by (first | lia | omega)) rfl rfl (j := k + 1) (show (1 : Int) + k = (k + 1 : Nat) by (first | lia | omega)) (by (first | lia | omega)) fun t ht => ?_
    refine idxE (k := 0) rfl rfl (by rw [ht]; rfl) (by simp) (by simp) rfl ?_
    refine ⟨trivial, ?_⟩
    refine ⟨trivial, ?_⟩
    refine idxE (k := (1 : Int) + k - 1) rfl rfl (vs := zs.map .int) (by rw [kq]; rfl) (by simp; (first | lia | omega)) (by (first | lia | omega)) (x := .int z) (by rw [show ((1 : Int) + k - 1).toNat = k by (first | lia | omega)]; simp [hzk]) ?_
    refine ⟨m1, ?_⟩
    refine RA.idx (by (first | lia | omega)) rfl rfl (j := k + 1) (show (1 : Int) + k = (k + 1 : Nat) by (first | lia | omega)) (by (first | lia | omega)) fun t ht => ?_
    refine idxE (k := 1) rfl rfl (by rw [ht]; rfl) (by simp) (by simp) rfl ?_
    refine ⟨ne0 (M.pos _ (by (first | lia | omega))), ?_⟩
    refine ⟨trivial, ?_⟩
    refine idxE (k := (1 : Int) + k - 1) rfl rfl (vs := ppL Mo (n - 1)) (by rw [kp]; rfl) (by simp [ppL]; (first | lia | omega)) (by (first | lia | omega)) (x := .int (pp Mo (k + 1) : Nat)) (by rw [show ((1 : Int) + k - 1).toNat = k by (first | lia | omega)]; exact ppL_at _ hk) ?_
    exact ⟨m2, trivial, hq1 .next _ _ ⟨.int (1 + k), _, _, rfl, rfl, hy'⟩⟩
  · intro l h' qz86
    refine Gen fun Gq9 back => ?_
    rcases qz86 with ⟨x5, x8, y, hz87, hz88, hy⟩
    refine back ?_
    clear back
    clear Gq9
    subst hz87
    subst hz88
    refine Gen fun Gq9 back => ?_
    rcases crt_fin (M.p0 (Nat.le_refl n)) fun j hj => hy.dv j (by (first | lia | omega)) with ⟨x, hx, hxl, hxd⟩
    refine back ?_
    clear back
    clear Gq9
    refine ⟨ne0 (M.p0 (Nat.le_refl n)), by simp [sizeLine_eq], fun D nD => ⟨by simp [sizeLine_eq], fun T nT => ?_⟩⟩
    have u1 : Upto [] h' (hset h' D (.list [.int (pp Mo n : Nat), .ref P, .ref S])) := .new nD
    refine hQ x _ T D (u1.trans (.new nT)) (by rw [hset_same, ← hx]; rfl) (KnAt.up ⟨hset_same, u1.at kp, u1.at kq, kl, kz⟩ (.new nT)) ⟨hxl, hxd⟩
theorem CRT__exec {w mean mg mb} {d : Nat} {hp : HP} {R : Addr} {n K : Nat} {A : Nat → Int} {Mo : Nat → Nat} (M : ModR n Mo K) (RA : RowsAt hp R n A Mo) (hA : ∀ j, j < n → Bd K (A j)) {Q : V → HP → Prop} {X : XT}
    (hQ : ∀ (x : Nat) h' T D P S zs, Upto [] hp h' → h' T = some (.tup [.int x, .ref D]) → KnAt h' D P S n Mo zs → RightX n A Mo x → Q (.ref T) h') :
    exec (gg w mean mg mb) (d + 1) m_CRT_ [.ref R, .int 1, .unb, .unb, .unb, .unb, .unb, .unb, .unb] hp (retQ Q) X := by
  have hnl := M.nl
  have hn1 := M.n1
  have k0 := M.k0
  refine Gen fun Gq9 back => ?_
  rcases id RA with ⟨ts, hts, htl, htj⟩
  refine back ?_
  clear back
  clear Gq9
  refine ⟨ts.map .ref, by rw [hts]; rfl, by simp; (first | lia | omega), ?_⟩
  rw [List.length_map, htl]
  refine ⟨fun _ => ?_, fun t => absurd rfl (ceq_f.mp t)⟩
  refine ⟨by simp [sizeLine_eq], fun a2 n2 => ⟨by simp [sizeLine_eq], fun a3 n3 => ?_⟩⟩
  have h32 : a3 ≠ a2 := (hset_none.mp n3).1
  have n3' : hp a3 = none := (hset_none.mp n3).2
  refine ⟨(show (1 : Int) ≠ 0 by decide), small_one (by decide) (by decide) (by (first | lia | omega)) (by (first | lia | omega)), ?_⟩
  refine forUp (l := [.ref R, .int 1, .int n, .ref a2, .ref a3, .unb, .unb, .unb, .unb]) (n - 1) (by (first | lia | omega))
    (fun k l h => ∃ (x5 x6 : V) (zs : List Int), l = [.ref R, .int (pp Mo k : Nat), .int n, .ref a2, .ref a3, x5, x6, .unb, .unb] ∧ GrowL hp h a2 a3 Mo k zs)
    ⟨.unb, .unb, [], rfl, .start n2 n3⟩ ?_ ?_
  · intro k l h hk qz89
    refine Gen fun Gq9 back => ?_
    rcases qz89 with ⟨x5, x6, zs, hz90, GL⟩
    refine back ?_
    clear back
    clear Gq9
    subst hz90
    refine Gen fun Gq9 back => ?_
    rcases id GL with ⟨u, e2, e3, hzl, hz⟩
    refine back ?_
    clear back
    clear Gq9
    have RA1 := RA.up u
    refine xg fun Q1 hq1 => ?_
    refine ⟨trivial, ?_⟩
    refine RA1.idx (by (first | lia | omega)) rfl rfl (j := k) (show (1 : Int) + k - 1 = k by (first | lia | omega)) (by (first | lia | omega)) fun t ht => ?_
    refine idxE (k := 1) rfl rfl (by rw [ht]; rfl) (by simp) (by simp) rfl ?_
    refine ⟨mulBd (M.bdP (k := k) (by (first | lia | omega))) (M.bdM (j := k) (by (first | lia | omega))) (by (first | lia | omega)), ?_⟩
    show exec (gg w mean mg mb) (d + 1) _ [.ref R, .int ((pp Mo k : Nat) * (Mo k : Nat) : Int), .int n, .ref a2, .ref a3, .int (1 + k), x6, .unb, .unb] h _ noX
    rw [← Int.natCast_mul, show pp Mo k * Mo k = pp Mo (k + 1) from rfl]
    refine RA1.idx (by (first | lia | omega)) rfl rfl (j := k + 1) (show (1 : Int) + k = (k + 1 : Nat) by (first | lia | omega)) (by (first | lia | omega)) fun t ht => ?_
    refine idxE (k := 1) rfl rfl (by rw [ht]; rfl) (by simp) (by simp) rfl ?_
    have hM1 := M.pos (k + 1) (by (first | lia | omega))
    refine call_extgcd (ext_exec (M.p0 (by (first | lia | omega))) (M.ltP (by (first | lia | omega))) (M.lt (by (first | lia | omega))) k0 fun a b h1 q u1 hq hab _ => ?_)
    rw [Nat.gcd_comm, gcd_next M (by (first | lia | omega))] at hq hab
    refine idxE (k := 0) rfl rfl (vs := [.int a, .int b, .int 1]) (by rw [hq]; rfl) (by simp) (by simp) rfl ?_
    refine (RA1.up u1).idx (by (first | lia | omega)) rfl rfl (j := k + 1) (show (1 : Int) + k = (k + 1 : Nat) by (first | lia | omega)) (by (first | lia | omega)) fun t ht => ?_
    refine idxE (k := 1) rfl rfl (by rw [ht]; rfl) (by simp) (by simp) rfl ?_
    refine ⟨ne0 hM1, ?_⟩
    have e0 := Int.emod_nonneg a (b := ((Mo (k + 1) : Nat) : Int)) (by (first | lia | omega))
    have e1 := Int.emod_lt_of_pos a (b := ((Mo (k + 1) : Nat) : Int)) (by (first | lia | omega))
    have ed := Int.emod_add_mul_ediv a ((Mo (k + 1) : Nat) : Int)
    have em : intOp a ((Mo (k + 1) : Nat) : Int) .mod = a % (Mo (k + 1) : Nat) := Int.fmod_eq_emod_of_nonneg _ (Int.natCast_nonneg _)
    rw [em]
    have hzd : (Mo (k + 1) : Int) ∣ (pp Mo (k + 1) : Int) * (a % (Mo (k + 1) : Nat)) - 1 := by
      refine ⟨-b - (pp Mo (k + 1) : Nat) * (a / (Mo (k + 1) : Nat)), ?_⟩
      generalize a % ((Mo (k + 1) : Nat) : Int) = r at *
      generalize a / ((Mo (k + 1) : Nat) : Int) = q2 at *
      have e5 : r = a - (Mo (k + 1) : Nat) * q2 := by (first | lia | omega)
      rw [e5, Int.mul_sub, Int.mul_sub, Int.mul_neg]
      have e6 : ((pp Mo (k + 1) : Nat) : Int) * a = 1 - b * (Mo (k + 1) : Nat) := by rw [Int.mul_comm]; (first | lia | omega)
      have e7 : ((pp Mo (k + 1) : Nat) : Int) * ((Mo (k + 1) : Nat) * q2) = (Mo (k + 1) : Nat) * ((pp Mo (k + 1) : Nat) * q2) := by ac_rfl
      rw [e6, e7, Int.mul_comm b]
      (first | lia | omega)
    refine ⟨⟨_, u1.at e2⟩, _, u1.at e2, by simp [ppL, sizeLine_eq]; (first | lia | omega), ?_⟩
    refine ⟨⟨_, by rw [hset_ne h32]; exact u1.at e3⟩, _, by rw [hset_ne h32]; exact u1.at e3, by simp [sizeLine_eq]; (first | lia | omega), ?_⟩
    exact hq1 .next _ _ ⟨.int (1 + k), _, zs ++ [a % (Mo (k + 1) : Nat)], rfl, GL.next n2 n3' h32 u1 hzd (by (first | lia | omega))⟩
  · intro l h qz91
    refine Gen fun Gq9 back => ?_
    rcases qz91 with ⟨x5, x6, zs, hz92, u, e2, e3, hzl, hz⟩
    refine back ?_
    clear back
    clear Gq9
    subst hz92
    have RA1 := RA.up u
    refine ⟨trivial, ?_⟩
    refine RA1.idx (by (first | lia | omega)) rfl rfl (j := n - 1) (show (n : Int) - 1 = (n - 1 : Nat) by (first | lia | omega)) (by (first | lia | omega)) fun t ht => ?_
    refine idxE (k := 1) rfl rfl (by rw [ht]; rfl) (by simp) (by simp) rfl ?_
    refine ⟨mulBd (M.bdP (k := n - 1) (by (first | lia | omega))) (M.bdM (j := n - 1) (by (first | lia | omega))) (by (first | lia | omega)), ?_⟩
    show exec (gg w mean mg mb) (d + 1) (dropS 2 m_CRT_) [.ref R, .int ((pp Mo (n - 1) : Nat) * (Mo (n - 1) : Nat) : Int), .int n, .ref a2, .ref a3, x5, x6, .unb, .unb] h (retQ Q) X
    rw [← Int.natCast_mul, show pp Mo (n - 1) * Mo (n - 1) = pp Mo n by rw [show n = n - 1 + 1 by (first | lia | omega)]; rfl]
    exact crt_tail M RA1 hA e2 e3 hzl hz fun x h' T D u' h1 h2 h3 => hQ x h' T D a2 a3 zs (u.trans u') h1 h2 h3
noncomputable def iI (f : Nat → Int) (n : Nat) : List Int := (List.range n).map f
noncomputable def iL (f : Nat → Int) (n : Nat) : List V := (iI f n).map .int
theorem iI_len (f : Nat → Int) (n : Nat) : (iI f n).length = n := by simp [iI]
theorem iL_len (f : Nat → Int) (n : Nat) : (iL f n).length = n := by simp [iL, iI]
theorem iI_at (f : Nat → Int) {n k : Nat} (h : k < n) : (iI f n)[k]? = some (f k) := by simp [iI, h]
theorem iI_get (f : Nat → Int) {n k : Nat} (h : k < n) : (iI f n).getD k 0 = f k := by rw [List.getD_eq_getElem?_getD, iI_at f h]; rfl
theorem iL_at (f : Nat → Int) {n k : Nat} (h : k < n) : (iL f n)[k]? = some (.int (f k)) := by simp [iL, iI, h]
theorem iL_succ (f : Nat → Int) (k : Nat) : iL f (k + 1) = iL f k ++ [.int (f k)] := by simp [iL, iI, List.range_succ]
theorem iL_idx {h : HP} {R : Addr} {n : Nat} {f : Nat → Int} (e : h R = some (.list (iL f n))) (hn : n < 2 ^ 62) {v w : V} {i : Int} (hv : v = .ref R) (hw : w = .int i) {j : Nat} (hi : i = j) (hj : j < n) {K : V → Prop} (hQ : K (.int (f j))) : idxV v w h K :=
  idxE (k := i) hv hw (vs := iL f n) (by rw [e]; rfl) (by rw [iL_len]; exact hn) (by (first | lia | omega)) (x := .int (f j)) (by subst hi; rw [Int.toNat_natCast]; exact iL_at f hj) hQ
theorem preSum_congr {f g : Nat → Int} : ∀ {n : Nat}, (∀ k, k < n → f k = g k) → preSum f n = preSum g n
  | 0, _ => rfl
  | n + 1, h => by show preSum f n + f n = preSum g n + g n; rw [preSum_congr fun k hk => h k (by (first | lia | omega)), h n (by (first | lia | omega))]
theorem product_exec {w mean mg mb} {d : Nat} {hp : HP} {R : Addr} {n K : Nat} {Mo : Nat → Nat} (M : ModR n Mo K) (hR : hp R = some (.list (iL (fun j => (Mo j : Nat)) n))) {Q : V → HP → Prop} {X : XT} (hQ : Q (.int (pp Mo n : Nat)) hp) :
    exec (gg w mean mg mb) d m_product [.ref R, .none, .unb, .unb] hp (retQ Q) X := by
  have hn1 := M.n1
  have hnl := M.nl
  have k0 := M.k0
  refine ⟨iL (fun j => (Mo j : Nat)) n, by rw [hR]; rfl, by rw [iL_len]; (first | lia | omega), fun k l h => ∃ x3 : V, l = [.ref R, .none, (if k = 0 then .none else .int (pp Mo k : Nat)), x3] ∧ h = hp, ⟨_, rfl, rfl⟩, ?_, ?_⟩
  · rintro k x l h hx ⟨x3, rfl, rfl⟩
    have hk : k < n := by
      rcases Nat.lt_or_ge k n with q | q
      · exact q
      · rw [List.getElem?_eq_none (by rw [iL_len]; exact q)] at hx; cases hx
    rw [iL_at _ hk] at hx
    cases hx
    refine ⟨rfl, ?_⟩
    cases k with
    | zero => exact ⟨fun _ => ⟨_, by rw [if_neg (Nat.succ_ne_zero 0), show pp Mo (0 + 1) = Mo 0 from Nat.one_mul _]; rfl, rfl⟩, fun t => nomatch t⟩
    | succ k =>
      refine ⟨(fun t => nomatch t), fun _ => ⟨mulBd (M.bdP (k := k + 1) (by (first | lia | omega))) (M.bdM hk) (by (first | lia | omega)), .int (Mo (k + 1) : Nat), ?_, rfl⟩⟩
      rw [if_neg (Nat.succ_ne_zero _), show pp Mo (k + 1 + 1) = pp Mo (k + 1) * Mo (k + 1) from rfl, Int.natCast_mul]
      rfl
  · rintro l h ⟨x3, rfl, rfl⟩
    rw [iL_len] at *
    rw [if_neg (by (first | lia | omega))]
    exact ⟨rfl, (fun t => nomatch t), fun _ => hQ⟩
structure KgAt (h : HP) (D P S : Addr) (n : Nat) (Mo : Nat → Nat) (zs : List Int) : Prop where
  d : h D = some (.list [.int (pp Mo n : Nat), .ref P, .ref S])
  p : h P = some (.list (iL (fun j => (pp Mo n / Mo j : Nat)) n))
  q : h S = some (.list (zs.map .int))
  zl : zs.length = n
  z : ∀ (j : Nat) (z : Int), zs[j]? = some z → (Mo j : Int) ∣ ((pp Mo n / Mo j : Nat) : Int) * z - 1 ∧ z.natAbs ≤ Mo j
theorem KgAt.up {h h' : HP} {D P S : Addr} {n : Nat} {Mo : Nat → Nat} {zs : List Int} (k : KgAt h D P S n Mo zs) (u : Upto [] h h') : KgAt h' D P S n Mo zs := ⟨u.at k.d, u.at k.p, u.at k.q, k.zl, k.z⟩
theorem KgAt.rd {h : HP} {D P S : Addr} {n : Nat} {Mo : Nat → Nat} {zs : List Int} (k : KgAt h D P S n Mo zs) : Rd h (.ref D) (dKn (pp Mo n : Nat) (iI (fun j => (pp Mo n / Mo j : Nat)) n) zs) :=
  .list k.d (.cons (.int _) (.cons (.list k.p (rdL_ints _)) (.cons (.list k.q (rdL_ints _)) .nil)))
theorem cof {n K : Nat} {Mo : Nat → Nat} (M : ModR n Mo K) {j : Nat} (hj : j < n) : 0 < pp Mo n / Mo j ∧ pp Mo n / Mo j < 2 ^ K ∧ Nat.gcd (pp Mo n / Mo j) (Mo j) = 1 ∧ ∀ i, i < n → i ≠ j → Mo i ∣ pp Mo n / Mo j := by
  obtain ⟨g, h1, h2⟩ := pp_but (Mo := Mo) hj
  have hp := M.pos j hj
  have e : pp Mo n / Mo j = g := by rw [h1]; exact Nat.mul_div_cancel g hp
  rw [e]
  have hp0 := M.p0 (Nat.le_refl n)
  refine ⟨?_, ?_, h2 _ fun i hi hne => M.copr hne hi hj, fun i hi hne => ?_⟩
  · rcases Nat.eq_zero_or_pos g with q | q
    · rw [q, Nat.zero_mul] at h1; (first | lia | omega)
    · exact q
  · have := M.bd
    have : g ≤ g * Mo j := Nat.le_mul_of_pos_right g hp
    (first | lia | omega)
  · have hd : Mo i ∣ g * Mo j := h1 ▸ pp_dvd hi
    exact (Nat.Coprime.dvd_of_dvd_mul_right (M.copr hne hi hj) hd)
theorem gauss_tail {w mean mg mb} {d : Nat} {hp : HP} {ca cm cN cM ct Ra P S : Addr} {x2 : V} {n K : Nat} {A : Nat → Int} {Mo : Nat → Nat} {zs : List Int} (M : ModR n Mo K) (hA : ∀ j, j < n → Bd K (A j)) (tab : hp 96 = some .tab)
    (ea : hp ca = some (.cell (.ref Ra))) (eR : hp Ra = some (.list (iL A n))) (eN : hp cN = some (.cell (.int (pp Mo n : Nat)))) (eM : hp cM = some (.cell (.ref P))) (et : hp ct = some (.cell (.ref S)))
    (kp : hp P = some (.list (iL (fun j => (pp Mo n / Mo j : Nat)) n))) (kq : hp S = some (.list (zs.map .int))) (kl : zs.length = n) (kz : ∀ (j : Nat) (z : Int), zs[j]? = some z → (Mo j : Int) ∣ ((pp Mo n / Mo j : Nat) : Int) * z - 1 ∧ z.natAbs ≤ Mo j) {Q : V → HP → Prop} {X : XT}
    (hQ : ∀ (x : Nat) h' T D, Upto [] hp h' → h' T = some (.tup [.int x, .ref D]) → KgAt h' D P S n Mo zs → RightX n A Mo x → Q (.ref T) h') :
    exec (gg w mean mg mb) d (dropS 2 m_CRT_Gauss) [.cell ca, .cell cm, x2, .int n, .cell cN, .cell cM, .cell ct] hp (retQ Q) X := by
  have hn1 := M.n1
  have hnl := M.nl
  have k0 := M.k0
  have zat : ∀ k, k < n → zs[k]? = some (zs.getD k 0) := fun k hk => by rw [List.getD_eq_getElem?_getD, List.getElem?_eq_getElem (by (first | lia | omega))]; rfl
  have hsum := preSum_congr (n := n) (f := fun k => (iI A n).getD k 0 * (iI (fun j => (pp Mo n / Mo j : Nat)) n).getD k 0 * zs.getD k 0) (g := fun k => A k * ((pp Mo n / Mo k : Nat) : Int) * zs.getD k 0) fun k hk => by
    rw [iI_get A hk, iI_get _ hk]
  have hg : ∀ j, j < n → (Mo j : Int) ∣ preSum (fun k => A k * ((pp Mo n / Mo k : Nat) : Int) * zs.getD k 0) n - A j := fun j hj => by
    have := gauss_sum (Mo := Mo) (A := A) (T := fun k => zs.getD k 0) (G := fun k => pp Mo n / Mo k) (n := n) (fun i k hi hk hne => (cof M hk).2.2.2 i hi hne) (fun k hk => (kz k _ (zat k hk)).1) hj n (Nat.le_refl n)
    rwa [if_pos hj] at this
  refine Gen fun Gq9 back => ?_
  rcases crt_fin (M.p0 (Nat.le_refl n)) hg with ⟨x, hx, hxl, hxd⟩
  refine back ?_
  clear back
  clear Gq9
  refine ⟨rfl, rfl, rfl, by (first | lia | omega), by (first | lia | omega), tab, iI A n, iI (fun j => (pp Mo n / Mo j : Nat)) n, zs, ⟨Ra, ea, by rw [eR]; rfl, by rw [iI_len]; (first | lia | omega)⟩, ⟨P, eM, by rw [kp]; rfl, by rw [iI_len]; (first | lia | omega)⟩, ⟨S, et, by rw [kq]; rfl, by (first | lia | omega)⟩, by rw [iI_len]; (first | lia | omega), by rw [iI_len]; (first | lia | omega), by (first | lia | omega), fun k hk => ?_, ?_⟩
  · have hk : k < n := by (first | lia | omega)
    rw [iI_get A hk, iI_get _ hk]
    have b1 : Bd K ((pp Mo n / Mo k : Nat) : Int) := bdN (cof M hk).2.1
    have b2 : Bd K (zs.getD k 0) := Nat.lt_of_le_of_lt (kz k _ (zat k hk)).2 (M.lt hk)
    exact ⟨mulBd (hA k hk) b1 (by (first | lia | omega)), mulBd ((hA k hk).mul b1) b2 (by (first | lia | omega))⟩
  · rw [Int.toNat_natCast, hsum]
    refine ⟨_, eN, (fun q => nomatch q), ne0 (M.p0 (Nat.le_refl n)), ?_⟩
    refine ⟨_, eN, (fun q => nomatch q), _, eM, (fun q => nomatch q), _, et, (fun q => nomatch q), by simp [sizeLine_eq], fun D nD => ⟨by simp [sizeLine_eq], fun T nT => ?_⟩⟩
    have u1 : Upto [] hp (hset hp D (.list [.int (pp Mo n : Nat), .ref P, .ref S])) := .new nD
    refine hQ x _ T D (u1.trans (.new nT)) (by rw [hset_same, ← hx]; rfl) (KgAt.up ⟨hset_same, u1.at kp, u1.at kq, kl, kz⟩ (.new nT)) ⟨hxl, hxd⟩
theorem Gauss_exec {w mean mg mb} {d : Nat} {hp : HP} {Ra Rm : Addr} {n K : Nat} {A : Nat → Int} {Mo : Nat → Nat} (M : ModR n Mo K) (hA : ∀ j, j < n → Bd K (A j)) (tab : hp 96 = some .tab)
    (eR : hp Ra = some (.list (iL A n))) (em : hp Rm = some (.list (iL (fun j => (Mo j : Nat)) n))) {Q : V → HP → Prop} {X : XT}
    (hQ : ∀ (x : Nat) h' T D P S zs, Upto [] hp h' → h' T = some (.tup [.int x, .ref D]) → KgAt h' D P S n Mo zs → RightX n A Mo x → Q (.ref T) h') :
    enterC [(true, .ref Ra), (true, .ref Rm), (false, .int 1), (false, .unb), (true, .unb), (true, .unb), (true, .unb)] hp fun l h0 => exec (gg w mean mg mb) (d + 1) m_CRT_Gauss l h0 (retQ Q) X := by
  have hn1 := M.n1
  have hnl := M.nl
  have k0 := M.k0
  intro ca na cm nm cN nN cM nM ct nt
  have u1 : Upto [] hp (hset hp ca (.cell (.ref Ra))) := .new na
  have u2 := u1.trans (.new nm (o := .cell (.ref Rm)))
  have u3 := u2.trans (.new nN (o := .cell .unb))
  have u4 := u3.trans (.new nM (o := .cell .unb))
  have u5 := u4.trans (.new nt (o := .cell .unb))
  obtain ⟨t1, nt1⟩ := hset_none.mp nt
  obtain ⟨t2, nt2⟩ := hset_none.mp nt1
  obtain ⟨t3, nt3⟩ := hset_none.mp nt2
  obtain ⟨t4, nt4⟩ := hset_none.mp nt3
  obtain ⟨m2, nM2⟩ := hset_none.mp nM
  obtain ⟨m3, nM3⟩ := hset_none.mp nM2
  obtain ⟨m4, nM4⟩ := hset_none.mp nM3
  obtain ⟨N3, nN3⟩ := hset_none.mp nN
  obtain ⟨N4, nN4⟩ := hset_none.mp nN3
  obtain ⟨q4, nm4⟩ := hset_none.mp nm
  generalize hh0 : hset (hset (hset (hset (hset hp ca (.cell (.ref Ra))) cm (.cell (.ref Rm))) cN (.cell .unb)) cM (.cell .unb)) ct (.cell .unb) = h0 at *
  have e1 : h0 ca = some (.cell (.ref Ra)) := by rw [← hh0, hset_ne (Ne.symm t4), hset_ne (Ne.symm m4), hset_ne (Ne.symm N4), hset_ne (Ne.symm q4), hset_same]
  have e2 : h0 cm = some (.cell (.ref Rm)) := by rw [← hh0, hset_ne (Ne.symm t3), hset_ne (Ne.symm m3), hset_ne (Ne.symm N3), hset_same]
  have e3 : h0 cN = some (.cell .unb) := by rw [← hh0, hset_ne (Ne.symm t2), hset_ne (Ne.symm m2), hset_same]
  have e4 : h0 cM = some (.cell .unb) := by rw [← hh0, hset_ne (Ne.symm t1), hset_same]
  have e5 : h0 ct = some (.cell .unb) := by rw [← hh0, hset_same]
  have em0 := u5.at em
  show exec (gg w mean mg mb) (d + 1) m_CRT_Gauss [.cell ca, .cell cm, .int 1, .unb, .cell cN, .cell cM, .cell ct] h0 (retQ Q) X
  refine ⟨_, e2, (fun q => nomatch q), iL (fun j => (Mo j : Nat)) n, by rw [em0]; rfl, by rw [iL_len]; (first | lia | omega), ?_⟩
  rw [iL_len]
  refine ⟨fun _ => ?_, fun t => absurd rfl (ceq_f.mp t)⟩
  refine ⟨_, e2, (fun q => nomatch q), call_product1 (product_exec M em0 ⟨⟨_, e3⟩, ?_⟩)⟩
  have v1 : Upto [] hp (hset h0 cN (.cell (.int (pp Mo n : Nat)))) := u5.fresh nN4
  generalize hh1 : hset h0 cN (.cell (.int (pp Mo n : Nat))) = h1 at *
  have f1 : h1 ca = some (.cell (.ref Ra)) := by rw [← hh1, hset_ne (Ne.symm N4)]; exact e1
  have f2 : h1 cm = some (.cell (.ref Rm)) := by rw [← hh1, hset_ne (Ne.symm N3)]; exact e2
  have f3 : h1 cN = some (.cell (.int (pp Mo n : Nat))) := by rw [← hh1, hset_same]
  have f4 : h1 cM = some (.cell .unb) := by rw [← hh1, hset_ne m2]; exact e4
  have f5 : h1 ct = some (.cell .unb) := by rw [← hh1, hset_ne t2]; exact e5
  have em1 := v1.at em
  refine ⟨rfl, (show (1 : Int) ≠ 0 by decide), small_one (by decide) (by decide) (by (first | lia | omega)) (by (first | lia | omega)), ?_⟩
  refine compUp n (by (first | lia | omega)) (fun k acc h => acc = iL (fun j => (pp Mo n / Mo j : Nat)) k ∧ h = h1) ⟨rfl, rfl⟩ ?_ ?_
  · rintro k acc h hk ⟨rfl, rfl⟩
    refine ⟨by rw [iL_len, sizeLine_eq]; (first | lia | omega), (fun _ => ?_), fun t => nomatch t⟩
    refine ⟨_, f3, (fun q => nomatch q), _, f2, (fun q => nomatch q), ?_⟩
    refine iL_idx em1 (by (first | lia | omega)) rfl rfl (j := k) (by (first | lia | omega)) hk ?_
    refine ⟨ne0 (M.pos k hk), ?_, rfl⟩
    rw [iL_succ, ← fdivN]; rfl
  · rintro acc h ⟨rfl, rfl⟩ P nP
    have hPM : cM ≠ P := fun q => by rw [q, nP] at f4; cases f4
    refine ⟨⟨_, by rw [hset_ne hPM]; exact f4⟩, ?_⟩
    have hpP : hp P = none := by
      cases q : hp P with
      | none => rfl
      | some o => have := v1.at q; rw [nP] at this; cases this
    have v2 : Upto [] hp (hset (hset h P (.list (iL (fun j => (pp Mo n / Mo j : Nat)) n))) cM (.cell (.ref P))) := (v1.trans (.new nP)).fresh nM4
    have g1 : ∀ b o, h b = some o → b ≠ cM → hset (hset h P (.list (iL (fun j => (pp Mo n / Mo j : Nat)) n))) cM (.cell (.ref P)) b = some o := fun b o hb hne => by
      rw [hset_ne hne, hset_ne (fun q => by rw [q, nP] at hb; cases hb)]; exact hb
    have gP : hset (hset h P (.list (iL (fun j => (pp Mo n / Mo j : Nat)) n))) cM (.cell (.ref P)) P = some (.list (iL (fun j => (pp Mo n / Mo j : Nat)) n)) := by rw [hset_ne (Ne.symm hPM), hset_same]
    have gM : hset (hset h P (.list (iL (fun j => (pp Mo n / Mo j : Nat)) n))) cM (.cell (.ref P)) cM = some (.cell (.ref P)) := hset_same
    have g2 := g1 _ _ f1 (Ne.symm m4)
    have g3 := g1 _ _ f2 (Ne.symm m3)
    have g4 := g1 _ _ f3 (Ne.symm m2)
    have g5 := g1 _ _ f5 t1
    generalize hset (hset h P (.list (iL (fun j => (pp Mo n / Mo j : Nat)) n))) cM (.cell (.ref P)) = h2 at *
    have em2 := v2.at em
    refine ⟨rfl, (show (1 : Int) ≠ 0 by decide), small_one (by decide) (by decide) (by (first | lia | omega)) (by (first | lia | omega)), ?_⟩
    refine compUp n (by (first | lia | omega)) (fun k acc h' => ∃ zs : List Int, acc = zs.map .int ∧ zs.length = k ∧ Upto [] h2 h' ∧ ∀ (j : Nat) (z : Int), zs[j]? = some z → (Mo j : Int) ∣ ((pp Mo n / Mo j : Nat) : Int) * z - 1 ∧ z.natAbs ≤ Mo j) ⟨[], rfl, rfl, .refl, fun j z h => by simp at h⟩ ?_ ?_
    · intro k acc h' hk qz93
      refine Gen fun Gq9 back => ?_
      rcases qz93 with ⟨zs, hz94, hzl, u, hz⟩
      refine back ?_
      clear back
      clear Gq9
      subst hz94
      refine ⟨by rw [List.length_map, sizeLine_eq]; (first | lia | omega), (fun _ => ?_), fun t => nomatch t⟩
      refine Gen fun Gq9 back => ?_
      rcases cof M hk with ⟨c1, c2, c3, _⟩
      refine back ?_
      clear back
      clear Gq9
      have hM0 := M.pos k hk
      refine ⟨_, u.at gM, (fun q => nomatch q), ?_⟩
      refine iL_idx (u.at gP) (by (first | lia | omega)) rfl rfl (j := k) (by (first | lia | omega)) hk ?_
      refine ⟨_, u.at g3, (fun q => nomatch q), ?_⟩
      refine iL_idx (u.at em2) (by (first | lia | omega)) rfl rfl (j := k) (by (first | lia | omega)) hk ?_
      refine call_extgcd (ext_exec c1 c2 (M.lt hk) k0 fun a b h3 q u1 hq hab _ => ?_)
      rw [c3] at hq hab
      refine idxE (k := 0) rfl rfl (vs := [.int a, .int b, .int 1]) (by rw [hq]; rfl) (by simp) (by simp) rfl ?_
      refine ⟨_, u1.at (u.at g3), (fun q => nomatch q), ?_⟩
      refine iL_idx (u1.at (u.at em2)) (by (first | lia | omega)) rfl rfl (j := k) (by (first | lia | omega)) hk ?_
      refine ⟨ne0 hM0, zs ++ [a % (Mo k : Nat)], ?_, by simp [hzl], u.trans u1, ?_⟩
      · rw [List.map_append, ← Int.fmod_eq_emod_of_nonneg _ (Int.natCast_nonneg _)]; rfl
      · have e0 := Int.emod_nonneg a (b := ((Mo k : Nat) : Int)) (by (first | lia | omega))
        have e1 := Int.emod_lt_of_pos a (b := ((Mo k : Nat) : Int)) (by (first | lia | omega))
        have ed := Int.emod_add_mul_ediv a ((Mo k : Nat) : Int)
        intro j z hj
        rcases Nat.lt_or_ge j zs.length with q | q
        · rw [List.getElem?_append_left q] at hj; exact hz j z hj
        · rw [List.getElem?_append_right q] at hj
          have hj0 : j - zs.length = 0 := by
            rcases Nat.eq_zero_or_pos (j - zs.length) with z0 | z0
            · exact z0
            · rw [List.getElem?_eq_none (by simp; (first | lia | omega))] at hj; cases hj
          rw [hj0] at hj
          cases hj
          have : j = k := by (first | lia | omega)
          subst this
          refine ⟨⟨-b - (pp Mo n / Mo j : Nat) * (a / (Mo j : Nat)), ?_⟩, by (first | lia | omega)⟩
          generalize a % ((Mo j : Nat) : Int) = r at *
          generalize a / ((Mo j : Nat) : Int) = q2 at *
          generalize ((pp Mo n / Mo j : Nat) : Int) = g at *
          have e5 : r = a - (Mo j : Nat) * q2 := by (first | lia | omega)
          rw [e5, Int.mul_sub, Int.mul_sub, Int.mul_neg]
          have e6 : g * a = 1 - b * (Mo j : Nat) := by rw [Int.mul_comm]; (first | lia | omega)
          have e7 : g * ((Mo j : Nat) * q2) = (Mo j : Nat) * (g * q2) := by ac_rfl
          rw [e6, e7, Int.mul_comm b]
          (first | lia | omega)
    · intro acc h' qz95 S nS
      refine Gen fun Gq9 back => ?_
      rcases qz95 with ⟨zs, hz96, hzl, u, hz⟩
      refine back ?_
      clear back
      clear Gq9
      subst hz96
      have hSt : ct ≠ S := fun q => by have := u.at g5; rw [q, nS] at this; cases this
      refine ⟨⟨_, by rw [hset_ne hSt]; exact u.at g5⟩, ?_⟩
      have w1 : Upto [] hp (hset (hset h' S (.list (zs.map .int))) ct (.cell (.ref S))) := ((v2.trans u).trans (.new nS)).fresh nt4
      have k1 : ∀ b o, h' b = some o → b ≠ ct → hset (hset h' S (.list (zs.map .int))) ct (.cell (.ref S)) b = some o := fun b o hb hne => by
        rw [hset_ne hne, hset_ne (fun q => by rw [q, nS] at hb; cases hb)]; exact hb
      have gPt : P ≠ ct := fun q => by have := u.at gP; rw [q, u.at g5] at this; cases this
      exact gauss_tail M hA (w1.at tab) (k1 _ _ (u.at g2) (Ne.symm t4)) (w1.at eR) (k1 _ _ (u.at g4) (Ne.symm t2)) (k1 _ _ (u.at gM) (Ne.symm t1)) hset_same (k1 _ _ (u.at gP) gPt) (by rw [hset_ne (Ne.symm hSt), hset_same]) hzl hz
        fun x h'' T D u' h1 h2 h3 => hQ x h'' T D P S zs (w1.trans u') h1 h2 h3
theorem smallN {a p : Nat} (h : a < p) (hp : p ≤ 20000) : ((a : Nat) : Int).natAbs < 2 ^ 64 := by (first | lia | omega)
theorem sub1 {a p : Nat} (hp : 0 < p) : (a : Int) = (p : Int) - 1 ↔ a = p - 1 := by (first | lia | omega)
theorem bits1 {x : Int} (h : x ≤ 20000) : (Builtin.Int.intBits 1 : Int) + x ≤ 2 ^ 27 := by
  have : Builtin.Int.intBits 1 = 1 := by decide
  (first | lia | omega)
theorem odd8 {p : Nat} (h : p % 2 = 1) (h1 : p % 8 ≠ 1) : p % 8 = 3 ∨ p % 8 = 5 ∨ p % 8 = 7 := by (first | lia | omega)
theorem rlt {n : Int} {p r : Nat} (hp : 0 < p) (hr : (n % p).toNat = r) : r < p := by
  have := Int.emod_lt_of_pos n (b := (p : Int)) (pos0 hp)
  (first | lia | omega)
theorem even_exec {w mean mg mb} {d : Nat} {hp : HP} {k a m b : Nat} {s t : Int} (hk : evenF k a m s = some (b, t)) {Q : Out → List V → HP → Prop} (hQ : b % 2 = 1 → Q .next [.int b, .int m, .int t] hp) :
    whileI (fun l h R => evT (gg w mean mg mb) d (.cmp .eq (.bin .band (.var 0) (.int 1)) (.int 0)) l h R noX)
      (fun l h R => exec (gg w mean mg mb) d (.seq (.aug 0 .shr (.int 1)) (.seq (.ite (.or (.cmp .eq (.bin .band (.var 1) (.int 7)) (.int 3)) (.cmp .eq (.bin .band (.var 1) (.int 7)) (.int 5))) (.seq (.asg 2 (.neg (.var 2))) .skip) .skip) .skip)) l h R noX)
      (fun l h R => exec (gg w mean mg mb) d .skip l h R noX) [.int a, .int m, .int s] hp Q := by
  refine ⟨fun j l h => ∃ (a : Nat) (s : Int), l = [.int a, .int m, .int s] ∧ h = hp ∧ evenF j a m s = some (b, t), ⟨k, a, s, rfl, rfl, hk⟩, ?_⟩
  intro j l h qz97
  refine Gen fun Gq9 back => ?_
  rcases qz97 with ⟨a, s, hz98, hz99, hj⟩
  refine back ?_
  clear back
  clear Gq9
  subst hz98
  subst hz99
  cases j with
  | zero => cases hj
  | succ j =>
  replace hj : (if a % 2 = 0 then evenF j (a / 2) m (if m % 8 = 3 ∨ m % 8 = 5 then -s else s) else some (a, s)) = some (b, t) := hj
  refine ⟨trivial, fun ht => ?_, fun ht => ?_⟩
  · have ht := ceq_t.mp ht
    have ha : a % 2 = 0 := by
      have : Builtin.bitAnd (a : Int) 1 = 0 := ht
      rw [bitAnd_m1] at this; (first | lia | omega)
    rw [if_pos ha] at hj
    have e2 : intOp (a : Int) 1 .shr = ((a / 2 : Nat) : Int) := by
      show (a : Int).fdiv (2 ^ (1 : Int).toNat) = _
      rw [show (2 : Int) ^ (1 : Int).toNat = 2 from rfl, Int.fdiv_eq_ediv_of_nonneg _ (by decide)]; rfl
    refine ⟨(show (0 : Int) ≤ 1 by decide), ?_⟩
    show exec (gg w mean mg mb) d _ [.int (intOp (a : Int) 1 .shr), .int m, .int s] h _ noX
    rw [e2]
    have e7 : Builtin.bitAnd (m : Int) 7 = ((m % 8 : Nat) : Int) := by rw [bitAnd_m3]; rfl
    refine ⟨trivial, fun t1 => ⟨fun _ => ?_, (fun q => nomatch q)⟩, fun t1 => ⟨trivial, fun t2 => ?_, fun t2 => ?_⟩⟩
    · have t1 : Builtin.bitAnd (m : Int) 7 = 3 := ceq_t.mp t1
      rw [e7] at t1
      rw [if_pos (.inl (Int.ofNat.inj t1))] at hj
      exact ⟨j, by (first | lia | omega), _, _, rfl, rfl, hj⟩
    · have t2 : Builtin.bitAnd (m : Int) 7 = 5 := ceq_t.mp t2
      rw [e7] at t2
      rw [if_pos (.inr (Int.ofNat.inj t2))] at hj
      exact ⟨j, by (first | lia | omega), _, _, rfl, rfl, hj⟩
    · have t1 : Builtin.bitAnd (m : Int) 7 ≠ 3 := ceq_f.mp t1
      have t2 : Builtin.bitAnd (m : Int) 7 ≠ 5 := ceq_f.mp t2
      rw [e7] at t1 t2
      rw [if_neg (fun q => q.elim (fun q => t1 (congrArg Int.ofNat q)) (fun q => t2 (congrArg Int.ofNat q)))] at hj
      exact ⟨j, by (first | lia | omega), _, _, rfl, rfl, hj⟩
  · have ht := ceq_f.mp ht
    have ha : a % 2 ≠ 0 := by
      have : Builtin.bitAnd (a : Int) 1 ≠ 0 := ht
      rw [bitAnd_m1] at this; (first | lia | omega)
    rw [if_neg ha] at hj
    cases hj
    exact hQ (by (first | lia | omega))
theorem leg_exec {w mean mg mb} {d : Nat} {hp : HP} {m : Nat} {n v : Int} (hm : 0 < m) (hv : legV (n % m).toNat m = some v) {Q : V → HP → Prop} {X : XT} (hQ : Q (.int v) hp) :
    exec (gg w mean mg mb) d m_legendre [.int n, .int m, .unb] hp (retQ Q) X := by
  refine ⟨ne0 hm, ?_⟩
  have e : intOp n m .mod = ((n % (m : Int)).toNat : Int) := by
    show n.fmod m = _
    rw [Int.fmod_eq_emod_of_nonneg _ (Int.natCast_nonneg _), Int.toNat_of_nonneg (Int.emod_nonneg _ (ne0 hm))]
  show exec (gg w mean mg mb) d _ [.int (intOp n m .mod), .int m, .int 1] hp _ X
  rw [e]
  generalize (n % (m : Int)).toNat = r at *
  refine ⟨fun k l h => ∃ (a m : Nat) (s : Int), l = [.int a, .int m, .int s] ∧ h = hp ∧ legF k a m s = some v, ⟨6, r, m, 1, rfl, rfl, hv⟩, ?_⟩
  intro k l h qz100
  refine Gen fun Gq9 back => ?_
  rcases qz100 with ⟨a, m, s, hz101, hz102, hk⟩
  refine back ?_
  clear back
  clear Gq9
  subst hz101
  subst hz102
  cases k with
  | zero => cases hk
  | succ k =>
  replace hk : (if a = 0 then some (if m = 1 then s else 0) else match evenF 6 a m s with
    | none => none
    | some (b, t) => legF k (m % b) b (if m % 4 = 3 ∧ b % 4 = 3 then -t else t)) = some v := hk
  refine ⟨fun t => ?_, fun t => ?_⟩
  · have ha := cne_t.mp t
    rw [if_neg (by (first | lia | omega))] at hk
    cases hev : evenF 6 a m s with
    | none => rw [hev] at hk; cases hk
    | some bt =>
    obtain ⟨b, t'⟩ := bt
    rw [hev] at hk
    replace hk : legF k (m % b) b (if m % 4 = 3 ∧ b % 4 = 3 then -t' else t') = some v := hk
    refine even_exec hev fun hb => ?_
    have em : intOp (m : Int) (b : Int) .mod = ((m % b : Nat) : Int) := by
      show (m : Int).fmod b = _
      rw [Int.fmod_eq_emod_of_nonneg _ (Int.natCast_nonneg _)]; rfl
    have e3 : Builtin.bitAnd (m : Int) 3 = ((m % 4 : Nat) : Int) := by rw [bitAnd_m2]; rfl
    have e4 : Builtin.bitAnd (b : Int) 3 = ((b % 4 : Nat) : Int) := by rw [bitAnd_m2]; rfl
    have fin : ∀ s2 : Int, legF k (m % b) b s2 = some v → exec (gg w mean mg mb) d (.seq (.asg 0 (.bin .mod (.var 0) (.var 1))) .skip) [.int m, .int b, .int s2] h (fun o l2 h2 => match o with
      | .next => ∃ j, j < k + 1 ∧ ∃ (a m : Nat) (s : Int), l2 = [.int a, .int m, .int s] ∧ h2 = h ∧ legF j a m s = some v | .brk => True | .ret _ => False) noX := by
      intro s2 hs
      refine ⟨(show (b : Int) ≠ 0 by (first | lia | omega)), k, by (first | lia | omega), m % b, b, s2, ?_, rfl, hs⟩
      show [V.int (intOp (m : Int) (b : Int) .mod), V.int b, V.int s2] = _
      rw [em]
    refine ⟨trivial, fun t1 => ⟨trivial, fun t2 => ?_, fun t2 => ?_⟩, fun t1 => ⟨(fun q => nomatch q), fun _ => ?_⟩⟩
    · have t1 : Builtin.bitAnd (m : Int) 3 = 3 := ceq_t.mp t1
      have t2 : Builtin.bitAnd (b : Int) 3 = 3 := ceq_t.mp t2
      rw [e3] at t1; rw [e4] at t2
      rw [if_pos ⟨Int.ofNat.inj t1, Int.ofNat.inj t2⟩] at hk
      exact fin _ hk
    · have t2 : Builtin.bitAnd (b : Int) 3 ≠ 3 := ceq_f.mp t2
      rw [e4] at t2
      rw [if_neg (fun q => t2 (congrArg Int.ofNat q.2))] at hk
      exact fin _ hk
    · have t1 : Builtin.bitAnd (m : Int) 3 ≠ 3 := ceq_f.mp t1
      rw [e3] at t1
      rw [if_neg (fun q => t1 (congrArg Int.ofNat q.1))] at hk
      exact fin _ hk
  · have ha := cne_f.mp t
    rw [if_pos (by (first | lia | omega))] at hk
    refine ⟨fun t => ?_, fun t => ?_⟩
    · have hm : (m : Int) = 1 := ceq_t.mp t
      rw [if_pos (by (first | lia | omega))] at hk
      cases hk; exact hQ
    · have hm : (m : Int) ≠ 1 := ceq_f.mp t
      rw [if_neg (by (first | lia | omega))] at hk
      cases hk; exact hQ
theorem vp_exec {w mean mg mb} {d : Nat} {hp : HP} {N s : Nat} (hs : s < 60) (h1 : ∀ j, j < s → N % 2 ^ (j + 1) = 0) (h2 : N % 2 ^ (s + 1) ≠ 0) {Q : V → HP → Prop} {X : XT}
    (hQ : ∀ h' r, Upto [] hp h' → h' r = some (.tup [.int s, .int (N / 2 ^ s : Nat)]) → Q (.ref r) h') :
    exec (gg w mean mg mb) d m_vp [.int N, .int 2, .int 0, .unb] hp (retQ Q) X := by
  have em : ∀ j : Nat, intOp (N : Int) ((2 ^ (j + 1) : Nat) : Int) .mod = ((N % 2 ^ (j + 1) : Nat) : Int) := by
    intro j
    show (N : Int).fmod _ = _
    rw [Int.fmod_eq_emod_of_nonneg _ (Int.natCast_nonneg _)]; push_cast; rfl
  have hpos : ∀ j : Nat, 0 < 2 ^ j := fun j => Nat.pow_pos (by decide)
  refine ⟨fun k l h => ∃ j : Nat, l = [.int N, .int 2, .int j, .int (2 ^ (j + 1) : Nat)] ∧ h = hp ∧ j ≤ s ∧ k = s - j, ⟨s, 0, rfl, rfl, by (first | lia | omega), rfl⟩, ?_⟩
  intro k l h qz103
  refine Gen fun Gq9 back => ?_
  rcases qz103 with ⟨j, hz104, hz105, hj, hz106⟩
  refine back ?_
  clear back
  clear Gq9
  subst hz104
  subst hz105
  subst hz106
  refine ⟨(show ((2 ^ (j + 1) : Nat) : Int) ≠ 0 by have := hpos (j + 1); (first | lia | omega)), ?_⟩
  show truV (.int (intOp (N : Int) ((2 ^ (j + 1) : Nat) : Int) .mod)) h _
  rw [em]
  refine ⟨fun t => ?_, fun t => ?_⟩
  · have hz : ((N % 2 ^ (j + 1) : Nat) : Int) = 0 := tru_f.mp (not_t.mp t)
    have hjs : j < s := by
      rcases Nat.lt_or_ge j s with q | q
      · exact q
      · have e0 : j = s := by (first | lia | omega)
        rw [e0] at hz
        (first | lia | omega)
    refine ⟨trivial, mul_small_right (by decide), s - (j + 1), by (first | lia | omega), j + 1, ?_, rfl, hjs, rfl⟩
    show [V.int N, V.int 2, V.int ((j : Int) + 1), V.int (((2 ^ (j + 1) : Nat) : Int) * 2)] = _
    rw [Nat.pow_succ 2 (j + 1)]; push_cast; rfl
  · have hz : ((N % 2 ^ (j + 1) : Nat) : Int) ≠ 0 := tru_t.mp (not_f.mp t)
    have hjs : j = s := by
      rcases Nat.lt_or_ge j s with q | q
      · exact absurd (by have := h1 j q; (first | lia | omega)) hz
      · (first | lia | omega)
    subst hjs
    have e1 : ((2 ^ (j + 1) : Nat) : Int).fdiv 2 = ((2 ^ j : Nat) : Int) := by
      rw [Int.fdiv_eq_ediv_of_nonneg _ (by decide), Nat.pow_succ, show ((2 ^ j * 2 : Nat) : Int) / 2 = (((2 ^ j * 2) / 2 : Nat) : Int) by push_cast; rfl, Nat.mul_div_cancel _ (by decide)]
    refine ⟨(show (2 : Int) ≠ 0 by decide), ?_⟩
    show binV .fdiv (.int N) (.int (((2 ^ (j + 1) : Nat) : Int).fdiv 2)) h _
    rw [e1]
    refine ⟨(show ((2 ^ j : Nat) : Int) ≠ 0 by have := hpos j; (first | lia | omega)), by simp [sizeLine_eq], fun r nr => hQ _ r (.new nr) ?_⟩
    rw [hset_same]
    have e3 : intOp (N : Int) ((2 ^ j : Nat) : Int) .fdiv = ((N / 2 ^ j : Nat) : Int) := by
      show (N : Int).fdiv _ = _
      rw [Int.fdiv_eq_ediv_of_nonneg _ (Int.natCast_nonneg _)]; push_cast; rfl
    rw [e3]; rfl
theorem shrN (a k : Nat) : intOp (a : Int) (k : Int) .shr = ((a / 2 ^ k : Nat) : Int) := by
  show (a : Int).fdiv (2 ^ (k : Int).toNat) = _
  rw [Int.toNat_natCast, Int.fdiv_eq_ediv_of_nonneg _ (Int.le_of_lt (Int.pow_pos (by decide)))]; push_cast; rfl
theorem powmodN {a p : Nat} (hp : 0 < p) (k : Nat) : ((a : Int) ^ k).fmod p = ((a ^ k % p : Nat) : Int) := by
  rw [Int.fmod_eq_emod_of_nonneg _ (Int.natCast_nonneg _)]; push_cast; rfl
theorem primes11_pos {p : Nat} (hp : p ∈ primes11) : 3 ≤ p ∧ p ≤ 53 ∧ p % 2 = 1 := by
  have : primes11.all (fun p => decide (3 ≤ p ∧ p ≤ 53 ∧ p % 2 = 1)) = true := by decide
  simpa using List.all_eq_true.mp this p hp
theorem rootA_exec {w mean mg mb} {d : Nat} {hp : HP} {p r : Nat} {n : Int} (hp0 : 3 ≤ p ∧ p ≤ 53 ∧ p % 2 = 1) (hr : (n % p).toNat = r) (h8 : p % 8 ≠ 1) (h80 : p % 8 = 3 ∨ p % 8 = 5 ∨ p % 8 = 7) {Q : Out → List V → HP → Prop} {X : XT}
    (hQ : ∀ x0 x9, Q .next [x0, .int p, .int 1, .int (rootV p r : Nat), .unb, .unb, .unb, .int 1, .int (p % 8 : Nat), x9, .unb, .unb, .unb, .unb, .unb, .unb] hp) :
    exec (gg w mean mg mb) d (.seq (.aug 0 .mod (.var 1)) (.seq (.ite (.or (.cmp .eq (.var 8) (.int 3)) (.cmp .eq (.var 8) (.int 7))) (.seq (.asg 3 (.pow3 (.var 0) (.bin .add (.bin .shr (.var 1) (.int 2)) (.int 1)) (.var 1))) .skip) (.seq (.asg 3 (.pow3 (.var 0) (.bin .add (.bin .shr (.var 1) (.int 3)) (.int 1)) (.var 1))) (.seq (.asg 9 (.pow3 (.var 3) (.int 2) (.var 1))) (.seq (.ite (.cmp .ne (.var 9) (.var 0)) (.seq (.asg 3 (.bin .mod (.bin .mul (.var 3) (.pow3 (.int 2) (.bin .shr (.var 1) (.int 2)) (.var 1))) (.var 1))) .skip) .skip) .skip)))) .skip))
      [.int n, .int p, .int 1, .unb, .unb, .unb, .unb, .int 1, .int (p % 8 : Nat), .unb, .unb, .unb, .unb, .unb, .unb, .unb] hp Q X := by
  have hpp : 0 < p := Nat.lt_of_lt_of_le (by decide) hp0.1
  have e0 : intOp n p .mod = (r : Int) := by
    show n.fmod p = _
    rw [← hr, Int.fmod_eq_emod_of_nonneg _ (Int.natCast_nonneg _), Int.toNat_of_nonneg (Int.emod_nonneg _ (ne0 hpp))]
  have q2 : intOp (p : Int) 2 .shr = ((p / 4 : Nat) : Int) := shrN p 2
  have q3 : intOp (p : Int) 3 .shr = ((p / 8 : Nat) : Int) := shrN p 3
  refine ⟨(ne0 hpp), ?_⟩
  show exec (gg w mean mg mb) d _ [.int (intOp n p .mod), .int p, .int 1, .unb, .unb, .unb, .unb, .int 1, .int (p % 8 : Nat), .unb, .unb, .unb, .unb, .unb, .unb, .unb] hp Q X
  rw [e0]
  have fin37 : p % 8 = 3 ∨ p % 8 = 7 → exec (gg w mean mg mb) d (.seq (.asg 3 (.pow3 (.var 0) (.bin .add (.bin .shr (.var 1) (.int 2)) (.int 1)) (.var 1))) .skip) [.int r, .int p, .int 1, .unb, .unb, .unb, .unb, .int 1, .int (p % 8 : Nat), .unb, .unb, .unb, .unb, .unb, .unb, .unb] hp Q X := by
    intro h37
    refine ⟨(show (0 : Int) ≤ 2 by decide), trivial, ?_, (pos0 hpp), ?_⟩
    · show 0 ≤ intOp (p : Int) 2 .shr + 1
      rw [q2]; exact Int.natCast_nonneg (p / 4 + 1)
    · show Q .next [.int r, .int p, .int 1, .int (((r : Int) ^ (intOp (p : Int) 2 .shr + 1).toNat).fmod p), .unb, .unb, .unb, .int 1, .int (p % 8 : Nat), .unb, .unb, .unb, .unb, .unb, .unb, .unb] hp
      rw [q2, show (((p / 4 : Nat) : Int) + 1).toNat = p / 4 + 1 from rfl, powmodN hpp, show r ^ (p / 4 + 1) % p = rootV p r by unfold rootV; rw [if_pos h37]]
      exact hQ _ _
  refine ⟨fun t1 => ⟨fun _ => ?_, (fun q => nomatch q)⟩, fun t1 => ⟨fun t2 => ?_, fun t2 => ?_⟩⟩
  · have t1 : ((p % 8 : Nat) : Int) = 3 := ceq_t.mp t1
    exact fin37 (.inl (Int.ofNat.inj t1))
  · have t2 : ((p % 8 : Nat) : Int) = 7 := ceq_t.mp t2
    exact fin37 (.inr (Int.ofNat.inj t2))
  · have t1 : ((p % 8 : Nat) : Int) ≠ 3 := ceq_f.mp t1
    have t2 : ((p % 8 : Nat) : Int) ≠ 7 := ceq_f.mp t2
    have hn37 : ¬ (p % 8 = 3 ∨ p % 8 = 7) := fun q => q.elim (fun q => t1 (congrArg Int.ofNat q)) (fun q => t2 (congrArg Int.ofNat q))
    have h5 : p % 8 = 5 := h80.elim (fun q => absurd (.inl q) hn37) fun q => q.elim id fun q => absurd (.inr q) hn37
    refine ⟨(show (0 : Int) ≤ 3 by decide), trivial, ?_, (pos0 hpp), ?_⟩
    · show 0 ≤ intOp (p : Int) 3 .shr + 1
      rw [q3]; exact Int.natCast_nonneg (p / 8 + 1)
    show exec (gg w mean mg mb) d _ [.int r, .int p, .int 1, .int (((r : Int) ^ (intOp (p : Int) 3 .shr + 1).toNat).fmod p), .unb, .unb, .unb, .int 1, .int (p % 8 : Nat), .unb, .unb, .unb, .unb, .unb, .unb, .unb] hp _ X
    rw [q3, show (((p / 8 : Nat) : Int) + 1).toNat = p / 8 + 1 from rfl, powmodN hpp]
    have hv : rootV p r = if (r ^ (p / 8 + 1) % p) ^ 2 % p = r then r ^ (p / 8 + 1) % p else (r ^ (p / 8 + 1) % p) * (2 ^ (p / 4) % p) % p := by
      unfold rootV; rw [if_neg hn37, if_pos h5]
    have hx : r ^ (p / 8 + 1) % p < p := Nat.mod_lt _ hpp
    generalize r ^ (p / 8 + 1) % p = x at *
    refine ⟨(show (0 : Int) ≤ 2 by decide), (pos0 hpp), ?_⟩
    show exec (gg w mean mg mb) d _ [.int r, .int p, .int 1, .int x, .unb, .unb, .unb, .int 1, .int (p % 8 : Nat), .int (((x : Int) ^ 2).fmod p), .unb, .unb, .unb, .unb, .unb, .unb] hp _ X
    rw [powmodN hpp]
    refine ⟨fun t => ?_, fun t => ?_⟩
    · have t : ((x ^ 2 % p : Nat) : Int) ≠ r := cne_t.mp t
      rw [if_neg (fun q => t (congrArg Int.ofNat q))] at hv
      refine ⟨(show (0 : Int) ≤ 2 by decide), ?_, (pos0 hpp), mul_small_left (by (first | lia | omega)), (ne0 hpp), ?_⟩
      · show 0 ≤ intOp (p : Int) 2 .shr
        rw [q2]; exact Int.natCast_nonneg _
      show Q .next [.int r, .int p, .int 1, .int (((x : Int) * ((2 : Int) ^ (intOp (p : Int) 2 .shr).toNat).fmod p).fmod p), .unb, .unb, .unb, .int 1, .int (p % 8 : Nat), .int (x ^ 2 % p : Nat), .unb, .unb, .unb, .unb, .unb, .unb] hp
      rw [q2, Int.toNat_natCast, show ((2 : Int) ^ (p / 4)).fmod p = ((2 ^ (p / 4) % p : Nat) : Int) from powmodN (a := 2) hpp _, Int.fmod_eq_emod_of_nonneg _ (Int.natCast_nonneg _), ← Int.natCast_mul, ← Int.natCast_emod, ← hv]
      exact hQ _ _
    · have t : ((x ^ 2 % p : Nat) : Int) = r := cne_f.mp t
      rw [if_pos (Int.ofNat.inj t)] at hv
      rw [← hv]
      exact hQ _ _
theorem rootB_exec {w mean mg mb} {d : Nat} {hp : HP} {p r s t : Nat} {n : Int} (hp0 : 3 ≤ p ∧ p ≤ 53) (hr : (n % p).toNat = r) (hs : 2 ≤ s ∧ s < 10) (ht : t < 10) (hl2 : legV ((2 : Int) % p).toNat p = some 1) (hl3 : legV ((3 : Int) % p).toNat p = some (-1))
    (h1 : ∀ j, j < s → (p - 1) % 2 ^ (j + 1) = 0) (h2 : (p - 1) % 2 ^ (s + 1) ≠ 0) (h3 : (p - 1) / 2 ^ s = t)
    (hv : rootV p r = (r ^ ((t + 1) / 2) % p) * ((3 ^ t % p) ^ (tonF (r ^ t % p) (3 ^ t % p) p s (s - 1) / 2) % p) % p) {Q : Out → List V → HP → Prop} {X : XT} {x8 : V}
    (hQ : ∀ x6 x9 x10 x11 x12 x13 x14 x15 h', Upto [] hp h' → Q .next [.int n, .int p, .int 1, .int (rootV p r : Nat), .unb, .unb, x6, .int 1, x8, x9, x10, x11, x12, x13, x14, x15] h') :
    exec (gg w mean mg mb) (d + 1) (.seq (.asg 10 (.int 2)) (.seq (.whil (.cmp .ne (.call 63 (.cons (.var 10) (.cons (.var 1) .nil))) (.neg (.int 1))) (.seq (.aug 10 .add (.int 1)) .skip) .skip) (.seq (.unp [11, 12] (.call 107 (.cons (.bin .sub (.var 1) (.int 1)) (.cons (.int 2) .nil)))) (.seq (.asg 13 (.pow3 (.var 0) (.var 12) (.var 1))) (.seq (.asg 14 (.pow3 (.var 10) (.var 12) (.var 1))) (.seq (.asg 15 (.int 0)) (.seq (.forR 6 (.int 1) (.var 11) (.int 1) (.seq (.ite (.cmp .eq (.pow3 (.bin .mul (.var 13) (.pow3 (.var 14) (.var 15) (.var 1))) (.bin .shl (.int 1) (.bin .sub (.bin .sub (.var 11) (.int 1)) (.var 6))) (.var 1)) (.bin .sub (.var 1) (.int 1))) (.seq (.aug 15 .add (.bin .shl (.int 1) (.var 6))) .skip) .skip) .skip)) (.seq (.asg 3 (.bin .mod (.bin .mul (.pow3 (.var 0) (.bin .shr (.bin .add (.var 12) (.int 1)) (.int 1)) (.var 1)) (.pow3 (.var 14) (.bin .shr (.var 15) (.int 1)) (.var 1))) (.var 1))) .skip))))))))
      [.int n, .int p, .int 1, .unb, .unb, .unb, .unb, .int 1, x8, .unb, .unb, .unb, .unb, .unb, .unb, .unb] hp Q X := by
  have hpp : 0 < p := Nat.lt_of_lt_of_le (by decide) hp0.1
  have hp25 : p ≤ 20000 := Nat.le_trans hp0.2 (by decide)
  refine ⟨fun k l h => ∃ dd : Int, l = [.int n, .int p, .int 1, .unb, .unb, .unb, .unb, .int 1, x8, .unb, .int dd, .unb, .unb, .unb, .unb, .unb] ∧ h = hp ∧ (dd = 2 ∧ k = 1 ∨ dd = 3 ∧ k = 0), ⟨1, 2, rfl, rfl, .inl ⟨rfl, rfl⟩⟩, ?_⟩
  intro k l h qz107
  refine Gen fun Gq9 back => ?_
  rcases qz107 with ⟨dd, hz108, hz109, hd⟩
  refine back ?_
  clear back
  clear Gq9
  subst hz108
  subst hz109
  rcases hd with ⟨rfl, rfl⟩ | ⟨rfl, rfl⟩
  · refine call_legendre (leg_exec hpp hl2 ?_)
    exact ⟨fun _ => ⟨trivial, 0, by (first | lia | omega), 3, rfl, rfl, .inr ⟨rfl, rfl⟩⟩, (fun q => nomatch q)⟩
  refine call_legendre (leg_exec hpp hl3 ?_)
  refine ⟨(fun q => nomatch q), fun _ => ?_⟩
  refine ⟨trivial, ?_⟩
  have e1 : intOp (p : Int) 1 .sub = ((p - 1 : Nat) : Int) := by show (p : Int) - 1 = _; (first | lia | omega)
  show Calls (gg w mean mg mb) (d + 1) 107 [.int (intOp (p : Int) 1 .sub), .int 2] [] h _ _
  rw [e1]
  refine call_vp2 (vp_exec (s := s) (by (first | lia | omega)) h1 h2 fun h4 q u4 hq => ?_)
  refine ⟨[.int s, .int ((p - 1) / 2 ^ s : Nat)], by rw [hq]; rfl, rfl, ?_⟩
  rw [h3]
  refine ⟨(Int.natCast_nonneg _), (pos0 hpp), ?_⟩
  show exec (gg w mean mg mb) (d + 1) _ [.int n, .int p, .int 1, .unb, .unb, .unb, .unb, .int 1, x8, .unb, .int 3, .int s, .int t, .int ((n ^ (t : Int).toNat).fmod p), .unb, .unb] h4 _ X
  rw [Int.toNat_natCast, powmod hpp, hr]
  have hA : r ^ t % p < p := Nat.mod_lt _ hpp
  refine ⟨(Int.natCast_nonneg _), (pos0 hpp), ?_⟩
  show exec (gg w mean mg mb) (d + 1) _ [.int n, .int p, .int 1, .unb, .unb, .unb, .unb, .int 1, x8, .unb, .int 3, .int s, .int t, .int (r ^ t % p : Nat), .int (((3 : Int) ^ (t : Int).toNat).fmod p), .unb] h4 _ X
  rw [Int.toNat_natCast, show ((3 : Int) ^ t).fmod p = ((3 ^ t % p : Nat) : Int) from powmodN (a := 3) hpp _]
  have hD : 3 ^ t % p < p := Nat.mod_lt _ hpp
  generalize r ^ t % p = A at *
  generalize 3 ^ t % p = D at *
  refine ⟨(show (1 : Int) ≠ 0 by decide), small_one (by decide) (by decide) (by (first | lia | omega)) (by (first | lia | omega)), ?_⟩
  refine forUp (l := [.int n, .int p, .int 1, .unb, .unb, .unb, .unb, .int 1, x8, .unb, .int 3, .int s, .int t, .int A, .int D, .int 0]) (s - 1) (by (first | lia | omega)) (fun k l h => ∃ x6, l = [.int n, .int p, .int 1, .unb, .unb, .unb, x6, .int 1, x8, .unb, .int 3, .int s, .int t, .int A, .int D, .int (tonF A D p s k : Nat)] ∧ h = h4) ⟨_, rfl, rfl⟩ ?_ ?_
  · rintro k l h hk ⟨x6, rfl, rfl⟩
    have ek : (s : Int) - 1 - (1 + k) = ((s - 1 - (k + 1) : Nat) : Int) := by (first | lia | omega)
    have hm : (2 : Nat) ^ (k + 1) = 2 ^ (1 + k) := by rw [Nat.add_comm]
    rw [show tonF A D p s (k + 1) = (if (A * (D ^ tonF A D p s k % p)) ^ (2 ^ (s - 1 - (k + 1))) % p = p - 1 then tonF A D p s k + 2 ^ (k + 1) else tonF A D p s k) from rfl]
    generalize tonF A D p s k = m at *
    have hDm : D ^ m % p < p := Nat.mod_lt _ hpp
    refine ⟨(Int.natCast_nonneg _), (pos0 hpp), ?_⟩
    show binV .mul (.int A) (.int (((D : Int) ^ (m : Int).toNat).fmod p)) h _
    rw [Int.toNat_natCast, powmodN hpp]
    refine ⟨mul_small_left (smallN hA hp25), trivial, trivial, ⟨?_, ?_⟩, ?_⟩
    · show 0 ≤ (s : Int) - 1 - (1 + k)
      (first | lia | omega)
    · show (Builtin.Int.intBits 1 : Int) + ((s : Int) - 1 - (1 + k)) ≤ 2 ^ 27
      exact bits1 (by (first | lia | omega))
    have e5 : intOp 1 ((s : Int) - 1 - (1 + k)) .shl = ((2 ^ (s - 1 - (k + 1)) : Nat) : Int) := by
      rw [ek]
      show (1 : Int) * 2 ^ ((s - 1 - (k + 1) : Nat) : Int).toNat = _
      rw [Int.toNat_natCast, Int.one_mul]; push_cast; rfl
    refine ⟨?_, (pos0 hpp), trivial, ?_⟩
    · show 0 ≤ intOp 1 ((s : Int) - 1 - (1 + k)) .shl
      rw [e5]; exact Int.natCast_nonneg _
    show cmpV .eq (.int (((A : Int) * ((D ^ m % p : Nat) : Int)) ^ (intOp 1 ((s : Int) - 1 - (1 + k)) .shl).toNat |>.fmod p)) (.int ((p : Int) - 1)) h _
    rw [e5, Int.toNat_natCast, ← Int.natCast_mul, powmodN hpp]
    refine ⟨fun tt => ?_, fun tt => ?_⟩
    · have tt := ceq_t.mp tt
      rw [if_pos ((sub1 hpp).mp tt)]
      refine ⟨⟨(show 0 ≤ (1 : Int) + k by (first | lia | omega)), ?_⟩, trivial, ?_⟩
      · show (Builtin.Int.intBits 1 : Int) + (1 + k) ≤ 2 ^ 27
        exact bits1 (by (first | lia | omega))
      · refine ⟨.int (1 + k), ?_, rfl⟩
        show [V.int n, .int p, .int 1, .unb, .unb, .unb, .int (1 + k), .int 1, x8, .unb, .int 3, .int s, .int _, .int A, .int D, .int ((m : Int) + 1 * 2 ^ ((1 : Int) + k).toNat)] = _
        rw [show ((1 : Int) + k).toNat = k + 1 by (first | lia | omega), Int.one_mul]; push_cast; rfl
    · have tt := ceq_f.mp tt
      rw [if_neg (fun q => tt ((sub1 hpp).mpr q))]
      exact ⟨.int (1 + k), rfl, rfl⟩
  · rintro l h ⟨x6, rfl, rfl⟩
    generalize tonF A D p s (s - 1) = m at *
    have e2 : intOp (intOp (t : Int) 1 .add) 1 .shr = (((t + 1) / 2 : Nat) : Int) := by
      rw [show intOp (t : Int) 1 .add = ((t + 1 : Nat) : Int) by show (t : Int) + 1 = _; push_cast; rfl]
      exact shrN (t + 1) 1
    have e3 : intOp (m : Int) 1 .shr = ((m / 2 : Nat) : Int) := shrN m 1
    refine ⟨trivial, (show (0 : Int) ≤ 1 by decide), ?_, (pos0 hpp), ?_⟩
    · show 0 ≤ intOp (intOp (t : Int) 1 .add) 1 .shr
      rw [e2]; exact Int.natCast_nonneg _
    refine ⟨(show (0 : Int) ≤ 1 by decide), ?_, (pos0 hpp), ?_⟩
    · show 0 ≤ intOp (m : Int) 1 .shr
      rw [e3]; exact Int.natCast_nonneg _
    show binV .mul (.int ((n ^ (intOp (intOp (t : Int) 1 .add) 1 .shr).toNat).fmod p)) (.int (((D : Int) ^ (intOp (m : Int) 1 .shr).toNat).fmod p)) h _
    rw [e2, e3, Int.toNat_natCast, Int.toNat_natCast, powmod hpp, hr, powmodN hpp]
    have hb : r ^ ((t + 1) / 2) % p < p := Nat.mod_lt _ hpp
    refine ⟨mul_small_left (smallN hb hp25), (ne0 hpp), ?_⟩
    show Q .next [.int n, .int p, .int 1, .int ((((r ^ ((t + 1) / 2) % p : Nat) : Int) * ((D ^ (m / 2) % p : Nat) : Int)).fmod p), .unb, .unb, x6, .int 1, x8, .unb, .int 3, .int s, .int t, .int A, .int D, .int m] h
    rw [Int.fmod_eq_emod_of_nonneg _ (Int.natCast_nonneg _), ← Int.natCast_mul, ← Int.natCast_emod, ← hv]
    exact hQ _ _ _ _ _ _ _ _ _ u4
noncomputable def Root1 (p r x : Nat) : Prop := (r = 0 ∧ x = 0) ∨ (r ≠ 0 ∧ 0 < x ∧ x < p ∧ x * x % p = r)
theorem mod1_exec {w mean mg mb} {d : Nat} {hp : HP} {p r : Nat} {n : Int} (hp1 : p ∈ primes11) (hr : (n % p).toNat = r) {Q : V → HP → Prop} {X : XT}
    (hQ : ∀ h' (x : Nat), Upto [] hp h' → Root1 p r x → Q (.int x) h')
    (hX : r ≠ 0 → (∀ y, y < p → y * y % p ≠ r) → False) :
    exec (gg w mean mg mb) (d + 1) m_modsqrt [.int n, .int p, .int 1, .unb, .unb, .unb, .unb, .unb, .unb, .unb, .unb, .unb, .unb, .unb, .unb, .unb] hp (retQ Q) X := by
  have hp0 := primes11_pos hp1
  have hpp : 0 < p := Nat.lt_of_lt_of_le (by decide) hp0.1
  have hrp : r < p := rlt hpp hr
  refine ⟨(fun t => nomatch t), fun _ => ?_⟩
  have hrow := row_ok hp1 hrp
  unfold rowOk at hrow
  cases hv : legV r p with
  | none => rw [hv] at hrow; cases hrow
  | some v =>
  rw [hv] at hrow
  replace hrow : (if r = 0 then decide (v = 0) else if v = 1 then decide (0 < rootV p r ∧ rootV p r < p ∧ rootV p r * rootV p r % p = r) else decide (v = -1) && (List.range p).all fun y => !(decide (y * y % p = r))) = true := hrow
  refine call_legendre (leg_exec hpp (by rw [hr]; exact hv) ?_)
  by_cases h0 : r = 0
  · rw [if_pos h0] at hrow
    have hv0 : v = 0 := of_decide_eq_true hrow
    subst hv0
    exact ⟨(fun t => nomatch t), fun _ => ⟨fun _ => hQ _ 0 .refl (.inl ⟨h0, rfl⟩), (fun t => nomatch t)⟩⟩
  rw [if_neg h0] at hrow
  by_cases hv1 : v = 1
  · rw [if_pos hv1] at hrow
    subst hv1
    have hx := of_decide_eq_true hrow
    have fin : ∀ h', Upto [] hp h' → Q (.int (rootV p r : Nat)) h' := fun h' u => hQ h' _ u (.inr ⟨h0, hx⟩)
    refine ⟨fun _ => ⟨trivial, ?_⟩, (fun t => nomatch t)⟩
    show exec (gg w mean mg mb) (d + 1) _ [.int n, .int p, .int 1, .unb, .unb, .unb, .unb, .int 1, .int (Builtin.bitAnd (p : Int) 7), .unb, .unb, .unb, .unb, .unb, .unb, .unb] hp _ X
    rw [show Builtin.bitAnd (p : Int) 7 = ((p % 8 : Nat) : Int) by rw [bitAnd_m3]; rfl]
    refine ⟨fun t => ?_, fun t => ?_⟩
    · have t : ((p % 8 : Nat) : Int) ≠ 1 := cne_t.mp t
      exact rootA_exec hp0 hr (fun q => t (congrArg Int.ofNat q)) (odd8 hp0.2.2 fun q => t (congrArg Int.ofNat q)) fun _ _ => fin _ .refl
    · have t : ((p % 8 : Nat) : Int) = 1 := cne_f.mp t
      have ht : p % 8 = 1 := Int.ofNat.inj t
      have : primes11.all (fun p => decide (p % 8 = 1 → p = 17 ∨ p = 41)) = true := by decide
      have h2 := of_decide_eq_true (List.all_eq_true.mp this p hp1) ht
      rcases h2 with rfl | rfl
      · exact rootB_exec (s := 4) (t := 1) (by decide) hr (by decide) (by decide) (by decide +kernel) (by decide +kernel) (by decide) (by decide) (by decide) rfl fun _ _ _ _ _ _ _ _ h' u => fin h' u
      · exact rootB_exec (s := 3) (t := 5) (by decide) hr (by decide) (by decide) (by decide +kernel) (by decide +kernel) (by decide) (by decide) (by decide) rfl fun _ _ _ _ _ _ _ _ h' u => fin h' u
  · rw [if_neg hv1] at hrow
    simp only [Bool.and_eq_true, decide_eq_true_eq] at hrow
    obtain ⟨hv1, hall⟩ := hrow
    subst hv1
    refine ⟨(fun t => nomatch t), fun _ => ⟨(fun t => nomatch t), fun _ => (hX h0 fun y hy => ?_).elim⟩⟩
    have := List.all_eq_true.mp hall y (List.mem_range.mpr hy)
    simpa using this
structure RootE (p e : Nat) (n : Int) (x : Nat) : Prop where
  pos : 0 < x
  lt : x < p ^ e
  dvd : ((p ^ e : Nat) : Int) ∣ n - (x : Int) * x
theorem root1_dvd {p r x : Nat} {n : Int} (hpp : 0 < p) (hr : (n % p).toNat = r) (h : x * x % p = r) : (p : Int) ∣ n - (x : Int) * x := by
  have h1 : n % (p : Int) = r := by have := Int.emod_nonneg n (b := (p : Int)) (by (first | lia | omega)); (first | lia | omega)
  have h2 : ((x : Int) * x) % (p : Int) = r := by rw [← h]; push_cast; rfl
  exact Int.dvd_of_emod_eq_zero (Int.emod_eq_emod_iff_emod_sub_eq_zero.mp (h1.trans h2.symm))
theorem mod_exec {w mean mg mb} {d : Nat} {hp : HP} {p e : Nat} {n : Int} (hp1 : p ∈ primes11) (he : 1 ≤ e) (hs : p ^ e ≤ 20000) (hr0 : (n % p).toNat ≠ 0) (hy : ∃ y, y < p ∧ y * y % p = (n % p).toNat) {Q : V → HP → Prop} {X : XT}
    (hQ : ∀ h' (x : Nat), Upto [] hp h' → RootE p e n x → Q (.int x) h') :
    exec (gg w mean mg mb) (d + 3) m_modsqrt [.int n, .int p, .int e, .unb, .unb, .unb, .unb, .unb, .unb, .unb, .unb, .unb, .unb, .unb, .unb, .unb] hp (retQ Q) X := by
  have hp0 := primes11_pos hp1
  have hpp : 0 < p := Nat.lt_of_lt_of_le (by decide) hp0.1
  by_cases he1 : e = 1
  · subst he1
    refine mod1_exec hp1 rfl (fun h' x u hx => ?_) fun hr hy' => absurd hy fun ⟨y, h1, h2⟩ => hy' y h1 h2
    rcases hx with ⟨hr, rfl⟩ | ⟨hr, hx0, hxp, hxx⟩
    · exact absurd hr hr0
    · exact hQ _ _ u ⟨hx0, by rw [Nat.pow_one]; exact hxp, by rw [Nat.pow_one]; exact root1_dvd hpp rfl hxx⟩
  have he2 : 2 ≤ e := by (first | lia | omega)
  refine ⟨fun _ => ?_, fun t => absurd (clt_f.mp t) (by (first | lia | omega))⟩
  refine call_modsqrt2 (mod1_exec hp1 rfl (fun h1 x u1 hx => ?_) fun hr hy' => absurd hy fun ⟨y, h1, h2⟩ => hy' y h1 h2)
  rcases hx with ⟨hr, rfl⟩ | ⟨hr, hx0, hxp, hxx⟩
  · exact absurd hr hr0
  refine ⟨fun t => absurd (ceq_t.mp t) (by (first | lia | omega)), fun _ => ?_⟩
  have e2 : intOp (x : Int) 1 .shl = ((x * 2 : Nat) : Int) := by show (x : Int) * 2 ^ (1 : Int).toNat = _; push_cast; rfl
  refine ⟨⟨(show (0 : Int) ≤ 1 by decide), ?_⟩, ?_⟩
  · have hb : Bd 20 (x : Int) := by unfold Bd; (first | lia | omega)
    have := hb.bits
    show (Builtin.Int.intBits (x : Int) : Int) + 1 ≤ 2 ^ 27
    (first | lia | omega)
  show Calls (gg w mean mg mb) (d + 3) 78 [.int (intOp (x : Int) 1 .shl), .int p] [] h1 _ _
  rw [e2]
  have hcop : Nat.gcd p ((((x * 2 : Nat) : Int) % (p : Nat)).toNat) = 1 := by
    rw [← Int.natCast_emod, Int.toNat_natCast, Nat.gcd_comm, ← Nat.gcd_rec]
    have hnd : ¬ p ∣ x * 2 := fun q => by
      have h2 : Nat.Coprime p 2 := cop11 hp1 fun q => by have := Nat.le_of_dvd (by decide) q; (first | lia | omega)
      have := Nat.le_of_dvd hx0 (h2.dvd_of_dvd_mul_right q)
      (first | lia | omega)
    first | exact cop11 hp1 hnd | exact (cop11 hp1 hnd).symm
  refine call_inverse (inv_exec (K := 60) hpp (by (first | lia | omega)) (by decide) hcop fun z h2 u2 hzd hzb => ?_)
  have hzd : (p : Int) ∣ 2 * x * z - 1 := by
    have e9 : ((x * 2 : Nat) : Int) * z = 2 * x * z := by push_cast; rw [Int.mul_comm (x : Int)]
    rwa [e9] at hzd
  have u := u1.trans u2
  refine ⟨trivial, (show (1 : Int) ≠ 0 by decide), small_one (by decide) (by decide) ?_ ?_, ?_⟩
  · have := (Nat.lt_pow_self (n := e) (show 1 < p by (first | lia | omega))); show -2 ^ 62 ≤ (e : Int) - 1; (first | lia | omega)
  · have := (Nat.lt_pow_self (n := e) (show 1 < p by (first | lia | omega))); show (e : Int) - 1 < 2 ^ 62; (first | lia | omega)
  refine forUp (l := [.int n, .int p, .int e, .int x, .int p, .int z, .unb, .unb, .unb, .unb, .unb, .unb, .unb, .unb, .unb, .unb]) (e - 1) (by show e - 1 = ((e : Int) - 1 - 0).toNat; (first | lia | omega))
    (fun k l h => ∃ (y : Nat) (x6 : V), l = [.int n, .int p, .int e, .int y, .int (p ^ (k + 1) : Nat), .int z, x6, .unb, .unb, .unb, .unb, .unb, .unb, .unb, .unb, .unb] ∧ h = h2 ∧ y % p = x ∧ RootE p (k + 1) n y)
    ⟨x, .unb, by rw [Nat.pow_one], rfl, Nat.mod_eq_of_lt hxp, ⟨hx0, by rw [Nat.pow_one]; exact hxp, by rw [Nat.pow_one]; exact root1_dvd hpp rfl hxx⟩⟩ ?_ ?_
  · intro k l h hk qz110
    refine Gen fun Gq9 back => ?_
    rcases qz110 with ⟨y, x6, hz111, hz112, hyx, hy⟩
    refine back ?_
    clear back
    clear Gq9
    subst hz111
    subst hz112
    have hq : p ^ (k + 1) * p < 2 ^ 60 := by
      rw [← Nat.pow_succ]
      exact Nat.lt_of_le_of_lt (Nat.le_trans (Nat.pow_le_pow_right hpp (by (first | lia | omega))) hs) (by decide)
    have hq0 : 0 < p ^ (k + 1) := Nat.pow_pos hpp
    obtain ⟨y0, ylt, yd⟩ := hy
    have hqp : p ∣ p ^ (k + 1) := ⟨p ^ k, by rw [Nat.pow_succ, Nat.mul_comm]⟩
    have eq1 : p ^ (k + 1 + 1) = p ^ (k + 1) * p := Nat.pow_succ ..
    rw [eq1]
    have hq1 : p ^ (k + 1) < 2 ^ 60 := Nat.lt_of_le_of_lt (Nat.le_mul_of_pos_right _ hpp) hq
    generalize p ^ (k + 1) = q at *
    have hz2 : (p : Int) ∣ 2 * (y : Int) * z - 1 := by
      have e3 : (y : Int) = p * ((y / p : Nat) : Int) + x := by
        have := Nat.div_add_mod y p
        rw [hyx] at this
        rw [← Int.natCast_mul, ← Int.natCast_add, this]
      rw [e3, show 2 * ((p : Int) * ((y / p : Nat) : Int) + x) * z - 1 = p * (2 * ((y / p : Nat) : Int) * z) + (2 * x * z - 1) by
        rw [Int.mul_add, Int.add_mul, show 2 * ((p : Int) * ((y / p : Nat) : Int)) * z = p * (2 * ((y / p : Nat) : Int) * z) by ac_rfl]; (first | lia | omega)]
      exact Int.dvd_add ⟨_, rfl⟩ hzd
    have hl := lift (Int.natCast_dvd_natCast.mpr hqp) yd hz2
    have ey : intOp (y : Int) 2 .pow = (y : Int) * y := by
      show (y : Int) ^ 2 = _
      rw [show (2 : Nat) = 1 + 1 from rfl, Int.pow_succ, show (1 : Nat) = 0 + 1 from rfl, Int.pow_succ, Int.pow_zero, Int.one_mul]
    refine ⟨⟨(show (0 : Int) ≤ 2 by decide), ?_⟩, trivial, ?_⟩
    · have hb : Bd 60 (y : Int) := by unfold Bd; (first | lia | omega)
      have := hb.bits
      show (Builtin.Int.intBits (y : Int) : Int) * 2 ≤ 2 ^ 27
      (first | lia | omega)
    have t0 := Int.emod_nonneg ((n - (y : Int) * y) / q * z) (b := (p : Int)) (ne0 hpp)
    have t1 := Int.emod_lt_of_pos ((n - (y : Int) * y) / q * z) (b := (p : Int)) (pos0 hpp)
    obtain ⟨t, ht⟩ := Int.eq_ofNat_of_zero_le t0
    rw [ht] at hl t1
    have et : ((n - intOp (y : Int) 2 .pow).fdiv q * z).fmod p = (t : Int) := by
      rw [ey, Int.fdiv_eq_ediv_of_nonneg _ (Int.natCast_nonneg _), Int.fmod_eq_emod_of_nonneg _ (Int.natCast_nonneg _), ht]
    refine ⟨ne0 hq0, mul_small_right (show z.natAbs < 2 ^ 64 by (first | lia | omega)), (ne0 hpp), mul_small_right (show ((q : Nat) : Int).natAbs < 2 ^ 64 by (first | lia | omega)), trivial, mul_small_right (show ((p : Nat) : Int).natAbs < 2 ^ 64 by (first | lia | omega)), y + t * q, .int (0 + k), ?_, rfl, ?_, ?_, ?_, ?_⟩
    · show [V.int n, .int p, .int e, .int ((y : Int) + ((n - intOp (y : Int) 2 .pow).fdiv q * z).fmod p * q), .int ((q : Int) * p), .int z, .int (0 + k), .unb, .unb, .unb, .unb, .unb, .unb, .unb, .unb, .unb] = _
      rw [et]; push_cast; rfl
    · obtain ⟨v, rfl⟩ := hqp
      rw [show y + t * (p * v) = y + p * (t * v) by rw [Nat.mul_left_comm], Nat.add_mul_mod_self_left]; exact hyx
    · (first | lia | omega)
    · rw [eq1]
      have : (t + 1) * q ≤ p * q := Nat.mul_le_mul_right _ (by (first | lia | omega))
      rw [Nat.add_mul, Nat.mul_comm p q] at this
      (first | lia | omega)
    · rw [eq1]
      push_cast at hl ⊢
      exact hl
  · intro l h qz113
    refine Gen fun Gq9 back => ?_
    rcases qz113 with ⟨y, x6, hz114, hz115, hyx, hy⟩
    refine back ?_
    clear back
    clear Gq9
    subst hz114
    subst hz115
    rw [show e - 1 + 1 = e by (first | lia | omega)] at hy
    exact hQ _ y u hy
theorem absI (a : Int) : (if a < 0 then -a else a) = (a.natAbs : Int) := by split <;> (first | lia | omega)
theorem bit_exec {w mean mg mb} {d : Nat} {hp : HP} {x : Nat} {Q : V → HP → Prop} {X : XT} (hQ : Q (.int (bn x : Nat)) hp) : exec (gg w mean mg mb) d m_bit_num [.int x] hp (retQ Q) X := by
  refine ⟨fun t => ?_, fun t => ?_⟩
  · have h : (x : Int) = 0 := ceq_t.mp t
    have : bn x = 1 := by unfold bn; rw [if_pos (by (first | lia | omega))]
    rw [this] at hQ; exact hQ
  · have h : (x : Int) ≠ 0 := ceq_f.mp t
    have : bn x = Builtin.Int.intBits (x : Int) := by unfold bn; rw [if_neg (by (first | lia | omega))]
    rw [this] at hQ; exact hQ
theorem shrM {a : Nat} {k : Int} {s : Nat} (h : k = s) : intOp (a : Int) k .shr = ((a / 2 ^ s : Nat) : Int) := by rw [h]; exact shrN a s
theorem ap_exec {w mean mg mb} {d : Nat} {hp : HP} {a b c e : Int} {Q : V → HP → Prop} {X : XT}
    (hQ : ∀ (na nb : Int) h' T, Upto [] hp h' → h' T = some (.tup [.int na, .int nb]) → (¬ na < nb → gN c e ≤ 2 * gN a b) → (na < nb → gN a b ≤ 2 * gN c e) → Q (.ref T) h') :
    exec (gg w mean mg mb) (d + 1) m_ap_norm_i [.int a, .int b, .int c, .int e, .unb, .unb] hp (retQ Q) X := by
  have main : ∀ (na nb : Nat) h' T, Upto [] hp h' → h' T = some (.tup [.int na, .int nb]) → (nb ≤ na → c.natAbs * c.natAbs + e.natAbs * e.natAbs ≤ 2 * (a.natAbs * a.natAbs + b.natAbs * b.natAbs)) → (na < nb → a.natAbs * a.natAbs + b.natAbs * b.natAbs ≤ 2 * (c.natAbs * c.natAbs + e.natAbs * e.natAbs)) → Q (.ref T) h' :=
    fun na nb h' T u hT g1 g2 => hQ na nb h' T u hT (fun q => by rw [gN_abs, gN_abs]; have := g1 (by (first | lia | omega)); (first | lia | omega)) (fun q => by rw [gN_abs, gN_abs]; have := g2 (by (first | lia | omega)); (first | lia | omega))
  clear hQ
  show exec (gg w mean mg mb) (d + 1) (dropS 1 m_ap_norm_i) [.int (if a < 0 then -a else a), .int (if b < 0 then -b else b), .int (if c < 0 then -c else c), .int (if e < 0 then -e else e), .unb, .unb] hp (retQ Q) X
  rw [absI, absI, absI, absI]
  generalize a.natAbs = a at *
  generalize b.natAbs = b at *
  generalize c.natAbs = c at *
  generalize e.natAbs = e at *
  refine call_bit_num (bit_exec ?_)
  refine call_bit_num (bit_exec ?_)
  refine call_bit_num (bit_exec ?_)
  refine call_bit_num (bit_exec ?_)
  intro M hM1 hM2
  simp only [List.mem_cons, List.not_mem_nil, or_false] at hM1
  have m1 := hM2 _ (.head _)
  have m2 := hM2 _ (.tail _ (.head _))
  have m3 := hM2 _ (.tail _ (.tail _ (.head _)))
  have m4 := hM2 _ (.tail _ (.tail _ (.tail _ (.head _))))
  clear hM2
  have la : ∀ {x k : Nat}, bn x ≤ k → x < 2 ^ k := fun {x k} h => Nat.lt_of_lt_of_le (bn_lt x) (Nat.pow_le_pow_right (by decide) h)
  show exec (gg w mean mg mb) (d + 1) (dropS 2 m_ap_norm_i) [.int a, .int b, .int c, .int e, .int M, .unb] hp (retQ Q) X
  refine ⟨fun t => ?_, fun t => ?_⟩
  · have t : 6 < M := cgt_t.mp t
    obtain ⟨s, hs⟩ : ∃ s : Nat, M = s + 6 := ⟨(M - 6).toNat, by (first | lia | omega)⟩
    have hs1 : 1 ≤ s := by (first | lia | omega)
    have e0 : M - 6 = (s : Int) := by (first | lia | omega)
    have h64 : ∀ {x : Nat}, (bn x : Int) ≤ M → x < 64 * 2 ^ s := fun {x} h => by
      have := la (x := x) (k := s + 6) (by (first | lia | omega))
      rwa [Nat.pow_add, show 2 ^ 6 = 64 from rfl, Nat.mul_comm] at this
    have h32 : ∀ {x : Nat}, M = (bn x : Int) → 32 * 2 ^ s ≤ x := fun {x} h => by
      obtain ⟨s', rfl⟩ : ∃ s', s = s' + 1 := ⟨s - 1, by (first | lia | omega)⟩
      have := bn_ge (x := x) (s := s') (by (first | lia | omega))
      rwa [show s' + 6 = (s' + 1) + 5 by (first | lia | omega), Nat.pow_add, show 2 ^ 5 = 32 from rfl, Nat.mul_comm] at this
    have hm : 0 < 2 ^ s := Nat.pow_pos (by decide)
    have hbig := near_big (a := a) (b := b) (c := c) (d := e) hm (by rcases hM1 with q | q | q | q; exact .inl (h32 q); exact .inr (.inl (h32 q)); exact .inr (.inr (.inl (h32 q))); exact .inr (.inr (.inr (h32 q))))
    have ha := h64 m1
    have hb := h64 m2
    have hc := h64 m3
    have he := h64 m4
    have n1 := fun z q => near1 (a := a) (b := b) (c := c) (d := e) hm hc he z q
    have n2 := fun z q => near1 (a := c) (b := e) (c := a) (d := b) hm ha hb z q
    have dv : ∀ {x : Nat}, x < 64 * 2 ^ s → x / 2 ^ s < 64 := fun {x} h => Nat.div_lt_of_lt_mul (by rw [Nat.mul_comm]; exact h)
    have ha := dv ha
    have hb := dv hb
    have hc := dv hc
    have he := dv he
    have j0 : (0 : Int) ≤ M - 6 := by (first | lia | omega)
    refine ⟨trivial, j0, j0, j0, j0, ?_⟩
    show exec (gg w mean mg mb) (d + 1) (.seq (.ret (.tup (.cons (.bin .add (.bin .mul (.var 0) (.var 0)) (.bin .mul (.var 1) (.var 1))) (.cons (.bin .add (.bin .mul (.var 2) (.var 2)) (.bin .mul (.var 3) (.var 3))) .nil)))) .skip) [.int (intOp (a : Int) (M - 6) .shr), .int (intOp (b : Int) (M - 6) .shr), .int (intOp (c : Int) (M - 6) .shr), .int (intOp (e : Int) (M - 6) .shr), .int M, .int (M - 6)] hp (retQ Q) X
    rw [shrM e0, shrM e0, shrM e0, shrM e0]
    generalize a / 2 ^ s = a' at *
    generalize b / 2 ^ s = b' at *
    generalize c / 2 ^ s = c' at *
    generalize e / 2 ^ s = e' at *
    refine ⟨mul_small_left (by (first | lia | omega)), mul_small_left (by (first | lia | omega)), trivial, mul_small_left (by (first | lia | omega)), mul_small_left (by (first | lia | omega)), trivial, by simp [sizeLine_eq], fun T nT => ?_⟩
    refine main (a' * a' + b' * b') (c' * c' + e' * e') _ T (.new nT) (by rw [hset_same]; push_cast; rfl) (fun q => n1 (by (first | lia | omega)) q) fun q => n2 (by (first | lia | omega)) (by (first | lia | omega))
  · have t : M ≤ 6 := cgt_f.mp t
    have l6 : ∀ {x : Nat}, (bn x : Int) ≤ M → x < 64 := fun {x} h => la (x := x) (k := 6) (by (first | lia | omega))
    have ha := l6 m1
    have hb := l6 m2
    have hc := l6 m3
    have he := l6 m4
    refine ⟨mul_small_left (by (first | lia | omega)), mul_small_left (by (first | lia | omega)), trivial, mul_small_left (by (first | lia | omega)), mul_small_left (by (first | lia | omega)), trivial, by simp [sizeLine_eq], fun T nT => ?_⟩
    refine main (a * a + b * b) (c * c + e * e) _ T (.new nT) (by rw [hset_same]; push_cast; rfl) (fun q => by (first | lia | omega)) fun q => by (first | lia | omega)
theorem form_exec {w mean mg mb} {d : Nat} {hp : HP} {a b : Int} (ho : (a - b) % 2 = 1) {Q : V → HP → Prop} {X : XT}
    (hQ : ∀ c1 c2 h' T, Upto [] hp h' → h' T = some (.tup [.int c1, .int c2]) → Un a b c1 c2 → Adj c1 c2 → Q (.ref T) h') :
    exec (gg w mean mg mb) d m_FormAdj_i [.int a, .int b] hp (retQ Q) X := by
  have rest : ∀ x y : Int, x % 2 = 1 → y % 2 = 0 → (∀ c1 c2, (c1 = x ∧ c2 = y ∨ c1 = -x ∧ c2 = -y) → Un a b c1 c2) → exec (gg w mean mg mb) d (dropS 1 m_FormAdj_i) [.int x, .int y] hp (retQ Q) X := fun x y hx hy hu => by
    refine ⟨trivial, trivial, trivial, fun t => ?_, fun t => ?_⟩
    · have t : Builtin.bitAnd (y - x + 1) 3 = 0 := ceq_t.mp t
      rw [bitAnd_m2] at t
      exact ⟨by simp [sizeLine_eq], fun T nT => hQ x y _ T (.new nT) hset_same (hu _ _ (.inl ⟨rfl, rfl⟩)) ⟨hx, hy, t⟩⟩
    · have t : Builtin.bitAnd (y - x + 1) 3 ≠ 0 := ceq_f.mp t
      rw [bitAnd_m2] at t
      exact ⟨by simp [sizeLine_eq], fun T nT => hQ (-x) (-y) _ T (.new nT) hset_same (hu _ _ (.inr ⟨rfl, rfl⟩)) ⟨by (first | lia | omega), by (first | lia | omega), by (first | lia | omega)⟩⟩
  refine ⟨trivial, fun t => ?_, fun t => ?_⟩
  · have t : Builtin.bitAnd a 1 = 0 := ceq_t.mp t
    rw [bitAnd_m1] at t
    exact rest (-b) a (by (first | lia | omega)) t fun c1 c2 h => by
      rcases h with ⟨rfl, rfl⟩ | ⟨rfl, rfl⟩
      · exact .inr (.inl ⟨rfl, rfl⟩)
      · exact .inr (.inr (.inr ⟨by (first | lia | omega), rfl⟩))
  · have t : Builtin.bitAnd a 1 ≠ 0 := ceq_f.mp t
    rw [bitAnd_m1] at t
    exact rest a b (by (first | lia | omega)) (by (first | lia | omega)) fun c1 c2 h => by
      rcases h with ⟨rfl, rfl⟩ | ⟨rfl, rfl⟩
      · exact .inl ⟨rfl, rfl⟩
      · exact .inr (.inr (.inl ⟨rfl, rfl⟩))
theorem shr1 (x : Int) : intOp x 1 .shr = x / 2 := by
  show x.fdiv (2 ^ (1 : Int).toNat) = _
  rw [show (2 : Int) ^ (1 : Int).toNat = 2 from rfl, Int.fdiv_eq_ediv_of_nonneg _ (by decide)]
theorem half_step {t : Nat} {a1 a2 c1 c2 : Int} (hp : Pw t a1 a2 c1 c2) (h0 : c1 ≠ 0 ∨ c2 ≠ 0) (he : (c1 - c2) % 2 = 0) :
    Pw (t + 1) a1 a2 ((c1 + c2) / 2) ((c2 - c1) / 2) ∧ ((c1 + c2) / 2 ≠ 0 ∨ (c2 - c1) / 2 ≠ 0) ∧ gN ((c1 + c2) / 2) ((c2 - c1) / 2) < gN c1 c2 := by
  have e1 : c1 = (c1 + c2) / 2 - (c2 - c1) / 2 := by (first | lia | omega)
  have e2 : c2 = (c1 + c2) / 2 + (c2 - c1) / 2 := by (first | lia | omega)
  generalize (c1 + c2) / 2 = u at *
  generalize (c2 - c1) / 2 = v at *
  have h1 : u ≠ 0 ∨ v ≠ 0 := by (first | lia | omega)
  refine ⟨Pw.snoc (by rw [← e1, ← e2]; exact hp), h1, ?_⟩
  rw [e1, e2, gN_step]
  have := gN_pos h1
  (first | lia | omega)
theorem lt_of_gN {k : Nat} {x y u v : Int} (h : (k : Int) = gN x y) (h2 : gN u v < gN x y) : (gN u v).toNat < k ∧ (((gN u v).toNat : Nat) : Int) = gN u v := by
  have := gN_nonneg u v
  (first | lia | omega)
theorem odd1_exec {w mean mg mb} {d : Nat} {hp : HP} {a1 a2 : Int} {b1 b2 x5 x6 x7 x8 x9 x10 : V} (h0 : a1 ≠ 0 ∨ a2 ≠ 0) {Q : Out → List V → HP → Prop} (hQ : ∀ (t : Nat) c1 c2, Pw t a1 a2 c1 c2 → (c1 - c2) % 2 = 1 → Q .next [.int c1, .int c2, b1, b2, .int t, x5, x6, x7, x8, x9, x10] hp) :
    whileI (fun l h R => evT (gg w mean mg mb) d (.cmp .eq (.bin .band (.bin .sub (.var 0) (.var 1)) (.int 1)) (.int 0)) l h R noX)
      (fun l h R => exec (gg w mean mg mb) d (.seq (.asgN [0, 1] (.cons (.bin .shr (.bin .add (.var 0) (.var 1)) (.int 1)) (.cons (.bin .shr (.bin .sub (.var 1) (.var 0)) (.int 1)) .nil))) (.seq (.aug 4 .add (.int 1)) .skip)) l h R noX)
      (fun l h R => exec (gg w mean mg mb) d .skip l h R noX) [.int a1, .int a2, b1, b2, .int 0, x5, x6, x7, x8, x9, x10] hp Q := by
  refine ⟨fun k l h => ∃ (t : Nat) (c1 c2 : Int), l = [.int c1, .int c2, b1, b2, .int t, x5, x6, x7, x8, x9, x10] ∧ h = hp ∧ Pw t a1 a2 c1 c2 ∧ (c1 ≠ 0 ∨ c2 ≠ 0) ∧ (k : Int) = gN c1 c2, ⟨(gN a1 a2).toNat, 0, a1, a2, rfl, rfl, ⟨rfl, rfl⟩, h0, Int.toNat_of_nonneg (gN_nonneg _ _)⟩, ?_⟩
  intro k l h qz116
  refine Gen fun Gq9 back => ?_
  rcases qz116 with ⟨t, c1, c2, hz117, hz118, hp, hc, hk⟩
  refine back ?_
  clear back
  clear Gq9
  subst hz117
  subst hz118
  refine ⟨trivial, trivial, fun q => ?_, fun q => ?_⟩
  · have q : Builtin.bitAnd (c1 - c2) 1 = 0 := ceq_t.mp q
    rw [bitAnd_m1] at q
    obtain ⟨g1, g2, g3⟩ := half_step hp hc q
    obtain ⟨g4, g5⟩ := lt_of_gN hk g3
    refine ⟨trivial, (show (0 : Int) ≤ 1 by decide), trivial, (show (0 : Int) ≤ 1 by decide), trivial, _, g4, t + 1, _, _, ?_, rfl, g1, g2, g5⟩
    rw [← shr1, ← shr1]; rfl
  · have q : Builtin.bitAnd (c1 - c2) 1 ≠ 0 := ceq_f.mp q
    rw [bitAnd_m1] at q
    exact hQ t c1 c2 hp (by (first | lia | omega))
theorem odd2_exec {w mean mg mb} {d : Nat} {hp : HP} {a1 a2 : Int} {b1 b2 x4 x6 x7 x8 x9 x10 : V} (h0 : a1 ≠ 0 ∨ a2 ≠ 0) {Q : Out → List V → HP → Prop} (hQ : ∀ (t : Nat) c1 c2, Pw t a1 a2 c1 c2 → (c1 - c2) % 2 = 1 → Q .next [b1, b2, .int c1, .int c2, x4, .int t, x6, x7, x8, x9, x10] hp) :
    whileI (fun l h R => evT (gg w mean mg mb) d (.cmp .eq (.bin .band (.bin .sub (.var 2) (.var 3)) (.int 1)) (.int 0)) l h R noX)
      (fun l h R => exec (gg w mean mg mb) d (.seq (.asgN [2, 3] (.cons (.bin .shr (.bin .add (.var 2) (.var 3)) (.int 1)) (.cons (.bin .shr (.bin .sub (.var 3) (.var 2)) (.int 1)) .nil))) (.seq (.aug 5 .add (.int 1)) .skip)) l h R noX)
      (fun l h R => exec (gg w mean mg mb) d .skip l h R noX) [b1, b2, .int a1, .int a2, x4, .int 0, x6, x7, x8, x9, x10] hp Q := by
  refine ⟨fun k l h => ∃ (t : Nat) (c1 c2 : Int), l = [b1, b2, .int c1, .int c2, x4, .int t, x6, x7, x8, x9, x10] ∧ h = hp ∧ Pw t a1 a2 c1 c2 ∧ (c1 ≠ 0 ∨ c2 ≠ 0) ∧ (k : Int) = gN c1 c2, ⟨(gN a1 a2).toNat, 0, a1, a2, rfl, rfl, ⟨rfl, rfl⟩, h0, Int.toNat_of_nonneg (gN_nonneg _ _)⟩, ?_⟩
  intro k l h qz119
  refine Gen fun Gq9 back => ?_
  rcases qz119 with ⟨t, c1, c2, hz120, hz121, hp, hc, hk⟩
  refine back ?_
  clear back
  clear Gq9
  subst hz120
  subst hz121
  refine ⟨trivial, trivial, fun q => ?_, fun q => ?_⟩
  · have q : Builtin.bitAnd (c1 - c2) 1 = 0 := ceq_t.mp q
    rw [bitAnd_m1] at q
    obtain ⟨g1, g2, g3⟩ := half_step hp hc q
    obtain ⟨g4, g5⟩ := lt_of_gN hk g3
    refine ⟨trivial, (show (0 : Int) ≤ 1 by decide), trivial, (show (0 : Int) ≤ 1 by decide), trivial, _, g4, t + 1, _, _, ?_, rfl, g1, g2, g5⟩
    rw [← shr1, ← shr1]; rfl
  · have q : Builtin.bitAnd (c1 - c2) 1 ≠ 0 := ceq_f.mp q
    rw [bitAnd_m1] at q
    exact hQ t c1 c2 hp (by (first | lia | omega))
theorem odd3_exec {w mean mg mb} {d : Nat} {hp : HP} {a1 a2 : Int} {b1 b2 x4 x5 x6 x7 x8 x9 x10 : V} (h0 : a1 ≠ 0 ∨ a2 ≠ 0) {Q : Out → List V → HP → Prop} (hQ : ∀ (t : Nat) c1 c2, Pw t a1 a2 c1 c2 → (c1 - c2) % 2 = 1 → Q .next [.int c1, .int c2, b1, b2, x4, x5, x6, x7, x8, x9, x10] hp) :
    whileI (fun l h R => evT (gg w mean mg mb) d (.cmp .eq (.bin .band (.bin .sub (.var 0) (.var 1)) (.int 1)) (.int 0)) l h R noX)
      (fun l h R => exec (gg w mean mg mb) d (.seq (.asgN [0, 1] (.cons (.bin .shr (.bin .add (.var 0) (.var 1)) (.int 1)) (.cons (.bin .shr (.bin .sub (.var 1) (.var 0)) (.int 1)) .nil))) .skip) l h R noX)
      (fun l h R => exec (gg w mean mg mb) d .skip l h R noX) [.int a1, .int a2, b1, b2, x4, x5, x6, x7, x8, x9, x10] hp Q := by
  refine ⟨fun k l h => ∃ (t : Nat) (c1 c2 : Int), l = [.int c1, .int c2, b1, b2, x4, x5, x6, x7, x8, x9, x10] ∧ h = hp ∧ Pw t a1 a2 c1 c2 ∧ (c1 ≠ 0 ∨ c2 ≠ 0) ∧ (k : Int) = gN c1 c2, ⟨(gN a1 a2).toNat, 0, a1, a2, rfl, rfl, ⟨rfl, rfl⟩, h0, Int.toNat_of_nonneg (gN_nonneg _ _)⟩, ?_⟩
  intro k l h qz122
  refine Gen fun Gq9 back => ?_
  rcases qz122 with ⟨t, c1, c2, hz123, hz124, hp, hc, hk⟩
  refine back ?_
  clear back
  clear Gq9
  subst hz123
  subst hz124
  refine ⟨trivial, trivial, fun q => ?_, fun q => ?_⟩
  · have q : Builtin.bitAnd (c1 - c2) 1 = 0 := ceq_t.mp q
    rw [bitAnd_m1] at q
    obtain ⟨g1, g2, g3⟩ := half_step hp hc q
    obtain ⟨g4, g5⟩ := lt_of_gN hk g3
    refine ⟨trivial, (show (0 : Int) ≤ 1 by decide), trivial, (show (0 : Int) ≤ 1 by decide), _, g4, t + 1, _, _, ?_, rfl, g1, g2, g5⟩
    rw [← shr1, ← shr1]; rfl
  · have q : Builtin.bitAnd (c1 - c2) 1 ≠ 0 := ceq_f.mp q
    rw [bitAnd_m1] at q
    exact hQ t c1 c2 hp (by (first | lia | omega))
structure GInv (m r A1 A2 B1 B2 a1 a2 b1 b2 : Int) : Prop where
  odd : (b1 - b2) % 2 = 1
  ia : In m r a1 a2
  ib : In m r b1 b2
  cd : ∀ g1 g2, gD g1 g2 a1 a2 → gD g1 g2 b1 b2 → gD g1 g2 A1 A2 ∧ gD g1 g2 B1 B2
theorem In.sub {m r a1 a2 b1 b2 : Int} (ha : In m r a1 a2) (hb : In m r b1 b2) : In m r (a1 - b1) (a2 - b2) := by
  obtain ⟨j, hj⟩ := ha
  obtain ⟨k, hk⟩ := hb
  exact ⟨j - k, by grind⟩
theorem gD.add {g1 g2 a1 a2 b1 b2 : Int} (ha : gD g1 g2 (a1 - b1) (a2 - b2)) (hb : gD g1 g2 b1 b2) : gD g1 g2 a1 a2 := by
  refine Gen fun Gq9 back => ?_
  rcases ha with ⟨h1, h2, e1, e2⟩
  refine back ?_
  clear back
  clear Gq9
  refine Gen fun Gq9 back => ?_
  rcases hb with ⟨k1, k2, f1, f2⟩
  refine back ?_
  clear back
  clear Gq9
  exact ⟨h1 + k1, h2 + k2, by grind, by grind⟩
theorem gD.self (a1 a2 : Int) : gD a1 a2 a1 a2 := ⟨1, 0, by grind, by grind⟩
theorem gD.zero (a1 a2 : Int) : gD a1 a2 0 0 := ⟨0, 0, by grind, by grind⟩
theorem Adj.odd {c1 c2 : Int} (h : Adj c1 c2) : (c1 - c2) % 2 = 1 := by have := h.1; have := h.2.1; (first | lia | omega)
theorem GInv.next {m r A1 A2 B1 B2 a1 a2 b1 b2 c1 c2 e1 e2 : Int} (hr : m ∣ r * r + 1) (G : GInv m r A1 A2 B1 B2 a1 a2 b1 b2) (uc : Un a1 a2 c1 c2) (ue : Un b1 b2 e1 e2) (he : Adj e1 e2) : GInv m r A1 A2 B1 B2 (c1 - e1) (c2 - e2) e1 e2 :=
  ⟨he.odd, (uc.inn hr G.ia).sub (ue.inn hr G.ib), ue.inn hr G.ib, fun g1 g2 h1 h2 => G.cd g1 g2 (uc.dvd (h1.add h2)) (ue.dvd h2)⟩
theorem GInv.swap {m r A1 A2 B1 B2 a1 a2 b1 b2 : Int} (G : GInv m r A1 A2 B1 B2 a1 a2 b1 b2) (ho : (a1 - a2) % 2 = 1) : GInv m r A1 A2 B1 B2 b1 b2 a1 a2 := ⟨ho, G.ib, G.ia, fun g1 g2 h1 h2 => G.cd g1 g2 h2 h1⟩
noncomputable def Left (k : Nat) (a1 a2 b1 b2 : Int) : Prop := ∀ t c1 c2, Pw t a1 a2 c1 c2 → (c1 - c2) % 2 = 1 → gN c1 c2 + gN b1 b2 ≤ k
theorem Left.next {k : Nat} {a1 a2 b1 b2 c1 c2 e1 e2 : Int} (hk : gN a1 a2 + gN b1 b2 ≤ k) (uc : Un a1 a2 c1 c2) (ue : Un b1 b2 e1 e2) (hc : Adj c1 c2) (he : Adj e1 e2) (hn : gN b1 b2 ≤ 2 * gN a1 a2) : 0 < k ∧ Left (k - 1) (c1 - e1) (c2 - e2) e1 e2 := by
  have h1 := uc.norm
  have h2 := ue.norm
  have h3 := gN_pos (a := c1) (b := c2) (.inl (by have := hc.1; (first | lia | omega)))
  have h4 := gN_nonneg b1 b2
  refine ⟨by (first | lia | omega), fun t d1 d2 hp hd => ?_⟩
  have := less_norm hc he (by (first | lia | omega)) hp hd
  (first | lia | omega)
noncomputable def seq1 : MS → MS
  | .seq a _ => a
  | m => m
noncomputable def loopW : MS → MS
  | .whil _ b _ => b
  | m => m
theorem gtail_exec {w mean mg mb} {d : Nat} {h1 : HP} {m r A1 A2 B1 B2 p1 p2 q1 q2 : Int} {k : Nat} {x4 x5 x6 x7 x8 : V} (hr : m ∣ r * r + 1) (G : GInv m r A1 A2 B1 B2 p1 p2 q1 q2) (ho : (p1 - p2) % 2 = 1) (hn : gN q1 q2 ≤ 2 * gN p1 p2) (hk : gN p1 p2 + gN q1 q2 ≤ k) {Q : Out → List V → HP → Prop}
    (hQ : ∀ a1 a2 b1 b2 h', Upto [] h1 h' → GInv m r A1 A2 B1 B2 a1 a2 b1 b2 → 0 < k → Left (k - 1) a1 a2 b1 b2 → Q .next [.int a1, .int a2, .int b1, .int b2, x4, x5, x6, x7, x8, .unb, .unb] h') :
    exec (gg w mean mg mb) (d + 2) (dropS 3 (loopW (seq1 (dropS 5 m_arygcd_i)))) [.int p1, .int p2, .int q1, .int q2, x4, x5, x6, x7, x8, .unb, .unb] h1 Q noX := by
  refine call_FormAdj_i (form_exec ho fun c1 c2 h2 T u2 hT uc hc => ?_)
  refine ⟨[.int c1, .int c2], by rw [hT]; rfl, rfl, ?_⟩
  refine call_FormAdj_i (form_exec G.odd fun e1 e2 h3 T2 u3 hT2 ue he => ?_)
  refine ⟨[.int e1, .int e2], by rw [hT2]; rfl, rfl, ?_⟩
  obtain ⟨k1, k2⟩ := Left.next hk uc ue hc he hn
  exact ⟨trivial, trivial, hQ _ _ _ _ h3 (u2.trans u3) (G.next hr uc ue he) k1 k2⟩
theorem gloop_exec {w mean mg mb} {d : Nat} {hp : HP} {m r A1 A2 B1 B2 a1 a2 b1 b2 : Int} {x4 x5 x6 : V} (hm : m % 2 = 1) (hr : m ∣ r * r + 1) (G : GInv m r A1 A2 B1 B2 a1 a2 b1 b2) {Q : Out → List V → HP → Prop}
    (hQ : ∀ b1 b2 x7 x8 h', Upto [] hp h' → In m r b1 b2 → gD b1 b2 A1 A2 → gD b1 b2 B1 B2 → Q .next [.int 0, .int 0, .int b1, .int b2, x4, x5, x6, x7, x8, .unb, .unb] h') :
    exec (gg w mean mg mb) (d + 2) (seq1 (dropS 5 m_arygcd_i)) [.int a1, .int a2, .int b1, .int b2, x4, x5, x6, .unb, .unb, .unb, .unb] hp Q noX := by
  have first : Left (gN a1 a2 + gN b1 b2).toNat a1 a2 b1 b2 := fun t c1 c2 hp ho' => by
    have e1 := hp.norm
    have h1 := gN_nonneg a1 a2
    have h2 := gN_nonneg b1 b2
    have h3 := gN_nonneg c1 c2
    have h5 : (1 : Int) ≤ 2 ^ t := by have : (0 : Int) < 2 ^ t := Int.pow_pos (by decide); (first | lia | omega)
    have h7 : gN c1 c2 ≤ 2 ^ t * gN c1 c2 := by
      have := Int.mul_le_mul_of_nonneg_right h5 h3
      rwa [Int.one_mul] at this
    (first | lia | omega)
  refine ⟨fun k l h => ∃ (a1 a2 b1 b2 : Int) (x7 x8 : V), l = [.int a1, .int a2, .int b1, .int b2, x4, x5, x6, x7, x8, .unb, .unb] ∧ Upto [] hp h ∧ GInv m r A1 A2 B1 B2 a1 a2 b1 b2 ∧ Left k a1 a2 b1 b2, ⟨_, a1, a2, b1, b2, _, _, rfl, .refl, G, first⟩, ?_⟩
  clear G first
  intro k l h qz125
  refine Gen fun Gq9 back => ?_
  rcases qz125 with ⟨a1, a2, b1, b2, x7, x8, hz126, u, G, hL⟩
  refine back ?_
  clear back
  clear Gq9
  subst hz126
  have body : (a1 ≠ 0 ∨ a2 ≠ 0) → exec (gg w mean mg mb) (d + 2) (loopW (seq1 (dropS 5 m_arygcd_i))) [.int a1, .int a2, .int b1, .int b2, x4, x5, x6, x7, x8, .unb, .unb] h (fun o l2 h2 => match o with
      | .next => ∃ j, j < k ∧ ∃ (a1 a2 b1 b2 : Int) (x7 x8 : V), l2 = [.int a1, .int a2, .int b1, .int b2, x4, x5, x6, x7, x8, .unb, .unb] ∧ Upto [] hp h2 ∧ GInv m r A1 A2 B1 B2 a1 a2 b1 b2 ∧ Left j a1 a2 b1 b2 | .brk => Q .next l2 h2 | .ret v => Q (.ret v) l2 h2) noX := fun ha => by
    refine odd3_exec ha fun t c1 c2 hp' ho => ?_
    have hk := hL t c1 c2 hp' ho
    have Gc : GInv m r A1 A2 B1 B2 c1 c2 b1 b2 := ⟨G.odd, hp'.inn hm hr G.ia, G.ib, fun g1 g2 h1 h2 => G.cd g1 g2 (hp'.dvd h1) h2⟩
    refine call_ap_norm_i (ap_exec fun na nb h2 T u2 hT g1 g2 => ?_)
    refine ⟨[.int na, .int nb], by rw [hT]; rfl, rfl, ?_⟩
    have fin : ∀ a1 a2 b1 b2 h', Upto [] h2 h' → GInv m r A1 A2 B1 B2 a1 a2 b1 b2 → 0 < k → Left (k - 1) a1 a2 b1 b2 → ∃ j, j < k ∧ ∃ (a1' a2' b1' b2' : Int) (x7 x8 : V), [V.int a1, .int a2, .int b1, .int b2, x4, x5, x6, .int na, .int nb, .unb, .unb] = [.int a1', .int a2', .int b1', .int b2', x4, x5, x6, x7, x8, .unb, .unb] ∧ Upto [] hp h' ∧ GInv m r A1 A2 B1 B2 a1' a2' b1' b2' ∧ Left j a1' a2' b1' b2' :=
      fun a1 a2 b1 b2 h' u' G' hk0 hl => ⟨k - 1, by (first | lia | omega), a1, a2, b1, b2, _, _, rfl, (u.trans u2).trans u', G', hl⟩
    refine ⟨fun t => ?_, fun t => ?_⟩
    · have t : na < nb := clt_t.mp t
      exact gtail_exec hr (Gc.swap ho) G.odd (g2 t) (by (first | lia | omega)) fin
    · have t : nb ≤ na := clt_f.mp t
      exact gtail_exec hr Gc ho (g1 (by (first | lia | omega))) hk fin
  have stop : a1 = 0 → a2 = 0 → Q .next [.int a1, .int a2, .int b1, .int b2, x4, x5, x6, x7, x8, .unb, .unb] h := fun h1 h2 => by
    subst h1 h2
    have := G.cd b1 b2 (gD.zero _ _) (gD.self _ _)
    exact hQ b1 b2 x7 x8 h u G.ib this.1 this.2
  refine ⟨fun t1 => ⟨fun _ => body (.inl (cne_t.mp t1)), (fun q => nomatch q)⟩, fun t1 => ⟨fun t2 => body (.inr (cne_t.mp t2)), fun t2 => ?_⟩⟩
  exact stop (by have := cne_f.mp t1; (first | lia | omega)) (by have := cne_f.mp t2; (first | lia | omega))
theorem pw_odd {n : Int} (hn : n % 2 = 1) {t : Nat} {c1 c2 : Int} (h : Pw t n 0 c1 c2) : t = 0 ∧ c1 = n ∧ c2 = 0 := by
  cases t with
  | zero => exact ⟨rfl, h.1.symm, h.2.symm⟩
  | succ t => obtain ⟨u, v, e1, e2, _⟩ := h; (first | lia | omega)
theorem pw_even {m : Int} (hm : m % 2 = 1) {t : Nat} {c1 c2 : Int} (ho : (c1 - c2) % 2 = 1) (h : Pw t (2 * m) 0 c1 c2) : t = 2 ∧ c1 = 0 ∧ c2 = -m := by
  cases t with
  | zero => obtain ⟨e1, e2⟩ := h; (first | lia | omega)
  | succ t =>
    refine Gen fun Gq9 back => ?_
    rcases h with ⟨u, v, e1, e2, h⟩
    refine back ?_
    clear back
    clear Gq9
    cases t with
    | zero => obtain ⟨e3, e4⟩ := h; (first | lia | omega)
    | succ t =>
      refine Gen fun Gq9 back => ?_
      rcases h with ⟨u', v', e3, e4, h⟩
      refine back ?_
      clear back
      clear Gq9
      cases t with
      | zero => obtain ⟨e5, e6⟩ := h; exact ⟨rfl, by (first | lia | omega), by (first | lia | omega)⟩
      | succ t => obtain ⟨u2, v2, e5, e6, _⟩ := h; (first | lia | omega)
theorem pw_one {r : Int} (hr : r % 2 = 1) {s : Nat} {c1 c2 : Int} (ho : (c1 - c2) % 2 = 1) (h : Pw s r 1 c1 c2) : s = 1 := by
  cases s with
  | zero => obtain ⟨e1, e2⟩ := h; (first | lia | omega)
  | succ s =>
    cases s with
    | zero => rfl
    | succ s => obtain ⟨u, v, e1, e2, u', v', e3, e4, _⟩ := h; (first | lia | omega)
theorem pow_exec1 {w mean mg mb} {d : Nat} {hp : HP} {Q : V → HP → Prop} {X : XT} (hQ : ∀ h' T, Upto [] hp h' → h' T = some (.tup [.int 1, .int 1]) → Q (.ref T) h') :
    exec (gg w mean mg mb) d m_n_pow_i [.int 1, .int 1, .int 1, .unb, .unb, .unb, .unb, .unb] hp (retQ Q) X := by
  refine ⟨(show (1 : Int) ≠ 0 by decide), small_one (by decide) (by decide) (by decide) (by decide), ?_⟩
  refine forUp (l := [.int 1, .int 1, .int 1, .int 1, .int 1, .unb, .unb, .unb]) 0 (by decide) (fun k l h => l = [.int 1, .int 1, .int 1, .int 1, .int 1, .unb, .unb, .unb] ∧ h = hp) ⟨rfl, rfl⟩ (fun k l h hk => absurd hk (Nat.not_lt_zero _)) ?_
  rintro l h ⟨rfl, rfl⟩
  exact ⟨by simp [sizeLine_eq], fun T nT => hQ _ T (.new nT) hset_same⟩
theorem In.twice {m r b1 b2 : Int} (hm : m % 2 = 1) (hr2 : r % 2 = 1) (hr : m ∣ r * r + 1) (hb : (b1 - b2) % 2 = 1) (hi : In m r b1 b2) : In (2 * m) r (b1 - b2) (b1 + b2) := by
  obtain ⟨k, hk⟩ := hr
  obtain ⟨j, hj⟩ := hi
  have e : (b1 - b2) - r * (b1 + b2) = m * ((1 - r) * j - k * b2) := by grind
  have ev : ((b1 - b2) - r * (b1 + b2)) % 2 = 0 := by
    have h1 : r = 2 * (r / 2) + 1 := by (first | lia | omega)
    generalize r / 2 = q at h1
    have h2 : (b1 - b2) - r * (b1 + b2) = 2 * (-b2 - q * (b1 + b2)) := by rw [h1]; grind
    (first | lia | omega)
  rw [e] at ev
  have hz : ((1 - r) * j - k * b2) % 2 = 0 := by
    generalize (1 - r) * j - k * b2 = z at ev
    have h1 : m = 2 * (m / 2) + 1 := by (first | lia | omega)
    generalize m / 2 = q at h1
    have : m * z = 2 * (q * z) + z := by rw [h1]; grind
    (first | lia | omega)
  generalize hzz : (1 - r) * j - k * b2 = z at *
  exact ⟨z / 2, by rw [e]; have : z = 2 * (z / 2) := by (first | lia | omega)
                   generalize z / 2 = y at this
                   rw [this]; grind⟩
theorem gD_odd {g1 g2 c1 c2 : Int} (h : gD g1 g2 c1 c2) (hc : (c1 - c2) % 2 = 1) : (g1 - g2) % 2 = 1 := by
  refine Gen fun Gq9 back => ?_
  rcases h with ⟨h1, h2, e1, e2⟩
  refine back ?_
  clear back
  clear Gq9
  rcases (by (first | lia | omega) : (g1 - g2) % 2 = 1 ∨ (g1 - g2) % 2 = 0) with q | q
  · exact q
  · exfalso
    have e : g1 = g2 + 2 * ((g1 - g2) / 2) := by (first | lia | omega)
    generalize (g1 - g2) / 2 = y at e
    have : c1 - c2 = 2 * (y * h1 - y * h2 - g2 * h2) := by rw [e1, e2, e]; grind
    (first | lia | omega)
theorem gloop2_exec {w mean mg mb} {d : Nat} {hp : HP} {m r A1 A2 B1 B2 a1 a2 b1 b2 : Int} {x4 x5 x6 : V} (hm : m % 2 = 1) (hr : m ∣ r * r + 1) (G : GInv m r A1 A2 B1 B2 a1 a2 b1 b2) {Q : Out → List V → HP → Prop} {X : XT}
    (hQ : ∀ b1 b2 x7 x8 h', Upto [] hp h' → In m r b1 b2 → gD b1 b2 A1 A2 → gD b1 b2 B1 B2 → exec (gg w mean mg mb) (d + 2) (dropS 6 m_arygcd_i) [.int 0, .int 0, .int b1, .int b2, x4, x5, x6, x7, x8, .unb, .unb] h' Q X) :
    exec (gg w mean mg mb) (d + 2) (dropS 5 m_arygcd_i) [.int a1, .int a2, .int b1, .int b2, x4, x5, x6, .unb, .unb, .unb, .unb] hp Q X :=
  gloop_exec (x4 := x4) (x5 := x5) (x6 := x6) (Q := fun o l1 h1 => match o with | .next => exec (gg w mean mg mb) (d + 2) (dropS 6 m_arygcd_i) l1 h1 Q X | .brk => Q .brk l1 h1 | .ret v => Q (.ret v) l1 h1) hm hr G hQ
theorem ary_exec {w mean mg mb} {d : Nat} {hp : HP} {n r : Nat} (hn0 : 0 < n) (hr : (n : Int) ∣ (r : Int) * r + 1) {Q : V → HP → Prop} {X : XT}
    (hQ : ∀ x y h' T, Upto [] hp h' → h' T = some (.tup [.int x, .int y]) → gN x y = n → In n r x y → Q (.ref T) h') :
    exec (gg w mean mg mb) (d + 2) m_arygcd_i [.int n, .int 0, .int r, .int 1, .unb, .unb, .unb, .unb, .unb, .unb, .unb] hp (retQ Q) X := by
  suffices rest : exec (gg w mean mg mb) (d + 2) (dropS 1 m_arygcd_i) [.int n, .int 0, .int r, .int 1, .unb, .unb, .unb, .unb, .unb, .unb, .unb] hp (retQ Q) X from
    ⟨fun t => absurd (ceq_t.mp t) (by (first | lia | omega)), fun _ => ⟨(fun q => nomatch q), fun _ => ⟨fun _ => ⟨(fun q => nomatch q), fun _ => rest⟩, fun _ => ⟨(fun q => nomatch q), fun _ => rest⟩⟩⟩⟩
  refine odd1_exec (.inl (by (first | lia | omega))) fun t c1 c2 hp1 ho1 => ?_
  refine odd2_exec (.inr (by (first | lia | omega))) fun s e1 e2 hp2 ho2 => ?_
  show exec (gg w mean mg mb) (d + 2) (dropS 5 m_arygcd_i) [.int c1, .int c2, .int e1, .int e2, .int t, .int s, .int (if (s : Int) < t then s else t), .unb, .unb, .unb, .unb] hp (retQ Q) X
  have hi0 : ∀ m : Int, m ∣ n → In m r n 0 := fun m h => by show m ∣ (n : Int) - r * 0; rw [Int.mul_zero, Int.sub_zero]; exact h
  have hi1 : ∀ m : Int, In m r r 1 := fun m => by show m ∣ (r : Int) - r * 1; rw [Int.mul_one, Int.sub_self]; exact Int.dvd_zero m
  rcases (by (first | lia | omega) : n % 2 = 1 ∨ n % 2 = 0) with hodd | heven
  · have hm : (n : Int) % 2 = 1 := by (first | lia | omega)
    refine gloop2_exec hm hr ⟨ho2, hp1.inn hm hr (hi0 _ (Int.dvd_refl _)), hp2.inn hm hr (hi1 _), fun _ _ h1 h2 => ⟨h1, h2⟩⟩ fun b1 b2 x7 x8 h' u hib hd1 hd2 => ?_
    obtain ⟨rfl, rfl, rfl⟩ := pw_odd hm hp1
    have hN := gcd_norm (by (first | lia | omega)) hr hib (.inl ⟨rfl, rfl⟩) hd1 hp2 hd2
    refine ⟨by simp [sizeLine_eq], fun T nT => ⟨[.int (0 : Nat), .int s], _, by rw [hset_same]; rfl, rfl, (fun _ => ?_), (fun q => nomatch q)⟩⟩
    have u2 : Upto [] h' (hset h' T (.tup [.int (0 : Nat), .int s])) := .new nT
    exact ⟨by simp [sizeLine_eq], fun T2 nT2 => hQ b1 b2 _ T2 ((u.trans u2).trans (.new nT2)) hset_same hN hib⟩
  · obtain ⟨m, rfl⟩ : ∃ m, n = 2 * m := ⟨n / 2, by (first | lia | omega)⟩
    have hr2 : (r : Int) % 2 = 1 := by
      obtain ⟨k, hk⟩ := hr
      rcases (by (first | lia | omega) : (r : Int) % 2 = 1 ∨ (r : Int) % 2 = 0) with q | q
      · exact q
      · exfalso
        have e : (r : Int) = 2 * ((r : Int) / 2) := by (first | lia | omega)
        generalize (r : Int) / 2 = y at e
        have : (r : Int) * r + 1 = 2 * (2 * y * y) + 1 := by rw [e]; grind
        rw [this] at hk
        have : ((2 * m : Nat) : Int) * k = 2 * ((m : Int) * k) := by push_cast; grind
        (first | lia | omega)
    have hm : (m : Int) % 2 = 1 := by
      obtain ⟨k, hk⟩ := hr
      rcases (by (first | lia | omega) : (m : Int) % 2 = 1 ∨ (m : Int) % 2 = 0) with q | q
      · exact q
      · exfalso
        have e : (r : Int) = 2 * ((r : Int) / 2) + 1 := by (first | lia | omega)
        have e2 : (m : Int) = 2 * ((m : Int) / 2) := by (first | lia | omega)
        generalize (r : Int) / 2 = y at e
        generalize (m : Int) / 2 = z at e2
        have h1 : (r : Int) * r + 1 = 4 * (y * y + y) + 2 := by rw [e]; grind
        have h2 : ((2 * m : Nat) : Int) * k = 4 * (z * k) := by push_cast; rw [e2]; grind
        (first | lia | omega)
    have hmr : (m : Int) ∣ (r : Int) * r + 1 := Int.dvd_trans ⟨2, by push_cast; (first | lia | omega)⟩ hr
    refine gloop2_exec hm hmr ⟨ho2, hp1.inn hm hmr (hi0 _ ⟨2, by push_cast; (first | lia | omega)⟩), hp2.inn hm hmr (hi1 _), fun _ _ h1 h2 => ⟨h1, h2⟩⟩ fun b1 b2 x7 x8 h' u hib hd1 hd2 => ?_
    obtain ⟨rfl, rfl, rfl⟩ := pw_even hm ho1 (by rw [Int.natCast_mul] at hp1; exact hp1)
    have hs := pw_one hr2 ho2 hp2
    subst hs
    have hN := gcd_norm (by (first | lia | omega)) hmr hib (.inr (.inr (.inr ⟨rfl, rfl⟩))) hd1 hp2 hd2
    refine ⟨by simp [sizeLine_eq], fun T nT => ⟨[.int (2 : Nat), .int (1 : Nat)], _, by rw [hset_same]; rfl, rfl, (fun q => nomatch q), (fun _ => ?_)⟩⟩
    have u2 : Upto [] h' (hset h' T (.tup [.int (2 : Nat), .int (1 : Nat)])) := .new nT
    refine call_n_pow_i (pow_exec1 fun h3 T3 u3 hT3 => ?_)
    refine ⟨[.int 1, .int 1], by rw [hT3]; rfl, rfl, ?_⟩
    refine ⟨mul_small_right (by decide), mul_small_right (by decide), trivial, mul_small_right (by decide), mul_small_right (by decide), trivial, by simp [sizeLine_eq], fun T2 nT2 => ?_⟩
    refine hQ (b1 - b2) (b1 + b2) _ T2 (((u.trans u2).trans u3).trans (.new nT2)) (by rw [hset_same]; show some (O.tup [V.int (b1 * 1 - b2 * 1), V.int (b1 * 1 + b2 * 1)]) = _; rw [Int.mul_one, Int.mul_one]) ?_ ?_
    · rw [gN_step, hN]; push_cast; rfl
    · rw [Int.natCast_mul]
      exact hib.twice hm hr2 hmr (gD_odd hd2 ho2)
theorem take_exec {w mean mg mb} {d : Nat} {hp : HP} {s : Addr} {ns : List Int} {pl : Nat} (es : hp s = some (.ro (ns.map .int))) (hl : ns.length ≤ 63) (hp10 : pl ≤ 10) {Q : V → HP → Prop} {X : XT} (hQ : ∀ v, Q (.int v) hp) :
    exec (gg w mean mg mb) d m_l_take [.ref s, .int pl] hp (retQ Q) X := by
  refine ⟨ns.map .int, by rw [es]; rfl, by rw [List.length_map]; (first | lia | omega), fun t => ?_, fun _ => ?_⟩
  · have t : (pl : Int) < (ns.map V.int).length := clt_t.mp t
    rw [List.length_map] at t
    refine idxE (k := pl) rfl rfl (vs := ns.map .int) (by rw [es]; rfl) (by rw [List.length_map]; (first | lia | omega)) (by (first | lia | omega)) (x := .int (ns.getD pl 0)) ?_ (hQ _)
    rw [Int.toNat_natCast, List.getElem?_map, List.getD_eq_getElem?_getD, List.getElem?_eq_getElem (by (first | lia | omega))]; rfl
  · exact ⟨mul_small_left (by (first | lia | omega)), mul_small_right (by decide), mul_small_right (by decide), trivial, trivial, (show (101 : Int) ≠ 0 by decide), trivial, hQ _⟩
noncomputable def isPrB (n : Nat) : Bool := (List.range n).all fun d => decide (d < 2) || decide (n < d * d) || decide (n % d ≠ 0)
theorem isPrB_iff {n : Nat} : isPrB n = true ↔ ∀ d, d < n → 2 ≤ d → d * d ≤ n → n % d ≠ 0 := by
  unfold isPrB
  rw [List.all_eq_true]
  constructor
  · intro h d h1 h2 h3
    have := h d (List.mem_range.mpr h1)
    simp only [Bool.or_eq_true, decide_eq_true_eq] at this
    (first | lia | omega)
  · intro h d hd
    have hd := List.mem_range.mp hd
    simp only [Bool.or_eq_true, decide_eq_true_eq]
    by_cases h2 : d < 2
    · exact .inl (.inl h2)
    · by_cases h3 : n < d * d
      · exact .inl (.inr h3)
      · exact .inr (h d hd (by (first | lia | omega)) (by (first | lia | omega)))
theorem prime_exec {w mean mg mb} {d : Nat} {hp : HP} {n : Nat} (h2 : 2 ≤ n ∧ n ≤ 1000) {Q : V → HP → Prop} {X : XT} (hQ : Q (.bool (isPrB n)) hp) :
    exec (gg w mean mg mb) d m_l_prime [.int n, .unb] hp (retQ Q) X := by
  refine ⟨fun t => absurd (clt_t.mp t) (by (first | lia | omega)), fun _ => ?_⟩
  refine ⟨(show (1 : Int) ≠ 0 by decide), small_one (by decide) (by decide) (by (first | lia | omega)) (by (first | lia | omega)), ?_⟩
  have good : (∀ k, k < n → 2 ≤ k → k * k ≤ n → n % k ≠ 0) → ∀ x1, retQ Q (.ret (.bool true)) [.int n, x1] hp := fun h x1 => by
    rw [isPrB_iff.mpr h] at hQ; exact hQ
  refine forUp (l := [.int n, .unb]) (n - 2) (by (first | lia | omega)) (fun k l h => ∃ x1 : V, l = [.int n, x1] ∧ h = hp ∧ ∀ j, j < k → (j + 2) * (j + 2) ≤ n ∧ n % (j + 2) ≠ 0) ⟨_, rfl, rfl, fun j hj => absurd hj (Nat.not_lt_zero _)⟩ ?_ ?_
  · intro k l h hk qz127
    refine Gen fun Gq9 back => ?_
    rcases qz127 with ⟨x1, hz128, hz129, hj⟩
    refine back ?_
    clear back
    clear Gq9
    subst hz128
    subst hz129
    refine xg fun Q1 hq1 => ?_
    have e2 : (2 : Int) + k = ((k + 2 : Nat) : Int) := by (first | lia | omega)
    show exec (gg w mean mg mb) d _ [.int n, .int (2 + k)] h Q1 noX
    rw [e2]
    refine ⟨mul_small_left (by (first | lia | omega)), fun t => ?_, fun t => ?_⟩
    · have t : (n : Int) < ((k + 2 : Nat) : Int) * ((k + 2 : Nat) : Int) := cgt_t.mp t
      have t : n < (k + 2) * (k + 2) := by exact_mod_cast t
      refine hq1 .brk [.int n, .int (k + 2 : Nat)] _ (good (fun d h1 h2 h3 => ?_) (.int (k + 2 : Nat)))
      rcases Nat.lt_or_ge d (k + 2) with q | q
      · have := (hj (d - 2) (by (first | lia | omega))).2
        rwa [show d - 2 + 2 = d by (first | lia | omega)] at this
      · have := Nat.mul_le_mul q q; (first | lia | omega)
    · have t : ((k + 2 : Nat) : Int) * ((k + 2 : Nat) : Int) ≤ n := cgt_f.mp t
      have t : (k + 2) * (k + 2) ≤ n := by exact_mod_cast t
      refine ⟨(show ((k + 2 : Nat) : Int) ≠ 0 by (first | lia | omega)), ?_⟩
      show _ ∧ _
      rw [show intOp (n : Int) ((k + 2 : Nat) : Int) .mod = ((n % (k + 2) : Nat) : Int) from fmodN n (k + 2)]
      refine ⟨fun t2 => ?_, fun t2 => ?_⟩
      · have t2 : ((n % (k + 2) : Nat) : Int) = 0 := ceq_t.mp t2
        refine hq1 (.ret (.bool false)) _ _ ?_
        have : isPrB n = false := by
          rw [Bool.eq_false_iff]
          intro q
          exact isPrB_iff.mp q (k + 2) (by (first | lia | omega)) (by (first | lia | omega)) t (by (first | lia | omega))
        show Q (.bool false) h
        rw [← this]; exact hQ
      · have t2 : ((n % (k + 2) : Nat) : Int) ≠ 0 := ceq_f.mp t2
        refine hq1 .next _ _ ⟨_, rfl, rfl, fun j hj' => ?_⟩
        by_cases e : j = k
        · subst e; exact ⟨t, by (first | lia | omega)⟩
        · exact hj j (by (first | lia | omega))
  · intro l h qz130
    refine Gen fun Gq9 back => ?_
    rcases qz130 with ⟨x1, hz131, hz132, hj⟩
    refine back ?_
    clear back
    clear Gq9
    subst hz131
    subst hz132
    refine good (fun d h1 h2 h3 => ?_) x1
    have := (hj (d - 2) (by (first | lia | omega))).2
    rwa [show d - 2 + 2 = d by (first | lia | omega)] at this
structure PairsAt (h : HP) (W : Addr) (rs : List (Addr × Int × Int)) (ps : List (Int × Int)) : Prop where
  e : h W = some (.list (rs.map fun q => .ref q.1))
  t : ∀ q ∈ rs, h q.1 = some (.tup [.int q.2.1, .int q.2.2])
  m : rs.map (·.2) = ps
theorem PairsAt.up {h h' : HP} {W : Addr} {rs : List (Addr × Int × Int)} {ps : List (Int × Int)} (P : PairsAt h W rs ps) (u : Upto [] h h') : PairsAt h' W rs ps := ⟨u.at P.e, fun q hq => u.at (P.t q hq), P.m⟩
theorem PairsAt.len {h : HP} {W : Addr} {rs : List (Addr × Int × Int)} {ps : List (Int × Int)} (P : PairsAt h W rs ps) : rs.length = ps.length := by rw [← P.m, List.length_map]
theorem PairsAt.app {h : HP} {W T : Addr} {rs : List (Addr × Int × Int)} {ps : List (Int × Int)} {a b : Int} (P : PairsAt h W rs ps) (nT : h T = none) :
    PairsAt (hset (hset h T (.tup [.int a, .int b])) W (.list ((rs.map fun q => .ref q.1) ++ [.ref T]))) W (rs ++ [(T, a, b)]) (ps ++ [(a, b)]) := by
  have hTW : T ≠ W := fun q => by rw [q, P.e] at nT; cases nT
  refine ⟨by rw [hset_same, List.map_append]; rfl, fun q hq => ?_, by rw [List.map_append, P.m]; rfl⟩
  rcases List.mem_append.mp hq with hq | hq
  · have h1 := P.t q hq
    have n1 : q.1 ≠ W := fun e => by rw [e, P.e] at h1; cases h1
    have n2 : q.1 ≠ T := fun e => by rw [e, nT] at h1; cases h1
    rw [hset_ne n1, hset_ne n2]; exact h1
  · rw [List.mem_singleton.mp hq]
    show hset _ W _ T = _
    rw [hset_ne hTW, hset_same]
noncomputable def loopB : MS → MS
  | .forR _ _ _ _ b => b
  | .forL _ _ b => b
  | m => m
noncomputable def iteA : MS → MS
  | .ite _ a _ => a
  | m => m
theorem sqs_len (k : Nat) : (sqs k).length = k := by unfold sqs; rw [List.length_map, List.length_range]
theorem pL_at {ps : List Nat} {k : Nat} {x : V} (h : (ps.map fun p => V.int (p : Nat))[k]? = some x) : ∃ hk : k < ps.length, x = .int (ps[k] : Nat) := by
  rw [List.getElem?_map] at h
  obtain ⟨p, hp, rfl⟩ := Option.map_eq_some_iff.mp h
  obtain ⟨hk, rfl⟩ := List.getElem?_eq_some_iff.mp hp
  exact ⟨hk, rfl⟩
theorem wOf_len {n x : Int} {ps : List Nat} : (wOf n ps x).length ≤ 2 := by
  unfold wOf
  split
  · split <;> simp
  · simp
theorem wL_len {n : Int} {ps : List Nat} : ∀ k, (wL n ps k).length ≤ 2 * k
  | 0 => by simp [wL]
  | k + 1 => by rw [wL_succ, List.length_append]; have := wL_len (n := n) (ps := ps) k; have := wOf_len (n := n) (ps := ps) (x := (k : Int) - 201); (first | lia | omega)
theorem apartB_take {ps : List Nat} {x y : Int} {k : Nat} (hk : k < ps.length) : apartB (ps.take (k + 1)) x y = (apartB (ps.take k) x y && !(decide (x % ((ps[k] : Nat) : Int) = 0) && decide (y % ((ps[k] : Nat) : Int) = 0))) := by
  unfold apartB
  rw [List.take_add_one, List.getElem?_eq_getElem hk]
  show (List.take k ps ++ [ps[k]]).all _ = _
  rw [List.all_append]
  simp
noncomputable def wB : MS := loopB (seq1 (dropS 3 m_l_ways))
noncomputable def wA : MS := iteA (seq1 (dropS 1 wB))
theorem size2 {a b : V} : [a, b].length ≤ sizeLine := by rw [sizeLine_eq]; show 2 ≤ _; (first | lia | omega)
theorem fmodP (x : Int) {p : Nat} : intOp x (p : Int) .mod = x % (p : Int) := Int.fmod_eq_emod_of_nonneg _ (Int.natCast_nonneg _)
theorem apart_exec {w mean mg mb} {d : Nat} {hp : HP} {R D W : Addr} {n x y : Int} {ps : List Nat} {x7 : V} (hR : hp R = some (.list (ps.map fun p => V.int (p : Nat)))) (hps : ∀ p ∈ ps, 0 < p) (hl : ps.length ≤ 10) {Q : Out → List V → HP → Prop} {X : XT}
    (hQ : ∀ x7, exec (gg w mean mg mb) d (dropS 2 wA) [.int n, .ref R, .ref D, .int y, .ref W, .int x, .bool (apartB ps x y), x7] hp Q X) :
    exec (gg w mean mg mb) d (dropS 1 wA) [.int n, .ref R, .ref D, .int y, .ref W, .int x, .bool true, x7] hp Q X := by
  refine ⟨ps.map fun p => V.int (p : Nat), by rw [hR]; rfl, by rw [List.length_map]; (first | lia | omega), fun k l h => ∃ x7 : V, l = [.int n, .ref R, .ref D, .int y, .ref W, .int x, .bool (apartB (ps.take k) x y), x7] ∧ h = hp, ⟨x7, by simp [apartB], rfl⟩, ?_, ?_⟩
  · rintro k v l h hv ⟨x7, rfl, rfl⟩
    obtain ⟨hk, rfl⟩ := pL_at hv
    have hp0 : 0 < ps[k] := hps _ (List.getElem_mem hk)
    refine ⟨rfl, ?_⟩
    refine xg fun Q1 hq1 => ?_
    have hs := apartB_take (x := x) (y := y) hk
    generalize apartB (ps.take k) x y = b at *
    generalize hpp : ps[k] = p at *
    refine ⟨ne0 hp0, fun t1 => ⟨ne0 hp0, fun t2 => ?_, fun t2 => ?_⟩, fun t1 => ⟨(fun q => nomatch q), fun _ => ?_⟩⟩
    · have t1 := ceq_t.mp t1
      have t2 := ceq_t.mp t2
      rw [fmodP] at t1 t2
      refine hq1 .next _ _ ⟨.int p, ?_, rfl⟩
      rw [hs, decide_eq_true t1, decide_eq_true t2, show (!(true && true)) = false from rfl, Bool.and_false]; rfl
    · have t2 := ceq_f.mp t2
      rw [fmodP] at t2
      refine hq1 .next _ _ ⟨.int p, ?_, rfl⟩
      rw [hs, decide_eq_false t2, Bool.and_false, show (!false) = true from rfl, Bool.and_true]; rfl
    · have t1 := ceq_f.mp t1
      rw [fmodP] at t1
      refine hq1 .next _ _ ⟨.int p, ?_, rfl⟩
      rw [hs, decide_eq_false t1, Bool.false_and, show (!false) = true from rfl, Bool.and_true]; rfl
  · rintro l h ⟨x7, rfl, rfl⟩
    rw [List.length_map, List.take_length]
    exact ⟨rfl, hQ x7⟩
theorem wturn_exec {w mean mg mb} {d : Nat} {h : HP} {R D W : Addr} {n : Int} {k : Nat} {ps : List Nat} {rs : List (Addr × Int × Int)} {x3 x6 x7 : V} (hn : 0 ≤ n ∧ n ≤ 40000) (hk : k < 403) (hR : h R = some (.list (ps.map fun p => V.int (p : Nat)))) (hps : ∀ p ∈ ps, 0 < p) (hl : ps.length ≤ 10)
    (eD : h D = some (.dict (dictP (gg w mean mg mb) (sqs 202)))) (P : PairsAt h W rs (wL n ps k)) {Q : Out → List V → HP → Prop}
    (hQ : ∀ y x6 x7 rs' h', Upto [W] h h' → PairsAt h' W rs' (wL n ps (k + 1)) → Q .next [.int n, .ref R, .ref D, y, .ref W, .int ((k : Int) - 201), x6, x7] h') :
    exec (gg w mean mg mb) d wB [.int n, .ref R, .ref D, x3, .ref W, .int ((k : Int) - 201), x6, x7] h Q noX := by
  rw [wL_succ] at hQ
  have hlen := P.len
  have hwl := wL_len (n := n) (ps := ps) k
  generalize wL n ps k = w0 at *
  generalize hx : (k : Int) - 201 = x at *
  refine ⟨⟨_, eD⟩, mul_small_left (by (first | lia | omega)), trivial, _, eD, ?_⟩
  show exec (gg w mean mg mb) d (dropS 1 wB) [.int n, .ref R, .ref D, .int (yOf n x), .ref W, .int x, x6, x7] h Q noX
  have hy : yOf n x ≤ 201 := by
    rcases look_sqs 202 (n - x * x) with ⟨y, h1, _, h2⟩ | ⟨_, h2⟩
    · have : yOf n x = y := h2
      (first | lia | omega)
    · have : yOf n x = -1 := h2
      (first | lia | omega)
  unfold wOf at hQ
  generalize yOf n x = y at *
  refine ⟨fun t => ?_, fun t => ?_⟩
  · have t : 0 ≤ y := cge_t.mp t
    refine apart_exec hR hps hl fun x7' => ?_
    generalize hb : apartB ps x y = b at *
    refine ⟨fun tb => ?_, fun tb => ?_⟩
    · have tb : b = true := tb
      rw [if_pos ⟨t, tb⟩] at hQ
      refine ⟨⟨_, P.e⟩, size2, fun T nT => ?_⟩
      have hTW : W ≠ T := fun q => by rw [← q, P.e] at nT; cases nT
      refine ⟨_, by rw [hset_ne hTW]; exact P.e, by rw [List.length_map, sizeLine_eq]; (first | lia | omega), ?_⟩
      have P1 := P.app (a := x) (b := y) nT
      have u1 : Upto [W] h (hset (hset h T (.tup [.int x, .int y])) W (.list ((rs.map fun q => .ref q.1) ++ [.ref T]))) := ((Upto.new nT : Upto [W] h _)).trans (.set (by simp))
      show exec (gg w mean mg mb) d _ [.int n, .ref R, .ref D, .int y, .ref W, .int x, .bool b, x7'] (hset (hset h T (.tup [.int x, .int y])) W (.list ((rs.map fun q => .ref q.1) ++ [.ref T]))) _ noX
      generalize hset (hset h T (.tup [.int x, .int y])) W (.list ((rs.map fun q => .ref q.1) ++ [.ref T])) = h1 at *
      refine ⟨fun t2 => ?_, fun t2 => ?_⟩
      · have t2 : 0 < y := cgt_t.mp t2
        rw [if_pos t2] at hQ
        refine ⟨⟨_, P1.e⟩, size2, fun T2 nT2 => ?_⟩
        have hTW2 : W ≠ T2 := fun q => by rw [← q, P1.e] at nT2; cases nT2
        refine ⟨_, by rw [hset_ne hTW2]; exact P1.e, by rw [List.length_map, List.length_append, sizeLine_eq]; show rs.length + 1 ≤ _; (first | lia | omega), ?_⟩
        have P2 := P1.app (a := x) (b := -y) nT2
        have u2 : Upto [W] h1 _ := ((Upto.new nT2 (o := .tup [.int x, .int (-y)]) : Upto [W] h1 _)).trans (.set (r := W) (o := .list (((rs ++ [(T, x, y)]).map fun q => .ref q.1) ++ [.ref T2])) (by simp))
        exact hQ _ _ _ _ _ (u1.trans u2) (by rw [List.append_assoc w0] at P2; exact P2)
      · have t2 : ¬ 0 < y := by have := cgt_f.mp t2; (first | lia | omega)
        rw [if_neg t2] at hQ
        exact hQ _ _ _ _ _ u1 P1
    · have tb : b = false := tb
      rw [if_neg (fun q => by rw [tb] at q; cases q.2), List.append_nil] at hQ
      exact hQ _ _ _ _ _ .refl P
  · have t : y < 0 := by have := cge_f.mp t; (first | lia | omega)
    rw [if_neg (fun q => by (first | lia | omega)), List.append_nil] at hQ
    exact hQ _ _ _ _ _ .refl P
theorem ways_exec {w mean mg mb} {d : Nat} {hp : HP} {R : Addr} {n : Int} {ps : List Nat} (hn : 0 ≤ n ∧ n ≤ 40000) (hR : hp R = some (.list (ps.map fun p => V.int (p : Nat)))) (hps : ∀ p ∈ ps, 0 < p) (hl : ps.length ≤ 10) {Q : V → HP → Prop} {X : XT}
    (hQ : ∀ h' W rs, Upto [] hp h' → PairsAt h' W rs (wL n ps 403) → Q (.ref W) h') :
    exec (gg w mean mg mb) d m_l_ways [.int n, .ref R, .unb, .unb, .unb, .unb, .unb, .unb] hp (retQ Q) X := by
  intro D nD
  have u1 : Upto [] hp (hset hp D (.dict (dictP (gg w mean mg mb) []))) := .new nD
  refine ⟨(show (1 : Int) ≠ 0 by decide), small_one (by decide) (by decide) (by decide) (by decide), ?_⟩
  refine forUp (l := [.int n, .ref R, .ref D, .unb, .unb, .unb, .unb, .unb]) 202 (by decide) (fun k l h => ∃ x3 : V, l = [.int n, .ref R, .ref D, x3, .unb, .unb, .unb, .unb] ∧ Upto [] hp h ∧ h D = some (.dict (dictP (gg w mean mg mb) (sqs k)))) ⟨_, rfl, u1, hset_same⟩ ?_ ?_
  · intro k l h hk qz133
    refine Gen fun Gq9 back => ?_
    rcases qz133 with ⟨x3, hz134, u, e⟩
    refine back ?_
    clear back
    clear Gq9
    subst hz134
    have e0 : (0 : Int) + k = k := by (first | lia | omega)
    show exec (gg w mean mg mb) d _ [.int n, .ref R, .ref D, .int (0 + k), .unb, .unb, .unb, .unb] h _ noX
    rw [e0]
    refine ⟨mul_small_left (by (first | lia | omega)), .inr ⟨_, _, e, rfl, by rw [sqs_len]; (first | lia | omega), ?_⟩⟩
    refine ⟨_, rfl, u.fresh nD, ?_⟩
    rw [hset_same]
    show some (O.dict (dictP _ (kdfPut (sqs k) ((k : Int) * k) k))) = _
    rw [sqs_put]
  · intro l h qz135
    refine Gen fun Gq9 back => ?_
    rcases qz135 with ⟨x3, hz136, u, eD⟩
    refine back ?_
    clear back
    clear Gq9
    subst hz136
    refine ⟨Nat.zero_le _, fun W nW => ?_⟩
    have uW : Upto [] h (hset h W (.list [])) := .new nW
    have eD := uW.at eD
    have u := u.trans uW
    have P0 : PairsAt (hset h W (.list [])) W [] (wL n ps 0) := ⟨hset_same, (fun _ q => nomatch q), rfl⟩
    have hnW : hp W = none := by
      cases q : hp W with
      | none => rfl
      | some o => exfalso; have := (show Upto [] hp h from ‹_›).at q; rw [nW] at this; cases this
    generalize hset h W (.list []) = h2 at *
    refine ⟨(show (1 : Int) ≠ 0 by decide), small_one (by decide) (by decide) (by decide) (by decide), ?_⟩
    refine forUp (l := [.int n, .ref R, .ref D, x3, .ref W, .unb, .unb, .unb]) 403 (by decide) (fun k l h' => ∃ (x3 x5 x6 x7 : V) (rs : List (Addr × Int × Int)), l = [.int n, .ref R, .ref D, x3, .ref W, x5, x6, x7] ∧ Upto [W] h2 h' ∧ PairsAt h' W rs (wL n ps k)) ⟨_, _, _, _, [], rfl, .refl, P0⟩ ?_ ?_
    · intro k l h' hk qz137
      refine Gen fun Gq9 back => ?_
      rcases qz137 with ⟨x3, x5, x6, x7, rs, hz138, u', P⟩
      refine back ?_
      clear back
      clear Gq9
      subst hz138
      have e0 : (-201 : Int) + k = (k : Int) - 201 := by (first | lia | omega)
      show exec (gg w mean mg mb) d wB [.int n, .ref R, .ref D, x3, .ref W, .int (-201 + k), x6, x7] h' _ noX
      rw [e0]
      have nR : R ∉ [W] := fun q => by
        have := u.at hR
        rw [List.mem_singleton.mp q] at hR
        rw [hR] at hnW; cases hnW
      have nDW : D ∉ [W] := fun q => by
        have h1 := P0.e
        rw [List.mem_singleton.mp q] at eD
        rw [eD] at h1; cases h1
      exact wturn_exec hn hk (u'.at (u.at hR) nR) hps hl (u'.at eD nDW) P fun y x6 x7 rs' h3 u3 P3 => ⟨_, _, _, _, _, rfl, u'.trans u3, P3⟩
    · intro l h' qz139
      refine Gen fun Gq9 back => ?_
      rcases qz139 with ⟨x3, x5, x6, x7, rs, hz140, u', P⟩
      refine back ?_
      clear back
      clear Gq9
      subst hz140
      refine hQ h' W rs (fun b hb o e => ?_) P
      have nb : b ∉ [W] := fun q => by rw [List.mem_singleton.mp q, hnW] at e; cases e
      exact u'.at (u.at e) nb
noncomputable def fieldL (k : Nat) : List V := ((List.range k).filter fun j => isPrB (5 + 4 * j)).map fun j => V.int ((5 + 4 * j : Nat) : Int)
theorem fieldL_succ (k : Nat) : fieldL (k + 1) = fieldL k ++ (if isPrB (5 + 4 * k) = true then [V.int ((5 + 4 * k : Nat) : Int)] else []) := by
  unfold fieldL
  rw [List.range_succ, List.filter_append, List.map_append]
  congr 1
  cases h : isPrB (5 + 4 * k) <;> simp [h]
theorem fieldL_len (k : Nat) : (fieldL k).length ≤ k := by
  unfold fieldL
  rw [List.length_map]
  exact Nat.le_trans (List.length_filter_le _ _) (by simp)
noncomputable def fieldV : List V := primes11.map fun p => V.int (p : Nat)
theorem field_all : fieldL 14 = fieldV := by
  have : ((List.range 14).filter fun j => isPrB (5 + 4 * j)) = [0, 2, 3, 6, 8, 9, 12] := by decide +kernel
  unfold fieldL; rw [this]; rfl
theorem field_exec {w mean mg mb} {d : Nat} {h : HP} {s F : Addr} {x2 : V} {rest : List V} (eF : h F = some (.list [])) {Q : Out → List V → HP → Prop} {X : XT}
    (hQ : ∀ x2 h', Upto [F] h h' → h' F = some (.list fieldV) → Q .next (.ref s :: .ref F :: x2 :: rest) h') :
    exec (gg w mean mg mb) (d + 1) (seq1 (dropS 1 m_law)) (.ref s :: .ref F :: x2 :: rest) h Q X := by
  refine ⟨(show (4 : Int) ≠ 0 by decide), by decide, fun k l h' => ∃ x2, l = .ref s :: .ref F :: x2 :: rest ∧ Upto [F] h h' ∧ h' F = some (.list (fieldL k)), ⟨x2, rfl, .refl, eF⟩, ?_, ?_⟩
  · intro k v l h' hv qz141
    refine Gen fun Gq9 back => ?_
    rcases qz141 with ⟨x2, hz142, u, e⟩
    refine back ?_
    clear back
    clear Gq9
    subst hz142
    refine ⟨trivial, ?_⟩
    rw [List.getElem?_map] at hv
    obtain ⟨i, hi, rfl⟩ := Option.map_eq_some_iff.mp hv
    obtain ⟨hk, rfl⟩ := List.getElem?_eq_some_iff.mp hi
    rw [List.getElem_range]
    have hk : k < 14 := by
      rw [List.length_range] at hk
      exact hk
    have e0 : (5 : Int) + (k : Nat) * 4 = ((5 + 4 * k : Nat) : Int) := by (first | lia | omega)
    rw [e0]
    have hs := fieldL_succ k
    have hlen := fieldL_len k
    refine xg fun Q1 hq1 => ?_
    refine call_l_prime (prime_exec ⟨by (first | lia | omega), by (first | lia | omega)⟩ ?_)
    generalize isPrB (5 + 4 * k) = b at hs
    refine ⟨fun t => ?_, fun t => ?_⟩
    · have t : b = true := t
      rw [t, if_pos rfl] at hs
      refine ⟨⟨_, e⟩, _, e, by rw [sizeLine_eq]; (first | lia | omega), hq1 .next _ _ ⟨_, rfl, u.trans (.set (by simp)), ?_⟩⟩
      rw [hset_same, hs]; rfl
    · have t : b = false := t
      rw [t, if_neg (by decide), List.append_nil] at hs
      refine hq1 .next _ _ ⟨_, rfl, u, ?_⟩
      rw [hs]; exact e
  · intro l h' qz143
    refine Gen fun Gq9 back => ?_
    rcases qz143 with ⟨x2, hz144, u, e⟩
    refine back ?_
    clear back
    clear Gq9
    subst hz144
    refine ⟨trivial, hQ x2 h' u ?_⟩
    rw [← field_all]; exact e
structure LS (h : HP) (s F A4 A5 A6 : Addr) (ns : List Int) (L : List TR) : Prop where
  es : h s = some (.ro (ns.map .int))
  eF : h F = some (.list fieldV)
  e4 : h A4 = some (.list (L.map fun t => V.int (t.1 : Nat)))
  e5 : h A5 = some (.list (L.map fun t => V.int (tq t : Nat)))
  e6 : h A6 = some (.list (L.map fun t => V.int (t.2.2 : Nat)))
  tab : h 96 = some .tab
  d45 : A4 ≠ A5
  d46 : A4 ≠ A6
  d56 : A5 ≠ A6
  d4 : F ≠ A4
  d5 : F ≠ A5
  d6 : F ≠ A6
theorem LS.up {h h' : HP} {s F A4 A5 A6 : Addr} {ns : List Int} {L : List TR} (S : LS h s F A4 A5 A6 ns L) (u : Upto [] h h') : LS h' s F A4 A5 A6 ns L :=
  ⟨u.at S.es, u.at S.eF, u.at S.e4, u.at S.e5, u.at S.e6, u.at S.tab, S.d45, S.d46, S.d56, S.d4, S.d5, S.d6⟩
theorem LS.app {h : HP} {s F A4 A5 A6 : Addr} {ns : List Int} {L : List TR} (S : LS h s F A4 A5 A6 ns L) (t : TR) :
    LS (hset (hset (hset h A4 (.list ((L.map fun t => V.int (t.1 : Nat)) ++ [.int (t.1 : Nat)]))) A5 (.list ((L.map fun t => V.int (tq t : Nat)) ++ [.int (tq t : Nat)]))) A6 (.list ((L.map fun t => V.int (t.2.2 : Nat)) ++ [.int (t.2.2 : Nat)]))) s F A4 A5 A6 ns (L ++ [t]) := by
  refine Gen fun Gq9 back => ?_
  rcases S with ⟨es, eF, e4, e5, e6, tab, d45, d46, d56, d4, d5, d6⟩
  refine back ?_
  clear back
  clear Gq9
  have no : ∀ {b : Addr} {o : O}, h b = some o → (∀ vs, o ≠ .list vs) → b ≠ A4 ∧ b ≠ A5 ∧ b ≠ A6 := fun {b o} e n =>
    ⟨fun q => by rw [q, e4] at e; exact n _ (Option.some.inj e).symm, fun q => by rw [q, e5] at e; exact n _ (Option.some.inj e).symm, fun q => by rw [q, e6] at e; exact n _ (Option.some.inj e).symm⟩
  obtain ⟨s4, s5, s6⟩ := no es fun vs => by intro q; cases q
  obtain ⟨t4, t5, t6⟩ := no tab fun vs => by intro q; cases q
  refine ⟨by rw [hset_ne s6, hset_ne s5, hset_ne s4]; exact es, by rw [hset_ne d6, hset_ne d5, hset_ne d4]; exact eF, by rw [hset_ne d46, hset_ne d45, hset_same, List.map_append]; rfl, by rw [hset_ne d56, hset_same, List.map_append]; rfl, by rw [hset_same, List.map_append]; rfl,
    by rw [hset_ne t6, hset_ne t5, hset_ne t4]; exact tab, d45, d46, d56, d4, d5, d6⟩
theorem inL_iff {p : Nat} : ∀ (ps : List Nat), inV (.int (p : Nat)) (ps.map fun q => V.int (q : Nat)) = some (ps.any (· == p))
  | [] => rfl
  | q :: r => by
    show orO (eqI (.int (q : Nat)) (.int (p : Nat))) (inV (.int (p : Nat)) (r.map fun q => V.int (q : Nat))) = _
    rw [inL_iff r]
    show some (((q : Int) == (p : Int)) || r.any (· == p)) = some ((q == p) || r.any (· == p))
    congr 2
    rw [Bool.eq_iff_iff, beq_iff_eq, beq_iff_eq]
    (first | lia | omega)
theorem pp_app {L : List TR} {t : TR} : pp (moL (L ++ [t])) (L.length + 1) = pp (moL L) L.length * tq t := by
  show pp (moL (L ++ [t])) L.length * moL (L ++ [t]) L.length = _
  have h1 : moL (L ++ [t]) L.length = tq t := by
    unfold moL
    rw [if_pos (by simp)]
    unfold atL
    rw [List.getD_eq_getElem?_getD, List.getElem?_append_right (Nat.le_refl _), Nat.sub_self]; rfl
  rw [h1]
  congr 1
  refine pp_congr fun j hj => ?_
  unfold moL
  rw [if_pos (by simp; (first | lia | omega)), if_pos hj]
  unfold atL
  rw [List.getD_eq_getElem?_getD, List.getD_eq_getElem?_getD, List.getElem?_append_left hj]
theorem GoodL.app {L : List TR} {t : TR} (G : GoodL L) (g : GoodT t) (hn : ¬ t.1 ∈ L.map (·.1)) : GoodL (L ++ [t]) := by
  refine ⟨fun u hu => ?_, ?_⟩
  · rcases List.mem_append.mp hu with q | q
    · exact G.ok u q
    · rw [List.mem_singleton.mp q]; exact g
  · rw [List.map_append, List.nodup_append]
    refine ⟨G.nd, by simp, fun a ha b hb e => ?_⟩
    rw [List.map_cons, List.map_nil, List.mem_singleton] at hb
    rw [e, hb] at ha
    exact hn ha
noncomputable def dB1 : MS := loopB (seq1 (dropS 6 m_law))
theorem powE8 {q e : Nat} (hq : q ≤ 53) (he : e ≤ 12) : intOp (q : Int) (e : Int) .pow = ((q ^ e : Nat) : Int) ∧ intOk (q : Int) (e : Int) .pow := by
  refine ⟨?_, (show (0 : Int) ≤ e by (first | lia | omega)), ?_⟩
  · show (q : Int) ^ (e : Int).toNat = _
    rw [Int.toNat_natCast]; push_cast; rfl
  · have hb : Bd 6 (q : Int) := by unfold Bd; (first | lia | omega)
    have := hb.bits
    have h1 : Builtin.Int.intBits (q : Int) * e ≤ 6 * 12 := Nat.mul_le_mul this he
    show (Builtin.Int.intBits (q : Int) : Int) * (e : Int) ≤ 2 ^ 27
    rw [← Int.natCast_mul]
    (first | lia | omega)
theorem sq11 {p : Nat} (hp : p ∈ primes11) : ∃ y, y < p ∧ y * y % p = p - 1 := by
  have : primes11.all (fun p => (List.range p).any fun y => decide (y * y % p = p - 1)) = true := by decide +kernel
  obtain ⟨y, hy, h⟩ := List.any_eq_true.mp (List.all_eq_true.mp this p hp)
  exact ⟨y, List.mem_range.mp hy, of_decide_eq_true h⟩
theorem cut_exec {w mean mg mb} {d : Nat} {h : HP} {v0 v1 A4 A5 A6 v7 v9 v10 : V} {n p e : Nat} {rest : List V} (hn : 0 < n ∧ n ≤ 20000) (hp : p ≤ 53) (he : 1 ≤ e ∧ e ≤ 4) {Q : Out → List V → HP → Prop} {X : XT}
    (hQ : ∀ e : Nat, e ≤ 4 → (n = 1 → 1 ≤ e) → (0 < e → n * p ^ e ≤ 20000) → Q .next (v0 :: v1 :: .int p :: .int n :: A4 :: A5 :: A6 :: v7 :: .int e :: v9 :: v10 :: rest) h) :
    exec (gg w mean mg mb) d (seq1 (dropS 2 dB1)) (v0 :: v1 :: .int p :: .int n :: A4 :: A5 :: A6 :: v7 :: .int e :: v9 :: v10 :: rest) h Q X := by
  refine ⟨fun k l h' => ∃ e : Nat, l = (v0 :: v1 :: .int p :: .int n :: A4 :: A5 :: A6 :: v7 :: .int e :: v9 :: v10 :: rest) ∧ h' = h ∧ k = e ∧ e ≤ 4 ∧ (n = 1 → 1 ≤ e), ⟨e, e, rfl, rfl, rfl, he.2, fun _ => he.1⟩, ?_⟩
  clear he
  intro k l h' qz145
  refine Gen fun Gq9 back => ?_
  rcases qz145 with ⟨e, hz146, hz147, hz148, he, h1⟩
  refine back ?_
  clear back
  clear Gq9
  subst hz146
  subst hz147
  subst hz148
  obtain ⟨pw, pok⟩ := powE8 hp (show k ≤ 12 by (first | lia | omega))
  refine ⟨fun t1 => ?_, fun t1 => ⟨(fun q => nomatch q), fun _ => ?_⟩⟩
  · have t1 : 0 < (k : Int) := cgt_t.mp t1
    refine ⟨pok, ?_⟩
    show binV .mul (.int n) (.int (intOp (p : Int) (k : Int) .pow)) h' _
    rw [pw]
    refine ⟨mul_small_left (by (first | lia | omega)), fun t2 => ?_, fun t2 => ?_⟩
    · have t2 : 20000 < (n : Int) * ((p ^ k : Nat) : Int) := cgt_t.mp t2
      refine ⟨trivial, k - 1, by (first | lia | omega), k - 1, ?_, rfl, rfl, by (first | lia | omega), fun hn1 => ?_⟩
      · show (v0 :: v1 :: V.int p :: V.int n :: A4 :: A5 :: A6 :: v7 :: V.int ((k : Int) - 1) :: v9 :: v10 :: rest) = _
        rw [show (k : Int) - 1 = ((k - 1 : Nat) : Int) by (first | lia | omega)]
      · subst hn1
        rcases (by (first | lia | omega) : k = 1 ∨ 2 ≤ k) with q | q
        · subst q; rw [Nat.pow_one] at t2; (first | lia | omega)
        · (first | lia | omega)
    · have t2 : (n : Int) * ((p ^ k : Nat) : Int) ≤ 20000 := cgt_f.mp t2
      rw [← Int.natCast_mul] at t2
      exact hQ k he h1 fun _ => by (first | lia | omega)
  · have t1 : (k : Int) ≤ 0 := cgt_f.mp t1
    exact hQ k he h1 fun q => by (first | lia | omega)
theorem new_exec {w mean mg mb} {d : Nat} {h : HP} {s F A4 A5 A6 : Addr} {ns : List Int} {L : List TR} {p e : Nat} {v7 v9 v10 : V} {rest : List V} (S : LS h s F A4 A5 A6 ns L) (hl : ns.length ≤ 63) (hp : p ∈ primes11) (he : 1 ≤ e ∧ e ≤ 4) (hL : L.length ≤ 10) (hn0 : 0 < pp (moL L) L.length)
    (hs : pp (moL L) L.length * p ^ e ≤ 20000) {Q : Out → List V → HP → Prop} {X : XT}
    (hQ : ∀ (t : TR) v9 v10 h', GoodT t → t.1 = p → pp (moL L) L.length * tq t ≤ 20000 → Upto [A4, A5, A6] h h' → LS h' s F A4 A5 A6 ns (L ++ [t]) → Q .next (.ref s :: .ref F :: .int p :: .int (pp (moL L) L.length * tq t : Nat) :: .ref A4 :: .ref A5 :: .ref A6 :: v7 :: .int e :: v9 :: v10 :: rest) h') :
    exec (gg w mean mg mb) (d + 4) (iteA (seq1 (dropS 3 dB1))) (.ref s :: .ref F :: .int p :: .int (pp (moL L) L.length : Nat) :: .ref A4 :: .ref A5 :: .ref A6 :: v7 :: .int e :: v9 :: v10 :: rest) h Q X := by
  have hp5 := p11 hp
  obtain ⟨pw, pok⟩ := powE8 (q := p) (e := e) hp5.2.1 (show e ≤ 12 by (first | lia | omega))
  generalize hN : pp (moL L) L.length = N at *
  have hq : p ^ e ≤ 20000 := Nat.le_trans (Nat.le_mul_of_pos_left _ hn0) hs
  have hNs : N ≤ 20000 := Nat.le_trans (Nat.le_mul_of_pos_right _ (Nat.pow_pos (by (first | lia | omega)))) hs
  refine ⟨pok, ?_⟩
  show exec (gg w mean mg mb) (d + 4) (dropS 1 (iteA (seq1 (dropS 3 dB1)))) (.ref s :: .ref F :: .int p :: .int N :: .ref A4 :: .ref A5 :: .ref A6 :: v7 :: .int e :: .int (intOp (p : Int) (e : Int) .pow) :: v10 :: rest) h Q X
  rw [pw]
  have hpq : (p : Int) ∣ ((p ^ e : Nat) : Int) := by
    obtain ⟨e', rfl⟩ : ∃ e', e = e' + 1 := ⟨e - 1, by (first | lia | omega)⟩
    rw [Nat.pow_succ]
    exact Int.natCast_dvd_natCast.mpr (Nat.dvd_mul_left _ _)
  refine call_l_take (take_exec (pl := 7) S.es hl (by decide) fun v => ⟨(show (4 : Int) ≠ 0 by decide), ?_⟩)
  have hc0 : intOp v 4 .mod = v % 4 := Int.fmod_eq_emod_of_nonneg _ (by decide)
  have hc1 := Int.emod_nonneg v (b := 4) (by decide)
  have hc2 := Int.emod_lt_of_pos v (b := 4) (by decide)
  rw [hc0]
  generalize v % 4 = c at *
  refine ⟨mul_small_left (by (first | lia | omega)), trivial, ?_⟩
  have hmod : (intOp (intOp c ((p ^ e : Nat) : Int) .mul) 1 .sub) % (p : Int) = ((p - 1 : Nat) : Int) := by
    show (c * ((p ^ e : Nat) : Int) - 1) % (p : Int) = _
    obtain ⟨k, hk⟩ := hpq
    rw [hk, show c * ((p : Int) * k) - 1 = ((p - 1 : Nat) : Int) + p * (c * k - 1) by rw [show ((p - 1 : Nat) : Int) = (p : Int) - 1 by (first | lia | omega)]; grind, Int.add_mul_emod_self_left]
    exact Int.emod_eq_of_lt (by (first | lia | omega)) (by (first | lia | omega))
  refine call_modsqrt3 (mod_exec (e := e) hp he.1 hq (by rw [hmod, Int.toNat_natCast]; (first | lia | omega)) (by rw [hmod, Int.toNat_natCast]; exact sq11 hp) fun h1 x u1 hx => ?_)
  obtain ⟨x0, x1, xd⟩ := hx
  have hsq : ((p ^ e : Nat) : Int) ∣ (x : Int) * x + 1 := by
    obtain ⟨k, hk⟩ : ((p ^ e : Nat) : Int) ∣ c * ((p ^ e : Nat) : Int) - 1 - (x : Int) * x := xd
    exact ⟨c - k, by rw [Int.mul_sub, ← hk]; rw [Int.mul_comm _ c]; (first | lia | omega)⟩
  have g : GoodT (p, e, x) := ⟨hp, he.1, x0, x1, hsq⟩
  have S1 := (S.up u1).app (p, e, x)
  have t4 := (S.up u1).e4
  have t5 := (S.up u1).e5
  have t6 := (S.up u1).e6
  have hx2 : x < 20000 := Nat.lt_of_lt_of_le x1 hq
  have hfin := hQ (p, e, x) (.int (p ^ e : Nat)) (.int x) _ g rfl hs ((((u1.mono (fun _ q => nomatch q)).trans (.set (by simp))).trans (.set (by simp))).trans (.set (by simp))) S1
  have hlen : ∀ (f : TR → V), (L.map f).length ≤ sizeLine := fun f => by rw [List.length_map, sizeLine_eq]; (first | lia | omega)
  have rest2 : exec (gg w mean mg mb) (d + 4) (dropS 3 (iteA (seq1 (dropS 3 dB1)))) (.ref s :: .ref F :: .int p :: .int N :: .ref A4 :: .ref A5 :: .ref A6 :: v7 :: .int e :: .int ((p ^ e : Nat) : Int) :: .int x :: rest) h1 Q X := by
    refine ⟨mul_small_left (by (first | lia | omega)), ?_⟩
    refine ⟨⟨_, t4⟩, _, t4, hlen _, ?_⟩
    refine ⟨⟨_, by rw [hset_ne (Ne.symm S.d45)]; exact t5⟩, _, by rw [hset_ne (Ne.symm S.d45)]; exact t5, hlen _, ?_⟩
    refine ⟨⟨_, by rw [hset_ne (Ne.symm S.d56), hset_ne (Ne.symm S.d46)]; exact t6⟩, _, by rw [hset_ne (Ne.symm S.d56), hset_ne (Ne.symm S.d46)]; exact t6, hlen _, ?_⟩
    rw [Int.natCast_mul] at hfin
    exact hfin
  have hr0 : intOp (intOp (intOp (x : Int) x .mul) 1 .add) ((p ^ e : Nat) : Int) .mod = 0 := by
    rw [fmodP]
    exact Int.emod_eq_zero_of_dvd hsq
  have hx1' : (x : Int) < ((p ^ e : Nat) : Int) := by exact_mod_cast x1
  refine ⟨fun t1 => ⟨fun t2 => ?_, fun t2 => ⟨mul_small_left (by (first | lia | omega)), trivial, ne0 (Nat.pow_pos (by (first | lia | omega))), fun t3 => absurd hr0 (cne_t.mp t3), fun _ => rest2⟩⟩, fun t1 => absurd (clt_f.mp t1) (by (first | lia | omega))⟩
  have t2 : cmpI (x : Int) ((p ^ e : Nat) : Int) .lt = false := by rw [Bool.not_eq_true'] at t2; exact t2
  exact absurd (clt_f.mp t2) (by (first | lia | omega))
theorem field_at {k : Nat} (h : k < 7) : ∃ p, p ∈ primes11 ∧ fieldV[k]? = some (.int (p : Nat)) := by
  have hl : primes11.length = 7 := rfl
  refine ⟨primes11[k]'(by (first | lia | omega)), List.getElem_mem _, ?_⟩
  unfold fieldV
  rw [List.getElem?_map, List.getElem?_eq_getElem (by (first | lia | omega))]; rfl
theorem draw1_exec {w mean mg mb} {d : Nat} {h : HP} {s F A4 A5 A6 : Addr} {ns : List Int} {L : List TR} {j : Nat} {x2 v8 v9 v10 : V} {rest : List V} (S : LS h s F A4 A5 A6 ns L) (hl : ns.length ≤ 63) (hj : j < 3) (G : GoodL L) (hL : L.length ≤ 9)
    (hs : pp (moL L) L.length ≤ 20000) {Q : Out → List V → HP → Prop}
    (hQ : ∀ x2 x8 x9 x10 L' h', Upto [A4, A5, A6] h h' → LS h' s F A4 A5 A6 ns L' → GoodL L' → pp (moL L') L'.length ≤ 20000 → L'.length ≤ L.length + 1 → L' ≠ [] → Q .next (.ref s :: .ref F :: x2 :: .int (pp (moL L') L'.length : Nat) :: .ref A4 :: .ref A5 :: .ref A6 :: .int (0 + (j : Int)) :: x8 :: x9 :: x10 :: rest) h') :
    exec (gg w mean mg mb) (d + 4) dB1 (.ref s :: .ref F :: x2 :: .int (pp (moL L) L.length : Nat) :: .ref A4 :: .ref A5 :: .ref A6 :: .int (0 + (j : Int)) :: v8 :: v9 :: v10 :: rest) h Q noX := by
  have hn0 : 0 < pp (moL L) L.length := pp_pos fun j _ => by have := G.two j; (first | lia | omega)
  have e1 : intOp 2 (0 + (j : Int)) .mul = ((2 * j : Nat) : Int) := by show (2 : Int) * (0 + (j : Int)) = _; (first | lia | omega)
  have e2 : intOp (intOp 2 (0 + (j : Int)) .mul) 1 .add = ((2 * j + 1 : Nat) : Int) := by show (2 : Int) * (0 + (j : Int)) + 1 = _; (first | lia | omega)
  refine ⟨mul_small_left (by decide), ?_⟩
  show Calls (gg w mean mg mb) (d + 4) 122 [.ref s, .int (intOp 2 (0 + (j : Int)) .mul)] [] h _ _
  rw [e1]
  refine call_l_take (take_exec (pl := 2 * j) S.es hl (by (first | lia | omega)) fun v => ?_)
  refine ⟨fieldV, by rw [S.eF]; rfl, by decide, (show (7 : Int) ≠ 0 by decide), ?_⟩
  have hv0 := Int.emod_nonneg v (b := 7) (by decide)
  have hv1 := Int.emod_lt_of_pos v (b := 7) (by decide)
  have hm7 : intOp v (fieldV.length : Nat) .mod = v % 7 := Int.fmod_eq_emod_of_nonneg _ (by decide)
  obtain ⟨p, hp, hfp⟩ := field_at (k := (v % 7).toNat) (by (first | lia | omega))
  refine idxE (k := v % 7) rfl (by rw [← hm7]) (vs := fieldV) (by rw [S.eF]; rfl) (by decide) hv0 (x := .int (p : Nat)) hfp ?_
  clear hfp hv0 hv1 hm7
  have hp5 := p11 hp
  refine ⟨mul_small_left (by decide), trivial, ?_⟩
  show Calls (gg w mean mg mb) (d + 4) 122 [.ref s, .int (intOp (intOp 2 (0 + (j : Int)) .mul) 1 .add)] [] h _ _
  rw [e2]
  refine call_l_take (take_exec (pl := 2 * j + 1) S.es hl (by (first | lia | omega)) fun v' => ⟨(show (4 : Int) ≠ 0 by decide), trivial, ?_⟩)
  have hv0 := Int.emod_nonneg v' (b := 4) (by decide)
  have hv1 := Int.emod_lt_of_pos v' (b := 4) (by decide)
  have he : intOp 1 (intOp v' 4 .mod) .add = ((1 + (v' % 4).toNat : Nat) : Int) := by
    show (1 : Int) + v'.fmod 4 = _
    rw [Int.fmod_eq_emod_of_nonneg _ (by decide)]; (first | lia | omega)
  show exec (gg w mean mg mb) (d + 4) (dropS 2 dB1) (.ref s :: .ref F :: .int p :: .int (pp (moL L) L.length : Nat) :: .ref A4 :: .ref A5 :: .ref A6 :: .int (0 + (j : Int)) :: .int (intOp 1 (intOp v' 4 .mod) .add) :: v9 :: v10 :: rest) h Q noX
  rw [he]
  have he4 : 1 ≤ 1 + (v' % 4).toNat ∧ 1 + (v' % 4).toNat ≤ 4 := by (first | lia | omega)
  generalize 1 + (v' % 4).toNat = e0 at *
  clear hv0 hv1 he e1 e2
  refine cut_exec (X := noX) (Q := fun o l1 h1 => match o with | .next => exec (gg w mean mg mb) (d + 4) (dropS 3 dB1) l1 h1 Q noX | .brk => Q .brk l1 h1 | .ret v => Q (.ret v) l1 h1) ⟨hn0, hs⟩ hp5.2.1 he4 fun e he hone hcut => ?_
  show exec (gg w mean mg mb) (d + 4) (dropS 3 dB1) _ h Q noX
  have keep : L ≠ [] → Q .next (.ref s :: .ref F :: .int p :: .int (pp (moL L) L.length : Nat) :: .ref A4 :: .ref A5 :: .ref A6 :: .int (0 + (j : Int)) :: .int e :: v9 :: v10 :: rest) h := fun hne => hQ _ _ _ _ L h .refl S G hs (by (first | lia | omega)) hne
  have hin : inV (.int (p : Nat)) (L.map fun t => V.int (t.1 : Nat)) = some ((L.map (·.1)).any (· == p)) := by
    rw [← inL_iff, List.map_map]; rfl
  refine ⟨_, _, by rw [S.e4]; rfl, hin, fun t1 => ?_, fun t1 => ⟨(fun q => nomatch q), fun _ => ?_⟩⟩
  · have hnot : ¬ p ∈ L.map (·.1) := fun q => by
      have : (L.map (·.1)).any (· == p) = true := List.any_eq_true.mpr ⟨p, q, beq_self_eq_true p⟩
      rw [this] at t1; cases t1
    refine ⟨fun t2 => ?_, fun t2 => ?_⟩
    · have t2 : 0 < (e : Int) := cgt_t.mp t2
      refine new_exec S hl hp ⟨by (first | lia | omega), he⟩ (by (first | lia | omega)) hn0 (hcut (by (first | lia | omega))) fun t v9 v10 h' g htp hq u S' => ?_
      have hN : pp (moL L) L.length * tq t = pp (moL (L ++ [t])) (L ++ [t]).length := by rw [List.length_append]; exact pp_app.symm
      rw [hN] at hq ⊢
      exact hQ _ _ _ _ (L ++ [t]) h' u S' (G.app g (by rw [htp]; exact hnot)) hq (by simp) (by simp)
    · have t2 : (e : Int) ≤ 0 := cgt_f.mp t2
      refine keep fun q => ?_
      subst q
      have := hone rfl
      (first | lia | omega)
  · refine keep fun q => ?_
    subst q
    cases t1
theorem draws_exec {w mean mg mb} {d : Nat} {h : HP} {s F A4 A5 A6 : Addr} {ns : List Int} {x2 x7 v8 v9 v10 : V} {rest : List V} (S : LS h s F A4 A5 A6 ns []) (hl : ns.length ≤ 63) {Q : Out → List V → HP → Prop} {X : XT}
    (hQ : ∀ x2 x7 x8 x9 x10 L h', Upto [A4, A5, A6] h h' → LS h' s F A4 A5 A6 ns L → GoodL L → pp (moL L) L.length ≤ 20000 → L.length ≤ 3 → L ≠ [] → Q .next (.ref s :: .ref F :: x2 :: .int (pp (moL L) L.length : Nat) :: .ref A4 :: .ref A5 :: .ref A6 :: x7 :: x8 :: x9 :: x10 :: rest) h') :
    exec (gg w mean mg mb) (d + 4) (seq1 (dropS 6 m_law)) (.ref s :: .ref F :: x2 :: .int 1 :: .ref A4 :: .ref A5 :: .ref A6 :: x7 :: v8 :: v9 :: v10 :: rest) h Q X := by
  refine ⟨(show (1 : Int) ≠ 0 by decide), small_one (by decide) (by decide) (by decide) (by decide), ?_⟩
  refine forUp (l := .ref s :: .ref F :: x2 :: .int 1 :: .ref A4 :: .ref A5 :: .ref A6 :: x7 :: v8 :: v9 :: v10 :: rest) 3 (by decide)
    (fun k l h' => ∃ (x2 x7 x8 x9 x10 : V) (L : List TR), l = (.ref s :: .ref F :: x2 :: .int (pp (moL L) L.length : Nat) :: .ref A4 :: .ref A5 :: .ref A6 :: x7 :: x8 :: x9 :: x10 :: rest) ∧ Upto [A4, A5, A6] h h' ∧ LS h' s F A4 A5 A6 ns L ∧ GoodL L ∧ pp (moL L) L.length ≤ 20000 ∧ L.length ≤ k ∧ (0 < k → L ≠ []))
    ⟨x2, x7, v8, v9, v10, [], rfl, .refl, S, ⟨(fun _ q => nomatch q), .nil⟩, (show 1 ≤ 20000 by decide), Nat.le_refl _, fun q => absurd q (Nat.lt_irrefl _)⟩ ?_ ?_
  · intro k l h' hk qz149
    refine Gen fun Gq9 back => ?_
    rcases qz149 with ⟨x2, x7, x8, x9, x10, L, hz150, u, S', G, hs, hlen, _⟩
    refine back ?_
    clear back
    clear Gq9
    subst hz150
    exact draw1_exec S' hl hk G (by (first | lia | omega)) hs fun x2 x8 x9 x10 L' h2 u2 S2 G2 hs2 hl2 hne => ⟨x2, _, x8, x9, x10, L', rfl, u.trans u2, S2, G2, hs2, by (first | lia | omega), fun _ => hne⟩
  · intro l h' qz151
    refine Gen fun Gq9 back => ?_
    rcases qz151 with ⟨x2, x7, x8, x9, x10, L, hz152, u, S', G, hs, hlen, hne⟩
    refine back ?_
    clear back
    clear Gq9
    subst hz152
    exact hQ _ _ _ _ _ L h' u S' G hs hlen (hne (by decide))
theorem atL_get {L : List TR} {j : Nat} (h : j < L.length) : atL L j = L[j] := by
  unfold atL; rw [List.getD_eq_getElem?_getD, List.getElem?_eq_getElem h]; rfl
theorem map_iL {L : List TR} {f : TR → Nat} {g : Nat → Int} (h : ∀ j, j < L.length → g j = (f (atL L j) : Nat)) : (L.map fun t => V.int (f t : Nat)) = iL g L.length := by
  apply List.ext_getElem?
  intro j
  rcases Nat.lt_or_ge j L.length with q | q
  · rw [iL_at g q, h j q, List.getElem?_map, List.getElem?_eq_getElem q, atL_get q]; rfl
  · rw [List.getElem?_eq_none (by simpa using q), List.getElem?_eq_none (by rw [iL_len]; exact q)]
theorem mod_iL (L : List TR) (b : Bool) : (L.map fun t => V.int (tq t : Nat)) ++ (if b = true then [V.int 2] else []) = iL (fun j => (moL L j : Nat)) (cnt L b) := by
  rw [map_iL (f := tq) (g := fun j => ((moL L j : Nat) : Int)) fun j hj => by unfold moL; rw [if_pos hj]]
  unfold cnt
  cases b with
  | false => rw [if_neg (by decide), if_neg (by decide), List.append_nil]; rfl
  | true =>
    rw [if_pos rfl, if_pos rfl, iL_succ]
    have : moL L L.length = 2 := by unfold moL; rw [if_neg (Nat.lt_irrefl _)]
    rw [this]; rfl
theorem crt_any {w mean mg mb} {d : Nat} {hp : HP} {R : Addr} {n K : Nat} {A : Nat → Int} {Mo : Nat → Nat} (M : ModR n Mo K) (RA : RowsAt hp R n A Mo) (hA : ∀ j, j < n → Bd K (A j)) (hA0 : ∀ j, j < n → 0 ≤ A j ∧ A j < Mo j) {Q : V → HP → Prop} {X : XT}
    (hQ : ∀ (x : Nat) h', Upto [] hp h' → RightX n A Mo x → Q (.int x) h') :
    exec (gg w mean mg mb) (d + 2) m_CRT [.ref R, .unb, .unb, .unb, .unb, .unb, .unb, .unb, .unb, .unb] hp (retQ Q) X := by
  have hn1 := M.n1
  rcases Nat.lt_or_ge n 2 with q | q
  · have hn : n = 1 := by (first | lia | omega)
    subst hn
    obtain ⟨a0, a1⟩ := hA0 0 (by (first | lia | omega))
    obtain ⟨x, hx⟩ := Int.eq_ofNat_of_zero_le a0
    refine CRT_one RA ?_
    rw [hx]
    refine hQ x hp .refl ⟨?_, fun j hj => ?_⟩
    · show x < 1 * Mo 0
      (first | lia | omega)
    · rw [show j = 0 by (first | lia | omega), hx, Int.sub_self]; exact Int.dvd_zero _
  · exact CRT_exec M q RA hA fun x h' u h1 h2 => hQ x h' u ⟨h1, h2⟩
theorem rsd_lt {L : List TR} (G : GoodL L) (c j : Nat) : 0 ≤ rsd L c j ∧ rsd L c j < (moL L j : Nat) := by
  unfold rsd moL
  by_cases h : j < L.length
  · have g := G.ok _ (atL_mem h)
    have := g.r0
    have := g.r1
    rw [if_pos h, if_pos h]
    split <;> (first | lia | omega)
  · rw [if_neg h, if_neg h]; decide
theorem rsd_bd {L : List TR} (G : GoodL L) {n : Nat} (M : ModR n (moL L) 16) (c j : Nat) (hj : j < n) : Bd 16 (rsd L c j) := by
  have := rsd_lt G c j
  have := M.lt hj
  unfold Bd; (first | lia | omega)
theorem right_mod {L : List TR} (G : GoodL L) {n c x j : Nat} (hx : RightX n (rsd L c) (moL L) x) (hj : j < n) : (x : Int) % (moL L j : Nat) = rsd L c j := by
  obtain ⟨k, hk⟩ := hx.2 j hj
  have := rsd_lt G c j
  have e : (x : Int) = rsd L c j + (moL L j : Nat) * k := by (first | lia | omega)
  rw [e, Int.add_mul_emod_self_left]
  exact Int.emod_eq_of_lt this.1 this.2
noncomputable def dB2 : MS := loopB (seq1 (dropS 10 m_law))
noncomputable abbrev LV (s F : Addr) (x2 : V) (N : Nat) (A4 A5 A6 : Addr) (x7 x8 x9 x10 : V) (c11 MT : Addr) (k : Int) (c14 : Addr) (x15 x16 x17 x18 x19 x20 : V) : List V :=
  [.ref s, .ref F, x2, .int N, .ref A4, .ref A5, .ref A6, x7, x8, x9, x10, .cell c11, .ref MT, .int k, .cell c14, x15, x16, x17, x18, x19, x20]
structure CT (h : HP) (A4 A5 A6 c11 Mm : Addr) (L : List TR) (b : Bool) : Prop where
  e4 : h A4 = some (.list (L.map fun t => V.int (t.1 : Nat)))
  e5 : h A5 = some (.list (L.map fun t => V.int (tq t : Nat)))
  e6 : h A6 = some (.list (L.map fun t => V.int (t.2.2 : Nat)))
  tab : h 96 = some .tab
  e11 : h c11 = some (.cell (.ref Mm))
  em : h Mm = some (.list (iL (fun j => (moL L j : Nat)) (cnt L b)))
theorem CT.up {h h' : HP} {A4 A5 A6 c11 Mm : Addr} {L : List TR} {b : Bool} (C : CT h A4 A5 A6 c11 Mm L b) (u : Upto [] h h') : CT h' A4 A5 A6 c11 Mm L b := ⟨u.at C.e4, u.at C.e5, u.at C.e6, u.at C.tab, u.at C.e11, u.at C.em⟩
theorem CT.keep {h h' : HP} {A4 A5 A6 c11 Mm : Addr} {L : List TR} {b : Bool} (C : CT h A4 A5 A6 c11 Mm L b) {S : List Addr} (u : Upto S h h') (hS : ∀ a ∈ S, (∀ o, h a = some o → (∃ v, o = .cell v) ∧ a ≠ c11)) : CT h' A4 A5 A6 c11 Mm L b := by
  have no : ∀ {a : Addr} {o : O}, h a = some o → (∀ v, o ≠ .cell v) → a ∉ S := fun {a o} e n q => by obtain ⟨⟨v, hv⟩, _⟩ := hS a q o e; exact n v hv
  exact ⟨u.at C.e4 (no C.e4 fun v => by intro q; cases q), u.at C.e5 (no C.e5 fun v => by intro q; cases q), u.at C.e6 (no C.e6 fun v => by intro q; cases q), u.at C.tab (no C.tab fun v => by intro q; cases q),
    u.at C.e11 (fun q => (hS _ q _ C.e11).2 rfl), u.at C.em (no C.em fun v => by intro q; cases q)⟩
theorem res_exec {w mean mg mb} {d : Nat} {h : HP} {s F A4 A5 A6 c11 c14 MT Mm Rm : Addr} {L : List TR} {b : Bool} {c N : Nat} {x2 x7 x8 x9 x10 x16 x17 x18 x19 x20 : V} (C : CT h A4 A5 A6 c11 Mm L b) (hL : L.length ≤ 3) (e14 : h c14 = some (.cell (.ref Rm))) (eR : h Rm = some (.list []))
    (n4 : A4 ≠ Rm) (n5 : A5 ≠ Rm) (n6 : A6 ≠ Rm) {Q : Out → List V → HP → Prop} {X : XT}
    (hQ : ∀ x7 x15 h', Upto [Rm] h h' → h' Rm = some (.list (iL (rsd L c) L.length)) → Q .next (LV s F x2 N A4 A5 A6 x7 x8 x9 x10 c11 MT c c14 x15 x16 x17 x18 x19 x20) h') :
    exec (gg w mean mg mb) d (seq1 (dropS 2 dB2)) (LV s F x2 N A4 A5 A6 x7 x8 x9 x10 c11 MT c c14 (.int c) x16 x17 x18 x19 x20) h Q X := by
  have hc14 : c14 ≠ Rm := fun q => by rw [q, eR] at e14; cases e14
  refine ⟨_, by rw [C.e4]; rfl, by rw [List.length_map]; (first | lia | omega), ?_⟩
  rw [List.length_map]
  refine ⟨(show (1 : Int) ≠ 0 by decide), small_one (by decide) (by decide) (by (first | lia | omega)) (by (first | lia | omega)), ?_⟩
  refine forUp (l := LV s F x2 N A4 A5 A6 x7 x8 x9 x10 c11 MT c c14 (.int c) x16 x17 x18 x19 x20) L.length (by (first | lia | omega)) (fun k l h' => ∃ x7 : V, l = LV s F x2 N A4 A5 A6 x7 x8 x9 x10 c11 MT c c14 (.int (c / 2 ^ k : Nat)) x16 x17 x18 x19 x20 ∧ Upto [Rm] h h' ∧ h' Rm = some (.list (iL (rsd L c) k)))
    ⟨x7, by rw [Nat.pow_zero, Nat.div_one], .refl, eR⟩ ?_ ?_
  · intro k l h' hk qz153
    refine Gen fun Gq9 back => ?_
    rcases qz153 with ⟨x7, hz154, u, e⟩
    refine back ?_
    clear back
    clear Gq9
    subst hz154
    have e0 : (0 : Int) + (k : Nat) = (k : Nat) := by (first | lia | omega)
    refine xg fun Q1 hq1 => ?_
    show exec (gg w mean mg mb) d _ (LV s F x2 N A4 A5 A6 (.int (0 + (k : Nat))) x8 x9 x10 c11 MT c c14 (.int (c / 2 ^ k : Nat)) x16 x17 x18 x19 x20) h' Q1 noX
    rw [e0]
    have e14' := u.at e14 (by simp [hc14])
    have e5 := u.at C.e5 (by simp [n5])
    have e6 := u.at C.e6 (by simp [n6])
    have hm2 : intOp ((c / 2 ^ k : Nat) : Int) 2 .mod = ((c / 2 ^ k % 2 : Nat) : Int) := fmodN _ 2
    have hd2 : intOp ((c / 2 ^ k : Nat) : Int) 2 .fdiv = ((c / 2 ^ (k + 1) : Nat) : Int) := by
      rw [Nat.pow_succ, ← Nat.div_div_eq_div_mul]; exact fdivN _ 2
    have hlen : (iL (rsd L c) k).length ≤ sizeLine := by rw [iL_len, sizeLine_eq]; (first | lia | omega)
    have i6 : ∀ {K : V → Prop}, K (.int ((atL L k).2.2 : Nat)) → idxV (.ref A6) (.int (k : Nat)) h' K := fun {K} q =>
      idxE (k := (k : Nat)) rfl rfl (vs := L.map fun t => V.int (t.2.2 : Nat)) (by rw [e6]; rfl) (by rw [List.length_map]; (first | lia | omega)) (by (first | lia | omega)) (x := .int ((atL L k).2.2 : Nat)) (by rw [Int.toNat_natCast, List.getElem?_map, List.getElem?_eq_getElem hk, atL_get hk]; rfl) q
    have i5 : ∀ {K : V → Prop}, K (.int (tq (atL L k) : Nat)) → idxV (.ref A5) (.int (k : Nat)) h' K := fun {K} q =>
      idxE (k := (k : Nat)) rfl rfl (vs := L.map fun t => V.int (tq t : Nat)) (by rw [e5]; rfl) (by rw [List.length_map]; (first | lia | omega)) (by (first | lia | omega)) (x := .int (tq (atL L k) : Nat)) (by rw [Int.toNat_natCast, List.getElem?_map, List.getElem?_eq_getElem hk, atL_get hk]; rfl) q
    have fin : ∀ v : Int, v = rsd L c k → exec (gg w mean mg mb) d (dropS 1 (loopB (seq1 (dropS 2 dB2)))) (LV s F x2 N A4 A5 A6 (.int (k : Nat)) x8 x9 x10 c11 MT c c14 (.int (c / 2 ^ k : Nat)) x16 x17 x18 x19 x20) (hset h' Rm (.list (iL (rsd L c) k ++ [.int v]))) Q1 noX := fun v hv => by
      refine ⟨(show (2 : Int) ≠ 0 by decide), ?_⟩
      refine hq1 .next (LV s F x2 N A4 A5 A6 (.int (k : Nat)) x8 x9 x10 c11 MT c c14 (.int (intOp ((c / 2 ^ k : Nat) : Int) 2 .fdiv)) x16 x17 x18 x19 x20) _ ⟨.int (k : Nat), ?_, u.trans (.set (by simp)), ?_⟩
      · rw [hd2]
      · rw [hset_same, hv, iL_succ]
    refine ⟨(show (2 : Int) ≠ 0 by decide), fun t => ?_, fun t => ?_⟩
    · have t : intOp ((c / 2 ^ k : Nat) : Int) 2 .mod = 0 := ceq_t.mp t
      rw [hm2] at t
      refine ⟨_, e14', (fun q => nomatch q), ⟨_, e⟩, i6 ?_⟩
      exact ⟨_, e, hlen, fin _ (by unfold rsd; rw [if_pos hk, if_pos (by (first | lia | omega))])⟩
    · have t : intOp ((c / 2 ^ k : Nat) : Int) 2 .mod ≠ 0 := ceq_f.mp t
      rw [hm2] at t
      refine ⟨_, e14', (fun q => nomatch q), ⟨_, e⟩, i5 (i6 ⟨trivial, ?_⟩)⟩
      exact ⟨_, e, hlen, fin _ (by unfold rsd; rw [if_pos hk, if_neg (by (first | lia | omega))]; rfl)⟩
  · intro l h' qz155
    refine Gen fun Gq9 back => ?_
    rcases qz155 with ⟨x7, hz156, u, e⟩
    refine back ?_
    clear back
    clear Gq9
    subst hz156
    exact hQ x7 _ h' u e
theorem seqE {g : G} {d : Nat} {l : List V} {h : HP} {Q : Out → List V → HP → Prop} {X : XT} (a b : MS) (hh : exec g d a l h (fun o l1 h1 => match o with | .next => exec g d b l1 h1 Q X | .brk => Q .brk l1 h1 | .ret v => Q (.ret v) l1 h1) X) : exec g d (.seq a b) l h Q X := hh
theorem four_exec {w mean mg mb} {d : Nat} {h : HP} {s F A4 A5 A6 c11 c14 MT : Addr} {rs : List (Addr × Int × Int)} {ps : List (Int × Int)} {N : Nat} {c x y : Int} {x2 x7 x8 x9 x10 x15 x16 x17 x20 : V} (P : PairsAt h MT rs ps) (hl : ps.length ≤ 1000) {Q : Out → List V → HP → Prop} {X : XT}
    (hQ : ∀ x18 x19 x20 rs' h', Upto [MT] h h' → PairsAt h' MT rs' (ps ++ four (x, y)) → Q .next (LV s F x2 N A4 A5 A6 x7 x8 x9 x10 c11 MT c c14 x15 x16 x17 x18 x19 x20) h') :
    exec (gg w mean mg mb) d (seq1 (dropS 12 dB2)) (LV s F x2 N A4 A5 A6 x7 x8 x9 x10 c11 MT c c14 x15 x16 x17 (.int x) (.int y) x20) h Q X := by
  refine ⟨(show (1 : Int) ≠ 0 by decide), small_one (by decide) (by decide) (by decide) (by decide), ?_⟩
  have step : ∀ (x y : Int) (rs : List (Addr × Int × Int)) (ps : List (Int × Int)) (h' : HP) (x20 : V) (Q1 : Out → List V → HP → Prop), PairsAt h' MT rs ps → ps.length ≤ 1010 →
      (∀ rs' h2, Upto [MT] h' h2 → PairsAt h2 MT rs' (ps ++ [(x, y)]) → Q1 .next (LV s F x2 N A4 A5 A6 x7 x8 x9 x10 c11 MT c c14 x15 x16 x17 (.int (-y)) (.int x) x20) h2) →
      exec (gg w mean mg mb) d (loopB (seq1 (dropS 12 dB2))) (LV s F x2 N A4 A5 A6 x7 x8 x9 x10 c11 MT c c14 x15 x16 x17 (.int x) (.int y) x20) h' Q1 noX := fun x y rs ps h' x20 Q1 P hl hq => by
    have hlen := P.len
    refine ⟨⟨_, P.e⟩, size2, fun T nT => ?_⟩
    have hTW : MT ≠ T := fun q => by rw [← q, P.e] at nT; cases nT
    refine ⟨_, by rw [hset_ne hTW]; exact P.e, by rw [List.length_map, sizeLine_eq]; (first | lia | omega), ?_⟩
    exact hq _ _ (((Upto.new nT : Upto [MT] h' _)).trans (.set (by simp))) (P.app nT)
  refine forUp (l := LV s F x2 N A4 A5 A6 x7 x8 x9 x10 c11 MT c c14 x15 x16 x17 (.int x) (.int y) x20) 4 (by decide)
    (fun k l h' => ∃ (a b : Int) (x20 : V) (rs' : List (Addr × Int × Int)), l = LV s F x2 N A4 A5 A6 x7 x8 x9 x10 c11 MT c c14 x15 x16 x17 (.int a) (.int b) x20 ∧ Upto [MT] h h' ∧ PairsAt h' MT rs' (ps ++ (four (x, y)).take k) ∧ (k < 4 → (four (x, y))[k]? = some (a, b)))
    ⟨x, y, x20, rs, rfl, .refl, by simpa using P, fun _ => rfl⟩ ?_ ?_
  · intro k l h' hk qz157
    refine Gen fun Gq9 back => ?_
    rcases qz157 with ⟨a, b, x20, rs', hz158, u, P', hab⟩
    refine back ?_
    clear back
    clear Gq9
    subst hz158
    refine step a b rs' _ h' _ _ P' (by rw [List.length_append]; have : ((four (x, y)).take k).length ≤ 4 := Nat.le_trans (List.length_take_le' _ _) (Nat.le_refl _); (first | lia | omega)) fun rs2 h2 u2 P2 => ?_
    refine ⟨-b, a, _, rs2, rfl, u.trans u2, ?_, fun hk4 => ?_⟩
    · rw [List.take_add_one, hab hk, ← List.append_assoc]; exact P2
    · have hab := hab hk
      rcases (by (first | lia | omega) : k = 0 ∨ k = 1 ∨ k = 2) with rfl | rfl | rfl
      · cases hab; rfl
      · cases hab; rfl
      · cases hab; show some (y, -x) = some (- -y, -x); rw [Int.neg_neg]
  · intro l h' qz159
    refine Gen fun Gq9 back => ?_
    rcases qz159 with ⟨a, b, x20, rs', hz160, u, P', _⟩
    refine back ?_
    clear back
    clear Gq9
    subst hz160
    exact hQ _ _ _ rs' h' u P'
theorem pairs_ev {w mean mg mb} {d : Nat} {h : HP} {s F A4 A5 A6 c11 c14 MT Mm Rm : Addr} {n N : Nat} {A : Nat → Int} {Mo : Nat → Nat} {c : Int} {x2 x7 x8 x9 x10 x15 x16 x17 x18 x19 x20 : V} (hn : n ≤ 1000) (e11 : h c11 = some (.cell (.ref Mm))) (e14 : h c14 = some (.cell (.ref Rm))) (em : h Mm = some (.list (iL (fun j => (Mo j : Nat)) n))) (eR : h Rm = some (.list (iL A n))) {Q : V → HP → Prop} {X : XT}
    (hQ : ∀ h' L, Upto [] h h' → RowsAt h' L n A Mo → Q (.ref L) h') :
    ev (gg w mean mg mb) d (.compR (.int 0) (.len (.cvar 11)) (.int 1) (.tv (.bool true)) (.tup (.cons (.idx (.cvar 2) (.var 0)) (.cons (.idx (.cvar 1) (.var 0)) .nil))) [11, 14]) (LV s F x2 N A4 A5 A6 x7 x8 x9 x10 c11 MT c c14 x15 x16 x17 x18 x19 x20) h Q X := by
  refine ⟨rfl, _, e11, (fun q => nomatch q), iL (fun j => (Mo j : Nat)) n, by rw [em]; rfl, by rw [iL_len]; (first | lia | omega), ?_⟩
  rw [iL_len]
  refine ⟨(show (1 : Int) ≠ 0 by decide), small_one (by decide) (by decide) (by (first | lia | omega)) (by (first | lia | omega)), ?_⟩
  refine compUp n (by (first | lia | omega)) (fun k acc h' => ∃ ts : List Addr, acc = ts.map .ref ∧ ts.length = k ∧ Upto [] h h' ∧ ∀ (j : Nat) (t : Addr), ts[j]? = some t → h' t = some (.tup [.int (A j), .int (Mo j)])) ⟨[], rfl, rfl, .refl, fun j t h => by simp at h⟩ ?_ ?_
  · intro k acc h' hk qz161
    refine Gen fun Gq9 back => ?_
    rcases qz161 with ⟨ts, hz162, hl, u, ht⟩
    refine back ?_
    clear back
    clear Gq9
    subst hz162
    refine ⟨by rw [List.length_map, sizeLine_eq]; (first | lia | omega), (fun _ => ?_), fun t => nomatch t⟩
    refine ⟨_, u.at e14, (fun q => nomatch q), ?_⟩
    refine iL_idx (u.at eR) (by (first | lia | omega)) rfl rfl (j := k) (by (first | lia | omega)) hk ?_
    refine ⟨_, u.at e11, (fun q => nomatch q), ?_⟩
    refine iL_idx (u.at em) (by (first | lia | omega)) rfl rfl (j := k) (by (first | lia | omega)) hk ?_
    refine ⟨by simp [sizeLine_eq], fun t nt => ⟨ts ++ [t], by rw [List.map_append]; rfl, by simp [hl], u.trans (.new nt), ?_⟩⟩
    intro j t' hj
    rcases Nat.lt_or_ge j ts.length with q | q
    · rw [List.getElem?_append_left q] at hj
      exact (Upto.new nt (o := .tup [.int (A k), .int (Mo k : Nat)]) : Upto [] h' _).at (ht j t' hj)
    · rw [List.getElem?_append_right q] at hj
      have hj0 : j - ts.length = 0 := by
        rcases Nat.eq_zero_or_pos (j - ts.length) with z0 | z0
        · exact z0
        · rw [List.getElem?_eq_none (by simp; (first | lia | omega))] at hj; cases hj
      rw [hj0] at hj
      cases hj
      have : j = k := by (first | lia | omega)
      subst this
      exact hset_same
  · intro acc h' qz163 L nL
    refine Gen fun Gq9 back => ?_
    rcases qz163 with ⟨ts, hz164, hl, u, ht⟩
    refine back ?_
    clear back
    clear Gq9
    subst hz164
    have u3 : Upto [] h' (hset h' L (.list (ts.map .ref))) := .new nL
    exact hQ _ L (u.trans u3) ⟨ts, hset_same, hl, fun j t e => u3.at (ht j t e)⟩
theorem rest_exec {w mean mg mb} {d : Nat} {h : HP} {s F A4 A5 A6 c11 c14 MT Mm Rm : Addr} {L : List TR} {b : Bool} {c N : Nat} {rs : List (Addr × Int × Int)} {ps : List (Int × Int)} {x2 x7 x8 x9 x10 x15 x16 x17 x18 x19 x20 : V} (G : GoodL L) (M : ModR (cnt L b) (moL L) 16) (hN : N = pp (moL L) (cnt L b)) (hs : N ≤ 40000) (h5 : 5 ≤ N)
    (C : CT h A4 A5 A6 c11 Mm L b) (e14 : h c14 = some (.cell (.ref Rm))) (eR : h Rm = some (.list (iL (rsd L c) (cnt L b)))) (P : PairsAt h MT rs ps) (hps : ps.length ≤ 1000) {Q : Out → List V → HP → Prop}
    (hQ : ∀ x7 x16 x17 x18 x19 x20 (x y : Int) (z : Nat) rs' h', Upto [MT] h h' → RightX (cnt L b) (rsd L c) (moL L) z → gN x y = N → In N z x y → PairsAt h' MT rs' (ps ++ four (x, y)) → Q .next (LV s F x2 N A4 A5 A6 x7 x8 x9 x10 c11 MT c c14 x15 x16 x17 x18 x19 x20) h') :
    exec (gg w mean mg mb) (d + 4) (dropS 4 dB2) (LV s F x2 N A4 A5 A6 x7 x8 x9 x10 c11 MT c c14 x15 x16 x17 x18 x19 x20) h Q noX := by
  have hn1 := M.n1
  have hnl := M.nl
  refine pairs_ev hnl C.e11 e14 C.em eR fun h1 R u1 RA => ?_
  have C := C.up u1
  have e14 := u1.at e14
  have eR := u1.at eR
  have P := P.up u1
  have hA : ∀ j, j < cnt L b → Bd 16 (rsd L c j) := fun j hj => rsd_bd G M c j hj
  refine call_CRT (crt_any M RA hA (fun j _ => rsd_lt G c j) fun z h2 u2 hz => ?_)
  have C := C.up u2
  have e14 := u2.at e14
  have eR := u2.at eR
  have P := P.up u2
  have RA := RA.up u2
  have u2 := u1.trans u2
  have hzN : z < N := by rw [hN]; exact hz.1
  have hsq : (N : Int) ∣ (z : Int) * z + 1 := by rw [hN]; exact G.root_sq hz.2
  have hz0 : 0 < z := by
    rcases Nat.eq_zero_or_pos z with q | q
    · subst q
      have := Int.le_of_dvd (by decide) hsq
      have : ((0 : Nat) : Int) * (0 : Nat) + 1 = 1 := by decide
      (first | lia | omega)
    · exact q
  have hNpos : 0 < N := by (first | lia | omega)
  have m0 : intOp (intOp (intOp (z : Int) z .mul) 1 .add) (N : Int) .mod = 0 := by rw [fmodP]; exact Int.emod_eq_zero_of_dvd hsq
  show exec (gg w mean mg mb) (d + 4) (dropS 6 dB2) (LV s F x2 N A4 A5 A6 x7 x8 x9 x10 c11 MT c c14 x15 (.ref R) (.int z) x18 x19 x20) h2 Q noX
  suffices rest : exec (gg w mean mg mb) (d + 4) (dropS 7 dB2) (LV s F x2 N A4 A5 A6 x7 x8 x9 x10 c11 MT c c14 x15 (.ref R) (.int z) x18 x19 x20) h2 Q noX by
    refine ⟨fun t1 => ⟨fun t2 => ?_, fun t2 => ⟨mul_small_left (by (first | lia | omega)), trivial, ne0 hNpos, fun t3 => absurd m0 (cne_t.mp t3), fun _ => rest⟩⟩, fun t1 => absurd (clt_f.mp t1) (by (first | lia | omega))⟩
    have t2 : cmpI (z : Int) (N : Int) .lt = false := by rw [Bool.not_eq_true'] at t2; exact t2
    exact absurd (clt_f.mp t2) (by (first | lia | omega))
  refine seqE (seq1 (dropS 7 dB2)) (dropS 8 dB2) ?_
  refine ⟨_, C.e11, (fun q => nomatch q), iL (fun j => (moL L j : Nat)) (cnt L b), by rw [C.em]; rfl, by rw [iL_len]; (first | lia | omega), ?_⟩
  rw [iL_len]
  refine ⟨(show (1 : Int) ≠ 0 by decide), small_one (by decide) (by decide) (by (first | lia | omega)) (by (first | lia | omega)), ?_⟩
  refine forUp (l := LV s F x2 N A4 A5 A6 x7 x8 x9 x10 c11 MT c c14 x15 (.ref R) (.int z) x18 x19 x20) (cnt L b) (by (first | lia | omega)) (fun k l h' => ∃ x7 : V, l = LV s F x2 N A4 A5 A6 x7 x8 x9 x10 c11 MT c c14 x15 (.ref R) (.int z) x18 x19 x20 ∧ h' = h2) ⟨x7, rfl, rfl⟩ ?_ ?_
  · rintro k l h' hk ⟨x7, rfl, rfl⟩
    refine xg fun Q1 hq1 => ?_
    refine ⟨_, C.e11, (fun q => nomatch q), ?_⟩
    refine iL_idx C.em (by (first | lia | omega)) rfl rfl (j := k) (by (first | lia | omega)) hk ⟨ne0 (M.pos k hk), _, e14, (fun q => nomatch q), ?_⟩
    refine iL_idx eR (by (first | lia | omega)) rfl rfl (j := k) (by (first | lia | omega)) hk ⟨fun t => ?_, fun _ => hq1 .next _ _ ⟨_, rfl, rfl⟩⟩
    refine absurd ?_ (cne_t.mp t)
    rw [fmodP]; exact right_mod G hz hk
  rintro l h' ⟨x7, rfl, rfl⟩
  show exec (gg w mean mg mb) (d + 4) (dropS 8 dB2) (LV s F x2 N A4 A5 A6 x7 x8 x9 x10 c11 MT c c14 x15 (.ref R) (.int z) x18 x19 x20) h' Q noX
  refine call_CRT_1 (CRT__exec M RA hA fun z2 h3 T D P3 S3 zs3 u3 hT _ hz2 => ?_)
  have C := C.up u3
  have e14 := u3.at e14
  have eR := u3.at eR
  have P := P.up u3
  have u3 := u2.trans u3
  refine idxE (k := 0) rfl rfl (by rw [hT]; rfl) (by simp) (by simp) rfl ?_
  have e2 : z2 = z := pp_uniq M.cop hz2.1 hz.1 hz2.2 hz.2
  subst e2
  refine ⟨fun t => absurd rfl (cne_t.mp t), fun _ => ?_⟩
  refine ⟨_, e14, (fun q => nomatch q), _, C.e11, (fun q => nomatch q), ?_⟩
  refine call_CRT_Gauss2 (Gauss_exec M hA C.tab eR C.em fun z3 h4 T4 D4 P4 S4 zs4 u4 hT4 _ hz3 => ?_)
  have P := P.up u4
  have u4 := u3.trans u4
  refine idxE (k := 0) rfl rfl (by rw [hT4]; rfl) (by simp) (by simp) rfl ?_
  have e3 : z3 = z2 := pp_uniq M.cop hz3.1 hz.1 hz3.2 hz.2
  subst e3
  refine ⟨fun t => absurd rfl (cne_t.mp t), fun _ => ?_⟩
  refine call_arygcd_i (ary_exec (d := d + 1) hNpos hsq fun x y h5' T5 u5 hT5 hg hi => ?_)
  have P := P.up u5
  have u5 := u4.trans u5
  refine ⟨[.int x, .int y], by rw [hT5]; rfl, rfl, ?_⟩
  show exec (gg w mean mg mb) (d + 4) (dropS 10 dB2) (LV s F x2 N A4 A5 A6 x7 x8 x9 x10 c11 MT c c14 x15 (.ref R) (.int z3) (.int x) (.int y) x20) h5' Q noX
  have lx := le200 (x := x) (y := y) hg (by (first | lia | omega))
  have ly := le200 (x := y) (y := x) ((gN_swap x y).trans hg) (by (first | lia | omega))
  refine ⟨mul_small_left (by (first | lia | omega)), mul_small_left (by (first | lia | omega)), trivial, fun t => absurd (show x * x + y * y = (N : Int) from hg) (cne_t.mp t), fun _ => ?_⟩
  have hi2 : (N : Int) ∣ (z3 : Int) * x + y := by
    obtain ⟨k, hk⟩ := hsq
    obtain ⟨j, hj⟩ := hi
    exact ⟨z3 * j + k * y, by grind⟩
  have m1 : intOp (intOp (intOp (z3 : Int) x .mul) y .add) (N : Int) .mod = 0 := by rw [fmodP]; exact Int.emod_eq_zero_of_dvd hi2
  have m2 : intOp (intOp x (intOp (z3 : Int) y .mul) .sub) (N : Int) .mod = 0 := by rw [fmodP]; exact Int.emod_eq_zero_of_dvd hi
  refine ⟨mul_small_left (by (first | lia | omega)), trivial, ne0 hNpos, fun t => absurd m1 (cne_t.mp t), fun _ => ⟨mul_small_left (by (first | lia | omega)), trivial, ne0 hNpos, fun t => absurd m2 (cne_t.mp t), fun _ => ?_⟩⟩
  refine seqE (seq1 (dropS 12 dB2)) .skip (four_exec P hps fun x18 x19 x20 rs' h6 u6 P6 => ?_)
  exact hQ _ _ _ _ _ _ x y z3 rs' h6 ((u5.mono (fun _ q => nomatch q)).trans u6) hz hg hi P6
theorem choice_exec {w mean mg mb} {d : Nat} {h : HP} {s F A4 A5 A6 c11 c14 MT Mm : Addr} {L : List TR} {b : Bool} {c N : Nat} {v : V} {rs : List (Addr × Int × Int)} {ps : List (Int × Int)} {x2 x7 x8 x9 x10 x15 x16 x17 x18 x19 x20 : V} (G : GoodL L) (M : ModR (cnt L b) (moL L) 16) (hN : N = pp (moL L) (cnt L b)) (hs : N ≤ 40000) (h5 : 5 ≤ N) (hL : L.length ≤ 3)
    (C : CT h A4 A5 A6 c11 Mm L b) (e14 : h c14 = some (.cell v)) (d14 : c14 ≠ c11) (P : PairsAt h MT rs ps) (hps : ps.length ≤ 1000) {Q : Out → List V → HP → Prop}
    (hQ : ∀ x7 x15 x16 x17 x18 x19 x20 (x y : Int) (z : Nat) rs' h', Upto [c14, MT] h h' → (∃ v, h' c14 = some (.cell v)) → RightX (cnt L b) (rsd L c) (moL L) z → gN x y = N → In N z x y → PairsAt h' MT rs' (ps ++ four (x, y)) → Q .next (LV s F x2 N A4 A5 A6 x7 x8 x9 x10 c11 MT c c14 x15 x16 x17 x18 x19 x20) h') :
    exec (gg w mean mg mb) (d + 4) dB2 (LV s F x2 N A4 A5 A6 x7 x8 x9 x10 c11 MT c c14 x15 x16 x17 x18 x19 x20) h Q noX := by
  refine ⟨Nat.zero_le _, fun Rm nR => ?_⟩
  have hcR : c14 ≠ Rm := fun q => by rw [q, nR] at e14; cases e14
  have old : ∀ {a : Addr} {o : O}, h a = some o → a ≠ Rm := fun {a o} e q => by rw [q, nR] at e; cases e
  refine ⟨⟨_, by rw [hset_ne hcR]; exact e14⟩, ?_⟩
  have u1 : Upto [c14] h (hset (hset h Rm (.list [])) c14 (.cell (.ref Rm))) := ((Upto.new nR : Upto [c14] h _)).trans (.set (by simp))
  have e14 : hset (hset h Rm (.list [])) c14 (.cell (.ref Rm)) c14 = some (.cell (.ref Rm)) := hset_same
  have eR : hset (hset h Rm (.list [])) c14 (.cell (.ref Rm)) Rm = some (.list []) := by rw [hset_ne (Ne.symm hcR), hset_same]
  have C1 := C.keep u1 (fun a ha o e => by rw [List.mem_singleton.mp ha] at e ⊢; rw [‹h c14 = some (.cell v)›] at e; cases e; exact ⟨⟨v, rfl⟩, d14⟩)
  have cellP : ∀ q ∈ rs, q.1 ≠ c14 := fun q hq e => by have := P.t q hq; rw [e, ‹h c14 = some (.cell v)›] at this; cases this
  have mtC : MT ≠ c14 := fun e => by have := P.e; rw [e, ‹h c14 = some (.cell v)›] at this; cases this
  have P1 : PairsAt (hset (hset h Rm (.list [])) c14 (.cell (.ref Rm))) MT rs ps := ⟨u1.at P.e (by simp [mtC]), fun q hq => u1.at (P.t q hq) (by simp [cellP q hq]), P.m⟩
  show exec (gg w mean mg mb) (d + 4) (dropS 2 dB2) (LV s F x2 N A4 A5 A6 x7 x8 x9 x10 c11 MT c c14 (.int c) x16 x17 x18 x19 x20) (hset (hset h Rm (.list [])) c14 (.cell (.ref Rm))) Q noX
  generalize hset (hset h Rm (.list [])) c14 (.cell (.ref Rm)) = h1 at *
  refine seqE (seq1 (dropS 2 dB2)) (dropS 3 dB2) (res_exec C1 hL e14 eR (old C.e4) (old C.e5) (old C.e6) fun x7 x15 h2 u2 eR2 => ?_)
  have cont : ∀ h3, Upto [Rm] h1 h3 → h3 Rm = some (.list (iL (rsd L c) (cnt L b))) → exec (gg w mean mg mb) (d + 4) (dropS 4 dB2) (LV s F x2 N A4 A5 A6 x7 x8 x9 x10 c11 MT c c14 x15 x16 x17 x18 x19 x20) h3 Q noX := fun h3 u3 eR3 => by
    have nin : ∀ {a : Addr} {o : O}, h a = some o → a ∉ [Rm] := fun {a o} e q => old e (List.mem_singleton.mp q)
    have C3 : CT h3 A4 A5 A6 c11 Mm L b := ⟨u3.at C1.e4 (nin C.e4), u3.at C1.e5 (nin C.e5), u3.at C1.e6 (nin C.e6), u3.at C1.tab (nin C.tab), u3.at C1.e11 (nin C.e11), u3.at C1.em (nin C.em)⟩
    have P3 : PairsAt h3 MT rs ps := ⟨u3.at P1.e (nin P.e), fun q hq => u3.at (P1.t q hq) (nin (P.t q hq)), P.m⟩
    have e143 := u3.at e14 (by simp [hcR])
    refine rest_exec G M hN hs h5 C3 e143 eR3 P3 hps fun x7 x16 x17 x18 x19 x20 x y z rs' h' u' hz hg hi P' => ?_
    refine hQ _ _ _ _ _ _ _ x y z rs' h' (fun a ha o e => ?_) ⟨_, u'.at e143 (by simp [Ne.symm mtC])⟩ hz hg hi P'
    have na1 : a ∉ [c14] := fun q => ha (by rw [List.mem_singleton.mp q]; simp)
    have na2 : a ∉ [MT] := fun q => ha (by rw [List.mem_singleton.mp q]; simp)
    exact u'.at (u3.at (u1.at e na1) (nin e)) na2
  have hlen : (iL (rsd L c) L.length).length ≤ sizeLine := by rw [iL_len, sizeLine_eq]; (first | lia | omega)
  have nin : ∀ {a : Addr} {o : O}, h a = some o → a ∉ [Rm] := fun {a o} e q => old e (List.mem_singleton.mp q)
  have e11 := u2.at C1.e11 (nin C.e11)
  have em := u2.at C1.em (nin C.em)
  have e14 := u2.at e14 (by simp [hcR])
  show exec (gg w mean mg mb) (d + 4) (dropS 3 dB2) (LV s F x2 N A4 A5 A6 x7 x8 x9 x10 c11 MT c c14 x15 x16 x17 x18 x19 x20) h2 Q noX
  refine ⟨_, e11, (fun q => nomatch q), _, by rw [em]; rfl, by rw [iL_len]; unfold cnt; split <;> (first | lia | omega), _, e14, (fun q => nomatch q), _, by rw [eR2]; rfl, by rw [iL_len]; (first | lia | omega), ?_⟩
  rw [iL_len, iL_len]
  refine ⟨fun t => ?_, fun t => ?_⟩
  · have t : (L.length : Int) < (cnt L b : Nat) := cgt_t.mp t
    have hb : b = true := by unfold cnt at t; by_cases q : b = true; exact q; rw [if_neg q] at t; (first | lia | omega)
    refine ⟨_, e14, (fun q => nomatch q), ⟨_, eR2⟩, _, eR2, hlen, ?_⟩
    refine cont _ (u2.trans (.set (by simp))) ?_
    rw [hset_same]
    have e1 : cnt L b = L.length + 1 := by unfold cnt; rw [if_pos hb]
    rw [e1, iL_succ]
    have : rsd L c L.length = 1 := by unfold rsd; rw [if_neg (Nat.lt_irrefl _)]
    rw [this]
  · have t : ((cnt L b : Nat) : Int) ≤ L.length := cgt_f.mp t
    have hb : ¬ b = true := fun q => by unfold cnt at t; rw [if_pos q] at t; (first | lia | omega)
    refine cont h2 u2 ?_
    have e1 : cnt L b = L.length := by unfold cnt; rw [if_neg hb]; rfl
    rw [e1]; exact eR2
noncomputable def dP (p : Int × Int) : PyData := .tuple [.int p.1, .int p.2]
theorem canLay_dP : ∀ ps : List (Int × Int), PyData.canLayAll0 (ps.map dP) = true
  | [] => rfl
  | p :: r => by simp [PyData.canLayAll0, PyData.canLay0, dP, canLay_dP r]
theorem depth_dP : ∀ ps : List (Int × Int), PyData.depthAll (ps.map dP) ≤ 1
  | [] => Nat.zero_le _
  | p :: r => by have := depth_dP r; simp [PyData.depthAll, PyData.depth, dP]; (first | lia | omega)
theorem pairs_rd {h : HP} {S : Addr} {rs : List (Addr × Int × Int)} (e : h S = some (.list (rs.map fun q => .ref q.1))) (t : ∀ q ∈ rs, h q.1 = some (.tup [.int q.2.1, .int q.2.2])) : Rd h (.ref S) (.list ((rs.map (·.2)).map dP)) := by
  refine .list e (rdL_of _ _ (by simp) fun j v d hv hd => ?_)
  rw [List.getElem?_map] at hv hd
  rw [List.getElem?_map] at hd
  obtain ⟨q, hq, rfl⟩ := Option.map_eq_some_iff.mp hv
  rw [hq] at hd
  cases hd
  exact .tup (t q (List.mem_of_getElem? hq)) (.cons (.int _) (.cons (.int _) .nil))
noncomputable def leP (a b : Int × Int) : Prop := a.1 * 1000 + a.2 ≤ b.1 * 1000 + b.2
theorem sorted_same {rs rs' ss ss' : List (Addr × Int × Int)} (h1 : rs'.Perm rs) (h2 : ss'.Perm ss) (hp : (rs.map (·.2)).Perm (ss.map (·.2))) (s1 : rs'.Pairwise fun a b => a.2.1 * 1000 + a.2.2 ≤ b.2.1 * 1000 + b.2.2) (s2 : ss'.Pairwise fun a b => a.2.1 * 1000 + a.2.2 ≤ b.2.1 * 1000 + b.2.2)
    (hb : ∀ p ∈ rs.map (·.2), p.2.natAbs < 500) : rs'.map (·.2) = ss'.map (·.2) := by
  have q1 : (rs'.map (·.2)).Perm (rs.map (·.2)) := h1.map _
  have q2 : (rs'.map (·.2)).Perm (ss'.map (·.2)) := (q1.trans hp).trans (h2.map _).symm
  refine List.Perm.eq_of_pairwise (le := leP) (fun a b ha hb' k1 k2 => ?_) (List.pairwise_map.mpr s1) (List.pairwise_map.mpr s2) q2
  obtain ⟨b1, b3⟩ := ab500 (hb a (q1.mem_iff.mp ha))
  obtain ⟨b2, b4⟩ := ab500 (hb b (q1.mem_iff.mp (q2.mem_iff.mpr hb')))
  clear q1 q2 hb ha hb' hp h1 h2 s1 s2
  unfold leP at k1 k2
  obtain ⟨a1, a2⟩ := a
  obtain ⟨b1', b2'⟩ := b
  simp only at *
  rw [show a1 = b1' by (first | lia | omega), show a2 = b2' by (first | lia | omega)]
theorem end_exec {w mean mg mb} {d : Nat} {h : HP} {A4 MT : Addr} {L : List TR} {b : Bool} {N : Nat} {rs : List (Addr × Int × Int)} {f : Nat → Int × Int} {z : Nat → Nat} {s F A5 A6 c11 c14 : Addr} {x2 x7 x8 x9 x10 x13 x15 x16 x17 x18 x19 x20 : V} (G : GoodL L) (hL : 1 ≤ L.length ∧ L.length ≤ 3) (hN : N = pp (moL L) (cnt L b)) (hs : N ≤ 40000) (tab : h 96 = some .tab)
    (e4 : h A4 = some (.list (L.map fun t => V.int (t.1 : Nat)))) (P : PairsAt h MT rs (metL f (2 ^ L.length)))
    (hz : ∀ c, c < 2 ^ L.length → RightX (cnt L b) (rsd L c) (moL L) (z c)) (hf : ∀ c, c < 2 ^ L.length → gN (f c).1 (f c).2 = N ∧ In N (z c) (f c).1 (f c).2) :
    exec (gg w mean mg mb) (d + 1) (dropS 11 m_law) [.ref s, .ref F, x2, .int N, .ref A4, .ref A5, .ref A6, x7, x8, x9, x10, .cell c11, .ref MT, x13, .cell c14, x15, x16, x17, x18, x19, x20] h (fun o _ h => o = .ret (.bool true) ∧ h 96 = some .tab) noX := by
  subst hN
  have hperm := met_perm G hL.1 hs hz hf
  have hlen : rs.length = 4 * 2 ^ L.length := by
    rw [P.len]
    have : ∀ k, (metL f k).length = 4 * k := fun k => by
      induction k with
      | zero => rfl
      | succ k ih => rw [metL_succ, List.length_append, ih]; show 4 * k + 4 = _; (first | lia | omega)
    exact this _
  have h2 : 2 ≤ 2 ^ L.length ∧ 2 ^ L.length ≤ 8 := ⟨by have := Nat.pow_le_pow_right (show 0 < 2 by decide) hL.1; (first | lia | omega), by have := Nat.pow_le_pow_right (show 0 < 2 by decide) hL.2; (first | lia | omega)⟩
  have hbW : ∀ p ∈ wL (pp (moL L) (cnt L b) : Nat) (L.map (·.1)) 403, p.2.natAbs < 500 := fun p hp => by
    have := le200 (x := p.2) (y := p.1) ((gN_swap _ _).trans ((mem_wL (by (first | lia | omega))).mp hp).1) (by (first | lia | omega))
    (first | lia | omega)
  have hbM : ∀ p ∈ rs.map (·.2), p.2.natAbs < 500 := fun p hp => by rw [P.m] at hp; exact hbW p (hperm.mem_iff.mp hp)
  refine ⟨rs, by rw [P.e]; rfl, by (first | lia | omega), by (first | lia | omega), fun q hq => ⟨P.t q hq, hbM q.2 (List.mem_map.mpr ⟨q, hq, rfl⟩)⟩, fun rs' hp1 hs1 S1 n1 => ?_⟩
  have u1 : Upto [] h (hset h S1 (.list (rs'.map fun q => .ref q.1))) := .new n1
  have P1e : hset h S1 (.list (rs'.map fun q => .ref q.1)) S1 = some (.list (rs'.map fun q => .ref q.1)) := hset_same
  have P1t : ∀ q ∈ rs', hset h S1 (.list (rs'.map fun q => .ref q.1)) q.1 = some (.tup [.int q.2.1, .int q.2.2]) := fun q hq => u1.at (P.t q (hp1.mem_iff.mp hq))
  generalize hset h S1 (.list (rs'.map fun q => .ref q.1)) = h1 at *
  have e41 : h1 A4 = some (.list ((L.map (·.1)).map fun p => V.int (p : Nat))) := by rw [u1.at e4, List.map_map]; rfl
  refine call_l_ways (ways_exec ⟨by (first | lia | omega), by (first | lia | omega)⟩ e41 (fun p hp => by obtain ⟨t, ht, rfl⟩ := List.mem_map.mp hp; have := (p11 (G.ok t ht).p).1; (first | lia | omega)) (by rw [List.length_map]; (first | lia | omega)) fun h3 W ws u3 PW => ?_)
  have hlW : ws.length = rs.length := by rw [PW.len, ← hperm.length_eq, ← P.len]
  refine ⟨ws, by rw [PW.e]; rfl, by (first | lia | omega), by (first | lia | omega), fun q hq => ⟨PW.t q hq, hbW q.2 (by rw [← PW.m]; exact List.mem_map.mpr ⟨q, hq, rfl⟩)⟩, fun ws' hp2 hs2 S2 n2 => ?_⟩
  have u4 : Upto [] h3 (hset h3 S2 (.list (ws'.map fun q => .ref q.1))) := .new n2
  have P2e : hset h3 S2 (.list (ws'.map fun q => .ref q.1)) S2 = some (.list (ws'.map fun q => .ref q.1)) := hset_same
  have P2t : ∀ q ∈ ws', hset h3 S2 (.list (ws'.map fun q => .ref q.1)) q.1 = some (.tup [.int q.2.1, .int q.2.2]) := fun q hq => u4.at (PW.t q (hp2.mem_iff.mp hq))
  have same := sorted_same hp1 hp2 (by rw [P.m, PW.m]; exact hperm) hs1 hs2 hbM
  have r1 := pairs_rd (u4.at (u3.at P1e)) fun q hq => u4.at (u3.at (P1t q hq))
  have r2 := pairs_rd P2e P2t
  rw [← same] at r2
  exact cmpR_eq r1 r2 (shaped_of (canLay_dP _) (depth_dP _)) ⟨rfl, u4.at (u3.at (u1.at tab))⟩
theorem choices_exec {w mean mg mb} {d : Nat} {h : HP} {s F A4 A5 A6 c11 c14 MT Mm : Addr} {L : List TR} {b : Bool} {N : Nat} {v : V} {x2 x7 x8 x9 x10 x13 x15 x16 x17 x18 x19 x20 : V} (G : GoodL L) (M : ModR (cnt L b) (moL L) 16) (hN : N = pp (moL L) (cnt L b)) (hs : N ≤ 40000) (h5 : 5 ≤ N) (hL : 1 ≤ L.length ∧ L.length ≤ 3)
    (C : CT h A4 A5 A6 c11 Mm L b) (e14 : h c14 = some (.cell v)) (d14 : c14 ≠ c11) (eM : h MT = some (.list [])) (n4 : A4 ≠ MT) (n5 : A5 ≠ MT) (n6 : A6 ≠ MT) (nm : Mm ≠ MT) {Q : Out → List V → HP → Prop} {X : XT}
    (hQ : ∀ x7 x13 x15 x16 x17 x18 x19 x20 rs (f : Nat → Int × Int) (z : Nat → Nat) h', h' 96 = some .tab → h' A4 = some (.list (L.map fun t => V.int (t.1 : Nat))) → PairsAt h' MT rs (metL f (2 ^ L.length)) →
      (∀ c, c < 2 ^ L.length → RightX (cnt L b) (rsd L c) (moL L) (z c)) → (∀ c, c < 2 ^ L.length → gN (f c).1 (f c).2 = N ∧ In N (z c) (f c).1 (f c).2) →
      Q .next [.ref s, .ref F, x2, .int N, .ref A4, .ref A5, .ref A6, x7, x8, x9, x10, .cell c11, .ref MT, x13, .cell c14, x15, x16, x17, x18, x19, x20] h') :
    exec (gg w mean mg mb) (d + 4) (seq1 (dropS 10 m_law)) [.ref s, .ref F, x2, .int N, .ref A4, .ref A5, .ref A6, x7, x8, x9, x10, .cell c11, .ref MT, x13, .cell c14, x15, x16, x17, x18, x19, x20] h Q X := by
  have h2 : 2 ^ L.length ≤ 8 := by have := Nat.pow_le_pow_right (show 0 < 2 by decide) hL.2; (first | lia | omega)
  obtain ⟨pw, pok⟩ := powE8 (q := 2) (e := L.length) (by decide) (by (first | lia | omega))
  have pw : intOp 2 ((L.length : Nat) : Int) .pow = ((2 ^ L.length : Nat) : Int) := pw
  generalize 2 ^ L.length = W at *
  refine ⟨_, by rw [C.e4]; rfl, by rw [List.length_map]; (first | lia | omega), ?_⟩
  rw [List.length_map]
  have hc14 : c14 ≠ MT := fun q => by rw [q, eM] at e14; cases e14
  have hc11 : c11 ≠ MT := fun q => by have := C.e11; rw [q, eM] at this; cases this
  have ht : 96 ≠ MT := fun q => by have := C.tab; rw [q, eM] at this; cases this
  have no : ∀ {a : Addr} {o : O}, h a = some o → a ≠ MT → (∀ v, o ≠ .cell v) → a ∉ [c14, MT] := fun {a o} e n1 n2 q => by
    rcases List.mem_cons.mp q with rfl | q
    · rw [e14] at e; exact n2 _ (Option.some.inj e).symm
    · exact n1 (List.mem_singleton.mp q)
  refine ⟨pok, (show (1 : Int) ≠ 0 by decide), ?_, ?_⟩
  · show Builtin.Range.small 0 (intOp 2 (L.length : Nat) .pow) 1 = true
    rw [pw]
    exact small_one (by decide) (by decide) (by (first | lia | omega)) (by (first | lia | omega))
  refine forUp (l := [.ref s, .ref F, x2, .int N, .ref A4, .ref A5, .ref A6, x7, x8, x9, x10, .cell c11, .ref MT, x13, .cell c14, x15, x16, x17, x18, x19, x20]) W (by show W = (intOp 2 ((L.length : Nat) : Int) .pow - 0).toNat; rw [pw]; (first | lia | omega))
    (fun k l h' => ∃ (x7 x13 x15 x16 x17 x18 x19 x20 v : V) (rs : List (Addr × Int × Int)) (f : Nat → Int × Int) (z : Nat → Nat), l = [.ref s, .ref F, x2, .int N, .ref A4, .ref A5, .ref A6, x7, x8, x9, x10, .cell c11, .ref MT, x13, .cell c14, x15, x16, x17, x18, x19, x20] ∧ Upto [c14, MT] h h' ∧ h' c14 = some (.cell v) ∧ PairsAt h' MT rs (metL f k) ∧
      (∀ c, c < k → RightX (cnt L b) (rsd L c) (moL L) (z c)) ∧ (∀ c, c < k → gN (f c).1 (f c).2 = N ∧ In N (z c) (f c).1 (f c).2))
    ⟨x7, x13, x15, x16, x17, x18, x19, x20, v, [], fun _ => (0, 0), fun _ => 0, rfl, .refl, e14, ⟨eM, (fun _ q => nomatch q), rfl⟩, fun c q => absurd q (Nat.not_lt_zero _), fun c q => absurd q (Nat.not_lt_zero _)⟩ ?_ ?_
  · intro k l h' hk qz165
    refine Gen fun Gq9 back => ?_
    rcases qz165 with ⟨x7, x13, x15, x16, x17, x18, x19, x20, v, rs, f, z, hz166, u, e14', P, hz, hf⟩
    refine back ?_
    clear back
    clear Gq9
    subst hz166
    have e0 : (0 : Int) + (k : Nat) = (k : Nat) := by (first | lia | omega)
    have C' : CT h' A4 A5 A6 c11 Mm L b := ⟨u.at C.e4 (no C.e4 n4 fun v => by intro q; cases q), u.at C.e5 (no C.e5 n5 fun v => by intro q; cases q), u.at C.e6 (no C.e6 n6 fun v => by intro q; cases q), u.at C.tab (no C.tab ht fun v => by intro q; cases q), u.at C.e11 (by simp [Ne.symm d14, hc11]), u.at C.em (no C.em nm fun v => by intro q; cases q)⟩
    have hlen : (metL f k).length ≤ 1000 := by
      have : ∀ k, (metL f k).length = 4 * k := fun k => by
        induction k with
        | zero => rfl
        | succ k ih => rw [metL_succ, List.length_append, ih]; show 4 * k + 4 = _; (first | lia | omega)
      rw [this]; (first | lia | omega)
    show exec (gg w mean mg mb) (d + 4) dB2 (LV s F x2 N A4 A5 A6 x7 x8 x9 x10 c11 MT (0 + (k : Nat)) c14 x15 x16 x17 x18 x19 x20) h' _ noX
    rw [e0]
    refine choice_exec G M hN hs h5 hL.2 C' e14' d14 P hlen fun x7 x15 x16 x17 x18 x19 x20 x y z' rs' h3 u3 hv3 hz' hg hi P3 => ?_
    obtain ⟨v3, hv3⟩ := hv3
    refine ⟨x7, _, x15, x16, x17, x18, x19, x20, v3, rs', (fun c => if c = k then (x, y) else f c), (fun c => if c = k then z' else z c), rfl, u.trans u3, hv3, ?_, fun c hc => ?_, fun c hc => ?_⟩
    · have hm : metL (fun c => if c = k then (x, y) else f c) k = metL f k := by
        unfold metL
        rw [List.flatMap_def, List.flatMap_def]
        congr 1
        refine List.map_congr_left fun c hc => ?_
        show four (if c = k then (x, y) else f c) = four (f c)
        rw [if_neg (by have := List.mem_range.mp hc; (first | lia | omega))]
      rw [metL_succ, hm]
      show PairsAt h3 MT rs' (metL f k ++ four (if k = k then (x, y) else f k))
      rw [if_pos rfl]; exact P3
    · show RightX (cnt L b) (rsd L c) (moL L) (if c = k then z' else z c)
      by_cases q : c = k
      · rw [if_pos q, q]; exact hz'
      · rw [if_neg q]; exact hz c (by (first | lia | omega))
    · show gN (if c = k then (x, y) else f c).1 (if c = k then (x, y) else f c).2 = N ∧ In N (if c = k then z' else z c : Nat) (if c = k then (x, y) else f c).1 (if c = k then (x, y) else f c).2
      by_cases q : c = k
      · rw [if_pos q, if_pos q]; exact ⟨hg, hi⟩
      · rw [if_neg q, if_neg q]; exact hf c (by (first | lia | omega))
  · intro l h' qz167
    refine Gen fun Gq9 back => ?_
    rcases qz167 with ⟨x7, x13, x15, x16, x17, x18, x19, x20, v, rs, f, z, hz168, u, _, P, hz, hf⟩
    refine back ?_
    clear back
    clear Gq9
    subst hz168
    exact hQ _ _ _ _ _ _ _ _ rs f z h' (u.at C.tab (no C.tab ht fun v => by intro q; cases q)) (u.at C.e4 (no C.e4 n4 fun v => by intro q; cases q)) P hz hf
theorem after_exec {w mean mg mb} {d : Nat} {h : HP} {s F A4 A5 A6 c11 c14 : Addr} {ns : List Int} {L : List TR} {v v' : V} {x2 x7 x8 x9 x10 : V} (hl : ns.length ≤ 63) (S : LS h s F A4 A5 A6 ns L) (G : GoodL L) (hs : pp (moL L) L.length ≤ 20000) (hL : 1 ≤ L.length ∧ L.length ≤ 3) (e11 : h c11 = some (.cell v)) (e14 : h c14 = some (.cell v')) (d14 : c14 ≠ c11) :
    exec (gg w mean mg mb) (d + 4) (dropS 7 m_law) [.ref s, .ref F, x2, .int (pp (moL L) L.length : Nat), .ref A4, .ref A5, .ref A6, x7, x8, x9, x10, .cell c11, .unb, .unb, .cell c14, .unb, .unb, .unb, .unb, .unb, .unb] h (fun o _ h => o = .ret (.bool true) ∧ h 96 = some .tab) noX := by
  have hlen : ∀ (f : TR → V), (L.map f).length ≤ sizeLine := fun f => by rw [List.length_map, sizeLine_eq]; (first | lia | omega)
  refine ⟨_, by rw [S.e5]; rfl, hlen _, fun Mm nM => ?_⟩
  have hM11 : c11 ≠ Mm := fun q => by rw [q, nM] at e11; cases e11
  have hM14 : c14 ≠ Mm := fun q => by rw [q, nM] at e14; cases e14
  refine ⟨⟨_, by rw [hset_ne hM11]; exact e11⟩, ?_⟩
  have old : ∀ {a : Addr} {o : O}, h a = some o → a ≠ Mm := fun {a o} e q => by rw [q, nM] at e; cases e
  have nc : ∀ {a : Addr} {o : O}, h a = some o → (∀ v, o ≠ .cell v) → a ≠ c11 := fun {a o} e n q => by rw [q, e11] at e; exact n _ (Option.some.inj e).symm
  have u1 : Upto [c11] h (hset (hset h Mm (.list (L.map fun t => V.int (tq t : Nat)))) c11 (.cell (.ref Mm))) := ((Upto.new nM : Upto [c11] h _)).trans (.set (by simp))
  have k1 : ∀ {a : Addr} {o : O}, h a = some o → (∀ v, o ≠ .cell v) → a ∉ [c11] := fun {a o} e n q => nc e n (List.mem_singleton.mp q)
  have f11 : hset (hset h Mm (.list (L.map fun t => V.int (tq t : Nat)))) c11 (.cell (.ref Mm)) c11 = some (.cell (.ref Mm)) := hset_same
  have fM : hset (hset h Mm (.list (L.map fun t => V.int (tq t : Nat)))) c11 (.cell (.ref Mm)) Mm = some (.list (L.map fun t => V.int (tq t : Nat))) := by rw [hset_ne (Ne.symm hM11), hset_same]
  have f14 := u1.at e14 (by simp [d14])
  have fs := u1.at S.es (k1 S.es fun v => by intro q; cases q)
  have f4 := u1.at S.e4 (k1 S.e4 fun v => by intro q; cases q)
  have f5 := u1.at S.e5 (k1 S.e5 fun v => by intro q; cases q)
  have f6 := u1.at S.e6 (k1 S.e6 fun v => by intro q; cases q)
  have ft := u1.at S.tab (k1 S.tab fun v => by intro q; cases q)
  have n4 := old S.e4
  have n5 := old S.e5
  have n6 := old S.e6
  have nt := old S.tab
  generalize hset (hset h Mm (.list (L.map fun t => V.int (tq t : Nat)))) c11 (.cell (.ref Mm)) = h1 at *
  -- behind the factor 2
  have cont : ∀ (b : Bool) (h2 : HP), pp (moL L) (cnt L b) ≤ 40000 → Upto [Mm] h1 h2 → h2 Mm = some (.list (iL (fun j => (moL L j : Nat)) (cnt L b))) →
      exec (gg w mean mg mb) (d + 4) (dropS 9 m_law) [.ref s, .ref F, x2, .int (pp (moL L) (cnt L b) : Nat), .ref A4, .ref A5, .ref A6, x7, x8, x9, x10, .cell c11, .unb, .unb, .cell c14, .unb, .unb, .unb, .unb, .unb, .unb] h2 (fun o _ h => o = .ret (.bool true) ∧ h 96 = some .tab) noX := fun b h2 hb u2 em => by
    have M := G.modR (b := b) hL.1 hL.2 hb
    have h5 : 5 ≤ pp (moL L) (cnt L b) := by
      have h0 : moL L 0 = tq (atL L 0) := by unfold moL; rw [if_pos (by (first | lia | omega))]
      have := Nat.le_of_dvd (M.p0 (Nat.le_refl _)) (pp_dvd (Mo := moL L) (j := 0) (n := cnt L b) (by unfold cnt; (first | lia | omega)))
      have := (G.ok _ (atL_mem (L := L) (j := 0) (by (first | lia | omega)))).five
      (first | lia | omega)
    refine ⟨Nat.zero_le _, fun MT nT => ?_⟩
    have uT : Upto [] h2 (hset h2 MT (.list [])) := .new nT
    have C : CT (hset h2 MT (.list [])) A4 A5 A6 c11 Mm L b := ⟨uT.at (u2.at f4 (by simp [n4])), uT.at (u2.at f5 (by simp [n5])), uT.at (u2.at f6 (by simp [n6])), uT.at (u2.at ft (by simp [nt])), uT.at (u2.at f11 (by simp [hM11])), uT.at em⟩
    have oT : ∀ {a : Addr} {o : O}, h2 a = some o → a ≠ MT := fun {a o} e q => by rw [q, nT] at e; cases e
    refine seqE (seq1 (dropS 10 m_law)) (dropS 11 m_law) ?_
    refine choices_exec G M rfl hb h5 hL C (uT.at (u2.at f14 (by simp [hM14]))) d14 hset_same (oT (u2.at f4 (by simp [n4]))) (oT (u2.at f5 (by simp [n5]))) (oT (u2.at f6 (by simp [n6]))) (oT em) fun x7 x13 x15 x16 x17 x18 x19 x20 rs f z h' t' e4' P hz hf => ?_
    exact end_exec G hL rfl hb t' e4' P hz hf
  show exec (gg w mean mg mb) (d + 4) (dropS 8 m_law) [.ref s, .ref F, x2, .int (pp (moL L) L.length : Nat), .ref A4, .ref A5, .ref A6, x7, x8, x9, x10, .cell c11, .unb, .unb, .cell c14, .unb, .unb, .unb, .unb, .unb, .unb] h1 _ noX
  refine call_l_take (take_exec (pl := 6) fs hl (by decide) fun v => ⟨(show (2 : Int) ≠ 0 by decide), fun _ => ?_, fun _ => ?_⟩)
  · refine ⟨mul_small_left (by (first | lia | omega)), ?_⟩
    refine ⟨_, f11, (fun q => nomatch q), ⟨_, fM⟩, _, fM, hlen _, ?_⟩
    have e2 : pp (moL L) (cnt L true) = pp (moL L) L.length * 2 := by
      show pp (moL L) L.length * moL L L.length = _
      have : moL L L.length = 2 := by unfold moL; rw [if_neg (Nat.lt_irrefl _)]
      rw [this]
    have := cont true (hset h1 Mm (.list ((L.map fun t => V.int (tq t : Nat)) ++ [.int 2]))) (by (first | lia | omega)) (.set (by simp)) (by rw [hset_same, ← mod_iL L true]; rfl)
    rw [e2, Int.natCast_mul] at this
    exact this
  · exact cont false h1 (show pp (moL L) L.length ≤ 40000 by (first | lia | omega)) .refl (by rw [fM, ← mod_iL L false, if_neg (by decide), List.append_nil])
theorem law_exec {w mean mg mb} {d : Nat} {ns : List Int} (hl : ns.length ≤ 63) (s : Addr) (hs : s ≠ 96) :
    enterC [(false, V.ref s), (false, .unb), (false, .unb), (false, .unb), (false, .unb), (false, .unb), (false, .unb), (false, .unb), (false, .unb), (false, .unb), (false, .unb), (true, .unb), (false, .unb), (false, .unb), (true, .unb), (false, .unb), (false, .unb), (false, .unb), (false, .unb), (false, .unb), (false, .unb)] (hp0 s 96 ns) fun l h0 => exec (gg w mean mg mb) (d + 4) m_law l h0 (fun o _ h => o = .ret (.bool true) ∧ h 96 = some .tab) noX := by
  have es : hp0 s 96 ns s = some (.ro (ns.map .int)) := by unfold hp0; rw [if_pos rfl]
  have et : hp0 s 96 ns 96 = some .tab := by unfold hp0; rw [if_neg (Ne.symm hs), if_pos rfl]
  generalize hp0 s 96 ns = hs0 at *
  intro c11 n1 c14 n2
  have u1 : Upto [] hs0 (hset hs0 c11 (.cell .unb)) := .new n1
  have e1 : hset hs0 c11 (.cell .unb) c11 = some (.cell .unb) := hset_same
  generalize hset hs0 c11 (.cell .unb) = h1 at *
  have u2 : Upto [] h1 (hset h1 c14 (.cell .unb)) := .new n2
  have e2 : hset h1 c14 (.cell .unb) c14 = some (.cell .unb) := hset_same
  have d12 := ne_of_none n2 e1
  have e1 := u2.at e1
  have u2 := u1.trans u2
  show exec (gg w mean mg mb) (d + 4) m_law [.ref s, .unb, .unb, .unb, .unb, .unb, .unb, .unb, .unb, .unb, .unb, .cell c11, .unb, .unb, .cell c14, .unb, .unb, .unb, .unb, .unb, .unb] (hset h1 c14 (.cell .unb)) (fun o _ h => o = .ret (.bool true) ∧ h 96 = some .tab) noX
  generalize hset h1 c14 (.cell .unb) = h2 at *
  have es := u2.at es
  have et := u2.at et
  clear u1 u2 n1 n2
  refine ⟨Nat.zero_le _, fun F nF => ?_⟩
  have u3 : Upto [] h2 (hset h2 F (.list [])) := .new nF
  have eF : hset h2 F (.list []) F = some (.list []) := hset_same
  have es := u3.at es
  have et := u3.at et
  have e1 := u3.at e1
  have e2 := u3.at e2
  show exec (gg w mean mg mb) (d + 4) (dropS 1 m_law) [.ref s, .ref F, .unb, .unb, .unb, .unb, .unb, .unb, .unb, .unb, .unb, .cell c11, .unb, .unb, .cell c14, .unb, .unb, .unb, .unb, .unb, .unb] (hset h2 F (.list [])) _ noX
  generalize hset h2 F (.list []) = h3 at *
  refine seqE (seq1 (dropS 1 m_law)) (dropS 2 m_law) ?_
  refine field_exec (d := d + 3) (rest := [.unb, .unb, .unb, .unb, .unb, .unb, .unb, .unb, .cell c11, .unb, .unb, .cell c14, .unb, .unb, .unb, .unb, .unb, .unb]) eF fun x2 h4 u4 eF4 => ?_
  have nf : ∀ {a : Addr} {o : O}, h3 a = some o → (∀ v, o ≠ .list v) → a ∉ [F] := fun {a o} e n q => by rw [List.mem_singleton.mp q, eF] at e; exact n _ (Option.some.inj e).symm
  have es := u4.at es (nf es fun v => by intro q; cases q)
  have et := u4.at et (nf et fun v => by intro q; cases q)
  have e1 := u4.at e1 (nf e1 fun v => by intro q; cases q)
  have e2 := u4.at e2 (nf e2 fun v => by intro q; cases q)
  clear u3 u4 eF nf nF
  refine ⟨Nat.zero_le _, fun A4 n4 => ⟨Nat.zero_le _, fun A5 n5 => ⟨Nat.zero_le _, fun A6 n6 => ?_⟩⟩⟩
  have v4 : Upto [] h4 (hset h4 A4 (.list [])) := .new n4
  have a4 : hset h4 A4 (.list []) A4 = some (.list []) := hset_same
  have dF4 := ne_of_none n4 eF4
  have v5 : Upto [] (hset h4 A4 (.list [])) (hset (hset h4 A4 (.list [])) A5 (.list [])) := .new n5
  have a5 : hset (hset h4 A4 (.list [])) A5 (.list []) A5 = some (.list []) := hset_same
  have d45 := ne_of_none n5 a4
  have dF5 := ne_of_none n5 (v4.at eF4)
  have a4 := v5.at a4
  have v5 := v4.trans v5
  have v6 : Upto [] (hset (hset h4 A4 (.list [])) A5 (.list [])) (hset (hset (hset h4 A4 (.list [])) A5 (.list [])) A6 (.list [])) := .new n6
  have a6 : hset (hset (hset h4 A4 (.list [])) A5 (.list [])) A6 (.list []) A6 = some (.list []) := hset_same
  have d46 := ne_of_none n6 a4
  have d56 := ne_of_none n6 a5
  have dF6 := ne_of_none n6 (v5.at eF4)
  have a4 := v6.at a4
  have a5 := v6.at a5
  have v6 := v5.trans v6
  have S : LS (hset (hset (hset h4 A4 (.list [])) A5 (.list [])) A6 (.list [])) s F A4 A5 A6 ns [] := ⟨v6.at es, v6.at eF4, a4, a5, a6, v6.at et, d45, d46, d56, dF4, dF5, dF6⟩
  have e1 := v6.at e1
  have e2 := v6.at e2
  show exec (gg w mean mg mb) (d + 4) (dropS 6 m_law) [.ref s, .ref F, x2, .int 1, .ref A4, .ref A5, .ref A6, .unb, .unb, .unb, .unb, .cell c11, .unb, .unb, .cell c14, .unb, .unb, .unb, .unb, .unb, .unb] (hset (hset (hset h4 A4 (.list [])) A5 (.list [])) A6 (.list [])) _ noX
  generalize hset (hset (hset h4 A4 (.list [])) A5 (.list [])) A6 (.list []) = h5 at *
  refine seqE (seq1 (dropS 6 m_law)) (dropS 7 m_law) ?_
  refine draws_exec (rest := [.cell c11, .unb, .unb, .cell c14, .unb, .unb, .unb, .unb, .unb, .unb]) S hl fun x2 x7 x8 x9 x10 L h6 u6 S6 G hs6 hl3 hne => ?_
  have nf : ∀ {a : Addr} {w : V}, h5 a = some (.cell w) → a ∉ [A4, A5, A6] := fun {a w} e q => by
    simp only [List.mem_cons, List.not_mem_nil, or_false] at q
    rcases q with rfl | rfl | rfl
    · rw [S.e4] at e; cases e
    · rw [S.e5] at e; cases e
    · rw [S.e6] at e; cases e
  have hL1 : 1 ≤ L.length := by cases L with | nil => exact absurd rfl hne | cons _ _ => exact Nat.succ_le_succ (Nat.zero_le _)
  exact after_exec hl S6 G hs6 ⟨hL1, hl3⟩ (u6.at e1 (nf e1)) (u6.at e2 (nf e2)) (Ne.symm d12)
end Mine
namespace Mine
noncomputable abbrev top.tw10005945817407372193 : Unit := ()
noncomputable abbrev top.tw10090393231696489298 : Unit := ()
noncomputable abbrev top.tw10187264123177260123 : Unit := ()
noncomputable abbrev top.tw10404823597219466188 : Unit := ()
noncomputable abbrev top.tw1047907039808853306 : Unit := ()
noncomputable abbrev top.tw10567129059001840431 : Unit := ()
noncomputable abbrev top.tw10773188271377071773 : Unit := ()
noncomputable abbrev top.tw10996937224433265937 : Unit := ()
noncomputable abbrev top.tw11279390925490393535 : Unit := ()
noncomputable abbrev top.tw11334415319851112604 : Unit := ()
noncomputable abbrev top.tw1139600151236580504 : Unit := ()
noncomputable abbrev top.tw11430207588045935325 : Unit := ()
noncomputable abbrev top.tw11459358961799972967 : Unit := ()
noncomputable abbrev top.tw1149218181149386328 : Unit := ()
noncomputable abbrev top.tw11858546649754279707 : Unit := ()
noncomputable abbrev top.tw12168321908782658268 : Unit := ()
noncomputable abbrev top.tw1245559373397905713 : Unit := ()
noncomputable abbrev top.tw12540527436937284434 : Unit := ()
noncomputable abbrev top.tw12819366960792805191 : Unit := ()
noncomputable abbrev top.tw1309063911425228581 : Unit := ()
noncomputable abbrev top.tw13091174067606910046 : Unit := ()
noncomputable abbrev top.tw13120753694373217308 : Unit := ()
noncomputable abbrev top.tw13160728816969591200 : Unit := ()
noncomputable abbrev top.tw13303987763403120937 : Unit := ()
noncomputable abbrev top.tw13359135706311490777 : Unit := ()
noncomputable abbrev top.tw13369591340354186047 : Unit := ()
noncomputable abbrev top.tw14349089067433371257 : Unit := ()
noncomputable abbrev top.tw14597223018079223185 : Unit := ()
noncomputable abbrev top.tw14608685727046917156 : Unit := ()
noncomputable abbrev top.tw14823308797102314842 : Unit := ()
noncomputable abbrev top.tw14844258585337548828 : Unit := ()
noncomputable abbrev top.tw1485072716484762690 : Unit := ()
noncomputable abbrev top.tw14861896470697024400 : Unit := ()
noncomputable abbrev top.tw14872865874466782214 : Unit := ()
noncomputable abbrev top.tw1492452104121835379 : Unit := ()
noncomputable abbrev top.tw14987219478266130788 : Unit := ()
noncomputable abbrev top.tw15169761463676818070 : Unit := ()
noncomputable abbrev top.tw15177526630643400193 : Unit := ()
noncomputable abbrev top.tw15240379268576122478 : Unit := ()
noncomputable abbrev top.tw15362295582089109014 : Unit := ()
noncomputable abbrev top.tw15646934709686841381 : Unit := ()
noncomputable abbrev top.tw15878805988109762761 : Unit := ()
noncomputable abbrev top.tw16058212318047004132 : Unit := ()
noncomputable abbrev top.tw16204670001084760307 : Unit := ()
noncomputable abbrev top.tw16420938139371093754 : Unit := ()
noncomputable abbrev top.tw16666122058527598403 : Unit := ()
noncomputable abbrev top.tw16759092144687519636 : Unit := ()
noncomputable abbrev top.tw16782997733028217545 : Unit := ()
noncomputable abbrev top.tw16840627104734473223 : Unit := ()
noncomputable abbrev top.tw16990059558566049827 : Unit := ()
noncomputable abbrev top.tw17177869089781658578 : Unit := ()
noncomputable abbrev top.tw1736530178072539846 : Unit := ()
noncomputable abbrev top.tw17486766287000646611 : Unit := ()
noncomputable abbrev top.tw17555251805378815213 : Unit := ()
noncomputable abbrev top.tw17810072253543177317 : Unit := ()
noncomputable abbrev top.tw17886615442053742456 : Unit := ()
noncomputable abbrev top.tw1814787853859245837 : Unit := ()
noncomputable abbrev top.tw18164388396756303480 : Unit := ()
noncomputable abbrev top.tw18194552166560175392 : Unit := ()
noncomputable abbrev top.tw1869187583165140508 : Unit := ()
noncomputable abbrev top.tw1886144042066472794 : Unit := ()
noncomputable abbrev top.tw2057334267981633021 : Unit := ()
noncomputable abbrev top.tw2218668502564051296 : Unit := ()
noncomputable abbrev top.tw2287823674025257028 : Unit := ()
noncomputable abbrev top.tw2464713573024523455 : Unit := ()
noncomputable abbrev top.tw2514443458684651071 : Unit := ()
noncomputable abbrev top.tw2731995056826638727 : Unit := ()
noncomputable abbrev top.tw2732273902793177162 : Unit := ()
noncomputable abbrev top.tw2782073688633401757 : Unit := ()
noncomputable abbrev top.tw2822501910515967889 : Unit := ()
noncomputable abbrev top.tw2835187731363253809 : Unit := ()
noncomputable abbrev top.tw2985252069258134486 : Unit := ()
noncomputable abbrev top.tw342308947776675178 : Unit := ()
noncomputable abbrev top.tw352232786441526191 : Unit := ()
noncomputable abbrev top.tw3969286963782609292 : Unit := ()
noncomputable abbrev top.tw4166218997396506358 : Unit := ()
noncomputable abbrev top.tw4186445540838780016 : Unit := ()
noncomputable abbrev top.tw4213018616267185653 : Unit := ()
noncomputable abbrev top.tw4498253355057717688 : Unit := ()
noncomputable abbrev top.tw4551080515912023512 : Unit := ()
noncomputable abbrev top.tw4571971715460732019 : Unit := ()
noncomputable abbrev top.tw4655869559712951663 : Unit := ()
noncomputable abbrev top.tw4671429814451907529 : Unit := ()
noncomputable abbrev top.tw5105846836358774362 : Unit := ()
noncomputable abbrev top.tw5303079699428457377 : Unit := ()
noncomputable abbrev top.tw5476889619067714990 : Unit := ()
noncomputable abbrev top.tw5523086135645875356 : Unit := ()
noncomputable abbrev top.tw5667650583090716360 : Unit := ()
noncomputable abbrev top.tw575894324575664597 : Unit := ()
noncomputable abbrev top.tw5766051744304087583 : Unit := ()
noncomputable abbrev top.tw5868845118606482295 : Unit := ()
noncomputable abbrev top.tw609860122456452193 : Unit := ()
noncomputable abbrev top.tw6187478851450931391 : Unit := ()
noncomputable abbrev top.tw6189019428745762675 : Unit := ()
noncomputable abbrev top.tw6286779285267259847 : Unit := ()
noncomputable abbrev top.tw6473336682457920079 : Unit := ()
noncomputable abbrev top.tw6491118196486620199 : Unit := ()
noncomputable abbrev top.tw6734571538005800608 : Unit := ()
noncomputable abbrev top.tw6812286434817487243 : Unit := ()
noncomputable abbrev top.tw6898770573198911631 : Unit := ()
noncomputable abbrev top.tw6906291655842520137 : Unit := ()
noncomputable abbrev top.tw705360758644809490 : Unit := ()
noncomputable abbrev top.tw72247145696351765 : Unit := ()
noncomputable abbrev top.tw7297446738713254254 : Unit := ()
noncomputable abbrev top.tw7458633546980236471 : Unit := ()
noncomputable abbrev top.tw7557910624720293991 : Unit := ()
noncomputable abbrev top.tw7740461459972228597 : Unit := ()
noncomputable abbrev top.tw788273225186049534 : Unit := ()
noncomputable abbrev top.tw7990429038631628895 : Unit := ()
noncomputable abbrev top.tw814325599930780420 : Unit := ()
noncomputable abbrev top.tw8143265674769528471 : Unit := ()
noncomputable abbrev top.tw81815255157605957 : Unit := ()
noncomputable abbrev top.tw8363718466572441477 : Unit := ()
noncomputable abbrev top.tw8507776931139520737 : Unit := ()
noncomputable abbrev top.tw8598144960395782539 : Unit := ()
noncomputable abbrev top.tw864819663365544661 : Unit := ()
noncomputable abbrev top.tw8735323631387419056 : Unit := ()
noncomputable abbrev top.tw8810280945414196856 : Unit := ()
noncomputable abbrev top.tw8813761850579938390 : Unit := ()
noncomputable abbrev top.tw9068506458530023791 : Unit := ()
noncomputable abbrev top.tw908825868028484722 : Unit := ()
noncomputable abbrev top.tw9229161468869434483 : Unit := ()
noncomputable abbrev top.tw9305691244287143441 : Unit := ()
noncomputable abbrev top.tw9378254376102152143 : Unit := ()
noncomputable abbrev top.tw9437893007894698314 : Unit := ()
noncomputable abbrev top.tw956942650209027819 : Unit := ()
noncomputable abbrev top.tw9622035196765911515 : Unit := ()
noncomputable abbrev top.tw9631074621892390191 : Unit := ()
noncomputable abbrev top.tw9800703332001039478 : Unit := ()
noncomputable abbrev top.tw9913782525675966504 : Unit := ()
noncomputable abbrev S : String → Str := Str.ofString
noncomputable abbrev dT (i : Nat) : Stmt := (PySem.Challenge.rw_xv0001_08.prog.main.body).getD i (.Pass ⟨0, 0, 0, 0⟩)
noncomputable def dA (i : Nat) : Arguments := match dT i with | .FunctionDef _ a _ _ _ _ _ _ _ _ => a | _ => default
noncomputable def dB (i : Nat) : FuncBody := match dT i with | .FunctionDef _ _ b _ _ _ _ _ _ _ => .stmts b | _ => .stmts []
noncomputable def dS (i : Nat) : Scope := match dT i with | .FunctionDef _ _ _ _ _ _ s _ _ _ => s | _ => default
noncomputable def heapK (P : Params) : Frag := [(2, Obj.mk .none none (Data.dict #[]) #[]), (3, Obj.mk (Value.type "dict") none (Data.dict #[DictEntry.mk (PyData.keyHash P (S "__name__")) (Value.str (S "__name__") 165) (Value.str (S "law_xv0001_08") 369), DictEntry.mk (PyData.keyHash P (S "__doc__")) (Value.str (S "__doc__") 166) .none, DictEntry.mk (PyData.keyHash P (S "__package__")) (Value.str (S "__package__") 167) .none, DictEntry.mk (PyData.keyHash P (S "__loader__")) (Value.str (S "__loader__") 168) (Value.builtin "__main__.__loader__#opaque"), DictEntry.mk (PyData.keyHash P (S "__spec__")) (Value.str (S "__spec__") 169) .none, DictEntry.mk (PyData.keyHash P (S "__annotations__")) (Value.str (S "__annotations__") 170) (Value.ref 6), DictEntry.mk (PyData.keyHash P (S "__builtins__")) (Value.str (S "__builtins__") 171) (Value.ref 4), DictEntry.mk (PyData.keyHash P (S "__file__")) (Value.str (S "__file__") 173) (Value.str (S "/claim/cut.py") 172), DictEntry.mk (PyData.keyHash P (S "__cached__")) (Value.str (S "__cached__") 174) .none, DictEntry.mk (PyData.keyHash P (S "bit_num")) (Value.str (S "bit_num") 195) (Value.ref 21), DictEntry.mk (PyData.keyHash P (S "arygcd_i")) (Value.str (S "arygcd_i") 212) (Value.ref 28), DictEntry.mk (PyData.keyHash P (S "_ap_norm_i")) (Value.str (S "_ap_norm_i") 224) (Value.ref 35), DictEntry.mk (PyData.keyHash P (S "_n_pow_i")) (Value.str (S "_n_pow_i") 238) (Value.ref 42), DictEntry.mk (PyData.keyHash P (S "_FormAdj_i")) (Value.str (S "_FormAdj_i") 246) (Value.ref 49), DictEntry.mk (PyData.keyHash P (S "extgcd")) (Value.str (S "extgcd") 264) (Value.ref 56), DictEntry.mk (PyData.keyHash P (S "legendre")) (Value.str (S "legendre") 275) (Value.ref 63), DictEntry.mk (PyData.keyHash P (S "modsqrt")) (Value.str (S "modsqrt") 298) (Value.ref 71), DictEntry.mk (PyData.keyHash P (S "inverse")) (Value.str (S "inverse") 308) (Value.ref 78), DictEntry.mk (PyData.keyHash P (S "CRT")) (Value.str (S "CRT") 324) (Value.ref 85), DictEntry.mk (PyData.keyHash P (S "CRT_")) (Value.str (S "CRT_") 340) (Value.ref 93), DictEntry.mk (PyData.keyHash P (S "CRT_Gauss")) (Value.str (S "CRT_Gauss") 347) (Value.ref 99), DictEntry.mk (PyData.keyHash P (S "vp")) (Value.str (S "vp") 358) (Value.ref 107), DictEntry.mk (PyData.keyHash P (S "product")) (Value.str (S "product") 368) (Value.ref 115), DictEntry.mk (PyData.keyHash P (S "_law_take")) (Value.str (S "_law_take") 378) (Value.ref 122), DictEntry.mk (PyData.keyHash P (S "_law_prime")) (Value.str (S "_law_prime") 386) (Value.ref 129), DictEntry.mk (PyData.keyHash P (S "_law_ways")) (Value.str (S "_law_ways") 400) (Value.ref 136), DictEntry.mk (PyData.keyHash P (S "law")) (Value.str (S "law") 406) (Value.ref 141)] 27) #[]), (15, Obj.mk (Value.type "tuple") none (Data.seq #[]) #[]), (17, Obj.mk (Value.type "tuple") none (Data.seq #[Value.str (S "a") 192]) #[]), (18, Obj.mk (Value.type "tuple") none (Data.seq #[]) #[]), (20, Obj.mk (Value.type "code") none (Data.fields #[Value.str (S "bit_num") 189, Value.str (S "bit_num") 190, Value.str (S "/claim/cut.py") 191, Value.int 2 0, Value.int 1 0, Value.int 0 0, Value.int 0 0, Value.int 3 0, Value.ref 15, Value.bool Bool.true, Value.int 181 0, Value.ref 16, .none, Value.ref 17, Value.ref 18, Value.ref 19, Value.int 193 0, Value.int 2 0, Value.str (S "/claim/cut.py") 194]) #[]), (21, Obj.mk (Value.type "function") none (Data.func (FuncData.mk (S "bit_num") (S "bit_num") (dA 1) (dB 1) (dS 1) 3 [] .none .none .none (Value.str (S "nzmath.arygcd") 187) none (Value.ref 20) .none 0)) #[]), (22, Obj.mk (Value.type "tuple") none (Data.seq #[]) #[]), (24, Obj.mk (Value.type "tuple") none (Data.seq #[Value.str (S "a1") 199, Value.str (S "a2") 200, Value.str (S "b1") 201, Value.str (S "b2") 202, Value.str (S "ap") 203, Value.str (S "bp") 204, Value.str (S "k") 205, Value.str (S "norm_a") 206, Value.str (S "norm_b") 207, Value.str (S "s") 208, Value.str (S "t") 209]) #[]), (25, Obj.mk (Value.type "tuple") none (Data.seq #[]) #[]), (27, Obj.mk (Value.type "code") none (Data.fields #[Value.str (S "arygcd_i") 196, Value.str (S "arygcd_i") 197, Value.str (S "/claim/cut.py") 198, Value.int 7 0, Value.int 4 0, Value.int 0 0, Value.int 0 0, Value.int 3 0, Value.ref 22, Value.bool Bool.true, Value.int 181 0, Value.ref 23, .none, Value.ref 24, Value.ref 25, Value.ref 26, Value.int 210 0, Value.int 7 0, Value.str (S "/claim/cut.py") 211]) #[]), (28, Obj.mk (Value.type "function") none (Data.func (FuncData.mk (S "arygcd_i") (S "arygcd_i") (dA 2) (dB 2) (dS 2) 3 [] .none .none .none (Value.str (S "nzmath.arygcd") 187) none (Value.ref 27) .none 0)) #[]), (29, Obj.mk (Value.type "tuple") none (Data.seq #[]) #[]), (31, Obj.mk (Value.type "tuple") none (Data.seq #[Value.str (S "a") 216, Value.str (S "b") 217, Value.str (S "c") 218, Value.str (S "d") 219, Value.str (S "max_dig") 220, Value.str (S "sft_num") 221]) #[]), (32, Obj.mk (Value.type "tuple") none (Data.seq #[]) #[]), (34, Obj.mk (Value.type "code") none (Data.fields #[Value.str (S "_ap_norm_i") 213, Value.str (S "_ap_norm_i") 214, Value.str (S "/claim/cut.py") 215, Value.int 34 0, Value.int 4 0, Value.int 0 0, Value.int 0 0, Value.int 3 0, Value.ref 29, Value.bool Bool.true, Value.int 181 0, Value.ref 30, .none, Value.ref 31, Value.ref 32, Value.ref 33, Value.int 222 0, Value.int 34 0, Value.str (S "/claim/cut.py") 223]) #[]), (35, Obj.mk (Value.type "function") none (Data.func (FuncData.mk (S "_ap_norm_i") (S "_ap_norm_i") (dA 3) (dB 3) (dS 3) 3 [] .none .none .none (Value.str (S "nzmath.arygcd") 187) none (Value.ref 34) .none 0)) #[]), (36, Obj.mk (Value.type "tuple") none (Data.seq #[]) #[]), (38, Obj.mk (Value.type "tuple") none (Data.seq #[Value.str (S "a") 228, Value.str (S "b") 229, Value.str (S "n") 230, Value.str (S "x") 231, Value.str (S "y") 232, Value.str (S "i") 233, Value.str (S "x1") 234, Value.str (S "y1") 235]) #[]), (39, Obj.mk (Value.type "tuple") none (Data.seq #[]) #[]), (41, Obj.mk (Value.type "code") none (Data.fields #[Value.str (S "_n_pow_i") 225, Value.str (S "_n_pow_i") 226, Value.str (S "/claim/cut.py") 227, Value.int 43 0, Value.int 3 0, Value.int 0 0, Value.int 0 0, Value.int 3 0, Value.ref 36, Value.bool Bool.true, Value.int 181 0, Value.ref 37, .none, Value.ref 38, Value.ref 39, Value.ref 40, Value.int 236 0, Value.int 43 0, Value.str (S "/claim/cut.py") 237]) #[]), (42, Obj.mk (Value.type "function") none (Data.func (FuncData.mk (S "_n_pow_i") (S "_n_pow_i") (dA 4) (dB 4) (dS 4) 3 [] .none .none .none (Value.str (S "nzmath.arygcd") 187) none (Value.ref 41) .none 0)) #[]), (43, Obj.mk (Value.type "tuple") none (Data.seq #[]) #[]), (45, Obj.mk (Value.type "tuple") none (Data.seq #[Value.str (S "a") 242, Value.str (S "b") 243]) #[]), (46, Obj.mk (Value.type "tuple") none (Data.seq #[]) #[]), (48, Obj.mk (Value.type "code") none (Data.fields #[Value.str (S "_FormAdj_i") 239, Value.str (S "_FormAdj_i") 240, Value.str (S "/claim/cut.py") 241, Value.int 52 0, Value.int 2 0, Value.int 0 0, Value.int 0 0, Value.int 3 0, Value.ref 43, Value.bool Bool.true, Value.int 181 0, Value.ref 44, .none, Value.ref 45, Value.ref 46, Value.ref 47, Value.int 244 0, Value.int 52 0, Value.str (S "/claim/cut.py") 245]) #[]), (49, Obj.mk (Value.type "function") none (Data.func (FuncData.mk (S "_FormAdj_i") (S "_FormAdj_i") (dA 5) (dB 5) (dS 5) 3 [] .none .none .none (Value.str (S "nzmath.arygcd") 187) none (Value.ref 48) .none 0)) #[]), (50, Obj.mk (Value.type "tuple") none (Data.seq #[]) #[]), (52, Obj.mk (Value.type "tuple") none (Data.seq #[Value.str (S "x") 252, Value.str (S "y") 253, Value.str (S "a") 254, Value.str (S "b") 255, Value.str (S "g") 256, Value.str (S "u") 257, Value.str (S "v") 258, Value.str (S "w") 259, Value.str (S "q") 260, Value.str (S "t") 261]) #[]), (53, Obj.mk (Value.type "tuple") none (Data.seq #[]) #[]), (55, Obj.mk (Value.type "code") none (Data.fields #[Value.str (S "extgcd") 249, Value.str (S "extgcd") 250, Value.str (S "/claim/cut.py") 251, Value.int 60 0, Value.int 2 0, Value.int 0 0, Value.int 0 0, Value.int 3 0, Value.ref 50, Value.bool Bool.true, Value.int 181 0, Value.ref 51, .none, Value.ref 52, Value.ref 53, Value.ref 54, Value.int 262 0, Value.int 60 0, Value.str (S "/claim/cut.py") 263]) #[]), (56, Obj.mk (Value.type "function") none (Data.func (FuncData.mk (S "extgcd") (S "extgcd") (dA 7) (dB 7) (dS 7) 3 [] .none .none .none (Value.str (S "nzmath.gcd") 247) none (Value.ref 55) .none 0)) #[]), (57, Obj.mk (Value.type "tuple") none (Data.seq #[]) #[]), (59, Obj.mk (Value.type "tuple") none (Data.seq #[Value.str (S "a") 270, Value.str (S "m") 271, Value.str (S "symbol") 272]) #[]), (60, Obj.mk (Value.type "tuple") none (Data.seq #[]) #[]), (62, Obj.mk (Value.type "code") none (Data.fields #[Value.str (S "legendre") 267, Value.str (S "legendre") 268, Value.str (S "/claim/cut.py") 269, Value.int 70 0, Value.int 2 0, Value.int 0 0, Value.int 0 0, Value.int 3 0, Value.ref 57, Value.bool Bool.true, Value.int 181 0, Value.ref 58, .none, Value.ref 59, Value.ref 60, Value.ref 61, Value.int 273 0, Value.int 70 0, Value.str (S "/claim/cut.py") 274]) #[]), (63, Obj.mk (Value.type "function") none (Data.func (FuncData.mk (S "legendre") (S "legendre") (dA 9) (dB 9) (dS 9) 3 [] .none .none .none (Value.str (S "nzmath.arith1") 265) none (Value.ref 62) .none 0)) #[]), (64, Obj.mk (Value.type "tuple") none (Data.seq #[Value.int 1 276]) #[]), (65, Obj.mk (Value.type "tuple") none (Data.seq #[]) #[]), (67, Obj.mk (Value.type "tuple") none (Data.seq #[Value.str (S "n") 280, Value.str (S "p") 281, Value.str (S "e") 282, Value.str (S "x") 283, Value.str (S "ppower") 284, Value.str (S "z") 285, Value.str (S "i") 286, Value.str (S "symbol") 287, Value.str (S "pmod8") 288, Value.str (S "c") 289, Value.str (S "d") 290, Value.str (S "s") 291, Value.str (S "t") 292, Value.str (S "A") 293, Value.str (S "D") 294, Value.str (S "m") 295]) #[]), (68, Obj.mk (Value.type "tuple") none (Data.seq #[]) #[]), (70, Obj.mk (Value.type "code") none (Data.fields #[Value.str (S "modsqrt") 277, Value.str (S "modsqrt") 278, Value.str (S "/claim/cut.py") 279, Value.int 85 0, Value.int 3 0, Value.int 0 0, Value.int 0 0, Value.int 3 0, Value.ref 65, Value.bool Bool.true, Value.int 181 0, Value.ref 66, .none, Value.ref 67, Value.ref 68, Value.ref 69, Value.int 296 0, Value.int 85 0, Value.str (S "/claim/cut.py") 297]) #[]), (71, Obj.mk (Value.type "function") none (Data.func (FuncData.mk (S "modsqrt") (S "modsqrt") (dA 10) (dB 10) (dS 10) 3 [] (Value.ref 64) .none .none (Value.str (S "nzmath.arith1") 265) none (Value.ref 70) .none 0)) #[]), (72, Obj.mk (Value.type "tuple") none (Data.seq #[]) #[]), (74, Obj.mk (Value.type "tuple") none (Data.seq #[Value.str (S "x") 302, Value.str (S "n") 303, Value.str (S "y") 304, Value.str (S "r") 305]) #[]), (75, Obj.mk (Value.type "tuple") none (Data.seq #[]) #[]), (77, Obj.mk (Value.type "code") none (Data.fields #[Value.str (S "inverse") 299, Value.str (S "inverse") 300, Value.str (S "/claim/cut.py") 301, Value.int 125 0, Value.int 2 0, Value.int 0 0, Value.int 0 0, Value.int 3 0, Value.ref 72, Value.bool Bool.true, Value.int 181 0, Value.ref 73, .none, Value.ref 74, Value.ref 75, Value.ref 76, Value.int 306 0, Value.int 125 0, Value.str (S "/claim/cut.py") 307]) #[]), (78, Obj.mk (Value.type "function") none (Data.func (FuncData.mk (S "inverse") (S "inverse") (dA 11) (dB 11) (dS 11) 3 [] .none .none .none (Value.str (S "nzmath.arith1") 265) none (Value.ref 77) .none 0)) #[]), (79, Obj.mk (Value.type "tuple") none (Data.seq #[]) #[]), (81, Obj.mk (Value.type "tuple") none (Data.seq #[Value.str (S "nlist") 312, Value.str (S "r") 313, Value.str (S "product") 314, Value.str (S "prodinv") 315, Value.str (S "m") 316, Value.str (S "i") 317, Value.str (S "c") 318, Value.str (S "M") 319, Value.str (S "n") 320, Value.str (S "u") 321]) #[]), (82, Obj.mk (Value.type "tuple") none (Data.seq #[]) #[]), (84, Obj.mk (Value.type "code") none (Data.fields #[Value.str (S "CRT") 309, Value.str (S "CRT") 310, Value.str (S "/claim/cut.py") 311, Value.int 135 0, Value.int 1 0, Value.int 0 0, Value.int 0 0, Value.int 3 0, Value.ref 79, Value.bool Bool.true, Value.int 181 0, Value.ref 80, .none, Value.ref 81, Value.ref 82, Value.ref 83, Value.int 322 0, Value.int 135 0, Value.str (S "/claim/cut.py") 323]) #[]), (85, Obj.mk (Value.type "function") none (Data.func (FuncData.mk (S "CRT") (S "CRT") (dA 12) (dB 12) (dS 12) 3 [] .none .none .none (Value.str (S "nzmath.arith1") 265) none (Value.ref 84) .none 0)) #[]), (86, Obj.mk (Value.type "tuple") none (Data.seq #[Value.int 1 325]) #[]), (87, Obj.mk (Value.type "tuple") none (Data.seq #[]) #[]), (89, Obj.mk (Value.type "tuple") none (Data.seq #[Value.str (S "nlist") 329, Value.str (S "M") 330, Value.str (S "r") 331, Value.str (S "product") 332, Value.str (S "prodinv") 333, Value.str (S "i") 334, Value.str (S "c") 335, Value.str (S "n") 336, Value.str (S "u") 337]) #[]), (90, Obj.mk (Value.type "tuple") none (Data.seq #[]) #[]), (92, Obj.mk (Value.type "code") none (Data.fields #[Value.str (S "CRT_") 326, Value.str (S "CRT_") 327, Value.str (S "/claim/cut.py") 328, Value.int 153 0, Value.int 2 0, Value.int 0 0, Value.int 0 0, Value.int 3 0, Value.ref 87, Value.bool Bool.true, Value.int 181 0, Value.ref 88, .none, Value.ref 89, Value.ref 90, Value.ref 91, Value.int 338 0, Value.int 153 0, Value.str (S "/claim/cut.py") 339]) #[]), (93, Obj.mk (Value.type "function") none (Data.func (FuncData.mk (S "CRT_") (S "CRT_") (dA 13) (dB 13) (dS 13) 3 [] (Value.ref 86) .none .none (Value.str (S "nzmath.arith1") 265) none (Value.ref 92) .none 0)) #[]), (94, Obj.mk (Value.type "tuple") none (Data.seq #[Value.int 1 341]) #[]), (95, Obj.mk (Value.type "tuple") none (Data.seq #[]) #[]), (98, Obj.mk (Value.type "code") none (Data.fields #[Value.str (S "CRT_Gauss") 342, Value.str (S "CRT_Gauss") 343, Value.str (S "/claim/cut.py") 344, Value.int 171 0, Value.int 3 0, Value.int 0 0, Value.int 0 0, Value.int 3 0, Value.ref 95, Value.bool Bool.true, Value.int 181 0, Value.ref 96, .none, .none, .none, Value.ref 97, Value.int 345 0, Value.int 171 0, Value.str (S "/claim/cut.py") 346]) #[]), (99, Obj.mk (Value.type "function") none (Data.func (FuncData.mk (S "CRT_Gauss") (S "CRT_Gauss") (dA 14) (dB 14) (dS 14) 3 [] (Value.ref 94) .none .none (Value.str (S "nzmath.arith1") 265) none (Value.ref 98) .none 0)) #[]), (100, Obj.mk (Value.type "tuple") none (Data.seq #[Value.int 0 348]) #[]), (101, Obj.mk (Value.type "tuple") none (Data.seq #[]) #[]), (103, Obj.mk (Value.type "tuple") none (Data.seq #[Value.str (S "n") 352, Value.str (S "p") 353, Value.str (S "k") 354, Value.str (S "q") 355]) #[]), (104, Obj.mk (Value.type "tuple") none (Data.seq #[]) #[]), (106, Obj.mk (Value.type "code") none (Data.fields #[Value.str (S "vp") 349, Value.str (S "vp") 350, Value.str (S "/claim/cut.py") 351, Value.int 180 0, Value.int 3 0, Value.int 0 0, Value.int 0 0, Value.int 3 0, Value.ref 101, Value.bool Bool.true, Value.int 181 0, Value.ref 102, .none, Value.ref 103, Value.ref 104, Value.ref 105, Value.int 356 0, Value.int 180 0, Value.str (S "/claim/cut.py") 357]) #[]), (107, Obj.mk (Value.type "function") none (Data.func (FuncData.mk (S "vp") (S "vp") (dA 15) (dB 15) (dS 15) 3 [] (Value.ref 100) .none .none (Value.str (S "nzmath.arith1") 265) none (Value.ref 106) .none 0)) #[]), (108, Obj.mk (Value.type "tuple") none (Data.seq #[.none]) #[]), (109, Obj.mk (Value.type "tuple") none (Data.seq #[]) #[]), (111, Obj.mk (Value.type "tuple") none (Data.seq #[Value.str (S "iterable") 362, Value.str (S "init") 363, Value.str (S "result") 364, Value.str (S "item") 365]) #[]), (112, Obj.mk (Value.type "tuple") none (Data.seq #[]) #[]), (114, Obj.mk (Value.type "code") none (Data.fields #[Value.str (S "product") 359, Value.str (S "product") 360, Value.str (S "/claim/cut.py") 361, Value.int 186 0, Value.int 2 0, Value.int 0 0, Value.int 0 0, Value.int 3 0, Value.ref 109, Value.bool Bool.true, Value.int 181 0, Value.ref 110, .none, Value.ref 111, Value.ref 112, Value.ref 113, Value.int 366 0, Value.int 186 0, Value.str (S "/claim/cut.py") 367]) #[]), (115, Obj.mk (Value.type "function") none (Data.func (FuncData.mk (S "product") (S "product") (dA 16) (dB 16) (dS 16) 3 [] (Value.ref 108) .none .none (Value.str (S "nzmath.arith1") 265) none (Value.ref 114) .none 0)) #[]), (116, Obj.mk (Value.type "tuple") none (Data.seq #[]) #[]), (118, Obj.mk (Value.type "tuple") none (Data.seq #[Value.str (S "script") 374, Value.str (S "place") 375]) #[]), (119, Obj.mk (Value.type "tuple") none (Data.seq #[]) #[]), (121, Obj.mk (Value.type "code") none (Data.fields #[Value.str (S "_law_take") 371, Value.str (S "_law_take") 372, Value.str (S "/claim/cut.py") 373, Value.int 197 0, Value.int 2 0, Value.int 0 0, Value.int 0 0, Value.int 3 0, Value.ref 116, Value.bool Bool.true, Value.int 181 0, Value.ref 117, .none, Value.ref 118, Value.ref 119, Value.ref 120, Value.int 376 0, Value.int 197 0, Value.str (S "/claim/cut.py") 377]) #[]), (122, Obj.mk (Value.type "function") none (Data.func (FuncData.mk (S "_law_take") (S "_law_take") (dA 18) (dB 18) (dS 18) 3 [] .none .none .none (Value.str (S "law_xv0001_08") 369) none (Value.ref 121) .none 0)) #[]), (123, Obj.mk (Value.type "tuple") none (Data.seq #[]) #[]), (125, Obj.mk (Value.type "tuple") none (Data.seq #[Value.str (S "n") 382, Value.str (S "d") 383]) #[]), (126, Obj.mk (Value.type "tuple") none (Data.seq #[]) #[]), (128, Obj.mk (Value.type "code") none (Data.fields #[Value.str (S "_law_prime") 379, Value.str (S "_law_prime") 380, Value.str (S "/claim/cut.py") 381, Value.int 201 0, Value.int 1 0, Value.int 0 0, Value.int 0 0, Value.int 3 0, Value.ref 123, Value.bool Bool.true, Value.int 181 0, Value.ref 124, .none, Value.ref 125, Value.ref 126, Value.ref 127, Value.int 384 0, Value.int 201 0, Value.str (S "/claim/cut.py") 385]) #[]), (129, Obj.mk (Value.type "function") none (Data.func (FuncData.mk (S "_law_prime") (S "_law_prime") (dA 19) (dB 19) (dS 19) 3 [] .none .none .none (Value.str (S "law_xv0001_08") 369) none (Value.ref 128) .none 0)) #[]), (130, Obj.mk (Value.type "tuple") none (Data.seq #[]) #[]), (132, Obj.mk (Value.type "tuple") none (Data.seq #[Value.str (S "n") 390, Value.str (S "primes") 391, Value.str (S "roots") 392, Value.str (S "y") 393, Value.str (S "ways") 394, Value.str (S "x") 395, Value.str (S "apart") 396, Value.str (S "p") 397]) #[]), (133, Obj.mk (Value.type "tuple") none (Data.seq #[]) #[]), (135, Obj.mk (Value.type "code") none (Data.fields #[Value.str (S "_law_ways") 387, Value.str (S "_law_ways") 388, Value.str (S "/claim/cut.py") 389, Value.int 210 0, Value.int 2 0, Value.int 0 0, Value.int 0 0, Value.int 3 0, Value.ref 130, Value.bool Bool.true, Value.int 181 0, Value.ref 131, .none, Value.ref 132, Value.ref 133, Value.ref 134, Value.int 398 0, Value.int 210 0, Value.str (S "/claim/cut.py") 399]) #[]), (136, Obj.mk (Value.type "function") none (Data.func (FuncData.mk (S "_law_ways") (S "_law_ways") (dA 20) (dB 20) (dS 20) 3 [] .none .none .none (Value.str (S "law_xv0001_08") 369) none (Value.ref 135) .none 0)) #[]), (137, Obj.mk (Value.type "tuple") none (Data.seq #[]) #[]), (140, Obj.mk (Value.type "code") none (Data.fields #[Value.str (S "law") 401, Value.str (S "law") 402, Value.str (S "/claim/cut.py") 403, Value.int 227 0, Value.int 1 0, Value.int 0 0, Value.int 0 0, Value.int 3 0, Value.ref 137, Value.bool Bool.true, Value.int 181 0, Value.ref 138, .none, .none, .none, Value.ref 139, Value.int 404 0, Value.int 227 0, Value.str (S "/claim/cut.py") 405]) #[]), (141, Obj.mk (Value.type "function") none (Data.func (FuncData.mk (S "law") (S "law") (dA 21) (dB 21) (dS 21) 3 [] .none .none .none (Value.str (S "law_xv0001_08") 369) none (Value.ref 140) .none 0)) #[])]
noncomputable abbrev asK : List Nat := [2, 3, 15, 17, 18, 20, 21, 22, 24, 25, 27, 28, 29, 31, 32, 34, 35, 36, 38, 39, 41, 42, 43, 45, 46, 48, 49, 50, 52, 53, 55, 56, 57, 59, 60, 62, 63, 64, 65, 67, 68, 70, 71, 72, 74, 75, 77, 78, 79, 81, 82, 84, 85, 86, 87, 89, 90, 92, 93, 94, 95, 98, 99, 100, 101, 103, 104, 106, 107, 108, 109, 111, 112, 114, 115, 116, 118, 119, 121, 122, 123, 125, 126, 128, 129, 130, 132, 133, 135, 136, 137, 140, 141]
set_option Elab.async true in
set_option maxHeartbeats 8000000 in
theorem top : PySem.Challenge.rw_xv0001_08.Holds := by
  w_on; o_law
  o_head (kmHook heapK asK (fun _ => by kernel_rfl) [96])
  case hw => w_witness2
  intro w s₀ s₁ mg mb G Y fa o pm cd doc dV kV ho hd hcd hD hmg hg args vals as hpre hlay hrd hwl hlo
  have KX := km_in_of Y
  have hT8 := km_tabs_of Y
  have X := (Ground.X G).1
  have V := (Ground.X G).2
  refine Ground.open G ?_
  intro T B D TE TW
  try (refine guard_noD D (by decide +kernel) ?_; clear D)
  have hT9 : TabsAt [(98, 96)] s₁.heap := List.forall_mem_cons.mpr ⟨⟨codeHd_of_K (c := 98) (P := 96) KX (by kernel_rfl), hT8 96 (.head _)⟩, fun _ h => nomatch h⟩
  clear hmg
  wrow_args hpre hlay hrd hwl hlo
  first | refine callC_kw (enter_call ?_) | refine enter_call ?_
  w_top on
  w_call any ho hd hcd hD T F
  clear hd
  rename_i o0 o1 d0 d1 N1 X1
  refine law_endG (x := Str.ofString "script") (gt := gt) (bt := bt) (f := 141) (ms := m_law) (fok (tr := false) ?g1 ?g2 ?g3 fun h => nomatch h) (sb_of (n := 60) ?hb) (T := ‹_›) (KX := ‹_›) (hT := hT9) (hnt := ?hnt) (hgn := AllBare.of_eq hg) (hF := F) (hN := N1) (hl := ‹_›) (hi := ‹_›) ?h1 ?h2 ?h3 ?h4 ?h5 ?h6 ?h7 ?ca ?hn ?hnl (ps := fun b => [(false, b), (false, .unb), (false, .unb), (false, .unb), (false, .unb), (false, .unb), (false, .unb), (false, .unb), (false, .unb), (false, .unb), (false, .unb), (true, .unb), (false, .unb), (false, .unb), (true, .unb), (false, .unb), (false, .unb), (false, .unb), (false, .unb), (false, .unb), (false, .unb)]) ?hps ?h9 ?h10
  case hnt => kernel_rfl!
  case g1 => kernel_rfl!
  case g2 => kernel_rfl!
  case g3 => kernel_rfl!
  case hb => kernel_rfl!
  case h1 => kernel_rfl!
  case h2 => rfl
  case h3 => rfl
  case h4 => rfl
  case h5 => kernel_rfl!
  case h6 => kernel_rfl!
  case h7 => kernel_rfl!
  case ca => exact .cons (d0.trans (by kernel_rfl!)) (.cons (d1.trans (by kernel_rfl!)) .nil)
  case hn => kernel_rfl!
  case hnl => kernel_rfl!
  case hps => intro b; kernel_rfl!
  case h9 =>
    intro b hb
    refine law_exec (w := ⟨⟨_, _, _, _, _, gt, bt⟩, ?a0, ?a1, ?a2, ?a3, ?a4, ?a5, ?a6, ?a7, ?a8, ?a9, ?a10, ?a11, ?a12, ?a13, ?a14, ?a15, ?a16, ?a17, ?a18, ?a19, ?a20, ?a21, ?a22, ?a23, ?a24, ?a25, ?a26, ?a27, ?a28, ?a29, ?a30, ?a31, ?a32, ?a33, ?a34, ?a35, ?a36, ?a37, ?a38, ?a39, ?a40, ?a41, ?a42, ?a43, ?a44, ?a45, ?a46, ?a47, ?a48, ?a49, ?a50⟩) (by (first | lia | omega)) b hb
    case a0 => kernel_rfl!
    case a1 => kernel_rfl!
    case a2 => exact ⟨by kernel_rfl!, fun _ _ _ => by kernel_rfl!, by kernel_rfl!, by kernel_rfl!, by kernel_rfl!⟩
    case a3 => intro v0; show bindArgs _ _ = pure _; kernel_rfl!
    case a4 => exact ⟨by kernel_rfl!, fun _ _ _ => by kernel_rfl!, by kernel_rfl!, by kernel_rfl!, by kernel_rfl!⟩
    case a5 => intro v0 v1 v2 v3; show bindArgs _ _ = pure _; kernel_rfl!
    case a6 => exact ⟨by kernel_rfl!, fun _ _ _ => by kernel_rfl!, by kernel_rfl!, by kernel_rfl!, by kernel_rfl!⟩
    case a7 => intro v0 v1 v2 v3; show bindArgs _ _ = pure _; kernel_rfl!
    case a8 => exact ⟨by kernel_rfl!, fun _ _ _ => by kernel_rfl!, by kernel_rfl!, by kernel_rfl!, by kernel_rfl!⟩
    case a9 => intro v0 v1 v2; show bindArgs _ _ = pure _; kernel_rfl!
    case a10 => exact ⟨by kernel_rfl!, fun _ _ _ => by kernel_rfl!, by kernel_rfl!, by kernel_rfl!, by kernel_rfl!⟩
    case a11 => intro v0 v1; show bindArgs _ _ = pure _; kernel_rfl!
    case a12 => exact ⟨by kernel_rfl!, fun _ _ _ => by kernel_rfl!, by kernel_rfl!, by kernel_rfl!, by kernel_rfl!⟩
    case a13 => intro v0 v1; show bindArgs _ _ = pure _; kernel_rfl!
    case a14 => exact ⟨by kernel_rfl!, fun _ _ _ => by kernel_rfl!, by kernel_rfl!, by kernel_rfl!, by kernel_rfl!⟩
    case a15 => intro v0 v1; show bindArgs _ _ = pure _; kernel_rfl!
    case a16 => exact ⟨by kernel_rfl!, fun _ _ _ => by kernel_rfl!, by kernel_rfl!, by kernel_rfl!, by kernel_rfl!⟩
    case a17 => kernel_rfl!
    case a18 => intro v0 v1; show afterLoad _ _ _ = some _; kernel_rfl!
    case a19 => intro v0 v1 v2; show afterLoad _ _ _ = some _; kernel_rfl!
    case a20 => intro v0 v1; intro vk; show afterLoad _ _ _ = some _; kernel_rfl!
    case a21 => exact ⟨by kernel_rfl!, fun _ _ _ => by kernel_rfl!, by kernel_rfl!, by kernel_rfl!, by kernel_rfl!⟩
    case a22 => intro v0 v1; show bindArgs _ _ = pure _; kernel_rfl!
    case a23 => exact ⟨by kernel_rfl!, fun _ _ _ => by kernel_rfl!, by kernel_rfl!, by kernel_rfl!, by kernel_rfl!⟩
    case a24 => intro v0; show bindArgs _ _ = pure _; kernel_rfl!
    case a25 => exact ⟨by kernel_rfl!, fun _ _ _ => by kernel_rfl!, by kernel_rfl!, by kernel_rfl!, by kernel_rfl!⟩
    case a26 => kernel_rfl!
    case a27 => intro v0; show afterLoad _ _ _ = some _; kernel_rfl!
    case a28 => intro v0 v1; show afterLoad _ _ _ = some _; kernel_rfl!
    case a29 => intro v0; intro vk; show afterLoad _ _ _ = some _; kernel_rfl!
    case a30 => exact ⟨by kernel_rfl!, fun _ _ _ => by kernel_rfl!, by kernel_rfl!, by kernel_rfl!, by kernel_rfl!, by kernel_rfl!, by kernel_rfl!⟩
    case a31 => kernel_rfl!
    case a32 => intro v0 v1; show afterLoad _ _ _ = some _; kernel_rfl!
    case a33 => intro v0 v1 v2; show afterLoad _ _ _ = some _; kernel_rfl!
    case a34 => intro v0 v1; intro vk; show afterLoad _ _ _ = some _; kernel_rfl!
    case a35 => exact ⟨by kernel_rfl!, fun _ _ _ => by kernel_rfl!, by kernel_rfl!, by kernel_rfl!, by kernel_rfl!⟩
    case a36 => kernel_rfl!
    case a37 => intro v0 v1; show afterLoad _ _ _ = some _; kernel_rfl!
    case a38 => intro v0 v1 v2; show afterLoad _ _ _ = some _; kernel_rfl!
    case a39 => intro v0 v1; intro vk; show afterLoad _ _ _ = some _; kernel_rfl!
    case a40 => exact ⟨by kernel_rfl!, fun _ _ _ => by kernel_rfl!, by kernel_rfl!, by kernel_rfl!, by kernel_rfl!⟩
    case a41 => kernel_rfl!
    case a42 => intro v0; show afterLoad _ _ _ = some _; kernel_rfl!
    case a43 => intro v0 v1; show afterLoad _ _ _ = some _; kernel_rfl!
    case a44 => intro v0; intro vk; show afterLoad _ _ _ = some _; kernel_rfl!
    case a45 => exact ⟨by kernel_rfl!, fun _ _ _ => by kernel_rfl!, by kernel_rfl!, by kernel_rfl!, by kernel_rfl!⟩
    case a46 => intro v0 v1; show bindArgs _ _ = pure _; kernel_rfl!
    case a47 => exact ⟨by kernel_rfl!, fun _ _ _ => by kernel_rfl!, by kernel_rfl!, by kernel_rfl!, by kernel_rfl!⟩
    case a48 => intro v0; show bindArgs _ _ = pure _; kernel_rfl!
    case a49 => exact ⟨by kernel_rfl!, fun _ _ _ => by kernel_rfl!, by kernel_rfl!, by kernel_rfl!, by kernel_rfl!⟩
    case a50 => intro v0 v1; show bindArgs _ _ = pure _; kernel_rfl!
  case h10 =>
    intro h' tk' gn' m' F' hgr hgb
    refine goodG hT9 F' hgr hgb (raisesW_false ?_) ?_
    · wrow_none_raised
    · wrow_post
end Mine
theorem PySem.Challenge.cw_xv0001_08_holds : PySem.Challenge.rw_xv0001_08.Holds := by
  exact Mine.top