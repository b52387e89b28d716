import PyProof.Rows.All
import Wide.All
import OpenK.AllK
import Wide.FinOn
import PySem.Challenge.RW_xv0001_10
open PySem PySem.W PyProof.Rows PySem.Calls
set_option Elab.async false
set_option genSizeOf false
set_option compiler.extract_closed false
set_option backward.eqns.nonrecursive false
set_option bootstrap.genMatcherCode false
set_option maxRecDepth 100000
namespace Mine
theorem Gen {B : Prop} (h : ∀ G : Prop, (B → G) → G) : B := h B id
inductive V where
  | unb | other | none
  | int (i : Int)
  | bool (b : Bool)
  | str (s : Str)
  | ref (a : Addr)
  | cell (a : Addr)
noncomputable def absV : Value → V
  | .int i _ => .int i
  | .bool b => .bool b
  | .none => .none
  | .str s _ => .str s
  | .ref a => .ref a
  | _ => .other
inductive O where
  | list (vs : List V)
  | tup (vs : List V)
  | ro (vs : List V)
  | cell (v : V)
  | rng (a b c : Int)
  | dict (kvs : List (Int × Int))
noncomputable abbrev HP := Addr → Option O
noncomputable def hset (h : HP) (a : Addr) (o : O) : HP := fun b => if b = a then some o else h b
theorem hset_same {h : HP} {a : Addr} {o : O} : hset h a o a = some o := by simp [hset]
theorem hset_ne {h : HP} {a b : Addr} {o : O} (e : b ≠ a) : hset h a o b = h b := by simp [hset, e]
theorem hset_none {h : HP} {a b : Addr} {o : O} : hset h a o b = Option.none ↔ b ≠ a ∧ h b = Option.none := by
  unfold hset; by_cases e : b = a <;> simp [e]
inductive Ex where
  | own (c : String)
  | up (c : String)
noncomputable def Ex.cls : Ex → String
  | .own c => c
  | .up c => c
noncomputable abbrev XT := Ex → HP → Prop
noncomputable abbrev XC := String → HP → Prop
noncomputable abbrev upX (X : XC) : XT := fun e h => X e.cls h
noncomputable abbrev dnX (X : XT) : XC := fun c h => X (.up c) h
noncomputable abbrev cX (X : XC) : XT := fun e h => match e with | .up c => X c h | .own _ => False
set_option genInjectivity false
structure G where
  prog : Program
  w : World
  K : Frag
  p : Program
  loose : List Str
  mean : ExcName → Option Value
  mg : Str → Option Value
  mb : Str → Option Value
structure CP where
  C : Addr
  ksc : Scope
  kcl : List (Str × Addr)
  knames : List Str
  kl : List V
structure Cx where
  g : G
  A₀ : Around
  base : Heap
  h₀ : Heap
  outer : List Env
  L : Addr
  qn : Str
  fsc : Scope
  fa : Addr
  cd : Value
  cl : List (Str × Addr)
  cp : Option CP
set_option genInjectivity true
noncomputable abbrev Cx.fenv (c : Cx) : Env := envX c.qn c.fsc c.L c.fa c.cd c.cl
noncomputable abbrev Cx.env (c : Cx) : Env := match c.cp with
  | none => c.fenv
  | some k => compEnvC k.ksc k.kcl k.C c.fenv
noncomputable abbrev Cx.sc (c : Cx) : Scope := match c.cp with
  | none => c.fsc
  | some k => relabel k.ksc c.fenv
noncomputable abbrev Cx.A (c : Cx) : Around := c.A₀.deeper c.fenv
noncomputable abbrev Cx.fs (c : Cx) : List Addr := c.outer.filterMap (·.frame)
noncomputable abbrev Cx.at (c : Cx) (g : Heap) : Cx := { c with h₀ := g }
structure Cx.Ok (c : Cx) : Prop where
  below : Below c.A₀ c.base c.outer c.h₀
  inK : c.g.K.In c.base
  top : Top c.g.p c.g.loose c.g.mean c.g.mg c.g.mb c.base
  dicts : KtsDicts c.fs c.h₀
  kind : c.sc.kind = .function
  fkind : c.fsc.kind = .function
  gen : c.fsc.isGenerator = false
  cor : c.fsc.isCoroutine = false
  hd : c.A₀.handled = none
  seer : c.base.NoSeer
  tree : c.g.prog.given.tree = none
noncomputable def RepO : O → Obj → Prop
  | .list vs, o => ∃ items n, o = { cls := .type "list", data := .seq items n } ∧ items.toList.map absV = vs
  | .tup vs, o => ∃ items n, o = { cls := .type "tuple", data := .seq items n } ∧ items.toList.map absV = vs
  | .ro _, _ => False
  | .cell v, o => ∃ w : Option Value, o.data = .cell w ∧ (match w with | Option.none => v = .unb | some val => v ≠ .unb ∧ absV val = v)
  | .rng a b c, o => ∃ t u v, o = { cls := .type "range", dict := none, data := .fields #[.int a t, .int b u, .int c v], slots := #[] }
  | .dict _, _ => False
noncomputable def HpRep (c : Cx) (hp : HP) (h : Heap) : Prop :=
  (∃ D : List Addr, ∀ a o, hp a = some o → a ∈ D) ∧
  ∀ a o, hp a = some o → match o with
    | .ro vs => ∃ items : Array Value, c.base.IsList a items ∧ items.toList.map absV = vs
    | o => ∃ ob, h.get? a = some ob ∧ RepO o ob ∧ a ≠ c.L ∧ c.h₀.get? a = none
noncomputable def Loc (cl : List (Str × Addr)) (names : List Str) (l : List V) (m : Str → Option Value) : Prop :=
  ∀ (i : Nat) x v, names[i]? = some x → l[i]? = some v → v ≠ .unb → (∃ a, v = .cell a ∧ cl.lookup x = some a) ∨ ((∀ a, v ≠ .cell a) ∧ ∃ val, m x = some val ∧ absV val = v)
noncomputable def NsObj (o : Obj) (m : Str → Option Value) : Prop := ∃ es ep, o.data = .dict es ep ∧ StrKeys es ∧ ∀ name, nsFind es name = m name
noncomputable def LocX (c : Cx) (names : List Str) (l : List V) (m : Str → Option Value) (fr : List (Addr × Obj)) : Prop := match c.cp with
  | none => Loc c.cl names l m
  | some k => Loc c.cl k.knames k.kl m ∧ ∃ oC m₂, (k.C, oC) ∈ fr ∧ NsObj oC m₂ ∧ Loc k.kcl names l m₂
theorem LocX.sub {c : Cx} {names l m fr fr'} (h : LocX c names l m fr) (hs : ∀ p ∈ fr, p ∈ fr') : LocX c names l m fr' := by
  unfold LocX at h ⊢
  cases e : c.cp with
  | none => rw [e] at h; exact h
  | some k => rw [e] at h; obtain ⟨a, oC, m₂, b, c⟩ := h; exact ⟨a, oC, m₂, hs _ b, c⟩
theorem LocX.any {c : Cx} {names l m fr fr'} (h : LocX c names l m fr) (hc : c.cp = none) : LocX c names l m fr' := by
  unfold LocX at *
  rw [hc] at h ⊢; exact h
theorem LocX.plain {c : Cx} {names l m fr} (hc : c.cp = none) : LocX c names l m fr ↔ Loc c.cl names l m := by
  unfold LocX; rw [hc]
noncomputable def Rep0 (c : Cx) (names : List Str) (l : List V) (hp : HP) (fr : List (Addr × Obj)) (h : Heap) : Prop :=
  ∃ m, Fr c.h₀ c.L h m ∧ LocX c names l m fr ∧ HpRep c hp h ∧ News c.h₀ c.L h fr ∧ ∀ p ∈ fr, hp p.1 = Option.none
noncomputable def Rep (c : Cx) (names : List Str) (l : List V) (hp : HP) (fr : List (Addr × Obj)) (h : Heap) : Prop :=
  ∃ g, KtsTurn c.fs c.h₀ g ∧ Rep0 (c.at g) names l hp fr h
noncomputable def HpN (c : Cx) (hp : HP) (news : List (Addr × Obj)) : Prop :=
  (∃ D : List Addr, ∀ a o, hp a = some o → a ∈ D) ∧
  ∀ a o, hp a = some o → match o with
    | .ro vs => ∃ items : Array Value, c.base.IsList a items ∧ items.toList.map absV = vs
    | o => ∃ ob, (a, ob) ∈ news ∧ RepO o ob
noncomputable def Raised (c : Cx) (names : List Str) (l : List V) (hp : HP) (fr : List (Addr × Obj)) (x : Ex) (e : Addr) (h' : Heap) : Prop :=
  (∀ p ∈ fr, hp p.1 = Option.none) ∧ ∃ g m hh, KtsTurn c.fs c.h₀ g ∧ Fr g c.L hh m ∧ LocX c names l m fr ∧
    ((∃ cls t vs news, x = .up cls ∧ hh.UpToSlots h' ∧ RaisedS c.base hh (c.fenv :: c.outer) e (.type cls) t vs (news ++ fr) h' ∧ HpN c hp news) ∨
     (∃ cls vs news, x = .own cls ∧ Heap.MadeExcOf hh h' e (.type cls) vs ∧ HpN c hp news ∧ News g c.L hh (news ++ fr)))
noncomputable def XP (c : Cx) (names : List Str) (l : List V) (fr : List (Addr × Obj)) (X : XT) (E : Value → Shared → Prop) (s : Shared) : Prop :=
  ∀ cls e hp' h' tk', X cls hp' → Raised c names l hp' fr cls e h' → E (.ref e) { s with heap := h', toks := tk' }
theorem XP.call {c : Cx} {names : List Str} {l : List V} {fr : List (Addr × Obj)} {X : XT} {E : Value → Shared → Prop} {s s' : Shared} (h : XP c names l fr X E s) (e : ∀ h' tk', ({ s' with heap := h', toks := tk' } : Shared) = { s with heap := h', toks := tk' } := by intros; rfl) : XP c names l fr (cX (dnX X)) E s' := by
  intro x e' hp' h' tk' hx hr
  rw [e]
  cases x with
  | up c => exact h (.up c) e' hp' h' tk' hx hr
  | own c => exact hx.elim
noncomputable def W {α β : Type} (rel : β → α → Prop) (c : Cx) (names : List Str) (l : List V) (t : Sem α) (hp : HP) (Q : β → HP → Prop) (X : XT) : Prop :=
  ∀ (fr : List (Addr × Obj)) (s : Shared) (P : α → Shared → Prop) (E : Value → Shared → Prop), Rep c names l hp fr s.heap →
    (∀ b a hp' h' tk', Q b hp' → rel b a → Rep c names l hp' fr h' → P a { s with heap := h', toks := tk' }) →
    XP c names l fr X E s →
    wpAny (model c.g.prog c.g.w) c.A t P E s
noncomputable def rV (v : V) (val : Value) : Prop := absV val = v
noncomputable def rVs (vs : List V) (vals : List Value) : Prop := vals.map absV = vs
noncomputable def rB (b b' : Bool) : Prop := b' = b
noncomputable def room (c : Cx) (d : Nat) : Prop := c.A.depth + d + 200 < recursionLimit ∧ c.A.units + 8 * d + 200 < cLine
noncomputable def WC (c : Cx) (names : List Str) (l : List V) (k : Code) (hp : HP) (Q : V → HP → Prop) (X : XT) : Prop :=
  ∀ (fr : List (Addr × Obj)) (s : Shared) (P : Value → Shared → Prop) (E : Value → Shared → Prop), Rep c names l hp fr s.heap →
    (∀ b a hp' h' tk', Q b hp' → rV b a → Rep c names l hp' fr h' → P a { s with heap := h', toks := tk' }) →
    XP c names l fr X E s →
    codeAny (model c.g.prog c.g.w) c.A k (fun r s' => match r with | .ok (.ret v) => P v s' | .ok _ => False | .error e => E e s') s
theorem WC.w {c : Cx} {names l f pos kw hp Q X} (h : WC c names l (.call f ⟨pos, kw⟩) hp Q X) : W rV c names l (call f pos kw) hp Q X := fun fr s P E R hP hX => wpAny_call (h fr s P E R hP hX)
noncomputable def Calls (g : G) (d : Nat) (f : Addr) (args : List V) (kw : List (Str × V)) (hp : HP) (Q : V → HP → Prop) (X : XC) : Prop :=
  ∀ (c : Cx), c.g = g → c.Ok → room c d → ∀ (names : List Str) (l : List V) (vals : List Value) (kvals : List (Str × Value)),
    vals.map absV = args → (kvals.map fun p => (p.1, absV p.2)) = kw →
    WC c names l (.call (.ref f) ⟨vals, kvals⟩) hp Q (cX X)
set_option genInjectivity false
inductive BOp where
  | add | sub | mul | fdiv | mod | pow | shl | shr | band
  deriving DecidableEq
inductive COp where
  | eq | ne | lt | le | gt | ge
  deriving DecidableEq
inductive Kd where
  | int | bool | list | tuple
  deriving DecidableEq
set_option genCtorIdx false in
inductive ME where
  | var (i : Nat)
  | int (i : Int)
  | bool (b : Bool)
  | none
  | bin (o : BOp) (a b : ME)
  | neg (a : ME)
  | cmp (o : COp) (a b : ME)
  | chain (a : ME) (o : COp) (b : ME) (p : COp) (d : ME)
  | isn (a : ME) (pos : Bool)
  | not (a : ME)
  | and (a b : ME)
  | or (a b : ME)
  | ite (a b d : ME)
  | call (f : Nat) (as : ME)
  | nil
  | cons (a b : ME)
  | tup (as : ME)
  | list (as : ME)
  | idx (a i : ME)
  | len (a : ME)
  | toInt (a : ME)
  | isi (a : ME) (k : Kd)
  | tv (a : ME)
  | slcF (a i : ME)
  | listOf (a : ME)
  | pop0 (a : ME)
  | app (a b : ME)
  | abs (a : ME)
  | dvm (a b : ME)
  | pow3 (a b e : ME)
  | cvar (i : Nat)
  | rng (a b e : ME)
  | sorted (a : ME)
  | compR (lo hi st cond elt : ME) (caps : List Nat)
  | compL (it cond elt : ME) (caps : List Nat)
  | compU (n : Nat) (it cond elt : ME) (caps : List Nat)
  | compZ (n : Nat) (es cond elt : ME) (caps : List Nat)
  | inl (a b : ME) (pos : Bool)
  | lenSet (a : ME)
set_option genCtorIdx false in
inductive MH where
  | retB (b : Bool)
  | retN
  | inc (i : Nat) (k : Int)
  | retS (x : String)
set_option genCtorIdx false in
inductive TK where
  | expr | ret
  | asg (i : Nat)
set_option genCtorIdx false in
inductive MS where
  | skip
  | seq (a b : MS)
  | asg (i : Nat) (e : ME)
  | asgN (is : List Nat) (es : ME)
  | unp (is : List Nat) (e : ME)
  | aug (i : Nat) (o : BOp) (e : ME)
  | setI (a i e : ME)
  | ite (c : ME) (a b : MS)
  | whil (c : ME) (a b : MS)
  | forR (i : Nat) (lo hi st : ME) (a : MS)
  | forL (i : Nat) (e : ME) (a : MS)
  | ret (e : ME)
  | brk
  | expr (e : ME)
  | forU (is : List Nat) (e : ME) (a : MS)
  | stop
  | raise (x : String)
  | casg (i : Nat) (e : ME)
  | asgC (is : List (Nat × Bool)) (es : ME)
  | tryE (t : TK) (e : ME) (x : String) (h : MH)
  | forE (is : List Nat) (e : ME) (a : MS)
  | forZ (is : List Nat) (es : ME) (a : MS)
set_option genInjectivity true
noncomputable def truV : V → HP → (Bool → Prop) → Prop
  | .int i, _, Q => Q (i != 0)
  | .bool b, _, Q => Q b
  | _, _, _ => False
noncomputable def intOk (i j : Int) : BOp → Prop
  | .mul => IntMulOk i j
  | .fdiv => j ≠ 0
  | .mod => j ≠ 0
  | .pow => 0 ≤ j ∧ (Builtin.Int.intBits i : Int) * j ≤ 2 ^ 27
  | .shl => 0 ≤ j ∧ (Builtin.Int.intBits i : Int) + j ≤ 2 ^ 27
  | .shr => 0 ≤ j
  | _ => True
noncomputable def intOp (i j : Int) : BOp → Int
  | .add => i + j
  | .sub => i - j
  | .mul => i * j
  | .fdiv => i.fdiv j
  | .mod => i.fmod j
  | .pow => i ^ j.toNat
  | .shl => i * 2 ^ j.toNat
  | .shr => i.fdiv (2 ^ j.toNat)
  | .band => Builtin.bitAnd i j
noncomputable def itemsOf : Option O → Option (List V)
  | some (.list vs) => some vs
  | some (.ro vs) => some vs
  | some (.tup vs) => some vs
  | some (.cell _) => Option.none
  | some (.rng _ _ _) => Option.none
  | some (.dict _) => Option.none
  | Option.none => Option.none
noncomputable def rngL (a b c : Int) : List V := (List.range (Builtin.Range.rangeSize a b c).toNat).map fun (k : Nat) => V.int (a + k * c)
noncomputable def iterOf : Option O → Option (List V)
  | some (.rng a b c) => if Builtin.Range.small a b c then some (rngL a b c) else Option.none
  | o => itemsOf o
noncomputable def listAt : Option O → Option (List V)
  | some (.list vs) => some vs
  | some (.ro vs) => some vs
  | _ => Option.none
noncomputable def zipAt (hp : HP) (N : Nat) : List V → List (List V) → Prop
  | [], [] => True
  | .ref r :: vs, ws :: wss => listAt (hp r) = some ws ∧ ws.length = N ∧ zipAt hp N vs wss
  | _, _ => False
noncomputable def vAt : List V → Nat → V
  | [], _ => .unb
  | v :: _, 0 => v
  | _ :: r, n + 1 => vAt r n
noncomputable def zrow (wss : List (List V)) (k : Nat) : List V := wss.map fun ws => vAt ws k
noncomputable def eqI : V → V → Option Bool
  | .int i, .int j => some (i == j)
  | .none, .none => some true
  | .int _, .none => some false
  | .none, .int _ => some false
  | _, _ => Option.none
noncomputable def orO : Option Bool → Option Bool → Option Bool
  | some b, some c => some (b || c)
  | _, _ => Option.none
theorem orO_some {a b : Option Bool} {t : Bool} (h : orO a b = some t) : ∃ p q, a = some p ∧ b = some q ∧ (p || q) = t := by
  cases a with
  | none => injection h
  | some p => cases b with
    | none => injection h
    | some q => injection h with h; exact ⟨p, q, rfl, rfl, h⟩
noncomputable def inV (x : V) : List V → Option Bool
  | [] => some false
  | y :: r => orO (eqI y x) (inV x r)
noncomputable def newV (hp : HP) (o : O) (Q : V → HP → Prop) : Prop := ∀ r, hp r = Option.none → Q (.ref r) (hset hp r o)
noncomputable def binV (o : BOp) (v w : V) (hp : HP) (Q : V → HP → Prop) : Prop :=
  match v, w with
  | .int i, .int j => intOk i j o ∧ Q (.int (intOp i j o)) hp
  | .ref a, .ref b => match o with
    | .add => ∃ vs ws, listAt (hp a) = some vs ∧ listAt (hp b) = some ws ∧ vs.length + ws.length ≤ sizeLine ∧ newV hp (.list (vs ++ ws)) Q
    | _ => False
  | _, _ => False
noncomputable def augV (o : BOp) (v w : V) (hp : HP) (Q : V → HP → Prop) : Prop :=
  match v, w with
  | .int i, .int j => intOk i j o ∧ Q (.int (intOp i j o)) hp
  | _, _ => False
noncomputable def cmpI (i j : Int) : COp → Bool
  | .eq => decide (i = j)
  | .ne => !decide (i = j)
  | .lt => decide (i < j)
  | .le => decide (i ≤ j)
  | .gt => decide (j < i)
  | .ge => decide (j ≤ i)
mutual
inductive Rd (hp : HP) : V → PyData → Prop
  | int (i : Int) : Rd hp (.int i) (.int i)
  | bool (b : Bool) : Rd hp (.bool b) (.bool b)
  | none : Rd hp .none .none
  | str (x : Str) : Rd hp (.str x) (.str x)
  | list {a : Addr} {vs : List V} {ds : List PyData} : hp a = some (.list vs) → RdL hp vs ds → Rd hp (.ref a) (.list ds)
  | ro {a : Addr} {vs : List V} {ds : List PyData} : hp a = some (.ro vs) → RdL hp vs ds → Rd hp (.ref a) (.list ds)
  | tup {a : Addr} {vs : List V} {ds : List PyData} : hp a = some (.tup vs) → RdL hp vs ds → Rd hp (.ref a) (.tuple ds)
inductive RdL (hp : HP) : List V → List PyData → Prop
  | nil : RdL hp [] []
  | cons {v : V} {d : PyData} {vs : List V} {ds : List PyData} : Rd hp v d → RdL hp vs ds → RdL hp (v :: vs) (d :: ds)
end
noncomputable def isInts : V → V → Option (Int × Int)
  | .int i, .int j => some (i, j)
  | _, _ => Option.none
noncomputable def cmpV (o : COp) (v w : V) (hp : HP) (Q : Bool → Prop) : Prop :=
  match isInts v w with
  | some p => Q (cmpI p.1 p.2 o)
  | Option.none => match o with
    | .eq => ∃ d e, Rd hp v d ∧ Rd hp w e ∧ SeqAt.shaped d = true ∧ SeqAt.shaped e = true ∧ Q (PyData.eqv d e)
    | .ne => ∃ d e, Rd hp v d ∧ Rd hp w e ∧ SeqAt.shaped d = true ∧ SeqAt.shaped e = true ∧ Q (!PyData.eqv d e)
    | _ => False
noncomputable def isNone : V → Option Bool
  | .none => some true
  | .int _ => some false
  | .bool _ => some false
  | .ref _ => some false
  | _ => Option.none
noncomputable def isiV (v : V) (hp : HP) (k : Kd) (Q : Bool → Prop) : Prop :=
  match v, k with
  | .int _, .int => Q true
  | .int _, _ => Q false
  | .bool _, .int => Q true
  | .bool _, .bool => Q true
  | .bool _, _ => Q false
  | .ref a, k => (∃ vs, hp a = some (.list vs) ∧ Q (decide (k = .list))) ∨ (∃ vs, hp a = some (.tup vs) ∧ Q (decide (k = .tuple)))
  | _, _ => False
noncomputable def lget : List V → Nat → V
  | [], _ => .unb
  | v :: _, 0 => v
  | _ :: r, n + 1 => lget r n
noncomputable def lset : List V → Nat → V → List V
  | [], _, _ => []
  | _ :: r, 0, v => v :: r
  | x :: r, n + 1, v => x :: lset r n v
noncomputable def lsetN : List V → List Nat → List V → List V
  | l, i :: is, v :: vs => lsetN (lset l i v) is vs
  | l, _, _ => l
noncomputable def varV (l : List V) (i : Nat) (Q : V → Prop) : Prop :=
  match lget l i with
  | .unb => False
  | .cell _ => False
  | v => Q v
noncomputable def idxV (v w : V) (hp : HP) (Q : V → Prop) : Prop :=
  match v, w with
  | .ref a, .int k => ∃ vs x, itemsOf (hp a) = some vs ∧ (vs.length : Int) < 2 ^ 62 ∧ -(vs.length : Int) ≤ k ∧ k < vs.length ∧
      vs[(if k < 0 then k + vs.length else k).toNat]? = some x ∧ Q x
  | _, _ => False
noncomputable def lenV (v : V) (hp : HP) (Q : Int → Prop) : Prop :=
  match v with
  | .ref a => ∃ vs, itemsOf (hp a) = some vs ∧ (vs.length : Int) < 2 ^ 62 ∧ Q vs.length
  | .str x => (x.length : Int) < 2 ^ 62 ∧ Q x.length
  | _ => False
noncomputable def slcV (from' : Bool) (v w : V) (hp : HP) (Q : V → HP → Prop) : Prop :=
  match v, w with
  | .ref a, .int k => ∃ vs, listAt (hp a) = some vs ∧ vs.length ≤ sizeLine ∧ 0 ≤ k ∧ newV hp (.list (match from' with | true => vs.drop k.toNat | false => vs.take k.toNat)) Q
  | _, _ => False
noncomputable def lstV (v : V) (hp : HP) (Q : V → HP → Prop) : Prop :=
  match v with
  | .ref a => ∃ vs, iterOf (hp a) = some vs ∧ vs.length ≤ sizeLine ∧ newV hp (.list vs) Q
  | _ => False
noncomputable def pop0V (v : V) (hp : HP) (Q : V → HP → Prop) : Prop :=
  match v with
  | .ref a => ∃ x vs, hp a = some (.list (x :: vs)) ∧ vs.length < sizeLine ∧ Q x (hset hp a (.list vs))
  | _ => False
noncomputable def isLV (v : V) (hp : HP) (P : Prop) : Prop :=
  match v with
  | .ref a => (∃ vs, hp a = some (.list vs)) ∧ P
  | _ => False
noncomputable def appV (v x : V) (hp : HP) (Q : V → HP → Prop) : Prop :=
  match v with
  | .ref a => ∃ vs, hp a = some (.list vs) ∧ vs.length ≤ sizeLine ∧ Q .none (hset hp a (.list (vs ++ [x])))
  | _ => False
noncomputable def cvarV (l : List V) (i : Nat) (hp : HP) (Q : V → Prop) : Prop :=
  match lget l i with
  | .cell a => ∃ v, hp a = some (.cell v) ∧ v ≠ .unb ∧ Q v
  | _ => False
noncomputable def capsV (l : List V) : List Nat → List V
  | [] => []
  | i :: r => lget l i :: capsV l r
noncomputable def cellsB (l : List V) : List Nat → Bool
  | [] => true
  | i :: r => (match lget l i with | .cell _ => true | _ => false) && cellsB l r
noncomputable def compI (test : List V → HP → (Bool → HP → Prop) → Prop) (elt : List V → HP → (V → HP → Prop) → Prop) (new : V → (List V → Prop) → HP → Prop) (vs : List V) (hp : HP) (K : HP → Prop) (Q : V → HP → Prop) : Prop :=
  ∃ I : Nat → List V → HP → Prop, I 0 [] hp ∧
    (∀ k x acc h, vs[k]? = some x → I k acc h → K h ∧ acc.length ≤ sizeLine ∧ new x (fun l => test l h fun t h1 =>
      (t = true → elt l h1 fun v h2 => I (k + 1) (acc ++ [v]) h2) ∧ (t = false → I (k + 1) acc h1)) h) ∧
    (∀ acc h, I vs.length acc h → K h ∧ newV h (.list acc) Q)
mutual
noncomputable def ev (g : G) (d : Nat) : ME → List V → HP → (V → HP → Prop) → (XT) → Prop
  | .var i, l, hp, Q, _ => varV l i fun v => Q v hp
  | .int i, _, hp, Q, _ => Q (.int i) hp
  | .bool b, _, hp, Q, _ => Q (.bool b) hp
  | .none, _, hp, Q, _ => Q .none hp
  | .bin o a b, l, hp, Q, X => ev g d a l hp (fun v h1 => ev g d b l h1 (fun w h2 => binV o v w h2 Q) X) X
  | .neg a, l, hp, Q, X => ev g d a l hp (fun v h1 => match v with | .int i => Q (.int (-i)) h1 | _ => False) X
  | .cmp o a b, l, hp, Q, X => ev g d a l hp (fun v h1 => ev g d b l h1 (fun w h2 => cmpV o v w h2 fun t => Q (.bool t) h2) X) X
  | .chain a o b p e, l, hp, Q, X => ev g d a l hp (fun v h1 => ev g d b l h1 (fun w h2 => cmpV o v w h2 fun t =>
      (t = true → ev g d e l h2 (fun u h3 => cmpV p w u h3 fun t' => Q (.bool t') h3) X) ∧ (t = false → Q (.bool false) h2)) X) X
  | .isn a pos, l, hp, Q, X => ev g d a l hp (fun v h1 => match isNone v with | some b => Q (.bool (b == pos)) h1 | Option.none => False) X
  | .not a, l, hp, Q, X => ev g d a l hp (fun v h1 => truV v h1 fun t => Q (.bool (!t)) h1) X
  | .and a b, l, hp, Q, X => ev g d a l hp (fun v h1 => truV v h1 fun t => (t = true → ev g d b l h1 Q X) ∧ (t = false → Q v h1)) X
  | .or a b, l, hp, Q, X => ev g d a l hp (fun v h1 => truV v h1 fun t => (t = true → Q v h1) ∧ (t = false → ev g d b l h1 Q X)) X
  | .ite a b e, l, hp, Q, X => evT g d a l hp (fun t h1 => (t = true → ev g d b l h1 Q X) ∧ (t = false → ev g d e l h1 Q X)) X
  | .call f as, l, hp, Q, X => evs g d as l hp (fun vs h1 => Calls g d f vs [] h1 Q (dnX X)) X
  | .tup as, l, hp, Q, X => evs g d as l hp (fun vs h1 => vs.length ≤ sizeLine ∧ ∀ r, h1 r = Option.none → Q (.ref r) (hset h1 r (.tup vs))) X
  | .list as, l, hp, Q, X => evs g d as l hp (fun vs h1 => vs.length ≤ sizeLine ∧ ∀ r, h1 r = Option.none → Q (.ref r) (hset h1 r (.list vs))) X
  | .idx a i, l, hp, Q, X => ev g d a l hp (fun v h1 => ev g d i l h1 (fun w h2 => idxV v w h2 fun x => Q x h2) X) X
  | .len a, l, hp, Q, X => ev g d a l hp (fun v h1 => lenV v h1 fun n => Q (.int n) h1) X
  | .toInt a, l, hp, Q, X => ev g d a l hp (fun v h1 => match v with | .int i => Q (.int i) h1 | _ => False) X
  | .isi a k, l, hp, Q, X => ev g d a l hp (fun v h1 => isiV v h1 k fun t => Q (.bool t) h1) X
  | .nil, _, _, _, _ => False
  | .cons _ _, _, _, _, _ => False
  | .tv _, _, _, _, _ => False
  | .slcF a i, l, hp, Q, X => ev g d a l hp (fun v h1 => ev g d i l h1 (fun w h2 => slcV true v w h2 Q) X) X
  | .listOf a, l, hp, Q, X => ev g d a l hp (fun v h1 => lstV v h1 Q) X
  | .pop0 a, l, hp, Q, X => ev g d a l hp (fun v h1 => pop0V v h1 Q) X
  | .app a b, l, hp, Q, X => ev g d a l hp (fun v h1 => isLV v h1 (ev g d b l h1 (fun w h2 => appV v w h2 Q) X)) X
  | .abs a, l, hp, Q, X => ev g d a l hp (fun v h1 => match v with | .int i => Q (.int (if i < 0 then -i else i)) h1 | _ => False) X
  | .dvm a b, l, hp, Q, X => ev g d a l hp (fun v h1 => ev g d b l h1 (fun w h2 => match v, w with | .int i, .int j => j ≠ 0 ∧ newV h2 (.tup [.int (i.fdiv j), .int (i.fmod j)]) Q | _, _ => False) X) X
  | .cvar i, l, hp, Q, _ => cvarV l i hp fun v => Q v hp
  | .compR lo hi st cond elt caps, l, hp, Q, X => cellsB l caps = true ∧ ev g d lo l hp (fun x h1 => ev g d hi l h1 (fun y h2 => ev g d st l h2 (fun z h3 =>
      match x, y, z with
      | .int x, .int y, .int z => z ≠ 0 ∧ Builtin.Range.small x y z = true ∧ compI (fun l h R => evT g d cond l h R fun _ _ => False) (fun l h R => ev g d elt l h R fun _ _ => False) (fun v R _ => R (v :: capsV l caps))
          ((List.range (Builtin.Range.rangeSize x y z).toNat).map fun (k : Nat) => V.int (x + k * z)) h3 (fun _ => True) Q
      | _, _, _ => False) X) X) X
  | .compL it cond elt caps, l, hp, Q, X => cellsB l caps = true ∧ ev g d it l hp (fun v h1 => match v with
      | .ref r => ∃ vs, listAt (h1 r) = some vs ∧ (vs.length : Int) < 2 ^ 62 ∧ compI (fun l h R => evT g d cond l h R fun _ _ => False) (fun l h R => ev g d elt l h R fun _ _ => False) (fun v R _ => R (v :: capsV l caps)) vs h1 (fun h => h r = h1 r) Q
      | _ => False) X
  | .compU n it cond elt caps, l, hp, Q, X => cellsB l caps = true ∧ ev g d it l hp (fun v h1 => match v with
      | .ref r => ∃ vs, listAt (h1 r) = some vs ∧ (vs.length : Int) < 2 ^ 62 ∧ compI (fun l h R => evT g d cond l h R fun _ _ => False) (fun l h R => ev g d elt l h R fun _ _ => False)
          (fun v R h => match v with | .ref a => ∃ ws, h a = some (.tup ws) ∧ ws.length = n ∧ R (ws ++ capsV l caps) | _ => False) vs h1 (fun h => h r = h1 r) Q
      | _ => False) X
  | .rng a b e, l, hp, Q, X => ev g d a l hp (fun v h1 => ev g d b l h1 (fun w h2 => ev g d e l h2 (fun u h3 => match v, w, u with
      | .int i, .int j, .int k => k ≠ 0 ∧ newV h3 (.rng i j k) Q | _, _, _ => False) X) X) X
  | .sorted a, l, hp, Q, X => ev g d a l hp (fun v h1 => match v with
      | .ref r => ∃ ns : List Int, listAt (h1 r) = some (ns.map .int) ∧ ns.length < 64 ∧ ∀ ms : List Int, ms.Perm ns → ms.Pairwise (· ≤ ·) → newV h1 (.list (ms.map .int)) Q | _ => False) X
  | .compZ n es cond elt caps, l, hp, Q, X => cellsB l caps = true ∧ evs g d es l hp (fun vs h1 => ∃ wss N, zipAt h1 N vs wss ∧ vs.length = n ∧
      compI (fun l h R => evT g d cond l h R fun _ _ => False) (fun l h R => ev g d elt l h R fun _ _ => False)
          (fun v R _ => match v with | .int k => R (zrow wss k.toNat ++ capsV l caps) | _ => False) ((List.range N).map fun (k : Nat) => V.int k) h1 (fun h => ∀ r, V.ref r ∈ vs → h r = h1 r) Q) X
  | .inl a b pos, l, hp, Q, X => ev g d a l hp (fun v h1 => ev g d b l h1 (fun w h2 => match w with
      | .ref r => ∃ vs t, listAt (h2 r) = some vs ∧ inV v vs = some t ∧ Q (.bool (t == pos)) h2 | _ => False) X) X
  | .lenSet a, l, hp, Q, X => ev g d a l hp (fun v h1 => match v with
      | .ref r => ∃ ns : List Int, listAt (h1 r) = some (ns.map .int) ∧ ns.length < 1000 ∧ ns.Nodup ∧ Q (.int ns.length) h1 | _ => False) X
  | .pow3 a b e, l, hp, Q, X => ev g d a l hp (fun v h1 => ev g d b l h1 (fun w h2 => ev g d e l h2 (fun u h3 => match v, w, u with
      | .int i, .int j, .int k => 0 ≤ j ∧ 0 < k ∧ Q (.int ((i ^ j.toNat).fmod k)) h3 | _, _, _ => False) X) X) X
termination_by structural m => m
noncomputable def evs (g : G) (d : Nat) : ME → List V → HP → (List V → HP → Prop) → (XT) → Prop
  | .nil, _, hp, Q, _ => Q [] hp
  | .cons a b, l, hp, Q, X => ev g d a l hp (fun v h1 => evs g d b l h1 (fun vs h2 => Q (v :: vs) h2) X) X
  | _, _, _, _, _ => False
termination_by structural m => m
noncomputable def evT (g : G) (d : Nat) : ME → List V → HP → (Bool → HP → Prop) → (XT) → Prop
  | .cmp o a b, l, hp, Q, X => ev g d a l hp (fun v h1 => ev g d b l h1 (fun w h2 => cmpV o v w h2 fun t => Q t h2) X) X
  | .chain a o b p e, l, hp, Q, X => ev g d a l hp (fun v h1 => ev g d b l h1 (fun w h2 => cmpV o v w h2 fun t =>
      (t = true → ev g d e l h2 (fun u h3 => cmpV p w u h3 fun t' => Q t' h3) X) ∧ (t = false → Q false h2)) X) X
  | .not a, l, hp, Q, X => evT g d a l hp (fun t h1 => Q (!t) h1) X
  | .and a b, l, hp, Q, X => evT g d a l hp (fun t h1 => (t = true → evT g d b l h1 Q X) ∧ (t = false → Q false h1)) X
  | .or a b, l, hp, Q, X => evT g d a l hp (fun t h1 => (t = true → Q true h1) ∧ (t = false → evT g d b l h1 Q X)) X
  | .ite a b e, l, hp, Q, X => evT g d a l hp (fun t h1 => (t = true → evT g d b l h1 Q X) ∧ (t = false → evT g d e l h1 Q X)) X
  | .tv a, l, hp, Q, X => ev g d a l hp (fun v h1 => truV v h1 fun t => Q t h1) X
  | _, _, _, _, _ => False
termination_by structural m => m
end
set_option genCtorIdx false in
inductive Out where
  | next | brk
  | ret (v : V)
noncomputable def setV (v w x : V) (hp : HP) (Q : HP → Prop) : Prop :=
  match v, w with
  | .ref a, .int k => ∃ vs, hp a = some (.list vs) ∧ 0 ≤ k ∧ k < vs.length ∧ (vs.length : Int) < 2 ^ 62 ∧ Q (hset hp a (.list (vs.set k.toNat x)))
  | _, _ => False
noncomputable def unpV (v : V) (n : Nat) (hp : HP) (Q : List V → Prop) : Prop :=
  match v with
  | .ref a => ∃ vs, hp a = some (.tup vs) ∧ vs.length = n ∧ Q vs
  | _ => False
noncomputable def putN (l : List V) : List (Nat × Bool) → List V → HP → (List V → HP → Prop) → Prop
  | [], [], hp, Q => Q l hp
  | (i, false) :: is, v :: vs, hp, Q => putN (lset l i v) is vs hp Q
  | (i, true) :: is, v :: vs, hp, Q => match lget l i with
    | .cell a => (∃ w, hp a = some (.cell w)) ∧ putN l is vs (hset hp a (.cell v)) Q
    | _ => False
  | _, _, _, _ => False
theorem putN_cell {l : List V} {i : Nat} {is : List (Nat × Bool)} {v : V} {vs : List V} {hp : HP} {Q : List V → HP → Prop} (h : putN l ((i, true) :: is) (v :: vs) hp Q) :
    ∃ a, lget l i = .cell a ∧ (∃ w, hp a = some (.cell w)) ∧ putN l is vs (hset hp a (.cell v)) Q := by
  have h : (match lget l i with
    | .cell a => (∃ w, hp a = some (.cell w)) ∧ putN l is vs (hset hp a (.cell v)) Q
    | _ => False) := h
  revert h
  cases lget l i <;> intro h <;> first | exact h.elim | exact ⟨_, rfl, h.1, h.2⟩
noncomputable def forIn (turn : List V → HP → (Out → List V → HP → Prop) → Prop) (i : Nat) (vs : List V) (l : List V) (hp : HP) (K : HP → Prop) (Q : Out → List V → HP → Prop) : Prop :=
  ∃ I : Nat → List V → HP → Prop, I 0 l hp ∧
    (∀ k x l h, vs[k]? = some x → I k l h → K h ∧ turn (lset l i x) h (fun o l2 h2 => match o with
      | .next => I (k + 1) l2 h2 | .brk => Q .next l2 h2 | .ret v => Q (.ret v) l2 h2)) ∧
    (∀ l h, I vs.length l h → K h ∧ Q .next l h)
noncomputable def forInU (turn : List V → HP → (Out → List V → HP → Prop) → Prop) (is : List Nat) (vs : List V) (l : List V) (hp : HP) (K : HP → Prop) (Q : Out → List V → HP → Prop) : Prop :=
  ∃ I : Nat → List V → HP → Prop, I 0 l hp ∧
    (∀ k x l h, vs[k]? = some x → I k l h → K h ∧ unpV x is.length h fun ys => turn (lsetN l is ys) h (fun o l2 h2 => match o with
      | .next => I (k + 1) l2 h2 | .brk => Q .next l2 h2 | .ret v => Q (.ret v) l2 h2)) ∧
    (∀ l h, I vs.length l h → K h ∧ Q .next l h)
noncomputable def forInR (turn : List V → HP → (Out → List V → HP → Prop) → Prop) (is : List Nat) (rows : List (List V)) (l : List V) (hp : HP) (K : HP → Prop) (Q : Out → List V → HP → Prop) : Prop :=
  ∃ I : Nat → List V → HP → Prop, I 0 l hp ∧
    (∀ k ys l h, rows[k]? = some ys → I k l h → K h ∧ turn (lsetN l is ys) h (fun o l2 h2 => match o with
      | .next => I (k + 1) l2 h2 | .brk => Q .next l2 h2 | .ret v => Q (.ret v) l2 h2)) ∧
    (∀ l h, I rows.length l h → K h ∧ Q .next l h)
noncomputable def enumR : Nat → List V → List (List V)
  | _, [] => []
  | k, x :: r => [.int k, x] :: enumR (k + 1) r
noncomputable def execH : MH → List V → HP → (Out → List V → HP → Prop) → Prop
  | .retB b, l, hp, Q => Q (.ret (.bool b)) l hp
  | .retN, l, hp, Q => Q (.ret .none) l hp
  | .inc i k, l, hp, Q => varV l i fun v => match v with | .int n => Q .next (lset l i (.int (n + k))) hp | _ => False
  | .retS x, l, hp, Q => newV hp (.tup [.str (Str.ofString x)]) fun v h1 => Q (.ret v) l h1
noncomputable def whileI (test : List V → HP → (Bool → HP → Prop) → Prop) (turn els : List V → HP → (Out → List V → HP → Prop) → Prop) (l : List V) (hp : HP) (Q : Out → List V → HP → Prop) : Prop :=
  ∃ I : Nat → List V → HP → Prop, (∃ n, I n l hp) ∧ ∀ n l h, I n l h → test l h (fun t h1 =>
    (t = true → turn l h1 (fun o l2 h2 => match o with
      | .next => ∃ m, m < n ∧ I m l2 h2 | .brk => Q .next l2 h2 | .ret v => Q (.ret v) l2 h2)) ∧
    (t = false → els l h1 Q))
noncomputable def sameLen : List V → List Nat → Bool
  | [], [] => true
  | _ :: r, _ :: t => sameLen r t
  | _, _ => false
theorem sameLen_len : ∀ {vs : List V} {is : List Nat}, sameLen vs is = true → vs.length = is.length
  | [], [], _ => rfl
  | [], _ :: _, h => by cases h
  | _ :: _, [], h => by cases h
  | _ :: r, _ :: t, h => by simp only [List.length_cons]; rw [sameLen_len (vs := r) (is := t) h]
noncomputable abbrev noX : XT := fun _ _ => False
noncomputable def exec (g : G) (d : Nat) : MS → List V → HP → (Out → List V → HP → Prop) → (XT) → Prop
  | .skip, l, hp, Q, _ => Q .next l hp
  | .seq a b, l, hp, Q, X => exec g d a l hp (fun o l1 h1 => match o with | .next => exec g d b l1 h1 Q X | .brk => Q .brk l1 h1 | .ret v => Q (.ret v) l1 h1) X
  | .asg i e, l, hp, Q, X => ev g d e l hp (fun v h1 => Q .next (lset l i v) h1) X
  | .asgN is es, l, hp, Q, X => evs g d es l hp (fun vs h1 => match sameLen vs is with | true => Q .next (lsetN l is vs) h1 | false => False) X
  | .unp is e, l, hp, Q, X => ev g d e l hp (fun v h1 => unpV v is.length h1 fun vs => Q .next (lsetN l is vs) h1) X
  | .aug i o e, l, hp, Q, X => varV l i fun v => ev g d e l hp (fun w h1 => augV o v w h1 fun r h2 => Q .next (lset l i r) h2) X
  | .setI a i e, l, hp, Q, X => ev g d e l hp (fun x h1 => ev g d a l h1 (fun v h2 => ev g d i l h2 (fun w h3 => setV v w x h3 fun h4 => Q .next l h4) X) X) X
  | .ite c a b, l, hp, Q, X => evT g d c l hp (fun t h1 => (t = true → exec g d a l h1 Q X) ∧ (t = false → exec g d b l h1 Q X)) X
  | .whil c a b, l, hp, Q, _ => whileI (fun l h R => evT g d c l h R noX) (fun l h R => exec g d a l h R noX) (fun l h R => exec g d b l h R noX) l hp Q
  | .forR i lo hi st a, l, hp, Q, X => ev g d lo l hp (fun x h1 => ev g d hi l h1 (fun y h2 => ev g d st l h2 (fun z h3 =>
      match x, y, z with
      | .int x, .int y, .int z => z ≠ 0 ∧ Builtin.Range.small x y z = true ∧ forIn (fun l h R => exec g d a l h R noX) i ((List.range (Builtin.Range.rangeSize x y z).toNat).map fun (k : Nat) => V.int (x + k * z)) l h3 (fun _ => True) Q
      | _, _, _ => False) X) X) X
  | .forL i e a, l, hp, Q, X => ev g d e l hp (fun v h1 => match v with
      | .ref r => ∃ vs, iterOf (h1 r) = some vs ∧ (vs.length : Int) < 2 ^ 62 ∧ forIn (fun l h R => exec g d a l h R noX) i vs l h1 (fun h => h r = h1 r) Q
      | _ => False) X
  | .ret e, l, hp, Q, X => ev g d e l hp (fun v h1 => Q (.ret v) l h1) X
  | .brk, l, hp, Q, _ => Q .brk l hp
  | .expr e, l, hp, Q, X => ev g d e l hp (fun _ h1 => Q .next l h1) X
  | .forU is e a, l, hp, Q, X => ev g d e l hp (fun v h1 => match v with
      | .ref r => ∃ vs, iterOf (h1 r) = some vs ∧ (vs.length : Int) < 2 ^ 62 ∧ forInU (fun l h R => exec g d a l h R noX) is vs l h1 (fun h => h r = h1 r) Q
      | _ => False) X
  | .forE is e a, l, hp, Q, X => ev g d e l hp (fun v h1 => match v with
      | .ref r => ∃ vs, listAt (h1 r) = some vs ∧ forInR (fun l h R => exec g d a l h R noX) is (enumR 0 vs) l h1 (fun h => h r = h1 r) Q
      | _ => False) X
  | .forZ is es a, l, hp, Q, X => evs g d es l hp (fun vs h1 => ∃ wss N, zipAt h1 N vs wss ∧ vs.length = is.length ∧
      forInR (fun l h R => exec g d a l h R noX) is ((List.range N).map (zrow wss)) l h1 (fun h => ∀ r, V.ref r ∈ vs → h r = h1 r) Q) X
  | .stop, _, _, _, _ => False
  | .casg i e, l, hp, Q, X => ev g d e l hp (fun v h1 => match lget l i with | .cell a => (∃ w, h1 a = some (.cell w)) ∧ Q .next l (hset h1 a (.cell v)) | _ => False) X
  | .asgC is es, l, hp, Q, X => evs g d es l hp (fun vs h1 => putN l is vs h1 fun l2 h2 => Q .next l2 h2) X
  | .raise x, _, hp, _, X => X (.own x) hp
  | .tryE t e x h, l, hp, Q, _ => ev g d e l hp (fun v h1 => match t with
      | .expr => Q .next l h1
      | .ret => Q (.ret v) l h1
      | .asg i => Q .next (lset l i v) h1) (fun c h1 => match c with
      | .up c => c = x ∧ execH h l h1 Q
      | .own _ => False)
set_option genInjectivity false in
structure Fx where
  g : G
  gt : List (Str × Addr)
  bt : List Str
  names : List Str
  sc : Scope
  top : Bool
  tr : Bool
noncomputable def catchOk (g : G) : Prop := (Str.ofString "ValueError") ∉ startupNames ∧ (Str.ofString "ValueError") ∉ g.loose ∧ (Str.ofString "ValueError") ∉ (recsOf g.p).map (·.name) ∧
  (Str.ofString "ValueError") ∉ (litsOf g.p).map (·.1) ∧ (Str.ofString "ValueError") ∉ (clssOf g.p g.loose).map (·.name)
set_option genInjectivity false in
structure Fx.Ok (F : Fx) : Prop where
  gt : ∀ x a, F.gt.lookup x = some a → nsIn F.g.K mainGlobals x = some (some (.ref a)) ∧ keepIn F.g.K (.ref a) = true
  bt : ∀ x ∈ F.bt, nsIn F.g.K mainGlobals x = some Option.none
  nd : F.names.Nodup
  tr : F.tr = true → catchOk F.g
noncomputable def SCF (c : Cx) (F : Fx) : Prop := c.sc = F.sc ∧ (F.top = true → c.cp = none) ∧ (F.top = true → (F.sc.names.all fun y => !(y.2 == .cell)) = true → c.cl = [])
noncomputable def SE (F : Fx) (e : Expr) (m : ME) : Prop := ∀ c d, F.Ok → c.g = F.g → SCF c F → c.Ok → room c d → ∀ l hp Q X, ev F.g d m l hp Q X → W rV c F.names l (eval e c.env) hp Q X
noncomputable def ST (F : Fx) (e : Expr) (m : ME) : Prop := ∀ c d, F.Ok → c.g = F.g → SCF c F → c.Ok → room c d → ∀ l hp Q X, evT F.g d m l hp Q X → ∀ whole, whole = eval e c.env → W rB c F.names l (isTrue e c.env whole) hp Q X
noncomputable def SEs (F : Fx) (es : List Expr) (m : ME) : Prop := ∀ c d, F.Ok → c.g = F.g → SCF c F → c.Ok → room c d → ∀ l hp Q X, evs F.g d m l hp Q X → ∀ pos, W rVs c F.names l (spliced (backTo pos (starEach es c.env))) hp Q X
noncomputable def notStar : Expr → Bool
  | .Starred .. => false
  | _ => true
theorem starEach_plain : ∀ (es : List Expr) (env : Env), es.all notStar = true → starEach es env = es.map fun e => (false, eval e env)
  | [], _, _ => rfl
  | e :: r, env, h => by
    simp only [List.all_cons, Bool.and_eq_true] at h
    have ih := starEach_plain r env h.2
    have : starEach (e :: r) env = (false, eval e env) :: starEach r env := by
      cases e <;> first | rfl | (exact absurd h.1 (by simp [notStar]))
    rw [this, ih]; rfl
theorem starEach_cons {e : Expr} {r : List Expr} {env : Env} (h : notStar e = true) : starEach (e :: r) env = (false, eval e env) :: starEach r env := by
  cases e <;> first | rfl | (exact absurd h (by simp [notStar]))
theorem backTo_any {es : List Expr} {env : Env} {pos : Pos} (h : es.all notStar = true) : (backTo pos (starEach es env)).any (·.1) = false := by
  rw [starEach_plain es env h]
  induction es with
  | nil => rfl
  | cons e r ih =>
    simp only [List.all_cons, Bool.and_eq_true] at h
    have := ih h.2
    simp only [backTo, List.map_cons, List.any_cons, Bool.false_or] at this ⊢
    exact this
theorem lget_some {v : V} : ∀ {l : List V} {i : Nat}, lget l i = v → v ≠ .unb → l[i]? = some v
  | [], _, h, n => absurd h.symm n
  | _ :: _, 0, h, _ => congrArg some h
  | _ :: r, _ + 1, h, n => lget_some (l := r) h n
theorem Cx.env_scope (c : Cx) : c.env.scope = c.sc := by unfold Cx.env Cx.sc; cases c.cp <;> rfl
theorem Cx.env_globals (c : Cx) : c.env.globals = mainGlobals := by unfold Cx.env; cases c.cp <;> rfl
theorem Cx.env_builtins (c : Cx) : c.env.builtins = builtinsNs := by unfold Cx.env; cases c.cp <;> rfl
theorem Cx.env_kindOf (c : Cx) (x : Str) : c.env.kindOf x = c.sc.names.lookup x := by rw [← c.env_scope]; rfl
theorem Cx.env_plain {c : Cx} (h : c.cp = none) : c.env = c.fenv := by unfold Cx.env; rw [h]
theorem Cx.sc_plain {c : Cx} (h : c.cp = none) : c.sc = c.fsc := by unfold Cx.sc; rw [h]
theorem Cx.Ok.turn {c : Cx} (ok : c.Ok) {g : Heap} (T : KtsTurn c.fs c.h₀ g) : (c.at g).Ok :=
  ⟨⟨ok.below.stack, fun b o e => T.other b o (ok.below.stays b o e) (fun hm => by rw [(ok.below.frames.mem hm).1] at e; cases e), ok.below.frames.of_keeps fun b o e _ => by
    obtain ⟨sl, hs⟩ := T.up e
    exact ⟨_, hs, rfl⟩⟩, ok.inK, ok.top, ok.dicts.turn T, ok.kind, ok.fkind, ok.gen, ok.cor, ok.hd, ok.seer, ok.tree⟩
theorem Rep.locals {c : Cx} {names l hp fr h} {i : Nat} {x : Str} {v : V} (R : Rep c names l hp fr h) (hx : names[i]? = some x) (hv : lget l i = v) (hn : v ≠ .unb) (hc : ∀ a, v ≠ .cell a) :
    ∃ m val, h.Ns c.env.locals m ∧ m x = some val ∧ absV val = v := by
  refine Gen fun G back => ?_
  rcases R with ⟨g, T, m, F, lo, _, N, _⟩
  refine back ?_
  clear back
  clear G
  unfold LocX at lo
  unfold Cx.env
  cases e : c.cp with
  | none =>
    rw [e] at lo
    rcases lo i x v hx (lget_some hv hn) hn with ⟨a, q, _⟩ | ⟨_, val, a, b⟩
    · exact absurd q (hc a)
    · exact ⟨m, val, F.ns, a, b⟩
  | some k =>
    rw [e] at lo
    refine Gen fun G back => ?_
    rcases lo with ⟨_, oC, m₂, hm, ⟨es, ep, hd, r⟩, lo⟩
    refine back ?_
    clear back
    clear G
    rcases lo i x v hx (lget_some hv hn) hn with ⟨a, q, _⟩ | ⟨_, val, a, b⟩
    · exact absurd q (hc a)
    · exact ⟨m₂, val, ⟨oC, es, ep, (N _ hm).1, hd, r⟩, a, b⟩
theorem Rep.cellOf {c : Cx} {names l hp fr h} {i : Nat} {x : Str} {a : Addr} (R : Rep c names l hp fr h) (hx : names[i]? = some x) (hv : lget l i = .cell a) : c.env.cells.lookup x = some a := by
  refine Gen fun G back => ?_
  rcases R with ⟨g, T, m, F, lo, _, N, _⟩
  refine back ?_
  clear back
  clear G
  unfold LocX at lo
  unfold Cx.env
  cases e : c.cp with
  | none =>
    rw [e] at lo
    rcases lo i x _ hx (lget_some hv (fun q => nomatch q)) (fun q => nomatch q) with ⟨b, q, r⟩ | ⟨q, _⟩
    · cases q; exact r
    · exact absurd rfl (q a)
  | some k =>
    rw [e] at lo
    refine Gen fun G back => ?_
    rcases lo with ⟨_, oC, m₂, hm, _, lo⟩
    refine back ?_
    clear back
    clear G
    rcases lo i x _ hx (lget_some hv (fun q => nomatch q)) (fun q => nomatch q) with ⟨b, q, r⟩ | ⟨q, _⟩
    · cases q; exact r
    · exact absurd rfl (q a)
theorem varV_iff {l : List V} {i : Nat} {Q : V → Prop} : varV l i Q ↔ (lget l i ≠ .unb ∧ ∀ a, lget l i ≠ .cell a) ∧ Q (lget l i) := by
  unfold varV; cases lget l i <;> simp
theorem Rep.keep {c : Cx} {names l hp fr h} (ok : c.Ok) (R : Rep c names l hp fr h) : ∀ b o, c.base.get? b = some o → h.get? b = some o :=
  let ⟨_, T, _, F, _⟩ := R; fun b o e => F.keep b o ((ok.turn T).below.stays b o e)
section
variable {F : Fx}
theorem se_var {x : Str} {pos : Pos} {i : Nat} (hi : F.names[i]? = some x) (hk : F.sc.names.lookup x = some .local) (hd : (x == ("__debug__" : Str)) = false) : SE F (.Name x pos) (.var i) := by
  intro c d FO hg hsc ok rm l hp Q X hev fr s P E R hP hX
  obtain ⟨⟨hn, hc⟩, hQ⟩ := varV_iff.mp hev
  refine Gen fun G back => ?_
  rcases R.locals hi rfl hn hc with ⟨m, val, hns, hm, hab⟩
  refine back ?_
  clear back
  clear G
  exact wpAny_Name (wpAny_loadName_local (by rw [c.env_scope]; exact ok.kind) (by rw [c.env_kindOf, hsc.1]; exact hk) hns hm (hP _ val hp s.heap s.toks hQ hab R)) hd
theorem se_cvar {x : Str} {pos : Pos} {i : Nat} (hi : F.names[i]? = some x) (hk : F.sc.names.lookup x = some .cell) (hd : (x == ("__debug__" : Str)) = false) : SE F (.Name x pos) (.cvar i) := by
  intro c d FO hg hsc ok rm l hp Q X hev fr s P E R hP hX
  have hev : cvarV l i hp fun v => Q v hp := hev
  unfold cvarV at hev
  cases e : lget l i with
  | cell a =>
    rw [e] at hev
    refine Gen fun G back => ?_
    rcases hev with ⟨v, h1, hn, hQ⟩
    refine back ?_
    clear back
    clear G
    have hcl := R.cellOf hi e
    refine Gen fun G back => ?_
    rcases id R with ⟨g, T, m, Fm, lo, H, N, D⟩
    refine back ?_
    clear back
    clear G
    refine Gen fun G back => ?_
    rcases H.2 a _ h1 with ⟨ob, ho, ⟨w, hd', hw⟩, _⟩
    refine back ?_
    clear back
    clear G
    cases w with
    | none => exact absurd hw hn
    | some val => exact wpAny_Name (wpAny_loadName_cell (by rw [c.env_scope]; exact ok.kind) (by rw [c.env_kindOf, hsc.1]; exact hk) hcl ⟨ob, ho, hd'⟩ (hP _ val hp s.heap s.toks hQ hw.2 R)) hd
  | _ => rw [e] at hev; exact hev.elim
theorem se_int {i : Int} {k pos} : SE F (.Constant (.int i) k pos) (.int i) := by
  intro c d FO hg hsc ok rm l hp Q X hev fr s P E R hP hX
  exact wpAny_Constant_int (hP _ _ hp s.heap _ hev rfl R)
theorem se_bool {b : Bool} {k pos} : SE F (.Constant (.bool b) k pos) (.bool b) := by
  intro c d FO hg hsc ok rm l hp Q X hev fr s P E R hP hX
  exact Constant_bool (hP _ _ hp s.heap s.toks hev rfl R)
theorem se_none {k pos} : SE F (.Constant .none k pos) .none := by
  intro c d FO hg hsc ok rm l hp Q X hev fr s P E R hP hX
  exact wpAny_Constant_none (hP _ _ hp s.heap s.toks hev rfl R)
noncomputable def opOf : Operator → Option BOp
  | .Add => some .add | .Sub => some .sub | .Mult => some .mul | .FloorDiv => some .fdiv | .Mod => some .mod
  | .Pow => some .pow | .LShift => some .shl | .RShift => some .shr | .BitAnd => some .band | _ => Option.none
theorem absV_int {v : Value} {i : Int} (h : absV v = .int i) : ∃ t, v = .int i t := by
  cases v with
  | int j t => exact ⟨t, congrArg (Value.int · t) (V.int.inj h)⟩
  | _ => injection h
theorem absV_bool {v : Value} {b : Bool} (h : absV v = .bool b) : v = .bool b := by
  cases v with
  | bool c => exact congrArg Value.bool (V.bool.inj h)
  | _ => injection h
theorem absV_str {v : Value} {x : Str} (h : absV v = .str x) : ∃ t, v = .str x t := by
  cases v with
  | str j t => exact ⟨t, congrArg (Value.str · t) (V.str.inj h)⟩
  | _ => injection h
theorem absV_ref {v : Value} {a : Addr} (h : absV v = .ref a) : v = .ref a := by
  cases v with
  | ref j => exact congrArg Value.ref (V.ref.inj h)
  | _ => injection h
theorem absV_none {v : Value} (h : absV v = .none) : v = .none := by
  cases v with
  | none => rfl
  | _ => injection h
theorem pylong {c : Cx} {names l hp fr} {s : Shared} {d : Nat} (ok : c.Ok) (rm : room c d) (R : Rep c names l hp fr s.heap) : PylongRoom (model c.g.prog c.g.w) c.A s := by
  refine PylongRoom.of (ok.top.nolimit.keeps (R.keep ok)) ?_ (SeerAt.of (ok.seer.keeps (R.keep ok)) ok.tree (Around.frames_deeper ok.below.stack) ok.gen ok.cor rfl rfl)
  have h1 := rm.1
  have : Builtin.pylongFrames = 100 := rfl
  (first | lia | omega)
theorem se_neg {a : Expr} {pos} {ma : ME} (ha : SE F a ma) : SE F (.UnaryOp .USub a pos) (.neg ma) := by
  intro c d FO hg hsc ok rm l hp Q X hev fr s P E R hP hX
  refine UnaryOp_ (ha c d FO hg hsc ok rm l hp _ X hev fr s _ E R (fun v x h1 hh tk hq hx R1 => ?_) hX)
  cases v with
  | int i =>
    obtain ⟨t, rfl⟩ := absV_int hx
    exact PyProof.Rows.neg_int (hP _ _ h1 hh _ hq rfl R1)
  | _ => exact hq.elim
theorem truS {c : Cx} {names : List Str} {l : List V} {hp : HP} {X : XT} {Q : Bool → HP → Prop} {v : V} {x : Value} (h : truV v hp fun t => Q t hp) (hx : absV x = v) : W rB c names l (truthy x) hp Q X := by
  intro fr s P E R hP hX
  cases v with
  | int i =>
    obtain ⟨t, rfl⟩ := absV_int hx
    exact PyProof.Rows.truthy_int (hP _ _ hp s.heap s.toks h rfl R)
  | bool b =>
    cases absV_bool hx
    exact wpAny_truthy_bool (hP _ _ hp s.heap s.toks h rfl R)
  | _ => exact h.elim
noncomputable def cmpOf : CmpOp → Option COp
  | .Eq => some .eq | .NotEq => some .ne | .Lt => some .lt | .LtE => some .le | .Gt => some .gt | .GtE => some .ge | _ => Option.none
theorem se_ite {a b e : Expr} {pos} {ma mb me : ME} (ha : ST F a ma) (hb : SE F b mb) (he : SE F e me) : SE F (.IfExp a b e pos) (.ite ma mb me) := by
  intro c d FO hg hsc ok rm l hp Q X hev fr s P E R hP hX
  refine IfExp_ (ha c d FO hg hsc ok rm l hp _ X hev _ rfl fr s _ E R (fun v x h1 hh tk hq hx R1 => ?_) hX)
  cases hx
  cases v with
  | true => rw [if_pos rfl]; exact hb c d FO hg hsc ok rm l h1 _ X (hq.1 rfl) fr _ _ E R1 hP hX
  | false => rw [if_neg (by decide)]; exact he c d FO hg hsc ok rm l h1 _ X (hq.2 rfl) fr _ _ E R1 hP hX
theorem se_not {a : Expr} {pos} {ma : ME} (ha : SE F a ma) (hun : ∀ M A v s (Q : Value → Shared → Prop) E, wpAny M A (truthy v) (fun t s' => Q (.bool (!t)) s') E s → wpAny M A (unaryOp .Not v) Q E s) : SE F (.UnaryOp .Not a pos) (.not ma) := by
  intro c d FO hg hsc ok rm l hp Q X hev fr s P E R hP hX
  refine UnaryOp_ (ha c d FO hg hsc ok rm l hp _ X hev fr s _ E R (fun v x h1 hh tk hq hx R1 => ?_) hX)
  refine hun _ _ _ _ _ _ (truS (Q := fun t h => Q (.bool (!t)) h) hq hx fr _ _ E R1 (fun u z h3 hh3 tk3 hq3 hz R3 => ?_) hX)
  cases hz
  exact hP _ _ h3 hh3 tk3 hq3 rfl R3
theorem st_not {a : Expr} {pos} {ma : ME} (ha : ST F a ma) : ST F (.UnaryOp .Not a pos) (.not ma) := by
  intro c d FO hg hsc ok rm l hp Q X hev whole hw fr s P E R hP hX
  refine isTrue_not (ha c d FO hg hsc ok rm l hp _ X hev _ rfl fr s _ E R (fun v x h1 hh tk hq hx R1 => ?_) hX)
  cases hx
  exact hP _ _ h1 hh tk hq rfl R1
theorem st_ite {a b e : Expr} {pos} {ma mb me : ME} (ha : ST F a ma) (hb : ST F b mb) (he : ST F e me) : ST F (.IfExp a b e pos) (.ite ma mb me) := by
  intro c d FO hg hsc ok rm l hp Q X hev whole hw fr s P E R hP hX
  refine isTrue_IfExp (ha c d FO hg hsc ok rm l hp _ X hev _ rfl fr s _ E R (fun v x h1 hh tk hq hx R1 => ?_) hX)
  cases hx
  cases v with
  | true => rw [if_pos rfl]; exact hb c d FO hg hsc ok rm l h1 _ X (hq.1 rfl) _ rfl fr _ _ E R1 hP hX
  | false => rw [if_neg (by decide)]; exact he c d FO hg hsc ok rm l h1 _ X (hq.2 rfl) _ rfl fr _ _ E R1 hP hX
noncomputable def plainTest : Expr → Bool
  | .BoolOp .. => false
  | .UnaryOp .. => false
  | .Compare .. => false
  | .IfExp .. => false
  | .NamedExpr .. => false
  | _ => true
theorem st_tv {e : Expr} {m : ME} (hp : plainTest e = true) (h : SE F e m) : ST F e (.tv m) := by
  intro c d FO hg hsc ok rm l hp' Q X hev whole hw fr s P E R hP hX
  subst hw
  refine isTrue_plain (h c d FO hg hsc ok rm l hp' _ X hev fr s _ E R (fun v x h1 hh tk hq hx R1 => ?_) hX) ?_
  · exact truS (Q := Q) hq hx fr _ _ E R1 hP hX
  · cases e <;> first | rfl | (exact absurd hp (by simp [plainTest]))
end
theorem base_lt {c : Cx} (ok : c.Ok) {m h a} {items : Array Value} (Fm : Fr c.h₀ c.L h m) (hb : c.base.IsList a items) : a < h.objs.size := by
  obtain ⟨o, ho, _⟩ := hb
  exact Heap.lt_size (Fm.keep _ _ (ok.below.stays _ _ ho))
noncomputable def isNew : Option O → Bool
  | some (.ro _) => false
  | some _ => true
  | Option.none => false
noncomputable def pick (hp : HP) (h : Heap) (a : Addr) : Option (Addr × Obj) := cond (isNew (hp a)) ((h.get? a).map (a, ·)) Option.none
theorem HpRep.news {c : Cx} {hp : HP} {h : Heap} (H : HpRep c hp h) : ∃ news, News c.h₀ c.L h news ∧ HpN c hp news := by
  obtain ⟨⟨D, hD⟩, hH⟩ := H
  refine ⟨D.filterMap (pick hp h), fun p hp' => ?_, ⟨D, hD⟩, fun a o ho => ?_⟩
  · obtain ⟨a, ha, e⟩ := List.mem_filterMap.mp hp'
    unfold pick at e
    cases q : hp a with
    | none => rw [q] at e; injection e
    | some o =>
      have := hH a _ q
      rw [q] at e
      cases o with
      | ro vs => injection e
      | _ =>
        refine Gen fun G back => ?_
        rcases this with ⟨ob, h1, _, h3, h4⟩
        refine back ?_
        clear back
        clear G
        rw [h1] at e
        cases e
        exact ⟨h1, h3, h4⟩
  · have := hH a o ho
    have pk : ∀ ob, isNew (some o) = true → h.get? a = some ob → (a, ob) ∈ D.filterMap (pick hp h) := fun ob q h1 => List.mem_filterMap.mpr ⟨a, hD a _ ho, by unfold pick; rw [ho, q, h1]; rfl⟩
    cases o with
    | ro vs => exact this
    | _ =>
      refine Gen fun G back => ?_
      rcases this with ⟨ob, h1, h2, _⟩
      refine back ?_
      clear back
      clear G
      exact ⟨ob, pk ob rfl h1, h2⟩
theorem HpN.rep {c : Cx} {hp : HP} {h : Heap} {news : List (Addr × Obj)} (H : HpN c hp news) (N : News c.h₀ c.L h news) : HpRep c hp h := by
  refine ⟨H.1, fun a o ho => ?_⟩
  have := H.2 a o ho
  cases o with
  | ro vs => exact this
  | list vs => obtain ⟨ob, h1, h2⟩ := this; exact ⟨ob, (N _ h1).1, h2, (N _ h1).2⟩
  | tup vs => obtain ⟨ob, h1, h2⟩ := this; exact ⟨ob, (N _ h1).1, h2, (N _ h1).2⟩
  | cell vs => obtain ⟨ob, h1, h2⟩ := this; exact ⟨ob, (N _ h1).1, h2, (N _ h1).2⟩
  | rng _ _ _ => obtain ⟨ob, h1, h2⟩ := this; exact ⟨ob, (N _ h1).1, h2, (N _ h1).2⟩
  | dict _ => obtain ⟨ob, h1, h2⟩ := this; exact ⟨ob, (N _ h1).1, h2, (N _ h1).2⟩
theorem Rep0.parts {c : Cx} {names l hp fr h} (R : Rep0 c names l hp fr h) :
    ∃ m news, Fr c.h₀ c.L h m ∧ LocX c names l m fr ∧ HpN c hp news ∧ News c.h₀ c.L h (news ++ fr) ∧ ∀ p ∈ fr, hp p.1 = Option.none := by
  refine Gen fun G back => ?_
  rcases R with ⟨m, Fm, lo, H, N, D⟩
  refine back ?_
  clear back
  clear G
  obtain ⟨news, N1, H1⟩ := H.news
  exact ⟨m, news, Fm, lo, H1, N1.append N, D⟩
theorem Rep.parts {c : Cx} {names l hp fr h} (R : Rep c names l hp fr h) :
    ∃ g m news, KtsTurn c.fs c.h₀ g ∧ Fr g c.L h m ∧ LocX c names l m fr ∧ HpN c hp news ∧ News g c.L h (news ++ fr) ∧ ∀ p ∈ fr, hp p.1 = Option.none := by
  obtain ⟨g, T, R⟩ := R
  obtain ⟨m, news, r⟩ := R.parts
  exact ⟨g, m, news, T, r⟩
theorem News.left' {h₀ h : Heap} {L : Addr} {a b : List (Addr × Obj)} (N : News h₀ L h (a ++ b)) : News h₀ L h a := fun p hp => N p (List.mem_append_left _ hp)
theorem News.right' {h₀ h : Heap} {L : Addr} {a b : List (Addr × Obj)} (N : News h₀ L h (a ++ b)) : News h₀ L h b := fun p hp => N p (List.mem_append_right _ hp)
theorem Rep.of {c : Cx} {names l hp fr h m news g} (T : KtsTurn c.fs c.h₀ g) (Fm : Fr g c.L h m) (lo : LocX c names l m fr) (H : HpN c hp news) (N : News g c.L h (news ++ fr)) (D : ∀ p ∈ fr, hp p.1 = Option.none) : Rep c names l hp fr h :=
  ⟨g, T, m, Fm, lo, HpN.rep (c := c.at g) H (News.left' N), News.right' N, D⟩
theorem Rep.fresh {c : Cx} {names l hp fr h} (ok : c.Ok) (R : Rep c names l hp fr h) : hp h.objs.size = Option.none ∧ ∀ p ∈ fr, p.1 ≠ h.objs.size := by
  refine Gen fun G back => ?_
  rcases R with ⟨g, T, m, Fm, lo, H, N, D⟩
  refine back ?_
  clear back
  clear G
  have ok := ok.turn T
  constructor
  · cases q : hp h.objs.size with
    | none => rfl
    | some o =>
      have := H.2 _ _ q
      cases o with
      | ro vs => obtain ⟨it, hb, _⟩ := this; exact absurd (base_lt ok Fm hb) (Nat.lt_irrefl _)
      | list vs => obtain ⟨ob, h1, _⟩ := this; exact absurd (Heap.lt_size h1) (Nat.lt_irrefl _)
      | tup vs => obtain ⟨ob, h1, _⟩ := this; exact absurd (Heap.lt_size h1) (Nat.lt_irrefl _)
      | cell vs => obtain ⟨ob, h1, _⟩ := this; exact absurd (Heap.lt_size h1) (Nat.lt_irrefl _)
      | rng _ _ _ => obtain ⟨ob, h1, _⟩ := this; exact absurd (Heap.lt_size h1) (Nat.lt_irrefl _)
      | dict _ => obtain ⟨ob, h1, _⟩ := this; exact absurd (Heap.lt_size h1) (Nat.lt_irrefl _)
  · intro p hp' e
    exact absurd (Heap.lt_size (N p hp').1) (by rw [e]; exact Nat.lt_irrefl _)
theorem Rep.more {c : Cx} {names : List Str} {l : List V} {hp : HP} {fr news : List (Addr × Obj)} {h' : Heap} {m : Str → Option Value} {r : Addr} {ob : Obj} {o : O} {g : Heap} (T : KtsTurn c.fs c.h₀ g) (Fm : Fr g c.L h' m) (lo : LocX c names l m fr) (H : HpN c hp news) (N : News g c.L h' ((r, ob) :: (news ++ fr)))
    (D : ∀ p ∈ fr, hp p.1 = Option.none) (hr : hp r = Option.none) (hf : ∀ p ∈ fr, p.1 ≠ r) (ho : RepO o ob) : Rep c names l (hset hp r o) fr h' := by
  refine Rep.of (news := (r, ob) :: news) T Fm lo ⟨?_, fun a x hx => ?_⟩ N fun p hp' => hset_none.mpr ⟨hf p hp', D p hp'⟩
  · obtain ⟨Dm, hD⟩ := H.1
    refine ⟨r :: Dm, fun a x hx => ?_⟩
    by_cases e : a = r
    · exact e ▸ .head _
    · rw [hset_ne e] at hx; exact .tail _ (hD a x hx)
  · by_cases e : a = r
    · subst e
      rw [hset_same] at hx
      cases hx
      cases o with
      | ro vs => exact ho.elim
      | list vs => exact ⟨ob, .head _, ho⟩
      | tup vs => exact ⟨ob, .head _, ho⟩
      | cell vs => exact ⟨ob, .head _, ho⟩
      | rng _ _ _ => exact ⟨ob, .head _, ho⟩
      | dict _ => exact ⟨ob, .head _, ho⟩
    · rw [hset_ne e] at hx
      have := H.2 a x hx
      cases x with
      | ro vs => exact this
      | list vs => obtain ⟨ob', h1, h2⟩ := this; exact ⟨ob', .tail _ h1, h2⟩
      | tup vs => obtain ⟨ob', h1, h2⟩ := this; exact ⟨ob', .tail _ h1, h2⟩
      | cell vs => obtain ⟨ob', h1, h2⟩ := this; exact ⟨ob', .tail _ h1, h2⟩
      | rng _ _ _ => obtain ⟨ob', h1, h2⟩ := this; exact ⟨ob', .tail _ h1, h2⟩
      | dict _ => obtain ⟨ob', h1, h2⟩ := this; exact ⟨ob', .tail _ h1, h2⟩
theorem newTupleS {c : Cx} {names l hp Q X} {vs : List V} {vals : List Value} (ok : c.Ok) (hv : vals.map absV = vs) (hsz : vs.length ≤ sizeLine)
    (h : ∀ r, hp r = Option.none → Q (.ref r) (hset hp r (.tup vs))) : W rV c names l (newTuple vals) hp Q X := by
  intro fr s P E R hP hX
  obtain ⟨f1, f2⟩ := R.fresh ok
  refine Gen fun G back => ?_
  rcases R.parts with ⟨g, m, news, T, Fm, lo, H, N, D⟩
  refine back ?_
  clear back
  clear G
  refine newTuple_N Fm N (fun h' F' N' => hP _ _ _ h' _ (h _ f1) rfl ?_) (by rw [← hv, List.length_map] at hsz; exact hsz)
  exact Rep.more T F' lo H N' D f1 f2 ⟨vals.toArray, _, rfl, by simpa using hv⟩
theorem newListS {c : Cx} {names l hp Q X} {vs : List V} {vals : List Value} (ok : c.Ok) (hv : vals.map absV = vs) (hsz : vs.length ≤ sizeLine)
    (h : ∀ r, hp r = Option.none → Q (.ref r) (hset hp r (.list vs))) : W rV c names l (newList vals) hp Q X := by
  intro fr s P E R hP hX
  obtain ⟨f1, f2⟩ := R.fresh ok
  refine Gen fun G back => ?_
  rcases R.parts with ⟨g, m, news, T, Fm, lo, H, N, D⟩
  refine back ?_
  clear back
  clear G
  refine newList_N Fm N (fun h' F' N' => hP _ _ _ h' _ (h _ f1) rfl ?_) (by rw [← hv, List.length_map] at hsz; exact hsz)
  exact Rep.more T F' lo H N' D f1 f2 ⟨vals.toArray, _, rfl, by simpa using hv⟩
theorem Rep.items {c : Cx} {names l hp fr h} {a : Addr} {vs : List V} (ok : c.Ok) (R : Rep c names l hp fr h) (e : itemsOf (hp a) = some vs) :
    ∃ items : Array Value, items.toList.map absV = vs ∧ ((h.IsList a items ∧ ∀ ws, hp a ≠ some (.tup ws)) ∨ (IsTup h a items ∧ hp a = some (.tup vs))) := by
  refine Gen fun G back => ?_
  rcases R with ⟨g, T, m, Fm, lo, H, N, D⟩
  refine back ?_
  clear back
  clear G
  have ok := ok.turn T
  cases q : hp a with
  | none => rw [q] at e; cases e
  | some o =>
    have := H.2 _ _ q
    rw [q] at e
    cases o with
    | ro ws =>
      cases e
      refine Gen fun G back => ?_
      rcases this with ⟨it, ⟨ob, h1, h2⟩, h3⟩
      refine back ?_
      clear back
      clear G
      exact ⟨it, h3, .inl ⟨⟨ob, Fm.keep _ _ (ok.below.stays _ _ h1), h2⟩, by intro ws; simp⟩⟩
    | list ws =>
      cases e
      refine Gen fun G back => ?_
      rcases this with ⟨ob, h1, ⟨it, n, hz1, h2⟩, _⟩
      refine back ?_
      clear back
      clear G
      subst hz1
      exact ⟨it, h2, .inl ⟨⟨_, h1, rfl, n, rfl⟩, by intro ws; simp⟩⟩
    | tup ws =>
      cases e
      refine Gen fun G back => ?_
      rcases this with ⟨ob, h1, ⟨it, n, hz2, h2⟩, _⟩
      refine back ?_
      clear back
      clear G
      subst hz2
      exact ⟨it, h2, .inr ⟨⟨_, h1, rfl, n, rfl⟩, rfl⟩⟩
    | cell ws => cases e
    | rng _ _ _ => cases e
    | dict _ => cases e
theorem lenS {c : Cx} {names l hp X} {Q : V → HP → Prop} {v : V} {x : Value} (ok : c.Ok) (h : lenV v hp fun n => Q (.int n) hp) (hx : absV x = v) : W rV c names l (call (.builtin "len") [x]) hp Q X := by
  intro fr s P E R hP hX
  cases v with
  | ref a =>
    cases absV_ref hx
    refine Gen fun G back => ?_
    rcases h with ⟨vs, e, hfit, hq⟩
    refine back ?_
    clear back
    clear G
    obtain ⟨items, hi, hl⟩ := R.items ok e
    have hsz : (items.size : Int) = vs.length := by rw [← hi]; simp
    rw [← hsz] at hq
    rcases hl with ⟨hl, _⟩ | ⟨hl, _⟩
    · exact call_len_list hl (by (first | lia | omega)) (hP _ _ hp s.heap _ hq rfl R)
    · exact len_tuple hl (by (first | lia | omega)) (hP _ _ hp s.heap _ hq rfl R)
  | str y =>
    obtain ⟨t, rfl⟩ := absV_str hx
    exact PySem.P.len_str (by have := h.1; (first | lia | omega)) (hP _ _ hp s.heap _ h.2 rfl R)
  | _ => exact h.elim
noncomputable def sliceOf : Expr → Bool
  | .Slice .. => true
  | _ => false
theorem sub_plain {slice : Expr} (h : sliceOf slice = false) (o i : Value) : subscripted slice false o i = operate [o, i] (getItem o i) := by
  cases slice <;> first | rfl | (exact absurd h (by simp [sliceOf]))
theorem idxS {c : Cx} {names l hp X} {Q : V → HP → Prop} {v w : V} {x y : Value} {value slice : Expr} (ok : c.Ok) (hs : sliceOf slice = false) (h : idxV v w hp fun u => Q u hp) (hx : absV x = v) (hy : absV y = w) : W rV c names l (subscriptTail value slice x y) hp Q X := by
  intro fr s P E R hP hX
  obtain ⟨a, k, rfl, rfl⟩ : ∃ a k, v = .ref a ∧ w = .int k := by cases v <;> first | exact h.elim | (cases w <;> first | exact h.elim | exact ⟨_, _, rfl, rfl⟩)
  · cases absV_ref hx
    obtain ⟨t, rfl⟩ := absV_int hy
    refine Gen fun G back => ?_
    rcases h with ⟨vs, u, e, hfit, hlo, hhi, hu, hq⟩
    refine back ?_
    clear back
    clear G
    obtain ⟨items, hi, hl⟩ := R.items ok e
    have hsz : items.size = vs.length := by rw [← hi]; simp
    replace hu : items.toList[(if k < 0 then k + vs.length else k).toNat]?.map absV = some u := by rw [← List.getElem?_map, hi]; exact hu
    cases hit : items.toList[(if k < 0 then k + vs.length else k).toNat]? with
    | none => rw [hit] at hu; cases hu
    | some z =>
      rw [hit] at hu
      simp only [Option.map_some, Option.some.injEq] at hu
      rw [Array.getElem?_toList] at hit
      rcases hl with ⟨hl, _⟩ | ⟨hl, _⟩
      · refine tail_any hl.typeIs slot_list_getitem.lookup ?_ (sub_plain hs _ _)
        by_cases hk : k < 0
        · rw [if_pos hk] at hit
          exact wpAny_getItem_list_neg hl hk (by (first | lia | omega)) (by (first | lia | omega)) (by rw [hsz]; exact hit) (hP _ _ hp s.heap s.toks hq hu R)
        · rw [if_neg hk] at hit
          exact wpAny_getItem_list hl (by (first | lia | omega)) (by (first | lia | omega)) hit (hP _ _ hp s.heap s.toks hq hu R)
      · refine tail_any hl.typeIs slot_tuple_getitem.lookup ?_ (sub_plain hs _ _)
        refine getItem_tuple hl (j := (if k < 0 then k + vs.length else k).toNat) (by (first | lia | omega)) (by (first | lia | omega)) ?_ hit (hP _ _ hp s.heap s.toks hq hu R)
        unfold seqIndex?
        rw [hsz]
        by_cases hk : k < 0
        · simp only [hk, if_true]
          rw [if_pos (by simp only [Bool.and_eq_true, decide_eq_true_eq]; (first | lia | omega))]
        · simp only [hk, if_false]
          rw [if_pos (by simp only [Bool.and_eq_true, decide_eq_true_eq]; (first | lia | omega))]
theorem Rep.listI {c : Cx} {names l hp fr h} {a : Addr} {vs : List V} (ok : c.Ok) (R : Rep c names l hp fr h) (e : listAt (hp a) = some vs) :
    ∃ items : Array Value, items.toList.map absV = vs ∧ h.IsList a items := by
  have e' : itemsOf (hp a) = some vs := by
    cases q : hp a with
    | none => rw [q] at e; cases e
    | some o => rw [q] at e; cases o <;> first | exact e | cases e
  obtain ⟨items, hi, hl⟩ := R.items ok e'
  rcases hl with ⟨hl, _⟩ | ⟨_, hl⟩
  · exact ⟨items, hi, hl⟩
  · rw [hl] at e; cases e
theorem Rep.reads {c : Cx} {names l hp fr h} (ok : c.Ok) (R : Rep c names l hp fr h) {v : V} {d : PyData} (r : Rd hp v d) : ∀ {x : Value}, absV x = v → ∃ as, Reads h x d as := by
  have lst : ∀ {a : Addr} {vs : List V} {ds : List PyData}, listAt (hp a) = some vs → (∀ {xs : List Value}, xs.map absV = vs → ∃ as, ReadsAll h xs ds as) → ∀ {x : Value}, absV x = .ref a → ∃ as, Reads h x (.list ds) as := fun {a vs ds} e ih x hx => by
    cases absV_ref hx
    obtain ⟨items, hi, hl⟩ := R.listI ok (a := a) e
    obtain ⟨as, ra⟩ := ih hi
    refine Gen fun G back => ?_
    rcases hl with ⟨o, ho, hc, n, hd⟩
    refine back ?_
    clear back
    clear G
    exact ⟨_, Reads.list ho hc hd ra⟩
  intro x hx
  refine Rd.rec (motive_1 := fun v d _ => ∀ {x : Value}, absV x = v → ∃ as, Reads h x d as) (motive_2 := fun vs ds _ => ∀ {xs : List Value}, xs.map absV = vs → ∃ as, ReadsAll h xs ds as) ?_ ?_ ?_ ?_ ?_ ?_ ?_ ?_ ?_ r hx
  · intro i x hx; obtain ⟨t, rfl⟩ := absV_int hx; exact ⟨_, .int i t⟩
  · intro b x hx; cases absV_bool hx; exact ⟨_, .bool b⟩
  · intro x hx; cases absV_none hx; exact ⟨_, .none⟩
  · intro y x hx; obtain ⟨_, rfl⟩ := absV_str hx; exact ⟨_, .str _ _⟩
  · intro a vs ds e _ ih; exact lst (by rw [e]; rfl) ih
  · intro a vs ds e _ ih; exact lst (by rw [e]; rfl) ih
  · intro a vs ds e _ ih x hx
    cases absV_ref hx
    obtain ⟨items, hi, hl⟩ := R.items ok (a := a) (by rw [e]; rfl)
    obtain ⟨as, ra⟩ := ih hi
    rcases hl with ⟨_, hl⟩ | ⟨hl, _⟩
    · exact absurd e (hl _)
    · refine Gen fun G back => ?_
      rcases hl with ⟨o, ho, hc, n, hd⟩
      refine back ?_
      clear back
      clear G
      exact ⟨_, Reads.tuple ho hc hd ra⟩
  · intro xs hx
    cases xs with
    | nil => exact ⟨_, .nil⟩
    | cons y ys => injection hx
  · intro v d vs ds _ _ i1 i2 xs hx
    cases xs with
    | nil => injection hx
    | cons y ys =>
      obtain ⟨as, ra⟩ := i1 (List.head_eq_of_cons_eq hx)
      obtain ⟨bs, rb⟩ := i2 (List.tail_eq_of_cons_eq hx)
      exact ⟨_, .cons ra rb⟩
section
variable {F : Fx}
theorem binS {o : Operator} {b : BOp} (ho : opOf o = some b) {c : Cx} {d : Nat} (ok : c.Ok) (rm : room c d) {names l hp Q X} {v w : V} {x y : Value}
    (h : binV b v w hp Q) (hx : absV x = v) (hy : absV y = w) : W rV c names l (binaryOp o x y) hp Q X := by
  intro fr s P E R hP hX
  rcases (show (∃ i j, v = .int i ∧ w = .int j) ∨ (∃ a a', v = .ref a ∧ w = .ref a') by
    cases v <;> first | exact h.elim | (cases w <;> first | exact h.elim | exact .inl ⟨_, _, rfl, rfl⟩ | exact .inr ⟨_, _, rfl, rfl⟩)) with ⟨i, j, rfl, rfl⟩ | ⟨a, b', rfl, rfl⟩
  · obtain ⟨t, rfl⟩ := absV_int hx
    obtain ⟨u, rfl⟩ := absV_int hy
    obtain ⟨hok, hq⟩ := h
    cases o <;> first | (injection ho; done) | (injection ho with ho; subst ho)
    · exact PyProof.Rows.add_int (hP _ _ hp s.heap _ hq rfl R)
    · exact PyProof.Rows.sub_int (hP _ _ hp s.heap _ hq rfl R)
    · exact PyProof.Rows.mul_int (hP _ _ hp s.heap _ hq rfl R) hok
    · exact mod_int' hok (hP _ _ hp s.heap _ hq rfl R)
    · exact PyProof.Rows.pow_int hok.1 hok.2 (hP _ _ hp s.heap _ hq rfl R)
    · exact PyProof.Rows.lshift_int hok.1 hok.2 (hP _ _ hp s.heap _ hq rfl R)
    · exact PyProof.Rows.rshift_int hok (hP _ _ hp s.heap _ hq rfl R)
    · exact PyProof.Rows.and_int (hP _ _ hp s.heap _ hq rfl R)
    · exact floordiv_int hok (hP _ _ hp s.heap _ hq rfl R) (.inr (pylong ok rm R))
  · cases absV_ref hx
    cases absV_ref hy
    cases o <;> (first | (injection ho; done) | (injection ho with ho; subst ho)) <;> first | exact h.elim | skip
    refine Gen fun G back => ?_
    rcases h with ⟨vs, ws, e1, e2, hsz, hn⟩
    refine back ?_
    clear back
    clear G
    obtain ⟨i1, hi1, hl1⟩ := R.listI ok e1
    obtain ⟨i2, hi2, hl2⟩ := R.listI ok e2
    obtain ⟨f1, f2⟩ := R.fresh ok
    refine Gen fun G back => ?_
    rcases R.parts with ⟨g, m, news, T, Fm, lo, H, N, D⟩
    refine back ?_
    clear back
    clear G
    refine PyProof.Rows.add_arrays Fm N hl1 hl2 (fun h' F' N' => hP _ _ _ h' _ (hn _ f1) rfl ?_) (by rw [← hi1, ← hi2] at hsz; simpa using hsz)
    exact Rep.more T F' lo H N' D f1 f2 ⟨_, _, rfl, by simp [← hi1, ← hi2]⟩
theorem se_bin {a b : Expr} {o : Operator} {pos} {ma mb : ME} {bo : BOp} (ho : opOf o = some bo) (ha : SE F a ma) (hb : SE F b mb) : SE F (.BinOp a o b pos) (.bin bo ma mb) := by
  intro c d FO hg hsc ok rm l hp Q X hev fr s P E R hP hX
  refine wpAny_BinOp (ha c d FO hg hsc ok rm l hp _ X hev fr s _ E R (fun v x h1 hh tk hq hx R1 => ?_) hX)
  refine hb c d FO hg hsc ok rm l h1 _ X hq fr _ _ E R1 (fun w y h2 hh2 tk2 hq2 hy R2 => ?_) hX
  exact binS ho ok rm hq2 hx hy fr _ _ E R2 hP hX
theorem isInts_of {v w : V} {p : Int × Int} (h : isInts v w = some p) : v = .int p.1 ∧ w = .int p.2 := by
  cases v <;> first | (injection h; done) | (cases w <;> first | (injection h; done) | (injection h with h; subst h; exact ⟨rfl, rfl⟩))
theorem cmpS {o : CmpOp} {b : COp} (ho : cmpOf o = some b) {c : Cx} {d : Nat} (ok : c.Ok) (rm : room c d) {names : List Str} {l : List V} {hp : HP} {X : XT} {Q : Bool → HP → Prop} {v w : V} {x y : Value}
    (h : cmpV b v w hp fun t => Q t hp) (hx : absV x = v) (hy : absV y = w) : W rV c names l (compareOp o x y) hp (fun u h' => ∃ t, u = .bool t ∧ Q t h') X := by
  intro fr s P E R hP hX
  unfold cmpV at h
  cases q : isInts v w with
  | some p =>
    rw [q] at h
    obtain ⟨rfl, rfl⟩ := isInts_of q
    obtain ⟨t, rfl⟩ := absV_int hx
    obtain ⟨u, rfl⟩ := absV_int hy
    cases o <;> first | (injection ho; done) | (injection ho with ho; subst ho)
    · exact PyProof.Rows.eq_int (hP _ _ hp s.heap s.toks ⟨_, rfl, h⟩ rfl R)
    · exact PyProof.Rows.ne_int (hP _ _ hp s.heap s.toks ⟨_, rfl, h⟩ rfl R)
    · exact PyProof.Rows.lt_int (hP _ _ hp s.heap s.toks ⟨_, rfl, h⟩ rfl R)
    · exact PyProof.Rows.le_int (hP _ _ hp s.heap s.toks ⟨_, rfl, h⟩ rfl R)
    · exact PyProof.Rows.gt_int (hP _ _ hp s.heap s.toks ⟨_, rfl, h⟩ rfl R)
    · exact PyProof.Rows.ge_int (hP _ _ hp s.heap s.toks ⟨_, rfl, h⟩ rfl R)
  | none =>
    rw [q] at h
    cases o <;> (first | (injection ho; done) | (injection ho with ho; subst ho)) <;> first | exact h.elim | skip
    all_goals
      refine Gen fun G back => ?_
      rcases h with ⟨d', e, rd, re, sd, se, hq⟩
      refine back ?_
      clear back
      clear G
      obtain ⟨as, ra⟩ := R.reads ok rd hx
      obtain ⟨bs, rb⟩ := R.reads ok re hy
    · exact eq_dataH ra rb sd se (by have := rm.2; (first | lia | omega)) (hP _ _ hp s.heap s.toks ⟨_, rfl, hq⟩ rfl R)
    · exact ne_dataH ra rb sd se (by have := rm.2; (first | lia | omega)) (hP _ _ hp s.heap s.toks ⟨_, rfl, hq⟩ rfl R)
theorem notIn_of_cmpOf {o : CmpOp} {b : COp} (ho : cmpOf o = some b) (e : Expr) : behindInMarks o e = false := by
  have h : ∀ q : CmpOp, (q == .In || q == .NotIn) = false → behindInMarks q e = false := fun q hq => by
    cases e <;> first | rfl | (rename_i k _; show ((k == 0 && (q == .In || q == .NotIn)) && _) = false; rw [hq, Bool.and_false, Bool.false_and])
  cases o <;> first | exact h _ rfl | injection ho
theorem se_cmp {a b : Expr} {o : CmpOp} {pos} {ma mb : ME} {bo : COp} (ho : cmpOf o = some bo) (ha : SE F a ma) (hb : SE F b mb) : SE F (.Compare a [o] [b] pos) (.cmp bo ma mb) := by
  intro c d FO hg hsc ok rm l hp Q X hev fr s P E R hP hX
  refine wpAny_Compare1 (ha c d FO hg hsc ok rm l hp _ X hev fr s _ E R (fun v x h1 hh tk hq hx R1 => ?_) hX) (notIn_of_cmpOf ho b)
  refine hb c d FO hg hsc ok rm l h1 _ X hq fr _ _ E R1 (fun w y h2 hh2 tk2 hq2 hy R2 => ?_) hX
  refine cmpS (Q := fun t h => Q (.bool t) h) ho ok rm hq2 hx hy fr _ _ E R2 (fun u z h3 hh3 tk3 hq3 hz R3 => ?_) hX
  obtain ⟨t, rfl, hq4⟩ := hq3
  exact hP _ _ h3 hh3 tk3 hq4 hz R3
theorem st_cmp {a b : Expr} {o : CmpOp} {pos} {ma mb : ME} {bo : COp} (ho : cmpOf o = some bo) (ha : SE F a ma) (hb : SE F b mb) : ST F (.Compare a [o] [b] pos) (.cmp bo ma mb) := by
  intro c d FO hg hsc ok rm l hp Q X hev whole hw fr s P E R hP hX
  refine wpAny_isTrue_Compare1 (ha c d FO hg hsc ok rm l hp _ X hev fr s _ E R (fun v x h1 hh tk hq hx R1 => ?_) hX) (notIn_of_cmpOf ho b)
  refine hb c d FO hg hsc ok rm l h1 _ X hq fr _ _ E R1 (fun w y h2 hh2 tk2 hq2 hy R2 => ?_) hX
  refine cmpS (Q := fun t h => Q t h) ho ok rm hq2 hx hy fr _ _ E R2 (fun u z h3 hh3 tk3 hq3 hz R3 => ?_) hX
  obtain ⟨t, rfl, hq4⟩ := hq3
  exact truS (Q := Q) (show truV (.bool t) h3 _ from hq4) hz fr _ _ E R3 hP hX
end
section
variable {F : Fx}
theorem ses_nil : SEs F [] .nil := by
  intro c d FO hg hsc ok rm l hp Q X hev pos fr s P E R hP hX
  exact spliced_none (hP _ _ hp s.heap s.toks hev rfl R)
theorem ses_cons {e : Expr} {es : List Expr} {m ms : ME} (hn : notStar e = true) (he : SE F e m) (hes : SEs F es ms) : SEs F (e :: es) (.cons m ms) := by
  intro c d FO hg hsc ok rm l hp Q X hev pos fr s P E R hP hX
  refine spliced_more (he c d FO hg hsc ok rm l hp _ X hev fr s _ E R (fun v x h1 hh tk hq hx R1 => ?_) hX) (starEach_cons hn)
  refine hes c d FO hg hsc ok rm l h1 _ X hq pos fr _ _ E R1 (fun vs xs h2 hh2 tk2 hq2 hxs R2 => ?_) hX
  exact hP _ _ h2 hh2 tk2 hq2 (by show absV x :: xs.map absV = _; rw [hx, hxs]) R2
theorem se_tup {es : List Expr} {ms : ME} {k pos} (hes : SEs F es ms) : SE F (.Tuple es k pos) (.tup ms) := by
  intro c d FO hg hsc ok rm l hp Q X hev fr s P E R hP hX
  refine Tuple_ (hes c d FO hg hsc ok rm l hp _ X hev pos fr s _ E R (fun vs xs h1 hh tk hq hx R1 => ?_) hX)
  exact newTupleS ok hx hq.1 hq.2 fr _ _ E R1 hP hX
theorem se_list {es : List Expr} {ms : ME} {pos} (hes : SEs F es ms) : SE F (.List es pos) (.list ms) := by
  intro c d FO hg hsc ok rm l hp Q X hev fr s P E R hP hX
  refine List_ (hes c d FO hg hsc ok rm l hp _ X hev pos fr s _ E R (fun vs xs h1 hh tk hq hx R1 => ?_) hX)
  exact newListS ok hx hq.1 hq.2 fr _ _ E R1 hP hX
theorem se_idx {a i : Expr} {pos} {ma mi : ME} (hs : sliceOf i = false) (ha : SE F a ma) (hi : SE F i mi) : SE F (.Subscript a i pos) (.idx ma mi) := by
  intro c d FO hg hsc ok rm l hp Q X hev fr s P E R hP hX
  refine Subscript_ (ha c d FO hg hsc ok rm l hp _ X hev fr s _ E R (fun v x h1 hh tk hq hx R1 => ?_) hX)
  refine hi c d FO hg hsc ok rm l h1 _ X hq fr _ _ E R1 (fun w y h2 hh2 tk2 hq2 hy R2 => ?_) hX
  exact idxS ok hs hq2 hx hy fr _ _ E R2 hP hX
theorem nameG {c : Cx} (FO : F.Ok) (hg : c.g = F.g) (hsc : SCF c F) (ok : c.Ok) {x : Str} {p : Pos} {a : Addr} (hx : F.gt.lookup x = some a) (hk : F.sc.names.lookup x = some .globalImplicit)
    (hd : (x == ("__debug__" : Str)) = false) {names l hp fr} {s : Shared} {P E : Value → Shared → Prop} (R : Rep c names l hp fr s.heap) (h : P (.ref a) s) :
    wpAny (model c.g.prog c.g.w) c.A (eval (.Name x p) c.env) P E s := by
  exact Name_function_global (by rw [c.env_scope]; exact ok.kind) (by rw [c.env_kindOf, hsc.1]; exact hk) (loadGlobal_global (by rw [c.env_globals]; exact (topRead_of ok.top).g.keeps (R.keep ok)) (mg_of ok.inK (topRead_of ok.top).g (by rw [hg]; exact (FO.gt x a hx).1)) h) hd
theorem nameB {c : Cx} (FO : F.Ok) (hg : c.g = F.g) (hsc : SCF c F) (ok : c.Ok) {x : Str} {p : Pos} {v : Value} (hx : x ∈ F.bt) (hv : bootBuiltins x = some v) (hk : F.sc.names.lookup x = some .globalImplicit)
    (hd : (x == ("__debug__" : Str)) = false) (hnm : x ≠ "__name__") {names l hp fr} {s : Shared} {P E : Value → Shared → Prop} (R : Rep c names l hp fr s.heap) (h : P v s) :
    wpAny (model c.g.prog c.g.w) c.A (eval (.Name x p) c.env) P E s := by
  exact Name_function_global (by rw [c.env_scope]; exact ok.kind) (by rw [c.env_kindOf, hsc.1]; exact hk) (loadGlobal_builtin (by rw [c.env_globals]; exact (topRead_of ok.top).g.keeps (R.keep ok)) (mg_none_of ok.inK (topRead_of ok.top).g (by rw [hg]; exact FO.bt x hx)) (by rw [c.env_builtins]; exact (topRead_of ok.top).b.keeps (R.keep ok)) (((topRead_of ok.top).builtins x hnm).trans hv) h) hd
theorem Rep.inK {c : Cx} (ok : c.Ok) {names l hp fr h} (R : Rep c names l hp fr h) : c.g.K.In h := ok.inK.keeps (R.keep ok)
theorem se_call {x : Str} {p pos : Pos} {a : Addr} {e : Expr} {es : List Expr} {ms : ME} (hx : F.gt.lookup x = some a) (hk : F.sc.names.lookup x = some .globalImplicit) (hd : (x == ("__debug__" : Str)) = false)
    (hn : (e :: es).all notStar = true) (hes : SEs F (e :: es) ms) : SE F (.Call (.Name x p) (e :: es) [] pos) (.call a ms) := by
  intro c d FO hg hsc ok rm l hp Q X hev fr s P E R hP hX
  simp only [List.all_cons, Bool.and_eq_true] at hn
  refine Call_ (nameG FO hg hsc ok hx hk hd R ?_) rfl
  refine callWith_K ok.inK (by rw [hg]; exact (FO.gt x a hx).2) ?_ (starEach_cons hn.1) (backTo_any hn.2)
  refine hes c d FO hg hsc ok rm l hp _ X hev pos fr s _ E R (fun vs xs h1 hh tk hq hxs R1 => ⟨R1.inK ok, ?_⟩) hX
  rw [List.nil_append]
  exact (hq c hg ok rm F.names l xs [] hxs rfl).w fr _ _ E R1 hP hX.call
theorem se_len {x : Str} {p pos : Pos} {a : Expr} {ma : ME} (hxe : x = "len") (hx : x ∈ F.bt) (hk : F.sc.names.lookup x = some .globalImplicit) (hn : notStar a = true) (ha : SE F a ma) : SE F (.Call (.Name x p) [a] [] pos) (.len ma) := by
  intro c d FO hg hsc ok rm l hp Q X hev fr s P E R hP hX
  subst hxe
  refine Call_ (nameB FO hg hsc ok hx (v := .builtin "len") (by decide +kernel) hk (by decide) (by decide) R ?_) rfl
  refine PyProof.Rows.callWith_builtin1 ?_ (starEach_cons hn) rfl
  refine spliced_more (ha c d FO hg hsc ok rm l hp _ X hev fr s _ E R (fun v y h1 hh tk hq hy R1 => ?_) hX) (starEach_cons hn)
  refine spliced_none ?_
  exact lenS (Q := Q) ok hq hy fr _ _ E R1 hP hX
theorem se_toInt {x : Str} {p pos : Pos} {a : Expr} {ma : ME} (hxe : x = "int") (hx : x ∈ F.bt) (hk : F.sc.names.lookup x = some .globalImplicit) (hn : notStar a = true) (ha : SE F a ma) : SE F (.Call (.Name x p) [a] [] pos) (.toInt ma) := by
  intro c d FO hg hsc ok rm l hp Q X hev fr s P E R hP hX
  subst hxe
  refine Call_ (nameB FO hg hsc ok hx (v := .type "int") boot_int hk (by decide) (by decide) R ?_) rfl
  refine PyProof.Rows.callWith_type1 ?_ (starEach_cons hn) rfl
  refine spliced_more (ha c d FO hg hsc ok rm l hp _ X hev fr s _ E R (fun v y h1 hh tk hq hy R1 => ?_) hX) (starEach_cons hn)
  refine spliced_none ?_
  cases v with
  | int i =>
    obtain ⟨t, rfl⟩ := absV_int hy
    exact call_int_int (hP _ _ h1 hh tk hq rfl R1)
  | _ => exact hq.elim
theorem isiS {c : Cx} {names : List Str} {l : List V} {hp : HP} {X : XT} {Q : V → HP → Prop} {v : V} {x : Value} {k : Kd} {T : String}
    (hT : T = (match k with | .int => "int" | .bool => "bool" | .list => "list" | .tuple => "tuple"))
    (h : isiV v hp k fun t => Q (.bool t) hp) (hx : absV x = v) : W rV c names l (call (.builtin "isinstance") [x, .type T]) hp Q X := by
  intro fr s P E R hP hX
  have key : ∀ b, Q (.bool b) hp → ∀ tk, P (.bool b) { s with toks := tk } := fun b hb tk => hP _ _ hp s.heap tk hb rfl R
  cases v with
  | int i =>
    obtain ⟨t, rfl⟩ := absV_int hx
    cases k <;> subst hT
    · exact IsiPair.int_int (key _ h _)
    · exact IsiPair.int_bool (key _ h _)
    · exact IsiPair.int_list (key _ h _)
    · exact IsiPair.int_tuple (key _ h _)
  | bool b =>
    cases absV_bool hx
    cases k <;> subst hT
    · exact IsiPair.bool_int (key _ h _)
    · exact IsiPair.bool_bool (key _ h _)
    · exact IsiPair.bool_list (key _ h _)
    · exact IsiPair.bool_tuple (key _ h _)
  | ref a =>
    cases absV_ref hx
    refine Gen fun G back => ?_
    rcases id R with ⟨g, T, m, Fm, lo, H, N, D⟩
    refine back ?_
    clear back
    clear G
    rcases h with ⟨vs, e, hq⟩ | ⟨vs, e, hq⟩
    · refine Gen fun G back => ?_
      rcases H.2 _ _ e with ⟨ob, h1, ⟨it, n, hz3, _⟩, _⟩
      refine back ?_
      clear back
      clear G
      subst hz3
      cases k <;> subst hT
      · exact IsiPair.list_int h1 rfl (key _ hq _)
      · exact IsiPair.list_bool h1 rfl (key _ hq _)
      · exact IsiPair.list_list h1 rfl (key _ hq _)
      · exact IsiPair.list_tuple h1 rfl (key _ hq _)
    · refine Gen fun G back => ?_
      rcases H.2 _ _ e with ⟨ob, h1, ⟨it, n, hz4, _⟩, _⟩
      refine back ?_
      clear back
      clear G
      subst hz4
      cases k <;> subst hT
      · exact IsiPair.tuple_int h1 rfl (key _ hq _)
      · exact IsiPair.tuple_bool h1 rfl (key _ hq _)
      · exact IsiPair.tuple_list h1 rfl (key _ hq _)
      · exact IsiPair.tuple_tuple h1 rfl (key _ hq _)
  | _ => exact h.elim
noncomputable def kdOf (T : Str) : Option Kd :=
  if T = "int" then some .int else if T = "bool" then some .bool else if T = "list" then some .list else if T = "tuple" then some .tuple else Option.none
theorem se_isi {x T : Str} {p pT pos : Pos} {a : Expr} {ma : ME} {k : Kd} (hxe : x = "isinstance") (hx : x ∈ F.bt) (hk : F.sc.names.lookup x = some .globalImplicit)
    (hT : T ∈ F.bt) (hkT : F.sc.names.lookup T = some .globalImplicit) (hkd : kdOf T = some k) (hn : notStar a = true) (ha : SE F a ma) : SE F (.Call (.Name x p) [a, .Name T pT] [] pos) (.isi ma k) := by
  intro c d FO hg hsc ok rm l hp Q X hev fr s P E R hP hX
  subst hxe
  refine Call_ (nameB FO hg hsc ok hx (v := .builtin "isinstance") boot_isinstance hk (by decide) (by decide) R ?_) rfl
  refine PyProof.Rows.callWith_builtin1 ?_ (starEach_cons hn) rfl
  refine spliced_more (ha c d FO hg hsc ok rm l hp _ X hev fr s _ E R (fun v y h1 hh tk hq hy R1 => ?_) hX) (starEach_cons hn)
  unfold kdOf at hkd
  split at hkd
  · rename_i e; subst e; cases hkd
    exact spliced_more (nameB FO hg hsc ok hT (v := .type "int") boot_int hkT (by decide) (by decide) R1 (spliced_none (isiS rfl hq hy fr _ _ E R1 hP hX))) rfl
  · split at hkd
    · rename_i e; subst e; cases hkd
      exact spliced_more (nameB FO hg hsc ok hT (v := .type "bool") boot_bool hkT (by decide) (by decide) R1 (spliced_none (isiS rfl hq hy fr _ _ E R1 hP hX))) rfl
    · split at hkd
      · rename_i e; subst e; cases hkd
        exact spliced_more (nameB FO hg hsc ok hT (v := .type "list") boot_list hkT (by decide) (by decide) R1 (spliced_none (isiS rfl hq hy fr _ _ E R1 hP hX))) rfl
      · split at hkd
        · rename_i e; subst e; cases hkd
          exact spliced_more (nameB FO hg hsc ok hT (v := .type "tuple") boot_tuple hkT (by decide) (by decide) R1 (spliced_none (isiS rfl hq hy fr _ _ E R1 hP hX))) rfl
        · cases hkd
theorem se_isn {a : Expr} {k pos cp} {ma : ME} (ha : SE F a ma) : SE F (.Compare a [.Is] [.Constant .none k cp] pos) (.isn ma true) := by
  intro c d FO hg hsc ok rm l hp Q X hev fr s P E R hP hX
  refine wpAny_Compare1 (ha c d FO hg hsc ok rm l hp _ X hev fr s _ E R (fun v x h1 hh tk hq hx R1 => ?_) hX) rfl
  refine wpAny_Constant_none (is_none ?_)
  cases hb : isNone v with
  | some b =>
    rw [hb] at hq
    refine hP _ _ h1 hh tk hq ?_ R1
    subst hx
    show V.bool _ = _
    congr 1
    cases x <;> (first | (injection hb; done) | (injection hb with hb; subst hb)) <;> first | rfl | simp
  | none => rw [hb] at hq; exact hq.elim
theorem se_isnn {a : Expr} {k pos cp} {ma : ME} (ha : SE F a ma) : SE F (.Compare a [.IsNot] [.Constant .none k cp] pos) (.isn ma false) := by
  intro c d FO hg hsc ok rm l hp Q X hev fr s P E R hP hX
  refine wpAny_Compare1 (ha c d FO hg hsc ok rm l hp _ X hev fr s _ E R (fun v x h1 hh tk hq hx R1 => ?_) hX) rfl
  refine wpAny_Constant_none (isnot_none_gen ?_)
  cases hb : isNone v with
  | some b =>
    rw [hb] at hq
    refine hP _ _ h1 hh tk hq ?_ R1
    subst hx
    show V.bool _ = _
    congr 1
    cases x <;> (first | (injection hb; done) | (injection hb with hb; subst hb)) <;> first | rfl | simp
  | none => rw [hb] at hq; exact hq.elim
theorem st_isn {a : Expr} {k pos cp} {ma : ME} (ha : SE F a ma) : ST F (.Compare a [.Is] [.Constant .none k cp] pos) (.tv (.isn ma true)) := by
  intro c d FO hg hsc ok rm l hp Q X hev whole hw fr s P E R hP hX
  refine wpAny_isTrue_Compare1 (ha c d FO hg hsc ok rm l hp _ X hev fr s _ E R (fun v x h1 hh tk hq hx R1 => ?_) hX) rfl
  refine wpAny_Constant_none (is_none (wpAny_truthy_bool ?_))
  cases hb : isNone v with
  | some b =>
    rw [hb] at hq
    refine hP _ _ h1 hh tk hq ?_ R1
    subst hx
    show _ = _
    cases x <;> (first | (injection hb; done) | (injection hb with hb; subst hb)) <;> first | rfl | simp
  | none => rw [hb] at hq; exact hq.elim
theorem st_isnn {a : Expr} {k pos cp} {ma : ME} (ha : SE F a ma) : ST F (.Compare a [.IsNot] [.Constant .none k cp] pos) (.tv (.isn ma false)) := by
  intro c d FO hg hsc ok rm l hp Q X hev whole hw fr s P E R hP hX
  refine wpAny_isTrue_Compare1 (ha c d FO hg hsc ok rm l hp _ X hev fr s _ E R (fun v x h1 hh tk hq hx R1 => ?_) hX) rfl
  refine wpAny_Constant_none (isnot_none_gen (wpAny_truthy_bool ?_))
  cases hb : isNone v with
  | some b =>
    rw [hb] at hq
    refine hP _ _ h1 hh tk hq ?_ R1
    subst hx
    show _ = _
    cases x <;> (first | (injection hb; done) | (injection hb with hb; subst hb)) <;> first | rfl | simp
  | none => rw [hb] at hq; exact hq.elim
theorem se_chain {a b e : Expr} {o p : CmpOp} {pos} {ma mb me : ME} {bo bp : COp} (ho : cmpOf o = some bo) (hp' : cmpOf p = some bp) (ha : SE F a ma) (hb : SE F b mb) (he : SE F e me) : SE F (.Compare a [o, p] [b, e] pos) (.chain ma bo mb bp me) := by
  intro c d FO hg hsc ok rm l hp Q X hev fr s P E R hP hX
  refine Compare_chain (ha c d FO hg hsc ok rm l hp _ X hev fr s _ E R (fun v x h1 hh tk hq hx R1 => ?_) hX) (notIn_of_cmpOf hp' e)
  refine chain_link (hb c d FO hg hsc ok rm l h1 _ X hq fr _ _ E R1 (fun w y h2 hh2 tk2 hq2 hy R2 => ?_) hX)
  refine cmpS (Q := fun t h => (t = true → ev F.g d me l h (fun u h3 => cmpV bp w u h3 fun t' => Q (.bool t') h3) X) ∧ (t = false → Q (.bool false) h)) ho ok rm hq2 hx hy fr _ _ E R2 (fun u z h3 hh3 tk3 hq3 hz R3 => ?_) hX
  obtain ⟨t, rfl, hq4⟩ := hq3
  cases absV_bool hz
  refine wpAny_truthy_bool ?_
  cases t with
  | false => rw [if_neg (by decide)]; exact hP _ _ h3 hh3 tk3 (hq4.2 rfl) rfl R3
  | true =>
    rw [if_pos rfl]
    refine chain_last (he c d FO hg hsc ok rm l h3 _ X (hq4.1 rfl) fr _ _ E R3 (fun w5 y5 h5 hh5 tk5 hq5 hy5 R5 => ?_) hX)
    refine cmpS (Q := fun t h => Q (.bool t) h) hp' ok rm hq5 hy hy5 fr _ _ E R5 (fun u6 z6 h6 hh6 tk6 hq6 hz6 R6 => ?_) hX
    obtain ⟨t, rfl, hq7⟩ := hq6
    exact hP _ _ h6 hh6 tk6 hq7 hz6 R6
theorem st_chain {a b e : Expr} {o p : CmpOp} {pos} {ma mb me : ME} {bo bp : COp} (ho : cmpOf o = some bo) (hp' : cmpOf p = some bp) (ha : SE F a ma) (hb : SE F b mb) (he : SE F e me) : ST F (.Compare a [o, p] [b, e] pos) (.chain ma bo mb bp me) := by
  intro c d FO hg hsc ok rm l hp Q X hev whole hw fr s P E R hP hX
  refine isTrue_chain (ha c d FO hg hsc ok rm l hp _ X hev fr s _ E R (fun v x h1 hh tk hq hx R1 => ?_) hX) (notIn_of_cmpOf hp' e)
  refine test_link (hb c d FO hg hsc ok rm l h1 _ X hq fr _ _ E R1 (fun w y h2 hh2 tk2 hq2 hy R2 => ?_) hX)
  refine cmpS (Q := fun t h => (t = true → ev F.g d me l h (fun u h3 => cmpV bp w u h3 fun t' => Q t' h3) X) ∧ (t = false → Q false h)) ho ok rm hq2 hx hy fr _ _ E R2 (fun u z h3 hh3 tk3 hq3 hz R3 => ?_) hX
  obtain ⟨t, rfl, hq4⟩ := hq3
  cases absV_bool hz
  refine wpAny_truthy_bool ?_
  cases t with
  | false => rw [if_neg (by decide)]; exact hP _ _ h3 hh3 tk3 (hq4.2 rfl) rfl R3
  | true =>
    rw [if_pos rfl]
    refine test_last (he c d FO hg hsc ok rm l h3 _ X (hq4.1 rfl) fr _ _ E R3 (fun w5 y5 h5 hh5 tk5 hq5 hy5 R5 => ?_) hX)
    refine cmpS (Q := fun t h => Q t h) hp' ok rm hq5 hy hy5 fr _ _ E R5 (fun u6 z6 h6 hh6 tk6 hq6 hz6 R6 => ?_) hX
    obtain ⟨t, rfl, hq7⟩ := hq6
    exact truS (Q := Q) (show truV (.bool t) h6 _ from hq7) hz6 fr _ _ E R6 hP hX
theorem se_and_one {a : Expr} {pos} {ma : ME} (o : BoolOp) (ha : SE F a ma) : SE F (.BoolOp o [a] pos) ma := by
  intro c d FO hg hsc ok rm l hp Q X hev fr s P E R hP hX
  exact BoolOp_one (ha c d FO hg hsc ok rm l hp Q X hev fr s P E R hP hX)
theorem se_and {a b : Expr} {r : List Expr} {pos} {ma mb : ME} (ha : SE F a ma) (hb : SE F (.BoolOp .And (b :: r) pos) mb) : SE F (.BoolOp .And (a :: b :: r) pos) (.and ma mb) := by
  intro c d FO hg hsc ok rm l hp Q X hev fr s P E R hP hX
  refine BoolOp_and (ha c d FO hg hsc ok rm l hp _ X hev fr s _ E R (fun v x h1 hh tk hq hx R1 => ?_) hX)
  refine truS (Q := fun t h => (t = true → ev F.g d mb l h Q X) ∧ (t = false → Q v h)) hq hx fr _ _ E R1 (fun t z h3 hh3 tk3 hq3 hz R3 => ?_) hX
  cases hz
  cases t with
  | true => rw [if_pos rfl]; exact hb c d FO hg hsc ok rm l h3 Q X (hq3.1 rfl) fr _ _ E R3 hP hX
  | false => rw [if_neg (by decide)]; exact hP _ _ h3 hh3 tk3 (hq3.2 rfl) hx R3
theorem se_or {a b : Expr} {r : List Expr} {pos} {ma mb : ME} (ha : SE F a ma) (hb : SE F (.BoolOp .Or (b :: r) pos) mb) : SE F (.BoolOp .Or (a :: b :: r) pos) (.or ma mb) := by
  intro c d FO hg hsc ok rm l hp Q X hev fr s P E R hP hX
  refine BoolOp_or (ha c d FO hg hsc ok rm l hp _ X hev fr s _ E R (fun v x h1 hh tk hq hx R1 => ?_) hX)
  refine truS (Q := fun t h => (t = true → Q v h) ∧ (t = false → ev F.g d mb l h Q X)) hq hx fr _ _ E R1 (fun t z h3 hh3 tk3 hq3 hz R3 => ?_) hX
  cases hz
  cases t with
  | true => rw [if_pos rfl]; exact hP _ _ h3 hh3 tk3 (hq3.1 rfl) hx R3
  | false => rw [if_neg (by decide)]; exact hb c d FO hg hsc ok rm l h3 Q X (hq3.2 rfl) fr _ _ E R3 hP hX
noncomputable def STB (F : Fx) (o : BoolOp) (es : List Expr) (pos : Pos) (m : ME) : Prop := ∀ c d, F.Ok → c.g = F.g → SCF c F → c.Ok → room c d → ∀ l hp Q X, evT F.g d m l hp Q X → ∀ whole, W rB c F.names l (isTrue (.BoolOp o es pos) c.env whole) hp Q X
theorem stb_and_one {a : Expr} {pos} {ma : ME} (ha : ST F a ma) : STB F .And [a] pos ma := by
  intro c d FO hg hsc ok rm l hp Q X hev whole fr s P E R hP hX
  refine PyProof.Rows.isTrue_and (ha c d FO hg hsc ok rm l hp _ X hev _ rfl fr s _ E R (fun v x h1 hh tk hq hx R1 => ?_) hX)
  cases hx
  cases v with
  | true => rw [if_pos rfl]; exact isTrue_and_nil (hP _ _ h1 hh tk hq rfl R1)
  | false => rw [if_neg (by decide)]; exact hP _ _ h1 hh tk hq rfl R1
theorem stb_or_one {a : Expr} {pos} {ma : ME} (ha : ST F a ma) : STB F .Or [a] pos ma := by
  intro c d FO hg hsc ok rm l hp Q X hev whole fr s P E R hP hX
  refine PyProof.Rows.isTrue_or (ha c d FO hg hsc ok rm l hp _ X hev _ rfl fr s _ E R (fun v x h1 hh tk hq hx R1 => ?_) hX)
  cases hx
  cases v with
  | true => rw [if_pos rfl]; exact hP _ _ h1 hh tk hq rfl R1
  | false => rw [if_neg (by decide)]; exact isTrue_or_nil (hP _ _ h1 hh tk hq rfl R1)
theorem stb_and {a : Expr} {r : List Expr} {pos} {ma mb : ME} (ha : ST F a ma) (hb : STB F .And r pos mb) : STB F .And (a :: r) pos (.and ma mb) := by
  intro c d FO hg hsc ok rm l hp Q X hev whole fr s P E R hP hX
  refine PyProof.Rows.isTrue_and (ha c d FO hg hsc ok rm l hp _ X hev _ rfl fr s _ E R (fun v x h1 hh tk hq hx R1 => ?_) hX)
  cases hx
  cases v with
  | true => rw [if_pos rfl]; exact hb c d FO hg hsc ok rm l h1 Q X (hq.1 rfl) _ fr _ _ E R1 hP hX
  | false => rw [if_neg (by decide)]; exact hP _ _ h1 hh tk (hq.2 rfl) rfl R1
theorem stb_or {a : Expr} {r : List Expr} {pos} {ma mb : ME} (ha : ST F a ma) (hb : STB F .Or r pos mb) : STB F .Or (a :: r) pos (.or ma mb) := by
  intro c d FO hg hsc ok rm l hp Q X hev whole fr s P E R hP hX
  refine PyProof.Rows.isTrue_or (ha c d FO hg hsc ok rm l hp _ X hev _ rfl fr s _ E R (fun v x h1 hh tk hq hx R1 => ?_) hX)
  cases hx
  cases v with
  | true => rw [if_pos rfl]; exact hP _ _ h1 hh tk (hq.1 rfl) rfl R1
  | false => rw [if_neg (by decide)]; exact hb c d FO hg hsc ok rm l h1 Q X (hq.2 rfl) _ fr _ _ E R1 hP hX
theorem st_of {o : BoolOp} {es : List Expr} {pos} {m : ME} (h : STB F o es pos m) : ST F (.BoolOp o es pos) m :=
  fun c d FO hg hsc ok rm l hp Q X hev whole _ => h c d FO hg hsc ok rm l hp Q X hev whole
end
noncomputable def rO (o : Out) (f : Flow) : Prop :=
  match o, f with
  | .next, .next => True
  | .brk, .brk => True
  | .ret v, .ret x => absV x = v
  | _, _ => False
noncomputable def WS (c : Cx) (names : List Str) (l : List V) (t : Sem Flow) (hp : HP) (Q : Out → List V → HP → Prop) (X : XT) : Prop :=
  c.cp = none → ∀ (fr : List (Addr × Obj)) (s : Shared) (P : Flow → Shared → Prop) (E : Value → Shared → Prop), Rep c names l hp fr s.heap →
    (∀ o f l' hp' h' tk', Q o l' hp' → rO o f → Rep c names l' hp' fr h' → P f { s with heap := h', toks := tk' }) →
    (∀ l', XP c names l' fr X E s) →
    wpAny (model c.g.prog c.g.w) c.A t P E s
noncomputable def SS (F : Fx) (st : Stmt) (m : MS) : Prop := ∀ c d, F.Ok → c.g = F.g → SCF c F → c.Ok → room c d → ∀ l hp Q X, exec F.g d m l hp Q X → WS c F.names l (PySem.exec st c.env) hp Q X
noncomputable def SB (F : Fx) (b : List Stmt) (m : MS) : Prop := ∀ c d, F.Ok → c.g = F.g → SCF c F → c.Ok → room c d → ∀ l hp Q X, exec F.g d m l hp Q X → WS c F.names l (execs b c.env) hp Q X
theorem lset_get {v : V} : ∀ {l : List V} {i j : Nat} {w : V}, (lset l i v)[j]? = some w → (j = i ∧ w = v) ∨ (j ≠ i ∧ l[j]? = some w)
  | [], _, _, _, h => by simp [lset] at h
  | _ :: _, 0, 0, _, h => by simp [lset] at h; exact .inl ⟨rfl, h.symm⟩
  | _ :: _, 0, j + 1, _, h => by simp [lset] at h; exact .inr ⟨by (first | lia | omega), by simpa using h⟩
  | _ :: _, i + 1, 0, _, h => by simp [lset] at h; exact .inr ⟨by (first | lia | omega), by simpa using h⟩
  | _ :: r, i + 1, j + 1, w, h => by
    simp only [lset, List.getElem?_cons_succ] at h
    rcases lset_get (l := r) h with ⟨a, b⟩ | ⟨a, b⟩
    · exact .inl ⟨by (first | lia | omega), b⟩
    · exact .inr ⟨by (first | lia | omega), by simpa using b⟩
theorem Loc.set {cl : List (Str × Addr)} {names : List Str} {l : List V} {m : Str → Option Value} {i : Nat} {x : Str} {v : V} {val : Value} (nd : names.Nodup) (lo : Loc cl names l m) (hx : names[i]? = some x) (hv : absV val = v) :
    Loc cl names (lset l i v) (fun y => if y = x then some val else m y) := by
  intro j y w hy hw hn
  rcases lset_get hw with ⟨rfl, rfl⟩ | ⟨hne, hw⟩
  · rw [hx] at hy; cases hy
    exact .inr ⟨fun a e => by rw [e] at hv; cases val <;> simp [absV] at hv, val, by simp, hv⟩
  · have : y ≠ x := by
      intro e; subst e
      apply hne
      have h1 := (List.getElem?_eq_some_iff.mp hy)
      have h2 := (List.getElem?_eq_some_iff.mp hx)
      obtain ⟨a1, b1⟩ := h1
      obtain ⟨a2, b2⟩ := h2
      exact (List.getElem_inj nd).mp (b1.trans b2.symm)
    rcases lo j y w hy hw hn with h0 | ⟨h0, u, h1, h2⟩
    · exact .inl h0
    · exact .inr ⟨h0, u, by simp [this, h1], h2⟩
theorem noC {c : Cx} (h : c.cp = none) {it : Addr} : ∀ k, c.cp = some k → k.C ≠ it := fun k e => by rw [h] at e; cases e
theorem LocX.drop {c : Cx} {names l m fr} {it : Addr} {o : Obj} (h : LocX c names l m ((it, o) :: fr)) (hC : ∀ k, c.cp = some k → k.C ≠ it) : LocX c names l m fr := by
  unfold LocX at h ⊢
  cases e : c.cp with
  | none => rw [e] at h; exact h
  | some k =>
    rw [e] at h
    refine Gen fun G back => ?_
    rcases h with ⟨a, oC, m₂, b, r⟩
    refine back ?_
    clear back
    clear G
    refine ⟨a, oC, m₂, ?_, r⟩
    rcases List.mem_cons.mp b with q | q
    · cases q; exact absurd rfl (hC k e)
    · exact q
theorem LocX.push {c : Cx} {names l m fr} {p : Addr × Obj} (h : LocX c names l m fr) : LocX c names l m (p :: fr) := h.sub fun _ => .tail _
theorem storeS {F : Fx} {c : Cx} (FO : F.Ok) (hsc : SCF c F) (ok : c.Ok) (hcp : c.cp = none) {x : Str} {i : Nat} {l hp fr} {s : Shared} {v : V} {val : Value} {P : Unit → Shared → Prop} {E : Value → Shared → Prop}
    (hi : F.names[i]? = some x) (hk : F.sc.names.lookup x = some .local) (R : Rep c F.names l hp fr s.heap) (hv : absV val = v)
    (h : ∀ h' tk', Rep c F.names (lset l i v) hp fr h' → P () { s with heap := h', toks := tk' }) :
    wpAny (model c.g.prog c.g.w) c.A (storeName c.env x val) P E s := by
  refine Gen fun G back => ?_
  rcases R.parts with ⟨g, m, news, T, Fm, lo, H, N, D⟩
  refine back ?_
  clear back
  clear G
  rw [c.env_plain hcp]
  refine storeX_L Fm N (fun h' F' N' => h h' _ (Rep.of T F' ((LocX.plain hcp).mpr (((LocX.plain hcp).mp lo).set FO.nd hi hv)) H N' D)) ok.fkind (by show c.fsc.names.lookup x = _; rw [← c.sc_plain hcp, hsc.1]; exact hk)
noncomputable def compE : Expr → Bool
  | .ListComp .. => true
  | .SetComp .. => true
  | .DictComp .. => true
  | _ => false
theorem swaps_plain {e : Expr} (h : compE e = false) (t : Option Expr) (n : Nat) (env : Env) : swapsWith e t n env = pure false := by
  cases e <;> first | rfl | (exact absurd h (by simp [compE]))
section
variable {F : Fx}
theorem sb_nil : SB F [] .skip := by
  intro c d FO hg hsc ok rm l hp Q X hev hcp fr s P E R hP hX
  exact wpAny_execs_nil (hP .next .next l hp s.heap s.toks hev trivial R)
theorem sb_cons {st : Stmt} {r : List Stmt} {m mr : MS} (h : SS F st m) (hr : SB F r mr) : SB F (st :: r) (.seq m mr) := by
  intro c d FO hg hsc ok rm l hp Q X hev hcp fr s P E R hP hX
  refine wpAny_execs_cons (h c d FO hg hsc ok rm l hp _ X hev hcp fr s _ E R (fun o f l1 h1 hh tk hq hf R1 => ?_) hX)
  cases o with
  | next =>
    cases f <;> first | exact hf.elim | skip
    exact hr c d FO hg hsc ok rm l1 h1 Q X hq hcp fr _ _ E R1 hP hX
  | brk =>
    cases f <;> first | exact hf.elim | skip
    exact hP .brk .brk l1 h1 hh tk hq trivial R1
  | ret v =>
    cases f <;> first | exact hf.elim | skip
    exact hP (.ret v) _ l1 h1 hh tk hq hf R1
theorem ss_asg {x : Str} {p pos : Pos} {i : Nat} {e : Expr} {m : ME} (hi : F.names[i]? = some x) (hk : F.sc.names.lookup x = some .local) (hc : compE e = false) (he : SE F e m) : SS F (.Assign [.Name x p] e pos) (.asg i m) := by
  intro c d FO hg hsc ok rm l hp Q X hev hcp fr s P E R hP hX
  refine wpAny_Assign_Name (he c d FO hg hsc ok rm l hp _ X hev fr s _ E R (fun v y h1 hh tk hq hy R1 => ?_) (hX l)) (swaps_plain hc _ _ _)
  exact storeS FO hsc ok hcp hi hk R1 hy fun h' tk' R' => hP .next .next _ h1 h' tk' hq trivial R'
theorem ibinS {o : Operator} {b : BOp} (ho : opOf o = some b) (hno : b = .add ∨ b = .sub ∨ b = .mul ∨ b = .fdiv ∨ b = .mod ∨ b = .shr ∨ b = .band) {c : Cx} {d : Nat} (ok : c.Ok) (rm : room c d) {names l hp Q X} {v w : V} {x y : Value}
    (h : augV b v w hp Q) (hx : absV x = v) (hy : absV y = w) : W rV c names l (inplaceOp o x y) hp Q X := by
  intro fr s P E R hP hX
  obtain ⟨i, j, rfl, rfl⟩ : ∃ i j, v = .int i ∧ w = .int j := by cases v <;> first | exact h.elim | (cases w <;> first | exact h.elim | exact ⟨_, _, rfl, rfl⟩)
  · obtain ⟨t, rfl⟩ := absV_int hx
    obtain ⟨u, rfl⟩ := absV_int hy
    obtain ⟨hok, hq⟩ := h
    cases o <;> first | (injection ho; done) | (injection ho with ho; subst ho)
    · exact PyProof.Rows.iadd_int (hP _ _ hp s.heap _ hq rfl R)
    · exact PyProof.Rows.isub_int (hP _ _ hp s.heap _ hq rfl R)
    · exact PyProof.Rows.imul_int (hP _ _ hp s.heap _ hq rfl R) hok
    · exact imod_int hok (hP _ _ hp s.heap _ hq rfl R)
    · simp at hno
    · simp at hno
    · exact irshift_int hok (hP _ _ hp s.heap _ hq rfl R)
    · exact iand_int (hP _ _ hp s.heap _ hq rfl R)
    · exact ifloordiv_int hok (hP _ _ hp s.heap _ hq rfl R) (.inr (pylong ok rm R))
theorem ss_aug {x : Str} {p pos : Pos} {i : Nat} {o : Operator} {b : BOp} {e : Expr} {m : ME} (ho : opOf o = some b) (hno : b = .add ∨ b = .sub ∨ b = .mul ∨ b = .fdiv ∨ b = .mod ∨ b = .shr ∨ b = .band)
    (hi : F.names[i]? = some x) (hk : F.sc.names.lookup x = some .local) (he : SE F e m) : SS F (.AugAssign (.Name x p) o e pos) (.aug i b m) := by
  intro c d FO hg hsc ok rm l hp Q X hev hcp fr s P E R hP hX
  obtain ⟨⟨hn, hnc⟩, hev⟩ := varV_iff.mp hev
  refine Gen fun G back => ?_
  rcases R.locals hi rfl hn hnc with ⟨m', val, hns, hm, hab⟩
  refine back ?_
  clear back
  clear G
  refine wpAny_AugAssign_Name (wpAny_loadName_local (by rw [c.env_scope]; exact ok.kind) (by rw [c.env_kindOf, hsc.1]; exact hk) hns hm ?_)
  refine he c d FO hg hsc ok rm l hp _ X hev fr s _ E R (fun v y h1 hh tk hq hy R1 => ?_) (hX l)
  refine ibinS ho hno ok rm hq hab hy fr _ _ E R1 (fun u z h2 hh2 tk2 hq2 hz R2 => ?_) (hX l)
  exact storeS FO hsc ok hcp hi hk R2 hz fun h' tk' R' => hP .next .next _ h2 h' tk' hq2 trivial R'
theorem ss_if {t : Expr} {a b : List Stmt} {pos : Pos} {mt : ME} {ma mb : MS} (ht : ST F t mt) (ha : SB F a ma) (hb : SB F b mb) : SS F (.If t a b pos) (.ite mt ma mb) := by
  intro c d FO hg hsc ok rm l hp Q X hev hcp fr s P E R hP hX
  refine wpAny_If (ht c d FO hg hsc ok rm l hp _ X hev _ rfl fr s _ E R (fun v y h1 hh tk hq hy R1 => ?_) (hX l))
  cases hy
  cases v with
  | true => rw [if_pos rfl]; exact ha c d FO hg hsc ok rm l h1 Q X (hq.1 rfl) hcp fr _ _ E R1 hP hX
  | false => rw [if_neg (by decide)]; exact hb c d FO hg hsc ok rm l h1 Q X (hq.2 rfl) hcp fr _ _ E R1 hP hX
theorem ss_ret {e : Expr} {pos : Pos} {m : ME} (he : SE F e m) : SS F (.Return (some e) pos) (.ret m) := by
  intro c d FO hg hsc ok rm l hp Q X hev hcp fr s P E R hP hX
  exact wpAny_Return_some (he c d FO hg hsc ok rm l hp _ X hev fr s _ E R (fun v y h1 hh tk hq hy R1 => hP (.ret v) (.ret y) l h1 hh tk hq hy R1) (hX l))
theorem ss_brk {pos : Pos} : SS F (.Break pos) .brk := by
  intro c d FO hg hsc ok rm l hp Q X hev hcp fr s P E R hP hX
  exact wpAny_Break (hP .brk .brk l hp s.heap s.toks hev trivial R)
theorem noXP {c : Cx} {names l fr E s} : XP c names l fr noX E s := fun _ _ _ _ _ h => h.elim
theorem ss_while {t : Expr} {a b : List Stmt} {pos : Pos} {mt : ME} {ma mb : MS} (ht : ST F t mt) (ha : SB F a ma) (hb : SB F b mb) : SS F (.While t a b pos) (.whil mt ma mb) := by
  intro c d FO hg hsc ok rm l hp Q X hev hcp fr s P E R hP hX
  refine Gen fun G back => ?_
  rcases hev with ⟨I, ⟨n, h0⟩, step⟩
  refine back ?_
  clear back
  clear G
  refine wpAny_While (codeAny_whileLoop (fun n s' => ∃ l' hp' h' tk', I n l' hp' ∧ Rep c F.names l' hp' fr h' ∧ s' = { s with heap := h', toks := tk' }) ?_ n ⟨l, hp, s.heap, s.toks, h0, R, rfl⟩)
  intro n s' qz5
  refine Gen fun G back => ?_
  rcases qz5 with ⟨l1, hp1, hh1, tk1, hI, R1, hz6⟩
  refine back ?_
  clear back
  clear G
  subst hz6
  refine ht c d FO hg hsc ok rm l1 hp1 _ noX (step n l1 hp1 hI) _ rfl fr _ _ _ R1 (fun v y h2 hh2 tk2 hq hy R2 => ?_) noXP
  cases hy
  cases v with
  | true =>
    rw [if_pos rfl]
    refine ha c d FO hg hsc ok rm l1 h2 _ noX (hq.1 rfl) hcp fr _ _ _ R2 (fun o f l3 h3 hh3 tk3 hq3 hf R3 => ?_) fun _ => noXP
    cases o with
    | next =>
      cases f <;> first | exact hf.elim | skip
      obtain ⟨k, hk, hI3⟩ := hq3
      exact ⟨k, hk, l3, h3, hh3, tk3, hI3, R3, rfl⟩
    | brk =>
      cases f <;> first | exact hf.elim | skip
      exact hP .next .next l3 h3 hh3 tk3 hq3 trivial R3
    | ret v =>
      cases f <;> first | exact hf.elim | skip
      exact hP (.ret v) _ l3 h3 hh3 tk3 hq3 hf R3
  | false =>
    rw [if_neg (by decide)]
    exact hb c d FO hg hsc ok rm l1 h2 _ noX (hq.2 rfl) hcp fr _ _ _ R2 (fun o f l3 h3 hh3 tk3 hq3 hf R3 => hP o f l3 h3 hh3 tk3 hq3 hf R3) fun _ => noXP
theorem Rep.iter {c : Cx} {names l hp fr h h'} {it : Addr} {o o' : Obj} (R : Rep c names l hp ((it, o) :: fr) h) (hC : ∀ k, c.cp = some k → k.C ≠ it) (hs : ∀ b ob, b ≠ it → h.get? b = some ob → h'.get? b = some ob) (ho : h'.get? it = some o') (hfr : ∀ p ∈ fr, p.1 ≠ it) :
    Rep c names l hp ((it, o') :: fr) h' := by
  refine Gen fun G back => ?_
  rcases R with ⟨g, T, m, Fm, lo, H, N, D⟩
  refine back ?_
  clear back
  clear G
  have hi := N (it, o) (.head _)
  refine ⟨g, T, m, ⟨Fm.ns.at' fun ob e => hs _ _ (Ne.symm hi.2.1) e, fun b ob e => hs b ob (fun q => by rw [q, hi.2.2] at e; cases e) (Fm.keep b ob e), Fm.above⟩, (lo.drop hC).push, ⟨H.1, fun a x hx => ?_⟩, fun p hp' => ?_, fun p hp' => ?_⟩
  · have := H.2 a x hx
    have hne : a ≠ it := by
      intro e
      have := D (it, o) (.head _)
      rw [← e] at this
      rw [this] at hx; cases hx
    cases x with
    | ro vs => exact this
    | list vs => obtain ⟨ob, h1, h2⟩ := this; exact ⟨ob, hs _ _ hne h1, h2⟩
    | tup vs => obtain ⟨ob, h1, h2⟩ := this; exact ⟨ob, hs _ _ hne h1, h2⟩
    | cell vs => obtain ⟨ob, h1, h2⟩ := this; exact ⟨ob, hs _ _ hne h1, h2⟩
    | rng _ _ _ => obtain ⟨ob, h1, h2⟩ := this; exact ⟨ob, hs _ _ hne h1, h2⟩
    | dict _ => obtain ⟨ob, h1, h2⟩ := this; exact ⟨ob, hs _ _ hne h1, h2⟩
  · cases hp' with
    | head => exact ⟨ho, hi.2⟩
    | tail _ hp' => exact ⟨hs _ _ (hfr p hp') (N p (.tail _ hp')).1, (N p (.tail _ hp')).2⟩
  · cases hp' with
    | head => exact D (it, o) (.head _)
    | tail _ hp' => exact D p (.tail _ hp')
theorem Rep.drop {c : Cx} {names l hp fr h h'} {it : Addr} {o : Obj} (R : Rep c names l hp ((it, o) :: fr) h) (hC : ∀ k, c.cp = some k → k.C ≠ it) (hs : ∀ b ob, b ≠ it → h.get? b = some ob → h'.get? b = some ob) (hfr : ∀ p ∈ fr, p.1 ≠ it) :
    Rep c names l hp fr h' := by
  refine Gen fun G back => ?_
  rcases R with ⟨g, T, m, Fm, lo, H, N, D⟩
  refine back ?_
  clear back
  clear G
  have hi := N (it, o) (.head _)
  refine ⟨g, T, m, ⟨Fm.ns.at' fun ob e => hs _ _ (Ne.symm hi.2.1) e, fun b ob e => hs b ob (fun q => by rw [q, hi.2.2] at e; cases e) (Fm.keep b ob e), Fm.above⟩, lo.drop hC, ⟨H.1, fun a x hx => ?_⟩, fun p hp' => ?_, fun p hp' => D p (.tail _ hp')⟩
  · have := H.2 a x hx
    have hne : a ≠ it := by
      intro e
      have := D (it, o) (.head _)
      rw [← e] at this
      rw [this] at hx; cases hx
    cases x with
    | ro vs => exact this
    | list vs => obtain ⟨ob, h1, h2⟩ := this; exact ⟨ob, hs _ _ hne h1, h2⟩
    | tup vs => obtain ⟨ob, h1, h2⟩ := this; exact ⟨ob, hs _ _ hne h1, h2⟩
    | cell vs => obtain ⟨ob, h1, h2⟩ := this; exact ⟨ob, hs _ _ hne h1, h2⟩
    | rng _ _ _ => obtain ⟨ob, h1, h2⟩ := this; exact ⟨ob, hs _ _ hne h1, h2⟩
    | dict _ => obtain ⟨ob, h1, h2⟩ := this; exact ⟨ob, hs _ _ hne h1, h2⟩
  · exact ⟨hs _ _ (hfr p hp') (N p (.tail _ hp')).1, (N p (.tail _ hp')).2⟩
theorem Rep.push {c : Cx} {names l hp fr h} (ok : c.Ok) (R : Rep c names l hp fr h) (o : Obj) (hf : o.isFreed = false) : Rep c names l hp ((h.objs.size, o) :: fr) (h.push o) := by
  obtain ⟨f1, f2⟩ := R.fresh ok
  refine Gen fun G back => ?_
  rcases R.parts with ⟨g, m, news, T, Fm, lo, H, N, D⟩
  refine back ?_
  clear back
  clear G
  have N2 := N.push Fm o hf
  refine ⟨g, T, m, Fm.push o, lo.push, HpN.rep (c := c.at g) H fun p hp' => N2 p (.tail _ (List.mem_append_left _ hp')), fun p hp' => ?_, fun p hp' => ?_⟩
  · cases hp' with
    | head => exact N2 _ (.head _)
    | tail _ hp' => exact N2 p (.tail _ (List.mem_append_right _ hp'))
  · cases hp' with
    | head => exact f1
    | tail _ hp' => exact D p hp'
end
section
variable {F : Fx}
theorem handled_none {c : Cx} (ok : c.Ok) : c.A.handled = none := ok.hd
theorem forSG {c : Cx} (FO : F.Ok) (hsc : SCF c F) (ok : c.Ok) (hcp : c.cp = none) {tgt : Expr} {upd : V → List V → HP → (List V → Prop) → Prop} {b : List Stmt} {m : MS} {d : Nat} (hg : c.g = F.g) (rm : room c d)
    (hasg : ∀ (v : V) (val : Value) (l : List V) (hp : HP) (fr : List (Addr × Obj)) (s : Shared) (K : List V → Prop) (P : Unit → Shared → Prop) (E : Value → Shared → Prop), absV val = v → upd v l hp K → Rep c F.names l hp fr s.heap →
      (∀ l' h' tk', K l' → Rep c F.names l' hp fr h' → P () { s with heap := h', toks := tk' }) → wpAny (model c.g.prog c.g.w) c.A (assign tgt c.env val) P E s)
    (hb : SB F b m) {vs : List V} {K : HP → Prop} {Q : Out → List V → HP → Prop}
    {l : List V} {hp : HP} {fr : List (Addr × Obj)} {s : Shared} {it : Addr} (ItObj : Nat → Obj → Prop)
    (hgo : ∀ k o val (s' : Shared) (P : Unit → Shared → Prop) (E : Value → Shared → Prop), ItObj k o → s'.heap.get? it = some o → P () s' → wpAny (model c.g.prog c.g.w) c.A (letOwnedTupleGo tgt (.ref it) val) P E s')
    (next : ∀ k l hp o h (s' : Shared) (P : Option Value → Shared → Prop) (E : Value → Shared → Prop), K hp → ItObj k o → s'.heap = h → Rep c F.names l hp ((it, o) :: fr) h → (∀ p ∈ fr, p.1 ≠ it) →
      (∀ val v h' tk' o', vs[k]? = some v → absV val = v → ItObj (k + 1) o' → Rep c F.names l hp ((it, o') :: fr) h' → P (some val) { s' with heap := h', toks := tk' }) →
      (k = vs.length → ∀ h' tk', Rep c F.names l hp fr h' → P Option.none { s' with heap := h', toks := tk' }) → k ≤ vs.length → wpAny (model c.g.prog c.g.w) c.A (pyNext (.ref it)) P E s')
    {o₀ : Obj} (h0 : ItObj 0 o₀) (R0 : Rep c F.names l hp ((it, o₀) :: fr) s.heap) (hfr : ∀ p ∈ fr, p.1 ≠ it)
    (hK : ∃ I : Nat → List V → HP → Prop, I 0 l hp ∧
      (∀ k x l h, vs[k]? = some x → I k l h → K h ∧ upd x l h fun l1 => exec F.g d m l1 h (fun o l2 h2 => match o with
        | .next => I (k + 1) l2 h2 | .brk => Q .next l2 h2 | .ret v => Q (.ret v) l2 h2) noX) ∧
      (∀ l h, I vs.length l h → K h ∧ Q .next l h)) {R : Result → Shared → Prop}
    (hR : ∀ o f l' hp' h' tk', Q o l' hp' → rO o f → Rep c F.names l' hp' fr h' → R (.ok f) { s with heap := h', toks := tk' }) :
    codeAny (model c.g.prog c.g.w) c.A (.forLoop tgt (.ref it) b [] c.env) R s := by
  refine Gen fun G back => ?_
  rcases hK with ⟨I, hI0, step, fin⟩
  refine back ?_
  clear back
  clear G
  refine codeAny_forLoop_any (fun n s' => ∃ k l' hp' o h' tk', n = vs.length + 1 - k ∧ k ≤ vs.length ∧ I k l' hp' ∧ ItObj k o ∧ Rep c F.names l' hp' ((it, o) :: fr) h' ∧ s' = { s with heap := h', toks := tk' }) ?_ _ ⟨0, l, hp, o₀, s.heap, s.toks, rfl, Nat.zero_le _, hI0, h0, R0, rfl⟩
  intro n s' qz7
  refine Gen fun G back => ?_
  rcases qz7 with ⟨k, l1, hp1, o1, hh1, tk1, hz8, hk1, hI, hO, R1, hz9⟩
  refine back ?_
  clear back
  clear G
  subst hz8
  subst hz9
  have hKh : K hp1 := by
    by_cases hlt : k < vs.length
    · exact (step k vs[k] l1 hp1 (by simp [hlt]) hI).1
    · have : k = vs.length := by (first | lia | omega)
      subst this
      exact (fin l1 hp1 hI).1
  refine next k l1 hp1 o1 hh1 _ _ _ hKh hO rfl R1 hfr (fun val v h' tk' o' hv hval hO' R2 => ?_) (fun hkl h' tk' R2 => ?_) hk1
  · dsimp only
    refine hgo (k + 1) o' val _ _ _ hO' (by obtain ⟨_, _, _, _, _, _, N, _⟩ := id R2; exact (N _ (.head _)).1) ?_
    refine hasg v val _ _ _ { s with heap := h', toks := tk' } _ _ _ hval (step k v l1 hp1 hv hI).2 R2 fun l3 h3 tk3 hq3 R3 => ?_
    refine hb c d FO hg hsc ok rm _ hp1 _ noX hq3 hcp _ _ _ _ R3 (fun o f l4 h4 hh4 tk4 hq4 hf R4 => ?_) fun _ => noXP
    have hlt : k < vs.length := by
      rcases Nat.lt_or_ge k vs.length with h | h
      · exact h
      · rw [List.getElem?_eq_none h] at hv; cases hv
    cases o with
    | next =>
      cases f <;> first | exact hf.elim | skip
      exact ⟨vs.length + 1 - (k + 1), by (first | lia | omega), k + 1, l4, h4, o', hh4, tk4, rfl, by (first | lia | omega), hq4, hO', R4, rfl⟩
    | brk =>
      cases f <;> first | exact hf.elim | skip
      exact hR .next .next l4 h4 hh4 tk4 hq4 trivial (R4.drop (noC hcp) (fun _ _ _ e => e) hfr)
    | ret v =>
      cases f <;> first | exact hf.elim | skip
      exact hR (.ret v) _ l4 h4 hh4 tk4 hq4 hf (R4.drop (noC hcp) (fun _ _ _ e => e) hfr)
  · dsimp only
    subst hkl
    exact wpAny_execs_nil (hR .next .next l1 hp1 h' tk' (fin l1 hp1 hI).2 trivial R2)
theorem forS {c : Cx} (FO : F.Ok) (hsc : SCF c F) (ok : c.Ok) (hcp : c.cp = none) {x : Str} {p : Pos} {i : Nat} {b : List Stmt} {m : MS} {d : Nat} (hg : c.g = F.g) (rm : room c d)
    (hi : F.names[i]? = some x) (hk : F.sc.names.lookup x = some .local) (hb : SB F b m) {vs : List V} {K : HP → Prop} {Q : Out → List V → HP → Prop}
    {l : List V} {hp : HP} {fr : List (Addr × Obj)} {s : Shared} {it : Addr} (ItObj : Nat → Obj → Prop)
    (next : ∀ k l hp o h (s' : Shared) (P : Option Value → Shared → Prop) (E : Value → Shared → Prop), K hp → ItObj k o → s'.heap = h → Rep c F.names l hp ((it, o) :: fr) h → (∀ p ∈ fr, p.1 ≠ it) →
      (∀ val v h' tk' o', vs[k]? = some v → absV val = v → ItObj (k + 1) o' → Rep c F.names l hp ((it, o') :: fr) h' → P (some val) { s' with heap := h', toks := tk' }) →
      (k = vs.length → ∀ h' tk', Rep c F.names l hp fr h' → P Option.none { s' with heap := h', toks := tk' }) → k ≤ vs.length → wpAny (model c.g.prog c.g.w) c.A (pyNext (.ref it)) P E s')
    {o₀ : Obj} (h0 : ItObj 0 o₀) (R0 : Rep c F.names l hp ((it, o₀) :: fr) s.heap) (hfr : ∀ p ∈ fr, p.1 ≠ it)
    (hK : forIn (fun l h R => exec F.g d m l h R noX) i vs l hp K Q) {R : Result → Shared → Prop}
    (hR : ∀ o f l' hp' h' tk', Q o l' hp' → rO o f → Rep c F.names l' hp' fr h' → R (.ok f) { s with heap := h', toks := tk' }) :
    codeAny (model c.g.prog c.g.w) c.A (.forLoop (.Name x p) (.ref it) b [] c.env) R s :=
  forSG (upd := fun v l _ k => k (lset l i v)) FO hsc ok hcp hg rm
    (fun v val l hp fr s K P E hval hu R1 hP => wpAny_assign_Name (storeS FO hsc ok hcp hi hk R1 hval fun h3 tk3 R3 => hP _ h3 tk3 hu R3)) hb ItObj (fun _ _ _ _ _ _ _ _ h => wpAny_pure h) next h0 R0 hfr hK hR
theorem rangeSize_nn (lo hi' st : Int) : 0 ≤ Builtin.Range.rangeSize lo hi' st := by
  unfold Builtin.Range.rangeSize
  split <;> split <;> first | (first | lia | omega) | skip
  · exact Int.add_nonneg (Int.ediv_nonneg (by (first | lia | omega)) (by (first | lia | omega))) (by (first | lia | omega))
  · rename_i h1 h2
    by_cases hz : st = 0
    · subst hz; simp
    · exact Int.add_nonneg (Int.ediv_nonneg (by (first | lia | omega)) (by (first | lia | omega))) (by (first | lia | omega))
theorem ss_forR_core {x : Str} {p pos : Pos} {i : Nat} {iter : Expr} {b : List Stmt} {m : MS} {c : Cx} {d : Nat} (FO : F.Ok) (hg : c.g = F.g) (hsc : SCF c F) (ok : c.Ok) (hcp : c.cp = none) (rm : room c d)
    (hi : F.names[i]? = some x) (hk : F.sc.names.lookup x = some .local) (hb : SB F b m) {Q : Out → List V → HP → Prop} {l : List V} {hp : HP} {fr : List (Addr × Obj)} {s : Shared}
    {lo hi' st : Int} {r : Addr} {t u v : Tok} (hsm : Builtin.Range.small lo hi' st = true) (R : Rep c F.names l hp fr s.heap) (hr : IsRange s.heap r lo hi' st t u v)
    (hK : forIn (fun l h R => exec F.g d m l h R noX) i ((List.range (Builtin.Range.rangeSize lo hi' st).toNat).map fun (k : Nat) => V.int (lo + k * st)) l hp (fun _ => True) Q)
    {P : Flow → Shared → Prop} {E : Value → Shared → Prop} (hP : ∀ o f l' hp' h' tk', Q o l' hp' → rO o f → Rep c F.names l' hp' fr h' → P f { s with heap := h', toks := tk' }) :
    wpAny (model c.g.prog c.g.w) c.A (pyIter (.ref r)) (fun it s₂ => codeAny (model c.g.prog c.g.w) c.A (.forLoop (.Name x p) it b [] c.env) (fun r s' => match r with | .ok f => P f s' | .error e => cameBackBy (model c.g.prog c.g.w) c.A c.env E e s') s₂) E s := by
  refine wpAny_pyIter_range hr hsm ?_
  have R0 := R.push ok { cls := Value.type "range_iterator", data := Data.fields #[rawInt lo, rawInt (Builtin.Range.rangeSize lo hi' st), rawInt st] } rfl
  have hsz := rangeSize_nn lo hi' st
  refine forS FO hsc ok hcp hg rm hi hk hb (fun k o => o = { cls := Value.type "range_iterator", data := Data.fields #[rawInt (lo + k * st), rawInt (Builtin.Range.rangeSize lo hi' st - k), rawInt st] }) ?_ ?_ R0 (R.fresh ok).2 hK hP
  · intro k l1 hp1 o1 h1 s' P1 E1 _ hO hs R1 hfr hitem hend hkl
    subst hO
    subst hs
    simp only [List.length_map, List.length_range] at hkl hend
    refine Gen fun G back => ?_
    rcases id R1 with ⟨g, T, m1, Fm, lo1, H, N, D⟩
    refine back ?_
    clear back
    clear G
    have hit := (N _ (.head _)).1
    by_cases hlt : k < (Builtin.Range.rangeSize lo hi' st).toNat
    · refine wpAny_pyNext_range_item (it := s.heap.objs.size) hit (by (first | lia | omega)) fun h' hit' hs' => ?_
      refine hitem _ (.int (lo + k * st)) h' _ _ (by simp [hlt]) rfl ?_ (R1.iter (noC hcp) (fun b ob hne e => (hs'.2 b hne).trans e) hit' hfr)
      congr 4
      · rw [show ((k + 1 : Nat) : Int) * st = (k : Int) * st + st by push_cast; rw [Int.add_mul, Int.one_mul], Int.add_assoc]
      · rw [show Builtin.Range.rangeSize lo hi' st - ((k + 1 : Nat) : Int) = Builtin.Range.rangeSize lo hi' st - k - 1 by push_cast; (first | lia | omega)]
    · refine wpAny_pyNext_range_end (it := s.heap.objs.size) (handled_none ok) hit (by (first | lia | omega)) fun h' he => ?_
      exact hend (by (first | lia | omega)) h' _ (R1.drop (noC hcp) (fun b ob hne e => he b ob hne e) hfr)
  · simp
theorem se_rangeArgs1 {x : Str} {p pos : Pos} {a : Expr} {ma : ME} (hxe : x = "range") (hx : x ∈ F.bt) (hk : F.sc.names.lookup x = some .globalImplicit) (hn : notStar a = true) (ha : SE F a ma)
    {c : Cx} {d : Nat} (FO : F.Ok) (hg : c.g = F.g) (hsc : SCF c F) (ok : c.Ok) (rm : room c d) {l hp X} {Q : Int → Int → Int → HP → Prop}
    (hev : ev F.g d ma l hp (fun v h1 => match v with | .int n => Q 0 n 1 h1 | _ => False) X) {fr} {s : Shared} {P E : Value → Shared → Prop} (R : Rep c F.names l hp fr s.heap)
    (hP : ∀ lo hi st hp' h' tk' r t u v, Q lo hi st hp' → Rep c F.names l hp' fr h' → IsRange h' r lo hi st t u v → P (.ref r) { s with heap := h', toks := tk' }) (hX : XP c F.names l fr X E s) :
    wpAny (model c.g.prog c.g.w) c.A (eval (.Call (.Name x p) [a] [] pos) c.env) P E s := by
  subst hxe
  refine Call_ (nameB FO hg hsc ok hx (v := .type "range") boot_range hk (by decide) (by decide) R ?_) rfl
  refine PyProof.Rows.callWith_type1 ?_ (starEach_cons hn) rfl
  refine spliced_more (ha c d FO hg hsc ok rm l hp _ X hev fr s _ E R (fun v y h1 hh tk hq hy R1 => ?_) hX) (starEach_cons hn)
  refine spliced_none ?_
  cases v with
  | int i =>
    obtain ⟨t, rfl⟩ := absV_int hy
    refine Gen fun G back => ?_
    rcases R1.parts with ⟨g, m, news, T, Fm, lo, H, N, D⟩
    refine back ?_
    clear back
    clear G
    exact range1_rows Fm N fun h' tk' t1 u1 v1 hr F' N' _ => hP _ _ _ h1 h' tk' _ _ _ _ hq (Rep.of T F' lo H N' D) hr
  | _ => exact hq.elim
theorem se_rangeArgs2 {x : Str} {p pos : Pos} {a b : Expr} {ma mb : ME} (hxe : x = "range") (hx : x ∈ F.bt) (hk : F.sc.names.lookup x = some .globalImplicit) (hn : notStar a = true) (ha : SE F a ma) (hn2 : notStar b = true) (hb : SE F b mb)
    {c : Cx} {d : Nat} (FO : F.Ok) (hg : c.g = F.g) (hsc : SCF c F) (ok : c.Ok) (rm : room c d) {l hp X} {Q : Int → Int → Int → HP → Prop}
    (hev : ev F.g d ma l hp (fun v h1 => ev F.g d mb l h1 (fun w h2 => match v, w with | .int a, .int b => Q a b 1 h2 | _, _ => False) X) X) {fr} {s : Shared} {P E : Value → Shared → Prop} (R : Rep c F.names l hp fr s.heap)
    (hP : ∀ lo hi st hp' h' tk' r t u v, Q lo hi st hp' → Rep c F.names l hp' fr h' → IsRange h' r lo hi st t u v → P (.ref r) { s with heap := h', toks := tk' }) (hX : XP c F.names l fr X E s) :
    wpAny (model c.g.prog c.g.w) c.A (eval (.Call (.Name x p) [a, b] [] pos) c.env) P E s := by
  subst hxe
  refine Call_ (nameB FO hg hsc ok hx (v := .type "range") boot_range hk (by decide) (by decide) R ?_) rfl
  refine PyProof.Rows.callWith_type1 ?_ (starEach_cons hn) (by rw [starEach_cons hn2]; rfl)
  refine spliced_more (ha c d FO hg hsc ok rm l hp _ X hev fr s _ E R (fun v y h1 hh tk hq hy R1 => ?_) hX) (starEach_cons hn)
  refine spliced_more (hb c d FO hg hsc ok rm l h1 _ X hq fr _ _ E R1 (fun w z h2 hh2 tk2 hq2 hz R2 => ?_) hX) (starEach_cons hn2)
  refine spliced_none ?_
  obtain ⟨i, j, rfl, rfl⟩ : ∃ i j, v = .int i ∧ w = .int j := by cases v <;> first | exact hq2.elim | (cases w <;> first | exact hq2.elim | exact ⟨_, _, rfl, rfl⟩)
  · obtain ⟨t, rfl⟩ := absV_int hy
    obtain ⟨u, rfl⟩ := absV_int hz
    refine Gen fun G back => ?_
    rcases R2.parts with ⟨g, m, news, T, Fm, lo, H, N, D⟩
    refine back ?_
    clear back
    clear G
    exact range2_rows Fm N fun h' tk' t1 u1 v1 hr F' N' _ => hP _ _ _ h2 h' tk' _ _ _ _ hq2 (Rep.of T F' lo H N' D) hr
theorem se_rangeArgs3 {x : Str} {p pos : Pos} {a b e : Expr} {ma mb me : ME} (hxe : x = "range") (hx : x ∈ F.bt) (hk : F.sc.names.lookup x = some .globalImplicit) (hn : notStar a = true) (ha : SE F a ma) (hn2 : notStar b = true) (hb : SE F b mb) (hn3 : notStar e = true) (he : SE F e me)
    {c : Cx} {d : Nat} (FO : F.Ok) (hg : c.g = F.g) (hsc : SCF c F) (ok : c.Ok) (rm : room c d) {l hp X} {Q : Int → Int → Int → HP → Prop}
    (hev : ev F.g d ma l hp (fun v h1 => ev F.g d mb l h1 (fun w h2 => ev F.g d me l h2 (fun u h3 => match v, w, u with | .int a, .int b, .int e => e ≠ 0 ∧ Q a b e h3 | _, _, _ => False) X) X) X) {fr} {s : Shared} {P E : Value → Shared → Prop} (R : Rep c F.names l hp fr s.heap)
    (hP : ∀ lo hi st hp' h' tk' r t u v, Q lo hi st hp' → Rep c F.names l hp' fr h' → IsRange h' r lo hi st t u v → P (.ref r) { s with heap := h', toks := tk' }) (hX : XP c F.names l fr X E s) :
    wpAny (model c.g.prog c.g.w) c.A (eval (.Call (.Name x p) [a, b, e] [] pos) c.env) P E s := by
  subst hxe
  refine Call_ (nameB FO hg hsc ok hx (v := .type "range") boot_range hk (by decide) (by decide) R ?_) rfl
  refine PyProof.Rows.callWith_type1 ?_ (starEach_cons hn) (by rw [starEach_cons hn2, starEach_cons hn3]; rfl)
  refine spliced_more (ha c d FO hg hsc ok rm l hp _ X hev fr s _ E R (fun v y h1 hh tk hq hy R1 => ?_) hX) (starEach_cons hn)
  refine spliced_more (hb c d FO hg hsc ok rm l h1 _ X hq fr _ _ E R1 (fun w z h2 hh2 tk2 hq2 hz R2 => ?_) hX) (starEach_cons hn2)
  refine spliced_more (he c d FO hg hsc ok rm l h2 _ X hq2 fr _ _ E R2 (fun u z3 h3 hh3 tk3 hq3 hz3 R3 => ?_) hX) (starEach_cons hn3)
  refine spliced_none ?_
  obtain ⟨i, j, k, rfl, rfl, rfl⟩ : ∃ i j k, v = .int i ∧ w = .int j ∧ u = .int k := by cases v <;> first | exact hq3.elim | (cases w <;> first | exact hq3.elim | (cases u <;> first | exact hq3.elim | exact ⟨_, _, _, rfl, rfl, rfl⟩))
  · obtain ⟨t, rfl⟩ := absV_int hy
    obtain ⟨u, rfl⟩ := absV_int hz
    obtain ⟨u3, rfl⟩ := absV_int hz3
    refine Gen fun G back => ?_
    rcases R3.parts with ⟨g, m, news, T, Fm, lo, H, N, D⟩
    refine back ?_
    clear back
    clear G
    exact range3_rows Fm N hq3.1 (fun h' tk' t1 u1 v1 hr F' N' _ => hP _ _ _ h3 h' tk' _ _ _ _ hq3.2 (Rep.of T F' lo H N' D) hr) (.inr (pylong ok rm R3))
theorem folded_call {f : Expr} {as : List Expr} {ks : List Keyword} {pos : Pos} {env : Env} (x : Value) : foldedSetIterable (.Call f as ks pos) env x = pure x := rfl
theorem ss_forR1 {x r : Str} {p pr pc pos : Pos} {i : Nat} {a : Expr} {ma : ME} {b : List Stmt} {m : MS} (hre : r = "range") (hr : r ∈ F.bt) (hkr : F.sc.names.lookup r = some .globalImplicit) (hn : notStar a = true) (ha : SE F a ma)
    (hi : F.names[i]? = some x) (hk : F.sc.names.lookup x = some .local) (hb : SB F b m) : SS F (.For (.Name x p) (.Call (.Name r pr) [a] [] pc) b [] pos) (.forR i (.int 0) ma (.int 1) m) := by
  intro c d FO hg hsc ok rm l hp Q X hev hcp fr s P E R hP hX
  refine wpAny_For (se_rangeArgs1 hre hr hkr hn ha FO hg hsc ok rm (X := X)
    (Q := fun x y z h3 => z ≠ 0 ∧ Builtin.Range.small x y z = true ∧ forIn (fun l h R => exec F.g d m l h R noX) i ((List.range (Builtin.Range.rangeSize x y z).toNat).map fun (k : Nat) => V.int (x + k * z)) l h3 (fun _ => True) Q) ?_ R ?_ (hX l)) folded_call
  · refine Eq.mp ?_ hev
    show ev F.g d ma l hp _ X = ev F.g d ma l hp _ X
    congr 1
    funext v h1
    show (match V.int 0, v, V.int 1 with | .int x, .int y, .int z => _ | _, _, _ => False) = _
    cases v <;> rfl
  · intro lo hi' st hp' h' tk' r' t u v hq R' hr'
    exact ss_forR_core (pos := pos) (iter := a) FO hg hsc ok hcp rm hi hk hb hq.2.1 R' hr' hq.2.2 hP
theorem ss_forR2 {x r : Str} {p pr pc pos : Pos} {i : Nat} {a e : Expr} {ma me : ME} {b : List Stmt} {m : MS} (hre : r = "range") (hr : r ∈ F.bt) (hkr : F.sc.names.lookup r = some .globalImplicit) (hn : notStar a = true) (ha : SE F a ma) (hn2 : notStar e = true) (he : SE F e me)
    (hi : F.names[i]? = some x) (hk : F.sc.names.lookup x = some .local) (hb : SB F b m) : SS F (.For (.Name x p) (.Call (.Name r pr) [a, e] [] pc) b [] pos) (.forR i ma me (.int 1) m) := by
  intro c d FO hg hsc ok rm l hp Q X hev hcp fr s P E R hP hX
  refine wpAny_For (se_rangeArgs2 hre hr hkr hn ha hn2 he FO hg hsc ok rm (X := X)
    (Q := fun x y z h3 => z ≠ 0 ∧ Builtin.Range.small x y z = true ∧ forIn (fun l h R => exec F.g d m l h R noX) i ((List.range (Builtin.Range.rangeSize x y z).toNat).map fun (k : Nat) => V.int (x + k * z)) l h3 (fun _ => True) Q) ?_ R ?_ (hX l)) folded_call
  · refine Eq.mp ?_ hev
    show ev F.g d ma l hp _ X = ev F.g d ma l hp _ X
    congr 1
    funext v h1
    show ev F.g d me l h1 _ X = ev F.g d me l h1 _ X
    congr 1
    funext w h2
    show (match v, w, V.int 1 with | .int x, .int y, .int z => _ | _, _, _ => False) = _
    cases v <;> cases w <;> rfl
  · intro lo hi' st hp' h' tk' r' t u v hq R' hr'
    exact ss_forR_core (pos := pos) (iter := a) FO hg hsc ok hcp rm hi hk hb hq.2.1 R' hr' hq.2.2 hP
theorem ss_forR3 {x r : Str} {p pr pc pos : Pos} {i : Nat} {a e f : Expr} {ma me mf : ME} {b : List Stmt} {m : MS} (hre : r = "range") (hr : r ∈ F.bt) (hkr : F.sc.names.lookup r = some .globalImplicit) (hn : notStar a = true) (ha : SE F a ma) (hn2 : notStar e = true) (he : SE F e me)
    (hn3 : notStar f = true) (hf : SE F f mf)
    (hi : F.names[i]? = some x) (hk : F.sc.names.lookup x = some .local) (hb : SB F b m) : SS F (.For (.Name x p) (.Call (.Name r pr) [a, e, f] [] pc) b [] pos) (.forR i ma me mf m) := by
  intro c d FO hg hsc ok rm l hp Q X hev hcp fr s P E R hP hX
  refine wpAny_For (se_rangeArgs3 hre hr hkr hn ha hn2 he hn3 hf FO hg hsc ok rm (X := X)
    (Q := fun x y z h3 => Builtin.Range.small x y z = true ∧ forIn (fun l h R => exec F.g d m l h R noX) i ((List.range (Builtin.Range.rangeSize x y z).toNat).map fun (k : Nat) => V.int (x + k * z)) l h3 (fun _ => True) Q) ?_ R ?_ (hX l)) folded_call
  · exact hev
  · intro lo hi' st hp' h' tk' r' t u v hq R' hr'
    exact ss_forR_core (pos := pos) (iter := a) FO hg hsc ok hcp rm hi hk hb hq.1 R' hr' hq.2 hP
end
noncomputable def setE : Expr → Bool
  | .Set .. => true
  | _ => false
theorem folded_plain {e : Expr} (h : setE e = false) {env : Env} (x : Value) : foldedSetIterable e env x = pure x := by
  cases e <;> first | rfl | (exact absurd h (by simp [setE]))
theorem lset_comm {a b : V} : ∀ {l : List V} {i j : Nat}, i ≠ j → lset (lset l i a) j b = lset (lset l j b) i a
  | [], _, _, _ => rfl
  | _ :: _, 0, 0, h => absurd rfl h
  | _ :: _, 0, _ + 1, _ => rfl
  | _ :: _, _ + 1, 0, _ => rfl
  | x :: r, i + 1, j + 1, h => by simp only [lset]; rw [lset_comm (l := r) (by (first | lia | omega))]
theorem lsetN_snoc : ∀ (is : List Nat) (vs : List V) (l : List V) (i : Nat) (v : V), is.length = vs.length → lsetN l (is ++ [i]) (vs ++ [v]) = lset (lsetN l is vs) i v
  | [], [], _, _, _, _ => rfl
  | [], _ :: _, _, _, _, h => by simp at h
  | _ :: _, [], _, _, _, h => by simp at h
  | j :: is, w :: vs, l, i, v, h => by
    simp only [List.cons_append, lsetN]
    exact lsetN_snoc is vs _ i v (by simpa using h)
theorem lsetN_lset : ∀ (is : List Nat) (vs : List V) (l : List V) (i : Nat) (v : V), i ∉ is → lset (lsetN l is vs) i v = lsetN (lset l i v) is vs
  | [], _, _, _, _, _ => by simp [lsetN]
  | _ :: _, [], _, _, _, _ => by simp [lsetN]
  | j :: is, w :: vs, l, i, v, h => by
    simp only [lsetN]
    rw [lsetN_lset is vs _ i v (fun q => h (.tail _ q)), lset_comm (fun e => h (by rw [e]; exact .head _))]
theorem lsetN_rev : ∀ (is : List Nat) (vs : List V) (l : List V), is.Nodup → is.length = vs.length → lsetN l is.reverse vs.reverse = lsetN l is vs
  | [], [], _, _, _ => rfl
  | [], _ :: _, _, _, h => by simp at h
  | _ :: _, [], _, _, h => by simp at h
  | j :: is, w :: vs, l, nd, h => by
    have h' : is.length = vs.length := by simpa using h
    rw [List.reverse_cons, List.reverse_cons, lsetN_snoc _ _ _ _ _ (by simpa using h')]
    rw [lsetN_rev is vs l (List.nodup_cons.mp nd).2 h', lsetN_lset _ _ _ _ _ (List.nodup_cons.mp nd).1]
    rfl
noncomputable def fIdx : List Str → Str → Nat → Option Nat
  | [], _, _ => none
  | y :: r, x, n => if y == x then some n else fIdx r x (n + 1)
theorem fIdx_get : ∀ {names : List Str} {x : Str} {n i : Nat}, fIdx names x n = some i → n ≤ i ∧ names[i - n]? = some x
  | [], _, _, _, h => by cases h
  | y :: r, x, n, i, h => by
    unfold fIdx at h
    split at h
    · rename_i e
      cases h
      rw [beq_iff_eq.mp e]
      simp
    · obtain ⟨a, b⟩ := fIdx_get h
      refine ⟨by (first | lia | omega), ?_⟩
      rw [show i - n = (i - (n + 1)) + 1 by (first | lia | omega)]
      simpa using b
noncomputable def loc? (F : Fx) (x : Str) : Option Nat :=
  match fIdx F.names x 0 with
  | some i => if F.sc.names.lookup x = some .local ∧ (x == ("__debug__" : Str)) = false then some i else none
  | none => none
theorem loc?_spec {F : Fx} {x : Str} {i : Nat} (h : loc? F x = some i) : F.names[i]? = some x ∧ F.sc.names.lookup x = some .local ∧ (x == ("__debug__" : Str)) = false := by
  unfold loc? at h
  cases hj : fIdx F.names x 0 with
  | none => rw [hj] at h; injection h
  | some j =>
    rw [hj] at h
    by_cases e : F.sc.names.lookup x = some .local ∧ (x == ("__debug__" : Str)) = false
    · have h := (if_pos e).symm.trans h
      injection h with h
      subst h
      exact ⟨by simpa using (fIdx_get hj).2, e.1, e.2⟩
    · have h := (if_neg e).symm.trans h
      injection h
noncomputable def consT (x : Str) : Option Nat → Option (List Str × List Nat) → Option (List Str × List Nat)
  | some i, some p => some (x :: p.1, i :: p.2)
  | _, _ => none
noncomputable def tgt? (F : Fx) : List Expr → Option (List Str × List Nat)
  | [] => some ([], [])
  | .Name x _ :: r => consT x (loc? F x) (tgt? F r)
  | _ :: _ => none
theorem tgt?_cons {F : Fx} {e : Expr} {r : List Expr} {xs : List Str} {is : List Nat} (h : tgt? F (e :: r) = some (xs, is)) :
    ∃ x p i ys js, e = .Name x p ∧ loc? F x = some i ∧ tgt? F r = some (ys, js) ∧ xs = x :: ys ∧ is = i :: js := by
  cases e <;> first | (injection h; done) | skip
  rename_i x p
  have h : consT x (loc? F x) (tgt? F r) = some (xs, is) := h
  cases ha : loc? F x with
  | none => rw [ha] at h; injection h
  | some i =>
    rw [ha] at h
    cases hb : tgt? F r with
    | none => rw [hb] at h; injection h
    | some q =>
      rw [hb] at h
      injection h with h
      injection h with h1 h2
      exact ⟨x, p, i, q.1, q.2, rfl, ha, rfl, h1.symm, h2.symm⟩
theorem assignEach_ok {x : Str} {p : Pos} {r : List Expr} {env : Env} {n : Nat} (h : (assignEach r env).length = r.length ∧ r.length = n ∧ List.findIdx? (fun x => x.fst) (assignEach r env) = none) :
    (assignEach (.Name x p :: r) env).length = (Expr.Name x p :: r).length ∧ (Expr.Name x p :: r).length = n + 1 ∧ List.findIdx? (fun x => x.fst) (assignEach (.Name x p :: r) env) = none := by
  refine ⟨congrArg (· + 1) h.1, congrArg (· + 1) h.2.1, ?_⟩
  show List.findIdx? (fun x => x.fst) ((false, assign (.Name x p) env) :: assignEach r env) = none
  rw [List.findIdx?_cons, h.2.2]; rfl
theorem tgt?_assign {F : Fx} {c : Cx} (FO : F.Ok) (hsc : SCF c F) (ok : c.Ok) (hcp : c.cp = none) : ∀ {ts : List Expr} {xs : List Str} {is : List Nat}, tgt? F ts = some (xs, is) →
    ((assignEach ts c.env).length = ts.length ∧ ts.length = is.length ∧ List.findIdx? (fun x => x.fst) (assignEach ts c.env) = none) ∧
    ∀ (l : List V) (hp : HP) (fr : List (Addr × Obj)) (s : Shared) (vs : List V) (vals : List Value) (P : Unit → Shared → Prop) (E : Value → Shared → Prop), vals.map absV = vs → vs.length = is.length → Rep c F.names l hp fr s.heap →
      (∀ h' tk', Rep c F.names (lsetN l is vs) hp fr h' → P () { s with heap := h', toks := tk' }) →
      wpAny (model c.g.prog c.g.w) c.A (assignInOrder ((assignEach ts c.env).map (fun x => x.snd)) vals) P E s
  | [], xs, is, h => by
    cases h
    refine ⟨⟨rfl, rfl, rfl⟩, fun l hp fr s vs vals P E hv hl R hP => ?_⟩
    have : vs = [] := by simpa using hl
    subst this
    exact assignInOrder_nil (hP s.heap s.toks R)
  | e :: r, xs, is, h => by
    refine Gen fun G back => ?_
    rcases tgt?_cons h with ⟨x, p, i, ys, js, hz10, hi, hr, hz11, hz12⟩
    refine back ?_
    clear back
    clear G
    subst hz10
    subst hz11
    subst hz12
    · obtain ⟨a, ih⟩ := tgt?_assign FO hsc ok hcp hr
      obtain ⟨b1, b2, b3⟩ := loc?_spec hi
      refine ⟨assignEach_ok a, fun l hp fr s vs vals P E hv hl R hP => ?_⟩
      cases vals with
      | nil => subst hv; simp at hl
      | cons y ys' =>
        subst hv
        simp only [List.map_cons, List.length_cons] at hl
        show wpAny _ _ (assignInOrder (assign (.Name x p) c.env :: (assignEach r c.env).map (fun x => x.snd)) (y :: ys')) P E s
        refine assignInOrder_cons (PyProof.Rows.assign_Name (storeS FO hsc ok hcp b1 b2 R rfl fun h' tk' R' => ?_))
        exact ih _ _ _ _ _ _ _ _ rfl (by simpa using hl) R' fun h2 tk2 R2 => hP h2 tk2 R2
theorem bindNames {F : Fx} {c : Cx} (FO : F.Ok) (hsc : SCF c F) (ok : c.Ok) (hcp : c.cp = none) : ∀ {xs : List Str} {is : List Nat}, xs.length = is.length → (∀ p ∈ xs.zip is, F.names[p.2]? = some p.1 ∧ F.sc.names.lookup p.1 = some .local) →
    ∀ (l : List V) (hp : HP) (fr : List (Addr × Obj)) (s : Shared) (vs : List V) (vals : List Value) (P : Unit → Shared → Prop) (E : Value → Shared → Prop), vals.map absV = vs → vs.length = is.length → Rep c F.names l hp fr s.heap →
      (∀ h' tk', Rep c F.names (lsetN l is vs) hp fr h' → P () { s with heap := h', toks := tk' }) →
      wpAny (model c.g.prog c.g.w) c.A (assignInOrder (xs.map fun n => bindName c.env n) vals) P E s
  | [], [], _, _ => fun l hp fr s vs vals P E hv hl R hP => by
    have : vs = [] := by simpa using hl
    subst this
    exact assignInOrder_nil (hP s.heap s.toks R)
  | [], _ :: _, h, _ => by simp at h
  | _ :: _, [], h, _ => by simp at h
  | x :: xs, i :: is, h, hz => fun l hp fr s vs vals P E hv hl R hP => by
    cases vals with
    | nil => subst hv; simp at hl
    | cons y ys' =>
      subst hv
      obtain ⟨b1, b2⟩ := hz (x, i) (by simp)
      refine assignInOrder_cons (bindName_ (storeS FO hsc ok hcp b1 b2 R rfl fun h' tk' R' => ?_))
      exact bindNames FO hsc ok hcp (by simpa using h) (fun p hp => hz p (by simp only [List.zip_cons_cons]; exact .tail _ hp)) _ _ _ _ _ _ _ _ rfl (by simpa using hl) R' fun h2 tk2 R2 => hP h2 tk2 R2
theorem tgt?_zip {F : Fx} : ∀ {ts : List Expr} {xs : List Str} {is : List Nat}, tgt? F ts = some (xs, is) → xs.length = is.length ∧ ∀ p ∈ xs.zip is, F.names[p.2]? = some p.1 ∧ F.sc.names.lookup p.1 = some .local
  | [], xs, is, h => by cases h; simp
  | e :: r, xs, is, h => by
    refine Gen fun G back => ?_
    rcases tgt?_cons h with ⟨x, p, i, ys, js, hz13, hi, hr, hz14, hz15⟩
    refine back ?_
    clear back
    clear G
    subst hz13
    subst hz14
    subst hz15
    · obtain ⟨a1, a2⟩ := tgt?_zip hr
      obtain ⟨b1, b2, b3⟩ := loc?_spec hi
      refine ⟨by simp [a1], fun p hp => ?_⟩
      simp only [List.zip_cons_cons] at hp
      cases hp with
      | head => exact ⟨b1, b2⟩
      | tail _ hp => exact a2 p hp
noncomputable def swr (sc : Scope) (ts vs : List Expr) : Option (Option (List Str)) :=
  if !(ts.length == 2 || ts.length == 3) || vs.length != ts.length then some none
  else if vs.any (fun | .Starred .. => true | _ => false) then some none
  else
    let line := (ts.head?.map (·.pos.line)).getD 0
    let names := ts.filterMap fun
      | .Name id pos => if sc.names.lookup id == some .local && pos.line == line then some id else none
      | _ => none
    if names.length != ts.length || names.eraseDups.length != names.length then some none
    else if vs.all (foldedForSure 8) then some none
    else if vs.all (constantsAlone 8) then none
    else some (some names)
theorem swr_spec {sc : Scope} {ts vs : List Expr} {r : Option (List Str)} (h : swr sc ts vs = some r) {env : Env} (he : env.scope = sc) (hk : sc.kind = .function) {k k' p p'} :
    swappedStores [.Tuple ts k p] (.Tuple vs k' p') env = pure r := by
  have hb : env.blockKind = .function := by unfold Env.blockKind; rw [he, hk]; rfl
  unfold swr at h
  unfold swappedStores
  simp only [hb, bne_self_eq_false, Bool.or_false, Env.kindOf, he]
  dsimp only at h ⊢
  split at h
  · rename_i e; cases h; rw [if_pos e]
  · rename_i e
    rw [if_neg e]
    simp only [bind_pure_comp]
    split at h
    · rename_i e; cases h; exact if_pos e
    · rename_i e
      refine (if_neg e).trans ?_
      split at h
      · rename_i e; cases h; exact if_pos e
      · rename_i e
        refine (if_neg e).trans ?_
        split at h
        · rename_i e; cases h; exact if_pos e
        · rename_i e
          refine (if_neg e).trans ?_
          split at h
          · cases h
          · rename_i e; cases h; exact if_neg e
theorem unp_none {ts : List Expr} {k p} {e : Expr} (h : ∀ vs k' p', e ≠ .Tuple vs k' p') {env : Env} : swappedStores [.Tuple ts k p] e env = pure none := by
  unfold swappedStores
  cases e <;> first | rfl | (exact absurd rfl (h _ _ _))
section
variable {F : Fx}
theorem ss_asgN {ts es : List Expr} {k k' p p' pos} {xs : List Str} {is : List Nat} {ms : ME} (ht : tgt? F ts = some (xs, is)) (hs : swr F.sc ts es = some none ∨ (swr F.sc ts es = some (some xs) ∧ is.Nodup))
    (hl : ts.length = es.length) (hsz : es.length ≤ 100) (hes : SEs F es ms) : SS F (.Assign [.Tuple ts k p] (.Tuple es k' p') pos) (.asgN is ms) := by
  intro c d FO hg hsc ok rm l hp Q X hev hcp fr s P E R hP hX
  refine Gen fun G back => ?_
  rcases tgt?_assign (c := c) FO hsc ok hcp ht with ⟨⟨a1, a2, a3⟩, hasg⟩
  refine back ?_
  clear back
  clear G
  have hkf : F.sc.kind = .function := hsc.1 ▸ ok.kind
  have main : ∀ (vs : List V) (vals : List Value) (h1 : HP) (hh : Heap) (tk : Nat) (T₀ : Value → Shared → Prop), vals.map absV = vs → vs.length = is.length → Rep c F.names l h1 fr hh →
      (∀ r h' g m news, KtsTurn c.fs c.h₀ g → Fr g c.L h' m → LocX c F.names l m fr → HpN c h1 news → News g c.L h' ((r, { cls := .type "tuple", data := .seq vals.toArray }) :: (news ++ fr)) → (∀ p ∈ fr, h1 p.1 = Option.none) → T₀ (.ref r) { s with heap := h', toks := tk }) →
      wpAny (model c.g.prog c.g.w) c.A (newTuple vals) T₀ E { s with heap := hh, toks := tk } := by
    intro vs vals h1 hh tk T₀ hv hlv R1 hT
    refine Gen fun G back => ?_
    rcases R1.parts with ⟨g, m, news, T, Fm, lo, H, N, D⟩
    refine back ?_
    clear back
    clear G
    refine newTuple_N Fm N (fun h' F' N' => hT _ h' g m news T F' lo H N' D) ?_
    have : vals.length = vs.length := by rw [← hv]; simp
    have h2 : sizeLine = 2 ^ 24 := rfl
    (first | lia | omega)
  have hsw : ∀ t, swapsWithSole [t] (.Tuple es k' p') pos.line c.env = pure false := fun t => swaps_plain (e := .Tuple es k' p') rfl (some t) pos.line c.env
  rcases hs with hs | ⟨hs, hnd⟩
  · refine Assign_Tuple ?_ (hsw _) (swr_spec hs (c.env_scope.trans hsc.1) hkf)
    refine Tuple_ (hes c d FO hg hsc ok rm l hp _ X hev p' fr s _ E R (fun vs vals h1 hh tk hq hx R1 => ?_) (hX l))
    dsimp only at hq
    cases hsl : sameLen vs is with
    | false => rw [hsl] at hq; exact hq.elim
    | true =>
      rw [hsl] at hq
      have hlv := sameLen_len hsl
      refine main vs vals h1 hh tk _ hx hlv R1 fun r h' g m news T F' lo H N' D => ?_
      refine unpackN_ F' N' (t := r) (items := vals.toArray) ⟨_, (N' _ (.head _)).1, rfl, _, rfl⟩ (handled_none ok) (by rw [a1, a2, ← hlv, ← hx]; simp) a3 fun h2 F2 N2 => ?_
      exact hasg _ _ _ _ vs vals.toArray.toList _ _ (by simpa [rVs] using hx) hlv (Rep.of T F2 lo H (fun p hp => N2 p (.tail _ hp)) D) fun h3 tk3 R3 => hP .next .next _ h1 h3 tk3 hq trivial R3
  · refine Assign_Tuple_swapped (names := xs) ?_ (hsw _) (swr_spec hs (c.env_scope.trans hsc.1) hkf)
    refine Tuple_ (hes c d FO hg hsc ok rm l hp _ X hev p' fr s _ E R (fun vs vals h1 hh tk hq hx R1 => ?_) (hX l))
    dsimp only at hq
    cases hsl : sameLen vs is with
    | false => rw [hsl] at hq; exact hq.elim
    | true =>
      rw [hsl] at hq
      have hlv := sameLen_len hsl
      obtain ⟨z1, z2⟩ := tgt?_zip ht
      refine main vs vals h1 hh tk _ hx hlv R1 fun r h' g m news T F' lo H N' D => ?_
      refine unpackItemsN_ F' N' (t := r) (items := vals.toArray) ⟨_, (N' _ (.head _)).1, rfl, _, rfl⟩ (handled_none ok) (by rw [z1, ← hlv, ← hx]; simp) fun h2 F2 N2 => ?_
      refine bindNames FO hsc ok hcp (xs := xs.reverse) (is := is.reverse) (by simpa using z1) (fun q hq' => z2 q ?_) _ _ _ _ vs.reverse _ _ _ (by rw [← hx]; simp) (by simpa using hlv) (Rep.of T F2 lo H (fun p hp => N2 p (.tail _ hp)) D) fun h3 tk3 R3 => ?_
      · have e9 : xs.reverse.zip is.reverse = (xs.zip is).reverse := by simp only [List.zip]; exact (List.reverse_zipWith z1).symm
        rw [e9] at hq'
        simpa using hq'
      · rw [lsetN_rev is vs l hnd hlv.symm] at R3
        exact hP .next .next _ h1 h3 tk3 hq trivial R3
theorem ss_unp {ts : List Expr} {k p pos} {xs : List Str} {is : List Nat} {e : Expr} {m : ME} (ht : tgt? F ts = some (xs, is)) (hne : ∀ vs k' p', e ≠ .Tuple vs k' p') (hc : compE e = false)
    (he : SE F e m) : SS F (.Assign [.Tuple ts k p] e pos) (.unp is m) := by
  intro c d FO hg hsc ok rm l hp Q X hev hcp fr s P E R hP hX
  refine Gen fun G back => ?_
  rcases tgt?_assign (c := c) FO hsc ok hcp ht with ⟨⟨a1, a2, a3⟩, hasg⟩
  refine back ?_
  clear back
  clear G
  have hsw : swapsWithSole [.Tuple ts k p] e pos.line c.env = pure false := swaps_plain hc (some (.Tuple ts k p)) pos.line c.env
  refine Assign_Tuple ?_ hsw (unp_none hne)
  refine he c d FO hg hsc ok rm l hp _ X hev fr s _ E R (fun v x h1 hh tk hq hx R1 => ?_) (hX l)
  cases v with
  | ref a =>
    cases absV_ref hx
    refine Gen fun G back => ?_
    rcases hq with ⟨vs, e1, hlv, hq⟩
    refine back ?_
    clear back
    clear G
    obtain ⟨items, hi, hl⟩ := R1.items ok (by rw [e1]; rfl)
    rcases hl with ⟨_, hl⟩ | ⟨hl, _⟩
    · exact absurd e1 (hl _)
    · refine Gen fun G back => ?_
      rcases R1.parts with ⟨g, m', news, T, Fm, lo, H, N, D⟩
      refine back ?_
      clear back
      clear G
      refine unpackN_ Fm N hl (handled_none ok) (by rw [a1, a2, ← hlv, ← hi]; simp) a3 fun h2 F2 N2 => ?_
      exact hasg _ _ _ _ vs items.toList _ _ hi hlv (Rep.of T F2 lo H N2 D) fun h3 tk3 R3 => hP .next .next _ h1 h3 tk3 hq trivial R3
  | _ => exact hq.elim
theorem Rep.upd {c : Cx} {names l hp fr h h'} {a : Addr} {o o₀ : O} {ob : Obj} (R : Rep c names l hp fr h) (h0 : hp a = some o₀) (hs : Heap.SameBut a h h') (ho : h'.get? a = some ob) (hr : RepO o ob)
    (hn : ∀ ws, o₀ ≠ .ro ws) : Rep c names l (hset hp a o) fr h' := by
  refine Gen fun G back => ?_
  rcases R with ⟨g, T, m, Fm, lo, H, N, D⟩
  refine back ?_
  clear back
  clear G
  have ha : a ≠ c.L ∧ g.get? a = none := by
    have := H.2 a _ h0
    cases o₀ with
    | ro ws => exact absurd rfl (hn ws)
    | list ws => obtain ⟨_, _, _, q⟩ := this; exact q
    | tup ws => obtain ⟨_, _, _, q⟩ := this; exact q
    | cell ws => obtain ⟨_, _, _, q⟩ := this; exact q
    | rng _ _ _ => obtain ⟨_, _, _, q⟩ := this; exact q
    | dict _ => obtain ⟨_, _, _, q⟩ := this; exact q
  have hfr : ∀ p ∈ fr, p.1 ≠ a := fun p hp' e => by have := D p hp'; rw [e, h0] at this; cases this
  refine ⟨g, T, m, ⟨Fm.ns.at' fun ob' e => (hs.2 _ (Ne.symm ha.1)).trans e, fun b ob' e => (hs.2 b fun q => by rw [q, ha.2] at e; cases e).trans (Fm.keep b ob' e), Fm.above⟩, lo, ⟨?_, fun b x hx => ?_⟩, fun p hp' => ⟨(hs.2 _ (hfr p hp')).trans (N p hp').1, (N p hp').2⟩, fun p hp' => by rw [hset_ne (hfr p hp')]; exact D p hp'⟩
  · obtain ⟨Dm, hD⟩ := H.1
    refine ⟨a :: Dm, fun b x hx => ?_⟩
    by_cases e : b = a
    · exact e ▸ .head _
    · rw [hset_ne e] at hx; exact .tail _ (hD b x hx)
  · by_cases e : b = a
    · subst e
      rw [hset_same] at hx
      cases hx
      cases o with
      | ro vs => exact hr.elim
      | list vs => exact ⟨ob, ho, hr, ha⟩
      | tup vs => exact ⟨ob, ho, hr, ha⟩
      | cell vs => exact ⟨ob, ho, hr, ha⟩
      | rng _ _ _ => exact ⟨ob, ho, hr, ha⟩
      | dict _ => exact ⟨ob, ho, hr, ha⟩
    · rw [hset_ne e] at hx
      have := H.2 b x hx
      cases x with
      | ro vs => exact this
      | list vs => obtain ⟨ob', h1, h2⟩ := this; exact ⟨ob', (hs.2 _ e).trans h1, h2⟩
      | tup vs => obtain ⟨ob', h1, h2⟩ := this; exact ⟨ob', (hs.2 _ e).trans h1, h2⟩
      | cell vs => obtain ⟨ob', h1, h2⟩ := this; exact ⟨ob', (hs.2 _ e).trans h1, h2⟩
      | rng _ _ _ => obtain ⟨ob', h1, h2⟩ := this; exact ⟨ob', (hs.2 _ e).trans h1, h2⟩
      | dict _ => obtain ⟨ob', h1, h2⟩ := this; exact ⟨ob', (hs.2 _ e).trans h1, h2⟩
end
/-! frames whose ground has turned -/
theorem turnBack {A₀ : Around} {base h₀ g g' H : Heap} {outer : List Env} {L : Addr} {m : Str → Option Value} (B : Below A₀ base outer h₀) (FG : Fr h₀ L g m)
    (T : KtsTurn (L :: outer.filterMap (·.frame)) g g') (k : ∀ b o, g'.get? b = some o → H.get? b = some o) :
    ∃ h', KtsTurn (outer.filterMap (·.frame)) h₀ h' ∧ Fr h' L H m ∧ ∀ b, g'.get? b = none → b ≠ L ∧ h'.get? b = none := by
  have nL : h₀.get? L = none := kts_self FG
  refine Gen fun G back => ?_
  rcases FG.ns with ⟨oL, es, ep, hL, hLd, hLk, hLf⟩
  refine back ?_
  clear back
  clear G
  obtain ⟨sl, hs⟩ := T.up hL
  obtain ⟨T₁, S₁⟩ := kts_turn_at (h := H) (fs := outer.filterMap (·.frame)) (g := h₀)
    (fun b hb => by
      refine Gen fun G back => ?_
      rcases B.frames.mem hb with ⟨_, o, ho', _⟩
      refine back ?_
      clear back
      clear G
      exact ⟨o, ho'⟩)
    (fun b o e nm => k b o (T.other b o (FG.keep b o e) (fun q => by
      rcases List.mem_cons.mp q with z | z
      · rw [z, nL] at e; cases e
      · exact nm z)))
    (fun b o e hm => by
      obtain ⟨sl', hs'⟩ := T.up (FG.keep b o e)
      exact ⟨sl', k _ _ hs'⟩)
  refine ⟨_, T₁, ⟨⟨_, es, ep, k _ _ hs, hLd, hLk, hLf⟩, S₁, by rw [T₁.size]; exact FG.above⟩, fun b hb => ⟨fun e => (by rw [e, hs] at hb; cases hb), T₁.none_ _ ?_⟩⟩
  cases q : h₀.get? b with
  | none => rfl
  | some o =>
    obtain ⟨sl', hs'⟩ := T.up (FG.keep _ _ q)
    rw [hs'] at hb; cases hb
noncomputable def LeaveT (fs : List Addr) (h₀ : Heap) (L : Addr) (m : Str → Option Value) (g : Heap) (R : Result → Shared → Prop) (v : Value) (s' : Shared) : Prop :=
  ∃ g' L' m' news', KtsTurn (L :: fs) g g' ∧ Fr g' L' s'.heap m' ∧ News g' L' s'.heap news' ∧ ∀ h₀', KtsTurn fs h₀ h₀' → Fr h₀' L s'.heap m → News h₀' L s'.heap news' → R (.ok (.ret v)) s'
theorem LeaveT.done {A₀ : Around} {base h₀ g : Heap} {outer : List Env} {L : Addr} {m : Str → Option Value} {R : Result → Shared → Prop} {v : Value} {s' : Shared} (B : Below A₀ base outer h₀) (FG : Fr h₀ L g m)
    (h : LeaveT (outer.filterMap (·.frame)) h₀ L m g R v s') : R (.ok (.ret v)) s' := by
  refine Gen fun G back => ?_
  rcases h with ⟨g', L', m', news', T, F', N', k⟩
  refine back ?_
  clear back
  clear G
  refine Gen fun G back => ?_
  rcases turnBack (H := s'.heap) B FG T F'.keep with ⟨h', T₁, F₁, fr⟩
  refine back ?_
  clear back
  clear G
  exact k h' T₁ F₁ fun p hp => ⟨(N' p hp).1, (fr _ (N' p hp).2.2).1, (fr _ (N' p hp).2.2).2⟩
section
variable {prog : Program} {w : World} {A₀ A : Around} {s : Shared} {base h₀ : Heap} {L : Addr} {m : Str → Option Value} {news : List (Addr × Obj)} {K : Frag} {p : Program} {loose : List Str} {mean : ExcName → Option Value} {mg mb : Str → Option Value}
  {env : Env} {outer : List Env} {R : Result → Shared → Prop} {name qual : Str} {params : Arguments} {body : List Stmt} {scope : Scope} {dV kV doc pm cdv ct oc : Value} {an od : Option Addr} {osl : Array (Option Value)} {f : Addr} {args : Args} {binds : List (Str × Value)}
theorem code_defT (B : Below A₀ base outer h₀) (F : Fr h₀ L s.heap m) (X₀ : K.In h₀) (N : News h₀ L s.heap news) (hlim : h₀.NoLimit) (hA : A.frames = some (env :: outer)) (hf : env.frame = some L) (hke : env.scope.kind = .function)
    (ho : K.lookup f = some ⟨oc, od, .func (fnOf name qual params body scope dV kV doc pm an cdv ct), osl⟩) (hcd : codeIn K cdv qual = true) (hroom : A.depth < recursionLimit)
    (hbind : BindsTo s (fnOf name qual params body scope dV kV doc pm an cdv ct) args binds) (hloc : ∀ y ∈ binds, scope.names.lookup y.1 = some .local)
    (h : ∀ g L' h₁, Fr h₀ L g m → Fr g L' h₁ (fun y => binds.reverse.lookup y) → News g L' h₁ news → Below A base (env :: outer) g →
      wpAny (model prog w) (A.deeper (envOf qual scope L' f cdv)) (execs body (envOf qual scope L' f cdv))
        (fun fl s' => LeaveT (outer.filterMap (·.frame)) h₀ L m g R (match fl with | .ret v => v | _ => .none) s')
        (fun e s' => wpAny (model prog w) (A.deeper (envOf qual scope L' f cdv)) (leaving (envOf qual scope L' f cdv) e) (fun _ s'' => R (.error e) s'') (fun e' s'' => R (.error e') s'') s')
        { s with heap := h₁, toks := s.toks + binds.length })
    (hco : scope.isCoroutine = false) (hgen : scope.isGenerator = false) (hk : scope.kind = .function)
    (hcell : ∀ x ∈ scope.names, x.2 ≠ .cell) : codeAny (model prog w) A (.call (.ref f) args) R s := by
  refine Gen fun G back => ?_
  rcases groundX (R := R) B F N hA hf hke with ⟨FG, BG, st, lv⟩
  refine back ?_
  clear back
  clear G
  refine codeAny_call_def (fd := fnOf name qual params body scope dV kV doc pm an cdv ct) (body := body) (binds := binds) hroom ((X₀.keeps F.keep) _ _ ho) rfl (hlim.keeps F.keep) (codeRec_of (X₀.keeps F.keep) hcd) rfl hbind hcell hloc (fun h₁ hns hk₁ => ?_) hco hgen hk
  exact wpAny_mono (h _ s.heap.objs.size h₁ FG ⟨hns, fun b o e => hk₁ b o (of_hideAll _ e), Nat.le_of_eq (hideAll_size _ _)⟩
    (fun p hp => ⟨hk₁ _ _ (N p hp).1, Nat.ne_of_lt (Heap.lt_size (N p hp).1), hideAll_none _ (List.mem_map_of_mem hp)⟩) BG) (fun fl s' hl => hl.done B FG) fun _ _ y => y
theorem code_defCT (B : Below A₀ base outer h₀) (F : Fr h₀ L s.heap m) (X₀ : K.In h₀) (N : News h₀ L s.heap news) (hlim : h₀.NoLimit) (hA : A.frames = some (env :: outer)) (hf : env.frame = some L) (hke : env.scope.kind = .function)
    (ho : K.lookup f = some ⟨oc, od, .func (fnOf name qual params body scope dV kV doc pm an cdv ct), osl⟩) (hcd : codeIn K cdv qual = true) (hroom : A.depth < recursionLimit)
    (hbind : BindsTo s (fnOf name qual params body scope dV kV doc pm an cdv ct) args binds) (hkind : (binds.all fun y => scope.names.lookup y.1 == some .local || scope.names.lookup y.1 == some .cell) = true)
    (hnd : ((cellsFrom 0 scope.names []).map (·.1)).Nodup)
    (h : ∀ g L' h₁ tk cells, Fr h₀ L g m → Fr g L' h₁ (bindL (envOfC qual scope L' f cdv).kindOf binds fun _ => none) → News g L' h₁ (cells ++ news) →
      CellsAre (bindC (envOfC qual scope L' f cdv).kindOf binds fun _ => none) (cellsFrom (L' + 1) scope.names []) cells → Below A base (env :: outer) g → (∀ p ∈ news, p.1 < L') →
      wpAny (model prog w) (A.deeper (envOfC qual scope L' f cdv)) (execs body (envOfC qual scope L' f cdv))
        (fun fl s' => LeaveT (outer.filterMap (·.frame)) h₀ L m g R (match fl with | .ret v => v | _ => .none) s')
        (fun e s' => wpAny (model prog w) (A.deeper (envOfC qual scope L' f cdv)) (leaving (envOfC qual scope L' f cdv) e) (fun _ s'' => R (.error e) s'') (fun e' s'' => R (.error e') s'') s')
        { s with heap := h₁, toks := tk })
    (hco : scope.isCoroutine = false) (hgen : scope.isGenerator = false) (hk : scope.kind = .function) : codeAny (model prog w) A (.call (.ref f) args) R s := by
  refine Gen fun G back => ?_
  rcases groundX (R := R) B F N hA hf hke with ⟨FG, BG, st, lv⟩
  refine back ?_
  clear back
  clear G
  refine codeAny_call_function hroom ((X₀.keeps F.keep) _ _ ho) rfl hco hgen rfl (codeRec_of (X₀.keeps F.keep) hcd) (hbind _ _ _ _ ?_)
  refine wpAny_newFunctionEnv_cells hk (kindsX hkind _) fun env' he s' x => ?_
  subst he
  refine ⟨(hlim.keeps F.keep).keeps x.toInCall.keep, codeAny_func ?_⟩
  refine Gen fun G back => ?_
  rcases x.done with ⟨h₁, tk, hz16, _⟩
  refine back ?_
  clear back
  clear G
  subst hz16
  have hk₁ := x.toInCall.keep
  obtain ⟨cells, NC, Y⟩ := Cl.news (h₀ := s.heap) (Nat.le_refl _) fun n c hm => ⟨x.cell n c (lookup_of_mem_nodup (cellsFrom_names scope.names 0 (s.heap.objs.size + 1) [] [] rfl ▸ hnd) hm), x.above n c hm⟩
  refine wpAny_mono (h _ s.heap.objs.size h₁ tk cells FG ⟨x.toInCall.ns, fun b o e => hk₁ b o (of_hideAll _ e), Nat.le_of_eq (hideAll_size _ _)⟩ (fun p hp => ?_) Y BG (fun p hp => Heap.lt_size (N p hp).1)) (fun fl s' hl => hl.done B FG) fun _ _ y => y
  rcases List.mem_append.mp hp with hp | hp
  · refine ⟨(NC p hp).1, (NC p hp).2.1, ?_⟩
    cases q : (hideAll s.heap (news.map (·.1))).get? p.1 with
    | none => rfl
    | some o => have := of_hideAll _ q; rw [(NC p hp).2.2] at this; cases this
  · exact ⟨hk₁ _ _ (N p hp).1, Nat.ne_of_lt (Heap.lt_size (N p hp).1), hideAll_none _ (List.mem_map_of_mem hp)⟩
end
theorem Cx.Ok.dictsPush {c : Cx} (ok : c.Ok) {g : Heap} {m : Str → Option Value} (FG : Fr c.h₀ c.L g m) : KtsDicts (c.L :: c.fs) g := by
  intro b hb
  rcases List.mem_cons.mp hb with rfl | hb
  · refine Gen fun G back => ?_
    rcases FG.ns with ⟨oL, es, ep, hL, hLd, _⟩
    refine back ?_
    clear back
    clear G
    exact ⟨oL, es, ep, hL, hLd⟩
  · refine Gen fun G back => ?_
    rcases ok.dicts b hb with ⟨o, es, n, ho, hd⟩
    refine back ?_
    clear back
    clear G
    exact ⟨o, es, n, FG.keep b o ho, hd⟩
noncomputable def hclr (hp : HP) (a : Addr) : HP := fun b => if b = a then none else hp b
theorem Rep.at {c : Cx} {names l hp fr h} {a : Addr} {vs : List V} (R : Rep c names l hp fr h) (e : hp a = some (.list vs)) :
    ∃ g m news items n, KtsTurn c.fs c.h₀ g ∧ Fr g c.L h m ∧ LocX c names l m fr ∧ items.toList.map absV = vs ∧ HpN c (hclr hp a) news ∧ News g c.L h ((a, listOf items n) :: (news ++ fr)) ∧
      (∀ p ∈ news ++ fr, p.1 ≠ a) ∧ ∀ p ∈ fr, hp p.1 = Option.none := by
  refine Gen fun G back => ?_
  rcases R with ⟨g, T, m, Fm, lo, H, N, D⟩
  refine back ?_
  clear back
  clear G
  have H' : HpRep (c.at g) (hclr hp a) h := by
    refine ⟨?_, fun b o hb => ?_⟩
    · obtain ⟨Dm, hD⟩ := H.1
      refine ⟨Dm, fun b o hb => ?_⟩
      unfold hclr at hb
      split at hb
      · cases hb
      · exact hD b o hb
    · unfold hclr at hb
      split at hb
      · cases hb
      · exact H.2 b o hb
  obtain ⟨news, N1, H1⟩ := H'.news
  refine Gen fun G back => ?_
  rcases H.2 a _ e with ⟨ob, h1, ⟨items, n, hz17, hi⟩, h2⟩
  refine back ?_
  clear back
  clear G
  subst hz17
  have hfr : ∀ p ∈ fr, p.1 ≠ a := fun p hp' q => by have := D p hp'; rw [q, e] at this; cases this
  refine ⟨g, m, news.filter (fun p => p.1 != a), items, n, T, Fm, lo, hi, ⟨H1.1, fun b o hb => ?_⟩, ?_, ?_, D⟩
  · have hba : b ≠ a := by intro q; unfold hclr at hb; rw [if_pos q] at hb; cases hb
    have := H1.2 b o hb
    cases o with
    | ro vs => exact this
    | list vs => obtain ⟨ob', q1, q2⟩ := this; exact ⟨ob', List.mem_filter.mpr ⟨q1, by simpa using hba⟩, q2⟩
    | tup vs => obtain ⟨ob', q1, q2⟩ := this; exact ⟨ob', List.mem_filter.mpr ⟨q1, by simpa using hba⟩, q2⟩
    | cell vs => obtain ⟨ob', q1, q2⟩ := this; exact ⟨ob', List.mem_filter.mpr ⟨q1, by simpa using hba⟩, q2⟩
    | rng _ _ _ => obtain ⟨ob', q1, q2⟩ := this; exact ⟨ob', List.mem_filter.mpr ⟨q1, by simpa using hba⟩, q2⟩
    | dict _ => obtain ⟨ob', q1, q2⟩ := this; exact ⟨ob', List.mem_filter.mpr ⟨q1, by simpa using hba⟩, q2⟩
  · intro p hp'
    rcases List.mem_cons.mp hp' with rfl | hp'
    · exact ⟨h1, h2⟩
    · rcases List.mem_append.mp hp' with q | q
      · exact N1 p (List.mem_filter.mp q).1
      · exact N p q
  · intro p hp'
    rcases List.mem_append.mp hp' with q | q
    · have := (List.mem_filter.mp q).2
      simpa using this
    · exact hfr p q
theorem Rep.back {c : Cx} {names : List Str} {l : List V} {hp : HP} {fr news : List (Addr × Obj)} {h' : Heap} {m : Str → Option Value} {a : Addr} {items : Array Value} {n : Nat} {o₀ : O} {g : Heap}
    (T : KtsTurn c.fs c.h₀ g) (Fm : Fr g c.L h' m) (lo : LocX c names l m fr) (H : HpN c (hclr hp a) news) (N : News g c.L h' ((a, listOf items n) :: (news ++ fr))) (D : ∀ p ∈ fr, hp p.1 = Option.none) (e : hp a = some o₀) :
    Rep c names l (hset hp a (.list (items.toList.map absV))) fr h' := by
  have hfr : ∀ p ∈ fr, p.1 ≠ a := fun p hp' q => by have := D p hp'; rw [q, e] at this; cases this
  refine Rep.of (news := (a, listOf items n) :: news) T Fm lo ⟨?_, fun b x hx => ?_⟩ N fun p hp' => by rw [hset_ne (hfr p hp')]; exact D p hp'
  · obtain ⟨Dm, hD⟩ := H.1
    refine ⟨a :: Dm, fun b x hx => ?_⟩
    by_cases q : b = a
    · exact q ▸ .head _
    · rw [hset_ne q] at hx; exact .tail _ (hD b x (by unfold hclr; rw [if_neg q]; exact hx))
  · by_cases q : b = a
    · subst q
      rw [hset_same] at hx
      cases hx
      exact ⟨_, .head _, items, n, rfl, rfl⟩
    · rw [hset_ne q] at hx
      have := H.2 b x (by unfold hclr; rw [if_neg q]; exact hx)
      cases x with
      | ro vs => exact this
      | list vs => obtain ⟨ob', h1, h2⟩ := this; exact ⟨ob', .tail _ h1, h2⟩
      | tup vs => obtain ⟨ob', h1, h2⟩ := this; exact ⟨ob', .tail _ h1, h2⟩
      | cell vs => obtain ⟨ob', h1, h2⟩ := this; exact ⟨ob', .tail _ h1, h2⟩
      | rng _ _ _ => obtain ⟨ob', h1, h2⟩ := this; exact ⟨ob', .tail _ h1, h2⟩
      | dict _ => obtain ⟨ob', h1, h2⟩ := this; exact ⟨ob', .tail _ h1, h2⟩
theorem setL_some : ∀ {l : List Value} {k : Nat} {v : Value}, k < l.length → ki_setL l k v = some (l.set k v)
  | [], _, _, h => by simp at h
  | _ :: _, 0, _, _ => rfl
  | x :: r, k + 1, v, h => by
    show (match ki_setL r k v with | some q => some (x :: q) | none => none) = _
    rw [setL_some (by simpa using h)]; rfl
section
variable {F : Fx}
theorem ss_setI {o i e : Expr} {p pos} {mo mi me : ME} (hc : compE e = false) (he : SE F e me) (ho : SE F o mo) (hi : SE F i mi) : SS F (.Assign [.Subscript o i p] e pos) (.setI mo mi me) := by
  intro c d FO hg hsc ok rm l hp Q X hev hcp fr s P E R hP hX
  refine wpAny_Assign_Subscript (he c d FO hg hsc ok rm l hp _ X hev fr s _ E R (fun u x h1 hh tk hq hx R1 => ?_) (hX l)) (swaps_plain hc _ _ _)
  refine ho c d FO hg hsc ok rm l h1 _ X hq fr _ _ E R1 (fun v y h2 hh2 tk2 hq2 hy R2 => ?_) (hX l)
  refine hi c d FO hg hsc ok rm l h2 _ X hq2 fr _ _ E R2 (fun w z h3 hh3 tk3 hq3 hz R3 => ?_) (hX l)
  obtain ⟨a, k, rfl, rfl⟩ : ∃ a k, v = .ref a ∧ w = .int k := by cases v <;> first | exact hq3.elim | (cases w <;> first | exact hq3.elim | exact ⟨_, _, rfl, rfl⟩)
  · cases absV_ref hy
    obtain ⟨t, rfl⟩ := absV_int hz
    refine Gen fun G back => ?_
    rcases hq3 with ⟨vs, e1, h0, hlt, hfit, hq4⟩
    refine back ?_
    clear back
    clear G
    refine Gen fun G back => ?_
    rcases R3.at e1 with ⟨g, m, news, items, n, T, Fm, lo, hit, H, N, hne, D⟩
    refine back ?_
    clear back
    clear G
    have hsz : items.size = vs.length := by rw [← hit]; simp
    cases hx
    refine ki_set (its := items) (n := n) (D := a) Fm N h0 (by (first | lia | omega)) (q := items.toList.set k.toNat x) ?_ (Upd.head hne) fun h' F' N' => ?_
    · exact setL_some (by rw [Array.length_toList]; (first | lia | omega))
    · have := Rep.back T F' lo H N' D e1
      refine hP .next .next _ _ h' _ hq4 trivial ?_
      simpa [← hit, List.map_set] using this
theorem iterOf_cases {o : Option O} {vs : List V} (h : iterOf o = some vs) : itemsOf o = some vs ∨ ∃ a b c, o = some (.rng a b c) ∧ Builtin.Range.small a b c = true ∧ vs = rngL a b c := by
  cases o with
  | none => exact .inl h
  | some o =>
    cases o with
    | rng a b c =>
      simp only [iterOf] at h
      split at h
      · rename_i q; exact .inr ⟨a, b, c, rfl, q, (Option.some.inj h).symm⟩
      · cases h
    | _ => exact .inl h
theorem Rep.rng {c : Cx} {names l hp fr h} {a : Addr} {x y z : Int} (R : Rep c names l hp fr h) (e : hp a = some (.rng x y z)) : ∃ t u v, IsRange h a x y z t u v := by
  refine Gen fun G back => ?_
  rcases R with ⟨g, T, m, Fm, lo, H, N, D⟩
  refine back ?_
  clear back
  clear G
  refine Gen fun G back => ?_
  rcases H.2 a _ e with ⟨ob, h1, ⟨t, u, v, hz18⟩, _⟩
  refine back ?_
  clear back
  clear G
  subst hz18
  exact ⟨t, u, v, h1⟩
theorem forLG {tgt : Expr} {upd : V → List V → HP → (List V → Prop) → Prop} {pos : Pos} {iter : Expr} {mi : ME} {b : List Stmt} {m : MS} (hse : setE iter = false) (hit : SE F iter mi) (hb : SB F b m)
    {c : Cx} {d : Nat} (FO : F.Ok) (hg : c.g = F.g) (hsc : SCF c F) (ok : c.Ok) (hcp : c.cp = none) (rm : room c d)
    (hasg : ∀ (v : V) (val : Value) (l : List V) (hp : HP) (fr : List (Addr × Obj)) (s : Shared) (K : List V → Prop) (P : Unit → Shared → Prop) (E : Value → Shared → Prop), absV val = v → upd v l hp K → Rep c F.names l hp fr s.heap →
      (∀ l' h' tk', K l' → Rep c F.names l' hp fr h' → P () { s with heap := h', toks := tk' }) → wpAny (model c.g.prog c.g.w) c.A (assign tgt c.env val) P E s)
    (hgo : ∀ (it : Addr) (o : Obj) val (s' : Shared) (P : Unit → Shared → Prop) (E : Value → Shared → Prop), (o.cls = .type "list_iterator" ∨ o.cls = .type "tuple_iterator" ∨ o.cls = .type "range_iterator") → s'.heap.get? it = some o → P () s' → wpAny (model c.g.prog c.g.w) c.A (letOwnedTupleGo tgt (.ref it) val) P E s')
    {l : List V} {hp : HP} {Q : Out → List V → HP → Prop} {X : XT}
    (hev : ev F.g d mi l hp (fun v h1 => match v with
      | .ref r => ∃ vs, iterOf (h1 r) = some vs ∧ (vs.length : Int) < 2 ^ 62 ∧ ∃ I : Nat → List V → HP → Prop, I 0 l h1 ∧
          (∀ k x l h, vs[k]? = some x → I k l h → h r = h1 r ∧ upd x l h fun l1 => exec F.g d m l1 h (fun o l2 h2 => match o with
            | .next => I (k + 1) l2 h2 | .brk => Q .next l2 h2 | .ret v => Q (.ret v) l2 h2) noX) ∧
          (∀ l h, I vs.length l h → h r = h1 r ∧ Q .next l h)
      | _ => False) X) {fr : List (Addr × Obj)} {s : Shared} {P : Flow → Shared → Prop} {E : Value → Shared → Prop} (R : Rep c F.names l hp fr s.heap)
    (hP : ∀ o f l' hp' h' tk', Q o l' hp' → rO o f → Rep c F.names l' hp' fr h' → P f { s with heap := h', toks := tk' }) (hX : XP c F.names l fr X E s) :
    wpAny (model c.g.prog c.g.w) c.A (PySem.exec (.For tgt iter b [] pos) c.env) P E s := by
  refine wpAny_For (hit c d FO hg hsc ok rm l hp _ X hev fr s _ E R (fun v y h1 hh tk hq hy R1 => ?_) hX) (folded_plain hse)
  cases v with
  | ref r =>
    cases absV_ref hy
    refine Gen fun G back => ?_
    rcases hq with ⟨vs, e1, hfit, hq⟩
    refine back ?_
    clear back
    clear G
    rcases iterOf_cases e1 with e1 | ⟨lo, hi', st, erg, hsm, rfl⟩
    case inr =>
      refine Gen fun G back => ?_
      rcases R1.rng erg with ⟨t, u, v, hr⟩
      refine back ?_
      clear back
      clear G
      refine wpAny_pyIter_range hr hsm ?_
      have R0 := R1.push ok { cls := Value.type "range_iterator", data := Data.fields #[rawInt lo, rawInt (Builtin.Range.rangeSize lo hi' st), rawInt st] } rfl
      have hsz := rangeSize_nn lo hi' st
      refine forSG FO hsc ok hcp hg rm hasg hb (K := fun h => h r = h1 r) (fun k o => o = { cls := Value.type "range_iterator", data := Data.fields #[rawInt (lo + k * st), rawInt (Builtin.Range.rangeSize lo hi' st - k), rawInt st] })
        (fun k o val s' P E ho => hgo _ o val s' P E (.inr (.inr (by rw [ho])))) ?_ ?_ R0 (R1.fresh ok).2 hq hP
      · intro k l1 hp1 o1 h2 s' P1 E1 _ hO hs R2 hfr hitem hend hkl
        subst hO
        subst hs
        simp only [rngL, List.length_map, List.length_range] at hkl hend
        have hit := (by obtain ⟨_, _, _, _, _, _, N, _⟩ := id R2; exact (N _ (.head _)).1 : s'.heap.get? _ = some _)
        by_cases hlt : k < (Builtin.Range.rangeSize lo hi' st).toNat
        · refine wpAny_pyNext_range_item hit (by (first | lia | omega)) fun h' hit' hs' => ?_
          refine hitem _ (.int (lo + k * st)) h' _ _ (by simp [rngL, hlt]) rfl ?_ (R2.iter (noC hcp) (fun b ob hne e => (hs'.2 b hne).trans e) hit' hfr)
          congr 4
          · rw [show ((k + 1 : Nat) : Int) * st = (k : Int) * st + st by push_cast; rw [Int.add_mul, Int.one_mul], Int.add_assoc]
          · rw [show Builtin.Range.rangeSize lo hi' st - ((k + 1 : Nat) : Int) = Builtin.Range.rangeSize lo hi' st - k - 1 by push_cast; (first | lia | omega)]
        · refine wpAny_pyNext_range_end (handled_none ok) hit (by (first | lia | omega)) fun h' he => ?_
          exact hend (by (first | lia | omega)) h' _ (R2.drop (noC hcp) (fun b ob hne e => he b ob hne e) hfr)
      · simp
    obtain ⟨items, hitems, hl⟩ := R1.items ok e1
    have hex : ∀ h : HP, h r = h1 r → itemsOf (h r) = some vs := fun h e => by rw [e]; exact e1
    rcases hl with ⟨hl, hnt⟩ | ⟨hl, htp⟩
    · refine wpAny_pyIter_list hl ?_
      refine forSG FO hsc ok hcp hg rm hasg hb (K := fun h => h r = h1 r) (fun k o => o.cls = .type "list_iterator" ∧ o.data = .fields #[.ref r, .int k 0]) (fun k o val s' P E ho => hgo _ o val s' P E (.inl ho.1)) ?_ ⟨rfl, rfl⟩ (R1.push ok _ rfl) (R1.fresh ok).2 hq hP
      intro k l1 hp1 o1 h2 s' P1 E1 hKh hO hs R2 hfr hitem hend hkl
      subst hs
      have hIt : s'.heap.IsListIter _ r k := ⟨o1, (by obtain ⟨_, _, _, _, _, _, N, _⟩ := id R2; exact (N _ (.head _)).1), hO⟩
      obtain ⟨items2, hitems2, hl2⟩ := R2.items ok (hex hp1 hKh)
      have hl3 : s'.heap.IsList r items2 := by
        rcases hl2 with ⟨q, _⟩ | ⟨_, q⟩
        · exact q
        · exact absurd (hKh ▸ q) (hnt _)
      have hsz : items2.size = vs.length := by rw [← hitems2]; simp
      by_cases hlt : k < vs.length
      · refine wpAny_pyNext_list_item hIt hl3 (x := items2[k]) (by simp [hsz, hlt]) fun h' hit' hs' => ?_
        obtain ⟨o', ho', hc'⟩ := hit'
        refine hitem _ (absV items2[k]) h' _ o' ?_ rfl hc' (R2.iter (noC hcp) (fun b ob hne e => (hs'.2 b hne).trans e) ho' hfr)
        have e9 : vs[k]? = (items2.toList.map absV)[k]? := by rw [hitems2]
        rw [e9]; simp [hsz, hlt]
      · refine wpAny_pyNext_list_end (handled_none ok) hIt hl3 (by simp [hsz]; (first | lia | omega)) fun h' he => ?_
        exact hend (by (first | lia | omega)) h' _ (R2.drop (noC hcp) (fun b ob hne e => he b ob hne e) hfr)
    · refine wpAny_pyIter_tuple hl ?_
      refine forSG FO hsc ok hcp hg rm hasg hb (K := fun h => h r = h1 r) (fun k o => o.cls = .type "tuple_iterator" ∧ o.data = .fields #[.ref r, .int k 0]) (fun k o val s' P E ho => hgo _ o val s' P E (.inr (.inl ho.1))) ?_ ⟨rfl, rfl⟩ (R1.push ok _ rfl) (R1.fresh ok).2 hq hP
      intro k l1 hp1 o1 h2 s' P1 E1 hKh hO hs R2 hfr hitem hend hkl
      subst hs
      have hIt : s'.heap.IsTupleIter _ r k := ⟨o1, (by obtain ⟨_, _, _, _, _, _, N, _⟩ := id R2; exact (N _ (.head _)).1), hO⟩
      obtain ⟨items2, hitems2, hl2⟩ := R2.items ok (hex hp1 hKh)
      have hl3 : s'.heap.IsTuple r items2 := by
        rcases hl2 with ⟨_, q⟩ | ⟨q, _⟩
        · exact absurd (hKh.trans htp) (q _)
        · exact q
      have hsz : items2.size = vs.length := by rw [← hitems2]; simp
      by_cases hlt : k < vs.length
      · refine wpAny_pyNext_tuple_item hIt hl3 (x := items2[k]) (by simp [hsz, hlt]) fun h' hit' hs' => ?_
        obtain ⟨o', ho', hc'⟩ := hit'
        refine hitem _ (absV items2[k]) h' _ o' ?_ rfl hc' (R2.iter (noC hcp) (fun b ob hne e => (hs'.2 b hne).trans e) ho' hfr)
        have e9 : vs[k]? = (items2.toList.map absV)[k]? := by rw [hitems2]
        rw [e9]; simp [hsz, hlt]
      · refine wpAny_pyNext_tuple_end (handled_none ok) hIt hl3 (by simp [hsz]; (first | lia | omega)) fun h' he => ?_
        exact hend (by (first | lia | omega)) h' _ (R2.drop (noC hcp) (fun b ob hne e => he b ob hne e) hfr)
  | _ => exact hq.elim
theorem ss_forL {x : Str} {p pos : Pos} {i : Nat} {iter : Expr} {mi : ME} {b : List Stmt} {m : MS} (hse : setE iter = false) (hit : SE F iter mi)
    (hi : F.names[i]? = some x) (hk : F.sc.names.lookup x = some .local) (hb : SB F b m) : SS F (.For (.Name x p) iter b [] pos) (.forL i mi m) := by
  intro c d FO hg hsc ok rm l hp Q X hev hcp fr s P E R hP hX
  exact forLG (upd := fun v l _ k => k (lset l i v)) hse hit hb FO hg hsc ok hcp rm
    (fun v val l hp fr s K P E hval hu R1 hP => wpAny_assign_Name (storeS FO hsc ok hcp hi hk R1 hval fun h3 tk3 R3 => hP _ h3 tk3 hu R3)) (fun _ _ _ _ _ _ _ _ h => wpAny_pure h) hev R hP (hX l)
theorem assignU {c : Cx} (FO : F.Ok) (hsc : SCF c F) (ok : c.Ok) (hcp : c.cp = none) {ts : List Expr} {k p} {xs : List Str} {is : List Nat} (ht : tgt? F ts = some (xs, is))
    (v : V) (val : Value) (l : List V) (hp : HP) (fr : List (Addr × Obj)) (s : Shared) (K : List V → Prop) (P : Unit → Shared → Prop) (E : Value → Shared → Prop) (hx : absV val = v) (hu : unpV v is.length hp fun ys => K (lsetN l is ys)) (R1 : Rep c F.names l hp fr s.heap)
    (hP : ∀ l' h' tk', K l' → Rep c F.names l' hp fr h' → P () { s with heap := h', toks := tk' }) : wpAny (model c.g.prog c.g.w) c.A (assign (.Tuple ts k p) c.env val) P E s := by
  refine Gen fun G back => ?_
  rcases tgt?_assign (c := c) FO hsc ok hcp ht with ⟨⟨a1, a2, a3⟩, hasg⟩
  refine back ?_
  clear back
  clear G
  cases v with
  | ref a =>
    cases absV_ref hx
    refine Gen fun G back => ?_
    rcases hu with ⟨vs, e1, hlv, hq⟩
    refine back ?_
    clear back
    clear G
    obtain ⟨items, hi, hl⟩ := R1.items ok (by rw [e1]; rfl)
    rcases hl with ⟨_, hl⟩ | ⟨hl, _⟩
    · exact absurd e1 (hl _)
    · refine Gen fun G back => ?_
      rcases R1.parts with ⟨g, m', news, T, Fm, lo, H, N, D⟩
      refine back ?_
      clear back
      clear G
      refine unpackN_ Fm N hl (handled_none ok) (by rw [a1, a2, ← hlv, ← hi]; simp) a3 fun h2 F2 N2 => ?_
      exact hasg _ _ _ _ vs items.toList _ _ hi hlv (Rep.of T F2 lo H N2 D) fun h3 tk3 R3 => hP _ h3 tk3 hq R3
  | _ => exact hu.elim
theorem goU {prog : Program} {w : World} {A : Around} {ts : List Expr} {k p} (it : Addr) (o : Obj) (val : Value) (s' : Shared) (P : Unit → Shared → Prop) (E : Value → Shared → Prop) (h : o.cls = .type "list_iterator" ∨ o.cls = .type "tuple_iterator" ∨ o.cls = .type "range_iterator") (ho : s'.heap.get? it = some o) (hP : P () s') :
    wpAny (model prog w) A (letOwnedTupleGo (.Tuple ts k p) (.ref it) val) P E s' := by
  unfold letOwnedTupleGo
  cases val <;> first | exact wpAny_pure hP | skip
  refine wpAny_bind (wpAny_load ho ?_)
  rcases h with e | e | e <;> rw [e] <;> cases o.data <;> first | exact wpAny_pure hP | skip
  all_goals exact wpAny_ite (ite_no (by simp) (wpAny_pure hP))
theorem ss_forU {ts : List Expr} {k p} {xs : List Str} {is : List Nat} {pos : Pos} {iter : Expr} {mi : ME} {b : List Stmt} {m : MS} (hse : setE iter = false) (hit : SE F iter mi)
    (ht : tgt? F ts = some (xs, is)) (hb : SB F b m) : SS F (.For (.Tuple ts k p) iter b [] pos) (.forU is mi m) := by
  intro c d FO hg hsc ok rm l hp Q X hev hcp fr s P E R hP hX
  exact forLG (upd := fun v l h k => unpV v is.length h fun ys => k (lsetN l is ys)) hse hit hb FO hg hsc ok hcp rm (assignU FO hsc ok hcp ht) goU hev R hP (hX l)
end
noncomputable def funOf (K : Frag) (f : Addr) : Option FuncData := match K.lookup f with
  | some ⟨_, _, .func fd, _⟩ => some fd
  | _ => none
theorem funOf_spec {K : Frag} {f : Addr} {fd : FuncData} (h : funOf K f = some fd) : ∃ oc od osl, K.lookup f = some ⟨oc, od, .func fd, osl⟩ := by
  unfold funOf at h
  cases q : K.lookup f with
  | none => rw [q] at h; injection h
  | some o =>
    rw [q] at h
    refine Gen fun G back => ?_
    rcases o with ⟨a, b, d, e⟩
    refine back ?_
    clear back
    clear G
    cases d <;> first | (injection h; done) | (injection h with h; subst h; exact ⟨_, _, _, rfl⟩)
noncomputable def fnAt (K : Frag) (f : Addr) : FuncData := (funOf K f).getD default
noncomputable def stmtsOf : FuncBody → Option (List Stmt)
  | .stmts b => some b
  | _ => none
noncomputable def bodyAt (K : Frag) (f : Addr) : List Stmt := (stmtsOf (fnAt K f).body).getD []
noncomputable def fnOkB (K : Frag) (f : Addr) : Bool := match funOf K f with
  | some fd => fd.closure.isEmpty && fd.globals == mainGlobals && fd.builtins == builtinsNs && codeIn K fd.code fd.qualname && !fd.scope.isCoroutine && !fd.scope.isGenerator &&
      fd.scope.kind == .function && fd.scope.names.all (fun x => !(x.2 == .cell)) && (stmtsOf fd.body).isSome
  | none => false
theorem lookup_rev {binds : List (Str × Value)} {x : Str} {v : Value} (nd : (binds.map (·.1)).Nodup) (h : (x, v) ∈ binds) : binds.reverse.lookup x = some v := by
  have hn : (binds.reverse.map (·.1)).Nodup := by rw [List.map_reverse]; unfold List.Nodup at *; exact List.pairwise_reverse.mpr (nd.imp Ne.symm)
  have hm : (x, v) ∈ binds.reverse := List.mem_reverse.mpr h
  generalize binds.reverse = bs at hn hm
  induction bs with
  | nil => cases hm
  | cons p r ih =>
    obtain ⟨y, w⟩ := p
    simp only [List.map_cons, List.nodup_cons] at hn
    cases hm with
    | head => simp
    | tail _ hm =>
      have : x ≠ y := fun e => hn.1 (e ▸ List.mem_map_of_mem (f := (·.1)) hm)
      rw [List.lookup_cons, beq_eq_false_iff_ne.mpr this]
      exact ih hn.2 hm
theorem absV_cell {v : Value} {a : Addr} (h : absV v = .cell a) : False := by cases v <;> simp [absV] at h
theorem Loc.start {cl : List (Str × Addr)} {names : List Str} {binds : List (Str × Value)} {l : List V} (nd : names.Nodup) (hn : names.take binds.length = binds.map (·.1)) (hl : l = binds.map (fun p => absV p.2) ++ List.replicate (names.length - binds.length) V.unb) :
    Loc cl names l (fun y => binds.reverse.lookup y) := by
  intro i x v hx hv hne
  subst hl
  by_cases hi : i < binds.length
  · rw [List.getElem?_append_left (by simpa using hi)] at hv
    rw [List.getElem?_map] at hv
    have h1 : binds[i]? = some binds[i] := by simp [hi]
    rw [h1] at hv
    simp only [Option.map_some, Option.some.injEq] at hv
    have h2 : (names.take binds.length)[i]? = some x := by rw [List.getElem?_take, if_pos hi]; exact hx
    rw [hn, List.getElem?_map, h1] at h2
    simp only [Option.map_some, Option.some.injEq] at h2
    refine .inr ⟨fun a e => absV_cell (hv.trans e), binds[i].2, ?_, hv⟩
    have nd' : (binds.map (·.1)).Nodup := hn ▸ List.Sublist.nodup (List.take_sublist _ _) nd
    refine lookup_rev nd' ?_
    have : binds[i] ∈ binds := List.getElem_mem hi
    rw [← h2]; exact this
  · rw [List.getElem?_append_right (by simpa using hi)] at hv
    rw [List.getElem?_replicate] at hv
    split at hv
    · cases hv; exact absurd rfl hne
    · cases hv
noncomputable def retQ (Q : V → HP → Prop) (o : Out) (_ : List V) (h : HP) : Prop :=
  match o with
  | .ret v => Q v h
  | .next => Q .none h
  | .brk => False
noncomputable def Binds (g : G) (f : Addr) (args : List V) (kw : List (Str × V)) (bargs : List (Str × V)) : Prop :=
  ∀ (s : Shared) vals kvals, g.K.In s.heap → vals.map absV = args → (kvals.map fun p => (p.1, absV p.2)) = kw →
    ∃ binds : List (Str × Value), BindsTo s (fnAt g.K f) ⟨vals, kvals⟩ binds ∧ (binds.map fun p => (p.1, absV p.2)) = bargs
theorem calls_of {F : Fx} (FO : F.Ok) {f : Addr} (hok : fnOkB F.g.K f = true) (hsc : (fnAt F.g.K f).scope = F.sc) {ms : MS} (hb : SB F (bodyAt F.g.K f) ms) {args : List V} {kw bargs : List (Str × V)}
    (hbind : Binds F.g f args kw bargs) (hnm : F.names.take bargs.length = bargs.map (·.1)) (hloc : (bargs.all fun p => F.sc.names.lookup p.1 == some .local) = true)
    {d : Nat} {hp : HP} {Q : V → HP → Prop} {X : XC}
    (h : exec F.g d ms (bargs.map (·.2) ++ List.replicate (F.names.length - bargs.length) V.unb) hp (retQ Q) (upX X)) : Calls F.g (d + 1) f args kw hp Q X := by
  intro c hg ok rm names l vals kvals hv hkv fr s P E R hP hX
  unfold fnOkB at hok
  cases hfo : funOf F.g.K f with
  | some fd =>
    rw [hfo] at hok
    refine Gen fun G back => ?_
    rcases funOf_spec hfo with ⟨oc, od, osl, hK⟩
    refine back ?_
    clear back
    clear G
    simp only [Bool.and_eq_true, Bool.not_eq_true', List.isEmpty_iff, beq_iff_eq] at hok
    refine Gen fun G back => ?_
    rcases hok with ⟨⟨⟨⟨⟨⟨⟨⟨k1, k2⟩, k3⟩, k4⟩, k5⟩, k6⟩, k7⟩, k8⟩, k9⟩
    refine back ?_
    clear back
    clear G
    have hfd : fnAt F.g.K f = fd := by unfold fnAt; rw [hfo]; first | done | rfl
    cases hbd : fd.body with
    | expr _ => rw [hbd] at k9; cases k9
    | stmts body =>
      have hbody : bodyAt F.g.K f = body := by unfold bodyAt; rw [hfd, hbd]; first | done | rfl
      rw [hbody] at hb
      rw [hfd] at hsc
      obtain ⟨binds, hB, hbs⟩ := hbind s vals kvals (by rw [← hg]; exact R.inK ok) hv hkv
      rw [hfd] at hB
      have hfn : fd = fnOf fd.name fd.qualname fd.params body fd.scope fd.defaults fd.kwdefaults fd.doc fd.pyModule fd.annotations fd.code fd.closureTuple := by
        cases fd
        simp only at k1 k2 k3 hbd
        subst k1 k2 k3 hbd
        rfl
      refine Gen fun G back => ?_
      rcases R.parts with ⟨g, m, news, T, Fm, lo, H, N, D⟩
      refine back ?_
      clear back
      clear G
      have hlen : binds.length = bargs.length := by rw [← hbs]; simp
      have hb1 : bargs.map (·.1) = binds.map (·.1) := by rw [← hbs]; simp
      have hb2 : bargs.map (·.2) = binds.map (fun p => absV p.2) := by rw [← hbs]; simp
      have okg := ok.turn T
      refine code_defT (K := c.g.K) okg.below Fm (ok.inK.keeps okg.below.stays) N ((ok.top.keeps okg.below.stays).nolimit) (Around.frames_deeper ok.below.stack) rfl ok.fkind (by rw [hg, hK, ← hfn]) (by rw [hg]; exact k4) (by have := rm.1; (first | lia | omega)) (by rw [← hfn]; exact hB) ?_ ?_ k5 k6 k7 ?_
      · intro y hy
        have : (y.1, absV y.2) ∈ bargs := by rw [← hbs]; exact List.mem_map_of_mem (f := fun p => (p.1, absV p.2)) hy
        have := List.all_eq_true.mp hloc _ this
        rw [hsc]; simpa using this
      · intro g' L' h₁ FG F' N' B'
        let c' : Cx := { g := c.g, A₀ := c.A, base := c.base, h₀ := g', outer := c.fenv :: c.outer, L := L', qn := fd.qualname, fsc := fd.scope, fa := f, cd := fd.code, cl := [], cp := none }
        have ok' : c'.Ok := ⟨B', ok.inK, ok.top, okg.dictsPush FG, k7, k7, k6, k5, handled_none ok, ok.seer, ok.tree⟩
        have rm' : room c' d := ⟨by have := rm.1; show c.A.depth + 1 + d + 200 < _; (first | lia | omega), by have := rm.2; show c.A.units + 3 + 8 * d + 200 < _; (first | lia | omega)⟩
        have R' : Rep c' F.names (bargs.map (·.2) ++ List.replicate (F.names.length - bargs.length) V.unb) hp fr h₁ := by
          refine Rep.of (c := c') (news := news) KtsTurn.refl F' (Loc.start FO.nd (by rw [hlen, hnm, hb1]) (by rw [hb2, hlen])) H N' D
        refine hb c' d FO hg ⟨hsc, fun _ => rfl, fun _ _ => rfl⟩ ok' rm' _ hp _ (upX X) h rfl fr _ _ _ R' (fun o f' l' hp' h' tk' hq hf R2 => ?_) (fun l' => ?_)
        · refine Gen fun G back => ?_
          rcases R2.parts with ⟨g2, m2, news2, T2, F2, lo2, H2, N2, D2⟩
          refine back ?_
          clear back
          clear G
          refine ⟨g2, L', m2, news2 ++ fr, T2, F2, N2, fun h3 T3 F3 N3 => ?_⟩
          cases o with
          | next =>
            cases f' <;> first | exact hf.elim | skip
            exact hP .none .none hp' h' tk' hq rfl (Rep.of (T.trans T3) F3 lo H2 N3 D2)
          | brk => exact hq.elim
          | ret v =>
            cases f' <;> first | exact hf.elim | skip
            exact hP v _ hp' h' tk' hq hf (Rep.of (T.trans T3) F3 lo H2 N3 D2)
        · intro cls e hp' h' tk' hx hr
          refine Gen fun G back => ?_
          rcases hr with ⟨hD, g2, m2, hh, T2, F2, lo2, hr⟩
          refine back ?_
          clear back
          clear G
          have ok2 := ok'.turn T2
          refine Gen fun G back => ?_
          rcases turnBack (H := g2) okg.below FG T2 (fun _ _ e => e) with ⟨h3, T3, F3, _⟩
          refine back ?_
          clear back
          clear G
          rcases hr with ⟨c0, t, vs, news2, rfl, hup, hrk, hH⟩ | ⟨c0, vs, news2, rfl, hmade, hH, hN⟩
          · refine leave_onS (A := c.A) (g := g2) (g₂ := hh) ok2.below F2 hrk hup fun h4 hrk4 _ hup4 => ?_
            exact hX (.up c0) e hp' h4 tk' hx ⟨hD, h3, m, g2, T.trans T3, F3, lo, .inl ⟨c0, t, vs, news2, rfl, hup4, hrk4, hH⟩⟩
          · refine leave_raiseS (A := c.A) (g := g2) ok2.below hmade F2 hN (fun h4 t hrk4 _ hup4 => ?_) k7
            exact hX (.up c0) e hp' h4 tk' hx ⟨hD, h3, m, g2, T.trans T3, F3, lo, .inl ⟨c0, t, vs, news2, rfl, hup4, hrk4, hH⟩⟩
      · intro x hx e
        have := List.all_eq_true.mp k8 x hx
        rw [e] at this
        simp at this
  | none => rw [hfo] at hok; injection hok
section
variable {F : Fx}
noncomputable def supE : Expr → Bool
  | .Call .. => true
  | _ => false
theorem base_plain {o : Expr} (h : supE o = false) (n : Str) (env : Env) : attributeBase o n env (eval o env) = eval o env := by
  cases o <;> first | rfl | (exact absurd h (by simp [supE]))
theorem typeIs_list {c : Cx} {names l hp fr} {s : Shared} {a : Addr} {vs : List V} (R : Rep c names l hp fr s.heap) (e : hp a = some (.list vs)) :
    s.TypeIs (.ref a) "list" ∧ ∀ a', Value.ref a = .ref a' → ∃ ob, s.heap.get? a' = some ob ∧ ob.dict = none := by
  refine Gen fun G back => ?_
  rcases R with ⟨g, T, m, Fm, lo, H, N, D⟩
  refine back ?_
  clear back
  clear G
  refine Gen fun G back => ?_
  rcases H.2 a _ e with ⟨ob, h1, ⟨items, n, hz19, _⟩, _⟩
  refine back ?_
  clear back
  clear G
  subst hz19
  exact ⟨⟨_, h1, rfl⟩, fun a' q => by cases q; exact ⟨_, h1, rfl⟩⟩
theorem margs1 {pos : Pos} {env : Env} {e : Expr} (h : notStar e = true) : ((((backTo pos (starEach [e] env)).all fun x => !x.fst) && (backToKw pos (keywordEach [] env)).all fun x => x.fst.isSome) && decide ((([e] : List Expr).length + ([] : List Keyword).length + if ([] : List Keyword).isEmpty = true then 0 else 1) < 30)) = true := by
  rw [starEach_cons h]; rfl
theorem se_app {o e : Expr} {apos pos : Pos} {nm : Str} {mo me : ME} (hnm : nm = "append") (hso : supE o = false) (hap : (apos.endLine == pos.line) = true) (hn : notStar e = true) (ho : SE F o mo) (he : SE F e me) :
    SE F (.Call (.Attribute o nm apos) [e] [] pos) (.app mo me) := by
  intro c d FO hg hsc ok rm l hp Q X hev fr s P E R hP hX
  subst hnm
  refine wpAny_Call_method (base_plain hso _ _) (margs1 hn) hap PySem.F.plainAttrs_list PySem.F.slot_list_append PySem.F.type_list_append (ho c d FO hg hsc ok rm l hp _ X hev fr s _ E R (fun v x h1 hh tk hq hx R1 => ?_) hX)
  cases v with
  | ref a =>
    cases absV_ref hx
    obtain ⟨⟨vs0, e0⟩, hq⟩ := hq
    obtain ⟨t1, t2⟩ := typeIs_list (s := { s with heap := hh, toks := tk }) R1 e0
    refine ⟨t1, t2, callWith_method1 ?_ (starEach_cons hn) rfl⟩
    refine spliced_more (he c d FO hg hsc ok rm l h1 _ X hq fr _ _ E R1 (fun w y h2 hh2 tk2 hq2 hy R2 => ?_) hX) (starEach_cons hn)
    refine spliced_none ?_
    refine Gen fun G back => ?_
    rcases hq2 with ⟨vs, e1, hsz, hq3⟩
    refine back ?_
    clear back
    clear G
    refine Gen fun G back => ?_
    rcases R2.at e1 with ⟨g, m, news, items, n, T, Fm, lo, hit, H, N, hne, D⟩
    refine back ?_
    clear back
    clear G
    refine append_K (D := a) (its := items) (n := n) Fm N (Upd.head hne) (fun h' F' N' => ?_) (by rw [← hit] at hsz; simpa using hsz)
    cases hy
    refine hP .none .none _ h' tk2 hq3 rfl ?_
    have := Rep.back T F' lo H N' D e1
    simpa [← hit] using this
  | _ => exact hq.elim
theorem se_pop0 {o : Expr} {apos pos cp : Pos} {k : Nat} {nm : Str} {mo : ME} (hnm : nm = "pop") (hso : supE o = false) (hap : (apos.endLine == pos.line) = true) (ho : SE F o mo) :
    SE F (.Call (.Attribute o nm apos) [.Constant (.int 0) k cp] [] pos) (.pop0 mo) := by
  intro c d FO hg hsc ok rm l hp Q X hev fr s P E R hP hX
  subst hnm
  refine wpAny_Call_method (base_plain hso _ _) (margs1 rfl) hap PySem.F.plainAttrs_list PySem.F.slot_list_pop PySem.F.type_list_pop (ho c d FO hg hsc ok rm l hp _ X hev fr s _ E R (fun v x h1 hh tk hq hx R1 => ?_) hX)
  cases v with
  | ref a =>
    cases absV_ref hx
    refine Gen fun G back => ?_
    rcases hq with ⟨u, vs, e1, hsz, hq3⟩
    refine back ?_
    clear back
    clear G
    obtain ⟨t1, t2⟩ := typeIs_list (s := { s with heap := hh, toks := tk }) R1 e1
    refine ⟨t1, t2, callWith_method1 ?_ rfl rfl⟩
    refine spliced_more (wpAny_Constant_int (spliced_none ?_)) rfl
    refine Gen fun G back => ?_
    rcases R1.at e1 with ⟨g, m, news, items, n, T, Fm, lo, hit, H, N, hne, D⟩
    refine back ?_
    clear back
    clear G
    obtain ⟨y, ys, hys⟩ : ∃ y ys, items.toList = y :: ys := by
      cases q : items.toList with
      | nil => rw [q] at hit; cases hit
      | cons y ys => exact ⟨y, ys, rfl⟩
    rw [hys] at hit
    simp only [List.map_cons, List.cons.injEq] at hit
    have hlen : items.size = ys.length + 1 := by have := congrArg List.length hys; simpa using this
    have hl2 : vs.length = ys.length := by rw [← hit.2]; simp
    refine kl_popAt (D := a) (its := items) (n := n) (k := 0) (p := []) (q := ys) (y := y) Fm N (by decide +kernel) (by unfold seqIndex?; simp [hlen]) (by rw [hys]; rfl) (Upd.head hne) (by rw [hys]; simp; (first | lia | omega)) (fun h' F' N' => ?_)
    refine hP u y _ h' _ hq3 hit.1 ?_
    have := Rep.back T F' lo H N' D e1
    simpa [← hit.2] using this
  | _ => exact hq.elim
theorem sub_slice {lo hi : Option Expr} {p : Pos} (o i : Value) : subscripted (.Slice lo hi none p) false o i = operate [i, o] (getItem o i) := rfl
theorem Rep.noC {c : Cx} {names : List Str} {l : List V} {hp : HP} {fr : List (Addr × Obj)} {h : Heap} {it : Addr} (R : Rep c names l hp fr h) (hf : ∀ p ∈ fr, p.1 ≠ it) : ∀ k, c.cp = some k → k.C ≠ it := by
  intro k e
  refine Gen fun G back => ?_
  rcases R with ⟨g, T, m, Fm, lo, _⟩
  refine back ?_
  clear back
  clear G
  unfold LocX at lo
  rw [show (c.at g).cp = some k from e] at lo
  refine Gen fun G back => ?_
  rcases lo with ⟨_, oC, m₂, hm, _⟩
  refine back ?_
  clear back
  clear G
  exact hf _ hm
theorem sliceS {c : Cx} {names : List Str} {l : List V} {hp : HP} {Q : V → HP → Prop} {fr : List (Addr × Obj)} {s : Shared} {P E : Value → Shared → Prop} {a : Addr} {vs ws : List V} {value : Expr} {lo hi : Option Expr} {p : Pos} {vl vu : Value} {x y : Option Int}
    (ok : c.Ok) (R : Rep c names l hp fr s.heap) (e : listAt (hp a) = some vs) (hsz : vs.length ≤ sizeLine) (pl : IsPart vl x) (pu : IsPart vu y)
    (hpick : ∀ items : Array Value, items.toList.map absV = vs → (slicePick items x y none).toList.map absV = ws) (hq : newV hp (.list ws) Q)
    (hP : ∀ b val hp' h' tk', Q b hp' → rV b val → Rep c names l hp' fr h' → P val { s with heap := h', toks := tk' }) :
    wpAny (model c.g.prog c.g.w) c.A (subscriptTail value (.Slice lo hi none p) (.ref a) (.ref s.heap.objs.size)) P E
      { s with heap := s.heap.push { cls := .type "slice", data := .fields #[vl, vu, .none] } } := by
  obtain ⟨items, hit, hl⟩ := R.listI ok e
  have R1 := R.push ok { cls := .type "slice", data := .fields #[vl, vu, .none] } rfl
  obtain ⟨f1, f2⟩ := R1.fresh ok
  refine tail_any (Heap.IsList.typeIs (s := { s with heap := s.heap.push _ }) (hl.push _)) list_getitem_lookup ?_ (sub_slice _ _)
  refine wpAny_getItem_list_slice (hl.push _) (Heap.IsSliceOf.new ..) pl pu .none (by simp) ?_ (by rw [← hit] at hsz; simpa using hsz)
  refine hP _ _ _ _ s.toks (hq _ f1) rfl ?_
  refine Gen fun G back => ?_
  rcases R1.parts with ⟨g, m, news, T, Fm, lo', H, N, D⟩
  refine back ?_
  clear back
  clear G
  have N2 := N.push Fm { cls := .type "list", data := .seq (slicePick items x y none) }
  have R2 := Rep.more (ob := { cls := .type "list", data := .seq (slicePick items x y none) }) (o := .list ws) T (Fm.push _) lo' H N2 D f1 f2 ⟨_, _, rfl, hpick items hit⟩
  exact R2.drop (R.noC fun q hq => (R.fresh ok).2 q hq) (fun _ _ _ e => e) (fun q hq => (R.fresh ok).2 q hq)
theorem se_slcF {a i : Expr} {p pos : Pos} {ma mi : ME} (ha : SE F a ma) (hi : SE F i mi) : SE F (.Subscript a (.Slice (some i) none none p) pos) (.slcF ma mi) := by
  intro c d FO hg hsc ok rm l hp Q X hev fr s P E R hP hX
  refine Subscript_ (ha c d FO hg hsc ok rm l hp _ X hev fr s _ E R (fun v x h1 hh tk hq hx R1 => ?_) hX)
  refine wpAny_Slice ?_
  show wpAny _ _ (eval i c.env) _ _ _
  refine hi c d FO hg hsc ok rm l h1 _ X hq fr _ _ E R1 (fun w y h2 hh2 tk2 hq2 hy R2 => ?_) hX
  refine wpAny_pure (a := Value.none) ?_
  refine wpAny_pure (a := Value.none) ?_
  obtain ⟨r, k, rfl, rfl⟩ : ∃ r k, v = .ref r ∧ w = .int k := by cases v <;> first | exact hq2.elim | (cases w <;> first | exact hq2.elim | exact ⟨_, _, rfl, rfl⟩)
  · cases absV_ref hx
    obtain ⟨t, rfl⟩ := absV_int hy
    refine Gen fun G back => ?_
    rcases hq2 with ⟨vs, e, hsz, h0, hn⟩
    refine back ?_
    clear back
    clear G
    refine sliceS (s := { s with heap := hh2, toks := tk2 }) ok R2 e hsz (.int k t) .none (fun items hit => ?_) hn hP
    have : (some k : Option Int) = some ((k.toNat : Nat) : Int) := by rw [Int.toNat_of_nonneg h0]
    rw [this, slicePick_from' items k.toNat, ← hit]
    simp
theorem fresh_of {c : Cx} (ok : c.Ok) {hp : HP} {news fr : List (Addr × Obj)} {h' : Heap} {D : Addr} {o : Obj} {g : Heap} (T : KtsTurn c.fs c.h₀ g) (H : HpN c hp news) (N : News g c.L h' ((D, o) :: (news ++ fr))) (hlt : ∀ q ∈ news ++ fr, q.1 < D) :
    hp D = none ∧ ∀ p ∈ fr, p.1 ≠ D := by
  refine ⟨?_, fun p hp' => Nat.ne_of_lt (hlt p (List.mem_append_right _ hp'))⟩
  cases q : hp D with
  | none => rfl
  | some o' =>
    have := H.2 _ _ q
    cases o' with
    | ro ws =>
      refine Gen fun G back => ?_
      rcases this with ⟨it, ⟨ob, hb, _⟩, _⟩
      refine back ?_
      clear back
      clear G
      have h0 := (N _ (.head _)).2.2
      rw [(ok.turn T).below.stays _ _ hb] at h0; cases h0
    | list ws => obtain ⟨ob, hb, _⟩ := this; exact absurd (hlt _ (List.mem_append_left _ hb)) (Nat.lt_irrefl _)
    | tup ws => obtain ⟨ob, hb, _⟩ := this; exact absurd (hlt _ (List.mem_append_left _ hb)) (Nat.lt_irrefl _)
    | cell ws => obtain ⟨ob, hb, _⟩ := this; exact absurd (hlt _ (List.mem_append_left _ hb)) (Nat.lt_irrefl _)
    | rng _ _ _ => obtain ⟨ob, hb, _⟩ := this; exact absurd (hlt _ (List.mem_append_left _ hb)) (Nat.lt_irrefl _)
    | dict _ => obtain ⟨ob, hb, _⟩ := this; exact absurd (hlt _ (List.mem_append_left _ hb)) (Nat.lt_irrefl _)
theorem se_listOf {x : Str} {p pos : Pos} {a : Expr} {ma : ME} (hxe : x = "list") (hx : x ∈ F.bt) (hk : F.sc.names.lookup x = some .globalImplicit) (hn : notStar a = true) (ha : SE F a ma) : SE F (.Call (.Name x p) [a] [] pos) (.listOf ma) := by
  intro c d FO hg hsc ok rm l hp Q X hev fr s P E R hP hX
  subst hxe
  refine Call_ (nameB FO hg hsc ok hx (v := .type "list") boot_list hk (by decide) (by decide) R ?_) rfl
  refine PyProof.Rows.callWith_type1 ?_ (starEach_cons hn) rfl
  refine spliced_more (ha c d FO hg hsc ok rm l hp _ X hev fr s _ E R (fun v y h1 hh tk hq hy R1 => ?_) hX) (starEach_cons hn)
  refine spliced_none ?_
  cases v with
  | ref a =>
    cases absV_ref hy
    refine Gen fun G back => ?_
    rcases hq with ⟨vs, e1, hsz, hq⟩
    refine back ?_
    clear back
    clear G
    rcases iterOf_cases e1 with e1 | ⟨lo, hi', st, erg, hsm, rfl⟩
    case inr =>
      refine Gen fun G back => ?_
      rcases R1.rng erg with ⟨t, u, v, hr⟩
      refine back ?_
      clear back
      clear G
      obtain ⟨f1, f2⟩ := R1.fresh ok
      refine Gen fun G back => ?_
      rcases R1.parts with ⟨g, m, news, T, Fm, lo0, H, N, D⟩
      refine back ?_
      clear back
      clear G
      have hsz0 := rangeSize_nn lo hi' st
      refine list_rangeD (n := (Builtin.Range.rangeSize lo hi' st).toNat) (handled_none ok) Fm N hr hsm (Int.toNat_of_nonneg hsz0).symm (by simp only [rngL, List.length_map, List.length_range] at hsz; exact hsz) fun h' tk' ys F' N' hk hfr hl hpl hc => ?_
      obtain ⟨⟨c0, hob⟩, hne⟩ := hpl
      have hys : ys.map absV = rngL lo hi' st := by
        have key : ∀ {ys : List Value} {ns : List Int}, CarriedAll ys (ns.map .int) → ys.map absV = ns.map V.int := by
          intro ys
          induction ys with
          | nil => intro ns h; cases ns with
            | nil => rfl
            | cons _ _ => cases h
          | cons y ys ih => intro ns h; cases ns with
            | nil => cases h
            | cons n ns =>
              simp only [List.map_cons] at h ⊢
              cases h with
              | cons h1 h2 => cases h1; rw [ih h2]; rfl
        rw [key hc]; simp [rngL, rangeInts]
      refine hP _ _ _ h' tk' (hq _ f1) rfl (Rep.more (ob := listOf ys.toArray c0) T F' lo0 H (fun p hp' => ?_) D f1 f2 ⟨_, _, rfl, by simpa using hys⟩)
      rcases List.mem_cons.mp hp' with rfl | hp'
      · refine ⟨hob, fun e => ?_, hfr⟩
        refine Gen fun G back => ?_
        rcases Fm.ns with ⟨oL, _, _, hL, _⟩
        refine back ?_
        clear back
        clear G
        exact absurd (Heap.lt_size hL) (by rw [← e]; exact Nat.lt_irrefl _)
      · exact N' p hp'
    obtain ⟨items, hi, hl⟩ := R1.items ok e1
    have hsz' : items.size ≤ sizeLine := by rw [← hi] at hsz; simpa using hsz
    refine Gen fun G back => ?_
    rcases R1.parts with ⟨g, m, news, T, Fm, lo, H, N, D⟩
    refine back ?_
    clear back
    clear G
    have fin : ∀ D' c' h', Fr g c.L h' m → News g c.L h' ((D', W.listOf items c') :: (news ++ fr)) → (∀ q ∈ news ++ fr, q.1 < D') → P (.ref D') { s with heap := h', toks := tk } := by
      intro D' c' h' F' N' hlt
      obtain ⟨f1, f2⟩ := fresh_of ok T H N' hlt
      exact hP _ _ _ h' tk (hq _ f1) rfl (Rep.more T F' lo H N' D f1 f2 ⟨items, c', rfl, hi⟩)
    rcases hl with ⟨hl, _⟩ | ⟨hl, _⟩
    · exact list_copyK Fm N hl fin hsz'
    · exact list_copyKT Fm N hl fin hsz'
  | _ => exact hq.elim
theorem se_dvm {x : Str} {p pos : Pos} {a b : Expr} {ma mb : ME} (hxe : x = "divmod") (hx : x ∈ F.bt) (hk : F.sc.names.lookup x = some .globalImplicit) (hn : notStar a = true) (hn2 : notStar b = true) (ha : SE F a ma) (hb : SE F b mb) : SE F (.Call (.Name x p) [a, b] [] pos) (.dvm ma mb) := by
  intro c d FO hg hsc ok rm l hp Q X hev fr s P E R hP hX
  subst hxe
  refine Call_ (nameB FO hg hsc ok hx (v := .builtin "divmod") boot_divmod hk (by decide) (by decide) R ?_) rfl
  refine PyProof.Rows.callWith_builtin1 ?_ (starEach_cons hn) (by rw [starEach_cons hn2]; rfl)
  refine spliced_more (ha c d FO hg hsc ok rm l hp _ X hev fr s _ E R (fun v y h1 hh tk hq hy R1 => ?_) hX) (starEach_cons hn)
  refine spliced_more (hb c d FO hg hsc ok rm l h1 _ X hq fr _ _ E R1 (fun w z h2 hh2 tk2 hq2 hz R2 => ?_) hX) (starEach_cons hn2)
  refine spliced_none ?_
  obtain ⟨i, j, rfl, rfl⟩ : ∃ i j, v = .int i ∧ w = .int j := by cases v <;> first | exact hq2.elim | (cases w <;> first | exact hq2.elim | exact ⟨_, _, rfl, rfl⟩)
  · obtain ⟨t, rfl⟩ := absV_int hy
    obtain ⟨u, rfl⟩ := absV_int hz
    refine Gen fun G back => ?_
    rcases R2.parts with ⟨g, m, news, T, Fm, lo, H, N, D⟩
    refine back ?_
    clear back
    clear G
    obtain ⟨f1, f2⟩ := R2.fresh ok
    refine divmod_N Fm N hq2.1 (fun h' F' N' => hP _ _ _ h' _ (hq2.2 _ f1) rfl ?_) (.inr (pylong ok rm R2))
    exact Rep.more T F' lo H N' D f1 f2 ⟨_, _, rfl, rfl⟩
theorem ss_stop {st : Stmt} : SS F st .stop := fun _ _ _ _ _ _ _ _ _ _ _ h => h.elim
theorem ss_expr {e : Expr} {pos : Pos} {m : ME} (hc : compE e = false) (he : SE F e m) : SS F (.Expr e pos) (.expr m) := by
  intro c d FO hg hsc ok rm l hp Q X hev hcp fr s P E R hP hX
  have hi : interactive c.env = false := by
    unfold interactive
    rw [show c.env.scope.kind = .function by rw [c.env_scope]; exact ok.kind]; rfl
  exact wpAny_Expr_any (he c d FO hg hsc ok rm l hp _ X hev fr s _ E R (fun v y h1 hh tk hq hy R1 => hP .next .next l h1 hh tk hq trivial R1) (hX l)) hi (swaps_plain hc _ _ _)
end
/-! comprehensions -/
noncomputable def cellA : V → Addr
  | .cell a => a
  | _ => 0
theorem cellsB_get {l : List V} : ∀ {is : List Nat}, cellsB l is = true → ∀ i ∈ is, lget l i = .cell (cellA (lget l i))
  | [], _, i, h => by cases h
  | j :: r, hc, i, h => by
    simp only [cellsB, Bool.and_eq_true] at hc
    rcases List.mem_cons.mp h with rfl | h
    · have h1 := hc.1
      revert h1
      cases lget l i <;> intro h1 <;> first | rfl | cases h1
    · exact cellsB_get hc.2 i h
theorem closure_list {env : Env} (look : Str → Addr) : ∀ (ns : List (Str × NameKind)) (cs : List (Str × Addr)), (∀ y ∈ ns, y.2 = .free → env.cells.lookup y.1 = some (look y.1)) →
    (ForIn.forIn ns cs (fun x r => if (x.2 == NameKind.free) = true then (do let a ← cellOf env x.1; pure (ForInStep.yield ((x.1, a) :: r))) else pure (ForInStep.yield r)) : Sem (List (Str × Addr))) =
      pure (((ns.filter (·.2 == .free)).map fun y => (y.1, look y.1)).reverse ++ cs)
  | [], cs, _ => rfl
  | (n, k) :: r, cs, h => by
    rw [List.forIn_cons]
    cases hk : (k == NameKind.free) with
    | false =>
      have ih := closure_list look r cs fun y hy => h y (.tail _ hy)
      simp only [hk, Bool.false_eq_true, if_false, pure_bind, List.filter_cons]
      exact ih
    | true =>
      have e := h (n, k) (.head _) (beq_iff_eq.mp hk)
      have ih := closure_list look r ((n, look n) :: cs) fun y hy => h y (.tail _ hy)
      have ec : cellOf env n = pure (look n) := by unfold cellOf; rw [e]
      simp only [hk, if_true, ec, pure_bind, List.filter_cons, List.map_cons, List.reverse_cons, List.append_assoc, List.singleton_append]
      exact ih
theorem closureFor_list {scope : Scope} {env : Env} (look : Str → Addr) (h : ∀ y ∈ scope.names, y.2 = .free → env.cells.lookup y.1 = some (look y.1)) :
    closureFor scope env = pure ((scope.names.filter (·.2 == .free)).map fun y => (y.1, look y.1)).reverse := by
  have := closure_list look scope.names [] h
  rw [List.append_nil] at this
  unfold closureFor
  rw [← this, bind_pure]
structure CompOk (F : Fx) (scope : Scope) (x : Str) (xs : List Str) (is : List Nat) : Prop where
  kind : scope.kind = .function
  cell : ∀ y ∈ scope.names, y.2 ≠ .cell
  names : ∀ y ∈ scope.names, y.2 = .local → scope.names.lookup y.1 = some .local
  tgt : scope.names.lookup x = some .local
  free : (scope.names.filter (·.2 == .free)).map (·.1) = xs
  len : xs.length = is.length
  idx : ∀ p ∈ xs.zip is, F.names[p.2]? = some p.1
  nd : (x :: xs).Nodup
noncomputable def relabelS (scope sc : Scope) : Scope := relabel scope (envX (Str.ofString "") sc 0 0 .none [])
noncomputable abbrev Fx.inner (F : Fx) (scope : Scope) (names : List Str) : Fx := ⟨F.g, F.gt, F.bt, names, relabelS scope F.sc, false, false⟩
theorem Fx.Ok.inner {F : Fx} (FO : F.Ok) {scope : Scope} {names : List Str} (nd : names.Nodup) : (F.inner scope names).Ok := ⟨FO.gt, FO.bt, nd, fun e => (nomatch e)⟩
noncomputable abbrev Cx.within (c : Cx) (C : Addr) (scope : Scope) (kcl : List (Str × Addr)) (names : List Str) (l : List V) : Cx := { c with cp := some ⟨C, scope, kcl, names, l⟩ }
theorem Rep.inner {c : Cx} (hcp : c.cp = none) {names names' : List Str} {l l' : List V} {hp : HP} {fr : List (Addr × Obj)} {h : Heap} {C : Addr} {scope : Scope} {kcl : List (Str × Addr)} {oC : Obj} {m₂ : Str → Option Value}
    (R : Rep c names l hp fr h) (hm : (C, oC) ∈ fr) (ho : NsObj oC m₂) (lo' : Loc kcl names' l' m₂) : Rep (c.within C scope kcl names l) names' l' hp fr h := by
  refine Gen fun G back => ?_
  rcases R with ⟨g, T, m, Fm, lo, H, N, D⟩
  refine back ?_
  clear back
  clear G
  exact ⟨g, T, m, Fm, ⟨(LocX.plain (c := c.at g) hcp).mp lo, oC, m₂, hm, ho, lo'⟩, H, N, D⟩
theorem Rep.outer {c : Cx} (hcp : c.cp = none) {names names' : List Str} {l l' : List V} {hp : HP} {fr : List (Addr × Obj)} {h : Heap} {C : Addr} {scope : Scope} {kcl : List (Str × Addr)}
    (R : Rep (c.within C scope kcl names l) names' l' hp fr h) : Rep c names l hp fr h := by
  refine Gen fun G back => ?_
  rcases R with ⟨g, T, m, Fm, lo, H, N, D⟩
  refine back ?_
  clear back
  clear G
  exact ⟨g, T, m, Fm, (LocX.plain (c := c.at g) hcp).mpr lo.1, H, N, D⟩
theorem Rep.perm {c : Cx} (hcp : c.cp = none) {names : List Str} {l : List V} {hp : HP} {fr fr' : List (Addr × Obj)} {h : Heap} (R : Rep c names l hp fr h) (hs : ∀ p ∈ fr', p ∈ fr) : Rep c names l hp fr' h := by
  refine Gen fun G back => ?_
  rcases R with ⟨g, T, m, Fm, lo, H, N, D⟩
  refine back ?_
  clear back
  clear G
  exact ⟨g, T, m, Fm, lo.any hcp, H, fun p hp' => N p (hs p hp'), fun p hp' => D p (hs p hp')⟩
theorem Rep.prm {c : Cx} (hcp : c.cp = none) {names : List Str} {l : List V} {hp : HP} {fr fr' : List (Addr × Obj)} {h : Heap} (R : Rep c names l hp fr h) (hs : fr'.Perm fr) : Rep c names l hp fr' h := R.perm hcp fun _ h => hs.mem_iff.mp h
theorem pmR {α} (a b c : α) (l : List α) : (a :: b :: c :: l).Perm (b :: c :: a :: l) := (List.Perm.swap b a _).trans ((List.Perm.swap c a _).cons b)
theorem pmV {α} (a b c : α) (l : List α) : (a :: b :: c :: l).Perm (c :: b :: a :: l) := (pmR a b c l).trans (List.Perm.swap c b _)
theorem off2 {P : Addr → Prop} {a b : Addr × Obj} {fr : List (Addr × Obj)} (h1 : P a.1) (h2 : P b.1) (h : ∀ p ∈ fr, P p.1) : ∀ p ∈ a :: b :: fr, P p.1 :=
  List.forall_mem_cons.mpr ⟨h1, List.forall_mem_cons.mpr ⟨h2, h⟩⟩
theorem Rep.adopt {c : Cx} (hcp : c.cp = none) {names : List Str} {l : List V} {hp : HP} {fr : List (Addr × Obj)} {h : Heap} {r : Addr} {ob : Obj} {o : O} (R : Rep c names l hp ((r, ob) :: fr) h) (hf : ∀ p ∈ fr, p.1 ≠ r) (ho : RepO o ob) : Rep c names l (hset hp r o) fr h := by
  refine Gen fun G back => ?_
  rcases R.parts with ⟨g, m, news, T, Fm, lo, H, N, D⟩
  refine back ?_
  clear back
  clear G
  refine Rep.more (news := news) T Fm (lo.any hcp) H (fun p hp' => N p ?_) (fun p hp' => D p (.tail _ hp')) (D _ (.head _)) hf ho
  rcases List.mem_cons.mp hp' with rfl | q
  · exact List.mem_append_right _ (.head _)
  · rcases List.mem_append.mp q with q | q
    · exact List.mem_append_left _ q
    · exact List.mem_append_right _ (.tail _ q)
noncomputable def STs (F : Fx) (es : List Expr) (m : ME) : Prop := ∀ c d, F.Ok → c.g = F.g → SCF c F → c.Ok → room c d → ∀ l hp Q X, evT F.g d m l hp Q X →
  W rB c F.names l (ForIn.forIn es true fun e r => if r = true then (do let ok ← isTrue e c.env (eval e c.env); pure (ForInStep.yield ok)) else pure (ForInStep.yield r)) hp Q X
theorem sts_nil {F : Fx} : STs F [] (.tv (.bool true)) := by
  intro c d FO hg hsc ok rm l hp Q X hev fr s P E R hP hX
  exact wpAny_tests_nil (hP true true hp s.heap s.toks hev rfl R)
theorem sts_one {F : Fx} {e : Expr} {m : ME} (h : ST F e m) : STs F [e] m := by
  intro c d FO hg hsc ok rm l hp Q X hev fr s P E R hP hX
  exact wpAny_tests_one (h c d FO hg hsc ok rm l hp Q X hev _ rfl fr s _ E R hP hX)
theorem caps_get {l : List V} : ∀ {is : List Nat} {j : Nat} {i : Nat}, is[j]? = some i → (capsV l is)[j]? = some (lget l i)
  | [], _, _, h => by simp at h
  | _ :: _, 0, _, h => by simp at h; subst h; rfl
  | _ :: r, j + 1, _, h => by simp only [List.getElem?_cons_succ] at h; simpa [capsV] using caps_get (is := r) h
noncomputable def lookOf (l : List V) (xs : List Str) (is : List Nat) (y : Str) : Addr := match (xs.zip is).lookup y with
  | some i => cellA (lget l i)
  | none => 0
theorem zip_lookup : ∀ {xs : List Str} {is : List Nat} {y : Str}, xs.length = is.length → y ∈ xs → ∃ i, (xs.zip is).lookup y = some i ∧ (y, i) ∈ xs.zip is
  | [], _, _, _, h => by cases h
  | x :: r, [], _, hl, _ => by simp at hl
  | x :: r, i :: is, y, hl, h => by
    cases e : y == x with
    | true => exact ⟨i, by simp [List.lookup_cons, e], by rw [beq_iff_eq.mp e]; exact .head _⟩
    | false =>
      have hne : y ≠ x := by simpa using e
      obtain ⟨j, a, b⟩ := zip_lookup (xs := r) (is := is) (by simpa using hl) ((List.mem_cons.mp h).resolve_left hne)
      exact ⟨j, by simp [List.lookup_cons, e, a], .tail _ b⟩
theorem zip_lookup_get : ∀ {xs : List Str} {is : List Nat} {y : Str} {j i : Nat}, xs.Nodup → xs[j]? = some y → is[j]? = some i → (xs.zip is).lookup y = some i
  | [], _, _, _, _, _, h, _ => by simp at h
  | _ :: _, [], _, _, _, _, _, h => by simp at h
  | x :: r, k :: is, y, 0, i, _, h, h' => by simp at h h'; subst h h'; simp
  | x :: r, k :: is, y, j + 1, i, nd, h, h' => by
    simp only [List.getElem?_cons_succ] at h h'
    have hm : y ∈ r := List.mem_of_getElem? h
    have hne : y ≠ x := fun e => (List.nodup_cons.mp nd).1 (e ▸ hm)
    simp only [List.zip_cons_cons, List.lookup_cons, beq_eq_false_iff_ne.mpr hne]
    exact zip_lookup_get (List.nodup_cons.mp nd).2 h h'
noncomputable abbrev kclOf (scope : Scope) (look : Str → Addr) : List (Str × Addr) := ((scope.names.filter (·.2 == .free)).map fun y => (y.1, look y.1)).reverse
theorem kcl_lookup {look : Str → Addr} : ∀ {ns : List (Str × NameKind)} {y : Str}, (ns.map (·.1)).Nodup → y ∈ ns.map (·.1) → ((ns.map fun y => (y.1, look y.1)).reverse).lookup y = some (look y) := by
  intro ns y nd hy
  have key : ∀ (ps : List (Str × Addr)), (∀ p ∈ ps, p.2 = look p.1) → y ∈ ps.map (·.1) → ps.lookup y = some (look y) := by
    intro ps
    induction ps with
    | nil => intro _ h; cases h
    | cons p r ih =>
      intro hp h
      cases e : y == p.1 with
      | true =>
        have := hp p (.head _)
        obtain ⟨a, b⟩ := p
        simp only at e this
        rw [beq_iff_eq.mp e] at *
        simp [List.lookup_cons, this]
      | false =>
        have hne : y ≠ p.1 := by simpa using e
        obtain ⟨a, b⟩ := p
        simp only at e hne
        simp only [List.lookup_cons, e]
        exact ih (fun q hq => hp q (.tail _ hq)) ((List.mem_cons.mp h).resolve_left hne)
  refine key _ (fun p hp => ?_) ?_
  · obtain ⟨q, _, rfl⟩ := List.mem_map.mp (List.mem_reverse.mp hp)
    rfl
  · rw [List.map_reverse, List.mem_reverse, List.map_map]
    exact hy
section
variable {F : Fx}
theorem comp_look {c : Cx} {x : Str} {xs : List Str} {is : List Nat} {scope : Scope} (co : CompOk F scope x xs is) {l : List V} {hp : HP} {fr : List (Addr × Obj)} {h : Heap} (R : Rep c F.names l hp fr h) (hcells : cellsB l is = true) :
    ∀ y ∈ scope.names, y.2 = .free → c.env.cells.lookup y.1 = some (lookOf l xs is y.1) := by
  intro y hy hk
  have hm : y.1 ∈ xs := by
    rw [← co.free]
    exact List.mem_map_of_mem (f := (·.1)) ((List.mem_filter (p := fun z : Str × NameKind => z.2 == .free)).mpr ⟨hy, by simp [hk]⟩)
  obtain ⟨i, h1, h2⟩ := zip_lookup co.len hm
  have h3 := co.idx _ h2
  have h4 := cellsB_get hcells i (List.of_mem_zip h2).2
  have := R.cellOf h3 h4
  unfold lookOf
  rw [h1]; exact this
theorem comp_loc {x : Str} {xs : List Str} {is : List Nat} {scope : Scope} (co : CompOk F scope x xs is) {l : List V} (hcells : cellsB l is = true) {m₂ : Str → Option Value} {v : V} {val : Value} (hx : m₂ x = some val) (hv : absV val = v) :
    Loc (kclOf scope (lookOf l xs is)) (x :: xs) (v :: capsV l is) m₂ := by
  intro j y w hy hw hn
  cases j with
  | zero =>
    simp at hy hw
    subst hy hw
    exact .inr ⟨fun a e => absV_cell (hv.trans e), val, hx, hv⟩
  | succ j =>
    simp only [List.getElem?_cons_succ] at hy hw
    have hj : j < is.length := by
      rw [← co.len]
      exact (List.getElem?_eq_some_iff.mp hy).1
    have hi : is[j]? = some is[j] := by simp [hj]
    rw [caps_get hi] at hw
    have hw : lget l is[j] = w := Option.some.inj hw
    have hc := cellsB_get hcells is[j] (List.getElem_mem hj)
    refine .inl ⟨cellA (lget l is[j]), by rw [← hw]; exact hc, ?_⟩
    have nd : xs.Nodup := (List.nodup_cons.mp co.nd).2
    have h1 := zip_lookup_get nd hy hi
    have : lookOf l xs is y = cellA (lget l is[j]) := by unfold lookOf; rw [h1]
    rw [← this]
    exact kcl_lookup (by rw [co.free]; exact nd) (by rw [co.free]; exact List.mem_of_getElem? hy)
theorem compG {c : Cx} {d : Nat} (FO : F.Ok) (hg : c.g = F.g) (hsc : SCF c F) (ok : c.Ok) (hcp : c.cp = none) (rm : room c d)
    {x : Str} {xs : List Str} {is : List Nat} {scope : Scope} (co : CompOk F scope x xs is) {px pos : Pos} {ifs : List Expr} {iter elt : Expr} {mc me : ME}
    (hc : STs (F.inner scope (x :: xs)) ifs mc) (he : SE (F.inner scope (x :: xs)) elt me)
    {vs : List V} {K : HP → Prop} {Q : V → HP → Prop} {l : List V} {hp : HP} {fr : List (Addr × Obj)} {s : Shared} {it : Addr} (ItObj : Nat → Obj → Prop)
    (again : ∀ o (s' : Shared) (P : Value → Shared → Prop) (E : Value → Shared → Prop), ItObj 0 o → s'.heap.get? it = some o → P (.ref it) s' → wpAny (model c.g.prog c.g.w) c.A (pyIter (.ref it)) P E s')
    (next : ∀ k l hp o h (s' : Shared) (fr : List (Addr × Obj)) (P : Option Value → Shared → Prop) (E : Value → Shared → Prop), K hp → ItObj k o → s'.heap = h → Rep c F.names l hp ((it, o) :: fr) h → (∀ p ∈ fr, p.1 ≠ it) →
      (∀ val v h' tk' o', vs[k]? = some v → absV val = v → ItObj (k + 1) o' → Rep c F.names l hp ((it, o') :: fr) h' → P (some val) { s' with heap := h', toks := tk' }) →
      (k = vs.length → ∀ h' tk', Rep c F.names l hp fr h' → P Option.none { s' with heap := h', toks := tk' }) → k ≤ vs.length → wpAny (model c.g.prog c.g.w) c.A (pyNext (.ref it)) P E s')
    {o₀ : Obj} (h0 : ItObj 0 o₀) (R0 : Rep c F.names l hp ((it, o₀) :: fr) s.heap) (hfr : ∀ p ∈ fr, p.1 ≠ it) (hcells : cellsB l is = true)
    (hK : compI (fun l h R => evT F.g d mc l h R fun _ _ => False) (fun l h R => ev F.g d me l h R fun _ _ => False) (fun v R _ => R (v :: capsV l is)) vs hp K Q)
    {E : Value → Shared → Prop} {RR : Value → Addr → Result → Shared → Prop}
    (hRR : ∀ D C oC m₂ hp' h' tk', Q (.ref D) hp' → NsObj oC m₂ → Rep c F.names l hp' ((C, oC) :: fr) h' → (∀ p ∈ fr, p.1 ≠ C) → RR (.ref D) C (.ok .next) { s with heap := h', toks := tk' }) :
    wpAny (model c.g.prog c.g.w) c.A (newList []) (fun acc s₃ => wpAny (model c.g.prog c.g.w) c.A (newFunctionEnv scope c.env.globals (kclOf scope (lookOf l xs is)) [] c.env.qual none .none (some c.env)) (fun cenv s₄ =>
      codeAny (model c.g.prog c.g.w) c.A (.compStart (.ListComp elt [⟨.Name x px, iter, ifs, 0⟩] scope pos) 0 (.ref it) acc { cenv with scope := relabel scope c.env }) (RR acc cenv.locals) s₄) E s₃) E s := by
  refine Gen fun G back => ?_
  rcases hK with ⟨I, hI0, step, fin⟩
  refine back ?_
  clear back
  clear G
  rw [c.env_plain hcp]
  refine wpAny_newObj_type (wpAny_newFunctionEnv co.cell (by intro y hy; simp at hy) (fun h₁ hns₁ hsb₁ => ?_) co.kind)
  dsimp only at hns₁ hsb₁ ⊢
  have R1 := R0.push ok { cls := .type "list", dict := none, data := .seq ([] : List Value).toArray } rfl
  have f1 := (R0.fresh ok).2
  have R2 := R1.push ok { cls := .type "dict", data := .dict #[] } rfl
  have f2 := (R1.fresh ok).2
  generalize hD : s.heap.objs.size = D at *
  generalize hH : s.heap.push { cls := .type "list", dict := none, data := .seq ([] : List Value).toArray } = H2 at *
  generalize hC : H2.objs.size = C at *
  have hDC : D ≠ C := f2 (D, _) (.head _)
  have hIC : it ≠ C := f2 (it, o₀) (.tail _ (.head _))
  have hID : it ≠ D := f1 (it, o₀) (.head _)
  have hfC : ∀ p ∈ fr, p.1 ≠ C := fun p hp' => f2 p (.tail _ (.tail _ hp'))
  have hfD : ∀ p ∈ fr, p.1 ≠ D := fun p hp' => f1 p (.tail _ hp')
  refine Gen fun G back => ?_
  rcases id hns₁ with ⟨oC, es, ep, hoC, hd0, hk0, hr0⟩
  refine back ?_
  clear back
  clear G
  have R3 := R2.iter (noC hcp) (fun b ob hne e => (hsb₁.2 b hne).trans e) hoC f2
  have R4 : Rep c F.names l hp ((it, o₀) :: (C, oC) :: (D, listOf #[] 0) :: fr) h₁ := R3.prm hcp (pmR _ _ _ _)
  have offI : ∀ (oC : Obj) (its : Array Value) (n : Nat), ∀ p ∈ (C, oC) :: (D, listOf its n) :: fr, p.1 ≠ it := fun _ _ _ => off2 (P := (· ≠ it)) (Ne.symm hIC) (Ne.symm hID) hfr
  have loop : ∀ s₃ : Shared, s₃ = { s with heap := h₁, toks := s.toks + ([] : List (Str × Value)).length } →
      codeAny (model c.g.prog c.g.w) c.A (.compLoop (.ListComp elt [⟨.Name x px, iter, ifs, 0⟩] scope pos) 0 (.ref it) (.ref D) (compEnvC scope (kclOf scope (lookOf l xs is)) C c.fenv))
        (RR (.ref D) C) s₃ := by
    rintro s₃ rfl
    refine codeAny_compLoop_tests (fun n s' => ∃ k hp' oI oC m₂ its cnt h' tk, n = vs.length + 1 - k ∧ k ≤ vs.length ∧ I k (its.toList.map absV) hp' ∧ ItObj k oI ∧ NsObj oC m₂ ∧
      Rep c F.names l hp' ((it, oI) :: (C, oC) :: (D, listOf its cnt) :: fr) h' ∧ s' = { s with heap := h', toks := tk }) ?_ _ ⟨0, hp, o₀, oC, _, #[], 0, h₁, _, rfl, Nat.zero_le _, hI0, h0, ⟨es, ep, hd0, hk0, hr0⟩, R4, rfl⟩
    intro n s' qz20
    refine Gen fun G back => ?_
    rcases qz20 with ⟨k, hp1, oI, oC1, m₂, its, cnt, hh1, tk1, hz21, hk1, hI, hO, hNs, R5, hz22⟩
    refine back ?_
    clear back
    clear G
    subst hz21
    subst hz22
    have hKh : K hp1 := by
      by_cases hlt : k < vs.length
      · exact (step k vs[k] _ hp1 (by simp [hlt]) hI).1
      · have : k = vs.length := by (first | lia | omega)
        subst this
        exact (fin _ hp1 hI).1
    refine next k l hp1 oI hh1 _ _ _ _ hKh hO rfl R5 (offI _ _ _) (fun val v h' tk' o' hv hval hO' R6 => ?_) (fun hkl h' tk' R6 => ?_) hk1
    · dsimp only
      have hlt : k < vs.length := by
        rcases Nat.lt_or_ge k vs.length with h | h
        · exact h
        · rw [List.getElem?_eq_none h] at hv; cases hv
      obtain ⟨_, hlen, hev⟩ := step k v _ hp1 hv hI
      have hgC : h'.get? C = some oC1 := by obtain ⟨_, _, _, _, _, _, N, _⟩ := id R6; exact (N _ (.tail _ (.head _))).1
      refine Gen fun G back => ?_
      rcases hNs with ⟨es1, ep1, hd1, hk1', hr1⟩
      refine back ?_
      clear back
      clear G
      refine wpAny_assign_Name (wpAny_storeName_local (m := m₂) (lookup_relabel_local co.tgt) ⟨oC1, es1, ep1, hgC, hd1, hk1', hr1⟩ (fun h3 hn3 hs3 => ?_) (by simp [compEnvC, relabel, co.kind]))
      refine Gen fun G back => ?_
      rcases id hn3 with ⟨oC2, es2, ep2, hoC2, hd2, hk2, hr2⟩
      refine back ?_
      clear back
      clear G
      have R7 : Rep c F.names l hp1 ((C, oC1) :: (it, o') :: (D, listOf its cnt) :: fr) h' := R6.prm hcp (List.Perm.swap _ _ _)
      have offC : ∀ (o' : Obj) (its : Array Value) (n : Nat), ∀ p ∈ (it, o') :: (D, listOf its n) :: fr, p.1 ≠ C := fun _ _ _ => off2 (P := (· ≠ C)) hIC hDC hfC
      have R8 := R7.iter (noC hcp) (fun b ob hne e => (hs3.2 b hne).trans e) hoC2 (offC _ _ _)
      have hNs2 : NsObj oC2 (fun y => if y = x then some val else m₂ y) := ⟨es2, ep2, hd2, hk2, hr2⟩
      have lo2 := comp_loc co hcells (m₂ := fun y => if y = x then some val else m₂ y) (v := v) (val := val) (by simp) hval
      have RI := R8.inner (scope := scope) hcp (.head _) hNs2 lo2
      have hsc' : SCF (c.within C scope (kclOf scope (lookOf l xs is)) F.names l) (F.inner scope (x :: xs)) := by
        refine ⟨?_, fun e => (nomatch e), fun e => (nomatch e)⟩
        have : c.fsc = F.sc := (c.sc_plain hcp).symm.trans hsc.1
        show relabel scope c.fenv = relabelS scope F.sc
        rw [← this]; rfl
      have ok' : (c.within C scope (kclOf scope (lookOf l xs is)) F.names l).Ok := ⟨ok.below, ok.inK, ok.top, ok.dicts, co.kind, ok.fkind, ok.gen, ok.cor, ok.hd, ok.seer, ok.tree⟩
      refine hc (c.within C scope (kclOf scope (lookOf l xs is)) F.names l) d (FO.inner co.nd) hg hsc' ok' rm _ hp1 _ _ hev _ _ _ _ RI (fun b b' hp2 h4 tk4 hq4 hb4 R9 => ?_) (fun _ _ _ _ _ hx => hx.elim)
      cases hb4
      dsimp only
      cases b with
      | false =>
        rw [if_neg (by decide)]
        refine ⟨vs.length + 1 - (k + 1), by (first | lia | omega), k + 1, hp2, o', oC2, _, its, cnt, h4, tk4, rfl, by (first | lia | omega), hq4.2 rfl, hO', hNs2, (R9.outer hcp).prm hcp (List.Perm.swap _ _ _), rfl⟩
      | true =>
        rw [if_pos rfl]
        refine he (c.within C scope (kclOf scope (lookOf l xs is)) F.names l) d (FO.inner co.nd) hg hsc' ok' rm _ hp2 _ _ (hq4.1 rfl) _ _ _ _ R9 (fun w y hp3 h5 tk5 hq5 hy R10 => ?_) (fun _ _ _ _ _ hx => hx.elim)
        have R11 : Rep c F.names l hp3 ((D, listOf its cnt) :: (C, oC2) :: (it, o') :: fr) h5 := (R10.outer hcp).prm hcp (pmR _ _ _ _)
        have hgD : h5.get? D = some (listOf its cnt) := by obtain ⟨_, _, _, _, _, _, N, _⟩ := id R11; exact (N _ (.head _)).1
        refine append_at hgD (fun h6 hs6 ho6 => ?_) (by simpa using hlen)
        have offD : ∀ p ∈ (C, oC2) :: (it, o') :: fr, p.1 ≠ D := off2 (P := (· ≠ D)) (Ne.symm hDC) hID hfD
        have R12 := R11.iter (noC hcp) (fun b ob hne e => (hs6.2 b hne).trans e) ho6 offD
        refine ⟨vs.length + 1 - (k + 1), by (first | lia | omega), k + 1, hp3, o', oC2, _, its.push y, cnt + 1, h6, tk5, rfl, by (first | lia | omega), ?_, hO', hNs2, R12.prm hcp (pmV _ _ _ _), rfl⟩
        have : (its.push y).toList.map absV = its.toList.map absV ++ [w] := by cases hy; simp
        rw [this]; exact hq5
    · dsimp only
      subst hkl
      have R7 : Rep c F.names l hp1 ((D, listOf its cnt) :: (C, oC1) :: fr) h' := R6.prm hcp (List.Perm.swap _ _ _)
      have R8 := Rep.adopt (o := .list (its.toList.map absV)) hcp R7 (List.forall_mem_cons.mpr ⟨Ne.symm hDC, hfD⟩) ⟨its, cnt, rfl, rfl⟩
      have hDn : hp1 D = none := by obtain ⟨_, _, _, _, _, _, _, D'⟩ := id R7; exact D' _ (.head _)
      exact hRR D C oC1 m₂ _ h' _ ((fin _ hp1 hI).2 D hDn) hNs R8 hfC
  have st : ∀ s₃ : Shared, s₃ = { s with heap := h₁, toks := s.toks + ([] : List (Str × Value)).length } → s₃.heap.get? it = some o₀ := by
    rintro s₃ rfl
    refine Gen fun G back => ?_
    rcases R4 with ⟨_, _, _, _, _, _, N, _⟩
    refine back ?_
    clear back
    clear G
    exact (N _ (.head _)).1
  exact codeAny_compStart_list (loop _ rfl) (again o₀ _ _ _ h0 (st _ rfl) (loop _ rfl))
end
section
variable {F : Fx}
theorem comp_eval {c : Cx} {x : Str} {xs : List Str} {is : List Nat} {scope : Scope} (co : CompOk F scope x xs is) {tg : Expr} {pos : Pos} {ifs : List Expr} {iter elt : Expr} {l : List V} {hp : HP} {fr : List (Addr × Obj)} {s : Shared}
    (R : Rep c F.names l hp fr s.heap) (hs : ∀ v, foldedSetIterable iter c.env v = pure v) (hcells : cellsB l is = true) {P E : Value → Shared → Prop}
    (h : wpAny (model c.g.prog c.g.w) c.A (eval iter c.env) (fun xv s₁ => wpAny (model c.g.prog c.g.w) c.A (pyIter xv) (fun it s₂ => wpAny (model c.g.prog c.g.w) c.A (newList []) (fun acc s₃ =>
      wpAny (model c.g.prog c.g.w) c.A (newFunctionEnv scope c.env.globals (kclOf scope (lookOf l xs is)) [] c.env.qual none .none (some c.env)) (fun cenv s₄ =>
      codeAny (model c.g.prog c.g.w) c.A (.compStart (.ListComp elt [⟨tg, iter, ifs, 0⟩] scope pos) 0 it acc { cenv with scope := relabel scope c.env }) (compPost (model c.g.prog c.g.w) c.A E none P acc cenv.locals) s₄) E s₃) E s₂) E s₁) E s) :
    wpAny (model c.g.prog c.g.w) c.A (eval (.ListComp elt [⟨tg, iter, ifs, 0⟩] scope pos) c.env) P E s := by
  rw [eval_ListComp]
  exact wpAny_comprehension_free (use := none) rfl hs (closureFor_list _ (comp_look co R hcells)) co.kind co.names h
noncomputable def CompRun (F : Fx) (x : Str) (xs : List Str) (is : List Nat) (scope : Scope) (tg : Expr) (pos : Pos) (ifs : List Expr) (iter elt : Expr) (m : ME) : Prop := ∀ c d, F.Ok → c.g = F.g → SCF c F → c.Ok → room c d → c.cp = none → ∀ l hp Q X, ev F.g d m l hp Q X →
  cellsB l is = true ∧ ∀ (fr : List (Addr × Obj)) (s : Shared) (E : Value → Shared → Prop) (RR : Value → Addr → Result → Shared → Prop), Rep c F.names l hp fr s.heap → XP c F.names l fr X E s →
    (∀ D C oC m₂ hp' h' tk', Q (.ref D) hp' → NsObj oC m₂ → Rep c F.names l hp' ((C, oC) :: fr) h' → (∀ p ∈ fr, p.1 ≠ C) → RR (.ref D) C (.ok .next) { s with heap := h', toks := tk' }) →
    wpAny (model c.g.prog c.g.w) c.A (eval iter c.env) (fun xv s₁ => wpAny (model c.g.prog c.g.w) c.A (pyIter xv) (fun it s₂ => wpAny (model c.g.prog c.g.w) c.A (newList []) (fun acc s₃ =>
      wpAny (model c.g.prog c.g.w) c.A (newFunctionEnv scope c.env.globals (kclOf scope (lookOf l xs is)) [] c.env.qual none .none (some c.env)) (fun cenv s₄ =>
      codeAny (model c.g.prog c.g.w) c.A (.compStart (.ListComp elt [⟨tg, iter, ifs, 0⟩] scope pos) 0 it acc { cenv with scope := relabel scope c.env }) (RR acc cenv.locals) s₄) E s₃) E s₂) E s₁) E s
theorem se_comp {x : Str} {xs : List Str} {is : List Nat} {scope : Scope} (co : CompOk F scope x xs is) (ht : F.top = true) {tg : Expr} {pos : Pos} {ifs : List Expr} {iter elt : Expr} {m : ME} (hse : ∀ env v, foldedSetIterable iter env v = pure v)
    (h : CompRun F x xs is scope tg pos ifs iter elt m) : SE F (.ListComp elt [⟨tg, iter, ifs, 0⟩] scope pos) m := by
  intro c d FO hg hsc ok rm l hp Q X hev fr s P E R hP hX
  have hcp := hsc.2.1 ht
  obtain ⟨hcells, h⟩ := h c d FO hg hsc ok rm hcp l hp Q X hev
  refine comp_eval co R (hse _) hcells (h fr s E _ R hX fun D C oC m₂ hp' h' tk' hq hNs R1 hfC => ?_)
  refine Gen fun G back => ?_
  rcases hNs with ⟨es1, ep1, hd1, hk1', hr1⟩
  refine back ?_
  clear back
  clear G
  have hgC : h'.get? C = some oC := by obtain ⟨_, _, _, _, _, _, N, _⟩ := id R1; exact (N _ (.head _)).1
  refine ⟨m₂, ⟨oC, es1, ep1, hgC, hd1, hk1', hr1⟩, fun h'' hs'' => ?_⟩
  exact hP (.ref D) (.ref D) _ h'' _ hq rfl (R1.drop (noC hcp) (fun b ob hne e => (hs''.2 b hne).trans e) hfC)
theorem cr_compL {x : Str} {xs : List Str} {is : List Nat} {scope : Scope} (co : CompOk F scope x xs is) {px pos : Pos} {ifs : List Expr} {iter elt : Expr} {mi mc me : ME} (hse : setE iter = false) (hit : SE F iter mi)
    (hc : STs (F.inner scope (x :: xs)) ifs mc) (he : SE (F.inner scope (x :: xs)) elt me) : CompRun F x xs is scope (.Name x px) pos ifs iter elt (.compL mi mc me is) := by
  intro c d FO hg hsc ok rm hcp l hp Q X hev
  obtain ⟨hcells, hev⟩ := hev
  refine ⟨hcells, fun fr s E RR R hX hRR => ?_⟩
  · refine (hit c d FO hg hsc ok rm l hp _ X hev fr s _ E R (fun v y h1 hh tk hq hy R1 => ?_) hX)
    cases v with
    | ref r =>
      cases absV_ref hy
      refine Gen fun G back => ?_
      rcases hq with ⟨vs, e1, hfit, hq⟩
      refine back ?_
      clear back
      clear G
      obtain ⟨items, hitems, hl⟩ := R1.listI ok e1
      have hex : ∀ h : HP, h r = h1 r → listAt (h r) = some vs := fun h e => by rw [e]; exact e1
      refine wpAny_pyIter_list hl ?_
      refine compG FO hg hsc ok hcp rm co hc he (K := fun h => h r = h1 r) (fun k o => o.cls = .type "list_iterator" ∧ o.data = .fields #[.ref r, .int k 0]) (fun o s' P E ho hg' hP => ?_) ?_ ⟨rfl, rfl⟩ (R1.push ok _ rfl) (R1.fresh ok).2 hcells hq hRR
      · exact wpAny_pyIter_listiter (l := r) (i := 0) ⟨o, hg', ho⟩ hP
      · intro k l1 hp1 o1 h2 s' fr' P1 E1 hKh hO hs R2 hfr hitem hend hkl
        subst hs
        have hIt : s'.heap.IsListIter _ r k := ⟨o1, (by obtain ⟨_, _, _, _, _, _, N, _⟩ := id R2; exact (N _ (.head _)).1), hO⟩
        obtain ⟨items2, hitems2, hl3⟩ := R2.listI ok (hex hp1 hKh)
        have hsz : items2.size = vs.length := by rw [← hitems2]; simp
        by_cases hlt : k < vs.length
        · refine wpAny_pyNext_list_item hIt hl3 (x := items2[k]) (by simp [hsz, hlt]) fun h' hit' hs' => ?_
          obtain ⟨o', ho', hc'⟩ := hit'
          refine hitem _ (absV items2[k]) h' _ o' ?_ rfl hc' (R2.iter (noC hcp) (fun b ob hne e => (hs'.2 b hne).trans e) ho' hfr)
          have e9 : vs[k]? = (items2.toList.map absV)[k]? := by rw [hitems2]
          rw [e9]; simp [hsz, hlt]
        · refine wpAny_pyNext_list_end (handled_none ok) hIt hl3 (by simp [hsz]; (first | lia | omega)) fun h' he => ?_
          exact hend (by (first | lia | omega)) h' _ (R2.drop (noC hcp) (fun b ob hne e => he b ob hne e) hfr)
    | _ => exact hq.elim
theorem comp_range {c : Cx} {d : Nat} (FO : F.Ok) (hg : c.g = F.g) (hsc : SCF c F) (ok : c.Ok) (hcp : c.cp = none) (rm : room c d)
    {x : Str} {xs : List Str} {is : List Nat} {scope : Scope} (co : CompOk F scope x xs is) {px pos : Pos} {ifs : List Expr} {iter elt : Expr} {mc me : ME}
    (hc : STs (F.inner scope (x :: xs)) ifs mc) (he : SE (F.inner scope (x :: xs)) elt me) {Q : V → HP → Prop} {l : List V} {hp : HP} {fr : List (Addr × Obj)} {s : Shared}
    {lo hi' st : Int} {r : Addr} {t u v : Tok} (hsm : Builtin.Range.small lo hi' st = true) (R : Rep c F.names l hp fr s.heap) (hr : IsRange s.heap r lo hi' st t u v) (hcells : cellsB l is = true)
    (hK : compI (fun l h R => evT F.g d mc l h R fun _ _ => False) (fun l h R => ev F.g d me l h R fun _ _ => False) (fun v R _ => R (v :: capsV l is)) ((List.range (Builtin.Range.rangeSize lo hi' st).toNat).map fun (k : Nat) => V.int (lo + k * st)) hp (fun _ => True) Q)
    {E : Value → Shared → Prop} {RR : Value → Addr → Result → Shared → Prop}
    (hRR : ∀ D C oC m₂ hp' h' tk', Q (.ref D) hp' → NsObj oC m₂ → Rep c F.names l hp' ((C, oC) :: fr) h' → (∀ p ∈ fr, p.1 ≠ C) → RR (.ref D) C (.ok .next) { s with heap := h', toks := tk' }) :
    wpAny (model c.g.prog c.g.w) c.A (pyIter (.ref r)) (fun it s₂ => wpAny (model c.g.prog c.g.w) c.A (newList []) (fun acc s₃ =>
      wpAny (model c.g.prog c.g.w) c.A (newFunctionEnv scope c.env.globals (kclOf scope (lookOf l xs is)) [] c.env.qual none .none (some c.env)) (fun cenv s₄ =>
      codeAny (model c.g.prog c.g.w) c.A (.compStart (.ListComp elt [⟨.Name x px, iter, ifs, 0⟩] scope pos) 0 it acc { cenv with scope := relabel scope c.env }) (RR acc cenv.locals) s₄) E s₃) E s₂) E s := by
  refine wpAny_pyIter_range hr hsm ?_
  have R0 := R.push ok { cls := Value.type "range_iterator", data := Data.fields #[rawInt lo, rawInt (Builtin.Range.rangeSize lo hi' st), rawInt st] } rfl
  have hsz := rangeSize_nn lo hi' st
  refine compG FO hg hsc ok hcp rm co hc he (K := fun _ => True) (fun k o => o = { cls := Value.type "range_iterator", data := Data.fields #[rawInt (lo + k * st), rawInt (Builtin.Range.rangeSize lo hi' st - k), rawInt st] }) (fun o s' P E ho hg' hP => ?_) ?_ ?_ R0 (R.fresh ok).2 hcells hK hRR
  · subst ho
    exact wpAny_pyIter_rangeiter hg' hP
  · intro k l1 hp1 o1 h1 s' fr' P1 E1 _ hO hs R1 hfr hitem hend hkl
    subst hO
    subst hs
    simp only [List.length_map, List.length_range] at hkl hend
    refine Gen fun G back => ?_
    rcases id R1 with ⟨g, T, m1, Fm, lo1, H, N, D⟩
    refine back ?_
    clear back
    clear G
    have hit := (N _ (.head _)).1
    by_cases hlt : k < (Builtin.Range.rangeSize lo hi' st).toNat
    · refine wpAny_pyNext_range_item (it := s.heap.objs.size) hit (by (first | lia | omega)) fun h' hit' hs' => ?_
      refine hitem _ (.int (lo + k * st)) h' _ _ (by simp [hlt]) rfl ?_ (R1.iter (noC hcp) (fun b ob hne e => (hs'.2 b hne).trans e) hit' hfr)
      congr 4
      · rw [show ((k + 1 : Nat) : Int) * st = (k : Int) * st + st by push_cast; rw [Int.add_mul, Int.one_mul], Int.add_assoc]
      · rw [show Builtin.Range.rangeSize lo hi' st - ((k + 1 : Nat) : Int) = Builtin.Range.rangeSize lo hi' st - k - 1 by push_cast; (first | lia | omega)]
    · refine wpAny_pyNext_range_end (it := s.heap.objs.size) (handled_none ok) hit (by (first | lia | omega)) fun h' he => ?_
      exact hend (by (first | lia | omega)) h' _ (R1.drop (noC hcp) (fun b ob hne e => he b ob hne e) hfr)
  · simp
noncomputable abbrev RgQ (F : Fx) (d : Nat) (mc me : ME) (is : List Nat) (l : List V) (Q : V → HP → Prop) : Int → Int → Int → HP → Prop := fun x y z h3 => z ≠ 0 ∧ Builtin.Range.small x y z = true ∧
  compI (fun l h R => evT F.g d mc l h R fun _ _ => False) (fun l h R => ev F.g d me l h R fun _ _ => False) (fun v R _ => R (v :: capsV l is)) ((List.range (Builtin.Range.rangeSize x y z).toNat).map fun (k : Nat) => V.int (x + k * z)) h3 (fun _ => True) Q
theorem cr_compR1 {x r : Str} {xs : List Str} {is : List Nat} {scope : Scope} (co : CompOk F scope x xs is) {px pos pr pc : Pos} {ifs : List Expr} {a elt : Expr} {ma mc me : ME}
    (hre : r = "range") (hr : r ∈ F.bt) (hkr : F.sc.names.lookup r = some .globalImplicit) (hn : notStar a = true) (ha : SE F a ma)
    (hc : STs (F.inner scope (x :: xs)) ifs mc) (he : SE (F.inner scope (x :: xs)) elt me) : CompRun F x xs is scope (.Name x px) pos ifs (.Call (.Name r pr) [a] [] pc) elt (.compR (.int 0) ma (.int 1) mc me is) := by
  intro c d FO hg hsc ok rm hcp l hp Q X hev
  obtain ⟨hcells, hev⟩ := hev
  refine ⟨hcells, fun fr s E RR R hX hRR => ?_⟩
  refine (se_rangeArgs1 hre hr hkr hn ha FO hg hsc ok rm (X := X) (Q := RgQ F d mc me is l Q) ?_ R ?_ hX)
  · refine Eq.mp ?_ hev
    show ev F.g d ma l hp _ X = ev F.g d ma l hp _ X
    congr 1
    funext v h1
    show (match V.int 0, v, V.int 1 with | .int x, .int y, .int z => _ | _, _, _ => False) = _
    cases v <;> rfl
  · intro lo hi' st hp' h' tk' r' t u v hq R' hr'
    exact comp_range FO hg hsc ok hcp rm co hc he hq.2.1 R' hr' hcells hq.2.2 hRR
theorem cr_compR2 {x r : Str} {xs : List Str} {is : List Nat} {scope : Scope} (co : CompOk F scope x xs is) {px pos pr pc : Pos} {ifs : List Expr} {a b elt : Expr} {ma mb mc me : ME}
    (hre : r = "range") (hr : r ∈ F.bt) (hkr : F.sc.names.lookup r = some .globalImplicit) (hn : notStar a = true) (ha : SE F a ma) (hn2 : notStar b = true) (hb : SE F b mb)
    (hc : STs (F.inner scope (x :: xs)) ifs mc) (he : SE (F.inner scope (x :: xs)) elt me) : CompRun F x xs is scope (.Name x px) pos ifs (.Call (.Name r pr) [a, b] [] pc) elt (.compR ma mb (.int 1) mc me is) := by
  intro c d FO hg hsc ok rm hcp l hp Q X hev
  obtain ⟨hcells, hev⟩ := hev
  refine ⟨hcells, fun fr s E RR R hX hRR => ?_⟩
  refine (se_rangeArgs2 hre hr hkr hn ha hn2 hb FO hg hsc ok rm (X := X) (Q := RgQ F d mc me is l Q) ?_ R ?_ hX)
  · refine Eq.mp ?_ hev
    show ev F.g d ma l hp _ X = ev F.g d ma l hp _ X
    congr 1
    funext v h1
    show ev F.g d mb l h1 _ X = ev F.g d mb l h1 _ X
    congr 1
    funext w h2
    show (match v, w, V.int 1 with | .int x, .int y, .int z => _ | _, _, _ => False) = _
    cases v <;> cases w <;> rfl
  · intro lo hi' st hp' h' tk' r' t u v hq R' hr'
    exact comp_range FO hg hsc ok hcp rm co hc he hq.2.1 R' hr' hcells hq.2.2 hRR
theorem cr_compR3 {x r : Str} {xs : List Str} {is : List Nat} {scope : Scope} (co : CompOk F scope x xs is) {px pos pr pc : Pos} {ifs : List Expr} {a b f elt : Expr} {ma mb mf mc me : ME}
    (hre : r = "range") (hr : r ∈ F.bt) (hkr : F.sc.names.lookup r = some .globalImplicit) (hn : notStar a = true) (ha : SE F a ma) (hn2 : notStar b = true) (hb : SE F b mb) (hn3 : notStar f = true) (hf : SE F f mf)
    (hc : STs (F.inner scope (x :: xs)) ifs mc) (he : SE (F.inner scope (x :: xs)) elt me) : CompRun F x xs is scope (.Name x px) pos ifs (.Call (.Name r pr) [a, b, f] [] pc) elt (.compR ma mb mf mc me is) := by
  intro c d FO hg hsc ok rm hcp l hp Q X hev
  obtain ⟨hcells, hev⟩ := hev
  refine ⟨hcells, fun fr s E RR R hX hRR => ?_⟩
  refine (se_rangeArgs3 hre hr hkr hn ha hn2 hb hn3 hf FO hg hsc ok rm (X := X) (Q := fun x y z h3 => Builtin.Range.small x y z = true ∧
    compI (fun l h R => evT F.g d mc l h R fun _ _ => False) (fun l h R => ev F.g d me l h R fun _ _ => False) (fun v R _ => R (v :: capsV l is)) ((List.range (Builtin.Range.rangeSize x y z).toNat).map fun (k : Nat) => V.int (x + k * z)) h3 (fun _ => True) Q) ?_ R ?_ hX)
  · exact hev
  · intro lo hi' st hp' h' tk' r' t u v hq R' hr'
    exact comp_range FO hg hsc ok hcp rm co hc he hq.1 R' hr' hcells hq.2 hRR
end
/-! functions with cells -/
noncomputable def enterC : List (Bool × V) → HP → (List V → HP → Prop) → Prop
  | [], hp, k => k [] hp
  | (false, v) :: r, hp, k => enterC r hp fun l h => k (v :: l) h
  | (true, v) :: r, hp, k => ∀ a, hp a = none → enterC r (hset hp a (.cell v)) fun l h => k (.cell a :: l) h
noncomputable def cellNames : List Str → List (Bool × V) → List Str
  | x :: ns, (true, _) :: ps => x :: cellNames ns ps
  | _ :: ns, (false, _) :: ps => cellNames ns ps
  | _, _ => []
theorem enterS (look : Str → Addr) : ∀ (ns : List Str) (ps : List (Bool × V)) (hp : HP) (k : List V → HP → Prop), ns.length = ps.length → enterC ps hp k → (∀ x ∈ cellNames ns ps, hp (look x) = none) →
    ((cellNames ns ps).map look).Nodup → ∃ l' hp', k l' hp' ∧ l'.length = ps.length ∧ (∀ (i : Nat) (x : Str) (b : Bool) (v : V), ns[i]? = some x → ps[i]? = some (b, v) → l'[i]? = some (if b = true then V.cell (look x) else v)) ∧
      (∀ (i : Nat) (x : Str) (v : V), ns[i]? = some x → ps[i]? = some (true, v) → hp' (look x) = some (O.cell v)) ∧ (∀ a, a ∉ (cellNames ns ps).map look → hp' a = hp a)
  | [], [], hp, k, _, h, _, _ => ⟨[], hp, h, rfl, by simp, by simp, fun _ _ => rfl⟩
  | [], _ :: _, _, _, hl, _, _, _ => by simp at hl
  | _ :: _, [], _, _, hl, _, _, _ => by simp at hl
  | x :: ns, (false, v) :: ps, hp, k, hl, h, hf, nd => by
    refine Gen fun G back => ?_
    rcases enterS look ns ps hp _ (by simpa using hl) h hf nd with ⟨l', hp', h1, h2, h3, h4, h5⟩
    refine back ?_
    clear back
    clear G
    refine ⟨v :: l', hp', h1, by simp [h2], ?_, ?_, h5⟩
    · intro i y b w hy hw
      cases i with
      | zero => simp at hy hw; obtain ⟨rfl, rfl⟩ := hw; simp
      | succ i => simpa using h3 i y b w (by simpa using hy) (by simpa using hw)
    · intro i y w hy hw
      cases i with
      | zero => simp at hw
      | succ i => exact h4 i y w (by simpa using hy) (by simpa using hw)
  | x :: ns, (true, v) :: ps, hp, k, hl, h, hf, nd => by
    have hx := hf x (.head _)
    rw [show cellNames (x :: ns) ((true, v) :: ps) = x :: cellNames ns ps from rfl, List.map_cons, List.nodup_cons] at nd
    obtain ⟨l', hp', h1, h2, h3, h4, h5⟩ := enterS look ns ps (hset hp (look x) (.cell v)) _ (by simpa using hl) (h (look x) hx) (fun y hy => by
      have e2 : look y ≠ look x := fun e => nd.1 (by rw [← e]; exact List.mem_map_of_mem hy)
      rw [hset_ne e2]; exact hf y (.tail _ hy)) nd.2
    refine ⟨.cell (look x) :: l', hp', h1, by simp [h2], ?_, ?_, ?_⟩
    · intro i y b w hy hw
      cases i with
      | zero => simp at hy hw; obtain ⟨rfl, rfl⟩ := hw; subst hy; simp
      | succ i => simpa using h3 i y b w (by simpa using hy) (by simpa using hw)
    · intro i y w hy hw
      cases i with
      | zero => simp at hy hw; subst hy hw; rw [h5 _ nd.1, hset_same]
      | succ i => exact h4 i y w (by simpa using hy) (by simpa using hw)
    · intro a ha
      rw [show cellNames (x :: ns) ((true, v) :: ps) = x :: cellNames ns ps from rfl, List.map_cons, List.mem_cons, not_or] at ha
      rw [h5 a ha.2, hset_ne ha.1]
theorem cellNames_mem : ∀ {ns : List Str} {ps : List (Bool × V)} {x : Str}, x ∈ cellNames ns ps → ∃ (i : Nat) (v : V), ns[i]? = some x ∧ ps[i]? = some (true, v)
  | [], _, _, h => absurd h List.not_mem_nil
  | _ :: _, [], _, h => absurd h List.not_mem_nil
  | y :: ns, (false, _) :: ps, x, h => by
    refine Gen fun G back => ?_
    rcases cellNames_mem (ns := ns) (ps := ps) h with ⟨i, v, a, b⟩
    refine back ?_
    clear back
    clear G
    exact ⟨i + 1, v, by simpa using a, by simpa using b⟩
  | y :: ns, (true, w) :: ps, x, h => by
    rcases List.mem_cons.mp h with rfl | h
    · exact ⟨0, w, rfl, rfl⟩
    · refine Gen fun G back => ?_
      rcases cellNames_mem (ns := ns) (ps := ps) h with ⟨i, v, a, b⟩
      refine back ?_
      clear back
      clear G
      exact ⟨i + 1, v, by simpa using a, by simpa using b⟩
theorem cellNames_sub : ∀ {ns : List Str} {ps : List (Bool × V)}, List.Sublist (cellNames ns ps) ns
  | [], _ => List.nil_sublist _
  | _ :: _, [] => List.nil_sublist _
  | _ :: ns, (false, _) :: ps => (cellNames_sub (ns := ns) (ps := ps)).cons _
  | _ :: ns, (true, _) :: ps => (cellNames_sub (ns := ns) (ps := ps)).cons_cons _
/-! the cells' places -/
theorem cellsFrom_get : ∀ (ns : List (Str × NameKind)) (n : Nat) (acc : List (Str × Addr)) (x : Str), ((x, NameKind.cell) ∈ ns ∨ x ∈ acc.map (·.1)) → x ∈ (cellsFrom n ns acc).map (·.1)
  | [], _, _, _, h => by
    rcases h with h | h
    · cases h
    · exact h
  | (y, k) :: r, n, acc, x, h => by
    unfold cellsFrom
    by_cases hk : (k == NameKind.cell) = true
    · rw [if_pos hk]
      refine cellsFrom_get r _ _ x ?_
      rcases h with h | h
      · rcases List.mem_cons.mp h with e | h
        · cases e; exact .inr (by simp)
        · exact .inl h
      · exact .inr (by rw [List.map_cons]; exact .tail _ h)
    · rw [if_neg hk]
      refine cellsFrom_get r _ _ x ?_
      rcases h with h | h
      · rcases List.mem_cons.mp h with e | h
        · cases e; exact absurd rfl hk
        · exact .inl h
      · exact .inr h
theorem cellsFrom_apart : ∀ (ns : List (Str × NameKind)) (n lo : Nat) (acc : List (Str × Addr)), lo ≤ n → (∀ p ∈ acc, lo ≤ p.2 ∧ p.2 < n) → (acc.map (·.2)).Nodup →
    ((cellsFrom n ns acc).map (·.2)).Nodup ∧ ∀ p ∈ cellsFrom n ns acc, lo ≤ p.2
  | [], _, _, _, _, h, nd => ⟨nd, fun p hp => (h p hp).1⟩
  | (y, k) :: r, n, lo, acc, hlo, h, nd => by
    unfold cellsFrom
    by_cases hk : (k == NameKind.cell) = true
    · rw [if_pos hk]
      refine cellsFrom_apart r _ lo _ (by (first | lia | omega)) (fun p hp => ?_) ?_
      · rcases List.mem_cons.mp hp with rfl | hp
        · exact ⟨hlo, Nat.lt_succ_self _⟩
        · have := h p hp; exact ⟨this.1, Nat.lt_succ_of_lt this.2⟩
      · rw [List.map_cons, List.nodup_cons]
        refine ⟨fun hm => ?_, nd⟩
        obtain ⟨p, hp, e⟩ := List.mem_map.mp hm
        have := (h p hp).2
        rw [e] at this
        exact Nat.lt_irrefl _ this
    · rw [if_neg hk]
      exact cellsFrom_apart r _ lo _ hlo h nd
theorem bindL_get {kindOf : Str → Option NameKind} {x : Str} {v : Value} : ∀ {binds : List (Str × Value)} {m : Str → Option Value}, (binds.map (·.1)).Nodup → (x, v) ∈ binds → kindOf x = some .local → bindL kindOf binds m x = some v := by
  have keep : ∀ {binds : List (Str × Value)} {m : Str → Option Value}, x ∉ binds.map (·.1) → bindL kindOf binds m x = m x := by
    intro binds
    induction binds with
    | nil => intro m _; rfl
    | cons p r ih =>
      intro m h
      obtain ⟨n, w⟩ := p
      rw [List.map_cons, List.mem_cons, not_or] at h
      unfold bindL
      rw [ih h.2]
      split
      · exact if_neg h.1
      · rfl
  intro binds
  induction binds with
  | nil => intro m _ h; cases h
  | cons p r ih =>
    intro m nd h hk
    obtain ⟨n, w⟩ := p
    rw [List.map_cons, List.nodup_cons] at nd
    unfold bindL
    rcases List.mem_cons.mp h with e | h
    · cases e
      rw [keep nd.1, if_pos hk]
      exact if_pos rfl
    · exact ih nd.2 h hk
theorem bindC_not {kindOf : Str → Option NameKind} {x : Str} : ∀ {binds : List (Str × Value)} {m : Str → Option Value}, x ∉ binds.map (·.1) → bindC kindOf binds m x = m x := by
  intro binds
  induction binds with
  | nil => intro m _; rfl
  | cons p r ih =>
    intro m h
    obtain ⟨n, w⟩ := p
    rw [List.map_cons, List.mem_cons, not_or] at h
    unfold bindC
    rw [ih h.2]
    split
    · rfl
    · exact if_neg h.1
theorem bindC_get {kindOf : Str → Option NameKind} {x : Str} {v : Value} : ∀ {binds : List (Str × Value)} {m : Str → Option Value}, (binds.map (·.1)).Nodup → (x, v) ∈ binds → kindOf x ≠ some .local → bindC kindOf binds m x = some v := by
  intro binds
  induction binds with
  | nil => intro m _ h; cases h
  | cons p r ih =>
    intro m nd h hk
    obtain ⟨n, w⟩ := p
    rw [List.map_cons, List.nodup_cons] at nd
    unfold bindC
    rcases List.mem_cons.mp h with e | h
    · cases e
      rw [bindC_not nd.1, if_neg hk]
      exact if_pos rfl
    · exact ih nd.2 h hk
theorem cellsAre_get {cm : Str → Option Value} {cs : List (Str × Addr)} {cells : List (Addr × Obj)} (H : CellsAre cm cs cells) : ∀ x a, (x, a) ∈ cs → ∃ o, (a, o) ∈ cells ∧ o.data = .cell (cm x) := by
  induction H with
  | nil => intro _ _ h; cases h
  | cons hd r ih =>
    intro x a h
    rcases List.mem_cons.mp h with e | h
    · cases e; exact ⟨_, .head _, hd⟩
    · obtain ⟨o, h1, h2⟩ := ih x a h; exact ⟨o, .tail _ h1, h2⟩
theorem lookup_of_mem {x : Str} : ∀ {cs : List (Str × Addr)}, x ∈ cs.map (·.1) → ∃ a, cs.lookup x = some a ∧ (x, a) ∈ cs
  | [], h => by cases h
  | (y, b) :: r, h => by
    cases e : x == y with
    | true => exact ⟨b, by simp [List.lookup_cons, e], by rw [beq_iff_eq.mp e]; exact .head _⟩
    | false =>
      have hne : x ≠ y := by simpa using e
      obtain ⟨a, h1, h2⟩ := lookup_of_mem (cs := r) ((List.mem_cons.mp h).resolve_left hne)
      exact ⟨a, by simp [List.lookup_cons, e, h1], .tail _ h2⟩
theorem mem_of_lookup' {α : Type} {x : Str} {k : α} : ∀ {l : List (Str × α)}, l.lookup x = some k → (x, k) ∈ l
  | [], h => by cases h
  | (y, b) :: r, h => by
    rw [List.lookup_cons] at h
    cases q : x == y with
    | true => rw [q] at h; cases h; rw [beq_iff_eq.mp q]; exact .head _
    | false => rw [q] at h; exact .tail _ (mem_of_lookup' h)
noncomputable def cellKs (sc : Scope) (names : List Str) : List Bool := names.map fun x => sc.names.lookup x == some .cell
noncomputable def unC (names : List Str) (bargs : List (Str × V)) : List V := bargs.map (·.2) ++ List.replicate (names.length - bargs.length) V.unb
noncomputable def fnOkC (K : Frag) (f : Addr) (names : List Str) : Bool := match funOf K f with
  | some fd => fd.closure.isEmpty && fd.globals == mainGlobals && fd.builtins == builtinsNs && codeIn K fd.code fd.qualname && !fd.scope.isCoroutine && !fd.scope.isGenerator &&
      (fd.scope.kind == .function) && decide ((cellsFrom 0 fd.scope.names []).map (·.1)).Nodup && (stmtsOf fd.body).isSome && names.all fun x => fd.scope.names.lookup x == some .local || fd.scope.names.lookup x == some .cell
  | none => false
theorem unC_get {names : List Str} {bargs : List (Str × V)} {i : Nat} {x : Str} {v : V} (hnm : names.take bargs.length = bargs.map (·.1)) (hx : names[i]? = some x) (hv : (unC names bargs)[i]? = some v) :
    (i < bargs.length ∧ bargs[i]? = some (x, v)) ∨ (bargs.length ≤ i ∧ v = .unb) := by
  unfold unC at hv
  rcases Nat.lt_or_ge i bargs.length with hi | hi
  · rw [List.getElem?_append_left (by simpa using hi)] at hv
    rw [List.getElem?_map] at hv
    have h2 : (names.take bargs.length)[i]? = some x := by rw [List.getElem?_take, if_pos hi]; exact hx
    rw [hnm, List.getElem?_map] at h2
    cases e : bargs[i]? with
    | none => rw [e] at hv; cases hv
    | some p =>
      rw [e] at hv h2
      simp only [Option.map_some, Option.some.injEq] at hv h2
      refine .inl ⟨hi, ?_⟩
      rw [← hv, ← h2]
  · rw [List.getElem?_append_right (by simpa using hi), List.getElem?_replicate] at hv
    split at hv
    · cases hv; exact .inr ⟨hi, rfl⟩
    · cases hv
theorem enter_rep {F : Fx} (FO : F.Ok) {c' : Cx} {sc : Scope} {L' : Addr} {cm m : Str → Option Value} {kindOf : Str → Option NameKind} {cells news0 fr : List (Addr × Obj)} {h₁ : Heap} {hp : HP} {binds : List (Str × Value)} {bargs : List (Str × V)}
    (hcl : c'.cl = cellsFrom (L' + 1) sc.names []) (hL : c'.L = L') (hcp : c'.cp = none) (hsc : sc = F.sc) (hko : kindOf = fun x => sc.names.lookup x) (hm : m = bindL kindOf binds fun _ => none) (hcm : cm = bindC kindOf binds fun _ => none)
    (F' : Fr c'.h₀ L' h₁ m) (N' : News c'.h₀ L' h₁ (cells ++ (news0 ++ fr))) (CA : CellsAre cm (cellsFrom (L' + 1) sc.names []) cells) (H : HpN c' hp news0) (hlt : ∀ p ∈ news0 ++ fr, p.1 < L') (D : ∀ p ∈ fr, hp p.1 = none)
    (hst : ∀ b o, c'.base.get? b = some o → c'.h₀.get? b = some o) (hbs : (binds.map fun p => (p.1, absV p.2)) = bargs) (hnm : F.names.take bargs.length = bargs.map (·.1))
    (hnl : ∀ x ∈ F.names, sc.names.lookup x = some .local ∨ sc.names.lookup x = some .cell) {k : List V → HP → Prop} (h : enterC ((cellKs F.sc F.names).zip (unC F.names bargs)) hp k) :
    ∃ l' hp', k l' hp' ∧ Rep c' F.names l' hp' fr h₁ := by
  subst hsc
  have hlen : bargs.length ≤ F.names.length := by
    have := congrArg List.length hnm
    simp only [List.length_take, List.length_map] at this
    (first | lia | omega)
  have hbl : binds.length = bargs.length := by rw [← hbs]; simp
  have hb1 : bargs.map (·.1) = binds.map (·.1) := by rw [← hbs]; simp
  have ndb : (binds.map (·.1)).Nodup := by rw [← hb1, ← hnm]; exact List.Sublist.nodup (List.take_sublist _ _) FO.nd
  have hul : (unC F.names bargs).length = F.names.length := by unfold unC; simp; (first | lia | omega)
  have hkl : (cellKs F.sc F.names).length = F.names.length := by unfold cellKs; simp
  have hpl : F.names.length = ((cellKs F.sc F.names).zip (unC F.names bargs)).length := by simp [hul, hkl]
  have hpg : ∀ (i : Nat) (x : Str) (b : Bool) (v : V), F.names[i]? = some x → ((cellKs F.sc F.names).zip (unC F.names bargs))[i]? = some (b, v) → b = (F.sc.names.lookup x == some .cell) ∧ (unC F.names bargs)[i]? = some v := by
    intro i x b v hx hv
    rw [List.getElem?_zip_eq_some] at hv
    obtain ⟨h1, h2⟩ := hv
    unfold cellKs at h1
    rw [List.getElem?_map, hx] at h1
    exact ⟨(Option.some.inj h1).symm, h2⟩
  let look : Str → Addr := fun x => ((cellsFrom (L' + 1) F.sc.names []).lookup x).getD 0
  have hlook : ∀ x, F.sc.names.lookup x = some .cell → (cellsFrom (L' + 1) F.sc.names []).lookup x = some (look x) ∧ (x, look x) ∈ cellsFrom (L' + 1) F.sc.names [] := by
    intro x hx
    obtain ⟨a, h1, h2⟩ := lookup_of_mem (cellsFrom_get F.sc.names (L' + 1) [] x (.inl (mem_of_lookup' hx)))
    have : look x = a := by show ((cellsFrom (L' + 1) F.sc.names []).lookup x).getD 0 = a; rw [h1]; rfl
    rw [this]; exact ⟨h1, h2⟩
  obtain ⟨ndA, hge⟩ := cellsFrom_apart F.sc.names (L' + 1) (L' + 1) [] (Nat.le_refl _) (fun _ h => nomatch h) List.nodup_nil
  have isC : ∀ x ∈ cellNames F.names ((cellKs F.sc F.names).zip (unC F.names bargs)), F.sc.names.lookup x = some .cell := by
    intro x hx
    refine Gen fun G back => ?_
    rcases cellNames_mem hx with ⟨i, v, h1, h2⟩
    refine back ?_
    clear back
    clear G
    have := (hpg i x true v h1 h2).1
    simpa using this.symm
  have hobj : ∀ x, F.sc.names.lookup x = some .cell → ∃ o, (look x, o) ∈ cells ∧ o.data = .cell (cm x) := fun x hx => cellsAre_get CA x _ (hlook x hx).2
  have hnew : ∀ x, F.sc.names.lookup x = some .cell → hp (look x) = none := by
    intro x hx
    obtain ⟨o, ho, _⟩ := hobj x hx
    have hgt := hge _ (hlook x hx).2
    cases q : hp (look x) with
    | none => rfl
    | some o' =>
      have := H.2 _ _ q
      cases o' with
      | ro vs =>
        refine Gen fun G back => ?_
        rcases this with ⟨it, ⟨ob, hb, _⟩, _⟩
        refine back ?_
        clear back
        clear G
        have h0 := (N' _ (List.mem_append_left _ ho)).2.2
        rw [hst _ _ hb] at h0; cases h0
      | list vs => obtain ⟨ob, hb, _⟩ := this; exact absurd (hlt _ (List.mem_append_left _ hb)) (Nat.not_lt.mpr (Nat.le_of_succ_le hgt))
      | tup vs => obtain ⟨ob, hb, _⟩ := this; exact absurd (hlt _ (List.mem_append_left _ hb)) (Nat.not_lt.mpr (Nat.le_of_succ_le hgt))
      | cell vs => obtain ⟨ob, hb, _⟩ := this; exact absurd (hlt _ (List.mem_append_left _ hb)) (Nat.not_lt.mpr (Nat.le_of_succ_le hgt))
      | rng _ _ _ => obtain ⟨ob, hb, _⟩ := this; exact absurd (hlt _ (List.mem_append_left _ hb)) (Nat.not_lt.mpr (Nat.le_of_succ_le hgt))
      | dict _ => obtain ⟨ob, hb, _⟩ := this; exact absurd (hlt _ (List.mem_append_left _ hb)) (Nat.not_lt.mpr (Nat.le_of_succ_le hgt))
  have ndl : ((cellNames F.names ((cellKs F.sc F.names).zip (unC F.names bargs))).map look).Nodup := by
    have nd0 : (cellNames F.names ((cellKs F.sc F.names).zip (unC F.names bargs))).Nodup := List.Sublist.nodup cellNames_sub FO.nd
    refine List.pairwise_map.mpr (List.Pairwise.imp_of_mem (fun {x y} hx hy hne e => hne ?_) nd0)
    have h1 := (hlook x (isC x hx)).2
    have h2 := (hlook y (isC y hy)).2
    rw [e] at h1
    have key : ∀ (cs : List (Str × Addr)) (a : Addr), (cs.map (·.2)).Nodup → (x, a) ∈ cs → (y, a) ∈ cs → x = y := by
      intro cs a
      induction cs with
      | nil => intro _ h; cases h
      | cons p r ih =>
        intro nd g1 g2
        rw [List.map_cons, List.nodup_cons] at nd
        rcases List.mem_cons.mp g1 with e1 | g1 <;> rcases List.mem_cons.mp g2 with e2 | g2
        · exact (Prod.mk.inj (e1.trans e2.symm)).1
        · exact absurd (by rw [← e1]; exact List.mem_map_of_mem (f := (·.2)) g2) nd.1
        · exact absurd (by rw [← e2]; exact List.mem_map_of_mem (f := (·.2)) g1) nd.1
        · exact ih nd.2 g1 g2
    exact key _ _ ndA h1 h2
  refine Gen fun G back => ?_
  rcases enterS look F.names _ hp k hpl h (fun x hx => hnew x (isC x hx)) ndl with ⟨l', hp', hk, hl', hget, hcell, hrest⟩
  refine back ?_
  clear back
  clear G
  have bget : ∀ (i : Nat) (x : Str) (v : V), bargs[i]? = some (x, v) → ∃ val, (x, val) ∈ binds ∧ absV val = v := by
    intro i x v hb
    rw [← hbs, List.getElem?_map] at hb
    cases e : binds[i]? with
    | none => rw [e] at hb; cases hb
    | some p =>
      rw [e] at hb
      simp only [Option.map_some, Option.some.injEq, Prod.mk.injEq] at hb
      exact ⟨p.2, by rw [← hb.1]; exact List.mem_of_getElem? e, hb.2⟩
  refine ⟨l', hp', hk, ?_⟩
  refine Rep.of (news := cells ++ news0) KtsTurn.refl (by rw [hL]; exact hm ▸ F') ((LocX.plain hcp).mpr ?_) ⟨?_, ?_⟩ (by rw [hL, List.append_assoc]; exact N') ?_
  · intro i x v hx hv hn
    have hi : i < F.names.length := (List.getElem?_eq_some_iff.mp hx).1
    obtain ⟨⟨b, w⟩, hw⟩ : ∃ p, ((cellKs F.sc F.names).zip (unC F.names bargs))[i]? = some p := ⟨_, List.getElem?_eq_getElem (by rw [← hpl]; exact hi)⟩
    obtain ⟨hb, hu⟩ := hpg i x b w hx hw
    rw [hget i x b w hx hw] at hv
    rcases hnl x (List.mem_of_getElem? hx) with hk | hk
    · have : b = false := by rw [hb, hk]; rfl
      subst this
      simp only [Bool.false_eq_true, if_false, Option.some.injEq] at hv
      subst hv
      rcases unC_get hnm hx hu with ⟨_, hb'⟩ | ⟨_, e⟩
      · obtain ⟨val, h1, h2⟩ := bget i x w hb'
        exact .inr ⟨fun a e => absV_cell (h2.trans e), val, bindL_get ndb h1 (by rw [hko]; exact hk), h2⟩
      · exact absurd e hn
    · have : b = true := by rw [hb, hk]; rfl
      subst this
      simp only [if_true, Option.some.injEq] at hv
      exact .inl ⟨look x, hv.symm, by rw [hcl]; exact (hlook x hk).1⟩
  · obtain ⟨Dm, hD⟩ := H.1
    refine ⟨Dm ++ (cellNames F.names ((cellKs F.sc F.names).zip (unC F.names bargs))).map look, fun a o ho => ?_⟩
    by_cases q : a ∈ (cellNames F.names ((cellKs F.sc F.names).zip (unC F.names bargs))).map look
    · exact List.mem_append_right _ q
    · rw [hrest a q] at ho; exact List.mem_append_left _ (hD a o ho)
  · intro a o ho
    by_cases q : a ∈ (cellNames F.names ((cellKs F.sc F.names).zip (unC F.names bargs))).map look
    · obtain ⟨x, hx, rfl⟩ := List.mem_map.mp q
      refine Gen fun G back => ?_
      rcases cellNames_mem hx with ⟨i, v, h1, h2⟩
      refine back ?_
      clear back
      clear G
      have hv := hcell i x v h1 h2
      have ho := ho.symm.trans hv
      obtain rfl := Option.some.inj ho
      obtain ⟨ob, hob, hd⟩ := hobj x (isC x hx)
      refine ⟨ob, List.mem_append_left _ hob, cm x, hd, ?_⟩
      have hu := (hpg i x true v h1 h2).2
      have hnk : kindOf x ≠ some .local := by rw [hko]; show F.sc.names.lookup x ≠ _; rw [isC x hx]; decide
      rcases unC_get hnm h1 hu with ⟨_, hb'⟩ | ⟨hge', e⟩
      · obtain ⟨val, g1, g2⟩ := bget i x v hb'
        rw [hcm, bindC_get ndb g1 hnk]
        exact ⟨fun e => by rw [e] at g2; cases val <;> simp [absV] at g2, g2⟩
      · rw [hcm, bindC_not (fun hm' => ?_)]
        · exact e
        · rw [← hb1, ← hnm] at hm'
          obtain ⟨j, hj, e'⟩ := List.mem_iff_getElem.mp hm'
          rw [List.length_take] at hj
          have g1 : F.names[j]? = some x := by
            rw [List.getElem_take] at e'
            rw [← e']; exact List.getElem?_eq_getElem _
          have g2 := List.getElem?_eq_some_iff.mp g1
          have g3 := List.getElem?_eq_some_iff.mp h1
          obtain ⟨a1, b1⟩ := g2
          obtain ⟨a2, b2⟩ := g3
          have := (List.getElem_inj FO.nd).mp (b1.trans b2.symm)
          (first | lia | omega)
    · rw [hrest a q] at ho
      have := H.2 a o ho
      cases o with
      | ro vs => exact this
      | list vs => obtain ⟨ob, h1, h2⟩ := this; exact ⟨ob, List.mem_append_right _ h1, h2⟩
      | tup vs => obtain ⟨ob, h1, h2⟩ := this; exact ⟨ob, List.mem_append_right _ h1, h2⟩
      | cell vs => obtain ⟨ob, h1, h2⟩ := this; exact ⟨ob, List.mem_append_right _ h1, h2⟩
      | rng _ _ _ => obtain ⟨ob, h1, h2⟩ := this; exact ⟨ob, List.mem_append_right _ h1, h2⟩
      | dict _ => obtain ⟨ob, h1, h2⟩ := this; exact ⟨ob, List.mem_append_right _ h1, h2⟩
  · intro p hp'
    rw [hrest]
    · exact D p hp'
    · intro q
      obtain ⟨x, hx, e⟩ := List.mem_map.mp q
      have hgt := hge _ (hlook x (isC x hx)).2
      have := hlt p (List.mem_append_right _ hp')
      rw [← e] at this
      exact absurd this (Nat.not_lt.mpr (Nat.le_of_succ_le hgt))
theorem cellsFrom_none : ∀ {ns : List (Str × NameKind)} {n : Nat}, (ns.all fun y => !(y.2 == .cell)) = true → cellsFrom n ns [] = []
  | [], _, _ => rfl
  | (y, k) :: r, n, h => by
    simp only [List.all_cons, Bool.and_eq_true, Bool.not_eq_true'] at h
    unfold cellsFrom
    rw [if_neg (by rw [h.1]; decide)]
    exact cellsFrom_none h.2
theorem calls_ofC {F : Fx} (FO : F.Ok) {f : Addr} (hok : fnOkC F.g.K f F.names = true) (hsc : (fnAt F.g.K f).scope = F.sc) {ms : MS} (hb : SB F (bodyAt F.g.K f) ms) {args : List V} {kw bargs : List (Str × V)}
    (hbind : Binds F.g f args kw bargs) (hnm : F.names.take bargs.length = bargs.map (·.1)) (hloc : (bargs.all fun p => F.sc.names.lookup p.1 == some .local || F.sc.names.lookup p.1 == some .cell) = true)
    {d : Nat} {hp : HP} {Q : V → HP → Prop} {X : XC}
    (h : enterC ((cellKs F.sc F.names).zip (unC F.names bargs)) hp fun l h0 => exec F.g d ms l h0 (retQ Q) noX) : Calls F.g (d + 1) f args kw hp Q X := by
  intro c hg ok rm names l vals kvals hv hkv fr s P E R hP hX
  unfold fnOkC at hok
  cases hfo : funOf F.g.K f with
  | some fd =>
    rw [hfo] at hok
    refine Gen fun G back => ?_
    rcases funOf_spec hfo with ⟨oc, od, osl, hK⟩
    refine back ?_
    clear back
    clear G
    simp only [Bool.and_eq_true, Bool.not_eq_true', List.isEmpty_iff, beq_iff_eq, decide_eq_true_eq] at hok
    refine Gen fun G back => ?_
    rcases hok with ⟨⟨⟨⟨⟨⟨⟨⟨⟨k1, k2⟩, k3⟩, k4⟩, k5⟩, k6⟩, k7⟩, k8⟩, k9⟩, k10⟩
    refine back ?_
    clear back
    clear G
    have hfd : fnAt F.g.K f = fd := by unfold fnAt; rw [hfo]; first | done | rfl
    cases hbd : fd.body with
    | expr _ => rw [hbd] at k9; cases k9
    | stmts body =>
      have hbody : bodyAt F.g.K f = body := by unfold bodyAt; rw [hfd, hbd]; first | done | rfl
      rw [hbody] at hb
      rw [hfd] at hsc
      obtain ⟨binds, hB, hbs⟩ := hbind s vals kvals (by rw [← hg]; exact R.inK ok) hv hkv
      rw [hfd] at hB
      have hfn : fd = fnOf fd.name fd.qualname fd.params body fd.scope fd.defaults fd.kwdefaults fd.doc fd.pyModule fd.annotations fd.code fd.closureTuple := by
        cases fd
        simp only at k1 k2 k3 hbd
        subst k1 k2 k3 hbd
        rfl
      refine Gen fun G back => ?_
      rcases R.parts with ⟨g, m, news, T, Fm, lo, H, N, D⟩
      refine back ?_
      clear back
      clear G
      have okg := ok.turn T
      refine code_defCT (K := c.g.K) okg.below Fm (ok.inK.keeps okg.below.stays) N ((ok.top.keeps okg.below.stays).nolimit) (Around.frames_deeper ok.below.stack) rfl ok.fkind (by rw [hg, hK, ← hfn]) (by rw [hg]; exact k4) (by have := rm.1; (first | lia | omega)) (by rw [← hfn]; exact hB) ?_ k8 ?_ k5 k6 k7
      · refine List.all_eq_true.mpr fun y hy => ?_
        have : (y.1, absV y.2) ∈ bargs := by rw [← hbs]; exact List.mem_map_of_mem (f := fun p => (p.1, absV p.2)) hy
        have := List.all_eq_true.mp hloc _ this
        rw [hsc]; exact this
      · intro g' L' h₁ tk cells FG F' N' CA B' hlt
        let c' : Cx := { g := c.g, A₀ := c.A, base := c.base, h₀ := g', outer := c.fenv :: c.outer, L := L', qn := fd.qualname, fsc := fd.scope, fa := f, cd := fd.code, cl := cellsFrom (L' + 1) fd.scope.names [], cp := none }
        have ok' : c'.Ok := ⟨B', ok.inK, ok.top, okg.dictsPush FG, k7, k7, k6, k5, handled_none ok, ok.seer, ok.tree⟩
        have rm' : room c' d := ⟨by have := rm.1; show c.A.depth + 1 + d + 200 < _; (first | lia | omega), by have := rm.2; show c.A.units + 3 + 8 * d + 200 < _; (first | lia | omega)⟩
        obtain ⟨l', hp1, hex, R'⟩ := enter_rep FO (c' := c') rfl rfl rfl hsc rfl rfl rfl F' N' CA H hlt D (fun b o e => B'.stays b o e) hbs hnm
          (fun x hx => by have := List.all_eq_true.mp k10 x hx; simpa using this) h
        refine hb c' d FO hg ⟨hsc, fun _ => rfl, fun _ hc => by show cellsFrom (L' + 1) fd.scope.names [] = []; rw [hsc]; exact cellsFrom_none hc⟩ ok' rm' _ hp1 _ noX hex rfl fr _ _ _ R' (fun o f' l2 hp' h' tk' hq hf R2 => ?_) (fun l' => noXP)
        refine Gen fun G back => ?_
        rcases R2.parts with ⟨g2, m2, news2, T2, F2, lo2, H2, N2, D2⟩
        refine back ?_
        clear back
        clear G
        refine ⟨g2, L', m2, news2 ++ fr, T2, F2, N2, fun h3 T3 F3 N3 => ?_⟩
        cases o with
        | next =>
          cases f' <;> first | exact hf.elim | skip
          exact hP .none .none hp' h' tk' hq rfl (Rep.of (T.trans T3) F3 lo H2 N3 D2)
        | brk => exact hq.elim
        | ret v =>
          cases f' <;> first | exact hf.elim | skip
          exact hP v _ hp' h' tk' hq hf (Rep.of (T.trans T3) F3 lo H2 N3 D2)
  | none => rw [hfo] at hok; injection hok
section
variable {F : Fx}
theorem ss_raise {x : Str} {np cpos pos kp : Pos} {k : Nat} {t : Str} (hxe : x = "ValueError") (hx : x ∈ F.bt) (hk : F.sc.names.lookup x = some .globalImplicit) :
    SS F (.Raise (some (.Call (.Name x np) [.Constant (.str t) k kp] [] cpos)) none pos) (.raise "ValueError") := by
  intro c d FO hg hsc ok rm l hp Q X hev hcp fr s P E R hP hX
  subst hxe
  refine Raise_madeB PySem.F.excCall_ValueError PySem.F.excRaise_ValueError (handled_none ok) (nameB FO hg hsc ok hx (v := .type "ValueError") PyProof.Rows.Boot.«ValueError» hk (by decide) (by decide) R ⟨rfl, ?_⟩) rfl rfl
  refine spliced_more (Constant_str ?_) rfl
  refine spliced_none ⟨by simp [sizeLine_eq], fun h' e hm => ?_⟩
  refine Gen fun G back => ?_
  rcases R.parts with ⟨g, m, news, T, Fm, lo, H, N, D⟩
  refine back ?_
  clear back
  clear G
  exact hX l (.own "ValueError") e hp h' _ hev ⟨D, g, m, s.heap, T, Fm, lo, .inr ⟨"ValueError", _, news, rfl, hm.of, H, N⟩⟩
theorem storeC {c : Cx} (hsc : SCF c F) (ok : c.Ok) {x : Str} {i : Nat} {a : Addr} {w : V} {l hp fr} {s : Shared} {v : V} {val : Value} {P : Unit → Shared → Prop} {E : Value → Shared → Prop}
    (hi : F.names[i]? = some x) (hk : F.sc.names.lookup x = some .cell) (R : Rep c F.names l hp fr s.heap) (hl : lget l i = .cell a) (h0 : hp a = some (.cell w)) (hv : absV val = v)
    (h : ∀ h' tk', Rep c F.names l (hset hp a (.cell v)) fr h' → P () { s with heap := h', toks := tk' }) :
    wpAny (model c.g.prog c.g.w) c.A (storeName c.env x val) P E s := by
  have hcl := R.cellOf hi hl
  refine Gen fun G back => ?_
  rcases id R with ⟨g, T, m, Fm, lo, H, N, D⟩
  refine back ?_
  clear back
  clear G
  refine Gen fun G back => ?_
  rcases H.2 a _ h0 with ⟨ob, ho, ⟨w', hd, _⟩, _⟩
  refine back ?_
  clear back
  clear G
  refine wpAny_storeName_cell (by rw [c.env_scope]; exact ok.kind) (by rw [c.env_kindOf, hsc.1]; exact hk) hcl ⟨ob, ho, hd⟩ fun h' hv' hs => ?_
  obtain ⟨ob', ho', hd'⟩ := hv'
  exact h h' s.toks (R.upd h0 hs ho' ⟨some val, hd', fun e => by rw [e] at hv; cases val <;> simp [absV] at hv, hv⟩ (fun ws e => by cases e))
end
section
variable {F : Fx}
theorem ss_casgX {x : Str} {p pos : Pos} {i : Nat} {e : Expr} {m : ME} (hi : F.names[i]? = some x) (hk : F.sc.names.lookup x = some .cell) (he : SE F e m) : SS F (.Assign [.Name x p] e pos) (.casg i m) := by
  intro c d FO hg hsc ok rm l hp Q X hev hcp fr s P E R hP hX
  have hsw : swapsWith e (some (.Name x p)) pos.line c.env = pure false := by
    unfold swapsWith
    have hkc : c.env.kindOf x = some .cell := by rw [c.env_kindOf, hsc.1]; exact hk
    cases e <;> first | rfl | (show pure (((c.env.blockKind == .function && c.env.kindOf x == some .local) && _) && _) = _; rw [hkc, show (some NameKind.cell == some NameKind.local) = false from by decide, Bool.and_false, Bool.false_and, Bool.false_and])
  refine wpAny_Assign_Name (he c d FO hg hsc ok rm l hp _ X hev fr s _ E R (fun v y h1 hh tk hq hy R1 => ?_) (hX l)) hsw
  split at hq
  · rename_i a hl
    obtain ⟨⟨w, h0⟩, hq⟩ := hq
    exact storeC hsc ok hi hk R1 hl h0 hy fun h' tk' R' => hP .next .next _ _ h' tk' hq trivial R'
  · exact hq.elim
end
section
variable {F : Fx}
noncomputable def swapB (F : Fx) (y : Str) (py : Pos) (scope : Scope) (pos : Pos) : Bool :=
  (F.sc.names.lookup y == some .local) && (py.line == pos.line) && !(scope.names.any fun z => z.1 == y && (z.2 == .local || z.2 == .cell))
theorem ss_asgX {x y : Str} {py spos : Pos} {i : Nat} {xs : List Str} {is : List Nat} {scope : Scope} (co : CompOk F scope x xs is) (ht : F.top = true) {tg : Expr} {pos : Pos} {ifs : List Expr} {iter elt : Expr} {m : ME} (hse : ∀ env v, foldedSetIterable iter env v = pure v)
    (h : CompRun F x xs is scope tg pos ifs iter elt m) (hi : F.names[i]? = some y) (hk : F.sc.names.lookup y = some .local) (hsw : swapB F y py scope pos = true) :
    SS F (.Assign [.Name y py] (.ListComp elt [⟨tg, iter, ifs, 0⟩] scope pos) spos) (.asg i m) := by
  intro c d FO hg hsc ok rm l hp Q X hev hcp fr s P E R hP hX
  have hs : swapsWith (.ListComp elt [⟨tg, iter, ifs, 0⟩] scope pos) (some (.Name y py)) spos.line c.env = pure true := by
    simp only [swapB, Bool.and_eq_true] at hsw
    have hb : c.env.blockKind = .function := by unfold Env.blockKind; rw [c.env_scope, ok.kind]; rfl
    show pure (((c.env.blockKind == .function && c.env.kindOf y == some .local) && _) && _) = _
    rw [hb, c.env_kindOf, hsc.1]
    rw [hsw.1.1]
    show pure (((_ && true) && (py.line == pos.line)) && _) = _
    rw [hsw.1.2, hsw.2]; rfl
  rw [exec_Assign_Name_used _ _ _ _ hs]
  refine wpAny_bind (wpAny_standAt (wpAny_bind ?_))
  show wpAny _ c.A (do let _ ← comprehension (.ListComp elt [⟨tg, iter, ifs, 0⟩] scope pos) scope c.env _ (newList []) false (eval iter c.env) (some (assign (.Name y py) c.env))) _ _ s
  obtain ⟨hcells, h⟩ := h c d FO hg hsc ok rm hcp l hp (fun v h1 => Q .next (lset l i v) h1) X hev
  refine wpAny_bind (wpAny_mono (wpAny_comprehension_free (use := some (assign (.Name y py) c.env)) (Q := fun _ s' => P .next s') rfl (hse _) (closureFor_list _ (comp_look co R hcells)) co.kind co.names
    (h fr s E _ R (hX l) fun D C oC m₂ hp' h' tk' hq hNs R1 hfC => ?_)) (fun _ s' hq => wpAny_pure (wpAny_pure hq)) fun _ _ e => e)
  show wpAny _ c.A (assign (.Name y py) c.env (.ref D)) _ _ _
  refine wpAny_assign_Name (storeS FO hsc ok hcp hi hk R1 (v := .ref D) rfl fun h2 tk2 R2 => ?_)
  refine Gen fun G back => ?_
  rcases hNs with ⟨es1, ep1, hd1, hk1', hr1⟩
  refine back ?_
  clear back
  clear G
  have hgC : h2.get? C = some oC := by obtain ⟨_, _, _, _, _, _, N, _⟩ := id R2; exact (N _ (.head _)).1
  refine ⟨m₂, ⟨oC, es1, ep1, hgC, hd1, hk1', hr1⟩, fun h'' hs'' => ?_⟩
  exact hP .next .next _ _ h'' _ hq trivial (R2.drop (noC hcp) (fun b ob hne e => (hs''.2 b hne).trans e) hfC)
end
section
variable {F : Fx}
noncomputable def SH (F : Fx) (b : List Stmt) (h : MH) : Prop := ∀ c d (A' : Around), F.Ok → c.g = F.g → SCF c F → c.Ok → room c d → c.cp = none → ∀ l hp Q, execH h l hp Q → ∀ (fr : List (Addr × Obj)) (s : Shared) (P : Flow → Shared → Prop) (E : Value → Shared → Prop), Rep c F.names l hp fr s.heap →
    (∀ o f l' hp' h' tk', Q o l' hp' → rO o f → Rep c F.names l' hp' fr h' → P f { s with heap := h', toks := tk' }) → wpAny (model c.g.prog c.g.w) A' (execs b c.env) P E s
theorem sh_retB {b : Bool} {k pos p} : SH F [.Return (some (.Constant (.bool b) k pos)) p] (.retB b) := by
  intro c d A' FO hg hsc ok rm hcp l hp Q hev fr s P E R hP
  refine wpAny_execs_cons (wpAny_Return_some (Constant_bool ?_))
  exact hP (.ret (.bool b)) (.ret (.bool b)) l hp s.heap s.toks hev rfl R
theorem sh_retN {k pos p} : SH F [.Return (some (.Constant .none k pos)) p] .retN := by
  intro c d A' FO hg hsc ok rm hcp l hp Q hev fr s P E R hP
  refine wpAny_execs_cons (wpAny_Return_some (wpAny_Constant_none ?_))
  exact hP (.ret .none) (.ret .none) l hp s.heap s.toks hev rfl R
theorem sh_retS {x : Str} {y : String} {k pos p k2 p2} (hxy : x = Str.ofString y) : SH F [.Return (some (.Tuple [.Constant (.str x) k pos] k2 p2)) p] (.retS y) := by
  intro c d A' FO hg hsc ok rm hcp l hp Q hev fr s P E R hP
  subst hxy
  refine wpAny_execs_cons (wpAny_Return_some (Tuple_ ?_))
  refine spliced_more (Constant_str ?_) rfl
  refine spliced_none ?_
  obtain ⟨f1, f2⟩ := R.fresh ok
  refine Gen fun G back => ?_
  rcases R.parts with ⟨g, m, news, T, Fm, lo, H, N, D⟩
  refine back ?_
  clear back
  clear G
  refine newTuple_N Fm N (fun h' F' N' => hP (.ret _) (.ret _) l _ h' _ (hev _ f1) rfl ?_) (by simp [sizeLine_eq])
  exact Rep.more T F' lo H N' D f1 f2 ⟨_, _, rfl, rfl⟩
theorem sh_inc {x : Str} {i : Nat} {n : Int} {p p1 p2 p3 k p4 : _} (hi : F.names[i]? = some x) (hk : F.sc.names.lookup x = some .local) (hd : (x == ("__debug__" : Str)) = false) :
    SH F [.Assign [.Name x p1] (.BinOp (.Name x p2) .Add (.Constant (.int n) k p4) p3) p] (.inc i n) := by
  intro c d A' FO hg hsc ok rm hcp l hp Q hev fr s P E R hP
  refine wpAny_execs_cons (wpAny_Assign_Name ?_ (swaps_plain rfl _ _ _))
  obtain ⟨⟨hn, hc⟩, hQ⟩ := varV_iff.mp hev
  refine Gen fun G back => ?_
  rcases R.locals hi rfl hn hc with ⟨m, val, hns, hm, hab⟩
  refine back ?_
  clear back
  clear G
  refine wpAny_BinOp (wpAny_Name (wpAny_loadName_local (by rw [c.env_scope]; exact ok.kind) (by rw [c.env_kindOf, hsc.1]; exact hk) hns hm ?_) hd)
  refine wpAny_Constant_int ?_
  cases hl : lget l i <;> rw [hl] at hQ hab <;> first | exact hQ.elim | skip
  obtain ⟨t, rfl⟩ := absV_int hab
  refine PyProof.Rows.add_int ?_
  refine Gen fun G back => ?_
  rcases R.parts with ⟨g, m2, news, T, Fm, lo, H, N, D⟩
  refine back ?_
  clear back
  clear G
  rw [c.env_plain hcp]
  refine storeX_L Fm N (fun h' F' N' => wpAny_execs_nil (hP .next .next _ hp h' _ hQ trivial (Rep.of T F' ((LocX.plain hcp).mpr (((LocX.plain hcp).mp lo).set FO.nd hi rfl)) H N' D))) ok.fkind (by show c.fsc.names.lookup x = _; rw [← c.sc_plain hcp, hsc.1]; exact hk)
theorem caughtS {c : Cx} (FO : F.Ok) (hg : c.g = F.g) (hsc : SCF c F) (ok : c.Ok) (hcp : c.cp = none) (hcl : c.cl = []) {d : Nat} (rm : room c d) (hx : (Str.ofString "ValueError") ∈ F.bt) (hk : F.sc.names.lookup (Str.ofString "ValueError") = some .globalImplicit)
    {b₀ : Stmt} {suite : List Stmt} {mh : MH} (hh : SH F (b₀ :: suite) mh) {np pos : Pos} {l : List V} {hp : HP} {fr : List (Addr × Obj)} {e : Addr} {s' : Shared} {Q : Out → List V → HP → Prop}
    (hr : Raised c F.names l hp fr (.up "ValueError") e s'.heap) (hex : execH mh l hp Q) {P : Flow → Shared → Prop}
    (hP : ∀ o f l' hp' h' tk', Q o l' hp' → rO o f → Rep c F.names l' hp' fr h' → P f { s' with heap := h', toks := tk' }) :
    wpAny (model c.g.prog c.g.w) c.A (noteFrame (.ref e) c.env) (fun _ s₂ => wpAny (model c.g.prog c.g.w) c.A (setFlight (.ref e) none) (fun _ s₃ =>
      wpAny (model c.g.prog c.g.w) c.A (handleBy (.ref e) c.env [.ExceptHandler (some (.Name (Str.ofString "ValueError") np)) none (b₀ :: suite) pos]) P (fun _ _ => False) s₃) (fun _ _ => False) s₂) (fun _ _ => False) s' := by
  have hf : c.fenv = envOf c.qn c.fsc c.L c.fa c.cd := by show envX c.qn c.fsc c.L c.fa c.cd c.cl = _; rw [hcl]; rfl
  have henv : c.env = envOf c.qn c.fsc c.L c.fa c.cd := (c.env_plain hcp).trans hf
  refine Gen fun G back => ?_
  rcases hr with ⟨D, g, m, hh0, T, Fm, lo, hr⟩
  refine back ?_
  clear back
  clear G
  rcases hr with ⟨c0, t, vs, news, q, hup, hrk, hH⟩ | ⟨c0, vs, news, q, _⟩
  · cases q
    rw [hf] at hrk
    have okg := ok.turn T
    have hA : c.A = c.A₀.deeper (envOf c.qn c.fsc c.L c.fa c.cd) := by show c.A₀.deeper c.fenv = _; rw [hf]
    rw [henv, hA]
    refine caught_S0 (X := "ValueError") (T' := "ValueError") (KF := c.g.K) (g₀ := c.h₀) hrk Fm okg.below hup ok.inK ok.top okg.dicts T (by rw [hg]; exact FO.bt _ hx) PyProof.Rows.Boot.«ValueError» (by decide) PySem.F.isExc_ValueError PySem.F.notTuple_ValueError (by rw [isSubtype_type]; kernel_rfl) (fun h' g' news₂ T' F' N₂ got N' K' X' P' D' => ?_)
      ok.fkind (by show c.fsc.names.lookup _ = _; rw [← c.sc_plain hcp, hsc.1]; exact hk) (by decide) PassesOwnAt.never
    rw [← henv]
    exact hh c d _ FO hg hsc ok rm hcp l hp Q hex fr _ _ _ (Rep.of (news := news) T' F' lo hH N' D) (fun o f l' hp' h'' tk' hq hf' R' => hP o f l' hp' h'' tk' hq hf' R')
  · cases q
inductive TS (F : Fx) : Expr → Stmt → TK → Prop
  | expr {e pos} : compE e = false → TS F e (.Expr e pos) .expr
  | ret {e pos} : TS F e (.Return (some e) pos) .ret
  | asg {e x p pos i} : F.names[i]? = some x → F.sc.names.lookup x = some .local → compE e = false → TS F e (.Assign [.Name x p] e pos) (.asg i)
theorem ss_tryE {e : Expr} {st : Stmt} {t : TK} {m : ME} (ht : TS F e st t) (he : SE F e m) (htop : F.top = true) (hnc : (F.sc.names.all fun y => !(y.2 == .cell)) = true) (hx : (Str.ofString "ValueError") ∈ F.bt) (hk : F.sc.names.lookup (Str.ofString "ValueError") = some .globalImplicit)
    {b₀ : Stmt} {suite : List Stmt} {mh : MH} (hh : SH F (b₀ :: suite) mh) {np pos p2 : Pos} :
    SS F (.Try [st] [.ExceptHandler (some (.Name (Str.ofString "ValueError") np)) none (b₀ :: suite) pos] [] [] p2) (.tryE t m "ValueError" mh) := by
  intro c d FO hg hsc ok rm l hp Q X hev hcp fr s P E R hP hX
  have hcl := hsc.2.2 htop hnc
  refine wpAny_Try_except ?_
  have main : ∀ (E' : Value → Shared → Prop), (∀ e hp' h' tk', execH mh l hp' Q → Raised c F.names l hp' fr (.up "ValueError") e h' → E' (.ref e) { s with heap := h', toks := tk' }) →
      XP c F.names l fr (fun c h1 => match c with | .up c => c = "ValueError" ∧ execH mh l h1 Q | .own _ => False) E' s := by
    intro E' hE cls e hp' h' tk' hx hr
    cases cls with
    | own c => exact hx.elim
    | up c => obtain ⟨rfl, hx⟩ := hx; exact hE e hp' h' tk' hx hr
  have catch_ : ∀ e hp' h' tk', execH mh l hp' Q → Raised c F.names l hp' fr (.up "ValueError") e h' →
      wpAny (model c.g.prog c.g.w) c.A (noteFrame (.ref e) c.env) (fun _ s₂ => wpAny (model c.g.prog c.g.w) c.A (setFlight (.ref e) none) (fun _ s₃ =>
        wpAny (model c.g.prog c.g.w) c.A (handleBy (.ref e) c.env [.ExceptHandler (some (.Name (Str.ofString "ValueError") np)) none (b₀ :: suite) pos]) P E s₃) E s₂) E { s with heap := h', toks := tk' } := by
    intro e hp' h' tk' hex hr
    have h0 := caughtS (s' := { s with heap := h', toks := tk' }) FO hg hsc ok hcp hcl rm hx hk hh (np := np) (pos := pos) hr hex (P := P) (fun o f l' hp'' h'' tk'' hq hf R' => hP o f l' hp'' h'' tk'' hq hf R')
    exact wpAny_mono h0 (fun _ _ h1 => wpAny_mono h1 (fun _ _ h2 => wpAny_mono h2 (fun _ _ h3 => h3) (fun _ _ h3 => h3.elim)) (fun _ _ h3 => h3.elim)) (fun _ _ h3 => h3.elim)
  cases ht with
  | expr hc =>
    have hi : interactive c.env = false := by
      unfold interactive
      rw [show c.env.scope.kind = .function by rw [c.env_scope]; exact ok.kind]; rfl
    refine wpAny_execs_cons (wpAny_Expr_any (he c d FO hg hsc ok rm l hp _ _ hev fr s _ _ R (fun v y h1 hh tk hq hy R1 => ?_) (main _ ?_)) hi (swaps_plain hc _ _ _))
    · exact wpAny_execs_nil (wpAny_execs_nil (hP .next .next l h1 hh tk hq trivial R1))
    · exact catch_
  | ret =>
    refine wpAny_execs_cons (wpAny_Return_some (he c d FO hg hsc ok rm l hp _ _ hev fr s _ _ R (fun v y h1 hh tk hq hy R1 => ?_) (main _ ?_)))
    · exact hP (.ret v) (.ret y) l h1 hh tk hq hy R1
    · exact catch_
  | asg hi hkx hc =>
    refine wpAny_execs_cons (wpAny_Assign_Name (he c d FO hg hsc ok rm l hp _ _ hev fr s _ _ R (fun v y h1 hh tk hq hy R1 => ?_) (main _ ?_)) (swaps_plain hc _ _ _))
    · exact storeS FO hsc ok hcp hi hkx R1 hy fun h' tk' R' => wpAny_execs_nil (wpAny_execs_nil (hP .next .next _ h1 h' tk' hq trivial R'))
    · exact catch_
end
theorem entry_powT : entryFor table "pow" = some Builtin.«pow» := entryFor_of_fast (by kernel_rfl)
theorem kind_powT : builtinKind "pow" = none := by decide +kernel
theorem plain_powT : plainId "pow" = true := by decide +kernel
theorem args_powT2 (a b : Value) : argsOk "pow" ⟨[a, b], []⟩ := by unfold argsOk; kernel_rfl
theorem boot_powT : bootBuiltins "pow" = some (.builtin "pow") := by decide +kernel
theorem bind_pow2 (a b : Value) : Builtin.Builtins.bindParams "pow" ["base", "exp", "mod"] 2 ⟨[a, b], []⟩ = pure [some a, some b, none] := by kernel_rfl
theorem call_pow2 {prog : Program} {w : World} {A : Around} {E : Value → Shared → Prop} {s : Shared} {a b : Value} {Q : Value → Shared → Prop}
    (h : wpAny (model prog w) A.in1 (binaryOp .Pow a b) Q E s) : wpAny (model prog w) A (call (.builtin "pow") [a, b]) Q E s := by
  refine Calls.call_function_entry kind_powT plain_powT entry_powT (args_powT2 _ _) ?_
  unfold Builtin.«pow»
  rw [bind_pow2]
  show wpAny _ _ (do ret (← binaryOp .Pow a b)) _ _ s
  exact wpAny_bind (wpAny_mono h (fun v s' hq => wpAny_pure ⟨v, rfl, hq⟩) fun _ _ e => e)
section
variable {F : Fx}
theorem se_pow2 {x : Str} {p pos : Pos} {a b : Expr} {ma mb : ME} (hxe : x = "pow") (hx : x ∈ F.bt) (hk : F.sc.names.lookup x = some .globalImplicit) (hn : notStar a = true) (hn2 : notStar b = true) (ha : SE F a ma) (hb : SE F b mb) : SE F (.Call (.Name x p) [a, b] [] pos) (.bin .pow ma mb) := by
  intro c d FO hg hsc ok rm l hp Q X hev fr s P E R hP hX
  subst hxe
  refine Call_ (nameB FO hg hsc ok hx (v := .builtin "pow") boot_powT hk (by decide) (by decide) R ?_) rfl
  refine PyProof.Rows.callWith_builtin1 ?_ (starEach_cons hn) (by rw [starEach_cons hn2]; rfl)
  refine spliced_more (ha c d FO hg hsc ok rm l hp _ X hev fr s _ E R (fun v y h1 hh tk hq hy R1 => ?_) hX) (starEach_cons hn)
  refine spliced_more (hb c d FO hg hsc ok rm l h1 _ X hq fr _ _ E R1 (fun w z h2 hh2 tk2 hq2 hz R2 => ?_) hX) (starEach_cons hn2)
  refine spliced_none ?_
  obtain ⟨i, j, rfl, rfl⟩ : ∃ i j, v = .int i ∧ w = .int j := by cases v <;> first | exact hq2.elim | (cases w <;> first | exact hq2.elim | exact ⟨_, _, rfl, rfl⟩)
  obtain ⟨t, rfl⟩ := absV_int hy
  obtain ⟨u, rfl⟩ := absV_int hz
  exact call_pow2 (PyProof.Rows.pow_int hq2.1.1 hq2.1.2 (hP _ _ h2 hh2 _ hq2.2 rfl R2))
end
theorem args_powT3 (a b c : Value) : argsOk "pow" ⟨[a, b, c], []⟩ := by unfold argsOk; kernel_rfl
theorem args_int_pow3 (a b c : Value) : argsOk "int.__pow__" ⟨[a, b, c], []⟩ := by unfold argsOk; kernel_rfl
theorem bind_pow3 (a b c : Value) : Builtin.Builtins.bindParams "pow" ["base", "exp", "mod"] 2 ⟨[a, b, c], []⟩ = pure [some a, some b, some c] := by kernel_rfl
/-! the power by bits -/
theorem powMod_go (b e m : Nat) : ∀ (k p : Nat), p % m = b ^ (e >>> k) % m → ((List.range k).reverse.foldl (fun p i => if e.testBit i then p * p % m * b % m else p * p % m) p) % m = b ^ e % m
  | 0, p, h => by simpa using h
  | k + 1, p, h => by
    rw [List.range_succ, List.reverse_append, List.reverse_cons, List.reverse_nil, List.nil_append, List.cons_append, List.nil_append, List.foldl_cons]
    refine powMod_go b e m k _ ?_
    have e1 : e >>> k = 2 * (e >>> (k + 1)) + (if e.testBit k then 1 else 0) := by
      rw [Nat.shiftRight_succ]
      have := Nat.div_add_mod (e >>> k) 2
      have h2 : (e >>> k) % 2 = (if e.testBit k then 1 else 0) := by
        unfold Nat.testBit
        rw [Nat.and_comm, Nat.and_one_is_mod]
        rcases Nat.mod_two_eq_zero_or_one (e >>> k) with h | h <;> simp [h]
      (first | lia | omega)
    rw [e1]
    cases hb : e.testBit k with
    | false =>
      simp only [Bool.false_eq_true, if_false, Nat.add_zero]
      rw [Nat.mod_mod, Nat.mul_mod, h, ← Nat.mul_mod, Nat.two_mul, Nat.pow_add]
    | true =>
      simp only [if_true]
      have h2 : p * p % m = b ^ (2 * e >>> (k + 1)) % m := by rw [Nat.mul_mod, h, ← Nat.mul_mod, Nat.two_mul, Nat.pow_add]
      rw [Nat.mod_mod, Nat.mul_mod, Nat.mod_mod, h2, ← Nat.mul_mod, Nat.pow_succ]
theorem powMod_eq (b e m : Nat) (hm : 0 < m) : Builtin.powMod b e m = b ^ e % m := by
  have h1 : Builtin.powMod b e m % m = b ^ e % m := by
    unfold Builtin.powMod
    refine powMod_go b e m _ _ ?_
    have : e >>> Builtin.Int.intBits e = 0 := by
      rw [Nat.shiftRight_eq_div_pow]
      apply Nat.div_eq_of_lt
      unfold Builtin.Int.intBits
      split
      · rename_i h; have : e = 0 := by simpa using h
        subst this; simp
      · exact Nat.lt_log2_self
    rw [this, Nat.mod_mod]; rfl
  have h2 : Builtin.powMod b e m < m := by
    unfold Builtin.powMod
    have : ∀ (l : List Nat) (p : Nat), p < m → l.foldl (fun p i => if e.testBit i then p * p % m * b % m else p * p % m) p < m := by
      intro l
      induction l with
      | nil => intro p h; exact h
      | cons i r ih => intro p h; refine ih _ ?_; show (if e.testBit i = true then _ else _) < m; split <;> exact Nat.mod_lt _ hm
    exact this _ _ (Nat.mod_lt _ hm)
  rw [Nat.mod_eq_of_lt h2] at h1; exact h1
theorem int_pow3 (a : Int) (t : Tok) (b : Int) (u : Tok) (c : Int) (v : Tok) (hc0 : ¬(c == 0) = true) (hc1 : ¬ (c.natAbs == 1) = true) (hb : ¬ b < 0) :
    Gives (Builtin.«int.__pow__» ⟨[.int a t, .int b u, .int c v], []⟩) (.int (if (decide (c < 0) && ((Builtin.powMod (a % (c.natAbs : Int)).toNat b.natAbs c.natAbs : Nat) : Int) != 0) = true then
        ((Builtin.powMod (a % (c.natAbs : Int)).toNat b.natAbs c.natAbs : Nat) : Int) - c.natAbs else ((Builtin.powMod (a % (c.natAbs : Int)).toNat b.natAbs c.natAbs : Nat) : Int))) :=
  .of_wp fun M A E s Q h => by obtain ⟨hp, g, d, tk, os⟩ := s; wp_walk; exact ⟨_, rfl, h⟩
theorem pow_emod' (a : Int) (n : Nat) (m : Int) : (a % m) ^ n % m = a ^ n % m := by
  induction n with
  | zero => simp
  | succ n ih => rw [Int.pow_succ, Int.pow_succ, Int.mul_emod, ih, Int.emod_emod, ← Int.mul_emod]
theorem powMod_int {a c : Int} (n : Nat) (hc : 0 < c) : ((Builtin.powMod (a % (c.natAbs : Int)).toNat n c.natAbs : Nat) : Int) = (a ^ n).fmod c := by
  have hn : (c.natAbs : Int) = c := Int.natAbs_of_nonneg (by (first | lia | omega))
  rw [powMod_eq _ _ _ (by (first | lia | omega)), Int.fmod_eq_emod_of_nonneg _ (by (first | lia | omega))]
  push_cast
  rw [hn, Int.toNat_of_nonneg (Int.emod_nonneg _ (by (first | lia | omega))), pow_emod']
theorem call_int_pow3 {prog : Program} {w : World} {A : Around} {E : Value → Shared → Prop} {s : Shared} {a b c : Int} {t u v : Tok} (hb : 0 ≤ b) (hc : 0 < c) {Q : Value → Shared → Prop}
    (h : Q (.int ((a ^ b.toNat).fmod c) s.toks) { s with toks := s.toks + 1 }) : wpAny (model prog w) A (call (.builtin "int.__pow__") [.int a t, .int b u, .int c v]) Q E s := by
  by_cases h1 : c = 1
  · subst h1
    refine call_gives F.slot_int_pow (typeIs_int s a t) F.entry_int_pow (args_int_pow3 _ _ _) (AutoIntG3.int___pow___int_int_int_1 a t b u 1 v (by decide) (by decide)) ?_
    have e : (a ^ b.toNat).fmod 1 = 0 := by rw [Int.fmod_eq_emod_of_nonneg _ (by decide)]; (first | lia | omega)
    rw [e] at h
    exact h
  · refine call_gives F.slot_int_pow (typeIs_int s a t) F.entry_int_pow (args_int_pow3 _ _ _) (int_pow3 a t b u c v (by simp; (first | lia | omega)) (by simp; (first | lia | omega)) (by (first | lia | omega))) ?_
    rw [show decide (c < 0) = false by simp; (first | lia | omega), Bool.false_and]
    simp only [Bool.false_eq_true, if_false]
    rw [powMod_int _ hc, show b.natAbs = b.toNat by (first | lia | omega)]
    exact h
theorem call_pow3 {prog : Program} {w : World} {A : Around} {E : Value → Shared → Prop} {s : Shared} {a b c : Int} {t u v : Tok} (hb : 0 ≤ b) (hc : 0 < c) {Q : Value → Shared → Prop}
    (h : Q (.int ((a ^ b.toNat).fmod c) s.toks) { s with toks := s.toks + 1 }) : wpAny (model prog w) A (call (.builtin "pow") [.int a t, .int b u, .int c v]) Q E s := by
  refine Calls.call_function_entry kind_powT plain_powT entry_powT (args_powT3 _ _ _) ?_
  unfold Builtin.«pow»
  refine wpAny_bind (wpAny_of_eq (bind_pow3 _ _ _) ?_)
  show wpAny _ _ (rule _ >>= _) _ _ _
  refine wpAny_bind (wpAny_rule ?_)
  refine wpAny_bind (wpAny_typeOf (typeIs_int s a t) ?_)
  show wpAny _ _ (_ >>= _) _ _ _
  refine wpAny_bind (wpAny_of_eq F.slot_int_pow.lookup ?_)
  show wpAny _ _ (_ >>= _) _ _ _
  refine wpAny_bind (wpAny_callSpecial?_slot (name := Str.ofString "__pow__") (typeIs_int s a t) F.slot_int_pow (call_int_pow3 hb hc ?_))
  show wpAny _ _ (if (_ != _) = true then ret _ else _) _ _ _
  rw [if_pos (by rfl)]
  exact wpAny_pure ⟨_, rfl, h⟩
section
variable {F : Fx}
theorem se_pow3 {x : Str} {p pos : Pos} {a b e : Expr} {ma mb me : ME} (hxe : x = "pow") (hx : x ∈ F.bt) (hk : F.sc.names.lookup x = some .globalImplicit) (hn : notStar a = true) (hn2 : notStar b = true) (hn3 : notStar e = true) (ha : SE F a ma) (hb : SE F b mb) (he : SE F e me) :
    SE F (.Call (.Name x p) [a, b, e] [] pos) (.pow3 ma mb me) := by
  intro c d FO hg hsc ok rm l hp Q X hev fr s P E R hP hX
  subst hxe
  refine Call_ (nameB FO hg hsc ok hx (v := .builtin "pow") boot_powT hk (by decide) (by decide) R ?_) rfl
  refine PyProof.Rows.callWith_builtin1 ?_ (starEach_cons hn) (by rw [starEach_cons hn2, starEach_cons hn3]; rfl)
  refine spliced_more (ha c d FO hg hsc ok rm l hp _ X hev fr s _ E R (fun v y h1 hh tk hq hy R1 => ?_) hX) (starEach_cons hn)
  refine spliced_more (hb c d FO hg hsc ok rm l h1 _ X hq fr _ _ E R1 (fun w z h2 hh2 tk2 hq2 hz R2 => ?_) hX) (starEach_cons hn2)
  refine spliced_more (he c d FO hg hsc ok rm l h2 _ X hq2 fr _ _ E R2 (fun u z3 h3 hh3 tk3 hq3 hz3 R3 => ?_) hX) (starEach_cons hn3)
  refine spliced_none ?_
  obtain ⟨i, j, k, rfl, rfl, rfl⟩ : ∃ i j k, v = .int i ∧ w = .int j ∧ u = .int k := by cases v <;> first | exact hq3.elim | (cases w <;> first | exact hq3.elim | (cases u <;> first | exact hq3.elim | exact ⟨_, _, _, rfl, rfl, rfl⟩))
  · obtain ⟨t, rfl⟩ := absV_int hy
    obtain ⟨u, rfl⟩ := absV_int hz
    obtain ⟨u3, rfl⟩ := absV_int hz3
    exact call_pow3 hq3.1 hq3.2.1 (hP _ _ h3 hh3 _ hq3.2.2 rfl R3)
end
theorem ints_abs {vs : List Value} {ns : List Int} (H : IntsAre vs ns) : vs.map absV = ns.map V.int := by
  induction H with
  | nil => rfl
  | cons n t r ih => exact congrArg (V.int n :: ·) ih
theorem ints_of_abs : ∀ {vs : List Value} {ns : List Int}, vs.map absV = ns.map V.int → IntsAre vs ns
  | [], [], _ => .nil
  | [], _ :: _, h => by cases h
  | _ :: _, [], h => by cases h
  | v :: vs, n :: ns, h => by
    rw [List.map_cons, List.map_cons] at h
    obtain ⟨t, rfl⟩ := absV_int (List.head_eq_of_cons_eq h)
    exact .cons n t (ints_of_abs (List.tail_eq_of_cons_eq h))
noncomputable def plcC? (F : Fx) (x : Str) : Option (Nat × Bool) :=
  match loc? F x with
  | some i => some (i, false)
  | none => match fIdx F.names x 0 with
    | some i => if F.sc.names.lookup x = some .cell then some (i, true) else none
    | none => none
noncomputable def consC : Option (Nat × Bool) → Option (List (Nat × Bool)) → Option (List (Nat × Bool))
  | some p, some is => some (p :: is)
  | _, _ => none
noncomputable def tgtC? (F : Fx) : List Expr → Option (List (Nat × Bool))
  | [] => some []
  | .Name x _ :: r => consC (plcC? F x) (tgtC? F r)
  | _ :: _ => none
theorem tgtC?_cons {F : Fx} {e : Expr} {r : List Expr} {is : List (Nat × Bool)} (h : tgtC? F (e :: r) = some is) :
    ∃ x p q js, e = .Name x p ∧ plcC? F x = some q ∧ tgtC? F r = some js ∧ is = q :: js := by
  cases e <;> first | (injection h; done) | skip
  rename_i x p
  have h : consC (plcC? F x) (tgtC? F r) = some is := h
  cases ha : plcC? F x with
  | none => rw [ha] at h; injection h
  | some i =>
    rw [ha] at h
    cases hb : tgtC? F r with
    | none => rw [hb] at h; injection h
    | some q =>
      rw [hb] at h
      injection h with h
      exact ⟨x, p, i, q, rfl, ha, rfl, h.symm⟩
theorem plcC?_spec {F : Fx} {x : Str} {q : Nat × Bool} (h : plcC? F x = some q) : (∃ i, q = (i, false) ∧ loc? F x = some i) ∨ (∃ i, q = (i, true) ∧ fIdx F.names x 0 = some i ∧ F.sc.names.lookup x = some .cell) := by
  unfold plcC? at h
  cases ha : loc? F x with
  | some i => rw [ha] at h; injection h with h; exact .inl ⟨i, h.symm, rfl⟩
  | none =>
    rw [ha] at h
    cases hb : fIdx F.names x 0 with
    | none => rw [hb] at h; injection h
    | some i =>
      rw [hb] at h
      by_cases e : F.sc.names.lookup x = some .cell
      · have h := (if_pos e).symm.trans h
        injection h with h
        exact .inr ⟨i, h.symm, rfl, e⟩
      · have h := (if_neg e).symm.trans h
        injection h
section
variable {F : Fx}
theorem se_sorted {x : Str} {p pos : Pos} {a : Expr} {ma : ME} (hxe : x = "sorted") (hx : x ∈ F.bt) (hk : F.sc.names.lookup x = some .globalImplicit) (hn : notStar a = true) (ha : SE F a ma) : SE F (.Call (.Name x p) [a] [] pos) (.sorted ma) := by
  intro c d FO hg hsc ok rm l hp Q X hev fr s P E R hP hX
  subst hxe
  refine Call_ (nameB FO hg hsc ok hx (v := .builtin "sorted") boot_sorted hk (by decide) (by decide) R ?_) rfl
  refine PyProof.Rows.callWith_builtin1 ?_ (starEach_cons hn) rfl
  refine spliced_more (ha c d FO hg hsc ok rm l hp _ X hev fr s _ E R (fun v y h1 hh tk hq hy R1 => ?_) hX) (starEach_cons hn)
  refine spliced_none ?_
  cases v with
  | ref r =>
    cases absV_ref hy
    refine Gen fun G back => ?_
    rcases hq with ⟨ns, e1, h64, hq⟩
    refine back ?_
    clear back
    clear G
    obtain ⟨items, hi, hl⟩ := R1.listI ok e1
    refine Gen fun G back => ?_
    rcases R1.parts with ⟨g, m, news, T, Fm, lo, H, N, D⟩
    refine back ?_
    clear back
    clear G
    refine kso_sorted Fm N (vs := items.toList) (by simpa using hl) (ints_of_abs hi) h64 fun D' vs' ns' c' h' F' N' hlt hI _ hp' hs _ => ?_
    obtain ⟨f1, f2⟩ := fresh_of ok T H N' hlt
    exact hP _ _ _ h' tk (hq ns' hp' hs _ f1) rfl (Rep.more T F' lo H N' D f1 f2 ⟨vs'.toArray, c', rfl, by simpa using ints_abs hI⟩)
  | _ => exact hq.elim
theorem tgtC?_assign {c : Cx} (FO : F.Ok) (hsc : SCF c F) (ok : c.Ok) (hcp : c.cp = none) : ∀ {ts : List Expr} {is : List (Nat × Bool)}, tgtC? F ts = some is →
    ((assignEach ts c.env).length = ts.length ∧ ts.length = is.length ∧ List.findIdx? (fun x => x.fst) (assignEach ts c.env) = none) ∧
    ∀ (l : List V) (hp : HP) (fr : List (Addr × Obj)) (s : Shared) (vs : List V) (vals : List Value) (K : List V → HP → Prop) (P : Unit → Shared → Prop) (E : Value → Shared → Prop), vals.map absV = vs → putN l is vs hp K → Rep c F.names l hp fr s.heap →
      (∀ l' hp' h' tk', K l' hp' → Rep c F.names l' hp' fr h' → P () { s with heap := h', toks := tk' }) →
      wpAny (model c.g.prog c.g.w) c.A (assignInOrder ((assignEach ts c.env).map (fun x => x.snd)) vals) P E s
  | [], is, h => by
    cases h
    refine ⟨⟨rfl, rfl, rfl⟩, fun l hp fr s vs vals K P E hv hq R hP => ?_⟩
    cases vals with
    | nil => subst hv; exact assignInOrder_nil (hP _ _ s.heap s.toks hq R)
    | cons y r => subst hv; exact hq.elim
  | e :: r, is, h => by
    refine Gen fun G back => ?_
    rcases tgtC?_cons h with ⟨x, p, q, js, hz23, hq0, hr, hz24⟩
    refine back ?_
    clear back
    clear G
    subst hz23
    subst hz24
    obtain ⟨a, ih⟩ := tgtC?_assign FO hsc ok hcp hr
    refine ⟨assignEach_ok a, fun l hp fr s vs vals K P E hv hq R hP => ?_⟩
    rcases plcC?_spec hq0 with ⟨i, rfl, hi⟩ | ⟨i, rfl, hi, hcell⟩
    · obtain ⟨b1, b2, b3⟩ := loc?_spec hi
      cases vals with
      | nil => subst hv; exact hq.elim
      | cons y ys' =>
        subst hv
        refine assignInOrder_cons (t := assign (.Name x p) c.env) ?_
        exact PyProof.Rows.assign_Name (storeS FO hsc ok hcp b1 b2 R rfl fun h' tk' R' => ih _ _ _ _ _ _ _ _ _ rfl hq R' fun l2 hp2 h2 tk2 hq2 R2 => hP l2 hp2 h2 tk2 hq2 R2)
    · have b1 : F.names[i]? = some x := by simpa using (fIdx_get hi).2
      cases vals with
      | nil => subst hv; exact hq.elim
      | cons y ys' =>
        subst hv
        refine assignInOrder_cons (t := assign (.Name x p) c.env) ?_
        refine Gen fun G back => ?_
        rcases putN_cell hq with ⟨a, hla, ⟨w, h0⟩, hq⟩
        refine back ?_
        clear back
        clear G
        exact PyProof.Rows.assign_Name (storeC hsc ok b1 hcell R hla h0 rfl fun h' tk' R' => ih _ _ _ _ _ _ _ _ _ rfl hq R' fun l2 hp2 h2 tk2 hq2 R2 => hP l2 hp2 h2 tk2 hq2 R2)
theorem ss_asgC {ts es : List Expr} {k k' p p' pos} {is : List (Nat × Bool)} {ms : ME} (ht : tgtC? F ts = some is) (hs : swr F.sc ts es = some none) (hl : ts.length = es.length) (hsz : es.length ≤ 100) (hes : SEs F es ms) :
    SS F (.Assign [.Tuple ts k p] (.Tuple es k' p') pos) (.asgC is ms) := by
  intro c d FO hg hsc ok rm l hp Q X hev hcp fr s P E R hP hX
  refine Gen fun G back => ?_
  rcases tgtC?_assign (c := c) FO hsc ok hcp ht with ⟨⟨a1, a2, a3⟩, hasg⟩
  refine back ?_
  clear back
  clear G
  have hkf : F.sc.kind = .function := hsc.1 ▸ ok.kind
  have hsw : ∀ t, swapsWithSole [t] (.Tuple es k' p') pos.line c.env = pure false := fun t => swaps_plain (e := .Tuple es k' p') rfl (some t) pos.line c.env
  refine Assign_Tuple ?_ (hsw _) (swr_spec hs (c.env_scope.trans hsc.1) hkf)
  refine Tuple_ (hes c d FO hg hsc ok rm l hp _ X hev p' fr s _ E R (fun vs vals h1 hh tk hq hx R1 => ?_) (hX l))
  have hlv : vs.length = is.length := by
    have : ∀ (is : List (Nat × Bool)) (vs : List V) (l : List V) (h : HP) (K : List V → HP → Prop), putN l is vs h K → vs.length = is.length := by
      intro is
      induction is with
      | nil => intro vs l h K hq; cases vs with
        | nil => rfl
        | cons _ _ => exact hq.elim
      | cons q is ih =>
        intro vs l h K hq
        obtain ⟨i, b⟩ := q
        cases vs with
        | nil => cases b <;> exact hq.elim
        | cons v vs =>
          cases b with
          | false => exact congrArg (· + 1) (ih vs _ h K hq)
          | true =>
            refine Gen fun G back => ?_
            rcases putN_cell hq with ⟨a, _, _, hq⟩
            refine back ?_
            clear back
            clear G
            exact congrArg (· + 1) (ih vs _ _ K hq)
    exact this _ _ _ _ _ hq
  refine Gen fun G back => ?_
  rcases R1.parts with ⟨g, m, news, T, Fm, lo, H, N, D⟩
  refine back ?_
  clear back
  clear G
  have hvl : vals.length = vs.length := by rw [← hx]; simp
  refine newTuple_N Fm N (fun h' F' N' => ?_) (by rw [sizeLine_eq]; (first | lia | omega))
  refine unpackN_ F' N' (t := hh.objs.size) (items := vals.toArray) ⟨_, (N' _ (.head _)).1, rfl, _, rfl⟩ (handled_none ok) (by rw [a1, a2, ← hlv, ← hvl]; simp) a3 fun h2 F2 N2 => ?_
  exact hasg _ _ _ _ vs vals.toArray.toList _ _ _ (by simpa [rVs] using hx) hq (Rep.of T F2 lo H (fun p hp => N2 p (.tail _ hp)) D) fun l3 hp3 h3 tk3 hq3 R3 => hP .next .next _ _ h3 tk3 hq3 trivial R3
end
theorem Rep.its {c : Cx} {names l hp fr h h'} {os os' : List (Addr × Obj)} (R : Rep c names l hp (os ++ fr) h) (hcp : c.cp = none) (ha : ∀ p ∈ os', p.1 ∈ os.map (·.1))
    (hs : ∀ b ob, b ∉ os.map (·.1) → h.get? b = some ob → h'.get? b = some ob) (ho : ∀ p ∈ os', h'.get? p.1 = some p.2) (hfr : ∀ p ∈ fr, p.1 ∉ os.map (·.1)) : Rep c names l hp (os' ++ fr) h' := by
  refine Gen fun G back => ?_
  rcases R with ⟨g, T, m, Fm, lo, H, N, D⟩
  refine back ?_
  clear back
  clear G
  have Ni : ∀ a, a ∈ os.map (·.1) → a ≠ c.L ∧ g.get? a = none ∧ hp a = none := fun a ha => by
    obtain ⟨p, hp', rfl⟩ := List.mem_map.mp ha
    exact ⟨(N p (List.mem_append_left _ hp')).2.1, (N p (List.mem_append_left _ hp')).2.2, D p (List.mem_append_left _ hp')⟩
  refine ⟨g, T, m, ⟨Fm.ns.at' fun ob e => hs _ _ (fun q => (Ni _ q).1 rfl) e, fun b ob e => hs b ob (fun q => by rw [(Ni _ q).2.1] at e; cases e) (Fm.keep b ob e), Fm.above⟩, lo.any hcp, ⟨H.1, fun a x hx => ?_⟩, fun p hp' => ?_, fun p hp' => ?_⟩
  · have := H.2 a x hx
    have hne : a ∉ os.map (·.1) := fun q => by rw [(Ni _ q).2.2] at hx; cases hx
    cases x with
    | ro vs => exact this
    | list vs => obtain ⟨ob, h1, h2⟩ := this; exact ⟨ob, hs _ _ hne h1, h2⟩
    | tup vs => obtain ⟨ob, h1, h2⟩ := this; exact ⟨ob, hs _ _ hne h1, h2⟩
    | cell vs => obtain ⟨ob, h1, h2⟩ := this; exact ⟨ob, hs _ _ hne h1, h2⟩
    | rng _ _ _ => obtain ⟨ob, h1, h2⟩ := this; exact ⟨ob, hs _ _ hne h1, h2⟩
    | dict _ => obtain ⟨ob, h1, h2⟩ := this; exact ⟨ob, hs _ _ hne h1, h2⟩
  · rcases List.mem_append.mp hp' with q | q
    · have := Ni p.1 (ha p q)
      exact ⟨ho p q, this.1, this.2.1⟩
    · exact ⟨hs _ _ (hfr p q) (N p (List.mem_append_right _ q)).1, (N p (List.mem_append_right _ q)).2⟩
  · rcases List.mem_append.mp hp' with q | q
    · exact (Ni p.1 (ha p q)).2.2
    · exact D p (List.mem_append_right _ q)
theorem Rep.less {c : Cx} {names l hp fr h} {os : List (Addr × Obj)} (R : Rep c names l hp (os ++ fr) h) (hcp : c.cp = none) : Rep c names l hp fr h := by
  refine Gen fun G back => ?_
  rcases R with ⟨g, T, m, Fm, lo, H, N, D⟩
  refine back ?_
  clear back
  clear G
  exact ⟨g, T, m, Fm, lo.any hcp, H, fun p hp' => N p (List.mem_append_right _ hp'), fun p hp' => D p (List.mem_append_right _ hp')⟩
theorem Rep.drops {c : Cx} {names l hp fr h h'} {os : List (Addr × Obj)} (R : Rep c names l hp (os ++ fr) h) (hcp : c.cp = none) (hfr : ∀ p ∈ fr, p.1 ∉ os.map (·.1))
    (hs : ∀ b ob, b ∉ os.map (·.1) → h.get? b = some ob → h'.get? b = some ob) : Rep c names l hp fr h' := R.its (os' := []) hcp (fun _ h => nomatch h) hs (fun _ h => nomatch h) hfr
theorem Rep.news {c : Cx} {names l hp fr h h'} {os : List (Addr × Obj)} (ok : c.Ok) (R : Rep c names l hp fr h) (hcp : c.cp = none) (hs : ∀ b ob, h.get? b = some ob → h'.get? b = some ob)
    (ho : ∀ p ∈ os, h'.get? p.1 = some p.2 ∧ h.objs.size ≤ p.1) : Rep c names l hp (os ++ fr) h' := by
  refine Gen fun G back => ?_
  rcases R with ⟨g, T, m, Fm, lo, H, N, D⟩
  refine back ?_
  clear back
  clear G
  have up : ∀ {a : Addr} {o : Obj}, h.objs.size ≤ a → h.get? a = some o → False := fun ha e => absurd (Heap.lt_size e) (Nat.not_lt.mpr ha)
  refine ⟨g, T, m, ⟨Fm.ns.at' fun ob e => hs _ _ e, fun b ob e => hs b ob (Fm.keep b ob e), Fm.above⟩, lo.any hcp, ⟨H.1, fun a x hx => ?_⟩, fun p hp' => ?_, fun p hp' => ?_⟩
  · have := H.2 a x hx
    cases x with
    | ro vs => exact this
    | list vs => obtain ⟨ob, h1, h2⟩ := this; exact ⟨ob, hs _ _ h1, h2⟩
    | tup vs => obtain ⟨ob, h1, h2⟩ := this; exact ⟨ob, hs _ _ h1, h2⟩
    | cell vs => obtain ⟨ob, h1, h2⟩ := this; exact ⟨ob, hs _ _ h1, h2⟩
    | rng _ _ _ => obtain ⟨ob, h1, h2⟩ := this; exact ⟨ob, hs _ _ h1, h2⟩
    | dict _ => obtain ⟨ob, h1, h2⟩ := this; exact ⟨ob, hs _ _ h1, h2⟩
  · rcases List.mem_append.mp hp' with q | q
    · obtain ⟨a, b⟩ := ho p q
      refine Gen fun G back => ?_
      rcases Fm.ns with ⟨oL, es, ep, hL, _⟩
      refine back ?_
      clear back
      clear G
      refine ⟨a, fun e => ?_, ?_⟩
      · rw [e] at b; exact up b hL
      · cases e : g.get? p.1 with
        | none => rfl
        | some o => exact (up b (Fm.keep _ _ e)).elim
    · exact ⟨hs _ _ (N p q).1, (N p q).2⟩
  · rcases List.mem_append.mp hp' with q | q
    · obtain ⟨a, b⟩ := ho p q
      cases e : hp p.1 with
      | none => rfl
      | some o =>
        have := H.2 _ _ e
        cases o with
        | ro vs => obtain ⟨it, ⟨ob, hb, _⟩, _⟩ := this; exact (up b (Fm.keep _ _ ((ok.turn T).below.stays _ _ hb))).elim
        | list vs => obtain ⟨ob, h1, _⟩ := this; exact (up b h1).elim
        | tup vs => obtain ⟨ob, h1, _⟩ := this; exact (up b h1).elim
        | cell vs => obtain ⟨ob, h1, _⟩ := this; exact (up b h1).elim
        | rng _ _ _ => obtain ⟨ob, h1, _⟩ := this; exact (up b h1).elim
        | dict _ => obtain ⟨ob, h1, _⟩ := this; exact (up b h1).elim
    · exact D p q
section
variable {F : Fx}
theorem forSM {c : Cx} (FO : F.Ok) (hsc : SCF c F) (ok : c.Ok) (hcp : c.cp = none) {tgt : Expr} {b : List Stmt} {m : MS} {d : Nat} (hg : c.g = F.g) (rm : room c d) (hb : SB F b m) {n : Nat}
    {upd : Nat → List V → (List V → Prop) → Prop} {K : HP → Prop} {Q : Out → List V → HP → Prop} {l : List V} {hp : HP} {fr : List (Addr × Obj)} {s : Shared} {it : Addr} (It : Nat → List (Addr × Obj) → Prop)
    (next : ∀ k l hp os (s' : Shared) (PN : Option Value → Shared → Prop) (E : Value → Shared → Prop), K hp → It k os → Rep c F.names l hp (os ++ fr) s'.heap → k ≤ n →
      (∀ val h' tk', k < n → (∀ (K' : List V → Prop) (P : Unit → Shared → Prop), upd k l K' → (∀ l' os' h2 tk2, K' l' → It (k + 1) os' → Rep c F.names l' hp (os' ++ fr) h2 → P () { s' with heap := h2, toks := tk2 }) →
          wpAny (model c.g.prog c.g.w) c.A (letOwnedTupleGo tgt (.ref it) val) (fun _ s3 => wpAny (model c.g.prog c.g.w) c.A (assign tgt c.env val) P E s3) E { s' with heap := h', toks := tk' }) →
        PN (some val) { s' with heap := h', toks := tk' }) →
      (k = n → ∀ h' tk', Rep c F.names l hp fr h' → PN Option.none { s' with heap := h', toks := tk' }) → wpAny (model c.g.prog c.g.w) c.A (pyNext (.ref it)) PN E s')
    {os₀ : List (Addr × Obj)} (h0 : It 0 os₀) (R0 : Rep c F.names l hp (os₀ ++ fr) s.heap)
    (hK : ∃ I : Nat → List V → HP → Prop, I 0 l hp ∧
      (∀ k l h, k < n → I k l h → K h ∧ upd k l fun l1 => exec F.g d m l1 h (fun o l2 h2 => match o with
        | .next => I (k + 1) l2 h2 | .brk => Q .next l2 h2 | .ret v => Q (.ret v) l2 h2) noX) ∧
      (∀ l h, I n l h → K h ∧ Q .next l h)) {R : Result → Shared → Prop}
    (hR : ∀ o f l' hp' h' tk', Q o l' hp' → rO o f → Rep c F.names l' hp' fr h' → R (.ok f) { s with heap := h', toks := tk' }) :
    codeAny (model c.g.prog c.g.w) c.A (.forLoop tgt (.ref it) b [] c.env) R s := by
  refine Gen fun G back => ?_
  rcases hK with ⟨I, hI0, step, fin⟩
  refine back ?_
  clear back
  clear G
  refine codeAny_forLoop_any (fun j s' => ∃ k l' hp' os h' tk', j = n + 1 - k ∧ k ≤ n ∧ I k l' hp' ∧ It k os ∧ Rep c F.names l' hp' (os ++ fr) h' ∧ s' = { s with heap := h', toks := tk' }) ?_ _ ⟨0, l, hp, os₀, s.heap, s.toks, rfl, Nat.zero_le _, hI0, h0, R0, rfl⟩
  intro j s' qz25
  refine Gen fun G back => ?_
  rcases qz25 with ⟨k, l1, hp1, os1, hh1, tk1, hz26, hk1, hI, hO, R1, hz27⟩
  refine back ?_
  clear back
  clear G
  subst hz26
  subst hz27
  have hKh : K hp1 := by
    by_cases hlt : k < n
    · exact (step k l1 hp1 hlt hI).1
    · have : k = n := by (first | lia | omega)
      subst this
      exact (fin l1 hp1 hI).1
  refine next k l1 hp1 os1 _ _ _ hKh hO R1 hk1 (fun val h' tk' hlt item => ?_) (fun hkl h' tk' R2 => ?_)
  · dsimp only
    refine item _ _ (step k l1 hp1 hlt hI).2 fun l3 os3 h3 tk3 hq3 hO3 R3 => ?_
    refine hb c d FO hg hsc ok rm _ hp1 _ noX hq3 hcp _ _ _ _ R3 (fun o f l4 h4 hh4 tk4 hq4 hf R4 => ?_) fun _ => noXP
    cases o with
    | next =>
      cases f <;> first | exact hf.elim | skip
      exact ⟨n + 1 - (k + 1), by (first | lia | omega), k + 1, l4, h4, os3, hh4, tk4, rfl, hlt, hq4, hO3, R4, rfl⟩
    | brk =>
      cases f <;> first | exact hf.elim | skip
      exact hR .next .next l4 h4 hh4 tk4 hq4 trivial (R4.less hcp)
    | ret v =>
      cases f <;> first | exact hf.elim | skip
      exact hR (.ret v) _ l4 h4 hh4 tk4 hq4 hf (R4.less hcp)
  · dsimp only
    subst hkl
    exact wpAny_execs_nil (hR .next .next l1 hp1 h' tk' (fin l1 hp1 hI).2 trivial R2)
theorem assignT {c : Cx} (FO : F.Ok) (hsc : SCF c F) (ok : c.Ok) (hcp : c.cp = none) {ts : List Expr} {k p} {xs : List Str} {is : List Nat} (ht : tgt? F ts = some (xs, is)) {T : Addr} {items : Array Value} {l : List V} {hp : HP} {fr : List (Addr × Obj)} {s : Shared}
    {P : Unit → Shared → Prop} {E : Value → Shared → Prop} (hT : IsTup s.heap T items) (hl : items.size = is.length) (R : Rep c F.names l hp fr s.heap)
    (hP : ∀ h' tk', Rep c F.names (lsetN l is (items.toList.map absV)) hp fr h' → P () { s with heap := h', toks := tk' }) : wpAny (model c.g.prog c.g.w) c.A (assign (.Tuple ts k p) c.env (.ref T)) P E s := by
  refine Gen fun G back => ?_
  rcases tgt?_assign (c := c) FO hsc ok hcp ht with ⟨⟨a1, a2, a3⟩, hasg⟩
  refine back ?_
  clear back
  clear G
  refine Gen fun G back => ?_
  rcases R.parts with ⟨g, m', news, Tn, Fm, lo, H, N, D⟩
  refine back ?_
  clear back
  clear G
  refine unpackN_ Fm N hT (handled_none ok) (by rw [a1, a2, hl]) a3 fun h2 F2 N2 => ?_
  exact hasg _ _ _ _ _ items.toList _ _ rfl (by simpa using hl) (Rep.of Tn F2 lo H N2 D) fun h3 tk3 R3 => hP h3 tk3 R3
theorem enumR_get : ∀ (vs : List V) (j k : Nat), (enumR j vs)[k]? = (vs[k]?).map fun x => [V.int (j + k : Nat), x]
  | [], _, _ => rfl
  | x :: r, j, 0 => by simp [enumR]
  | x :: r, j, k + 1 => by
    simp only [enumR, List.getElem?_cons_succ]
    rw [enumR_get r (j + 1) k]
    congr 1
    funext x; congr 3; (first | lia | omega)
theorem enumR_len : ∀ (vs : List V) (j : Nat), (enumR j vs).length = vs.length
  | [], _ => rfl
  | x :: r, j => by simp [enumR, enumR_len r]
theorem ss_forE {x : Str} {p pt pc pos : Pos} {a : Expr} {ma : ME} {ts : List Expr} {k} {xs : List Str} {is : List Nat} {b : List Stmt} {m : MS} (hxe : x = "enumerate") (hx : x ∈ F.bt) (hk : F.sc.names.lookup x = some .globalImplicit) (hn : notStar a = true)
    (ha : SE F a ma) (ht : tgt? F ts = some (xs, is)) (h2 : is.length = 2) (hb : SB F b m) : SS F (.For (.Tuple ts k pt) (.Call (.Name x p) [a] [] pc) b [] pos) (.forE is ma m) := by
  intro c d FO hg hsc ok rm l hp Q X hev hcp fr s P E R hP hX
  subst hxe
  refine wpAny_For (Call_ (nameB FO hg hsc ok hx (v := .type "enumerate") boot_enumerate hk (by decide) (by decide) R ?_) rfl) folded_call
  refine PyProof.Rows.callWith_type1 ?_ (starEach_cons hn) rfl
  refine spliced_more (ha c d FO hg hsc ok rm l hp _ X hev fr s _ E R (fun v y h1 hh tk hq hy R1 => ?_) (hX l)) (starEach_cons hn)
  refine spliced_none ?_
  cases v with
  | ref r =>
    cases absV_ref hy
    refine Gen fun G back => ?_
    rcases hq with ⟨vs, e1, I, i0, step, fin⟩
    refine back ?_
    clear back
    clear G
    obtain ⟨items, hi, hL⟩ := R1.listI ok e1
    refine call_enumerate_list hL fun h' he hit hz hs => ?_
    refine wpAny_pyIter_enum he ?_
    refine Gen fun G back => ?_
    rcases hit with ⟨oi, hoi, hci, hdi⟩
    refine back ?_
    clear back
    clear G
    have hne : hh.objs.size + 1 ≠ hh.objs.size := by (first | lia | omega)
    have hfr : ∀ p ∈ fr, p.1 ∉ [hh.objs.size + 1, hh.objs.size] := fun p hp' q => by
      refine Gen fun G back => ?_
      rcases id R1 with ⟨_, _, _, _, _, _, N1, _⟩
      refine back ?_
      clear back
      clear G
      have h3 : p.1 < hh.objs.size := Heap.lt_size (N1 p hp').1
      simp only [List.mem_cons, List.not_mem_nil, or_false] at q
      rcases q with q | q <;> rw [q] at h3
      · exact Nat.lt_irrefl _ (Nat.lt_of_succ_lt h3)
      · exact absurd h3 (Nat.lt_irrefl _)
    refine forSM FO hsc ok hcp hg rm hb (n := vs.length) (upd := fun k l K => ∃ v, vs[k]? = some v ∧ K (lsetN l is [.int k, v])) (K := fun h => h r = h1 r)
      (fun k os => ∃ old oi, os = [(hh.objs.size + 1, { cls := .type "enumerate", dict := none, data := .fields #[.none, .bool false, .ref hh.objs.size, rawInt k, .none, old], slots := #[] }), (hh.objs.size, oi)] ∧ oi.cls = .type "list_iterator" ∧ oi.data = .fields #[.ref r, .int k 0])
      (fun k l2 hp2 os s' PN E2 hK hO R2 hkn item fin2 => ?_) ⟨.none, oi, rfl, hci, hdi⟩ (R1.news ok hcp hs fun p hp' => ?_) ⟨I, i0, fun k l h hk hI => ?_, fun l h hI => fin l h (by rw [enumR_len]; exact hI)⟩ hP
    · refine Gen fun G back => ?_
      rcases hO with ⟨old, oi2, hz28, hc2, hd2⟩
      refine back ?_
      clear back
      clear G
      subst hz28
      refine Gen fun G back => ?_
      rcases id R2 with ⟨_, _, _, _, _, _, N2, D2⟩
      refine back ?_
      clear back
      clear G
      have he2 : IsEnum s'.heap (hh.objs.size + 1) hh.objs.size k old := (N2 _ (.head _)).1
      have hit2 : s'.heap.IsListIter hh.objs.size r k := ⟨oi2, (N2 _ (.tail _ (.head _))).1, hc2, hd2⟩
      obtain ⟨items2, hi2, hL2⟩ := R2.listI ok (by rw [hK]; exact e1)
      have hsz : items2.size = vs.length := by rw [← hi2]; simp
      by_cases hlt : k < vs.length
      · refine wpAny_pyNext_enum_item he2 hit2 hL2 (x := items2[k]) (by simp [hsz, hlt]) hne fun h3 heo hit3 ht3 hz3 hs3 => ?_
        refine item _ h3 _ hlt fun K' P' ⟨v, hv, hu⟩ hP' => ?_
        refine wpAny_letOwnedTupleGo_enum heo fun h4 he4 hs4 => ?_
        have hs4 : Heap.SameBut (hh.objs.size + 1) h3 h4 := hs4
        have hlt2 : hh.objs.size + 1 < s'.heap.objs.size := Heap.lt_size he2
        refine Gen fun G back => ?_
        rcases hit3 with ⟨oi3, hoi3, hc3, hd3⟩
        refine back ?_
        clear back
        clear G
        have R4 : Rep c F.names l2 hp2 ([(hh.objs.size + 1, { cls := .type "enumerate", dict := none, data := .fields #[.none, .bool false, .ref hh.objs.size, rawInt ((k + 1 : Nat) : Int), .none, items2[k]], slots := #[] }), (hh.objs.size, oi3)] ++ fr) h4 := by
          refine R2.its hcp (fun p hp' => ?_) (fun b ob hb e => ?_) (fun p hp' => ?_) hfr
          · rcases List.mem_cons.mp hp' with rfl | hp'
            · exact .head _
            · rcases List.mem_cons.mp hp' with rfl | hp'
              · exact .tail _ (.head _)
              · cases hp'
          · simp only [List.map_cons, List.map_nil, List.mem_cons, List.not_mem_nil, or_false, not_or] at hb
            exact (hs4.2 b hb.1).trans (hs3 b ob hb.1 hb.2 e)
          · rcases List.mem_cons.mp hp' with rfl | hp'
            · exact he4
            · rcases List.mem_cons.mp hp' with rfl | hp'
              · exact (hs4.2 _ (Ne.symm hne)).trans hoi3
              · cases hp'
        have hT : IsTup h4 s'.heap.objs.size #[.int k s'.toks, items2[k]] := ⟨_, (hs4.2 _ (Nat.ne_of_gt hlt2)).trans ht3, rfl, _, rfl⟩
        refine assignT FO hsc ok hcp ht hT (by rw [h2]; rfl) R4 fun h5 tk5 R5 => ?_
        refine hP' _ _ h5 tk5 hu ⟨items2[k], oi3, rfl, hc3, hd3⟩ ?_
        have hv' : absV items2[k] = v := by
          have : (items2.toList.map absV)[k]? = some (absV items2[k]) := by simp [hsz, hlt]
          rw [hi2, hv] at this
          exact (Option.some.inj this).symm
        have e9 : (#[Value.int k s'.toks, items2[k]] : Array Value).toList.map absV = [V.int k, v] := by rw [← hv']; rfl
        rw [e9] at R5; exact R5
      · have hk : k = vs.length := by (first | lia | omega)
        refine wpAny_pyNext_enum_end (handled_none ok) he2 hit2 hL2 (by simp [hsz]; (first | lia | omega)) fun h3 hx3 => ?_
        refine fin2 hk h3 _ ?_
        exact (R2.drops hcp hfr fun b ob hb e => hx3 b ob (fun q => hb (by rw [q]; exact .tail _ (.head _))) e)
    · rcases List.mem_cons.mp hp' with rfl | hp'
      · exact ⟨he, by show hh.objs.size ≤ hh.objs.size + 1; (first | lia | omega)⟩
      · rcases List.mem_cons.mp hp' with rfl | hp'
        · exact ⟨hoi, Nat.le_refl _⟩
        · cases hp'
    · obtain ⟨a, b⟩ := step k [.int k, vs[k]] l h (by rw [enumR_get]; simp [hk]) hI
      exact ⟨a, vs[k], by simp [hk], b⟩
  | _ => exact hq.elim
end
noncomputable abbrev ZTup (n : Nat) (f : Nat → Value) : Obj := { cls := .type "tuple", data := .seq ((List.range n).map f).toArray }
noncomputable abbrev ZObj (n : Nat) (B : Nat) (f0 : Value) : Obj := { cls := .type "zip", dict := none, data := .fields #[f0, .bool false, .bool false, .ref (B + n), .ref (B + n + 1)], slots := #[] }
section
variable {prog : Program} {w : World} {A : Around} {E : Value → Shared → Prop} {s : Shared}
theorem wpAny_forIn_steps {α β : Type} {f : α → β → Sem (ForInStep β)} {r : β} {Q : β → Shared → Prop} : ∀ (as : List α) (J : Nat → Shared → Prop) (s : Shared),
    (∀ j a s, as[j]? = some a → J j s → wpAny (model prog w) A (f a r) (fun t s' => t = .yield r ∧ J (j + 1) s') E s) → (∀ s, J as.length s → Q r s) → J 0 s →
    wpAny (model prog w) A (ForIn.forIn as r f) Q E s
  | [], J, s, _, fin, h => by
    rw [List.forIn_nil]; exact wpAny_pure (fin s h)
  | a :: t, J, s, step, fin, h => by
    rw [List.forIn_cons]
    refine wpAny_bind (wpAny_mono (step 0 a s rfl h) (fun x s' hx => ?_) fun _ _ h' => h')
    obtain ⟨rfl, hx⟩ := hx
    exact wpAny_forIn_steps t (fun j => J (j + 1)) s' (fun j b s hb hj => step (j + 1) b s (by simpa using hb) hj) (fun s h => fin s h) hx
theorem zt_set {n j : Nat} {f : Nat → Value} {y : Value} : ((List.range n).map f).toArray.setIfInBounds j y = ((List.range n).map fun t => if t = j then y else f t).toArray := by
  ext t h1 h2
  · simp
  · simp only [List.setIfInBounds_toArray, List.getElem_toArray, List.getElem_set, List.getElem_map, List.getElem_range]
    by_cases h : j = t
    · subst h; simp
    · simp [h, Ne.symm h]
theorem wpAny_updateSeq_z {T : Addr} {n : Nat} (hn : n ≤ 16) {f : Nat → Value} {x : Value} {k : Nat} {Q : Unit → Shared → Prop} (hT : s.heap.get? T = some (ZTup n f))
    (h : ∀ h', h'.get? T = some (ZTup n fun t => if t = k then x else f t) → Heap.SameBut T s.heap h' → Q () { s with heap := h' }) :
    wpAny (model prog w) A (updateSeq T (·.setIfInBounds k x)) Q E s := by
  have e16 : (16 : Nat) ≤ sizeLine := by decide
  refine wpAny_updateSeq hT rfl (h _ ?_ (Heap.SameBut.update ..)) (by simp; (first | lia | omega)) (by simp; (first | lia | omega))
  rw [Heap.get?_update_self _ hT rfl]
  have e := zt_set (n := n) (j := k) (f := f) (y := x)
  simp [Obj.mapSeq] at e ⊢
  exact e
structure ZSt (h : Heap) (n : Nat) (B : Nat) (l : Nat → Nat) (k : Nat) (xs : Nat → Array Value) : Prop where
  z : h.get? (B + n + 2) = some (ZObj n B .none)
  ti : h.get? (B + n) = some (ZTup n fun j => .ref (B + j))
  to : ∃ old, h.get? (B + n + 1) = some (ZTup n old)
  it : ∀ j, j < n → h.IsListIter (B + j) (l j) k
  ls : ∀ j, j < n → h.IsList (l j) (xs j)
  lo : ∀ j, j < n → l j < B
theorem nea {a b : Nat} (h : a ≠ b) : (a : Addr) ≠ b := h
theorem zipN_next_item {n : Nat} {B : Nat} {l : Nat → Nat} {k : Nat} {xs : Nat → Array Value} {v : Nat → Value} {Q : Value → Shared → Prop} (hn : 0 < n) (hn' : n ≤ 16) (S : ZSt s.heap n B l k xs) (hv : ∀ j, j < n → (xs j)[k]? = some (v j))
    (hQ : ∀ h', h'.get? (B + n + 2) = some (ZObj n B (rawInt s.heap.objs.size)) → h'.get? (B + n + 1) = some (ZTup n v) → (∀ j, j < n → h'.IsListIter (B + j) (l j) (k + 1)) → h'.get? s.heap.objs.size = some (ZTup n v) → h'.objs.size = s.heap.objs.size + 1 →
      (∀ c o, c ≠ B + n + 2 → c ≠ B + n + 1 → (∀ j, j < n → c ≠ B + j) → s.heap.get? c = some o → h'.get? c = some o) → Q (.ref s.heap.objs.size) { s with heap := h' }) :
    wpAny (model prog w) A (Builtin.«zip.__next__» ⟨[.ref (B + n + 2)], []⟩) (fun fin s' => ∃ v, fin = .done (.ret v) ∧ Q v s') E s := by
  refine Gen fun G back => ?_
  rcases S with ⟨hz, hTI, ⟨old, hTO⟩, hit, hls, hlo⟩
  refine back ?_
  clear back
  clear G
  show wpAny _ _ (field (.ref _) 2 >>= _) _ _ _
  refine wpAny_bind (wpAny_field hz rfl (x := .bool false) rfl ?_)
  show wpAny _ _ (field (.ref _) 3 >>= _) _ _ _
  refine wpAny_bind (wpAny_field hz rfl (x := .ref (B + n)) rfl ?_)
  refine wpAny_bind (wpAny_seqItems hTI rfl ?_)
  have hne : ((List.range n).map fun j => Value.ref (B + j)).toArray.isEmpty = false := by
    cases n with
    | zero => exact absurd hn (by (first | lia | omega))
    | succ m => simp [List.range_succ_eq_map]
  simp only [hne, Bool.false_eq_true, if_false]
  show wpAny _ _ (Builtin.SmallTypes.ownedTupleIsFree (.ref _) >>= _) _ _ _
  refine wpAny_bind ?_
  unfold Builtin.SmallTypes.ownedTupleIsFree
  refine wpAny_bind (wpAny_field hz rfl (x := .none) rfl (wpAny_pure ?_))
  simp only [if_true]
  refine wpAny_bind (wpAny_rule ?_)
  refine wpAny_bind (wpAny_field hz rfl (x := .ref (B + n + 1)) rfl ?_)
  refine wpAny_bind (wpAny_setField_rec hz (by simp) fun h₁ hz₁ hs₁ => ?_)
  replace hz₁ : h₁.get? (B + n + 2) = some (ZObj n B .ellipsis) := hz₁
  refine wpAny_bind ?_
  refine wpAny_forIn_steps _ (fun j s' => ∃ h', s' = { s with heap := h' } ∧ h'.objs.size = s.heap.objs.size ∧ h'.get? (B + n + 2) = some (ZObj n B .ellipsis) ∧ h'.get? (B + n + 1) = some (ZTup n fun t => if t < j then v t else old t) ∧
      (∀ t, t < n → h'.IsListIter (B + t) (l t) (if t < j then k + 1 else k)) ∧ (∀ c o, c ≠ B + n + 2 → c ≠ B + n + 1 → (∀ j, j < n → c ≠ B + j) → s.heap.get? c = some o → h'.get? c = some o)) _ ?_ ?_ ?_
  · intro j qz29 s' hj qz30
    obtain ⟨itv, j'⟩ := qz29
    refine Gen fun G back => ?_
    rcases qz30 with ⟨h', hz31, hsz, hz', hTO', hit', hk'⟩
    refine back ?_
    clear back
    clear G
    subst hz31
    have hlt : j < n := by
      have := (List.getElem?_eq_some_iff.mp hj).1
      simpa using this
    have hjj : itv = .ref (B + j) ∧ j' = j := by
      simp only [List.getElem?_zipIdx] at hj
      simp [hlt] at hj
      exact ⟨hj.1.symm, hj.2.symm⟩
    obtain ⟨rfl, rfl⟩ := hjj
    refine wpAny_bind (wpAny_onRaise ?_)
    show wpAny _ _ (Builtin.SmallTypes.nextOf (.ref _) >>= _) _ _ _
    have hl' : h'.IsList (l j') (xs j') := (hls j' hlt).at fun o e => hk' (l j') o (by have := hlo j' hlt; (first | lia | omega)) (by have := hlo j' hlt; (first | lia | omega)) (fun t _ => by have := hlo j' hlt; (first | lia | omega)) e
    have hi' := hit' j' hlt
    rw [if_neg (Nat.lt_irrefl _)] at hi'
    refine wpAny_bind (wpAny_nextOf_list_item hi' hl' (hv j' hlt) fun h₂ h1₂ hs₂ => wpAny_pure ?_)
    have hTO₂ : h₂.get? (B + n + 1) = some (ZTup n fun t => if t < j' then v t else old t) := hs₂.extBut _ _ (nea (by (first | lia | omega))) hTO'
    refine wpAny_bind (wpAny_seqItems hTO₂ rfl ?_)
    refine wpAny_bind (wpAny_updateSeq_z hn' hTO₂ fun h₃ hTO₃ hs₃ => ?_)
    refine wpAny_bind (wpAny_letGo (wpAny_pure ⟨rfl, ?_⟩))
    refine ⟨h₃, rfl, by rw [hs₃.1, hs₂.1, hsz], hs₃.extBut _ _ (nea (by (first | lia | omega))) (hs₂.extBut _ _ (nea (by (first | lia | omega))) hz'), ?_, fun t ht => ?_, fun c o c1 c2 c3 e => hs₃.extBut _ _ c2 (hs₂.extBut _ _ (c3 j' hlt) (hk' c o c1 c2 c3 e))⟩
    · rw [hTO₃]
      congr 3
      funext t
      by_cases h : t = j'
      · subst h; simp
      · by_cases h2 : t < j'
        · simp [h, h2, Nat.lt_succ_of_lt h2]
        · simp [h, h2, show ¬ t < j' + 1 by (first | lia | omega)]
    · by_cases h : t = j'
      · subst h
        rw [if_pos (Nat.lt_succ_self _)]
        exact h1₂.extBut hs₃.extBut (nea (by (first | lia | omega)))
      · have := ((hit' t ht).extBut hs₂.extBut (nea (by (first | lia | omega)))).extBut hs₃.extBut (nea (by (first | lia | omega)))
        by_cases h2 : t < j'
        · rw [if_pos h2] at this; rw [if_pos (by (first | lia | omega))]; exact this
        · rw [if_neg h2] at this; rw [if_neg (by (first | lia | omega))]; exact this
  · intro s' qz32
    refine Gen fun G back => ?_
    rcases qz32 with ⟨h₅, hz33, hsz, hz₅, hTO₅, hit₅, hk₅⟩
    refine back ?_
    clear back
    clear G
    subst hz33
    have hln : ((List.range n).map fun j => Value.ref (B + j)).toArray.toList.zipIdx.length = n := by simp
    rw [hln] at hTO₅ hit₅
    have hTO₅ : h₅.get? (B + n + 1) = some (ZTup n v) := by
      rw [hTO₅]
      have : ∀ t ∈ List.range n, (fun t => if t < n then v t else old t) t = v t := fun t ht => by simp [List.mem_range.mp ht]
      simp only [ZTup]
      rw [List.map_congr_left this]
    refine wpAny_bind (wpAny_seqItems hTO₅ rfl ?_)
    have e16 : (16 : Nat) ≤ sizeLine := by decide
    refine wpAny_bind (wpAny_newTuple ?_ (by simp; (first | lia | omega)))
    show wpAny _ _ (Builtin.SmallTypes.ownedTupleHandOut (.ref _) (.ref h₅.objs.size) >>= _) _ _ _
    refine wpAny_bind ?_
    unfold Builtin.SmallTypes.ownedTupleHandOut
    have hzlt : B + n + 2 < h₅.objs.size := Heap.lt_size hz₅
    have hz₆ : (h₅.push { cls := .type "tuple", data := .seq ((List.range n).map v).toArray }).get? (B + n + 2) = some (ZObj n B .ellipsis) := Heap.get?_push_of_some _ hz₅
    refine wpAny_bind (wpAny_setField_rec hz₆ (by simp) fun h₇ hz₇ hs₇ => ?_)
    replace hz₇ : h₇.get? (B + n + 2) = some (ZObj n B (rawInt h₅.objs.size)) := hz₇
    refine wpAny_setField_rec hz₇ (by simp) fun h₈ hz₈ hs₈ => ?_
    replace hz₈ : h₈.get? (B + n + 2) = some (ZObj n B (rawInt h₅.objs.size)) := hz₈
    have up : ∀ c o, c ≠ B + n + 2 → h₅.get? c = some o → h₈.get? c = some o := fun c o c1 e => hs₈.extBut _ _ c1 (hs₇.extBut _ _ c1 (Heap.get?_push_of_some _ e))
    have hT₈ : h₈.get? h₅.objs.size = some (ZTup n v) := hs₈.extBut _ _ (Nat.ne_of_gt hzlt) (hs₇.extBut _ _ (Nat.ne_of_gt hzlt) (Heap.get?_push_size _ rfl))
    have hz8 : h₈.objs.size = h₅.objs.size + 1 := by rw [hs₈.1, hs₇.1, Heap.size_push]
    rw [hsz] at hz₈ hT₈ hz8
    refine wpAny_pure ⟨_, rfl, ?_⟩
    show Q (.ref h₅.objs.size) _
    rw [hsz]
    refine hQ h₈ hz₈ (up _ _ (nea (by (first | lia | omega))) hTO₅) (fun j hj => ?_) hT₈ hz8 fun c o c1 c2 c3 e => up c o c1 (hk₅ c o c1 c2 c3 e)
    have := hit₅ j hj
    rw [if_pos hj] at this
    exact this.at fun o e => up _ o (nea (by (first | lia | omega))) e
  · exact ⟨h₁, rfl, hs₁.1, hz₁, by simpa using hs₁.extBut _ _ (nea (by (first | lia | omega))) hTO, fun t ht => by simpa using (hit t ht).extBut hs₁.extBut (nea (by (first | lia | omega))), fun c o c1 _ _ e => hs₁.extBut _ _ c1 e⟩
theorem zipN_next_end {n : Nat} {B : Nat} {l : Nat → Nat} {k : Nat} {xs : Nat → Array Value} {Q : Fin → Shared → Prop} (hh : A.handled = none) (hn : 0 < n) (S : ZSt s.heap n B l k xs) (hend : (xs 0)[k]? = none)
    (hE : ∀ h' e, (∀ c o, c ≠ B + n + 2 → c ≠ B + n + 1 → (∀ j, j < n → c ≠ B + j) → s.heap.get? c = some o → h'.get? c = some o) → (∃ o, h'.get? e = some o ∧ o.cls = .type "StopIteration") → E (.ref e) { s with heap := h' }) :
    wpAny (model prog w) A (Builtin.«zip.__next__» ⟨[.ref (B + n + 2)], []⟩) Q E s := by
  refine Gen fun G back => ?_
  rcases S with ⟨hz, hTI, ⟨old, hTO⟩, hit, hls, hlo⟩
  refine back ?_
  clear back
  clear G
  show wpAny _ _ (field (.ref _) 2 >>= _) _ _ _
  refine wpAny_bind (wpAny_field hz rfl (x := .bool false) rfl ?_)
  show wpAny _ _ (field (.ref _) 3 >>= _) _ _ _
  refine wpAny_bind (wpAny_field hz rfl (x := .ref (B + n)) rfl ?_)
  refine wpAny_bind (wpAny_seqItems hTI rfl ?_)
  cases n with
  | zero => exact absurd hn (by (first | lia | omega))
  | succ m =>
  have hne : ((List.range (m + 1)).map fun j => Value.ref (B + j)).toArray.isEmpty = false := by
    simp [List.range_succ_eq_map]
  simp only [hne, Bool.false_eq_true, if_false]
  show wpAny _ _ (Builtin.SmallTypes.ownedTupleIsFree (.ref _) >>= _) _ _ _
  refine wpAny_bind ?_
  unfold Builtin.SmallTypes.ownedTupleIsFree
  refine wpAny_bind (wpAny_field hz rfl (x := .none) rfl (wpAny_pure ?_))
  simp only [if_true]
  refine wpAny_bind (wpAny_rule ?_)
  refine wpAny_bind (wpAny_field hz rfl (x := .ref (B + (m + 1) + 1)) rfl ?_)
  refine wpAny_bind (wpAny_setField_rec hz (by simp) fun h₁ hz₁ hs₁ => ?_)
  replace hz₁ : h₁.get? (B + (m + 1) + 2) = some (ZObj (m + 1) B .ellipsis) := hz₁
  refine wpAny_bind ?_
  simp only [List.range_succ_eq_map, List.map_cons, List.zipIdx_cons, List.forIn_cons]
  refine wpAny_bind (wpAny_bind (wpAny_onRaise ?_))
  show wpAny _ _ (Builtin.SmallTypes.nextOf (.ref _) >>= _) _ _ _
  have hl0 := hlo 0 (by (first | lia | omega))
  refine wpAny_bind (wpAny_nextOf_list_end hh ((hit 0 (by (first | lia | omega))).extBut hs₁.extBut (nea (by (first | lia | omega)))) ((hls 0 (by (first | lia | omega))).extBut hs₁.extBut (nea (by (first | lia | omega)))) hend fun h₂ e hs₂ he => ?_)
  obtain ⟨oe, hoe, hce⟩ := he
  have hz₂ : h₂.get? (B + (m + 1) + 2) = some (ZObj (m + 1) B .ellipsis) := hs₂ _ _ (nea (by (first | lia | omega))) hz₁
  have hez : e ≠ B + (m + 1) + 2 := fun x => by subst x; rw [hz₂] at hoe; cases hoe; simp at hce
  exact wpAny_setField_rec hz₂ (by simp) fun h₃ _ hs₃ => hE h₃ e (fun c o c1 _ c3 x => hs₃.extBut _ _ c1 (hs₂ _ _ (c3 0 (by (first | lia | omega))) (hs₁.extBut _ _ c1 x))) ⟨oe, hs₃.extBut _ _ hez hoe, hce⟩
theorem wpAny_pyNext_zipN_item {n : Nat} {B : Nat} {l : Nat → Nat} {k : Nat} {xs : Nat → Array Value} {v : Nat → Value} {Q : Option Value → Shared → Prop} (hn : 0 < n) (hn' : n ≤ 16) (S : ZSt s.heap n B l k xs) (hv : ∀ j, j < n → (xs j)[k]? = some (v j))
    (hQ : ∀ h', h'.get? (B + n + 2) = some (ZObj n B (rawInt s.heap.objs.size)) → h'.get? (B + n + 1) = some (ZTup n v) → (∀ j, j < n → h'.IsListIter (B + j) (l j) (k + 1)) → h'.get? s.heap.objs.size = some (ZTup n v) → h'.objs.size = s.heap.objs.size + 1 →
      (∀ c o, c ≠ B + n + 2 → c ≠ B + n + 1 → (∀ j, j < n → c ≠ B + j) → s.heap.get? c = some o → h'.get? c = some o) → Q (some (.ref s.heap.objs.size)) { s with heap := h' }) :
    wpAny (model prog w) A (pyNext (.ref (B + n + 2))) Q E s := by
  have hT : s.TypeIs (.ref (B + n + 2)) "zip" := ⟨_, S.z, rfl⟩
  unfold pyNext
  exact wpAny_bind (wpAny_attempt (wpAny_callSpecial?_slot (name := Str.ofString "__next__") hT F.slot_zip_next
    (wpAny_call_entry F.slot_zip_next hT F.entry_zip_next
      (zipN_next_item hn hn' S hv fun h' a1 a2 a3 a5 a6 a7 => wpAny_pure (hQ h' a1 a2 a3 a5 a6 a7)) (F.args_zip_next_1 _))))
theorem wpAny_pyNext_zipN_end {n : Nat} {B : Nat} {l : Nat → Nat} {k : Nat} {xs : Nat → Array Value} {Q : Option Value → Shared → Prop} (hh : A.handled = none) (hn : 0 < n) (S : ZSt s.heap n B l k xs) (hend : (xs 0)[k]? = none)
    (hQ : ∀ h', (∀ c o, c ≠ B + n + 2 → c ≠ B + n + 1 → (∀ j, j < n → c ≠ B + j) → s.heap.get? c = some o → h'.get? c = some o) → Q none { s with heap := h' }) : wpAny (model prog w) A (pyNext (.ref (B + n + 2))) Q E s := by
  have hT : s.TypeIs (.ref (B + n + 2)) "zip" := ⟨_, S.z, rfl⟩
  unfold pyNext
  refine wpAny_bind (wpAny_attempt (wpAny_callSpecial?_slot (name := Str.ofString "__next__") hT F.slot_zip_next
    (wpAny_call_entry F.slot_zip_next hT F.entry_zip_next (zipN_next_end hh hn S hend fun h' e hk he => ?_) (F.args_zip_next_1 _))))
  obtain ⟨o, ho, hc⟩ := he
  refine wpAny_bind (wpAny_isInstance (T := "StopIteration") (b := true) ⟨o, ho, hc⟩ isSubtype_stop ?_)
  exact wpAny_pure (hQ _ hk)
end
section
variable {prog : Program} {w : World} {A : Around} {E : Value → Shared → Prop} {s : Shared}
noncomputable abbrev zipG3 (h : Heap) (l1 l2 l3 : Addr) : Heap := (zipH2 h l1 l2).push { cls := .type "list_iterator", data := .fields #[.ref l3, .int 0 0] }
noncomputable abbrev zipG4 (h : Heap) (l1 l2 l3 : Addr) : Heap := (zipG3 h l1 l2 l3).push { cls := .type "tuple", data := .seq #[.ref h.objs.size, .ref (zipH1 h l1).objs.size, .ref (zipH2 h l1 l2).objs.size] }
noncomputable abbrev zipG5 (h : Heap) (l1 l2 l3 : Addr) : Heap := (zipG4 h l1 l2 l3).push { cls := .type "tuple", data := .seq #[.none, .none, .none] }
noncomputable abbrev zipG6 (h : Heap) (l1 l2 l3 : Addr) : Heap := (zipG5 h l1 l2 l3).push { cls := .type "zip", data := .fields #[.none, .bool false, .bool false, .ref (zipG3 h l1 l2 l3).objs.size, .ref (zipG4 h l1 l2 l3).objs.size] }
theorem typeCall_zip_3 (a b c : Value) : checkTypeCall "zip" ⟨[a, b, c], []⟩ = pure () := by kernel_rfl
theorem newCall_zip_3 (a b c : Value) : checkBuiltinCall "zip.__new__" ⟨[.type "zip", a, b, c], []⟩ = pure () := by kernel_rfl
theorem args_object_init_4 (a b c d : Value) : argsOk "object.__init__" ⟨[a, b, c, d], []⟩ := by
  unfold argsOk; rw [signature?_of (id := "object.__init__") (n := ['_', '_', 't', 'i', 'n', 'i', '_', '_']) (o := ['t', 'c', 'e', 'j', 'b', 'o']) (by kernel_rfl) F.owner_object]; kernel_rfl
theorem meets_zip_new3 (l1 l2 l3 : Addr) (xs ys zs : Array Value) :
    Meets (Builtin.«zip.__new__» ⟨[.type "zip", .ref l1, .ref l2, .ref l3], []⟩) (fun _ R s => s.heap.IsList l1 xs ∧ s.heap.IsList l2 ys ∧ s.heap.IsList l3 zs ∧
      R (.ok (.ret (.ref (zipG5 s.heap l1 l2 l3).objs.size))) { s with heap := zipG6 s.heap l1 l2 l3 }) :=
  .of_wp fun prog w A R s h => by
    obtain ⟨hp, g, d, tk, os⟩ := s; obtain ⟨hl1, hl2, hl3, h⟩ := h
    have hsub := sub_zip
    have hL1 : Heap.IsList (Shared.heap ⟨hp, g, d, tk, os⟩) l1 xs := hl1
    have hL2 : Heap.IsList (Shared.heap ⟨hp.push { cls := .type "list_iterator", data := .fields #[.ref l1, .int 0 0] }, g, d, tk, os⟩) l2 ys := Heap.IsList.push hl2 _
    have hL3 : Heap.IsList (Shared.heap ⟨(hp.push { cls := .type "list_iterator", data := .fields #[.ref l1, .int 0 0] }).push { cls := .type "list_iterator", data := .fields #[.ref l2, .int 0 0] }, g, d, tk, os⟩) l3 zs := Heap.IsList.push (Heap.IsList.push hl3 _) _
    repeat (first | with_reducible refine _root_.PySem.wpAny_pyIter_list hL1 ?_ | with_reducible refine _root_.PySem.wpAny_pyIter_list hL2 ?_ | with_reducible refine _root_.PySem.wpAny_pyIter_list hL3 ?_ | wp_step)
    exact ⟨_, rfl, h⟩
theorem call_zipN {n : Nat} (hn : n = 2 ∨ n = 3) {l : Nat → Nat} {xs : Nat → Array Value} {vals : List Value} (hvs : vals = (List.range n).map fun j => Value.ref (l j)) {Q : Value → Shared → Prop} (hl : ∀ j, j < n → s.heap.IsList (l j) (xs j))
    (h : ∀ h', ZSt h' n s.heap.objs.size l 0 xs → (∀ c o, s.heap.get? c = some o → h'.get? c = some o) → Q (.ref (s.heap.objs.size + n + 2)) { s with heap := h' }) :
    wpAny (model prog w) A (call (.type "zip") vals) Q E s := by
  have lt : ∀ j, j < n → l j < s.heap.objs.size := fun j hj => by
    obtain ⟨o, ho, _⟩ := hl j hj
    exact Heap.lt_size ho
  subst hvs
  rcases hn with rfl | rfl
  · refine call_zip_2 (hl 0 (by (first | lia | omega))) (hl 1 (by (first | lia | omega))) fun h' a1 a2 a3 a4 a5 a6 a7 => h h' ⟨a1, a2, ⟨fun _ => .none, a3⟩, fun j hj => ?_, fun j hj => (hl j hj).at fun o e => a7 _ _ e, lt⟩ a7
    rcases (show j = 0 ∨ j = 1 by (first | lia | omega)) with rfl | rfl
    · exact a4
    · exact a5
  · refine callType_new F.called_zip (by decide) (typeCall_zip_3 _ _ _) (newCall_zip_3 _ _ _) (fun obj => args_object_init_4 obj _ _ _) F.entry_zip_new
      (meets_zip_new3 (l 0) (l 1) (l 2) (xs 0) (xs 1) (xs 2)) ⟨hl 0 (by (first | lia | omega)), hl 1 (by (first | lia | omega)), hl 2 (by (first | lia | omega)), ?_⟩
    have z1 : (zipH1 s.heap (l 0)).objs.size = s.heap.objs.size + 1 := Heap.size_push ..
    have z2 : (zipH2 s.heap (l 0) (l 1)).objs.size = s.heap.objs.size + 2 := by rw [Heap.size_push, z1]
    have z3 : (zipG3 s.heap (l 0) (l 1) (l 2)).objs.size = s.heap.objs.size + 3 := by rw [Heap.size_push, z2]
    have z4 : (zipG4 s.heap (l 0) (l 1) (l 2)).objs.size = s.heap.objs.size + 4 := by rw [Heap.size_push, z3]
    have z5 : (zipG5 s.heap (l 0) (l 1) (l 2)).objs.size = s.heap.objs.size + 5 := by rw [Heap.size_push, z4]
    have g6 : (zipG6 s.heap (l 0) (l 1) (l 2)).get? (zipG5 s.heap (l 0) (l 1) (l 2)).objs.size = some _ := Heap.get?_push_size _ rfl
    have g5 : (zipG6 s.heap (l 0) (l 1) (l 2)).get? (zipG4 s.heap (l 0) (l 1) (l 2)).objs.size = some _ := Heap.get?_push_of_some _ (Heap.get?_push_size _ rfl)
    have g4 : (zipG6 s.heap (l 0) (l 1) (l 2)).get? (zipG3 s.heap (l 0) (l 1) (l 2)).objs.size = some _ := Heap.get?_push_of_some _ (Heap.get?_push_of_some _ (Heap.get?_push_size _ rfl))
    have g3 : (zipG6 s.heap (l 0) (l 1) (l 2)).get? (zipH2 s.heap (l 0) (l 1)).objs.size = some _ := Heap.get?_push_of_some _ (Heap.get?_push_of_some _ (Heap.get?_push_of_some _ (Heap.get?_push_size _ rfl)))
    have g2 : (zipG6 s.heap (l 0) (l 1) (l 2)).get? (zipH1 s.heap (l 0)).objs.size = some _ := Heap.get?_push_of_some _ (Heap.get?_push_of_some _ (Heap.get?_push_of_some _ (Heap.get?_push_of_some _ (Heap.get?_push_size _ rfl))))
    have g1 : (zipG6 s.heap (l 0) (l 1) (l 2)).get? s.heap.objs.size = some _ := Heap.get?_push_of_some _ (Heap.get?_push_of_some _ (Heap.get?_push_of_some _ (Heap.get?_push_of_some _ (Heap.get?_push_of_some _ (Heap.get?_push_size _ rfl)))))
    show _ ∧ _
    rw [z3, z4, z5] at g6
    rw [z4] at g5
    rw [z1, z2, z3] at g4
    rw [z2] at g3
    rw [z1] at g2
    rw [z5]
    have up : ∀ c o, s.heap.get? c = some o → (zipG6 s.heap (l 0) (l 1) (l 2)).get? c = some o := fun c o x =>
      Heap.get?_push_of_some _ (Heap.get?_push_of_some _ (Heap.get?_push_of_some _ (Heap.get?_push_of_some _ (Heap.get?_push_of_some _ (Heap.get?_push_of_some _ x)))))
    refine ⟨⟨_, g6, rfl⟩, h _ ⟨g6, g4, ⟨fun _ => .none, g5⟩, fun j hj => ?_, fun j hj => (hl j hj).at fun o e => up _ _ e, lt⟩ up⟩
    rcases (show j = 0 ∨ j = 1 ∨ j = 2 by (first | lia | omega)) with rfl | rfl | rfl
    · exact ⟨_, g1, rfl, rfl⟩
    · exact ⟨_, g2, rfl, rfl⟩
    · exact ⟨_, g3, rfl, rfl⟩
end
noncomputable def refA : V → Nat
  | .ref a => a
  | _ => 0
noncomputable def nthL : List (List V) → Nat → List V
  | [], _ => []
  | ws :: _, 0 => ws
  | _ :: r, n + 1 => nthL r n
theorem vAt_get {ws : List V} : ∀ {k : Nat} {v : V}, ws[k]? = some v → vAt ws k = v := by
  induction ws with
  | nil => intro k v h; simp at h
  | cons w r ih =>
    intro k v h
    cases k with
    | zero => simpa [vAt] using h
    | succ k => exact ih (by simpa using h)
theorem zipAt_get {hp : HP} {N : Nat} : ∀ {vs : List V} {wss : List (List V)}, zipAt hp N vs wss → vs.length = wss.length ∧ ∀ j, j < vs.length → vs[j]? = some (V.ref (refA (vAt vs j))) ∧ listAt (hp (refA (vAt vs j))) = some (nthL wss j) ∧ (nthL wss j).length = N ∧ wss[j]? = some (nthL wss j)
  | [], [], _ => ⟨rfl, fun j h => absurd h (Nat.not_lt_zero _)⟩
  | [], _ :: _, h => h.elim
  | v :: vs, wss, h => by
    cases v with
    | ref r =>
      cases wss with
      | nil => exact h.elim
      | cons ws wss =>
        obtain ⟨a, b, t⟩ := h
        obtain ⟨e, ih⟩ := zipAt_get t
        refine ⟨by simp [e], fun j hj => ?_⟩
        cases j with
        | zero => exact ⟨rfl, a, b, rfl⟩
        | succ j => simpa [vAt, nthL] using ih j (by simpa using hj)
    | _ => cases wss <;> exact h.elim
noncomputable def ZOs (n B : Nat) (old : Nat → Value) (oi : Nat → Obj) : List (Addr × Obj) := (B + n + 2, ZObj n B .none) :: (B + n, ZTup n fun j => .ref (B + j)) :: (B + n + 1, ZTup n old) :: (List.range n).map fun j => ((B + j : Nat), oi j)
noncomputable def ZIt (n B : Nat) (l : Nat → Nat) (k : Nat) (os : List (Addr × Obj)) : Prop :=
  ∃ old oi, os = ZOs n B old oi ∧ ∀ j, j < n → (oi j).cls = .type "list_iterator" ∧ (oi j).data = .fields #[.ref (l j), .int k 0]
theorem ZOs_mem {n B : Nat} {old : Nat → Value} {oi : Nat → Obj} {p : Addr × Obj} : p ∈ ZOs n B old oi ↔ p = (B + n + 2, ZObj n B .none) ∨ p = (B + n, ZTup n fun j => .ref (B + j)) ∨ p = (B + n + 1, ZTup n old) ∨ ∃ j, j < n ∧ p = ((B + j : Nat), oi j) := by
  unfold ZOs
  simp only [List.mem_cons, List.mem_map, List.mem_range]
  constructor
  · rintro (h | h | h | ⟨j, hj, rfl⟩)
    · exact .inl h
    · exact .inr (.inl h)
    · exact .inr (.inr (.inl h))
    · exact .inr (.inr (.inr ⟨j, hj, rfl⟩))
  · rintro (h | h | h | ⟨j, hj, rfl⟩)
    · exact .inl h
    · exact .inr (.inl h)
    · exact .inr (.inr (.inl h))
    · exact .inr (.inr (.inr ⟨j, hj, rfl⟩))
theorem ZOs_key {n B : Nat} {old : Nat → Value} {oi : Nat → Obj} {a : Addr} : a ∈ (ZOs n B old oi).map (·.1) ↔ a = B + n + 2 ∨ a = B + n ∨ a = B + n + 1 ∨ ∃ j, j < n ∧ a = B + j := by
  constructor
  · intro h
    obtain ⟨p, hp, rfl⟩ := List.mem_map.mp h
    rcases ZOs_mem.mp hp with rfl | rfl | rfl | ⟨j, hj, rfl⟩
    · exact .inl rfl
    · exact .inr (.inl rfl)
    · exact .inr (.inr (.inl rfl))
    · exact .inr (.inr (.inr ⟨j, hj, rfl⟩))
  · rintro (rfl | rfl | rfl | ⟨j, hj, rfl⟩)
    · exact List.mem_map.mpr ⟨_, ZOs_mem.mpr (.inl rfl), rfl⟩
    · exact List.mem_map.mpr ⟨_, ZOs_mem.mpr (.inr (.inl rfl)), rfl⟩
    · exact List.mem_map.mpr ⟨_, ZOs_mem.mpr (.inr (.inr (.inl rfl))), rfl⟩
    · exact List.mem_map.mpr ⟨_, ZOs_mem.mpr (.inr (.inr (.inr ⟨j, hj, rfl⟩))), rfl⟩
theorem zip_make {c : Cx} {names l hp fr} {s : Shared} (ok : c.Ok) (hcp : c.cp = none) {n : Nat} (hn : n = 2 ∨ n = 3) {vs : List V} {vals : List Value} {wss : List (List V)} {N : Nat} (hv : vals.map absV = vs) (hlen : vs.length = n) (hz : zipAt hp N vs wss)
    (R : Rep c names l hp fr s.heap) {Q : Value → Shared → Prop} {E : Value → Shared → Prop}
    (h : ∀ h' os, ZIt n s.heap.objs.size (fun j => refA (vAt vs j)) 0 os → Rep c names l hp (os ++ fr) h' → h'.get? (s.heap.objs.size + n + 2) = some (ZObj n s.heap.objs.size .none) → (∀ p ∈ fr, p.1 < s.heap.objs.size) → (∀ j, j < n → refA (vAt vs j) < s.heap.objs.size) → Q (.ref (s.heap.objs.size + n + 2)) { s with heap := h' }) :
    wpAny (model c.g.prog c.g.w) c.A (call (.type "zip") vals) Q E s := by
  obtain ⟨e1, hz⟩ := zipAt_get hz
  have hls : ∀ j, ∃ items : Array Value, j < n → items.toList.map absV = nthL wss j ∧ s.heap.IsList (refA (vAt vs j)) items := fun j => by
    by_cases hj : j < n
    · obtain ⟨items, a, b⟩ := R.listI ok (hz j (by (first | lia | omega))).2.1
      exact ⟨items, fun _ => ⟨a, b⟩⟩
    · exact ⟨#[], fun q => absurd q hj⟩
  have hvl : vals.length = n := by rw [← hlen, ← hv, List.length_map]
  have hvals : vals = (List.range n).map fun j => Value.ref (refA (vAt vs j)) := by
    refine List.ext_getElem (by simp [hvl]) fun j h1 h2 => ?_
    have hj : j < n := by (first | lia | omega)
    have h3 := (hz j (by (first | lia | omega))).1
    rw [← hv, List.getElem?_map, List.getElem?_eq_getElem h1] at h3
    simp only [List.getElem_map, List.getElem_range]
    rw [← hv]
    exact absV_ref (Option.some.inj h3)
  refine call_zipN hn (l := fun j => refA (vAt vs j)) (xs := fun j => Classical.choose (hls j)) hvals (fun j hj => (Classical.choose_spec (hls j) hj).2) fun h' S up => ?_
  have its := S.it
  have hoi : ∀ j, ∃ o, j < n → h'.get? (s.heap.objs.size + j) = some o ∧ o.cls = .type "list_iterator" ∧ o.data = .fields #[.ref (refA (vAt vs j)), .int 0 0] := fun j => by
    by_cases hj : j < n
    · refine Gen fun G back => ?_
      rcases its j hj with ⟨o, a, b, c⟩
      refine back ?_
      clear back
      clear G
      exact ⟨o, fun _ => ⟨a, b, c⟩⟩
    · exact ⟨{ cls := .none, data := .fields #[] }, fun q => absurd q hj⟩
  obtain ⟨old, hold⟩ := S.to
  have lt : ∀ p ∈ fr, p.1 < s.heap.objs.size := fun p hp' => by
    refine Gen fun G back => ?_
    rcases id R with ⟨_, _, _, _, _, _, N1, _⟩
    refine back ?_
    clear back
    clear G
    exact Heap.lt_size (N1 p hp').1
  refine h h' (ZOs n s.heap.objs.size old fun j => Classical.choose (hoi j)) ⟨old, _, rfl, fun j hj => (Classical.choose_spec (hoi j) hj).2⟩ (R.news ok hcp up fun p hp' => ?_) S.z lt S.lo
  rcases ZOs_mem.mp hp' with rfl | rfl | rfl | ⟨j, hj, rfl⟩
  · exact ⟨S.z, by show s.heap.objs.size ≤ s.heap.objs.size + n + 2; (first | lia | omega)⟩
  · exact ⟨S.ti, by show s.heap.objs.size ≤ s.heap.objs.size + n; (first | lia | omega)⟩
  · exact ⟨hold, by show s.heap.objs.size ≤ s.heap.objs.size + n + 1; (first | lia | omega)⟩
  · exact ⟨(Classical.choose_spec (hoi j) hj).1, by show s.heap.objs.size ≤ s.heap.objs.size + j; (first | lia | omega)⟩
theorem zip_next {c : Cx} {names l hp fr} {s : Shared} (ok : c.Ok) (hcp : c.cp = none) {n B : Nat} (hn : n = 2 ∨ n = 3) {vs : List V} {wss : List (List V)} {N : Nat} (hlen : vs.length = n) (hz : zipAt hp N vs wss) (hB : ∀ j, j < n → refA (vAt vs j) < B)
    {k : Nat} (hk : k ≤ N) {os : List (Addr × Obj)} (hO : ZIt n B (fun j => refA (vAt vs j)) k os) (hfr : ∀ p ∈ fr, p.1 < B ∨ B + n + 2 < p.1) (R : Rep c names l hp (os ++ fr) s.heap) {PN : Option Value → Shared → Prop} {E : Value → Shared → Prop}
    (item : ∀ T h', k < N → (∀ (ts : List Expr) kk pp (P : Unit → Shared → Prop) (E' : Value → Shared → Prop), (∀ os' h4 items, ZIt n B (fun j => refA (vAt vs j)) (k + 1) os' → IsTup h4 T items → items.toList.map absV = zrow wss k → Rep c names l hp (os' ++ fr) h4 → P () { s with heap := h4 }) →
        wpAny (model c.g.prog c.g.w) c.A (letOwnedTupleGo (.Tuple ts kk pp) (.ref (B + n + 2)) (.ref T)) P E' { s with heap := h' }) → PN (some (.ref T)) { s with heap := h' })
    (fin : k = N → ∀ h', Rep c names l hp fr h' → PN Option.none { s with heap := h' }) : wpAny (model c.g.prog c.g.w) c.A (pyNext (.ref (B + n + 2))) PN E s := by
  obtain ⟨e1, hz⟩ := zipAt_get hz
  refine Gen fun G back => ?_
  rcases hO with ⟨old, oi, hz34, hoi⟩
  refine back ?_
  clear back
  clear G
  subst hz34
  have hnn : 0 < n := by (first | lia | omega)
  have Ns : ∀ p ∈ ZOs n B old oi, s.heap.get? p.1 = some p.2 := fun p hp' => by
    refine Gen fun G back => ?_
    rcases id R with ⟨_, _, _, _, _, _, N1, _⟩
    refine back ?_
    clear back
    clear G
    exact (N1 p (List.mem_append_left _ hp')).1
  have hls : ∀ j, ∃ items : Array Value, j < n → items.toList.map absV = nthL wss j ∧ s.heap.IsList (refA (vAt vs j)) items := fun j => by
    by_cases hj : j < n
    · obtain ⟨items, a, b⟩ := R.listI ok (hz j (by (first | lia | omega))).2.1
      exact ⟨items, fun _ => ⟨a, b⟩⟩
    · exact ⟨#[], fun q => absurd q hj⟩
  have hxs := fun j => Classical.choose_spec (hls j)
  generalize hxe : (fun j => Classical.choose (hls j)) = xs at *
  have hxs : ∀ j, j < n → (xs j).toList.map absV = nthL wss j ∧ s.heap.IsList (refA (vAt vs j)) (xs j) := fun j hj => by
    have := hxs j hj
    rw [← hxe]; exact this
  have hsz : ∀ j, j < n → (xs j).size = N := fun j hj => by
    have := congrArg List.length (hxs j hj).1
    rw [(hz j (by (first | lia | omega))).2.2.1] at this
    simpa using this
  have hfr' : ∀ p ∈ fr, p.1 ∉ (ZOs n B old oi).map (·.1) := fun p hp' q => by
    have h3 := hfr p hp'
    rcases ZOs_key.mp q with q | q | q | ⟨j, hj, q⟩
    · rw [q] at h3; rcases h3 with h3 | h3
      · exact absurd h3 (by show ¬ B + n + 2 < B; (first | lia | omega))
      · exact absurd h3 (by show ¬ B + n + 2 < B + n + 2; (first | lia | omega))
    · rw [q] at h3; rcases h3 with h3 | h3
      · exact absurd h3 (by show ¬ B + n < B; (first | lia | omega))
      · exact absurd h3 (by show ¬ B + n + 2 < B + n; (first | lia | omega))
    · rw [q] at h3; rcases h3 with h3 | h3
      · exact absurd h3 (by show ¬ B + n + 1 < B; (first | lia | omega))
      · exact absurd h3 (by show ¬ B + n + 2 < B + n + 1; (first | lia | omega))
    · rw [q] at h3; rcases h3 with h3 | h3
      · exact absurd h3 (by show ¬ B + j < B; (first | lia | omega))
      · exact absurd h3 (by show ¬ B + n + 2 < B + j; (first | lia | omega))
  have S : ZSt s.heap n B (fun j => refA (vAt vs j)) k xs := ⟨Ns _ (ZOs_mem.mpr (.inl rfl)), Ns _ (ZOs_mem.mpr (.inr (.inl rfl))), ⟨old, Ns _ (ZOs_mem.mpr (.inr (.inr (.inl rfl))))⟩,
    fun j hj => ⟨oi j, Ns _ (ZOs_mem.mpr (.inr (.inr (.inr ⟨j, hj, rfl⟩)))), hoi j hj⟩, fun j hj => (hxs j hj).2, hB⟩
  by_cases hlt : k < N
  · refine wpAny_pyNext_zipN_item hnn (by (first | lia | omega)) S (v := fun j => (xs j).getD k .none) (fun j hj => by have := hsz j hj; simp [this, hlt]) fun h3 hz3 hto3 hit3 hT3 hsz3 hs3 => ?_
    refine item _ h3 hlt fun ts kk pp P E' hP => ?_
    refine wpAny_letOwnedTupleGo_zip (TI := B + n) (TO := B + n + 1) hz3 fun h4 hz4 hs4 => ?_
    have hzlt : B + n + 2 < s.heap.objs.size := Heap.lt_size S.z
    have hoi3 : ∀ j, ∃ o, j < n → h3.get? (B + j) = some o ∧ o.cls = .type "list_iterator" ∧ o.data = .fields #[.ref (refA (vAt vs j)), .int ((k + 1 : Nat) : Int) 0] := fun j => by
      by_cases hj : j < n
      · refine Gen fun G back => ?_
        rcases hit3 j hj with ⟨o, a, b, c⟩
        refine back ?_
        clear back
        clear G
        exact ⟨o, fun _ => ⟨a, b, c⟩⟩
      · exact ⟨{ cls := .none, data := .fields #[] }, fun q => absurd q hj⟩
    refine hP (ZOs n B (fun j => (xs j).getD k .none) fun j => Classical.choose (hoi3 j)) h4 ((List.range n).map fun j => (xs j).getD k .none).toArray ⟨_, _, rfl, fun j hj => (Classical.choose_spec (hoi3 j) hj).2⟩
      ⟨_, (hs4.2 _ (Nat.ne_of_gt hzlt)).trans hT3, rfl, _, rfl⟩ ?_ ?_
    · show ((List.range n).map fun j => (xs j).getD k .none).map absV = zrow wss k
      have hwl : wss.length = n := by (first | lia | omega)
      refine List.ext_getElem (by simp [zrow, hwl]) fun j h1 h2 => ?_
      have hj : j < n := by simpa using h1
      refine Gen fun G back => ?_
      rcases hz j (by (first | lia | omega)) with ⟨_, _, h5, h6⟩
      refine back ?_
      clear back
      clear G
      have h7 : wss[j]'(by (first | lia | omega)) = nthL wss j := by
        rw [List.getElem?_eq_getElem (by (first | lia | omega))] at h6; exact Option.some.inj h6
      simp only [zrow, List.getElem_map, List.getElem_range, h7]
      refine (vAt_get ?_).symm
      rw [← (hxs j hj).1]
      have := hsz j hj
      simp [this, hlt]
    · refine R.its hcp (fun p hp' => ?_) (fun b ob hb e => ?_) (fun p hp' => ?_) hfr'
      · refine ZOs_key.mpr ?_
        rcases ZOs_mem.mp hp' with rfl | rfl | rfl | ⟨j, hj, rfl⟩
        · exact .inl rfl
        · exact .inr (.inl rfl)
        · exact .inr (.inr (.inl rfl))
        · exact .inr (.inr (.inr ⟨j, hj, rfl⟩))
      · have hb' := fun q => hb (ZOs_key.mpr q)
        exact (hs4.2 b fun q => hb' (.inl q)).trans (hs3 b ob (fun q => hb' (.inl q)) (fun q => hb' (.inr (.inr (.inl q)))) (fun j hj q => hb' (.inr (.inr (.inr ⟨j, hj, q⟩)))) e)
      · rcases ZOs_mem.mp hp' with rfl | rfl | rfl | ⟨j, hj, rfl⟩
        · exact hz4
        · exact (hs4.2 _ (nea (by (first | lia | omega)))).trans (hs3 _ _ (nea (by (first | lia | omega))) (nea (by (first | lia | omega))) (fun j hj => nea (by (first | lia | omega))) S.ti)
        · exact (hs4.2 _ (nea (by (first | lia | omega)))).trans hto3
        · exact (hs4.2 _ (nea (by (first | lia | omega)))).trans (Classical.choose_spec (hoi3 j) hj).1
  · have hk : k = N := by (first | lia | omega)
    refine wpAny_pyNext_zipN_end (handled_none ok) hnn S (by have := hsz 0 hnn; simp [this]; (first | lia | omega)) fun h3 hx3 => ?_
    refine fin hk h3 ?_
    exact R.drops hcp hfr' fun b ob hb e => hx3 b ob (fun q => hb (ZOs_key.mpr (.inl q))) (fun q => hb (ZOs_key.mpr (.inr (.inr (.inl q))))) (fun j hj q => hb (ZOs_key.mpr (.inr (.inr (.inr ⟨j, hj, q⟩))))) e
theorem zipAt_of {h h1 : HP} {N : Nat} : ∀ {vs : List V} {wss : List (List V)}, zipAt h1 N vs wss → (∀ r, V.ref r ∈ vs → h r = h1 r) → zipAt h N vs wss
  | [], [], _, _ => trivial
  | [], _ :: _, z, _ => z.elim
  | v :: vs, wss, z, k => by
    cases v with
    | ref r =>
      cases wss with
      | nil => exact z.elim
      | cons ws wss => exact ⟨by rw [k r (.head _)]; exact z.1, z.2.1, zipAt_of z.2.2 fun r hr => k r (.tail _ hr)⟩
    | _ => cases wss <;> exact z.elim
section
variable {F : Fx}
theorem ss_forZ {x : Str} {p pt pc pos : Pos} {e : Expr} {es : List Expr} {ms : ME} {ts : List Expr} {k} {xs : List Str} {is : List Nat} {b : List Stmt} {m : MS} (hxe : x = "zip") (hx : x ∈ F.bt) (hk : F.sc.names.lookup x = some .globalImplicit) (hn : (e :: es).all notStar = true)
    (hes : SEs F (e :: es) ms) (ht : tgt? F ts = some (xs, is)) (h2 : is.length = 2 ∨ is.length = 3) (hb : SB F b m) : SS F (.For (.Tuple ts k pt) (.Call (.Name x p) (e :: es) [] pc) b [] pos) (.forZ is ms m) := by
  intro c d FO hg hsc ok rm l hp Q X hev hcp fr s P E R hP hX
  subst hxe
  simp only [List.all_cons, Bool.and_eq_true] at hn
  refine wpAny_For (Call_ (nameB FO hg hsc ok hx (v := .type "zip") boot_zip hk (by decide) (by decide) R ?_) rfl) folded_call
  refine PyProof.Rows.callWith_type1 ?_ (starEach_cons hn.1) (backTo_any hn.2)
  refine hes c d FO hg hsc ok rm l hp _ X hev pc fr s _ E R (fun vs xs h1 hh tk hq hxs R1 => ?_) (hX l)
  refine Gen fun G back => ?_
  rcases hq with ⟨wss, N, hz, hlen, I, i0, step, fin⟩
  refine back ?_
  clear back
  clear G
  refine zip_make ok hcp h2 hxs hlen hz R1 fun h' os hO R2 hzo hfr hB => ?_
  refine wpAny_pyIter_zip (TI := hh.objs.size + is.length) (TO := hh.objs.size + is.length + 1) hzo ?_
  refine forSM FO hsc ok hcp hg rm hb (n := N) (upd := fun k l K => K (lsetN l is (zrow wss k))) (K := fun h => ∀ r, V.ref r ∈ vs → h r = h1 r)
    (fun k os => ZIt is.length hh.objs.size (fun j => refA (vAt vs j)) k os)
    (fun k l2 hp2 os s' PN E2 hK hO R2 hkn item fin2 => ?_) hO R2 ⟨I, i0, fun k l h hk hI => step k _ l h (by simp [hk]) hI, fun l h hI => fin l h (by simpa using hI)⟩ hP
  refine zip_next ok hcp h2 hlen (zipAt_of hz hK) hB hkn hO (fun p hp' => .inl (hfr p hp')) R2 (fun T h3 hlt go => ?_) (fun hk h3 R3 => fin2 hk h3 _ R3)
  refine item _ h3 _ hlt fun K' P' hu hP' => ?_
  refine go ts k pt _ _ fun os' h4 items hO4 hT hrow R4 => ?_
  have hil : items.size = is.length := by
    have := congrArg List.length hrow
    rw [List.length_map, zrow, List.length_map, ← (zipAt_get hz).1, hlen] at this
    simpa using this
  refine assignT FO hsc ok hcp ht hT hil R4 fun h5 tk5 R5 => ?_
  rw [hrow] at R5
  exact hP' _ _ h5 tk5 hu hO4 R5
end
theorem codeAny_compLoop_testsT {prog : Program} {w : World} {A : Around} {R : Result → Shared → Prop} {s : Shared} {elt target iter : Expr} {ifs : List Expr} {scope : Scope} {pos : Pos} {it acc : Value} {env : Env} (I : Nat → Shared → Prop)
    (turn : ∀ n s, I n s → wpAny (model prog w) A (pyNext it) (fun r s₁ => match r with
      | none => R (.ok .next) s₁
      | some v => wpAny (model prog w) A (letOwnedTupleGo target it v) (fun _ s₁' => wpAny (model prog w) A (assign target env v) (fun _ s₂ =>
          wpAny (model prog w) A (ForIn.forIn ifs true fun c r => if r = true then do let ok ← isTrue c env (eval c env); pure (ForInStep.yield ok) else pure (ForInStep.yield r)) (fun ok s₃ =>
            if ok = true then wpAny (model prog w) A (eval elt env) (fun x s₄ =>
              wpAny (model prog w) A (call (.builtin "list.append") [acc, x]) (fun _ s₅ => ∃ m, m < n ∧ I m s₅) (notedBy (model prog w) A env fun e s' => R (.error e) s') s₄) (notedBy (model prog w) A env fun e s' => R (.error e) s') s₃
            else ∃ m, m < n ∧ I m s₃) (notedBy (model prog w) A env fun e s' => R (.error e) s') s₂) (notedBy (model prog w) A env fun e s' => R (.error e) s') s₁') (notedBy (model prog w) A env fun e s' => R (.error e) s') s₁) (notedBy (model prog w) A env fun e s' => R (.error e) s') s)
    (n : Nat) (h : I n s) :
    codeAny (model prog w) A (.compLoop (.ListComp elt [⟨target, iter, ifs, 0⟩] scope pos) 0 it acc env) R s := by
  refine codeAny_loop rfl I (fun n s hI => ?_) n h
  show wpAny _ A ((compTurn (.ListComp elt [⟨target, iter, ifs, 0⟩] scope pos) 0 it acc env).onRaise (fun x => do noteFrame x env; theTreesLotGoes x)) _ _ s
  refine wpAny_noted ?_
  rw [compTurn_list]
  refine wpAny_bind (wpAny_standAt (wpAny_bind (wpAny_mono (turn n s hI) (fun r s₁ h₁ => ?_) fun _ _ h' => h')))
  cases r with
  | none => exact wpAny_pure h₁
  | some v =>
    refine wpAny_bind (wpAny_mono h₁ (fun _ s₁' h₁ => ?_) fun _ _ h' => h')
    refine wpAny_bind (wpAny_mono h₁ (fun _ s₂ h₂ => wpAny_bind (wpAny_mono h₂ (fun ok s₃ h₃ => ?_) fun _ _ h' => h')) fun _ _ h' => h')
    cases ok with
    | false => exact wpAny_pure ⟨rfl, h₃⟩
    | true =>
      exact wpAny_bind (wpAny_bind (wpAny_mono h₃ (fun x s₄ h₄ => wpAny_bind (wpAny_mono h₄ (fun _ s₅ h₅ => wpAny_pure (wpAny_pure ⟨rfl, h₅⟩)) fun _ _ h' => h')) fun _ _ h' => h'))
noncomputable def tgtN : List Expr → Option (List Str)
  | [] => some []
  | .Name x _ :: r => (tgtN r).map (x :: ·)
  | _ :: _ => none
theorem tgtN_cons {e : Expr} {r : List Expr} {tn : List Str} (h : tgtN (e :: r) = some tn) : ∃ x p ys, e = .Name x p ∧ tgtN r = some ys ∧ tn = x :: ys := by
  cases e <;> first | (injection h; done) | skip
  rename_i x p
  have h : (tgtN r).map (x :: ·) = some tn := h
  cases hb : tgtN r with
  | none => rw [hb] at h; injection h
  | some ys =>
    rw [hb] at h
    injection h with h
    exact ⟨x, p, ys, rfl, rfl, h.symm⟩
structure CompOkT (F : Fx) (scope : Scope) (x : Str) (tn xs : List Str) (is : List Nat) : Prop where
  co : CompOk F scope x xs is
  tgts : ∀ y ∈ x :: tn, scope.names.lookup y = some .local
  nd : ((x :: tn) ++ xs).Nodup
theorem assignN_comp {c : Cx} {C : Addr} {scope : Scope} {kcl : List (Str × Addr)} (hk : scope.kind = .function) : ∀ {ts : List Expr} {tn : List Str}, tgtN ts = some tn →
    ((assignEach ts (compEnvC scope kcl C c.fenv)).length = ts.length ∧ ts.length = tn.length ∧ List.findIdx? (fun x => x.fst) (assignEach ts (compEnvC scope kcl C c.fenv)) = none) ∧
    (tn.Nodup → (∀ y ∈ tn, scope.names.lookup y = some .local) → ∀ (s : Shared) (vals : List Value) (m₂ : Str → Option Value) (oC : Obj) (P : Unit → Shared → Prop) (E : Value → Shared → Prop), vals.length = tn.length →
      s.heap.get? C = some oC → NsObj oC m₂ →
      (∀ h' tk' oC' m', (∀ b o, b ≠ C → s.heap.get? b = some o → h'.get? b = some o) → h'.get? C = some oC' → NsObj oC' m' → (∀ y, y ∉ tn → m' y = m₂ y) → (∀ (j : Nat) (y : Str) (val : Value), tn[j]? = some y → vals[j]? = some val → m' y = some val) → P () { s with heap := h', toks := tk' }) →
      wpAny (model c.g.prog c.g.w) c.A (assignInOrder ((assignEach ts (compEnvC scope kcl C c.fenv)).map (fun x => x.snd)) vals) P E s)
  | [], tn, h => by
    cases h
    refine ⟨⟨rfl, rfl, rfl⟩, fun _ _ s vals m₂ oC P E hl hC hN hP => ?_⟩
    have : vals = [] := by simpa using hl
    subst this
    exact assignInOrder_nil (hP s.heap s.toks oC m₂ (fun _ _ _ e => e) hC hN (fun _ _ => rfl) fun j y val h => by simp at h)
  | e :: r, tn, h => by
    refine Gen fun G back => ?_
    rcases tgtN_cons h with ⟨x, p, ys, hz35, hr, hz36⟩
    refine back ?_
    clear back
    clear G
    subst hz35
    subst hz36
    · obtain ⟨a, ih⟩ := assignN_comp (c := c) (C := C) (kcl := kcl) hk hr
      refine ⟨assignEach_ok a, fun nd hlk s vals m₂ oC P E hl hC hN hP => ?_⟩
      cases vals with
      | nil => simp at hl
      | cons v vals =>
        refine Gen fun G back => ?_
        rcases hN with ⟨es1, ep1, hd1, hk1', hr1⟩
        refine back ?_
        clear back
        clear G
        show wpAny _ _ (assignInOrder (assign (.Name x p) (compEnvC scope kcl C c.fenv) :: (assignEach r (compEnvC scope kcl C c.fenv)).map (fun x => x.snd)) (v :: vals)) P E s
        refine assignInOrder_cons (wpAny_assign_Name (wpAny_storeName_local (m := m₂) (lookup_relabel_local (hlk x (.head _))) ⟨oC, es1, ep1, hC, hd1, hk1', hr1⟩ (fun h3 hn3 hs3 => ?_) (by simp [compEnvC, relabel, hk])))
        refine Gen fun G back => ?_
        rcases id hn3 with ⟨oC2, es2, ep2, hoC2, hd2, hk2, hr2⟩
        refine back ?_
        clear back
        clear G
        refine ih (List.nodup_cons.mp nd).2 (fun y hy => hlk y (.tail _ hy)) _ vals _ oC2 P E (by simpa using hl) hoC2 ⟨es2, ep2, hd2, hk2, hr2⟩ fun h' tk' oC' m' k1 k2 k3 k4 k5 => ?_
        refine hP h' tk' oC' m' (fun b o hb e => k1 b o hb ((hs3.2 b hb).trans e)) k2 k3 (fun y hy => ?_) fun j y val hj hv => ?_
        · rw [k4 y fun q => hy (.tail _ q)]
          have : y ≠ x := fun q => hy (q ▸ .head _)
          simp [this]
        · cases j with
          | zero =>
            simp only [List.getElem?_cons_zero, Option.some.injEq] at hj hv
            subst hj hv
            rw [k4 x (List.nodup_cons.mp nd).1]
            simp
          | succ j => exact k5 j y val (by simpa using hj) (by simpa using hv)
theorem comp_locT {F : Fx} {x : Str} {tn xs : List Str} {is : List Nat} {scope : Scope} (co : CompOkT F scope x tn xs is) {l : List V} (hcells : cellsB l is = true) {m₂ : Str → Option Value} {vals : List Value} (hlen : vals.length = (x :: tn).length)
    (hm : ∀ (j : Nat) (y : Str) (val : Value), (x :: tn)[j]? = some y → vals[j]? = some val → m₂ y = some val) :
    Loc (kclOf scope (lookOf l xs is)) ((x :: tn) ++ xs) (vals.map absV ++ capsV l is) m₂ := by
  intro i y w hy hw hn
  by_cases hi : i < (x :: tn).length
  · rw [List.getElem?_append_left hi] at hy
    rw [List.getElem?_append_left (by rw [List.length_map, hlen]; exact hi), List.getElem?_map, List.getElem?_eq_getElem (by (first | lia | omega))] at hw
    have hw := Option.some.inj hw
    exact .inr ⟨fun a e => absV_cell (hw.trans e), _, hm i y _ hy (List.getElem?_eq_getElem (by (first | lia | omega))), hw⟩
  · rw [List.getElem?_append_right (by (first | lia | omega))] at hy
    rw [List.getElem?_append_right (by rw [List.length_map, hlen]; (first | lia | omega)), List.length_map, hlen] at hw
    generalize i - (x :: tn).length = j at *
    have hj : j < is.length := by
      rw [← co.co.len]
      exact (List.getElem?_eq_some_iff.mp hy).1
    have hi : is[j]? = some is[j] := by simp [hj]
    rw [caps_get hi] at hw
    have hw : lget l is[j] = w := Option.some.inj hw
    have hc := cellsB_get hcells is[j] (List.getElem_mem hj)
    refine .inl ⟨cellA (lget l is[j]), by rw [← hw]; exact hc, ?_⟩
    have nd : xs.Nodup := (List.nodup_cons.mp co.co.nd).2
    have h1 := zip_lookup_get nd hy hi
    have : lookOf l xs is y = cellA (lget l is[j]) := by unfold lookOf; rw [h1]
    rw [← this]
    exact kcl_lookup (by rw [co.co.free]; exact nd) (by rw [co.co.free]; exact List.mem_of_getElem? hy)
theorem pmT {α} (a b : α) (o l : List α) : (o ++ a :: b :: l).Perm (a :: b :: (o ++ l)) := List.perm_middle.trans (List.perm_middle.cons a)
section
variable {F : Fx}
theorem compGT {c : Cx} {d : Nat} (FO : F.Ok) (hg : c.g = F.g) (hsc : SCF c F) (ok : c.Ok) (hcp : c.cp = none) (rm : room c d)
    {x : Str} {tn xs : List Str} {is : List Nat} {scope : Scope} (coT : CompOkT F scope x tn xs is) {px pos pt : Pos} {kt} {ts : List Expr} (hts : tgtN ts = some tn) {ifs : List Expr} {iter elt : Expr} {mc me : ME}
    (hc : STs (F.inner scope ((x :: tn) ++ xs)) ifs mc) (he : SE (F.inner scope ((x :: tn) ++ xs)) elt me) {new : V → (List V → Prop) → HP → Prop}
    {vs : List V} {K : HP → Prop} {Q : V → HP → Prop} {l : List V} {hp : HP} {fr : List (Addr × Obj)} {s : Shared} {it : Addr} (It : Nat → List (Addr × Obj) → Prop) (Off Ky : Addr → Prop)
    (hKy : ∀ k os, It k os → ∀ p ∈ os, Ky p.1) (hKs : ∀ a, Ky a → a < s.heap.objs.size) (hOff : ∀ a, s.heap.objs.size ≤ a → Off a) (hOfr : ∀ p ∈ fr, Off p.1)
    (again : ∀ os fr' (s' : Shared) (P : Value → Shared → Prop) (E : Value → Shared → Prop), It 0 os → Rep c F.names l hp (os ++ fr') s'.heap → P (.ref it) s' → wpAny (model c.g.prog c.g.w) c.A (pyIter (.ref it)) P E s')
    (next : ∀ k hp os fr' (s' : Shared) (PN : Option Value → Shared → Prop) (E : Value → Shared → Prop), K hp → It k os → Rep c F.names l hp (os ++ fr') s'.heap → (∀ p ∈ fr', Off p.1) → k ≤ vs.length → (∀ h : k < vs.length, ∃ K', new vs[k] K' hp) →
      (∀ T h' tk', k < vs.length → (∀ (P : Unit → Shared → Prop) (E' : Value → Shared → Prop), (∀ os' h4 tk4 items, It (k + 1) os' → IsTup h4 T items → (∀ v K', vs[k]? = some v → new v K' hp → K' (items.toList.map absV ++ capsV l is) ∧ items.size = (x :: tn).length) → Rep c F.names l hp (os' ++ fr') h4 → P () { s' with heap := h4, toks := tk4 }) →
          wpAny (model c.g.prog c.g.w) c.A (letOwnedTupleGo (.Tuple (.Name x px :: ts) kt pt) (.ref it) (.ref T)) P E' { s' with heap := h', toks := tk' }) → PN (some (.ref T)) { s' with heap := h', toks := tk' }) →
      (k = vs.length → ∀ h' tk', Rep c F.names l hp fr' h' → PN Option.none { s' with heap := h', toks := tk' }) → wpAny (model c.g.prog c.g.w) c.A (pyNext (.ref it)) PN E s')
    {os₀ : List (Addr × Obj)} (h0 : It 0 os₀) (R0 : Rep c F.names l hp (os₀ ++ fr) s.heap) (hcells : cellsB l is = true)
    (hK : compI (fun l h R => evT F.g d mc l h R fun _ _ => False) (fun l h R => ev F.g d me l h R fun _ _ => False) new vs hp K Q)
    {E : Value → Shared → Prop} {RR : Value → Addr → Result → Shared → Prop}
    (hRR : ∀ D C oC m₂ hp' h' tk', Q (.ref D) hp' → NsObj oC m₂ → Rep c F.names l hp' ((C, oC) :: fr) h' → (∀ p ∈ fr, p.1 ≠ C) → RR (.ref D) C (.ok .next) { s with heap := h', toks := tk' }) :
    wpAny (model c.g.prog c.g.w) c.A (newList []) (fun acc s₃ => wpAny (model c.g.prog c.g.w) c.A (newFunctionEnv scope c.env.globals (kclOf scope (lookOf l xs is)) [] c.env.qual none .none (some c.env)) (fun cenv s₄ =>
      codeAny (model c.g.prog c.g.w) c.A (.compStart (.ListComp elt [⟨.Tuple (.Name x px :: ts) kt pt, iter, ifs, 0⟩] scope pos) 0 (.ref it) acc { cenv with scope := relabel scope c.env }) (RR acc cenv.locals) s₄) E s₃) E s := by
  refine Gen fun G back => ?_
  rcases hK with ⟨I, hI0, step, fin⟩
  refine back ?_
  clear back
  clear G
  have co := coT.co
  rw [c.env_plain hcp]
  refine wpAny_newObj_type (wpAny_newFunctionEnv co.cell (by intro y hy; simp at hy) (fun h₁ hns₁ hsb₁ => ?_) co.kind)
  dsimp only at hns₁ hsb₁ ⊢
  have R1 := R0.push ok { cls := .type "list", dict := none, data := .seq ([] : List Value).toArray } rfl
  have f1 := (R0.fresh ok).2
  have R2 := R1.push ok { cls := .type "dict", data := .dict #[] } rfl
  have f2 := (R1.fresh ok).2
  have hD0 : s.heap.objs.size ≤ s.heap.objs.size := Nat.le_refl _
  have hC0 : s.heap.objs.size ≤ (s.heap.push { cls := .type "list", dict := none, data := .seq ([] : List Value).toArray }).objs.size := by rw [Heap.size_push]; (first | lia | omega)
  have oD := hOff _ hD0
  have oC' := hOff _ hC0
  have kD : ∀ a, Ky a → a ≠ s.heap.objs.size := fun a ha e => absurd (hKs a ha) (by rw [e]; exact Nat.lt_irrefl _)
  have kC : ∀ a, Ky a → a ≠ (s.heap.push { cls := .type "list", dict := none, data := .seq ([] : List Value).toArray }).objs.size := fun a ha e => absurd (Nat.lt_of_lt_of_le (hKs a ha) hC0) (by rw [e]; exact Nat.lt_irrefl _)
  clear hD0 hC0 hOff hKs
  generalize hD : s.heap.objs.size = D at *
  generalize hH : s.heap.push { cls := .type "list", dict := none, data := .seq ([] : List Value).toArray } = H2 at *
  generalize hC : H2.objs.size = C at *
  have hDC : D ≠ C := f2 (D, _) (.head _)
  have hfC : ∀ p ∈ fr, p.1 ≠ C := fun p hp' => f2 p (.tail _ (List.mem_append_right _ hp'))
  have hfD : ∀ p ∈ fr, p.1 ≠ D := fun p hp' => f1 p (List.mem_append_right _ hp')
  refine Gen fun G back => ?_
  rcases id hns₁ with ⟨oC, es, ep, hoC, hd0, hk0, hr0⟩
  refine back ?_
  clear back
  clear G
  have R3 := R2.iter (noC hcp) (fun b ob hne e => (hsb₁.2 b hne).trans e) hoC f2
  have R4 : Rep c F.names l hp (os₀ ++ ((C, oC) :: (D, listOf #[] 0) :: fr)) h₁ := R3.prm hcp (pmT _ _ _ _)
  have offI : ∀ (oC : Obj) (its : Array Value) (n : Nat), ∀ p ∈ (C, oC) :: (D, listOf its n) :: fr, Off p.1 := fun _ _ _ => off2 oC' oD hOfr
  have loop : ∀ s₃ : Shared, s₃ = { s with heap := h₁, toks := s.toks + ([] : List (Str × Value)).length } →
      codeAny (model c.g.prog c.g.w) c.A (.compLoop (.ListComp elt [⟨.Tuple (.Name x px :: ts) kt pt, iter, ifs, 0⟩] scope pos) 0 (.ref it) (.ref D) (compEnvC scope (kclOf scope (lookOf l xs is)) C c.fenv))
        (RR (.ref D) C) s₃ := by
    rintro s₃ rfl
    refine codeAny_compLoop_testsT (fun n s' => ∃ k hp' os oC m₂ its cnt h' tk, n = vs.length + 1 - k ∧ k ≤ vs.length ∧ I k (its.toList.map absV) hp' ∧ It k os ∧ NsObj oC m₂ ∧
      Rep c F.names l hp' (os ++ ((C, oC) :: (D, listOf its cnt) :: fr)) h' ∧ s' = { s with heap := h', toks := tk }) ?_ _ ⟨0, hp, os₀, oC, _, #[], 0, h₁, _, rfl, Nat.zero_le _, hI0, h0, ⟨es, ep, hd0, hk0, hr0⟩, R4, rfl⟩
    intro n s' qz37
    refine Gen fun G back => ?_
    rcases qz37 with ⟨k, hp1, os, oC1, m₂, its, cnt, hh1, tk1, hz38, hk1, hI, hO, hNs, R5, hz39⟩
    refine back ?_
    clear back
    clear G
    subst hz38
    subst hz39
    have hKh : K hp1 := by
      by_cases hlt : k < vs.length
      · exact (step k vs[k] _ hp1 (by simp [hlt]) hI).1
      · have : k = vs.length := by (first | lia | omega)
        subst this
        exact (fin _ hp1 hI).1
    refine next k hp1 os _ _ _ _ hKh hO R5 (offI _ _ _) hk1 (fun h => ⟨_, (step k vs[k] _ hp1 (by simp [h]) hI).2.2⟩) (fun T h' tk' hlt go => ?_) (fun hkl h' tk' R6 => ?_)
    · dsimp only
      obtain ⟨_, hlen, hev⟩ := step k vs[k] _ hp1 (by simp [hlt]) hI
      refine go _ _ fun os' h4 tk4 items hO' hT hrow R6 => ?_
      obtain ⟨hev, hsz⟩ := hrow vs[k] _ (by simp [hlt]) hev
      have offO : ∀ p ∈ os', p.1 ≠ C ∧ p.1 ≠ D := fun p hp' => ⟨kC _ (hKy _ _ hO' p hp'), kD _ (hKy _ _ hO' p hp')⟩
      obtain ⟨⟨a1, a2, a3⟩, hasg⟩ := assignN_comp (c := c) (C := C) (scope := scope) (kcl := kclOf scope (lookOf l xs is)) co.kind (ts := .Name x px :: ts) (tn := x :: tn) (by show (tgtN ts).map _ = _; rw [hts]; rfl)
      refine Gen fun G back => ?_
      rcases R6.parts with ⟨g, m', news, Tn, Fm, lo, H, N, D'⟩
      refine back ?_
      clear back
      clear G
      refine unpackN_ Fm N hT (handled_none ok) (by rw [a1, a2, hsz]) a3 fun h2 F2 N2 => ?_
      have R7 : Rep c F.names l hp1 (os' ++ ((C, oC1) :: (D, listOf its cnt) :: fr)) h2 := Rep.of Tn F2 lo H N2 D'
      have hgC : h2.get? C = some oC1 := by obtain ⟨_, _, _, _, _, _, N, _⟩ := id R7; exact (N _ (List.mem_append_right _ (.head _))).1
      refine hasg (List.Nodup.sublist (List.sublist_append_left _ _) coT.nd) coT.tgts _ items.toList m₂ oC1 _ _ (by simpa using hsz) hgC hNs fun h3 tk3 oC2 m3 k1 k2 hNs2 _ k5 => ?_
      have offC : ∀ (its : Array Value) (n : Nat), ∀ p ∈ os' ++ ((D, listOf its n) :: fr), p.1 ≠ C := fun _ _ => List.forall_mem_append.mpr ⟨fun p hp' => (offO p hp').1, List.forall_mem_cons.mpr ⟨hDC, hfC⟩⟩
      have R7' : Rep c F.names l hp1 ((C, oC1) :: (os' ++ ((D, listOf its cnt) :: fr))) h2 := R7.prm hcp (List.perm_middle.symm)
      have R8 := R7'.iter (noC hcp) (fun b ob hne e => k1 b ob hne e) k2 (offC _ _)
      have lo2 := comp_locT coT hcells (m₂ := m3) (vals := items.toList) (by simpa using hsz) k5
      have RI := R8.inner (scope := scope) hcp (.head _) hNs2 lo2
      have hsc' : SCF (c.within C scope (kclOf scope (lookOf l xs is)) F.names l) (F.inner scope ((x :: tn) ++ xs)) := by
        refine ⟨?_, fun e => (nomatch e), fun e => (nomatch e)⟩
        have : c.fsc = F.sc := (c.sc_plain hcp).symm.trans hsc.1
        show relabel scope c.fenv = relabelS scope F.sc
        rw [← this]; rfl
      have ok' : (c.within C scope (kclOf scope (lookOf l xs is)) F.names l).Ok := ⟨ok.below, ok.inK, ok.top, ok.dicts, co.kind, ok.fkind, ok.gen, ok.cor, ok.hd, ok.seer, ok.tree⟩
      refine hc (c.within C scope (kclOf scope (lookOf l xs is)) F.names l) d (FO.inner coT.nd) hg hsc' ok' rm _ hp1 _ _ hev _ _ _ _ RI (fun b b' hp2 h4 tk4 hq4 hb4 R9 => ?_) (fun _ _ _ _ _ hx => hx.elim)
      cases hb4
      dsimp only
      cases b with
      | false =>
        rw [if_neg (by decide)]
        refine ⟨vs.length + 1 - (k + 1), by (first | lia | omega), k + 1, hp2, os', oC2, _, its, cnt, h4, tk4, rfl, by (first | lia | omega), hq4.2 rfl, hO', hNs2, (R9.outer hcp).prm hcp (List.perm_middle), rfl⟩
      | true =>
        rw [if_pos rfl]
        refine he (c.within C scope (kclOf scope (lookOf l xs is)) F.names l) d (FO.inner coT.nd) hg hsc' ok' rm _ hp2 _ _ (hq4.1 rfl) _ _ _ _ R9 (fun w y hp3 h5 tk5 hq5 hy R10 => ?_) (fun _ _ _ _ _ hx => hx.elim)
        have R11 : Rep c F.names l hp3 ((D, listOf its cnt) :: (C, oC2) :: (os' ++ fr)) h5 := (R10.outer hcp).prm hcp ((List.Perm.swap _ _ _).trans (List.perm_middle.symm.cons _))
        have hgD : h5.get? D = some (listOf its cnt) := by obtain ⟨_, _, _, _, _, _, N, _⟩ := id R11; exact (N _ (.head _)).1
        refine append_at hgD (fun h6 hs6 ho6 => ?_) (by simpa using hlen)
        have offD : ∀ p ∈ (C, oC2) :: (os' ++ fr), p.1 ≠ D := List.forall_mem_cons.mpr ⟨Ne.symm hDC, List.forall_mem_append.mpr ⟨fun p hp' => (offO p hp').2, hfD⟩⟩
        have R12 := R11.iter (noC hcp) (fun b ob hne e => (hs6.2 b hne).trans e) ho6 offD
        refine ⟨vs.length + 1 - (k + 1), by (first | lia | omega), k + 1, hp3, os', oC2, _, its.push y, cnt + 1, h6, tk5, rfl, by (first | lia | omega), ?_, hO', hNs2, R12.prm hcp ((pmT _ _ _ _).trans (List.Perm.swap _ _ _)), rfl⟩
        have : (its.push y).toList.map absV = its.toList.map absV ++ [w] := by cases hy; simp
        rw [this]; exact hq5
    · dsimp only
      subst hkl
      have R7 : Rep c F.names l hp1 ((D, listOf its cnt) :: (C, oC1) :: fr) h' := R6.prm hcp (List.Perm.swap _ _ _)
      have R8 := Rep.adopt (o := .list (its.toList.map absV)) hcp R7 (List.forall_mem_cons.mpr ⟨Ne.symm hDC, hfD⟩) ⟨its, cnt, rfl, rfl⟩
      have hDn : hp1 D = none := by obtain ⟨_, _, _, _, _, _, _, D'⟩ := id R7; exact D' _ (.head _)
      exact hRR D C oC1 m₂ _ h' _ ((fin _ hp1 hI).2 D hDn) hNs R8 hfC
  exact codeAny_compStart_list (loop _ rfl) (again os₀ _ _ _ _ h0 R4 (loop _ rfl))
end
section
variable {F : Fx}
theorem cr_compZ {x : Str} {tn xs : List Str} {is : List Nat} {scope : Scope} (coT : CompOkT F scope x tn xs is) {px pos pt pr pc : Pos} {kt} {ts : List Expr} (hts : tgtN ts = some tn) {ifs : List Expr} {elt e : Expr} {es : List Expr} {ms mc me : ME} {r : Str}
    (hre : r = "zip") (hr : r ∈ F.bt) (hk : F.sc.names.lookup r = some .globalImplicit) (hn : (e :: es).all notStar = true) (hes : SEs F (e :: es) ms) (h2 : (x :: tn).length = 2 ∨ (x :: tn).length = 3)
    (hc : STs (F.inner scope ((x :: tn) ++ xs)) ifs mc) (he : SE (F.inner scope ((x :: tn) ++ xs)) elt me) :
    CompRun F x xs is scope (.Tuple (.Name x px :: ts) kt pt) pos ifs (.Call (.Name r pr) (e :: es) [] pc) elt (.compZ (x :: tn).length ms mc me is) := by
  intro c d FO hg hsc ok rm hcp l hp Q X hev
  obtain ⟨hcells, hev⟩ := hev
  refine ⟨hcells, fun fr s E RR R hX hRR => ?_⟩
  subst hre
  simp only [List.all_cons, Bool.and_eq_true] at hn
  refine Call_ (nameB FO hg hsc ok hr (v := .type "zip") boot_zip hk (by decide) (by decide) R ?_) rfl
  refine PyProof.Rows.callWith_type1 ?_ (starEach_cons hn.1) (backTo_any hn.2)
  refine hes c d FO hg hsc ok rm l hp _ X hev pc fr s _ E R (fun vs xs' h1 hh tk hq hxs R1 => ?_) hX
  refine Gen fun G back => ?_
  rcases hq with ⟨wss, N, hz, hlen, hq⟩
  refine back ?_
  clear back
  clear G
  generalize hnn : (x :: tn).length = n at *
  refine zip_make ok hcp h2 hxs hlen hz R1 fun h' os hO R2 hzo hfr hB => ?_
  refine wpAny_pyIter_zip (TI := hh.objs.size + n) (TO := hh.objs.size + n + 1) hzo ?_
  generalize hh.objs.size = B at *
  refine compGT FO hg hsc ok hcp rm coT hts hc he (K := fun h => ∀ r, V.ref r ∈ vs → h r = h1 r) (fun k os => ZIt n B (fun j => refA (vAt vs j)) k os) (fun a => a < B ∨ B + n + 2 < a) (fun a => ∃ j : Nat, j ≤ n + 2 ∧ a = B + j)
    (fun k os hO p hp' => ?_) (fun a ha => ?_) (fun a ha => ?_) (fun p hp' => .inl (hfr p hp')) (fun os fr' s' P E hO R3 hP => ?_) (fun k hp2 os fr' s' PN E2 hK hO R3 hfr3 hkn _ item fin2 => ?_) hO R2 hcells hq hRR
  · refine Gen fun G back => ?_
    rcases hO with ⟨old, oi, hz40, _⟩
    refine back ?_
    clear back
    clear G
    subst hz40
    rcases ZOs_mem.mp hp' with rfl | rfl | rfl | ⟨j, hj, rfl⟩
    · exact ⟨n + 2, by (first | lia | omega), rfl⟩
    · exact ⟨n, by (first | lia | omega), rfl⟩
    · exact ⟨n + 1, by (first | lia | omega), rfl⟩
    · exact ⟨j, by (first | lia | omega), rfl⟩
  · obtain ⟨j, hj, rfl⟩ := ha
    have h3 : B + n + 2 < h'.objs.size := Heap.lt_size hzo
    exact Nat.lt_of_le_of_lt (by (first | lia | omega)) h3
  · have h3 : B + n + 2 < h'.objs.size := Heap.lt_size hzo
    exact .inr (Nat.lt_of_lt_of_le h3 ha)
  · refine Gen fun G back => ?_
    rcases hO with ⟨old, oi, hz41, _⟩
    refine back ?_
    clear back
    clear G
    subst hz41
    refine Gen fun G back => ?_
    rcases id R3 with ⟨_, _, _, _, _, _, N3, _⟩
    refine back ?_
    clear back
    clear G
    exact wpAny_pyIter_zip (TI := B + n) (TO := B + n + 1) (N3 _ (List.mem_append_left _ (ZOs_mem.mpr (.inl rfl)))).1 hP
  · refine zip_next ok hcp h2 hlen (zipAt_of hz hK) hB (by simpa using hkn) hO hfr3 R3 (fun T h3 hlt go => ?_) (fun hk h3 R3 => fin2 (by simp [hk]) h3 _ R3)
    refine item T h3 _ (by simpa using hlt) fun P E' hP => ?_
    refine go (.Name x px :: ts) kt pt P E' fun os' h4 items hO4 hT hrow R4 => ?_
    refine hP os' h4 _ items hO4 hT (fun v K' hv hnew => ?_) R4
    have hve : v = .int (k : Nat) := by
      simp [hlt] at hv
      exact hv.symm
    subst hve
    have hnew : K' (zrow wss (Int.toNat (k : Nat)) ++ capsV l is) := hnew
    rw [Int.toNat_natCast, ← hrow] at hnew
    refine ⟨hnew, ?_⟩
    have := congrArg List.length hrow
    rw [List.length_map, zrow, List.length_map, ← (zipAt_get hz).1, hlen] at this
    rw [hnn]
    simpa using this
theorem cr_compU {x : Str} {tn xs : List Str} {is : List Nat} {scope : Scope} (coT : CompOkT F scope x tn xs is) {px pos pt : Pos} {kt} {ts : List Expr} (hts : tgtN ts = some tn) {ifs : List Expr} {iter elt : Expr} {mi mc me : ME} (hit : SE F iter mi)
    (hc : STs (F.inner scope ((x :: tn) ++ xs)) ifs mc) (he : SE (F.inner scope ((x :: tn) ++ xs)) elt me) :
    CompRun F x xs is scope (.Tuple (.Name x px :: ts) kt pt) pos ifs iter elt (.compU (x :: tn).length mi mc me is) := by
  intro c d FO hg hsc ok rm hcp l hp Q X hev
  obtain ⟨hcells, hev⟩ := hev
  refine ⟨hcells, fun fr s E RR R hX hRR => ?_⟩
  refine (hit c d FO hg hsc ok rm l hp _ X hev fr s _ E R (fun v y h1 hh tk hq hy R1 => ?_) hX)
  cases v with
  | ref r =>
    cases absV_ref hy
    refine Gen fun G back => ?_
    rcases hq with ⟨vs, e1, hfit, hq⟩
    refine back ?_
    clear back
    clear G
    obtain ⟨items, hitems, hl⟩ := R1.listI ok e1
    have hex : ∀ h : HP, h r = h1 r → listAt (h r) = some vs := fun h e => by rw [e]; exact e1
    refine wpAny_pyIter_list hl ?_
    have hfresh := (R1.fresh ok).2
    have R2 := R1.push ok { cls := .type "list_iterator", data := .fields #[.ref r, .int 0 0] } rfl
    have hlt0 : hh.objs.size < (hh.push { cls := .type "list_iterator", data := .fields #[.ref r, .int 0 0] }).objs.size := by rw [Heap.size_push]; (first | lia | omega)
    generalize hh.objs.size = it at *
    refine compGT FO hg hsc ok hcp rm coT hts hc he (K := fun h => h r = h1 r) (fun k os => ∃ o, os = [(it, o)] ∧ o.cls = .type "list_iterator" ∧ o.data = .fields #[.ref r, .int k 0]) (fun a => a ≠ it) (fun a => a = it)
      (fun k os hO p hp' => ?_) (fun a ha => ?_) (fun a ha => ?_) hfresh (fun os fr' s' P E hO R3 hP => ?_) (fun k hp2 os fr' s' PN E2 hK hO R3 hfr3 hkn hnew item fin2 => ?_) ⟨_, rfl, rfl, rfl⟩ R2 hcells hq hRR
    · obtain ⟨o, rfl, _⟩ := hO
      simp only [List.mem_cons, List.not_mem_nil, or_false] at hp'
      rw [hp']
    · rw [ha]; exact hlt0
    · exact fun e => absurd (Nat.lt_of_lt_of_le hlt0 ha) (by rw [e]; exact Nat.lt_irrefl _)
    · refine Gen fun G back => ?_
      rcases hO with ⟨o, hz42, hc, hd⟩
      refine back ?_
      clear back
      clear G
      subst hz42
      refine Gen fun G back => ?_
      rcases id R3 with ⟨_, _, _, _, _, _, N3, _⟩
      refine back ?_
      clear back
      clear G
      exact wpAny_pyIter_listiter (l := r) (i := 0) ⟨o, (N3 _ (.head _)).1, hc, hd⟩ hP
    · refine Gen fun G back => ?_
      rcases hO with ⟨o1, hz43, hc1, hd1⟩
      refine back ?_
      clear back
      clear G
      subst hz43
      refine Gen fun G back => ?_
      rcases id R3 with ⟨_, _, _, _, _, _, N3, _⟩
      refine back ?_
      clear back
      clear G
      have hIt : s'.heap.IsListIter it r k := ⟨o1, (N3 _ (.head _)).1, hc1, hd1⟩
      obtain ⟨items2, hitems2, hl3⟩ := R3.listI ok (hex hp2 hK)
      have hsz : items2.size = vs.length := by rw [← hitems2]; simp
      by_cases hlt : k < vs.length
      · refine wpAny_pyNext_list_item hIt hl3 (x := items2[k]) (by simp [hsz, hlt]) fun h' hit' hs' => ?_
        refine Gen fun G back => ?_
        rcases hit' with ⟨o', ho', hc', hd'⟩
        refine back ?_
        clear back
        clear G
        have R4 := R3.iter (noC hcp) (fun b ob hne e => (hs'.2 b hne).trans e) ho' hfr3
        obtain ⟨K0, hn0⟩ := hnew hlt
        have e9 : vs[k] = absV items2[k] := by
          have h8 : (items2.toList.map absV)[k]'(by simp [hsz, hlt]) = absV items2[k] := by simp
          rw [← h8]
          congr 1
          exact hitems2.symm
        have hn0' := hn0
        revert hn0
        cases hvk : vs[k] <;> intro hn0 <;> first | exact hn0.elim | skip
        rename_i a
        refine Gen fun G back => ?_
        rcases hn0 with ⟨ws, ha, hwl, _⟩
        refine back ?_
        clear back
        clear G
        have hval : items2[k] = .ref a := absV_ref (e9.symm.trans hvk)
        rw [hval]
        refine item a h' _ hlt fun P E' hP => ?_
        refine goU it o' (.ref a) _ P E' (.inl hc') ho' ?_
        obtain ⟨items, hi, hl⟩ := R4.items ok (show itemsOf (hp2 a) = some ws by rw [ha]; rfl)
        rcases hl with ⟨_, hl⟩ | ⟨hl, _⟩
        · exact absurd ha (hl _)
        · refine hP [(it, o')] h' _ items ⟨o', rfl, hc', hd'⟩ hl (fun v K' hv hnew => ?_) R4
          have hve : v = .ref a := by
            rw [List.getElem?_eq_getElem hlt, hvk] at hv
            exact (Option.some.inj hv).symm
          subst hve
          refine Gen fun G back => ?_
          rcases hnew with ⟨ws', ha', hwl', hk'⟩
          refine back ?_
          clear back
          clear G
          rw [ha] at ha'
          cases ha'
          rw [hi]
          refine ⟨hk', ?_⟩
          rw [← hwl, ← hi]; simp
      · refine wpAny_pyNext_list_end (handled_none ok) hIt hl3 (by simp [hsz]; (first | lia | omega)) fun h' he => ?_
        exact fin2 (by (first | lia | omega)) h' _ (R3.drop (noC hcp) (fun b ob hne e => he b ob hne e) hfr3)
  | _ => exact hq.elim
end
theorem Rep.grow {c : Cx} {names l hp fr h h'} (R : Rep c names l hp fr h) (hs : ∀ b ob, h.get? b = some ob → h'.get? b = some ob) : Rep c names l hp fr h' := by
  refine Gen fun G back => ?_
  rcases R with ⟨g, T, m, Fm, lo, H, N, D⟩
  refine back ?_
  clear back
  clear G
  refine ⟨g, T, m, ⟨Fm.ns.at' fun ob e => hs _ _ e, fun b ob e => hs b ob (Fm.keep b ob e), Fm.above⟩, lo, ⟨H.1, fun a x hx => ?_⟩, fun p hp' => ⟨hs _ _ (N p hp').1, (N p hp').2⟩, D⟩
  have := H.2 a x hx
  cases x with
  | ro vs => exact this
  | list vs => obtain ⟨ob, h1, h2⟩ := this; exact ⟨ob, hs _ _ h1, h2⟩
  | tup vs => obtain ⟨ob, h1, h2⟩ := this; exact ⟨ob, hs _ _ h1, h2⟩
  | cell vs => obtain ⟨ob, h1, h2⟩ := this; exact ⟨ob, hs _ _ h1, h2⟩
  | rng _ _ _ => obtain ⟨ob, h1, h2⟩ := this; exact ⟨ob, hs _ _ h1, h2⟩
  | dict _ => obtain ⟨ob, h1, h2⟩ := this; exact ⟨ob, hs _ _ h1, h2⟩
theorem eqI_at {A : Around} {s : Shared} {y x : Value} {b : Bool} (h : eqI (absV y) (absV x) = some b) : SeqAt.EqAt A s y x b := by
  cases y <;> cases x <;> (first | (injection h; done) | (injection h with h; subst h))
  · exact SeqAt.EqAt.same _
  · exact SeqAt.EqAt.none_int _ _
  · exact SeqAt.EqAt.int_none _ _
  · exact SeqAt.EqAt.int_int _ _ _ _
theorem inV_any {x : Value} : ∀ {items : List Value} {t : Bool}, inV (absV x) (items.map absV) = some t → (∀ y ∈ items, eqI (absV y) (absV x) = some ((eqI (absV y) (absV x)).getD false)) ∧ items.any (fun y => (eqI (absV y) (absV x)).getD false) = t
  | [], t, h => by
    injection h with h
    exact ⟨fun _ h => absurd h List.not_mem_nil, h⟩
  | y :: r, t, h => by
    refine Gen fun G back => ?_
    rcases orO_some (a := eqI (absV y) (absV x)) (b := inV (absV x) (r.map absV)) h with ⟨b, c, hb, hc, h⟩
    refine back ?_
    clear back
    clear G
    · obtain ⟨i1, i2⟩ := inV_any hc
      refine ⟨fun z hz => ?_, ?_⟩
      · rcases List.mem_cons.mp hz with rfl | hz
        · rw [hb]; rfl
        · exact i1 z hz
      · rw [List.any_cons, i2, hb]; exact h
theorem inS {c : Cx} {names l hp X} {Q : Bool → HP → Prop} {v w : V} {x y : Value} (ok : c.Ok) (pos : Bool) (h : match w with | .ref r => ∃ vs t, listAt (hp r) = some vs ∧ inV v vs = some t ∧ Q (t == pos) hp | _ => False) (hx : absV x = v) (hy : absV y = w) :
    W (fun b val => val = .bool b) c names l (compareOp (if pos then .In else .NotIn) x y) hp Q X := by
  intro fr s P E R hP hX
  subst hx
  cases w with
  | ref r =>
    cases absV_ref hy
    refine Gen fun G back => ?_
    rcases h with ⟨vs, t, e1, e2, hq⟩
    refine back ?_
    clear back
    clear G
    obtain ⟨items, hi, hl⟩ := R.listI ok e1
    rw [← hi] at e2
    obtain ⟨a1, a2⟩ := inV_any e2
    have he : ∀ z, z ∈ items → SeqAt.EqAt c.A.in1 s z x ((eqI (absV z) (absV x)).getD false) := fun z hz => eqI_at (a1 z (by simpa using hz))
    have a3 : items.any (fun y => (eqI (absV y) (absV x)).getD false) = t := by rw [← a2]; simp
    cases pos with
    | true =>
      refine SeqAt.in_listAt _ hl he ?_
      rw [a3]
      refine hP _ _ hp s.heap s.toks hq ?_ R
      simp
    | false =>
      refine SeqAt.notIn_listAt _ hl he ?_
      rw [a3]
      refine hP _ _ hp s.heap s.toks hq ?_ R
      cases t <;> rfl
  | _ => exact h.elim
section
variable {F : Fx}
theorem se_in {a b : Expr} {pos} {ma mb : ME} (hm : behindInMarks .In b = false) (ha : SE F a ma) (hb : SE F b mb) : SE F (.Compare a [.In] [b] pos) (.inl ma mb true) := by
  intro c d FO hg hsc ok rm l hp Q X hev fr s P E R hP hX
  refine wpAny_Compare1 (ha c d FO hg hsc ok rm l hp _ X hev fr s _ E R (fun v x h1 hh tk hq hx R1 => ?_) hX) hm
  refine hb c d FO hg hsc ok rm l h1 _ X hq fr _ _ E R1 (fun w y h2 hh2 tk2 hq2 hy R2 => ?_) hX
  refine inS (Q := fun t h => Q (.bool t) h) ok true hq2 hx hy fr _ _ E R2 (fun u z h3 hh3 tk3 hq3 hz R3 => ?_) hX
  exact hP _ _ h3 hh3 tk3 hq3 (by rw [hz]; rfl) R3
theorem se_nin {a b : Expr} {pos} {ma mb : ME} (hm : behindInMarks .NotIn b = false) (ha : SE F a ma) (hb : SE F b mb) : SE F (.Compare a [.NotIn] [b] pos) (.inl ma mb false) := by
  intro c d FO hg hsc ok rm l hp Q X hev fr s P E R hP hX
  refine wpAny_Compare1 (ha c d FO hg hsc ok rm l hp _ X hev fr s _ E R (fun v x h1 hh tk hq hx R1 => ?_) hX) hm
  refine hb c d FO hg hsc ok rm l h1 _ X hq fr _ _ E R1 (fun w y h2 hh2 tk2 hq2 hy R2 => ?_) hX
  refine inS (Q := fun t h => Q (.bool t) h) ok false hq2 hx hy fr _ _ E R2 (fun u z h3 hh3 tk3 hq3 hz R3 => ?_) hX
  exact hP _ _ h3 hh3 tk3 hq3 (by rw [hz]; rfl) R3
theorem inQ {g d ma mb l hp pos} {Q : Bool → HP → Prop} {X : XT} (h : evT g d (.tv (.inl ma mb pos)) l hp Q X) : ev g d ma l hp (fun v h1 => ev g d mb l h1 (fun w h2 => match w with
      | .ref r => ∃ vs t, listAt (h2 r) = some vs ∧ inV v vs = some t ∧ Q (t == pos) h2 | _ => False) X) X := by
  refine Eq.mp ?_ h
  show ev g d ma l hp _ X = _
  congr 1
theorem st_in {a b : Expr} {pos} {ma mb : ME} (hm : behindInMarks .In b = false) (ha : SE F a ma) (hb : SE F b mb) : ST F (.Compare a [.In] [b] pos) (.tv (.inl ma mb true)) := by
  intro c d FO hg hsc ok rm l hp Q X hev whole hw fr s P E R hP hX
  refine wpAny_isTrue_Compare1 (ha c d FO hg hsc ok rm l hp _ X (inQ hev) fr s _ E R (fun v x h1 hh tk hq hx R1 => ?_) hX) hm
  refine hb c d FO hg hsc ok rm l h1 _ X hq fr _ _ E R1 (fun w y h2 hh2 tk2 hq2 hy R2 => ?_) hX
  refine inS (Q := fun t h => Q t h) ok true hq2 hx hy fr _ _ E R2 (fun u z h3 hh3 tk3 hq3 hz R3 => ?_) hX
  subst hz
  exact wpAny_truthy_bool (hP _ _ h3 hh3 tk3 hq3 rfl R3)
theorem st_nin {a b : Expr} {pos} {ma mb : ME} (hm : behindInMarks .NotIn b = false) (ha : SE F a ma) (hb : SE F b mb) : ST F (.Compare a [.NotIn] [b] pos) (.tv (.inl ma mb false)) := by
  intro c d FO hg hsc ok rm l hp Q X hev whole hw fr s P E R hP hX
  refine wpAny_isTrue_Compare1 (ha c d FO hg hsc ok rm l hp _ X (inQ hev) fr s _ E R (fun v x h1 hh tk hq hx R1 => ?_) hX) hm
  refine hb c d FO hg hsc ok rm l h1 _ X hq fr _ _ E R1 (fun w y h2 hh2 tk2 hq2 hy R2 => ?_) hX
  refine inS (Q := fun t h => Q t h) ok false hq2 hx hy fr _ _ E R2 (fun u z h3 hh3 tk3 hq3 hz R3 => ?_) hX
  subst hz
  exact wpAny_truthy_bool (hP _ _ h3 hh3 tk3 hq3 rfl R3)
theorem nodup_inj {ns : List Int} (nd : ns.Nodup) {i j : Nat} {hi : i < ns.length} {hj : j < ns.length} (h : ns[i] = ns[j]) : i = j := by
  rcases Nat.lt_trichotomy i j with q | q | q
  · exact absurd h (List.pairwise_iff_getElem.mp nd i j hi hj q)
  · exact q
  · exact absurd h.symm (List.pairwise_iff_getElem.mp nd j i hj hi q)
theorem firstMet_nodup {ns : List Int} (nd : ns.Nodup) : ∀ i, i ≤ ns.length → firstMet (fun i => ns.getD i 0) i = ns.take i
  | 0, _ => by rw [firstMet_zero]; rfl
  | i + 1, h => by
    have hi : i < ns.length := by (first | lia | omega)
    rw [firstMet_succ, firstMet_nodup nd i (by (first | lia | omega))]
    unfold step_dedup
    have e1 : ns.getD i 0 = ns[i] := by simp [List.getD, hi]
    have e2 : ¬ ((ns.take i).any (· == ns.getD i 0) = true) := by
      rw [e1]
      intro q
      obtain ⟨z, hz, hzz⟩ := List.any_eq_true.mp q
      obtain ⟨j, hj, hjz⟩ := List.mem_take_iff_getElem.mp hz
      have := (nodup_inj nd (hi := by (first | lia | omega)) (hj := hi)) (show ns[j]'(by (first | lia | omega)) = ns[i] by rw [hjz]; simpa using hzz)
      (first | lia | omega)
    rw [if_neg e2, e1, List.take_succ_eq_append_getElem hi]
theorem se_lenSet {x y : Str} {p p2 pos pos2 : Pos} {a : Expr} {ma : ME} (hxe : x = "len") (hx : x ∈ F.bt) (hk : F.sc.names.lookup x = some .globalImplicit) (hye : y = "set") (hy : y ∈ F.bt) (hky : F.sc.names.lookup y = some .globalImplicit) (hn : notStar a = true) (ha : SE F a ma) :
    SE F (.Call (.Name x p) [.Call (.Name y p2) [a] [] pos2] [] pos) (.lenSet ma) := by
  intro c d FO hg hsc ok rm l hp Q X hev fr s P E R hP hX
  subst hxe hye
  refine Call_ (nameB FO hg hsc ok hx (v := .builtin "len") (by decide +kernel) hk (by decide) (by decide) R ?_) rfl
  refine PyProof.Rows.callWith_builtin1 ?_ (starEach_cons rfl) rfl
  refine spliced_more ?_ (starEach_cons rfl)
  refine Call_ (nameB FO hg hsc ok hy (v := .type "set") PyProof.Rows.boot_set hky (by decide) (by decide) R ?_) rfl
  refine PyProof.Rows.callWith_type1 ?_ (starEach_cons hn) rfl
  refine spliced_more (ha c d FO hg hsc ok rm l hp _ X hev fr s _ E R (fun v y h1 hh tk hq hy R1 => ?_) hX) (starEach_cons hn)
  refine spliced_none ?_
  cases v with
  | ref r =>
    cases absV_ref hy
    refine Gen fun G back => ?_
    rcases hq with ⟨ns, e1, hlt, nd, hq⟩
    refine back ?_
    clear back
    clear G
    obtain ⟨items, hi, hl⟩ := R1.listI ok e1
    have hsz : items.size = ns.length := by
      have := congrArg List.length hi
      simpa using this
    refine call_set_list (handled_none ok) hl (ints_of_abs hi) (by unfold scanBound; (first | lia | omega)) fun h' tk' hS hk => ?_
    rw [hsz, firstMet_nodup nd _ (Nat.le_refl _), List.take_length] at hS
    refine Gen fun G back => ?_
    rcases hS.objOf with ⟨o, ho, hex, es, ep, t, hd, _, _, hnn, hf⟩
    refine back ?_
    clear back
    clear G
    refine spliced_none ?_
    refine call_len_set ho hex hd hf (by rw [hnn]; (first | lia | omega)) ?_
    rw [hnn]
    exact hP (.int ns.length) _ h1 h' _ hq rfl (R1.grow fun b ob e => hk b ob (Heap.lt_size e) e)
  | _ => exact hq.elim
end
noncomputable abbrev RE (F : Fx) (e : Expr) := Option { m : ME // SE F e m }
noncomputable abbrev RT (F : Fx) (e : Expr) := Option { m : ME // ST F e m }
noncomputable abbrev REs (F : Fx) (es : List Expr) := Option { m : ME // SEs F es m }
noncomputable abbrev RTB (F : Fx) (o : BoolOp) (es : List Expr) (pos : Pos) := Option { m : ME // STB F o es pos m }
noncomputable def glob? (F : Fx) (x : Str) : Bool := decide (F.sc.names.lookup x = some .globalImplicit) && !(x == ("__debug__" : Str))
theorem glob?_spec {F : Fx} {x : Str} (h : glob? F x = true) : F.sc.names.lookup x = some .globalImplicit ∧ (x == ("__debug__" : Str)) = false := by
  simp only [glob?, Bool.and_eq_true, decide_eq_true_eq, Bool.not_eq_true'] at h; exact h
noncomputable def bi? (F : Fx) (x : Str) : Bool := glob? F x && F.bt.contains x
theorem bi?_spec {F : Fx} {x : Str} (h : bi? F x = true) : x ∈ F.bt ∧ F.sc.names.lookup x = some .globalImplicit := by
  simp only [bi?, Bool.and_eq_true, List.contains_iff_mem] at h; exact ⟨h.2, (glob?_spec h.1).1⟩
noncomputable def cB1 (F : Fx) (x : Str) (p pos : Pos) (a : Expr) (hb : bi? F x = true) (hn : notStar a = true) (ma : { m : ME // SE F a m }) : RE F (.Call (.Name x p) [a] [] pos) :=
  if h : x = "len" then some ⟨.len ma.1, se_len h (bi?_spec hb).1 (bi?_spec hb).2 hn ma.2⟩
  else if h : x = "int" then some ⟨.toInt ma.1, se_toInt h (bi?_spec hb).1 (bi?_spec hb).2 hn ma.2⟩
  else if h : x = "list" then some ⟨.listOf ma.1, se_listOf h (bi?_spec hb).1 (bi?_spec hb).2 hn ma.2⟩
  else if h : x = "sorted" then some ⟨.sorted ma.1, se_sorted h (bi?_spec hb).1 (bi?_spec hb).2 hn ma.2⟩
  else none
noncomputable def cB2 (F : Fx) (x : Str) (p pos : Pos) (a b : Expr) (hb : bi? F x = true) (hn : notStar a = true) (hn2 : notStar b = true) (ma : { m : ME // SE F a m }) (mb : { m : ME // SE F b m }) : RE F (.Call (.Name x p) [a, b] [] pos) :=
  if h : x = "divmod" then some ⟨.dvm ma.1 mb.1, se_dvm h (bi?_spec hb).1 (bi?_spec hb).2 hn hn2 ma.2 mb.2⟩
  else if h : x = "pow" then some ⟨.bin .pow ma.1 mb.1, se_pow2 h (bi?_spec hb).1 (bi?_spec hb).2 hn hn2 ma.2 mb.2⟩
  else none
noncomputable def cB3 (F : Fx) (x : Str) (p pos : Pos) (a b e : Expr) (hb : bi? F x = true) (hn : notStar a = true) (hn2 : notStar b = true) (hn3 : notStar e = true) (ma : { m : ME // SE F a m }) (mb : { m : ME // SE F b m }) (me : { m : ME // SE F e m }) : RE F (.Call (.Name x p) [a, b, e] [] pos) :=
  if h : x = "pow" then some ⟨.pow3 ma.1 mb.1 me.1, se_pow3 h (bi?_spec hb).1 (bi?_spec hb).2 hn hn2 hn3 ma.2 mb.2 me.2⟩
  else none
noncomputable def locC? (F : Fx) (x : Str) : Option Nat :=
  match fIdx F.names x 0 with
  | some i => if F.sc.names.lookup x = some .cell ∧ (x == ("__debug__" : Str)) = false then some i else none
  | none => none
theorem locC?_spec {F : Fx} {x : Str} {i : Nat} (h : locC? F x = some i) : F.names[i]? = some x ∧ F.sc.names.lookup x = some .cell ∧ (x == ("__debug__" : Str)) = false := by
  unfold locC? at h
  split at h
  · rename_i j hj
    split at h
    · rename_i e
      cases h
      exact ⟨by simpa using (fIdx_get hj).2, e.1, e.2⟩
    · cases h
  · cases h
noncomputable def ndB : List Str → Bool
  | [] => true
  | x :: r => !(r.contains x) && ndB r
theorem ndB_nodup : ∀ {l : List Str}, ndB l = true → l.Nodup
  | [], _ => List.nodup_nil
  | x :: r, h => by
    simp only [ndB, Bool.and_eq_true, Bool.not_eq_true', List.contains_eq_mem, decide_eq_false_iff_not] at h
    exact List.nodup_cons.mpr ⟨h.1, ndB_nodup h.2⟩
noncomputable def idxs (F : Fx) : List Str → Option (List Nat)
  | [] => some []
  | x :: r => match fIdx F.names x 0, idxs F r with
    | some i, some is => some (i :: is)
    | _, _ => none
noncomputable def freeOfS (scope : Scope) : List Str := (scope.names.filter (·.2 == .free)).map (·.1)
noncomputable def compB (F : Fx) (scope : Scope) (x : Str) (xs : List Str) (is : List Nat) : Bool :=
  (scope.kind == .function) && scope.names.all (fun y => !(y.2 == .cell)) && scope.names.all (fun y => !(y.2 == .local) || scope.names.lookup y.1 == some .local) && (scope.names.lookup x == some .local) &&
    (xs.length == is.length) && (xs.zip is).all (fun p => F.names[p.2]? == some p.1) && ndB (x :: xs)
theorem compB_spec {F : Fx} {scope : Scope} {x : Str} {is : List Nat} (h : compB F scope x (freeOfS scope) is = true) : CompOk F scope x (freeOfS scope) is := by
  simp only [compB, Bool.and_eq_true, beq_iff_eq] at h
  refine Gen fun G back => ?_
  rcases h with ⟨⟨⟨⟨⟨⟨h1, h2⟩, h3⟩, h4⟩, h5⟩, h6⟩, h7⟩
  refine back ?_
  clear back
  clear G
  refine ⟨h1, fun y hy e => ?_, fun y hy e => ?_, h4, rfl, h5, fun p hp => ?_, ndB_nodup h7⟩
  · have := List.all_eq_true.mp h2 y hy
    rw [e] at this; revert this; decide
  · have := List.all_eq_true.mp h3 y hy
    rw [e] at this; simpa using this
  · simpa using List.all_eq_true.mp h6 p hp
noncomputable def compX (F : Fx) (scope : Scope) (x : Str) : Option { is : List Nat // CompOk F scope x (freeOfS scope) is } :=
  match idxs F (freeOfS scope) with
  | some is => if h : compB F scope x (freeOfS scope) is = true then some ⟨is, compB_spec h⟩ else none
  | none => none
noncomputable def tgtsB (scope : Scope) (x : Str) (tn xs : List Str) : Bool := (x :: tn).all (fun y => scope.names.lookup y == some .local) && ndB ((x :: tn) ++ xs)
theorem tgtsB_spec {F : Fx} {scope : Scope} {x : Str} {tn : List Str} {is : List Nat} (co : CompOk F scope x (freeOfS scope) is) (h : tgtsB scope x tn (freeOfS scope) = true) : CompOkT F scope x tn (freeOfS scope) is := by
  simp only [tgtsB, Bool.and_eq_true] at h
  exact ⟨co, fun y hy => by simpa using List.all_eq_true.mp h.1 y hy, ndB_nodup h.2⟩
set_option genInjectivity false in
structure RC (F : Fx) (x : Str) (tg : Expr) (iter : Expr) (ifs : List Expr) (scope : Scope) (pos : Pos) (elt : Expr) where
  m : ME
  is : List Nat
  co : CompOk F scope x (freeOfS scope) is
  hse : ∀ env v, foldedSetIterable iter env v = pure v
  run : CompRun F x (freeOfS scope) is scope tg pos ifs iter elt m
set_option genInjectivity false in
structure CR where
  C : (F : Fx) → (x : Str) → (px : Pos) → (iter : Expr) → (ifs : List Expr) → (scope : Scope) → (pos : Pos) → (elt : Expr) → Option (RC F x (.Name x px) iter ifs scope pos elt)
  CT : (F : Fx) → (x : Str) → (px : Pos) → (ts : List Expr) → (kt : Nat) → (pt : Pos) → (iter : Expr) → (ifs : List Expr) → (scope : Scope) → (pos : Pos) → (elt : Expr) → Option (RC F x (.Tuple (.Name x px :: ts) kt pt) iter ifs scope pos elt)
  E : (F : Fx) → (e : Expr) → RE F e
  Es : (F : Fx) → (es : List Expr) → REs F es
  Ts : (F : Fx) → (es : List Expr) → Option { m : ME // STs F es m }
  T : (F : Fx) → (e : Expr) → RT F e
  TB : (F : Fx) → (o : BoolOp) → (es : List Expr) → (pos : Pos) → RTB F o es pos
noncomputable def fC (kr : CR) (F : Fx) : (x : Str) → (px : Pos) → (iter : Expr) → (ifs : List Expr) → (scope : Scope) → (pos : Pos) → (elt : Expr) → Option (RC F x (.Name x px) iter ifs scope pos elt)
  | x, px, iter, ifs, scope, pos, elt =>
      match compX F scope x with
      | none => none
      | some co => match kr.Ts (F.inner scope (x :: freeOfS scope)) ifs, kr.E (F.inner scope (x :: freeOfS scope)) elt with
        | some mc, some me => (match iter with
          | .Call (.Name r pr) [a] [] pc => if hr : r = "range" ∧ bi? F r = true ∧ notStar a = true then (match kr.E F a with
              | some ma => some ⟨.compR (.int 0) ma.1 (.int 1) mc.1 me.1 co.1, co.1, co.2, (fun _ => folded_call), (cr_compR1 co.2 hr.1 (bi?_spec hr.2.1).1 (bi?_spec hr.2.1).2 hr.2.2 ma.2 mc.2 me.2)⟩
              | none => none) else (match kr.E F (.Call (.Name r pr) [a] [] pc) with
              | some mi => some ⟨.compL mi.1 mc.1 me.1 co.1, co.1, co.2, (fun _ => folded_call), cr_compL co.2 rfl mi.2 mc.2 me.2⟩
              | none => none)
          | .Call (.Name r pr) [a, b] [] pc => if hr : r = "range" ∧ bi? F r = true ∧ notStar a = true ∧ notStar b = true then (match kr.E F a, kr.E F b with
              | some ma, some mb => some ⟨.compR ma.1 mb.1 (.int 1) mc.1 me.1 co.1, co.1, co.2, (fun _ => folded_call), (cr_compR2 co.2 hr.1 (bi?_spec hr.2.1).1 (bi?_spec hr.2.1).2 hr.2.2.1 ma.2 hr.2.2.2 mb.2 mc.2 me.2)⟩
              | _, _ => none) else none
          | .Call (.Name r pr) [a, b, f] [] pc => if hr : r = "range" ∧ bi? F r = true ∧ notStar a = true ∧ notStar b = true ∧ notStar f = true then (match kr.E F a, kr.E F b, kr.E F f with
              | some ma, some mb, some mf => some ⟨.compR ma.1 mb.1 mf.1 mc.1 me.1 co.1, co.1, co.2, (fun _ => folded_call), (cr_compR3 co.2 hr.1 (bi?_spec hr.2.1).1 (bi?_spec hr.2.1).2 hr.2.2.1 ma.2 hr.2.2.2.1 mb.2 hr.2.2.2.2 mf.2 mc.2 me.2)⟩
              | _, _, _ => none) else none
          | e => if hs : setE e = false then (match kr.E F e with
              | some mi => some ⟨.compL mi.1 mc.1 me.1 co.1, co.1, co.2, (fun _ => folded_plain hs), (cr_compL co.2 hs mi.2 mc.2 me.2)⟩
              | none => none) else none)
        | _, _ => none
noncomputable def fCT (kr : CR) (F : Fx) : (x : Str) → (px : Pos) → (ts : List Expr) → (kt : Nat) → (pt : Pos) → (iter : Expr) → (ifs : List Expr) → (scope : Scope) → (pos : Pos) → (elt : Expr) → Option (RC F x (.Tuple (.Name x px :: ts) kt pt) iter ifs scope pos elt)
  | x, px, ts, kt, pt, iter, ifs, scope, pos, elt =>
      match htn : tgtN ts with
      | none => none
      | some tn => (match compX F scope x with
      | none => none
      | some co => if hT : tgtsB scope x tn (freeOfS scope) = true ∧ ((x :: tn).length = 2 ∨ (x :: tn).length = 3) then (match kr.Ts (F.inner scope ((x :: tn) ++ freeOfS scope)) ifs, kr.E (F.inner scope ((x :: tn) ++ freeOfS scope)) elt with
        | some mc, some me => (match iter with
          | .Call (.Name r pr) (e :: es) [] pc => if hr : r = "zip" ∧ bi? F r = true ∧ (e :: es).all notStar = true then (match kr.Es F (e :: es) with
              | some ms => some ⟨.compZ (x :: tn).length ms.1 mc.1 me.1 co.1, co.1, co.2, (fun _ => folded_call), (cr_compZ (tgtsB_spec co.2 hT.1) htn hr.1 (bi?_spec hr.2.1).1 (bi?_spec hr.2.1).2 hr.2.2 ms.2 hT.2 mc.2 me.2)⟩
              | none => none) else none
          | e => if hs : setE e = false then (match kr.E F e with
              | some mi => some ⟨.compU (x :: tn).length mi.1 mc.1 me.1 co.1, co.1, co.2, (fun _ => folded_plain hs), (cr_compU (tgtsB_spec co.2 hT.1) htn mi.2 mc.2 me.2)⟩
              | none => none) else none)
        | _, _ => none) else none)
noncomputable def fE (kr : CR) (F : Fx) : (e : Expr) → RE F e
  | .Name x _ => match h : loc? F x with
    | some i => some ⟨.var i, se_var (loc?_spec h).1 (loc?_spec h).2.1 (loc?_spec h).2.2⟩
    | none => match h : locC? F x with
      | some i => some ⟨.cvar i, se_cvar (locC?_spec h).1 (locC?_spec h).2.1 (locC?_spec h).2.2⟩
      | none => none
  | .ListComp elt [⟨.Name x px, iter, ifs, 0⟩] scope pos => if ht : F.top = true then
      match kr.C F x px iter ifs scope pos elt with
      | some c => some ⟨c.m, se_comp c.co ht c.hse c.run⟩
      | none => none
    else none
  | .ListComp elt [⟨.Tuple (.Name x px :: ts) kt pt, iter, ifs, 0⟩] scope pos => if ht : F.top = true then
      match kr.CT F x px ts kt pt iter ifs scope pos elt with
      | some c => some ⟨c.m, se_comp c.co ht c.hse c.run⟩
      | none => none
    else none
  | .Constant (.int i) _ _ => some ⟨.int i, se_int⟩
  | .Constant (.bool b) _ _ => some ⟨.bool b, se_bool⟩
  | .Constant .none _ _ => some ⟨.none, se_none⟩
  | .BinOp a o b _ => match h : opOf o, kr.E F a, kr.E F b with
    | some bo, some ma, some mb => some ⟨.bin bo ma.1 mb.1, se_bin h ma.2 mb.2⟩
    | _, _, _ => none
  | .UnaryOp .USub a _ => (kr.E F a).map fun ma => ⟨.neg ma.1, se_neg ma.2⟩
  | .UnaryOp .Not a _ => (kr.E F a).map fun ma => ⟨.not ma.1, se_not ma.2 fun _ _ _ _ _ _ h => PyProof.Rows.not_of h⟩
  | .Compare a [.Is] [.Constant .none _ _] _ => (kr.E F a).map fun ma => ⟨.isn ma.1 true, se_isn ma.2⟩
  | .Compare a [.IsNot] [.Constant .none _ _] _ => (kr.E F a).map fun ma => ⟨.isn ma.1 false, se_isnn ma.2⟩
  | .Compare a [.In] [b] _ => if hm : behindInMarks .In b = false then match kr.E F a, kr.E F b with
    | some ma, some mb => some ⟨.inl ma.1 mb.1 true, se_in hm ma.2 mb.2⟩
    | _, _ => none
    else none
  | .Compare a [.NotIn] [b] _ => if hm : behindInMarks .NotIn b = false then match kr.E F a, kr.E F b with
    | some ma, some mb => some ⟨.inl ma.1 mb.1 false, se_nin hm ma.2 mb.2⟩
    | _, _ => none
    else none
  | .Compare a [o] [b] _ => match h : cmpOf o, kr.E F a, kr.E F b with
    | some bo, some ma, some mb => some ⟨.cmp bo ma.1 mb.1, se_cmp h ma.2 mb.2⟩
    | _, _, _ => none
  | .Compare a [o, q] [b, e] _ => match h : cmpOf o, h' : cmpOf q, kr.E F a, kr.E F b, kr.E F e with
    | some bo, some bq, some ma, some mb, some me => some ⟨.chain ma.1 bo mb.1 bq me.1, se_chain h h' ma.2 mb.2 me.2⟩
    | _, _, _, _, _ => none
  | .BoolOp o [a] _ => (kr.E F a).map fun ma => ⟨ma.1, se_and_one o ma.2⟩
  | .BoolOp .And (a :: b :: r) pos => match kr.E F a, kr.E F (.BoolOp .And (b :: r) pos) with
    | some ma, some mb => some ⟨.and ma.1 mb.1, se_and ma.2 mb.2⟩
    | _, _ => none
  | .BoolOp .Or (a :: b :: r) pos => match kr.E F a, kr.E F (.BoolOp .Or (b :: r) pos) with
    | some ma, some mb => some ⟨.or ma.1 mb.1, se_or ma.2 mb.2⟩
    | _, _ => none
  | .IfExp a b e _ => match kr.T F a, kr.E F b, kr.E F e with
    | some ma, some mb, some me => some ⟨.ite ma.1 mb.1 me.1, se_ite ma.2 mb.2 me.2⟩
    | _, _, _ => none
  | .Tuple es _ _ => (kr.Es F es).map fun ms => ⟨.tup ms.1, se_tup ms.2⟩
  | .List es _ => (kr.Es F es).map fun ms => ⟨.list ms.1, se_list ms.2⟩
  | .Subscript a (.Slice (some i) none none p) pos => match kr.E F a, kr.E F i with
    | some ma, some mi => some ⟨.slcF ma.1 mi.1, se_slcF ma.2 mi.2⟩
    | _, _ => none
  | .Subscript a i _ => if h : sliceOf i = false then match kr.E F a, kr.E F i with
      | some ma, some mi => some ⟨.idx ma.1 mi.1, se_idx h ma.2 mi.2⟩
      | _, _ => none
    else none
  | .Call (.Attribute o nm apos) [e] [] pos => if hs : supE o = false ∧ (apos.endLine == pos.line) = true then match kr.E F o with
      | some mo => if h : nm = "append" then (if hn : notStar e = true then (kr.E F e).map fun me => ⟨.app mo.1 me.1, se_app h hs.1 hs.2 hn mo.2 me.2⟩ else none)
        else if h : nm = "pop" then (match e with
          | .Constant (.int 0) _ _ => some ⟨.pop0 mo.1, se_pop0 h hs.1 hs.2 mo.2⟩
          | _ => none)
        else none
      | none => none
    else none
  | .Call (.Name x p) (e :: es) [] pos => match h : F.gt.lookup x with
    | some a => if hx : glob? F x = true ∧ (e :: es).all notStar = true then
        (kr.Es F (e :: es)).map fun ms => ⟨.call a ms.1, se_call h (glob?_spec hx.1).1 (glob?_spec hx.1).2 hx.2 ms.2⟩
      else none
    | none => if hb : bi? F x = true then match es with
        | [] => if hn : notStar e = true then (match kr.E F e with
            | some ma => cB1 F x p pos e hb hn ma
            | none => (match e with
              | .Call (.Name y p2) [a] [] pos2 => if hh : x = "len" ∧ y = "set" ∧ bi? F y = true ∧ notStar a = true then
                  (kr.E F a).map fun ma => ⟨.lenSet ma.1, se_lenSet hh.1 (bi?_spec hb).1 (bi?_spec hb).2 hh.2.1 (bi?_spec hh.2.2.1).1 (bi?_spec hh.2.2.1).2 hh.2.2.2 ma.2⟩ else none
              | _ => none)) else none
        | [.Name T pT] => if hi : x = "isinstance" then (match hk : kdOf T with
              | some k => if hT : bi? F T = true ∧ notStar e = true then (kr.E F e).map fun ma => ⟨.isi ma.1 k, se_isi hi (bi?_spec hb).1 (bi?_spec hb).2 (bi?_spec hT.1).1 (bi?_spec hT.1).2 hk hT.2 ma.2⟩ else none
              | none => none)
            else if hn : notStar e = true then (match kr.E F e, kr.E F (.Name T pT) with | some ma, some mb => cB2 F x p pos e (.Name T pT) hb hn rfl ma mb | _, _ => none) else none
        | [b] => if hn : notStar e = true ∧ notStar b = true then (match kr.E F e, kr.E F b with | some ma, some mb => cB2 F x p pos e b hb hn.1 hn.2 ma mb | _, _ => none) else none
        | [b, f] => if hn : notStar e = true ∧ notStar b = true ∧ notStar f = true then (match kr.E F e, kr.E F b, kr.E F f with | some ma, some mb, some mf => cB3 F x p pos e b f hb hn.1 hn.2.1 hn.2.2 ma mb mf | _, _, _ => none) else none
        | _ => none
      else none
  | _ => none
noncomputable def fEs (kr : CR) (F : Fx) : (es : List Expr) → REs F es
  | [] => some ⟨.nil, ses_nil⟩
  | e :: r => if h : notStar e = true then match kr.E F e, kr.Es F r with
      | some me, some mr => some ⟨.cons me.1 mr.1, ses_cons h me.2 mr.2⟩
      | _, _ => none
    else none
noncomputable def fTs (kr : CR) (F : Fx) : (es : List Expr) → Option { m : ME // STs F es m }
  | [] => some ⟨.tv (.bool true), sts_nil⟩
  | [e] => (kr.T F e).map fun m => ⟨m.1, sts_one m.2⟩
  | _ => none
noncomputable def fT (kr : CR) (F : Fx) : (e : Expr) → RT F e
  | .Compare a [.Is] [.Constant .none _ _] _ => (kr.E F a).map fun ma => ⟨.tv (.isn ma.1 true), st_isn ma.2⟩
  | .Compare a [.IsNot] [.Constant .none _ _] _ => (kr.E F a).map fun ma => ⟨.tv (.isn ma.1 false), st_isnn ma.2⟩
  | .Compare a [.In] [b] _ => if hm : behindInMarks .In b = false then match kr.E F a, kr.E F b with
    | some ma, some mb => some ⟨.tv (.inl ma.1 mb.1 true), st_in hm ma.2 mb.2⟩
    | _, _ => none
    else none
  | .Compare a [.NotIn] [b] _ => if hm : behindInMarks .NotIn b = false then match kr.E F a, kr.E F b with
    | some ma, some mb => some ⟨.tv (.inl ma.1 mb.1 false), st_nin hm ma.2 mb.2⟩
    | _, _ => none
    else none
  | .Compare a [o] [b] _ => match h : cmpOf o, kr.E F a, kr.E F b with
    | some bo, some ma, some mb => some ⟨.cmp bo ma.1 mb.1, st_cmp h ma.2 mb.2⟩
    | _, _, _ => none
  | .Compare a [o, q] [b, e] _ => match h : cmpOf o, h' : cmpOf q, kr.E F a, kr.E F b, kr.E F e with
    | some bo, some bq, some ma, some mb, some me => some ⟨.chain ma.1 bo mb.1 bq me.1, st_chain h h' ma.2 mb.2 me.2⟩
    | _, _, _, _, _ => none
  | .UnaryOp .Not a _ => (kr.T F a).map fun ma => ⟨.not ma.1, st_not ma.2⟩
  | .BoolOp o es pos => (kr.TB F o es pos).map fun m => ⟨m.1, st_of m.2⟩
  | .IfExp a b e _ => match kr.T F a, kr.T F b, kr.T F e with
    | some ma, some mb, some me => some ⟨.ite ma.1 mb.1 me.1, st_ite ma.2 mb.2 me.2⟩
    | _, _, _ => none
  | e => if h : plainTest e = true then (kr.E F e).map fun m => ⟨.tv m.1, st_tv h m.2⟩ else none
noncomputable def fTB (kr : CR) (F : Fx) : (o : BoolOp) → (es : List Expr) → (pos : Pos) → RTB F o es pos
  | .And, [a], pos => (kr.T F a).map fun m => ⟨m.1, stb_and_one m.2⟩
  | .Or, [a], pos => (kr.T F a).map fun m => ⟨m.1, stb_or_one m.2⟩
  | .And, a :: r, pos => match kr.T F a, kr.TB F .And r pos with
    | some ma, some mr => some ⟨.and ma.1 mr.1, stb_and ma.2 mr.2⟩
    | _, _ => none
  | .Or, a :: r, pos => match kr.T F a, kr.TB F .Or r pos with
    | some ma, some mr => some ⟨.or ma.1 mr.1, stb_or ma.2 mr.2⟩
    | _, _ => none
  | _, _, _ => none
noncomputable def CR0 : CR where
  C _ _ _ _ _ _ _ _ := none
  CT _ _ _ _ _ _ _ _ _ _ _ := none
  E _ _ := none
  Es _ _ := none
  Ts _ _ := none
  T _ _ := none
  TB _ _ _ _ := none
noncomputable def CRs (kr : CR) : CR where
  C := fC kr
  CT := fCT kr
  E := fE kr
  Es := fEs kr
  Ts := fTs kr
  T := fT kr
  TB := fTB kr
noncomputable def CRn (n : Nat) : CR := Nat.rec CR0 (fun _ kr => CRs kr) n
noncomputable def cE (F : Fx) (n : Nat) : (e : Expr) → RE F e := (CRn n).E F
noncomputable def cEs (F : Fx) (n : Nat) : (es : List Expr) → REs F es := (CRn n).Es F
noncomputable def cT (F : Fx) (n : Nat) : (e : Expr) → RT F e := (CRn n).T F
noncomputable def cC (F : Fx) (n : Nat) : (x : Str) → (px : Pos) → (iter : Expr) → (ifs : List Expr) → (scope : Scope) → (pos : Pos) → (elt : Expr) → Option (RC F x (.Name x px) iter ifs scope pos elt) := (CRn n).C F
noncomputable def cCT (F : Fx) (n : Nat) : (x : Str) → (px : Pos) → (ts : List Expr) → (kt : Nat) → (pt : Pos) → (iter : Expr) → (ifs : List Expr) → (scope : Scope) → (pos : Pos) → (elt : Expr) → Option (RC F x (.Tuple (.Name x px :: ts) kt pt) iter ifs scope pos elt) := (CRn n).CT F
noncomputable abbrev RS (F : Fx) (st : Stmt) := Option { m : MS // SS F st m }
noncomputable abbrev RB (F : Fx) (b : List Stmt) := Option { m : MS // SB F b m }
theorem or7 {b : BOp} (h : (b == .add || b == .sub || b == .mul || b == .fdiv || b == .mod || b == .shr || b == .band) = true) : b = .add ∨ b = .sub ∨ b = .mul ∨ b = .fdiv ∨ b = .mod ∨ b = .shr ∨ b = .band := by
  cases b <;> simp_all <;> revert h <;> decide
noncomputable def isTup : Expr → Bool
  | .Tuple .. => true
  | _ => false
theorem isTup_ne {e : Expr} (h : isTup e = false) : ∀ vs k' p', e ≠ .Tuple vs k' p' := by
  intro vs k p q; subst q; cases h
set_option genInjectivity false in
structure RTS (F : Fx) (st : Stmt) where
  e : Expr
  t : TK
  m : ME
  ts : TS F e st t
  se : SE F e m
noncomputable def cTS (F : Fx) : (st : Stmt) → Option (RTS F st)
  | .Expr e pos => if hc : compE e = false then (cE F 60 e).map fun m => ⟨e, .expr, m.1, .expr hc, m.2⟩ else none
  | .Return (some e) pos => (cE F 60 e).map fun m => ⟨e, .ret, m.1, .ret, m.2⟩
  | .Assign [.Name x p] e pos => match h : loc? F x with
    | some i => if hc : compE e = false then (cE F 60 e).map fun m => ⟨e, .asg i, m.1, .asg (loc?_spec h).1 (loc?_spec h).2.1 hc, m.2⟩ else none
    | none => none
  | _ => none
noncomputable def cSH (F : Fx) : (b : List Stmt) → Option { m : MH // SH F b m }
  | [.Return (some (.Constant (.bool b) _ _)) _] => some ⟨.retB b, sh_retB⟩
  | [.Return (some (.Constant .none _ _)) _] => some ⟨.retN, sh_retN⟩
  | [.Return (some (.Tuple [.Constant (.str x) _ _] _ _)) _] => if h : x = Str.ofString x.toString then some ⟨.retS x.toString, sh_retS h⟩ else none
  | [.Assign [.Name x _] (.BinOp (.Name y _) .Add (.Constant (.int n) _ _) _) _] => if hxy : y = x then (match h : loc? F x with
      | some i => some ⟨.inc i n, by subst hxy; exact sh_inc (loc?_spec h).1 (loc?_spec h).2.1 (loc?_spec h).2.2⟩
      | none => none) else none
  | _ => none
set_option genInjectivity false in
structure SR where
  S : (F : Fx) → (st : Stmt) → RS F st
  SB : (F : Fx) → (b : List Stmt) → RB F b
noncomputable def fS (kr : SR) (F : Fx) : (st : Stmt) → RS F st
  | .Assign [.Name x p] e pos => match h : loc? F x with
    | some i => if hc : compE e = false then (cE F 60 e).map fun m => ⟨.asg i m.1, ss_asg (loc?_spec h).1 (loc?_spec h).2.1 hc m.2⟩
      else (match e with
        | .ListComp elt [⟨.Name y px, iter, ifs, 0⟩] scope cpos => if hs : F.top = true ∧ swapB F x p scope cpos = true then (match cC F 60 y px iter ifs scope cpos elt with
            | some c => some ⟨.asg i c.m, ss_asgX c.co hs.1 c.hse c.run (loc?_spec h).1 (loc?_spec h).2.1 hs.2⟩
            | none => none) else none
        | .ListComp elt [⟨.Tuple (.Name y py :: ts) kt pt, iter, ifs, 0⟩] scope cpos => if hs : F.top = true ∧ swapB F x p scope cpos = true then (match cCT F 60 y py ts kt pt iter ifs scope cpos elt with
            | some c => some ⟨.asg i c.m, ss_asgX c.co hs.1 c.hse c.run (loc?_spec h).1 (loc?_spec h).2.1 hs.2⟩
            | none => none) else none
        | _ => none)
    | none => match h : locC? F x with
      | some i => (cE F 60 e).map fun m => ⟨.casg i m.1, ss_casgX (locC?_spec h).1 (locC?_spec h).2.1 m.2⟩
      | none => none
  | .Assign [.Tuple ts k p] (.Tuple es k' p') pos => match ht : tgt? F ts with
    | some (xs, is) => if hl : ts.length = es.length ∧ es.length ≤ 100 then
        (match hs : swr F.sc ts es with
        | some none => (cEs F 60 es).map fun m => ⟨.asgN is m.1, ss_asgN ht (.inl hs) hl.1 hl.2 m.2⟩
        | some (some ys) => if hy : ys = xs ∧ is.Nodup then (cEs F 60 es).map fun m => ⟨.asgN is m.1, ss_asgN ht (.inr ⟨by rw [hs, hy.1], hy.2⟩) hl.1 hl.2 m.2⟩ else none
        | none => none)
      else none
    | none => match ht : tgtC? F ts with
      | some is => if hl : swr F.sc ts es = some none ∧ ts.length = es.length ∧ es.length ≤ 100 then (cEs F 60 es).map fun m => ⟨.asgC is m.1, ss_asgC ht hl.1 hl.2.1 hl.2.2 m.2⟩ else none
      | none => none
  | .Assign [.Tuple ts k p] e pos => match ht : tgt? F ts with
    | some (xs, is) => if hc : compE e = false ∧ isTup e = false then (cE F 60 e).map fun m => ⟨.unp is m.1, ss_unp ht (isTup_ne hc.2) hc.1 m.2⟩ else none
    | none => none
  | .Assign [.Subscript o i p] e pos => if hc : compE e = false then
      (match cE F 60 o, cE F 60 i, cE F 60 e with
      | some mo, some mi, some me => some ⟨.setI mo.1 mi.1 me.1, ss_setI hc me.2 mo.2 mi.2⟩
      | _, _, _ => none) else none
  | .AugAssign (.Name x p) o e pos => match h : loc? F x, ho : opOf o with
    | some i, some b => if hb : (b == .add || b == .sub || b == .mul || b == .fdiv || b == .mod || b == .shr || b == .band) = true then
        (cE F 60 e).map fun m => ⟨.aug i b m.1, ss_aug ho (or7 hb) (loc?_spec h).1 (loc?_spec h).2.1 m.2⟩ else none
    | _, _ => none
  | .If t a b pos => match cT F 60 t, kr.SB F a, kr.SB F b with
    | some mt, some ma, some mb => some ⟨.ite mt.1 ma.1 mb.1, ss_if mt.2 ma.2 mb.2⟩
    | _, _, _ => none
  | .While t a b pos => match cT F 60 t, kr.SB F a, kr.SB F b with
    | some mt, some ma, some mb => some ⟨.whil mt.1 ma.1 mb.1, ss_while mt.2 ma.2 mb.2⟩
    | _, _, _ => none
  | .Return (some e) pos => (cE F 60 e).map fun m => ⟨.ret m.1, ss_ret m.2⟩
  | .Break pos => some ⟨.brk, ss_brk⟩
  | .Expr e pos => if hc : compE e = false then (cE F 60 e).map fun m => ⟨.expr m.1, ss_expr hc m.2⟩ else none
  | .For (.Name x p) (.Call (.Name r pr) [a] [] pc) b [] pos => if hr : r = "range" then
      (match h : loc? F x with
      | some i => if hb : bi? F r = true ∧ notStar a = true then (match cE F 60 a, kr.SB F b with
          | some ma, some mb => some ⟨.forR i (.int 0) ma.1 (.int 1) mb.1, ss_forR1 hr (bi?_spec hb.1).1 (bi?_spec hb.1).2 hb.2 ma.2 (loc?_spec h).1 (loc?_spec h).2.1 mb.2⟩
          | _, _ => none) else none
      | none => none)
      else (match h : loc? F x with
      | some i => (match cE F 60 (.Call (.Name r pr) [a] [] pc), kr.SB F b with
          | some ma, some mb => some ⟨.forL i ma.1 mb.1, ss_forL rfl ma.2 (loc?_spec h).1 (loc?_spec h).2.1 mb.2⟩
          | _, _ => none)
      | none => none)
  | .For (.Name x p) (.Call (.Name r pr) [a, e] [] pc) b [] pos => if hr : r = "range" then
      (match h : loc? F x with
      | some i => if hb : bi? F r = true ∧ notStar a = true ∧ notStar e = true then (match cE F 60 a, cE F 60 e, kr.SB F b with
          | some ma, some me, some mb => some ⟨.forR i ma.1 me.1 (.int 1) mb.1, ss_forR2 hr (bi?_spec hb.1).1 (bi?_spec hb.1).2 hb.2.1 ma.2 hb.2.2 me.2 (loc?_spec h).1 (loc?_spec h).2.1 mb.2⟩
          | _, _, _ => none) else none
      | none => none)
      else none
  | .For (.Name x p) (.Call (.Name r pr) [a, e, f] [] pc) b [] pos => if hr : r = "range" then
      (match h : loc? F x with
      | some i => if hb : bi? F r = true ∧ notStar a = true ∧ notStar e = true ∧ notStar f = true then (match cE F 60 a, cE F 60 e, cE F 60 f, kr.SB F b with
          | some ma, some me, some mf, some mb => some ⟨.forR i ma.1 me.1 mf.1 mb.1, ss_forR3 hr (bi?_spec hb.1).1 (bi?_spec hb.1).2 hb.2.1 ma.2 hb.2.2.1 me.2 hb.2.2.2 mf.2 (loc?_spec h).1 (loc?_spec h).2.1 mb.2⟩
          | _, _, _, _ => none) else none
      | none => none)
      else none
  | .For (.Name x p) it b [] pos => if hs : setE it = false then
      (match h : loc? F x with
      | some i => (match cE F 60 it, kr.SB F b with
          | some ma, some mb => some ⟨.forL i ma.1 mb.1, ss_forL hs ma.2 (loc?_spec h).1 (loc?_spec h).2.1 mb.2⟩
          | _, _ => none)
      | none => none)
      else none
  | .For (.Tuple ts k pt) (.Call (.Name x p) [a] [] pc) b [] pos => match ht : tgt? F ts with
      | some (xs, is) => if h : x = "enumerate" ∧ bi? F x = true ∧ notStar a = true ∧ is.length = 2 then (match cE F 60 a, kr.SB F b with
          | some ma, some mb => some ⟨.forE is ma.1 mb.1, ss_forE h.1 (bi?_spec h.2.1).1 (bi?_spec h.2.1).2 h.2.2.1 ma.2 ht h.2.2.2 mb.2⟩
          | _, _ => none)
        else (match cE F 60 (.Call (.Name x p) [a] [] pc), kr.SB F b with
          | some ma, some mb => some ⟨.forU is ma.1 mb.1, ss_forU rfl ma.2 ht mb.2⟩
          | _, _ => none)
      | none => none
  | .For (.Tuple ts k pt) (.Call (.Name x p) (e :: e2 :: es) [] pc) b [] pos => match ht : tgt? F ts with
      | some (xs, is) => if h : x = "zip" ∧ bi? F x = true ∧ (e :: e2 :: es).all notStar = true ∧ (is.length = 2 ∨ is.length = 3) then (match cEs F 60 (e :: e2 :: es), kr.SB F b with
          | some ma, some mb => some ⟨.forZ is ma.1 mb.1, ss_forZ h.1 (bi?_spec h.2.1).1 (bi?_spec h.2.1).2 h.2.2.1 ma.2 ht h.2.2.2 mb.2⟩
          | _, _ => none)
        else (match cE F 60 (.Call (.Name x p) (e :: e2 :: es) [] pc), kr.SB F b with
          | some ma, some mb => some ⟨.forU is ma.1 mb.1, ss_forU rfl ma.2 ht mb.2⟩
          | _, _ => none)
      | none => none
  | .For (.Tuple ts k p) it b [] pos => if hs : setE it = false then
      (match h : tgt? F ts with
      | some (xs, is) => (match cE F 60 it, kr.SB F b with
          | some ma, some mb => some ⟨.forU is ma.1 mb.1, ss_forU hs ma.2 h mb.2⟩
          | _, _ => none)
      | none => none)
      else none
  | .Raise (some (.Call (.Name x np) [.Constant (.str t) k kp] [] cpos)) none pos => if h : x = "ValueError" ∧ bi? F x = true then some ⟨.raise "ValueError", ss_raise h.1 (bi?_spec h.2).1 (bi?_spec h.2).2⟩ else some ⟨.stop, ss_stop⟩
  | .Raise .. => some ⟨.stop, ss_stop⟩
  | .Try [st] [.ExceptHandler (some (.Name x np)) none (b₀ :: suite) pos] [] [] p2 => if h : x = Str.ofString "ValueError" ∧ bi? F x = true ∧ F.top = true ∧ (F.sc.names.all fun y => !(y.2 == .cell)) = true then
      match cTS F st, cSH F (b₀ :: suite) with
      | some t, some mh => some ⟨.tryE t.t t.m "ValueError" mh.1, by
          refine Gen fun G back => ?_
          rcases h with ⟨hz44, h2, h3, h4⟩
          refine back ?_
          clear back
          clear G
          subst hz44
          exact ss_tryE t.ts t.se h3 h4 (bi?_spec h2).1 (bi?_spec h2).2 mh.2⟩
      | _, _ => none
    else none
  | _ => none
noncomputable def fSB (kr : SR) (F : Fx) : (b : List Stmt) → RB F b
  | [] => some ⟨.skip, sb_nil⟩
  | st :: r => match kr.S F st, kr.SB F r with
    | some m, some mr => some ⟨.seq m.1 mr.1, sb_cons m.2 mr.2⟩
    | _, _ => none
noncomputable def SR0 : SR where
  S _ _ := none
  SB _ _ := none
noncomputable def SRs (kr : SR) : SR where
  S := fS kr
  SB := fSB kr
noncomputable def SRn (n : Nat) : SR := Nat.rec SR0 (fun _ kr => SRs kr) n
noncomputable def cSB (F : Fx) (n : Nat) : (b : List Stmt) → RB F b := (SRn n).SB F
noncomputable def namesOf (sc : Scope) : List Str := sc.names.filterMap fun (x, k) => if k == .local || k == .cell then some x else none
noncomputable abbrev mkF (g : G) (gt : List (Str × Addr)) (bt : List Str) (f : Addr) (tr : Bool := false) : Fx := ⟨g, gt, bt, namesOf (fnAt g.K f).scope, (fnAt g.K f).scope, true, tr⟩
theorem sb_of {F : Fx} {b : List Stmt} {n : Nat} {ms : MS} (h : (cSB F n b).map (fun m => m.1) = some ms) : SB F b ms := by
  cases q : cSB F n b with
  | none => rw [q] at h; cases h
  | some m => rw [q] at h; simp only [Option.map_some, Option.some.injEq] at h; exact h ▸ m.2
noncomputable def gtB (K : Frag) (gt : List (Str × Addr)) : Bool := gt.all fun p => (match nsIn K mainGlobals p.1 with | some (some (.ref a)) => a == p.2 | _ => false) && keepIn K (.ref p.2)
noncomputable def btB (K : Frag) (bt : List Str) : Bool := bt.all fun x => (match nsIn K mainGlobals x with | some Option.none => true | _ => false)
theorem lookup_mem {x : Str} {a : Addr} : ∀ {l : List (Str × Addr)}, l.lookup x = some a → (x, a) ∈ l
  | [], h => by cases h
  | (y, b) :: r, h => by
    rw [List.lookup_cons] at h
    cases q : x == y with
    | true => rw [q] at h; cases h; rw [beq_iff_eq.mp q]; exact .head _
    | false => rw [q] at h; exact .tail _ (lookup_mem h)
theorem fok {g : G} {gt : List (Str × Addr)} {bt : List Str} {names : List Str} {sc : Scope} (h1 : gtB g.K gt = true) (h2 : btB g.K bt = true) (h3 : ndB names = true) {tr : Bool} (h4 : tr = true → catchOk g := by intro h; cases h) : Fx.Ok ⟨g, gt, bt, names, sc, true, tr⟩ where
  tr := h4
  gt := fun x a h => by
    have := List.all_eq_true.mp h1 _ (lookup_mem h)
    simp only [Bool.and_eq_true] at this
    refine ⟨?_, this.2⟩
    have h := this.1
    split at h
    · rename_i b e; rw [e, eq_of_beq h]
    · cases h
  bt := fun x h => by
    have := List.all_eq_true.mp h2 _ h
    split at this
    · assumption
    · cases this
  nd := ndB_nodup h3
noncomputable def Upto (S : List Addr) (hp hp' : HP) : Prop := ∀ b, b ∉ S → ∀ o, hp b = some o → hp' b = some o
theorem Upto.refl {S hp} : Upto S hp hp := fun _ _ _ h => h
theorem Upto.trans {S hp h1 h2} (a : Upto S hp h1) (b : Upto S h1 h2) : Upto S hp h2 := fun x hx o h => b x hx o (a x hx o h)
theorem Upto.new {S hp r o} (h : hp r = none) : Upto S hp (hset hp r o) := fun x _ o' e => by rw [hset_ne (fun q => by rw [q, h] at e; cases e)]; exact e
theorem Upto.set {S hp r o} (h : r ∈ S) : Upto S hp (hset hp r o) := fun x hx o' e => by rw [hset_ne (fun q => hx (by rw [q]; exact h))]; exact e
theorem Upto.mono {S T hp hp'} (a : Upto S hp hp') (h : ∀ x ∈ S, x ∈ T) : Upto T hp hp' := fun x hx o e => a x (fun q => hx (h x q)) o e
theorem Upto.at {S hp hp' a o} (u : Upto S hp hp') (h : hp a = some o) (hn : a ∉ S := by simp) : hp' a = some o := u a hn o h
theorem ne_of_none {hp : HP} {a b : Addr} {o : O} (h : hp a = none) (h' : hp b = some o) : b ≠ a := fun e => by rw [e, h] at h'; cases h'
theorem turnNil {g g' h : Heap} {L : Addr} {m : Str → Option Value} (T : KtsTurn [] g g') (F : Fr g' L h m) : Fr g L h m :=
  ⟨F.ns, fun b o e => F.keep b o (T.other b o e (by simp)), by rw [← T.size]; exact F.above⟩
theorem law_endC {prog : Program} {w : World} {K : Frag} {p : Program} {loose : List Str} {mean : ExcName → Option Value} {mg mb : Str → Option Value} {gt : List (Str × Addr)} {bt : List Str} {f : Addr} {tr : Bool}
    (FO : Fx.Ok (mkF ⟨prog, w, K, p, loose, mean, mg, mb⟩ gt bt f tr)) {body : List Stmt} {ms : MS} (hb : SB (mkF ⟨prog, w, K, p, loose, mean, mg, mb⟩ gt bt f tr) body ms)
    {s₁ : Shared} {h₁ : Heap} {tk : Nat} {qn : Str} {sc : Scope} {fa : Addr} {cd : Value} {m : Str → Option Value} {a : Addr} {vs : List Value} {ns : List Int} {cells : List (Addr × Obj)}
    (T : Top p loose mean mg mb s₁.heap) (KX : K.In s₁.heap) (K0 : Below callerA s₁.heap [] s₁.heap) (hF : Fr s₁.heap s₁.heap.objs.size h₁ m) (hN : News s₁.heap s₁.heap.objs.size h₁ cells) (hl : s₁.heap.IsList a vs.toArray) (hi : IntsAre vs ns)
    (hsc : sc = (fnAt K f).scope) (hk : sc.kind = .function) (hg : sc.isGenerator = false) (hc : sc.isCoroutine = false) (him : importsNone p = true) (htree : prog.given.tree = none)
    {x : Str} (hm : m = bindL (fun y => sc.names.lookup y) [(x, Value.ref a)] fun _ => none) (CA : CellsAre (bindC (fun y => sc.names.lookup y) [(x, Value.ref a)] fun _ => none) (cellsFrom (s₁.heap.objs.size + 1) sc.names []) cells)
    (hnm : (namesOf (fnAt K f).scope).take 1 = [x]) (hnl : ((namesOf (fnAt K f).scope).all fun x => (fnAt K f).scope.names.lookup x == some .local || (fnAt K f).scope.names.lookup x == some .cell) = true)
    {ps : V → List (Bool × V)} (hps : ∀ b, (cellKs (fnAt K f).scope (namesOf (fnAt K f).scope)).zip (unC (namesOf (fnAt K f).scope) [(x, V.ref b)]) = ps (.ref b))
    (hex : ∀ b, enterC (ps (.ref b)) (fun c => if c = b then some (.ro (ns.map .int)) else none) fun l h0 => exec ⟨prog, w, K, p, loose, mean, mg, mb⟩ 40 ms l h0 (fun o _ _ => o = .ret (.bool true)) noX)
    {Q : Flow → Shared → Prop} {E : Value → Shared → Prop} (hQ : ∀ h' tk' m', Fr s₁.heap s₁.heap.objs.size h' m' → Q (.ret (.bool true)) { s₁ with heap := h', toks := tk' }) :
    wpAny (model prog w) (callerA.deeper (envOfC qn sc s₁.heap.objs.size fa cd)) (execs body (envOfC qn sc s₁.heap.objs.size fa cd)) Q E { s₁ with heap := h₁, toks := tk } := by
  subst hsc
  let c : Cx := { g := ⟨prog, w, K, p, loose, mean, mg, mb⟩, A₀ := callerA, base := s₁.heap, h₀ := s₁.heap, outer := [], L := s₁.heap.objs.size, qn := qn, fsc := (fnAt K f).scope, fa := fa, cd := cd, cl := cellsFrom (s₁.heap.objs.size + 1) (fnAt K f).scope.names [], cp := none }
  have ok : c.Ok := ⟨K0, KX, T, ktsDicts_nil, hk, hk, hg, hc, rfl, T.seer him, htree⟩
  have hv := ints_abs hi
  have H : HpN c (fun b => if b = a then some (.ro (ns.map .int)) else none) [] := by
    refine ⟨⟨[a], fun b o h => ?_⟩, fun b o h => ?_⟩
    · by_cases q : b = a
      · simp [q]
      · simp [q] at h
    · by_cases q : b = a
      · simp only [q, if_true, Option.some.injEq] at h
        subst h; subst q
        exact ⟨vs.toArray, hl, by simpa using hv⟩
      · simp [q] at h
  obtain ⟨l', hp1, hx1, R'⟩ := enter_rep (F := mkF ⟨prog, w, K, p, loose, mean, mg, mb⟩ gt bt f tr) FO (c' := c) (sc := (fnAt K f).scope) (L' := s₁.heap.objs.size) (binds := [(x, Value.ref a)]) (bargs := [(x, V.ref a)]) (fr := []) (news0 := []) rfl rfl rfl rfl rfl hm rfl hF (by simpa using hN) CA H (fun _ h => nomatch h) (fun _ h => nomatch h) (fun _ _ e => e) rfl (by simpa using hnm)
    (fun x hx => by have := List.all_eq_true.mp hnl x hx; simpa using this) (by rw [hps]; exact hex a)
  refine hb c 40 FO rfl ⟨rfl, fun _ => rfl, fun _ hc => cellsFrom_none hc⟩ ok ⟨(by show callerA.depth + 1 + 40 + 200 < recursionLimit; decide), (by show callerA.units + 3 + 8 * 40 + 200 < cLine; decide)⟩ l' hp1 _ noX hx1 rfl [] _ _ _ R' (fun o f l' hp' h' tk' ho hf R' => ?_) fun _ => noXP
  subst ho
  cases f <;> first | exact hf.elim | skip
  cases absV_bool hf
  refine Gen fun G back => ?_
  rcases R' with ⟨g, T, m', F', _⟩
  refine back ?_
  clear back
  clear G
  exact hQ h' tk' m' (turnNil (g' := g) T F')
noncomputable def Pool (hp : HP) (p r : Addr) : Prop :=
  ∃ (x y : Int) (ns : List Int), hp p = some (.list [.int x, .int y, .ref r]) ∧ hp r = some (.list (ns.map .int)) ∧ p ≠ r ∧ 0 ≤ x ∧ 0 ≤ y ∧ ns.length < 1000
theorem Pool.up {S hp hp' p r} (P : Pool hp p r) (u : Upto S hp hp') (h1 : p ∉ S := by simp) (h2 : r ∉ S := by simp) : Pool hp' p r := by
  refine Gen fun G back => ?_
  rcases P with ⟨x, y, ns, a, b, c⟩
  refine back ?_
  clear back
  clear G
  exact ⟨x, y, ns, u.at a h1, u.at b h2, c⟩
noncomputable def drawTail : MS := (.seq (.ite (.cmp .gt (.idx (.var 0) (.int 0)) (.int 0))
      (.seq (.asg 4 (.bin .mod (.toInt (.idx (.var 0) (.int 0))) (.var 1)))
        (.seq (.setI (.var 0) (.int 0) (.bin .fdiv (.idx (.var 0) (.int 0)) (.var 1))) (.seq (.ret (.var 4)) .skip))) .skip)
    (.seq (.setI (.var 0) (.int 1) (.bin .mod (.toInt (.bin .add (.bin .mul (.idx (.var 0) (.int 1)) (.int 48271)) (.int 11))) (.int 2147483647)))
      (.seq (.ret (.bin .mod (.bin .fdiv (.bin .mod (.toInt (.bin .mul (.idx (.var 0) (.int 1)) (.idx (.var 0) (.int 1)))) (.int 2147483629)) (.int 32)) (.var 1))) .skip)))
noncomputable def drawMS : MS := .seq (.ite (.and (.cmp .eq (.idx (.var 0) (.int 0)) (.int 0)) (.cmp .ne (.idx (.var 0) (.int 2)) (.list .nil)))
    (.seq (.asg 2 (.toInt (.pop0 (.idx (.var 0) (.int 2)))))
      (.seq (.asg 3 (.ite (.cmp .ge (.var 2) (.int 0)) (.bin .mul (.int 2) (.var 2)) (.bin .sub (.neg (.int 1)) (.bin .mul (.int 2) (.var 2)))))
        (.seq (.setI (.var 0) (.int 0) (.ite (.cmp .ge (.var 3) (.bin .pow (.int 10) (.int 18))) (.var 3) (.int 0)))
          (.seq (.setI (.var 0) (.int 1) (.bin .add (.bin .mod (.toInt (.bin .add (.idx (.var 0) (.int 1)) (.bin .mul (.var 3) (.int 69621)))) (.int 2147483629)) (.int 3))) .skip)))) .skip)
  drawTail
theorem mul_small_left {a b : Int} (h : a.natAbs < 2 ^ 64) : IntMulOk a b := IntMulOk.of_left (PySem.intBits_le_64 (by (first | lia | omega)) (by (first | lia | omega)))
theorem mul_small_right {a b : Int} (h : b.natAbs < 2 ^ 64) : IntMulOk a b := IntMulOk.of_right (PySem.intBits_le_64 (by (first | lia | omega)) (by (first | lia | omega)))
theorem rdL_ints {hp : HP} : ∀ (ns : List Int), RdL hp (ns.map .int) (ns.map .int)
  | [] => .nil
  | n :: r => .cons (.int n) (rdL_ints r)
theorem Upto.at' {S hp a o q x} (_u : Upto S hp (hset hp q x)) (h : hp a = some o) (hn : a ≠ q) : hset hp q x a = some o := by rw [hset_ne hn]; exact h
theorem idxE {v w : V} {hp : HP} {Q : V → Prop} {a : Addr} {k : Int} {vs : List V} {x : V} (hv : v = .ref a) (hw : w = .int k) (e : itemsOf (hp a) = some vs) (hfit : vs.length < 2 ^ 62) (h0 : 0 ≤ k) (hx : vs[k.toNat]? = some x) (h : Q x) : idxV v w hp Q := by
  subst hv; subst hw
  have hl : k.toNat < vs.length := by
    rcases Nat.lt_or_ge k.toNat vs.length with q | q
    · exact q
    · rw [List.getElem?_eq_none q] at hx; cases hx
  refine ⟨vs, x, e, by (first | lia | omega), by (first | lia | omega), by (first | lia | omega), ?_, h⟩
  rw [if_neg (by (first | lia | omega))]; exact hx
theorem idx3 {hp : HP} {Q : V → Prop} {a : Addr} {k : Nat} {x y z u : V} (e : hp a = some (.list [x, y, z])) (hx : [x, y, z][k]? = some u) (h : Q u) : idxV (.ref a) (.int (k : Nat)) hp Q :=
  idxE rfl rfl (by rw [e]; rfl) (by simp) (by (first | lia | omega)) (by simpa using hx) h
theorem setE' {hp : HP} {Q : HP → Prop} {a : Addr} {k : Nat} {x : V} {vs : List V} (e : hp a = some (.list vs)) (hk : k < vs.length) (hfit : vs.length < 2 ^ 62) (h : Q (hset hp a (.list (vs.set k x)))) : setV (.ref a) (.int (k : Nat)) x hp Q :=
  ⟨vs, e, by (first | lia | omega), by (first | lia | omega), by (first | lia | omega), by simpa using h⟩
theorem draw_exec {g : G} {d : Nat} {hp : HP} {p r : Addr} {many : Int} (P : Pool hp p r) (hm : 0 < many) {Q : V → HP → Prop} {X : XT}
    (h : ∀ v hp', 0 ≤ v → v < many → Pool hp' p r → Upto [p, r] hp hp' → Q (.int v) hp') :
    exec g d drawMS [.ref p, .int many, .unb, .unb, .unb] hp (retQ Q) X := by
  refine Gen fun G back => ?_
  rcases P with ⟨x, y, ns, hp0, hr0, hne, hx, hy, hlen⟩
  refine back ?_
  clear back
  clear G
  -- what stands behind the first if
  have tail : ∀ (x y : Int) (ns : List Int) (h1 : HP) (a b : V), h1 p = some (.list [.int x, .int y, .ref r]) → h1 r = some (.list (ns.map .int)) → 0 ≤ x → 0 ≤ y → ns.length < 1000 → Upto [p, r] hp h1 →
      exec g d drawTail [.ref p, .int many, a, b, .unb] h1 (retQ Q) X := by
    intro x y ns h1 a b e1 e2 hx hy hl u
    have m0 : many ≠ 0 := by (first | lia | omega)
    refine idx3 (k := 0) e1 rfl ⟨fun ht => ?_, fun ht => ?_⟩
    · refine idx3 (k := 0) e1 rfl ⟨m0, ?_⟩
      refine idx3 (k := 0) e1 rfl ⟨m0, ?_⟩
      refine setE' (k := 0) e1 (by simp) (by simp) ?_
      have hx0 : 0 < x := by simpa [cmpI] using ht
      refine h _ _ ?_ ?_ ⟨x.fdiv many, y, ns, hset_same, ?_, hne, ?_, hy, hl⟩ (u.trans (Upto.set (by simp)))
      · show 0 ≤ x.fmod many; rw [Int.fmod_eq_emod_of_nonneg x (by (first | lia | omega))]; exact Int.emod_nonneg _ m0
      · show x.fmod many < many; rw [Int.fmod_eq_emod_of_nonneg x (by (first | lia | omega))]; exact Int.emod_lt_of_pos _ hm
      · rw [hset_ne (Ne.symm hne)]; exact e2
      · rw [Int.fdiv_eq_ediv_of_nonneg x (by (first | lia | omega))]; exact Int.ediv_nonneg (by (first | lia | omega)) (by (first | lia | omega))
    · refine idx3 (k := 1) e1 rfl ⟨mul_small_right (by decide), ?_⟩
      refine ⟨trivial, ?_⟩
      refine ⟨(show (2147483647 : Int) ≠ 0 by decide), ?_⟩
      refine setE' (k := 1) e1 (by simp) (by simp) ?_
      have e3 := @hset_same h1 p (.list ([V.int x, V.int y, V.ref r].set 1 (.int ((y * 48271 + 11).fmod 2147483647))))
      have hy2 : 0 ≤ (y * 48271 + 11).fmod 2147483647 ∧ (y * 48271 + 11).fmod 2147483647 < 2147483647 := by
        rw [Int.fmod_eq_emod_of_nonneg _ (by (first | lia | omega))]; (first | lia | omega)
      refine idx3 (k := 1) e3 rfl ?_
      refine idx3 (k := 1) e3 rfl ⟨mul_small_right (by (first | lia | omega)), ?_⟩
      refine ⟨(show (2147483629 : Int) ≠ 0 by decide), ?_⟩
      refine ⟨(show (32 : Int) ≠ 0 by decide), m0, ?_⟩
      refine h _ _ ?_ ?_ ⟨x, _, ns, e3, ?_, hne, hx, hy2.1, hl⟩ (u.trans (Upto.set (by simp)))
      · show 0 ≤ Int.fmod _ many; rw [Int.fmod_eq_emod_of_nonneg _ (by (first | lia | omega))]; exact Int.emod_nonneg _ m0
      · show Int.fmod _ many < many; rw [Int.fmod_eq_emod_of_nonneg _ (by (first | lia | omega))]; exact Int.emod_lt_of_pos _ hm
      · rw [hset_ne (Ne.symm hne)]; exact e2
  refine idx3 (k := 0) hp0 rfl ⟨fun ht => ?_, fun ht => ⟨fun q => by simp at q, fun _ => tail x y ns hp _ _ hp0 hr0 hx hy hlen .refl⟩⟩
  refine idx3 (k := 2) hp0 rfl ⟨by decide, fun q hq => ?_⟩
  have hq1 := ne_of_none hq hp0
  have hq2 := ne_of_none hq hr0
  refine ⟨.list (ns.map .int), .list [], .list (by rw [hset_ne hq2]; exact hr0) (rdL_ints _), .list hset_same .nil, shaped_ints ns, by decide, fun he => ?_, fun he => ?_⟩
  · cases ns with
    | nil => simp [PyData.eqv, PyData.eqvAll] at he
    | cons n ns' =>
      have u0 : Upto [p, r] hp (hset hp q (.list [])) := .new hq
      refine idx3 (k := 2) (u0.at' hp0 hq1) rfl ?_
      refine ⟨.int n, ns'.map .int, by rw [hset_ne hq2]; exact hr0, by simp at hlen ⊢; rw [sizeLine_eq]; (first | lia | omega), ?_⟩
      have aft : ∀ (sz x1 : Int) (h2 : HP), h2 p = some (.list [.int x1, .int y, .ref r]) → h2 r = some (.list (ns'.map .int)) → 0 ≤ sz → 0 ≤ x1 → Upto [p, r] hp h2 →
          exec g d (.seq (.setI (.var 0) (.int 1) (.bin .add (.bin .mod (.toInt (.bin .add (.idx (.var 0) (.int 1)) (.bin .mul (.var 3) (.int 69621)))) (.int 2147483629)) (.int 3))) .skip) [.ref p, .int many, .int n, .int sz, .unb] h2
            (fun o l1 h1 => match o with | .next => exec g d drawTail l1 h1 (retQ Q) X | .brk => retQ Q .brk l1 h1 | .ret v => retQ Q (.ret v) l1 h1) X := by
        intro sz x1 h2 e1 e2 h0 h3 u
        refine idx3 (k := 1) e1 rfl ⟨mul_small_right (by decide), ?_⟩
        refine ⟨trivial, (show (2147483629 : Int) ≠ 0 by decide), trivial, ?_⟩
        refine setE' (k := 1) e1 (by simp) (by simp) ?_
        refine tail x1 _ ns' _ _ _ hset_same ?_ h3 ?_ ?_ (u.trans (Upto.set (by simp)))
        · rw [hset_ne (Ne.symm hne)]; exact e2
        · show 0 ≤ Int.fmod _ 2147483629 + 3; rw [Int.fmod_eq_emod_of_nonneg _ (by (first | lia | omega))]; (first | lia | omega)
        · simp at hlen ⊢; (first | lia | omega)
      have u1 : Upto [p, r] hp (hset (hset hp q (.list [])) r (.list (ns'.map .int))) := u0.trans (Upto.set (by simp))
      have e1 : hset (hset hp q (.list [])) r (.list (ns'.map .int)) p = some (.list [.int x, .int y, .ref r]) := by rw [hset_ne hne, hset_ne hq1]; exact hp0
      have e2 : hset (hset hp q (.list [])) r (.list (ns'.map .int)) r = some (.list (ns'.map .int)) := hset_same
      have sz2 : ∀ sz : Int, 0 ≤ sz → exec g d (.seq (.setI (.var 0) (.int 0) (.ite (.cmp .ge (.var 3) (.bin .pow (.int 10) (.int 18))) (.var 3) (.int 0)))
          (.seq (.setI (.var 0) (.int 1) (.bin .add (.bin .mod (.toInt (.bin .add (.idx (.var 0) (.int 1)) (.bin .mul (.var 3) (.int 69621)))) (.int 2147483629)) (.int 3))) .skip)) [.ref p, .int many, .int n, .int sz, .unb] (hset (hset hp q (.list [])) r (.list (ns'.map .int)))
            (fun o l1 h1 => match o with | .next => exec g d drawTail l1 h1 (retQ Q) X | .brk => retQ Q .brk l1 h1 | .ret v => retQ Q (.ret v) l1 h1) X := by
        intro sz hsz
        refine ⟨⟨by decide, by decide⟩, fun _ => ?_, fun _ => ?_⟩
        · refine setE' (k := 0) e1 (by simp) (by simp) ?_
          exact aft sz sz _ hset_same (by rw [hset_ne (Ne.symm hne)]; exact e2) hsz hsz (u1.trans (Upto.set (by simp)))
        · refine setE' (k := 0) e1 (by simp) (by simp) ?_
          exact aft sz 0 _ hset_same (by rw [hset_ne (Ne.symm hne)]; exact e2) hsz (by decide) (u1.trans (Upto.set (by simp)))
      refine ⟨fun hc => ⟨mul_small_left (by decide), ?_⟩, fun hc => ⟨mul_small_left (by decide), trivial, ?_⟩⟩
      · have : 0 ≤ n := by simpa [cmpI] using hc
        exact sz2 (2 * n) (by (first | lia | omega))
      · have : n < 0 := by simpa [cmpI] using hc
        exact sz2 (-1 - 2 * n) (by (first | lia | omega))
  · exact tail x y ns _ _ _ (by rw [hset_ne hq1]; exact hp0) (by rw [hset_ne hq2]; exact hr0) hx hy hlen (.new hq)
noncomputable def poolMS : MS := .seq (.asg 1 (.ite (.cmp .gt (.len (.var 0)) (.int 0)) (.toInt (.idx (.var 0) (.int 0))) (.int 0)))
  (.seq (.asg 2 (.ite (.cmp .ge (.var 1) (.int 0)) (.bin .mul (.int 2) (.var 1)) (.bin .sub (.neg (.int 1)) (.bin .mul (.int 2) (.var 1)))))
    (.seq (.ret (.list (.cons (.ite (.cmp .ge (.var 2) (.bin .pow (.int 10) (.int 18))) (.var 2) (.int 0))
      (.cons (.bin .add (.bin .mod (.toInt (.bin .add (.bin .mul (.var 2) (.int 48271)) (.int 1009))) (.int 2147483629)) (.int 3))
        (.cons (.listOf (.slcF (.var 0) (.int 1))) .nil))))) .skip))
theorem pool_exec {g : G} {d : Nat} {hp : HP} {a : Addr} {ns : List Int} (ha : hp a = some (.ro (ns.map .int))) (hl : ns.length ≤ 63) {Q : V → HP → Prop} {X : XT}
    (h : ∀ p r hp', Pool hp' p r → Upto [] hp hp' → Q (.ref p) hp') :
    exec g d poolMS [.ref a, .unb, .unb] hp (retQ Q) X := by
  have hlen : (ns.map V.int).length = ns.length := by simp
  have last : ∀ f sz : Int, 0 ≤ sz → exec g d (.seq (.ret (.list (.cons (.ite (.cmp .ge (.var 2) (.bin .pow (.int 10) (.int 18))) (.var 2) (.int 0))
      (.cons (.bin .add (.bin .mod (.toInt (.bin .add (.bin .mul (.var 2) (.int 48271)) (.int 1009))) (.int 2147483629)) (.int 3))
        (.cons (.listOf (.slcF (.var 0) (.int 1))) .nil))))) .skip) [.ref a, .int f, .int sz] hp (retQ Q) X := by
    intro f sz hsz
    have fin : ∀ x : Int, 0 ≤ x → evs g d (.cons (.bin .add (.bin .mod (.toInt (.bin .add (.bin .mul (.var 2) (.int 48271)) (.int 1009))) (.int 2147483629)) (.int 3))
        (.cons (.listOf (.slcF (.var 0) (.int 1))) .nil)) [.ref a, .int f, .int sz] hp (fun vs h1 => (V.int x :: vs).length ≤ sizeLine ∧ ∀ r, h1 r = Option.none → (fun v h1 => retQ Q (.ret v) [.ref a, .int f, .int sz] h1) (.ref r) (hset h1 r (.list (V.int x :: vs)))) X := by
      intro x hx
      refine ⟨mul_small_right (by decide), trivial, (show (2147483629 : Int) ≠ 0 by decide), trivial, ?_⟩
      refine ⟨ns.map .int, by rw [ha]; rfl, by rw [hlen, sizeLine_eq]; (first | lia | omega), by decide, fun q hq => ?_⟩
      refine ⟨_, by rw [hset_same]; rfl, by simp; rw [sizeLine_eq]; (first | lia | omega), fun r hr => ?_⟩
      refine ⟨by simp; rw [sizeLine_eq]; (first | lia | omega), fun p hp' => ?_⟩
      have e1 := hset_none.mp hr
      have e2 := hset_none.mp hp'
      have e3 := hset_none.mp e2.2
      refine h p r _ ⟨x, _, ns.drop 1, hset_same, ?_, e2.1, hx, ?_, ?_⟩ (((Upto.new hq).trans (Upto.new hr)).trans (Upto.new hp'))
      · rw [hset_ne (Ne.symm e2.1), hset_same]; simp
      · show 0 ≤ Int.fmod _ 2147483629 + 3; rw [Int.fmod_eq_emod_of_nonneg _ (by (first | lia | omega))]; (first | lia | omega)
      · simp; (first | lia | omega)
    refine ⟨⟨by decide, by decide⟩, fun _ => ?_, fun _ => ?_⟩
    · exact fin sz hsz
    · exact fin 0 (by decide)
  have mid : ∀ f : Int, exec g d (.seq (.asg 2 (.ite (.cmp .ge (.var 1) (.int 0)) (.bin .mul (.int 2) (.var 1)) (.bin .sub (.neg (.int 1)) (.bin .mul (.int 2) (.var 1)))))
    (.seq (.ret (.list (.cons (.ite (.cmp .ge (.var 2) (.bin .pow (.int 10) (.int 18))) (.var 2) (.int 0))
      (.cons (.bin .add (.bin .mod (.toInt (.bin .add (.bin .mul (.var 2) (.int 48271)) (.int 1009))) (.int 2147483629)) (.int 3))
        (.cons (.listOf (.slcF (.var 0) (.int 1))) .nil))))) .skip)) [.ref a, .int f, .unb] hp (retQ Q) X := by
    intro f
    refine ⟨fun hc => ⟨mul_small_left (by decide), ?_⟩, fun hc => ⟨mul_small_left (by decide), trivial, ?_⟩⟩
    · have : 0 ≤ f := by simpa [cmpI] using hc
      exact last f (2 * f) (by (first | lia | omega))
    · have : f < 0 := by simpa [cmpI] using hc
      exact last f (-1 - 2 * f) (by (first | lia | omega))
  refine ⟨_, by rw [ha]; rfl, by rw [hlen]; (first | lia | omega), fun hc => ?_, fun hc => mid 0⟩
  cases ns with
  | nil => simp [cmpI] at hc
  | cons n ns' =>
    exact idxE rfl rfl (x := .int n) (by rw [ha]; rfl) (by simp at hl ⊢; (first | lia | omega)) (by decide) (by simp) (mid n)
/-! plain facts -/
noncomputable def Bd (k : Nat) (x : Int) : Prop := x.natAbs < 2 ^ k
theorem Bd.mono {k j : Nat} {x : Int} (h : Bd k x) (hj : k ≤ j) : Bd j x := Nat.lt_of_lt_of_le h (Nat.pow_le_pow_right (by (first | lia | omega)) hj)
theorem Bd.mul {k j : Nat} {x y : Int} (h : Bd k x) (h' : Bd j y) : Bd (k + j) (x * y) := by
  unfold Bd at *
  rw [Int.natAbs_mul, Nat.pow_add]
  exact Nat.mul_lt_mul'' h h'
theorem Bd.neg {k : Nat} {x : Int} (h : Bd k x) : Bd k (-x) := by unfold Bd at *; rw [Int.natAbs_neg]; exact h
theorem Bd.add {k : Nat} {x y : Int} (h : Bd k x) (h' : Bd k y) : Bd (k + 1) (x + y) := by
  unfold Bd at *
  have := Int.natAbs_add_le x y
  rw [Nat.pow_succ]; (first | lia | omega)
theorem Bd.sub {k : Nat} {x y : Int} (h : Bd k x) (h' : Bd k y) : Bd (k + 1) (x - y) := by
  rw [Int.sub_eq_add_neg]; exact h.add h'.neg
theorem Bd.le {k : Nat} {x y : Int} (h : Bd k y) (hx : x.natAbs ≤ y.natAbs) : Bd k x := Nat.lt_of_le_of_lt hx h
theorem Bd.bits {k : Nat} {x : Int} (h : Bd k x) : Builtin.Int.intBits x ≤ k := by
  unfold Builtin.Int.intBits
  split
  · (first | lia | omega)
  · rename_i hx
    have h0 : x.natAbs ≠ 0 := by simpa using hx
    have := (Nat.log2_lt h0).mpr h
    (first | lia | omega)
theorem mulOk_bits {a b : Int} (h : Builtin.Int.intBits a + Builtin.Int.intBits b ≤ 2 ^ 27) : IntMulOk a b := by
  unfold IntMulOk Builtin.Int.intTooBig bitsLine
  simp only [Bool.and_eq_true, decide_eq_true_eq, not_and]
  intro _ h'
  (first | lia | omega)
theorem Bd.mulOk {k j : Nat} {a b : Int} (h : Bd k a) (h' : Bd j b) (hk : k + j ≤ 2 ^ 27 := by decide) : IntMulOk a b :=
  mulOk_bits (Nat.le_trans (Nat.add_le_add h.bits h'.bits) hk)
/-! loops -/
theorem forUp {turn : List V → HP → (Out → List V → HP → Prop) → Prop} {i : Nat} {lo hi : Int} {l : List V} {hp : HP} {Q : Out → List V → HP → Prop} (n : Nat) (hn : n = (hi - lo).toNat) (I : Nat → List V → HP → Prop)
    (h0 : I 0 l hp) (step : ∀ k l h, k < n → I k l h → turn (lset l i (.int (lo + k))) h (fun o l2 h2 => match o with | .next => I (k + 1) l2 h2 | .brk => Q .next l2 h2 | .ret v => Q (.ret v) l2 h2))
    (fin : ∀ l h, I n l h → Q .next l h) :
    forIn turn i ((List.range (Builtin.Range.rangeSize lo hi 1).toNat).map fun (k : Nat) => V.int (lo + k * 1)) l hp (fun _ => True) Q := by
  have hsz : (Builtin.Range.rangeSize lo hi 1).toNat = n := by rw [rangeSize_one]; split <;> (first | lia | omega)
  rw [hsz]
  refine ⟨I, h0, fun k x l h hx hI => ?_, fun l h hI => ⟨trivial, fin l h (by simpa using hI)⟩⟩
  have hk : k < n := by
    rcases Nat.lt_or_ge k n with q | q
    · exact q
    · rw [List.getElem?_eq_none (by simpa using q)] at hx; cases hx
  simp only [List.getElem?_map, List.getElem?_range hk, Option.map_some, Option.some.injEq, Int.mul_one] at hx
  subst hx
  exact ⟨trivial, step k l h hk hI⟩
/-! data -/
theorem cmpL {o : COp} {a b : Addr} {hp : HP} {ns ms : List Int} {Q : Bool → Prop} (ho : o = .eq ∨ o = .ne) (ha : hp a = some (.list (ns.map .int))) (hb : hp b = some (.list (ms.map .int)))
    (h : Q (if o = .eq then decide (ns = ms) else !decide (ns = ms))) : cmpV o (.ref a) (.ref b) hp Q := by
  rcases ho with rfl | rfl
  · exact ⟨_, _, .list ha (rdL_ints ns), .list hb (rdL_ints ms), shaped_ints ns, shaped_ints ms, by rw [if_pos rfl] at h; simpa only [PyData.eqv, ked_eqvAll] using h⟩
  · exact ⟨_, _, .list ha (rdL_ints ns), .list hb (rdL_ints ms), shaped_ints ns, shaped_ints ms, by rw [if_neg (by decide)] at h; simpa only [PyData.eqv, ked_eqvAll] using h⟩
theorem cmpL_ne {a b : Addr} {hp : HP} {ns ms : List Int} {Q : Bool → Prop} (ha : hp a = some (.list (ns.map .int))) (hb : hp b = some (.list (ms.map .int))) (e : ns = ms) (h : Q false) : cmpV .ne (.ref a) (.ref b) hp Q :=
  cmpL (.inr rfl) ha hb (by simpa [e] using h)
/-! what a comparison says -/
theorem ceq_t {a b : Int} : cmpI a b .eq = true ↔ a = b := by simp [cmpI]
theorem ceq_f {a b : Int} : cmpI a b .eq = false ↔ a ≠ b := by simp [cmpI]
theorem cne_t {a b : Int} : cmpI a b .ne = true ↔ a ≠ b := by simp [cmpI]
theorem cne_f {a b : Int} : cmpI a b .ne = false ↔ a = b := by simp [cmpI]
theorem clt_t {a b : Int} : cmpI a b .lt = true ↔ a < b := by simp [cmpI]
theorem clt_f {a b : Int} : cmpI a b .lt = false ↔ b ≤ a := by simp [cmpI]
theorem cle_f {a b : Int} : cmpI a b .le = false ↔ b < a := by simp [cmpI]
theorem cgt_t {a b : Int} : cmpI a b .gt = true ↔ b < a := by simp [cmpI]
theorem cgt_f {a b : Int} : cmpI a b .gt = false ↔ a ≤ b := by simp [cmpI]
theorem cge_f {a b : Int} : cmpI a b .ge = false ↔ a < b := by simp [cmpI]
theorem tru_t {a : Int} : ((a != 0) = true) ↔ a ≠ 0 := by simp
theorem tru_f {a : Int} : ((a != 0) = false) ↔ a = 0 := by simp
theorem not_t {b : Bool} : ((!b) = true) ↔ b = false := by simp
theorem not_f {b : Bool} : ((!b) = false) ↔ b = true := by simp
theorem Bd.abs {k : Nat} {x : Int} : Bd k x ↔ x.natAbs < 2 ^ k := .rfl
theorem pow_one' (p : Int) : p ^ 1 = p := by rw [show (1:Nat) = 0 + 1 from rfl, Int.pow_succ, Int.pow_zero, Int.one_mul]
/-! the logarithm -/
structure LogOf (n b l : Nat) : Prop where
  two : 2 ≤ b
  lo : b ^ l ≤ n
  hi : n < b ^ (l + 1)
theorem LogOf.n1 {n b l : Nat} (h : LogOf n b l) : 1 ≤ n := Nat.le_trans (Nat.pow_pos (by have := h.two; (first | lia | omega))) h.lo
theorem Upto.fresh {S : List Addr} {hp h : HP} {r : Addr} {o : O} (u : Upto S hp h) (n : hp r = none) : Upto S hp (hset h r o) := fun x hx o' e => by
  rw [hset_ne (fun q => by rw [q, n] at e; cases e)]; exact u x hx o' e
theorem mem_ints {ns : List Int} {k : Nat} {x : V} (h : (ns.map V.int)[k]? = some x) : ∃ z, z ∈ ns ∧ x = .int z := by
  rw [List.getElem?_map] at h
  cases e : ns[k]? with
  | none => rw [e] at h; cases h
  | some z => rw [e] at h; cases h; exact ⟨z, List.mem_of_getElem? e, rfl⟩
theorem nqP {h : HP} {a r q : Addr} (P : Pool h a r) (n : h q = none) : q ∉ [a, r] := by
  refine Gen fun G back => ?_
  rcases P with ⟨x, y, ns', q0, q1, -⟩
  refine back ?_
  clear back
  clear G
  intro h'
  simp only [List.mem_cons, List.not_mem_nil, or_false] at h'
  rcases h' with rfl | rfl
  · rw [n] at q0; cases q0
  · rw [n] at q1; cases q1
theorem forLI {turn : List V → HP → (Out → List V → HP → Prop) → Prop} {i : Nat} {ns : List Int} {l : List V} {hp : HP} {r : Addr} {Q : Out → List V → HP → Prop} (e : hp r = some (.list (ns.map .int))) (fit : ns.length < 2 ^ 62) (I : List V → HP → Prop)
    (h0 : I l hp) (step : ∀ z l h, z ∈ ns → I l h → h r = some (.list (ns.map .int)) → turn (lset l i (.int z)) h (fun o l2 h2 => match o with | .next => I l2 h2 ∧ h2 r = some (.list (ns.map .int)) | .brk => Q .next l2 h2 | .ret v => Q (.ret v) l2 h2))
    (fin : ∀ l h, I l h → Q .next l h) : ∃ vs, iterOf (hp r) = some vs ∧ (vs.length : Int) < 2 ^ 62 ∧ forIn turn i vs l hp (fun h => h r = hp r) Q := by
  refine ⟨ns.map .int, by rw [e]; rfl, by rw [List.length_map]; (first | lia | omega), fun _ l h => I l h ∧ h r = some (.list (ns.map .int)), ⟨h0, e⟩, ?_, ?_⟩
  · rintro k x l h hx ⟨hI, hr⟩
    obtain ⟨z, hz, rfl⟩ := mem_ints hx
    refine ⟨hr.trans e.symm, step z l h hz hI hr⟩
  · rintro l h ⟨hI, hr⟩
    exact ⟨hr.trans e.symm, fin l h hI⟩
/-! the square root -/
theorem compUp {test : List V → HP → (Bool → HP → Prop) → Prop} {elt : List V → HP → (V → HP → Prop) → Prop} {new : V → (List V → Prop) → HP → Prop} {lo hi : Int} {hp : HP} {Q : V → HP → Prop} (n : Nat) (hn : n = (hi - lo).toNat) (I : Nat → List V → HP → Prop) (h0 : I 0 [] hp)
    (step : ∀ k acc h, k < n → I k acc h → acc.length ≤ sizeLine ∧ new (.int (lo + k)) (fun l => test l h fun t h1 => (t = true → elt l h1 fun v h2 => I (k + 1) (acc ++ [v]) h2) ∧ (t = false → I (k + 1) acc h1)) h)
    (fin : ∀ acc h, I n acc h → newV h (.list acc) Q) :
    compI test elt new ((List.range (Builtin.Range.rangeSize lo hi 1).toNat).map fun (k : Nat) => V.int (lo + k * 1)) hp (fun _ => True) Q := by
  have hsz : (Builtin.Range.rangeSize lo hi 1).toNat = n := by rw [rangeSize_one]; split <;> (first | lia | omega)
  rw [hsz]
  refine ⟨I, h0, fun k x acc h hx hI => ?_, fun acc h hI => ⟨trivial, fin acc h (by simpa using hI)⟩⟩
  have hk : k < n := by
    rcases Nat.lt_or_ge k n with q | q
    · exact q
    · rw [List.getElem?_eq_none (by simpa using q)] at hx; cases hx
  simp only [List.getElem?_map, List.getElem?_range hk, Option.map_some, Option.some.injEq, Int.mul_one] at hx
  subst hx
  exact ⟨trivial, step k acc h hk hI⟩
/-! great numbers, drawn -/
set_option genInjectivity false in
structure HB where
  prog : Program
  w : World
  K : Frag
  p : Program
  lo : List Str
  gt : List (Str × Addr)
  bt : List Str
noncomputable abbrev HB.gm (b : HB) (mean : ExcName → Option Value) (mg mb : Str → Option Value) : G := ⟨b.prog, b.w, b.K, b.p, b.lo, mean, mg, mb⟩
noncomputable def HB.Fn (b : HB) (a : Addr) (names : List Str) (np : Nat) (ms : MS) : Prop :=
  fnOkB b.K a = true ∧ (∀ mean mg mb, (cSB (mkF (b.gm mean mg mb) b.gt b.bt a) 60 (bodyAt b.K a)).map (fun m => m.1) = some ms) ∧
    namesOf (fnAt b.K a).scope = names ∧ ndB names = true ∧ ((names.take np).all fun x => (fnAt b.K a).scope.names.lookup x == some .local) = true
noncomputable def HB.FnC (b : HB) (a : Addr) (names : List Str) (np : Nat) (ks : List Bool) (ms : MS) : Prop :=
  fnOkC b.K a names = true ∧ (∀ mean mg mb, (cSB (mkF (b.gm mean mg mb) b.gt b.bt a) 60 (bodyAt b.K a)).map (fun m => m.1) = some ms) ∧
    namesOf (fnAt b.K a).scope = names ∧ ndB names = true ∧ ((names.take np).all fun x => (fnAt b.K a).scope.names.lookup x == some .local || (fnAt b.K a).scope.names.lookup x == some .cell) = true ∧
    cellKs (fnAt b.K a).scope names = ks
noncomputable def BindN (K : Frag) (a : Addr) (xs : List Str) : Nat → List Value → Prop
  | 0, acc => bindArgs (fnAt K a) ⟨acc, []⟩ = pure (xs.zip acc)
  | n + 1, acc => ∀ v, BindN K a xs n (acc ++ [v])
theorem BindN.get {K : Frag} {a : Addr} {xs : List Str} : ∀ {n : Nat} {acc : List Value}, BindN K a xs n acc → ∀ vals : List Value, vals.length = n → bindArgs (fnAt K a) ⟨acc ++ vals, []⟩ = pure (xs.zip (acc ++ vals)) := by
  intro n
  induction n with
  | zero =>
    intro acc h vals hl
    cases vals with
    | nil => rw [List.append_nil]; exact h
    | cons _ _ => injection hl
  | succ n ih =>
    intro acc h vals hl
    cases vals with
    | nil => injection hl
    | cons v vs =>
      have := ih (h v) vs (Nat.succ.inj hl)
      rwa [List.append_assoc] at this
noncomputable def afterLoad {α : Type} (t : Sem α) (T : Addr) (o : Obj) : Option (Sem α) := match t with
  | .load a _ k => if a == T then some (k o) else none
  | _ => none
theorem BindsTo.of_load {s : Shared} {fd : FuncData} {args : Args} {binds : List (Str × Value)} {T : Addr} {o : Obj} (ho : s.heap.get? T = some o) (h : afterLoad (bindArgs fd args) T o = some (pure binds)) : BindsTo s fd args binds := fun M A E Q hq => by
  unfold afterLoad at h
  cases e : bindArgs fd args with
  | load a p k =>
    rw [e] at h
    by_cases ha : (a == T) = true
    · have h2 : (if (a == T) = true then some (k o) else none) = some (pure binds) := h
      rw [if_pos ha] at h2
      clear h
      cases eq_of_beq ha
      refine nd_load ho ?_
      rw [Option.some.inj h2]
      exact wpAny_pure hq
    · have h : (if (a == T) = true then some (k o) else none) = some (pure binds) := h
      rw [if_neg ha] at h
      injection h
  | _ => rw [e] at h; injection h
noncomputable abbrev tupO (items : Array Value) (k : Nat) : Obj := ⟨.type "tuple", none, .seq items k, #[]⟩
noncomputable def BindD (K : Frag) (a T : Addr) (xs : List Str) (o : Obj) (dv : List Value) : Nat → List Value → Prop
  | 0, acc => afterLoad (bindArgs (fnAt K a) ⟨acc, []⟩) T o = some (pure (xs.zip (acc ++ dv)))
  | n + 1, acc => ∀ v, BindD K a T xs o dv n (acc ++ [v])
theorem BindD.get {K : Frag} {a T : Addr} {xs : List Str} {o : Obj} {dv : List Value} : ∀ {n : Nat} {acc : List Value}, BindD K a T xs o dv n acc → ∀ vals : List Value, vals.length = n →
    afterLoad (bindArgs (fnAt K a) ⟨acc ++ vals, []⟩) T o = some (pure (xs.zip (acc ++ vals ++ dv))) := by
  intro n
  induction n with
  | zero =>
    intro acc h vals hl
    cases vals with
    | nil => rw [List.append_nil]; exact h
    | cons _ _ => injection hl
  | succ n ih =>
    intro acc h vals hl
    cases vals with
    | nil => injection hl
    | cons v vs =>
      have := ih (h v) vs (Nat.succ.inj hl)
      rwa [List.append_assoc] at this
noncomputable def BindK (K : Frag) (a T : Addr) (xs : List Str) (o : Obj) (kw : Str) : Nat → List Value → Prop
  | 0, acc => ∀ vk, afterLoad (bindArgs (fnAt K a) ⟨acc, [(kw, vk)]⟩) T o = some (pure (xs.zip (acc ++ [vk])))
  | n + 1, acc => ∀ v, BindK K a T xs o kw n (acc ++ [v])
theorem BindK.get {K : Frag} {a T : Addr} {xs : List Str} {o : Obj} {kw : Str} : ∀ {n : Nat} {acc : List Value}, BindK K a T xs o kw n acc → ∀ vals : List Value, vals.length = n → ∀ vk,
    afterLoad (bindArgs (fnAt K a) ⟨acc ++ vals, [(kw, vk)]⟩) T o = some (pure (xs.zip (acc ++ vals ++ [vk]))) := by
  intro n
  induction n with
  | zero =>
    intro acc h vals hl
    cases vals with
    | nil => rw [List.append_nil]; exact h
    | cons _ _ => injection hl
  | succ n ih =>
    intro acc h vals hl
    cases vals with
    | nil => injection hl
    | cons v vs =>
      have := ih (h v) vs (Nat.succ.inj hl)
      rwa [List.append_assoc] at this
theorem zipAbs (xs : List Str) (vals : List Value) : ((xs.zip vals).map fun p => (p.1, absV p.2)) = xs.zip (vals.map absV) := by
  rw [List.zip_map_right]; rfl
theorem binds0 {b : HB} {a : Addr} {xs : List Str} {np : Nat} (B : BindN b.K a xs np []) {mean mg mb} {args : List V} (hl : args.length = np) : Binds (b.gm mean mg mb) a args [] (xs.zip args) := fun s vals kvals _ hv hkv => by
  obtain rfl : kvals = [] := by simpa using hkv
  subst hv
  exact ⟨xs.zip vals, BindsTo.of_eq (B.get vals (by simpa using hl)), zipAbs _ _⟩
theorem bindsD {b : HB} {a T : Addr} {xs : List Str} {o : Obj} {dv : List Value} {np : Nat} (D : b.K.lookup T = some o) (B : BindD b.K a T xs o dv np []) {mean mg mb} {args dva : List V} (hl : args.length = np)
    (hd : dv.map absV = dva) : Binds (b.gm mean mg mb) a args [] (xs.zip (args ++ dva)) := fun s vals kvals hK hv hkv => by
  obtain rfl : kvals = [] := by simpa using hkv
  subst hv; subst hd
  refine ⟨xs.zip (vals ++ dv), BindsTo.of_load (hK T _ D) (B.get vals (by simpa using hl)), ?_⟩
  rw [zipAbs, List.map_append]
theorem zip_fst {α β : Type} : ∀ {xs : List α} {ys : List β}, xs.length = ys.length → (xs.zip ys).map (·.1) = xs
  | [], [], _ => rfl
  | x :: xs, y :: ys, h => by rw [List.zip_cons_cons, List.map_cons, zip_fst (Nat.succ.inj h)]
theorem zip_snd {α β : Type} : ∀ {xs : List α} {ys : List β}, xs.length = ys.length → (xs.zip ys).map (·.2) = ys
  | [], [], _ => rfl
  | x :: xs, y :: ys, h => by rw [List.zip_cons_cons, List.map_cons, zip_snd (Nat.succ.inj h)]
theorem take_len {α : Type} : ∀ (n : Nat) (l : List α), l.take (l.take n).length = l.take n
  | 0, _ => rfl
  | _ + 1, [] => rfl
  | n + 1, x :: l => by rw [List.take_succ_cons, List.length_cons, List.take_succ_cons, take_len n l]
theorem callF {b : HB} (hgt : gtB b.K b.gt = true) (hbt : btB b.K b.bt = true) {a : Addr} {names xs : List Str} {np : Nat} {ms : MS} (F : b.Fn a names np ms) {mean mg mb} {args bv : List V} {kw : List (Str × V)}
    (B : Binds (b.gm mean mg mb) a args kw (xs.zip bv)) (hx : names.take np = xs) (hl : xs.length = bv.length) {d : Nat} {hp : HP} {Q : V → HP → Prop} {X : XC}
    (h : exec (b.gm mean mg mb) d ms (bv ++ List.replicate (names.length - xs.length) V.unb) hp (retQ Q) (upX X)) : Calls (b.gm mean mg mb) (d + 1) a args kw hp Q X := by
  refine Gen fun G back => ?_
  rcases F with ⟨h1, h2, h3, h4, h5⟩
  refine back ?_
  clear back
  clear G
  subst h3; subst hx
  have hm : (((namesOf (fnAt b.K a).scope).take np).zip bv).length = ((namesOf (fnAt b.K a).scope).take np).length := by rw [List.length_zip, hl, Nat.min_self]
  refine calls_of (F := mkF (b.gm mean mg mb) b.gt b.bt a) (fok hgt hbt h4) h1 rfl (sb_of (h2 mean mg mb)) B ?_ ?_ ?_
  · rw [zip_fst hl, hm]; exact take_len _ _
  · have := h5
    rw [← zip_fst hl, List.all_map] at this
    exact this
  · rw [zip_snd hl, hm]; exact h
theorem callC {b : HB} (hgt : gtB b.K b.gt = true) (hbt : btB b.K b.bt = true) {a : Addr} {names xs : List Str} {np : Nat} {ks : List Bool} {ms : MS} (F : b.FnC a names np ks ms) {mean mg mb} {args bv : List V} {kw : List (Str × V)}
    (B : Binds (b.gm mean mg mb) a args kw (xs.zip bv)) (hx : names.take np = xs) (hl : xs.length = bv.length) {ps : List (Bool × V)} (hps : ks.zip (unC names (xs.zip bv)) = ps) {d : Nat} {hp : HP} {Q : V → HP → Prop} {X : XC}
    (h : enterC ps hp fun l h0 => exec (b.gm mean mg mb) d ms l h0 (retQ Q) noX) : Calls (b.gm mean mg mb) (d + 1) a args kw hp Q X := by
  refine Gen fun G back => ?_
  rcases F with ⟨h1, h2, h3, h4, h5, h6⟩
  refine back ?_
  clear back
  clear G
  subst h3; subst hx; subst h6
  have hm : (((namesOf (fnAt b.K a).scope).take np).zip bv).length = ((namesOf (fnAt b.K a).scope).take np).length := by rw [List.length_zip, hl, Nat.min_self]
  refine calls_ofC (F := mkF (b.gm mean mg mb) b.gt b.bt a) (fok hgt hbt h4) h1 rfl (sb_of (h2 mean mg mb)) B ?_ ?_ ?_
  · rw [zip_fst hl, hm]; exact take_len _ _
  · have := h5
    rw [← zip_fst hl, List.all_map] at this
    exact this
  · show enterC ((cellKs _ (namesOf (fnAt b.K a).scope)).zip _) _ _
    rw [hps]; exact h
/-! the Jacobi symbol as the program reckons it -/
noncomputable def tonF (A D p s : Nat) : Nat → Nat
  | 0 => 0
  | i + 1 => let m := tonF A D p s i
    if (A * (D ^ m % p)) ^ (2 ^ (s - 1 - (i + 1))) % p = p - 1 then m + 2 ^ (i + 1) else m
theorem powmod {n : Int} {p : Nat} (_ : 0 < p) (k : Nat) : (n ^ k).fmod p = (((n % p).toNat ^ k % p : Nat) : Int) := by
  rw [Int.fmod_eq_emod_of_nonneg _ (by (first | lia | omega)), ← pow_emod']
  have : n % (p : Int) = ((n % (p : Int)).toNat : Int) := by have := Int.emod_nonneg n (b := (p : Int)) (by (first | lia | omega)); (first | lia | omega)
  rw [this]; push_cast; rfl
/-! the inverse -/
theorem lift {n x z : Int} {p q : Nat} (hq : (p : Int) ∣ q) (h : (q : Int) ∣ n - x * x) (hz : (p : Int) ∣ 2 * x * z - 1) :
    ((q * p : Nat) : Int) ∣ n - (x + ((n - x * x) / q * z % p) * q) * (x + ((n - x * x) / q * z % p) * q) := by
  obtain ⟨u, hu⟩ := h
  obtain ⟨w, hw⟩ := hz
  obtain ⟨v, hv⟩ := hq
  rcases Nat.eq_zero_or_pos q with q0 | q0
  · subst q0
    simp at hu
    have : n = x * x := by (first | lia | omega)
    simp [this]
  have e1 : (n - x * x) / (q : Int) = u := by rw [hu, Int.mul_ediv_cancel_left _ (by (first | lia | omega))]
  rw [e1]
  have e2 := Int.emod_add_mul_ediv (u * z) p
  generalize u * z % (p : Int) = t at *
  generalize u * z / (p : Int) = k at *
  have hn : n = x * x + q * u := by (first | lia | omega)
  have ht : t = u * z - p * k := by (first | lia | omega)
  refine ⟨-(u * w) + 2 * x * k - t * t * v, ?_⟩
  have hzw : 2 * x * z = p * w + 1 := by (first | lia | omega)
  rw [hn]
  have a1 : (x + t * q) * (x + t * q) = x * x + q * (2 * x * t) + q * (t * t * q) := by
    simp only [Int.mul_add, Int.add_mul]
    rw [show q * (2 * x * t) = x * (t * q) + t * q * x by
      rw [show (2 : Int) * x = x + x by (first | lia | omega)]; simp only [Int.mul_add, Int.add_mul]; ac_rfl]
    ac_rfl
  have a2 : 2 * x * t = u * (p * w + 1) - p * (2 * x * k) := by
    rw [ht, Int.mul_sub, ← hzw]; ac_rfl
  rw [a1, a2]
  push_cast
  conv => lhs; rw [show q * (t * t * (q : Int)) = q * p * (t * t * v) by rw [hv]; ac_rfl]
  simp only [Int.mul_add, Int.mul_sub, Int.mul_one, Int.mul_neg]
  rw [show (q : Int) * (u * (p * w)) = q * p * (u * w) by ac_rfl, show (q : Int) * (p * (2 * x * k)) = q * p * (2 * x * k) by ac_rfl]
  (first | lia | omega)
noncomputable def rootsL (m : Nat) (n : Int) : List Nat := (List.range m).filter fun y => decide (((y : Int) * y - n) % m = 0)
theorem mem_roots {m y : Nat} {n : Int} : y ∈ rootsL m n ↔ y < m ∧ (m : Int) ∣ (y : Int) * y - n := by
  unfold rootsL
  rw [List.mem_filter, List.mem_range, decide_eq_true_eq]
  exact ⟨fun h => ⟨h.1, Int.dvd_of_emod_eq_zero h.2⟩, fun h => ⟨h.1, Int.emod_eq_zero_of_dvd h.2⟩⟩
theorem roots_sorted (m : Nat) (n : Int) : (rootsL m n).Pairwise (· < ·) := List.Pairwise.filter _ List.pairwise_lt_range
/-! number theory: the law of reciprocity -/
noncomputable def sumTo (f : Nat → Nat) : Nat → Nat
  | 0 => 0
  | n + 1 => sumTo f n + f (n + 1)
theorem sumTo_congr {f g : Nat → Nat} : ∀ {n : Nat}, (∀ k, 1 ≤ k → k ≤ n → f k = g k) → sumTo f n = sumTo g n
  | 0, _ => rfl
  | n + 1, h => by simp only [sumTo]; rw [sumTo_congr fun k a b => h k a (by (first | lia | omega)), h (n + 1) (by (first | lia | omega)) (by (first | lia | omega))]
theorem sumTo_add {f g : Nat → Nat} : ∀ {n : Nat}, sumTo (fun k => f k + g k) n = sumTo f n + sumTo g n
  | 0 => rfl
  | n + 1 => by simp only [sumTo]; rw [sumTo_add]; (first | lia | omega)
theorem sumTo_mul {f : Nat → Nat} {c : Nat} : ∀ {n : Nat}, sumTo (fun k => c * f k) n = c * sumTo f n
  | 0 => rfl
  | n + 1 => by simp only [sumTo]; rw [sumTo_mul, Nat.mul_add]
theorem sumTo_const {c : Nat} : ∀ {n : Nat}, sumTo (fun _ => c) n = n * c
  | 0 => by simp [sumTo]
  | n + 1 => by simp only [sumTo]; rw [sumTo_const, Nat.succ_mul]
theorem sumTo_swap {f : Nat → Nat → Nat} {m : Nat} : ∀ {n : Nat}, sumTo (fun k => sumTo (f k) m) n = sumTo (fun j => sumTo (fun k => f k j) n) m
  | 0 => by
    simp only [sumTo]
    have := sumTo_const (c := 0) (n := m)
    rw [this, Nat.mul_zero]
  | n + 1 => by simp only [sumTo]; rw [sumTo_swap, sumTo_add]
theorem sumTo_par {f g : Nat → Nat} : ∀ {n : Nat}, (∀ k, 1 ≤ k → k ≤ n → f k % 2 = g k % 2) → sumTo f n % 2 = sumTo g n % 2
  | 0, _ => rfl
  | n + 1, h => by
    simp only [sumTo]
    have h1 := sumTo_par (f := f) (g := g) (n := n) fun k a b => h k a (by (first | lia | omega))
    have h2 := h (n + 1) (by (first | lia | omega)) (by (first | lia | omega))
    (first | lia | omega)
theorem sumTo_gauss : ∀ n, 2 * sumTo (fun k => k) n = n * (n + 1)
  | 0 => rfl
  | n + 1 => by simp only [sumTo]; rw [Nat.mul_add, sumTo_gauss n, Nat.mul_succ (n + 1) (n + 1), Nat.mul_comm (n + 1) (n + 1)]; simp only [Nat.add_mul, Nat.mul_add]; (first | lia | omega)
theorem sumTo_list {f : Nat → Nat} : ∀ n, sumTo f n = ((List.range' 1 n).map f).sum
  | 0 => rfl
  | n + 1 => by
    simp only [sumTo]
    rw [sumTo_list n, List.range'_1_concat, List.map_append, List.sum_append, Nat.add_comm 1 n]; simp
noncomputable def proL : List Int → Int
  | [] => 1
  | x :: r => x * proL r
theorem proL_app : ∀ (a b : List Int), proL (a ++ b) = proL a * proL b
  | [], b => by simp [proL]
  | x :: a, b => by simp only [List.cons_append, proL]; rw [proL_app a b, Int.mul_assoc]
theorem proL_perm {a b : List Int} (h : a.Perm b) : proL a = proL b := by
  induction h with
  | nil => rfl
  | cons x _ ih => simp only [proL]; rw [ih]
  | swap x y l => simp only [proL]; rw [← Int.mul_assoc, ← Int.mul_assoc, Int.mul_comm y x]
  | trans _ _ h1 h2 => exact h1.trans h2
theorem sum_perm {a b : List Nat} (h : a.Perm b) : a.sum = b.sum := by
  induction h with
  | nil => rfl
  | cons x _ ih => simp only [List.sum_cons]; rw [ih]
  | swap x y l => simp only [List.sum_cons]; (first | lia | omega)
  | trans _ _ h1 h2 => exact h1.trans h2
theorem perm_of_inj : ∀ (l₁ l₂ : List Nat), l₁.Nodup → (∀ x ∈ l₁, x ∈ l₂) → l₂.length ≤ l₁.length → l₁.Perm l₂
  | [], l₂, _, _, h => by
    have : l₂ = [] := List.length_eq_zero_iff.mp (by simpa using h)
    rw [this]
  | x :: r, l₂, nd, hs, hl => by
    rw [List.nodup_cons] at nd
    have hx := hs x (.head _)
    have p := List.perm_cons_erase hx
    refine (List.Perm.cons x (perm_of_inj r (l₂.erase x) nd.2 (fun y hy => ?_) ?_)).trans p.symm
    · exact (List.mem_erase_of_ne (fun e => nd.1 (by rw [← e]; exact hy))).mpr (hs y (.tail _ hy))
    · rw [List.length_erase_of_mem hx]; simp at hl; (first | lia | omega)
structure Self (s : Nat → Nat) (n : Nat) : Prop where
  into : ∀ k, 1 ≤ k → k ≤ n → 1 ≤ s k ∧ s k ≤ n
  inj : ∀ j k, 1 ≤ j → j ≤ n → 1 ≤ k → k ≤ n → s j = s k → j = k
theorem Self.perm {s : Nat → Nat} {n : Nat} (h : Self s n) : ((List.range' 1 n).map s).Perm (List.range' 1 n) := by
  refine perm_of_inj _ _ ?_ ?_ (by simp)
  · rw [List.nodup_iff_pairwise_ne, List.pairwise_map]
    have nd : (List.range' 1 n).Nodup := List.nodup_range'
    rw [List.nodup_iff_pairwise_ne] at nd
    refine List.Pairwise.imp_of_mem ?_ nd
    intro a b ha hb hne e
    rw [List.mem_range'_1] at ha hb
    exact hne (h.inj a b (by (first | lia | omega)) (by (first | lia | omega)) (by (first | lia | omega)) (by (first | lia | omega)) e)
  · intro x hx
    obtain ⟨k, hk, rfl⟩ := List.mem_map.mp hx
    rw [List.mem_range'_1] at hk ⊢
    have := h.into k (by (first | lia | omega)) (by (first | lia | omega))
    (first | lia | omega)
theorem Self.sum {s : Nat → Nat} {n : Nat} (h : Self s n) (f : Nat → Nat) : sumTo (fun k => f (s k)) n = sumTo f n := by
  rw [sumTo_list, sumTo_list]
  have := sum_perm (h.perm.map f)
  rwa [List.map_map] at this
/-! the residues folded -/
noncomputable def negB (a m k : Nat) : Nat := if m < 2 * (a * k % m) then 1 else 0
noncomputable def fold (a m k : Nat) : Nat := if m < 2 * (a * k % m) then m - a * k % m else a * k % m
noncomputable def mu (a m : Nat) : Nat := sumTo (negB a m) (m / 2)
noncomputable def jac (a m : Nat) : Int := if mu a m % 2 = 0 then 1 else -1
theorem negB_le (a m k : Nat) : negB a m k ≤ 1 := by unfold negB; split <;> (first | lia | omega)
theorem fold_spec {a m k : Nat} (hm : 0 < m) : ∃ q : Int, (a : Int) * k = m * q + (if negB a m k = 0 then 1 else -1) * fold a m k := by
  have e := Nat.div_add_mod (a * k) m
  have hlt := Nat.mod_lt (a * k) hm
  have e' : (a : Int) * k = m * ((a * k / m : Nat) : Int) + ((a * k % m : Nat) : Int) := by exact_mod_cast e.symm
  unfold negB fold
  split
  · refine ⟨((a * k / m : Nat) : Int) + 1, ?_⟩
    rw [if_neg (by decide), Int.mul_add, e']
    (first | lia | omega)
  · exact ⟨((a * k / m : Nat) : Int), by rw [if_pos rfl, e']; (first | lia | omega)⟩
theorem cop_dvd {a m : Nat} (hc : Nat.Coprime a m) {x : Int} (h : (m : Int) ∣ a * x) : (m : Int) ∣ x := by
  have h1 : m ∣ a * x.natAbs := by
    have := Int.natAbs_dvd_natAbs.mpr h
    rwa [Int.natAbs_natCast, Int.natAbs_mul, Int.natAbs_natCast] at this
  have h2 : m ∣ x.natAbs := hc.symm.dvd_of_dvd_mul_left h1
  exact Int.natAbs_dvd_natAbs.mp (by rwa [Int.natAbs_natCast])
theorem no_small {m : Nat} {x : Int} (h : (m : Int) ∣ x) (hx : x.natAbs < m) : x = 0 := by
  have h1 : m ∣ x.natAbs := by have := Int.natAbs_dvd_natAbs.mpr h; rwa [Int.natAbs_natCast] at this
  have : x.natAbs = 0 := Nat.eq_zero_of_dvd_of_lt h1 hx
  (first | lia | omega)
theorem fold_self {a m : Nat} (hm : m % 2 = 1) (hc : Nat.Coprime a m) : Self (fold a m) (m / 2) := by
  have hpos : 0 < m := by (first | lia | omega)
  have nz : ∀ k, 1 ≤ k → k ≤ m / 2 → a * k % m ≠ 0 := fun k h1 h2 e => by
    have : (m : Int) ∣ (a : Int) * k := by
      have := Nat.dvd_of_mod_eq_zero e
      exact_mod_cast this
    have := no_small (cop_dvd hc this) (by (first | lia | omega))
    (first | lia | omega)
  refine ⟨fun k h1 h2 => ?_, fun j k j1 j2 k1 k2 e => ?_⟩
  · have := nz k h1 h2
    have hlt := Nat.mod_lt (a * k) hpos
    unfold fold; split <;> (first | lia | omega)
  · obtain ⟨q, hq⟩ := fold_spec (a := a) (k := j) hpos
    obtain ⟨r, hr⟩ := fold_spec (a := a) (k := k) hpos
    rw [e] at hq
    have two : ∀ b c : Nat, (if negB b m c = 0 then (1 : Int) else -1) = 1 ∨ (if negB b m c = 0 then (1 : Int) else -1) = -1 := fun b c => by split <;> simp
    rcases two a j with x | x <;> rcases two a k with y | y <;> rw [x] at hq <;> rw [y] at hr
    · have : (m : Int) ∣ a * ((j : Int) - k) := ⟨q - r, by rw [Int.mul_sub, hq, hr, Int.mul_sub]; (first | lia | omega)⟩
      have := no_small (cop_dvd hc this) (by (first | lia | omega)); (first | lia | omega)
    · have : (m : Int) ∣ a * ((j : Int) + k) := ⟨q + r, by rw [Int.mul_add, hq, hr, Int.mul_add]; (first | lia | omega)⟩
      have := no_small (cop_dvd hc this) (by (first | lia | omega)); (first | lia | omega)
    · have : (m : Int) ∣ a * ((j : Int) + k) := ⟨q + r, by rw [Int.mul_add, hq, hr, Int.mul_add]; (first | lia | omega)⟩
      have := no_small (cop_dvd hc this) (by (first | lia | omega)); (first | lia | omega)
    · have : (m : Int) ∣ a * ((j : Int) - k) := ⟨q - r, by rw [Int.mul_sub, hq, hr, Int.mul_sub]; (first | lia | omega)⟩
      have := no_small (cop_dvd hc this) (by (first | lia | omega)); (first | lia | omega)
theorem mu_mod (a m : Nat) : mu (a % m) m = mu a m := by
  unfold mu
  refine sumTo_congr fun k _ _ => ?_
  unfold negB; rw [Nat.mod_mul_mod]
theorem jac_mod (a m : Nat) : jac (a % m) m = jac a m := by unfold jac; rw [mu_mod]
theorem mu_mul {a b m : Nat} (hm : m % 2 = 1) (ha : Nat.Coprime a m) (hb : Nat.Coprime b m) : mu (a * b) m % 2 = (mu a m + mu b m) % 2 := by
  have hpos : 0 < m := by (first | lia | omega)
  have S := fold_self hm hb
  have Sa := fold_self hm ha
  have Sab := fold_self hm (Nat.Coprime.mul_left ha hb)
  have e1 : mu a m = sumTo (fun k => negB a m (fold b m k)) (m / 2) := (S.sum (negB a m)).symm
  rw [e1]
  unfold mu
  rw [← sumTo_add]
  refine sumTo_par fun k h1 h2 => ?_
  obtain ⟨q, hq⟩ := fold_spec (a := b) (k := k) hpos
  obtain ⟨r, hr⟩ := fold_spec (a := a) (k := fold b m k) hpos
  obtain ⟨t, ht⟩ := fold_spec (a := a * b) (k := k) hpos
  have i1 := S.into k h1 h2
  have i2 := Sa.into _ i1.1 i1.2
  have i3 := Sab.into k h1 h2
  have n1 := negB_le b m k
  have n2 := negB_le a m (fold b m k)
  have n3 := negB_le (a * b) m k
  have ht' : (a : Int) * (b * k) = m * t + (if negB (a * b) m k = 0 then 1 else -1) * fold (a * b) m k := by rw [← ht]; push_cast; rw [Int.mul_assoc]
  rw [hq, Int.mul_add, ← Int.mul_assoc, Int.mul_left_comm, hr] at ht'
  generalize fold a m (fold b m k) = F at *
  generalize fold (a * b) m k = H at *
  generalize negB (a * b) m k = x at *
  generalize negB a m (fold b m k) = y at *
  generalize negB b m k = z at *
  have key : ∀ (e f : Int), (e = 1 ∨ e = -1) → (f = 1 ∨ f = -1) → (m : Int) ∣ e * F - f * H → e = f := fun e f he hf hd => by
    rcases he with rfl | rfl <;> rcases hf with rfl | rfl
    · rfl
    · have := no_small hd (by (first | lia | omega)); (first | lia | omega)
    · have := no_small hd (by (first | lia | omega)); (first | lia | omega)
    · rfl
  have c1 : (if z = 0 then (1 : Int) else -1) * (if y = 0 then 1 else -1) = if x = 0 then 1 else -1 := by
    refine key _ _ ?_ ?_ ?_
    · split <;> split <;> simp
    · split <;> simp
    · refine ⟨t - a * q - (if z = 0 then 1 else -1) * r, ?_⟩
      have h3 : (if z = 0 then (1 : Int) else -1) * (m * r + (if y = 0 then 1 else -1) * F) = m * ((if z = 0 then 1 else -1) * r) + (if z = 0 then 1 else -1) * (if y = 0 then 1 else -1) * F := by
        rw [Int.mul_add, Int.mul_left_comm, Int.mul_assoc]
      rw [h3, Int.mul_comm (a : Int) m, Int.mul_assoc] at ht'
      rw [Int.mul_sub, Int.mul_sub]
      (first | lia | omega)
  have d1 : z = 0 ∨ z = 1 := by (first | lia | omega)
  have d2 : y = 0 ∨ y = 1 := by (first | lia | omega)
  have d3 : x = 0 ∨ x = 1 := by (first | lia | omega)
  rcases d1 with rfl | rfl <;> rcases d2 with rfl | rfl <;> rcases d3 with rfl | rfl <;> simp at c1 ⊢
theorem jac_mul {a b m : Nat} (hm : m % 2 = 1) (ha : Nat.Coprime a m) (hb : Nat.Coprime b m) : jac (a * b) m = jac a m * jac b m := by
  have := mu_mul hm ha hb
  unfold jac
  rcases Nat.mod_two_eq_zero_or_one (mu a m) with h1 | h1 <;> rcases Nat.mod_two_eq_zero_or_one (mu b m) with h2 | h2
  · rw [if_pos (by (first | lia | omega)), if_pos h1, if_pos h2]; rfl
  · rw [if_neg (by (first | lia | omega)), if_pos h1, if_neg (by (first | lia | omega))]; rfl
  · rw [if_neg (by (first | lia | omega)), if_neg (by (first | lia | omega)), if_pos h2]; rfl
  · rw [if_pos (by (first | lia | omega)), if_neg (by (first | lia | omega)), if_neg (by (first | lia | omega))]; rfl
/-! the count of the points below a line -/
noncomputable def flo (a m : Nat) : Nat := sumTo (fun k => a * k / m) (m / 2)
theorem fold_par {a m k : Nat} (hm : m % 2 = 1) : (a * k % m) % 2 = (fold a m k + negB a m k) % 2 := by
  have := Nat.mod_lt (a * k) (show 0 < m by (first | lia | omega))
  unfold fold negB
  split <;> (first | lia | omega)
theorem mu_flo {a m : Nat} (hm : m % 2 = 1) (hc : Nat.Coprime a m) : (flo a m + mu a m) % 2 = ((a + 1) * sumTo (fun k => k) (m / 2)) % 2 := by
  have h1 : sumTo (fun k => a * k) (m / 2) % 2 = (flo a m + (sumTo (fold a m) (m / 2) + mu a m)) % 2 := by
    unfold flo mu
    rw [← sumTo_add, ← sumTo_add]
    refine sumTo_par fun k _ _ => ?_
    have e := Nat.div_add_mod (a * k) m
    have p := fold_par (a := a) (k := k) hm
    have : m * (a * k / m) % 2 = (a * k / m) % 2 := by rw [Nat.mul_mod, hm]; simp
    (first | lia | omega)
  have h2 : sumTo (fold a m) (m / 2) = sumTo (fun k => k) (m / 2) := (fold_self hm hc).sum (fun k => k)
  rw [sumTo_mul, h2] at h1
  rw [Nat.add_mul, Nat.one_mul]
  (first | lia | omega)
theorem eisen {a m : Nat} (hm : m % 2 = 1) (ha : a % 2 = 1) (hc : Nat.Coprime a m) : mu a m % 2 = flo a m % 2 := by
  have := mu_flo hm hc
  have e : ((a + 1) * sumTo (fun k => k) (m / 2)) % 2 = 0 := by rw [Nat.mul_mod, show (a + 1) % 2 = 0 by (first | lia | omega)]; simp
  (first | lia | omega)
theorem count_le (q : Nat) : ∀ n, q ≤ n → sumTo (fun j => if j ≤ q then 1 else 0) n = q := by
  have below : ∀ n, n ≤ q → sumTo (fun j => if j ≤ q then 1 else 0) n = n := by
    intro n
    induction n with
    | zero => intro _; rfl
    | succ n ih => intro h; simp only [sumTo]; rw [ih (by (first | lia | omega)), if_pos h]
  intro n
  induction n with
  | zero => intro h; simp [sumTo]; (first | lia | omega)
  | succ n ih =>
    intro h
    rcases Nat.lt_or_ge n q with z | z
    · have : q = n + 1 := by (first | lia | omega)
      subst this; exact below _ (Nat.le_refl _)
    · simp only [sumTo]; rw [ih z, if_neg (by (first | lia | omega)), Nat.add_zero]
theorem row_count {a m k : Nat} (hm : m % 2 = 1) (ha : a % 2 = 1) (hc : Nat.Coprime a m) (k1 : 1 ≤ k) (k2 : k ≤ m / 2) : sumTo (fun j => if m * j < a * k then 1 else 0) (a / 2) = a * k / m := by
  have hpos : 0 < m := by (first | lia | omega)
  have hq : a * k / m ≤ a / 2 := by
    have h1 : a * k / m * m ≤ a * k := Nat.div_mul_le_self _ _
    have h2 : 2 * (a * k) < a * m := by
      have : a * (2 * k) ≤ a * (m - 1) := Nat.mul_le_mul_left a (by (first | lia | omega))
      have e2 : a * (m - 1) < a * m := Nat.mul_lt_mul_of_pos_left (by (first | lia | omega)) (by (first | lia | omega))
      rw [Nat.mul_left_comm] at this; (first | lia | omega)
    have h3 : 2 * (a * k / m) < a := by
      rcases Nat.lt_or_ge (2 * (a * k / m)) a with z | z
      · exact z
      · have := Nat.mul_le_mul_right m z
        have e3 : 2 * (a * k / m) * m = 2 * (a * k / m * m) := Nat.mul_assoc _ _ _
        (first | lia | omega)
    (first | lia | omega)
  rw [← count_le (a * k / m) (a / 2) hq]
  refine sumTo_congr fun j j1 _ => ?_
  have : m * j < a * k ↔ j ≤ a * k / m := by
    rw [Nat.le_div_iff_mul_le hpos, Nat.mul_comm j m]
    constructor
    · (first | lia | omega)
    · intro h
      rcases Nat.lt_or_ge (m * j) (a * k) with z | z
      · exact z
      · exfalso
        have e : a * k = m * j := by (first | lia | omega)
        have hd : m ∣ a * k := ⟨j, e⟩
        have := Nat.le_of_dvd (by (first | lia | omega)) (hc.symm.dvd_of_dvd_mul_left hd)
        (first | lia | omega)
  simp only [this]
theorem lattice {a m : Nat} (hm : m % 2 = 1) (ha : a % 2 = 1) (hc : Nat.Coprime a m) : flo a m + flo m a = (m / 2) * (a / 2) := by
  have h1 : flo a m = sumTo (fun k => sumTo (fun j => if m * j < a * k then 1 else 0) (a / 2)) (m / 2) := by
    unfold flo
    exact sumTo_congr fun k k1 k2 => (row_count hm ha hc k1 k2).symm
  have h2 : flo m a = sumTo (fun j => sumTo (fun k => if a * k < m * j then 1 else 0) (m / 2)) (a / 2) := by
    unfold flo
    exact sumTo_congr fun k k1 k2 => (row_count ha hm hc.symm k1 k2).symm
  rw [h1, h2, sumTo_swap (n := a / 2), ← sumTo_add, ← sumTo_const (c := a / 2)]
  refine sumTo_congr fun k k1 k2 => ?_
  rw [← sumTo_add]
  have e1 : sumTo (fun _ => 1) (a / 2) = a / 2 := by rw [sumTo_const, Nat.mul_one]
  refine Eq.trans ?_ e1
  refine sumTo_congr fun j j1 j2 => ?_
  have hne : m * j ≠ a * k := fun e => by
    have hd : m ∣ a * k := ⟨j, e.symm⟩
    have := Nat.le_of_dvd (by (first | lia | omega)) (hc.symm.dvd_of_dvd_mul_left hd)
    (first | lia | omega)
  by_cases z : m * j < a * k
  · rw [if_pos z, if_neg (by (first | lia | omega))]
  · rw [if_neg z, if_pos (by (first | lia | omega))]
theorem jac_recip {a m : Nat} (hm : m % 2 = 1) (ha : a % 2 = 1) (hc : Nat.Coprime a m) : jac m a = (if a % 4 = 3 ∧ m % 4 = 3 then -1 else 1) * jac a m := by
  have e1 := eisen hm ha hc
  have e2 := eisen ha hm hc.symm
  have l := lattice hm ha hc
  have par : (mu a m + mu m a) % 2 = (m / 2) * (a / 2) % 2 := by (first | lia | omega)
  have hp : (m / 2) * (a / 2) % 2 = if a % 4 = 3 ∧ m % 4 = 3 then 1 else 0 := by
    rw [Nat.mul_mod]
    rcases Nat.mod_two_eq_zero_or_one (m / 2) with x | x <;> rcases Nat.mod_two_eq_zero_or_one (a / 2) with y | y <;> rw [x, y]
    · rw [if_neg (by (first | lia | omega))]
    · rw [if_neg (by (first | lia | omega))]
    · rw [if_neg (by (first | lia | omega))]
    · rw [if_pos (by (first | lia | omega))]
  rw [hp] at par
  unfold jac
  by_cases c : a % 4 = 3 ∧ m % 4 = 3
  · rw [if_pos c] at par ⊢
    rcases Nat.mod_two_eq_zero_or_one (mu a m) with x | x
    · rw [if_neg (by (first | lia | omega)), if_pos x]; rfl
    · rw [if_pos (by (first | lia | omega)), if_neg (by (first | lia | omega))]; rfl
  · rw [if_neg c] at par ⊢
    rcases Nat.mod_two_eq_zero_or_one (mu a m) with x | x
    · rw [if_pos (by (first | lia | omega)), if_pos x]; rfl
    · rw [if_neg (by (first | lia | omega)), if_neg (by (first | lia | omega))]; rfl
theorem jac_two {m : Nat} (hm : m % 2 = 1) : jac 2 m = if m % 8 = 3 ∨ m % 8 = 5 then -1 else 1 := by
  have hc : Nat.Coprime 2 m := by
    unfold Nat.Coprime
    rw [Nat.gcd_rec, hm]; rfl
  have h := mu_flo hm hc
  have f0 : flo 2 m = 0 := by
    unfold flo
    have : sumTo (fun k => 2 * k / m) (m / 2) = sumTo (fun _ => 0) (m / 2) := sumTo_congr fun k _ k2 => Nat.div_eq_of_lt (by (first | lia | omega))
    rw [this, sumTo_const, Nat.mul_zero]
  rw [f0] at h
  have g := sumTo_gauss (m / 2)
  generalize sumTo (fun k => k) (m / 2) = S at *
  have hS : S % 2 = if m % 8 = 3 ∨ m % 8 = 5 then 1 else 0 := by
    obtain ⟨t, ht⟩ : ∃ t, m / 2 = 4 * t + (m / 2) % 4 := ⟨m / 2 / 4, by (first | lia | omega)⟩
    have r : (m / 2) % 4 = 0 ∨ (m / 2) % 4 = 1 ∨ (m / 2) % 4 = 2 ∨ (m / 2) % 4 = 3 := by (first | lia | omega)
    generalize hH : m / 2 = H at *
    have sq : ∀ r, (4 * t + r) * (4 * t + r + 1) = 16 * (t * t) + 4 * (2 * r + 1) * t + r * (r + 1) := fun r => by
      have e : 4 * t * (4 * t) = 16 * (t * t) := Nat.mul_mul_mul_comm _ _ _ _
      simp only [Nat.add_mul, Nat.mul_add, Nat.mul_one, e]
      have e2 : 4 * t * r = 4 * (r * t) := by rw [Nat.mul_assoc, Nat.mul_comm t r]
      have e3 : r * (4 * t) = 4 * (r * t) := by rw [Nat.mul_left_comm]
      have e4 : 4 * (2 * r) * t = 8 * (r * t) := by rw [← Nat.mul_assoc 4 2 r, Nat.mul_assoc]
      rw [e2, e3, e4]; (first | lia | omega)
    rcases r with r | r | r | r <;> rw [r] at ht <;> rw [ht, sq] at g
    · rw [if_neg (by (first | lia | omega))]; (first | lia | omega)
    · rw [if_pos (by (first | lia | omega))]; (first | lia | omega)
    · rw [if_pos (by (first | lia | omega))]; (first | lia | omega)
    · rw [if_neg (by (first | lia | omega))]; (first | lia | omega)
  unfold jac
  by_cases c : m % 8 = 3 ∨ m % 8 = 5
  · rw [if_pos c] at hS ⊢; rw [if_neg (by (first | lia | omega))]
  · rw [if_neg c] at hS ⊢; rw [if_pos (by (first | lia | omega))]
/-! number theory: primes, Euler, roots -/
noncomputable def Cg (p : Nat) (a b : Int) : Prop := (p : Int) ∣ a - b
theorem Cg.refl {p : Nat} {a : Int} : Cg p a a := by unfold Cg; rw [Int.sub_self]; exact Int.dvd_zero _
theorem Cg.of {p : Nat} {a b : Int} (e : a = b) : Cg p a b := e ▸ Cg.refl
theorem Cg.symm {p : Nat} {a b : Int} (h : Cg p a b) : Cg p b a := by
  unfold Cg at *; rw [← Int.neg_sub]; exact Int.dvd_neg.mpr h
theorem Cg.trans {p : Nat} {a b c : Int} (h : Cg p a b) (h' : Cg p b c) : Cg p a c := by
  unfold Cg at *; have := Int.dvd_add h h'; rwa [show a - b + (b - c) = a - c by (first | lia | omega)] at this
theorem Cg.mul {p : Nat} {a b c d : Int} (h : Cg p a b) (h' : Cg p c d) : Cg p (a * c) (b * d) := by
  unfold Cg at *
  have h1 : (p : Int) ∣ (a - b) * c := Int.dvd_mul_of_dvd_left h
  have h2 : (p : Int) ∣ b * (c - d) := Int.dvd_mul_of_dvd_right h'
  have := Int.dvd_add h1 h2
  rwa [Int.sub_mul, Int.mul_sub, show a * c - b * c + (b * c - b * d) = a * c - b * d by (first | lia | omega)] at this
theorem Cg.pow {p : Nat} {a b : Int} (h : Cg p a b) : ∀ k : Nat, Cg p (a ^ k) (b ^ k)
  | 0 => by rw [Int.pow_zero, Int.pow_zero]; exact Cg.refl
  | k + 1 => by rw [Int.pow_succ, Int.pow_succ]; exact (h.pow k).mul h
theorem Cg.neg {p : Nat} {a b : Int} (h : Cg p a b) : Cg p (-a) (-b) := by
  unfold Cg at *; have := Int.dvd_neg.mpr h; rwa [show -(a - b) = -a - -b by (first | lia | omega)] at this
theorem Cg.mod (p : Nat) (a : Int) : Cg p (a % p) a := by
  unfold Cg
  have := Int.emod_add_mul_ediv a p
  exact ⟨-(a / p), by rw [Int.mul_neg]; (first | lia | omega)⟩
theorem Cg.fmod (p : Nat) (a : Int) : Cg p (a.fmod p) a := by rw [Int.fmod_eq_emod_of_nonneg _ (by (first | lia | omega))]; exact Cg.mod p a
theorem Cg.eqmod {p : Nat} {a b : Int} (h : Cg p a b) : a % p = b % p := Int.emod_eq_emod_iff_emod_sub_eq_zero.mpr (Int.emod_eq_zero_of_dvd h)
theorem Cg.eq {p : Nat} {a b : Int} (h : Cg p a b) (h1 : 0 ≤ a) (h2 : a < p) (h3 : 0 ≤ b) (h4 : b < p) : a = b := by
  have := h.eqmod; rwa [Int.emod_eq_of_lt h1 h2, Int.emod_eq_of_lt h3 h4] at this
structure Prm (p : Nat) : Prop where
  two : 2 ≤ p
  only : ∀ d, d ∣ p → d = 1 ∨ d = p
theorem Prm.cop {p a : Nat} (h : Prm p) (ha : ¬ p ∣ a) : Nat.Coprime a p := by
  rcases h.only _ (Nat.gcd_dvd_right a p) with e | e
  · exact e
  · exact absurd (e ▸ Nat.gcd_dvd_left a p) ha
theorem Prm.split {p : Nat} (h : Prm p) {a b : Int} (hd : (p : Int) ∣ a * b) : (p : Int) ∣ a ∨ (p : Int) ∣ b := by
  have h1 : p ∣ a.natAbs * b.natAbs := by have := Int.natAbs_dvd_natAbs.mpr hd; rwa [Int.natAbs_natCast, Int.natAbs_mul] at this
  by_cases q : p ∣ a.natAbs
  · exact .inl (Int.natAbs_dvd_natAbs.mp (by rwa [Int.natAbs_natCast]))
  · exact .inr (Int.natAbs_dvd_natAbs.mp (by rw [Int.natAbs_natCast]; exact (h.cop q).symm.dvd_of_dvd_mul_left h1))
theorem Prm.trial {p : Nat} (h2 : 2 ≤ p) (h : ∀ d, 2 ≤ d → d * d ≤ p → ¬ d ∣ p) : Prm p := by
  refine ⟨h2, fun d hd => ?_⟩
  obtain ⟨e, he⟩ := hd
  rcases Nat.lt_or_ge d 2 with q | q
  · have : d ≠ 0 := fun z => by rw [z] at he; (first | lia | omega)
    (first | lia | omega)
  · rcases Nat.lt_or_ge e 2 with r | r
    · have : e ≠ 0 := fun z => by rw [z] at he; (first | lia | omega)
      have : e = 1 := by (first | lia | omega)
      subst this; (first | lia | omega)
    · exfalso
      rcases Nat.le_total d e with z | z
      · exact h d q (by rw [he]; exact Nat.mul_le_mul_left d z) ⟨e, he⟩
      · exact h e r (by rw [he]; exact Nat.mul_le_mul_right e z) ⟨d, by rw [Nat.mul_comm]; exact he⟩
/-! Gauss -/
noncomputable def proTo (f : Nat → Int) : Nat → Int
  | 0 => 1
  | n + 1 => proTo f n * f (n + 1)
theorem proTo_list {f : Nat → Int} : ∀ n, proTo f n = proL ((List.range' 1 n).map f)
  | 0 => rfl
  | n + 1 => by
    simp only [proTo]
    rw [proTo_list n, List.range'_1_concat, List.map_append, proL_app, Nat.add_comm 1 n]; simp [proL]
theorem Self.pro {s : Nat → Nat} {n : Nat} (h : Self s n) (f : Nat → Int) : proTo (fun k => f (s k)) n = proTo f n := by
  rw [proTo_list, proTo_list]
  have := proL_perm (h.perm.map f)
  rwa [List.map_map] at this
theorem proTo_cg {p : Nat} {f g : Nat → Int} : ∀ {n : Nat}, (∀ k, 1 ≤ k → k ≤ n → Cg p (f k) (g k)) → Cg p (proTo f n) (proTo g n)
  | 0, _ => Cg.refl
  | n + 1, h => (proTo_cg fun k a b => h k a (by (first | lia | omega))).mul (h (n + 1) (by (first | lia | omega)) (by (first | lia | omega)))
theorem proTo_mul {f g : Nat → Int} : ∀ {n : Nat}, proTo (fun k => f k * g k) n = proTo f n * proTo g n
  | 0 => rfl
  | n + 1 => by simp only [proTo]; rw [proTo_mul]; simp only [Int.mul_assoc, Int.mul_left_comm]
theorem proTo_const {c : Int} : ∀ {n : Nat}, proTo (fun _ => c) n = c ^ n
  | 0 => by simp [proTo]
  | n + 1 => by simp only [proTo]; rw [proTo_const, Int.pow_succ]
theorem proTo_sgn {f : Nat → Nat} : ∀ {n : Nat}, (∀ k, f k ≤ 1) → proTo (fun k => if f k = 0 then 1 else -1) n = if sumTo f n % 2 = 0 then 1 else -1
  | 0, _ => by simp [proTo, sumTo]
  | n + 1, h => by
    show proTo _ n * (if f (n + 1) = 0 then (1 : Int) else -1) = _
    rw [proTo_sgn h]
    have := h (n + 1)
    have e : sumTo f (n + 1) = sumTo f n + f (n + 1) := rfl
    have : f (n + 1) = 0 ∨ f (n + 1) = 1 := by (first | lia | omega)
    rcases Nat.mod_two_eq_zero_or_one (sumTo f n) with x | x <;> rcases this with y | y
    · rw [if_pos x, if_pos y, if_pos (by (first | lia | omega))]; rfl
    · rw [if_pos x, if_neg (by (first | lia | omega)), if_neg (by (first | lia | omega))]; rfl
    · rw [if_neg (by (first | lia | omega)), if_pos y, if_neg (by (first | lia | omega))]; rfl
    · rw [if_neg (by (first | lia | omega)), if_neg (by (first | lia | omega)), if_pos (by (first | lia | omega))]; rfl
theorem Prm.fact {p : Nat} (h : Prm p) : ∀ n, n < p → ¬ (p : Int) ∣ proTo (fun k => (k : Int)) n
  | 0, _, hd => by have := h.two; have := no_small hd (by show (1 : Int).natAbs < p; (first | lia | omega)); simp [proTo] at this
  | n + 1, hn, hd => by
    rcases h.split hd with q | q
    · exact h.fact n (by (first | lia | omega)) q
    · have q : (p : Int) ∣ ((n + 1 : Nat) : Int) := q
      have := no_small q (by (first | lia | omega)); (first | lia | omega)
theorem euler {p a : Nat} (h : Prm p) (hp : p % 2 = 1) (ha : ¬ p ∣ a) : Cg p ((a : Int) ^ (p / 2)) (jac a p) := by
  have hc := h.cop ha
  have h0 : 0 < p := by (first | lia | omega)
  have S := fold_self hp hc
  have e1 : Cg p (proTo (fun k => (a : Int) * k) (p / 2)) (proTo (fun k => (if negB a p k = 0 then 1 else -1) * (fold a p k : Int)) (p / 2)) := proTo_cg fun k _ _ => by
    obtain ⟨q, hq⟩ := fold_spec (a := a) (k := k) h0
    exact ⟨q, by rw [hq]; (first | lia | omega)⟩
  rw [proTo_mul, proTo_mul, proTo_const, proTo_sgn (negB_le a p), S.pro (fun k => (k : Int))] at e1
  have e2 : (p : Int) ∣ ((a : Int) ^ (p / 2) - jac a p) * proTo (fun k => (k : Int)) (p / 2) := by
    rw [Int.sub_mul]; exact e1
  rcases h.split e2 with q | q
  · exact q
  · exact absurd q (h.fact _ (by (first | lia | omega)))
/-! as many roots as the degree, at most -/
noncomputable def hor (x : Int) : Int → List Int → Int
  | b, [] => b
  | b, c :: cs => hor x (b * x + c) cs
noncomputable def quo (r : Int) : Int → List Int → List Int
  | _, [] => []
  | _, [_] => []
  | b, c :: d :: cs => (b * r + c) :: quo r (b * r + c) (d :: cs)
theorem quo_len (r : Int) : ∀ (cs : List Int) (b c : Int), (quo r b (c :: cs)).length = cs.length
  | [], _, _ => rfl
  | d :: cs, b, c => by simp only [quo, List.length_cons]; rw [quo_len r cs]
theorem hor_add (x : Int) : ∀ (cs : List Int) (u v : Int), hor x (u + v) cs = hor x u cs + v * x ^ cs.length
  | [], u, v => by simp [hor]
  | c :: cs, u, v => by
    simp only [hor, List.length_cons]
    rw [show (u + v) * x + c = (u * x + c) + v * x by rw [Int.add_mul]; (first | lia | omega), hor_add x cs, Int.pow_succ, Int.mul_comm (x ^ cs.length) x, ← Int.mul_assoc]
theorem hor_sub (x r : Int) : ∀ (cs : List Int) (b c : Int), hor x b (c :: cs) - hor r b (c :: cs) = (x - r) * hor x b (quo r b (c :: cs))
  | [], b, c => by simp only [hor, quo]; rw [Int.sub_mul, Int.mul_comm x, Int.mul_comm r]; (first | lia | omega)
  | d :: cs, b, c => by
    have ih := hor_sub x r cs (b * r + c) d
    have e1 : hor x b (c :: d :: cs) = hor x (b * r + c) (d :: cs) + b * (x - r) * x ^ (cs.length + 1) := by
      show hor x (b * x + c) (d :: cs) = _
      rw [show b * x + c = (b * r + c) + b * (x - r) by rw [Int.mul_sub]; (first | lia | omega), hor_add]; rfl
    have e2 : hor x b (quo r b (c :: d :: cs)) = hor x (b * r + c) (quo r (b * r + c) (d :: cs)) + b * x * x ^ cs.length := by
      show hor x (b * x + (b * r + c)) (quo r (b * r + c) (d :: cs)) = _
      rw [Int.add_comm (b * x), hor_add, quo_len]
    have e3 : hor r b (c :: d :: cs) = hor r (b * r + c) (d :: cs) := rfl
    rw [e1, e2, e3, Int.mul_add, ← ih]
    have e4 : (x - r) * (b * x * x ^ cs.length) = b * (x - r) * x ^ (cs.length + 1) := by
      rw [Int.pow_succ, Int.mul_comm (x ^ cs.length) x]
      simp only [Int.mul_assoc, Int.mul_left_comm]
    rw [e4]; (first | lia | omega)
theorem lagrange {p : Nat} (h : Prm p) : ∀ (n : Nat) (cs : List Int) (b : Int) (xs : List Int), cs.length = n → ¬ (p : Int) ∣ b → xs.Pairwise (fun x y => ¬ (p : Int) ∣ x - y) → (∀ x ∈ xs, (p : Int) ∣ hor x b cs) → xs.length ≤ n
  | _, _, _, [], _, _, _, _ => Nat.zero_le _
  | 0, cs, b, x :: xs, hl, hb, _, hr => by
    have : cs = [] := List.length_eq_zero_iff.mp hl
    subst this
    exact absurd (hr x (.head _)) hb
  | n + 1, [], b, x :: xs, hl, hb, _, hr => by cases hl
  | n + 1, c :: cs, b, r :: xs, hl, hb, hp, hr => by
    rw [List.pairwise_cons] at hp
    have := lagrange h n (quo r b (c :: cs)) b xs (by rw [quo_len]; simpa using hl) hb hp.2 fun x hx => by
      have h1 := hr x (.tail _ hx)
      have h2 := hr r (.head _)
      have h3 := Int.dvd_sub h1 h2
      rw [hor_sub] at h3
      rcases h.split h3 with q | q
      · exact absurd ((by have := Int.dvd_neg.mpr q; rwa [show -(x - r) = r - x by (first | lia | omega)] at this) : (p : Int) ∣ r - x) (hp.1 x hx)
      · exact q
    simp; (first | lia | omega)
theorem hor_zeros (x : Int) : ∀ (n : Nat) (b : Int), hor x b (List.replicate n 0 ++ [-1]) = b * x ^ (n + 1) - 1
  | 0, b => by simp [hor, pow_one']; (first | lia | omega)
  | n + 1, b => by
    rw [List.replicate_succ]
    show hor x (b * x + 0) (List.replicate n 0 ++ [-1]) = _
    rw [hor_zeros x n, Int.add_zero, Int.pow_succ x (n + 1), Int.mul_comm (x ^ (n + 1)) x, Int.mul_assoc]
theorem nonres {p : Nat} (h : Prm p) (hp : p % 2 = 1) : ∃ d, 1 ≤ d ∧ d < p ∧ jac d p = -1 := by
  apply Classical.byContradiction
  intro hno
  have all : ∀ d, 1 ≤ d → d < p → jac d p = 1 := fun d h1 h2 => by
    have : jac d p = 1 ∨ jac d p = -1 := by unfold jac; split <;> simp
    rcases this with q | q
    · exact q
    · exact absurd ⟨d, h1, h2, q⟩ hno
  have h2 := h.two
  obtain ⟨n, hn⟩ : ∃ n, p / 2 = n + 1 := ⟨p / 2 - 1, by (first | lia | omega)⟩
  have := lagrange h (n + 1) (List.replicate n 0 ++ [-1]) 1 ((List.range' 1 (p - 1)).map fun (k : Nat) => (k : Int)) (by simp) (fun q => by have := no_small q (by show (1 : Int).natAbs < p; (first | lia | omega)); (first | lia | omega)) ?_ ?_
  · simp at this; (first | lia | omega)
  · rw [List.pairwise_map]
    have nd : (List.range' 1 (p - 1)).Nodup := List.nodup_range'
    rw [List.nodup_iff_pairwise_ne] at nd
    refine List.Pairwise.imp_of_mem ?_ nd
    intro a b ha hb hne hd
    rw [List.mem_range'_1] at ha hb
    have := no_small hd (by (first | lia | omega))
    (first | lia | omega)
  · intro x hx
    obtain ⟨k, hk, rfl⟩ := List.mem_map.mp hx
    rw [List.mem_range'_1] at hk
    have hnd : ¬ p ∣ k := fun q => by have := Nat.le_of_dvd (by (first | lia | omega)) q; (first | lia | omega)
    have e := euler h hp hnd
    rw [all k (by (first | lia | omega)) (by (first | lia | omega)), hn] at e
    rw [hor_zeros, Int.one_mul]; exact e
theorem mul_pow'' (a b : Int) : ∀ k : Nat, (a * b) ^ k = a ^ k * b ^ k
  | 0 => by simp
  | k + 1 => by rw [Int.pow_succ, mul_pow'' a b k, Int.pow_succ, Int.pow_succ]; simp only [Int.mul_assoc, Int.mul_left_comm, Int.mul_comm]
/-! the symbol as the program reckons it -/
noncomputable def sel (g : Nat) (x : Int) : Int := if g = 1 then x else 0
theorem sel_mul (g : Nat) (c x : Int) : sel g (c * x) = c * sel g x := by unfold sel; split <;> simp
noncomputable def jg (a m : Nat) : Int := sel (Nat.gcd a m) (jac a m)
theorem jg_mod (a m : Nat) : jg (a % m) m = jg a m := by
  unfold jg
  rw [jac_mod, show Nat.gcd (a % m) m = Nat.gcd a m by rw [Nat.gcd_comm a m, Nat.gcd_rec m a]]
theorem jg_two {a m : Nat} (hm : m % 2 = 1) : jg (2 * a) m = (if m % 8 = 3 ∨ m % 8 = 5 then -1 else 1) * jg a m := by
  have hc : Nat.Coprime 2 m := by unfold Nat.Coprime; rw [Nat.gcd_rec, hm]; rfl
  have hg : Nat.gcd (2 * a) m = Nat.gcd a m := hc.gcd_mul_left_cancel a
  unfold jg
  rw [hg, ← sel_mul]
  by_cases h : Nat.gcd a m = 1
  · rw [jac_mul hm hc h, jac_two hm]
  · unfold sel; rw [if_neg h, if_neg h]
theorem jg_swap {a m : Nat} (hm : m % 2 = 1) (ha : a % 2 = 1) : jg m a = (if a % 4 = 3 ∧ m % 4 = 3 then -1 else 1) * jg a m := by
  unfold jg
  rw [Nat.gcd_comm m a, ← sel_mul]
  by_cases h : Nat.gcd a m = 1
  · rw [jac_recip hm ha h]
  · unfold sel; rw [if_neg h, if_neg h]
theorem jg_zero {m : Nat} : jg 0 m = if m = 1 then 1 else 0 := by
  unfold jg
  rw [Nat.gcd_zero_left]
  unfold sel
  by_cases h : m = 1
  · rw [if_pos h, if_pos h, h]; rfl
  · rw [if_neg h, if_neg h]
theorem jg_prime {p a : Nat} (h : Prm p) : (p ∣ a → jg a p = 0) ∧ (¬ p ∣ a → jg a p = jac a p ∧ (jac a p = 1 ∨ jac a p = -1)) := by
  have h2 := h.two
  constructor
  · intro hd
    unfold jg sel
    have e : Nat.gcd a p = p := by rw [Nat.gcd_comm]; exact Nat.gcd_eq_left hd
    exact if_neg (by (first | lia | omega))
  · intro hd
    unfold jg sel
    have e : Nat.gcd a p = 1 := h.cop hd
    rw [if_pos e]
    refine ⟨rfl, ?_⟩
    unfold jac; split <;> simp
/-! the roots -/
theorem one_ne {p : Nat} (hp : 3 ≤ p) : ¬ Cg p 1 (-1) := fun h => by have := no_small h (by (first | lia | omega)); (first | lia | omega)
theorem sq_one {p : Nat} (h : Prm p) {x : Int} (hx : Cg p (x * x) 1) : Cg p x 1 ∨ Cg p x (-1) := by
  have : (p : Int) ∣ (x - 1) * (x + 1) := by
    unfold Cg at hx
    rwa [show (x - 1) * (x + 1) = x * x - 1 by rw [Int.sub_mul, Int.mul_add]; (first | lia | omega)]
  rcases h.split this with q | q
  · exact .inl q
  · exact .inr (by unfold Cg; rwa [show x - -1 = x + 1 by (first | lia | omega)])
theorem root34 {p : Nat} {r : Int} (hp : p % 4 = 3) (h : Cg p (r ^ (p / 2)) 1) : Cg p (r ^ (p / 4 + 1) * r ^ (p / 4 + 1)) r := by
  rw [← Int.pow_add, show p / 4 + 1 + (p / 4 + 1) = p / 2 + 1 by (first | lia | omega), Int.pow_succ]
  have := h.mul (Cg.refl (p := p) (a := r))
  rwa [Int.one_mul] at this
theorem pow4 (x : Int) (k : Nat) : x ^ k * x ^ k * (x ^ k * x ^ k) = x ^ (4 * k) := by
  rw [← Int.pow_add, ← Int.pow_add]; congr 1; (first | lia | omega)
theorem root58 {p : Nat} (hP : Prm p) {r : Int} (hp : p % 8 = 5) (h : Cg p (r ^ (p / 2)) 1) :
    Cg p (r ^ (p / 8 + 1) * r ^ (p / 8 + 1)) r ∨ (¬ Cg p (r ^ (p / 8 + 1) * r ^ (p / 8 + 1)) r ∧ Cg p (r ^ (p / 8 + 1) * 2 ^ (p / 4) * (r ^ (p / 8 + 1) * 2 ^ (p / 4))) r) := by
  by_cases hc : Cg p (r ^ (p / 8 + 1) * r ^ (p / 8 + 1)) r
  · exact .inl hc
  · refine .inr ⟨hc, ?_⟩
    have e4 : Cg p (r ^ (p / 8 + 1) * r ^ (p / 8 + 1) * (r ^ (p / 8 + 1) * r ^ (p / 8 + 1))) (r * r) := by
      rw [pow4, show 4 * (p / 8 + 1) = p / 2 + 2 by (first | lia | omega), Int.pow_add, show r ^ 2 = r * r by rw [show (2 : Nat) = 1 + 1 from rfl, Int.pow_succ, pow_one']]
      have := h.mul (Cg.refl (p := p) (a := r * r))
      rwa [Int.one_mul] at this
    generalize r ^ (p / 8 + 1) = y at *
    have hd : (p : Int) ∣ (y * y - r) * (y * y + r) := by
      unfold Cg at e4
      rwa [show (y * y - r) * (y * y + r) = y * y * (y * y) - r * r by rw [Int.sub_mul, Int.mul_add, Int.mul_add, Int.mul_comm r (y * y)]; (first | lia | omega)]
    have hm : Cg p (y * y) (-r) := by
      rcases hP.split hd with q | q
      · exact absurd q hc
      · unfold Cg; rwa [show y * y - -r = y * y + r by (first | lia | omega)]
    have h2 : Cg p ((2 : Int) ^ (p / 2)) (-1) := by
      have := euler (a := 2) hP (by (first | lia | omega)) (fun q => by have := Nat.le_of_dvd (by decide) q; (first | lia | omega))
      rwa [jac_two (by (first | lia | omega)), if_pos (.inr hp)] at this
    rw [show y * 2 ^ (p / 4) * (y * 2 ^ (p / 4)) = y * y * (2 ^ (p / 4) * 2 ^ (p / 4)) by simp only [Int.mul_assoc, Int.mul_left_comm], ← Int.pow_add, show p / 4 + p / 4 = p / 2 by (first | lia | omega)]
    have := hm.mul h2
    rwa [show -r * -1 = r by (first | lia | omega)] at this
theorem ton_turn {p : Nat} (hP : Prm p) {A D : Int} {s i m : Nat} (hi : i + 1 < s) (hD : Cg p (D ^ (2 ^ (s - 1))) (-1)) (hI : Cg p ((A * D ^ m) ^ (2 ^ (s - 1 - i))) 1) :
    (Cg p ((A * D ^ m) ^ (2 ^ (s - 1 - (i + 1)))) (-1) → Cg p ((A * D ^ (m + 2 ^ (i + 1))) ^ (2 ^ (s - 1 - (i + 1)))) 1) ∧
    (¬ Cg p ((A * D ^ m) ^ (2 ^ (s - 1 - (i + 1)))) (-1) → Cg p ((A * D ^ m) ^ (2 ^ (s - 1 - (i + 1)))) 1) := by
  have e : 2 ^ (s - 1 - i) = 2 ^ (s - 1 - (i + 1)) + 2 ^ (s - 1 - (i + 1)) := by
    rw [show s - 1 - i = s - 1 - (i + 1) + 1 by (first | lia | omega), Nat.pow_succ]; (first | lia | omega)
  rw [e, Int.pow_add] at hI
  constructor
  · intro h
    rw [show A * D ^ (m + 2 ^ (i + 1)) = A * D ^ m * D ^ (2 ^ (i + 1)) by rw [Int.pow_add, Int.mul_assoc], mul_pow'' , ← Int.pow_mul, ← Nat.pow_add, show i + 1 + (s - 1 - (i + 1)) = s - 1 by (first | lia | omega)]
    exact h.mul hD
  · intro h
    rcases sq_one hP hI with q | q
    · exact q
    · exact absurd q h
theorem cg_nat {x r p : Nat} (hr : r < p) (h : Cg p ((x : Int) * x) r) : x * x % p = r := by
  have := h.eqmod
  rw [← Int.natCast_mul, ← Int.natCast_emod, ← Int.natCast_emod, Nat.mod_eq_of_lt hr] at this
  exact Int.ofNat.inj this
theorem cg_of {x r p : Nat} (h : x % p = r % p) : Cg p (x : Int) r := by
  unfold Cg
  exact Int.dvd_of_emod_eq_zero (Int.emod_eq_emod_iff_emod_sub_eq_zero.mp (by rw [← Int.natCast_emod, ← Int.natCast_emod, h]))
theorem cg_modN (p a : Nat) : Cg p ((a % p : Nat) : Int) a := cg_of (Nat.mod_mod _ _)
theorem cg_pow (p a k : Nat) : Cg p ((a ^ k % p : Nat) : Int) ((a : Int) ^ k) := by
  have := cg_modN p (a ^ k)
  rwa [Int.natCast_pow] at this
noncomputable def rootA (p r : Nat) : Nat :=
  if p % 8 = 3 ∨ p % 8 = 7 then r ^ (p / 4 + 1) % p
  else (if (r ^ (p / 8 + 1) % p) ^ 2 % p = r then r ^ (p / 8 + 1) % p else (r ^ (p / 8 + 1) % p) * (2 ^ (p / 4) % p) % p)
theorem sq_pos {p r x : Nat} (h0 : r ≠ 0) (h : x * x % p = r) : 0 < x := by
  rcases Nat.eq_zero_or_pos x with q | q
  · subst q; simp at h; (first | lia | omega)
  · exact q
theorem rootA_ok {p r : Nat} (hP : Prm p) (h2 : p % 2 = 1) (h1 : p % 8 ≠ 1) (hr : r < p) (h0 : r ≠ 0) (hj : jac r p = 1) : 0 < rootA p r ∧ rootA p r < p ∧ rootA p r * rootA p r % p = r := by
  have hpp : 0 < p := by have := hP.two; (first | lia | omega)
  have hnd : ¬ p ∣ r := fun q => by have := Nat.le_of_dvd (by (first | lia | omega)) q; (first | lia | omega)
  have he := euler hP h2 hnd
  rw [hj] at he
  have key : rootA p r < p ∧ rootA p r * rootA p r % p = r := by
    unfold rootA
    split
    · rename_i h37
      refine ⟨Nat.mod_lt _ hpp, cg_nat hr ?_⟩
      have c := cg_pow p r (p / 4 + 1)
      exact (c.mul c).trans (root34 (by (first | lia | omega)) he)
    · rename_i h37
      have h5 : p % 8 = 5 := by (first | lia | omega)
      have c := cg_pow p r (p / 8 + 1)
      have c2 : Cg p ((2 ^ (p / 4) % p : Nat) : Int) ((2 : Int) ^ (p / 4)) := cg_pow p 2 (p / 4)
      split
      · rename_i h3
        refine ⟨Nat.mod_lt _ hpp, ?_⟩
        rwa [show (2 : Nat) = 1 + 1 from rfl, Nat.pow_succ, Nat.pow_one] at h3
      · rename_i h3
        refine ⟨Nat.mod_lt _ hpp, cg_nat hr ?_⟩
        have c3 := (cg_modN p ((r ^ (p / 8 + 1) % p) * (2 ^ (p / 4) % p))).trans (by rw [Int.natCast_mul]; exact c.mul c2)
        rcases root58 hP h5 he with q | q
        · refine absurd ?_ h3
          rw [show (2 : Nat) = 1 + 1 from rfl, Nat.pow_succ, Nat.pow_one]
          exact cg_nat hr ((c.mul c).trans q)
        · exact (c3.mul c3).trans q.2
  exact ⟨sq_pos h0 key.2, key⟩
theorem tonF_even (A D p s : Nat) : ∀ i, tonF A D p s i % 2 = 0
  | 0 => rfl
  | i + 1 => by
    have ih := tonF_even A D p s i
    simp only [tonF]
    split
    · rw [Nat.pow_succ]; (first | lia | omega)
    · exact ih
theorem tonF_ok {p A D s : Nat} (hP : Prm p) (h3 : 3 ≤ p) (hD : Cg p ((D : Int) ^ (2 ^ (s - 1))) (-1)) (hA : Cg p ((A : Int) ^ (2 ^ (s - 1))) 1) : ∀ i, i < s → Cg p (((A : Int) * (D : Int) ^ tonF A D p s i) ^ (2 ^ (s - 1 - i))) 1
  | 0, _ => by simpa [tonF] using hA
  | i + 1, hi => by
    have ih := tonF_ok hP h3 hD hA i (by (first | lia | omega))
    have tt := ton_turn hP hi hD ih
    simp only [tonF]
    generalize tonF A D p s i = m at *
    have hc : Cg p (((A * (D ^ m % p)) ^ (2 ^ (s - 1 - (i + 1))) % p : Nat) : Int) (((A : Int) * (D : Int) ^ m) ^ (2 ^ (s - 1 - (i + 1)))) := by
      refine (cg_pow p _ _).trans (Cg.pow ?_ _)
      rw [Int.natCast_mul]
      exact Cg.refl.mul (cg_pow p D m)
    have hlt := Nat.mod_lt ((A * (D ^ m % p)) ^ (2 ^ (s - 1 - (i + 1)))) (show 0 < p by (first | lia | omega))
    split
    · rename_i h
      refine tt.1 ((hc.symm).trans ?_)
      rw [h]
      unfold Cg
      rw [show ((p - 1 : Nat) : Int) - -1 = p by (first | lia | omega)]
      exact Int.dvd_refl _
    · rename_i h
      refine tt.2 fun q => h ?_
      have q := hc.trans q
      have := q.trans (Cg.of (p := p) (a := -1) (b := -1) rfl)
      have h4 : Cg p (((A * (D ^ m % p)) ^ (2 ^ (s - 1 - (i + 1))) % p : Nat) : Int) ((p : Int) - 1) := q.trans (by unfold Cg; rw [show (-1 : Int) - ((p : Int) - 1) = -(p : Int) by (first | lia | omega)]; exact Int.dvd_neg.mpr (Int.dvd_refl _))
      have := h4.eq (by (first | lia | omega)) (by (first | lia | omega)) (by (first | lia | omega)) (by (first | lia | omega))
      (first | lia | omega)
noncomputable def rootB (p r dd s t : Nat) : Nat := (r ^ ((t + 1) / 2) % p) * ((dd ^ t % p) ^ (tonF (r ^ t % p) (dd ^ t % p) p s (s - 1) / 2) % p) % p
theorem rootB_ok {p r dd s t : Nat} (hP : Prm p) (h2 : p % 2 = 1) (h3 : 3 ≤ p) (hs : 1 ≤ s) (ht : t % 2 = 1) (hst : p - 1 = 2 ^ s * t) (hr : r < p) (h0 : r ≠ 0) (hj : jac r p = 1) (hdd : ¬ p ∣ dd) (hd : jac dd p = -1) :
    0 < rootB p r dd s t ∧ rootB p r dd s t < p ∧ rootB p r dd s t * rootB p r dd s t % p = r := by
  have hpp : 0 < p := by (first | lia | omega)
  have hnd : ¬ p ∣ r := fun q => by have := Nat.le_of_dvd (by (first | lia | omega)) q; (first | lia | omega)
  have he := euler hP h2 hnd
  rw [hj] at he
  have hd' := euler hP h2 hdd
  rw [hd] at hd'
  have hh : p / 2 = t * 2 ^ (s - 1) := by
    have e : 2 ^ s = 2 * 2 ^ (s - 1) := by
      obtain ⟨j, rfl⟩ : ∃ j, s = j + 1 := ⟨s - 1, by (first | lia | omega)⟩
      rw [Nat.pow_succ, Nat.mul_comm]; rfl
    rw [e, Nat.mul_assoc, Nat.mul_comm _ t] at hst
    (first | lia | omega)
  have hA : Cg p ((((r ^ t % p : Nat) : Int)) ^ (2 ^ (s - 1))) 1 := ((cg_pow p r t).pow _).trans (by rw [← Int.pow_mul, ← hh]; exact he)
  have hD : Cg p ((((dd ^ t % p : Nat) : Int)) ^ (2 ^ (s - 1))) (-1) := ((cg_pow p dd t).pow _).trans (by rw [← Int.pow_mul, ← hh]; exact hd')
  have hI := tonF_ok hP h3 hD hA (s - 1) (by (first | lia | omega))
  have hev := tonF_even (r ^ t % p) (dd ^ t % p) p s (s - 1)
  have key : rootB p r dd s t < p ∧ rootB p r dd s t * rootB p r dd s t % p = r := by
    unfold rootB
    have hAr := cg_pow p r t
    generalize dd ^ t % p = D at *
    generalize r ^ t % p = A at *
    generalize tonF A D p s (s - 1) = m at *
    refine ⟨Nat.mod_lt _ hpp, cg_nat hr ?_⟩
    have c := (cg_modN p ((r ^ ((t + 1) / 2) % p) * (D ^ (m / 2) % p))).trans (by rw [Int.natCast_mul]; exact (cg_pow p r ((t + 1) / 2)).mul (cg_pow p D (m / 2)))
    refine (c.mul c).trans ?_
    rw [show s - 1 - (s - 1) = 0 by (first | lia | omega), Nat.pow_zero, pow_one'] at hI
    have e1 : (r : Int) ^ ((t + 1) / 2) * (D : Int) ^ (m / 2) * ((r : Int) ^ ((t + 1) / 2) * (D : Int) ^ (m / 2)) = r * ((r : Int) ^ t * (D : Int) ^ m) := by
      have a1 : (r : Int) ^ ((t + 1) / 2) * (r : Int) ^ ((t + 1) / 2) = (r : Int) * (r : Int) ^ t := by
        rw [← Int.pow_add, show (t + 1) / 2 + (t + 1) / 2 = t + 1 by (first | lia | omega), Int.pow_succ, Int.mul_comm]
      have a2 : (D : Int) ^ (m / 2) * (D : Int) ^ (m / 2) = (D : Int) ^ m := by
        rw [← Int.pow_add, show m / 2 + m / 2 = m by (first | lia | omega)]
      rw [← a2, show (r : Int) * ((r : Int) ^ t * ((D : Int) ^ (m / 2) * (D : Int) ^ (m / 2))) = (r : Int) * (r : Int) ^ t * ((D : Int) ^ (m / 2) * (D : Int) ^ (m / 2)) by rw [Int.mul_assoc], ← a1]
      ac_rfl
    rw [e1]
    have h5 : Cg p ((r : Int) ^ t * (D : Int) ^ m) 1 := (hAr.symm.mul Cg.refl).trans hI
    have := (Cg.refl (p := p) (a := (r : Int))).mul h5
    rwa [Int.mul_one] at this
  exact ⟨sq_pos h0 key.2, key⟩
theorem root_none {p r : Nat} (hP : Prm p) (h2 : p % 2 = 1) (h0 : ¬ p ∣ r) (hj : jac r p = -1) (y : Nat) : y * y % p ≠ r % p := by
  intro e
  have hy : ¬ p ∣ y := fun q => h0 (Nat.dvd_of_mod_eq_zero (by rw [← e]; exact Nat.mod_eq_zero_of_dvd (Nat.dvd_mul_right_of_dvd q y)))
  have c := hP.cop hy
  have := jac_mul h2 c c
  rw [← jac_mod (y * y), e, jac_mod, hj] at this
  rcases ((jg_prime hP).2 hy).2 with q | q <;> rw [q] at this <;> (first | lia | omega)
theorem split2 : ∀ N : Nat, 0 < N → ∃ s t, N = 2 ^ s * t ∧ t % 2 = 1 := by
  intro N
  induction N using Nat.strongRecOn with
  | _ N ih =>
    intro h
    by_cases e : N % 2 = 0
    · refine Gen fun G back => ?_
      rcases ih (N / 2) (by (first | lia | omega)) (by (first | lia | omega)) with ⟨s, t, a, b⟩
      refine back ?_
      clear back
      clear G
      exact ⟨s + 1, t, by rw [Nat.pow_succ, Nat.mul_assoc, Nat.mul_left_comm, ← a]; (first | lia | omega), b⟩
    · exact ⟨0, N, by simp, by (first | lia | omega)⟩
theorem split2_vp {N s t : Nat} (h : N = 2 ^ s * t) (ht : t % 2 = 1) : (∀ j, j < s → N % 2 ^ (j + 1) = 0) ∧ N % 2 ^ (s + 1) ≠ 0 ∧ N / 2 ^ s = t := by
  have hp : 0 < 2 ^ s := Nat.pow_pos (by decide)
  refine ⟨fun j hj => ?_, fun q => ?_, by rw [h, Nat.mul_div_cancel_left _ hp]⟩
  · exact Nat.mod_eq_zero_of_dvd (by rw [h]; exact Nat.dvd_mul_right_of_dvd (Nat.pow_dvd_pow 2 hj) t)
  · obtain ⟨c, hc⟩ := Nat.dvd_of_mod_eq_zero q
    rw [h, Nat.pow_succ, Nat.mul_assoc] at hc
    have := Nat.eq_of_mul_eq_mul_left hp hc
    (first | lia | omega)
theorem nonres2 {p : Nat} (hP : Prm p) (h2 : p % 2 = 1) : ∃ d, 2 ≤ d ∧ d < p ∧ jg d p = -1 := by
  refine Gen fun G back => ?_
  rcases nonres hP h2 with ⟨d, h1, hlt, hj⟩
  refine back ?_
  clear back
  clear G
  have hnd : ¬ p ∣ d := fun q => by have := Nat.le_of_dvd (by (first | lia | omega)) q; (first | lia | omega)
  refine ⟨d, ?_, hlt, by rw [((jg_prime hP).2 hnd).1]; exact hj⟩
  rcases Nat.lt_or_ge d 2 with q | q
  · have : d = 1 := by (first | lia | omega)
    subst this
    have c : Nat.Coprime 1 p := Nat.coprime_one_left p
    have := jac_mul h2 c c
    rw [hj] at this
    (first | lia | omega)
  · exact q
noncomputable def pp (Mo : Nat → Nat) : Nat → Nat
  | 0 => 1
  | i + 1 => pp Mo i * Mo i
theorem pp_dvd {Mo : Nat → Nat} {j : Nat} : ∀ {n : Nat}, j < n → Mo j ∣ pp Mo n
  | 0, h => absurd h (Nat.not_lt_zero _)
  | n + 1, h => by
    by_cases e : j = n
    · subst e; exact Nat.dvd_mul_left _ _
    · exact Nat.dvd_mul_right_of_dvd (pp_dvd (by (first | lia | omega))) _
theorem pp_cop {Mo : Nat → Nat} {m : Nat} : ∀ {n : Nat}, (∀ j, j < n → Nat.Coprime (Mo j) m) → Nat.Coprime (pp Mo n) m
  | 0, _ => Nat.coprime_one_left _
  | n + 1, h => Nat.Coprime.mul_left (pp_cop fun j hj => h j (by (first | lia | omega))) (h n (by (first | lia | omega)))
theorem pp_pos {Mo : Nat → Nat} : ∀ {n : Nat}, (∀ j, j < n → 0 < Mo j) → 0 < pp Mo n
  | 0, _ => Nat.one_pos
  | n + 1, h => Nat.mul_pos (pp_pos fun j hj => h j (by (first | lia | omega))) (h n (by (first | lia | omega)))
structure PrO (p : Nat) : Prop where
  pr : Prm p
  odd : p % 2 = 1
  le : p ≤ 1000000
theorem PrO.pos {p : Nat} (h : PrO p) : 3 ≤ p ∧ p ≤ 1000000 ∧ p % 2 = 1 := ⟨by have := h.pr.two; have := h.odd; (first | lia | omega), h.le, h.odd⟩
theorem jg_vals {p : Nat} (h : Prm p) (a : Nat) : jg a p = 0 ∨ jg a p = 1 ∨ jg a p = -1 := by
  by_cases q : p ∣ a
  · exact .inl ((jg_prime h).1 q)
  · obtain ⟨e, j⟩ := (jg_prime h).2 q
    rw [e]; exact .inr j
noncomputable def hasR (p e : Nat) (n : Int) : Bool := decide (jg (n % p).toNat p = 1 ∨ jg (n % p).toNat p = 0 ∧ e ≤ 1)
/-! the symbol is multiplicative in the modulus -/
noncomputable def sgn (a m : Nat) : Int := if a % 4 = 3 ∧ m % 4 = 3 then -1 else 1
theorem sgn_mul {a m k : Nat} (hm : m % 2 = 1) (hk : k % 2 = 1) : sgn a (m * k) = sgn a m * sgn a k := by
  unfold sgn
  have e : (m * k) % 4 = (m % 4) * (k % 4) % 4 := Nat.mul_mod m k 4
  by_cases ha : a % 4 = 3
  · rcases (show m % 4 = 1 ∨ m % 4 = 3 by (first | lia | omega)) with h | h <;> rcases (show k % 4 = 1 ∨ k % 4 = 3 by (first | lia | omega)) with h' | h' <;> rw [e] <;> simp [ha, h, h']
  · simp [ha]
theorem sgn_sq (a m : Nat) : sgn a m * sgn a m = 1 := by unfold sgn; split <;> rfl
theorem jg_odd {a m k : Nat} (hm : m % 2 = 1) (hk : k % 2 = 1) (ha : a % 2 = 1) : jg a (m * k) = jg a m * jg a k := by
  have hmk : (m * k) % 2 = 1 := by rw [Nat.mul_mod, hm, hk]
  have e1 := jg_swap hmk ha
  have e2 := jg_swap hm ha
  have e3 := jg_swap hk ha
  have e4 : jg (m * k) a = jg m a * jg k a := by
    unfold jg sel
    by_cases c1 : Nat.gcd m a = 1
    · by_cases c2 : Nat.gcd k a = 1
      · rw [if_pos c1, if_pos c2, if_pos (Nat.Coprime.mul_left c1 c2)]
        exact jac_mul ha c1 c2
      · rw [if_neg c2, Int.mul_zero, if_neg]
        intro q
        exact c2 (Nat.Coprime.coprime_dvd_left (Nat.dvd_mul_left k m) q)
    · rw [if_neg c1, Int.zero_mul, if_neg]
      intro q
      exact c1 (Nat.Coprime.coprime_dvd_left (Nat.dvd_mul_right m k) q)
  have f1 : jg (m * k) a = sgn a (m * k) * jg a (m * k) := e1
  have f2 : jg m a = sgn a m * jg a m := e2
  have f3 : jg k a = sgn a k * jg a k := e3
  have s1 := sgn_sq a m
  have s2 := sgn_sq a k
  have s3 := sgn_mul (a := a) hm hk
  rw [f1, f2, f3, s3] at e4
  have : sgn a m * sgn a k * (sgn a m * sgn a k * jg a (m * k)) = sgn a m * sgn a k * (sgn a m * jg a m * (sgn a k * jg a k)) := by rw [e4]
  have l1 : sgn a m * sgn a k * (sgn a m * sgn a k * jg a (m * k)) = (sgn a m * sgn a m) * (sgn a k * sgn a k) * jg a (m * k) := by ac_rfl
  have l2 : sgn a m * sgn a k * (sgn a m * jg a m * (sgn a k * jg a k)) = (sgn a m * sgn a m) * (sgn a k * sgn a k) * (jg a m * jg a k) := by ac_rfl
  rw [l1, l2, s1, s2] at this
  simpa using this
theorem jg_add (a m k : Nat) : jg (a + m * k) m = jg a m := by
  rw [← jg_mod (a + m * k), Nat.add_mul_mod_self_left, jg_mod]
theorem jg_mulM {a m k : Nat} (hm : m % 2 = 1) (hk : k % 2 = 1) : jg a (m * k) = jg a m * jg a k := by
  by_cases ha : a % 2 = 1
  · exact jg_odd hm hk ha
  · have hmk : (m * k) % 2 = 1 := by rw [Nat.mul_mod, hm, hk]
    have := jg_odd (a := a + m * k) hm hk (by (first | lia | omega))
    rwa [jg_add, show jg (a + m * k) (m * k) = jg a (m * k) by have := jg_add a (m * k) 1; rwa [Nat.mul_one] at this,
      show jg (a + m * k) k = jg a k by rw [Nat.mul_comm m k]; exact jg_add a k m] at this
theorem jg_one (a : Nat) : jg a 1 = 1 := by
  have := jg_zero (m := 1)
  rw [if_pos rfl] at this
  rw [← jg_mod, Nat.mod_one, this]
theorem jg_pow {a m : Nat} (hm : m % 2 = 1) : ∀ e : Nat, jg a (m ^ e) = jg a m ^ e ∧ m ^ e % 2 = 1
  | 0 => ⟨by rw [Nat.pow_zero, Int.pow_zero, jg_one], rfl⟩
  | e + 1 => by
    obtain ⟨h1, h2⟩ := jg_pow (a := a) hm e
    refine ⟨?_, by rw [Nat.pow_succ, Nat.mul_mod, h2, hm]⟩
    rw [Nat.pow_succ, jg_mulM h2 hm, h1, Int.pow_succ]
structure ModOk (N : Nat) (P E : Nat → Nat) : Prop where
  pr : ∀ j, j < N → PrO (P j)
  le : ∀ j, j < N → P j ≤ 8000
  e1 : ∀ j, j < N → 1 ≤ E j ∧ E j ≤ 3
  ne : ∀ i j, i < j → j < N → P i ≠ P j
noncomputable def mo (P E : Nat → Nat) (j : Nat) : Nat := P j ^ E j
noncomputable def sg (P E : Nat → Nat) (n : Int) : Nat → Int
  | 0 => 1
  | k + 1 => sg P E n k * jg (n % (P k : Int)).toNat (P k) ^ E k
theorem jg_nmod {n : Int} {p m : Nat} (hp : 0 < p) (hm : 0 < m) (h : p ∣ m) : jg (n % (m : Int)).toNat p = jg (n % (p : Int)).toNat p := by
  rw [← jg_mod]
  congr 1
  have h1 := Int.emod_nonneg n (b := (m : Int)) (by (first | lia | omega))
  have h2 := Int.emod_nonneg n (b := (p : Int)) (by (first | lia | omega))
  have h3 : n % (m : Int) % (p : Int) = n % (p : Int) := Int.emod_emod_of_dvd n (Int.natCast_dvd_natCast.mpr h)
  have h4 : (((n % (m : Int)).toNat % p : Nat) : Int) = n % (m : Int) % (p : Int) := by rw [Int.natCast_emod, Int.toNat_of_nonneg h1]
  (first | lia | omega)
theorem ModOk.mo {N : Nat} {P E : Nat → Nat} (h : ModOk N P E) {j : Nat} (hj : j < N) : 0 < mo P E j ∧ mo P E j < 2 ^ 60 ∧ mo P E j % 2 = 1 ∧ 1 < mo P E j := by
  have hp := (h.pr j hj).pos
  have hl := h.le j hj
  have he := h.e1 j hj
  unfold Mine.mo
  refine ⟨Nat.pow_pos (by (first | lia | omega)), ?_, (jg_pow (a := 0) hp.2.2 _).2, ?_⟩
  · exact Nat.lt_of_le_of_lt (Nat.le_trans (Nat.pow_le_pow_left hl _) (Nat.pow_le_pow_right (by decide) he.2)) (by decide)
  · exact Nat.one_lt_pow (by (first | lia | omega)) (by (first | lia | omega))
theorem ModOk.cop {N : Nat} {P E : Nat → Nat} (h : ModOk N P E) {i j : Nat} (hij : i < j) (hj : j < N) : Nat.Coprime (Mine.mo P E i) (Mine.mo P E j) := by
  unfold Mine.mo
  refine Nat.Coprime.pow _ _ ?_
  have hp := (h.pr j hj).pr
  refine hp.cop fun q => ?_
  have h2 := hp.two
  rcases (h.pr i (by (first | lia | omega))).pr.only _ q with z | z
  · (first | lia | omega)
  · exact h.ne i j hij hj z.symm
theorem sg_ok {N : Nat} {P E : Nat → Nat} (h : ModOk N P E) (n : Int) : ∀ k, k ≤ N → jg (n % (pp (mo P E) k : Nat)).toNat (pp (mo P E) k) = sg P E n k ∧ pp (mo P E) k % 2 = 1
  | 0, _ => ⟨jg_one _, rfl⟩
  | k + 1, hk => by
    obtain ⟨h1, h2⟩ := sg_ok h n k (by (first | lia | omega))
    have hm := h.mo (j := k) (by (first | lia | omega))
    have hp := (h.pr k (by (first | lia | omega))).pos
    have hpos := pp_pos (Mo := Mine.mo P E) (n := k) fun j hj => (h.mo (j := j) (by (first | lia | omega))).1
    refine ⟨?_, by show (pp (Mine.mo P E) k * Mine.mo P E k) % 2 = 1; rw [Nat.mul_mod, h2, hm.2.2.1]⟩
    show jg _ (pp (Mine.mo P E) k * Mine.mo P E k) = sg P E n k * _
    rw [jg_mulM h2 hm.2.2.1, ← h1]
    have hpos2 : 0 < pp (Mine.mo P E) (k + 1) := Nat.mul_pos hpos hm.1
    rw [jg_nmod hpos hpos2 (Nat.dvd_mul_right _ _)]
    congr 1
    show jg _ (P k ^ E k) = _
    rw [(jg_pow hp.2.2 _).1]
    congr 1
    refine jg_nmod (by (first | lia | omega)) hpos2 (Nat.dvd_mul_left_of_dvd ?_ _)
    show P k ∣ P k ^ E k
    exact ⟨P k ^ (E k - 1), by have := (h.e1 k (by (first | lia | omega))).1; conv => lhs; rw [show E k = E k - 1 + 1 by (first | lia | omega)]
                               rw [Nat.pow_succ, Nat.mul_comm]⟩
theorem two_rootsP {p e x y : Nat} {n : Int} (hp : PrO p) (he : 1 ≤ e) (hx : x < p ^ e) (hy : y < p ^ e) (hn : ¬ (p : Int) ∣ n)
    (ex : ((p ^ e : Nat) : Int) ∣ n - (x : Int) * x) (ey : ((p ^ e : Nat) : Int) ∣ (y : Int) * y - n) : y = x ∨ y = p ^ e - x := by
  have h2 : ¬ p ∣ 2 := fun q => by have := Nat.le_of_dvd (by decide) q; have := hp.pos; (first | lia | omega)
  have hd : ((p ^ e : Nat) : Int) ∣ ((y : Int) - x) * ((y : Int) + x) := by
    have := Int.dvd_add ey ex
    have e1 : (y : Int) * y - n + (n - (x : Int) * x) = ((y : Int) - x) * ((y : Int) + x) := by
      rw [Int.sub_mul, Int.mul_add, Int.mul_add, Int.mul_comm (x : Int) y]; (first | lia | omega)
    rwa [e1] at this
  have hpe : (p : Int) ∣ ((p ^ e : Nat) : Int) := by
    refine Int.natCast_dvd_natCast.mpr ?_
    exact Nat.dvd_trans (by rw [Nat.pow_one]; exact Nat.dvd_refl _) (Nat.pow_dvd_pow p he : p ^ 1 ∣ p ^ e)
  have hpx : ¬ p ∣ x := by
    intro q
    apply hn
    have h1 : (p : Int) ∣ (x : Int) * x := Int.dvd_mul_of_dvd_left (Int.natCast_dvd_natCast.mpr q)
    have h3 : (p : Int) ∣ n - (x : Int) * x := Int.dvd_trans hpe ex
    have := Int.dvd_add h3 h1
    rwa [show n - (x : Int) * x + (x : Int) * x = n by (first | lia | omega)] at this
  have hm : 0 < p ^ e := by (first | lia | omega)
  by_cases h : (p : Int) ∣ (y : Int) - x
  · left
    have hs : ¬ p ∣ y + x := by
      intro q
      have q' : (p : Int) ∣ ((y + x : Nat) : Int) := Int.natCast_dvd_natCast.mpr q
      have h3 := Int.dvd_sub q' h
      rw [show ((y + x : Nat) : Int) - ((y : Int) - x) = ((2 * x : Nat) : Int) by push_cast; (first | lia | omega)] at h3
      have h4 : p ∣ 2 * x := Int.natCast_dvd_natCast.mp h3
      exact hpx ((hp.pr.cop h2).symm.dvd_of_dvd_mul_left h4)
    have c : Nat.Coprime (p ^ e) (y + x) := (hp.pr.cop hs).symm.pow_left e
    have h5 : p ^ e ∣ ((y : Int) - x).natAbs * (y + x) := by
      have := Int.natAbs_dvd_natAbs.mpr hd
      rwa [Int.natAbs_natCast, Int.natAbs_mul, show ((y : Int) + x).natAbs = y + x by (first | lia | omega)] at this
    have h6 := c.dvd_of_dvd_mul_right h5
    rcases Nat.eq_zero_or_pos ((y : Int) - x).natAbs with q | q
    · (first | lia | omega)
    · have := Nat.le_of_dvd q h6
      (first | lia | omega)
  · right
    have hs : ¬ p ∣ ((y : Int) - x).natAbs := fun q => h (Int.ofNat_dvd_left.mpr q)
    have c : Nat.Coprime (p ^ e) ((y : Int) - x).natAbs := (hp.pr.cop hs).symm.pow_left e
    have h5 : p ^ e ∣ ((y : Int) - x).natAbs * (y + x) := by
      have := Int.natAbs_dvd_natAbs.mpr hd
      rwa [Int.natAbs_natCast, Int.natAbs_mul, show ((y : Int) + x).natAbs = y + x by (first | lia | omega)] at this
    have h6 := c.dvd_of_dvd_mul_left h5
    have hx0 : x ≠ 0 := fun q => hpx (by rw [q]; exact Nat.dvd_zero p)
    obtain ⟨k, hk⟩ := h6
    have : k = 1 := by
      rcases Nat.lt_or_ge k 2 with q | q
      · rcases Nat.lt_or_ge k 1 with q1 | q1
        · have : k = 0 := by (first | lia | omega)
          rw [this] at hk; (first | lia | omega)
        · (first | lia | omega)
      · have : p ^ e * 2 ≤ p ^ e * k := Nat.mul_le_mul_left _ q
        (first | lia | omega)
    subst this
    (first | lia | omega)
theorem pp_dvdZ {Mo : Nat → Nat} {z : Int} : ∀ {n : Nat}, (∀ i j, i < j → j < n → Nat.Coprime (Mo i) (Mo j)) → (∀ j, j < n → (Mo j : Int) ∣ z) → ((pp Mo n : Nat) : Int) ∣ z
  | 0, _, _ => ⟨z, by show z = ((1 : Nat) : Int) * z; (first | lia | omega)⟩
  | n + 1, hc, h => by
    have h1 := pp_dvdZ (n := n) (fun i j a b => hc i j a (by (first | lia | omega))) fun j hj => h j (by (first | lia | omega))
    have h2 := h n (by (first | lia | omega))
    have c : Nat.Coprime (pp Mo n) (Mo n) := pp_cop fun j hj => hc j n hj (by (first | lia | omega))
    have h3 : pp Mo n ∣ z.natAbs := by have := Int.natAbs_dvd_natAbs.mpr h1; rwa [Int.natAbs_natCast] at this
    have h4 : Mo n ∣ z.natAbs := by have := Int.natAbs_dvd_natAbs.mpr h2; rwa [Int.natAbs_natCast] at this
    exact Int.natAbs_dvd_natAbs.mp (by rw [Int.natAbs_natCast]; exact Nat.Coprime.mul_dvd_of_dvd_of_dvd c h3 h4)
noncomputable def chR (x Mo : Nat → Nat) (k : Nat) (row : List (Nat × Nat)) : List (List (Nat × Nat)) := (row ++ [(x k, Mo k)]) :: (if 2 * x k % Mo k ≠ 0 then [row ++ [(Mo k - x k, Mo k)]] else [])
noncomputable def chL (x Mo : Nat → Nat) : Nat → List (List (Nat × Nat))
  | 0 => [[]]
  | k + 1 => (chL x Mo k).flatMap (chR x Mo k)
theorem chR_mem {x Mo : Nat → Nat} {k : Nat} {row r : List (Nat × Nat)} : r ∈ chR x Mo k row ↔ ∃ c, r = row ++ [(c, Mo k)] ∧ (c = x k ∨ c = Mo k - x k ∧ 2 * x k % Mo k ≠ 0) := by
  unfold chR
  by_cases h : 2 * x k % Mo k ≠ 0
  · rw [if_pos h]
    simp only [List.mem_cons, List.not_mem_nil, or_false]
    constructor
    · rintro (rfl | rfl)
      · exact ⟨_, rfl, .inl rfl⟩
      · exact ⟨_, rfl, .inr ⟨rfl, h⟩⟩
    · rintro ⟨c, rfl, (rfl | ⟨rfl, _⟩)⟩
      · exact .inl rfl
      · exact .inr rfl
  · rw [if_neg h]
    simp only [List.mem_cons, List.not_mem_nil, or_false]
    constructor
    · rintro rfl; exact ⟨_, rfl, .inl rfl⟩
    · rintro ⟨c, rfl, (rfl | ⟨_, q⟩)⟩
      · rfl
      · exact absurd q h
theorem chR_len (x Mo : Nat → Nat) (k : Nat) (row : List (Nat × Nat)) : (chR x Mo k row).length ≤ 2 := by unfold chR; split <;> simp
theorem chL_len (x Mo : Nat → Nat) : ∀ k, (chL x Mo k).length ≤ 2 ^ k
  | 0 => by simp [chL]
  | k + 1 => by
    have ih := chL_len x Mo k
    have : ∀ l : List (List (Nat × Nat)), (l.flatMap (chR x Mo k)).length ≤ 2 * l.length := by
      intro l
      induction l with
      | nil => simp
      | cons a r ih => have := chR_len x Mo k a; simp only [List.flatMap_cons, List.length_append, List.length_cons]; (first | lia | omega)
    have := this (chL x Mo k)
    show ((chL x Mo k).flatMap (chR x Mo k)).length ≤ _
    rw [Nat.pow_succ]; (first | lia | omega)
theorem chL_row {x Mo : Nat → Nat} : ∀ {k : Nat} {row : List (Nat × Nat)}, row ∈ chL x Mo k → row.length = k ∧ ∀ (j : Nat) a, row[j]? = some a → a.2 = Mo j ∧ (a.1 = x j ∨ a.1 = Mo j - x j ∧ 2 * x j % Mo j ≠ 0)
  | 0, row, h => by
    simp only [chL, List.mem_singleton] at h
    subst h
    exact ⟨rfl, fun j a h => by simp at h⟩
  | k + 1, row, h => by
    obtain ⟨r0, h0, h1⟩ := List.mem_flatMap.mp h
    obtain ⟨c, rfl, hc⟩ := chR_mem.mp h1
    obtain ⟨i1, i2⟩ := chL_row h0
    refine ⟨by simp [i1], fun j a hj => ?_⟩
    rcases Nat.lt_or_ge j r0.length with q | q
    · rw [List.getElem?_append_left q] at hj; exact i2 j a hj
    · rw [List.getElem?_append_right q] at hj
      have hj0 : j - r0.length = 0 := by
        rcases Nat.eq_zero_or_pos (j - r0.length) with z0 | z0
        · exact z0
        · rw [List.getElem?_eq_none (by simp; (first | lia | omega))] at hj; cases hj
      rw [hj0] at hj
      cases hj
      have : j = k := by (first | lia | omega)
      subst this
      exact ⟨rfl, hc⟩
theorem chL_mem {x Mo c : Nat → Nat} : ∀ {k : Nat}, (∀ j, j < k → c j = x j ∨ c j = Mo j - x j ∧ 2 * x j % Mo j ≠ 0) → (List.range k).map (fun j => (c j, Mo j)) ∈ chL x Mo k
  | 0, _ => by simp [chL]
  | k + 1, h => by
    refine List.mem_flatMap.mpr ⟨_, chL_mem (k := k) fun j hj => h j (by (first | lia | omega)), chR_mem.mpr ⟨c k, by simp [List.range_succ], h k (by (first | lia | omega))⟩⟩
theorem nodup_flat {α β : Type} {f : α → List β} : ∀ {l : List α}, l.Nodup → (∀ a ∈ l, (f a).Nodup) → (∀ a ∈ l, ∀ b ∈ l, ∀ c, c ∈ f a → c ∈ f b → a = b) → (l.flatMap f).Nodup
  | [], _, _, _ => List.nodup_nil
  | a :: r, nd, h1, h2 => by
    rw [List.flatMap_cons]
    refine List.nodup_append.mpr ⟨h1 a (.head _), nodup_flat (List.nodup_cons.mp nd).2 (fun b hb => h1 b (.tail _ hb)) (fun b hb c hc => h2 b (.tail _ hb) c (.tail _ hc)), fun c hc d hd e => ?_⟩
    subst e
    obtain ⟨b, hb, hc2⟩ := List.mem_flatMap.mp hd
    have := h2 a (.head _) b (.tail _ hb) c hc hc2
    subst this
    exact (List.nodup_cons.mp nd).1 hb
theorem chL_nodup {x Mo : Nat → Nat} {k : Nat} (hx : ∀ j, j < k → x j < Mo j) : (chL x Mo k).Nodup := by
  induction k with
  | zero => simp [chL]
  | succ k ih =>
    refine nodup_flat (ih fun j hj => hx j (by (first | lia | omega))) (fun a ha => ?_) fun a ha b hb c hc hd => ?_
    · unfold chR
      have := hx k (by (first | lia | omega))
      split
      · rename_i h
        refine List.nodup_cons.mpr ⟨fun q => ?_, by simp⟩
        have q := List.mem_singleton.mp q
        have := List.append_cancel_left q
        simp at this
        apply h
        rw [show 2 * x k = Mo k by (first | lia | omega), Nat.mod_self]
      · simp
    · obtain ⟨u, rfl, _⟩ := chR_mem.mp hc
      obtain ⟨v, hv, _⟩ := chR_mem.mp hd
      exact (List.append_inj' hv rfl).1
structure CrtV (Mo : Nat → Nat) (N : Nat) (row : List (Nat × Nat)) (v : Nat) : Prop where
  lt : v < pp Mo N
  dvd : ∀ (j : Nat) a, row[j]? = some a → (a.2 : Int) ∣ (v : Int) - a.1
structure RootsOk (N : Nat) (P E x : Nat → Nat) (n : Int) : Prop where
  md : ModOk N P E
  lt : ∀ j, j < N → x j < mo P E j
  sq : ∀ j, j < N → ((mo P E j : Nat) : Int) ∣ (x j : Int) * x j - n
  nd : ∀ j, j < N → (x j = 0 ∧ E j = 1 ∧ (P j : Int) ∣ n ∨ 0 < x j ∧ ¬ (P j : Int) ∣ n)
theorem RootsOk.two {N : Nat} {P E x : Nat → Nat} {n : Int} (h : RootsOk N P E x n) {j : Nat} (hj : j < N) : 2 * x j % mo P E j ≠ 0 ↔ x j ≠ 0 := by
  have hm := h.md.mo hj
  have hl := h.lt j hj
  constructor
  · intro q z; rw [z] at q; simp at q
  · intro q z
    obtain ⟨c, hc⟩ := Nat.dvd_of_mod_eq_zero z
    have : c < 2 := by
      rcases Nat.lt_or_ge c 2 with w | w
      · exact w
      · have := Nat.mul_le_mul_left (mo P E j) w; (first | lia | omega)
    rcases (show c = 0 ∨ c = 1 by (first | lia | omega)) with rfl | rfl <;> (first | lia | omega)
theorem told_nodup {N : Nat} {P E x : Nat → Nat} {n : Int} (h : RootsOk N P E x n) {r1 r2 : List (Nat × Nat)} (h1 : r1 ∈ chL x (mo P E) N) (h2 : r2 ∈ chL x (mo P E) N) {v : Nat} (v1 : CrtV (mo P E) N r1 v) (v2 : CrtV (mo P E) N r2 v) : r1 = r2 := by
  obtain ⟨l1, a1⟩ := chL_row h1
  obtain ⟨l2, a2⟩ := chL_row h2
  refine List.ext_getElem (by (first | lia | omega)) fun j q1 q2 => ?_
  have b1 := a1 j _ (List.getElem?_eq_getElem q1)
  have b2 := a2 j _ (List.getElem?_eq_getElem q2)
  have c1 := v1.dvd j _ (List.getElem?_eq_getElem q1)
  have c2 := v2.dvd j _ (List.getElem?_eq_getElem q2)
  have hj : j < N := by (first | lia | omega)
  have hm := h.md.mo hj
  have hl := h.lt j hj
  have ht := h.two hj
  rw [b1.1] at c1
  rw [b2.1] at c2
  have d := Int.dvd_sub c1 c2
  have e : r1[j].1 = r2[j].1 := by
    have := no_small d (by (first | lia | omega))
    (first | lia | omega)
  exact Prod.ext e (b1.1.trans b2.1.symm)
theorem told_sq {N : Nat} {P E x : Nat → Nat} {n : Int} (h : RootsOk N P E x n) {r : List (Nat × Nat)} (h1 : r ∈ chL x (mo P E) N) {v : Nat} (v1 : CrtV (mo P E) N r v) : ((pp (mo P E) N : Nat) : Int) ∣ (v : Int) * v - n := by
  obtain ⟨l1, a1⟩ := chL_row h1
  refine pp_dvdZ (fun i j hij hj => h.md.cop hij hj) fun j hj => ?_
  have q1 : j < r.length := by (first | lia | omega)
  have b1 := a1 j _ (List.getElem?_eq_getElem q1)
  have c1 := v1.dvd j _ (List.getElem?_eq_getElem q1)
  have hl := h.lt j hj
  have hs := h.sq j hj
  rw [b1.1] at c1
  generalize r[j].1 = y at *
  have hy : ((mo P E j : Nat) : Int) ∣ (y : Int) * y - x j * x j := by
    rcases b1.2 with q | ⟨q, _⟩
    · rw [q, Int.sub_self]; exact Int.dvd_zero _
    · refine ⟨(mo P E j : Int) - 2 * x j, ?_⟩
      rw [show (y : Int) = (mo P E j : Int) - x j by (first | lia | omega)]
      simp only [Int.sub_mul, Int.mul_sub]
      rw [Int.mul_comm (x j : Int) (mo P E j), show (mo P E j : Int) * (2 * (x j : Int)) = 2 * ((mo P E j : Int) * x j) by ac_rfl]
      (first | lia | omega)
  have e1 : (v : Int) * v - n = ((v : Int) - y) * (v + y) + ((y : Int) * y - x j * x j) + ((x j : Int) * x j - n) := by
    rw [Int.sub_mul, Int.mul_add, Int.mul_add, Int.mul_comm (y : Int) v]; (first | lia | omega)
  rw [e1]
  exact Int.dvd_add (Int.dvd_add (Int.dvd_mul_of_dvd_left c1) hy) hs
theorem told_all {N : Nat} {P E x : Nat → Nat} {n : Int} (h : RootsOk N P E x n) {y : Nat} (hy : y < pp (mo P E) N) (hs : ((pp (mo P E) N : Nat) : Int) ∣ (y : Int) * y - n) : ∃ r ∈ chL x (mo P E) N, CrtV (mo P E) N r y := by
  refine ⟨(List.range N).map fun j => (y % mo P E j, mo P E j), chL_mem (c := fun j => y % mo P E j) fun j hj => ?_, hy, fun j a ha => ?_⟩
  · have hm := h.md.mo hj
    have hl := h.lt j hj
    have ht := h.two hj
    have e : ((mo P E j : Nat) : Int) ∣ (y : Int) * y - n := Int.dvd_trans (Int.natCast_dvd_natCast.mpr (pp_dvd hj)) hs
    have hyl := Nat.mod_lt y hm.1
    have e2 : ((mo P E j : Nat) : Int) ∣ ((y % mo P E j : Nat) : Int) * ((y % mo P E j : Nat) : Int) - n := by
      have c := cg_modN (mo P E j) y
      have := c.mul c
      unfold Cg at this
      have := Int.dvd_add this e
      rwa [show ((y % mo P E j : Nat) : Int) * ((y % mo P E j : Nat) : Int) - (y : Int) * y + ((y : Int) * y - n) = ((y % mo P E j : Nat) : Int) * ((y % mo P E j : Nat) : Int) - n by (first | lia | omega)] at this
    generalize y % mo P E j = z at *
    rcases h.nd j hj with ⟨x0, e1, hn⟩ | ⟨x0, hn⟩
    · left
      have hmo : mo P E j = P j := by unfold mo; rw [e1, Nat.pow_one]
      rw [hmo] at e2 hyl
      have h7 : (P j : Int) ∣ (z : Int) * z := by have := Int.dvd_add e2 hn; rwa [show (z : Int) * z - n + n = z * z by (first | lia | omega)] at this
      rcases (h.md.pr j hj).pr.split h7 with q | q
      · have := no_small q (by (first | lia | omega)); (first | lia | omega)
      · have := no_small q (by (first | lia | omega)); (first | lia | omega)
    · have hx2 : ((mo P E j : Nat) : Int) ∣ n - (x j : Int) * x j := by have := Int.dvd_neg.mpr (h.sq j hj); rwa [Int.neg_sub] at this
      rcases two_rootsP (h.md.pr j hj) (h.md.e1 j hj).1 hl hyl hn hx2 e2 with q | q
      · exact .inl q
      · exact .inr ⟨q, ht.mpr (by (first | lia | omega))⟩
  · have hj : j < N := by
      have := (List.getElem?_eq_some_iff.mp ha).1
      simpa using this
    simp [hj] at ha
    subst ha
    have := (cg_modN (mo P E j) y).symm
    exact this
theorem rlt' {n : Int} {p : Nat} (hp : 0 < p) : (n % (p : Int)).toNat < p := by
  have := Int.emod_lt_of_pos n (b := (p : Int)) (by (first | lia | omega))
  have := Int.emod_nonneg n (b := (p : Int)) (by (first | lia | omega))
  (first | lia | omega)
theorem get_inj {α : Type} {l : List α} (nd : l.Nodup) {i j : Nat} {a : α} (hi : l[i]? = some a) (hj : l[j]? = some a) : i = j := by
  obtain ⟨i1, i2⟩ := List.getElem?_eq_some_iff.mp hi
  obtain ⟨j1, j2⟩ := List.getElem?_eq_some_iff.mp hj
  have e : l[i] = l[j] := i2.trans j2.symm
  rcases Nat.lt_trichotomy i j with q | q | q
  · exact absurd e (List.pairwise_iff_getElem.mp nd i j i1 j1 q)
  · exact q
  · exact absurd e.symm (List.pairwise_iff_getElem.mp nd j i j1 i1 q)
noncomputable def Told (N : Nat) (P E x : Nat → Nat) (ms : List Nat) : Prop := ms.length = (chL x (mo P E) N).length ∧ ∀ (k : Nat) row v, (chL x (mo P E) N)[k]? = some row → ms[k]? = some v → CrtV (mo P E) N row v
theorem told_perm {N : Nat} {P E x : Nat → Nat} {n : Int} (h : RootsOk N P E x n) {ms : List Nat} (ht : Told N P E x ms) : ms.Nodup ∧ (rootsL (pp (mo P E) N) n).Perm ms := by
  obtain ⟨hl, hv⟩ := ht
  have nd : ms.Nodup := by
    refine List.pairwise_iff_getElem.mpr fun i j hi hj hij e => ?_
    have r1 : (chL x (mo P E) N)[i]? = some _ := List.getElem?_eq_getElem (by (first | lia | omega))
    have r2 : (chL x (mo P E) N)[j]? = some _ := List.getElem?_eq_getElem (by (first | lia | omega))
    have v1 := hv i _ _ r1 (List.getElem?_eq_getElem hi)
    have v2 := hv j _ _ r2 (List.getElem?_eq_getElem hj)
    rw [← e] at v2
    have := told_nodup h (List.mem_of_getElem? r1) (List.mem_of_getElem? r2) v1 v2
    rw [← this] at r2
    have := get_inj (chL_nodup (k := N) fun j hj => h.lt j hj) r1 r2
    (first | lia | omega)
  refine ⟨nd, (List.perm_ext_iff_of_nodup ((roots_sorted _ n).imp fun h => Nat.ne_of_lt h) nd).mpr fun y => ?_⟩
  rw [mem_roots]
  constructor
  · rintro ⟨h1, h2⟩
    obtain ⟨r, hr, hc⟩ := told_all h h1 h2
    obtain ⟨k, hk⟩ := List.mem_iff_getElem?.mp hr
    have hkl := (List.getElem?_eq_some_iff.mp hk).1
    have hm : ms[k]? = some ms[k] := List.getElem?_eq_getElem (by (first | lia | omega))
    have c2 := hv k r _ hk hm
    have e : y = ms[k] := by
      have hd : ((pp (mo P E) N : Nat) : Int) ∣ (y : Int) - ms[k] := by
        refine pp_dvdZ (fun i j hij hj => h.md.cop hij hj) fun j hj => ?_
        obtain ⟨rl, ra⟩ := chL_row hr
        have q := List.getElem?_eq_getElem (l := r) (i := j) (by (first | lia | omega))
        have d := Int.dvd_sub (hc.dvd j _ q) (c2.dvd j _ q)
        rw [(ra j _ q).1] at d
        rwa [show (y : Int) - r[j].1 - ((ms[k] : Nat) - (r[j].1 : Nat)) = (y : Int) - ms[k] by (first | lia | omega)] at d
      have := no_small hd (by have := c2.lt; (first | lia | omega))
      (first | lia | omega)
    rw [e]; exact List.mem_of_getElem? hm
  · intro hy
    obtain ⟨k, hk⟩ := List.mem_iff_getElem?.mp hy
    have hkl := (List.getElem?_eq_some_iff.mp hk).1
    have hr : (chL x (mo P E) N)[k]? = some _ := List.getElem?_eq_getElem (by (first | lia | omega))
    have c := hv k _ _ hr hk
    exact ⟨c.lt, told_sq h (List.mem_of_getElem? hr) c⟩
noncomputable def rootsI (m : Nat) (n : Int) : List Int := (rootsL m n).map fun (y : Nat) => (y : Int)
theorem told_eq {N : Nat} {P E x : Nat → Nat} {n : Int} (h : RootsOk N P E x n) {ms : List Nat} (ht : Told N P E x ms) {told : List Int} (hp : told.Perm (ms.map fun (y : Nat) => (y : Int))) (hs : told.Pairwise (· ≤ ·)) : told = rootsI (pp (mo P E) N) n := by
  have h3 : (rootsI (pp (mo P E) N) n).Perm (ms.map fun (y : Nat) => (y : Int)) := (told_perm h ht).2.map _
  refine List.Perm.eq_of_pairwise (fun x y _ _ h1 h2 => Int.le_antisymm h1 h2) hs ?_ (hp.trans h3.symm)
  refine List.Pairwise.map _ (fun a b h => ?_) (roots_sorted _ n)
  (first | lia | omega)
theorem rootsI_nodup (m : Nat) (n : Int) : (rootsI m n).Nodup := List.Pairwise.map _ (fun a b h => by intro q; (first | lia | omega)) (roots_sorted m n)
theorem told_len {N : Nat} {P E x : Nat → Nat} {n : Int} (h : RootsOk N P E x n) {ms : List Nat} (ht : Told N P E x ms) : (rootsI (pp (mo P E) N) n).length = (chL x (mo P E) N).length := by
  rw [← ht.1]; unfold rootsI; rw [List.length_map]; exact (told_perm h ht).2.length_eq
theorem no_root {N : Nat} {P E : Nat → Nat} {n : Int} (h : ModOk N P E) {j : Nat} (hj : j < N) (hg : jg (n % (P j : Int)).toNat (P j) = -1) : rootsI (pp (mo P E) N) n = [] := by
  unfold rootsI
  rw [List.map_eq_nil_iff]
  refine List.eq_nil_iff_forall_not_mem.mpr fun y hy => ?_
  obtain ⟨_, hd⟩ := mem_roots.mp hy
  have hp := h.pr j hj
  have hpp := hp.pos
  have hpd : P j ∣ mo P E j := by
    unfold mo
    exact ⟨P j ^ (E j - 1), by have := (h.e1 j hj).1; conv => lhs; rw [show E j = E j - 1 + 1 by (first | lia | omega)]
                               rw [Nat.pow_succ, Nat.mul_comm]⟩
  have h1 : (P j : Int) ∣ (y : Int) * y - n := Int.dvd_trans (Int.natCast_dvd_natCast.mpr (Nat.dvd_trans hpd (pp_dvd hj))) hd
  have hnd : ¬ P j ∣ (n % (P j : Int)).toNat := fun q => by rw [(jg_prime hp.pr).1 q] at hg; (first | lia | omega)
  have hjac : jac (n % (P j : Int)).toNat (P j) = -1 := by rw [← ((jg_prime hp.pr).2 hnd).1]; exact hg
  refine root_none hp.pr hp.odd hnd hjac y ?_
  have h2 := Int.emod_eq_emod_iff_emod_sub_eq_zero.mpr (Int.emod_eq_zero_of_dvd h1)
  have h3 : ((y : Int) * y) % (P j : Int) = ((y * y % P j : Nat) : Int) := by push_cast; rfl
  have h4 := Int.emod_nonneg n (b := (P j : Int)) (by (first | lia | omega))
  rw [Nat.mod_eq_of_lt (rlt' (n := n) (by (first | lia | omega)))]
  exact Int.ofNat.inj ((h3.symm.trans h2).trans (Int.toNat_of_nonneg h4).symm)
noncomputable def gt : List (Str × Addr) := [((Str.ofString "extgcd"), 21), ((Str.ofString "legendre"), 28), ((Str.ofString "modsqrt"), 36), ((Str.ofString "inverse"), 43), ((Str.ofString "CRT"), 50), ((Str.ofString "vp"), 58), ((Str.ofString "_law_pool"), 65), ((Str.ofString "_law_draw"), 72), ((Str.ofString "_law_pick"), 79), ((Str.ofString "_law_is_prime"), 86), ((Str.ofString "_law_primes"), 93), ((Str.ofString "_law_power"), 100), ((Str.ofString "_law_symbol"), 107), ((Str.ofString "_law_root"), 114), ((Str.ofString "_law_has_root"), 121), ((Str.ofString "_law_choices"), 128), ((Str.ofString "_law_right"), 133), ((Str.ofString "law"), 138)]
noncomputable def bt : List Str := [(Str.ofString "len"), (Str.ofString "int"), (Str.ofString "list"), (Str.ofString "tuple"), (Str.ofString "abs"), (Str.ofString "min"), (Str.ofString "max"), (Str.ofString "divmod"), (Str.ofString "isinstance"), (Str.ofString "bool"), (Str.ofString "range"), (Str.ofString "ValueError"), (Str.ofString "sorted"), (Str.ofString "set"), (Str.ofString "sum"), (Str.ofString "zip"), (Str.ofString "enumerate"), (Str.ofString "pow"), (Str.ofString "str")]
-- extgcd at 21: ['x', 'y', 'a', 'b', 'g', 'u', 'v', 'w', 'q', 't']
noncomputable def m_extgcd : MS := (.seq (.asgN [2, 3, 4, 5, 6, 7] (.cons (.int 1) (.cons (.int 0) (.cons (.var 0) (.cons (.int 0) (.cons (.int 1) (.cons (.var 1) .nil))))))) (.seq (.whil (.tv (.var 7)) (.seq (.unp [8, 9] (.dvm (.var 4) (.var 7))) (.seq (.asgN [2, 3, 4, 5, 6, 7] (.cons (.var 5) (.cons (.var 6) (.cons (.var 7) (.cons (.bin .sub (.var 2) (.bin .mul (.var 8) (.var 5))) (.cons (.bin .sub (.var 3) (.bin .mul (.var 8) (.var 6))) (.cons (.var 9) .nil))))))) .skip)) .skip) (.seq (.ite (.cmp .ge (.var 4) (.int 0)) (.seq (.ret (.tup (.cons (.var 2) (.cons (.var 3) (.cons (.var 4) .nil))))) .skip) (.seq (.ret (.tup (.cons (.neg (.var 2)) (.cons (.neg (.var 3)) (.cons (.neg (.var 4)) .nil))))) .skip)) .skip)))
noncomputable abbrev n_extgcd : List Str := [(Str.ofString "x"), (Str.ofString "y"), (Str.ofString "a"), (Str.ofString "b"), (Str.ofString "g"), (Str.ofString "u"), (Str.ofString "v"), (Str.ofString "w"), (Str.ofString "q"), (Str.ofString "t")]
noncomputable abbrev p_extgcd : List Str := [(Str.ofString "x"), (Str.ofString "y")]
-- legendre at 28: ['a', 'm', 'symbol']
noncomputable def m_legendre : MS := (.seq (.asg 0 (.bin .mod (.var 0) (.var 1))) (.seq (.asg 2 (.int 1)) (.seq (.whil (.cmp .ne (.var 0) (.int 0)) (.seq (.whil (.cmp .eq (.bin .band (.var 0) (.int 1)) (.int 0)) (.seq (.aug 0 .shr (.int 1)) (.seq (.ite (.or (.cmp .eq (.bin .band (.var 1) (.int 7)) (.int 3)) (.cmp .eq (.bin .band (.var 1) (.int 7)) (.int 5))) (.seq (.asg 2 (.neg (.var 2))) .skip) .skip) .skip)) .skip) (.seq (.asgN [0, 1] (.cons (.var 1) (.cons (.var 0) .nil))) (.seq (.ite (.and (.cmp .eq (.bin .band (.var 0) (.int 3)) (.int 3)) (.cmp .eq (.bin .band (.var 1) (.int 3)) (.int 3))) (.seq (.asg 2 (.neg (.var 2))) .skip) .skip) (.seq (.asg 0 (.bin .mod (.var 0) (.var 1))) .skip)))) .skip) (.seq (.ite (.cmp .eq (.var 1) (.int 1)) (.seq (.ret (.var 2)) .skip) .skip) (.seq (.ret (.int 0)) .skip)))))
noncomputable abbrev n_legendre : List Str := [(Str.ofString "a"), (Str.ofString "m"), (Str.ofString "symbol")]
noncomputable abbrev p_legendre : List Str := [(Str.ofString "a"), (Str.ofString "m")]
-- modsqrt at 36: ['n', 'p', 'e', 'x', 'ppower', 'z', 'i', 'symbol', 'pmod8', 'c', 'd', 's', 't', 'A', 'D', 'm']
noncomputable def m_modsqrt : MS := (.seq (.ite (.cmp .lt (.int 1) (.var 2)) (.seq (.asg 3 (.call 36 (.cons (.var 0) (.cons (.var 1) .nil)))) (.seq (.ite (.cmp .eq (.int 0) (.var 3)) (.seq (.raise "ValueError") .skip) .skip) (.seq (.asg 4 (.var 1)) (.seq (.asg 5 (.call 43 (.cons (.bin .shl (.var 3) (.int 1)) (.cons (.var 1) .nil)))) (.seq (.forR 6 (.int 0) (.bin .sub (.var 2) (.int 1)) (.int 1) (.seq (.aug 3 .add (.bin .mul (.bin .mod (.bin .mul (.bin .fdiv (.bin .sub (.var 0) (.bin .pow (.var 3) (.int 2))) (.var 4)) (.var 5)) (.var 1)) (.var 4))) (.seq (.aug 4 .mul (.var 1)) .skip))) (.seq (.ret (.var 3)) .skip)))))) .skip) (.seq (.asg 7 (.call 28 (.cons (.var 0) (.cons (.var 1) .nil)))) (.seq (.ite (.cmp .eq (.var 7) (.int 1)) (.seq (.asg 8 (.bin .band (.var 1) (.int 7))) (.seq (.ite (.cmp .ne (.var 8) (.int 1)) (.seq (.aug 0 .mod (.var 1)) (.seq (.ite (.or (.cmp .eq (.var 8) (.int 3)) (.cmp .eq (.var 8) (.int 7))) (.seq (.asg 3 (.pow3 (.var 0) (.bin .add (.bin .shr (.var 1) (.int 2)) (.int 1)) (.var 1))) .skip) (.seq (.asg 3 (.pow3 (.var 0) (.bin .add (.bin .shr (.var 1) (.int 3)) (.int 1)) (.var 1))) (.seq (.asg 9 (.pow3 (.var 3) (.int 2) (.var 1))) (.seq (.ite (.cmp .ne (.var 9) (.var 0)) (.seq (.asg 3 (.bin .mod (.bin .mul (.var 3) (.pow3 (.int 2) (.bin .shr (.var 1) (.int 2)) (.var 1))) (.var 1))) .skip) .skip) .skip)))) .skip)) (.seq (.asg 10 (.int 2)) (.seq (.whil (.cmp .ne (.call 28 (.cons (.var 10) (.cons (.var 1) .nil))) (.neg (.int 1))) (.seq (.aug 10 .add (.int 1)) .skip) .skip) (.seq (.unp [11, 12] (.call 58 (.cons (.bin .sub (.var 1) (.int 1)) (.cons (.int 2) .nil)))) (.seq (.asg 13 (.pow3 (.var 0) (.var 12) (.var 1))) (.seq (.asg 14 (.pow3 (.var 10) (.var 12) (.var 1))) (.seq (.asg 15 (.int 0)) (.seq (.forR 6 (.int 1) (.var 11) (.int 1) (.seq (.ite (.cmp .eq (.pow3 (.bin .mul (.var 13) (.pow3 (.var 14) (.var 15) (.var 1))) (.bin .shl (.int 1) (.bin .sub (.bin .sub (.var 11) (.int 1)) (.var 6))) (.var 1)) (.bin .sub (.var 1) (.int 1))) (.seq (.aug 15 .add (.bin .shl (.int 1) (.var 6))) .skip) .skip) .skip)) (.seq (.asg 3 (.bin .mod (.bin .mul (.pow3 (.var 0) (.bin .shr (.bin .add (.var 12) (.int 1)) (.int 1)) (.var 1)) (.pow3 (.var 14) (.bin .shr (.var 15) (.int 1)) (.var 1))) (.var 1))) .skip))))))))) (.seq (.ret (.var 3)) .skip))) (.seq (.ite (.cmp .eq (.var 7) (.int 0)) (.seq (.ret (.int 0)) .skip) (.seq (.raise "ValueError") .skip)) .skip)) .skip)))
noncomputable abbrev n_modsqrt : List Str := [(Str.ofString "n"), (Str.ofString "p"), (Str.ofString "e"), (Str.ofString "x"), (Str.ofString "ppower"), (Str.ofString "z"), (Str.ofString "i"), (Str.ofString "symbol"), (Str.ofString "pmod8"), (Str.ofString "c"), (Str.ofString "d"), (Str.ofString "s"), (Str.ofString "t"), (Str.ofString "A"), (Str.ofString "D"), (Str.ofString "m")]
noncomputable abbrev p_modsqrt : List Str := [(Str.ofString "n"), (Str.ofString "p"), (Str.ofString "e")]
-- inverse at 43: ['x', 'n', 'y', 'r']
noncomputable def m_inverse : MS := (.seq (.asg 0 (.bin .mod (.var 0) (.var 1))) (.seq (.asg 2 (.call 21 (.cons (.var 1) (.cons (.var 0) .nil)))) (.seq (.ite (.cmp .eq (.idx (.var 2) (.int 2)) (.int 1)) (.seq (.ite (.cmp .lt (.idx (.var 2) (.int 1)) (.int 0)) (.seq (.asg 3 (.bin .add (.var 1) (.idx (.var 2) (.int 1)))) (.seq (.ret (.var 3)) .skip)) (.seq (.ret (.idx (.var 2) (.int 1))) .skip)) .skip) .skip) (.seq .stop .skip))))
noncomputable abbrev n_inverse : List Str := [(Str.ofString "x"), (Str.ofString "n"), (Str.ofString "y"), (Str.ofString "r")]
noncomputable abbrev p_inverse : List Str := [(Str.ofString "x"), (Str.ofString "n")]
-- CRT at 50: ['nlist', 'r', 'product', 'prodinv', 'm', 'i', 'c', 'M', 'n', 'u']
noncomputable def m_CRT : MS := (.seq (.asg 1 (.len (.var 0))) (.seq (.ite (.cmp .eq (.var 1) (.int 1)) (.seq (.ret (.idx (.idx (.var 0) (.int 0)) (.int 0))) .skip) .skip) (.seq (.asg 2 (.list .nil)) (.seq (.asg 3 (.list .nil)) (.seq (.asg 4 (.int 1)) (.seq (.forR 5 (.int 1) (.var 1) (.int 1) (.seq (.asg 4 (.bin .mul (.var 4) (.idx (.idx (.var 0) (.bin .sub (.var 5) (.int 1))) (.int 1)))) (.seq (.asg 6 (.call 43 (.cons (.var 4) (.cons (.idx (.idx (.var 0) (.var 5)) (.int 1)) .nil)))) (.seq (.expr (.app (.var 2) (.var 4))) (.seq (.expr (.app (.var 3) (.var 6))) .skip))))) (.seq (.asg 7 (.bin .mul (.idx (.var 2) (.bin .sub (.var 1) (.int 2))) (.idx (.idx (.var 0) (.bin .sub (.var 1) (.int 1))) (.int 1)))) (.seq (.asg 8 (.idx (.idx (.var 0) (.int 0)) (.int 0))) (.seq (.forR 5 (.int 1) (.var 1) (.int 1) (.seq (.asg 9 (.bin .mod (.bin .mul (.bin .sub (.idx (.idx (.var 0) (.var 5)) (.int 0)) (.var 8)) (.idx (.var 3) (.bin .sub (.var 5) (.int 1)))) (.idx (.idx (.var 0) (.var 5)) (.int 1)))) (.seq (.aug 8 .add (.bin .mul (.var 9) (.idx (.var 2) (.bin .sub (.var 5) (.int 1))))) .skip))) (.seq (.ret (.bin .mod (.var 8) (.var 7))) .skip))))))))))
noncomputable abbrev n_CRT : List Str := [(Str.ofString "nlist"), (Str.ofString "r"), (Str.ofString "product"), (Str.ofString "prodinv"), (Str.ofString "m"), (Str.ofString "i"), (Str.ofString "c"), (Str.ofString "M"), (Str.ofString "n"), (Str.ofString "u")]
noncomputable abbrev p_CRT : List Str := [(Str.ofString "nlist")]
-- vp at 58: ['n', 'p', 'k', 'q']
noncomputable def m_vp : MS := (.seq (.asg 3 (.var 1)) (.seq (.whil (.not (.tv (.bin .mod (.var 0) (.var 3)))) (.seq (.aug 2 .add (.int 1)) (.seq (.aug 3 .mul (.var 1)) .skip)) .skip) (.seq (.ret (.tup (.cons (.var 2) (.cons (.bin .fdiv (.var 0) (.bin .fdiv (.var 3) (.var 1))) .nil)))) .skip)))
noncomputable abbrev n_vp : List Str := [(Str.ofString "n"), (Str.ofString "p"), (Str.ofString "k"), (Str.ofString "q")]
noncomputable abbrev p_vp : List Str := [(Str.ofString "n"), (Str.ofString "p"), (Str.ofString "k")]
-- _law_pool at 65: ['script', 'first', 'size']
noncomputable abbrev n_l_pool : List Str := [(Str.ofString "script"), (Str.ofString "first"), (Str.ofString "size")]
noncomputable abbrev p_l_pool : List Str := [(Str.ofString "script")]
-- _law_draw at 72: ['pool', 'many', 'first', 'size', 'found']
noncomputable abbrev n_l_draw : List Str := [(Str.ofString "pool"), (Str.ofString "many"), (Str.ofString "first"), (Str.ofString "size"), (Str.ofString "found")]
noncomputable abbrev p_l_draw : List Str := [(Str.ofString "pool"), (Str.ofString "many")]
-- _law_pick at 79: ['pool', 'things']
noncomputable def m_l_pick : MS := (.seq (.ret (.idx (.var 1) (.call 72 (.cons (.var 0) (.cons (.len (.var 1)) .nil))))) .skip)
noncomputable abbrev n_l_pick : List Str := [(Str.ofString "pool"), (Str.ofString "things")]
noncomputable abbrev p_l_pick : List Str := [(Str.ofString "pool"), (Str.ofString "things")]
-- _law_is_prime at 86: ['n', 'part']
noncomputable def m_l_is_prime : MS := (.seq (.forR 1 (.int 3) (.int 100) (.int 2) (.seq (.ite (.cmp .gt (.bin .mul (.var 1) (.var 1)) (.var 0)) (.seq .brk .skip) .skip) (.seq (.ite (.cmp .eq (.bin .mod (.toInt (.var 0)) (.var 1)) (.int 0)) (.seq (.ret (.bool false)) .skip) .skip) .skip))) (.seq (.ret (.bool true)) .skip))
noncomputable abbrev n_l_is_prime : List Str := [(Str.ofString "n"), (Str.ofString "part")]
noncomputable abbrev p_l_is_prime : List Str := [(Str.ofString "n")]
-- _law_primes at 93: ['pool', 'many', 'found', 'turn', 'far', 'n', 'step']
noncomputable def m_l_primes : MS := (.seq (.asg 2 (.list .nil)) (.seq (.forR 3 (.int 0) (.var 1) (.int 1) (.seq (.asg 4 (.call 72 (.cons (.var 0) (.cons (.ite (.cmp .gt (.idx (.var 0) (.int 0)) (.int 0)) (.int 500) (.int 5)) .nil)))) (.seq (.asg 5 (.bin .add (.int 3) (.bin .mul (.int 2) (.call 79 (.cons (.var 0) (.cons (.list (.cons (.call 72 (.cons (.var 0) (.cons (.int 4) .nil))) (.cons (.call 72 (.cons (.var 0) (.cons (.int 8) .nil))) (.cons (.var 4) .nil)))) .nil)))))) (.seq (.forR 6 (.int 0) (.int 100) (.int 1) (.seq (.ite (.and (.tv (.call 86 (.cons (.var 5) .nil))) (.tv (.inl (.var 5) (.var 2) false))) (.seq .brk .skip) .skip) (.seq (.asg 5 (.bin .add (.var 5) (.int 2))) .skip))) (.seq (.expr (.app (.var 2) (.var 5))) .skip))))) (.seq (.ret (.var 2)) .skip)))
noncomputable abbrev n_l_primes : List Str := [(Str.ofString "pool"), (Str.ofString "many"), (Str.ofString "found"), (Str.ofString "turn"), (Str.ofString "far"), (Str.ofString "n"), (Str.ofString "step")]
noncomputable abbrev p_l_primes : List Str := [(Str.ofString "pool"), (Str.ofString "many")]
-- _law_power at 100: ['n', 'k', 'found', 'turn']
noncomputable def m_l_power : MS := (.seq (.asg 2 (.int 1)) (.seq (.forR 3 (.int 0) (.var 1) (.int 1) (.seq (.asg 2 (.bin .mul (.var 2) (.var 0))) .skip)) (.seq (.ret (.var 2)) .skip)))
noncomputable abbrev n_l_power : List Str := [(Str.ofString "n"), (Str.ofString "k"), (Str.ofString "found"), (Str.ofString "turn")]
noncomputable abbrev p_l_power : List Str := [(Str.ofString "n"), (Str.ofString "k")]
-- _law_symbol at 107: ['n', 'p', 'left', 'base', 'found', 'turn']
noncomputable def m_l_symbol : MS := (.seq (.asgN [2, 3, 4] (.cons (.bin .fdiv (.bin .sub (.var 1) (.int 1)) (.int 2)) (.cons (.bin .mod (.toInt (.var 0)) (.var 1)) (.cons (.int 1) .nil)))) (.seq (.forR 5 (.int 0) (.int 12) (.int 1) (.seq (.ite (.cmp .eq (.bin .mod (.toInt (.var 2)) (.int 2)) (.int 1)) (.seq (.asg 4 (.bin .mod (.toInt (.bin .mul (.var 4) (.var 3))) (.var 1))) .skip) .skip) (.seq (.asgN [3, 2] (.cons (.bin .mod (.toInt (.bin .mul (.var 3) (.var 3))) (.var 1)) (.cons (.bin .fdiv (.var 2) (.int 2)) .nil))) .skip))) (.seq (.ite (.cmp .eq (.bin .mod (.toInt (.var 0)) (.var 1)) (.int 0)) (.seq (.ret (.int 0)) .skip) .skip) (.seq (.ret (.ite (.cmp .eq (.var 4) (.int 1)) (.int 1) (.neg (.int 1)))) .skip))))
noncomputable abbrev n_l_symbol : List Str := [(Str.ofString "n"), (Str.ofString "p"), (Str.ofString "left"), (Str.ofString "base"), (Str.ofString "found"), (Str.ofString "turn")]
noncomputable abbrev p_l_symbol : List Str := [(Str.ofString "n"), (Str.ofString "p")]
-- _law_root at 114: ['n', 'p', 'e']
noncomputable def m_l_root : MS := (.seq (.tryE .ret (.call 36 (.cons (.var 0) (.cons (.var 1) (.cons (.var 2) .nil)))) "ValueError" .retN) .skip)
noncomputable abbrev n_l_root : List Str := [(Str.ofString "n"), (Str.ofString "p"), (Str.ofString "e")]
noncomputable abbrev p_l_root : List Str := [(Str.ofString "n"), (Str.ofString "p"), (Str.ofString "e")]
-- _law_has_root at 121: ['n', 'p', 'e', 'symbol']
noncomputable def m_l_has_root : MS := (.seq (.asg 3 (.call 107 (.cons (.var 0) (.cons (.var 1) .nil)))) (.seq (.ite (.and (.cmp .eq (.var 3) (.int 0)) (.cmp .gt (.var 2) (.int 1))) (.seq (.ret (.bool false)) .skip) .skip) (.seq (.ret (.cmp .ge (.var 3) (.int 0))) .skip)))
noncomputable abbrev n_l_has_root : List Str := [(Str.ofString "n"), (Str.ofString "p"), (Str.ofString "e"), (Str.ofString "symbol")]
noncomputable abbrev p_l_has_root : List Str := [(Str.ofString "n"), (Str.ofString "p"), (Str.ofString "e")]
-- _law_choices at 128: ['roots', 'found', 'root', 'modulus', 'more', 'row']
noncomputable def m_l_choices : MS := (.seq (.asg 1 (.list (.cons (.list .nil) .nil))) (.seq (.forU [2, 3] (.var 0) (.seq (.asg 4 (.list .nil)) (.seq (.forL 5 (.var 1) (.seq (.expr (.app (.var 4) (.bin .add (.var 5) (.list (.cons (.tup (.cons (.var 2) (.cons (.var 3) .nil))) .nil))))) (.seq (.ite (.cmp .ne (.bin .mod (.toInt (.bin .mul (.int 2) (.var 2))) (.var 3)) (.int 0)) (.seq (.expr (.app (.var 4) (.bin .add (.var 5) (.list (.cons (.tup (.cons (.bin .sub (.var 3) (.var 2)) (.cons (.var 3) .nil))) .nil))))) .skip) .skip) .skip))) (.seq (.asg 1 (.var 4)) .skip)))) (.seq (.ret (.var 1)) .skip)))
noncomputable abbrev n_l_choices : List Str := [(Str.ofString "roots"), (Str.ofString "found"), (Str.ofString "root"), (Str.ofString "modulus"), (Str.ofString "more"), (Str.ofString "row")]
noncomputable abbrev p_l_choices : List Str := [(Str.ofString "roots")]
-- _law_right at 133: ['n', 'primes', 'powers', 'p', 'e', 'moduli', 'great', 'symbol', 'roots', 'modulus', 'root', 'own', 'choices', 'told']
noncomputable def m_l_right : MS := (.seq (.asg 5 (.compZ 2 (.cons (.var 1) (.cons (.var 2) .nil)) (.tv (.bool true)) (.call 100 (.cons (.var 0) (.cons (.var 1) .nil))) [])) (.seq (.asgC [(6, true), (7, false), (8, false)] (.cons (.int 1) (.cons (.int 1) (.cons (.list .nil) .nil)))) (.seq (.forZ [3, 4, 9] (.cons (.var 1) (.cons (.var 2) (.cons (.var 5) .nil))) (.seq (.asgC [(6, true), (7, false)] (.cons (.bin .mul (.cvar 6) (.var 9)) (.cons (.bin .mul (.var 7) (.call 100 (.cons (.call 107 (.cons (.cvar 0) (.cons (.var 3) .nil))) (.cons (.var 4) .nil)))) .nil))) (.seq (.asg 10 (.call 114 (.cons (.cvar 0) (.cons (.var 3) (.cons (.var 4) .nil))))) (.seq (.ite (.cmp .ne (.isn (.var 10) false) (.call 121 (.cons (.cvar 0) (.cons (.var 3) (.cons (.var 4) .nil))))) (.seq (.ret (.bool false)) .skip) .skip) (.seq (.ite (.and (.tv (.isn (.var 10) false)) (.or (.not (.chain (.int 0) .le (.var 10) .lt (.var 9))) (.cmp .ne (.bin .mod (.toInt (.bin .sub (.bin .mul (.var 10) (.var 10)) (.cvar 0))) (.var 9)) (.int 0)))) (.seq (.ret (.bool false)) .skip) .skip) (.seq (.expr (.app (.var 8) (.tup (.cons (.var 10) (.cons (.var 9) .nil))))) .skip)))))) (.seq (.ite (.cmp .ne (.call 28 (.cons (.cvar 0) (.cons (.cvar 6) .nil))) (.var 7)) (.seq (.ret (.bool false)) .skip) .skip) (.seq (.asg 11 (.ite (.cmp .lt (.cvar 6) (.int 2000)) (.compR (.int 0) (.cvar 6) (.int 1) (.cmp .eq (.bin .mod (.toInt (.bin .sub (.bin .mul (.var 0) (.var 0)) (.cvar 2))) (.cvar 1)) (.int 0)) (.var 0) [6, 0]) (.list .nil))) (.seq (.ite (.tv (.inl .none (.compU 2 (.var 8) (.tv (.bool true)) (.var 0) []) true)) (.seq (.ret (.or (.cmp .eq (.var 11) (.list .nil)) (.inl (.int 0) (.compL (.var 1) (.tv (.bool true)) (.call 107 (.cons (.cvar 1) (.cons (.var 0) .nil))) [0]) true))) .skip) .skip) (.seq (.asg 12 (.call 128 (.cons (.var 8) .nil))) (.seq (.asg 13 (.sorted (.compL (.var 12) (.tv (.bool true)) (.call 50 (.cons (.var 0) .nil)) []))) (.seq (.ite (.or (.cmp .ne (.lenSet (.var 13)) (.len (.var 12))) (.cmp .ne (.compL (.var 13) (.or (.not (.chain (.int 0) .le (.var 0) .lt (.cvar 1))) (.cmp .ne (.bin .mod (.toInt (.bin .sub (.bin .mul (.var 0) (.var 0)) (.cvar 2))) (.cvar 1)) (.int 0))) (.var 0) [6, 0]) (.list .nil))) (.seq (.ret (.bool false)) .skip) .skip) (.seq (.ret (.or (.cmp .ge (.cvar 6) (.int 2000)) (.cmp .eq (.var 13) (.var 11)))) .skip))))))))))
noncomputable abbrev n_l_right : List Str := [(Str.ofString "n"), (Str.ofString "primes"), (Str.ofString "powers"), (Str.ofString "p"), (Str.ofString "e"), (Str.ofString "moduli"), (Str.ofString "great"), (Str.ofString "symbol"), (Str.ofString "roots"), (Str.ofString "modulus"), (Str.ofString "root"), (Str.ofString "own"), (Str.ofString "choices"), (Str.ofString "told")]
noncomputable abbrev p_l_right : List Str := [(Str.ofString "n"), (Str.ofString "primes"), (Str.ofString "powers")]
-- law at 138: ['script', 'pool', 'primes', 'p', 'powers', 'great', 'e', 'y', 'other', 'n']
noncomputable def m_law : MS := (.seq (.ite (.or (.not (.tv (.call 133 (.cons (.int 4) (.cons (.list (.cons (.int 3) (.cons (.int 5) .nil))) (.cons (.list (.cons (.int 2) (.cons (.int 1) .nil))) .nil)))))) (.not (.tv (.call 133 (.cons (.int 3) (.cons (.list (.cons (.int 5) (.cons (.int 7) .nil))) (.cons (.list (.cons (.int 1) (.cons (.int 1) .nil))) .nil))))))) (.seq (.ret (.bool false)) .skip) .skip) (.seq (.casg 1 (.call 65 (.cons (.var 0) .nil))) (.seq (.asg 2 (.call 93 (.cons (.cvar 1) (.cons (.bin .add (.int 2) (.call 72 (.cons (.cvar 1) (.cons (.int 2) .nil)))) .nil)))) (.seq (.asg 4 (.compL (.var 2) (.tv (.bool true)) (.bin .add (.int 1) (.bin .mul (.call 72 (.cons (.cvar 1) (.cons (.int 3) .nil))) (.call 72 (.cons (.cvar 1) (.cons (.int 2) .nil))))) [1])) (.seq (.asg 5 (.int 1)) (.seq (.forZ [3, 6] (.cons (.var 2) (.cons (.var 4) .nil)) (.seq (.asg 5 (.bin .mul (.var 5) (.call 100 (.cons (.var 3) (.cons (.var 6) .nil))))) .skip)) (.seq (.asg 7 (.call 72 (.cons (.cvar 1) (.cons (.var 5) .nil)))) (.seq (.asg 8 (.bin .sub (.call 72 (.cons (.cvar 1) (.cons (.var 5) .nil))) (.bin .mul (.var 5) (.call 72 (.cons (.cvar 1) (.cons (.int 3) .nil)))))) (.seq (.forL 9 (.list (.cons (.bin .mul (.var 7) (.var 7)) (.cons (.bin .add (.bin .mul (.var 7) (.var 7)) (.bin .mul (.var 5) (.bin .sub (.call 72 (.cons (.cvar 1) (.cons (.int 99) .nil))) (.int 50)))) (.cons (.var 8) .nil)))) (.seq (.ite (.not (.tv (.call 133 (.cons (.var 9) (.cons (.var 2) (.cons (.var 4) .nil)))))) (.seq (.ret (.bool false)) .skip) .skip) .skip)) (.seq (.ret (.bool true)) .skip))))))))))
set_option genInjectivity false in
structure HW where
  b : HB
  gt : gtB b.K b.gt = true
  bt : btB b.K b.bt = true
  f_extgcd : b.Fn 21 n_extgcd 2 m_extgcd
  b_extgcd : BindN b.K 21 p_extgcd 2 []
  f_legendre : b.Fn 28 n_legendre 2 m_legendre
  b_legendre : BindN b.K 28 p_legendre 2 []
  f_modsqrt : b.Fn 36 n_modsqrt 3 m_modsqrt
  d_modsqrt : b.K.lookup 29 = some (tupO #[(.int 1 216)] 0)
  b_modsqrt2 : BindD b.K 36 29 p_modsqrt (tupO #[(.int 1 216)] 0) [(.int 1 216)] 2 []
  b_modsqrt3 : BindD b.K 36 29 p_modsqrt (tupO #[(.int 1 216)] 0) [] 3 []
  b_modsqrtk : BindK b.K 36 29 p_modsqrt (tupO #[(.int 1 216)] 0) (Str.ofString "e") 2 []
  f_inverse : b.Fn 43 n_inverse 2 m_inverse
  b_inverse : BindN b.K 43 p_inverse 2 []
  f_CRT : b.Fn 50 n_CRT 1 m_CRT
  b_CRT : BindN b.K 50 p_CRT 1 []
  f_vp : b.Fn 58 n_vp 3 m_vp
  d_vp : b.K.lookup 51 = some (tupO #[(.int 0 265)] 0)
  b_vp2 : BindD b.K 58 51 p_vp (tupO #[(.int 0 265)] 0) [(.int 0 265)] 2 []
  b_vp3 : BindD b.K 58 51 p_vp (tupO #[(.int 0 265)] 0) [] 3 []
  b_vpk : BindK b.K 58 51 p_vp (tupO #[(.int 0 265)] 0) (Str.ofString "k") 2 []
  f_l_pool : b.Fn 65 n_l_pool 1 poolMS
  b_l_pool : BindN b.K 65 p_l_pool 1 []
  f_l_draw : b.Fn 72 n_l_draw 2 drawMS
  b_l_draw : BindN b.K 72 p_l_draw 2 []
  f_l_pick : b.Fn 79 n_l_pick 2 m_l_pick
  b_l_pick : BindN b.K 79 p_l_pick 2 []
  f_l_is_prime : b.Fn 86 n_l_is_prime 1 m_l_is_prime
  b_l_is_prime : BindN b.K 86 p_l_is_prime 1 []
  f_l_primes : b.Fn 93 n_l_primes 2 m_l_primes
  b_l_primes : BindN b.K 93 p_l_primes 2 []
  f_l_power : b.Fn 100 n_l_power 2 m_l_power
  b_l_power : BindN b.K 100 p_l_power 2 []
  f_l_symbol : b.Fn 107 n_l_symbol 2 m_l_symbol
  b_l_symbol : BindN b.K 107 p_l_symbol 2 []
  f_l_root : b.Fn 114 n_l_root 3 m_l_root
  b_l_root : BindN b.K 114 p_l_root 3 []
  f_l_has_root : b.Fn 121 n_l_has_root 3 m_l_has_root
  b_l_has_root : BindN b.K 121 p_l_has_root 3 []
  f_l_choices : b.Fn 128 n_l_choices 1 m_l_choices
  b_l_choices : BindN b.K 128 p_l_choices 1 []
  f_l_right : b.FnC 133 n_l_right 3 [true, false, false, false, false, false, true, false, false, false, false, false, false, false] m_l_right
  b_l_right : BindN b.K 133 p_l_right 3 []
noncomputable abbrev gg (w : HW) (mean : ExcName → Option Value) (mg mb : Str → Option Value) : G := w.b.gm mean mg mb
theorem call_extgcd {w mean mg mb} {a0 : V} {a1 : V} {d : Nat} {hp : HP} {Q : V → HP → Prop} {X : XC}
    (h : exec (gg w mean mg mb) d m_extgcd [a0, a1, .unb, .unb, .unb, .unb, .unb, .unb, .unb, .unb] hp (retQ Q) (upX X)) : Calls (gg w mean mg mb) (d + 1) 21 [a0, a1] [] hp Q X :=
  callF w.gt w.bt w.f_extgcd (bv := [a0, a1]) (binds0 w.b_extgcd rfl) rfl rfl h
theorem call_legendre {w mean mg mb} {a0 : V} {a1 : V} {d : Nat} {hp : HP} {Q : V → HP → Prop} {X : XC}
    (h : exec (gg w mean mg mb) d m_legendre [a0, a1, .unb] hp (retQ Q) (upX X)) : Calls (gg w mean mg mb) (d + 1) 28 [a0, a1] [] hp Q X :=
  callF w.gt w.bt w.f_legendre (bv := [a0, a1]) (binds0 w.b_legendre rfl) rfl rfl h
theorem call_modsqrt2 {w mean mg mb} {a0 : V} {a1 : V} {d : Nat} {hp : HP} {Q : V → HP → Prop} {X : XC}
    (h : exec (gg w mean mg mb) d m_modsqrt [a0, a1, .int 1, .unb, .unb, .unb, .unb, .unb, .unb, .unb, .unb, .unb, .unb, .unb, .unb, .unb] hp (retQ Q) (upX X)) : Calls (gg w mean mg mb) (d + 1) 36 [a0, a1] [] hp Q X :=
  callF w.gt w.bt w.f_modsqrt (bv := [a0, a1, .int 1]) (bindsD w.d_modsqrt w.b_modsqrt2 rfl rfl) rfl rfl h
theorem call_modsqrt3 {w mean mg mb} {a0 : V} {a1 : V} {a2 : V} {d : Nat} {hp : HP} {Q : V → HP → Prop} {X : XC}
    (h : exec (gg w mean mg mb) d m_modsqrt [a0, a1, a2, .unb, .unb, .unb, .unb, .unb, .unb, .unb, .unb, .unb, .unb, .unb, .unb, .unb] hp (retQ Q) (upX X)) : Calls (gg w mean mg mb) (d + 1) 36 [a0, a1, a2] [] hp Q X :=
  callF w.gt w.bt w.f_modsqrt (bv := [a0, a1, a2]) (bindsD w.d_modsqrt w.b_modsqrt3 rfl rfl) rfl rfl h
theorem call_inverse {w mean mg mb} {a0 : V} {a1 : V} {d : Nat} {hp : HP} {Q : V → HP → Prop} {X : XC}
    (h : exec (gg w mean mg mb) d m_inverse [a0, a1, .unb, .unb] hp (retQ Q) (upX X)) : Calls (gg w mean mg mb) (d + 1) 43 [a0, a1] [] hp Q X :=
  callF w.gt w.bt w.f_inverse (bv := [a0, a1]) (binds0 w.b_inverse rfl) rfl rfl h
theorem call_CRT {w mean mg mb} {a0 : V} {d : Nat} {hp : HP} {Q : V → HP → Prop} {X : XC}
    (h : exec (gg w mean mg mb) d m_CRT [a0, .unb, .unb, .unb, .unb, .unb, .unb, .unb, .unb, .unb] hp (retQ Q) (upX X)) : Calls (gg w mean mg mb) (d + 1) 50 [a0] [] hp Q X :=
  callF w.gt w.bt w.f_CRT (bv := [a0]) (binds0 w.b_CRT rfl) rfl rfl h
theorem call_vp2 {w mean mg mb} {a0 : V} {a1 : V} {d : Nat} {hp : HP} {Q : V → HP → Prop} {X : XC}
    (h : exec (gg w mean mg mb) d m_vp [a0, a1, .int 0, .unb] hp (retQ Q) (upX X)) : Calls (gg w mean mg mb) (d + 1) 58 [a0, a1] [] hp Q X :=
  callF w.gt w.bt w.f_vp (bv := [a0, a1, .int 0]) (bindsD w.d_vp w.b_vp2 rfl rfl) rfl rfl h
theorem call_l_pool {w mean mg mb} {a0 : V} {d : Nat} {hp : HP} {Q : V → HP → Prop} {X : XC}
    (h : exec (gg w mean mg mb) d poolMS [a0, .unb, .unb] hp (retQ Q) (upX X)) : Calls (gg w mean mg mb) (d + 1) 65 [a0] [] hp Q X :=
  callF w.gt w.bt w.f_l_pool (bv := [a0]) (binds0 w.b_l_pool rfl) rfl rfl h
theorem call_l_draw {w mean mg mb} {a0 : V} {a1 : V} {d : Nat} {hp : HP} {Q : V → HP → Prop} {X : XC}
    (h : exec (gg w mean mg mb) d drawMS [a0, a1, .unb, .unb, .unb] hp (retQ Q) (upX X)) : Calls (gg w mean mg mb) (d + 1) 72 [a0, a1] [] hp Q X :=
  callF w.gt w.bt w.f_l_draw (bv := [a0, a1]) (binds0 w.b_l_draw rfl) rfl rfl h
theorem call_l_pick {w mean mg mb} {a0 : V} {a1 : V} {d : Nat} {hp : HP} {Q : V → HP → Prop} {X : XC}
    (h : exec (gg w mean mg mb) d m_l_pick [a0, a1] hp (retQ Q) (upX X)) : Calls (gg w mean mg mb) (d + 1) 79 [a0, a1] [] hp Q X :=
  callF w.gt w.bt w.f_l_pick (bv := [a0, a1]) (binds0 w.b_l_pick rfl) rfl rfl h
theorem call_l_is_prime {w mean mg mb} {a0 : V} {d : Nat} {hp : HP} {Q : V → HP → Prop} {X : XC}
    (h : exec (gg w mean mg mb) d m_l_is_prime [a0, .unb] hp (retQ Q) (upX X)) : Calls (gg w mean mg mb) (d + 1) 86 [a0] [] hp Q X :=
  callF w.gt w.bt w.f_l_is_prime (bv := [a0]) (binds0 w.b_l_is_prime rfl) rfl rfl h
theorem call_l_primes {w mean mg mb} {a0 : V} {a1 : V} {d : Nat} {hp : HP} {Q : V → HP → Prop} {X : XC}
    (h : exec (gg w mean mg mb) d m_l_primes [a0, a1, .unb, .unb, .unb, .unb, .unb] hp (retQ Q) (upX X)) : Calls (gg w mean mg mb) (d + 1) 93 [a0, a1] [] hp Q X :=
  callF w.gt w.bt w.f_l_primes (bv := [a0, a1]) (binds0 w.b_l_primes rfl) rfl rfl h
theorem call_l_power {w mean mg mb} {a0 : V} {a1 : V} {d : Nat} {hp : HP} {Q : V → HP → Prop} {X : XC}
    (h : exec (gg w mean mg mb) d m_l_power [a0, a1, .unb, .unb] hp (retQ Q) (upX X)) : Calls (gg w mean mg mb) (d + 1) 100 [a0, a1] [] hp Q X :=
  callF w.gt w.bt w.f_l_power (bv := [a0, a1]) (binds0 w.b_l_power rfl) rfl rfl h
theorem call_l_symbol {w mean mg mb} {a0 : V} {a1 : V} {d : Nat} {hp : HP} {Q : V → HP → Prop} {X : XC}
    (h : exec (gg w mean mg mb) d m_l_symbol [a0, a1, .unb, .unb, .unb, .unb] hp (retQ Q) (upX X)) : Calls (gg w mean mg mb) (d + 1) 107 [a0, a1] [] hp Q X :=
  callF w.gt w.bt w.f_l_symbol (bv := [a0, a1]) (binds0 w.b_l_symbol rfl) rfl rfl h
theorem call_l_root {w mean mg mb} {a0 : V} {a1 : V} {a2 : V} {d : Nat} {hp : HP} {Q : V → HP → Prop} {X : XC}
    (h : exec (gg w mean mg mb) d m_l_root [a0, a1, a2] hp (retQ Q) (upX X)) : Calls (gg w mean mg mb) (d + 1) 114 [a0, a1, a2] [] hp Q X :=
  callF w.gt w.bt w.f_l_root (bv := [a0, a1, a2]) (binds0 w.b_l_root rfl) rfl rfl h
theorem call_l_has_root {w mean mg mb} {a0 : V} {a1 : V} {a2 : V} {d : Nat} {hp : HP} {Q : V → HP → Prop} {X : XC}
    (h : exec (gg w mean mg mb) d m_l_has_root [a0, a1, a2, .unb] hp (retQ Q) (upX X)) : Calls (gg w mean mg mb) (d + 1) 121 [a0, a1, a2] [] hp Q X :=
  callF w.gt w.bt w.f_l_has_root (bv := [a0, a1, a2]) (binds0 w.b_l_has_root rfl) rfl rfl h
theorem call_l_choices {w mean mg mb} {a0 : V} {d : Nat} {hp : HP} {Q : V → HP → Prop} {X : XC}
    (h : exec (gg w mean mg mb) d m_l_choices [a0, .unb, .unb, .unb, .unb, .unb] hp (retQ Q) (upX X)) : Calls (gg w mean mg mb) (d + 1) 128 [a0] [] hp Q X :=
  callF w.gt w.bt w.f_l_choices (bv := [a0]) (binds0 w.b_l_choices rfl) rfl rfl h
theorem call_l_right {w mean mg mb} {a0 : V} {a1 : V} {a2 : V} {d : Nat} {hp : HP} {Q : V → HP → Prop} {X : XC}
    (h : enterC [(true, a0), (false, a1), (false, a2), (false, .unb), (false, .unb), (false, .unb), (true, .unb), (false, .unb), (false, .unb), (false, .unb), (false, .unb), (false, .unb), (false, .unb), (false, .unb)] hp fun l h0 => exec (gg w mean mg mb) d m_l_right l h0 (retQ Q) noX) : Calls (gg w mean mg mb) (d + 1) 133 [a0, a1, a2] [] hp Q X :=
  callC w.gt w.bt w.f_l_right (bv := [a0, a1, a2]) (binds0 w.b_l_right rfl) rfl rfl (by kernel_rfl!) h
noncomputable def dropS : Nat → MS → MS
  | n + 1, .seq _ r => dropS n r
  | _, m => m
noncomputable def seq1 : MS → MS
  | .seq a _ => a
  | m => m
noncomputable def loopB : MS → MS
  | .forR _ _ _ _ b => b
  | .forZ _ _ b => b
  | m => m
theorem ne0 {p : Nat} (h : 0 < p) : (p : Int) ≠ 0 := Int.natCast_ne_zero.mpr (Nat.ne_of_gt h)
theorem pos0 {p : Nat} (h : 0 < p) : (0 : Int) < p := Int.natCast_pos.mpr h
theorem smallM {a p : Nat} (h : a < p) (hp : p ≤ 1000000) : ((a : Nat) : Int).natAbs < 2 ^ 64 := by (first | lia | omega)
theorem sub1 {a p : Nat} (hp : 0 < p) : (a : Int) = (p : Int) - 1 ↔ a = p - 1 := by (first | lia | omega)
theorem bits1 {x : Int} (h : x ≤ 2500) : (Builtin.Int.intBits 1 : Int) + x ≤ 2 ^ 27 := by
  have : Builtin.Int.intBits 1 = 1 := by decide
  (first | lia | omega)
theorem odd8 {p : Nat} (h : p % 2 = 1) (h1 : p % 8 ≠ 1) : p % 8 = 3 ∨ p % 8 = 5 ∨ p % 8 = 7 := by (first | lia | omega)
theorem rlt {n : Int} {p r : Nat} (hp : 0 < p) (hr : (n % p).toNat = r) : r < p := by
  have := Int.emod_lt_of_pos n (b := (p : Int)) (pos0 hp)
  (first | lia | omega)
theorem xg {g : G} {d : Nat} {m : MS} {l : List V} {hp : HP} {Q : Out → List V → HP → Prop} {X : XT} (h : ∀ Q' : Out → List V → HP → Prop, (∀ o l h, Q o l h → Q' o l h) → exec g d m l hp Q' X) : exec g d m l hp Q X := h Q fun _ _ _ h => h
theorem even_exec {w mean mg mb} {d : Nat} {hp : HP} {a m : Nat} {s v : Int} (hm : m % 2 = 1) (ha0 : a ≠ 0) (hv : s * jg a m = v) {Q : Out → List V → HP → Prop} (hQ : ∀ (b : Nat) (t : Int), b % 2 = 1 → b ≤ a → t * jg b m = v → Q .next [.int b, .int m, .int t] hp) :
    whileI (fun l h R => evT (gg w mean mg mb) d (.cmp .eq (.bin .band (.var 0) (.int 1)) (.int 0)) l h R noX)
      (fun l h R => exec (gg w mean mg mb) d (.seq (.aug 0 .shr (.int 1)) (.seq (.ite (.or (.cmp .eq (.bin .band (.var 1) (.int 7)) (.int 3)) (.cmp .eq (.bin .band (.var 1) (.int 7)) (.int 5))) (.seq (.asg 2 (.neg (.var 2))) .skip) .skip) .skip)) l h R noX)
      (fun l h R => exec (gg w mean mg mb) d .skip l h R noX) [.int a, .int m, .int s] hp Q := by
  refine ⟨fun j l h => ∃ (b : Nat) (s : Int), l = [.int b, .int m, .int s] ∧ h = hp ∧ b ≠ 0 ∧ b ≤ a ∧ s * jg b m = v ∧ j = b, ⟨a, a, s, rfl, rfl, ha0, Nat.le_refl _, hv, rfl⟩, ?_⟩
  intro j l h qz80
  refine Gen fun G back => ?_
  rcases qz80 with ⟨b, s, hz81, hz82, hb0, hba, hj, hjb⟩
  refine back ?_
  clear back
  clear G
  subst hz81
  subst hz82
  have e7 : Builtin.bitAnd (m : Int) 7 = ((m % 8 : Nat) : Int) := by rw [bitAnd_m3]; rfl
  refine ⟨trivial, fun ht => ?_, fun ht => ?_⟩
  · have ht := ceq_t.mp ht
    have ha : b % 2 = 0 := by
      have : Builtin.bitAnd (b : Int) 1 = 0 := ht
      rw [bitAnd_m1] at this; (first | lia | omega)
    have e1 : b = 2 * (b / 2) := by (first | lia | omega)
    rw [e1, jg_two hm, ← Int.mul_assoc] at hj
    have e2 : intOp (b : Int) 1 .shr = ((b / 2 : Nat) : Int) := by
      show (b : Int).fdiv (2 ^ (1 : Int).toNat) = _
      rw [show (2 : Int) ^ (1 : Int).toNat = 2 from rfl, Int.fdiv_eq_ediv_of_nonneg _ (by decide)]; rfl
    refine ⟨(show (0 : Int) ≤ 1 by decide), ?_⟩
    show exec (gg w mean mg mb) d _ [.int (intOp (b : Int) 1 .shr), .int m, .int s] h _ noX
    rw [e2]
    refine ⟨trivial, fun t1 => ⟨fun _ => ?_, (fun q => nomatch q)⟩, fun t1 => ⟨trivial, fun t2 => ?_, fun t2 => ?_⟩⟩
    · have t1 : Builtin.bitAnd (m : Int) 7 = 3 := ceq_t.mp t1
      rw [e7] at t1
      rw [if_pos (.inl (Int.ofNat.inj t1)), Int.mul_neg_one] at hj
      exact ⟨b / 2, by (first | lia | omega), _, _, rfl, rfl, by (first | lia | omega), by (first | lia | omega), hj, rfl⟩
    · have t2 : Builtin.bitAnd (m : Int) 7 = 5 := ceq_t.mp t2
      rw [e7] at t2
      rw [if_pos (.inr (Int.ofNat.inj t2)), Int.mul_neg_one] at hj
      exact ⟨b / 2, by (first | lia | omega), _, _, rfl, rfl, by (first | lia | omega), by (first | lia | omega), hj, rfl⟩
    · have t1 : Builtin.bitAnd (m : Int) 7 ≠ 3 := ceq_f.mp t1
      have t2 : Builtin.bitAnd (m : Int) 7 ≠ 5 := ceq_f.mp t2
      rw [e7] at t1 t2
      rw [if_neg (fun q => q.elim (fun q => t1 (congrArg Int.ofNat q)) (fun q => t2 (congrArg Int.ofNat q))), Int.mul_one] at hj
      exact ⟨b / 2, by (first | lia | omega), _, _, rfl, rfl, by (first | lia | omega), by (first | lia | omega), hj, rfl⟩
  · have ht := ceq_f.mp ht
    have ha : b % 2 ≠ 0 := by
      have : Builtin.bitAnd (b : Int) 1 ≠ 0 := ht
      rw [bitAnd_m1] at this; (first | lia | omega)
    exact hQ b s (by (first | lia | omega)) hba hj
theorem leg_exec {w mean mg mb} {d : Nat} {hp : HP} {m : Nat} {n : Int} (hm : m % 2 = 1) {Q : V → HP → Prop} {X : XT} (hQ : Q (.int (jg (n % m).toNat m)) hp) :
    exec (gg w mean mg mb) d m_legendre [.int n, .int m, .unb] hp (retQ Q) X := by
  have hm0 : 0 < m := by (first | lia | omega)
  refine ⟨ne0 hm0, ?_⟩
  have e : intOp n m .mod = ((n % (m : Int)).toNat : Int) := by
    show n.fmod m = _
    rw [Int.fmod_eq_emod_of_nonneg _ (Int.natCast_nonneg _), Int.toNat_of_nonneg (Int.emod_nonneg _ (ne0 hm0))]
  show exec (gg w mean mg mb) d _ [.int (intOp n m .mod), .int m, .int 1] hp _ X
  rw [e]
  generalize (n % (m : Int)).toNat = r at *
  generalize hv : jg r m = v at *
  refine ⟨fun k l h => ∃ (a m : Nat) (s : Int), l = [.int a, .int m, .int s] ∧ h = hp ∧ m % 2 = 1 ∧ s * jg a m = v ∧ k = a, ⟨r, r, m, 1, rfl, rfl, hm, by rw [hv, Int.one_mul], rfl⟩, ?_⟩
  clear hv hm hm0 e
  intro k l h qz83
  refine Gen fun G back => ?_
  rcases qz83 with ⟨a, m, s, hz84, hz85, hm, hk, hka⟩
  refine back ?_
  clear back
  clear G
  subst hz84
  subst hz85
  refine ⟨fun t => ?_, fun t => ?_⟩
  · have ha := cne_t.mp t
    refine even_exec hm (by (first | lia | omega)) hk fun b s hb hba hk => ?_
    have em : intOp (m : Int) (b : Int) .mod = ((m % b : Nat) : Int) := by
      show (m : Int).fmod b = _
      rw [Int.fmod_eq_emod_of_nonneg _ (Int.natCast_nonneg _)]; rfl
    have e3 : Builtin.bitAnd (m : Int) 3 = ((m % 4 : Nat) : Int) := by rw [bitAnd_m2]; rfl
    have e4 : Builtin.bitAnd (b : Int) 3 = ((b % 4 : Nat) : Int) := by rw [bitAnd_m2]; rfl
    rw [jg_swap hb hm, ← Int.mul_assoc] at hk
    have fin : ∀ s2 : Int, s2 * jg m b = v → exec (gg w mean mg mb) d (.seq (.asg 0 (.bin .mod (.var 0) (.var 1))) .skip) [.int m, .int b, .int s2] h (fun o l2 h2 => match o with
      | .next => ∃ j, j < k ∧ ∃ (a m : Nat) (s : Int), l2 = [.int a, .int m, .int s] ∧ h2 = h ∧ m % 2 = 1 ∧ s * jg a m = v ∧ j = a | .brk => True | .ret _ => False) noX := by
      intro s2 hs
      refine ⟨(show (b : Int) ≠ 0 by (first | lia | omega)), m % b, Nat.lt_of_lt_of_le (Nat.mod_lt _ (by (first | lia | omega))) (by (first | lia | omega)), m % b, b, s2, ?_, rfl, hb, by rw [jg_mod]; exact hs, rfl⟩
      show [V.int (intOp (m : Int) (b : Int) .mod), V.int b, V.int s2] = _
      rw [em]
    refine ⟨trivial, fun t1 => ⟨trivial, fun t2 => ?_, fun t2 => ?_⟩, fun t1 => ⟨(fun q => nomatch q), fun _ => ?_⟩⟩
    · have t1 : Builtin.bitAnd (m : Int) 3 = 3 := ceq_t.mp t1
      have t2 : Builtin.bitAnd (b : Int) 3 = 3 := ceq_t.mp t2
      rw [e3] at t1; rw [e4] at t2
      rw [if_pos ⟨Int.ofNat.inj t1, Int.ofNat.inj t2⟩, Int.mul_neg_one] at hk
      exact fin _ hk
    · have t2 : Builtin.bitAnd (b : Int) 3 ≠ 3 := ceq_f.mp t2
      rw [e4] at t2
      rw [if_neg (fun q => t2 (congrArg Int.ofNat q.2)), Int.mul_one] at hk
      exact fin _ hk
    · have t1 : Builtin.bitAnd (m : Int) 3 ≠ 3 := ceq_f.mp t1
      rw [e3] at t1
      rw [if_neg (fun q => t1 (congrArg Int.ofNat q.1)), Int.mul_one] at hk
      exact fin _ hk
  · have ha := cne_f.mp t
    have ha : a = 0 := by (first | lia | omega)
    subst ha
    rw [jg_zero] at hk
    refine ⟨fun t => ?_, fun t => ?_⟩
    · have hm : (m : Int) = 1 := ceq_t.mp t
      rw [if_pos (by (first | lia | omega)), Int.mul_one] at hk
      subst hk; exact hQ
    · have hm : (m : Int) ≠ 1 := ceq_f.mp t
      rw [if_neg (by (first | lia | omega)), Int.mul_zero] at hk
      subst hk; exact hQ
structure ExtI (x y : Nat) (a b : Int) (g : Nat) (u v : Int) (z : Nat) : Prop where
  h1 : a * x + b * y = g
  h2 : u * x + v * y = z
  lt : z < g
  le : g ≤ x
  gcd : Nat.gcd g z = Nat.gcd x y
  sg : ∃ B V : Nat, ((b = -B ∧ v = V) ∨ (b = B ∧ v = -V)) ∧ B * z + V * g = x ∧ B ≤ V
theorem ExtI.next {x y g z : Nat} {a b u v : Int} (h : ExtI x y a b g u v z) (hz : z ≠ 0) : ExtI x y u v z (a - (g / z : Nat) * u) (b - (g / z : Nat) * v) (g % z) := by
  refine Gen fun G back => ?_
  rcases h with ⟨h1, h2, hlt, hle, hg, B, V, hs, hB, hV⟩
  refine back ?_
  clear back
  clear G
  have hd : z * (g / z) + g % z = g := Nat.div_add_mod g z
  have hq : 1 ≤ g / z := (Nat.le_div_iff_mul_le (by (first | lia | omega))).mpr (by (first | lia | omega))
  refine ⟨h2, ?_, Nat.mod_lt _ (by (first | lia | omega)), by (first | lia | omega), ?_, V, B + (g / z) * V, ?_, ?_, ?_⟩
  · have e : ((g % z : Nat) : Int) = (g : Int) - (g / z : Nat) * (z : Nat) := by
      have : (g : Int) = ((z * (g / z) + g % z : Nat) : Int) := by rw [hd]
      rw [this]; push_cast; rw [Int.mul_comm ((g : Int) / z)]; (first | lia | omega)
    rw [e, ← h1, ← h2]
    simp only [Int.sub_mul, Int.mul_add, Int.mul_assoc]
    (first | lia | omega)
  · rw [← hg, Nat.gcd_comm z, ← Nat.gcd_rec, Nat.gcd_comm]
  · rcases hs with ⟨rfl, rfl⟩ | ⟨rfl, rfl⟩
    · exact .inr ⟨rfl, by push_cast; (first | lia | omega)⟩
    · refine .inl ⟨rfl, ?_⟩
      push_cast
      rw [Int.mul_neg]; (first | lia | omega)
  · rw [← hB]
    have : V * (g % z) + g / z * V * z = V * g := by
      conv => rhs; rw [← hd]
      rw [Nat.mul_add, Nat.add_comm]
      congr 1
      ac_rfl
    rw [Nat.add_mul]; (first | lia | omega)
  · exact Nat.le_trans (Nat.le_mul_of_pos_left V hq) (Nat.le_add_left _ _)
theorem fdivN (a b : Nat) : (a : Int).fdiv b = ((a / b : Nat) : Int) := by
  rw [Int.fdiv_eq_ediv_of_nonneg _ (Int.natCast_nonneg _)]; push_cast; rfl
theorem fmodN (a b : Nat) : (a : Int).fmod b = ((a % b : Nat) : Int) := by
  rw [Int.fmod_eq_emod_of_nonneg _ (Int.natCast_nonneg _)]; push_cast; rfl
theorem ext_exec {w mean mg mb} {d : Nat} {hp : HP} {x y : Nat} (hx : x < 2 ^ 60) (hxy : y < x) {Q : V → HP → Prop} {X : XT}
    (hQ : ∀ (A B : Int) h' r, Upto [] hp h' → h' r = some (.tup [.int A, .int B, .int (Nat.gcd x y)]) → A * x + B * y = Nat.gcd x y → B.natAbs ≤ x → Q (.ref r) h') :
    exec (gg w mean mg mb) d m_extgcd [.int x, .int y, .unb, .unb, .unb, .unb, .unb, .unb, .unb, .unb] hp (retQ Q) X := by
  refine ⟨fun k l h => ∃ (a b u v : Int) (g z : Nat) (x8 x9 : V), l = [.int x, .int y, .int a, .int b, .int g, .int u, .int v, .int z, x8, x9] ∧ Upto [] hp h ∧ ExtI x y a b g u v z ∧ k = z, ⟨y, 1, 0, 0, 1, x, y, _, _, rfl, .refl, ⟨by (first | lia | omega), by (first | lia | omega), hxy, Nat.le_refl _, rfl, 0, 1, .inl ⟨rfl, rfl⟩, by (first | lia | omega), by (first | lia | omega)⟩, rfl⟩, ?_⟩
  intro k l h qz86
  refine Gen fun G back => ?_
  rcases qz86 with ⟨a, b, u, v, g, z, x8, x9, hz87, up, hI, hkz⟩
  refine back ?_
  clear back
  clear G
  subst hz87
  have hle := hI.le
  refine ⟨fun t => ?_, fun t => ?_⟩
  · have hz : (z : Int) ≠ 0 := tru_t.mp t
    have hz0 : z ≠ 0 := by (first | lia | omega)
    have hs : ((g : Int).fdiv z).natAbs < 2 ^ 64 := by
      rw [fdivN, Int.natAbs_natCast]
      have := Nat.div_le_self g z
      (first | lia | omega)
    refine ⟨hz, fun r nr => ⟨_, hset_same, rfl, mul_small_left hs, trivial, mul_small_left hs, trivial, ?_⟩⟩
    refine ⟨g % z, by have := Nat.mod_lt g (show 0 < z by (first | lia | omega)); (first | lia | omega), _, _, _, _, z, g % z, .int ((g / z : Nat) : Int), .int ((g % z : Nat) : Int), ?_, up.trans (.new nr), hI.next hz0, rfl⟩
    rw [← fdivN, ← fmodN]; rfl
  · have hz : (z : Int) = 0 := tru_f.mp t
    have hz0 : z = 0 := by (first | lia | omega)
    subst hz0
    have hg : g = Nat.gcd x y := by rw [← hI.gcd, Nat.gcd_zero_right]
    refine ⟨fun _ => ⟨by simp [sizeLine_eq], fun r nr => hQ a b _ r (up.trans (.new nr)) (by rw [hset_same, hg]; rfl) (by rw [hI.h1, hg]) ?_⟩, fun t => absurd (cge_f.mp t) (by (first | lia | omega))⟩
    refine Gen fun G back => ?_
    rcases hI.sg with ⟨B, V, hs, hB, hV⟩
    refine back ?_
    clear back
    clear G
    have hlt := hI.lt
    have : V ≤ V * g := Nat.le_mul_of_pos_right V hlt
    rcases hs with ⟨rfl, rfl⟩ | ⟨rfl, rfl⟩ <;> (first | lia | omega)
theorem inv_exec {w mean mg mb} {d : Nat} {hp : HP} {p : Nat} {n : Int} (hp0 : 0 < p) (hp6 : p < 2 ^ 60) (hc : Nat.gcd p (n % p).toNat = 1) {Q : V → HP → Prop} {X : XT} (hQ : ∀ (z : Int) h', Upto [] hp h' → (p : Int) ∣ n * z - 1 → z.natAbs ≤ p → Q (.int z) h') :
    exec (gg w mean mg mb) (d + 1) m_inverse [.int n, .int p, .unb, .unb] hp (retQ Q) X := by
  refine ⟨(ne0 hp0), ?_⟩
  have e : intOp n p .mod = ((n % (p : Int)).toNat : Int) := by
    show n.fmod p = _
    rw [Int.fmod_eq_emod_of_nonneg _ (Int.natCast_nonneg _), Int.toNat_of_nonneg (Int.emod_nonneg _ (ne0 hp0))]
  show exec (gg w mean mg mb) (d + 1) _ [.int (intOp n p .mod), .int p, .unb, .unb] hp _ X
  rw [e]
  have hr : (((n % (p : Int)).toNat : Nat) : Int) = n % (p : Int) := Int.toNat_of_nonneg (Int.emod_nonneg _ (ne0 hp0))
  have hlt := Int.emod_lt_of_pos n (pos0 hp0)
  have hd := Int.emod_add_mul_ediv n p
  generalize (n % (p : Int)).toNat = r at *
  refine call_extgcd (ext_exec hp6 (by (first | lia | omega)) fun A B h1 q u1 hq hAB hBp => ?_)
  rw [hc] at hq hAB
  have key : ∀ z : Int, (p : Int) ∣ z - B → (p : Int) ∣ n * z - 1 := by
    rintro z ⟨c, hcz⟩
    have e2 : z = B + p * c := by (first | lia | omega)
    refine ⟨n / p * B + n * c - A, ?_⟩
    rw [e2, Int.mul_add, Int.mul_sub, Int.mul_add]
    have e3 : n * B = r * B + p * (n / p * B) := by
      conv => lhs; rw [← hd, ← hr]
      rw [Int.add_mul, Int.mul_assoc]
    have e4 : (r : Int) * B = 1 - p * A := by rw [Int.mul_comm, Int.mul_comm (p : Int)]; (first | lia | omega)
    have e5 : n * ((p : Int) * c) = p * (n * c) := by ac_rfl
    (first | lia | omega)
  refine idxE (k := 2) rfl rfl (vs := [.int A, .int B, .int 1]) (by rw [hq]; rfl) (by simp) (by simp) rfl ⟨fun _ => ?_, fun t => nomatch t⟩
  refine idxE (k := 1) rfl rfl (vs := [.int A, .int B, .int 1]) (by rw [hq]; rfl) (by simp) (by simp) rfl ⟨fun t => ?_, fun t => ?_⟩
  · have hb : B < 0 := clt_t.mp t
    exact idxE (k := 1) rfl rfl (vs := [.int A, .int B, .int 1]) (by rw [hq]; rfl) (by simp) (by simp) rfl ⟨trivial, hQ (p + B) _ u1 (key _ ⟨1, by (first | lia | omega)⟩) (by (first | lia | omega))⟩
  · have hb : 0 ≤ B := clt_f.mp t
    exact idxE (k := 1) rfl rfl (vs := [.int A, .int B, .int 1]) (by rw [hq]; rfl) (by simp) (by simp) rfl (hQ B _ u1 (key _ ⟨0, by (first | lia | omega)⟩) hBp)
theorem vp_exec {w mean mg mb} {d : Nat} {hp : HP} {N s : Nat} (hs : s < 60) (h1 : ∀ j, j < s → N % 2 ^ (j + 1) = 0) (h2 : N % 2 ^ (s + 1) ≠ 0) {Q : V → HP → Prop} {X : XT}
    (hQ : ∀ h' r, Upto [] hp h' → h' r = some (.tup [.int s, .int (N / 2 ^ s : Nat)]) → Q (.ref r) h') :
    exec (gg w mean mg mb) d m_vp [.int N, .int 2, .int 0, .unb] hp (retQ Q) X := by
  have em : ∀ j : Nat, intOp (N : Int) ((2 ^ (j + 1) : Nat) : Int) .mod = ((N % 2 ^ (j + 1) : Nat) : Int) := by
    intro j
    show (N : Int).fmod _ = _
    rw [Int.fmod_eq_emod_of_nonneg _ (Int.natCast_nonneg _)]; push_cast; rfl
  have hpos : ∀ j : Nat, 0 < 2 ^ j := fun j => Nat.pow_pos (by decide)
  refine ⟨fun k l h => ∃ j : Nat, l = [.int N, .int 2, .int j, .int (2 ^ (j + 1) : Nat)] ∧ h = hp ∧ j ≤ s ∧ k = s - j, ⟨s, 0, rfl, rfl, by (first | lia | omega), rfl⟩, ?_⟩
  intro k l h qz88
  refine Gen fun G back => ?_
  rcases qz88 with ⟨j, hz89, hz90, hj, hz91⟩
  refine back ?_
  clear back
  clear G
  subst hz89
  subst hz90
  subst hz91
  refine ⟨(show ((2 ^ (j + 1) : Nat) : Int) ≠ 0 by have := hpos (j + 1); (first | lia | omega)), ?_⟩
  show truV (.int (intOp (N : Int) ((2 ^ (j + 1) : Nat) : Int) .mod)) h _
  rw [em]
  refine ⟨fun t => ?_, fun t => ?_⟩
  · have hz : ((N % 2 ^ (j + 1) : Nat) : Int) = 0 := tru_f.mp (not_t.mp t)
    have hjs : j < s := by
      rcases Nat.lt_or_ge j s with q | q
      · exact q
      · have e0 : j = s := by (first | lia | omega)
        rw [e0] at hz
        (first | lia | omega)
    refine ⟨trivial, mul_small_right (by decide), s - (j + 1), by (first | lia | omega), j + 1, ?_, rfl, hjs, rfl⟩
    show [V.int N, V.int 2, V.int ((j : Int) + 1), V.int (((2 ^ (j + 1) : Nat) : Int) * 2)] = _
    rw [Nat.pow_succ 2 (j + 1)]; push_cast; rfl
  · have hz : ((N % 2 ^ (j + 1) : Nat) : Int) ≠ 0 := tru_t.mp (not_f.mp t)
    have hjs : j = s := by
      rcases Nat.lt_or_ge j s with q | q
      · exact absurd (by have := h1 j q; (first | lia | omega)) hz
      · (first | lia | omega)
    subst hjs
    have e1 : ((2 ^ (j + 1) : Nat) : Int).fdiv 2 = ((2 ^ j : Nat) : Int) := by
      rw [Int.fdiv_eq_ediv_of_nonneg _ (by decide), Nat.pow_succ, show ((2 ^ j * 2 : Nat) : Int) / 2 = (((2 ^ j * 2) / 2 : Nat) : Int) by push_cast; rfl, Nat.mul_div_cancel _ (by decide)]
    refine ⟨(show (2 : Int) ≠ 0 by decide), ?_⟩
    show binV .fdiv (.int N) (.int (((2 ^ (j + 1) : Nat) : Int).fdiv 2)) h _
    rw [e1]
    refine ⟨(show ((2 ^ j : Nat) : Int) ≠ 0 by have := hpos j; (first | lia | omega)), by simp [sizeLine_eq], fun r nr => hQ _ r (.new nr) ?_⟩
    rw [hset_same]
    have e3 : intOp (N : Int) ((2 ^ j : Nat) : Int) .fdiv = ((N / 2 ^ j : Nat) : Int) := by
      show (N : Int).fdiv _ = _
      rw [Int.fdiv_eq_ediv_of_nonneg _ (Int.natCast_nonneg _)]; push_cast; rfl
    rw [e3]; rfl
theorem shrN (a k : Nat) : intOp (a : Int) (k : Int) .shr = ((a / 2 ^ k : Nat) : Int) := by
  show (a : Int).fdiv (2 ^ (k : Int).toNat) = _
  rw [Int.toNat_natCast, Int.fdiv_eq_ediv_of_nonneg _ (Int.le_of_lt (Int.pow_pos (by decide)))]; push_cast; rfl
theorem powmodN {a p : Nat} (hp : 0 < p) (k : Nat) : ((a : Int) ^ k).fmod p = ((a ^ k % p : Nat) : Int) := by
  rw [Int.fmod_eq_emod_of_nonneg _ (Int.natCast_nonneg _)]; push_cast; rfl
theorem rootA_exec {w mean mg mb} {d : Nat} {hp : HP} {p r : Nat} {n : Int} (hp0 : 3 ≤ p ∧ p ≤ 1000000 ∧ p % 2 = 1) (hr : (n % p).toNat = r) (h8 : p % 8 ≠ 1) (h80 : p % 8 = 3 ∨ p % 8 = 5 ∨ p % 8 = 7) {Q : Out → List V → HP → Prop} {X : XT}
    (hQ : ∀ x0 x9, Q .next [x0, .int p, .int 1, .int (rootA p r : Nat), .unb, .unb, .unb, .int 1, .int (p % 8 : Nat), x9, .unb, .unb, .unb, .unb, .unb, .unb] hp) :
    exec (gg w mean mg mb) d (.seq (.aug 0 .mod (.var 1)) (.seq (.ite (.or (.cmp .eq (.var 8) (.int 3)) (.cmp .eq (.var 8) (.int 7))) (.seq (.asg 3 (.pow3 (.var 0) (.bin .add (.bin .shr (.var 1) (.int 2)) (.int 1)) (.var 1))) .skip) (.seq (.asg 3 (.pow3 (.var 0) (.bin .add (.bin .shr (.var 1) (.int 3)) (.int 1)) (.var 1))) (.seq (.asg 9 (.pow3 (.var 3) (.int 2) (.var 1))) (.seq (.ite (.cmp .ne (.var 9) (.var 0)) (.seq (.asg 3 (.bin .mod (.bin .mul (.var 3) (.pow3 (.int 2) (.bin .shr (.var 1) (.int 2)) (.var 1))) (.var 1))) .skip) .skip) .skip)))) .skip))
      [.int n, .int p, .int 1, .unb, .unb, .unb, .unb, .int 1, .int (p % 8 : Nat), .unb, .unb, .unb, .unb, .unb, .unb, .unb] hp Q X := by
  have hpp : 0 < p := Nat.lt_of_lt_of_le (by decide) hp0.1
  have e0 : intOp n p .mod = (r : Int) := by
    show n.fmod p = _
    rw [← hr, Int.fmod_eq_emod_of_nonneg _ (Int.natCast_nonneg _), Int.toNat_of_nonneg (Int.emod_nonneg _ (ne0 hpp))]
  have q2 : intOp (p : Int) 2 .shr = ((p / 4 : Nat) : Int) := shrN p 2
  have q3 : intOp (p : Int) 3 .shr = ((p / 8 : Nat) : Int) := shrN p 3
  refine ⟨(ne0 hpp), ?_⟩
  show exec (gg w mean mg mb) d _ [.int (intOp n p .mod), .int p, .int 1, .unb, .unb, .unb, .unb, .int 1, .int (p % 8 : Nat), .unb, .unb, .unb, .unb, .unb, .unb, .unb] hp Q X
  rw [e0]
  have fin37 : p % 8 = 3 ∨ p % 8 = 7 → exec (gg w mean mg mb) d (.seq (.asg 3 (.pow3 (.var 0) (.bin .add (.bin .shr (.var 1) (.int 2)) (.int 1)) (.var 1))) .skip) [.int r, .int p, .int 1, .unb, .unb, .unb, .unb, .int 1, .int (p % 8 : Nat), .unb, .unb, .unb, .unb, .unb, .unb, .unb] hp Q X := by
    intro h37
    refine ⟨(show (0 : Int) ≤ 2 by decide), trivial, ?_, (pos0 hpp), ?_⟩
    · show 0 ≤ intOp (p : Int) 2 .shr + 1
      rw [q2]; exact Int.natCast_nonneg (p / 4 + 1)
    · show Q .next [.int r, .int p, .int 1, .int (((r : Int) ^ (intOp (p : Int) 2 .shr + 1).toNat).fmod p), .unb, .unb, .unb, .int 1, .int (p % 8 : Nat), .unb, .unb, .unb, .unb, .unb, .unb, .unb] hp
      rw [q2, show (((p / 4 : Nat) : Int) + 1).toNat = p / 4 + 1 from rfl, powmodN hpp, show r ^ (p / 4 + 1) % p = rootA p r by unfold rootA; rw [if_pos h37]]
      exact hQ _ _
  refine ⟨fun t1 => ⟨fun _ => ?_, (fun q => nomatch q)⟩, fun t1 => ⟨fun t2 => ?_, fun t2 => ?_⟩⟩
  · have t1 : ((p % 8 : Nat) : Int) = 3 := ceq_t.mp t1
    exact fin37 (.inl (Int.ofNat.inj t1))
  · have t2 : ((p % 8 : Nat) : Int) = 7 := ceq_t.mp t2
    exact fin37 (.inr (Int.ofNat.inj t2))
  · have t1 : ((p % 8 : Nat) : Int) ≠ 3 := ceq_f.mp t1
    have t2 : ((p % 8 : Nat) : Int) ≠ 7 := ceq_f.mp t2
    have hn37 : ¬ (p % 8 = 3 ∨ p % 8 = 7) := fun q => q.elim (fun q => t1 (congrArg Int.ofNat q)) (fun q => t2 (congrArg Int.ofNat q))
    have h5 : p % 8 = 5 := h80.elim (fun q => absurd (.inl q) hn37) fun q => q.elim id fun q => absurd (.inr q) hn37
    refine ⟨(show (0 : Int) ≤ 3 by decide), trivial, ?_, (pos0 hpp), ?_⟩
    · show 0 ≤ intOp (p : Int) 3 .shr + 1
      rw [q3]; exact Int.natCast_nonneg (p / 8 + 1)
    show exec (gg w mean mg mb) d _ [.int r, .int p, .int 1, .int (((r : Int) ^ (intOp (p : Int) 3 .shr + 1).toNat).fmod p), .unb, .unb, .unb, .int 1, .int (p % 8 : Nat), .unb, .unb, .unb, .unb, .unb, .unb, .unb] hp _ X
    rw [q3, show (((p / 8 : Nat) : Int) + 1).toNat = p / 8 + 1 from rfl, powmodN hpp]
    have hv : rootA p r = if (r ^ (p / 8 + 1) % p) ^ 2 % p = r then r ^ (p / 8 + 1) % p else (r ^ (p / 8 + 1) % p) * (2 ^ (p / 4) % p) % p := by
      unfold rootA; rw [if_neg hn37]
    have hx : r ^ (p / 8 + 1) % p < p := Nat.mod_lt _ hpp
    generalize r ^ (p / 8 + 1) % p = x at *
    refine ⟨(show (0 : Int) ≤ 2 by decide), (pos0 hpp), ?_⟩
    show exec (gg w mean mg mb) d _ [.int r, .int p, .int 1, .int x, .unb, .unb, .unb, .int 1, .int (p % 8 : Nat), .int (((x : Int) ^ 2).fmod p), .unb, .unb, .unb, .unb, .unb, .unb] hp _ X
    rw [powmodN hpp]
    refine ⟨fun t => ?_, fun t => ?_⟩
    · have t : ((x ^ 2 % p : Nat) : Int) ≠ r := cne_t.mp t
      rw [if_neg (fun q => t (congrArg Int.ofNat q))] at hv
      refine ⟨(show (0 : Int) ≤ 2 by decide), ?_, (pos0 hpp), mul_small_left (by (first | lia | omega)), (ne0 hpp), ?_⟩
      · show 0 ≤ intOp (p : Int) 2 .shr
        rw [q2]; exact Int.natCast_nonneg _
      show Q .next [.int r, .int p, .int 1, .int (((x : Int) * ((2 : Int) ^ (intOp (p : Int) 2 .shr).toNat).fmod p).fmod p), .unb, .unb, .unb, .int 1, .int (p % 8 : Nat), .int (x ^ 2 % p : Nat), .unb, .unb, .unb, .unb, .unb, .unb] hp
      rw [q2, Int.toNat_natCast, show ((2 : Int) ^ (p / 4)).fmod p = ((2 ^ (p / 4) % p : Nat) : Int) from powmodN (a := 2) hpp _, Int.fmod_eq_emod_of_nonneg _ (Int.natCast_nonneg _), ← Int.natCast_mul, ← Int.natCast_emod, ← hv]
      exact hQ _ _
    · have t : ((x ^ 2 % p : Nat) : Int) = r := cne_f.mp t
      rw [if_pos (Int.ofNat.inj t)] at hv
      rw [← hv]
      exact hQ _ _
theorem rootB_exec {w mean mg mb} {d : Nat} {hp : HP} {p r s t : Nat} {n : Int} (hp0 : 3 ≤ p ∧ p ≤ 1000000) (hodd : p % 2 = 1) (hr : (n % p).toNat = r) (hs : 1 ≤ s ∧ s < 40) (d0 : Nat) (hd2 : 2 ≤ d0) (hdp : d0 < p) (hd0 : jg d0 p = -1)
    (h1 : ∀ j, j < s → (p - 1) % 2 ^ (j + 1) = 0) (h2 : (p - 1) % 2 ^ (s + 1) ≠ 0) (h3 : (p - 1) / 2 ^ s = t) {Q : Out → List V → HP → Prop} {X : XT} {x8 : V}
    (hQ : ∀ (dd : Nat) x6 x9 x10 x11 x12 x13 x14 x15 h', 2 ≤ dd → dd < p → jg dd p = -1 → Upto [] hp h' → Q .next [.int n, .int p, .int 1, .int (rootB p r dd s t : Nat), .unb, .unb, x6, .int 1, x8, x9, x10, x11, x12, x13, x14, x15] h') :
    exec (gg w mean mg mb) (d + 1) (.seq (.asg 10 (.int 2)) (.seq (.whil (.cmp .ne (.call 28 (.cons (.var 10) (.cons (.var 1) .nil))) (.neg (.int 1))) (.seq (.aug 10 .add (.int 1)) .skip) .skip) (.seq (.unp [11, 12] (.call 58 (.cons (.bin .sub (.var 1) (.int 1)) (.cons (.int 2) .nil)))) (.seq (.asg 13 (.pow3 (.var 0) (.var 12) (.var 1))) (.seq (.asg 14 (.pow3 (.var 10) (.var 12) (.var 1))) (.seq (.asg 15 (.int 0)) (.seq (.forR 6 (.int 1) (.var 11) (.int 1) (.seq (.ite (.cmp .eq (.pow3 (.bin .mul (.var 13) (.pow3 (.var 14) (.var 15) (.var 1))) (.bin .shl (.int 1) (.bin .sub (.bin .sub (.var 11) (.int 1)) (.var 6))) (.var 1)) (.bin .sub (.var 1) (.int 1))) (.seq (.aug 15 .add (.bin .shl (.int 1) (.var 6))) .skip) .skip) .skip)) (.seq (.asg 3 (.bin .mod (.bin .mul (.pow3 (.var 0) (.bin .shr (.bin .add (.var 12) (.int 1)) (.int 1)) (.var 1)) (.pow3 (.var 14) (.bin .shr (.var 15) (.int 1)) (.var 1))) (.var 1))) .skip))))))))
      [.int n, .int p, .int 1, .unb, .unb, .unb, .unb, .int 1, x8, .unb, .unb, .unb, .unb, .unb, .unb, .unb] hp Q X := by
  have hpp : 0 < p := Nat.lt_of_lt_of_le (by decide) hp0.1
  refine ⟨fun k l h => ∃ dd : Nat, l = [.int n, .int p, .int 1, .unb, .unb, .unb, .unb, .int 1, x8, .unb, .int dd, .unb, .unb, .unb, .unb, .unb] ∧ h = hp ∧ 2 ≤ dd ∧ dd ≤ d0 ∧ k = d0 - dd, ⟨d0 - 2, 2, rfl, rfl, Nat.le_refl _, hd2, rfl⟩, ?_⟩
  intro k l h qz92
  refine Gen fun G back => ?_
  rcases qz92 with ⟨dd, hz93, hz94, hdd2, hddd, hz95⟩
  refine back ?_
  clear back
  clear G
  subst hz93
  subst hz94
  subst hz95
  have hjd : jg (((dd : Nat) : Int) % (p : Nat)).toNat p = jg dd p := by rw [← Int.natCast_emod, Int.toNat_natCast, jg_mod]
  refine call_legendre (leg_exec hodd ?_)
  rw [hjd]
  refine ⟨fun tt => ?_, fun tt => ?_⟩
  · have tt : jg dd p ≠ -1 := cne_t.mp tt
    have : dd ≠ d0 := fun q => tt (by rw [q]; exact hd0)
    exact ⟨trivial, d0 - (dd + 1), by (first | lia | omega), dd + 1, rfl, rfl, by (first | lia | omega), by (first | lia | omega), rfl⟩
  have hddj : jg dd p = -1 := cne_f.mp tt
  refine ⟨trivial, ?_⟩
  have e1 : intOp (p : Int) 1 .sub = ((p - 1 : Nat) : Int) := by show (p : Int) - 1 = _; (first | lia | omega)
  show Calls (gg w mean mg mb) (d + 1) 58 [.int (intOp (p : Int) 1 .sub), .int 2] [] h _ _
  rw [e1]
  refine call_vp2 (vp_exec (s := s) (by (first | lia | omega)) h1 h2 fun h4 q u4 hq => ?_)
  refine ⟨_, hq, rfl, ?_⟩
  rw [h3]
  refine ⟨(Int.natCast_nonneg _), (pos0 hpp), ?_⟩
  show exec (gg w mean mg mb) (d + 1) _ [.int n, .int p, .int 1, .unb, .unb, .unb, .unb, .int 1, x8, .unb, .int dd, .int s, .int t, .int ((n ^ (t : Int).toNat).fmod p), .unb, .unb] h4 _ X
  rw [Int.toNat_natCast, powmod hpp, hr]
  have hA : r ^ t % p < p := Nat.mod_lt _ hpp
  refine ⟨(Int.natCast_nonneg _), (pos0 hpp), ?_⟩
  show exec (gg w mean mg mb) (d + 1) _ [.int n, .int p, .int 1, .unb, .unb, .unb, .unb, .int 1, x8, .unb, .int dd, .int s, .int t, .int (r ^ t % p : Nat), .int (((dd : Int) ^ (t : Int).toNat).fmod p), .unb] h4 _ X
  rw [Int.toNat_natCast, powmodN hpp]
  have hD : dd ^ t % p < p := Nat.mod_lt _ hpp
  have hv : rootB p r dd s t = (r ^ ((t + 1) / 2) % p) * ((dd ^ t % p) ^ (tonF (r ^ t % p) (dd ^ t % p) p s (s - 1) / 2) % p) % p := rfl
  generalize r ^ t % p = A at *
  generalize dd ^ t % p = D at *
  refine ⟨(show (1 : Int) ≠ 0 by decide), small_one (by decide) (by decide) (by (first | lia | omega)) (by (first | lia | omega)), ?_⟩
  refine forUp (l := [.int n, .int p, .int 1, .unb, .unb, .unb, .unb, .int 1, x8, .unb, .int dd, .int s, .int t, .int A, .int D, .int 0]) (s - 1) (by (first | lia | omega)) (fun k l h => ∃ x6, l = [.int n, .int p, .int 1, .unb, .unb, .unb, x6, .int 1, x8, .unb, .int dd, .int s, .int t, .int A, .int D, .int (tonF A D p s k : Nat)] ∧ h = h4) ⟨_, rfl, rfl⟩ ?_ ?_
  · rintro k l h hk ⟨x6, rfl, rfl⟩
    have ek : (s : Int) - 1 - (1 + k) = ((s - 1 - (k + 1) : Nat) : Int) := by (first | lia | omega)
    have hm : (2 : Nat) ^ (k + 1) = 2 ^ (1 + k) := by rw [Nat.add_comm]
    simp only [tonF]
    generalize tonF A D p s k = m at *
    refine xg fun Q1 hq1 => ?_
    have hDm : D ^ m % p < p := Nat.mod_lt _ hpp
    refine ⟨(Int.natCast_nonneg _), (pos0 hpp), ?_⟩
    show binV .mul (.int A) (.int (((D : Int) ^ (m : Int).toNat).fmod p)) h _
    rw [Int.toNat_natCast, powmodN hpp]
    refine ⟨mul_small_left (smallM hA hp0.2), trivial, trivial, ⟨?_, ?_⟩, ?_⟩
    · show 0 ≤ (s : Int) - 1 - (1 + k)
      (first | lia | omega)
    · show (Builtin.Int.intBits 1 : Int) + ((s : Int) - 1 - (1 + k)) ≤ 2 ^ 27
      exact bits1 (by (first | lia | omega))
    have e5 : intOp 1 ((s : Int) - 1 - (1 + k)) .shl = ((2 ^ (s - 1 - (k + 1)) : Nat) : Int) := by
      rw [ek]
      show (1 : Int) * 2 ^ ((s - 1 - (k + 1) : Nat) : Int).toNat = _
      rw [Int.toNat_natCast, Int.one_mul]; push_cast; rfl
    refine ⟨?_, (pos0 hpp), trivial, ?_⟩
    · show 0 ≤ intOp 1 ((s : Int) - 1 - (1 + k)) .shl
      rw [e5]; exact Int.natCast_nonneg _
    show cmpV .eq (.int (((A : Int) * ((D ^ m % p : Nat) : Int)) ^ (intOp 1 ((s : Int) - 1 - (1 + k)) .shl).toNat |>.fmod p)) (.int ((p : Int) - 1)) h _
    rw [e5, Int.toNat_natCast, ← Int.natCast_mul, powmodN hpp]
    refine ⟨fun tt => ?_, fun tt => ?_⟩
    · have tt := ceq_t.mp tt
      refine ⟨⟨(show 0 ≤ (1 : Int) + k by (first | lia | omega)), ?_⟩, trivial, ?_⟩
      · show (Builtin.Int.intBits 1 : Int) + (1 + k) ≤ 2 ^ 27
        exact bits1 (by (first | lia | omega))
      · refine hq1 .next _ _ ?_
        rw [if_pos ((sub1 hpp).mp tt)]
        refine ⟨.int (1 + k), ?_, rfl⟩
        show [V.int n, .int p, .int 1, .unb, .unb, .unb, .int (1 + k), .int 1, x8, .unb, .int dd, .int s, .int t, .int A, .int D, .int ((m : Int) + 1 * 2 ^ ((1 : Int) + k).toNat)] = _
        rw [show ((1 : Int) + k).toNat = k + 1 by (first | lia | omega), Int.one_mul]; push_cast; rfl
    · have tt := ceq_f.mp tt
      refine hq1 .next _ _ ?_
      rw [if_neg (fun q => tt ((sub1 hpp).mpr q))]
      exact ⟨.int (1 + k), rfl, rfl⟩
  · rintro l h ⟨x6, rfl, rfl⟩
    generalize tonF A D p s (s - 1) = m at *
    have e2 : intOp (intOp (t : Int) 1 .add) 1 .shr = (((t + 1) / 2 : Nat) : Int) := by
      rw [show intOp (t : Int) 1 .add = ((t + 1 : Nat) : Int) by show (t : Int) + 1 = _; push_cast; rfl]
      exact shrN (t + 1) 1
    have e3 : intOp (m : Int) 1 .shr = ((m / 2 : Nat) : Int) := shrN m 1
    refine ⟨trivial, (show (0 : Int) ≤ 1 by decide), ?_, (pos0 hpp), ?_⟩
    · show 0 ≤ intOp (intOp (t : Int) 1 .add) 1 .shr
      rw [e2]; exact Int.natCast_nonneg _
    refine ⟨(show (0 : Int) ≤ 1 by decide), ?_, (pos0 hpp), ?_⟩
    · show 0 ≤ intOp (m : Int) 1 .shr
      rw [e3]; exact Int.natCast_nonneg _
    show binV .mul (.int ((n ^ (intOp (intOp (t : Int) 1 .add) 1 .shr).toNat).fmod p)) (.int (((D : Int) ^ (intOp (m : Int) 1 .shr).toNat).fmod p)) h _
    rw [e2, e3, Int.toNat_natCast, Int.toNat_natCast, powmod hpp, hr, powmodN hpp]
    have hb : r ^ ((t + 1) / 2) % p < p := Nat.mod_lt _ hpp
    refine ⟨mul_small_left (smallM hb hp0.2), (ne0 hpp), ?_⟩
    show Q .next [.int n, .int p, .int 1, .int ((((r ^ ((t + 1) / 2) % p : Nat) : Int) * ((D ^ (m / 2) % p : Nat) : Int)).fmod p), .unb, .unb, x6, .int 1, x8, .unb, .int dd, .int s, .int t, .int A, .int D, .int m] h
    rw [Int.fmod_eq_emod_of_nonneg _ (Int.natCast_nonneg _), ← Int.natCast_mul, ← Int.natCast_emod, ← hv]
    exact hQ dd _ _ _ _ _ _ _ _ _ hdd2 (by (first | lia | omega)) hddj u4
noncomputable def Root1 (p r x : Nat) : Prop := (r = 0 ∧ x = 0) ∨ (r ≠ 0 ∧ 0 < x ∧ x < p ∧ x * x % p = r)
theorem mod1_exec {w mean mg mb} {d : Nat} {hp : HP} {p r : Nat} {n : Int} (hp1 : PrO p) (hr : (n % p).toNat = r) {Q : V → HP → Prop} {X : XT}
    (hQ : ∀ h' (x : Nat), Upto [] hp h' → Root1 p r x → Q (.int x) h')
    (hX : r ≠ 0 → jac r p = -1 → X (.own "ValueError") hp) :
    exec (gg w mean mg mb) (d + 1) m_modsqrt [.int n, .int p, .int 1, .unb, .unb, .unb, .unb, .unb, .unb, .unb, .unb, .unb, .unb, .unb, .unb, .unb] hp (retQ Q) X := by
  have hp0 := hp1.pos
  have hpp : 0 < p := Nat.lt_of_lt_of_le (by decide) hp0.1
  have hrp : r < p := rlt hpp hr
  refine ⟨(fun t => nomatch t), fun _ => ?_⟩
  refine call_legendre (leg_exec hp0.2.2 ?_)
  rw [hr]
  by_cases h0 : r = 0
  · rw [h0, (jg_prime hp1.pr).1 (Nat.dvd_zero p)]
    exact ⟨(fun t => nomatch t), fun _ => ⟨fun _ => hQ _ 0 .refl (.inl ⟨h0, rfl⟩), (fun t => nomatch t)⟩⟩
  have hnd : ¬ p ∣ r := fun q => by have := Nat.le_of_dvd (by (first | lia | omega)) q; (first | lia | omega)
  obtain ⟨ej, hj⟩ := (jg_prime hp1.pr).2 hnd
  rw [ej]
  rcases hj with hj | hj
  · rw [hj]
    refine ⟨fun _ => ⟨trivial, ?_⟩, (fun t => nomatch t)⟩
    show exec (gg w mean mg mb) (d + 1) _ [.int n, .int p, .int 1, .unb, .unb, .unb, .unb, .int 1, .int (Builtin.bitAnd (p : Int) 7), .unb, .unb, .unb, .unb, .unb, .unb, .unb] hp _ X
    rw [show Builtin.bitAnd (p : Int) 7 = ((p % 8 : Nat) : Int) by rw [bitAnd_m3]; rfl]
    refine ⟨fun t => ?_, fun t => ?_⟩
    · have t : ((p % 8 : Nat) : Int) ≠ 1 := cne_t.mp t
      have h81 : p % 8 ≠ 1 := fun q => t (congrArg Int.ofNat q)
      exact rootA_exec hp0 hr h81 (odd8 hp0.2.2 h81) fun _ _ => hQ _ _ .refl (.inr ⟨h0, rootA_ok hp1.pr hp1.odd h81 hrp h0 hj⟩)
    · have t : ((p % 8 : Nat) : Int) = 1 := cne_f.mp t
      have ht : p % 8 = 1 := Int.ofNat.inj t
      refine Gen fun G back => ?_
      rcases split2 (p - 1) (by (first | lia | omega)) with ⟨s, q, hsq, hq⟩
      refine back ?_
      clear back
      clear G
      obtain ⟨v1, v2, v3⟩ := split2_vp hsq hq
      refine Gen fun G back => ?_
      rcases nonres2 hp1.pr hp1.odd with ⟨d0, hd2, hdp, hdj⟩
      refine back ?_
      clear back
      clear G
      have hs1 : 1 ≤ s := by
        rcases Nat.eq_zero_or_pos s with z | z
        · subst z; rw [Nat.pow_zero, Nat.one_mul] at hsq; (first | lia | omega)
        · exact z
      have hs40 : s < 40 := by
        have h5 : 2 ^ s ≤ p - 1 := by rw [hsq]; exact Nat.le_mul_of_pos_right _ (by (first | lia | omega))
        have := Nat.lt_two_pow_self (n := s)
        rcases Nat.lt_or_ge s 40 with z | z
        · exact z
        · have h6 : (2 : Nat) ^ 40 ≤ 2 ^ s := Nat.pow_le_pow_right (by decide) z
          have h7 : (1000000 : Nat) < 2 ^ 40 := by decide
          have := hp1.le
          (first | lia | omega)
      refine rootB_exec ⟨hp0.1, hp0.2.1⟩ hp1.odd hr ⟨hs1, hs40⟩ d0 hd2 hdp hdj v1 v2 v3 fun dd _ _ _ _ _ _ _ _ h' hd2 hdp hdj u => hQ h' _ u (.inr ⟨h0, ?_⟩)
      have hdn : ¬ p ∣ dd := fun q => by have := Nat.le_of_dvd (by (first | lia | omega)) q; (first | lia | omega)
      exact rootB_ok hp1.pr hp1.odd hp0.1 hs1 hq hsq hrp h0 hj hdn (by rw [← ((jg_prime hp1.pr).2 hdn).1]; exact hdj)
  · rw [hj]
    exact ⟨(fun t => nomatch t), fun _ => ⟨(fun t => nomatch t), fun _ => hX h0 hj⟩⟩
structure RootE (p e : Nat) (n : Int) (x : Nat) : Prop where
  pos : 0 < x
  lt : x < p ^ e
  dvd : ((p ^ e : Nat) : Int) ∣ n - (x : Int) * x
theorem root1_dvd {p r x : Nat} {n : Int} (hpp : 0 < p) (hr : (n % p).toNat = r) (h : x * x % p = r) : (p : Int) ∣ n - (x : Int) * x := by
  have h1 : n % (p : Int) = r := by have := Int.emod_nonneg n (b := (p : Int)) (by (first | lia | omega)); (first | lia | omega)
  have h2 : ((x : Int) * x) % (p : Int) = r := by rw [← h]; push_cast; rfl
  exact Int.dvd_of_emod_eq_zero (Int.emod_eq_emod_iff_emod_sub_eq_zero.mp (h1.trans h2.symm))
theorem mod_exec {w mean mg mb} {d : Nat} {hp : HP} {p e : Nat} {n : Int} (hp1 : PrO p) (he : 1 ≤ e) (hs : p ^ e < 2 ^ 60) {Q : V → HP → Prop} {X : XT}
    (h0 : (p : Int) ∣ n → e = 1 → ∀ h', Upto [] hp h' → Q (.int 0) h') (hQ : ∀ h' (x : Nat), ¬ (p : Int) ∣ n → Upto [] hp h' → RootE p e n x → Q (.int x) h')
    (hX : ∀ c h', (¬ (p : Int) ∣ n ∧ jac (n % p).toNat p = -1 ∨ e ≠ 1 ∧ (p : Int) ∣ n) → c.cls = "ValueError" → Upto [] hp h' → X c h') :
    exec (gg w mean mg mb) (d + 3) m_modsqrt [.int n, .int p, .int e, .unb, .unb, .unb, .unb, .unb, .unb, .unb, .unb, .unb, .unb, .unb, .unb, .unb] hp (retQ Q) X := by
  have hp0 := hp1.pos
  have hpp : 0 < p := Nat.lt_of_lt_of_le (by decide) hp0.1
  have hmod : n % (p : Int) = ((n % (p : Int)).toNat : Int) := by have := Int.emod_nonneg n (b := (p : Int)) (by (first | lia | omega)); (first | lia | omega)
  have hdvd : (p : Int) ∣ n ↔ (n % (p : Int)).toNat = 0 := by
    constructor
    · intro h; have := Int.emod_eq_zero_of_dvd h; (first | lia | omega)
    · intro h; exact Int.dvd_of_emod_eq_zero (by (first | lia | omega))
  by_cases he1 : e = 1
  · subst he1
    refine mod1_exec hp1 rfl (fun h' x u hx => ?_) fun hr hy => ?_
    · rcases hx with ⟨hr, rfl⟩ | ⟨hr, hx0, hxp, hxx⟩
      · exact h0 (hdvd.mpr hr) rfl _ u
      · exact hQ _ _ (fun q => hr (hdvd.mp q)) u ⟨hx0, by rw [Nat.pow_one]; exact hxp, by rw [Nat.pow_one]; exact root1_dvd hpp rfl hxx⟩
    · exact hX _ _ (.inl ⟨fun q => hr (hdvd.mp q), hy⟩) rfl .refl
  have he2 : 2 ≤ e := by (first | lia | omega)
  refine ⟨fun _ => ?_, fun t => absurd (clt_f.mp t) (by (first | lia | omega))⟩
  refine call_modsqrt2 (mod1_exec hp1 rfl (fun h1 x u1 hx => ?_) fun hr hy => ?_)
  rotate_left
  · exact hX _ _ (.inl ⟨fun q => hr (hdvd.mp q), hy⟩) rfl .refl
  rcases hx with ⟨hr, rfl⟩ | ⟨hr, hx0, hxp, hxx⟩
  · exact ⟨fun _ => hX _ _ (.inr ⟨he1, hdvd.mpr hr⟩) rfl u1, (fun t => nomatch t)⟩
  have hnd : ¬ (p : Int) ∣ n := fun q => hr (hdvd.mp q)
  refine ⟨fun t => absurd (ceq_t.mp t) (by (first | lia | omega)), fun _ => ?_⟩
  have e2 : intOp (x : Int) 1 .shl = ((x * 2 : Nat) : Int) := by show (x : Int) * 2 ^ (1 : Int).toNat = _; push_cast; rfl
  refine ⟨⟨(show (0 : Int) ≤ 1 by decide), ?_⟩, ?_⟩
  · have hb : Bd 20 (x : Int) := by unfold Bd; have := hp1.le; (first | lia | omega)
    have := hb.bits
    show (Builtin.Int.intBits (x : Int) : Int) + 1 ≤ 2 ^ 27
    (first | lia | omega)
  show Calls (gg w mean mg mb) (d + 3) 43 [.int (intOp (x : Int) 1 .shl), .int p] [] h1 _ _
  rw [e2]
  have hpl := hp1.le
  have hcop : Nat.gcd p ((((x * 2 : Nat) : Int) % (p : Nat)).toNat) = 1 := by
    rw [← Int.natCast_emod, Int.toNat_natCast, Nat.gcd_comm, ← Nat.gcd_rec]
    have h9 := hp1.pr.cop (a := x * 2) (fun q => by
      have h8 : (p : Int) ∣ (x : Int) * 2 := by rw [show (x : Int) * 2 = ((x * 2 : Nat) : Int) by push_cast; rfl]; exact Int.natCast_dvd_natCast.mpr q
      rcases hp1.pr.split h8 with z | z
      · have := Nat.le_of_dvd hx0 (Int.natCast_dvd_natCast.mp z); (first | lia | omega)
      · have := Int.le_of_dvd (by decide) z; (first | lia | omega))
    rw [Nat.gcd_comm]; exact h9
  refine call_inverse (inv_exec hpp (by (first | lia | omega)) hcop fun z h2 u2 hzd hzb => ?_)
  have hzd : (p : Int) ∣ 2 * x * z - 1 := by
    have e9 : ((x * 2 : Nat) : Int) * z = 2 * x * z := by push_cast; rw [Int.mul_comm (x : Int)]
    rwa [e9] at hzd
  have u := u1.trans u2
  refine ⟨trivial, (show (1 : Int) ≠ 0 by decide), small_one (by decide) (by decide) ?_ ?_, ?_⟩
  · have := (Nat.lt_pow_self (n := e) (show 1 < p by (first | lia | omega))); show -2 ^ 62 ≤ (e : Int) - 1; (first | lia | omega)
  · have := (Nat.lt_pow_self (n := e) (show 1 < p by (first | lia | omega))); show (e : Int) - 1 < 2 ^ 62; (first | lia | omega)
  refine forUp (l := [.int n, .int p, .int e, .int x, .int p, .int z, .unb, .unb, .unb, .unb, .unb, .unb, .unb, .unb, .unb, .unb]) (e - 1) (by show e - 1 = ((e : Int) - 1 - 0).toNat; (first | lia | omega))
    (fun k l h => ∃ (y : Nat) (x6 : V), l = [.int n, .int p, .int e, .int y, .int (p ^ (k + 1) : Nat), .int z, x6, .unb, .unb, .unb, .unb, .unb, .unb, .unb, .unb, .unb] ∧ h = h2 ∧ y % p = x ∧ RootE p (k + 1) n y)
    ⟨x, .unb, by rw [Nat.pow_one], rfl, Nat.mod_eq_of_lt hxp, ⟨hx0, by rw [Nat.pow_one]; exact hxp, by rw [Nat.pow_one]; exact root1_dvd hpp rfl hxx⟩⟩ ?_ ?_
  · intro k l h hk qz96
    refine Gen fun G back => ?_
    rcases qz96 with ⟨y, x6, hz97, hz98, hyx, hy⟩
    refine back ?_
    clear back
    clear G
    subst hz97
    subst hz98
    have hq : p ^ (k + 1) * p < 2 ^ 60 := by
      rw [← Nat.pow_succ]
      exact Nat.lt_of_le_of_lt (Nat.pow_le_pow_right hpp (by (first | lia | omega))) hs
    have hq0 : 0 < p ^ (k + 1) := Nat.pow_pos hpp
    obtain ⟨y0, ylt, yd⟩ := hy
    have hqp : p ∣ p ^ (k + 1) := ⟨p ^ k, by rw [Nat.pow_succ, Nat.mul_comm]⟩
    have eq1 : p ^ (k + 1 + 1) = p ^ (k + 1) * p := Nat.pow_succ ..
    rw [eq1]
    have hq1 : p ^ (k + 1) < 2 ^ 60 := Nat.lt_of_le_of_lt (Nat.le_mul_of_pos_right _ hpp) hq
    generalize p ^ (k + 1) = q at *
    have hz2 : (p : Int) ∣ 2 * (y : Int) * z - 1 := by
      have e3 : (y : Int) = p * ((y / p : Nat) : Int) + x := by
        have := Nat.div_add_mod y p
        rw [hyx] at this
        rw [← Int.natCast_mul, ← Int.natCast_add, this]
      rw [e3, show 2 * ((p : Int) * ((y / p : Nat) : Int) + x) * z - 1 = p * (2 * ((y / p : Nat) : Int) * z) + (2 * x * z - 1) by
        rw [Int.mul_add, Int.add_mul, show 2 * ((p : Int) * ((y / p : Nat) : Int)) * z = p * (2 * ((y / p : Nat) : Int) * z) by ac_rfl]; (first | lia | omega)]
      exact Int.dvd_add ⟨_, rfl⟩ hzd
    have hl := lift (Int.natCast_dvd_natCast.mpr hqp) yd hz2
    have ey : intOp (y : Int) 2 .pow = (y : Int) * y := by
      show (y : Int) ^ 2 = _
      rw [show (2 : Nat) = 1 + 1 from rfl, Int.pow_succ, show (1 : Nat) = 0 + 1 from rfl, Int.pow_succ, Int.pow_zero, Int.one_mul]
    refine ⟨⟨(show (0 : Int) ≤ 2 by decide), ?_⟩, trivial, ?_⟩
    · have hb : Bd 60 (y : Int) := by unfold Bd; (first | lia | omega)
      have := hb.bits
      show (Builtin.Int.intBits (y : Int) : Int) * 2 ≤ 2 ^ 27
      (first | lia | omega)
    have t0 := Int.emod_nonneg ((n - (y : Int) * y) / q * z) (b := (p : Int)) (ne0 hpp)
    have t1 := Int.emod_lt_of_pos ((n - (y : Int) * y) / q * z) (b := (p : Int)) (pos0 hpp)
    obtain ⟨t, ht⟩ := Int.eq_ofNat_of_zero_le t0
    rw [ht] at hl t1
    have et : ((n - intOp (y : Int) 2 .pow).fdiv q * z).fmod p = (t : Int) := by
      rw [ey, Int.fdiv_eq_ediv_of_nonneg _ (Int.natCast_nonneg _), Int.fmod_eq_emod_of_nonneg _ (Int.natCast_nonneg _), ht]
    refine ⟨ne0 hq0, mul_small_right (show z.natAbs < 2 ^ 64 by (first | lia | omega)), (ne0 hpp), mul_small_right (show ((q : Nat) : Int).natAbs < 2 ^ 64 by (first | lia | omega)), trivial, mul_small_right (show ((p : Nat) : Int).natAbs < 2 ^ 64 by (first | lia | omega)), y + t * q, .int (0 + k), ?_, rfl, ?_, ?_, ?_, ?_⟩
    · show [V.int n, .int p, .int e, .int ((y : Int) + ((n - intOp (y : Int) 2 .pow).fdiv q * z).fmod p * q), .int ((q : Int) * p), .int z, .int (0 + k), .unb, .unb, .unb, .unb, .unb, .unb, .unb, .unb, .unb] = _
      rw [et]; push_cast; rfl
    · obtain ⟨v, rfl⟩ := hqp
      rw [show y + t * (p * v) = y + p * (t * v) by rw [Nat.mul_left_comm], Nat.add_mul_mod_self_left]; exact hyx
    · (first | lia | omega)
    · rw [eq1]
      have : (t + 1) * q ≤ p * q := Nat.mul_le_mul_right _ (by (first | lia | omega))
      rw [Nat.add_mul, Nat.mul_comm p q] at this
      (first | lia | omega)
    · rw [eq1]
      push_cast at hl ⊢
      exact hl
  · intro l h qz99
    refine Gen fun G back => ?_
    rcases qz99 with ⟨y, x6, hz100, hz101, hyx, hy⟩
    refine back ?_
    clear back
    clear G
    subst hz100
    subst hz101
    rw [show e - 1 + 1 = e by (first | lia | omega)] at hy
    exact hQ _ y hnd u hy
noncomputable def RowsAt (h : HP) (R : Addr) (n : Nat) (A Mo : Nat → Nat) : Prop := ∃ ts : List Addr, h R = some (.list (ts.map .ref)) ∧ ts.length = n ∧ ∀ (j : Nat) (t : Addr), ts[j]? = some t → h t = some (.tup [.int (A j), .int (Mo j)])
theorem RowsAt.up {h h' : HP} {R : Addr} {n : Nat} {A Mo : Nat → Nat} (r : RowsAt h R n A Mo) (u : Upto [] h h') : RowsAt h' R n A Mo := by
  refine Gen fun G back => ?_
  rcases r with ⟨ts, h1, h2, h3⟩
  refine back ?_
  clear back
  clear G
  exact ⟨ts, u.at h1, h2, fun j t e => u.at (h3 j t e)⟩
theorem RowsAt.idx {h : HP} {R : Addr} {n : Nat} {A Mo : Nat → Nat} (r : RowsAt h R n A Mo) (hn : n < 2 ^ 62) {v w : V} {i : Int} (hv : v = .ref R) (hw : w = .int i) {j : Nat} (hi : i = j) (hj : j < n) {K : V → Prop} (hQ : ∀ t, h t = some (.tup [.int (A j), .int (Mo j)]) → K (.ref t)) :
    idxV v w h K := by
  refine Gen fun G back => ?_
  rcases r with ⟨ts, h1, h2, h3⟩
  refine back ?_
  clear back
  clear G
  have hlt : j < ts.length := by (first | lia | omega)
  exact idxE (k := i) hv hw (vs := ts.map .ref) (by rw [h1]; rfl) (by simp; (first | lia | omega)) (by (first | lia | omega)) (x := .ref ts[j]) (by subst hi; simp [hlt]) (hQ _ (h3 j _ (List.getElem?_eq_getElem hlt)))
noncomputable def ppL (Mo : Nat → Nat) (k : Nat) : List V := (List.range k).map fun j => .int (pp Mo (j + 1) : Nat)
theorem ppL_succ (Mo : Nat → Nat) (k : Nat) : ppL Mo (k + 1) = ppL Mo k ++ [.int (pp Mo (k + 1) : Nat)] := by simp [ppL, List.range_succ]
theorem CRT_exec {w mean mg mb} {d : Nat} {hp : HP} {R : Addr} {n : Nat} {A Mo : Nat → Nat} (hn : 2 ≤ n ∧ n ≤ 1000) (RA : RowsAt hp R n A Mo) (hM : ∀ j, j < n → 0 < Mo j ∧ Mo j < 2 ^ 60) (hc : ∀ i j, i < j → j < n → Nat.Coprime (Mo i) (Mo j)) {Q : V → HP → Prop} {X : XT}
    (hQ : ∀ (x : Nat) h', Upto [] hp h' → x < pp Mo n → (∀ j, j < n → (Mo j : Int) ∣ (x : Int) - A j) → Q (.int x) h') :
    exec (gg w mean mg mb) (d + 2) m_CRT [.ref R, .unb, .unb, .unb, .unb, .unb, .unb, .unb, .unb, .unb] hp (retQ Q) X := by
  refine Gen fun G back => ?_
  rcases id RA with ⟨ts, hts, htl, htj⟩
  refine back ?_
  clear back
  clear G
  refine ⟨ts.map .ref, by rw [hts]; rfl, by simp; (first | lia | omega), ?_⟩
  rw [List.length_map, htl]
  refine ⟨fun t => absurd (ceq_t.mp t) (by (first | lia | omega)), fun _ => ?_⟩
  refine ⟨by simp [sizeLine_eq], fun a2 n2 => ⟨by simp [sizeLine_eq], fun a3 n3 => ?_⟩⟩
  have h32 : a3 ≠ a2 := (hset_none.mp n3).1
  have n3' : hp a3 = none := (hset_none.mp n3).2
  have u0 : Upto [] hp (hset (hset hp a2 (.list [])) a3 (.list [])) := (Upto.new n2).trans (Upto.new n3)
  refine ⟨(show (1 : Int) ≠ 0 by decide), small_one (by decide) (by decide) (by (first | lia | omega)) (by (first | lia | omega)), ?_⟩
  refine forUp (l := [.ref R, .int n, .ref a2, .ref a3, .int 1, .unb, .unb, .unb, .unb, .unb]) (n - 1) (by (first | lia | omega))
    (fun k l h => ∃ (x5 x6 : V) (zs : List Int), l = [.ref R, .int n, .ref a2, .ref a3, .int (pp Mo k : Nat), x5, x6, .unb, .unb, .unb] ∧ Upto [] hp h ∧ h a2 = some (.list (ppL Mo k)) ∧ h a3 = some (.list (zs.map .int)) ∧ zs.length = k ∧
      ∀ (j : Nat) (z : Int), zs[j]? = some z → (Mo (j + 1) : Int) ∣ (pp Mo (j + 1) : Int) * z - 1 ∧ z.natAbs ≤ Mo (j + 1))
    ⟨.unb, .unb, [], rfl, u0, by rw [hset_ne (Ne.symm h32), hset_same]; rfl, hset_same, rfl, fun j z h => by simp at h⟩ ?_ ?_
  · intro k l h hk qz102
    refine Gen fun G back => ?_
    rcases qz102 with ⟨x5, x6, zs, hz103, u, e2, e3, hzl, hz⟩
    refine back ?_
    clear back
    clear G
    subst hz103
    have RA1 := RA.up u
    refine xg fun Q1 hq1 => ?_
    refine ⟨trivial, ?_⟩
    refine RA1.idx (by (first | lia | omega)) rfl rfl (j := k) (show (1 : Int) + k - 1 = k by (first | lia | omega)) (by (first | lia | omega)) fun t ht => ?_
    refine idxE (k := 1) rfl rfl (by rw [ht]; rfl) (by simp) (by simp) rfl ?_
    refine ⟨mul_small_right (by have := (hM k (by (first | lia | omega))).2; (first | lia | omega)), ?_⟩
    show exec (gg w mean mg mb) (d + 2) _ [.ref R, .int n, .ref a2, .ref a3, .int ((pp Mo k : Nat) * (Mo k : Nat) : Int), .int (1 + k), x6, .unb, .unb, .unb] h _ noX
    rw [← Int.natCast_mul, show pp Mo k * Mo k = pp Mo (k + 1) from rfl]
    refine RA1.idx (by (first | lia | omega)) rfl rfl (j := k + 1) (show (1 : Int) + k = (k + 1 : Nat) by (first | lia | omega)) (by (first | lia | omega)) fun t ht => ?_
    refine idxE (k := 1) rfl rfl (by rw [ht]; rfl) (by simp) (by simp) rfl ?_
    have hM1 := hM (k + 1) (by (first | lia | omega))
    have hgc : Nat.gcd (Mo (k + 1)) (((pp Mo (k + 1) : Nat) : Int) % (Mo (k + 1) : Nat)).toNat = 1 := by
      rw [← Int.natCast_emod, Int.toNat_natCast, Nat.gcd_comm, ← Nat.gcd_rec, Nat.gcd_comm]
      exact pp_cop fun j hj => hc j (k + 1) (by (first | lia | omega)) (by (first | lia | omega))
    refine call_inverse (inv_exec hM1.1 hM1.2 hgc fun z h1 u1 hzd hzb => ?_)
    refine ⟨⟨_, u1.at e2⟩, _, u1.at e2, by simp [ppL, sizeLine_eq]; (first | lia | omega), ?_⟩
    refine ⟨⟨_, by rw [hset_ne h32]; exact u1.at e3⟩, _, by rw [hset_ne h32]; exact u1.at e3, by simp [sizeLine_eq]; (first | lia | omega), ?_⟩
    have n2' : hp a2 = none := n2
    refine hq1 .next _ _ ⟨.int (1 + k), .int z, zs ++ [z], rfl, ((u.trans u1).fresh n2').fresh n3', by rw [hset_ne (Ne.symm h32), hset_same, ppL_succ]; rfl, by rw [hset_same, List.map_append]; rfl, by simp [hzl], fun j y hj => ?_⟩
    rcases Nat.lt_or_ge j zs.length with q | q
    · rw [List.getElem?_append_left q] at hj; exact hz j y hj
    · rw [List.getElem?_append_right q] at hj
      have hj0 : j - zs.length = 0 := by
        rcases Nat.eq_zero_or_pos (j - zs.length) with z0 | z0
        · exact z0
        · rw [List.getElem?_eq_none (by simp; (first | lia | omega))] at hj; cases hj
      rw [hj0] at hj
      cases hj
      have : j = k := by (first | lia | omega)
      subst this
      exact ⟨hzd, hzb⟩
  · intro l h qz104
    refine Gen fun G back => ?_
    rcases qz104 with ⟨x5, x6, zs, hz105, u, e2, e3, hzl, hz⟩
    refine back ?_
    clear back
    clear G
    subst hz105
    have RA1 := RA.up u
    have hppl : ∀ j, j < n - 1 → (ppL Mo (n - 1))[j]? = some (.int (pp Mo (j + 1) : Nat)) := fun j hj => by simp [ppL, hj]
    refine ⟨trivial, ?_⟩
    refine idxE (k := (n : Int) - 2) rfl rfl (vs := ppL Mo (n - 1)) (by rw [e2]; rfl) (by simp [ppL]; (first | lia | omega)) (by (first | lia | omega)) (x := .int (pp Mo (n - 1) : Nat)) (by rw [show ((n : Int) - 2).toNat = n - 2 by (first | lia | omega), hppl _ (by (first | lia | omega)), show n - 2 + 1 = n - 1 by (first | lia | omega)]) ?_
    refine ⟨trivial, ?_⟩
    refine RA1.idx (by (first | lia | omega)) rfl rfl (j := n - 1) (show (n : Int) - 1 = (n - 1 : Nat) by (first | lia | omega)) (by (first | lia | omega)) fun t ht => ?_
    refine idxE (k := 1) rfl rfl (by rw [ht]; rfl) (by simp) (by simp) rfl ?_
    refine ⟨mul_small_right (by have := (hM (n - 1) (by (first | lia | omega))).2; (first | lia | omega)), ?_⟩
    show exec (gg w mean mg mb) (d + 2) _ [.ref R, .int n, .ref a2, .ref a3, .int (pp Mo (n - 1) : Nat), x5, x6, .int ((pp Mo (n - 1) : Nat) * (Mo (n - 1) : Nat) : Int), .unb, .unb] h _ X
    rw [← Int.natCast_mul, show pp Mo (n - 1) * Mo (n - 1) = pp Mo n by rw [show n = n - 1 + 1 by (first | lia | omega)]; rfl]
    refine RA1.idx (by (first | lia | omega)) rfl rfl (j := 0) rfl (by (first | lia | omega)) fun t ht => ?_
    refine idxE (k := 0) rfl rfl (by rw [ht]; rfl) (by simp) (by simp) rfl ?_
    refine ⟨(show (1 : Int) ≠ 0 by decide), small_one (by decide) (by decide) (by (first | lia | omega)) (by (first | lia | omega)), ?_⟩
    have hpos := pp_pos (n := n) fun j hj => (hM j hj).1
    refine forUp (l := [.ref R, .int n, .ref a2, .ref a3, .int (pp Mo (n - 1) : Nat), x5, x6, .int (pp Mo n : Nat), .int (A 0 : Nat), .unb]) (n - 1) (by (first | lia | omega))
      (fun k l h' => ∃ (x5 x9 : V) (y : Int), l = [.ref R, .int n, .ref a2, .ref a3, .int (pp Mo (n - 1) : Nat), x5, x6, .int (pp Mo n : Nat), .int y, x9] ∧ h' = h ∧ ∀ j, j ≤ k → (Mo j : Int) ∣ y - A j)
      ⟨x5, .unb, _, rfl, rfl, fun j hj => by rw [show j = 0 by (first | lia | omega), Int.sub_self]; exact Int.dvd_zero _⟩ ?_ ?_
    · intro k l h' hk qz106
      refine Gen fun G back => ?_
      rcases qz106 with ⟨x5, x9, y, hz107, hz108, hy⟩
      refine back ?_
      clear back
      clear G
      subst hz107
      subst hz108
      refine xg fun Q1 hq1 => ?_
      have hM1 := hM (k + 1) (by (first | lia | omega))
      obtain ⟨z, hzk⟩ : ∃ z, zs[k]? = some z := ⟨zs[k]'(by (first | lia | omega)), List.getElem?_eq_getElem (by (first | lia | omega))⟩
      obtain ⟨hzd, hzb⟩ := hz k z hzk
      refine RA1.idx (by (first | lia | omega)) rfl rfl (j := k + 1) (show (1 : Int) + k = (k + 1 : Nat) by (first | lia | omega)) (by (first | lia | omega)) fun t ht => ?_
      refine idxE (k := 0) rfl rfl (by rw [ht]; rfl) (by simp) (by simp) rfl ?_
      refine ⟨trivial, ?_⟩
      refine ⟨trivial, ?_⟩
      refine idxE (k := (1 : Int) + k - 1) rfl rfl (vs := zs.map .int) (by rw [e3]; rfl) (by simp; (first | lia | omega)) (by (first | lia | omega)) (x := .int z) (by rw [show ((1 : Int) + k - 1).toNat = k by (first | lia | omega)]; simp [hzk]) ?_
      refine ⟨mul_small_right (by (first | lia | omega)), ?_⟩
      refine RA1.idx (by (first | lia | omega)) rfl rfl (j := k + 1) (show (1 : Int) + k = (k + 1 : Nat) by (first | lia | omega)) (by (first | lia | omega)) fun t ht => ?_
      refine idxE (k := 1) rfl rfl (by rw [ht]; rfl) (by simp) (by simp) rfl ?_
      refine ⟨(show ((Mo (k + 1) : Nat) : Int) ≠ 0 by (first | lia | omega)), ?_⟩
      refine ⟨trivial, ?_⟩
      refine idxE (k := (1 : Int) + k - 1) rfl rfl (vs := ppL Mo (n - 1)) (by rw [e2]; rfl) (by simp [ppL]; (first | lia | omega)) (by (first | lia | omega)) (x := .int (pp Mo (k + 1) : Nat)) (by rw [show ((1 : Int) + k - 1).toNat = k by (first | lia | omega)]; exact hppl _ hk) ?_
      have eu : intOp (intOp (intOp ((A (k + 1) : Nat) : Int) y .sub) z .mul) ((Mo (k + 1) : Nat) : Int) .mod = (((A (k + 1) : Nat) : Int) - y) * z % (Mo (k + 1) : Nat) := by
        show (_ : Int).fmod _ = _
        rw [Int.fmod_eq_emod_of_nonneg _ (Int.natCast_nonneg _)]; rfl
      have u0 := Int.emod_nonneg ((((A (k + 1) : Nat) : Int) - y) * z) (b := ((Mo (k + 1) : Nat) : Int)) (by (first | lia | omega))
      have u1 := Int.emod_lt_of_pos ((((A (k + 1) : Nat) : Int) - y) * z) (b := ((Mo (k + 1) : Nat) : Int)) (by (first | lia | omega))
      have ud := Int.emod_add_mul_ediv ((((A (k + 1) : Nat) : Int) - y) * z) ((Mo (k + 1) : Nat) : Int)
      refine ⟨mul_small_left (by
        show (intOp (intOp (intOp ((A (k + 1) : Nat) : Int) y .sub) z .mul) ((Mo (k + 1) : Nat) : Int) .mod).natAbs < 2 ^ 64
        rw [eu]; (first | lia | omega)), trivial, hq1 .next _ _ ⟨.int (1 + k), .int ((((A (k + 1) : Nat) : Int) - y) * z % (Mo (k + 1) : Nat)), y + (((A (k + 1) : Nat) : Int) - y) * z % (Mo (k + 1) : Nat) * (pp Mo (k + 1) : Nat), ?_, rfl, fun j hj => ?_⟩⟩
      · rw [← eu]; rfl
      · generalize (((A (k + 1) : Nat) : Int) - y) * z % (Mo (k + 1) : Nat) = v at *
        rcases Nat.lt_or_ge j (k + 1) with q | q
        · have h7 : (Mo j : Int) ∣ v * (pp Mo (k + 1) : Nat) := Int.dvd_trans (Int.natCast_dvd_natCast.mpr (pp_dvd q)) ⟨v, Int.mul_comm _ _⟩
          have := Int.dvd_add (hy j (by (first | lia | omega))) h7
          rwa [show y - (A j : Int) + v * (pp Mo (k + 1) : Nat) = y + v * (pp Mo (k + 1) : Nat) - A j by (first | lia | omega)] at this
        · have : j = k + 1 := by (first | lia | omega)
          subst this
          obtain ⟨q1, hq1⟩ := hzd
          generalize (((A (k + 1) : Nat) : Int) - y) * z / (Mo (k + 1) : Nat) = q2 at *
          refine ⟨(A (k + 1) - y) * q1 - q2 * (pp Mo (k + 1) : Nat), ?_⟩
          have hv : v = (A (k + 1) - y) * z - (Mo (k + 1) : Nat) * q2 := by (first | lia | omega)
          rw [hv, Int.sub_mul, Int.mul_sub]
          have a1 : ((A (k + 1) : Int) - y) * z * (pp Mo (k + 1) : Nat) = ((A (k + 1) : Int) - y) * ((pp Mo (k + 1) : Nat) * z) := by ac_rfl
          have a2 : ((pp Mo (k + 1) : Nat) : Int) * z = (Mo (k + 1) : Int) * q1 + 1 := by (first | lia | omega)
          rw [a1, a2, Int.mul_add, Int.mul_one]
          have a3 : ((A (k + 1) : Int) - y) * ((Mo (k + 1) : Int) * q1) = (Mo (k + 1) : Int) * ((A (k + 1) - y) * q1) := by ac_rfl
          have a4 : (Mo (k + 1) : Int) * q2 * (pp Mo (k + 1) : Nat) = (Mo (k + 1) : Int) * (q2 * (pp Mo (k + 1) : Nat)) := by ac_rfl
          rw [a3, a4]
          (first | lia | omega)
    · intro l h' qz109
      refine Gen fun G back => ?_
      rcases qz109 with ⟨x5, x9, y, hz110, hz111, hy⟩
      refine back ?_
      clear back
      clear G
      subst hz110
      subst hz111
      refine ⟨(show ((pp Mo n : Nat) : Int) ≠ 0 by (first | lia | omega)), ?_⟩
      have t0 := Int.emod_nonneg y (b := ((pp Mo n : Nat) : Int)) (by (first | lia | omega))
      have t1 := Int.emod_lt_of_pos y (b := ((pp Mo n : Nat) : Int)) (by (first | lia | omega))
      have td := Int.emod_add_mul_ediv y ((pp Mo n : Nat) : Int)
      obtain ⟨x, hx⟩ := Int.eq_ofNat_of_zero_le t0
      rw [hx] at t1 td
      show Q (.int (y.fmod _)) h'
      rw [Int.fmod_eq_emod_of_nonneg _ (Int.natCast_nonneg _), hx]
      refine hQ x h' u (by (first | lia | omega)) fun j hj => ?_
      have h7 : (Mo j : Int) ∣ ((pp Mo n : Nat) : Int) * (y / (pp Mo n : Nat)) := Int.dvd_trans (Int.natCast_dvd_natCast.mpr (pp_dvd hj)) ⟨_, rfl⟩
      have := Int.dvd_sub (hy j (by (first | lia | omega))) h7
      rwa [show y - (A j : Int) - ((pp Mo n : Nat) : Int) * (y / (pp Mo n : Nat)) = (x : Int) - A j by (first | lia | omega)] at this
theorem power_exec {w mean mg mb} {d : Nat} {hp : HP} {n : Int} {k : Nat} (hn : n.natAbs < 2 ^ 60) (hk : k ≤ 1000) {Q : V → HP → Prop} {X : XT} (hQ : Q (.int (n ^ k)) hp) :
    exec (gg w mean mg mb) d m_l_power [.int n, .int k, .unb, .unb] hp (retQ Q) X := by
  refine ⟨(show (1 : Int) ≠ 0 by decide), small_one (by decide) (by decide) (by (first | lia | omega)) (by (first | lia | omega)), ?_⟩
  refine forUp (l := [.int n, .int k, .int 1, .unb]) k (by (first | lia | omega)) (fun j l h => ∃ x3, l = [.int n, .int k, .int (n ^ j), x3] ∧ h = hp) ⟨.unb, by rw [Int.pow_zero], rfl⟩ ?_ ?_
  · rintro j l h hj ⟨x3, rfl, rfl⟩
    exact ⟨mul_small_right (by (first | lia | omega)), .int (0 + j), by rw [Int.pow_succ]; rfl, rfl⟩
  · rintro l h ⟨x3, rfl, rfl⟩
    exact hQ
theorem bit_step {p b l f v : Nat} (h : Cg p ((f : Int) * (b : Int) ^ l) v) : Cg p ((((if l % 2 = 1 then f * b % p else f) : Nat) : Int) * ((b * b % p : Nat) : Int) ^ (l / 2)) v := by
  have hb : Cg p (((b * b % p : Nat) : Int) ^ (l / 2)) ((b : Int) ^ (2 * (l / 2))) := by
    have := (cg_modN p (b * b)).pow (l / 2)
    rwa [Int.natCast_mul, show ((b : Int) * b) ^ (l / 2) = (b : Int) ^ (2 * (l / 2)) by rw [Int.pow_mul, show (2 : Nat) = 1 + 1 from rfl, Int.pow_succ, pow_one']] at this
  split
  · rename_i h1
    refine ((cg_modN p (f * b)).mul hb).trans ?_
    rw [Int.natCast_mul, Int.mul_assoc, show (b : Int) * (b : Int) ^ (2 * (l / 2)) = (b : Int) ^ l by
      conv => rhs; rw [show l = 2 * (l / 2) + 1 by (first | lia | omega)]
      rw [Int.pow_succ, Int.mul_comm]]
    exact h
  · rename_i h1
    refine (Cg.refl.mul hb).trans ?_
    rw [show 2 * (l / 2) = l by (first | lia | omega)]; exact h
theorem symbol_exec {w mean mg mb} {d : Nat} {hp : HP} {n : Int} {p : Nat} (hp1 : PrO p) (hp8 : p ≤ 8000) {Q : V → HP → Prop} {X : XT} (hQ : Q (.int (jg (n % p).toNat p)) hp) :
    exec (gg w mean mg mb) d m_l_symbol [.int n, .int p, .unb, .unb, .unb, .unb] hp (retQ Q) X := by
  have hp0 := hp1.pos
  have hpp : 0 < p := by (first | lia | omega)
  have e0 : intOp n p .mod = ((n % (p : Int)).toNat : Int) := by
    show n.fmod p = _
    rw [Int.fmod_eq_emod_of_nonneg _ (Int.natCast_nonneg _), Int.toNat_of_nonneg (Int.emod_nonneg _ (ne0 hpp))]
  have hrp : (n % (p : Int)).toNat < p := rlt hpp rfl
  have e2 : intOp (intOp (p : Int) 1 .sub) 2 .fdiv = ((p / 2 : Nat) : Int) := by
    rw [show intOp (p : Int) 1 .sub = ((p - 1 : Nat) : Int) by show (p : Int) - 1 = _; (first | lia | omega)]
    show ((p - 1 : Nat) : Int).fdiv (2 : Nat) = _
    rw [fdivN]; (first | lia | omega)
  refine ⟨trivial, (show (2 : Int) ≠ 0 by decide), (ne0 hpp), ?_⟩
  show exec (gg w mean mg mb) d _ [.int n, .int p, .int (intOp (intOp (p : Int) 1 .sub) 2 .fdiv), .int (intOp n p .mod), .int 1, .unb] hp _ X
  rw [e2, e0]
  refine ⟨(show (1 : Int) ≠ 0 by decide), by decide, ?_⟩
  refine forUp (l := [.int n, .int p, .int (p / 2 : Nat), .int (n % (p : Int)).toNat, .int 1, .unb]) 12 (by decide)
    (fun k l h => ∃ (b f : Nat) (x5 : V), l = [.int n, .int p, .int (p / 2 / 2 ^ k : Nat), .int b, .int f, x5] ∧ h = hp ∧ b < p ∧ f < p ∧ Cg p ((f : Int) * (b : Int) ^ (p / 2 / 2 ^ k)) (((n % (p : Int)).toNat ^ (p / 2) : Nat) : Int))
    ⟨_, 1, .unb, by simp, rfl, hrp, by (first | lia | omega), by rw [Nat.pow_zero, Nat.div_one]; exact Cg.of (by push_cast; rw [Int.one_mul])⟩ ?_ ?_
  · intro k l h hk qz112
    refine Gen fun G back => ?_
    rcases qz112 with ⟨b, f, x5, hz113, hz114, hb, hf, hI⟩
    refine back ?_
    clear back
    clear G
    subst hz113
    subst hz114
    have hI2 := bit_step hI
    have el : p / 2 / 2 ^ k / 2 = p / 2 / 2 ^ (k + 1) := by rw [Nat.div_div_eq_div_mul, Nat.pow_succ]
    rw [el] at hI2
    generalize p / 2 / 2 ^ k = L at *
    have em : intOp (L : Int) 2 .mod = ((L % 2 : Nat) : Int) := fmodN L 2
    have eb : intOp (intOp (b : Int) b .mul) p .mod = ((b * b % p : Nat) : Int) := by
      show ((b : Int) * b).fmod p = _
      rw [← Int.natCast_mul, fmodN]
    have ef : intOp (intOp (f : Int) b .mul) p .mod = ((f * b % p : Nat) : Int) := by
      show ((f : Int) * b).fmod p = _
      rw [← Int.natCast_mul, fmodN]
    have ed : intOp (L : Int) 2 .fdiv = ((L / 2 : Nat) : Int) := fdivN L 2
    have fin : ∀ f2 : Nat, f2 = (if L % 2 = 1 then f * b % p else f) → exec (gg w mean mg mb) d (.seq (.asgN [3, 2] (.cons (.bin .mod (.toInt (.bin .mul (.var 3) (.var 3))) (.var 1)) (.cons (.bin .fdiv (.var 2) (.int 2)) .nil))) .skip) [.int n, .int p, .int L, .int b, .int f2, .int (0 + k)] h (fun o l2 h2 => match o with
        | .next => ∃ (b f : Nat) (x5 : V), l2 = [.int n, .int p, .int (p / 2 / 2 ^ (k + 1) : Nat), .int b, .int f, x5] ∧ h2 = h ∧ b < p ∧ f < p ∧ Cg p ((f : Int) * (b : Int) ^ (p / 2 / 2 ^ (k + 1))) (((n % (p : Int)).toNat ^ (p / 2) : Nat) : Int) | .brk => True | .ret _ => False) noX := by
      intro f2 hf2
      refine ⟨mul_small_left (by (first | lia | omega)), (ne0 hpp), (show (2 : Int) ≠ 0 by decide), b * b % p, f2, .int (0 + k), ?_, rfl, Nat.mod_lt _ hpp, ?_, by rw [hf2]; exact hI2⟩
      · show [V.int n, .int p, .int (intOp (L : Int) 2 .fdiv), .int (intOp (intOp (b : Int) b .mul) p .mod), .int f2, .int (0 + k)] = _
        rw [eb, ed, el]
      · rw [hf2]; split
        · exact Nat.mod_lt _ hpp
        · exact hf
    refine ⟨(show (2 : Int) ≠ 0 by decide), fun t => ?_, fun t => ?_⟩
    · have t : intOp (L : Int) 2 .mod = 1 := ceq_t.mp t
      rw [em] at t
      refine ⟨mul_small_left (by (first | lia | omega)), (ne0 hpp), ?_⟩
      show exec (gg w mean mg mb) d _ [.int n, .int p, .int L, .int b, .int (intOp (intOp (f : Int) b .mul) p .mod), .int (0 + k)] h _ noX
      rw [ef]
      exact fin _ (by rw [if_pos (by (first | lia | omega))])
    · have t : intOp (L : Int) 2 .mod ≠ 1 := ceq_f.mp t
      rw [em] at t
      exact fin f (by rw [if_neg (by (first | lia | omega))])
  · intro l h qz115
    refine Gen fun G back => ?_
    rcases qz115 with ⟨b, f, x5, hz116, hz117, hb, hf, hI⟩
    refine back ?_
    clear back
    clear G
    subst hz116
    subst hz117
    have hz : p / 2 / 2 ^ 12 = 0 := Nat.div_eq_of_lt (by (first | lia | omega))
    rw [hz, Int.pow_zero, Int.mul_one] at hI
    refine ⟨(ne0 hpp), fun t => ?_, fun t => ?_⟩
    · have t : intOp n p .mod = 0 := ceq_t.mp t
      rw [e0] at t
      have e3 : (n % (p : Int)).toNat = 0 := by (first | lia | omega)
      rw [e3, (jg_prime hp1.pr).1 (Nat.dvd_zero p)] at hQ
      exact hQ
    · have t : intOp n p .mod ≠ 0 := ceq_f.mp t
      rw [e0] at t
      have hnd : ¬ p ∣ (n % (p : Int)).toNat := fun q => by have := Nat.le_of_dvd (by (first | lia | omega)) q; (first | lia | omega)
      obtain ⟨ej, hj⟩ := (jg_prime hp1.pr).2 hnd
      have he := euler hp1.pr hp1.odd hnd
      rw [← Int.natCast_pow] at he
      have hf1 := hI.trans he
      rw [ej] at hQ
      refine ⟨fun t2 => ?_, fun t2 => ?_⟩
      · have t2 : (f : Int) = 1 := ceq_t.mp t2
        rcases hj with hj | hj
        · rw [hj] at hQ; exact hQ
        · rw [hj, t2] at hf1
          exact absurd hf1 (one_ne hp0.1)
      · have t2 : (f : Int) ≠ 1 := ceq_f.mp t2
        rcases hj with hj | hj
        · rw [hj] at hf1
          exact absurd (hf1.eq (by (first | lia | omega)) (by (first | lia | omega)) (by (first | lia | omega)) (by (first | lia | omega))) t2
        · rw [hj] at hQ; exact hQ
theorem has_root_exec {w mean mg mb} {d : Nat} {hp : HP} {n : Int} {p e : Nat} (hp1 : PrO p) (hp8 : p ≤ 8000) {Q : V → HP → Prop} {X : XT} (hQ : Q (.bool (hasR p e n)) hp) :
    exec (gg w mean mg mb) (d + 1) m_l_has_root [.int n, .int p, .int e, .unb] hp (retQ Q) X := by
  refine call_l_symbol (symbol_exec hp1 hp8 ?_)
  unfold hasR at hQ
  have hj := jg_vals hp1.pr (n % (p : Int)).toNat
  generalize jg (n % (p : Int)).toNat p = j at *
  have fin : (j ≠ 0 ∨ e ≤ 1) → Q (.bool (cmpI j 0 .ge)) hp := fun h => by
    have e1 : cmpI j 0 .ge = decide (j = 1 ∨ j = 0 ∧ e ≤ 1) := by
      rcases hj with rfl | rfl | rfl
      · rw [decide_eq_true (.inr ⟨rfl, by (first | lia | omega)⟩)]; rfl
      · rfl
      · rw [decide_eq_false (by (first | lia | omega))]; rfl
    rw [e1]; exact hQ
  refine ⟨fun t => ⟨fun t2 => ?_, fun t2 => ?_⟩, fun t => ⟨(fun q => nomatch q), fun _ => ?_⟩⟩
  · have t : j = 0 := ceq_t.mp t
    have t2 : (1 : Int) < e := cgt_t.mp t2
    subst t
    rw [decide_eq_false (by (first | lia | omega))] at hQ
    exact hQ
  · have t2 : (e : Int) ≤ 1 := cgt_f.mp t2
    exact fin (.inr (by (first | lia | omega)))
  · exact fin (.inl (ceq_f.mp t))
noncomputable def RootV (p e : Nat) (n : Int) (v : V) : Prop := (v = .none ∧ hasR p e n = false) ∨ ∃ x : Nat, v = .int x ∧ hasR p e n = true ∧ x < p ^ e ∧ ((p ^ e : Nat) : Int) ∣ (x : Int) * x - n ∧ (x = 0 ∧ e = 1 ∧ (p : Int) ∣ n ∨ 0 < x ∧ ¬ (p : Int) ∣ n)
theorem dvd_jg {p : Nat} {n : Int} (hp1 : PrO p) : (p : Int) ∣ n ↔ (n % (p : Int)).toNat = 0 := by
  have := Int.emod_nonneg n (b := (p : Int)) (by have := hp1.pos; (first | lia | omega))
  constructor
  · intro h; have := Int.emod_eq_zero_of_dvd h; (first | lia | omega)
  · intro h; exact Int.dvd_of_emod_eq_zero (by (first | lia | omega))
theorem nd_jg {p : Nat} {n : Int} (hp1 : PrO p) (h : ¬ (p : Int) ∣ n) : ¬ p ∣ (n % (p : Int)).toNat := fun q => by
  have h1 := rlt (n := n) (p := p) (by have := hp1.pos; (first | lia | omega)) rfl
  have : (n % (p : Int)).toNat ≠ 0 := fun z => h ((dvd_jg hp1).mpr z)
  have := Nat.le_of_dvd (by (first | lia | omega)) q
  (first | lia | omega)
theorem root_exec {w mean mg mb} {d : Nat} {hp : HP} {p e : Nat} {n : Int} (hp1 : PrO p) (he : 1 ≤ e) (hs : p ^ e < 2 ^ 60) {Q : V → HP → Prop} {X : XT}
    (hQ : ∀ h' v, Upto [] hp h' → RootV p e n v → Q v h') :
    exec (gg w mean mg mb) (d + 4) m_l_root [.int n, .int p, .int e] hp (retQ Q) X := by
  refine call_modsqrt3 (mod_exec hp1 he hs (fun hd h1e h' u => ?_) (fun h' x hn u hx => ?_) (fun c h' hc hcc u => ?_))
  · refine hQ h' _ u (.inr ⟨0, rfl, ?_, by subst h1e; rw [Nat.pow_one]; have := hp1.pos; (first | lia | omega), ?_, .inl ⟨rfl, h1e, hd⟩⟩)
    · unfold hasR
      rw [(dvd_jg hp1).mp hd, (jg_prime hp1.pr).1 (Nat.dvd_zero p)]
      exact decide_eq_true (.inr ⟨rfl, by (first | lia | omega)⟩)
    · subst h1e
      rw [Nat.pow_one]
      simpa using Int.dvd_neg.mpr hd
  · refine hQ h' _ u (.inr ⟨x, rfl, ?_, hx.lt, ?_, .inr ⟨hx.pos, hn⟩⟩)
    · have hnd := nd_jg hp1 hn
      obtain ⟨e1, e2⟩ := (jg_prime hp1.pr).2 hnd
      unfold hasR
      rw [e1]
      refine decide_eq_true (.inl (e2.resolve_right fun q => ?_))
      refine root_none hp1.pr hp1.odd hnd q x ?_
      have h1 : (p : Int) ∣ n - (x : Int) * x := Int.dvd_trans (Int.natCast_dvd_natCast.mpr ⟨p ^ (e - 1), by rw [show e = e - 1 + 1 by (first | lia | omega), Nat.pow_succ, Nat.add_sub_cancel, Nat.mul_comm]⟩) hx.dvd
      have h2 := Int.emod_eq_emod_iff_emod_sub_eq_zero.mpr (Int.emod_eq_zero_of_dvd h1)
      have h3 : ((x : Int) * x) % (p : Int) = ((x * x % p : Nat) : Int) := by push_cast; rfl
      have h4 := Int.emod_nonneg n (b := (p : Int)) (by have := hp1.pos; (first | lia | omega))
      have h5 := rlt (n := n) (p := p) (by have := hp1.pos; (first | lia | omega)) rfl
      rw [Nat.mod_eq_of_lt h5]
      (first | lia | omega)
    · have := Int.dvd_neg.mpr hx.dvd
      rwa [Int.neg_sub] at this
  · refine ⟨hcc, hQ h' _ u (.inl ⟨rfl, ?_⟩)⟩
    unfold hasR
    refine decide_eq_false fun q => ?_
    rcases hc with ⟨h1, h2⟩ | ⟨h1, h2⟩
    · rw [((jg_prime hp1.pr).2 (nd_jg hp1 h1)).1, h2] at q
      (first | lia | omega)
    · rw [(dvd_jg hp1).mp h2, (jg_prime hp1.pr).1 (Nat.dvd_zero p)] at q
      (first | lia | omega)
noncomputable def RowX (M : Addr) (h : HP) (a : Addr) (row : List (Nat × Nat)) : Prop := a ≠ M ∧ ∃ ts : List Addr, h a = some (.list (ts.map .ref)) ∧ ts.length = row.length ∧ (∀ t ∈ ts, t ≠ M) ∧ ∀ (j : Nat) (t : Addr) b, ts[j]? = some t → row[j]? = some b → h t = some (.tup [.int b.1, .int b.2])
theorem RowX.up {M : Addr} {h h' : HP} {a : Addr} {row : List (Nat × Nat)} (r : RowX M h a row) (u : Upto [M] h h') : RowX M h' a row := by
  refine Gen fun G back => ?_
  rcases r with ⟨h0, ts, h1, h2, h3, h4⟩
  refine back ?_
  clear back
  clear G
  exact ⟨h0, ts, u a (by simpa using h0) _ h1, h2, h3, fun j t b ht hb => u t (by simpa using h3 t (List.mem_of_getElem? ht)) _ (h4 j t b ht hb)⟩
noncomputable def ChX (M : Addr) (h : HP) (rs : List Addr) (rows : List (List (Nat × Nat))) : Prop := rs.length = rows.length ∧ ∀ (j : Nat) (r : Addr) row, rs[j]? = some r → rows[j]? = some row → RowX M h r row
theorem ChX.up {M : Addr} {h h' : HP} {rs : List Addr} {rows : List (List (Nat × Nat))} (r : ChX M h rs rows) (u : Upto [M] h h') : ChX M h' rs rows := ⟨r.1, fun j a row h1 h2 => (r.2 j a row h1 h2).up u⟩
theorem ChX.snoc {M : Addr} {h : HP} {rs : List Addr} {rows : List (List (Nat × Nat))} {a : Addr} {row : List (Nat × Nat)} (r : ChX M h rs rows) (x : RowX M h a row) : ChX M h (rs ++ [a]) (rows ++ [row]) := by
  refine ⟨by simp [r.1], fun j b row' h1 h2 => ?_⟩
  rcases Nat.lt_or_ge j rs.length with q | q
  · rw [List.getElem?_append_left q] at h1
    rw [List.getElem?_append_left (by rw [← r.1]; exact q)] at h2
    exact r.2 j b row' h1 h2
  · rw [List.getElem?_append_right q] at h1
    rw [List.getElem?_append_right (by rw [← r.1]; exact q), ← r.1] at h2
    have hj0 : j - rs.length = 0 := by
      rcases Nat.eq_zero_or_pos (j - rs.length) with z0 | z0
      · exact z0
      · rw [List.getElem?_eq_none (by simp; (first | lia | omega))] at h1; cases h1
    rw [hj0] at h1 h2
    cases h1
    cases h2
    exact x
theorem add_exec {g : G} {d : Nat} {h : HP} {M a : Addr} {l : List V} {e1 e2 : ME} {c m : Nat} {X : XT} {rs : List Addr} {row : List (Nat × Nat)} (h4 : lget l 4 = .ref M) (h5 : lget l 5 = .ref a)
    (he1 : ∀ h Q, Q (.int c) h → ev g d e1 l h Q X) (he2 : ∀ h Q, Q (.int m) h → ev g d e2 l h Q X) (hM : h M = some (.list (rs.map .ref))) (hrs : rs.length ≤ 1000) (hrow : row.length ≤ 1000) (hx : RowX M h a row) {Q : V → HP → Prop}
    (hQ : ∀ h' r, Upto [M] h h' → h' M = some (.list ((rs ++ [r]).map .ref)) → RowX M h' r (row ++ [(c, m)]) → Q .none h') :
    ev g d (.app (.var 4) (.bin .add (.var 5) (.list (.cons (.tup (.cons e1 (.cons e2 .nil))) .nil)))) l h Q X := by
  refine Gen fun G back => ?_
  rcases id hx with ⟨hne, ts, ha, hl, ht, hb⟩
  refine back ?_
  clear back
  clear G
  show varV l 4 fun v => isLV v h _
  unfold varV
  rw [h4]
  refine ⟨⟨_, hM⟩, ?_⟩
  show varV l 5 fun v => _
  unfold varV
  rw [h5]
  refine he1 _ _ (he2 _ _ ⟨by simp [sizeLine_eq], fun t nt => ?_⟩)
  refine ⟨by simp [sizeLine_eq], fun L nL => ?_⟩
  have hta : t ≠ a := fun q => by rw [q, ha] at nt; cases nt
  have htM : t ≠ M := fun q => by rw [q, hM] at nt; cases nt
  have hLt : L ≠ t := (hset_none.mp nL).1
  have nL' := (hset_none.mp nL).2
  have hLa : L ≠ a := fun q => by rw [q, ha] at nL'; cases nL'
  have hLM : L ≠ M := fun q => by rw [q, hM] at nL'; cases nL'
  refine ⟨ts.map .ref, [.ref t], by rw [hset_ne (Ne.symm hLa), hset_ne (Ne.symm hta), ha]; rfl, by rw [hset_same]; rfl, by simp [sizeLine_eq]; (first | lia | omega), fun r nr => ?_⟩
  have hrL : r ≠ L := (hset_none.mp nr).1
  have nr1 := (hset_none.mp nr).2
  have hrt : r ≠ t := (hset_none.mp nr1).1
  have nr2 := (hset_none.mp nr1).2
  have hra : r ≠ a := fun q => by rw [q, ha] at nr2; cases nr2
  have hrM : r ≠ M := fun q => by rw [q, hM] at nr2; cases nr2
  have u1 : Upto [M] h (hset (hset (hset h t (.tup [.int c, .int m])) L (.list [.ref t])) r (.list (ts.map .ref ++ [.ref t]))) := ((Upto.new nt).trans (Upto.new nL)).trans (Upto.new nr)
  refine ⟨rs.map .ref, by rw [hset_ne (Ne.symm hrM), hset_ne (Ne.symm hLM), hset_ne (Ne.symm htM)]; exact hM, by simp [sizeLine_eq]; (first | lia | omega), ?_⟩
  refine hQ _ r (u1.trans (Upto.set (by simp))) (by rw [hset_same, List.map_append]; rfl) ?_
  have hx1 := hx.up u1
  refine RowX.up (h := hset (hset (hset h t (.tup [.int c, .int m])) L (.list [.ref t])) r (.list (ts.map .ref ++ [.ref t]))) ⟨hrM, ts ++ [t], by rw [hset_same, List.map_append]; rfl, by simp [hl], fun z hz => ?_, fun j z b hz hbz => ?_⟩ (Upto.set (by simp))
  · rcases List.mem_append.mp hz with q | q
    · exact ht z q
    · rw [List.mem_singleton.mp q]; exact htM
  · rcases Nat.lt_or_ge j ts.length with q | q
    · rw [List.getElem?_append_left q] at hz
      rw [List.getElem?_append_left (by rw [← hl]; exact q)] at hbz
      have := hb j z b hz hbz
      exact u1 z (by simpa using ht z (List.mem_of_getElem? hz)) _ this
    · rw [List.getElem?_append_right q] at hz
      rw [List.getElem?_append_right (by rw [← hl]; exact q), ← hl] at hbz
      have hj0 : j - ts.length = 0 := by
        rcases Nat.eq_zero_or_pos (j - ts.length) with z0 | z0
        · exact z0
        · rw [List.getElem?_eq_none (by simp; (first | lia | omega))] at hz; cases hz
      rw [hj0] at hz hbz
      cases hz
      cases hbz
      rw [hset_ne (Ne.symm hrt), hset_ne (Ne.symm hLt), hset_same]
theorem Upto.but {hp h h' : HP} {M : Addr} (u : Upto [] hp h) (v : Upto [M] h h') (n : hp M = none) : Upto [] hp h' := fun b _ o e => v b (by intro q; rw [List.mem_singleton.mp q, n] at e; cases e) o (u b (by simp) o e)
theorem ChX.fresh {M M' : Addr} {h : HP} {rs : List Addr} {rows : List (List (Nat × Nat))} {o : O} (r : ChX M h rs rows) (n : h M' = none) : ChX M' (hset h M' o) rs rows := by
  refine ⟨r.1, fun j a row h1 h2 => ?_⟩
  refine Gen fun G back => ?_
  rcases r.2 j a row h1 h2 with ⟨h0, ts, a1, a2, a3, a4⟩
  refine back ?_
  clear back
  clear G
  refine RowX.up (h := h) ⟨(fun q => by rw [q, n] at a1; cases a1), ts, a1, a2, fun t ht q => ?_, a4⟩ (Upto.new n)
  obtain ⟨i, hi⟩ := List.mem_iff_getElem?.mp ht
  have hl := (List.getElem?_eq_some_iff.mp hi).1
  have := a4 i t _ hi (List.getElem?_eq_getElem (by (first | lia | omega)))
  rw [q, n] at this; cases this
theorem flat_len {x Mo : Nat → Nat} {k : Nat} : ∀ l : List (List (Nat × Nat)), (l.flatMap (chR x Mo k)).length ≤ 2 * l.length := by
  intro l
  induction l with
  | nil => simp
  | cons a r ih => have := chR_len x Mo k a; simp only [List.flatMap_cons, List.length_append, List.length_cons]; (first | lia | omega)
theorem choices_exec {w mean mg mb} {d : Nat} {hp : HP} {R : Addr} {N : Nat} {x Mo : Nat → Nat} (hN : N ≤ 4) (RA : RowsAt hp R N x Mo) (hx : ∀ j, j < N → x j < Mo j) {Q : V → HP → Prop} {X : XT}
    (hQ : ∀ h' F rs M, Upto [] hp h' → h' F = some (.list (rs.map .ref)) → ChX M h' rs (chL x Mo N) → Q (.ref F) h') :
    exec (gg w mean mg mb) d m_l_choices [.ref R, .unb, .unb, .unb, .unb, .unb] hp (retQ Q) X := by
  refine ⟨by simp [sizeLine_eq], fun r0 n0 => ⟨by simp [sizeLine_eq], fun F nF => ?_⟩⟩
  have hF0 : F ≠ r0 := (hset_none.mp nF).1
  have nF' := (hset_none.mp nF).2
  refine Gen fun G back => ?_
  rcases id RA with ⟨ts, hts, htl, htj⟩
  refine back ?_
  clear back
  clear G
  have hRr : R ≠ r0 := fun q => by rw [q, n0] at hts; cases hts
  have hRF : R ≠ F := fun q => by rw [q, nF'] at hts; cases hts
  have u0 : Upto [] hp (hset (hset hp r0 (.list [])) F (.list [.ref r0])) := (Upto.new n0).trans (Upto.new nF)
  have hR0 : (hset (hset hp r0 (.list [])) F (.list [.ref r0])) R = some (.list (ts.map .ref)) := u0.at hts
  refine ⟨ts.map .ref, by rw [hR0]; rfl, by rw [List.length_map]; (first | lia | omega), ?_⟩
  refine ⟨fun k l h => ∃ (F' : Addr) (rs : List Addr) (M : Addr) (x2 x3 x4 x5 : V), l = [.ref R, .ref F', x2, x3, x4, x5] ∧ Upto [] hp h ∧ h F' = some (.list (rs.map .ref)) ∧ ChX M h rs (chL x Mo k),
    ⟨F, [r0], F, .unb, .unb, .unb, .unb, rfl, u0, by rw [hset_same]; rfl, rfl, fun j r row h1 h2 => ?_⟩, ?_, ?_⟩
  · match j, h1, h2 with
    | 0, h1, h2 =>
      cases h1; cases h2
      exact ⟨Ne.symm hF0, [], by rw [hset_ne (Ne.symm hF0), hset_same]; rfl, rfl, (fun _ h => nomatch h), fun j t b h => by simp at h⟩
    | j + 1, h1, _ => simp at h1
  · intro k y l h hy qz118
    refine Gen fun G back => ?_
    rcases qz118 with ⟨F', rs, M0, x2, x3, x4, x5, hz119, u, hF', hC⟩
    refine back ?_
    clear back
    clear G
    subst hz119
    have hk : k < N := by
      have := (List.getElem?_eq_some_iff.mp hy).1
      rw [List.length_map] at this; (first | lia | omega)
    refine ⟨(u.at hts).trans hR0.symm, ?_⟩
    have hyt : y = .ref (ts[k]'(by (first | lia | omega))) := by
      rw [List.getElem?_map, List.getElem?_eq_getElem (by (first | lia | omega))] at hy
      exact (Option.some.inj hy).symm
    subst hyt
    have htk := u.at (htj k _ (List.getElem?_eq_getElem (by (first | lia | omega))))
    refine ⟨_, htk, rfl, xg fun Q0 hq0 => ?_⟩
    refine ⟨by simp [sizeLine_eq], fun M nM => ?_⟩
    have nMp : hp M = none := by
      cases q : hp M with
      | none => rfl
      | some o => have := u.at q; rw [nM] at this; cases this
    have hFM : F' ≠ M := fun q => by rw [q, nM] at hF'; cases hF'
    have hC1 : ChX M (hset h M (.list [])) rs (chL x Mo k) := hC.fresh nM
    have hlen : (chL x Mo k).length ≤ 8 := by
      have := chL_len x Mo k
      have : 2 ^ k ≤ 2 ^ 3 := Nat.pow_le_pow_right (by decide) (by (first | lia | omega))
      (first | lia | omega)
    have hFh : (hset h M (.list [])) F' = some (.list (rs.map .ref)) := by rw [hset_ne hFM]; exact hF'
    have hxk := hx k hk
    refine ⟨rs.map .ref, by rw [hFh]; rfl, by rw [List.length_map, hC.1]; (first | lia | omega), ?_⟩
    refine ⟨fun i l h' => ∃ (qs : List Addr) (y5 : V), l = [.ref R, .ref F', .int (x k : Nat), .int (Mo k : Nat), .ref M, y5] ∧ Upto [] hp h' ∧ h' F' = some (.list (rs.map .ref)) ∧ h' M = some (.list (qs.map .ref)) ∧ ChX M h' rs (chL x Mo k) ∧
        ChX M h' qs (((chL x Mo k).take i).flatMap (chR x Mo k)),
      ⟨[], x5, rfl, u.trans (Upto.new nM), hFh, hset_same, hC1, rfl, fun j r row h1 => by simp at h1⟩, ?_, ?_⟩
    · intro i y l h' hy qz120
      refine Gen fun G back => ?_
      rcases qz120 with ⟨qs, y5, hz121, u', hF2, hM2, hCr, hCq⟩
      refine back ?_
      clear back
      clear G
      subst hz121
      refine ⟨hF2.trans hFh.symm, xg fun Q1 hq1 => ?_⟩
      have hi : i < rs.length := by
        have := (List.getElem?_eq_some_iff.mp hy).1
        rwa [List.length_map] at this
      have hya : y = .ref rs[i] := by
        rw [List.getElem?_map, List.getElem?_eq_getElem hi] at hy
        exact (Option.some.inj hy).symm
      subst hya
      have hi' : i < (chL x Mo k).length := by rw [← hC.1]; exact hi
      have hrow := hCr.2 i _ _ (List.getElem?_eq_getElem hi) (List.getElem?_eq_getElem hi')
      have htake : (chL x Mo k).take (i + 1) = (chL x Mo k).take i ++ [(chL x Mo k)[i]] := by rw [List.take_succ_eq_append_getElem hi']
      have hrl := (chL_row (List.getElem_mem hi')).1
      have hql : qs.length ≤ 100 := by
        rw [hCq.1]
        have := flat_len (x := x) (Mo := Mo) (k := k) ((chL x Mo k).take i)
        have : ((chL x Mo k).take i).length ≤ (chL x Mo k).length := by rw [List.length_take]; (first | lia | omega)
        (first | lia | omega)
      have hflat : ((chL x Mo k).take (i + 1)).flatMap (chR x Mo k) = ((chL x Mo k).take i).flatMap (chR x Mo k) ++ chR x Mo k (chL x Mo k)[i] := by
        rw [htake, List.flatMap_append]
        simp only [List.flatMap_cons, List.flatMap_nil, List.append_nil]
      refine add_exec (g := gg w mean mg mb) (d := d) (X := noX) (e1 := .var 2) (e2 := .var 3) (l := [.ref R, .ref F', .int (x k : Nat), .int (Mo k : Nat), .ref M, .ref rs[i]]) (c := x k) (m := Mo k) rfl rfl (fun _ _ h => h) (fun _ _ h => h) hM2 (by (first | lia | omega)) (by (first | lia | omega)) hrow fun h2 r1 v1 hM3 hr1 => ?_
      have u2 := u'.but v1 nMp
      have hF3 : h2 F' = some (.list (rs.map .ref)) := v1 F' (by simpa using hFM) _ hF2
      have hC2 := (hCq.up v1).snoc hr1
      refine ⟨mul_small_left (by decide), (show ((Mo k : Nat) : Int) ≠ 0 by (first | lia | omega)), ?_⟩
      have em : intOp (intOp 2 ((x k : Nat) : Int) .mul) ((Mo k : Nat) : Int) .mod = ((2 * x k % Mo k : Nat) : Int) := by
        show ((2 : Int) * (x k : Nat)).fmod _ = _
        rw [show (2 : Int) * ((x k : Nat) : Int) = ((2 * x k : Nat) : Int) by push_cast; rfl, fmodN]
      refine ⟨fun t => ?_, fun t => ?_⟩
      · have t : intOp (intOp 2 ((x k : Nat) : Int) .mul) ((Mo k : Nat) : Int) .mod ≠ 0 := cne_t.mp t
        rw [em] at t
        have t' : 2 * x k % Mo k ≠ 0 := fun q => t (congrArg Int.ofNat q)
        have esub : intOp ((Mo k : Nat) : Int) ((x k : Nat) : Int) .sub = ((Mo k - x k : Nat) : Int) := by show (Mo k : Int) - x k = _; (first | lia | omega)
        refine add_exec (g := gg w mean mg mb) (d := d) (X := noX) (e1 := .bin .sub (.var 3) (.var 2)) (e2 := .var 3) (l := [.ref R, .ref F', .int (x k : Nat), .int (Mo k : Nat), .ref M, .ref rs[i]]) (c := Mo k - x k) (m := Mo k) rfl rfl (fun h Q hq => ⟨trivial, by rw [← esub] at hq; exact hq⟩) (fun _ _ h => h) hM3 (by simp; (first | lia | omega)) (by (first | lia | omega)) (hrow.up v1) fun h3 r2 v2 hM4 hr2 => ?_
        refine hq1 .next _ _ ⟨_, _, rfl, u2.but v2 nMp, v2 F' (by simpa using hFM) _ hF3, hM4, (hCr.up v1).up v2, ?_⟩
        have := (hC2.up v2).snoc hr2
        rw [hflat]
        conv => arg 4; arg 2; unfold chR
        rw [if_pos t']
        rw [List.append_assoc (((chL x Mo k).take i).flatMap (chR x Mo k))] at this
        exact this
      · have t : intOp (intOp 2 ((x k : Nat) : Int) .mul) ((Mo k : Nat) : Int) .mod = 0 := cne_f.mp t
        rw [em] at t
        have t' : 2 * x k % Mo k = 0 := Int.ofNat.inj t
        refine hq1 .next _ _ ⟨_, _, rfl, u2, hF3, hM3, hCr.up v1, ?_⟩
        rw [hflat]
        conv => arg 4; arg 2; unfold chR
        rw [if_neg (by (first | lia | omega))]
        exact hC2
    · intro l h' qz122
      refine Gen fun G back => ?_
      rcases qz122 with ⟨qs, y5, hz123, u', hF2, hM2, hCr, hCq⟩
      refine back ?_
      clear back
      clear G
      subst hz123
      refine ⟨hF2.trans hFh.symm, ?_⟩
      rw [List.length_map, hC.1, List.take_length] at hCq
      exact hq0 .next _ _ ⟨M, qs, M, _, _, _, _, rfl, u', hM2, hCq⟩
  · intro l h qz124
    refine Gen fun G back => ?_
    rcases qz124 with ⟨F', rs, M, x2, x3, x4, x5, hz125, u, hF', hC⟩
    refine back ?_
    clear back
    clear G
    subst hz125
    refine ⟨(u.at hts).trans hR0.symm, ?_⟩
    rw [List.length_map, htl] at hC
    exact hQ h F' rs M u hF' hC
theorem rowsAt_of {M : Addr} {h : HP} {r : Addr} {N : Nat} {x Mo : Nat → Nat} {row : List (Nat × Nat)} (hr : row ∈ chL x Mo N) (hx : RowX M h r row) : RowsAt h r N (fun j => ((row[j]?).map (·.1)).getD 0) Mo := by
  refine Gen fun G back => ?_
  rcases hx with ⟨-, ts, h1, h2, -, h4⟩
  refine back ?_
  clear back
  clear G
  obtain ⟨l1, l2⟩ := chL_row hr
  refine ⟨ts, h1, by (first | lia | omega), fun j t ht => ?_⟩
  have hj := (List.getElem?_eq_some_iff.mp ht).1
  have hb : row[j]? = some row[j] := List.getElem?_eq_getElem (by (first | lia | omega))
  have := h4 j t _ ht hb
  rw [(l2 j _ hb).1] at this
  rw [this]
  show _ = some (O.tup [.int ((((row[j]?).map (·.1)).getD 0 : Nat) : Int), .int (Mo j)])
  rw [hb]; rfl
noncomputable def ownI (M : Nat) (n : Int) : List Int := if M < 2000 then rootsI M n else []
theorem pp_lt {Mo : Nat → Nat} : ∀ {n : Nat}, (∀ j, j < n → Mo j < 2 ^ 60) → pp Mo n ≤ (2 ^ 60) ^ n
  | 0, _ => Nat.le_refl _
  | n + 1, h => by
    have h1 := pp_lt (n := n) fun j hj => h j (by (first | lia | omega))
    have h2 := h n (by (first | lia | omega))
    rw [Nat.pow_succ]
    exact Nat.mul_le_mul h1 (Nat.le_of_lt h2)
theorem pp_bd {N : Nat} {P E : Nat → Nat} (h : ModOk N P E) (hN : N ≤ 4) : pp (mo P E) N < 2 ^ 250 ∧ 0 < pp (mo P E) N := by
  refine ⟨?_, pp_pos fun j hj => (h.mo hj).1⟩
  have h1 := pp_lt (Mo := mo P E) (n := N) fun j hj => (h.mo hj).2.1
  have h2 : (2 ^ 60) ^ N ≤ (2 ^ 60) ^ 4 := Nat.pow_le_pow_right (by decide) hN
  exact Nat.lt_of_le_of_lt (Nat.le_trans h1 h2) (by decide)
theorem fin_exec {w mean mg mb} {d : Nat} {h : HP} {A1 A2 A5 A8 A11 c0 c6 : Addr} {x3 x4 x7 x9 x10 : V} {N : Nat} {P E x : Nat → Nat} {n : Int} (hN : 2 ≤ N ∧ N ≤ 4) (ho : RootsOk N P E x n) (h0 : h c0 = some (.cell (.int n))) (h6 : h c6 = some (.cell (.int (pp (mo P E) N : Nat))))
    (h8 : RowsAt h A8 N x (mo P E)) (h11 : h A11 = some (.list ((ownI (pp (mo P E) N) n).map .int))) {Q : V → HP → Prop} (hQ : ∀ h', Upto [] h h' → Q (.bool true) h') :
    exec (gg w mean mg mb) (d + 5) (dropS 6 m_l_right) [.cell c0, .ref A1, .ref A2, x3, x4, .ref A5, .cell c6, x7, .ref A8, x9, x10, .ref A11, .unb, .unb] h (retQ Q) noX := by
  have hlen : (chL x (mo P E) N).length ≤ 16 := by
    have h1 := chL_len x (mo P E) N
    have : 2 ^ N ≤ 2 ^ 4 := Nat.pow_le_pow_right (by decide) hN.2
    (first | lia | omega)
  refine call_l_choices (choices_exec (by (first | lia | omega)) h8 ho.lt fun h1 F rs M u1 hF hC => ?_)
  have hrl := hC.1
  refine ⟨rfl, rs.map .ref, by rw [hF]; rfl, by rw [List.length_map]; (first | lia | omega), ?_⟩
  refine ⟨fun k acc h' => ∃ ms : List Nat, acc = ms.map (fun (y : Nat) => V.int y) ∧ ms.length = k ∧ (∀ (i : Nat) row v, (chL x (mo P E) N)[i]? = some row → ms[i]? = some v → CrtV (mo P E) N row v) ∧ Upto [] h1 h', ⟨[], rfl, rfl, fun i row v _ h => by simp at h, .refl⟩, ?_, ?_⟩
  · intro k y acc h' hy qz126
    refine Gen fun G back => ?_
    rcases qz126 with ⟨ms, hz127, hml, hms, u2⟩
    refine back ?_
    clear back
    clear G
    subst hz127
    have hk : k < rs.length := by
      have := (List.getElem?_eq_some_iff.mp hy).1
      rwa [List.length_map] at this
    have hye : y = .ref rs[k] := by
      rw [List.getElem?_map, List.getElem?_eq_getElem hk] at hy
      exact (Option.some.inj hy).symm
    subst hye
    have hk' : k < (chL x (mo P E) N).length := by (first | lia | omega)
    have hrow := (hC.2 k _ _ (List.getElem?_eq_getElem hk) (List.getElem?_eq_getElem hk')).up (u2.mono (by simp))
    refine ⟨(u2.at hF).trans hF.symm, by simp [sizeLine_eq]; (first | lia | omega), fun _ => ?_, (fun q => nomatch q)⟩
    refine call_CRT (CRT_exec ⟨hN.1, by (first | lia | omega)⟩ (rowsAt_of (List.getElem_mem hk') hrow) (fun j hj => ⟨(ho.md.mo hj).1, (ho.md.mo hj).2.1⟩) (fun i j hij hj => ho.md.cop hij hj) fun v h2 u3 hv1 hv2 => ?_)
    refine ⟨ms ++ [v], by rw [List.map_append]; rfl, by simp [hml], fun i row v' hi hv' => ?_, u2.trans u3⟩
    rcases Nat.lt_or_ge i ms.length with q | q
    · rw [List.getElem?_append_left q] at hv'; exact hms i row v' hi hv'
    · rw [List.getElem?_append_right q] at hv'
      have hj0 : i - ms.length = 0 := by
        rcases Nat.eq_zero_or_pos (i - ms.length) with z0 | z0
        · exact z0
        · rw [List.getElem?_eq_none (by simp; (first | lia | omega))] at hv'; cases hv'
      rw [hj0] at hv'
      cases hv'
      have hik : i = k := by (first | lia | omega)
      subst hik
      rw [List.getElem?_eq_getElem hk'] at hi
      cases hi
      obtain ⟨l1, l2⟩ := chL_row (List.getElem_mem hk')
      refine ⟨hv1, fun j a ha => ?_⟩
      have hj := (List.getElem?_eq_some_iff.mp ha).1
      have := hv2 j (by (first | lia | omega))
      rw [(l2 j a ha).1]
      rwa [ha] at this
  · intro acc h2 qz128
    refine Gen fun G back => ?_
    rcases qz128 with ⟨ms, hz129, hml, hms, u2⟩
    refine back ?_
    clear back
    clear G
    subst hz129
    refine ⟨(u2.at hF).trans hF.symm, fun rm nrm => ?_⟩
    rw [List.length_map, hrl] at hml
    have ht : Told N P E x ms := ⟨hml, hms⟩
    refine ⟨ms.map fun (y : Nat) => (y : Int), by rw [hset_same, List.map_map]; rfl, by simp; (first | lia | omega), fun told hp hs => ?_⟩
    have hte := told_eq ho ht hp hs
    have htl := told_len ho ht
    have hnd := rootsI_nodup (pp (mo P E) N) n
    subst hte
    intro T nT
    have u3 : Upto [] h1 (hset h2 rm (.list (ms.map fun (y : Nat) => V.int y))) := u2.trans (.new nrm)
    have u4 := u3.trans (.new nT (o := .list ((rootsI (pp (mo P E) N) n).map .int)))
    have hT : (hset (hset h2 rm (.list (ms.map fun (y : Nat) => V.int y))) T (.list ((rootsI (pp (mo P E) N) n).map .int))) T = some (.list ((rootsI (pp (mo P E) N) n).map .int)) := hset_same
    generalize hset (hset h2 rm (.list (ms.map fun (y : Nat) => V.int y))) T (.list ((rootsI (pp (mo P E) N) n).map .int)) = h5 at *
    have hF5 := u4.at hF
    have u5 := u1.trans u4
    have h05 := u5.at h0
    have h65 := u5.at h6
    have h115 := u5.at h11
    have hbd := pp_bd ho.md hN.2
    have hroot : ∀ z ∈ rootsI (pp (mo P E) N) n, 0 ≤ z ∧ z < (pp (mo P E) N : Nat) ∧ ((pp (mo P E) N : Nat) : Int) ∣ z * z - n := by
      intro z hz
      obtain ⟨v, hv, rfl⟩ := List.mem_map.mp hz
      obtain ⟨a, b⟩ := mem_roots.mp hv
      exact ⟨by (first | lia | omega), by (first | lia | omega), b⟩
    generalize hRI : rootsI (pp (mo P E) N) n = RI at *
    generalize hpM : pp (mo P E) N = M at *
    refine ⟨RI, by rw [hT]; rfl, by (first | lia | omega), hnd, ?_⟩
    refine ⟨rs.map .ref, by rw [hF5]; rfl, by rw [List.length_map]; (first | lia | omega), ?_⟩
    rw [List.length_map]
    refine ⟨fun t => absurd (show (RI.length : Int) = rs.length by (first | lia | omega)) (cne_t.mp t), fun _ => ?_⟩
    refine ⟨rfl, RI.map .int, by rw [hT]; rfl, by rw [List.length_map]; (first | lia | omega), ?_⟩
    refine ⟨fun k acc h' => acc = [] ∧ h' = h5, ⟨rfl, rfl⟩, ?_, ?_⟩
    · rintro k y acc h' hy ⟨rfl, rfl⟩
      obtain ⟨z, hz, rfl⟩ := mem_ints hy
      obtain ⟨z0, z1, z2⟩ := hroot z hz
      refine ⟨rfl, by simp, ?_⟩
      refine ⟨fun _ => ⟨_, h65, (fun q => nomatch q), ?_⟩, fun t => absurd (cle_f.mp t) (by (first | lia | omega))⟩
      refine ⟨fun t => absurd (clt_f.mp (not_t.mp t)) (by (first | lia | omega)), fun _ => ?_⟩
      have hb : Bd 250 z := Nat.lt_trans (show z.natAbs < M by (first | lia | omega)) hbd.1
      refine ⟨hb.mulOk hb, _, h05, (fun q => nomatch q), trivial, _, h65, (fun q => nomatch q), (show ((M : Nat) : Int) ≠ 0 by (first | lia | omega)), ?_⟩
      refine ⟨fun t => absurd (Int.fmod_eq_zero_of_dvd z2) (cne_t.mp t), fun _ => ⟨rfl, rfl⟩⟩
    · rintro acc h' ⟨rfl, rfl⟩
      refine ⟨rfl, fun r nr => ⟨by simp [sizeLine_eq], fun r2 nr2 => ?_⟩⟩
      have u6 : Upto [] h' (hset (hset h' r (.list [])) r2 (.list [])) := (Upto.new nr).trans (Upto.new nr2)
      have hr2 : r ≠ r2 := Ne.symm (hset_none.mp nr2).1
      refine cmpL_ne (ns := []) (ms := []) (by rw [hset_ne hr2, hset_same]; rfl) (by rw [hset_same]; rfl) rfl ⟨(fun q => nomatch q), fun _ => ?_⟩
      have hT6 := u6.at hT
      have h66 := u6.at h65
      have h116 := u6.at h115
      have hq := hQ _ (u5.trans u6)
      generalize hset (hset h' r (.list [])) r2 (.list []) = h9 at *
      refine ⟨_, h66, (fun q => nomatch q), ?_⟩
      refine ⟨fun t => ?_, fun t => ?_⟩
      · show Q (.bool (cmpI (M : Nat) 2000 .ge)) h9
        have t : cmpI (M : Nat) 2000 .ge = true := t
        rw [t]; exact hq
      · have hM : ((M : Nat) : Int) < 2000 := cge_f.mp t
        refine cmpL (Q := fun t => Q (.bool t) h9) (.inl rfl) hT6 h116 ?_
        rw [if_pos rfl, show ownI M n = RI by unfold ownI; rw [if_pos (by (first | lia | omega)), ← hRI], decide_eq_true rfl]
        exact hq
theorem filt_step {f : Nat → Bool} {k : Nat} {g : Nat → V} (h : f k = true) : ((List.range (k + 1)).filter f).map g = ((List.range k).filter f).map g ++ [g k] := by
  rw [List.range_succ, List.filter_append, List.map_append]; simp [h]
theorem filt_skip {f : Nat → Bool} {k : Nat} {g : Nat → V} (h : f k = false) : ((List.range (k + 1)).filter f).map g = ((List.range k).filter f).map g := by
  rw [List.range_succ, List.filter_append, List.map_append]; simp [h]
theorem filt_len {f : Nat → Bool} {k : Nat} {g : Nat → V} (hk : k ≤ 10000) : (((List.range k).filter f).map g).length ≤ sizeLine := by
  have := List.length_filter_le f (List.range k)
  rw [List.length_range] at this
  rw [List.length_map, sizeLine_eq]; (first | lia | omega)
noncomputable def RowsV (h : HP) (R : Addr) (n : Nat) (v : Nat → V) (Mo : Nat → Nat) : Prop := ∃ ts : List Addr, h R = some (.list (ts.map .ref)) ∧ ts.length = n ∧ ∀ (j : Nat) (t : Addr), ts[j]? = some t → h t = some (.tup [v j, .int (Mo j)])
theorem RowsV.up {h h' : HP} {R : Addr} {n : Nat} {v : Nat → V} {Mo : Nat → Nat} (r : RowsV h R n v Mo) (u : Upto [] h h') : RowsV h' R n v Mo := by
  refine Gen fun G back => ?_
  rcases r with ⟨ts, h1, h2, h3⟩
  refine back ?_
  clear back
  clear G
  exact ⟨ts, u.at h1, h2, fun j t e => u.at (h3 j t e)⟩
theorem inV_none : ∀ {vs : List V}, (∀ v ∈ vs, v = .none ∨ ∃ i, v = .int i) → ∃ t, inV .none vs = some t ∧ (t = true ↔ V.none ∈ vs)
  | [], _ => ⟨false, rfl, by simp⟩
  | v :: r, h => by
    obtain ⟨t, h1, h2⟩ := inV_none fun v hv => h v (.tail _ hv)
    rcases h v (.head _) with rfl | ⟨i, rfl⟩
    · exact ⟨true, by simp [inV, eqI, orO, h1], by simp⟩
    · exact ⟨t, by simp [inV, eqI, orO, h1], by simp [h2]⟩
theorem inV_int {z : Int} : ∀ (ns : List Int), inV (.int z) (ns.map .int) = some (ns.any (· == z))
  | [] => rfl
  | y :: r => by
    have := inV_int (z := z) r
    simp [inV, eqI, orO, this]
theorem own_exec {w mean mg mb} {d : Nat} {h : HP} {l : List V} {c0 c6 : Addr} {n : Int} {M : Nat} (hM : 0 < M) (l6 : lget l 6 = .cell c6) (l0 : lget l 0 = .cell c0) (h0 : h c0 = some (.cell (.int n))) (h6 : h c6 = some (.cell (.int (M : Nat)))) {Q : V → HP → Prop} {X : XT}
    (hQ : ∀ h' a, Upto [] h h' → h' a = some (.list ((ownI M n).map .int)) → Q (.ref a) h') :
    ev (gg w mean mg mb) d (.ite (.cmp .lt (.cvar 6) (.int 2000)) (.compR (.int 0) (.cvar 6) (.int 1) (.cmp .eq (.bin .mod (.toInt (.bin .sub (.bin .mul (.var 0) (.var 0)) (.cvar 2))) (.cvar 1)) (.int 0)) (.var 0) [6, 0]) (.list .nil)) l h Q X := by
  have cv : ∀ {K : V → Prop}, K (.int (M : Nat)) → cvarV l 6 h K := fun hk => by unfold cvarV; rw [l6]; exact ⟨_, h6, (fun q => nomatch q), hk⟩
  refine cv ⟨fun t => ?_, fun t => ?_⟩
  · have hlt : ((M : Nat) : Int) < 2000 := clt_t.mp t
    refine ⟨by simp [cellsB, l6, l0], cv ⟨(show (1 : Int) ≠ 0 by decide), small_one (by decide) (by decide) (by (first | lia | omega)) (by (first | lia | omega)), ?_⟩⟩
    have ecap : capsV l [6, 0] = [.cell c6, .cell c0] := by simp [capsV, l6, l0]
    rw [ecap]
    refine compUp M (by (first | lia | omega)) (fun j acc h' => acc = ((List.range j).filter fun (y : Nat) => decide (((y : Int) * y - n) % (M : Nat) = 0)).map (fun (y : Nat) => V.int y) ∧ h' = h) ⟨rfl, rfl⟩ ?_ ?_
    · rintro k acc h' hk ⟨rfl, rfl⟩
      refine ⟨filt_len (by (first | lia | omega)), ?_⟩
      refine ⟨mul_small_left (show ((0 : Int) + k).natAbs < 2 ^ 64 by (first | lia | omega)), _, h0, (fun q => nomatch q), trivial, _, h6, (fun q => nomatch q), (show ((M : Nat) : Int) ≠ 0 by (first | lia | omega)), ?_⟩
      have e1 : intOp (intOp (intOp ((0 : Int) + k) ((0 : Int) + k) .mul) n .sub) ((M : Nat) : Int) .mod = ((k : Int) * k - n) % (M : Nat) := by
        show (((0 : Int) + k) * ((0 : Int) + k) - n).fmod _ = _
        rw [Int.fmod_eq_emod_of_nonneg _ (Int.natCast_nonneg _), Int.zero_add]
      refine ⟨fun t => ⟨?_, rfl⟩, fun t => ⟨?_, rfl⟩⟩
      · have t : intOp (intOp (intOp ((0 : Int) + k) ((0 : Int) + k) .mul) n .sub) ((M : Nat) : Int) .mod = 0 := ceq_t.mp t
        rw [e1] at t
        rw [filt_step (decide_eq_true t)]
        show _ ++ [V.int ((0 : Int) + k)] = _
        rw [Int.zero_add]
      · have t : intOp (intOp (intOp ((0 : Int) + k) ((0 : Int) + k) .mul) n .sub) ((M : Nat) : Int) .mod ≠ 0 := ceq_f.mp t
        rw [e1] at t
        rw [filt_skip (decide_eq_false t)]
    · rintro acc h' ⟨rfl, rfl⟩
      intro a na
      refine hQ _ a (.new na) ?_
      rw [hset_same]
      unfold ownI
      rw [if_pos (by (first | lia | omega))]
      unfold rootsI rootsL
      rw [List.map_map]; rfl
  · have hlt : (2000 : Int) ≤ (M : Nat) := clt_f.mp t
    refine ⟨by simp [sizeLine_eq], fun a na => hQ _ a (.new na) ?_⟩
    rw [hset_same]
    unfold ownI
    rw [if_neg (by (first | lia | omega))]; rfl
noncomputable def natsL (f : Nat → Nat) (N : Nat) : List V := (List.range N).map fun j => .int (f j : Nat)
noncomputable def symI (P : Nat → Nat) (n : Int) (N : Nat) : List Int := (List.range N).map fun j => jg (n % (P j : Int)).toNat (P j)
theorem tail_exec {w mean mg mb} {d : Nat} {h : HP} {A1 A2 A5 A8 c0 c6 : Addr} {x3 x4 x9 x10 : V} {N : Nat} {P E : Nat → Nat} {v : Nat → V} {n : Int} (hN : 2 ≤ N ∧ N ≤ 4) (md : ModOk N P E) (h0 : h c0 = some (.cell (.int n))) (h6 : h c6 = some (.cell (.int (pp (mo P E) N : Nat))))
    (h1 : h A1 = some (.list (natsL P N))) (h8 : RowsV h A8 N v (mo P E)) (hv : ∀ j, j < N → RootV (P j) (E j) n (v j)) {Q : V → HP → Prop} (hQ : ∀ h', Upto [] h h' → Q (.bool true) h') :
    exec (gg w mean mg mb) (d + 5) (dropS 3 m_l_right) [.cell c0, .ref A1, .ref A2, x3, x4, .ref A5, .cell c6, .int (sg P E n N), .ref A8, x9, x10, .unb, .unb, .unb] h (retQ Q) noX := by
  obtain ⟨hjg, hodd⟩ := sg_ok md n N (Nat.le_refl _)
  have hMpos := (pp_bd md hN.2).2
  refine ⟨_, h0, (fun q => nomatch q), _, h6, (fun q => nomatch q), ?_⟩
  refine call_legendre (leg_exec hodd ?_)
  rw [hjg]
  refine ⟨fun t => absurd rfl (cne_t.mp t), fun _ => ?_⟩
  refine own_exec (w := w) (mean := mean) (mg := mg) (mb := mb) (d := d + 5) (X := noX) (l := [.cell c0, .ref A1, .ref A2, x3, x4, .ref A5, .cell c6, .int (sg P E n N), .ref A8, x9, x10, .unb, .unb, .unb]) (c0 := c0) (c6 := c6) (n := n) (M := pp (mo P E) N) hMpos rfl rfl h0 h6 fun h2 A11 u2 h11 => ?_
  refine Gen fun G back => ?_
  rcases h8.up u2 with ⟨ts, hts, htl, htj⟩
  refine back ?_
  clear back
  clear G
  refine ⟨rfl, ts.map .ref, by rw [hts]; rfl, by rw [List.length_map]; (first | lia | omega), ?_⟩
  refine ⟨fun k acc h' => acc = (List.range k).map v ∧ h' = h2, ⟨rfl, rfl⟩, ?_, ?_⟩
  · rintro k y acc h' hy ⟨rfl, rfl⟩
    have hk : k < ts.length := by
      have := (List.getElem?_eq_some_iff.mp hy).1
      rwa [List.length_map] at this
    have hye : y = .ref ts[k] := by
      rw [List.getElem?_map, List.getElem?_eq_getElem hk] at hy
      exact (Option.some.inj hy).symm
    subst hye
    refine ⟨rfl, by simp [sizeLine_eq]; (first | lia | omega), _, htj k _ (List.getElem?_eq_getElem hk), rfl, fun _ => ?_, (fun q => nomatch q)⟩
    show varV ([v k, .int (mo P E k)] ++ _) 0 fun v2 => _
    have hvk := hv k (by (first | lia | omega))
    rcases hvk with ⟨e, -⟩ | ⟨x, e, -⟩
    · show (match v k with | .unb => False | .cell _ => False | v => _)
      rw [e]
      exact ⟨by rw [List.range_succ, List.map_append, List.map_cons, e]; rfl, rfl⟩
    · show (match v k with | .unb => False | .cell _ => False | v => _)
      rw [e]
      exact ⟨by rw [List.range_succ, List.map_append, List.map_cons, e]; rfl, rfl⟩
  · rintro acc h' ⟨rfl, rfl⟩
    rw [List.length_map, htl]
    refine ⟨rfl, fun B nB => ?_⟩
    have uB : Upto [] h' (hset h' B (.list ((List.range N).map v))) := .new nB
    have hB : (hset h' B (.list ((List.range N).map v))) B = some (.list ((List.range N).map v)) := hset_same
    have u3 := u2.trans uB
    have h03 := u3.at h0
    have h63 := u3.at h6
    have h13 := u3.at h1
    have h83 := h8.up u3
    have h113 := uB.at h11
    generalize hset h' B (.list ((List.range N).map v)) = h3 at *
    obtain ⟨t, ht1, ht2⟩ := inV_none (vs := (List.range N).map v) fun y hy => by
      obtain ⟨j, hj, rfl⟩ := List.mem_map.mp hy
      rcases hv j (List.mem_range.mp hj) with ⟨e, -⟩ | ⟨x, e, -⟩
      · exact .inl e
      · exact .inr ⟨x, e⟩
    refine ⟨_, t, by rw [hB]; rfl, ht1, ?_⟩
    refine ⟨fun t1 => ?_, fun t1 => ?_⟩
    · have htt : t = true := by cases t; cases t1; rfl
      obtain ⟨j, hj, hvj⟩ := List.mem_map.mp (ht2.mp htt)
      have hjN := List.mem_range.mp hj
      refine ⟨by simp [sizeLine_eq], fun C nC => ?_⟩
      have uC : Upto [] h3 (hset h3 C (.list [])) := .new nC
      have hC : (hset h3 C (.list [])) C = some (.list []) := hset_same
      have u4 := u3.trans uC
      have h04 := uC.at h03
      have h14 := uC.at h13
      have h114 := uC.at h113
      generalize hset h3 C (.list []) = h4 at *
      refine cmpL (.inl rfl) h114 (ms := []) hC ?_
      rw [if_pos rfl]
      refine ⟨fun t2 => ?_, fun t2 => ?_⟩
      · show Q (.bool (decide (ownI (pp (mo P E) N) n = []))) h4
        have t2 : decide (ownI (pp (mo P E) N) n = []) = true := t2
        rw [t2]; exact hQ _ u4
      · have t2 : ownI (pp (mo P E) N) n ≠ [] := of_decide_eq_false t2
        have hz : jg (n % (P j : Int)).toNat (P j) = 0 := by
          rcases jg_vals (md.pr j hjN).pr (n % (P j : Int)).toNat with q | q | q
          · exact q
          · rcases hv j hjN with ⟨-, e⟩ | ⟨x, e, -⟩
            · unfold hasR at e
              exact absurd (.inl q) (of_decide_eq_false e)
            · rw [hvj] at e; cases e
          · exfalso; apply t2
            unfold ownI
            split
            · exact no_root md hjN q
            · rfl
        refine ⟨rfl, natsL P N, by rw [h14]; rfl, by simp [natsL]; (first | lia | omega), ?_⟩
        refine ⟨fun k acc h' => acc = (symI P n k).map .int ∧ Upto [] h4 h', ⟨rfl, .refl⟩, ?_, ?_⟩
        · rintro k y acc h' hy ⟨rfl, u5⟩
          have hk : k < N := by
            have := (List.getElem?_eq_some_iff.mp hy).1
            simpa [natsL] using this
          have hye : y = .int (P k : Nat) := by
            simp [natsL, hk] at hy
            exact hy.symm
          subst hye
          refine ⟨(u5.at h14).trans h14.symm, by simp [symI, sizeLine_eq]; (first | lia | omega), fun _ => ?_, (fun q => nomatch q)⟩
          refine ⟨_, u5.at h04, (fun q => nomatch q), ?_⟩
          refine call_l_symbol (symbol_exec (md.pr k hk) (md.le k hk) ⟨?_, u5⟩)
          simp [symI, List.range_succ]
        · rintro acc h' ⟨rfl, u5⟩
          refine ⟨(u5.at h14).trans h14.symm, fun D nD => ?_⟩
          refine ⟨_, _, by rw [hset_same]; rfl, inV_int _, ?_⟩
          have : (symI P n (natsL P N).length).any (· == 0) = true := by
            refine List.any_eq_true.mpr ⟨0, ?_, rfl⟩
            refine List.mem_map.mpr ⟨j, ?_, hz⟩
            simpa [natsL] using hjN
          rw [this]
          exact hQ _ ((u4.trans u5).trans (.new nD))
    · have htt : t = false := by cases t; rfl; cases t1
      have hall : ∀ j, j < N → ∃ x : Nat, v j = .int x ∧ hasR (P j) (E j) n = true ∧ x < P j ^ E j ∧ ((P j ^ E j : Nat) : Int) ∣ (x : Int) * x - n ∧ (x = 0 ∧ E j = 1 ∧ (P j : Int) ∣ n ∨ 0 < x ∧ ¬ (P j : Int) ∣ n) := fun j hj => by
        rcases hv j hj with ⟨e, -⟩ | h
        · exact absurd (ht2.mpr (List.mem_map.mpr ⟨j, List.mem_range.mpr hj, e⟩)) (by rw [htt]; decide)
        · exact h
      have hex : ∀ j, ∃ x : Nat, j < N → v j = .int x ∧ hasR (P j) (E j) n = true ∧ x < P j ^ E j ∧ ((P j ^ E j : Nat) : Int) ∣ (x : Int) * x - n ∧ (x = 0 ∧ E j = 1 ∧ (P j : Int) ∣ n ∨ 0 < x ∧ ¬ (P j : Int) ∣ n) := fun j => by
        by_cases hj : j < N
        · obtain ⟨x, hx⟩ := hall j hj; exact ⟨x, fun _ => hx⟩
        · exact ⟨0, fun q => absurd q hj⟩
      obtain ⟨x, hx⟩ : ∃ x : Nat → Nat, ∀ j, j < N → v j = .int (x j : Nat) ∧ hasR (P j) (E j) n = true ∧ x j < P j ^ E j ∧ ((P j ^ E j : Nat) : Int) ∣ ((x j : Nat) : Int) * (x j : Nat) - n ∧ (x j = 0 ∧ E j = 1 ∧ (P j : Int) ∣ n ∨ 0 < x j ∧ ¬ (P j : Int) ∣ n) :=
        ⟨fun j => Classical.choose (hex j), fun j => Classical.choose_spec (hex j)⟩
      have ho : RootsOk N P E x n := ⟨md, fun j hj => (hx j hj).2.2.1, fun j hj => (hx j hj).2.2.2.1, fun j hj => (hx j hj).2.2.2.2⟩
      have hR : RowsAt h3 A8 N x (mo P E) := by
        refine Gen fun G back => ?_
        rcases h83 with ⟨ts, q1, q2, q3⟩
        refine back ?_
        clear back
        clear G
        refine ⟨ts, q1, q2, fun j t e => ?_⟩
        have hj := (List.getElem?_eq_some_iff.mp e).1
        rw [q3 j t e, (hx j (by (first | lia | omega))).1]
      exact fin_exec (N := N) (P := P) (E := E) (x := x) (n := n) hN ho h03 h63 hR h113 fun h' u' => hQ h' (u3.trans u')
theorem natsL_len (f : Nat → Nat) (N : Nat) : (natsL f N).length = N := by simp [natsL]
theorem natsL_at (f : Nat → Nat) {N k : Nat} (h : k < N) : vAt (natsL f N) k = .int (f k : Nat) := vAt_get (by simp [natsL, h])
theorem natsL_succ (f : Nat → Nat) (k : Nat) : natsL f (k + 1) = natsL f k ++ [.int (f k : Nat)] := by simp [natsL, List.range_succ]
theorem natsL_ne {f : Nat → Nat} {N : Nat} {ts : List Addr} (h : 0 < N) (e : natsL f N = ts.map .ref) : False := by
  have h1 : (natsL f N)[0]? = some (.int (f 0 : Nat)) := by simp [natsL, h]
  rw [e, List.getElem?_map] at h1
  cases q : ts[0]? <;> rw [q] at h1 <;> cases h1
structure RSt (h : HP) (A1 A2 A5 A8 c0 c6 : Addr) (N : Nat) (P E : Nat → Nat) (n : Int) (k : Nat) : Prop where
  ne : c6 ≠ c0
  k0 : h c0 = some (.cell (.int n))
  k6 : h c6 = some (.cell (.int (pp (mo P E) k : Nat)))
  k1 : h A1 = some (.list (natsL P N))
  k2 : h A2 = some (.list (natsL E N))
  k5 : h A5 = some (.list (natsL (mo P E) N))
  rows : ∃ (ts : List Addr) (v : Nat → V), h A8 = some (.list (ts.map .ref)) ∧ ts.length = k ∧ (∀ t ∈ ts, t ≠ c6 ∧ t ≠ A8) ∧ (∀ (j : Nat) (t : Addr), ts[j]? = some t → h t = some (.tup [v j, .int (mo P E j)])) ∧ ∀ j, j < k → RootV (P j) (E j) n (v j)
noncomputable def rightTurn : MS := loopB (seq1 (dropS 2 m_l_right))
theorem rturn_exec {w mean mg mb} {d : Nat} {h : HP} {A1 A2 A5 A8 c0 c6 : Addr} {x10 : V} {N k : Nat} {P E : Nat → Nat} {n : Int} (hN : 2 ≤ N ∧ N ≤ 4) (md : ModOk N P E) (hk : k < N) (S : RSt h A1 A2 A5 A8 c0 c6 N P E n k)
    {Q : Out → List V → HP → Prop}
    (hQ : ∀ h' y10, Upto [c6, A8] h h' → RSt h' A1 A2 A5 A8 c0 c6 N P E n (k + 1) → Q .next [.cell c0, .ref A1, .ref A2, .int (P k : Nat), .int (E k : Nat), .ref A5, .cell c6, .int (sg P E n (k + 1)), .ref A8, .int (mo P E k : Nat), y10, .unb, .unb, .unb] h') :
    exec (gg w mean mg mb) (d + 5) rightTurn [.cell c0, .ref A1, .ref A2, .int (P k : Nat), .int (E k : Nat), .ref A5, .cell c6, .int (sg P E n k), .ref A8, .int (mo P E k : Nat), x10, .unb, .unb, .unb] h Q noX := by
  have hp := md.pr k hk
  have hm := md.mo hk
  have he := md.e1 k hk
  have hne : ∀ {a b : Addr} {o o' : O}, h a = some o → h b = some o' → o ≠ o' → a ≠ b := fun ha hb hoo q => by subst q; rw [ha] at hb; exact hoo (Option.some.inj hb)
  refine Gen fun G back => ?_
  rcases S.rows with ⟨ts, v, ha8, htl, htn, htj, hvj⟩
  refine back ?_
  clear back
  clear G
  have h86 : A8 ≠ c6 := hne ha8 S.k6 (fun q => nomatch q)
  refine ⟨_, S.k6, (fun q => nomatch q), mul_small_right (by (first | lia | omega)), _, S.k0, (fun q => nomatch q), ?_⟩
  refine call_l_symbol (symbol_exec hp (md.le k hk) ?_)
  have hjv := jg_vals hp.pr (n % (P k : Int)).toNat
  have hj1 : (jg (n % (P k : Int)).toNat (P k)).natAbs < 2 ^ 60 := by rcases hjv with q | q | q <;> rw [q] <;> decide
  have hj2 : (jg (n % (P k : Int)).toNat (P k) ^ E k).natAbs < 2 ^ 64 := by
    rw [Int.natAbs_pow]
    refine Nat.lt_of_le_of_lt (Nat.pow_le_pow_left (m := 1) ?_ _) (by rw [Nat.one_pow]; decide)
    rcases hjv with q | q | q <;> rw [q] <;> decide
  refine call_l_power (power_exec hj1 (by (first | lia | omega)) ⟨mul_small_right hj2, ?_⟩)
  refine ⟨⟨_, S.k6⟩, ?_⟩
  have e6 : ((pp (mo P E) k : Nat) : Int) * (mo P E k : Nat) = (pp (mo P E) (k + 1) : Nat) := by rw [← Int.natCast_mul]; rfl
  have hA60 := hset_ne (h := h) (o := .cell (.int (pp (mo P E) (k + 1) : Nat))) (Ne.symm S.ne)
  show exec (gg w mean mg mb) (d + 5) _ [.cell c0, .ref A1, .ref A2, .int (P k : Nat), .int (E k : Nat), .ref A5, .cell c6, .int (sg P E n (k + 1)), .ref A8, .int (mo P E k : Nat), x10, .unb, .unb, .unb] (hset h c6 (.cell (.int (((pp (mo P E) k : Nat) : Int) * (mo P E k : Nat))))) Q noX
  rw [e6]
  have u1 : Upto [c6, A8] h (hset h c6 (.cell (.int (pp (mo P E) (k + 1) : Nat)))) := .set (.head _)
  have k61 : (hset h c6 (.cell (.int (pp (mo P E) (k + 1) : Nat)))) c6 = some (.cell (.int (pp (mo P E) (k + 1) : Nat))) := hset_same
  have ko : ∀ {a : Addr} {o : O}, h a = some o → a ≠ c6 → (hset h c6 (.cell (.int (pp (mo P E) (k + 1) : Nat)))) a = some o := fun ha hn => by rw [hset_ne hn]; exact ha
  have k01 := ko S.k0 (Ne.symm S.ne)
  have k11 := ko S.k1 (hne S.k1 S.k6 (fun q => nomatch q))
  have k21 := ko S.k2 (hne S.k2 S.k6 (fun q => nomatch q))
  have k51 := ko S.k5 (hne S.k5 S.k6 (fun q => nomatch q))
  have k81 := ko ha8 h86
  have kt1 : ∀ (j : Nat) (t : Addr), ts[j]? = some t → (hset h c6 (.cell (.int (pp (mo P E) (k + 1) : Nat)))) t = some (.tup [v j, .int (mo P E j)]) := fun j t e => ko (htj j t e) (htn t (List.mem_of_getElem? e)).1
  generalize hset h c6 (.cell (.int (pp (mo P E) (k + 1) : Nat))) = h1 at *
  clear hA60
  refine ⟨_, k01, (fun q => nomatch q), ?_⟩
  refine call_l_root (root_exec hp he.1 hm.2.1 fun h2 vk u2 hvk => ?_)
  have fin : ∀ (h3 : HP) , Upto [] h2 h3 → vk ≠ .unb → (∀ a, vk ≠ .cell a) → exec (gg w mean mg mb) (d + 5) (.seq (.expr (.app (.var 8) (.tup (.cons (.var 10) (.cons (.var 9) .nil))))) .skip) [.cell c0, .ref A1, .ref A2, .int (P k : Nat), .int (E k : Nat), .ref A5, .cell c6, .int (sg P E n (k + 1)), .ref A8, .int (mo P E k : Nat), vk, .unb, .unb, .unb] h3 Q noX := by
    intro h3 u3 hv1 hv2
    have u23 := u2.trans u3
    have k83 := u23.at k81
    refine ⟨⟨_, k83⟩, ?_⟩
    have hvar : ∀ {K : V → Prop}, K vk → varV [.cell c0, .ref A1, .ref A2, .int (P k : Nat), .int (E k : Nat), .ref A5, .cell c6, .int (sg P E n (k + 1)), .ref A8, .int (mo P E k : Nat), vk, .unb, .unb, .unb] 10 K := fun hK => by
      cases vk <;> first | exact absurd rfl hv1 | exact absurd rfl (hv2 _) | exact hK
    refine hvar ⟨by simp [sizeLine_eq], fun r nr => ?_⟩
    have hr8 : r ≠ A8 := fun q => by rw [q, k83] at nr; cases nr
    have hr6 : r ≠ c6 := fun q => by rw [q, u23.at k61] at nr; cases nr
    have u4 : Upto [] h3 (hset h3 r (.tup [vk, .int (mo P E k : Nat)])) := .new nr
    have u24 := u23.trans u4
    refine ⟨ts.map .ref, u24.at k81, by simp [sizeLine_eq]; (first | lia | omega), ?_⟩
    have ko : ∀ {a : Addr} {o o' : O}, h1 a = some o → a ≠ A8 → (hset (hset h3 r (.tup [vk, .int (mo P E k : Nat)])) A8 o') a = some o := fun ha hn => by rw [hset_ne hn]; exact u24.at ha
    have hne1 : ∀ {a b : Addr} {o o' : O}, h1 a = some o → h1 b = some o' → o ≠ o' → a ≠ b := fun ha hb hoo q => by subst q; rw [ha] at hb; exact hoo (Option.some.inj hb)
    have hl : ∀ f : Nat → Nat, O.list (natsL f N) ≠ O.list (ts.map .ref) := fun f q => natsL_ne (by (first | lia | omega)) (O.list.inj q)
    refine hQ _ vk ((u1.trans (u24.mono (by simp))).trans (.set (by simp))) ⟨S.ne, ko k01 (hne1 k01 k81 (fun q => nomatch q)), ko k61 (Ne.symm h86), ko k11 (hne1 k11 k81 (hl _)), ko k21 (hne1 k21 k81 (hl _)), ko k51 (hne1 k51 k81 (hl _)),
      ts ++ [r], fun j => if j = k then vk else v j, by rw [hset_same, List.map_append]; rfl, by simp [htl], fun t ht => ?_, fun j t ht => ?_, fun j hj => ?_⟩
    · rcases List.mem_append.mp ht with q | q
      · exact htn t q
      · rw [List.mem_singleton.mp q]; exact ⟨hr6, hr8⟩
    · rcases Nat.lt_or_ge j ts.length with q | q
      · rw [List.getElem?_append_left q] at ht
        show _ = some (O.tup [if j = k then vk else v j, .int (mo P E j : Nat)])
        rw [if_neg (by (first | lia | omega))]
        exact ko (kt1 j t ht) (htn t (List.mem_of_getElem? ht)).2
      · rw [List.getElem?_append_right q] at ht
        have hj0 : j - ts.length = 0 := by
          rcases Nat.eq_zero_or_pos (j - ts.length) with z0 | z0
          · exact z0
          · rw [List.getElem?_eq_none (by simp; (first | lia | omega))] at ht; cases ht
        rw [hj0] at ht
        cases ht
        have hjk : j = k := by (first | lia | omega)
        show _ = some (O.tup [if j = k then vk else v j, .int (mo P E j : Nat)])
        rw [if_pos hjk, hset_ne hr8, hset_same, hjk]; rfl
    · show RootV (P j) (E j) n (if j = k then vk else v j)
      by_cases q : j = k
      · rw [if_pos q, q]; exact hvk
      · rw [if_neg q]; exact hvj j (by (first | lia | omega))
  rcases hvk with ⟨rfl, hr⟩ | ⟨x, rfl, hr, hx1, hx2, -⟩
  · refine ⟨_, u2.at k01, (fun q => nomatch q), ?_⟩
    refine call_l_has_root (has_root_exec hp (md.le k hk) ?_)
    rw [hr]
    refine ⟨.bool false, .bool false, .bool _, .bool _, rfl, rfl, (fun q => nomatch q), fun _ => ?_⟩
    exact ⟨(fun q => nomatch q), fun _ => ⟨(fun q => nomatch q), fun _ => fin h2 .refl (fun q => nomatch q) (fun _ q => nomatch q)⟩⟩
  · refine ⟨_, u2.at k01, (fun q => nomatch q), ?_⟩
    refine call_l_has_root (has_root_exec hp (md.le k hk) ?_)
    rw [hr]
    refine ⟨.bool true, .bool true, .bool _, .bool _, rfl, rfl, (fun q => nomatch q), fun _ => ?_⟩
    have hx1 : x < mo P E k := hx1
    have hx2 : ((mo P E k : Nat) : Int) ∣ (x : Int) * x - n := hx2
    refine ⟨fun _ => ⟨fun _ => ?_, fun t => absurd (cle_f.mp t) (by (first | lia | omega))⟩, (fun q => nomatch q)⟩
    refine ⟨fun t => absurd (clt_f.mp (not_t.mp t)) (by (first | lia | omega)), fun _ => ?_⟩
    refine ⟨mul_small_left (by (first | lia | omega)), _, u2.at k01, (fun q => nomatch q), trivial, (show ((mo P E k : Nat) : Int) ≠ 0 by (first | lia | omega)), ?_⟩
    refine ⟨fun t => absurd (Int.fmod_eq_zero_of_dvd hx2) (cne_t.mp t), fun _ => fin h2 .refl (fun q => nomatch q) (fun _ q => nomatch q)⟩
theorem right_exec {w mean mg mb} {d : Nat} {hp : HP} {A1 A2 : Addr} {N : Nat} {P E : Nat → Nat} {n : Int} (hN : 2 ≤ N ∧ N ≤ 4) (md : ModOk N P E) (k1 : hp A1 = some (.list (natsL P N))) (k2 : hp A2 = some (.list (natsL E N))) {Q : V → HP → Prop} (hQ : ∀ h', Upto [] hp h' → Q (.bool true) h') :
    enterC [(true, .int n), (false, .ref A1), (false, .ref A2), (false, .unb), (false, .unb), (false, .unb), (true, .unb), (false, .unb), (false, .unb), (false, .unb), (false, .unb), (false, .unb), (false, .unb), (false, .unb)] hp fun l h0 => exec (gg w mean mg mb) (d + 5) m_l_right l h0 (retQ Q) noX := by
  intro c0 n0 c6 n6
  have hc60 : c6 ≠ c0 := (hset_none.mp n6).1
  have n6' := (hset_none.mp n6).2
  have u0 : Upto [] hp (hset (hset hp c0 (.cell (.int n))) c6 (.cell .unb)) := (Upto.new n0).trans (Upto.new n6)
  have k00 : (hset (hset hp c0 (.cell (.int n))) c6 (.cell .unb)) c0 = some (.cell (.int n)) := by rw [hset_ne (Ne.symm hc60), hset_same]
  have k60 : (hset (hset hp c0 (.cell (.int n))) c6 (.cell .unb)) c6 = some (.cell .unb) := hset_same
  have k10 := u0.at k1
  have k20 := u0.at k2
  show exec (gg w mean mg mb) (d + 5) m_l_right [.cell c0, .ref A1, .ref A2, .unb, .unb, .unb, .cell c6, .unb, .unb, .unb, .unb, .unb, .unb, .unb] (hset (hset hp c0 (.cell (.int n))) c6 (.cell .unb)) (retQ Q) noX
  generalize hset (hset hp c0 (.cell (.int n))) c6 (.cell .unb) = h1 at *
  have ez : ∀ k, k < N → zrow [natsL P N, natsL E N] (Int.toNat (k : Nat)) = [.int (P k : Nat), .int (E k : Nat)] := fun k hk => by
    show [vAt (natsL P N) k, vAt (natsL E N) k] = _
    rw [natsL_at P hk, natsL_at E hk]
  refine ⟨rfl, [natsL P N, natsL E N], N, ⟨by rw [k10]; rfl, natsL_len _ _, by rw [k20]; rfl, natsL_len _ _, trivial⟩, rfl, ?_⟩
  refine ⟨fun k acc h => acc = natsL (mo P E) k ∧ h = h1, ⟨rfl, rfl⟩, ?_, ?_⟩
  · rintro k y acc h hy ⟨rfl, rfl⟩
    have hk : k < N := by
      have := (List.getElem?_eq_some_iff.mp hy).1
      simpa using this
    have hye : y = .int (k : Nat) := by
      simp [hk] at hy
      exact hy.symm
    subst hye
    refine ⟨fun _ _ => rfl, by rw [natsL_len, sizeLine_eq]; (first | lia | omega), ?_⟩
    dsimp only
    rw [ez k hk]
    refine ⟨fun _ => ?_, (fun q => nomatch q)⟩
    have hpl := md.le k hk
    refine call_l_power (power_exec (show ((P k : Nat) : Int).natAbs < 2 ^ 60 by (first | lia | omega)) (by have := md.e1 k hk; (first | lia | omega)) ⟨?_, rfl⟩)
    rw [natsL_succ, ← Int.natCast_pow]; rfl
  · rintro acc h ⟨rfl, rfl⟩
    refine ⟨fun _ _ => rfl, fun A5 n5 => ?_⟩
    rw [List.length_map, List.length_range]
    have u5 : Upto [] h (hset h A5 (.list (natsL (mo P E) N))) := .new n5
    have k55 : (hset h A5 (.list (natsL (mo P E) N))) A5 = some (.list (natsL (mo P E) N)) := hset_same
    have k05 := u5.at k00
    have k65 := u5.at k60
    have k15 := u5.at k10
    have k25 := u5.at k20
    have u05 := u0.trans u5
    generalize hset h A5 (.list (natsL (mo P E) N)) = h2 at *
    refine ⟨by simp [sizeLine_eq], fun A8 n8 => ?_⟩
    have u8 : Upto [] h2 (hset h2 A8 (.list [])) := .new n8
    have k88 : (hset h2 A8 (.list [])) A8 = some (.list []) := hset_same
    have n8p : hp A8 = none := by
      cases q : hp A8 with
      | none => rfl
      | some o => have := u05.at q; rw [n8] at this; cases this
    have k08 := u8.at k05
    have k68 := u8.at k65
    have k18 := u8.at k15
    have k28 := u8.at k25
    have k58 := u8.at k55
    have u08 := u05.trans u8
    generalize hset h2 A8 (.list []) = h3 at *
    have hne : ∀ {a b : Addr} {o o' : O}, h3 a = some o → h3 b = some o' → o ≠ o' → a ≠ b := fun ha hb hoo q => by subst q; rw [ha] at hb; exact hoo (Option.some.inj hb)
    have h86 : A8 ≠ c6 := hne k88 k68 (fun q => nomatch q)
    refine ⟨⟨_, k68⟩, ?_⟩
    have ko : ∀ {a : Addr} {o : O}, h3 a = some o → a ≠ c6 → (hset h3 c6 (.cell (.int 1))) a = some o := fun ha hn => by rw [hset_ne hn]; exact ha
    have S0 : RSt (hset h3 c6 (.cell (.int 1))) A1 A2 A5 A8 c0 c6 N P E n 0 := ⟨hc60, ko k08 (Ne.symm hc60), hset_same, ko k18 (hne k18 k68 (fun q => nomatch q)), ko k28 (hne k28 k68 (fun q => nomatch q)), ko k58 (hne k58 k68 (fun q => nomatch q)), [], fun _ => .none, ko k88 h86, rfl, (fun _ h => nomatch h), (fun j t h => by simp at h), fun j hj => absurd hj (Nat.not_lt_zero _)⟩
    have uS : ∀ {h' : HP}, Upto [c6, A8] (hset h3 c6 (.cell (.int 1))) h' → Upto [] hp h' := fun u' b _ o e => by
      have hb6 : b ≠ c6 := fun q => by rw [q, n6'] at e; cases e
      have hb8 : b ≠ A8 := fun q => by rw [q, n8p] at e; cases e
      exact u' b (by simp [hb6, hb8]) o (ko (u08.at e) hb6)
    generalize hset h3 c6 (.cell (.int 1)) = h4 at *
    have ez3 : ∀ k, k < N → zrow [natsL P N, natsL E N, natsL (mo P E) N] k = [.int (P k : Nat), .int (E k : Nat), .int (mo P E k : Nat)] := fun k hk => by
      show [vAt (natsL P N) k, vAt (natsL E N) k, vAt (natsL (mo P E) N) k] = _
      rw [natsL_at P hk, natsL_at E hk, natsL_at (mo P E) hk]
    refine ⟨[natsL P N, natsL E N, natsL (mo P E) N], N, ⟨by rw [S0.k1]; rfl, natsL_len _ _, by rw [S0.k2]; rfl, natsL_len _ _, by rw [S0.k5]; rfl, natsL_len _ _, trivial⟩, rfl, ?_⟩
    have hK : ∀ {h' : HP} {k : Nat}, RSt h' A1 A2 A5 A8 c0 c6 N P E n k → ∀ r, V.ref r ∈ [V.ref A1, V.ref A2, V.ref A5] → h' r = h4 r := fun S r hr => by
      simp only [List.mem_cons, V.ref.injEq, List.not_mem_nil, or_false] at hr
      rcases hr with rfl | rfl | rfl
      · exact S.k1.trans S0.k1.symm
      · exact S.k2.trans S0.k2.symm
      · exact S.k5.trans S0.k5.symm
    refine ⟨fun k l h' => ∃ x3 x4 x9 x10 : V, l = [.cell c0, .ref A1, .ref A2, x3, x4, .ref A5, .cell c6, .int (sg P E n k), .ref A8, x9, x10, .unb, .unb, .unb] ∧ Upto [c6, A8] h4 h' ∧ RSt h' A1 A2 A5 A8 c0 c6 N P E n k,
      ⟨.unb, .unb, .unb, .unb, rfl, .refl, S0⟩, ?_, ?_⟩
    · intro k ys l h' hy qz130
      refine Gen fun G back => ?_
      rcases qz130 with ⟨x3, x4, x9, x10, hz131, u', S⟩
      refine back ?_
      clear back
      clear G
      subst hz131
      have hk : k < N := by
        have := (List.getElem?_eq_some_iff.mp hy).1
        simpa using this
      have hye : ys = [.int (P k : Nat), .int (E k : Nat), .int (mo P E k : Nat)] := by
        rw [← ez3 k hk]
        simp [hk] at hy
        exact hy.symm
      subst hye
      exact ⟨hK S, rturn_exec hN md hk S fun h5 y10 u5' S' => ⟨_, _, _, _, rfl, u'.trans u5', S'⟩⟩
    · intro l h' qz132
      refine Gen fun G back => ?_
      rcases qz132 with ⟨x3, x4, x9, x10, hz133, u', S⟩
      refine back ?_
      clear back
      clear G
      subst hz133
      rw [List.length_map, List.length_range] at S
      refine ⟨hK S, ?_⟩
      refine Gen fun G back => ?_
      rcases S.rows with ⟨ts, v, a1, a2, a3, a4, a5⟩
      refine back ?_
      clear back
      clear G
      have hU := uS u'
      rw [List.length_map, List.length_range]
      exact tail_exec hN md S.k0 S.k6 S.k1 ⟨ts, a1, a2, a4⟩ a5 fun h'' u'' => hQ h'' (hU.trans u'')
noncomputable def isP (n : Nat) : Bool := (List.range 49).all fun i => decide ((3 + 2 * i) * (3 + 2 * i) ≤ n → n % (3 + 2 * i) ≠ 0)
theorem isP_spec {n : Nat} : isP n = true ↔ ∀ i, i < 49 → (3 + 2 * i) * (3 + 2 * i) ≤ n → n % (3 + 2 * i) ≠ 0 := by
  unfold isP
  rw [List.all_eq_true]
  exact ⟨fun h i hi => of_decide_eq_true (h i (List.mem_range.mpr hi)), fun h i hi => decide_eq_true (h i (List.mem_range.mp hi))⟩
theorem isP_prm {n : Nat} (h3 : 3 ≤ n) (ho : n % 2 = 1) (h10 : n < 10000) (h : isP n = true) : Prm n := by
  refine Prm.trial (by (first | lia | omega)) fun d hd hdd hdn => ?_
  have hodd : d % 2 = 1 := by
    rcases (show d % 2 = 0 ∨ d % 2 = 1 by (first | lia | omega)) with q | q
    · obtain ⟨c, rfl⟩ := hdn
      rw [Nat.mul_mod, q] at ho; simp at ho
    · exact q
  have hd100 : d < 100 := by
    rcases Nat.lt_or_ge d 100 with q | q
    · exact q
    · have := Nat.mul_le_mul q q; (first | lia | omega)
  have := isP_spec.mp h ((d - 3) / 2) (by (first | lia | omega))
  rw [show 3 + 2 * ((d - 3) / 2) = d by (first | lia | omega)] at this
  exact this hdd (Nat.mod_eq_zero_of_dvd hdn)
theorem is_prime_exec {w mean mg mb} {d : Nat} {hp : HP} {n : Nat} {Q : V → HP → Prop} {X : XT} (hQ : Q (.bool (isP n)) hp) :
    exec (gg w mean mg mb) d m_l_is_prime [.int n, .unb] hp (retQ Q) X := by
  have hQt : isP n = true → Q (.bool true) hp := fun e => by rw [e] at hQ; exact hQ
  have hQf : isP n = false → Q (.bool false) hp := fun e => by rw [e] at hQ; exact hQ
  have ep : ∀ k : Nat, (3 : Int) + k * 2 = ((3 + 2 * k : Nat) : Int) := fun k => by push_cast; (first | lia | omega)
  refine ⟨(show (2 : Int) ≠ 0 by decide), by decide, ?_⟩
  refine ⟨fun k l h => ∃ x1 : V, l = [.int n, x1] ∧ h = hp ∧ ∀ i, i < k → (3 + 2 * i) * (3 + 2 * i) ≤ n ∧ n % (3 + 2 * i) ≠ 0, ⟨.unb, rfl, rfl, fun i hi => absurd hi (Nat.not_lt_zero _)⟩, ?_, ?_⟩
  · intro k y l h hy qz134
    refine Gen fun G back => ?_
    rcases qz134 with ⟨x1, hz135, hz136, hI⟩
    refine back ?_
    clear back
    clear G
    subst hz135
    subst hz136
    have hk : k < 49 := by
      have := (List.getElem?_eq_some_iff.mp hy).1
      rw [List.length_map, List.length_range] at this
      exact this
    have hye : y = .int ((3 + 2 * k : Nat) : Int) := by
      rw [List.getElem?_map, List.getElem?_range (by exact hk)] at hy
      rw [← ep]; exact (Option.some.inj hy).symm
    subst hye
    refine ⟨trivial, mul_small_left (by (first | lia | omega)), fun t => ?_, fun t => ?_⟩
    · have t : (n : Int) < ((3 + 2 * k : Nat) : Int) * ((3 + 2 * k : Nat) : Int) := cgt_t.mp t
      have t : n < (3 + 2 * k) * (3 + 2 * k) := by rw [← Int.natCast_mul] at t; exact Int.ofNat_lt.mp t
      refine hQt (isP_spec.mpr fun i hi hle => ?_)
      rcases Nat.lt_or_ge i k with q | q
      · exact (hI i q).2
      · have := Nat.mul_le_mul (show 3 + 2 * k ≤ 3 + 2 * i by (first | lia | omega)) (show 3 + 2 * k ≤ 3 + 2 * i by (first | lia | omega))
        (first | lia | omega)
    · have t : ((3 + 2 * k : Nat) : Int) * ((3 + 2 * k : Nat) : Int) ≤ (n : Int) := cgt_f.mp t
      have t : (3 + 2 * k) * (3 + 2 * k) ≤ n := by rw [← Int.natCast_mul] at t; exact Int.ofNat_le.mp t
      have em : intOp (n : Int) ((3 + 2 * k : Nat) : Int) .mod = ((n % (3 + 2 * k) : Nat) : Int) := fmodN n (3 + 2 * k)
      refine ⟨(show ((3 + 2 * k : Nat) : Int) ≠ 0 by (first | lia | omega)), fun t2 => ?_, fun t2 => ?_⟩
      · have t2 : intOp (n : Int) ((3 + 2 * k : Nat) : Int) .mod = 0 := ceq_t.mp t2
        rw [em] at t2
        refine hQf ?_
        cases q : isP n with
        | false => rfl
        | true => exact absurd (Int.ofNat.inj t2) (isP_spec.mp q k hk t)
      · have t2 : intOp (n : Int) ((3 + 2 * k : Nat) : Int) .mod ≠ 0 := ceq_f.mp t2
        rw [em] at t2
        refine ⟨_, rfl, rfl, fun i hi => ?_⟩
        rcases Nat.lt_or_ge i k with q | q
        · exact hI i q
        · have : i = k := by (first | lia | omega)
          subst this
          exact ⟨t, fun q => t2 (congrArg Int.ofNat q)⟩
  · intro l h qz137
    refine Gen fun G back => ?_
    rcases qz137 with ⟨x1, hz138, hz139, hI⟩
    refine back ?_
    clear back
    clear G
    subst hz138
    subst hz139
    refine ⟨trivial, hQt (isP_spec.mpr fun i hi _ => (hI i ?_).2)⟩
    rw [List.length_map, List.length_range]; exact hi
theorem nodup_len : ∀ {l f : List Nat}, l.Nodup → (∀ p ∈ l, p ∈ f) → l.length ≤ f.length
  | [], _, _, _ => Nat.zero_le _
  | a :: r, f, nd, h => by
    have h1 := List.nodup_cons.mp nd
    have := nodup_len (l := r) (f := f.erase a) h1.2 fun p hp => (List.mem_erase_of_ne (fun (q : p = a) => h1.1 (by subst q; exact hp))).mpr (h p (.tail _ hp))
    have h2 := List.length_erase_of_mem (h a (.head _))
    have h3 := List.length_pos_of_mem (h a (.head _))
    simp only [List.length_cons]; (first | lia | omega)
noncomputable def four : Nat → List Nat
  | 1 => [101, 103, 107, 109]
  | 2 => [211, 223, 227, 229]
  | 3 => [307, 311, 313, 317]
  | 4 => [401, 409, 419, 421]
  | 5 => [503, 509, 521, 523]
  | 6 => [601, 607, 613, 617]
  | 7 => [701, 709, 719, 727]
  | 8 => [809, 811, 821, 823]
  | 9 => [907, 911, 919, 929]
  | 10 => [1009, 1013, 1019, 1021]
  | 11 => [1103, 1109, 1117, 1123]
  | _ => []
theorem four_ok : ((List.range 11).all fun j => decide ((four (j + 1)).Nodup) && decide ((four (j + 1)).length = 4) && (four (j + 1)).all fun p => isP p && decide (p % 2 = 1 ∧ 100 * (j + 1) ≤ p ∧ p < 100 * (j + 1) + 100)) = true := by decide +kernel
theorem some_prime {n : Nat} (h3 : 3 ≤ n) (ho : n % 2 = 1) (h : n ≤ 1001) {f : List Nat} (hf : f.length ≤ 3) : ∃ s, s < 100 ∧ isP (n + 2 * s) = true ∧ n + 2 * s ∉ f := by
  have hj := List.all_eq_true.mp four_ok ((n + 99) / 100 - 1) (List.mem_range.mpr (by (first | lia | omega)))
  simp only [Bool.and_eq_true, decide_eq_true_eq] at hj
  obtain ⟨⟨nd, hl⟩, ha⟩ := hj
  rw [show (n + 99) / 100 - 1 + 1 = (n + 99) / 100 by (first | lia | omega)] at nd hl ha
  generalize four ((n + 99) / 100) = ps at *
  have : ∃ p ∈ ps, p ∉ f := by
    false_or_by_contra
    rename_i q
    have hs : ∀ p ∈ ps, p ∈ f := fun p hp => by
      false_or_by_contra
      rename_i z
      exact q ⟨p, hp, z⟩
    have := nodup_len nd hs
    (first | lia | omega)
  obtain ⟨p, hp, hpf⟩ := this
  have hb := List.all_eq_true.mp ha p hp
  simp only [Bool.and_eq_true, decide_eq_true_eq] at hb
  refine ⟨(p - n) / 2, by (first | lia | omega), ?_, ?_⟩
  · rw [show n + 2 * ((p - n) / 2) = p by (first | lia | omega)]; exact hb.1
  · rw [show n + 2 * ((p - n) / 2) = p by (first | lia | omega)]; exact hpf
theorem pick_exec {w mean mg mb} {d : Nat} {hp : HP} {p rr L : Addr} {a b c : Nat} (P : Pool hp p rr) (hL : hp L = some (.list [.int a, .int b, .int c])) (hn : L ∉ [p, rr]) {Q : V → HP → Prop} {X : XT} (hQ : ∀ (v : Nat) h', (v = a ∨ v = b ∨ v = c) → Pool h' p rr → Upto [p, rr] hp h' → Q (.int v) h') :
    exec (gg w mean mg mb) (d + 1) m_l_pick [.ref p, .ref L] hp (retQ Q) X := by
  refine ⟨_, by rw [hL]; rfl, by simp, ?_⟩
  refine call_l_draw (draw_exec P (show (0 : Int) < 3 by decide) fun v h1 v0 v1 P1 u1 => ?_)
  have e := u1.at hL hn
  have hv : v = 0 ∨ v = 1 ∨ v = 2 := by
    have v1 : v < 3 := v1
    (first | lia | omega)
  rcases hv with rfl | rfl | rfl
  · exact idxE (k := 0) rfl rfl (vs := [.int a, .int b, .int c]) (by rw [e]; rfl) (by simp) (by decide) rfl (hQ a h1 (.inl rfl) P1 u1)
  · exact idxE (k := 1) rfl rfl (vs := [.int a, .int b, .int c]) (by rw [e]; rfl) (by simp) (by decide) rfl (hQ b h1 (.inr (.inl rfl)) P1 u1)
  · exact idxE (k := 2) rfl rfl (vs := [.int a, .int b, .int c]) (by rw [e]; rfl) (by simp) (by decide) rfl (hQ c h1 (.inr (.inr rfl)) P1 u1)
structure Found (fs : List Nat) : Prop where
  nd : fs.Nodup
  all : ∀ q ∈ fs, isP q = true ∧ 3 ≤ q ∧ q % 2 = 1 ∧ q ≤ 1201
theorem primes_exec {w mean mg mb} {d : Nat} {hp : HP} {p rr : Addr} {many : Nat} (hm : many ≤ 4) (P : Pool hp p rr) {Q : V → HP → Prop} {X : XT} (hQ : ∀ h' F (fs : List Nat), Pool h' p rr → Upto [p, rr] hp h' → F ∉ [p, rr] → hp F = none → h' F = some (.list (fs.map fun (q : Nat) => V.int q)) → fs.length = many → Found fs → Q (.ref F) h') :
    exec (gg w mean mg mb) (d + 2) m_l_primes [.ref p, .int many, .unb, .unb, .unb, .unb, .unb] hp (retQ Q) X := by
  refine ⟨by simp [sizeLine_eq], fun F nF => ?_⟩
  have hFn := nqP P nF
  have P0 : Pool (hset hp F (.list [])) p rr := P.up (.new nF (S := []))
  refine ⟨(show (1 : Int) ≠ 0 by decide), small_one (by decide) (by decide) (by (first | lia | omega)) (by (first | lia | omega)), ?_⟩
  refine forUp (l := [.ref p, .int many, .ref F, .unb, .unb, .unb, .unb]) many (by (first | lia | omega))
    (fun k l h => ∃ (x3 x4 x5 x6 : V) (fs : List Nat), l = [.ref p, .int many, .ref F, x3, x4, x5, x6] ∧ Pool h p rr ∧ Upto [p, rr] hp h ∧ h F = some (.list (fs.map fun (q : Nat) => V.int q)) ∧ fs.length = k ∧ Found fs)
    ⟨_, _, _, _, [], rfl, P0, .new nF, hset_same, rfl, List.nodup_nil, fun q hq => nomatch hq⟩ ?_ ?_
  · intro k l h hk qz140
    refine Gen fun G back => ?_
    rcases qz140 with ⟨x3, x4, x5, x6, fs, hz141, Pk, u, hF, hl, hfs⟩
    refine back ?_
    clear back
    clear G
    subst hz141
    have body : ∀ (far : Nat) (h1 : HP), far < 500 → Pool h1 p rr → Upto [p, rr] h h1 → exec (gg w mean mg mb) (d + 2) (dropS 1 (loopB (seq1 (dropS 1 m_l_primes)))) [.ref p, .int many, .ref F, .int (0 + k), .int far, x5, x6] h1 (fun o l2 h2 => match o with
        | .next => ∃ (x3 x4 x5 x6 : V) (fs : List Nat), l2 = [.ref p, .int many, .ref F, x3, x4, x5, x6] ∧ Pool h2 p rr ∧ Upto [p, rr] hp h2 ∧ h2 F = some (.list (fs.map fun (q : Nat) => V.int q)) ∧ fs.length = k + 1 ∧ Found fs
        | .brk => exec (gg w mean mg mb) (d + 2) (.seq (.ret (.var 2)) .skip) l2 h2 (retQ Q) X | .ret v => retQ Q (.ret v) l2 h2) noX := by
      intro far h1 hfar P1 u1
      refine xg fun Q1 hq1 => ?_
      have hF1 := u1.at hF hFn
      refine call_l_draw (draw_exec P1 (by decide) fun a h2 a0 a1 P2 u2 => ?_)
      refine call_l_draw (draw_exec P2 (by decide) fun b h3 b0 b1 P3 u3 => ?_)
      obtain ⟨a, rfl⟩ := Int.eq_ofNat_of_zero_le a0
      obtain ⟨b, rfl⟩ := Int.eq_ofNat_of_zero_le b0
      refine ⟨by simp [sizeLine_eq], fun L nL => ?_⟩
      have uL : Upto [] h3 (hset h3 L (.list [.int a, .int b, .int far])) := .new nL
      have eL : (hset h3 L (.list [.int a, .int b, .int far])) L = some (.list [.int a, .int b, .int far]) := hset_same
      refine call_l_pick (pick_exec (P3.up uL) eL (nqP P3 nL) fun v h4 hv P4 u4 => ?_)
      have hF4 := u4.at (uL.at (u3.at (u2.at hF1 hFn) hFn)) hFn
      have U4 : Upto [p, rr] hp h4 := ((((u.trans u1).trans u2).trans u3).trans (uL.mono (by simp))).trans u4
      have hv5 : v < 500 := by (first | lia | omega)
      refine ⟨mul_small_left (by decide), trivial, ?_⟩
      have e : intOp 3 (intOp 2 (v : Int) .mul) .add = ((3 + 2 * v : Nat) : Int) := by show (3 : Int) + 2 * v = _; push_cast; rfl
      show exec (gg w mean mg mb) (d + 2) _ [.ref p, .int many, .ref F, .int (0 + k), .int far, .int (intOp 3 (intOp 2 (v : Int) .mul) .add), x6] h4 _ noX
      rw [e]
      have hb3 : 3 ≤ 3 + 2 * v ∧ (3 + 2 * v) % 2 = 1 ∧ 3 + 2 * v ≤ 1001 := by (first | lia | omega)
      generalize 3 + 2 * v = n at *
      refine Gen fun G back => ?_
      rcases some_prime hb3.1 hb3.2.1 hb3.2.2 (f := fs) (by (first | lia | omega)) with ⟨s0, hs0, hs1, hs2⟩
      refine back ?_
      clear back
      clear G
      have hI : (fs.map fun (q : Nat) => V.int q) = (fs.map fun (q : Nat) => (q : Int)).map .int := by rw [List.map_map]; rfl
      refine ⟨(show (1 : Int) ≠ 0 by decide), small_one (by decide) (by decide) (by decide) (by decide), ?_⟩
      refine forUp (l := [.ref p, .int many, .ref F, .int (0 + k), .int far, .int n, x6]) 100 (by decide)
        (fun s l h => ∃ x6 : V, l = [.ref p, .int many, .ref F, .int (0 + k), .int far, .int (n + 2 * s : Nat), x6] ∧ h = h4 ∧ ∀ i, i < s → ¬ (isP (n + 2 * i) = true ∧ n + 2 * i ∉ fs)) ⟨x6, rfl, rfl, fun i hi => absurd hi (Nat.not_lt_zero _)⟩ ?_ ?_
      · intro s l h hs qz142
        refine Gen fun G back => ?_
        rcases qz142 with ⟨x6, hz143, hz144, hno⟩
        refine back ?_
        clear back
        clear G
        subst hz143
        subst hz144
        have next : ¬ (isP (n + 2 * s) = true ∧ n + 2 * s ∉ fs) → ∃ x6' : V, [V.ref p, .int many, .ref F, .int (0 + k), .int far, .int (intOp ((n + 2 * s : Nat) : Int) 2 .add), .int (0 + s)] = [.ref p, .int many, .ref F, .int (0 + k), .int far, .int (n + 2 * (s + 1) : Nat), x6'] ∧ h = h ∧ ∀ i, i < s + 1 → ¬ (isP (n + 2 * i) = true ∧ n + 2 * i ∉ fs) := fun hz => by
          refine ⟨.int (0 + s), ?_, rfl, fun i hi => ?_⟩
          · rw [show intOp ((n + 2 * s : Nat) : Int) 2 .add = ((n + 2 * (s + 1) : Nat) : Int) by show ((n + 2 * s : Nat) : Int) + 2 = _; push_cast; (first | lia | omega)]
          · rcases Nat.lt_or_ge i s with q | q
            · exact hno i q
            · rw [show i = s by (first | lia | omega)]; exact hz
        refine xg fun Q2 hq2 => ?_
        refine call_l_is_prime (is_prime_exec ?_)
        refine ⟨fun t => ?_, fun t => ⟨(fun q => nomatch q), fun _ => ⟨trivial, hq2 .next _ _ (next fun q => by rw [q.1] at t; cases t)⟩⟩⟩
        have t : isP (n + 2 * s) = true := t
        refine ⟨_, _, by rw [hF4]; rfl, by rw [hI]; exact inV_int _, ?_⟩
        refine ⟨fun t2 => ?_, fun t2 => ⟨trivial, hq2 .next _ _ (next fun q => ?_)⟩⟩
        · have hnf : n + 2 * s ∉ fs := fun q => by
            have : (fs.map fun (q : Nat) => (q : Int)).any (· == ((n + 2 * s : Nat) : Int)) = true := List.any_eq_true.mpr ⟨_, List.mem_map.mpr ⟨_, q, rfl⟩, by simp⟩
            rw [this] at t2; cases t2
          refine hq2 .brk _ _ ⟨⟨_, hF4⟩, _, hF4, by simp [sizeLine_eq]; (first | lia | omega), ?_⟩
          refine hq1 .next _ _ ⟨_, _, _, _, fs ++ [n + 2 * s], rfl, P4.up (.set (S := [F]) (.head _)) (by simp at hFn ⊢; exact fun q => hFn.1 q.symm) (by simp at hFn ⊢; exact fun q => hFn.2 q.symm), U4.fresh nF, by rw [hset_same, List.map_append]; rfl, by simp [hl], ?_, fun q hq => ?_⟩
          · exact List.nodup_append.mpr ⟨hfs.nd, by simp, fun a ha b hb e => hnf (by rw [← List.mem_singleton.mp hb, ← e]; exact ha)⟩
          · rcases List.mem_append.mp hq with z | z
            · exact hfs.all q z
            · rw [List.mem_singleton.mp z]
              exact ⟨t, by (first | lia | omega), by (first | lia | omega), by (first | lia | omega)⟩
        · have hin : n + 2 * s ∈ fs := by
            cases q2 : (fs.map fun (q : Nat) => (q : Int)).any (· == ((n + 2 * s : Nat) : Int)) with
            | false => rw [q2] at t2; cases t2
            | true =>
              obtain ⟨z, hz, hzz⟩ := List.any_eq_true.mp q2
              obtain ⟨q3, hq3, rfl⟩ := List.mem_map.mp hz
              have : q3 = n + 2 * s := by simp at hzz; (first | lia | omega)
              rw [← this]; exact hq3
          exact q.2 hin
      · intro l h qz145
        refine Gen fun G back => ?_
        rcases qz145 with ⟨x6, hz146, hz147, hno⟩
        refine back ?_
        clear back
        clear G
        subst hz146
        subst hz147
        exact absurd ⟨hs1, hs2⟩ (hno s0 hs0)
    refine Gen fun G back => ?_
    rcases id Pk with ⟨x, y, ns, hp0, hr0, hne, hx, hy, hlen⟩
    refine back ?_
    clear back
    clear G
    refine idxE (k := 0) rfl rfl (vs := [.int x, .int y, .ref rr]) (by rw [hp0]; rfl) (by simp) (by decide) rfl ⟨fun _ => ?_, fun _ => ?_⟩
    · refine call_l_draw (draw_exec Pk (by decide) fun v h1 v0 v1 P1 u1 => ?_)
      obtain ⟨v, rfl⟩ := Int.eq_ofNat_of_zero_le v0
      exact body v h1 (by (first | lia | omega)) P1 u1
    · refine call_l_draw (draw_exec Pk (by decide) fun v h1 v0 v1 P1 u1 => ?_)
      obtain ⟨v, rfl⟩ := Int.eq_ofNat_of_zero_le v0
      exact body v h1 (by (first | lia | omega)) P1 u1
  · intro l h qz148
    refine Gen fun G back => ?_
    rcases qz148 with ⟨x3, x4, x5, x6, fs, hz149, Pk, u, hF, hl, hfs⟩
    refine back ?_
    clear back
    clear G
    subst hz149
    exact hQ h F fs Pk u hFn nF hF hl hfs
theorem Pool.cell {h : HP} {p rr c : Addr} {v w : V} (P : Pool h p rr) (hc : h c = some (.cell w)) : Pool (hset h c (.cell v)) p rr ∧ c ∉ [p, rr] := by
  refine Gen fun G back => ?_
  rcases id P with ⟨x, y, ns, a, b, r⟩
  refine back ?_
  clear back
  clear G
  have h1 : p ≠ c := fun q => by rw [q, hc] at a; cases a
  have h2 : rr ≠ c := fun q => by rw [q, hc] at b; cases b
  exact ⟨P.up (S := [c]) (.set (by simp)) (by simpa using h1) (by simpa using h2), by simp; exact ⟨Ne.symm h1, Ne.symm h2⟩⟩
theorem natsL_of {fs : List Nat} : natsL (fun j => fs.getD j 0) fs.length = fs.map fun (q : Nat) => V.int q := by
  refine List.ext_getElem (by simp [natsL]) fun j h1 h2 => ?_
  have hj : j < fs.length := by simpa using h2
  simp [natsL, hj]
theorem prO_of {q : Nat} (h : isP q = true) (h3 : 3 ≤ q) (ho : q % 2 = 1) (hl : q ≤ 1201) : PrO q := ⟨isP_prm h3 ho (by (first | lia | omega)) h, ho, by (first | lia | omega)⟩
theorem modOk_of {fs es : List Nat} (hf : Found fs) (he : es.length = fs.length) (hE : ∀ e ∈ es, 1 ≤ e ∧ e ≤ 3) : ModOk fs.length (fun j => fs.getD j 0) (fun j => es.getD j 0) := by
  have g : ∀ j (h : j < fs.length), fs.getD j 0 = fs[j] := fun j h => by simp [h]
  have ge : ∀ j (h : j < es.length), es.getD j 0 = es[j] := fun j h => by simp [h]
  refine ⟨fun j hj => ?_, fun j hj => ?_, fun j hj => ?_, fun i j hij hj => ?_⟩
  · refine Gen fun G back => ?_
    rcases hf.all _ (List.getElem_mem hj) with ⟨a, b, c, d⟩
    refine back ?_
    clear back
    clear G
    show PrO (fs.getD j 0)
    rw [g j hj]; exact prO_of a b c d
  · refine Gen fun G back => ?_
    rcases hf.all _ (List.getElem_mem hj) with ⟨a, b, c, d⟩
    refine back ?_
    clear back
    clear G
    show fs.getD j 0 ≤ 8000
    rw [g j hj]; (first | lia | omega)
  · show 1 ≤ es.getD j 0 ∧ es.getD j 0 ≤ 3
    rw [ge j (by (first | lia | omega))]; exact hE _ (List.getElem_mem _)
  · show fs.getD i 0 ≠ fs.getD j 0
    rw [g i (by (first | lia | omega)), g j hj]
    exact List.pairwise_iff_getElem.mp hf.nd i j (by (first | lia | omega)) hj hij
theorem right0_exec {w mean mg mb} {d : Nat} {hp : HP} {A1 A2 : Addr} {fs es : List Nat} {n : Int} (h2 : 2 ≤ fs.length ∧ fs.length ≤ 4) (hf : Found fs) (he : es.length = fs.length) (hE : ∀ e ∈ es, 1 ≤ e ∧ e ≤ 3) (k1 : hp A1 = some (.list (fs.map fun (q : Nat) => V.int q))) (k2 : hp A2 = some (.list (es.map fun (q : Nat) => V.int q))) {Q : V → HP → Prop} {X : XC} (hQ : ∀ h', Upto [] hp h' → Q (.bool true) h') :
    Calls (gg w mean mg mb) (d + 6) 133 [.int n, .ref A1, .ref A2] [] hp Q X :=
  call_l_right (right_exec (N := fs.length) (P := fun j => fs.getD j 0) (E := fun j => es.getD j 0) h2 (modOk_of hf he hE) (by rw [natsL_of]; exact k1) (by rw [← he, natsL_of]; exact k2) hQ)
theorem found35 : Found [3, 5] := ⟨by decide, by decide +kernel⟩
theorem found57 : Found [5, 7] := ⟨by decide, by decide +kernel⟩
structure LSt (h : HP) (p rr c1 F G : Addr) (fs es : List Nat) : Prop where
  pool : Pool h p rr
  k1 : h c1 = some (.cell (.ref p))
  n1 : c1 ∉ [p, rr]
  kF : h F = some (.list (fs.map fun (q : Nat) => V.int q))
  nF : F ∉ [p, rr]
  kG : h G = some (.list (es.map fun (q : Nat) => V.int q))
  nG : G ∉ [p, rr]
  hf : Found fs
  h2 : 2 ≤ fs.length ∧ fs.length ≤ 4
  he : es.length = fs.length
  hE : ∀ e ∈ es, 1 ≤ e ∧ e ≤ 3
theorem LSt.up {h h' p rr c1 F G fs es} (s : LSt h p rr c1 F G fs es) (P : Pool h' p rr) (u : Upto [p, rr] h h') : LSt h' p rr c1 F G fs es :=
  ⟨P, u.at s.k1 s.n1, s.n1, u.at s.kF s.nF, s.nF, u.at s.kG s.nG, s.nG, s.hf, s.h2, s.he, s.hE⟩
theorem LSt.nu {h h' p rr c1 F G fs es} (s : LSt h p rr c1 F G fs es) (u : Upto [] h h') : LSt h' p rr c1 F G fs es := s.up (s.pool.up u) (u.mono (by simp))
theorem end_exec {w mean mg mb} {d : Nat} {h : HP} {s p rr c1 F G : Addr} {fs es : List Nat} {M : Nat} {x3 x6 : V} (S : LSt h p rr c1 F G fs es) (hM : 0 < M) (hM2 : M < 2 ^ 250) :
    exec (gg w mean mg mb) (d + 10) (dropS 6 m_law) [.ref s, .cell c1, .ref F, x3, .ref G, .int (M : Nat), x6, .unb, .unb, .unb] h (fun o _ _ => o = .ret (.bool true)) noX := by
  refine ⟨_, S.k1, (fun q => nomatch q), ?_⟩
  refine call_l_draw (draw_exec S.pool (by (first | lia | omega)) fun y h1 y0 y1 P1 u1 => ?_)
  have S := S.up P1 u1
  refine ⟨_, S.k1, (fun q => nomatch q), ?_⟩
  refine call_l_draw (draw_exec S.pool (by (first | lia | omega)) fun a h2 a0 a1 P2 u2 => ?_)
  have S := S.up P2 u2
  refine ⟨_, S.k1, (fun q => nomatch q), ?_⟩
  refine call_l_draw (draw_exec S.pool (by decide) fun b h3 b0 b1 P3 u3 => ?_)
  have S := S.up P3 u3
  refine ⟨mul_small_right (by (first | lia | omega)), trivial, ?_⟩
  have hb : Bd 250 y := Nat.lt_trans (show y.natAbs < M by (first | lia | omega)) hM2
  refine ⟨hb.mulOk hb, hb.mulOk hb, _, S.k1, (fun q => nomatch q), ?_⟩
  refine call_l_draw (draw_exec S.pool (by decide) fun c h4 c0 c1' P4 u4 => ?_)
  have S := S.up P4 u4
  have hcs : (intOp c 50 .sub).natAbs < 2 ^ 64 := by
    show (c - 50).natAbs < 2 ^ 64
    (first | lia | omega)
  refine ⟨trivial, mul_small_right hcs, trivial, by simp [sizeLine_eq], fun L nL => ?_⟩
  refine forLI (ns := [intOp y y .mul, intOp (intOp y y .mul) (intOp (M : Nat) (intOp c 50 .sub) .mul) .add, intOp a (intOp (M : Nat) b .mul) .sub]) (by rw [hset_same]; rfl) (by simp)
    (fun l h => ∃ x9 : V, l = [.ref s, .cell c1, .ref F, x3, .ref G, .int (M : Nat), x6, .int y, .int (intOp a (intOp (M : Nat) b .mul) .sub), x9] ∧ LSt h p rr c1 F G fs es) ⟨.unb, rfl, S.nu (.new nL)⟩ ?_ ?_
  · rintro z l h ⟨⟩ ⟨x9, rfl, S⟩ hL
    all_goals
      refine right0_exec S.h2 S.hf S.he S.hE S.kF S.kG fun h' u => ?_
      exact ⟨(fun q => nomatch q), fun _ => ⟨⟨_, rfl, S.nu u⟩, u.at hL⟩⟩
  · rintro l h ⟨x9, rfl, S⟩
    exact rfl
theorem greatL_exec {w mean mg mb} {d : Nat} {h : HP} {s p rr c1 F G : Addr} {fs es : List Nat} (S : LSt h p rr c1 F G fs es) :
    exec (gg w mean mg mb) (d + 10) (dropS 4 m_law) [.ref s, .cell c1, .ref F, .unb, .ref G, .unb, .unb, .unb, .unb, .unb] h (fun o _ _ => o = .ret (.bool true)) noX := by
  have md := modOk_of S.hf S.he S.hE
  have hF : h F = some (.list (natsL (fun j => fs.getD j 0) fs.length)) := by rw [natsL_of]; exact S.kF
  have hG : h G = some (.list (natsL (fun j => es.getD j 0) fs.length)) := by rw [← S.he, natsL_of]; exact S.kG
  have hbd := pp_bd md S.h2.2
  generalize hP : (fun j => fs.getD j 0) = P at *
  generalize hE : (fun j => es.getD j 0) = E at *
  have ez : ∀ k, k < fs.length → zrow [natsL P fs.length, natsL E fs.length] k = [.int (P k : Nat), .int (E k : Nat)] := fun k hk => by
    show [vAt (natsL P fs.length) k, vAt (natsL E fs.length) k] = _
    rw [natsL_at P hk, natsL_at E hk]
  refine ⟨[natsL P fs.length, natsL E fs.length], fs.length, ⟨by rw [hF]; rfl, natsL_len _ _, by rw [hG]; rfl, natsL_len _ _, trivial⟩, rfl, ?_⟩
  refine ⟨fun k l h' => ∃ x3 x6 : V, l = [.ref s, .cell c1, .ref F, x3, .ref G, .int (pp (mo P E) k : Nat), x6, .unb, .unb, .unb] ∧ h' = h, ⟨.unb, .unb, rfl, rfl⟩, ?_, ?_⟩
  · intro k ys l h' hy qz150
    refine Gen fun G back => ?_
    rcases qz150 with ⟨x3, x6, hz151, hz152⟩
    refine back ?_
    clear back
    clear G
    subst hz151
    subst hz152
    have hk : k < fs.length := by
      have := (List.getElem?_eq_some_iff.mp hy).1
      simpa using this
    have hye : ys = [.int (P k : Nat), .int (E k : Nat)] := by
      rw [← ez k hk]
      simp [hk] at hy
      exact hy.symm
    subst hye
    refine ⟨fun _ _ => rfl, ?_⟩
    have hm := md.mo hk
    have hpl := md.le k hk
    have he := md.e1 k hk
    have e : ((P k : Nat) : Int) ^ E k = (mo P E k : Nat) := by rw [← Int.natCast_pow]; rfl
    refine call_l_power (power_exec (show ((P k : Nat) : Int).natAbs < 2 ^ 60 by (first | lia | omega)) (by (first | lia | omega)) ⟨?_, .int (P k : Nat), .int (E k : Nat), ?_, rfl⟩)
    · rw [e]; exact mul_small_right (by (first | lia | omega))
    · rw [e]
      show [V.ref s, .cell c1, .ref F, .int (P k : Nat), .ref G, .int (((pp (mo P E) k : Nat) : Int) * (mo P E k : Nat)), .int (E k : Nat), .unb, .unb, .unb] = _
      rw [← Int.natCast_mul]; rfl
  · intro l h' qz153
    refine Gen fun G back => ?_
    rcases qz153 with ⟨x3, x6, hz154, hz155⟩
    refine back ?_
    clear back
    clear G
    subst hz154
    subst hz155
    rw [List.length_map, List.length_range]
    exact ⟨fun _ _ => rfl, end_exec S hbd.2 hbd.1⟩
theorem law_exec {w mean mg mb} {d : Nat} {ns : List Int} (hl : ns.length ≤ 63) (s : Addr) :
    enterC [(false, V.ref s), (true, .unb), (false, .unb), (false, .unb), (false, .unb), (false, .unb), (false, .unb), (false, .unb), (false, .unb), (false, .unb)] (fun c => if c = s then some (.ro (ns.map .int)) else none) fun l h0 => exec (gg w mean mg mb) (d + 10) m_law l h0 (fun o _ _ => o = .ret (.bool true)) noX := by
  generalize hh0 : (fun c => if c = s then some (O.ro (ns.map .int)) else none : HP) = hs
  have es : hs s = some (.ro (ns.map .int)) := by rw [← hh0]; simp
  intro c1 n1
  have u1 : Upto [] hs (hset hs c1 (.cell .unb)) := .new n1
  have e1 : hset hs c1 (.cell .unb) c1 = some (.cell .unb) := hset_same
  have e0 := u1.at es
  show exec (gg w mean mg mb) (d + 10) m_law [.ref s, .cell c1, .unb, .unb, .unb, .unb, .unb, .unb, .unb, .unb] (hset hs c1 (.cell .unb)) _ _
  generalize hset hs c1 (.cell .unb) = h1 at *
  refine ⟨by simp [sizeLine_eq], fun A nA => ⟨by simp [sizeLine_eq], fun B nB => ?_⟩⟩
  have uA : Upto [] h1 (hset h1 A (.list [.int 3, .int 5])) := .new nA
  have uB : Upto [] (hset h1 A (.list [.int 3, .int 5])) (hset (hset h1 A (.list [.int 3, .int 5])) B (.list [.int 2, .int 1])) := .new nB
  refine right0_exec (fs := [3, 5]) (es := [2, 1]) (by decide) found35 rfl (by decide) (uB.at hset_same) hset_same fun h2 u2 => ?_
  have e1 := u2.at (uB.at (uA.at e1))
  have e0 := u2.at (uB.at (uA.at e0))
  refine ⟨(fun q => nomatch q), fun _ => ?_⟩
  clear uA uB nA nB u2
  refine ⟨by simp [sizeLine_eq], fun A nA => ⟨by simp [sizeLine_eq], fun B nB => ?_⟩⟩
  have uA : Upto [] h2 (hset h2 A (.list [.int 5, .int 7])) := .new nA
  have uB : Upto [] (hset h2 A (.list [.int 5, .int 7])) (hset (hset h2 A (.list [.int 5, .int 7])) B (.list [.int 1, .int 1])) := .new nB
  refine right0_exec (fs := [5, 7]) (es := [1, 1]) (by decide) found57 rfl (by decide) (uB.at hset_same) hset_same fun h3 u3 => ?_
  have e1 := u3.at (uB.at (uA.at e1))
  have e0 := u3.at (uB.at (uA.at e0))
  refine ⟨(fun q => nomatch q), fun _ => ?_⟩
  refine call_l_pool (pool_exec e0 hl fun p rr h4 P4 u4 => ?_)
  have e1 := u4.at e1
  obtain ⟨P5, nc⟩ := P4.cell (v := .ref p) e1
  refine ⟨⟨_, e1⟩, ?_⟩
  have k1 : (hset h4 c1 (.cell (.ref p))) c1 = some (.cell (.ref p)) := hset_same
  show exec (gg w mean mg mb) (d + 10) _ [.ref s, .cell c1, .unb, .unb, .unb, .unb, .unb, .unb, .unb, .unb] (hset h4 c1 (.cell (.ref p))) _ noX
  generalize hset h4 c1 (.cell (.ref p)) = h5 at *
  refine ⟨_, k1, (fun q => nomatch q), _, k1, (fun q => nomatch q), ?_⟩
  refine call_l_draw (draw_exec P5 (by decide) fun v h6 v0 v1 P6 u6 => ?_)
  obtain ⟨v, rfl⟩ := Int.eq_ofNat_of_zero_le v0
  have k16 := u6.at k1 nc
  refine ⟨trivial, ?_⟩
  show Calls (gg w mean mg mb) (d + 10) 93 [.ref p, .int (2 + (v : Int))] [] h6 _ _
  rw [show 2 + (v : Int) = ((2 + v : Nat) : Int) by push_cast; rfl]
  refine call_l_primes (primes_exec (by (first | lia | omega)) P6 fun h7 F fs P7 u7 nF nF0 kF hfl hf => ?_)
  have k17 := u7.at k16 nc
  refine ⟨rfl, fs.map (fun (q : Nat) => V.int q), by rw [kF]; rfl, by rw [List.length_map]; (first | lia | omega), ?_⟩
  refine ⟨fun k acc h => ∃ es : List Nat, acc = es.map (fun (q : Nat) => V.int q) ∧ es.length = k ∧ (∀ e ∈ es, 1 ≤ e ∧ e ≤ 3) ∧ Pool h p rr ∧ Upto [p, rr] h7 h, ⟨[], rfl, rfl, (fun _ h => nomatch h), P7, .refl⟩, ?_, ?_⟩
  · intro k y acc h hy qz156
    refine Gen fun G back => ?_
    rcases qz156 with ⟨es, hz157, hel, hE, P, u⟩
    refine back ?_
    clear back
    clear G
    subst hz157
    have hk : k < fs.length := by
      have := (List.getElem?_eq_some_iff.mp hy).1
      rwa [List.length_map] at this
    refine ⟨(u.at kF nF).trans kF.symm, by simp [sizeLine_eq]; (first | lia | omega), fun _ => ?_, (fun q => nomatch q)⟩
    refine ⟨_, u.at k17 nc, (fun q => nomatch q), ?_⟩
    refine call_l_draw (draw_exec P (by decide) fun a h8 a0 a1 P8 u8 => ?_)
    refine ⟨_, u8.at (u.at k17 nc) nc, (fun q => nomatch q), ?_⟩
    refine call_l_draw (draw_exec P8 (by decide) fun b h9 b0 b1 P9 u9 => ?_)
    obtain ⟨a, rfl⟩ := Int.eq_ofNat_of_zero_le a0
    obtain ⟨b, rfl⟩ := Int.eq_ofNat_of_zero_le b0
    refine ⟨mul_small_left (by (first | lia | omega)), trivial, es ++ [1 + a * b], ?_, by simp [hel], fun e he => ?_, P9, (u.trans u8).trans u9⟩
    · rw [List.map_append]
      show _ ++ [V.int (1 + (a : Int) * b)] = _ ++ [V.int ((1 + a * b : Nat) : Int)]
      push_cast; rfl
    · rcases List.mem_append.mp he with q | q
      · exact hE e q
      · rw [List.mem_singleton.mp q]
        have h1 : a * b ≤ 2 * 1 := Nat.mul_le_mul (by (first | lia | omega)) (by (first | lia | omega))
        (first | lia | omega)
  · intro acc h qz158
    refine Gen fun G back => ?_
    rcases qz158 with ⟨es, hz159, hel, hE, P, u⟩
    refine back ?_
    clear back
    clear G
    subst hz159
    rw [List.length_map] at hel
    refine ⟨(u.at kF nF).trans kF.symm, fun G nG => ?_⟩
    have uG : Upto [] h (hset h G (.list (es.map fun (q : Nat) => V.int q))) := .new nG
    refine greatL_exec (fs := fs) (es := es) (p := p) (rr := rr) ⟨P.up uG, uG.at (u.at k17 nc), nc, uG.at (u.at kF nF), nF, hset_same, nqP P nG, hf, by (first | lia | omega), hel, hE⟩
end Mine
namespace Mine
noncomputable abbrev top.tw10005945817407372193 : Unit := ()
noncomputable abbrev top.tw10090393231696489298 : Unit := ()
noncomputable abbrev top.tw10404823597219466188 : Unit := ()
noncomputable abbrev top.tw10567129059001840431 : Unit := ()
noncomputable abbrev top.tw10617020205504526918 : Unit := ()
noncomputable abbrev top.tw10996937224433265937 : Unit := ()
noncomputable abbrev top.tw11279390925490393535 : Unit := ()
noncomputable abbrev top.tw11334415319851112604 : Unit := ()
noncomputable abbrev top.tw1139600151236580504 : Unit := ()
noncomputable abbrev top.tw11430207588045935325 : Unit := ()
noncomputable abbrev top.tw11459358961799972967 : Unit := ()
noncomputable abbrev top.tw1149218181149386328 : Unit := ()
noncomputable abbrev top.tw11546936639936008217 : Unit := ()
noncomputable abbrev top.tw11613256710310857696 : Unit := ()
noncomputable abbrev top.tw11858546649754279707 : Unit := ()
noncomputable abbrev top.tw1245559373397905713 : Unit := ()
noncomputable abbrev top.tw12540527436937284434 : Unit := ()
noncomputable abbrev top.tw12819366960792805191 : Unit := ()
noncomputable abbrev top.tw13120753694373217308 : Unit := ()
noncomputable abbrev top.tw13160728816969591200 : Unit := ()
noncomputable abbrev top.tw13303987763403120937 : Unit := ()
noncomputable abbrev top.tw13359135706311490777 : Unit := ()
noncomputable abbrev top.tw13369591340354186047 : Unit := ()
noncomputable abbrev top.tw13506075022893628865 : Unit := ()
noncomputable abbrev top.tw14547135557781690198 : Unit := ()
noncomputable abbrev top.tw14608685727046917156 : Unit := ()
noncomputable abbrev top.tw14611434983143301774 : Unit := ()
noncomputable abbrev top.tw14823308797102314842 : Unit := ()
noncomputable abbrev top.tw14851680436948445374 : Unit := ()
noncomputable abbrev top.tw14901070454687303710 : Unit := ()
noncomputable abbrev top.tw14917401599646851644 : Unit := ()
noncomputable abbrev top.tw14987219478266130788 : Unit := ()
noncomputable abbrev top.tw15169761463676818070 : Unit := ()
noncomputable abbrev top.tw15177526630643400193 : Unit := ()
noncomputable abbrev top.tw15240379268576122478 : Unit := ()
noncomputable abbrev top.tw15362295582089109014 : Unit := ()
noncomputable abbrev top.tw15646934709686841381 : Unit := ()
noncomputable abbrev top.tw15878805988109762761 : Unit := ()
noncomputable abbrev top.tw15976228082101565994 : Unit := ()
noncomputable abbrev top.tw16204670001084760307 : Unit := ()
noncomputable abbrev top.tw16420938139371093754 : Unit := ()
noncomputable abbrev top.tw16439428074185983240 : Unit := ()
noncomputable abbrev top.tw16541100652227675460 : Unit := ()
noncomputable abbrev top.tw16759092144687519636 : Unit := ()
noncomputable abbrev top.tw16782997733028217545 : Unit := ()
noncomputable abbrev top.tw16900427199656544559 : Unit := ()
noncomputable abbrev top.tw17177869089781658578 : Unit := ()
noncomputable abbrev top.tw1732150942055357024 : Unit := ()
noncomputable abbrev top.tw1736530178072539846 : Unit := ()
noncomputable abbrev top.tw17486766287000646611 : Unit := ()
noncomputable abbrev top.tw17492772389151264855 : Unit := ()
noncomputable abbrev top.tw17555251805378815213 : Unit := ()
noncomputable abbrev top.tw17810072253543177317 : Unit := ()
noncomputable abbrev top.tw17886615442053742456 : Unit := ()
noncomputable abbrev top.tw18064794426631996164 : Unit := ()
noncomputable abbrev top.tw18086089286151905521 : Unit := ()
noncomputable abbrev top.tw1814787853859245837 : Unit := ()
noncomputable abbrev top.tw18164388396756303480 : Unit := ()
noncomputable abbrev top.tw185913963804817560 : Unit := ()
noncomputable abbrev top.tw1869187583165140508 : Unit := ()
noncomputable abbrev top.tw1886144042066472794 : Unit := ()
noncomputable abbrev top.tw2057334267981633021 : Unit := ()
noncomputable abbrev top.tw2218668502564051296 : Unit := ()
noncomputable abbrev top.tw2249405535684624136 : Unit := ()
noncomputable abbrev top.tw2464713573024523455 : Unit := ()
noncomputable abbrev top.tw2624093185689280933 : Unit := ()
noncomputable abbrev top.tw2732273902793177162 : Unit := ()
noncomputable abbrev top.tw2782073688633401757 : Unit := ()
noncomputable abbrev top.tw2822501910515967889 : Unit := ()
noncomputable abbrev top.tw2835187731363253809 : Unit := ()
noncomputable abbrev top.tw2985252069258134486 : Unit := ()
noncomputable abbrev top.tw352232786441526191 : Unit := ()
noncomputable abbrev top.tw3969286963782609292 : Unit := ()
noncomputable abbrev top.tw4166218997396506358 : Unit := ()
noncomputable abbrev top.tw4186445540838780016 : Unit := ()
noncomputable abbrev top.tw4213018616267185653 : Unit := ()
noncomputable abbrev top.tw4498253355057717688 : Unit := ()
noncomputable abbrev top.tw4551080515912023512 : Unit := ()
noncomputable abbrev top.tw4571971715460732019 : Unit := ()
noncomputable abbrev top.tw4655869559712951663 : Unit := ()
noncomputable abbrev top.tw4671429814451907529 : Unit := ()
noncomputable abbrev top.tw5105846836358774362 : Unit := ()
noncomputable abbrev top.tw5155950481276406077 : Unit := ()
noncomputable abbrev top.tw5303079699428457377 : Unit := ()
noncomputable abbrev top.tw5476889619067714990 : Unit := ()
noncomputable abbrev top.tw5523086135645875356 : Unit := ()
noncomputable abbrev top.tw5597187220613765494 : Unit := ()
noncomputable abbrev top.tw575894324575664597 : Unit := ()
noncomputable abbrev top.tw5868845118606482295 : Unit := ()
noncomputable abbrev top.tw6187478851450931391 : Unit := ()
noncomputable abbrev top.tw6286779285267259847 : Unit := ()
noncomputable abbrev top.tw6491118196486620199 : Unit := ()
noncomputable abbrev top.tw663368065678172834 : Unit := ()
noncomputable abbrev top.tw6756868429301003459 : Unit := ()
noncomputable abbrev top.tw6812286434817487243 : Unit := ()
noncomputable abbrev top.tw6898770573198911631 : Unit := ()
noncomputable abbrev top.tw72247145696351765 : Unit := ()
noncomputable abbrev top.tw7297446738713254254 : Unit := ()
noncomputable abbrev top.tw7458633546980236471 : Unit := ()
noncomputable abbrev top.tw788273225186049534 : Unit := ()
noncomputable abbrev top.tw7990429038631628895 : Unit := ()
noncomputable abbrev top.tw814325599930780420 : Unit := ()
noncomputable abbrev top.tw8143265674769528471 : Unit := ()
noncomputable abbrev top.tw81815255157605957 : Unit := ()
noncomputable abbrev top.tw8363718466572441477 : Unit := ()
noncomputable abbrev top.tw8507776931139520737 : Unit := ()
noncomputable abbrev top.tw8598144960395782539 : Unit := ()
noncomputable abbrev top.tw8640399195822439974 : Unit := ()
noncomputable abbrev top.tw8645369167282567922 : Unit := ()
noncomputable abbrev top.tw864819663365544661 : Unit := ()
noncomputable abbrev top.tw8689318265317240412 : Unit := ()
noncomputable abbrev top.tw8735323631387419056 : Unit := ()
noncomputable abbrev top.tw8810280945414196856 : Unit := ()
noncomputable abbrev top.tw8813761850579938390 : Unit := ()
noncomputable abbrev top.tw9063741608606530840 : Unit := ()
noncomputable abbrev top.tw908825868028484722 : Unit := ()
noncomputable abbrev top.tw9229161468869434483 : Unit := ()
noncomputable abbrev top.tw930405695471641167 : Unit := ()
noncomputable abbrev top.tw9305691244287143441 : Unit := ()
noncomputable abbrev top.tw956942650209027819 : Unit := ()
noncomputable abbrev top.tw9601329371697537090 : Unit := ()
noncomputable abbrev top.tw9631074621892390191 : Unit := ()
noncomputable abbrev top.tw9800703332001039478 : Unit := ()
set_option Elab.async true in
set_option maxHeartbeats 8000000 in
theorem top : PySem.Challenge.rw_xv0001_10.Holds := by
  w_on; o_law; k_head
  case hw => w_witness2
  k_go0
  rename_i F1 o0 d0 N1 X1
  refine law_endC (x := Str.ofString "script") (gt := gt) (bt := bt) (f := 138) (ms := m_law) (fok (tr := false) ?g1 ?g2 ?g3) (sb_of (n := 60) ?hb) (T := ‹_›) (KX := ‹_›) (K0 := ‹_›) (hF := F1) (hN := N1) (hl := ‹_›) (hi := ‹_›) ?h1 ?h2 ?h3 ?h4 ?h5 ?h6 ?h7 ?ca ?hn ?hnl (ps := fun b => [(false, b), (true, .unb), (false, .unb), (false, .unb), (false, .unb), (false, .unb), (false, .unb), (false, .unb), (false, .unb), (false, .unb)]) ?hps ?h9 ?h10
  case g1 => kernel_rfl!
  case g2 => kernel_rfl!
  case g3 => kernel_rfl!
  case hb => kernel_rfl!
  case h1 => kernel_rfl!
  case h2 => rfl
  case h3 => rfl
  case h4 => rfl
  case h5 => kernel_rfl!
  case h6 => kernel_rfl!
  case h7 => kernel_rfl!
  case ca => exact .cons (d0.trans (by kernel_rfl!)) .nil
  case hn => kernel_rfl!
  case hnl => kernel_rfl!
  case hps => intro b; kernel_rfl!
  case h9 =>
    intro b
    refine law_exec (w := ⟨⟨_, _, _, _, _, gt, bt⟩, ?a0, ?a1, ?a2, ?a3, ?a4, ?a5, ?a6, ?a7, ?a8, ?a9, ?a10, ?a11, ?a12, ?a13, ?a14, ?a15, ?a16, ?a17, ?a18, ?a19, ?a20, ?a21, ?a22, ?a23, ?a24, ?a25, ?a26, ?a27, ?a28, ?a29, ?a30, ?a31, ?a32, ?a33, ?a34, ?a35, ?a36, ?a37, ?a38, ?a39, ?a40, ?a41⟩) (by (first | lia | omega)) b
    case a0 => kernel_rfl!
    case a1 => kernel_rfl!
    case a2 => exact ⟨by kernel_rfl!, fun _ _ _ => by kernel_rfl!, by kernel_rfl!, by kernel_rfl!, by kernel_rfl!⟩
    case a3 => intro v0 v1; show bindArgs _ _ = pure _; kernel_rfl!
    case a4 => exact ⟨by kernel_rfl!, fun _ _ _ => by kernel_rfl!, by kernel_rfl!, by kernel_rfl!, by kernel_rfl!⟩
    case a5 => intro v0 v1; show bindArgs _ _ = pure _; kernel_rfl!
    case a6 => exact ⟨by kernel_rfl!, fun _ _ _ => by kernel_rfl!, by kernel_rfl!, by kernel_rfl!, by kernel_rfl!⟩
    case a7 => kernel_rfl!
    case a8 => intro v0 v1; show afterLoad _ _ _ = some _; kernel_rfl!
    case a9 => intro v0 v1 v2; show afterLoad _ _ _ = some _; kernel_rfl!
    case a10 => intro v0 v1; intro vk; show afterLoad _ _ _ = some _; kernel_rfl!
    case a11 => exact ⟨by kernel_rfl!, fun _ _ _ => by kernel_rfl!, by kernel_rfl!, by kernel_rfl!, by kernel_rfl!⟩
    case a12 => intro v0 v1; show bindArgs _ _ = pure _; kernel_rfl!
    case a13 => exact ⟨by kernel_rfl!, fun _ _ _ => by kernel_rfl!, by kernel_rfl!, by kernel_rfl!, by kernel_rfl!⟩
    case a14 => intro v0; show bindArgs _ _ = pure _; kernel_rfl!
    case a15 => exact ⟨by kernel_rfl!, fun _ _ _ => by kernel_rfl!, by kernel_rfl!, by kernel_rfl!, by kernel_rfl!⟩
    case a16 => kernel_rfl!
    case a17 => intro v0 v1; show afterLoad _ _ _ = some _; kernel_rfl!
    case a18 => intro v0 v1 v2; show afterLoad _ _ _ = some _; kernel_rfl!
    case a19 => intro v0 v1; intro vk; show afterLoad _ _ _ = some _; kernel_rfl!
    case a20 => exact ⟨by kernel_rfl!, fun _ _ _ => by kernel_rfl!, by kernel_rfl!, by kernel_rfl!, by kernel_rfl!⟩
    case a21 => intro v0; show bindArgs _ _ = pure _; kernel_rfl!
    case a22 => exact ⟨by kernel_rfl!, fun _ _ _ => by kernel_rfl!, by kernel_rfl!, by kernel_rfl!, by kernel_rfl!⟩
    case a23 => intro v0 v1; show bindArgs _ _ = pure _; kernel_rfl!
    case a24 => exact ⟨by kernel_rfl!, fun _ _ _ => by kernel_rfl!, by kernel_rfl!, by kernel_rfl!, by kernel_rfl!⟩
    case a25 => intro v0 v1; show bindArgs _ _ = pure _; kernel_rfl!
    case a26 => exact ⟨by kernel_rfl!, fun _ _ _ => by kernel_rfl!, by kernel_rfl!, by kernel_rfl!, by kernel_rfl!⟩
    case a27 => intro v0; show bindArgs _ _ = pure _; kernel_rfl!
    case a28 => exact ⟨by kernel_rfl!, fun _ _ _ => by kernel_rfl!, by kernel_rfl!, by kernel_rfl!, by kernel_rfl!⟩
    case a29 => intro v0 v1; show bindArgs _ _ = pure _; kernel_rfl!
    case a30 => exact ⟨by kernel_rfl!, fun _ _ _ => by kernel_rfl!, by kernel_rfl!, by kernel_rfl!, by kernel_rfl!⟩
    case a31 => intro v0 v1; show bindArgs _ _ = pure _; kernel_rfl!
    case a32 => exact ⟨by kernel_rfl!, fun _ _ _ => by kernel_rfl!, by kernel_rfl!, by kernel_rfl!, by kernel_rfl!⟩
    case a33 => intro v0 v1; show bindArgs _ _ = pure _; kernel_rfl!
    case a34 => exact ⟨by kernel_rfl!, fun _ _ _ => by kernel_rfl!, by kernel_rfl!, by kernel_rfl!, by kernel_rfl!⟩
    case a35 => intro v0 v1 v2; show bindArgs _ _ = pure _; kernel_rfl!
    case a36 => exact ⟨by kernel_rfl!, fun _ _ _ => by kernel_rfl!, by kernel_rfl!, by kernel_rfl!, by kernel_rfl!⟩
    case a37 => intro v0 v1 v2; show bindArgs _ _ = pure _; kernel_rfl!
    case a38 => exact ⟨by kernel_rfl!, fun _ _ _ => by kernel_rfl!, by kernel_rfl!, by kernel_rfl!, by kernel_rfl!⟩
    case a39 => intro v0; show bindArgs _ _ = pure _; kernel_rfl!
    case a40 => exact ⟨by kernel_rfl!, fun _ _ _ => by kernel_rfl!, by kernel_rfl!, by kernel_rfl!, by kernel_rfl!, by kernel_rfl!⟩
    case a41 => intro v0 v1 v2; show bindArgs _ _ = pure _; kernel_rfl!
  case h10 =>
    intro h' tk' m' F'
    refine goodW_bool F' (by assumption) (raisesW_false ?_) ?_
    · wrow_none_raised
    · wrow_post
end Mine
theorem PySem.Challenge.cw_xv0001_10_holds : PySem.Challenge.rw_xv0001_10.Holds := by
  exact Mine.top