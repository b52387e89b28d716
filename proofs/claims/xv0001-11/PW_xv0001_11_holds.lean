import PyProof.Rows.All
import Wide.All
import OpenK.AllK
import Wide.FinOn
import PySem.Challenge.RW_xv0001_11
open PySem PySem.W PyProof.Rows PySem.Calls
set_option Elab.async false
set_option genSizeOf false
set_option maxRecDepth 100000
namespace Mine
/-- a value without its token -/
inductive V where
  | unb | other | none
  | int (i : Int)
  | bool (b : Bool)
  | str (s : Str)
  | ref (a : Addr)
  | cell (a : Addr)
noncomputable def absV : Value → V
  | .int i _ => .int i
  | .bool b => .bool b
  | .none => .none
  | .str s _ => .str s
  | .ref a => .ref a
  | _ => .other
inductive O where
  | list (vs : List V)
  | tup (vs : List V)
  | ro (vs : List V)
  | cell (v : V)
  | rng (a b c : Int)
  | dict (kvs : List (Int × Int))
noncomputable abbrev HP := Addr → Option O
noncomputable def hset (h : HP) (a : Addr) (o : O) : HP := fun b => if b = a then some o else h b
theorem hset_same {h : HP} {a : Addr} {o : O} : hset h a o a = some o := by simp [hset]
theorem hset_ne {h : HP} {a b : Addr} {o : O} (e : b ≠ a) : hset h a o b = h b := by simp [hset, e]
theorem hset_none {h : HP} {a b : Addr} {o : O} : hset h a o b = Option.none ↔ b ≠ a ∧ h b = Option.none := by
  unfold hset; by_cases e : b = a <;> simp [e]
/-- an exception under way: raised in this frame, or come up from a call -/
inductive Ex where
  | own (c : String)
  | up (c : String)
noncomputable def Ex.cls : Ex → String
  | .own c => c
  | .up c => c
noncomputable abbrev XT := Ex → HP → Prop
noncomputable abbrev XC := String → HP → Prop
noncomputable abbrev upX (X : XC) : XT := fun e h => X e.cls h
noncomputable abbrev dnX (X : XT) : XC := fun c h => X (.up c) h
noncomputable abbrev cX (X : XC) : XT := fun e h => match e with | .up c => X c h | .own _ => False
set_option genInjectivity false
structure G where
  prog : Program
  w : World
  K : Frag
  p : Program
  loose : List Str
  mean : ExcName → Option Value
  mg : Str → Option Value
  mb : Str → Option Value
/-- the place of a comprehension that is under way -/
structure CP where
  C : Addr
  ksc : Scope
  kcl : List (Str × Addr)
  knames : List Str
  kl : List V
structure Cx where
  g : G
  A₀ : Around
  base : Heap
  h₀ : Heap
  outer : List Env
  L : Addr
  qn : Str
  fsc : Scope
  fa : Addr
  cd : Value
  cl : List (Str × Addr)
  cp : Option CP
set_option genInjectivity true
noncomputable abbrev Cx.fenv (c : Cx) : Env := envX c.qn c.fsc c.L c.fa c.cd c.cl
noncomputable abbrev Cx.env (c : Cx) : Env := match c.cp with
  | none => c.fenv
  | some k => compEnvC k.ksc k.kcl k.C c.fenv
noncomputable abbrev Cx.sc (c : Cx) : Scope := match c.cp with
  | none => c.fsc
  | some k => relabel k.ksc c.fenv
noncomputable abbrev Cx.A (c : Cx) : Around := c.A₀.deeper c.fenv
noncomputable abbrev Cx.fs (c : Cx) : List Addr := c.outer.filterMap (·.frame)
noncomputable abbrev Cx.at (c : Cx) (g : Heap) : Cx := { c with h₀ := g }
structure Cx.Ok (c : Cx) : Prop where
  below : Below c.A₀ c.base c.outer c.h₀
  inK : c.g.K.In c.base
  top : Top c.g.p c.g.loose c.g.mean c.g.mg c.g.mb c.base
  dicts : KtsDicts c.fs c.h₀
  kind : c.sc.kind = .function
  fkind : c.fsc.kind = .function
  gen : c.fsc.isGenerator = false
  cor : c.fsc.isCoroutine = false
  hd : c.A₀.handled = none
  seer : c.base.NoSeer
  tree : c.g.prog.given.tree = none
noncomputable def RepO : O → Obj → Prop
  | .list vs, o => ∃ items n, o = { cls := .type "list", data := .seq items n } ∧ items.toList.map absV = vs
  | .tup vs, o => ∃ items n, o = { cls := .type "tuple", data := .seq items n } ∧ items.toList.map absV = vs
  | .ro _, _ => False
  | .cell v, o => ∃ w : Option Value, o.data = .cell w ∧ (match w with | Option.none => v = .unb | some val => v ≠ .unb ∧ absV val = v)
  | .rng a b c, o => ∃ t u v, o = { cls := .type "range", dict := none, data := .fields #[.int a t, .int b u, .int c v], slots := #[] }
  | .dict _, _ => False
noncomputable def HpRep (c : Cx) (hp : HP) (h : Heap) : Prop :=
  (∃ D : List Addr, ∀ a o, hp a = some o → a ∈ D) ∧
  ∀ a o, hp a = some o → match o with
    | .ro vs => ∃ items : Array Value, c.base.IsList a items ∧ items.toList.map absV = vs
    | o => ∃ ob, h.get? a = some ob ∧ RepO o ob ∧ a ≠ c.L ∧ c.h₀.get? a = none
noncomputable def Loc (cl : List (Str × Addr)) (names : List Str) (l : List V) (m : Str → Option Value) : Prop :=
  ∀ (i : Nat) x v, names[i]? = some x → l[i]? = some v → v ≠ .unb → (∃ a, v = .cell a ∧ cl.lookup x = some a) ∨ ((∀ a, v ≠ .cell a) ∧ ∃ val, m x = some val ∧ absV val = v)
/-- an object that is the space of names m -/
noncomputable def NsObj (o : Obj) (m : Str → Option Value) : Prop := ∃ es ep, o.data = .dict es ep ∧ StrKeys es ∧ ∀ name, nsFind es name = m name
noncomputable def LocX (c : Cx) (names : List Str) (l : List V) (m : Str → Option Value) (fr : List (Addr × Obj)) : Prop := match c.cp with
  | none => Loc c.cl names l m
  | some k => Loc c.cl k.knames k.kl m ∧ ∃ oC m₂, (k.C, oC) ∈ fr ∧ NsObj oC m₂ ∧ Loc k.kcl names l m₂
theorem LocX.sub {c : Cx} {names l m fr fr'} (h : LocX c names l m fr) (hs : ∀ p ∈ fr, p ∈ fr') : LocX c names l m fr' := by
  unfold LocX at *
  split at h
  · exact h
  · obtain ⟨a, oC, m₂, b, c⟩ := h; exact ⟨a, oC, m₂, hs _ b, c⟩
theorem LocX.any {c : Cx} {names l m fr fr'} (h : LocX c names l m fr) (hc : c.cp = none) : LocX c names l m fr' := by
  unfold LocX at *
  rw [hc] at h ⊢; exact h
theorem LocX.plain {c : Cx} {names l m fr} (hc : c.cp = none) : LocX c names l m fr ↔ Loc c.cl names l m := by
  unfold LocX; rw [hc]
/-- the heap h of the frame c: its names bear l, its store hp, and the objects of fr stand as they are -/
noncomputable def Rep0 (c : Cx) (names : List Str) (l : List V) (hp : HP) (fr : List (Addr × Obj)) (h : Heap) : Prop :=
  ∃ m, Fr c.h₀ c.L h m ∧ LocX c names l m fr ∧ HpRep c hp h ∧ News c.h₀ c.L h fr ∧ ∀ p ∈ fr, hp p.1 = Option.none
/-- the same, over a ground whose outer frames have turned -/
noncomputable def Rep (c : Cx) (names : List Str) (l : List V) (hp : HP) (fr : List (Addr × Obj)) (h : Heap) : Prop :=
  ∃ g, KtsTurn c.fs c.h₀ g ∧ Rep0 (c.at g) names l hp fr h
noncomputable def HpN (c : Cx) (hp : HP) (news : List (Addr × Obj)) : Prop :=
  (∃ D : List Addr, ∀ a o, hp a = some o → a ∈ D) ∧
  ∀ a o, hp a = some o → match o with
    | .ro vs => ∃ items : Array Value, c.base.IsList a items ∧ items.toList.map absV = vs
    | o => ∃ ob, (a, ob) ∈ news ∧ RepO o ob
/-- an exception under way in the frame c -/
noncomputable def Raised (c : Cx) (names : List Str) (l : List V) (hp : HP) (fr : List (Addr × Obj)) (x : Ex) (e : Addr) (h' : Heap) : Prop :=
  (∀ p ∈ fr, hp p.1 = Option.none) ∧ ∃ g m hh, KtsTurn c.fs c.h₀ g ∧ Fr g c.L hh m ∧ LocX c names l m fr ∧
    ((∃ cls t vs news, x = .up cls ∧ hh.UpToSlots h' ∧ RaisedS c.base hh (c.fenv :: c.outer) e (.type cls) t vs (news ++ fr) h' ∧ HpN c hp news) ∨
     (∃ cls vs news, x = .own cls ∧ Heap.MadeExcOf hh h' e (.type cls) vs ∧ HpN c hp news ∧ News g c.L hh (news ++ fr)))
noncomputable def XP (c : Cx) (names : List Str) (l : List V) (fr : List (Addr × Obj)) (X : XT) (E : Value → Shared → Prop) (s : Shared) : Prop :=
  ∀ cls e hp' h' tk', X cls hp' → Raised c names l hp' fr cls e h' → E (.ref e) { s with heap := h', toks := tk' }
theorem XP.call {c : Cx} {names : List Str} {l : List V} {fr : List (Addr × Obj)} {X : XT} {E : Value → Shared → Prop} {s s' : Shared} (h : XP c names l fr X E s) (e : ∀ h' tk', ({ s' with heap := h', toks := tk' } : Shared) = { s with heap := h', toks := tk' } := by intros; rfl) : XP c names l fr (cX (dnX X)) E s' := by
  intro x e' hp' h' tk' hx hr
  rw [e]
  cases x with
  | up c => exact h (.up c) e' hp' h' tk' hx hr
  | own c => exact hx.elim
/-- the tree t, run in the frame c over the store hp, ends in Q or raises into X -/
noncomputable def W {α β : Type} (rel : β → α → Prop) (c : Cx) (names : List Str) (l : List V) (t : Sem α) (hp : HP) (Q : β → HP → Prop) (X : XT) : Prop :=
  ∀ (fr : List (Addr × Obj)) (s : Shared) (P : α → Shared → Prop) (E : Value → Shared → Prop), Rep c names l hp fr s.heap →
    (∀ b a hp' h' tk', Q b hp' → rel b a → Rep c names l hp' fr h' → P a { s with heap := h', toks := tk' }) →
    XP c names l fr X E s →
    wpAny (model c.g.prog c.g.w) c.A t P E s
noncomputable def rV (v : V) (val : Value) : Prop := absV val = v
noncomputable def rVs (vs : List V) (vals : List Value) : Prop := vals.map absV = vs
noncomputable def rB (b b' : Bool) : Prop := b' = b
noncomputable def room (c : Cx) (d : Nat) : Prop := c.A.depth + d + 200 < recursionLimit ∧ c.A.units + 8 * d + 200 < cLine
/-- a call of the def at f -/
noncomputable def Calls (g : G) (d : Nat) (f : Addr) (args : List V) (kw : List (Str × V)) (hp : HP) (Q : V → HP → Prop) (X : XC) : Prop :=
  ∀ (c : Cx), c.g = g → c.Ok → room c d → ∀ (names : List Str) (l : List V) (vals : List Value) (kvals : List (Str × Value)),
    vals.map absV = args → (kvals.map fun p => (p.1, absV p.2)) = kw →
    W rV c names l (call (.ref f) vals kvals) hp Q (cX X)
set_option genInjectivity false
inductive BOp where
  | add | sub | mul | fdiv | mod | pow | shl | shr | band
  deriving DecidableEq
inductive COp where
  | eq | ne | lt | le | gt | ge
  deriving DecidableEq
inductive Kd where
  | int | bool | list | tuple
  deriving DecidableEq
inductive ME where
  | var (i : Nat)
  | int (i : Int)
  | bool (b : Bool)
  | none
  | bin (o : BOp) (a b : ME)
  | neg (a : ME)
  | cmp (o : COp) (a b : ME)
  | chain (a : ME) (o : COp) (b : ME) (p : COp) (d : ME)
  | isn (a : ME) (pos : Bool)
  | not (a : ME)
  | and (a b : ME)
  | or (a b : ME)
  | ite (a b d : ME)
  | call (f : Nat) (as : ME)
  | nil
  | cons (a b : ME)
  | tup (as : ME)
  | list (as : ME)
  | idx (a i : ME)
  | len (a : ME)
  | toInt (a : ME)
  | isi (a : ME) (k : Kd)
  | tv (a : ME)
  | slcF (a i : ME)
  | listOf (a : ME)
  | pop0 (a : ME)
  | app (a b : ME)
  | abs (a : ME)
  | dvm (a b : ME)
  | strC (x : String)
  | pow3 (a b e : ME)
  | cvar (i : Nat)
  | rng (a b e : ME)
  | sorted (a : ME)
  | compR (lo hi st cond elt : ME) (caps : List Nat)
  | compL (it cond elt : ME) (caps : List Nat)
/-- what a handler does -/
inductive MH where
  | retB (b : Bool)
  | retN
  | inc (i : Nat) (k : Int)
  | retS (x : String)
inductive TK where
  | expr | ret
  | asg (i : Nat)
inductive MS where
  | skip
  | seq (a b : MS)
  | asg (i : Nat) (e : ME)
  | asgN (is : List Nat) (es : ME)
  | unp (is : List Nat) (e : ME)
  | aug (i : Nat) (o : BOp) (e : ME)
  | setI (a i e : ME)
  | ite (c : ME) (a b : MS)
  | whil (c : ME) (a b : MS)
  | forR (i : Nat) (lo hi st : ME) (a : MS)
  | forL (i : Nat) (e : ME) (a : MS)
  | ret (e : ME)
  | brk
  | expr (e : ME)
  | stop
  | raise (x : String)
  | casg (i : Nat) (e : ME)
  | asgC (is : List (Nat × Bool)) (es : ME)
  | tryE (t : TK) (e : ME) (x : String) (h : MH)
set_option genInjectivity true
noncomputable def truV : V → HP → (Bool → Prop) → Prop
  | .int i, _, Q => Q (i != 0)
  | .bool b, _, Q => Q b
  | _, _, _ => False
noncomputable def intOk (i j : Int) : BOp → Prop
  | .mul => IntMulOk i j
  | .fdiv => j ≠ 0
  | .mod => j ≠ 0
  | .pow => 0 ≤ j ∧ (Builtin.Int.intBits i : Int) * j ≤ 2 ^ 27
  | .shl => 0 ≤ j ∧ (Builtin.Int.intBits i : Int) + j ≤ 2 ^ 27
  | .shr => 0 ≤ j
  | _ => True
noncomputable def intOp (i j : Int) : BOp → Int
  | .add => i + j
  | .sub => i - j
  | .mul => i * j
  | .fdiv => i.fdiv j
  | .mod => i.fmod j
  | .pow => i ^ j.toNat
  | .shl => i * 2 ^ j.toNat
  | .shr => i.fdiv (2 ^ j.toNat)
  | .band => Builtin.bitAnd i j
noncomputable def itemsOf : Option O → Option (List V)
  | some (.list vs) => some vs
  | some (.ro vs) => some vs
  | some (.tup vs) => some vs
  | some (.cell _) => Option.none
  | some (.rng _ _ _) => Option.none
  | some (.dict _) => Option.none
  | Option.none => Option.none
noncomputable def rngL (a b c : Int) : List V := (List.range (Builtin.Range.rangeSize a b c).toNat).map fun (k : Nat) => V.int (a + k * c)
/-- the items of a list, a tuple or a range -/
noncomputable def iterOf : Option O → Option (List V)
  | some (.rng a b c) => if Builtin.Range.small a b c then some (rngL a b c) else Option.none
  | o => itemsOf o
/-- the items of a list (not of a tuple) -/
noncomputable def listAt : Option O → Option (List V)
  | some (.list vs) => some vs
  | some (.ro vs) => some vs
  | _ => Option.none
noncomputable def newV (hp : HP) (o : O) (Q : V → HP → Prop) : Prop := ∀ r, hp r = Option.none → Q (.ref r) (hset hp r o)
noncomputable def binV (o : BOp) (v w : V) (hp : HP) (Q : V → HP → Prop) : Prop :=
  match v, w with
  | .int i, .int j => intOk i j o ∧ Q (.int (intOp i j o)) hp
  | .ref a, .ref b => match o with
    | .add => ∃ vs ws, listAt (hp a) = some vs ∧ listAt (hp b) = some ws ∧ vs.length + ws.length ≤ sizeLine ∧ newV hp (.list (vs ++ ws)) Q
    | _ => False
  | _, _ => False
noncomputable def augV (o : BOp) (v w : V) (hp : HP) (Q : V → HP → Prop) : Prop :=
  match v, w with
  | .int i, .int j => intOk i j o ∧ Q (.int (intOp i j o)) hp
  | _, _ => False
noncomputable def cmpI (i j : Int) : COp → Bool
  | .eq => decide (i = j)
  | .ne => !decide (i = j)
  | .lt => decide (i < j)
  | .le => decide (i ≤ j)
  | .gt => decide (j < i)
  | .ge => decide (j ≤ i)
mutual
/-- the datum that a value reads as -/
inductive Rd (hp : HP) : V → PyData → Prop
  | int (i : Int) : Rd hp (.int i) (.int i)
  | bool (b : Bool) : Rd hp (.bool b) (.bool b)
  | none : Rd hp .none .none
  | str (x : Str) : Rd hp (.str x) (.str x)
  | list {a : Addr} {vs : List V} {ds : List PyData} : hp a = some (.list vs) → RdL hp vs ds → Rd hp (.ref a) (.list ds)
  | ro {a : Addr} {vs : List V} {ds : List PyData} : hp a = some (.ro vs) → RdL hp vs ds → Rd hp (.ref a) (.list ds)
  | tup {a : Addr} {vs : List V} {ds : List PyData} : hp a = some (.tup vs) → RdL hp vs ds → Rd hp (.ref a) (.tuple ds)
inductive RdL (hp : HP) : List V → List PyData → Prop
  | nil : RdL hp [] []
  | cons {v : V} {d : PyData} {vs : List V} {ds : List PyData} : Rd hp v d → RdL hp vs ds → RdL hp (v :: vs) (d :: ds)
end
noncomputable def cmpV (o : COp) (v w : V) (hp : HP) (Q : Bool → Prop) : Prop :=
  match v, w, o with
  | .int i, .int j, o => Q (cmpI i j o)
  | v, w, .eq => ∃ d e, Rd hp v d ∧ Rd hp w e ∧ SeqAt.shaped d = true ∧ SeqAt.shaped e = true ∧ Q (PyData.eqv d e)
  | v, w, .ne => ∃ d e, Rd hp v d ∧ Rd hp w e ∧ SeqAt.shaped d = true ∧ SeqAt.shaped e = true ∧ Q (!PyData.eqv d e)
  | _, _, _ => False
noncomputable def isNone : V → Option Bool
  | .none => some true
  | .int _ => some false
  | .bool _ => some false
  | .ref _ => some false
  | _ => Option.none
noncomputable def isiV (v : V) (hp : HP) (k : Kd) (Q : Bool → Prop) : Prop :=
  match v, k with
  | .int _, .int => Q true
  | .int _, _ => Q false
  | .bool _, .int => Q true
  | .bool _, .bool => Q true
  | .bool _, _ => Q false
  | .ref a, k => (∃ vs, hp a = some (.list vs) ∧ Q (decide (k = .list))) ∨ (∃ vs, hp a = some (.tup vs) ∧ Q (decide (k = .tuple)))
  | _, _ => False
noncomputable def lget : List V → Nat → V
  | [], _ => .unb
  | v :: _, 0 => v
  | _ :: r, n + 1 => lget r n
noncomputable def lset : List V → Nat → V → List V
  | [], _, _ => []
  | _ :: r, 0, v => v :: r
  | x :: r, n + 1, v => x :: lset r n v
noncomputable def lsetN : List V → List Nat → List V → List V
  | l, i :: is, v :: vs => lsetN (lset l i v) is vs
  | l, _, _ => l
noncomputable def varV (l : List V) (i : Nat) (Q : V → Prop) : Prop :=
  match lget l i with
  | .unb => False
  | .cell _ => False
  | v => Q v
noncomputable def idxV (v w : V) (hp : HP) (Q : V → Prop) : Prop :=
  match v, w with
  | .ref a, .int k => ∃ vs x, itemsOf (hp a) = some vs ∧ (vs.length : Int) < 2 ^ 62 ∧ -(vs.length : Int) ≤ k ∧ k < vs.length ∧
      vs[(if k < 0 then k + vs.length else k).toNat]? = some x ∧ Q x
  | _, _ => False
noncomputable def lenV (v : V) (hp : HP) (Q : Int → Prop) : Prop :=
  match v with
  | .ref a => ∃ vs, itemsOf (hp a) = some vs ∧ (vs.length : Int) < 2 ^ 62 ∧ Q vs.length
  | .str x => (x.length : Int) < 2 ^ 62 ∧ Q x.length
  | _ => False
noncomputable def slcV (from' : Bool) (v w : V) (hp : HP) (Q : V → HP → Prop) : Prop :=
  match v, w with
  | .ref a, .int k => ∃ vs, listAt (hp a) = some vs ∧ vs.length ≤ sizeLine ∧ 0 ≤ k ∧ newV hp (.list (match from' with | true => vs.drop k.toNat | false => vs.take k.toNat)) Q
  | _, _ => False
noncomputable def lstV (v : V) (hp : HP) (Q : V → HP → Prop) : Prop :=
  match v with
  | .ref a => ∃ vs, iterOf (hp a) = some vs ∧ vs.length ≤ sizeLine ∧ newV hp (.list vs) Q
  | _ => False
noncomputable def pop0V (v : V) (hp : HP) (Q : V → HP → Prop) : Prop :=
  match v with
  | .ref a => ∃ x vs, hp a = some (.list (x :: vs)) ∧ vs.length < sizeLine ∧ Q x (hset hp a (.list vs))
  | _ => False
noncomputable def isLV (v : V) (hp : HP) (P : Prop) : Prop :=
  match v with
  | .ref a => (∃ vs, hp a = some (.list vs)) ∧ P
  | _ => False
noncomputable def appV (v x : V) (hp : HP) (Q : V → HP → Prop) : Prop :=
  match v with
  | .ref a => ∃ vs, hp a = some (.list vs) ∧ vs.length ≤ sizeLine ∧ Q .none (hset hp a (.list (vs ++ [x])))
  | _ => False
noncomputable def cvarV (l : List V) (i : Nat) (hp : HP) (Q : V → Prop) : Prop :=
  match lget l i with
  | .cell a => ∃ v, hp a = some (.cell v) ∧ v ≠ .unb ∧ Q v
  | _ => False
/-- the values that a comprehension keeps hold of -/
noncomputable def capsV (l : List V) : List Nat → List V
  | [] => []
  | i :: r => lget l i :: capsV l r
noncomputable def cellsB (l : List V) : List Nat → Bool
  | [] => true
  | i :: r => (match lget l i with | .cell _ => true | _ => false) && cellsB l r
/-- a comprehension over the values vs -/
noncomputable def compI (test : List V → HP → (Bool → HP → Prop) → Prop) (elt : List V → HP → (V → HP → Prop) → Prop) (new : V → (List V → Prop) → HP → Prop) (vs : List V) (hp : HP) (K : HP → Prop) (Q : V → HP → Prop) : Prop :=
  ∃ I : Nat → List V → HP → Prop, I 0 [] hp ∧
    (∀ k x acc h, vs[k]? = some x → I k acc h → K h ∧ acc.length ≤ sizeLine ∧ new x (fun l => test l h fun t h1 =>
      (t = true → elt l h1 fun v h2 => I (k + 1) (acc ++ [v]) h2) ∧ (t = false → I (k + 1) acc h1)) h) ∧
    (∀ acc h, I vs.length acc h → K h ∧ newV h (.list acc) Q)
mutual
noncomputable def ev (g : G) (d : Nat) : ME → List V → HP → (V → HP → Prop) → (XT) → Prop
  | .var i, l, hp, Q, _ => varV l i fun v => Q v hp
  | .int i, _, hp, Q, _ => Q (.int i) hp
  | .bool b, _, hp, Q, _ => Q (.bool b) hp
  | .none, _, hp, Q, _ => Q .none hp
  | .bin o a b, l, hp, Q, X => ev g d a l hp (fun v h1 => ev g d b l h1 (fun w h2 => binV o v w h2 Q) X) X
  | .neg a, l, hp, Q, X => ev g d a l hp (fun v h1 => match v with | .int i => Q (.int (-i)) h1 | _ => False) X
  | .cmp o a b, l, hp, Q, X => ev g d a l hp (fun v h1 => ev g d b l h1 (fun w h2 => cmpV o v w h2 fun t => Q (.bool t) h2) X) X
  | .chain a o b p e, l, hp, Q, X => ev g d a l hp (fun v h1 => ev g d b l h1 (fun w h2 => cmpV o v w h2 fun t =>
      (t = true → ev g d e l h2 (fun u h3 => cmpV p w u h3 fun t' => Q (.bool t') h3) X) ∧ (t = false → Q (.bool false) h2)) X) X
  | .isn a pos, l, hp, Q, X => ev g d a l hp (fun v h1 => match isNone v with | some b => Q (.bool (b == pos)) h1 | Option.none => False) X
  | .not a, l, hp, Q, X => ev g d a l hp (fun v h1 => truV v h1 fun t => Q (.bool (!t)) h1) X
  | .and a b, l, hp, Q, X => ev g d a l hp (fun v h1 => truV v h1 fun t => (t = true → ev g d b l h1 Q X) ∧ (t = false → Q v h1)) X
  | .or a b, l, hp, Q, X => ev g d a l hp (fun v h1 => truV v h1 fun t => (t = true → Q v h1) ∧ (t = false → ev g d b l h1 Q X)) X
  | .ite a b e, l, hp, Q, X => evT g d a l hp (fun t h1 => (t = true → ev g d b l h1 Q X) ∧ (t = false → ev g d e l h1 Q X)) X
  | .call f as, l, hp, Q, X => evs g d as l hp (fun vs h1 => Calls g d f vs [] h1 Q (dnX X)) X
  | .tup as, l, hp, Q, X => evs g d as l hp (fun vs h1 => vs.length ≤ sizeLine ∧ ∀ r, h1 r = Option.none → Q (.ref r) (hset h1 r (.tup vs))) X
  | .list as, l, hp, Q, X => evs g d as l hp (fun vs h1 => vs.length ≤ sizeLine ∧ ∀ r, h1 r = Option.none → Q (.ref r) (hset h1 r (.list vs))) X
  | .idx a i, l, hp, Q, X => ev g d a l hp (fun v h1 => ev g d i l h1 (fun w h2 => idxV v w h2 fun x => Q x h2) X) X
  | .len a, l, hp, Q, X => ev g d a l hp (fun v h1 => lenV v h1 fun n => Q (.int n) h1) X
  | .toInt a, l, hp, Q, X => ev g d a l hp (fun v h1 => match v with | .int i => Q (.int i) h1 | _ => False) X
  | .isi a k, l, hp, Q, X => ev g d a l hp (fun v h1 => isiV v h1 k fun t => Q (.bool t) h1) X
  | .nil, _, _, _, _ => False
  | .cons _ _, _, _, _, _ => False
  | .tv _, _, _, _, _ => False
  | .slcF a i, l, hp, Q, X => ev g d a l hp (fun v h1 => ev g d i l h1 (fun w h2 => slcV true v w h2 Q) X) X
  | .listOf a, l, hp, Q, X => ev g d a l hp (fun v h1 => lstV v h1 Q) X
  | .pop0 a, l, hp, Q, X => ev g d a l hp (fun v h1 => pop0V v h1 Q) X
  | .app a b, l, hp, Q, X => ev g d a l hp (fun v h1 => isLV v h1 (ev g d b l h1 (fun w h2 => appV v w h2 Q) X)) X
  | .abs a, l, hp, Q, X => ev g d a l hp (fun v h1 => match v with | .int i => Q (.int (if i < 0 then -i else i)) h1 | _ => False) X
  | .dvm a b, l, hp, Q, X => ev g d a l hp (fun v h1 => ev g d b l h1 (fun w h2 => match v, w with | .int i, .int j => j ≠ 0 ∧ newV h2 (.tup [.int (i.fdiv j), .int (i.fmod j)]) Q | _, _ => False) X) X
  | .cvar i, l, hp, Q, _ => cvarV l i hp fun v => Q v hp
  | .compR lo hi st cond elt caps, l, hp, Q, X => cellsB l caps = true ∧ ev g d lo l hp (fun x h1 => ev g d hi l h1 (fun y h2 => ev g d st l h2 (fun z h3 =>
      match x, y, z with
      | .int x, .int y, .int z => z ≠ 0 ∧ Builtin.Range.small x y z = true ∧ compI (fun l h R => evT g d cond l h R fun _ _ => False) (fun l h R => ev g d elt l h R fun _ _ => False) (fun v R _ => R (v :: capsV l caps))
          ((List.range (Builtin.Range.rangeSize x y z).toNat).map fun (k : Nat) => V.int (x + k * z)) h3 (fun _ => True) Q
      | _, _, _ => False) X) X) X
  | .compL it cond elt caps, l, hp, Q, X => cellsB l caps = true ∧ ev g d it l hp (fun v h1 => match v with
      | .ref r => ∃ vs, listAt (h1 r) = some vs ∧ (vs.length : Int) < 2 ^ 62 ∧ compI (fun l h R => evT g d cond l h R fun _ _ => False) (fun l h R => ev g d elt l h R fun _ _ => False) (fun v R _ => R (v :: capsV l caps)) vs h1 (fun h => h r = h1 r) Q
      | _ => False) X
  | .rng a b e, l, hp, Q, X => ev g d a l hp (fun v h1 => ev g d b l h1 (fun w h2 => ev g d e l h2 (fun u h3 => match v, w, u with
      | .int i, .int j, .int k => k ≠ 0 ∧ newV h3 (.rng i j k) Q | _, _, _ => False) X) X) X
  | .sorted a, l, hp, Q, X => ev g d a l hp (fun v h1 => match v with
      | .ref r => ∃ ns : List Int, listAt (h1 r) = some (ns.map .int) ∧ ns.length < 64 ∧ ∀ ms : List Int, ms.Perm ns → ms.Pairwise (· ≤ ·) → newV h1 (.list (ms.map .int)) Q | _ => False) X
  | .strC x, _, hp, Q, _ => Q (.str (Str.ofString x)) hp
  | .pow3 a b e, l, hp, Q, X => ev g d a l hp (fun v h1 => ev g d b l h1 (fun w h2 => ev g d e l h2 (fun u h3 => match v, w, u with
      | .int i, .int j, .int k => 0 ≤ j ∧ 0 < k ∧ Q (.int ((i ^ j.toNat).fmod k)) h3 | _, _, _ => False) X) X) X
termination_by structural m => m
noncomputable def evs (g : G) (d : Nat) : ME → List V → HP → (List V → HP → Prop) → (XT) → Prop
  | .nil, _, hp, Q, _ => Q [] hp
  | .cons a b, l, hp, Q, X => ev g d a l hp (fun v h1 => evs g d b l h1 (fun vs h2 => Q (v :: vs) h2) X) X
  | _, _, _, _, _ => False
termination_by structural m => m
noncomputable def evT (g : G) (d : Nat) : ME → List V → HP → (Bool → HP → Prop) → (XT) → Prop
  | .cmp o a b, l, hp, Q, X => ev g d a l hp (fun v h1 => ev g d b l h1 (fun w h2 => cmpV o v w h2 fun t => Q t h2) X) X
  | .chain a o b p e, l, hp, Q, X => ev g d a l hp (fun v h1 => ev g d b l h1 (fun w h2 => cmpV o v w h2 fun t =>
      (t = true → ev g d e l h2 (fun u h3 => cmpV p w u h3 fun t' => Q t' h3) X) ∧ (t = false → Q false h2)) X) X
  | .not a, l, hp, Q, X => evT g d a l hp (fun t h1 => Q (!t) h1) X
  | .and a b, l, hp, Q, X => evT g d a l hp (fun t h1 => (t = true → evT g d b l h1 Q X) ∧ (t = false → Q false h1)) X
  | .or a b, l, hp, Q, X => evT g d a l hp (fun t h1 => (t = true → Q true h1) ∧ (t = false → evT g d b l h1 Q X)) X
  | .ite a b e, l, hp, Q, X => evT g d a l hp (fun t h1 => (t = true → evT g d b l h1 Q X) ∧ (t = false → evT g d e l h1 Q X)) X
  | .tv a, l, hp, Q, X => ev g d a l hp (fun v h1 => truV v h1 fun t => Q t h1) X
  | _, _, _, _, _ => False
termination_by structural m => m
end
inductive Out where
  | next | brk
  | ret (v : V)
noncomputable def setV (v w x : V) (hp : HP) (Q : HP → Prop) : Prop :=
  match v, w with
  | .ref a, .int k => ∃ vs, hp a = some (.list vs) ∧ 0 ≤ k ∧ k < vs.length ∧ (vs.length : Int) < 2 ^ 62 ∧ Q (hset hp a (.list (vs.set k.toNat x)))
  | _, _ => False
noncomputable def unpV (v : V) (n : Nat) (hp : HP) (Q : List V → Prop) : Prop :=
  match v with
  | .ref a => ∃ vs, hp a = some (.tup vs) ∧ vs.length = n ∧ Q vs
  | _ => False
/-- values put at places, of which some are cells -/
noncomputable def putN (l : List V) : List (Nat × Bool) → List V → HP → (List V → HP → Prop) → Prop
  | [], [], hp, Q => Q l hp
  | (i, false) :: is, v :: vs, hp, Q => putN (lset l i v) is vs hp Q
  | (i, true) :: is, v :: vs, hp, Q => match lget l i with
    | .cell a => (∃ w, hp a = some (.cell w)) ∧ putN l is vs (hset hp a (.cell v)) Q
    | _ => False
  | _, _, _, _ => False
/-- a loop over the values vs -/
noncomputable def forIn (turn : List V → HP → (Out → List V → HP → Prop) → Prop) (i : Nat) (vs : List V) (l : List V) (hp : HP) (K : HP → Prop) (Q : Out → List V → HP → Prop) : Prop :=
  ∃ I : Nat → List V → HP → Prop, I 0 l hp ∧
    (∀ k x l h, vs[k]? = some x → I k l h → K h ∧ turn (lset l i x) h (fun o l2 h2 => match o with
      | .next => I (k + 1) l2 h2 | .brk => Q .next l2 h2 | .ret v => Q (.ret v) l2 h2)) ∧
    (∀ l h, I vs.length l h → K h ∧ Q .next l h)
noncomputable def execH : MH → List V → HP → (Out → List V → HP → Prop) → Prop
  | .retB b, l, hp, Q => Q (.ret (.bool b)) l hp
  | .retN, l, hp, Q => Q (.ret .none) l hp
  | .inc i k, l, hp, Q => varV l i fun v => match v with | .int n => Q .next (lset l i (.int (n + k))) hp | _ => False
  | .retS x, l, hp, Q => newV hp (.tup [.str (Str.ofString x)]) fun v h1 => Q (.ret v) l h1
noncomputable def whileI (test : List V → HP → (Bool → HP → Prop) → Prop) (turn els : List V → HP → (Out → List V → HP → Prop) → Prop) (l : List V) (hp : HP) (Q : Out → List V → HP → Prop) : Prop :=
  ∃ I : Nat → List V → HP → Prop, (∃ n, I n l hp) ∧ ∀ n l h, I n l h → test l h (fun t h1 =>
    (t = true → turn l h1 (fun o l2 h2 => match o with
      | .next => ∃ m, m < n ∧ I m l2 h2 | .brk => Q .next l2 h2 | .ret v => Q (.ret v) l2 h2)) ∧
    (t = false → els l h1 Q))
noncomputable def sameLen : List V → List Nat → Bool
  | [], [] => true
  | _ :: r, _ :: t => sameLen r t
  | _, _ => false
theorem sameLen_len : ∀ {vs : List V} {is : List Nat}, sameLen vs is = true → vs.length = is.length
  | [], [], _ => rfl
  | [], _ :: _, h => by cases h
  | _ :: _, [], h => by cases h
  | _ :: r, _ :: t, h => by simp only [List.length_cons]; rw [sameLen_len (vs := r) (is := t) h]
noncomputable abbrev noX : XT := fun _ _ => False
noncomputable def exec (g : G) (d : Nat) : MS → List V → HP → (Out → List V → HP → Prop) → (XT) → Prop
  | .skip, l, hp, Q, _ => Q .next l hp
  | .seq a b, l, hp, Q, X => exec g d a l hp (fun o l1 h1 => match o with | .next => exec g d b l1 h1 Q X | .brk => Q .brk l1 h1 | .ret v => Q (.ret v) l1 h1) X
  | .asg i e, l, hp, Q, X => ev g d e l hp (fun v h1 => Q .next (lset l i v) h1) X
  | .asgN is es, l, hp, Q, X => evs g d es l hp (fun vs h1 => match sameLen vs is with | true => Q .next (lsetN l is vs) h1 | false => False) X
  | .unp is e, l, hp, Q, X => ev g d e l hp (fun v h1 => unpV v is.length h1 fun vs => Q .next (lsetN l is vs) h1) X
  | .aug i o e, l, hp, Q, X => varV l i fun v => ev g d e l hp (fun w h1 => augV o v w h1 fun r h2 => Q .next (lset l i r) h2) X
  | .setI a i e, l, hp, Q, X => ev g d e l hp (fun x h1 => ev g d a l h1 (fun v h2 => ev g d i l h2 (fun w h3 => setV v w x h3 fun h4 => Q .next l h4) X) X) X
  | .ite c a b, l, hp, Q, X => evT g d c l hp (fun t h1 => (t = true → exec g d a l h1 Q X) ∧ (t = false → exec g d b l h1 Q X)) X
  | .whil c a b, l, hp, Q, _ => whileI (fun l h R => evT g d c l h R noX) (fun l h R => exec g d a l h R noX) (fun l h R => exec g d b l h R noX) l hp Q
  | .forR i lo hi st a, l, hp, Q, X => ev g d lo l hp (fun x h1 => ev g d hi l h1 (fun y h2 => ev g d st l h2 (fun z h3 =>
      match x, y, z with
      | .int x, .int y, .int z => z ≠ 0 ∧ Builtin.Range.small x y z = true ∧ forIn (fun l h R => exec g d a l h R noX) i ((List.range (Builtin.Range.rangeSize x y z).toNat).map fun (k : Nat) => V.int (x + k * z)) l h3 (fun _ => True) Q
      | _, _, _ => False) X) X) X
  | .forL i e a, l, hp, Q, X => ev g d e l hp (fun v h1 => match v with
      | .ref r => ∃ vs, iterOf (h1 r) = some vs ∧ (vs.length : Int) < 2 ^ 62 ∧ forIn (fun l h R => exec g d a l h R noX) i vs l h1 (fun h => h r = h1 r) Q
      | _ => False) X
  | .ret e, l, hp, Q, X => ev g d e l hp (fun v h1 => Q (.ret v) l h1) X
  | .brk, l, hp, Q, _ => Q .brk l hp
  | .expr e, l, hp, Q, X => ev g d e l hp (fun _ h1 => Q .next l h1) X
  | .stop, _, _, _, _ => False
  | .casg i e, l, hp, Q, X => ev g d e l hp (fun v h1 => match lget l i with | .cell a => (∃ w, h1 a = some (.cell w)) ∧ Q .next l (hset h1 a (.cell v)) | _ => False) X
  | .asgC is es, l, hp, Q, X => evs g d es l hp (fun vs h1 => putN l is vs h1 fun l2 h2 => Q .next l2 h2) X
  | .raise x, _, hp, _, X => X (.own x) hp
  | .tryE t e x h, l, hp, Q, _ => ev g d e l hp (fun v h1 => match t with
      | .expr => Q .next l h1
      | .ret => Q (.ret v) l h1
      | .asg i => Q .next (lset l i v) h1) (fun c h1 => match c with
      | .up c => c = x ∧ execH h l h1 Q
      | .own _ => False)
structure Fx where
  g : G
  gt : List (Str × Addr)
  bt : List Str
  names : List Str
  sc : Scope
  top : Bool
  tr : Bool
/-- ValueError stands as the built-in one -/
noncomputable def catchOk (g : G) : Prop := (Str.ofString "ValueError") ∉ startupNames ∧ (Str.ofString "ValueError") ∉ g.loose ∧ (Str.ofString "ValueError") ∉ (recsOf g.p).map (·.name) ∧
  (Str.ofString "ValueError") ∉ (litsOf g.p).map (·.1) ∧ (Str.ofString "ValueError") ∉ (clssOf g.p g.loose).map (·.name)
structure Fx.Ok (F : Fx) : Prop where
  gt : ∀ x a, F.gt.lookup x = some a → nsIn F.g.K mainGlobals x = some (some (.ref a)) ∧ keepIn F.g.K (.ref a) = true
  bt : ∀ x ∈ F.bt, nsIn F.g.K mainGlobals x = some Option.none
  nd : F.names.Nodup
  tr : F.tr = true → catchOk F.g
/-- the frame c is one of F -/
noncomputable def SCF (c : Cx) (F : Fx) : Prop := c.sc = F.sc ∧ (F.top = true → c.cp = none) ∧ (F.top = true → (F.sc.names.all fun y => !(y.2 == .cell)) = true → c.cl = [])
noncomputable def SE (F : Fx) (e : Expr) (m : ME) : Prop := ∀ c d, F.Ok → c.g = F.g → SCF c F → c.Ok → room c d → ∀ l hp Q X, ev F.g d m l hp Q X → W rV c F.names l (eval e c.env) hp Q X
noncomputable def ST (F : Fx) (e : Expr) (m : ME) : Prop := ∀ c d, F.Ok → c.g = F.g → SCF c F → c.Ok → room c d → ∀ l hp Q X, evT F.g d m l hp Q X → ∀ whole, whole = eval e c.env → W rB c F.names l (isTrue e c.env whole) hp Q X
noncomputable def SEs (F : Fx) (es : List Expr) (m : ME) : Prop := ∀ c d, F.Ok → c.g = F.g → SCF c F → c.Ok → room c d → ∀ l hp Q X, evs F.g d m l hp Q X → ∀ pos, W rVs c F.names l (spliced (backTo pos (starEach es c.env))) hp Q X
noncomputable def notStar : Expr → Bool
  | .Starred .. => false
  | _ => true
theorem starEach_plain : ∀ (es : List Expr) (env : Env), es.all notStar = true → starEach es env = es.map fun e => (false, eval e env)
  | [], _, _ => rfl
  | e :: r, env, h => by
    simp only [List.all_cons, Bool.and_eq_true] at h
    have ih := starEach_plain r env h.2
    have : starEach (e :: r) env = (false, eval e env) :: starEach r env := by
      cases e <;> first | rfl | (exact absurd h.1 (by simp [notStar]))
    rw [this, ih]; rfl
theorem starEach_cons {e : Expr} {r : List Expr} {env : Env} (h : notStar e = true) : starEach (e :: r) env = (false, eval e env) :: starEach r env := by
  cases e <;> first | rfl | (exact absurd h (by simp [notStar]))
theorem backTo_any {es : List Expr} {env : Env} {pos : Pos} (h : es.all notStar = true) : (backTo pos (starEach es env)).any (·.1) = false := by
  rw [starEach_plain es env h]
  induction es with
  | nil => rfl
  | cons e r ih =>
    simp only [List.all_cons, Bool.and_eq_true] at h
    have := ih h.2
    simp only [backTo, List.map_cons, List.any_cons, Bool.false_or] at this ⊢
    exact this
theorem lget_some {v : V} : ∀ {l : List V} {i : Nat}, lget l i = v → v ≠ .unb → l[i]? = some v
  | [], _, h, n => absurd h.symm n
  | _ :: _, 0, h, _ => by simp [lget] at h; simp [h]
  | _ :: r, i + 1, h, n => by simp only [lget] at h; simpa using lget_some (l := r) h n
theorem Cx.env_scope (c : Cx) : c.env.scope = c.sc := by unfold Cx.env Cx.sc; cases c.cp <;> rfl
theorem Cx.env_globals (c : Cx) : c.env.globals = mainGlobals := by unfold Cx.env; cases c.cp <;> rfl
theorem Cx.env_builtins (c : Cx) : c.env.builtins = builtinsNs := by unfold Cx.env; cases c.cp <;> rfl
theorem Cx.env_kindOf (c : Cx) (x : Str) : c.env.kindOf x = c.sc.names.lookup x := by rw [← c.env_scope]; rfl
theorem Cx.env_plain {c : Cx} (h : c.cp = none) : c.env = c.fenv := by unfold Cx.env; rw [h]
theorem Cx.sc_plain {c : Cx} (h : c.cp = none) : c.sc = c.fsc := by unfold Cx.sc; rw [h]
theorem Cx.Ok.turn {c : Cx} (ok : c.Ok) {g : Heap} (T : KtsTurn c.fs c.h₀ g) : (c.at g).Ok :=
  ⟨⟨ok.below.stack, fun b o e => T.other b o (ok.below.stays b o e) (fun hm => by rw [(ok.below.frames.mem hm).1] at e; cases e), ok.below.frames.of_keeps fun b o e _ => by
    obtain ⟨sl, hs⟩ := T.up e
    exact ⟨_, hs, rfl⟩⟩, ok.inK, ok.top, ok.dicts.turn T, ok.kind, ok.fkind, ok.gen, ok.cor, ok.hd, ok.seer, ok.tree⟩
theorem Rep.locals {c : Cx} {names l hp fr h} {i : Nat} {x : Str} {v : V} (R : Rep c names l hp fr h) (hx : names[i]? = some x) (hv : lget l i = v) (hn : v ≠ .unb) (hc : ∀ a, v ≠ .cell a) :
    ∃ m val, h.Ns c.env.locals m ∧ m x = some val ∧ absV val = v := by
  obtain ⟨g, T, m, F, lo, _, N, _⟩ := R
  unfold LocX at lo
  unfold Cx.env
  split at lo
  · rename_i e
    rcases lo i x v hx (lget_some hv hn) hn with ⟨a, q, _⟩ | ⟨_, val, a, b⟩
    · exact absurd q (hc a)
    · have e : c.cp = none := e
      rw [e]
      exact ⟨m, val, F.ns, a, b⟩
  · rename_i k e
    obtain ⟨_, oC, m₂, hm, ⟨es, ep, hd, r⟩, lo⟩ := lo
    rcases lo i x v hx (lget_some hv hn) hn with ⟨a, q, _⟩ | ⟨_, val, a, b⟩
    · exact absurd q (hc a)
    · have e : c.cp = some k := e
      rw [e]
      exact ⟨m₂, val, ⟨oC, es, ep, (N _ hm).1, hd, r⟩, a, b⟩
/-- the cell of a name -/
theorem Rep.cellOf {c : Cx} {names l hp fr h} {i : Nat} {x : Str} {a : Addr} (R : Rep c names l hp fr h) (hx : names[i]? = some x) (hv : lget l i = .cell a) : c.env.cells.lookup x = some a := by
  obtain ⟨g, T, m, F, lo, _, N, _⟩ := R
  unfold LocX at lo
  unfold Cx.env
  split at lo
  · rename_i e
    have e : c.cp = none := e
    rw [e]
    rcases lo i x _ hx (lget_some hv (by simp)) (by simp) with ⟨b, q, r⟩ | ⟨q, _⟩
    · cases q; exact r
    · exact absurd rfl (q a)
  · rename_i k e
    have e : c.cp = some k := e
    rw [e]
    obtain ⟨_, oC, m₂, hm, _, lo⟩ := lo
    rcases lo i x _ hx (lget_some hv (by simp)) (by simp) with ⟨b, q, r⟩ | ⟨q, _⟩
    · cases q; exact r
    · exact absurd rfl (q a)
theorem varV_iff {l : List V} {i : Nat} {Q : V → Prop} : varV l i Q ↔ (lget l i ≠ .unb ∧ ∀ a, lget l i ≠ .cell a) ∧ Q (lget l i) := by
  unfold varV; cases lget l i <;> simp
theorem Rep.keep {c : Cx} {names l hp fr h} (ok : c.Ok) (R : Rep c names l hp fr h) : ∀ b o, c.base.get? b = some o → h.get? b = some o :=
  let ⟨_, T, _, F, _⟩ := R; fun b o e => F.keep b o ((ok.turn T).below.stays b o e)
section
variable {F : Fx}
theorem se_var {x : Str} {pos : Pos} {i : Nat} (hi : F.names[i]? = some x) (hk : F.sc.names.lookup x = some .local) (hd : (x == ("__debug__" : Str)) = false) : SE F (.Name x pos) (.var i) := by
  intro c d FO hg hsc ok rm l hp Q X hev fr s P E R hP hX
  obtain ⟨⟨hn, hc⟩, hQ⟩ := varV_iff.mp hev
  obtain ⟨m, val, hns, hm, hab⟩ := R.locals hi rfl hn hc
  exact wpAny_Name (wpAny_loadName_local (by rw [c.env_scope]; exact ok.kind) (by rw [c.env_kindOf, hsc.1]; exact hk) hns hm (hP _ val hp s.heap s.toks hQ hab R)) hd
theorem se_cvar {x : Str} {pos : Pos} {i : Nat} (hi : F.names[i]? = some x) (hk : F.sc.names.lookup x = some .cell) (hd : (x == ("__debug__" : Str)) = false) : SE F (.Name x pos) (.cvar i) := by
  intro c d FO hg hsc ok rm l hp Q X hev fr s P E R hP hX
  have hev : cvarV l i hp fun v => Q v hp := hev
  unfold cvarV at hev
  split at hev
  · rename_i a e
    obtain ⟨v, h1, hn, hQ⟩ := hev
    have hcl := R.cellOf hi e
    obtain ⟨g, T, m, Fm, lo, H, N, D⟩ := id R
    obtain ⟨ob, ho, ⟨w, hd', hw⟩, _⟩ := H.2 a _ h1
    cases w with
    | none => exact absurd hw hn
    | some val => exact wpAny_Name (wpAny_loadName_cell (by rw [c.env_scope]; exact ok.kind) (by rw [c.env_kindOf, hsc.1]; exact hk) hcl ⟨ob, ho, hd'⟩ (hP _ val hp s.heap s.toks hQ hw.2 R)) hd
  · exact hev.elim
theorem se_int {i : Int} {k pos} : SE F (.Constant (.int i) k pos) (.int i) := by
  intro c d FO hg hsc ok rm l hp Q X hev fr s P E R hP hX
  exact wpAny_Constant_int (hP _ _ hp s.heap _ hev rfl R)
theorem se_bool {b : Bool} {k pos} : SE F (.Constant (.bool b) k pos) (.bool b) := by
  intro c d FO hg hsc ok rm l hp Q X hev fr s P E R hP hX
  exact Constant_bool (hP _ _ hp s.heap s.toks hev rfl R)
noncomputable def opOf : Operator → Option BOp
  | .Add => some .add | .Sub => some .sub | .Mult => some .mul | .FloorDiv => some .fdiv | .Mod => some .mod
  | .Pow => some .pow | .LShift => some .shl | .RShift => some .shr | .BitAnd => some .band | _ => Option.none
theorem absV_int {v : Value} {i : Int} (h : absV v = .int i) : ∃ t, v = .int i t := by
  cases v <;> simp [absV] at h
  subst h; exact ⟨_, rfl⟩
theorem absV_bool {v : Value} {b : Bool} (h : absV v = .bool b) : v = .bool b := by
  cases v <;> simp [absV] at h
  subst h; rfl
theorem absV_str {v : Value} {x : Str} (h : absV v = .str x) : ∃ t, v = .str x t := by
  cases v <;> simp [absV] at h
  subst h; exact ⟨_, rfl⟩
theorem absV_ref {v : Value} {a : Addr} (h : absV v = .ref a) : v = .ref a := by
  cases v <;> simp [absV] at h
  subst h; rfl
theorem absV_none {v : Value} (h : absV v = .none) : v = .none := by
  cases v <;> simp [absV] at h
  rfl
theorem pylong {c : Cx} {names l hp fr} {s : Shared} {d : Nat} (ok : c.Ok) (rm : room c d) (R : Rep c names l hp fr s.heap) : PylongRoom (model c.g.prog c.g.w) c.A s := by
  refine PylongRoom.of (ok.top.nolimit.keeps (R.keep ok)) ?_ (SeerAt.of (ok.seer.keeps (R.keep ok)) ok.tree (Around.frames_deeper ok.below.stack) ok.gen ok.cor rfl rfl)
  have h1 := rm.1
  have : Builtin.pylongFrames = 100 := rfl
  omega
theorem se_neg {a : Expr} {pos} {ma : ME} (ha : SE F a ma) : SE F (.UnaryOp .USub a pos) (.neg ma) := by
  intro c d FO hg hsc ok rm l hp Q X hev fr s P E R hP hX
  refine UnaryOp_ (ha c d FO hg hsc ok rm l hp _ X hev fr s _ E R (fun v x h1 hh tk hq hx R1 => ?_) hX)
  split at hq
  · obtain ⟨t, rfl⟩ := absV_int hx
    exact PyProof.Rows.neg_int (hP _ _ h1 hh _ hq rfl R1)
  · exact hq.elim
theorem truS {c : Cx} {names : List Str} {l : List V} {hp : HP} {X : XT} {Q : Bool → HP → Prop} {v : V} {x : Value} (h : truV v hp fun t => Q t hp) (hx : absV x = v) : W rB c names l (truthy x) hp Q X := by
  intro fr s P E R hP hX
  cases v with
  | int i =>
    obtain ⟨t, rfl⟩ := absV_int hx
    exact PyProof.Rows.truthy_int (hP _ _ hp s.heap s.toks h rfl R)
  | bool b =>
    cases absV_bool hx
    exact wpAny_truthy_bool (hP _ _ hp s.heap s.toks h rfl R)
  | _ => exact h.elim
noncomputable def cmpOf : CmpOp → Option COp
  | .Eq => some .eq | .NotEq => some .ne | .Lt => some .lt | .LtE => some .le | .Gt => some .gt | .GtE => some .ge | _ => Option.none
theorem se_ite {a b e : Expr} {pos} {ma mb me : ME} (ha : ST F a ma) (hb : SE F b mb) (he : SE F e me) : SE F (.IfExp a b e pos) (.ite ma mb me) := by
  intro c d FO hg hsc ok rm l hp Q X hev fr s P E R hP hX
  refine IfExp_ (ha c d FO hg hsc ok rm l hp _ X hev _ rfl fr s _ E R (fun v x h1 hh tk hq hx R1 => ?_) hX)
  cases hx
  cases v with
  | true => rw [if_pos rfl]; exact hb c d FO hg hsc ok rm l h1 _ X (hq.1 rfl) fr _ _ E R1 hP hX
  | false => rw [if_neg (by decide)]; exact he c d FO hg hsc ok rm l h1 _ X (hq.2 rfl) fr _ _ E R1 hP hX
theorem se_not {a : Expr} {pos} {ma : ME} (ha : SE F a ma) (hun : ∀ M A v s (Q : Value → Shared → Prop) E, wpAny M A (truthy v) (fun t s' => Q (.bool (!t)) s') E s → wpAny M A (unaryOp .Not v) Q E s) : SE F (.UnaryOp .Not a pos) (.not ma) := by
  intro c d FO hg hsc ok rm l hp Q X hev fr s P E R hP hX
  refine UnaryOp_ (ha c d FO hg hsc ok rm l hp _ X hev fr s _ E R (fun v x h1 hh tk hq hx R1 => ?_) hX)
  refine hun _ _ _ _ _ _ (truS (Q := fun t h => Q (.bool (!t)) h) hq hx fr _ _ E R1 (fun u z h3 hh3 tk3 hq3 hz R3 => ?_) hX)
  cases hz
  exact hP _ _ h3 hh3 tk3 hq3 rfl R3
theorem st_not {a : Expr} {pos} {ma : ME} (ha : ST F a ma) : ST F (.UnaryOp .Not a pos) (.not ma) := by
  intro c d FO hg hsc ok rm l hp Q X hev whole hw fr s P E R hP hX
  refine isTrue_not (ha c d FO hg hsc ok rm l hp _ X hev _ rfl fr s _ E R (fun v x h1 hh tk hq hx R1 => ?_) hX)
  cases hx
  exact hP _ _ h1 hh tk hq rfl R1
theorem st_ite {a b e : Expr} {pos} {ma mb me : ME} (ha : ST F a ma) (hb : ST F b mb) (he : ST F e me) : ST F (.IfExp a b e pos) (.ite ma mb me) := by
  intro c d FO hg hsc ok rm l hp Q X hev whole hw fr s P E R hP hX
  refine isTrue_IfExp (ha c d FO hg hsc ok rm l hp _ X hev _ rfl fr s _ E R (fun v x h1 hh tk hq hx R1 => ?_) hX)
  cases hx
  cases v with
  | true => rw [if_pos rfl]; exact hb c d FO hg hsc ok rm l h1 _ X (hq.1 rfl) _ rfl fr _ _ E R1 hP hX
  | false => rw [if_neg (by decide)]; exact he c d FO hg hsc ok rm l h1 _ X (hq.2 rfl) _ rfl fr _ _ E R1 hP hX
noncomputable def plainTest : Expr → Bool
  | .BoolOp .. => false
  | .UnaryOp .. => false
  | .Compare .. => false
  | .IfExp .. => false
  | .NamedExpr .. => false
  | _ => true
theorem st_tv {e : Expr} {m : ME} (hp : plainTest e = true) (h : SE F e m) : ST F e (.tv m) := by
  intro c d FO hg hsc ok rm l hp' Q X hev whole hw fr s P E R hP hX
  subst hw
  refine isTrue_plain (h c d FO hg hsc ok rm l hp' _ X hev fr s _ E R (fun v x h1 hh tk hq hx R1 => ?_) hX) ?_
  · exact truS (Q := Q) hq hx fr _ _ E R1 hP hX
  · cases e <;> first | rfl | (exact absurd hp (by simp [plainTest]))
end
theorem base_lt {c : Cx} (ok : c.Ok) {m h a} {items : Array Value} (Fm : Fr c.h₀ c.L h m) (hb : c.base.IsList a items) : a < h.objs.size := by
  obtain ⟨o, ho, _⟩ := hb
  exact Heap.lt_size (Fm.keep _ _ (ok.below.stays _ _ ho))
noncomputable def pick (hp : HP) (h : Heap) (a : Addr) : Option (Addr × Obj) :=
  match hp a with
  | some (.list _) => (h.get? a).map (a, ·)
  | some (.tup _) => (h.get? a).map (a, ·)
  | some (.cell _) => (h.get? a).map (a, ·)
  | some (.rng _ _ _) => (h.get? a).map (a, ·)
  | some (.dict _) => (h.get? a).map (a, ·)
  | _ => Option.none
theorem HpRep.news {c : Cx} {hp : HP} {h : Heap} (H : HpRep c hp h) : ∃ news, News c.h₀ c.L h news ∧ HpN c hp news := by
  obtain ⟨⟨D, hD⟩, hH⟩ := H
  refine ⟨D.filterMap (pick hp h), fun p hp' => ?_, ⟨D, hD⟩, fun a o ho => ?_⟩
  · obtain ⟨a, ha, e⟩ := List.mem_filterMap.mp hp'
    unfold pick at e
    split at e
    all_goals first
      | (rename_i q; have := hH a _ q; dsimp only at this; obtain ⟨ob, h1, _, h3, h4⟩ := this
         rw [h1] at e; simp only [Option.map_some, Option.some.injEq] at e; subst e; exact ⟨h1, h3, h4⟩)
      | cases e
  · have := hH a o ho
    cases o with
    | ro vs => exact this
    | list vs =>
      obtain ⟨ob, h1, h2, _⟩ := this
      exact ⟨ob, List.mem_filterMap.mpr ⟨a, hD a _ ho, by simp only [pick, ho, h1, Option.map_some]⟩, h2⟩
    | tup vs =>
      obtain ⟨ob, h1, h2, _⟩ := this
      exact ⟨ob, List.mem_filterMap.mpr ⟨a, hD a _ ho, by simp only [pick, ho, h1, Option.map_some]⟩, h2⟩
    | cell vs =>
      obtain ⟨ob, h1, h2, _⟩ := this
      exact ⟨ob, List.mem_filterMap.mpr ⟨a, hD a _ ho, by simp only [pick, ho, h1, Option.map_some]⟩, h2⟩
    | rng _ _ _ =>
      obtain ⟨ob, h1, h2, _⟩ := this
      exact ⟨ob, List.mem_filterMap.mpr ⟨a, hD a _ ho, by simp only [pick, ho, h1, Option.map_some]⟩, h2⟩
    | dict _ =>
      obtain ⟨ob, h1, h2, _⟩ := this
      exact ⟨ob, List.mem_filterMap.mpr ⟨a, hD a _ ho, by simp only [pick, ho, h1, Option.map_some]⟩, h2⟩
theorem HpN.rep {c : Cx} {hp : HP} {h : Heap} {news : List (Addr × Obj)} (H : HpN c hp news) (N : News c.h₀ c.L h news) : HpRep c hp h := by
  refine ⟨H.1, fun a o ho => ?_⟩
  have := H.2 a o ho
  cases o with
  | ro vs => exact this
  | list vs => obtain ⟨ob, h1, h2⟩ := this; exact ⟨ob, (N _ h1).1, h2, (N _ h1).2⟩
  | tup vs => obtain ⟨ob, h1, h2⟩ := this; exact ⟨ob, (N _ h1).1, h2, (N _ h1).2⟩
  | cell vs => obtain ⟨ob, h1, h2⟩ := this; exact ⟨ob, (N _ h1).1, h2, (N _ h1).2⟩
  | rng _ _ _ => obtain ⟨ob, h1, h2⟩ := this; exact ⟨ob, (N _ h1).1, h2, (N _ h1).2⟩
  | dict _ => obtain ⟨ob, h1, h2⟩ := this; exact ⟨ob, (N _ h1).1, h2, (N _ h1).2⟩
theorem Rep0.parts {c : Cx} {names l hp fr h} (R : Rep0 c names l hp fr h) :
    ∃ m news, Fr c.h₀ c.L h m ∧ LocX c names l m fr ∧ HpN c hp news ∧ News c.h₀ c.L h (news ++ fr) ∧ ∀ p ∈ fr, hp p.1 = Option.none := by
  obtain ⟨m, Fm, lo, H, N, D⟩ := R
  obtain ⟨news, N1, H1⟩ := H.news
  exact ⟨m, news, Fm, lo, H1, N1.append N, D⟩
theorem Rep.parts {c : Cx} {names l hp fr h} (R : Rep c names l hp fr h) :
    ∃ g m news, KtsTurn c.fs c.h₀ g ∧ Fr g c.L h m ∧ LocX c names l m fr ∧ HpN c hp news ∧ News g c.L h (news ++ fr) ∧ ∀ p ∈ fr, hp p.1 = Option.none := by
  obtain ⟨g, T, R⟩ := R
  obtain ⟨m, news, r⟩ := R.parts
  exact ⟨g, m, news, T, r⟩
theorem News.left' {h₀ h : Heap} {L : Addr} {a b : List (Addr × Obj)} (N : News h₀ L h (a ++ b)) : News h₀ L h a := fun p hp => N p (List.mem_append_left _ hp)
theorem News.right' {h₀ h : Heap} {L : Addr} {a b : List (Addr × Obj)} (N : News h₀ L h (a ++ b)) : News h₀ L h b := fun p hp => N p (List.mem_append_right _ hp)
theorem Rep.of {c : Cx} {names l hp fr h m news g} (T : KtsTurn c.fs c.h₀ g) (Fm : Fr g c.L h m) (lo : LocX c names l m fr) (H : HpN c hp news) (N : News g c.L h (news ++ fr)) (D : ∀ p ∈ fr, hp p.1 = Option.none) : Rep c names l hp fr h :=
  ⟨g, T, m, Fm, lo, HpN.rep (c := c.at g) H (News.left' N), News.right' N, D⟩
theorem Rep.fresh {c : Cx} {names l hp fr h} (ok : c.Ok) (R : Rep c names l hp fr h) : hp h.objs.size = Option.none ∧ ∀ p ∈ fr, p.1 ≠ h.objs.size := by
  obtain ⟨g, T, m, Fm, lo, H, N, D⟩ := R
  have ok := ok.turn T
  constructor
  · cases q : hp h.objs.size with
    | none => rfl
    | some o =>
      have := H.2 _ _ q
      cases o with
      | ro vs => obtain ⟨it, hb, _⟩ := this; exact absurd (base_lt ok Fm hb) (Nat.lt_irrefl _)
      | list vs => obtain ⟨ob, h1, _⟩ := this; exact absurd (Heap.lt_size h1) (Nat.lt_irrefl _)
      | tup vs => obtain ⟨ob, h1, _⟩ := this; exact absurd (Heap.lt_size h1) (Nat.lt_irrefl _)
      | cell vs => obtain ⟨ob, h1, _⟩ := this; exact absurd (Heap.lt_size h1) (Nat.lt_irrefl _)
      | rng _ _ _ => obtain ⟨ob, h1, _⟩ := this; exact absurd (Heap.lt_size h1) (Nat.lt_irrefl _)
      | dict _ => obtain ⟨ob, h1, _⟩ := this; exact absurd (Heap.lt_size h1) (Nat.lt_irrefl _)
  · intro p hp' e
    exact absurd (Heap.lt_size (N p hp').1) (by rw [e]; exact Nat.lt_irrefl _)
/-- a new object enters -/
theorem Rep.more {c : Cx} {names : List Str} {l : List V} {hp : HP} {fr news : List (Addr × Obj)} {h' : Heap} {m : Str → Option Value} {r : Addr} {ob : Obj} {o : O} {g : Heap} (T : KtsTurn c.fs c.h₀ g) (Fm : Fr g c.L h' m) (lo : LocX c names l m fr) (H : HpN c hp news) (N : News g c.L h' ((r, ob) :: (news ++ fr)))
    (D : ∀ p ∈ fr, hp p.1 = Option.none) (hr : hp r = Option.none) (hf : ∀ p ∈ fr, p.1 ≠ r) (ho : RepO o ob) : Rep c names l (hset hp r o) fr h' := by
  refine Rep.of (news := (r, ob) :: news) T Fm lo ⟨?_, fun a x hx => ?_⟩ N fun p hp' => hset_none.mpr ⟨hf p hp', D p hp'⟩
  · obtain ⟨Dm, hD⟩ := H.1
    refine ⟨r :: Dm, fun a x hx => ?_⟩
    by_cases e : a = r
    · exact e ▸ .head _
    · rw [hset_ne e] at hx; exact .tail _ (hD a x hx)
  · by_cases e : a = r
    · subst e
      rw [hset_same] at hx
      cases hx
      cases o with
      | ro vs => exact ho.elim
      | list vs => exact ⟨ob, .head _, ho⟩
      | tup vs => exact ⟨ob, .head _, ho⟩
      | cell vs => exact ⟨ob, .head _, ho⟩
      | rng _ _ _ => exact ⟨ob, .head _, ho⟩
      | dict _ => exact ⟨ob, .head _, ho⟩
    · rw [hset_ne e] at hx
      have := H.2 a x hx
      cases x with
      | ro vs => exact this
      | list vs => obtain ⟨ob', h1, h2⟩ := this; exact ⟨ob', .tail _ h1, h2⟩
      | tup vs => obtain ⟨ob', h1, h2⟩ := this; exact ⟨ob', .tail _ h1, h2⟩
      | cell vs => obtain ⟨ob', h1, h2⟩ := this; exact ⟨ob', .tail _ h1, h2⟩
      | rng _ _ _ => obtain ⟨ob', h1, h2⟩ := this; exact ⟨ob', .tail _ h1, h2⟩
      | dict _ => obtain ⟨ob', h1, h2⟩ := this; exact ⟨ob', .tail _ h1, h2⟩
theorem newTupleS {c : Cx} {names l hp Q X} {vs : List V} {vals : List Value} (ok : c.Ok) (hv : vals.map absV = vs) (hsz : vs.length ≤ sizeLine)
    (h : ∀ r, hp r = Option.none → Q (.ref r) (hset hp r (.tup vs))) : W rV c names l (newTuple vals) hp Q X := by
  intro fr s P E R hP hX
  obtain ⟨f1, f2⟩ := R.fresh ok
  obtain ⟨g, m, news, T, Fm, lo, H, N, D⟩ := R.parts
  refine newTuple_N Fm N (fun h' F' N' => hP _ _ _ h' _ (h _ f1) rfl ?_) (by rw [← hv, List.length_map] at hsz; exact hsz)
  exact Rep.more T F' lo H N' D f1 f2 ⟨vals.toArray, _, rfl, by simpa using hv⟩
theorem newListS {c : Cx} {names l hp Q X} {vs : List V} {vals : List Value} (ok : c.Ok) (hv : vals.map absV = vs) (hsz : vs.length ≤ sizeLine)
    (h : ∀ r, hp r = Option.none → Q (.ref r) (hset hp r (.list vs))) : W rV c names l (newList vals) hp Q X := by
  intro fr s P E R hP hX
  obtain ⟨f1, f2⟩ := R.fresh ok
  obtain ⟨g, m, news, T, Fm, lo, H, N, D⟩ := R.parts
  refine newList_N Fm N (fun h' F' N' => hP _ _ _ h' _ (h _ f1) rfl ?_) (by rw [← hv, List.length_map] at hsz; exact hsz)
  exact Rep.more T F' lo H N' D f1 f2 ⟨vals.toArray, _, rfl, by simpa using hv⟩
/-- what a place of the store holds, in the heap -/
theorem Rep.items {c : Cx} {names l hp fr h} {a : Addr} {vs : List V} (ok : c.Ok) (R : Rep c names l hp fr h) (e : itemsOf (hp a) = some vs) :
    ∃ items : Array Value, items.toList.map absV = vs ∧ ((h.IsList a items ∧ ∀ ws, hp a ≠ some (.tup ws)) ∨ (IsTup h a items ∧ hp a = some (.tup vs))) := by
  obtain ⟨g, T, m, Fm, lo, H, N, D⟩ := R
  have ok := ok.turn T
  cases q : hp a with
  | none => rw [q] at e; cases e
  | some o =>
    have := H.2 _ _ q
    rw [q] at e
    cases o with
    | ro ws =>
      cases e
      obtain ⟨it, ⟨ob, h1, h2⟩, h3⟩ := this
      exact ⟨it, h3, .inl ⟨⟨ob, Fm.keep _ _ (ok.below.stays _ _ h1), h2⟩, by intro ws; simp⟩⟩
    | list ws =>
      cases e
      obtain ⟨ob, h1, ⟨it, n, rfl, h2⟩, _⟩ := this
      exact ⟨it, h2, .inl ⟨⟨_, h1, rfl, n, rfl⟩, by intro ws; simp⟩⟩
    | tup ws =>
      cases e
      obtain ⟨ob, h1, ⟨it, n, rfl, h2⟩, _⟩ := this
      exact ⟨it, h2, .inr ⟨⟨_, h1, rfl, n, rfl⟩, rfl⟩⟩
    | cell ws => cases e
    | rng _ _ _ => cases e
    | dict _ => cases e
theorem lenS {c : Cx} {names l hp X} {Q : V → HP → Prop} {v : V} {x : Value} (ok : c.Ok) (h : lenV v hp fun n => Q (.int n) hp) (hx : absV x = v) : W rV c names l (call (.builtin "len") [x]) hp Q X := by
  intro fr s P E R hP hX
  cases v with
  | ref a =>
    cases absV_ref hx
    obtain ⟨vs, e, hfit, hq⟩ := h
    obtain ⟨items, hi, hl⟩ := R.items ok e
    have hsz : (items.size : Int) = vs.length := by rw [← hi]; simp
    rw [← hsz] at hq
    rcases hl with ⟨hl, _⟩ | ⟨hl, _⟩
    · exact call_len_list hl (by omega) (hP _ _ hp s.heap _ hq rfl R)
    · exact len_tuple hl (by omega) (hP _ _ hp s.heap _ hq rfl R)
  | str y =>
    obtain ⟨t, rfl⟩ := absV_str hx
    exact PySem.P.len_str (by have := h.1; omega) (hP _ _ hp s.heap _ h.2 rfl R)
  | _ => exact h.elim
noncomputable def sliceOf : Expr → Bool
  | .Slice .. => true
  | _ => false
theorem sub_plain {slice : Expr} (h : sliceOf slice = false) (o i : Value) : subscripted slice false o i = operate [o, i] (getItem o i) := by
  cases slice <;> first | rfl | (exact absurd h (by simp [sliceOf]))
theorem idxS {c : Cx} {names l hp X} {Q : V → HP → Prop} {v w : V} {x y : Value} {value slice : Expr} (ok : c.Ok) (hs : sliceOf slice = false) (h : idxV v w hp fun u => Q u hp) (hx : absV x = v) (hy : absV y = w) : W rV c names l (subscriptTail value slice x y) hp Q X := by
  intro fr s P E R hP hX
  unfold idxV at h
  split at h
  · rename_i a k
    cases absV_ref hx
    obtain ⟨t, rfl⟩ := absV_int hy
    obtain ⟨vs, u, e, hfit, hlo, hhi, hu, hq⟩ := h
    obtain ⟨items, hi, hl⟩ := R.items ok e
    have hsz : items.size = vs.length := by rw [← hi]; simp
    replace hu : items.toList[(if k < 0 then k + vs.length else k).toNat]?.map absV = some u := by rw [← List.getElem?_map, hi]; exact hu
    cases hit : items.toList[(if k < 0 then k + vs.length else k).toNat]? with
    | none => rw [hit] at hu; cases hu
    | some z =>
      rw [hit] at hu
      simp only [Option.map_some, Option.some.injEq] at hu
      rw [Array.getElem?_toList] at hit
      rcases hl with ⟨hl, _⟩ | ⟨hl, _⟩
      · refine tail_any hl.typeIs slot_list_getitem.lookup ?_ (sub_plain hs _ _)
        by_cases hk : k < 0
        · rw [if_pos hk] at hit
          exact wpAny_getItem_list_neg hl hk (by omega) (by omega) (by rw [hsz]; exact hit) (hP _ _ hp s.heap s.toks hq hu R)
        · rw [if_neg hk] at hit
          exact wpAny_getItem_list hl (by omega) (by omega) hit (hP _ _ hp s.heap s.toks hq hu R)
      · refine tail_any hl.typeIs slot_tuple_getitem.lookup ?_ (sub_plain hs _ _)
        refine getItem_tuple hl (j := (if k < 0 then k + vs.length else k).toNat) (by omega) (by omega) ?_ hit (hP _ _ hp s.heap s.toks hq hu R)
        unfold seqIndex?
        rw [hsz]
        by_cases hk : k < 0
        · simp only [hk, if_true]
          rw [if_pos (by simp only [Bool.and_eq_true, decide_eq_true_eq]; omega)]
        · simp only [hk, if_false]
          rw [if_pos (by simp only [Bool.and_eq_true, decide_eq_true_eq]; omega)]
  · exact h.elim
theorem Rep.listI {c : Cx} {names l hp fr h} {a : Addr} {vs : List V} (ok : c.Ok) (R : Rep c names l hp fr h) (e : listAt (hp a) = some vs) :
    ∃ items : Array Value, items.toList.map absV = vs ∧ h.IsList a items := by
  have e' : itemsOf (hp a) = some vs := by
    cases q : hp a with
    | none => rw [q] at e; cases e
    | some o => rw [q] at e; cases o <;> first | exact e | cases e
  obtain ⟨items, hi, hl⟩ := R.items ok e'
  rcases hl with ⟨hl, _⟩ | ⟨_, hl⟩
  · exact ⟨items, hi, hl⟩
  · rw [hl] at e; cases e
mutual
theorem Rep.reads {c : Cx} {names l hp fr h} (ok : c.Ok) (R : Rep c names l hp fr h) : ∀ {v : V} {d : PyData}, Rd hp v d → ∀ {x : Value}, absV x = v → ∃ as, Reads h x d as
  | _, _, .int i, x, hx => by obtain ⟨t, rfl⟩ := absV_int hx; exact ⟨_, .int i t⟩
  | _, _, .bool b, x, hx => by cases absV_bool hx; exact ⟨_, .bool b⟩
  | _, _, .none, x, hx => by cases absV_none hx; exact ⟨_, .none⟩
  | _, _, .str y, x, hx => by
    cases x <;> simp only [absV, reduceCtorEq, V.str.injEq] at hx
    subst hx; exact ⟨_, .str _ _⟩
  | _, _, .list (a := a) e r, x, hx => by
    cases absV_ref hx
    obtain ⟨items, hi, hl⟩ := R.listI ok (a := a) (by rw [e]; rfl)
    obtain ⟨as, ra⟩ := Rep.readsL ok R r hi
    obtain ⟨o, ho, hc, n, hd⟩ := hl
    exact ⟨_, Reads.list ho hc hd ra⟩
  | _, _, .ro (a := a) e r, x, hx => by
    cases absV_ref hx
    obtain ⟨items, hi, hl⟩ := R.listI ok (a := a) (by rw [e]; rfl)
    obtain ⟨as, ra⟩ := Rep.readsL ok R r hi
    obtain ⟨o, ho, hc, n, hd⟩ := hl
    exact ⟨_, Reads.list ho hc hd ra⟩
  | _, _, .tup (a := a) e r, x, hx => by
    cases absV_ref hx
    obtain ⟨items, hi, hl⟩ := R.items ok (a := a) (by rw [e]; rfl)
    obtain ⟨as, ra⟩ := Rep.readsL ok R r hi
    rcases hl with ⟨_, hl⟩ | ⟨hl, _⟩
    · exact absurd e (hl _)
    · obtain ⟨o, ho, hc, n, hd⟩ := hl
      exact ⟨_, Reads.tuple ho hc hd ra⟩
theorem Rep.readsL {c : Cx} {names l hp fr h} (ok : c.Ok) (R : Rep c names l hp fr h) : ∀ {vs : List V} {ds : List PyData}, RdL hp vs ds → ∀ {xs : List Value}, xs.map absV = vs → ∃ as, ReadsAll h xs ds as
  | _, _, .nil, xs, hx => by
    have : xs = [] := by simpa using hx
    subst this; exact ⟨_, .nil⟩
  | _, _, .cons r rs, xs, hx => by
    cases xs with
    | nil => simp at hx
    | cons y ys =>
      simp only [List.map_cons, List.cons.injEq] at hx
      obtain ⟨as, ra⟩ := Rep.reads ok R r hx.1
      obtain ⟨bs, rb⟩ := Rep.readsL ok R rs hx.2
      exact ⟨_, .cons ra rb⟩
end
section
variable {F : Fx}
theorem binS {o : Operator} {b : BOp} (ho : opOf o = some b) {c : Cx} {d : Nat} (ok : c.Ok) (rm : room c d) {names l hp Q X} {v w : V} {x y : Value}
    (h : binV b v w hp Q) (hx : absV x = v) (hy : absV y = w) : W rV c names l (binaryOp o x y) hp Q X := by
  intro fr s P E R hP hX
  unfold binV at h
  split at h
  · rename_i i j
    obtain ⟨t, rfl⟩ := absV_int hx
    obtain ⟨u, rfl⟩ := absV_int hy
    obtain ⟨hok, hq⟩ := h
    cases o <;> simp only [opOf, Option.some.injEq, reduceCtorEq] at ho <;> subst ho
    · exact PyProof.Rows.add_int (hP _ _ hp s.heap _ hq rfl R)
    · exact PyProof.Rows.sub_int (hP _ _ hp s.heap _ hq rfl R)
    · exact PyProof.Rows.mul_int (hP _ _ hp s.heap _ hq rfl R) hok
    · exact mod_int' hok (hP _ _ hp s.heap _ hq rfl R)
    · exact PyProof.Rows.pow_int hok.1 hok.2 (hP _ _ hp s.heap _ hq rfl R)
    · exact PyProof.Rows.lshift_int hok.1 hok.2 (hP _ _ hp s.heap _ hq rfl R)
    · exact PyProof.Rows.rshift_int hok (hP _ _ hp s.heap _ hq rfl R)
    · exact PyProof.Rows.and_int (hP _ _ hp s.heap _ hq rfl R)
    · exact floordiv_int hok (hP _ _ hp s.heap _ hq rfl R) (.inr (pylong ok rm R))
  · rename_i a b'
    cases absV_ref hx
    cases absV_ref hy
    cases o <;> simp only [opOf, Option.some.injEq, reduceCtorEq] at ho <;> subst ho <;> first | exact h.elim | skip
    obtain ⟨vs, ws, e1, e2, hsz, hn⟩ := h
    obtain ⟨i1, hi1, hl1⟩ := R.listI ok e1
    obtain ⟨i2, hi2, hl2⟩ := R.listI ok e2
    obtain ⟨f1, f2⟩ := R.fresh ok
    obtain ⟨g, m, news, T, Fm, lo, H, N, D⟩ := R.parts
    refine PyProof.Rows.add_arrays Fm N hl1 hl2 (fun h' F' N' => hP _ _ _ h' _ (hn _ f1) rfl ?_) (by rw [← hi1, ← hi2] at hsz; simpa using hsz)
    exact Rep.more T F' lo H N' D f1 f2 ⟨_, _, rfl, by simp [← hi1, ← hi2]⟩
  · exact h.elim
theorem se_bin {a b : Expr} {o : Operator} {pos} {ma mb : ME} {bo : BOp} (ho : opOf o = some bo) (ha : SE F a ma) (hb : SE F b mb) : SE F (.BinOp a o b pos) (.bin bo ma mb) := by
  intro c d FO hg hsc ok rm l hp Q X hev fr s P E R hP hX
  refine wpAny_BinOp (ha c d FO hg hsc ok rm l hp _ X hev fr s _ E R (fun v x h1 hh tk hq hx R1 => ?_) hX)
  refine hb c d FO hg hsc ok rm l h1 _ X hq fr _ _ E R1 (fun w y h2 hh2 tk2 hq2 hy R2 => ?_) hX
  exact binS ho ok rm hq2 hx hy fr _ _ E R2 hP hX
theorem cmpS {o : CmpOp} {b : COp} (ho : cmpOf o = some b) {c : Cx} {d : Nat} (ok : c.Ok) (rm : room c d) {names : List Str} {l : List V} {hp : HP} {X : XT} {Q : Bool → HP → Prop} {v w : V} {x y : Value}
    (h : cmpV b v w hp fun t => Q t hp) (hx : absV x = v) (hy : absV y = w) : W rV c names l (compareOp o x y) hp (fun u h' => ∃ t, u = .bool t ∧ Q t h') X := by
  intro fr s P E R hP hX
  unfold cmpV at h
  split at h
  · rename_i i j
    obtain ⟨t, rfl⟩ := absV_int hx
    obtain ⟨u, rfl⟩ := absV_int hy
    cases o <;> simp only [cmpOf, Option.some.injEq, reduceCtorEq] at ho <;> subst ho
    · exact PyProof.Rows.eq_int (hP _ _ hp s.heap s.toks ⟨_, rfl, h⟩ rfl R)
    · exact PyProof.Rows.ne_int (hP _ _ hp s.heap s.toks ⟨_, rfl, h⟩ rfl R)
    · exact PyProof.Rows.lt_int (hP _ _ hp s.heap s.toks ⟨_, rfl, h⟩ rfl R)
    · exact PyProof.Rows.le_int (hP _ _ hp s.heap s.toks ⟨_, rfl, h⟩ rfl R)
    · exact PyProof.Rows.gt_int (hP _ _ hp s.heap s.toks ⟨_, rfl, h⟩ rfl R)
    · exact PyProof.Rows.ge_int (hP _ _ hp s.heap s.toks ⟨_, rfl, h⟩ rfl R)
  · obtain ⟨d', e, rd, re, sd, se, hq⟩ := h
    obtain ⟨as, ra⟩ := R.reads ok rd hx
    obtain ⟨bs, rb⟩ := R.reads ok re hy
    cases o <;> simp only [cmpOf, Option.some.injEq, reduceCtorEq] at ho
    exact eq_dataH ra rb sd se (by have := rm.2; omega) (hP _ _ hp s.heap s.toks ⟨_, rfl, hq⟩ rfl R)
  · obtain ⟨d', e, rd, re, sd, se, hq⟩ := h
    obtain ⟨as, ra⟩ := R.reads ok rd hx
    obtain ⟨bs, rb⟩ := R.reads ok re hy
    cases o <;> simp only [cmpOf, Option.some.injEq, reduceCtorEq] at ho
    exact ne_dataH ra rb sd se (by have := rm.2; omega) (hP _ _ hp s.heap s.toks ⟨_, rfl, hq⟩ rfl R)
  · exact h.elim
theorem notIn_of_cmpOf {o : CmpOp} {b : COp} (ho : cmpOf o = some b) (e : Expr) : behindInMarks o e = false := by
  cases o <;> simp only [cmpOf, reduceCtorEq] at ho <;> cases e <;> first | rfl | simp [behindInMarks]
theorem se_cmp {a b : Expr} {o : CmpOp} {pos} {ma mb : ME} {bo : COp} (ho : cmpOf o = some bo) (ha : SE F a ma) (hb : SE F b mb) : SE F (.Compare a [o] [b] pos) (.cmp bo ma mb) := by
  intro c d FO hg hsc ok rm l hp Q X hev fr s P E R hP hX
  refine wpAny_Compare1 (ha c d FO hg hsc ok rm l hp _ X hev fr s _ E R (fun v x h1 hh tk hq hx R1 => ?_) hX) (notIn_of_cmpOf ho b)
  refine hb c d FO hg hsc ok rm l h1 _ X hq fr _ _ E R1 (fun w y h2 hh2 tk2 hq2 hy R2 => ?_) hX
  refine cmpS (Q := fun t h => Q (.bool t) h) ho ok rm hq2 hx hy fr _ _ E R2 (fun u z h3 hh3 tk3 hq3 hz R3 => ?_) hX
  obtain ⟨t, rfl, hq4⟩ := hq3
  exact hP _ _ h3 hh3 tk3 hq4 hz R3
theorem st_cmp {a b : Expr} {o : CmpOp} {pos} {ma mb : ME} {bo : COp} (ho : cmpOf o = some bo) (ha : SE F a ma) (hb : SE F b mb) : ST F (.Compare a [o] [b] pos) (.cmp bo ma mb) := by
  intro c d FO hg hsc ok rm l hp Q X hev whole hw fr s P E R hP hX
  refine wpAny_isTrue_Compare1 (ha c d FO hg hsc ok rm l hp _ X hev fr s _ E R (fun v x h1 hh tk hq hx R1 => ?_) hX) (notIn_of_cmpOf ho b)
  refine hb c d FO hg hsc ok rm l h1 _ X hq fr _ _ E R1 (fun w y h2 hh2 tk2 hq2 hy R2 => ?_) hX
  refine cmpS (Q := fun t h => Q t h) ho ok rm hq2 hx hy fr _ _ E R2 (fun u z h3 hh3 tk3 hq3 hz R3 => ?_) hX
  obtain ⟨t, rfl, hq4⟩ := hq3
  exact truS (Q := Q) (show truV (.bool t) h3 _ from hq4) hz fr _ _ E R3 hP hX
end
section
variable {F : Fx}
theorem ses_nil : SEs F [] .nil := by
  intro c d FO hg hsc ok rm l hp Q X hev pos fr s P E R hP hX
  exact spliced_none (hP _ _ hp s.heap s.toks hev rfl R)
theorem ses_cons {e : Expr} {es : List Expr} {m ms : ME} (hn : notStar e = true) (he : SE F e m) (hes : SEs F es ms) : SEs F (e :: es) (.cons m ms) := by
  intro c d FO hg hsc ok rm l hp Q X hev pos fr s P E R hP hX
  refine spliced_more (he c d FO hg hsc ok rm l hp _ X hev fr s _ E R (fun v x h1 hh tk hq hx R1 => ?_) hX) (starEach_cons hn)
  refine hes c d FO hg hsc ok rm l h1 _ X hq pos fr _ _ E R1 (fun vs xs h2 hh2 tk2 hq2 hxs R2 => ?_) hX
  exact hP _ _ h2 hh2 tk2 hq2 (by show absV x :: xs.map absV = _; rw [hx, hxs]) R2
theorem se_tup {es : List Expr} {ms : ME} {k pos} (hes : SEs F es ms) : SE F (.Tuple es k pos) (.tup ms) := by
  intro c d FO hg hsc ok rm l hp Q X hev fr s P E R hP hX
  refine Tuple_ (hes c d FO hg hsc ok rm l hp _ X hev pos fr s _ E R (fun vs xs h1 hh tk hq hx R1 => ?_) hX)
  exact newTupleS ok hx hq.1 hq.2 fr _ _ E R1 hP hX
theorem se_list {es : List Expr} {ms : ME} {pos} (hes : SEs F es ms) : SE F (.List es pos) (.list ms) := by
  intro c d FO hg hsc ok rm l hp Q X hev fr s P E R hP hX
  refine List_ (hes c d FO hg hsc ok rm l hp _ X hev pos fr s _ E R (fun vs xs h1 hh tk hq hx R1 => ?_) hX)
  exact newListS ok hx hq.1 hq.2 fr _ _ E R1 hP hX
theorem se_idx {a i : Expr} {pos} {ma mi : ME} (hs : sliceOf i = false) (ha : SE F a ma) (hi : SE F i mi) : SE F (.Subscript a i pos) (.idx ma mi) := by
  intro c d FO hg hsc ok rm l hp Q X hev fr s P E R hP hX
  refine Subscript_ (ha c d FO hg hsc ok rm l hp _ X hev fr s _ E R (fun v x h1 hh tk hq hx R1 => ?_) hX)
  refine hi c d FO hg hsc ok rm l h1 _ X hq fr _ _ E R1 (fun w y h2 hh2 tk2 hq2 hy R2 => ?_) hX
  exact idxS ok hs hq2 hx hy fr _ _ E R2 hP hX
/-- a global name that a def of the text bears -/
theorem nameG {c : Cx} (FO : F.Ok) (hg : c.g = F.g) (hsc : SCF c F) (ok : c.Ok) {x : Str} {p : Pos} {a : Addr} (hx : F.gt.lookup x = some a) (hk : F.sc.names.lookup x = some .globalImplicit)
    (hd : (x == ("__debug__" : Str)) = false) {names l hp fr} {s : Shared} {P E : Value → Shared → Prop} (R : Rep c names l hp fr s.heap) (h : P (.ref a) s) :
    wpAny (model c.g.prog c.g.w) c.A (eval (.Name x p) c.env) P E s := by
  exact Name_function_global (by rw [c.env_scope]; exact ok.kind) (by rw [c.env_kindOf, hsc.1]; exact hk) (loadGlobal_global (by rw [c.env_globals]; exact (topRead_of ok.top).g.keeps (R.keep ok)) (mg_of ok.inK (topRead_of ok.top).g (by rw [hg]; exact (FO.gt x a hx).1)) h) hd
theorem nameB {c : Cx} (FO : F.Ok) (hg : c.g = F.g) (hsc : SCF c F) (ok : c.Ok) {x : Str} {p : Pos} {v : Value} (hx : x ∈ F.bt) (hv : bootBuiltins x = some v) (hk : F.sc.names.lookup x = some .globalImplicit)
    (hd : (x == ("__debug__" : Str)) = false) (hnm : x ≠ "__name__") {names l hp fr} {s : Shared} {P E : Value → Shared → Prop} (R : Rep c names l hp fr s.heap) (h : P v s) :
    wpAny (model c.g.prog c.g.w) c.A (eval (.Name x p) c.env) P E s := by
  exact Name_function_global (by rw [c.env_scope]; exact ok.kind) (by rw [c.env_kindOf, hsc.1]; exact hk) (loadGlobal_builtin (by rw [c.env_globals]; exact (topRead_of ok.top).g.keeps (R.keep ok)) (mg_none_of ok.inK (topRead_of ok.top).g (by rw [hg]; exact FO.bt x hx)) (by rw [c.env_builtins]; exact (topRead_of ok.top).b.keeps (R.keep ok)) (((topRead_of ok.top).builtins x hnm).trans hv) h) hd
theorem Rep.inK {c : Cx} (ok : c.Ok) {names l hp fr h} (R : Rep c names l hp fr h) : c.g.K.In h := ok.inK.keeps (R.keep ok)
theorem se_call {x : Str} {p pos : Pos} {a : Addr} {e : Expr} {es : List Expr} {ms : ME} (hx : F.gt.lookup x = some a) (hk : F.sc.names.lookup x = some .globalImplicit) (hd : (x == ("__debug__" : Str)) = false)
    (hn : (e :: es).all notStar = true) (hes : SEs F (e :: es) ms) : SE F (.Call (.Name x p) (e :: es) [] pos) (.call a ms) := by
  intro c d FO hg hsc ok rm l hp Q X hev fr s P E R hP hX
  simp only [List.all_cons, Bool.and_eq_true] at hn
  refine Call_ (nameG FO hg hsc ok hx hk hd R ?_) rfl
  refine callWith_K ok.inK (by rw [hg]; exact (FO.gt x a hx).2) ?_ (starEach_cons hn.1) (backTo_any hn.2)
  refine hes c d FO hg hsc ok rm l hp _ X hev pos fr s _ E R (fun vs xs h1 hh tk hq hxs R1 => ⟨R1.inK ok, ?_⟩) hX
  rw [List.nil_append]
  exact hq c hg ok rm F.names l xs [] hxs rfl fr _ _ E R1 hP hX.call
theorem se_len {x : Str} {p pos : Pos} {a : Expr} {ma : ME} (hxe : x = "len") (hx : x ∈ F.bt) (hk : F.sc.names.lookup x = some .globalImplicit) (hn : notStar a = true) (ha : SE F a ma) : SE F (.Call (.Name x p) [a] [] pos) (.len ma) := by
  intro c d FO hg hsc ok rm l hp Q X hev fr s P E R hP hX
  subst hxe
  refine Call_ (nameB FO hg hsc ok hx (v := .builtin "len") (by decide +kernel) hk (by decide) (by decide) R ?_) rfl
  refine PyProof.Rows.callWith_builtin1 ?_ (starEach_cons hn) rfl
  refine spliced_more (ha c d FO hg hsc ok rm l hp _ X hev fr s _ E R (fun v y h1 hh tk hq hy R1 => ?_) hX) (starEach_cons hn)
  refine spliced_none ?_
  exact lenS (Q := Q) ok hq hy fr _ _ E R1 hP hX
theorem se_toInt {x : Str} {p pos : Pos} {a : Expr} {ma : ME} (hxe : x = "int") (hx : x ∈ F.bt) (hk : F.sc.names.lookup x = some .globalImplicit) (hn : notStar a = true) (ha : SE F a ma) : SE F (.Call (.Name x p) [a] [] pos) (.toInt ma) := by
  intro c d FO hg hsc ok rm l hp Q X hev fr s P E R hP hX
  subst hxe
  refine Call_ (nameB FO hg hsc ok hx (v := .type "int") boot_int hk (by decide) (by decide) R ?_) rfl
  refine PyProof.Rows.callWith_type1 ?_ (starEach_cons hn) rfl
  refine spliced_more (ha c d FO hg hsc ok rm l hp _ X hev fr s _ E R (fun v y h1 hh tk hq hy R1 => ?_) hX) (starEach_cons hn)
  refine spliced_none ?_
  split at hq
  · obtain ⟨t, rfl⟩ := absV_int hy
    exact call_int_int (hP _ _ h1 hh tk hq rfl R1)
  · exact hq.elim
theorem isiS {c : Cx} {names : List Str} {l : List V} {hp : HP} {X : XT} {Q : V → HP → Prop} {v : V} {x : Value} {k : Kd} {T : String}
    (hT : T = (match k with | .int => "int" | .bool => "bool" | .list => "list" | .tuple => "tuple"))
    (h : isiV v hp k fun t => Q (.bool t) hp) (hx : absV x = v) : W rV c names l (call (.builtin "isinstance") [x, .type T]) hp Q X := by
  intro fr s P E R hP hX
  have key : ∀ b, Q (.bool b) hp → ∀ tk, P (.bool b) { s with toks := tk } := fun b hb tk => hP _ _ hp s.heap tk hb rfl R
  cases v with
  | int i =>
    obtain ⟨t, rfl⟩ := absV_int hx
    cases k <;> subst hT
    · exact IsiPair.int_int (key _ h _)
    · exact IsiPair.int_bool (key _ h _)
    · exact IsiPair.int_list (key _ h _)
    · exact IsiPair.int_tuple (key _ h _)
  | bool b =>
    cases absV_bool hx
    cases k <;> subst hT
    · exact IsiPair.bool_int (key _ h _)
    · exact IsiPair.bool_bool (key _ h _)
    · exact IsiPair.bool_list (key _ h _)
    · exact IsiPair.bool_tuple (key _ h _)
  | ref a =>
    cases absV_ref hx
    obtain ⟨g, T, m, Fm, lo, H, N, D⟩ := id R
    rcases h with ⟨vs, e, hq⟩ | ⟨vs, e, hq⟩
    · obtain ⟨ob, h1, ⟨it, n, rfl, _⟩, _⟩ := H.2 _ _ e
      cases k <;> subst hT
      · exact IsiPair.list_int h1 rfl (key _ hq _)
      · exact IsiPair.list_bool h1 rfl (key _ hq _)
      · exact IsiPair.list_list h1 rfl (key _ hq _)
      · exact IsiPair.list_tuple h1 rfl (key _ hq _)
    · obtain ⟨ob, h1, ⟨it, n, rfl, _⟩, _⟩ := H.2 _ _ e
      cases k <;> subst hT
      · exact IsiPair.tuple_int h1 rfl (key _ hq _)
      · exact IsiPair.tuple_bool h1 rfl (key _ hq _)
      · exact IsiPair.tuple_list h1 rfl (key _ hq _)
      · exact IsiPair.tuple_tuple h1 rfl (key _ hq _)
  | _ => exact h.elim
noncomputable def kdOf (T : Str) : Option Kd :=
  if T = "int" then some .int else if T = "bool" then some .bool else if T = "list" then some .list else if T = "tuple" then some .tuple else Option.none
theorem se_isi {x T : Str} {p pT pos : Pos} {a : Expr} {ma : ME} {k : Kd} (hxe : x = "isinstance") (hx : x ∈ F.bt) (hk : F.sc.names.lookup x = some .globalImplicit)
    (hT : T ∈ F.bt) (hkT : F.sc.names.lookup T = some .globalImplicit) (hkd : kdOf T = some k) (hn : notStar a = true) (ha : SE F a ma) : SE F (.Call (.Name x p) [a, .Name T pT] [] pos) (.isi ma k) := by
  intro c d FO hg hsc ok rm l hp Q X hev fr s P E R hP hX
  subst hxe
  refine Call_ (nameB FO hg hsc ok hx (v := .builtin "isinstance") boot_isinstance hk (by decide) (by decide) R ?_) rfl
  refine PyProof.Rows.callWith_builtin1 ?_ (starEach_cons hn) rfl
  refine spliced_more (ha c d FO hg hsc ok rm l hp _ X hev fr s _ E R (fun v y h1 hh tk hq hy R1 => ?_) hX) (starEach_cons hn)
  unfold kdOf at hkd
  split at hkd
  · rename_i e; subst e; cases hkd
    exact spliced_more (nameB FO hg hsc ok hT (v := .type "int") boot_int hkT (by decide) (by decide) R1 (spliced_none (isiS rfl hq hy fr _ _ E R1 hP hX))) rfl
  · split at hkd
    · rename_i e; subst e; cases hkd
      exact spliced_more (nameB FO hg hsc ok hT (v := .type "bool") boot_bool hkT (by decide) (by decide) R1 (spliced_none (isiS rfl hq hy fr _ _ E R1 hP hX))) rfl
    · split at hkd
      · rename_i e; subst e; cases hkd
        exact spliced_more (nameB FO hg hsc ok hT (v := .type "list") boot_list hkT (by decide) (by decide) R1 (spliced_none (isiS rfl hq hy fr _ _ E R1 hP hX))) rfl
      · split at hkd
        · rename_i e; subst e; cases hkd
          exact spliced_more (nameB FO hg hsc ok hT (v := .type "tuple") boot_tuple hkT (by decide) (by decide) R1 (spliced_none (isiS rfl hq hy fr _ _ E R1 hP hX))) rfl
        · cases hkd
theorem st_isn {a : Expr} {k pos cp} {ma : ME} (ha : SE F a ma) : ST F (.Compare a [.Is] [.Constant .none k cp] pos) (.tv (.isn ma true)) := by
  intro c d FO hg hsc ok rm l hp Q X hev whole hw fr s P E R hP hX
  refine wpAny_isTrue_Compare1 (ha c d FO hg hsc ok rm l hp _ X hev fr s _ E R (fun v x h1 hh tk hq hx R1 => ?_) hX) rfl
  refine wpAny_Constant_none (is_none (wpAny_truthy_bool ?_))
  split at hq
  · rename_i b hb
    refine hP _ _ h1 hh tk hq ?_ R1
    subst hx
    show _ = _
    cases x <;> simp only [absV, isNone, Option.some.injEq, reduceCtorEq] at hb <;> subst hb <;> first | rfl | simp
  · exact hq.elim
theorem st_isnn {a : Expr} {k pos cp} {ma : ME} (ha : SE F a ma) : ST F (.Compare a [.IsNot] [.Constant .none k cp] pos) (.tv (.isn ma false)) := by
  intro c d FO hg hsc ok rm l hp Q X hev whole hw fr s P E R hP hX
  refine wpAny_isTrue_Compare1 (ha c d FO hg hsc ok rm l hp _ X hev fr s _ E R (fun v x h1 hh tk hq hx R1 => ?_) hX) rfl
  refine wpAny_Constant_none (isnot_none_gen (wpAny_truthy_bool ?_))
  split at hq
  · rename_i b hb
    refine hP _ _ h1 hh tk hq ?_ R1
    subst hx
    show _ = _
    cases x <;> simp only [absV, isNone, Option.some.injEq, reduceCtorEq] at hb <;> subst hb <;> first | rfl | simp
  · exact hq.elim
theorem se_chain {a b e : Expr} {o p : CmpOp} {pos} {ma mb me : ME} {bo bp : COp} (ho : cmpOf o = some bo) (hp' : cmpOf p = some bp) (ha : SE F a ma) (hb : SE F b mb) (he : SE F e me) : SE F (.Compare a [o, p] [b, e] pos) (.chain ma bo mb bp me) := by
  intro c d FO hg hsc ok rm l hp Q X hev fr s P E R hP hX
  refine Compare_chain (ha c d FO hg hsc ok rm l hp _ X hev fr s _ E R (fun v x h1 hh tk hq hx R1 => ?_) hX) (notIn_of_cmpOf hp' e)
  refine chain_link (hb c d FO hg hsc ok rm l h1 _ X hq fr _ _ E R1 (fun w y h2 hh2 tk2 hq2 hy R2 => ?_) hX)
  refine cmpS (Q := fun t h => (t = true → ev F.g d me l h (fun u h3 => cmpV bp w u h3 fun t' => Q (.bool t') h3) X) ∧ (t = false → Q (.bool false) h)) ho ok rm hq2 hx hy fr _ _ E R2 (fun u z h3 hh3 tk3 hq3 hz R3 => ?_) hX
  obtain ⟨t, rfl, hq4⟩ := hq3
  cases absV_bool hz
  refine wpAny_truthy_bool ?_
  cases t with
  | false => rw [if_neg (by decide)]; exact hP _ _ h3 hh3 tk3 (hq4.2 rfl) rfl R3
  | true =>
    rw [if_pos rfl]
    refine chain_last (he c d FO hg hsc ok rm l h3 _ X (hq4.1 rfl) fr _ _ E R3 (fun w5 y5 h5 hh5 tk5 hq5 hy5 R5 => ?_) hX)
    refine cmpS (Q := fun t h => Q (.bool t) h) hp' ok rm hq5 hy hy5 fr _ _ E R5 (fun u6 z6 h6 hh6 tk6 hq6 hz6 R6 => ?_) hX
    obtain ⟨t, rfl, hq7⟩ := hq6
    exact hP _ _ h6 hh6 tk6 hq7 hz6 R6
theorem st_chain {a b e : Expr} {o p : CmpOp} {pos} {ma mb me : ME} {bo bp : COp} (ho : cmpOf o = some bo) (hp' : cmpOf p = some bp) (ha : SE F a ma) (hb : SE F b mb) (he : SE F e me) : ST F (.Compare a [o, p] [b, e] pos) (.chain ma bo mb bp me) := by
  intro c d FO hg hsc ok rm l hp Q X hev whole hw fr s P E R hP hX
  refine isTrue_chain (ha c d FO hg hsc ok rm l hp _ X hev fr s _ E R (fun v x h1 hh tk hq hx R1 => ?_) hX) (notIn_of_cmpOf hp' e)
  refine test_link (hb c d FO hg hsc ok rm l h1 _ X hq fr _ _ E R1 (fun w y h2 hh2 tk2 hq2 hy R2 => ?_) hX)
  refine cmpS (Q := fun t h => (t = true → ev F.g d me l h (fun u h3 => cmpV bp w u h3 fun t' => Q t' h3) X) ∧ (t = false → Q false h)) ho ok rm hq2 hx hy fr _ _ E R2 (fun u z h3 hh3 tk3 hq3 hz R3 => ?_) hX
  obtain ⟨t, rfl, hq4⟩ := hq3
  cases absV_bool hz
  refine wpAny_truthy_bool ?_
  cases t with
  | false => rw [if_neg (by decide)]; exact hP _ _ h3 hh3 tk3 (hq4.2 rfl) rfl R3
  | true =>
    rw [if_pos rfl]
    refine test_last (he c d FO hg hsc ok rm l h3 _ X (hq4.1 rfl) fr _ _ E R3 (fun w5 y5 h5 hh5 tk5 hq5 hy5 R5 => ?_) hX)
    refine cmpS (Q := fun t h => Q t h) hp' ok rm hq5 hy hy5 fr _ _ E R5 (fun u6 z6 h6 hh6 tk6 hq6 hz6 R6 => ?_) hX
    obtain ⟨t, rfl, hq7⟩ := hq6
    exact truS (Q := Q) (show truV (.bool t) h6 _ from hq7) hz6 fr _ _ E R6 hP hX
theorem se_and_one {a : Expr} {pos} {ma : ME} (o : BoolOp) (ha : SE F a ma) : SE F (.BoolOp o [a] pos) ma := by
  intro c d FO hg hsc ok rm l hp Q X hev fr s P E R hP hX
  exact BoolOp_one (ha c d FO hg hsc ok rm l hp Q X hev fr s P E R hP hX)
theorem se_and {a b : Expr} {r : List Expr} {pos} {ma mb : ME} (ha : SE F a ma) (hb : SE F (.BoolOp .And (b :: r) pos) mb) : SE F (.BoolOp .And (a :: b :: r) pos) (.and ma mb) := by
  intro c d FO hg hsc ok rm l hp Q X hev fr s P E R hP hX
  refine BoolOp_and (ha c d FO hg hsc ok rm l hp _ X hev fr s _ E R (fun v x h1 hh tk hq hx R1 => ?_) hX)
  refine truS (Q := fun t h => (t = true → ev F.g d mb l h Q X) ∧ (t = false → Q v h)) hq hx fr _ _ E R1 (fun t z h3 hh3 tk3 hq3 hz R3 => ?_) hX
  cases hz
  cases t with
  | true => rw [if_pos rfl]; exact hb c d FO hg hsc ok rm l h3 Q X (hq3.1 rfl) fr _ _ E R3 hP hX
  | false => rw [if_neg (by decide)]; exact hP _ _ h3 hh3 tk3 (hq3.2 rfl) hx R3
theorem se_or {a b : Expr} {r : List Expr} {pos} {ma mb : ME} (ha : SE F a ma) (hb : SE F (.BoolOp .Or (b :: r) pos) mb) : SE F (.BoolOp .Or (a :: b :: r) pos) (.or ma mb) := by
  intro c d FO hg hsc ok rm l hp Q X hev fr s P E R hP hX
  refine BoolOp_or (ha c d FO hg hsc ok rm l hp _ X hev fr s _ E R (fun v x h1 hh tk hq hx R1 => ?_) hX)
  refine truS (Q := fun t h => (t = true → Q v h) ∧ (t = false → ev F.g d mb l h Q X)) hq hx fr _ _ E R1 (fun t z h3 hh3 tk3 hq3 hz R3 => ?_) hX
  cases hz
  cases t with
  | true => rw [if_pos rfl]; exact hP _ _ h3 hh3 tk3 (hq3.1 rfl) hx R3
  | false => rw [if_neg (by decide)]; exact hb c d FO hg hsc ok rm l h3 Q X (hq3.2 rfl) fr _ _ E R3 hP hX
/-- a BoolOp as a test, whatever stands as its whole -/
noncomputable def STB (F : Fx) (o : BoolOp) (es : List Expr) (pos : Pos) (m : ME) : Prop := ∀ c d, F.Ok → c.g = F.g → SCF c F → c.Ok → room c d → ∀ l hp Q X, evT F.g d m l hp Q X → ∀ whole, W rB c F.names l (isTrue (.BoolOp o es pos) c.env whole) hp Q X
theorem stb_and_one {a : Expr} {pos} {ma : ME} (ha : ST F a ma) : STB F .And [a] pos ma := by
  intro c d FO hg hsc ok rm l hp Q X hev whole fr s P E R hP hX
  refine PyProof.Rows.isTrue_and (ha c d FO hg hsc ok rm l hp _ X hev _ rfl fr s _ E R (fun v x h1 hh tk hq hx R1 => ?_) hX)
  cases hx
  cases v with
  | true => rw [if_pos rfl]; exact isTrue_and_nil (hP _ _ h1 hh tk hq rfl R1)
  | false => rw [if_neg (by decide)]; exact hP _ _ h1 hh tk hq rfl R1
theorem stb_or_one {a : Expr} {pos} {ma : ME} (ha : ST F a ma) : STB F .Or [a] pos ma := by
  intro c d FO hg hsc ok rm l hp Q X hev whole fr s P E R hP hX
  refine PyProof.Rows.isTrue_or (ha c d FO hg hsc ok rm l hp _ X hev _ rfl fr s _ E R (fun v x h1 hh tk hq hx R1 => ?_) hX)
  cases hx
  cases v with
  | true => rw [if_pos rfl]; exact hP _ _ h1 hh tk hq rfl R1
  | false => rw [if_neg (by decide)]; exact isTrue_or_nil (hP _ _ h1 hh tk hq rfl R1)
theorem stb_and {a : Expr} {r : List Expr} {pos} {ma mb : ME} (ha : ST F a ma) (hb : STB F .And r pos mb) : STB F .And (a :: r) pos (.and ma mb) := by
  intro c d FO hg hsc ok rm l hp Q X hev whole fr s P E R hP hX
  refine PyProof.Rows.isTrue_and (ha c d FO hg hsc ok rm l hp _ X hev _ rfl fr s _ E R (fun v x h1 hh tk hq hx R1 => ?_) hX)
  cases hx
  cases v with
  | true => rw [if_pos rfl]; exact hb c d FO hg hsc ok rm l h1 Q X (hq.1 rfl) _ fr _ _ E R1 hP hX
  | false => rw [if_neg (by decide)]; exact hP _ _ h1 hh tk (hq.2 rfl) rfl R1
theorem stb_or {a : Expr} {r : List Expr} {pos} {ma mb : ME} (ha : ST F a ma) (hb : STB F .Or r pos mb) : STB F .Or (a :: r) pos (.or ma mb) := by
  intro c d FO hg hsc ok rm l hp Q X hev whole fr s P E R hP hX
  refine PyProof.Rows.isTrue_or (ha c d FO hg hsc ok rm l hp _ X hev _ rfl fr s _ E R (fun v x h1 hh tk hq hx R1 => ?_) hX)
  cases hx
  cases v with
  | true => rw [if_pos rfl]; exact hP _ _ h1 hh tk (hq.1 rfl) rfl R1
  | false => rw [if_neg (by decide)]; exact hb c d FO hg hsc ok rm l h1 Q X (hq.2 rfl) _ fr _ _ E R1 hP hX
theorem st_of {o : BoolOp} {es : List Expr} {pos} {m : ME} (h : STB F o es pos m) : ST F (.BoolOp o es pos) m :=
  fun c d FO hg hsc ok rm l hp Q X hev whole _ => h c d FO hg hsc ok rm l hp Q X hev whole
end
noncomputable def rO (o : Out) (f : Flow) : Prop :=
  match o, f with
  | .next, .next => True
  | .brk, .brk => True
  | .ret v, .ret x => absV x = v
  | _, _ => False
noncomputable def WS (c : Cx) (names : List Str) (l : List V) (t : Sem Flow) (hp : HP) (Q : Out → List V → HP → Prop) (X : XT) : Prop :=
  c.cp = none → ∀ (fr : List (Addr × Obj)) (s : Shared) (P : Flow → Shared → Prop) (E : Value → Shared → Prop), Rep c names l hp fr s.heap →
    (∀ o f l' hp' h' tk', Q o l' hp' → rO o f → Rep c names l' hp' fr h' → P f { s with heap := h', toks := tk' }) →
    (∀ l', XP c names l' fr X E s) →
    wpAny (model c.g.prog c.g.w) c.A t P E s
noncomputable def SS (F : Fx) (st : Stmt) (m : MS) : Prop := ∀ c d, F.Ok → c.g = F.g → SCF c F → c.Ok → room c d → ∀ l hp Q X, exec F.g d m l hp Q X → WS c F.names l (PySem.exec st c.env) hp Q X
noncomputable def SB (F : Fx) (b : List Stmt) (m : MS) : Prop := ∀ c d, F.Ok → c.g = F.g → SCF c F → c.Ok → room c d → ∀ l hp Q X, exec F.g d m l hp Q X → WS c F.names l (execs b c.env) hp Q X
theorem lset_get {v : V} : ∀ {l : List V} {i j : Nat} {w : V}, (lset l i v)[j]? = some w → (j = i ∧ w = v) ∨ (j ≠ i ∧ l[j]? = some w)
  | [], _, _, _, h => by simp [lset] at h
  | _ :: _, 0, 0, _, h => by simp [lset] at h; exact .inl ⟨rfl, h.symm⟩
  | _ :: _, 0, j + 1, _, h => by simp [lset] at h; exact .inr ⟨by omega, by simpa using h⟩
  | _ :: _, i + 1, 0, _, h => by simp [lset] at h; exact .inr ⟨by omega, by simpa using h⟩
  | _ :: r, i + 1, j + 1, w, h => by
    simp only [lset, List.getElem?_cons_succ] at h
    rcases lset_get (l := r) h with ⟨a, b⟩ | ⟨a, b⟩
    · exact .inl ⟨by omega, b⟩
    · exact .inr ⟨by omega, by simpa using b⟩
theorem Loc.set {cl : List (Str × Addr)} {names : List Str} {l : List V} {m : Str → Option Value} {i : Nat} {x : Str} {v : V} {val : Value} (nd : names.Nodup) (lo : Loc cl names l m) (hx : names[i]? = some x) (hv : absV val = v) :
    Loc cl names (lset l i v) (fun y => if y = x then some val else m y) := by
  intro j y w hy hw hn
  rcases lset_get hw with ⟨rfl, rfl⟩ | ⟨hne, hw⟩
  · rw [hx] at hy; cases hy
    exact .inr ⟨fun a e => by rw [e] at hv; cases val <;> simp [absV] at hv, val, by simp, hv⟩
  · have : y ≠ x := by
      intro e; subst e
      apply hne
      have h1 := (List.getElem?_eq_some_iff.mp hy)
      have h2 := (List.getElem?_eq_some_iff.mp hx)
      obtain ⟨a1, b1⟩ := h1
      obtain ⟨a2, b2⟩ := h2
      exact (List.getElem_inj nd).mp (b1.trans b2.symm)
    rcases lo j y w hy hw hn with h0 | ⟨h0, u, h1, h2⟩
    · exact .inl h0
    · exact .inr ⟨h0, u, by simp [this, h1], h2⟩
theorem noC {c : Cx} (h : c.cp = none) {it : Addr} : ∀ k, c.cp = some k → k.C ≠ it := fun k e => by rw [h] at e; cases e
theorem LocX.drop {c : Cx} {names l m fr} {it : Addr} {o : Obj} (h : LocX c names l m ((it, o) :: fr)) (hC : ∀ k, c.cp = some k → k.C ≠ it) : LocX c names l m fr := by
  unfold LocX at *
  split at h
  · exact h
  · rename_i k e
    obtain ⟨a, oC, m₂, b, r⟩ := h
    refine ⟨a, oC, m₂, ?_, r⟩
    rcases List.mem_cons.mp b with q | q
    · cases q; exact absurd rfl (hC k e)
    · exact q
theorem LocX.push {c : Cx} {names l m fr} {p : Addr × Obj} (h : LocX c names l m fr) : LocX c names l m (p :: fr) := h.sub fun _ => .tail _
theorem storeS {F : Fx} {c : Cx} (FO : F.Ok) (hsc : SCF c F) (ok : c.Ok) (hcp : c.cp = none) {x : Str} {i : Nat} {l hp fr} {s : Shared} {v : V} {val : Value} {P : Unit → Shared → Prop} {E : Value → Shared → Prop}
    (hi : F.names[i]? = some x) (hk : F.sc.names.lookup x = some .local) (R : Rep c F.names l hp fr s.heap) (hv : absV val = v)
    (h : ∀ h' tk', Rep c F.names (lset l i v) hp fr h' → P () { s with heap := h', toks := tk' }) :
    wpAny (model c.g.prog c.g.w) c.A (storeName c.env x val) P E s := by
  obtain ⟨g, m, news, T, Fm, lo, H, N, D⟩ := R.parts
  rw [c.env_plain hcp]
  refine storeX_L Fm N (fun h' F' N' => h h' _ (Rep.of T F' ((LocX.plain hcp).mpr (((LocX.plain hcp).mp lo).set FO.nd hi hv)) H N' D)) ok.fkind (by show c.fsc.names.lookup x = _; rw [← c.sc_plain hcp, hsc.1]; exact hk)
noncomputable def compE : Expr → Bool
  | .ListComp .. => true
  | .SetComp .. => true
  | .DictComp .. => true
  | _ => false
theorem swaps_plain {e : Expr} (h : compE e = false) (t : Option Expr) (n : Nat) (env : Env) : swapsWith e t n env = pure false := by
  cases e <;> first | rfl | (exact absurd h (by simp [compE]))
section
variable {F : Fx}
theorem sb_nil : SB F [] .skip := by
  intro c d FO hg hsc ok rm l hp Q X hev hcp fr s P E R hP hX
  exact wpAny_execs_nil (hP .next .next l hp s.heap s.toks hev trivial R)
theorem sb_cons {st : Stmt} {r : List Stmt} {m mr : MS} (h : SS F st m) (hr : SB F r mr) : SB F (st :: r) (.seq m mr) := by
  intro c d FO hg hsc ok rm l hp Q X hev hcp fr s P E R hP hX
  refine wpAny_execs_cons (h c d FO hg hsc ok rm l hp _ X hev hcp fr s _ E R (fun o f l1 h1 hh tk hq hf R1 => ?_) hX)
  cases o with
  | next =>
    cases f <;> first | exact hf.elim | skip
    exact hr c d FO hg hsc ok rm l1 h1 Q X hq hcp fr _ _ E R1 hP hX
  | brk =>
    cases f <;> first | exact hf.elim | skip
    exact hP .brk .brk l1 h1 hh tk hq trivial R1
  | ret v =>
    cases f <;> first | exact hf.elim | skip
    exact hP (.ret v) _ l1 h1 hh tk hq hf R1
theorem ss_asg {x : Str} {p pos : Pos} {i : Nat} {e : Expr} {m : ME} (hi : F.names[i]? = some x) (hk : F.sc.names.lookup x = some .local) (hc : compE e = false) (he : SE F e m) : SS F (.Assign [.Name x p] e pos) (.asg i m) := by
  intro c d FO hg hsc ok rm l hp Q X hev hcp fr s P E R hP hX
  refine wpAny_Assign_Name (he c d FO hg hsc ok rm l hp _ X hev fr s _ E R (fun v y h1 hh tk hq hy R1 => ?_) (hX l)) (swaps_plain hc _ _ _)
  exact storeS FO hsc ok hcp hi hk R1 hy fun h' tk' R' => hP .next .next _ h1 h' tk' hq trivial R'
theorem ibinS {o : Operator} {b : BOp} (ho : opOf o = some b) (hno : b = .add ∨ b = .sub ∨ b = .mul ∨ b = .fdiv ∨ b = .mod ∨ b = .shr ∨ b = .band) {c : Cx} {d : Nat} (ok : c.Ok) (rm : room c d) {names l hp Q X} {v w : V} {x y : Value}
    (h : augV b v w hp Q) (hx : absV x = v) (hy : absV y = w) : W rV c names l (inplaceOp o x y) hp Q X := by
  intro fr s P E R hP hX
  unfold augV at h
  split at h
  · rename_i i j
    obtain ⟨t, rfl⟩ := absV_int hx
    obtain ⟨u, rfl⟩ := absV_int hy
    obtain ⟨hok, hq⟩ := h
    cases o <;> simp only [opOf, Option.some.injEq, reduceCtorEq] at ho <;> subst ho
    · exact PyProof.Rows.iadd_int (hP _ _ hp s.heap _ hq rfl R)
    · exact PyProof.Rows.isub_int (hP _ _ hp s.heap _ hq rfl R)
    · exact PyProof.Rows.imul_int (hP _ _ hp s.heap _ hq rfl R) hok
    · exact imod_int hok (hP _ _ hp s.heap _ hq rfl R)
    · simp at hno
    · simp at hno
    · exact irshift_int hok (hP _ _ hp s.heap _ hq rfl R)
    · exact iand_int (hP _ _ hp s.heap _ hq rfl R)
    · exact ifloordiv_int hok (hP _ _ hp s.heap _ hq rfl R) (.inr (pylong ok rm R))
  · exact h.elim
theorem ss_aug {x : Str} {p pos : Pos} {i : Nat} {o : Operator} {b : BOp} {e : Expr} {m : ME} (ho : opOf o = some b) (hno : b = .add ∨ b = .sub ∨ b = .mul ∨ b = .fdiv ∨ b = .mod ∨ b = .shr ∨ b = .band)
    (hi : F.names[i]? = some x) (hk : F.sc.names.lookup x = some .local) (he : SE F e m) : SS F (.AugAssign (.Name x p) o e pos) (.aug i b m) := by
  intro c d FO hg hsc ok rm l hp Q X hev hcp fr s P E R hP hX
  obtain ⟨⟨hn, hnc⟩, hev⟩ := varV_iff.mp hev
  obtain ⟨m', val, hns, hm, hab⟩ := R.locals hi rfl hn hnc
  refine wpAny_AugAssign_Name (wpAny_loadName_local (by rw [c.env_scope]; exact ok.kind) (by rw [c.env_kindOf, hsc.1]; exact hk) hns hm ?_)
  refine he c d FO hg hsc ok rm l hp _ X hev fr s _ E R (fun v y h1 hh tk hq hy R1 => ?_) (hX l)
  refine ibinS ho hno ok rm hq hab hy fr _ _ E R1 (fun u z h2 hh2 tk2 hq2 hz R2 => ?_) (hX l)
  exact storeS FO hsc ok hcp hi hk R2 hz fun h' tk' R' => hP .next .next _ h2 h' tk' hq2 trivial R'
theorem ss_if {t : Expr} {a b : List Stmt} {pos : Pos} {mt : ME} {ma mb : MS} (ht : ST F t mt) (ha : SB F a ma) (hb : SB F b mb) : SS F (.If t a b pos) (.ite mt ma mb) := by
  intro c d FO hg hsc ok rm l hp Q X hev hcp fr s P E R hP hX
  refine wpAny_If (ht c d FO hg hsc ok rm l hp _ X hev _ rfl fr s _ E R (fun v y h1 hh tk hq hy R1 => ?_) (hX l))
  cases hy
  cases v with
  | true => rw [if_pos rfl]; exact ha c d FO hg hsc ok rm l h1 Q X (hq.1 rfl) hcp fr _ _ E R1 hP hX
  | false => rw [if_neg (by decide)]; exact hb c d FO hg hsc ok rm l h1 Q X (hq.2 rfl) hcp fr _ _ E R1 hP hX
theorem ss_ret {e : Expr} {pos : Pos} {m : ME} (he : SE F e m) : SS F (.Return (some e) pos) (.ret m) := by
  intro c d FO hg hsc ok rm l hp Q X hev hcp fr s P E R hP hX
  exact wpAny_Return_some (he c d FO hg hsc ok rm l hp _ X hev fr s _ E R (fun v y h1 hh tk hq hy R1 => hP (.ret v) (.ret y) l h1 hh tk hq hy R1) (hX l))
theorem noXP {c : Cx} {names l fr E s} : XP c names l fr noX E s := fun _ _ _ _ _ h => h.elim
theorem ss_while {t : Expr} {a b : List Stmt} {pos : Pos} {mt : ME} {ma mb : MS} (ht : ST F t mt) (ha : SB F a ma) (hb : SB F b mb) : SS F (.While t a b pos) (.whil mt ma mb) := by
  intro c d FO hg hsc ok rm l hp Q X hev hcp fr s P E R hP hX
  obtain ⟨I, ⟨n, h0⟩, step⟩ := hev
  refine wpAny_While (codeAny_whileLoop (fun n s' => ∃ l' hp' h' tk', I n l' hp' ∧ Rep c F.names l' hp' fr h' ∧ s' = { s with heap := h', toks := tk' }) ?_ n ⟨l, hp, s.heap, s.toks, h0, R, rfl⟩)
  rintro n s' ⟨l1, hp1, hh1, tk1, hI, R1, rfl⟩
  refine ht c d FO hg hsc ok rm l1 hp1 _ noX (step n l1 hp1 hI) _ rfl fr _ _ _ R1 (fun v y h2 hh2 tk2 hq hy R2 => ?_) noXP
  cases hy
  cases v with
  | true =>
    rw [if_pos rfl]
    refine ha c d FO hg hsc ok rm l1 h2 _ noX (hq.1 rfl) hcp fr _ _ _ R2 (fun o f l3 h3 hh3 tk3 hq3 hf R3 => ?_) fun _ => noXP
    cases o with
    | next =>
      cases f <;> first | exact hf.elim | skip
      obtain ⟨k, hk, hI3⟩ := hq3
      exact ⟨k, hk, l3, h3, hh3, tk3, hI3, R3, rfl⟩
    | brk =>
      cases f <;> first | exact hf.elim | skip
      exact hP .next .next l3 h3 hh3 tk3 hq3 trivial R3
    | ret v =>
      cases f <;> first | exact hf.elim | skip
      exact hP (.ret v) _ l3 h3 hh3 tk3 hq3 hf R3
  | false =>
    rw [if_neg (by decide)]
    exact hb c d FO hg hsc ok rm l1 h2 _ noX (hq.2 rfl) hcp fr _ _ _ R2 (fun o f l3 h3 hh3 tk3 hq3 hf R3 => hP o f l3 h3 hh3 tk3 hq3 hf R3) fun _ => noXP
theorem Rep.iter {c : Cx} {names l hp fr h h'} {it : Addr} {o o' : Obj} (R : Rep c names l hp ((it, o) :: fr) h) (hC : ∀ k, c.cp = some k → k.C ≠ it) (hs : ∀ b ob, b ≠ it → h.get? b = some ob → h'.get? b = some ob) (ho : h'.get? it = some o') (hfr : ∀ p ∈ fr, p.1 ≠ it) :
    Rep c names l hp ((it, o') :: fr) h' := by
  obtain ⟨g, T, m, Fm, lo, H, N, D⟩ := R
  have hi := N (it, o) (.head _)
  refine ⟨g, T, m, ⟨Fm.ns.at' fun ob e => hs _ _ (Ne.symm hi.2.1) e, fun b ob e => hs b ob (fun q => by rw [q, hi.2.2] at e; cases e) (Fm.keep b ob e), Fm.above⟩, (lo.drop hC).push, ⟨H.1, fun a x hx => ?_⟩, fun p hp' => ?_, fun p hp' => ?_⟩
  · have := H.2 a x hx
    have hne : a ≠ it := by
      intro e
      have := D (it, o) (.head _)
      rw [← e] at this
      rw [this] at hx; cases hx
    cases x with
    | ro vs => exact this
    | list vs => obtain ⟨ob, h1, h2⟩ := this; exact ⟨ob, hs _ _ hne h1, h2⟩
    | tup vs => obtain ⟨ob, h1, h2⟩ := this; exact ⟨ob, hs _ _ hne h1, h2⟩
    | cell vs => obtain ⟨ob, h1, h2⟩ := this; exact ⟨ob, hs _ _ hne h1, h2⟩
    | rng _ _ _ => obtain ⟨ob, h1, h2⟩ := this; exact ⟨ob, hs _ _ hne h1, h2⟩
    | dict _ => obtain ⟨ob, h1, h2⟩ := this; exact ⟨ob, hs _ _ hne h1, h2⟩
  · cases hp' with
    | head => exact ⟨ho, hi.2⟩
    | tail _ hp' => exact ⟨hs _ _ (hfr p hp') (N p (.tail _ hp')).1, (N p (.tail _ hp')).2⟩
  · cases hp' with
    | head => exact D (it, o) (.head _)
    | tail _ hp' => exact D p (.tail _ hp')
theorem Rep.drop {c : Cx} {names l hp fr h h'} {it : Addr} {o : Obj} (R : Rep c names l hp ((it, o) :: fr) h) (hC : ∀ k, c.cp = some k → k.C ≠ it) (hs : ∀ b ob, b ≠ it → h.get? b = some ob → h'.get? b = some ob) (hfr : ∀ p ∈ fr, p.1 ≠ it) :
    Rep c names l hp fr h' := by
  obtain ⟨g, T, m, Fm, lo, H, N, D⟩ := R
  have hi := N (it, o) (.head _)
  refine ⟨g, T, m, ⟨Fm.ns.at' fun ob e => hs _ _ (Ne.symm hi.2.1) e, fun b ob e => hs b ob (fun q => by rw [q, hi.2.2] at e; cases e) (Fm.keep b ob e), Fm.above⟩, lo.drop hC, ⟨H.1, fun a x hx => ?_⟩, fun p hp' => ?_, fun p hp' => D p (.tail _ hp')⟩
  · have := H.2 a x hx
    have hne : a ≠ it := by
      intro e
      have := D (it, o) (.head _)
      rw [← e] at this
      rw [this] at hx; cases hx
    cases x with
    | ro vs => exact this
    | list vs => obtain ⟨ob, h1, h2⟩ := this; exact ⟨ob, hs _ _ hne h1, h2⟩
    | tup vs => obtain ⟨ob, h1, h2⟩ := this; exact ⟨ob, hs _ _ hne h1, h2⟩
    | cell vs => obtain ⟨ob, h1, h2⟩ := this; exact ⟨ob, hs _ _ hne h1, h2⟩
    | rng _ _ _ => obtain ⟨ob, h1, h2⟩ := this; exact ⟨ob, hs _ _ hne h1, h2⟩
    | dict _ => obtain ⟨ob, h1, h2⟩ := this; exact ⟨ob, hs _ _ hne h1, h2⟩
  · exact ⟨hs _ _ (hfr p hp') (N p (.tail _ hp')).1, (N p (.tail _ hp')).2⟩
theorem Rep.push {c : Cx} {names l hp fr h} (ok : c.Ok) (R : Rep c names l hp fr h) (o : Obj) (hf : o.isFreed = false) : Rep c names l hp ((h.objs.size, o) :: fr) (h.push o) := by
  obtain ⟨f1, f2⟩ := R.fresh ok
  obtain ⟨g, m, news, T, Fm, lo, H, N, D⟩ := R.parts
  have N2 := N.push Fm o hf
  refine ⟨g, T, m, Fm.push o, lo.push, HpN.rep (c := c.at g) H fun p hp' => N2 p (.tail _ (List.mem_append_left _ hp')), fun p hp' => ?_, fun p hp' => ?_⟩
  · cases hp' with
    | head => exact N2 _ (.head _)
    | tail _ hp' => exact N2 p (.tail _ (List.mem_append_right _ hp'))
  · cases hp' with
    | head => exact f1
    | tail _ hp' => exact D p hp'
end
section
variable {F : Fx}
theorem handled_none {c : Cx} (ok : c.Ok) : c.A.handled = none := ok.hd
/-- the loop itself, whatever yields its items and whatever takes them -/
theorem forSG {c : Cx} (FO : F.Ok) (hsc : SCF c F) (ok : c.Ok) (hcp : c.cp = none) {tgt : Expr} {upd : V → List V → HP → (List V → Prop) → Prop} {b : List Stmt} {m : MS} {d : Nat} (hg : c.g = F.g) (rm : room c d)
    (hasg : ∀ (v : V) (val : Value) (l : List V) (hp : HP) (fr : List (Addr × Obj)) (s : Shared) (K : List V → Prop) (P : Unit → Shared → Prop) (E : Value → Shared → Prop), absV val = v → upd v l hp K → Rep c F.names l hp fr s.heap →
      (∀ l' h' tk', K l' → Rep c F.names l' hp fr h' → P () { s with heap := h', toks := tk' }) → wpAny (model c.g.prog c.g.w) c.A (assign tgt c.env val) P E s)
    (hb : SB F b m) {vs : List V} {K : HP → Prop} {Q : Out → List V → HP → Prop}
    {l : List V} {hp : HP} {fr : List (Addr × Obj)} {s : Shared} {it : Addr} (ItObj : Nat → Obj → Prop)
    (hgo : ∀ k o val (s' : Shared) (P : Unit → Shared → Prop) (E : Value → Shared → Prop), ItObj k o → s'.heap.get? it = some o → P () s' → wpAny (model c.g.prog c.g.w) c.A (letOwnedTupleGo tgt (.ref it) val) P E s')
    (next : ∀ k l hp o h (s' : Shared) (P : Option Value → Shared → Prop) (E : Value → Shared → Prop), K hp → ItObj k o → s'.heap = h → Rep c F.names l hp ((it, o) :: fr) h → (∀ p ∈ fr, p.1 ≠ it) →
      (∀ val v h' tk' o', vs[k]? = some v → absV val = v → ItObj (k + 1) o' → Rep c F.names l hp ((it, o') :: fr) h' → P (some val) { s' with heap := h', toks := tk' }) →
      (k = vs.length → ∀ h' tk', Rep c F.names l hp fr h' → P Option.none { s' with heap := h', toks := tk' }) → k ≤ vs.length → wpAny (model c.g.prog c.g.w) c.A (pyNext (.ref it)) P E s')
    {o₀ : Obj} (h0 : ItObj 0 o₀) (R0 : Rep c F.names l hp ((it, o₀) :: fr) s.heap) (hfr : ∀ p ∈ fr, p.1 ≠ it)
    (hK : ∃ I : Nat → List V → HP → Prop, I 0 l hp ∧
      (∀ k x l h, vs[k]? = some x → I k l h → K h ∧ upd x l h fun l1 => exec F.g d m l1 h (fun o l2 h2 => match o with
        | .next => I (k + 1) l2 h2 | .brk => Q .next l2 h2 | .ret v => Q (.ret v) l2 h2) noX) ∧
      (∀ l h, I vs.length l h → K h ∧ Q .next l h)) {R : Result → Shared → Prop}
    (hR : ∀ o f l' hp' h' tk', Q o l' hp' → rO o f → Rep c F.names l' hp' fr h' → R (.ok f) { s with heap := h', toks := tk' }) :
    codeAny (model c.g.prog c.g.w) c.A (.forLoop tgt (.ref it) b [] c.env) R s := by
  obtain ⟨I, hI0, step, fin⟩ := hK
  refine codeAny_forLoop_any (fun n s' => ∃ k l' hp' o h' tk', n = vs.length + 1 - k ∧ k ≤ vs.length ∧ I k l' hp' ∧ ItObj k o ∧ Rep c F.names l' hp' ((it, o) :: fr) h' ∧ s' = { s with heap := h', toks := tk' }) ?_ _ ⟨0, l, hp, o₀, s.heap, s.toks, rfl, Nat.zero_le _, hI0, h0, R0, rfl⟩
  rintro n s' ⟨k, l1, hp1, o1, hh1, tk1, rfl, hk1, hI, hO, R1, rfl⟩
  have hKh : K hp1 := by
    by_cases hlt : k < vs.length
    · exact (step k vs[k] l1 hp1 (by simp [hlt]) hI).1
    · have : k = vs.length := by omega
      subst this
      exact (fin l1 hp1 hI).1
  refine next k l1 hp1 o1 hh1 _ _ _ hKh hO rfl R1 hfr (fun val v h' tk' o' hv hval hO' R2 => ?_) (fun hkl h' tk' R2 => ?_) hk1
  · dsimp only
    refine hgo (k + 1) o' val _ _ _ hO' (by obtain ⟨_, _, _, _, _, _, N, _⟩ := id R2; exact (N _ (.head _)).1) ?_
    refine hasg v val _ _ _ { s with heap := h', toks := tk' } _ _ _ hval (step k v l1 hp1 hv hI).2 R2 fun l3 h3 tk3 hq3 R3 => ?_
    refine hb c d FO hg hsc ok rm _ hp1 _ noX hq3 hcp _ _ _ _ R3 (fun o f l4 h4 hh4 tk4 hq4 hf R4 => ?_) fun _ => noXP
    have hlt : k < vs.length := by
      rcases Nat.lt_or_ge k vs.length with h | h
      · exact h
      · rw [List.getElem?_eq_none h] at hv; cases hv
    cases o with
    | next =>
      cases f <;> first | exact hf.elim | skip
      exact ⟨vs.length + 1 - (k + 1), by omega, k + 1, l4, h4, o', hh4, tk4, rfl, by omega, hq4, hO', R4, rfl⟩
    | brk =>
      cases f <;> first | exact hf.elim | skip
      exact hR .next .next l4 h4 hh4 tk4 hq4 trivial (R4.drop (noC hcp) (fun _ _ _ e => e) hfr)
    | ret v =>
      cases f <;> first | exact hf.elim | skip
      exact hR (.ret v) _ l4 h4 hh4 tk4 hq4 hf (R4.drop (noC hcp) (fun _ _ _ e => e) hfr)
  · dsimp only
    subst hkl
    exact wpAny_execs_nil (hR .next .next l1 hp1 h' tk' (fin l1 hp1 hI).2 trivial R2)
/-- the loop over a name -/
theorem forS {c : Cx} (FO : F.Ok) (hsc : SCF c F) (ok : c.Ok) (hcp : c.cp = none) {x : Str} {p : Pos} {i : Nat} {b : List Stmt} {m : MS} {d : Nat} (hg : c.g = F.g) (rm : room c d)
    (hi : F.names[i]? = some x) (hk : F.sc.names.lookup x = some .local) (hb : SB F b m) {vs : List V} {K : HP → Prop} {Q : Out → List V → HP → Prop}
    {l : List V} {hp : HP} {fr : List (Addr × Obj)} {s : Shared} {it : Addr} (ItObj : Nat → Obj → Prop)
    (next : ∀ k l hp o h (s' : Shared) (P : Option Value → Shared → Prop) (E : Value → Shared → Prop), K hp → ItObj k o → s'.heap = h → Rep c F.names l hp ((it, o) :: fr) h → (∀ p ∈ fr, p.1 ≠ it) →
      (∀ val v h' tk' o', vs[k]? = some v → absV val = v → ItObj (k + 1) o' → Rep c F.names l hp ((it, o') :: fr) h' → P (some val) { s' with heap := h', toks := tk' }) →
      (k = vs.length → ∀ h' tk', Rep c F.names l hp fr h' → P Option.none { s' with heap := h', toks := tk' }) → k ≤ vs.length → wpAny (model c.g.prog c.g.w) c.A (pyNext (.ref it)) P E s')
    {o₀ : Obj} (h0 : ItObj 0 o₀) (R0 : Rep c F.names l hp ((it, o₀) :: fr) s.heap) (hfr : ∀ p ∈ fr, p.1 ≠ it)
    (hK : forIn (fun l h R => exec F.g d m l h R noX) i vs l hp K Q) {R : Result → Shared → Prop}
    (hR : ∀ o f l' hp' h' tk', Q o l' hp' → rO o f → Rep c F.names l' hp' fr h' → R (.ok f) { s with heap := h', toks := tk' }) :
    codeAny (model c.g.prog c.g.w) c.A (.forLoop (.Name x p) (.ref it) b [] c.env) R s :=
  forSG (upd := fun v l _ k => k (lset l i v)) FO hsc ok hcp hg rm
    (fun v val l hp fr s K P E hval hu R1 hP => wpAny_assign_Name (storeS FO hsc ok hcp hi hk R1 hval fun h3 tk3 R3 => hP _ h3 tk3 hu R3)) hb ItObj (fun _ _ _ _ _ _ _ _ h => wpAny_pure h) next h0 R0 hfr hK hR
theorem ss_forR_core {x : Str} {p pos : Pos} {i : Nat} {iter : Expr} {b : List Stmt} {m : MS} {c : Cx} {d : Nat} (FO : F.Ok) (hg : c.g = F.g) (hsc : SCF c F) (ok : c.Ok) (hcp : c.cp = none) (rm : room c d)
    (hi : F.names[i]? = some x) (hk : F.sc.names.lookup x = some .local) (hb : SB F b m) {Q : Out → List V → HP → Prop} {l : List V} {hp : HP} {fr : List (Addr × Obj)} {s : Shared}
    {lo hi' st : Int} {r : Addr} {t u v : Tok} (hsm : Builtin.Range.small lo hi' st = true) (R : Rep c F.names l hp fr s.heap) (hr : IsRange s.heap r lo hi' st t u v)
    (hK : forIn (fun l h R => exec F.g d m l h R noX) i ((List.range (Builtin.Range.rangeSize lo hi' st).toNat).map fun (k : Nat) => V.int (lo + k * st)) l hp (fun _ => True) Q)
    {P : Flow → Shared → Prop} {E : Value → Shared → Prop} (hP : ∀ o f l' hp' h' tk', Q o l' hp' → rO o f → Rep c F.names l' hp' fr h' → P f { s with heap := h', toks := tk' }) :
    wpAny (model c.g.prog c.g.w) c.A (pyIter (.ref r)) (fun it s₂ => codeAny (model c.g.prog c.g.w) c.A (.forLoop (.Name x p) it b [] c.env) (fun r s' => match r with | .ok f => P f s' | .error e => cameBackBy (model c.g.prog c.g.w) c.A c.env E e s') s₂) E s := by
  refine wpAny_pyIter_range hr hsm ?_
  have R0 := R.push ok { cls := Value.type "range_iterator", data := Data.fields #[rawInt lo, rawInt (Builtin.Range.rangeSize lo hi' st), rawInt st] } rfl
  have hsz : 0 ≤ Builtin.Range.rangeSize lo hi' st := by
    unfold Builtin.Range.rangeSize
    split <;> split <;> first | omega | skip
    · exact Int.add_nonneg (Int.ediv_nonneg (by omega) (by omega)) (by omega)
    · rename_i h1 h2
      by_cases hz : st = 0
      · subst hz; simp
      · exact Int.add_nonneg (Int.ediv_nonneg (by omega) (by omega)) (by omega)
  refine forS FO hsc ok hcp hg rm hi hk hb (fun k o => o = { cls := Value.type "range_iterator", data := Data.fields #[rawInt (lo + k * st), rawInt (Builtin.Range.rangeSize lo hi' st - k), rawInt st] }) ?_ ?_ R0 (R.fresh ok).2 hK hP
  · intro k l1 hp1 o1 h1 s' P1 E1 _ hO hs R1 hfr hitem hend hkl
    subst hO
    subst hs
    simp only [List.length_map, List.length_range] at hkl hend
    obtain ⟨g, T, m1, Fm, lo1, H, N, D⟩ := id R1
    have hit := (N _ (.head _)).1
    by_cases hlt : k < (Builtin.Range.rangeSize lo hi' st).toNat
    · refine wpAny_pyNext_range_item (it := s.heap.objs.size) hit (by omega) fun h' hit' hs' => ?_
      refine hitem _ (.int (lo + k * st)) h' _ _ (by simp [hlt]) rfl ?_ (R1.iter (noC hcp) (fun b ob hne e => (hs'.2 b hne).trans e) hit' hfr)
      congr 4
      · rw [show ((k + 1 : Nat) : Int) * st = (k : Int) * st + st by push_cast; rw [Int.add_mul, Int.one_mul], Int.add_assoc]
      · rw [show Builtin.Range.rangeSize lo hi' st - ((k + 1 : Nat) : Int) = Builtin.Range.rangeSize lo hi' st - k - 1 by push_cast; omega]
    · refine wpAny_pyNext_range_end (it := s.heap.objs.size) (handled_none ok) hit (by omega) fun h' he => ?_
      exact hend (by omega) h' _ (R1.drop (noC hcp) (fun b ob hne e => he b ob hne e) hfr)
  · simp
theorem se_rangeArgs1 {x : Str} {p pos : Pos} {a : Expr} {ma : ME} (hxe : x = "range") (hx : x ∈ F.bt) (hk : F.sc.names.lookup x = some .globalImplicit) (hn : notStar a = true) (ha : SE F a ma)
    {c : Cx} {d : Nat} (FO : F.Ok) (hg : c.g = F.g) (hsc : SCF c F) (ok : c.Ok) (rm : room c d) {l hp X} {Q : Int → Int → Int → HP → Prop}
    (hev : ev F.g d ma l hp (fun v h1 => match v with | .int n => Q 0 n 1 h1 | _ => False) X) {fr} {s : Shared} {P E : Value → Shared → Prop} (R : Rep c F.names l hp fr s.heap)
    (hP : ∀ lo hi st hp' h' tk' r t u v, Q lo hi st hp' → Rep c F.names l hp' fr h' → IsRange h' r lo hi st t u v → P (.ref r) { s with heap := h', toks := tk' }) (hX : XP c F.names l fr X E s) :
    wpAny (model c.g.prog c.g.w) c.A (eval (.Call (.Name x p) [a] [] pos) c.env) P E s := by
  subst hxe
  refine Call_ (nameB FO hg hsc ok hx (v := .type "range") boot_range hk (by decide) (by decide) R ?_) rfl
  refine PyProof.Rows.callWith_type1 ?_ (starEach_cons hn) rfl
  refine spliced_more (ha c d FO hg hsc ok rm l hp _ X hev fr s _ E R (fun v y h1 hh tk hq hy R1 => ?_) hX) (starEach_cons hn)
  refine spliced_none ?_
  split at hq
  · obtain ⟨t, rfl⟩ := absV_int hy
    obtain ⟨g, m, news, T, Fm, lo, H, N, D⟩ := R1.parts
    exact range1_rows Fm N fun h' tk' t1 u1 v1 hr F' N' _ => hP _ _ _ h1 h' tk' _ _ _ _ hq (Rep.of T F' lo H N' D) hr
  · exact hq.elim
theorem se_rangeArgs2 {x : Str} {p pos : Pos} {a b : Expr} {ma mb : ME} (hxe : x = "range") (hx : x ∈ F.bt) (hk : F.sc.names.lookup x = some .globalImplicit) (hn : notStar a = true) (ha : SE F a ma) (hn2 : notStar b = true) (hb : SE F b mb)
    {c : Cx} {d : Nat} (FO : F.Ok) (hg : c.g = F.g) (hsc : SCF c F) (ok : c.Ok) (rm : room c d) {l hp X} {Q : Int → Int → Int → HP → Prop}
    (hev : ev F.g d ma l hp (fun v h1 => ev F.g d mb l h1 (fun w h2 => match v, w with | .int a, .int b => Q a b 1 h2 | _, _ => False) X) X) {fr} {s : Shared} {P E : Value → Shared → Prop} (R : Rep c F.names l hp fr s.heap)
    (hP : ∀ lo hi st hp' h' tk' r t u v, Q lo hi st hp' → Rep c F.names l hp' fr h' → IsRange h' r lo hi st t u v → P (.ref r) { s with heap := h', toks := tk' }) (hX : XP c F.names l fr X E s) :
    wpAny (model c.g.prog c.g.w) c.A (eval (.Call (.Name x p) [a, b] [] pos) c.env) P E s := by
  subst hxe
  refine Call_ (nameB FO hg hsc ok hx (v := .type "range") boot_range hk (by decide) (by decide) R ?_) rfl
  refine PyProof.Rows.callWith_type1 ?_ (starEach_cons hn) (by rw [starEach_cons hn2]; rfl)
  refine spliced_more (ha c d FO hg hsc ok rm l hp _ X hev fr s _ E R (fun v y h1 hh tk hq hy R1 => ?_) hX) (starEach_cons hn)
  refine spliced_more (hb c d FO hg hsc ok rm l h1 _ X hq fr _ _ E R1 (fun w z h2 hh2 tk2 hq2 hz R2 => ?_) hX) (starEach_cons hn2)
  refine spliced_none ?_
  split at hq2
  · obtain ⟨t, rfl⟩ := absV_int hy
    obtain ⟨u, rfl⟩ := absV_int hz
    obtain ⟨g, m, news, T, Fm, lo, H, N, D⟩ := R2.parts
    exact range2_rows Fm N fun h' tk' t1 u1 v1 hr F' N' _ => hP _ _ _ h2 h' tk' _ _ _ _ hq2 (Rep.of T F' lo H N' D) hr
  · exact hq2.elim
theorem se_rangeArgs3 {x : Str} {p pos : Pos} {a b e : Expr} {ma mb me : ME} (hxe : x = "range") (hx : x ∈ F.bt) (hk : F.sc.names.lookup x = some .globalImplicit) (hn : notStar a = true) (ha : SE F a ma) (hn2 : notStar b = true) (hb : SE F b mb) (hn3 : notStar e = true) (he : SE F e me)
    {c : Cx} {d : Nat} (FO : F.Ok) (hg : c.g = F.g) (hsc : SCF c F) (ok : c.Ok) (rm : room c d) {l hp X} {Q : Int → Int → Int → HP → Prop}
    (hev : ev F.g d ma l hp (fun v h1 => ev F.g d mb l h1 (fun w h2 => ev F.g d me l h2 (fun u h3 => match v, w, u with | .int a, .int b, .int e => e ≠ 0 ∧ Q a b e h3 | _, _, _ => False) X) X) X) {fr} {s : Shared} {P E : Value → Shared → Prop} (R : Rep c F.names l hp fr s.heap)
    (hP : ∀ lo hi st hp' h' tk' r t u v, Q lo hi st hp' → Rep c F.names l hp' fr h' → IsRange h' r lo hi st t u v → P (.ref r) { s with heap := h', toks := tk' }) (hX : XP c F.names l fr X E s) :
    wpAny (model c.g.prog c.g.w) c.A (eval (.Call (.Name x p) [a, b, e] [] pos) c.env) P E s := by
  subst hxe
  refine Call_ (nameB FO hg hsc ok hx (v := .type "range") boot_range hk (by decide) (by decide) R ?_) rfl
  refine PyProof.Rows.callWith_type1 ?_ (starEach_cons hn) (by rw [starEach_cons hn2, starEach_cons hn3]; rfl)
  refine spliced_more (ha c d FO hg hsc ok rm l hp _ X hev fr s _ E R (fun v y h1 hh tk hq hy R1 => ?_) hX) (starEach_cons hn)
  refine spliced_more (hb c d FO hg hsc ok rm l h1 _ X hq fr _ _ E R1 (fun w z h2 hh2 tk2 hq2 hz R2 => ?_) hX) (starEach_cons hn2)
  refine spliced_more (he c d FO hg hsc ok rm l h2 _ X hq2 fr _ _ E R2 (fun u z3 h3 hh3 tk3 hq3 hz3 R3 => ?_) hX) (starEach_cons hn3)
  refine spliced_none ?_
  split at hq3
  · obtain ⟨t, rfl⟩ := absV_int hy
    obtain ⟨u, rfl⟩ := absV_int hz
    obtain ⟨u3, rfl⟩ := absV_int hz3
    obtain ⟨g, m, news, T, Fm, lo, H, N, D⟩ := R3.parts
    exact range3_rows Fm N hq3.1 (fun h' tk' t1 u1 v1 hr F' N' _ => hP _ _ _ h3 h' tk' _ _ _ _ hq3.2 (Rep.of T F' lo H N' D) hr) (.inr (pylong ok rm R3))
  · exact hq3.elim
theorem folded_call {f : Expr} {as : List Expr} {ks : List Keyword} {pos : Pos} {env : Env} (x : Value) : foldedSetIterable (.Call f as ks pos) env x = pure x := rfl
theorem ss_forR1 {x r : Str} {p pr pc pos : Pos} {i : Nat} {a : Expr} {ma : ME} {b : List Stmt} {m : MS} (hre : r = "range") (hr : r ∈ F.bt) (hkr : F.sc.names.lookup r = some .globalImplicit) (hn : notStar a = true) (ha : SE F a ma)
    (hi : F.names[i]? = some x) (hk : F.sc.names.lookup x = some .local) (hb : SB F b m) : SS F (.For (.Name x p) (.Call (.Name r pr) [a] [] pc) b [] pos) (.forR i (.int 0) ma (.int 1) m) := by
  intro c d FO hg hsc ok rm l hp Q X hev hcp fr s P E R hP hX
  refine wpAny_For (se_rangeArgs1 hre hr hkr hn ha FO hg hsc ok rm (X := X)
    (Q := fun x y z h3 => z ≠ 0 ∧ Builtin.Range.small x y z = true ∧ forIn (fun l h R => exec F.g d m l h R noX) i ((List.range (Builtin.Range.rangeSize x y z).toNat).map fun (k : Nat) => V.int (x + k * z)) l h3 (fun _ => True) Q) ?_ R ?_ (hX l)) folded_call
  · refine Eq.mp ?_ hev
    show ev F.g d ma l hp _ X = ev F.g d ma l hp _ X
    congr 1
    funext v h1
    show (match V.int 0, v, V.int 1 with | .int x, .int y, .int z => _ | _, _, _ => False) = _
    cases v <;> rfl
  · intro lo hi' st hp' h' tk' r' t u v hq R' hr'
    exact ss_forR_core (pos := pos) (iter := a) FO hg hsc ok hcp rm hi hk hb hq.2.1 R' hr' hq.2.2 hP
theorem ss_forR2 {x r : Str} {p pr pc pos : Pos} {i : Nat} {a e : Expr} {ma me : ME} {b : List Stmt} {m : MS} (hre : r = "range") (hr : r ∈ F.bt) (hkr : F.sc.names.lookup r = some .globalImplicit) (hn : notStar a = true) (ha : SE F a ma) (hn2 : notStar e = true) (he : SE F e me)
    (hi : F.names[i]? = some x) (hk : F.sc.names.lookup x = some .local) (hb : SB F b m) : SS F (.For (.Name x p) (.Call (.Name r pr) [a, e] [] pc) b [] pos) (.forR i ma me (.int 1) m) := by
  intro c d FO hg hsc ok rm l hp Q X hev hcp fr s P E R hP hX
  refine wpAny_For (se_rangeArgs2 hre hr hkr hn ha hn2 he FO hg hsc ok rm (X := X)
    (Q := fun x y z h3 => z ≠ 0 ∧ Builtin.Range.small x y z = true ∧ forIn (fun l h R => exec F.g d m l h R noX) i ((List.range (Builtin.Range.rangeSize x y z).toNat).map fun (k : Nat) => V.int (x + k * z)) l h3 (fun _ => True) Q) ?_ R ?_ (hX l)) folded_call
  · refine Eq.mp ?_ hev
    show ev F.g d ma l hp _ X = ev F.g d ma l hp _ X
    congr 1
    funext v h1
    show ev F.g d me l h1 _ X = ev F.g d me l h1 _ X
    congr 1
    funext w h2
    show (match v, w, V.int 1 with | .int x, .int y, .int z => _ | _, _, _ => False) = _
    cases v <;> cases w <;> rfl
  · intro lo hi' st hp' h' tk' r' t u v hq R' hr'
    exact ss_forR_core (pos := pos) (iter := a) FO hg hsc ok hcp rm hi hk hb hq.2.1 R' hr' hq.2.2 hP
theorem ss_forR3 {x r : Str} {p pr pc pos : Pos} {i : Nat} {a e f : Expr} {ma me mf : ME} {b : List Stmt} {m : MS} (hre : r = "range") (hr : r ∈ F.bt) (hkr : F.sc.names.lookup r = some .globalImplicit) (hn : notStar a = true) (ha : SE F a ma) (hn2 : notStar e = true) (he : SE F e me)
    (hn3 : notStar f = true) (hf : SE F f mf)
    (hi : F.names[i]? = some x) (hk : F.sc.names.lookup x = some .local) (hb : SB F b m) : SS F (.For (.Name x p) (.Call (.Name r pr) [a, e, f] [] pc) b [] pos) (.forR i ma me mf m) := by
  intro c d FO hg hsc ok rm l hp Q X hev hcp fr s P E R hP hX
  refine wpAny_For (se_rangeArgs3 hre hr hkr hn ha hn2 he hn3 hf FO hg hsc ok rm (X := X)
    (Q := fun x y z h3 => Builtin.Range.small x y z = true ∧ forIn (fun l h R => exec F.g d m l h R noX) i ((List.range (Builtin.Range.rangeSize x y z).toNat).map fun (k : Nat) => V.int (x + k * z)) l h3 (fun _ => True) Q) ?_ R ?_ (hX l)) folded_call
  · exact hev
  · intro lo hi' st hp' h' tk' r' t u v hq R' hr'
    exact ss_forR_core (pos := pos) (iter := a) FO hg hsc ok hcp rm hi hk hb hq.1 R' hr' hq.2 hP
end
noncomputable def setE : Expr → Bool
  | .Set .. => true
  | _ => false
theorem folded_plain {e : Expr} (h : setE e = false) {env : Env} (x : Value) : foldedSetIterable e env x = pure x := by
  cases e <;> first | rfl | (exact absurd h (by simp [setE]))
theorem lset_comm {a b : V} : ∀ {l : List V} {i j : Nat}, i ≠ j → lset (lset l i a) j b = lset (lset l j b) i a
  | [], _, _, _ => rfl
  | _ :: _, 0, 0, h => absurd rfl h
  | _ :: _, 0, _ + 1, _ => rfl
  | _ :: _, _ + 1, 0, _ => rfl
  | x :: r, i + 1, j + 1, h => by simp only [lset]; rw [lset_comm (l := r) (by omega)]
theorem lsetN_snoc : ∀ (is : List Nat) (vs : List V) (l : List V) (i : Nat) (v : V), is.length = vs.length → lsetN l (is ++ [i]) (vs ++ [v]) = lset (lsetN l is vs) i v
  | [], [], _, _, _, _ => rfl
  | [], _ :: _, _, _, _, h => by simp at h
  | _ :: _, [], _, _, _, h => by simp at h
  | j :: is, w :: vs, l, i, v, h => by
    simp only [List.cons_append, lsetN]
    exact lsetN_snoc is vs _ i v (by simpa using h)
theorem lsetN_lset : ∀ (is : List Nat) (vs : List V) (l : List V) (i : Nat) (v : V), i ∉ is → lset (lsetN l is vs) i v = lsetN (lset l i v) is vs
  | [], _, _, _, _, _ => by simp [lsetN]
  | _ :: _, [], _, _, _, _ => by simp [lsetN]
  | j :: is, w :: vs, l, i, v, h => by
    simp only [lsetN]
    rw [lsetN_lset is vs _ i v (fun q => h (.tail _ q)), lset_comm (fun e => h (by rw [e]; exact .head _))]
theorem lsetN_rev : ∀ (is : List Nat) (vs : List V) (l : List V), is.Nodup → is.length = vs.length → lsetN l is.reverse vs.reverse = lsetN l is vs
  | [], [], _, _, _ => rfl
  | [], _ :: _, _, _, h => by simp at h
  | _ :: _, [], _, _, h => by simp at h
  | j :: is, w :: vs, l, nd, h => by
    have h' : is.length = vs.length := by simpa using h
    rw [List.reverse_cons, List.reverse_cons, lsetN_snoc _ _ _ _ _ (by simpa using h')]
    rw [lsetN_rev is vs l (List.nodup_cons.mp nd).2 h', lsetN_lset _ _ _ _ _ (List.nodup_cons.mp nd).1]
    rfl
noncomputable def fIdx : List Str → Str → Nat → Option Nat
  | [], _, _ => none
  | y :: r, x, n => if y == x then some n else fIdx r x (n + 1)
theorem fIdx_get : ∀ {names : List Str} {x : Str} {n i : Nat}, fIdx names x n = some i → n ≤ i ∧ names[i - n]? = some x
  | [], _, _, _, h => by cases h
  | y :: r, x, n, i, h => by
    unfold fIdx at h
    split at h
    · rename_i e
      cases h
      rw [beq_iff_eq.mp e]
      simp
    · obtain ⟨a, b⟩ := fIdx_get h
      refine ⟨by omega, ?_⟩
      rw [show i - n = (i - (n + 1)) + 1 by omega]
      simpa using b
/-- the place of a local name -/
noncomputable def loc? (F : Fx) (x : Str) : Option Nat :=
  match fIdx F.names x 0 with
  | some i => if F.sc.names.lookup x = some .local ∧ (x == ("__debug__" : Str)) = false then some i else none
  | none => none
theorem loc?_spec {F : Fx} {x : Str} {i : Nat} (h : loc? F x = some i) : F.names[i]? = some x ∧ F.sc.names.lookup x = some .local ∧ (x == ("__debug__" : Str)) = false := by
  unfold loc? at h
  split at h
  · rename_i j hj
    split at h
    · rename_i e
      cases h
      exact ⟨by simpa using (fIdx_get hj).2, e.1, e.2⟩
    · cases h
  · cases h
/-- the places of a row of names -/
noncomputable def tgt? (F : Fx) : List Expr → Option (List Str × List Nat)
  | [] => some ([], [])
  | .Name x _ :: r => match loc? F x, tgt? F r with
    | some i, some (xs, is) => some (x :: xs, i :: is)
    | _, _ => none
  | _ :: _ => none
theorem tgt?_assign {F : Fx} {c : Cx} (FO : F.Ok) (hsc : SCF c F) (ok : c.Ok) (hcp : c.cp = none) : ∀ {ts : List Expr} {xs : List Str} {is : List Nat}, tgt? F ts = some (xs, is) →
    ((assignEach ts c.env).length = ts.length ∧ ts.length = is.length ∧ List.findIdx? (fun x => x.fst) (assignEach ts c.env) = none) ∧
    ∀ (l : List V) (hp : HP) (fr : List (Addr × Obj)) (s : Shared) (vs : List V) (vals : List Value) (P : Unit → Shared → Prop) (E : Value → Shared → Prop), vals.map absV = vs → vs.length = is.length → Rep c F.names l hp fr s.heap →
      (∀ h' tk', Rep c F.names (lsetN l is vs) hp fr h' → P () { s with heap := h', toks := tk' }) →
      wpAny (model c.g.prog c.g.w) c.A (assignInOrder ((assignEach ts c.env).map (fun x => x.snd)) vals) P E s
  | [], xs, is, h => by
    cases h
    refine ⟨⟨rfl, rfl, rfl⟩, fun l hp fr s vs vals P E hv hl R hP => ?_⟩
    have : vs = [] := by simpa using hl
    subst this
    exact assignInOrder_nil (hP s.heap s.toks R)
  | e :: r, xs, is, h => by
    cases e <;> first | (simp only [tgt?, reduceCtorEq] at h; done) | skip
    rename_i x p
    simp only [tgt?] at h
    split at h
    · rename_i i ys js hi hr
      cases h
      obtain ⟨⟨a1, a2, a3⟩, ih⟩ := tgt?_assign FO hsc ok hcp hr
      obtain ⟨b1, b2, b3⟩ := loc?_spec hi
      refine ⟨⟨by simp [assignEach, a1], by simp [a2], by simp [assignEach, List.findIdx?_cons, a3]⟩, fun l hp fr s vs vals P E hv hl R hP => ?_⟩
      cases vals with
      | nil => subst hv; simp at hl
      | cons y ys' =>
        subst hv
        simp only [List.map_cons, List.length_cons] at hl
        show wpAny _ _ (assignInOrder (assign (.Name x p) c.env :: (assignEach r c.env).map (fun x => x.snd)) (y :: ys')) P E s
        refine assignInOrder_cons (PyProof.Rows.assign_Name (storeS FO hsc ok hcp b1 b2 R rfl fun h' tk' R' => ?_))
        exact ih _ _ _ _ _ _ _ _ rfl (by simpa using hl) R' fun h2 tk2 R2 => hP h2 tk2 R2
    · cases h
theorem bindNames {F : Fx} {c : Cx} (FO : F.Ok) (hsc : SCF c F) (ok : c.Ok) (hcp : c.cp = none) : ∀ {xs : List Str} {is : List Nat}, xs.length = is.length → (∀ p ∈ xs.zip is, F.names[p.2]? = some p.1 ∧ F.sc.names.lookup p.1 = some .local) →
    ∀ (l : List V) (hp : HP) (fr : List (Addr × Obj)) (s : Shared) (vs : List V) (vals : List Value) (P : Unit → Shared → Prop) (E : Value → Shared → Prop), vals.map absV = vs → vs.length = is.length → Rep c F.names l hp fr s.heap →
      (∀ h' tk', Rep c F.names (lsetN l is vs) hp fr h' → P () { s with heap := h', toks := tk' }) →
      wpAny (model c.g.prog c.g.w) c.A (assignInOrder (xs.map fun n => bindName c.env n) vals) P E s
  | [], [], _, _ => fun l hp fr s vs vals P E hv hl R hP => by
    have : vs = [] := by simpa using hl
    subst this
    exact assignInOrder_nil (hP s.heap s.toks R)
  | [], _ :: _, h, _ => by simp at h
  | _ :: _, [], h, _ => by simp at h
  | x :: xs, i :: is, h, hz => fun l hp fr s vs vals P E hv hl R hP => by
    cases vals with
    | nil => subst hv; simp at hl
    | cons y ys' =>
      subst hv
      obtain ⟨b1, b2⟩ := hz (x, i) (by simp)
      refine assignInOrder_cons (bindName_ (storeS FO hsc ok hcp b1 b2 R rfl fun h' tk' R' => ?_))
      exact bindNames FO hsc ok hcp (by simpa using h) (fun p hp => hz p (by simp only [List.zip_cons_cons]; exact .tail _ hp)) _ _ _ _ _ _ _ _ rfl (by simpa using hl) R' fun h2 tk2 R2 => hP h2 tk2 R2
theorem tgt?_zip {F : Fx} : ∀ {ts : List Expr} {xs : List Str} {is : List Nat}, tgt? F ts = some (xs, is) → xs.length = is.length ∧ ∀ p ∈ xs.zip is, F.names[p.2]? = some p.1 ∧ F.sc.names.lookup p.1 = some .local
  | [], xs, is, h => by cases h; simp
  | e :: r, xs, is, h => by
    cases e <;> first | (simp only [tgt?, reduceCtorEq] at h; done) | skip
    rename_i x p
    simp only [tgt?] at h
    split at h
    · rename_i i ys js hi hr
      cases h
      obtain ⟨a1, a2⟩ := tgt?_zip hr
      obtain ⟨b1, b2, b3⟩ := loc?_spec hi
      refine ⟨by simp [a1], fun p hp => ?_⟩
      simp only [List.zip_cons_cons] at hp
      cases hp with
      | head => exact ⟨b1, b2⟩
      | tail _ hp => exact a2 p hp
    · cases h
/-- how a row of names takes a tuple display: none: item by item; some names: from the last on -/
noncomputable def swr (sc : Scope) (ts vs : List Expr) : Option (Option (List Str)) :=
  if !(ts.length == 2 || ts.length == 3) || vs.length != ts.length then some none
  else if vs.any (fun | .Starred .. => true | _ => false) then some none
  else
    let line := (ts.head?.map (·.pos.line)).getD 0
    let names := ts.filterMap fun
      | .Name id pos => if sc.names.lookup id == some .local && pos.line == line then some id else none
      | _ => none
    if names.length != ts.length || names.eraseDups.length != names.length then some none
    else if vs.all (foldedForSure 8) then some none
    else if vs.all (constantsAlone 8) then none
    else some (some names)
theorem swr_spec {sc : Scope} {ts vs : List Expr} {r : Option (List Str)} (h : swr sc ts vs = some r) {env : Env} (he : env.scope = sc) (hk : sc.kind = .function) {k k' p p'} :
    swappedStores [.Tuple ts k p] (.Tuple vs k' p') env = pure r := by
  have hb : env.blockKind = .function := by unfold Env.blockKind; rw [he, hk]; rfl
  unfold swr at h
  unfold swappedStores
  simp only [hb, bne_self_eq_false, Bool.or_false, Env.kindOf, he]
  dsimp only at h ⊢
  split at h
  · rename_i e; cases h; rw [if_pos e]
  · rename_i e
    rw [if_neg e]
    simp only [pure_bind, bind_pure_comp] 
    split at h
    · rename_i e; cases h; exact if_pos e
    · rename_i e
      refine (if_neg e).trans ?_
      split at h
      · rename_i e; cases h; exact if_pos e
      · rename_i e
        refine (if_neg e).trans ?_
        split at h
        · rename_i e; cases h; exact if_pos e
        · rename_i e
          refine (if_neg e).trans ?_
          split at h
          · cases h
          · rename_i e; cases h; exact if_neg e
theorem unp_none {ts : List Expr} {k p} {e : Expr} (h : ∀ vs k' p', e ≠ .Tuple vs k' p') {env : Env} : swappedStores [.Tuple ts k p] e env = pure none := by
  unfold swappedStores
  cases e <;> first | rfl | (exact absurd rfl (h _ _ _))
section
variable {F : Fx}
theorem ss_asgN {ts es : List Expr} {k k' p p' pos} {xs : List Str} {is : List Nat} {ms : ME} (ht : tgt? F ts = some (xs, is)) (hs : swr F.sc ts es = some none ∨ (swr F.sc ts es = some (some xs) ∧ is.Nodup))
    (hl : ts.length = es.length) (hsz : es.length ≤ 100) (hes : SEs F es ms) : SS F (.Assign [.Tuple ts k p] (.Tuple es k' p') pos) (.asgN is ms) := by
  intro c d FO hg hsc ok rm l hp Q X hev hcp fr s P E R hP hX
  obtain ⟨⟨a1, a2, a3⟩, hasg⟩ := tgt?_assign (c := c) FO hsc ok hcp ht
  have hkf : F.sc.kind = .function := hsc.1 ▸ ok.kind
  have main : ∀ (vs : List V) (vals : List Value) (h1 : HP) (hh : Heap) (tk : Nat) (T₀ : Value → Shared → Prop), vals.map absV = vs → vs.length = is.length → Rep c F.names l h1 fr hh →
      (∀ r h' g m news, KtsTurn c.fs c.h₀ g → Fr g c.L h' m → LocX c F.names l m fr → HpN c h1 news → News g c.L h' ((r, { cls := .type "tuple", data := .seq vals.toArray }) :: (news ++ fr)) → (∀ p ∈ fr, h1 p.1 = Option.none) → T₀ (.ref r) { s with heap := h', toks := tk }) →
      wpAny (model c.g.prog c.g.w) c.A (newTuple vals) T₀ E { s with heap := hh, toks := tk } := by
    intro vs vals h1 hh tk T₀ hv hlv R1 hT
    obtain ⟨g, m, news, T, Fm, lo, H, N, D⟩ := R1.parts
    refine newTuple_N Fm N (fun h' F' N' => hT _ h' g m news T F' lo H N' D) ?_
    have : vals.length = vs.length := by rw [← hv]; simp
    have h2 : sizeLine = 2 ^ 24 := rfl
    omega
  have hsw : ∀ t, swapsWithSole [t] (.Tuple es k' p') pos.line c.env = pure false := fun t => swaps_plain (e := .Tuple es k' p') rfl (some t) pos.line c.env
  rcases hs with hs | ⟨hs, hnd⟩
  · refine Assign_Tuple ?_ (hsw _) (swr_spec hs (c.env_scope.trans hsc.1) hkf)
    refine Tuple_ (hes c d FO hg hsc ok rm l hp _ X hev p' fr s _ E R (fun vs vals h1 hh tk hq hx R1 => ?_) (hX l))
    dsimp only at hq
    cases hsl : sameLen vs is with
    | false => rw [hsl] at hq; exact hq.elim
    | true =>
      rw [hsl] at hq
      have hlv := sameLen_len hsl
      refine main vs vals h1 hh tk _ hx hlv R1 fun r h' g m news T F' lo H N' D => ?_
      refine unpackN_ F' N' (t := r) (items := vals.toArray) ⟨_, (N' _ (.head _)).1, rfl, _, rfl⟩ (handled_none ok) (by rw [a1, a2, ← hlv, ← hx]; simp) a3 fun h2 F2 N2 => ?_
      exact hasg _ _ _ _ vs vals.toArray.toList _ _ (by simpa [rVs] using hx) hlv (Rep.of T F2 lo H (fun p hp => N2 p (.tail _ hp)) D) fun h3 tk3 R3 => hP .next .next _ h1 h3 tk3 hq trivial R3
  · refine Assign_Tuple_swapped (names := xs) ?_ (hsw _) (swr_spec hs (c.env_scope.trans hsc.1) hkf)
    refine Tuple_ (hes c d FO hg hsc ok rm l hp _ X hev p' fr s _ E R (fun vs vals h1 hh tk hq hx R1 => ?_) (hX l))
    dsimp only at hq
    cases hsl : sameLen vs is with
    | false => rw [hsl] at hq; exact hq.elim
    | true =>
      rw [hsl] at hq
      have hlv := sameLen_len hsl
      obtain ⟨z1, z2⟩ := tgt?_zip ht
      refine main vs vals h1 hh tk _ hx hlv R1 fun r h' g m news T F' lo H N' D => ?_
      refine unpackItemsN_ F' N' (t := r) (items := vals.toArray) ⟨_, (N' _ (.head _)).1, rfl, _, rfl⟩ (handled_none ok) (by rw [z1, ← hlv, ← hx]; simp) fun h2 F2 N2 => ?_
      refine bindNames FO hsc ok hcp (xs := xs.reverse) (is := is.reverse) (by simpa using z1) (fun q hq' => z2 q ?_) _ _ _ _ vs.reverse _ _ _ (by rw [← hx]; simp) (by simpa using hlv) (Rep.of T F2 lo H (fun p hp => N2 p (.tail _ hp)) D) fun h3 tk3 R3 => ?_
      · have e9 : xs.reverse.zip is.reverse = (xs.zip is).reverse := by simp only [List.zip]; exact (List.reverse_zipWith z1).symm
        rw [e9] at hq'
        simpa using hq'
      · rw [lsetN_rev is vs l hnd hlv.symm] at R3
        exact hP .next .next _ h1 h3 tk3 hq trivial R3
theorem ss_unp {ts : List Expr} {k p pos} {xs : List Str} {is : List Nat} {e : Expr} {m : ME} (ht : tgt? F ts = some (xs, is)) (hne : ∀ vs k' p', e ≠ .Tuple vs k' p') (hc : compE e = false)
    (he : SE F e m) : SS F (.Assign [.Tuple ts k p] e pos) (.unp is m) := by
  intro c d FO hg hsc ok rm l hp Q X hev hcp fr s P E R hP hX
  obtain ⟨⟨a1, a2, a3⟩, hasg⟩ := tgt?_assign (c := c) FO hsc ok hcp ht
  have hsw : swapsWithSole [.Tuple ts k p] e pos.line c.env = pure false := swaps_plain hc (some (.Tuple ts k p)) pos.line c.env
  refine Assign_Tuple ?_ hsw (unp_none hne)
  refine he c d FO hg hsc ok rm l hp _ X hev fr s _ E R (fun v x h1 hh tk hq hx R1 => ?_) (hX l)
  cases v with
  | ref a =>
    cases absV_ref hx
    obtain ⟨vs, e1, hlv, hq⟩ := hq
    obtain ⟨items, hi, hl⟩ := R1.items ok (by rw [e1]; rfl)
    rcases hl with ⟨_, hl⟩ | ⟨hl, _⟩
    · exact absurd e1 (hl _)
    · obtain ⟨g, m', news, T, Fm, lo, H, N, D⟩ := R1.parts
      refine unpackN_ Fm N hl (handled_none ok) (by rw [a1, a2, ← hlv, ← hi]; simp) a3 fun h2 F2 N2 => ?_
      exact hasg _ _ _ _ vs items.toList _ _ hi hlv (Rep.of T F2 lo H N2 D) fun h3 tk3 R3 => hP .next .next _ h1 h3 tk3 hq trivial R3
  | _ => exact hq.elim
/-- an object of the store gives way to another -/
theorem Rep.upd {c : Cx} {names l hp fr h h'} {a : Addr} {o o₀ : O} {ob : Obj} (R : Rep c names l hp fr h) (h0 : hp a = some o₀) (hs : Heap.SameBut a h h') (ho : h'.get? a = some ob) (hr : RepO o ob)
    (hn : ∀ ws, o₀ ≠ .ro ws) : Rep c names l (hset hp a o) fr h' := by
  obtain ⟨g, T, m, Fm, lo, H, N, D⟩ := R
  have ha : a ≠ c.L ∧ g.get? a = none := by
    have := H.2 a _ h0
    cases o₀ with
    | ro ws => exact absurd rfl (hn ws)
    | list ws => obtain ⟨_, _, _, q⟩ := this; exact q
    | tup ws => obtain ⟨_, _, _, q⟩ := this; exact q
    | cell ws => obtain ⟨_, _, _, q⟩ := this; exact q
    | rng _ _ _ => obtain ⟨_, _, _, q⟩ := this; exact q
    | dict _ => obtain ⟨_, _, _, q⟩ := this; exact q
  have hfr : ∀ p ∈ fr, p.1 ≠ a := fun p hp' e => by have := D p hp'; rw [e, h0] at this; cases this
  refine ⟨g, T, m, ⟨Fm.ns.at' fun ob' e => (hs.2 _ (Ne.symm ha.1)).trans e, fun b ob' e => (hs.2 b fun q => by rw [q, ha.2] at e; cases e).trans (Fm.keep b ob' e), Fm.above⟩, lo, ⟨?_, fun b x hx => ?_⟩, fun p hp' => ⟨(hs.2 _ (hfr p hp')).trans (N p hp').1, (N p hp').2⟩, fun p hp' => by rw [hset_ne (hfr p hp')]; exact D p hp'⟩
  · obtain ⟨Dm, hD⟩ := H.1
    refine ⟨a :: Dm, fun b x hx => ?_⟩
    by_cases e : b = a
    · exact e ▸ .head _
    · rw [hset_ne e] at hx; exact .tail _ (hD b x hx)
  · by_cases e : b = a
    · subst e
      rw [hset_same] at hx
      cases hx
      cases o with
      | ro vs => exact hr.elim
      | list vs => exact ⟨ob, ho, hr, ha⟩
      | tup vs => exact ⟨ob, ho, hr, ha⟩
      | cell vs => exact ⟨ob, ho, hr, ha⟩
      | rng _ _ _ => exact ⟨ob, ho, hr, ha⟩
      | dict _ => exact ⟨ob, ho, hr, ha⟩
    · rw [hset_ne e] at hx
      have := H.2 b x hx
      cases x with
      | ro vs => exact this
      | list vs => obtain ⟨ob', h1, h2⟩ := this; exact ⟨ob', (hs.2 _ e).trans h1, h2⟩
      | tup vs => obtain ⟨ob', h1, h2⟩ := this; exact ⟨ob', (hs.2 _ e).trans h1, h2⟩
      | cell vs => obtain ⟨ob', h1, h2⟩ := this; exact ⟨ob', (hs.2 _ e).trans h1, h2⟩
      | rng _ _ _ => obtain ⟨ob', h1, h2⟩ := this; exact ⟨ob', (hs.2 _ e).trans h1, h2⟩
      | dict _ => obtain ⟨ob', h1, h2⟩ := this; exact ⟨ob', (hs.2 _ e).trans h1, h2⟩
end
/-! frames whose ground has turned -/
/-- the caller's ground, when what the callee stood on has turned -/
theorem turnBack {A₀ : Around} {base h₀ g g' H : Heap} {outer : List Env} {L : Addr} {m : Str → Option Value} (B : Below A₀ base outer h₀) (FG : Fr h₀ L g m)
    (T : KtsTurn (L :: outer.filterMap (·.frame)) g g') (k : ∀ b o, g'.get? b = some o → H.get? b = some o) :
    ∃ h', KtsTurn (outer.filterMap (·.frame)) h₀ h' ∧ Fr h' L H m ∧ ∀ b, g'.get? b = none → b ≠ L ∧ h'.get? b = none := by
  have nL : h₀.get? L = none := kts_self FG
  obtain ⟨oL, es, ep, hL, hLd, hLk, hLf⟩ := FG.ns
  obtain ⟨sl, hs⟩ := T.up hL
  obtain ⟨T₁, S₁⟩ := kts_turn_at (h := H) (fs := outer.filterMap (·.frame)) (g := h₀)
    (fun b hb => by
      obtain ⟨_, o, ho', _⟩ := B.frames.mem hb
      exact ⟨o, ho'⟩)
    (fun b o e nm => k b o (T.other b o (FG.keep b o e) (fun q => by
      rcases List.mem_cons.mp q with z | z
      · rw [z, nL] at e; cases e
      · exact nm z)))
    (fun b o e hm => by
      obtain ⟨sl', hs'⟩ := T.up (FG.keep b o e)
      exact ⟨sl', k _ _ hs'⟩)
  refine ⟨_, T₁, ⟨⟨_, es, ep, k _ _ hs, hLd, hLk, hLf⟩, S₁, by rw [T₁.size]; exact FG.above⟩, fun b hb => ⟨fun e => (by rw [e, hs] at hb; cases hb), T₁.none_ _ ?_⟩⟩
  cases q : h₀.get? b with
  | none => rfl
  | some o =>
    obtain ⟨sl', hs'⟩ := T.up (FG.keep _ _ q)
    rw [hs'] at hb; cases hb
noncomputable def LeaveT (fs : List Addr) (h₀ : Heap) (L : Addr) (m : Str → Option Value) (g : Heap) (R : Result → Shared → Prop) (v : Value) (s' : Shared) : Prop :=
  ∃ g' L' m' news', KtsTurn (L :: fs) g g' ∧ Fr g' L' s'.heap m' ∧ News g' L' s'.heap news' ∧ ∀ h₀', KtsTurn fs h₀ h₀' → Fr h₀' L s'.heap m → News h₀' L s'.heap news' → R (.ok (.ret v)) s'
theorem LeaveT.done {A₀ : Around} {base h₀ g : Heap} {outer : List Env} {L : Addr} {m : Str → Option Value} {R : Result → Shared → Prop} {v : Value} {s' : Shared} (B : Below A₀ base outer h₀) (FG : Fr h₀ L g m)
    (h : LeaveT (outer.filterMap (·.frame)) h₀ L m g R v s') : R (.ok (.ret v)) s' := by
  obtain ⟨g', L', m', news', T, F', N', k⟩ := h
  obtain ⟨h', T₁, F₁, fr⟩ := turnBack (H := s'.heap) B FG T F'.keep
  exact k h' T₁ F₁ fun p hp => ⟨(N' p hp).1, (fr _ (N' p hp).2.2).1, (fr _ (N' p hp).2.2).2⟩
section
variable {prog : Program} {w : World} {A₀ A : Around} {s : Shared} {base h₀ : Heap} {L : Addr} {m : Str → Option Value} {news : List (Addr × Obj)} {K : Frag} {p : Program} {loose : List Str} {mean : ExcName → Option Value} {mg mb : Str → Option Value}
  {env : Env} {outer : List Env} {R : Result → Shared → Prop} {name qual : Str} {params : Arguments} {body : List Stmt} {scope : Scope} {dV kV doc pm cdv ct oc : Value} {an od : Option Addr} {osl : Array (Option Value)} {f : Addr} {args : Args} {binds : List (Str × Value)}
theorem code_defT (B : Below A₀ base outer h₀) (F : Fr h₀ L s.heap m) (X₀ : K.In h₀) (N : News h₀ L s.heap news) (hlim : h₀.NoLimit) (hA : A.frames = some (env :: outer)) (hf : env.frame = some L) (hke : env.scope.kind = .function)
    (ho : K.lookup f = some ⟨oc, od, .func (fnOf name qual params body scope dV kV doc pm an cdv ct), osl⟩) (hcd : codeIn K cdv qual = true) (hroom : A.depth < recursionLimit)
    (hbind : BindsTo s (fnOf name qual params body scope dV kV doc pm an cdv ct) args binds) (hloc : ∀ y ∈ binds, scope.names.lookup y.1 = some .local)
    (h : ∀ g L' h₁, Fr h₀ L g m → Fr g L' h₁ (fun y => binds.reverse.lookup y) → News g L' h₁ news → Below A base (env :: outer) g →
      wpAny (model prog w) (A.deeper (envOf qual scope L' f cdv)) (execs body (envOf qual scope L' f cdv))
        (fun fl s' => LeaveT (outer.filterMap (·.frame)) h₀ L m g R (match fl with | .ret v => v | _ => .none) s')
        (fun e s' => wpAny (model prog w) (A.deeper (envOf qual scope L' f cdv)) (leaving (envOf qual scope L' f cdv) e) (fun _ s'' => R (.error e) s'') (fun e' s'' => R (.error e') s'') s')
        { s with heap := h₁, toks := s.toks + binds.length })
    (hco : scope.isCoroutine = false) (hgen : scope.isGenerator = false) (hk : scope.kind = .function)
    (hcell : ∀ x ∈ scope.names, x.2 ≠ .cell) : codeAny (model prog w) A (.call (.ref f) args) R s := by
  obtain ⟨FG, BG, st, lv⟩ := groundX (R := R) B F N hA hf hke
  refine codeAny_call_def (fd := fnOf name qual params body scope dV kV doc pm an cdv ct) (body := body) (binds := binds) hroom ((X₀.keeps F.keep) _ _ ho) rfl (hlim.keeps F.keep) (codeRec_of (X₀.keeps F.keep) hcd) rfl hbind hcell hloc (fun h₁ hns hk₁ => ?_) hco hgen hk
  exact wpAny_mono (h _ s.heap.objs.size h₁ FG ⟨hns, fun b o e => hk₁ b o (of_hideAll _ e), Nat.le_of_eq (hideAll_size _ _)⟩
    (fun p hp => ⟨hk₁ _ _ (N p hp).1, Nat.ne_of_lt (Heap.lt_size (N p hp).1), hideAll_none _ (List.mem_map_of_mem hp)⟩) BG) (fun fl s' hl => hl.done B FG) fun _ _ y => y
theorem code_defCT (B : Below A₀ base outer h₀) (F : Fr h₀ L s.heap m) (X₀ : K.In h₀) (N : News h₀ L s.heap news) (hlim : h₀.NoLimit) (hA : A.frames = some (env :: outer)) (hf : env.frame = some L) (hke : env.scope.kind = .function)
    (ho : K.lookup f = some ⟨oc, od, .func (fnOf name qual params body scope dV kV doc pm an cdv ct), osl⟩) (hcd : codeIn K cdv qual = true) (hroom : A.depth < recursionLimit)
    (hbind : BindsTo s (fnOf name qual params body scope dV kV doc pm an cdv ct) args binds) (hkind : (binds.all fun y => scope.names.lookup y.1 == some .local || scope.names.lookup y.1 == some .cell) = true)
    (hnd : ((cellsFrom 0 scope.names []).map (·.1)).Nodup)
    (h : ∀ g L' h₁ tk cells, Fr h₀ L g m → Fr g L' h₁ (bindL (envOfC qual scope L' f cdv).kindOf binds fun _ => none) → News g L' h₁ (cells ++ news) →
      CellsAre (bindC (envOfC qual scope L' f cdv).kindOf binds fun _ => none) (cellsFrom (L' + 1) scope.names []) cells → Below A base (env :: outer) g → (∀ p ∈ news, p.1 < L') →
      wpAny (model prog w) (A.deeper (envOfC qual scope L' f cdv)) (execs body (envOfC qual scope L' f cdv))
        (fun fl s' => LeaveT (outer.filterMap (·.frame)) h₀ L m g R (match fl with | .ret v => v | _ => .none) s')
        (fun e s' => wpAny (model prog w) (A.deeper (envOfC qual scope L' f cdv)) (leaving (envOfC qual scope L' f cdv) e) (fun _ s'' => R (.error e) s'') (fun e' s'' => R (.error e') s'') s')
        { s with heap := h₁, toks := tk })
    (hco : scope.isCoroutine = false) (hgen : scope.isGenerator = false) (hk : scope.kind = .function) : codeAny (model prog w) A (.call (.ref f) args) R s := by
  obtain ⟨FG, BG, st, lv⟩ := groundX (R := R) B F N hA hf hke
  refine codeAny_call_function hroom ((X₀.keeps F.keep) _ _ ho) rfl hco hgen rfl (codeRec_of (X₀.keeps F.keep) hcd) (hbind _ _ _ _ ?_)
  refine wpAny_newFunctionEnv_cells hk (kindsX hkind _) fun env' he s' x => ?_
  subst he
  refine ⟨(hlim.keeps F.keep).keeps x.toInCall.keep, codeAny_func ?_⟩
  obtain ⟨h₁, tk, rfl, _⟩ := x.done
  have hk₁ := x.toInCall.keep
  obtain ⟨cells, NC, Y⟩ := Cl.news (h₀ := s.heap) (Nat.le_refl _) fun n c hm => ⟨x.cell n c (lookup_of_mem_nodup (cellsFrom_names scope.names 0 (s.heap.objs.size + 1) [] [] rfl ▸ hnd) hm), x.above n c hm⟩
  refine wpAny_mono (h _ s.heap.objs.size h₁ tk cells FG ⟨x.toInCall.ns, fun b o e => hk₁ b o (of_hideAll _ e), Nat.le_of_eq (hideAll_size _ _)⟩ (fun p hp => ?_) Y BG (fun p hp => Heap.lt_size (N p hp).1)) (fun fl s' hl => hl.done B FG) fun _ _ y => y
  rcases List.mem_append.mp hp with hp | hp
  · refine ⟨(NC p hp).1, (NC p hp).2.1, ?_⟩
    cases q : (hideAll s.heap (news.map (·.1))).get? p.1 with
    | none => rfl
    | some o => have := of_hideAll _ q; rw [(NC p hp).2.2] at this; cases this
  · exact ⟨hk₁ _ _ (N p hp).1, Nat.ne_of_lt (Heap.lt_size (N p hp).1), hideAll_none _ (List.mem_map_of_mem hp)⟩
end
theorem Cx.Ok.dictsPush {c : Cx} (ok : c.Ok) {g : Heap} {m : Str → Option Value} (FG : Fr c.h₀ c.L g m) : KtsDicts (c.L :: c.fs) g := by
  intro b hb
  rcases List.mem_cons.mp hb with rfl | hb
  · obtain ⟨oL, es, ep, hL, hLd, _⟩ := FG.ns
    exact ⟨oL, es, ep, hL, hLd⟩
  · obtain ⟨o, es, n, ho, hd⟩ := ok.dicts b hb
    exact ⟨o, es, n, FG.keep b o ho, hd⟩
noncomputable def hclr (hp : HP) (a : Addr) : HP := fun b => if b = a then none else hp b
theorem Rep.at {c : Cx} {names l hp fr h} {a : Addr} {vs : List V} (R : Rep c names l hp fr h) (e : hp a = some (.list vs)) :
    ∃ g m news items n, KtsTurn c.fs c.h₀ g ∧ Fr g c.L h m ∧ LocX c names l m fr ∧ items.toList.map absV = vs ∧ HpN c (hclr hp a) news ∧ News g c.L h ((a, listOf items n) :: (news ++ fr)) ∧
      (∀ p ∈ news ++ fr, p.1 ≠ a) ∧ ∀ p ∈ fr, hp p.1 = Option.none := by
  obtain ⟨g, T, m, Fm, lo, H, N, D⟩ := R
  have H' : HpRep (c.at g) (hclr hp a) h := by
    refine ⟨?_, fun b o hb => ?_⟩
    · obtain ⟨Dm, hD⟩ := H.1
      refine ⟨Dm, fun b o hb => ?_⟩
      unfold hclr at hb
      split at hb
      · cases hb
      · exact hD b o hb
    · unfold hclr at hb
      split at hb
      · cases hb
      · exact H.2 b o hb
  obtain ⟨news, N1, H1⟩ := H'.news
  obtain ⟨ob, h1, ⟨items, n, rfl, hi⟩, h2⟩ := H.2 a _ e
  have hfr : ∀ p ∈ fr, p.1 ≠ a := fun p hp' q => by have := D p hp'; rw [q, e] at this; cases this
  refine ⟨g, m, news.filter (fun p => p.1 != a), items, n, T, Fm, lo, hi, ⟨H1.1, fun b o hb => ?_⟩, ?_, ?_, D⟩
  · have hba : b ≠ a := by intro q; unfold hclr at hb; rw [if_pos q] at hb; cases hb
    have := H1.2 b o hb
    cases o with
    | ro vs => exact this
    | list vs => obtain ⟨ob', q1, q2⟩ := this; exact ⟨ob', List.mem_filter.mpr ⟨q1, by simpa using hba⟩, q2⟩
    | tup vs => obtain ⟨ob', q1, q2⟩ := this; exact ⟨ob', List.mem_filter.mpr ⟨q1, by simpa using hba⟩, q2⟩
    | cell vs => obtain ⟨ob', q1, q2⟩ := this; exact ⟨ob', List.mem_filter.mpr ⟨q1, by simpa using hba⟩, q2⟩
    | rng _ _ _ => obtain ⟨ob', q1, q2⟩ := this; exact ⟨ob', List.mem_filter.mpr ⟨q1, by simpa using hba⟩, q2⟩
    | dict _ => obtain ⟨ob', q1, q2⟩ := this; exact ⟨ob', List.mem_filter.mpr ⟨q1, by simpa using hba⟩, q2⟩
  · intro p hp'
    rcases List.mem_cons.mp hp' with rfl | hp'
    · exact ⟨h1, h2⟩
    · rcases List.mem_append.mp hp' with q | q
      · exact N1 p (List.mem_filter.mp q).1
      · exact N p q
  · intro p hp'
    rcases List.mem_append.mp hp' with q | q
    · have := (List.mem_filter.mp q).2
      simpa using this
    · exact hfr p q
theorem Rep.back {c : Cx} {names : List Str} {l : List V} {hp : HP} {fr news : List (Addr × Obj)} {h' : Heap} {m : Str → Option Value} {a : Addr} {items : Array Value} {n : Nat} {o₀ : O} {g : Heap}
    (T : KtsTurn c.fs c.h₀ g) (Fm : Fr g c.L h' m) (lo : LocX c names l m fr) (H : HpN c (hclr hp a) news) (N : News g c.L h' ((a, listOf items n) :: (news ++ fr))) (D : ∀ p ∈ fr, hp p.1 = Option.none) (e : hp a = some o₀) :
    Rep c names l (hset hp a (.list (items.toList.map absV))) fr h' := by
  have hfr : ∀ p ∈ fr, p.1 ≠ a := fun p hp' q => by have := D p hp'; rw [q, e] at this; cases this
  refine Rep.of (news := (a, listOf items n) :: news) T Fm lo ⟨?_, fun b x hx => ?_⟩ N fun p hp' => by rw [hset_ne (hfr p hp')]; exact D p hp'
  · obtain ⟨Dm, hD⟩ := H.1
    refine ⟨a :: Dm, fun b x hx => ?_⟩
    by_cases q : b = a
    · exact q ▸ .head _
    · rw [hset_ne q] at hx; exact .tail _ (hD b x (by unfold hclr; rw [if_neg q]; exact hx))
  · by_cases q : b = a
    · subst q
      rw [hset_same] at hx
      cases hx
      exact ⟨_, .head _, items, n, rfl, rfl⟩
    · rw [hset_ne q] at hx
      have := H.2 b x (by unfold hclr; rw [if_neg q]; exact hx)
      cases x with
      | ro vs => exact this
      | list vs => obtain ⟨ob', h1, h2⟩ := this; exact ⟨ob', .tail _ h1, h2⟩
      | tup vs => obtain ⟨ob', h1, h2⟩ := this; exact ⟨ob', .tail _ h1, h2⟩
      | cell vs => obtain ⟨ob', h1, h2⟩ := this; exact ⟨ob', .tail _ h1, h2⟩
      | rng _ _ _ => obtain ⟨ob', h1, h2⟩ := this; exact ⟨ob', .tail _ h1, h2⟩
      | dict _ => obtain ⟨ob', h1, h2⟩ := this; exact ⟨ob', .tail _ h1, h2⟩
theorem setL_some : ∀ {l : List Value} {k : Nat} {v : Value}, k < l.length → ki_setL l k v = some (l.set k v)
  | [], _, _, h => by simp at h
  | _ :: _, 0, _, _ => rfl
  | x :: r, k + 1, v, h => by
    show (match ki_setL r k v with | some q => some (x :: q) | none => none) = _
    rw [setL_some (by simpa using h)]; rfl
section
variable {F : Fx}
theorem ss_setI {o i e : Expr} {p pos} {mo mi me : ME} (hc : compE e = false) (he : SE F e me) (ho : SE F o mo) (hi : SE F i mi) : SS F (.Assign [.Subscript o i p] e pos) (.setI mo mi me) := by
  intro c d FO hg hsc ok rm l hp Q X hev hcp fr s P E R hP hX
  refine wpAny_Assign_Subscript (he c d FO hg hsc ok rm l hp _ X hev fr s _ E R (fun u x h1 hh tk hq hx R1 => ?_) (hX l)) (swaps_plain hc _ _ _)
  refine ho c d FO hg hsc ok rm l h1 _ X hq fr _ _ E R1 (fun v y h2 hh2 tk2 hq2 hy R2 => ?_) (hX l)
  refine hi c d FO hg hsc ok rm l h2 _ X hq2 fr _ _ E R2 (fun w z h3 hh3 tk3 hq3 hz R3 => ?_) (hX l)
  unfold setV at hq3
  split at hq3
  · rename_i a k
    cases absV_ref hy
    obtain ⟨t, rfl⟩ := absV_int hz
    obtain ⟨vs, e1, h0, hlt, hfit, hq4⟩ := hq3
    obtain ⟨g, m, news, items, n, T, Fm, lo, hit, H, N, hne, D⟩ := R3.at e1
    have hsz : items.size = vs.length := by rw [← hit]; simp
    cases hx
    refine ki_set (its := items) (n := n) (D := a) Fm N h0 (by omega) (q := items.toList.set k.toNat x) ?_ (Upd.head hne) fun h' F' N' => ?_
    · exact setL_some (by rw [Array.length_toList]; omega)
    · have := Rep.back T F' lo H N' D e1
      refine hP .next .next _ _ h' _ hq4 trivial ?_
      simpa [← hit, List.map_set] using this
  · exact hq3.elim
theorem iterOf_cases {o : Option O} {vs : List V} (h : iterOf o = some vs) : itemsOf o = some vs ∨ ∃ a b c, o = some (.rng a b c) ∧ Builtin.Range.small a b c = true ∧ vs = rngL a b c := by
  cases o with
  | none => exact .inl h
  | some o =>
    cases o with
    | rng a b c =>
      simp only [iterOf] at h
      split at h
      · rename_i q; exact .inr ⟨a, b, c, rfl, q, (Option.some.inj h).symm⟩
      · cases h
    | _ => exact .inl h
theorem Rep.rng {c : Cx} {names l hp fr h} {a : Addr} {x y z : Int} (R : Rep c names l hp fr h) (e : hp a = some (.rng x y z)) : ∃ t u v, IsRange h a x y z t u v := by
  obtain ⟨g, T, m, Fm, lo, H, N, D⟩ := R
  obtain ⟨ob, h1, ⟨t, u, v, rfl⟩, _⟩ := H.2 a _ e
  exact ⟨t, u, v, h1⟩
/-- a loop over a list or a tuple of the store -/
theorem forLG {tgt : Expr} {upd : V → List V → HP → (List V → Prop) → Prop} {pos : Pos} {iter : Expr} {mi : ME} {b : List Stmt} {m : MS} (hse : setE iter = false) (hit : SE F iter mi) (hb : SB F b m)
    {c : Cx} {d : Nat} (FO : F.Ok) (hg : c.g = F.g) (hsc : SCF c F) (ok : c.Ok) (hcp : c.cp = none) (rm : room c d)
    (hasg : ∀ (v : V) (val : Value) (l : List V) (hp : HP) (fr : List (Addr × Obj)) (s : Shared) (K : List V → Prop) (P : Unit → Shared → Prop) (E : Value → Shared → Prop), absV val = v → upd v l hp K → Rep c F.names l hp fr s.heap →
      (∀ l' h' tk', K l' → Rep c F.names l' hp fr h' → P () { s with heap := h', toks := tk' }) → wpAny (model c.g.prog c.g.w) c.A (assign tgt c.env val) P E s)
    (hgo : ∀ (it : Addr) (o : Obj) val (s' : Shared) (P : Unit → Shared → Prop) (E : Value → Shared → Prop), (o.cls = .type "list_iterator" ∨ o.cls = .type "tuple_iterator" ∨ o.cls = .type "range_iterator") → s'.heap.get? it = some o → P () s' → wpAny (model c.g.prog c.g.w) c.A (letOwnedTupleGo tgt (.ref it) val) P E s')
    {l : List V} {hp : HP} {Q : Out → List V → HP → Prop} {X : XT}
    (hev : ev F.g d mi l hp (fun v h1 => match v with
      | .ref r => ∃ vs, iterOf (h1 r) = some vs ∧ (vs.length : Int) < 2 ^ 62 ∧ ∃ I : Nat → List V → HP → Prop, I 0 l h1 ∧
          (∀ k x l h, vs[k]? = some x → I k l h → h r = h1 r ∧ upd x l h fun l1 => exec F.g d m l1 h (fun o l2 h2 => match o with
            | .next => I (k + 1) l2 h2 | .brk => Q .next l2 h2 | .ret v => Q (.ret v) l2 h2) noX) ∧
          (∀ l h, I vs.length l h → h r = h1 r ∧ Q .next l h)
      | _ => False) X) {fr : List (Addr × Obj)} {s : Shared} {P : Flow → Shared → Prop} {E : Value → Shared → Prop} (R : Rep c F.names l hp fr s.heap)
    (hP : ∀ o f l' hp' h' tk', Q o l' hp' → rO o f → Rep c F.names l' hp' fr h' → P f { s with heap := h', toks := tk' }) (hX : XP c F.names l fr X E s) :
    wpAny (model c.g.prog c.g.w) c.A (PySem.exec (.For tgt iter b [] pos) c.env) P E s := by
  refine wpAny_For (hit c d FO hg hsc ok rm l hp _ X hev fr s _ E R (fun v y h1 hh tk hq hy R1 => ?_) hX) (folded_plain hse)
  cases v with
  | ref r =>
    cases absV_ref hy
    obtain ⟨vs, e1, hfit, hq⟩ := hq
    rcases iterOf_cases e1 with e1 | ⟨lo, hi', st, erg, hsm, rfl⟩
    case inr =>
      obtain ⟨t, u, v, hr⟩ := R1.rng erg
      refine wpAny_pyIter_range hr hsm ?_
      have R0 := R1.push ok { cls := Value.type "range_iterator", data := Data.fields #[rawInt lo, rawInt (Builtin.Range.rangeSize lo hi' st), rawInt st] } rfl
      have hsz : 0 ≤ Builtin.Range.rangeSize lo hi' st := by
        unfold Builtin.Range.rangeSize
        split <;> split <;> first | omega | skip
        · exact Int.add_nonneg (Int.ediv_nonneg (by omega) (by omega)) (by omega)
        · rename_i h1 h2
          by_cases hz : st = 0
          · subst hz; simp
          · exact Int.add_nonneg (Int.ediv_nonneg (by omega) (by omega)) (by omega)
      refine forSG FO hsc ok hcp hg rm hasg hb (K := fun h => h r = h1 r) (fun k o => o = { cls := Value.type "range_iterator", data := Data.fields #[rawInt (lo + k * st), rawInt (Builtin.Range.rangeSize lo hi' st - k), rawInt st] })
        (fun k o val s' P E ho => hgo _ o val s' P E (.inr (.inr (by rw [ho])))) ?_ ?_ R0 (R1.fresh ok).2 hq hP
      · intro k l1 hp1 o1 h2 s' P1 E1 _ hO hs R2 hfr hitem hend hkl
        subst hO
        subst hs
        simp only [rngL, List.length_map, List.length_range] at hkl hend
        have hit := (by obtain ⟨_, _, _, _, _, _, N, _⟩ := id R2; exact (N _ (.head _)).1 : s'.heap.get? _ = some _)
        by_cases hlt : k < (Builtin.Range.rangeSize lo hi' st).toNat
        · refine wpAny_pyNext_range_item hit (by omega) fun h' hit' hs' => ?_
          refine hitem _ (.int (lo + k * st)) h' _ _ (by simp [rngL, hlt]) rfl ?_ (R2.iter (noC hcp) (fun b ob hne e => (hs'.2 b hne).trans e) hit' hfr)
          congr 4
          · rw [show ((k + 1 : Nat) : Int) * st = (k : Int) * st + st by push_cast; rw [Int.add_mul, Int.one_mul], Int.add_assoc]
          · rw [show Builtin.Range.rangeSize lo hi' st - ((k + 1 : Nat) : Int) = Builtin.Range.rangeSize lo hi' st - k - 1 by push_cast; omega]
        · refine wpAny_pyNext_range_end (handled_none ok) hit (by omega) fun h' he => ?_
          exact hend (by omega) h' _ (R2.drop (noC hcp) (fun b ob hne e => he b ob hne e) hfr)
      · simp
    obtain ⟨items, hitems, hl⟩ := R1.items ok e1
    have hex : ∀ h : HP, h r = h1 r → itemsOf (h r) = some vs := fun h e => by rw [e]; exact e1
    rcases hl with ⟨hl, hnt⟩ | ⟨hl, htp⟩
    · refine wpAny_pyIter_list hl ?_
      refine forSG FO hsc ok hcp hg rm hasg hb (K := fun h => h r = h1 r) (fun k o => o.cls = .type "list_iterator" ∧ o.data = .fields #[.ref r, .int k 0]) (fun k o val s' P E ho => hgo _ o val s' P E (.inl ho.1)) ?_ ⟨rfl, rfl⟩ (R1.push ok _ rfl) (R1.fresh ok).2 hq hP
      intro k l1 hp1 o1 h2 s' P1 E1 hKh hO hs R2 hfr hitem hend hkl
      subst hs
      have hIt : s'.heap.IsListIter _ r k := ⟨o1, (by obtain ⟨_, _, _, _, _, _, N, _⟩ := id R2; exact (N _ (.head _)).1), hO⟩
      obtain ⟨items2, hitems2, hl2⟩ := R2.items ok (hex hp1 hKh)
      have hl3 : s'.heap.IsList r items2 := by
        rcases hl2 with ⟨q, _⟩ | ⟨_, q⟩
        · exact q
        · exact absurd (hKh ▸ q) (hnt _)
      have hsz : items2.size = vs.length := by rw [← hitems2]; simp
      by_cases hlt : k < vs.length
      · refine wpAny_pyNext_list_item hIt hl3 (x := items2[k]) (by simp [hsz, hlt]) fun h' hit' hs' => ?_
        obtain ⟨o', ho', hc'⟩ := hit'
        refine hitem _ (absV items2[k]) h' _ o' ?_ rfl hc' (R2.iter (noC hcp) (fun b ob hne e => (hs'.2 b hne).trans e) ho' hfr)
        have e9 : vs[k]? = (items2.toList.map absV)[k]? := by rw [hitems2]
        rw [e9]; simp [hsz, hlt]
      · refine wpAny_pyNext_list_end (handled_none ok) hIt hl3 (by simp [hsz]; omega) fun h' he => ?_
        exact hend (by omega) h' _ (R2.drop (noC hcp) (fun b ob hne e => he b ob hne e) hfr)
    · refine wpAny_pyIter_tuple hl ?_
      refine forSG FO hsc ok hcp hg rm hasg hb (K := fun h => h r = h1 r) (fun k o => o.cls = .type "tuple_iterator" ∧ o.data = .fields #[.ref r, .int k 0]) (fun k o val s' P E ho => hgo _ o val s' P E (.inr (.inl ho.1))) ?_ ⟨rfl, rfl⟩ (R1.push ok _ rfl) (R1.fresh ok).2 hq hP
      intro k l1 hp1 o1 h2 s' P1 E1 hKh hO hs R2 hfr hitem hend hkl
      subst hs
      have hIt : s'.heap.IsTupleIter _ r k := ⟨o1, (by obtain ⟨_, _, _, _, _, _, N, _⟩ := id R2; exact (N _ (.head _)).1), hO⟩
      obtain ⟨items2, hitems2, hl2⟩ := R2.items ok (hex hp1 hKh)
      have hl3 : s'.heap.IsTuple r items2 := by
        rcases hl2 with ⟨_, q⟩ | ⟨q, _⟩
        · exact absurd (hKh.trans htp) (q _)
        · exact q
      have hsz : items2.size = vs.length := by rw [← hitems2]; simp
      by_cases hlt : k < vs.length
      · refine wpAny_pyNext_tuple_item hIt hl3 (x := items2[k]) (by simp [hsz, hlt]) fun h' hit' hs' => ?_
        obtain ⟨o', ho', hc'⟩ := hit'
        refine hitem _ (absV items2[k]) h' _ o' ?_ rfl hc' (R2.iter (noC hcp) (fun b ob hne e => (hs'.2 b hne).trans e) ho' hfr)
        have e9 : vs[k]? = (items2.toList.map absV)[k]? := by rw [hitems2]
        rw [e9]; simp [hsz, hlt]
      · refine wpAny_pyNext_tuple_end (handled_none ok) hIt hl3 (by simp [hsz]; omega) fun h' he => ?_
        exact hend (by omega) h' _ (R2.drop (noC hcp) (fun b ob hne e => he b ob hne e) hfr)
  | _ => exact hq.elim
theorem ss_forL {x : Str} {p pos : Pos} {i : Nat} {iter : Expr} {mi : ME} {b : List Stmt} {m : MS} (hse : setE iter = false) (hit : SE F iter mi)
    (hi : F.names[i]? = some x) (hk : F.sc.names.lookup x = some .local) (hb : SB F b m) : SS F (.For (.Name x p) iter b [] pos) (.forL i mi m) := by
  intro c d FO hg hsc ok rm l hp Q X hev hcp fr s P E R hP hX
  exact forLG (upd := fun v l _ k => k (lset l i v)) hse hit hb FO hg hsc ok hcp rm
    (fun v val l hp fr s K P E hval hu R1 hP => wpAny_assign_Name (storeS FO hsc ok hcp hi hk R1 hval fun h3 tk3 R3 => hP _ h3 tk3 hu R3)) (fun _ _ _ _ _ _ _ _ h => wpAny_pure h) hev R hP (hX l)
end
/-- the def at f -/
noncomputable def fnAt (K : Frag) (f : Addr) : FuncData := match K.lookup f with
  | some ⟨_, _, .func fd, _⟩ => fd
  | _ => default
noncomputable def bodyAt (K : Frag) (f : Addr) : List Stmt := match (fnAt K f).body with
  | .stmts b => b
  | _ => []
noncomputable def fnOkB (K : Frag) (f : Addr) : Bool := match K.lookup f with
  | some ⟨_, _, .func fd, _⟩ => fd.closure.isEmpty && fd.globals == mainGlobals && fd.builtins == builtinsNs && codeIn K fd.code fd.qualname && !fd.scope.isCoroutine && !fd.scope.isGenerator &&
      fd.scope.kind == .function && fd.scope.names.all (fun x => !(x.2 == .cell)) && (match fd.body with | .stmts _ => true | _ => false)
  | _ => false
theorem lookup_rev {binds : List (Str × Value)} {x : Str} {v : Value} (nd : (binds.map (·.1)).Nodup) (h : (x, v) ∈ binds) : binds.reverse.lookup x = some v := by
  have hn : (binds.reverse.map (·.1)).Nodup := by rw [List.map_reverse]; unfold List.Nodup at *; exact List.pairwise_reverse.mpr (nd.imp Ne.symm)
  have hm : (x, v) ∈ binds.reverse := List.mem_reverse.mpr h
  generalize binds.reverse = bs at hn hm
  induction bs with
  | nil => cases hm
  | cons p r ih =>
    obtain ⟨y, w⟩ := p
    simp only [List.map_cons, List.nodup_cons] at hn
    cases hm with
    | head => simp
    | tail _ hm =>
      have : x ≠ y := fun e => hn.1 (e ▸ List.mem_map_of_mem (f := (·.1)) hm)
      rw [List.lookup_cons, beq_eq_false_iff_ne.mpr this]
      exact ih hn.2 hm
theorem absV_cell {v : Value} {a : Addr} (h : absV v = .cell a) : False := by cases v <;> simp [absV] at h
theorem Loc.start {cl : List (Str × Addr)} {names : List Str} {binds : List (Str × Value)} {l : List V} (nd : names.Nodup) (hn : names.take binds.length = binds.map (·.1)) (hl : l = binds.map (fun p => absV p.2) ++ List.replicate (names.length - binds.length) V.unb) :
    Loc cl names l (fun y => binds.reverse.lookup y) := by
  intro i x v hx hv hne
  subst hl
  by_cases hi : i < binds.length
  · rw [List.getElem?_append_left (by simpa using hi)] at hv
    rw [List.getElem?_map] at hv
    have h1 : binds[i]? = some binds[i] := by simp [hi]
    rw [h1] at hv
    simp only [Option.map_some, Option.some.injEq] at hv
    have h2 : (names.take binds.length)[i]? = some x := by rw [List.getElem?_take, if_pos hi]; exact hx
    rw [hn, List.getElem?_map, h1] at h2
    simp only [Option.map_some, Option.some.injEq] at h2
    refine .inr ⟨fun a e => absV_cell (hv.trans e), binds[i].2, ?_, hv⟩
    have nd' : (binds.map (·.1)).Nodup := hn ▸ List.Sublist.nodup (List.take_sublist _ _) nd
    refine lookup_rev nd' ?_
    have : binds[i] ∈ binds := List.getElem_mem hi
    rw [← h2]; exact this
  · rw [List.getElem?_append_right (by simpa using hi)] at hv
    rw [List.getElem?_replicate] at hv
    split at hv
    · cases hv; exact absurd rfl hne
    · cases hv
noncomputable def retQ (Q : V → HP → Prop) (o : Out) (_ : List V) (h : HP) : Prop :=
  match o with
  | .ret v => Q v h
  | .next => Q .none h
  | .brk => False
noncomputable def Binds (g : G) (f : Addr) (args : List V) (kw : List (Str × V)) (bargs : List (Str × V)) : Prop :=
  ∀ (s : Shared) vals kvals, g.K.In s.heap → vals.map absV = args → (kvals.map fun p => (p.1, absV p.2)) = kw →
    ∃ binds : List (Str × Value), BindsTo s (fnAt g.K f) ⟨vals, kvals⟩ binds ∧ (binds.map fun p => (p.1, absV p.2)) = bargs
theorem calls_of {F : Fx} (FO : F.Ok) {f : Addr} (hok : fnOkB F.g.K f = true) (hsc : (fnAt F.g.K f).scope = F.sc) {ms : MS} (hb : SB F (bodyAt F.g.K f) ms) {args : List V} {kw bargs : List (Str × V)}
    (hbind : Binds F.g f args kw bargs) (hnm : F.names.take bargs.length = bargs.map (·.1)) (hloc : (bargs.all fun p => F.sc.names.lookup p.1 == some .local) = true)
    {d : Nat} {hp : HP} {Q : V → HP → Prop} {X : XC}
    (h : exec F.g d ms (bargs.map (·.2) ++ List.replicate (F.names.length - bargs.length) V.unb) hp (retQ Q) (upX X)) : Calls F.g (d + 1) f args kw hp Q X := by
  intro c hg ok rm names l vals kvals hv hkv fr s P E R hP hX
  unfold fnOkB at hok
  have hok' := hok
  split at hok
  · rename_i oc od fd osl hK
    simp only [Bool.and_eq_true, Bool.not_eq_true', List.isEmpty_iff, beq_iff_eq] at hok
    obtain ⟨⟨⟨⟨⟨⟨⟨⟨k1, k2⟩, k3⟩, k4⟩, k5⟩, k6⟩, k7⟩, k8⟩, k9⟩ := hok
    have hfd : fnAt F.g.K f = fd := by unfold fnAt; rw [hK]
    cases hbd : fd.body with
    | expr _ => rw [hbd] at k9; cases k9
    | stmts body =>
      have hbody : bodyAt F.g.K f = body := by unfold bodyAt; rw [hfd, hbd]
      rw [hbody] at hb
      rw [hfd] at hsc
      obtain ⟨binds, hB, hbs⟩ := hbind s vals kvals (by rw [← hg]; exact R.inK ok) hv hkv
      rw [hfd] at hB
      have hfn : fd = fnOf fd.name fd.qualname fd.params body fd.scope fd.defaults fd.kwdefaults fd.doc fd.pyModule fd.annotations fd.code fd.closureTuple := by
        cases fd
        simp only at k1 k2 k3 hbd
        subst k1 k2 k3 hbd
        rfl
      obtain ⟨g, m, news, T, Fm, lo, H, N, D⟩ := R.parts
      have hlen : binds.length = bargs.length := by rw [← hbs]; simp
      have hb1 : bargs.map (·.1) = binds.map (·.1) := by rw [← hbs]; simp
      have hb2 : bargs.map (·.2) = binds.map (fun p => absV p.2) := by rw [← hbs]; simp
      have okg := ok.turn T
      refine wpAny_call (code_defT (K := c.g.K) okg.below Fm (ok.inK.keeps okg.below.stays) N ((ok.top.keeps okg.below.stays).nolimit) (Around.frames_deeper ok.below.stack) rfl ok.fkind (by rw [hg, hK, ← hfn]) (by rw [hg]; exact k4) (by have := rm.1; omega) (by rw [← hfn]; exact hB) ?_ ?_ k5 k6 k7 ?_)
      · intro y hy
        have : (y.1, absV y.2) ∈ bargs := by rw [← hbs]; exact List.mem_map_of_mem (f := fun p => (p.1, absV p.2)) hy
        have := List.all_eq_true.mp hloc _ this
        rw [hsc]; simpa using this
      · intro g' L' h₁ FG F' N' B'
        let c' : Cx := { g := c.g, A₀ := c.A, base := c.base, h₀ := g', outer := c.fenv :: c.outer, L := L', qn := fd.qualname, fsc := fd.scope, fa := f, cd := fd.code, cl := [], cp := none }
        have ok' : c'.Ok := ⟨B', ok.inK, ok.top, okg.dictsPush FG, k7, k7, k6, k5, handled_none ok, ok.seer, ok.tree⟩
        have rm' : room c' d := ⟨by have := rm.1; show c.A.depth + 1 + d + 200 < _; omega, by have := rm.2; show c.A.units + 3 + 8 * d + 200 < _; omega⟩
        have R' : Rep c' F.names (bargs.map (·.2) ++ List.replicate (F.names.length - bargs.length) V.unb) hp fr h₁ := by
          refine Rep.of (c := c') (news := news) KtsTurn.refl F' (Loc.start FO.nd (by rw [hlen, hnm, hb1]) (by rw [hb2, hlen])) H N' D
        refine hb c' d FO hg ⟨hsc, fun _ => rfl, fun _ _ => rfl⟩ ok' rm' _ hp _ (upX X) h rfl fr _ _ _ R' (fun o f' l' hp' h' tk' hq hf R2 => ?_) (fun l' => ?_)
        · obtain ⟨g2, m2, news2, T2, F2, lo2, H2, N2, D2⟩ := R2.parts
          refine ⟨g2, L', m2, news2 ++ fr, T2, F2, N2, fun h3 T3 F3 N3 => ?_⟩
          cases o with
          | next =>
            cases f' <;> first | exact hf.elim | skip
            exact hP .none .none hp' h' tk' hq rfl (Rep.of (T.trans T3) F3 lo H2 N3 D2)
          | brk => exact hq.elim
          | ret v =>
            cases f' <;> first | exact hf.elim | skip
            exact hP v _ hp' h' tk' hq hf (Rep.of (T.trans T3) F3 lo H2 N3 D2)
        · intro cls e hp' h' tk' hx hr
          obtain ⟨hD, g2, m2, hh, T2, F2, lo2, hr⟩ := hr
          have ok2 := ok'.turn T2
          obtain ⟨h3, T3, F3, _⟩ := turnBack (H := g2) okg.below FG T2 (fun _ _ e => e)
          rcases hr with ⟨c0, t, vs, news2, rfl, hup, hrk, hH⟩ | ⟨c0, vs, news2, rfl, hmade, hH, hN⟩
          · refine leave_onS (A := c.A) (g := g2) (g₂ := hh) ok2.below F2 hrk hup fun h4 hrk4 _ hup4 => ?_
            exact hX (.up c0) e hp' h4 tk' hx ⟨hD, h3, m, g2, T.trans T3, F3, lo, .inl ⟨c0, t, vs, news2, rfl, hup4, hrk4, hH⟩⟩
          · refine leave_raiseS (A := c.A) (g := g2) ok2.below hmade F2 hN (fun h4 t hrk4 _ hup4 => ?_) k7
            exact hX (.up c0) e hp' h4 tk' hx ⟨hD, h3, m, g2, T.trans T3, F3, lo, .inl ⟨c0, t, vs, news2, rfl, hup4, hrk4, hH⟩⟩
      · intro x hx e
        have := List.all_eq_true.mp k8 x hx
        rw [e] at this
        simp at this
  · cases hok
section
variable {F : Fx}
noncomputable def supE : Expr → Bool
  | .Call .. => true
  | _ => false
theorem base_plain {o : Expr} (h : supE o = false) (n : Str) (env : Env) : attributeBase o n env (eval o env) = eval o env := by
  cases o <;> first | rfl | (exact absurd h (by simp [supE]))
theorem typeIs_list {c : Cx} {names l hp fr} {s : Shared} {a : Addr} {vs : List V} (R : Rep c names l hp fr s.heap) (e : hp a = some (.list vs)) :
    s.TypeIs (.ref a) "list" ∧ ∀ a', Value.ref a = .ref a' → ∃ ob, s.heap.get? a' = some ob ∧ ob.dict = none := by
  obtain ⟨g, T, m, Fm, lo, H, N, D⟩ := R
  obtain ⟨ob, h1, ⟨items, n, rfl, _⟩, _⟩ := H.2 a _ e
  exact ⟨⟨_, h1, rfl⟩, fun a' q => by cases q; exact ⟨_, h1, rfl⟩⟩
theorem margs1 {pos : Pos} {env : Env} {e : Expr} (h : notStar e = true) : ((((backTo pos (starEach [e] env)).all fun x => !x.fst) && (backToKw pos (keywordEach [] env)).all fun x => x.fst.isSome) && decide ((([e] : List Expr).length + ([] : List Keyword).length + if ([] : List Keyword).isEmpty = true then 0 else 1) < 30)) = true := by
  rw [starEach_cons h]; rfl
theorem se_app {o e : Expr} {apos pos : Pos} {nm : Str} {mo me : ME} (hnm : nm = "append") (hso : supE o = false) (hap : (apos.endLine == pos.line) = true) (hn : notStar e = true) (ho : SE F o mo) (he : SE F e me) :
    SE F (.Call (.Attribute o nm apos) [e] [] pos) (.app mo me) := by
  intro c d FO hg hsc ok rm l hp Q X hev fr s P E R hP hX
  subst hnm
  refine wpAny_Call_method (base_plain hso _ _) (margs1 hn) hap PySem.F.plainAttrs_list PySem.F.slot_list_append PySem.F.type_list_append (ho c d FO hg hsc ok rm l hp _ X hev fr s _ E R (fun v x h1 hh tk hq hx R1 => ?_) hX)
  cases v with
  | ref a =>
    cases absV_ref hx
    obtain ⟨⟨vs0, e0⟩, hq⟩ := hq
    obtain ⟨t1, t2⟩ := typeIs_list (s := { s with heap := hh, toks := tk }) R1 e0
    refine ⟨t1, t2, callWith_method1 ?_ (starEach_cons hn) rfl⟩
    refine spliced_more (he c d FO hg hsc ok rm l h1 _ X hq fr _ _ E R1 (fun w y h2 hh2 tk2 hq2 hy R2 => ?_) hX) (starEach_cons hn)
    refine spliced_none ?_
    obtain ⟨vs, e1, hsz, hq3⟩ := hq2
    obtain ⟨g, m, news, items, n, T, Fm, lo, hit, H, N, hne, D⟩ := R2.at e1
    refine append_K (D := a) (its := items) (n := n) Fm N (Upd.head hne) (fun h' F' N' => ?_) (by rw [← hit] at hsz; simpa using hsz)
    cases hy
    refine hP .none .none _ h' tk2 hq3 rfl ?_
    have := Rep.back T F' lo H N' D e1
    simpa [← hit] using this
  | _ => exact hq.elim
theorem se_pop0 {o : Expr} {apos pos cp : Pos} {k : Nat} {nm : Str} {mo : ME} (hnm : nm = "pop") (hso : supE o = false) (hap : (apos.endLine == pos.line) = true) (ho : SE F o mo) :
    SE F (.Call (.Attribute o nm apos) [.Constant (.int 0) k cp] [] pos) (.pop0 mo) := by
  intro c d FO hg hsc ok rm l hp Q X hev fr s P E R hP hX
  subst hnm
  refine wpAny_Call_method (base_plain hso _ _) (margs1 rfl) hap PySem.F.plainAttrs_list PySem.F.slot_list_pop PySem.F.type_list_pop (ho c d FO hg hsc ok rm l hp _ X hev fr s _ E R (fun v x h1 hh tk hq hx R1 => ?_) hX)
  cases v with
  | ref a =>
    cases absV_ref hx
    obtain ⟨u, vs, e1, hsz, hq3⟩ := hq
    obtain ⟨t1, t2⟩ := typeIs_list (s := { s with heap := hh, toks := tk }) R1 e1
    refine ⟨t1, t2, callWith_method1 ?_ rfl rfl⟩
    refine spliced_more (wpAny_Constant_int (spliced_none ?_)) rfl
    obtain ⟨g, m, news, items, n, T, Fm, lo, hit, H, N, hne, D⟩ := R1.at e1
    obtain ⟨y, ys, hys⟩ : ∃ y ys, items.toList = y :: ys := by
      cases q : items.toList with
      | nil => rw [q] at hit; cases hit
      | cons y ys => exact ⟨y, ys, rfl⟩
    rw [hys] at hit
    simp only [List.map_cons, List.cons.injEq] at hit
    have hlen : items.size = ys.length + 1 := by have := congrArg List.length hys; simpa using this
    have hl2 : vs.length = ys.length := by rw [← hit.2]; simp
    refine kl_popAt (D := a) (its := items) (n := n) (k := 0) (p := []) (q := ys) (y := y) Fm N (by decide +kernel) (by unfold seqIndex?; simp [hlen]) (by rw [hys]; rfl) (Upd.head hne) (by rw [hys]; simp; omega) (fun h' F' N' => ?_)
    refine hP u y _ h' _ hq3 hit.1 ?_
    have := Rep.back T F' lo H N' D e1
    simpa [← hit.2] using this
  | _ => exact hq.elim
theorem sub_slice {lo hi : Option Expr} {p : Pos} (o i : Value) : subscripted (.Slice lo hi none p) false o i = operate [i, o] (getItem o i) := rfl
theorem Rep.noC {c : Cx} {names : List Str} {l : List V} {hp : HP} {fr : List (Addr × Obj)} {h : Heap} {it : Addr} (R : Rep c names l hp fr h) (hf : ∀ p ∈ fr, p.1 ≠ it) : ∀ k, c.cp = some k → k.C ≠ it := by
  intro k e
  obtain ⟨g, T, m, Fm, lo, _⟩ := R
  unfold LocX at lo
  rw [show (c.at g).cp = some k from e] at lo
  obtain ⟨_, oC, m₂, hm, _⟩ := lo
  exact hf _ hm
/-- a slice's new list enters -/
theorem sliceS {c : Cx} {names : List Str} {l : List V} {hp : HP} {Q : V → HP → Prop} {fr : List (Addr × Obj)} {s : Shared} {P E : Value → Shared → Prop} {a : Addr} {vs ws : List V} {value : Expr} {lo hi : Option Expr} {p : Pos} {vl vu : Value} {x y : Option Int}
    (ok : c.Ok) (R : Rep c names l hp fr s.heap) (e : listAt (hp a) = some vs) (hsz : vs.length ≤ sizeLine) (pl : IsPart vl x) (pu : IsPart vu y)
    (hpick : ∀ items : Array Value, items.toList.map absV = vs → (slicePick items x y none).toList.map absV = ws) (hq : newV hp (.list ws) Q)
    (hP : ∀ b val hp' h' tk', Q b hp' → rV b val → Rep c names l hp' fr h' → P val { s with heap := h', toks := tk' }) :
    wpAny (model c.g.prog c.g.w) c.A (subscriptTail value (.Slice lo hi none p) (.ref a) (.ref s.heap.objs.size)) P E
      { s with heap := s.heap.push { cls := .type "slice", data := .fields #[vl, vu, .none] } } := by
  obtain ⟨items, hit, hl⟩ := R.listI ok e
  have R1 := R.push ok { cls := .type "slice", data := .fields #[vl, vu, .none] } rfl
  obtain ⟨f1, f2⟩ := R1.fresh ok
  refine tail_any (Heap.IsList.typeIs (s := { s with heap := s.heap.push _ }) (hl.push _)) list_getitem_lookup ?_ (sub_slice _ _)
  refine wpAny_getItem_list_slice (hl.push _) (Heap.IsSliceOf.new ..) pl pu .none (by simp) ?_ (by rw [← hit] at hsz; simpa using hsz)
  refine hP _ _ _ _ s.toks (hq _ f1) rfl ?_
  obtain ⟨g, m, news, T, Fm, lo', H, N, D⟩ := R1.parts
  have N2 := N.push Fm { cls := .type "list", data := .seq (slicePick items x y none) }
  have R2 := Rep.more (ob := { cls := .type "list", data := .seq (slicePick items x y none) }) (o := .list ws) T (Fm.push _) lo' H N2 D f1 f2 ⟨_, _, rfl, hpick items hit⟩
  exact R2.drop (R.noC fun q hq => (R.fresh ok).2 q hq) (fun _ _ _ e => e) (fun q hq => (R.fresh ok).2 q hq)
theorem se_slcF {a i : Expr} {p pos : Pos} {ma mi : ME} (ha : SE F a ma) (hi : SE F i mi) : SE F (.Subscript a (.Slice (some i) none none p) pos) (.slcF ma mi) := by
  intro c d FO hg hsc ok rm l hp Q X hev fr s P E R hP hX
  refine Subscript_ (ha c d FO hg hsc ok rm l hp _ X hev fr s _ E R (fun v x h1 hh tk hq hx R1 => ?_) hX)
  refine wpAny_Slice ?_
  show wpAny _ _ (eval i c.env) _ _ _
  refine hi c d FO hg hsc ok rm l h1 _ X hq fr _ _ E R1 (fun w y h2 hh2 tk2 hq2 hy R2 => ?_) hX
  refine wpAny_pure (a := Value.none) ?_
  refine wpAny_pure (a := Value.none) ?_
  unfold slcV at hq2
  split at hq2
  · rename_i r k
    cases absV_ref hx
    obtain ⟨t, rfl⟩ := absV_int hy
    obtain ⟨vs, e, hsz, h0, hn⟩ := hq2
    refine sliceS (s := { s with heap := hh2, toks := tk2 }) ok R2 e hsz (.int k t) .none (fun items hit => ?_) hn hP
    have : (some k : Option Int) = some ((k.toNat : Nat) : Int) := by rw [Int.toNat_of_nonneg h0]
    rw [this, slicePick_from' items k.toNat, ← hit]
    simp
  · exact hq2.elim
theorem fresh_of {c : Cx} (ok : c.Ok) {hp : HP} {news fr : List (Addr × Obj)} {h' : Heap} {D : Addr} {o : Obj} {g : Heap} (T : KtsTurn c.fs c.h₀ g) (H : HpN c hp news) (N : News g c.L h' ((D, o) :: (news ++ fr))) (hlt : ∀ q ∈ news ++ fr, q.1 < D) :
    hp D = none ∧ ∀ p ∈ fr, p.1 ≠ D := by
  refine ⟨?_, fun p hp' => Nat.ne_of_lt (hlt p (List.mem_append_right _ hp'))⟩
  cases q : hp D with
  | none => rfl
  | some o' =>
    have := H.2 _ _ q
    cases o' with
    | ro ws =>
      obtain ⟨it, ⟨ob, hb, _⟩, _⟩ := this
      have h0 := (N _ (.head _)).2.2
      rw [(ok.turn T).below.stays _ _ hb] at h0; cases h0
    | list ws => obtain ⟨ob, hb, _⟩ := this; exact absurd (hlt _ (List.mem_append_left _ hb)) (Nat.lt_irrefl _)
    | tup ws => obtain ⟨ob, hb, _⟩ := this; exact absurd (hlt _ (List.mem_append_left _ hb)) (Nat.lt_irrefl _)
    | cell ws => obtain ⟨ob, hb, _⟩ := this; exact absurd (hlt _ (List.mem_append_left _ hb)) (Nat.lt_irrefl _)
    | rng _ _ _ => obtain ⟨ob, hb, _⟩ := this; exact absurd (hlt _ (List.mem_append_left _ hb)) (Nat.lt_irrefl _)
    | dict _ => obtain ⟨ob, hb, _⟩ := this; exact absurd (hlt _ (List.mem_append_left _ hb)) (Nat.lt_irrefl _)
theorem se_listOf {x : Str} {p pos : Pos} {a : Expr} {ma : ME} (hxe : x = "list") (hx : x ∈ F.bt) (hk : F.sc.names.lookup x = some .globalImplicit) (hn : notStar a = true) (ha : SE F a ma) : SE F (.Call (.Name x p) [a] [] pos) (.listOf ma) := by
  intro c d FO hg hsc ok rm l hp Q X hev fr s P E R hP hX
  subst hxe
  refine Call_ (nameB FO hg hsc ok hx (v := .type "list") boot_list hk (by decide) (by decide) R ?_) rfl
  refine PyProof.Rows.callWith_type1 ?_ (starEach_cons hn) rfl
  refine spliced_more (ha c d FO hg hsc ok rm l hp _ X hev fr s _ E R (fun v y h1 hh tk hq hy R1 => ?_) hX) (starEach_cons hn)
  refine spliced_none ?_
  cases v with
  | ref a =>
    cases absV_ref hy
    obtain ⟨vs, e1, hsz, hq⟩ := hq
    rcases iterOf_cases e1 with e1 | ⟨lo, hi', st, erg, hsm, rfl⟩
    case inr =>
      obtain ⟨t, u, v, hr⟩ := R1.rng erg
      obtain ⟨f1, f2⟩ := R1.fresh ok
      obtain ⟨g, m, news, T, Fm, lo0, H, N, D⟩ := R1.parts
      have hsz0 : 0 ≤ Builtin.Range.rangeSize lo hi' st := by
        unfold Builtin.Range.rangeSize
        split <;> split <;> first | omega | skip
        · exact Int.add_nonneg (Int.ediv_nonneg (by omega) (by omega)) (by omega)
        · rename_i h1 h2
          by_cases hz : st = 0
          · subst hz; simp
          · exact Int.add_nonneg (Int.ediv_nonneg (by omega) (by omega)) (by omega)
      refine list_rangeD (n := (Builtin.Range.rangeSize lo hi' st).toNat) (handled_none ok) Fm N hr hsm (Int.toNat_of_nonneg hsz0).symm (by simp only [rngL, List.length_map, List.length_range] at hsz; exact hsz) fun h' tk' ys F' N' hk hfr hl hpl hc => ?_
      obtain ⟨⟨c0, hob⟩, hne⟩ := hpl
      have hys : ys.map absV = rngL lo hi' st := by
        have key : ∀ {ys : List Value} {ns : List Int}, CarriedAll ys (ns.map .int) → ys.map absV = ns.map V.int := by
          intro ys
          induction ys with
          | nil => intro ns h; cases ns with
            | nil => rfl
            | cons _ _ => cases h
          | cons y ys ih => intro ns h; cases ns with
            | nil => cases h
            | cons n ns =>
              simp only [List.map_cons] at h ⊢
              cases h with
              | cons h1 h2 => cases h1; rw [ih h2]; rfl
        rw [key hc]; simp [rngL, rangeInts]
      refine hP _ _ _ h' tk' (hq _ f1) rfl (Rep.more (ob := listOf ys.toArray c0) T F' lo0 H (fun p hp' => ?_) D f1 f2 ⟨_, _, rfl, by simpa using hys⟩)
      rcases List.mem_cons.mp hp' with rfl | hp'
      · refine ⟨hob, fun e => ?_, hfr⟩
        obtain ⟨oL, _, _, hL, _⟩ := Fm.ns
        exact absurd (Heap.lt_size hL) (by rw [← e]; exact Nat.lt_irrefl _)
      · exact N' p hp'
    obtain ⟨items, hi, hl⟩ := R1.items ok e1
    have hsz' : items.size ≤ sizeLine := by rw [← hi] at hsz; simpa using hsz
    obtain ⟨g, m, news, T, Fm, lo, H, N, D⟩ := R1.parts
    have fin : ∀ D' c' h', Fr g c.L h' m → News g c.L h' ((D', W.listOf items c') :: (news ++ fr)) → (∀ q ∈ news ++ fr, q.1 < D') → P (.ref D') { s with heap := h', toks := tk } := by
      intro D' c' h' F' N' hlt
      obtain ⟨f1, f2⟩ := fresh_of ok T H N' hlt
      exact hP _ _ _ h' tk (hq _ f1) rfl (Rep.more T F' lo H N' D f1 f2 ⟨items, c', rfl, hi⟩)
    rcases hl with ⟨hl, _⟩ | ⟨hl, _⟩
    · exact list_copyK Fm N hl fin hsz'
    · exact list_copyKT Fm N hl fin hsz'
  | _ => exact hq.elim
theorem se_dvm {x : Str} {p pos : Pos} {a b : Expr} {ma mb : ME} (hxe : x = "divmod") (hx : x ∈ F.bt) (hk : F.sc.names.lookup x = some .globalImplicit) (hn : notStar a = true) (hn2 : notStar b = true) (ha : SE F a ma) (hb : SE F b mb) : SE F (.Call (.Name x p) [a, b] [] pos) (.dvm ma mb) := by
  intro c d FO hg hsc ok rm l hp Q X hev fr s P E R hP hX
  subst hxe
  refine Call_ (nameB FO hg hsc ok hx (v := .builtin "divmod") boot_divmod hk (by decide) (by decide) R ?_) rfl
  refine PyProof.Rows.callWith_builtin1 ?_ (starEach_cons hn) (by rw [starEach_cons hn2]; rfl)
  refine spliced_more (ha c d FO hg hsc ok rm l hp _ X hev fr s _ E R (fun v y h1 hh tk hq hy R1 => ?_) hX) (starEach_cons hn)
  refine spliced_more (hb c d FO hg hsc ok rm l h1 _ X hq fr _ _ E R1 (fun w z h2 hh2 tk2 hq2 hz R2 => ?_) hX) (starEach_cons hn2)
  refine spliced_none ?_
  split at hq2
  · obtain ⟨t, rfl⟩ := absV_int hy
    obtain ⟨u, rfl⟩ := absV_int hz
    obtain ⟨g, m, news, T, Fm, lo, H, N, D⟩ := R2.parts
    obtain ⟨f1, f2⟩ := R2.fresh ok
    refine divmod_N Fm N hq2.1 (fun h' F' N' => hP _ _ _ h' _ (hq2.2 _ f1) rfl ?_) (.inr (pylong ok rm R2))
    exact Rep.more T F' lo H N' D f1 f2 ⟨_, _, rfl, rfl⟩
  · exact hq2.elim
theorem ss_stop {st : Stmt} : SS F st .stop := fun _ _ _ _ _ _ _ _ _ _ _ h => h.elim
theorem ss_expr {e : Expr} {pos : Pos} {m : ME} (hc : compE e = false) (he : SE F e m) : SS F (.Expr e pos) (.expr m) := by
  intro c d FO hg hsc ok rm l hp Q X hev hcp fr s P E R hP hX
  have hi : interactive c.env = false := by
    unfold interactive
    rw [show c.env.scope.kind = .function by rw [c.env_scope]; exact ok.kind]; rfl
  exact wpAny_Expr_any (he c d FO hg hsc ok rm l hp _ X hev fr s _ E R (fun v y h1 hh tk hq hy R1 => hP .next .next l h1 hh tk hq trivial R1) (hX l)) hi (swaps_plain hc _ _ _)
end
/-! comprehensions -/
noncomputable def cellA : V → Addr
  | .cell a => a
  | _ => 0
theorem cellsB_get {l : List V} : ∀ {is : List Nat}, cellsB l is = true → ∀ i ∈ is, lget l i = .cell (cellA (lget l i))
  | [], _, i, h => by cases h
  | j :: r, hc, i, h => by
    simp only [cellsB, Bool.and_eq_true] at hc
    rcases List.mem_cons.mp h with rfl | h
    · have h1 := hc.1
      revert h1
      cases lget l i <;> intro h1 <;> first | rfl | cases h1
    · exact cellsB_get hc.2 i h
theorem closure_list {env : Env} (look : Str → Addr) : ∀ (ns : List (Str × NameKind)) (cs : List (Str × Addr)), (∀ y ∈ ns, y.2 = .free → env.cells.lookup y.1 = some (look y.1)) →
    (ForIn.forIn ns cs (fun x r => if (x.2 == NameKind.free) = true then (do let a ← cellOf env x.1; pure (ForInStep.yield ((x.1, a) :: r))) else pure (ForInStep.yield r)) : Sem (List (Str × Addr))) =
      pure (((ns.filter (·.2 == .free)).map fun y => (y.1, look y.1)).reverse ++ cs)
  | [], cs, _ => rfl
  | (n, k) :: r, cs, h => by
    rw [List.forIn_cons]
    cases hk : (k == NameKind.free) with
    | false =>
      have ih := closure_list look r cs fun y hy => h y (.tail _ hy)
      simp only [hk, Bool.false_eq_true, if_false, pure_bind, List.filter_cons]
      exact ih
    | true =>
      have e := h (n, k) (.head _) (beq_iff_eq.mp hk)
      have ih := closure_list look r ((n, look n) :: cs) fun y hy => h y (.tail _ hy)
      have ec : cellOf env n = pure (look n) := by unfold cellOf; rw [e]
      simp only [hk, if_true, ec, pure_bind, List.filter_cons, List.map_cons, List.reverse_cons, List.append_assoc, List.singleton_append]
      exact ih
theorem closureFor_list {scope : Scope} {env : Env} (look : Str → Addr) (h : ∀ y ∈ scope.names, y.2 = .free → env.cells.lookup y.1 = some (look y.1)) :
    closureFor scope env = pure ((scope.names.filter (·.2 == .free)).map fun y => (y.1, look y.1)).reverse := by
  have := closure_list look scope.names [] h
  rw [List.append_nil] at this
  unfold closureFor
  rw [← this, bind_pure]
/-- what a comprehension's scope must be -/
structure CompOk (F : Fx) (scope : Scope) (x : Str) (xs : List Str) (is : List Nat) : Prop where
  kind : scope.kind = .function
  cell : ∀ y ∈ scope.names, y.2 ≠ .cell
  names : ∀ y ∈ scope.names, y.2 = .local → scope.names.lookup y.1 = some .local
  tgt : scope.names.lookup x = some .local
  free : (scope.names.filter (·.2 == .free)).map (·.1) = xs
  len : xs.length = is.length
  idx : ∀ p ∈ xs.zip is, F.names[p.2]? = some p.1
  nd : (x :: xs).Nodup
/-- the scope as it is relabelled -/
noncomputable def relabelS (scope sc : Scope) : Scope := relabel scope (envX (Str.ofString "") sc 0 0 .none [])
noncomputable abbrev Fx.inner (F : Fx) (scope : Scope) (names : List Str) : Fx := ⟨F.g, F.gt, F.bt, names, relabelS scope F.sc, false, false⟩
theorem Fx.Ok.inner {F : Fx} (FO : F.Ok) {scope : Scope} {names : List Str} (nd : names.Nodup) : (F.inner scope names).Ok := ⟨FO.gt, FO.bt, nd, fun e => (nomatch e)⟩
/-- the place that a comprehension puts over the frame c -/
noncomputable abbrev Cx.within (c : Cx) (C : Addr) (scope : Scope) (kcl : List (Str × Addr)) (names : List Str) (l : List V) : Cx := { c with cp := some ⟨C, scope, kcl, names, l⟩ }
theorem Rep.inner {c : Cx} (hcp : c.cp = none) {names names' : List Str} {l l' : List V} {hp : HP} {fr : List (Addr × Obj)} {h : Heap} {C : Addr} {scope : Scope} {kcl : List (Str × Addr)} {oC : Obj} {m₂ : Str → Option Value}
    (R : Rep c names l hp fr h) (hm : (C, oC) ∈ fr) (ho : NsObj oC m₂) (lo' : Loc kcl names' l' m₂) : Rep (c.within C scope kcl names l) names' l' hp fr h := by
  obtain ⟨g, T, m, Fm, lo, H, N, D⟩ := R
  exact ⟨g, T, m, Fm, ⟨(LocX.plain (c := c.at g) hcp).mp lo, oC, m₂, hm, ho, lo'⟩, H, N, D⟩
theorem Rep.outer {c : Cx} (hcp : c.cp = none) {names names' : List Str} {l l' : List V} {hp : HP} {fr : List (Addr × Obj)} {h : Heap} {C : Addr} {scope : Scope} {kcl : List (Str × Addr)}
    (R : Rep (c.within C scope kcl names l) names' l' hp fr h) : Rep c names l hp fr h := by
  obtain ⟨g, T, m, Fm, lo, H, N, D⟩ := R
  exact ⟨g, T, m, Fm, (LocX.plain (c := c.at g) hcp).mpr lo.1, H, N, D⟩
theorem Rep.perm {c : Cx} (hcp : c.cp = none) {names : List Str} {l : List V} {hp : HP} {fr fr' : List (Addr × Obj)} {h : Heap} (R : Rep c names l hp fr h) (hs : ∀ p ∈ fr', p ∈ fr) : Rep c names l hp fr' h := by
  obtain ⟨g, T, m, Fm, lo, H, N, D⟩ := R
  exact ⟨g, T, m, Fm, lo.any hcp, H, fun p hp' => N p (hs p hp'), fun p hp' => D p (hs p hp')⟩
theorem Rep.adopt {c : Cx} (hcp : c.cp = none) {names : List Str} {l : List V} {hp : HP} {fr : List (Addr × Obj)} {h : Heap} {r : Addr} {ob : Obj} {o : O} (R : Rep c names l hp ((r, ob) :: fr) h) (hf : ∀ p ∈ fr, p.1 ≠ r) (ho : RepO o ob) : Rep c names l (hset hp r o) fr h := by
  obtain ⟨g, m, news, T, Fm, lo, H, N, D⟩ := R.parts
  refine Rep.more (news := news) T Fm (lo.any hcp) H (fun p hp' => N p ?_) (fun p hp' => D p (.tail _ hp')) (D _ (.head _)) hf ho
  rcases List.mem_cons.mp hp' with rfl | q
  · exact List.mem_append_right _ (.head _)
  · rcases List.mem_append.mp q with q | q
    · exact List.mem_append_left _ q
    · exact List.mem_append_right _ (.tail _ q)
/-- the tests of a comprehension -/
noncomputable def STs (F : Fx) (es : List Expr) (m : ME) : Prop := ∀ c d, F.Ok → c.g = F.g → SCF c F → c.Ok → room c d → ∀ l hp Q X, evT F.g d m l hp Q X →
  W rB c F.names l (ForIn.forIn es true fun e r => if r = true then (do let ok ← isTrue e c.env (eval e c.env); pure (ForInStep.yield ok)) else pure (ForInStep.yield r)) hp Q X
theorem sts_nil {F : Fx} : STs F [] (.tv (.bool true)) := by
  intro c d FO hg hsc ok rm l hp Q X hev fr s P E R hP hX
  exact wpAny_tests_nil (hP true true hp s.heap s.toks hev rfl R)
theorem sts_one {F : Fx} {e : Expr} {m : ME} (h : ST F e m) : STs F [e] m := by
  intro c d FO hg hsc ok rm l hp Q X hev fr s P E R hP hX
  exact wpAny_tests_one (h c d FO hg hsc ok rm l hp Q X hev _ rfl fr s _ E R hP hX)
theorem caps_get {l : List V} : ∀ {is : List Nat} {j : Nat} {i : Nat}, is[j]? = some i → (capsV l is)[j]? = some (lget l i)
  | [], _, _, h => by simp at h
  | _ :: _, 0, _, h => by simp at h; subst h; rfl
  | _ :: r, j + 1, _, h => by simp only [List.getElem?_cons_succ] at h; simpa [capsV] using caps_get (is := r) h
noncomputable def lookOf (l : List V) (xs : List Str) (is : List Nat) (y : Str) : Addr := match (xs.zip is).lookup y with
  | some i => cellA (lget l i)
  | none => 0
theorem zip_lookup : ∀ {xs : List Str} {is : List Nat} {y : Str}, xs.length = is.length → y ∈ xs → ∃ i, (xs.zip is).lookup y = some i ∧ (y, i) ∈ xs.zip is
  | [], _, _, _, h => by cases h
  | x :: r, [], _, hl, _ => by simp at hl
  | x :: r, i :: is, y, hl, h => by
    cases e : y == x with
    | true => exact ⟨i, by simp [List.lookup_cons, e], by rw [beq_iff_eq.mp e]; exact .head _⟩
    | false =>
      have hne : y ≠ x := by simpa using e
      obtain ⟨j, a, b⟩ := zip_lookup (xs := r) (is := is) (by simpa using hl) ((List.mem_cons.mp h).resolve_left hne)
      exact ⟨j, by simp [List.lookup_cons, e, a], .tail _ b⟩
theorem zip_lookup_get : ∀ {xs : List Str} {is : List Nat} {y : Str} {j i : Nat}, xs.Nodup → xs[j]? = some y → is[j]? = some i → (xs.zip is).lookup y = some i
  | [], _, _, _, _, _, h, _ => by simp at h
  | _ :: _, [], _, _, _, _, _, h => by simp at h
  | x :: r, k :: is, y, 0, i, _, h, h' => by simp at h h'; subst h h'; simp
  | x :: r, k :: is, y, j + 1, i, nd, h, h' => by
    simp only [List.getElem?_cons_succ] at h h'
    have hm : y ∈ r := List.mem_of_getElem? h
    have hne : y ≠ x := fun e => (List.nodup_cons.mp nd).1 (e ▸ hm)
    simp only [List.zip_cons_cons, List.lookup_cons, beq_eq_false_iff_ne.mpr hne]
    exact zip_lookup_get (List.nodup_cons.mp nd).2 h h'
noncomputable abbrev kclOf (scope : Scope) (look : Str → Addr) : List (Str × Addr) := ((scope.names.filter (·.2 == .free)).map fun y => (y.1, look y.1)).reverse
theorem kcl_lookup {look : Str → Addr} : ∀ {ns : List (Str × NameKind)} {y : Str}, (ns.map (·.1)).Nodup → y ∈ ns.map (·.1) → ((ns.map fun y => (y.1, look y.1)).reverse).lookup y = some (look y) := by
  intro ns y nd hy
  have key : ∀ (ps : List (Str × Addr)), (∀ p ∈ ps, p.2 = look p.1) → y ∈ ps.map (·.1) → ps.lookup y = some (look y) := by
    intro ps
    induction ps with
    | nil => intro _ h; cases h
    | cons p r ih =>
      intro hp h
      cases e : y == p.1 with
      | true =>
        have := hp p (.head _)
        obtain ⟨a, b⟩ := p
        simp only at e this
        rw [beq_iff_eq.mp e] at *
        simp [List.lookup_cons, this]
      | false =>
        have hne : y ≠ p.1 := by simpa using e
        obtain ⟨a, b⟩ := p
        simp only at e hne
        simp only [List.lookup_cons, e]
        exact ih (fun q hq => hp q (.tail _ hq)) ((List.mem_cons.mp h).resolve_left hne)
  refine key _ (fun p hp => ?_) ?_
  · obtain ⟨q, _, rfl⟩ := List.mem_map.mp (List.mem_reverse.mp hp)
    rfl
  · rw [List.map_reverse, List.mem_reverse, List.map_map]
    exact hy
section
variable {F : Fx}
theorem comp_look {c : Cx} {x : Str} {xs : List Str} {is : List Nat} {scope : Scope} (co : CompOk F scope x xs is) {l : List V} {hp : HP} {fr : List (Addr × Obj)} {h : Heap} (R : Rep c F.names l hp fr h) (hcells : cellsB l is = true) :
    ∀ y ∈ scope.names, y.2 = .free → c.env.cells.lookup y.1 = some (lookOf l xs is y.1) := by
  intro y hy hk
  have hm : y.1 ∈ xs := by
    rw [← co.free]
    exact List.mem_map_of_mem (f := (·.1)) ((List.mem_filter (p := fun z : Str × NameKind => z.2 == .free)).mpr ⟨hy, by simp [hk]⟩)
  obtain ⟨i, h1, h2⟩ := zip_lookup co.len hm
  have h3 := co.idx _ h2
  have h4 := cellsB_get hcells i (List.of_mem_zip h2).2
  have := R.cellOf h3 h4
  unfold lookOf
  rw [h1]; exact this
theorem comp_loc {x : Str} {xs : List Str} {is : List Nat} {scope : Scope} (co : CompOk F scope x xs is) {l : List V} (hcells : cellsB l is = true) {m₂ : Str → Option Value} {v : V} {val : Value} (hx : m₂ x = some val) (hv : absV val = v) :
    Loc (kclOf scope (lookOf l xs is)) (x :: xs) (v :: capsV l is) m₂ := by
  intro j y w hy hw hn
  cases j with
  | zero =>
    simp at hy hw
    subst hy hw
    exact .inr ⟨fun a e => absV_cell (hv.trans e), val, hx, hv⟩
  | succ j =>
    simp only [List.getElem?_cons_succ] at hy hw
    have hj : j < is.length := by
      rw [← co.len]
      exact (List.getElem?_eq_some_iff.mp hy).1
    have hi : is[j]? = some is[j] := by simp [hj]
    rw [caps_get hi] at hw
    have hw : lget l is[j] = w := Option.some.inj hw
    have hc := cellsB_get hcells is[j] (List.getElem_mem hj)
    refine .inl ⟨cellA (lget l is[j]), by rw [← hw]; exact hc, ?_⟩
    have nd : xs.Nodup := (List.nodup_cons.mp co.nd).2
    have h1 := zip_lookup_get nd hy hi
    have : lookOf l xs is y = cellA (lget l is[j]) := by unfold lookOf; rw [h1]
    rw [← this]
    exact kcl_lookup (by rw [co.free]; exact nd) (by rw [co.free]; exact List.mem_of_getElem? hy)
theorem compG {c : Cx} {d : Nat} (FO : F.Ok) (hg : c.g = F.g) (hsc : SCF c F) (ok : c.Ok) (hcp : c.cp = none) (rm : room c d)
    {x : Str} {xs : List Str} {is : List Nat} {scope : Scope} (co : CompOk F scope x xs is) {px pos : Pos} {ifs : List Expr} {iter elt : Expr} {mc me : ME}
    (hc : STs (F.inner scope (x :: xs)) ifs mc) (he : SE (F.inner scope (x :: xs)) elt me)
    {vs : List V} {K : HP → Prop} {Q : V → HP → Prop} {l : List V} {hp : HP} {fr : List (Addr × Obj)} {s : Shared} {it : Addr} (ItObj : Nat → Obj → Prop)
    (again : ∀ o (s' : Shared) (P : Value → Shared → Prop) (E : Value → Shared → Prop), ItObj 0 o → s'.heap.get? it = some o → P (.ref it) s' → wpAny (model c.g.prog c.g.w) c.A (pyIter (.ref it)) P E s')
    (next : ∀ k l hp o h (s' : Shared) (fr : List (Addr × Obj)) (P : Option Value → Shared → Prop) (E : Value → Shared → Prop), K hp → ItObj k o → s'.heap = h → Rep c F.names l hp ((it, o) :: fr) h → (∀ p ∈ fr, p.1 ≠ it) →
      (∀ val v h' tk' o', vs[k]? = some v → absV val = v → ItObj (k + 1) o' → Rep c F.names l hp ((it, o') :: fr) h' → P (some val) { s' with heap := h', toks := tk' }) →
      (k = vs.length → ∀ h' tk', Rep c F.names l hp fr h' → P Option.none { s' with heap := h', toks := tk' }) → k ≤ vs.length → wpAny (model c.g.prog c.g.w) c.A (pyNext (.ref it)) P E s')
    {o₀ : Obj} (h0 : ItObj 0 o₀) (R0 : Rep c F.names l hp ((it, o₀) :: fr) s.heap) (hfr : ∀ p ∈ fr, p.1 ≠ it) (hcells : cellsB l is = true)
    (hK : compI (fun l h R => evT F.g d mc l h R fun _ _ => False) (fun l h R => ev F.g d me l h R fun _ _ => False) (fun v R _ => R (v :: capsV l is)) vs hp K Q)
    {E : Value → Shared → Prop} {RR : Value → Addr → Result → Shared → Prop}
    (hRR : ∀ D C oC m₂ hp' h' tk', Q (.ref D) hp' → NsObj oC m₂ → Rep c F.names l hp' ((C, oC) :: fr) h' → (∀ p ∈ fr, p.1 ≠ C) → RR (.ref D) C (.ok .next) { s with heap := h', toks := tk' }) :
    wpAny (model c.g.prog c.g.w) c.A (newList []) (fun acc s₃ => wpAny (model c.g.prog c.g.w) c.A (newFunctionEnv scope c.env.globals (kclOf scope (lookOf l xs is)) [] c.env.qual none .none (some c.env)) (fun cenv s₄ =>
      codeAny (model c.g.prog c.g.w) c.A (.compStart (.ListComp elt [⟨.Name x px, iter, ifs, 0⟩] scope pos) 0 (.ref it) acc { cenv with scope := relabel scope c.env }) (RR acc cenv.locals) s₄) E s₃) E s := by
  obtain ⟨I, hI0, step, fin⟩ := hK
  rw [c.env_plain hcp]
  refine wpAny_newObj_type (wpAny_newFunctionEnv co.cell (by intro y hy; simp at hy) (fun h₁ hns₁ hsb₁ => ?_) co.kind)
  dsimp only at hns₁ hsb₁ ⊢
  have R1 := R0.push ok { cls := .type "list", dict := none, data := .seq ([] : List Value).toArray } rfl
  have f1 := (R0.fresh ok).2
  have R2 := R1.push ok { cls := .type "dict", data := .dict #[] } rfl
  have f2 := (R1.fresh ok).2
  generalize hD : s.heap.objs.size = D at *
  generalize hH : s.heap.push { cls := .type "list", dict := none, data := .seq ([] : List Value).toArray } = H2 at *
  generalize hC : H2.objs.size = C at *
  have hDC : D ≠ C := f2 (D, _) (.head _)
  have hIC : it ≠ C := f2 (it, o₀) (.tail _ (.head _))
  have hID : it ≠ D := f1 (it, o₀) (.head _)
  have hfC : ∀ p ∈ fr, p.1 ≠ C := fun p hp' => f2 p (.tail _ (.tail _ hp'))
  have hfD : ∀ p ∈ fr, p.1 ≠ D := fun p hp' => f1 p (.tail _ hp')
  obtain ⟨oC, es, ep, hoC, hd0, hk0, hr0⟩ := id hns₁
  have R3 := R2.iter (noC hcp) (fun b ob hne e => (hsb₁.2 b hne).trans e) hoC f2
  have R4 : Rep c F.names l hp ((it, o₀) :: (C, oC) :: (D, listOf #[] 0) :: fr) h₁ := R3.perm hcp (by
    intro p hp'
    simp only [List.mem_cons] at hp' ⊢
    rcases hp' with rfl | rfl | rfl | hp'
    · exact .inr (.inr (.inl rfl))
    · exact .inl rfl
    · exact .inr (.inl rfl)
    · exact .inr (.inr (.inr hp')))
  have offI : ∀ (oC : Obj) (its : Array Value) (n : Nat), ∀ p ∈ (C, oC) :: (D, listOf its n) :: fr, p.1 ≠ it := by
    intro oC its n p hp'
    rcases List.mem_cons.mp hp' with rfl | hp'
    · exact Ne.symm hIC
    · rcases List.mem_cons.mp hp' with rfl | hp'
      · exact Ne.symm hID
      · exact hfr p hp'
  have loop : ∀ s₃ : Shared, s₃ = { s with heap := h₁, toks := s.toks + ([] : List (Str × Value)).length } →
      codeAny (model c.g.prog c.g.w) c.A (.compLoop (.ListComp elt [⟨.Name x px, iter, ifs, 0⟩] scope pos) 0 (.ref it) (.ref D) (compEnvC scope (kclOf scope (lookOf l xs is)) C c.fenv))
        (RR (.ref D) C) s₃ := by
    rintro s₃ rfl
    refine codeAny_compLoop_tests (fun n s' => ∃ k hp' oI oC m₂ its cnt h' tk, n = vs.length + 1 - k ∧ k ≤ vs.length ∧ I k (its.toList.map absV) hp' ∧ ItObj k oI ∧ NsObj oC m₂ ∧
      Rep c F.names l hp' ((it, oI) :: (C, oC) :: (D, listOf its cnt) :: fr) h' ∧ s' = { s with heap := h', toks := tk }) ?_ _ ⟨0, hp, o₀, oC, _, #[], 0, h₁, _, rfl, Nat.zero_le _, hI0, h0, ⟨es, ep, hd0, hk0, hr0⟩, R4, rfl⟩
    rintro n s' ⟨k, hp1, oI, oC1, m₂, its, cnt, hh1, tk1, rfl, hk1, hI, hO, hNs, R5, rfl⟩
    have hKh : K hp1 := by
      by_cases hlt : k < vs.length
      · exact (step k vs[k] _ hp1 (by simp [hlt]) hI).1
      · have : k = vs.length := by omega
        subst this
        exact (fin _ hp1 hI).1
    refine next k l hp1 oI hh1 _ _ _ _ hKh hO rfl R5 (offI _ _ _) (fun val v h' tk' o' hv hval hO' R6 => ?_) (fun hkl h' tk' R6 => ?_) hk1
    · dsimp only
      have hlt : k < vs.length := by
        rcases Nat.lt_or_ge k vs.length with h | h
        · exact h
        · rw [List.getElem?_eq_none h] at hv; cases hv
      obtain ⟨_, hlen, hev⟩ := step k v _ hp1 hv hI
      have hgC : h'.get? C = some oC1 := by obtain ⟨_, _, _, _, _, _, N, _⟩ := id R6; exact (N _ (.tail _ (.head _))).1
      obtain ⟨es1, ep1, hd1, hk1', hr1⟩ := hNs
      refine wpAny_assign_Name (wpAny_storeName_local (m := m₂) (lookup_relabel_local co.tgt) ⟨oC1, es1, ep1, hgC, hd1, hk1', hr1⟩ (fun h3 hn3 hs3 => ?_) (by simp [compEnvC, relabel, co.kind]))
      obtain ⟨oC2, es2, ep2, hoC2, hd2, hk2, hr2⟩ := id hn3
      have R7 : Rep c F.names l hp1 ((C, oC1) :: (it, o') :: (D, listOf its cnt) :: fr) h' := R6.perm hcp (by
        intro p hp'
        simp only [List.mem_cons] at hp' ⊢
        rcases hp' with rfl | rfl | hp'
        · exact .inr (.inl rfl)
        · exact .inl rfl
        · exact .inr (.inr hp'))
      have offC : ∀ (o' : Obj) (its : Array Value) (n : Nat), ∀ p ∈ (it, o') :: (D, listOf its n) :: fr, p.1 ≠ C := by
        intro o' its n p hp'
        rcases List.mem_cons.mp hp' with rfl | hp'
        · exact hIC
        · rcases List.mem_cons.mp hp' with rfl | hp'
          · exact hDC
          · exact hfC p hp'
      have R8 := R7.iter (noC hcp) (fun b ob hne e => (hs3.2 b hne).trans e) hoC2 (offC _ _ _)
      have hNs2 : NsObj oC2 (fun y => if y = x then some val else m₂ y) := ⟨es2, ep2, hd2, hk2, hr2⟩
      have lo2 := comp_loc co hcells (m₂ := fun y => if y = x then some val else m₂ y) (v := v) (val := val) (by simp) hval
      have RI := R8.inner (scope := scope) hcp (.head _) hNs2 lo2
      have hsc' : SCF (c.within C scope (kclOf scope (lookOf l xs is)) F.names l) (F.inner scope (x :: xs)) := by
        refine ⟨?_, fun e => (nomatch e), fun e => (nomatch e)⟩
        have : c.fsc = F.sc := (c.sc_plain hcp).symm.trans hsc.1
        show relabel scope c.fenv = relabelS scope F.sc
        rw [← this]; rfl
      have ok' : (c.within C scope (kclOf scope (lookOf l xs is)) F.names l).Ok := ⟨ok.below, ok.inK, ok.top, ok.dicts, co.kind, ok.fkind, ok.gen, ok.cor, ok.hd, ok.seer, ok.tree⟩
      refine hc (c.within C scope (kclOf scope (lookOf l xs is)) F.names l) d (FO.inner co.nd) hg hsc' ok' rm _ hp1 _ _ hev _ _ _ _ RI (fun b b' hp2 h4 tk4 hq4 hb4 R9 => ?_) (fun _ _ _ _ _ hx => hx.elim)
      cases hb4
      dsimp only
      cases b with
      | false =>
        rw [if_neg (by decide)]
        refine ⟨vs.length + 1 - (k + 1), by omega, k + 1, hp2, o', oC2, _, its, cnt, h4, tk4, rfl, by omega, hq4.2 rfl, hO', hNs2, (R9.outer hcp).perm hcp (by
          intro p hp'
          simp only [List.mem_cons] at hp' ⊢
          rcases hp' with rfl | rfl | hp'
          · exact .inr (.inl rfl)
          · exact .inl rfl
          · exact .inr (.inr hp')), rfl⟩
      | true =>
        rw [if_pos rfl]
        refine he (c.within C scope (kclOf scope (lookOf l xs is)) F.names l) d (FO.inner co.nd) hg hsc' ok' rm _ hp2 _ _ (hq4.1 rfl) _ _ _ _ R9 (fun w y hp3 h5 tk5 hq5 hy R10 => ?_) (fun _ _ _ _ _ hx => hx.elim)
        have R11 : Rep c F.names l hp3 ((D, listOf its cnt) :: (C, oC2) :: (it, o') :: fr) h5 := (R10.outer hcp).perm hcp (by
          intro p hp'
          simp only [List.mem_cons] at hp' ⊢
          rcases hp' with rfl | rfl | rfl | hp'
          · exact .inr (.inr (.inl rfl))
          · exact .inl rfl
          · exact .inr (.inl rfl)
          · exact .inr (.inr (.inr hp')))
        have hgD : h5.get? D = some (listOf its cnt) := by obtain ⟨_, _, _, _, _, _, N, _⟩ := id R11; exact (N _ (.head _)).1
        refine append_at hgD (fun h6 hs6 ho6 => ?_) (by simpa using hlen)
        have offD : ∀ p ∈ (C, oC2) :: (it, o') :: fr, p.1 ≠ D := by
          intro p hp'
          rcases List.mem_cons.mp hp' with rfl | hp'
          · exact Ne.symm hDC
          · rcases List.mem_cons.mp hp' with rfl | hp'
            · exact hID
            · exact hfD p hp'
        have R12 := R11.iter (noC hcp) (fun b ob hne e => (hs6.2 b hne).trans e) ho6 offD
        refine ⟨vs.length + 1 - (k + 1), by omega, k + 1, hp3, o', oC2, _, its.push y, cnt + 1, h6, tk5, rfl, by omega, ?_, hO', hNs2, R12.perm hcp (by
          intro p hp'
          simp only [List.mem_cons] at hp' ⊢
          rcases hp' with rfl | rfl | rfl | hp'
          · exact .inr (.inr (.inl rfl))
          · exact .inr (.inl rfl)
          · exact .inl rfl
          · exact .inr (.inr (.inr hp'))), rfl⟩
        have : (its.push y).toList.map absV = its.toList.map absV ++ [w] := by cases hy; simp
        rw [this]; exact hq5
    · dsimp only
      subst hkl
      have R7 : Rep c F.names l hp1 ((D, listOf its cnt) :: (C, oC1) :: fr) h' := R6.perm hcp (by
        intro p hp'
        simp only [List.mem_cons] at hp' ⊢
        rcases hp' with rfl | rfl | hp'
        · exact .inr (.inl rfl)
        · exact .inl rfl
        · exact .inr (.inr hp'))
      have R8 := Rep.adopt (o := .list (its.toList.map absV)) hcp R7 (by
        intro p hp'
        rcases List.mem_cons.mp hp' with rfl | hp'
        · exact Ne.symm hDC
        · exact hfD p hp') ⟨its, cnt, rfl, rfl⟩
      have hDn : hp1 D = none := by obtain ⟨_, _, _, _, _, _, _, D'⟩ := id R7; exact D' _ (.head _)
      exact hRR D C oC1 m₂ _ h' _ ((fin _ hp1 hI).2 D hDn) hNs R8 hfC
  have st : ∀ s₃ : Shared, s₃ = { s with heap := h₁, toks := s.toks + ([] : List (Str × Value)).length } → s₃.heap.get? it = some o₀ := by
    rintro s₃ rfl
    obtain ⟨_, _, _, _, _, _, N, _⟩ := R4
    exact (N _ (.head _)).1
  exact codeAny_compStart_list (loop _ rfl) (again o₀ _ _ _ h0 (st _ rfl) (loop _ rfl))
end
section
variable {F : Fx}
theorem comp_eval {c : Cx} {x : Str} {xs : List Str} {is : List Nat} {scope : Scope} (co : CompOk F scope x xs is) {px pos : Pos} {ifs : List Expr} {iter elt : Expr} {l : List V} {hp : HP} {fr : List (Addr × Obj)} {s : Shared}
    (R : Rep c F.names l hp fr s.heap) (hs : ∀ v, foldedSetIterable iter c.env v = pure v) (hcells : cellsB l is = true) {P E : Value → Shared → Prop}
    (h : wpAny (model c.g.prog c.g.w) c.A (eval iter c.env) (fun xv s₁ => wpAny (model c.g.prog c.g.w) c.A (pyIter xv) (fun it s₂ => wpAny (model c.g.prog c.g.w) c.A (newList []) (fun acc s₃ =>
      wpAny (model c.g.prog c.g.w) c.A (newFunctionEnv scope c.env.globals (kclOf scope (lookOf l xs is)) [] c.env.qual none .none (some c.env)) (fun cenv s₄ =>
      codeAny (model c.g.prog c.g.w) c.A (.compStart (.ListComp elt [⟨.Name x px, iter, ifs, 0⟩] scope pos) 0 it acc { cenv with scope := relabel scope c.env }) (compPost (model c.g.prog c.g.w) c.A E none P acc cenv.locals) s₄) E s₃) E s₂) E s₁) E s) :
    wpAny (model c.g.prog c.g.w) c.A (eval (.ListComp elt [⟨.Name x px, iter, ifs, 0⟩] scope pos) c.env) P E s := by
  rw [eval_ListComp]
  exact wpAny_comprehension_free (use := none) rfl hs (closureFor_list _ (comp_look co R hcells)) co.kind co.names h
/-- a comprehension run up to its end, whatever is done with its list -/
noncomputable def CompRun (F : Fx) (x : Str) (xs : List Str) (is : List Nat) (scope : Scope) (px pos : Pos) (ifs : List Expr) (iter elt : Expr) (m : ME) : Prop := ∀ c d, F.Ok → c.g = F.g → SCF c F → c.Ok → room c d → c.cp = none → ∀ l hp Q X, ev F.g d m l hp Q X →
  cellsB l is = true ∧ ∀ (fr : List (Addr × Obj)) (s : Shared) (E : Value → Shared → Prop) (RR : Value → Addr → Result → Shared → Prop), Rep c F.names l hp fr s.heap → XP c F.names l fr X E s →
    (∀ D C oC m₂ hp' h' tk', Q (.ref D) hp' → NsObj oC m₂ → Rep c F.names l hp' ((C, oC) :: fr) h' → (∀ p ∈ fr, p.1 ≠ C) → RR (.ref D) C (.ok .next) { s with heap := h', toks := tk' }) →
    wpAny (model c.g.prog c.g.w) c.A (eval iter c.env) (fun xv s₁ => wpAny (model c.g.prog c.g.w) c.A (pyIter xv) (fun it s₂ => wpAny (model c.g.prog c.g.w) c.A (newList []) (fun acc s₃ =>
      wpAny (model c.g.prog c.g.w) c.A (newFunctionEnv scope c.env.globals (kclOf scope (lookOf l xs is)) [] c.env.qual none .none (some c.env)) (fun cenv s₄ =>
      codeAny (model c.g.prog c.g.w) c.A (.compStart (.ListComp elt [⟨.Name x px, iter, ifs, 0⟩] scope pos) 0 it acc { cenv with scope := relabel scope c.env }) (RR acc cenv.locals) s₄) E s₃) E s₂) E s₁) E s
theorem se_comp {x : Str} {xs : List Str} {is : List Nat} {scope : Scope} (co : CompOk F scope x xs is) (ht : F.top = true) {px pos : Pos} {ifs : List Expr} {iter elt : Expr} {m : ME} (hse : ∀ env v, foldedSetIterable iter env v = pure v)
    (h : CompRun F x xs is scope px pos ifs iter elt m) : SE F (.ListComp elt [⟨.Name x px, iter, ifs, 0⟩] scope pos) m := by
  intro c d FO hg hsc ok rm l hp Q X hev fr s P E R hP hX
  have hcp := hsc.2.1 ht
  obtain ⟨hcells, h⟩ := h c d FO hg hsc ok rm hcp l hp Q X hev
  refine comp_eval co R (hse _) hcells (h fr s E _ R hX fun D C oC m₂ hp' h' tk' hq hNs R1 hfC => ?_)
  obtain ⟨es1, ep1, hd1, hk1', hr1⟩ := hNs
  have hgC : h'.get? C = some oC := by obtain ⟨_, _, _, _, _, _, N, _⟩ := id R1; exact (N _ (.head _)).1
  refine ⟨m₂, ⟨oC, es1, ep1, hgC, hd1, hk1', hr1⟩, fun h'' hs'' => ?_⟩
  exact hP (.ref D) (.ref D) _ h'' _ hq rfl (R1.drop (noC hcp) (fun b ob hne e => (hs''.2 b hne).trans e) hfC)
/-- over a list -/
theorem cr_compL {x : Str} {xs : List Str} {is : List Nat} {scope : Scope} (co : CompOk F scope x xs is) {px pos : Pos} {ifs : List Expr} {iter elt : Expr} {mi mc me : ME} (hse : setE iter = false) (hit : SE F iter mi)
    (hc : STs (F.inner scope (x :: xs)) ifs mc) (he : SE (F.inner scope (x :: xs)) elt me) : CompRun F x xs is scope px pos ifs iter elt (.compL mi mc me is) := by
  intro c d FO hg hsc ok rm hcp l hp Q X hev
  obtain ⟨hcells, hev⟩ := hev
  refine ⟨hcells, fun fr s E RR R hX hRR => ?_⟩
  · refine (hit c d FO hg hsc ok rm l hp _ X hev fr s _ E R (fun v y h1 hh tk hq hy R1 => ?_) hX)
    cases v with
    | ref r =>
      cases absV_ref hy
      obtain ⟨vs, e1, hfit, hq⟩ := hq
      obtain ⟨items, hitems, hl⟩ := R1.listI ok e1
      have hex : ∀ h : HP, h r = h1 r → listAt (h r) = some vs := fun h e => by rw [e]; exact e1
      refine wpAny_pyIter_list hl ?_
      refine compG FO hg hsc ok hcp rm co hc he (K := fun h => h r = h1 r) (fun k o => o.cls = .type "list_iterator" ∧ o.data = .fields #[.ref r, .int k 0]) (fun o s' P E ho hg' hP => ?_) ?_ ⟨rfl, rfl⟩ (R1.push ok _ rfl) (R1.fresh ok).2 hcells hq hRR
      · exact wpAny_pyIter_listiter (l := r) (i := 0) ⟨o, hg', ho⟩ hP
      · intro k l1 hp1 o1 h2 s' fr' P1 E1 hKh hO hs R2 hfr hitem hend hkl
        subst hs
        have hIt : s'.heap.IsListIter _ r k := ⟨o1, (by obtain ⟨_, _, _, _, _, _, N, _⟩ := id R2; exact (N _ (.head _)).1), hO⟩
        obtain ⟨items2, hitems2, hl3⟩ := R2.listI ok (hex hp1 hKh)
        have hsz : items2.size = vs.length := by rw [← hitems2]; simp
        by_cases hlt : k < vs.length
        · refine wpAny_pyNext_list_item hIt hl3 (x := items2[k]) (by simp [hsz, hlt]) fun h' hit' hs' => ?_
          obtain ⟨o', ho', hc'⟩ := hit'
          refine hitem _ (absV items2[k]) h' _ o' ?_ rfl hc' (R2.iter (noC hcp) (fun b ob hne e => (hs'.2 b hne).trans e) ho' hfr)
          have e9 : vs[k]? = (items2.toList.map absV)[k]? := by rw [hitems2]
          rw [e9]; simp [hsz, hlt]
        · refine wpAny_pyNext_list_end (handled_none ok) hIt hl3 (by simp [hsz]; omega) fun h' he => ?_
          exact hend (by omega) h' _ (R2.drop (noC hcp) (fun b ob hne e => he b ob hne e) hfr)
    | _ => exact hq.elim
theorem comp_range {c : Cx} {d : Nat} (FO : F.Ok) (hg : c.g = F.g) (hsc : SCF c F) (ok : c.Ok) (hcp : c.cp = none) (rm : room c d)
    {x : Str} {xs : List Str} {is : List Nat} {scope : Scope} (co : CompOk F scope x xs is) {px pos : Pos} {ifs : List Expr} {iter elt : Expr} {mc me : ME}
    (hc : STs (F.inner scope (x :: xs)) ifs mc) (he : SE (F.inner scope (x :: xs)) elt me) {Q : V → HP → Prop} {l : List V} {hp : HP} {fr : List (Addr × Obj)} {s : Shared}
    {lo hi' st : Int} {r : Addr} {t u v : Tok} (hsm : Builtin.Range.small lo hi' st = true) (R : Rep c F.names l hp fr s.heap) (hr : IsRange s.heap r lo hi' st t u v) (hcells : cellsB l is = true)
    (hK : compI (fun l h R => evT F.g d mc l h R fun _ _ => False) (fun l h R => ev F.g d me l h R fun _ _ => False) (fun v R _ => R (v :: capsV l is)) ((List.range (Builtin.Range.rangeSize lo hi' st).toNat).map fun (k : Nat) => V.int (lo + k * st)) hp (fun _ => True) Q)
    {E : Value → Shared → Prop} {RR : Value → Addr → Result → Shared → Prop}
    (hRR : ∀ D C oC m₂ hp' h' tk', Q (.ref D) hp' → NsObj oC m₂ → Rep c F.names l hp' ((C, oC) :: fr) h' → (∀ p ∈ fr, p.1 ≠ C) → RR (.ref D) C (.ok .next) { s with heap := h', toks := tk' }) :
    wpAny (model c.g.prog c.g.w) c.A (pyIter (.ref r)) (fun it s₂ => wpAny (model c.g.prog c.g.w) c.A (newList []) (fun acc s₃ =>
      wpAny (model c.g.prog c.g.w) c.A (newFunctionEnv scope c.env.globals (kclOf scope (lookOf l xs is)) [] c.env.qual none .none (some c.env)) (fun cenv s₄ =>
      codeAny (model c.g.prog c.g.w) c.A (.compStart (.ListComp elt [⟨.Name x px, iter, ifs, 0⟩] scope pos) 0 it acc { cenv with scope := relabel scope c.env }) (RR acc cenv.locals) s₄) E s₃) E s₂) E s := by
  refine wpAny_pyIter_range hr hsm ?_
  have R0 := R.push ok { cls := Value.type "range_iterator", data := Data.fields #[rawInt lo, rawInt (Builtin.Range.rangeSize lo hi' st), rawInt st] } rfl
  have hsz : 0 ≤ Builtin.Range.rangeSize lo hi' st := by
    unfold Builtin.Range.rangeSize
    split <;> split <;> first | omega | skip
    · exact Int.add_nonneg (Int.ediv_nonneg (by omega) (by omega)) (by omega)
    · rename_i h1 h2
      by_cases hz : st = 0
      · subst hz; simp
      · exact Int.add_nonneg (Int.ediv_nonneg (by omega) (by omega)) (by omega)
  refine compG FO hg hsc ok hcp rm co hc he (K := fun _ => True) (fun k o => o = { cls := Value.type "range_iterator", data := Data.fields #[rawInt (lo + k * st), rawInt (Builtin.Range.rangeSize lo hi' st - k), rawInt st] }) (fun o s' P E ho hg' hP => ?_) ?_ ?_ R0 (R.fresh ok).2 hcells hK hRR
  · subst ho
    exact wpAny_pyIter_rangeiter hg' hP
  · intro k l1 hp1 o1 h1 s' fr' P1 E1 _ hO hs R1 hfr hitem hend hkl
    subst hO
    subst hs
    simp only [List.length_map, List.length_range] at hkl hend
    obtain ⟨g, T, m1, Fm, lo1, H, N, D⟩ := id R1
    have hit := (N _ (.head _)).1
    by_cases hlt : k < (Builtin.Range.rangeSize lo hi' st).toNat
    · refine wpAny_pyNext_range_item (it := s.heap.objs.size) hit (by omega) fun h' hit' hs' => ?_
      refine hitem _ (.int (lo + k * st)) h' _ _ (by simp [hlt]) rfl ?_ (R1.iter (noC hcp) (fun b ob hne e => (hs'.2 b hne).trans e) hit' hfr)
      congr 4
      · rw [show ((k + 1 : Nat) : Int) * st = (k : Int) * st + st by push_cast; rw [Int.add_mul, Int.one_mul], Int.add_assoc]
      · rw [show Builtin.Range.rangeSize lo hi' st - ((k + 1 : Nat) : Int) = Builtin.Range.rangeSize lo hi' st - k - 1 by push_cast; omega]
    · refine wpAny_pyNext_range_end (it := s.heap.objs.size) (handled_none ok) hit (by omega) fun h' he => ?_
      exact hend (by omega) h' _ (R1.drop (noC hcp) (fun b ob hne e => he b ob hne e) hfr)
  · simp
noncomputable abbrev RgQ (F : Fx) (d : Nat) (mc me : ME) (is : List Nat) (l : List V) (Q : V → HP → Prop) : Int → Int → Int → HP → Prop := fun x y z h3 => z ≠ 0 ∧ Builtin.Range.small x y z = true ∧
  compI (fun l h R => evT F.g d mc l h R fun _ _ => False) (fun l h R => ev F.g d me l h R fun _ _ => False) (fun v R _ => R (v :: capsV l is)) ((List.range (Builtin.Range.rangeSize x y z).toNat).map fun (k : Nat) => V.int (x + k * z)) h3 (fun _ => True) Q
theorem cr_compR1 {x r : Str} {xs : List Str} {is : List Nat} {scope : Scope} (co : CompOk F scope x xs is) {px pos pr pc : Pos} {ifs : List Expr} {a elt : Expr} {ma mc me : ME}
    (hre : r = "range") (hr : r ∈ F.bt) (hkr : F.sc.names.lookup r = some .globalImplicit) (hn : notStar a = true) (ha : SE F a ma)
    (hc : STs (F.inner scope (x :: xs)) ifs mc) (he : SE (F.inner scope (x :: xs)) elt me) : CompRun F x xs is scope px pos ifs (.Call (.Name r pr) [a] [] pc) elt (.compR (.int 0) ma (.int 1) mc me is) := by
  intro c d FO hg hsc ok rm hcp l hp Q X hev
  obtain ⟨hcells, hev⟩ := hev
  refine ⟨hcells, fun fr s E RR R hX hRR => ?_⟩
  refine (se_rangeArgs1 hre hr hkr hn ha FO hg hsc ok rm (X := X) (Q := RgQ F d mc me is l Q) ?_ R ?_ hX)
  · refine Eq.mp ?_ hev
    show ev F.g d ma l hp _ X = ev F.g d ma l hp _ X
    congr 1
    funext v h1
    show (match V.int 0, v, V.int 1 with | .int x, .int y, .int z => _ | _, _, _ => False) = _
    cases v <;> rfl
  · intro lo hi' st hp' h' tk' r' t u v hq R' hr'
    exact comp_range FO hg hsc ok hcp rm co hc he hq.2.1 R' hr' hcells hq.2.2 hRR
theorem cr_compR2 {x r : Str} {xs : List Str} {is : List Nat} {scope : Scope} (co : CompOk F scope x xs is) {px pos pr pc : Pos} {ifs : List Expr} {a b elt : Expr} {ma mb mc me : ME}
    (hre : r = "range") (hr : r ∈ F.bt) (hkr : F.sc.names.lookup r = some .globalImplicit) (hn : notStar a = true) (ha : SE F a ma) (hn2 : notStar b = true) (hb : SE F b mb)
    (hc : STs (F.inner scope (x :: xs)) ifs mc) (he : SE (F.inner scope (x :: xs)) elt me) : CompRun F x xs is scope px pos ifs (.Call (.Name r pr) [a, b] [] pc) elt (.compR ma mb (.int 1) mc me is) := by
  intro c d FO hg hsc ok rm hcp l hp Q X hev
  obtain ⟨hcells, hev⟩ := hev
  refine ⟨hcells, fun fr s E RR R hX hRR => ?_⟩
  refine (se_rangeArgs2 hre hr hkr hn ha hn2 hb FO hg hsc ok rm (X := X) (Q := RgQ F d mc me is l Q) ?_ R ?_ hX)
  · refine Eq.mp ?_ hev
    show ev F.g d ma l hp _ X = ev F.g d ma l hp _ X
    congr 1
    funext v h1
    show ev F.g d mb l h1 _ X = ev F.g d mb l h1 _ X
    congr 1
    funext w h2
    show (match v, w, V.int 1 with | .int x, .int y, .int z => _ | _, _, _ => False) = _
    cases v <;> cases w <;> rfl
  · intro lo hi' st hp' h' tk' r' t u v hq R' hr'
    exact comp_range FO hg hsc ok hcp rm co hc he hq.2.1 R' hr' hcells hq.2.2 hRR
theorem cr_compR3 {x r : Str} {xs : List Str} {is : List Nat} {scope : Scope} (co : CompOk F scope x xs is) {px pos pr pc : Pos} {ifs : List Expr} {a b f elt : Expr} {ma mb mf mc me : ME}
    (hre : r = "range") (hr : r ∈ F.bt) (hkr : F.sc.names.lookup r = some .globalImplicit) (hn : notStar a = true) (ha : SE F a ma) (hn2 : notStar b = true) (hb : SE F b mb) (hn3 : notStar f = true) (hf : SE F f mf)
    (hc : STs (F.inner scope (x :: xs)) ifs mc) (he : SE (F.inner scope (x :: xs)) elt me) : CompRun F x xs is scope px pos ifs (.Call (.Name r pr) [a, b, f] [] pc) elt (.compR ma mb mf mc me is) := by
  intro c d FO hg hsc ok rm hcp l hp Q X hev
  obtain ⟨hcells, hev⟩ := hev
  refine ⟨hcells, fun fr s E RR R hX hRR => ?_⟩
  refine (se_rangeArgs3 hre hr hkr hn ha hn2 hb hn3 hf FO hg hsc ok rm (X := X) (Q := fun x y z h3 => Builtin.Range.small x y z = true ∧
    compI (fun l h R => evT F.g d mc l h R fun _ _ => False) (fun l h R => ev F.g d me l h R fun _ _ => False) (fun v R _ => R (v :: capsV l is)) ((List.range (Builtin.Range.rangeSize x y z).toNat).map fun (k : Nat) => V.int (x + k * z)) h3 (fun _ => True) Q) ?_ R ?_ hX)
  · exact hev
  · intro lo hi' st hp' h' tk' r' t u v hq R' hr'
    exact comp_range FO hg hsc ok hcp rm co hc he hq.1 R' hr' hcells hq.2 hRR
end
/-! functions with cells -/
/-- the names of a frame enter: those that are cells get a place of the store -/
noncomputable def enterC : List (Bool × V) → HP → (List V → HP → Prop) → Prop
  | [], hp, k => k [] hp
  | (false, v) :: r, hp, k => enterC r hp fun l h => k (v :: l) h
  | (true, v) :: r, hp, k => ∀ a, hp a = none → enterC r (hset hp a (.cell v)) fun l h => k (.cell a :: l) h
noncomputable def cellNames : List Str → List (Bool × V) → List Str
  | x :: ns, (true, _) :: ps => x :: cellNames ns ps
  | _ :: ns, (false, _) :: ps => cellNames ns ps
  | _, _ => []
theorem enterS (look : Str → Addr) : ∀ (ns : List Str) (ps : List (Bool × V)) (hp : HP) (k : List V → HP → Prop), ns.length = ps.length → enterC ps hp k → (∀ x ∈ cellNames ns ps, hp (look x) = none) →
    ((cellNames ns ps).map look).Nodup → ∃ l' hp', k l' hp' ∧ l'.length = ps.length ∧ (∀ (i : Nat) (x : Str) (b : Bool) (v : V), ns[i]? = some x → ps[i]? = some (b, v) → l'[i]? = some (if b = true then V.cell (look x) else v)) ∧
      (∀ (i : Nat) (x : Str) (v : V), ns[i]? = some x → ps[i]? = some (true, v) → hp' (look x) = some (O.cell v)) ∧ (∀ a, a ∉ (cellNames ns ps).map look → hp' a = hp a)
  | [], [], hp, k, _, h, _, _ => ⟨[], hp, h, rfl, by simp, by simp, fun _ _ => rfl⟩
  | [], _ :: _, _, _, hl, _, _, _ => by simp at hl
  | _ :: _, [], _, _, hl, _, _, _ => by simp at hl
  | x :: ns, (false, v) :: ps, hp, k, hl, h, hf, nd => by
    obtain ⟨l', hp', h1, h2, h3, h4, h5⟩ := enterS look ns ps hp _ (by simpa using hl) h hf nd
    refine ⟨v :: l', hp', h1, by simp [h2], ?_, ?_, h5⟩
    · intro i y b w hy hw
      cases i with
      | zero => simp at hy hw; obtain ⟨rfl, rfl⟩ := hw; simp
      | succ i => simpa using h3 i y b w (by simpa using hy) (by simpa using hw)
    · intro i y w hy hw
      cases i with
      | zero => simp at hw
      | succ i => exact h4 i y w (by simpa using hy) (by simpa using hw)
  | x :: ns, (true, v) :: ps, hp, k, hl, h, hf, nd => by
    have hx := hf x (.head _)
    rw [show cellNames (x :: ns) ((true, v) :: ps) = x :: cellNames ns ps from rfl, List.map_cons, List.nodup_cons] at nd
    obtain ⟨l', hp', h1, h2, h3, h4, h5⟩ := enterS look ns ps (hset hp (look x) (.cell v)) _ (by simpa using hl) (h (look x) hx) (fun y hy => by
      have e2 : look y ≠ look x := fun e => nd.1 (by rw [← e]; exact List.mem_map_of_mem hy)
      rw [hset_ne e2]; exact hf y (.tail _ hy)) nd.2
    refine ⟨.cell (look x) :: l', hp', h1, by simp [h2], ?_, ?_, ?_⟩
    · intro i y b w hy hw
      cases i with
      | zero => simp at hy hw; obtain ⟨rfl, rfl⟩ := hw; subst hy; simp
      | succ i => simpa using h3 i y b w (by simpa using hy) (by simpa using hw)
    · intro i y w hy hw
      cases i with
      | zero => simp at hy hw; subst hy hw; rw [h5 _ nd.1, hset_same]
      | succ i => exact h4 i y w (by simpa using hy) (by simpa using hw)
    · intro a ha
      rw [show cellNames (x :: ns) ((true, v) :: ps) = x :: cellNames ns ps from rfl, List.map_cons, List.mem_cons, not_or] at ha
      rw [h5 a ha.2, hset_ne ha.1]
theorem cellNames_mem : ∀ {ns : List Str} {ps : List (Bool × V)} {x : Str}, x ∈ cellNames ns ps → ∃ (i : Nat) (v : V), ns[i]? = some x ∧ ps[i]? = some (true, v)
  | [], _, _, h => by simp [cellNames] at h
  | _ :: _, [], _, h => by simp [cellNames] at h
  | y :: ns, (false, _) :: ps, x, h => by
    obtain ⟨i, v, a, b⟩ := cellNames_mem (ns := ns) (ps := ps) h
    exact ⟨i + 1, v, by simpa using a, by simpa using b⟩
  | y :: ns, (true, w) :: ps, x, h => by
    rcases List.mem_cons.mp h with rfl | h
    · exact ⟨0, w, rfl, rfl⟩
    · obtain ⟨i, v, a, b⟩ := cellNames_mem (ns := ns) (ps := ps) h
      exact ⟨i + 1, v, by simpa using a, by simpa using b⟩
theorem cellNames_sub : ∀ {ns : List Str} {ps : List (Bool × V)}, List.Sublist (cellNames ns ps) ns
  | [], _ => by simp [cellNames]
  | _ :: _, [] => by simp [cellNames]
  | _ :: ns, (false, _) :: ps => (cellNames_sub (ns := ns) (ps := ps)).cons _
  | _ :: ns, (true, _) :: ps => (cellNames_sub (ns := ns) (ps := ps)).cons_cons _
/-! the cells' places -/
theorem cellsFrom_get : ∀ (ns : List (Str × NameKind)) (n : Nat) (acc : List (Str × Addr)) (x : Str), ((x, NameKind.cell) ∈ ns ∨ x ∈ acc.map (·.1)) → x ∈ (cellsFrom n ns acc).map (·.1)
  | [], _, _, _, h => by
    rcases h with h | h
    · cases h
    · exact h
  | (y, k) :: r, n, acc, x, h => by
    unfold cellsFrom
    by_cases hk : (k == NameKind.cell) = true
    · rw [if_pos hk]
      refine cellsFrom_get r _ _ x ?_
      rcases h with h | h
      · rcases List.mem_cons.mp h with e | h
        · cases e; exact .inr (by simp)
        · exact .inl h
      · exact .inr (by rw [List.map_cons]; exact .tail _ h)
    · rw [if_neg hk]
      refine cellsFrom_get r _ _ x ?_
      rcases h with h | h
      · rcases List.mem_cons.mp h with e | h
        · cases e; exact absurd rfl hk
        · exact .inl h
      · exact .inr h
theorem cellsFrom_apart : ∀ (ns : List (Str × NameKind)) (n lo : Nat) (acc : List (Str × Addr)), lo ≤ n → (∀ p ∈ acc, lo ≤ p.2 ∧ p.2 < n) → (acc.map (·.2)).Nodup →
    ((cellsFrom n ns acc).map (·.2)).Nodup ∧ ∀ p ∈ cellsFrom n ns acc, lo ≤ p.2
  | [], _, _, _, _, h, nd => ⟨nd, fun p hp => (h p hp).1⟩
  | (y, k) :: r, n, lo, acc, hlo, h, nd => by
    unfold cellsFrom
    by_cases hk : (k == NameKind.cell) = true
    · rw [if_pos hk]
      refine cellsFrom_apart r _ lo _ (by omega) (fun p hp => ?_) ?_
      · rcases List.mem_cons.mp hp with rfl | hp
        · exact ⟨hlo, Nat.lt_succ_self _⟩
        · have := h p hp; exact ⟨this.1, Nat.lt_succ_of_lt this.2⟩
      · rw [List.map_cons, List.nodup_cons]
        refine ⟨fun hm => ?_, nd⟩
        obtain ⟨p, hp, e⟩ := List.mem_map.mp hm
        have := (h p hp).2
        rw [e] at this
        exact Nat.lt_irrefl _ this
    · rw [if_neg hk]
      exact cellsFrom_apart r _ lo _ hlo h nd
theorem bindL_get {kindOf : Str → Option NameKind} {x : Str} {v : Value} : ∀ {binds : List (Str × Value)} {m : Str → Option Value}, (binds.map (·.1)).Nodup → (x, v) ∈ binds → kindOf x = some .local → bindL kindOf binds m x = some v := by
  have keep : ∀ {binds : List (Str × Value)} {m : Str → Option Value}, x ∉ binds.map (·.1) → bindL kindOf binds m x = m x := by
    intro binds
    induction binds with
    | nil => intro m _; rfl
    | cons p r ih =>
      intro m h
      obtain ⟨n, w⟩ := p
      rw [List.map_cons, List.mem_cons, not_or] at h
      unfold bindL
      rw [ih h.2]
      split
      · exact if_neg h.1
      · rfl
  intro binds
  induction binds with
  | nil => intro m _ h; cases h
  | cons p r ih =>
    intro m nd h hk
    obtain ⟨n, w⟩ := p
    rw [List.map_cons, List.nodup_cons] at nd
    unfold bindL
    rcases List.mem_cons.mp h with e | h
    · cases e
      rw [keep nd.1, if_pos hk]
      exact if_pos rfl
    · exact ih nd.2 h hk
theorem bindC_not {kindOf : Str → Option NameKind} {x : Str} : ∀ {binds : List (Str × Value)} {m : Str → Option Value}, x ∉ binds.map (·.1) → bindC kindOf binds m x = m x := by
  intro binds
  induction binds with
  | nil => intro m _; rfl
  | cons p r ih =>
    intro m h
    obtain ⟨n, w⟩ := p
    rw [List.map_cons, List.mem_cons, not_or] at h
    unfold bindC
    rw [ih h.2]
    split
    · rfl
    · exact if_neg h.1
theorem bindC_get {kindOf : Str → Option NameKind} {x : Str} {v : Value} : ∀ {binds : List (Str × Value)} {m : Str → Option Value}, (binds.map (·.1)).Nodup → (x, v) ∈ binds → kindOf x ≠ some .local → bindC kindOf binds m x = some v := by
  intro binds
  induction binds with
  | nil => intro m _ h; cases h
  | cons p r ih =>
    intro m nd h hk
    obtain ⟨n, w⟩ := p
    rw [List.map_cons, List.nodup_cons] at nd
    unfold bindC
    rcases List.mem_cons.mp h with e | h
    · cases e
      rw [bindC_not nd.1, if_neg hk]
      exact if_pos rfl
    · exact ih nd.2 h hk
theorem cellsAre_get {cm : Str → Option Value} : ∀ {cs : List (Str × Addr)} {cells : List (Addr × Obj)}, CellsAre cm cs cells → ∀ x a, (x, a) ∈ cs → ∃ o, (a, o) ∈ cells ∧ o.data = .cell (cm x)
  | _, _, .nil, _, _, h => by cases h
  | _, _, .cons hd r, x, a, h => by
    rcases List.mem_cons.mp h with e | h
    · cases e; exact ⟨_, .head _, hd⟩
    · obtain ⟨o, h1, h2⟩ := cellsAre_get r x a h; exact ⟨o, .tail _ h1, h2⟩
theorem lookup_of_mem {x : Str} : ∀ {cs : List (Str × Addr)}, x ∈ cs.map (·.1) → ∃ a, cs.lookup x = some a ∧ (x, a) ∈ cs
  | [], h => by cases h
  | (y, b) :: r, h => by
    cases e : x == y with
    | true => exact ⟨b, by simp [List.lookup_cons, e], by rw [beq_iff_eq.mp e]; exact .head _⟩
    | false =>
      have hne : x ≠ y := by simpa using e
      obtain ⟨a, h1, h2⟩ := lookup_of_mem (cs := r) ((List.mem_cons.mp h).resolve_left hne)
      exact ⟨a, by simp [List.lookup_cons, e, h1], .tail _ h2⟩
theorem mem_of_lookup' {α : Type} {x : Str} {k : α} : ∀ {l : List (Str × α)}, l.lookup x = some k → (x, k) ∈ l
  | [], h => by cases h
  | (y, b) :: r, h => by
    rw [List.lookup_cons] at h
    cases q : x == y with
    | true => rw [q] at h; cases h; rw [beq_iff_eq.mp q]; exact .head _
    | false => rw [q] at h; exact .tail _ (mem_of_lookup' h)
noncomputable def cellKs (sc : Scope) (names : List Str) : List Bool := names.map fun x => sc.names.lookup x == some .cell
noncomputable def unC (names : List Str) (bargs : List (Str × V)) : List V := bargs.map (·.2) ++ List.replicate (names.length - bargs.length) V.unb
noncomputable def fnOkC (K : Frag) (f : Addr) (names : List Str) : Bool := match K.lookup f with
  | some ⟨_, _, .func fd, _⟩ => fd.closure.isEmpty && fd.globals == mainGlobals && fd.builtins == builtinsNs && codeIn K fd.code fd.qualname && !fd.scope.isCoroutine && !fd.scope.isGenerator &&
      (fd.scope.kind == .function) && decide ((cellsFrom 0 fd.scope.names []).map (·.1)).Nodup && (match fd.body with | .stmts _ => true | _ => false) && names.all fun x => fd.scope.names.lookup x == some .local || fd.scope.names.lookup x == some .cell
  | _ => false
theorem unC_get {names : List Str} {bargs : List (Str × V)} {i : Nat} {x : Str} {v : V} (hnm : names.take bargs.length = bargs.map (·.1)) (hx : names[i]? = some x) (hv : (unC names bargs)[i]? = some v) :
    (i < bargs.length ∧ bargs[i]? = some (x, v)) ∨ (bargs.length ≤ i ∧ v = .unb) := by
  unfold unC at hv
  rcases Nat.lt_or_ge i bargs.length with hi | hi
  · rw [List.getElem?_append_left (by simpa using hi)] at hv
    rw [List.getElem?_map] at hv
    have h2 : (names.take bargs.length)[i]? = some x := by rw [List.getElem?_take, if_pos hi]; exact hx
    rw [hnm, List.getElem?_map] at h2
    cases e : bargs[i]? with
    | none => rw [e] at hv; cases hv
    | some p =>
      rw [e] at hv h2
      simp only [Option.map_some, Option.some.injEq] at hv h2
      refine .inl ⟨hi, ?_⟩
      rw [← hv, ← h2]
  · rw [List.getElem?_append_right (by simpa using hi), List.getElem?_replicate] at hv
    split at hv
    · cases hv; exact .inr ⟨hi, rfl⟩
    · cases hv
/-- the frame of a def with cells -/
theorem enter_rep {F : Fx} (FO : F.Ok) {c' : Cx} {sc : Scope} {L' : Addr} {cm m : Str → Option Value} {kindOf : Str → Option NameKind} {cells news0 fr : List (Addr × Obj)} {h₁ : Heap} {hp : HP} {binds : List (Str × Value)} {bargs : List (Str × V)}
    (hcl : c'.cl = cellsFrom (L' + 1) sc.names []) (hL : c'.L = L') (hcp : c'.cp = none) (hsc : sc = F.sc) (hko : kindOf = fun x => sc.names.lookup x) (hm : m = bindL kindOf binds fun _ => none) (hcm : cm = bindC kindOf binds fun _ => none)
    (F' : Fr c'.h₀ L' h₁ m) (N' : News c'.h₀ L' h₁ (cells ++ (news0 ++ fr))) (CA : CellsAre cm (cellsFrom (L' + 1) sc.names []) cells) (H : HpN c' hp news0) (hlt : ∀ p ∈ news0 ++ fr, p.1 < L') (D : ∀ p ∈ fr, hp p.1 = none)
    (hst : ∀ b o, c'.base.get? b = some o → c'.h₀.get? b = some o) (hbs : (binds.map fun p => (p.1, absV p.2)) = bargs) (hnm : F.names.take bargs.length = bargs.map (·.1))
    (hnl : ∀ x ∈ F.names, sc.names.lookup x = some .local ∨ sc.names.lookup x = some .cell) {k : List V → HP → Prop} (h : enterC ((cellKs F.sc F.names).zip (unC F.names bargs)) hp k) :
    ∃ l' hp', k l' hp' ∧ Rep c' F.names l' hp' fr h₁ := by
  subst hsc
  have hlen : bargs.length ≤ F.names.length := by
    have := congrArg List.length hnm
    simp only [List.length_take, List.length_map] at this
    omega
  have hbl : binds.length = bargs.length := by rw [← hbs]; simp
  have hb1 : bargs.map (·.1) = binds.map (·.1) := by rw [← hbs]; simp
  have ndb : (binds.map (·.1)).Nodup := by rw [← hb1, ← hnm]; exact List.Sublist.nodup (List.take_sublist _ _) FO.nd
  have hul : (unC F.names bargs).length = F.names.length := by unfold unC; simp; omega
  have hkl : (cellKs F.sc F.names).length = F.names.length := by unfold cellKs; simp
  have hpl : F.names.length = ((cellKs F.sc F.names).zip (unC F.names bargs)).length := by simp [hul, hkl]
  have hpg : ∀ (i : Nat) (x : Str) (b : Bool) (v : V), F.names[i]? = some x → ((cellKs F.sc F.names).zip (unC F.names bargs))[i]? = some (b, v) → b = (F.sc.names.lookup x == some .cell) ∧ (unC F.names bargs)[i]? = some v := by
    intro i x b v hx hv
    rw [List.getElem?_zip_eq_some] at hv
    obtain ⟨h1, h2⟩ := hv
    unfold cellKs at h1
    rw [List.getElem?_map, hx] at h1
    exact ⟨(Option.some.inj h1).symm, h2⟩
  let look : Str → Addr := fun x => ((cellsFrom (L' + 1) F.sc.names []).lookup x).getD 0
  have hlook : ∀ x, F.sc.names.lookup x = some .cell → (cellsFrom (L' + 1) F.sc.names []).lookup x = some (look x) ∧ (x, look x) ∈ cellsFrom (L' + 1) F.sc.names [] := by
    intro x hx
    obtain ⟨a, h1, h2⟩ := lookup_of_mem (cellsFrom_get F.sc.names (L' + 1) [] x (.inl (mem_of_lookup' hx)))
    have : look x = a := by show ((cellsFrom (L' + 1) F.sc.names []).lookup x).getD 0 = a; rw [h1]; rfl
    rw [this]; exact ⟨h1, h2⟩
  obtain ⟨ndA, hge⟩ := cellsFrom_apart F.sc.names (L' + 1) (L' + 1) [] (Nat.le_refl _) (fun _ h => nomatch h) List.nodup_nil
  have isC : ∀ x ∈ cellNames F.names ((cellKs F.sc F.names).zip (unC F.names bargs)), F.sc.names.lookup x = some .cell := by
    intro x hx
    obtain ⟨i, v, h1, h2⟩ := cellNames_mem hx
    have := (hpg i x true v h1 h2).1
    simpa using this.symm
  have hobj : ∀ x, F.sc.names.lookup x = some .cell → ∃ o, (look x, o) ∈ cells ∧ o.data = .cell (cm x) := fun x hx => cellsAre_get CA x _ (hlook x hx).2
  have hnew : ∀ x, F.sc.names.lookup x = some .cell → hp (look x) = none := by
    intro x hx
    obtain ⟨o, ho, _⟩ := hobj x hx
    have hgt := hge _ (hlook x hx).2
    cases q : hp (look x) with
    | none => rfl
    | some o' =>
      have := H.2 _ _ q
      cases o' with
      | ro vs =>
        obtain ⟨it, ⟨ob, hb, _⟩, _⟩ := this
        have h0 := (N' _ (List.mem_append_left _ ho)).2.2
        rw [hst _ _ hb] at h0; cases h0
      | list vs => obtain ⟨ob, hb, _⟩ := this; exact absurd (hlt _ (List.mem_append_left _ hb)) (Nat.not_lt.mpr (Nat.le_of_succ_le hgt))
      | tup vs => obtain ⟨ob, hb, _⟩ := this; exact absurd (hlt _ (List.mem_append_left _ hb)) (Nat.not_lt.mpr (Nat.le_of_succ_le hgt))
      | cell vs => obtain ⟨ob, hb, _⟩ := this; exact absurd (hlt _ (List.mem_append_left _ hb)) (Nat.not_lt.mpr (Nat.le_of_succ_le hgt))
      | rng _ _ _ => obtain ⟨ob, hb, _⟩ := this; exact absurd (hlt _ (List.mem_append_left _ hb)) (Nat.not_lt.mpr (Nat.le_of_succ_le hgt))
      | dict _ => obtain ⟨ob, hb, _⟩ := this; exact absurd (hlt _ (List.mem_append_left _ hb)) (Nat.not_lt.mpr (Nat.le_of_succ_le hgt))
  have ndl : ((cellNames F.names ((cellKs F.sc F.names).zip (unC F.names bargs))).map look).Nodup := by
    have nd0 : (cellNames F.names ((cellKs F.sc F.names).zip (unC F.names bargs))).Nodup := List.Sublist.nodup cellNames_sub FO.nd
    refine List.pairwise_map.mpr (List.Pairwise.imp_of_mem (fun {x y} hx hy hne e => hne ?_) nd0)
    have h1 := (hlook x (isC x hx)).2
    have h2 := (hlook y (isC y hy)).2
    rw [e] at h1
    have key : ∀ (cs : List (Str × Addr)) (a : Addr), (cs.map (·.2)).Nodup → (x, a) ∈ cs → (y, a) ∈ cs → x = y := by
      intro cs a
      induction cs with
      | nil => intro _ h; cases h
      | cons p r ih =>
        intro nd g1 g2
        rw [List.map_cons, List.nodup_cons] at nd
        rcases List.mem_cons.mp g1 with e1 | g1 <;> rcases List.mem_cons.mp g2 with e2 | g2
        · exact (Prod.mk.inj (e1.trans e2.symm)).1
        · exact absurd (by rw [← e1]; exact List.mem_map_of_mem (f := (·.2)) g2) nd.1
        · exact absurd (by rw [← e2]; exact List.mem_map_of_mem (f := (·.2)) g1) nd.1
        · exact ih nd.2 g1 g2
    exact key _ _ ndA h1 h2
  obtain ⟨l', hp', hk, hl', hget, hcell, hrest⟩ := enterS look F.names _ hp k hpl h (fun x hx => hnew x (isC x hx)) ndl
  have bget : ∀ (i : Nat) (x : Str) (v : V), bargs[i]? = some (x, v) → ∃ val, (x, val) ∈ binds ∧ absV val = v := by
    intro i x v hb
    rw [← hbs, List.getElem?_map] at hb
    cases e : binds[i]? with
    | none => rw [e] at hb; cases hb
    | some p =>
      rw [e] at hb
      simp only [Option.map_some, Option.some.injEq, Prod.mk.injEq] at hb
      exact ⟨p.2, by rw [← hb.1]; exact List.mem_of_getElem? e, hb.2⟩
  refine ⟨l', hp', hk, ?_⟩
  refine Rep.of (news := cells ++ news0) KtsTurn.refl (by rw [hL]; exact hm ▸ F') ((LocX.plain hcp).mpr ?_) ⟨?_, ?_⟩ (by rw [hL, List.append_assoc]; exact N') ?_
  · intro i x v hx hv hn
    have hi : i < F.names.length := (List.getElem?_eq_some_iff.mp hx).1
    obtain ⟨⟨b, w⟩, hw⟩ : ∃ p, ((cellKs F.sc F.names).zip (unC F.names bargs))[i]? = some p := ⟨_, List.getElem?_eq_getElem (by rw [← hpl]; exact hi)⟩
    obtain ⟨hb, hu⟩ := hpg i x b w hx hw
    rw [hget i x b w hx hw] at hv
    rcases hnl x (List.mem_of_getElem? hx) with hk | hk
    · have : b = false := by rw [hb, hk]; rfl
      subst this
      simp only [Bool.false_eq_true, if_false, Option.some.injEq] at hv
      subst hv
      rcases unC_get hnm hx hu with ⟨_, hb'⟩ | ⟨_, e⟩
      · obtain ⟨val, h1, h2⟩ := bget i x w hb'
        exact .inr ⟨fun a e => absV_cell (h2.trans e), val, bindL_get ndb h1 (by rw [hko]; exact hk), h2⟩
      · exact absurd e hn
    · have : b = true := by rw [hb, hk]; rfl
      subst this
      simp only [if_true, Option.some.injEq] at hv
      exact .inl ⟨look x, hv.symm, by rw [hcl]; exact (hlook x hk).1⟩
  · obtain ⟨Dm, hD⟩ := H.1
    refine ⟨Dm ++ (cellNames F.names ((cellKs F.sc F.names).zip (unC F.names bargs))).map look, fun a o ho => ?_⟩
    by_cases q : a ∈ (cellNames F.names ((cellKs F.sc F.names).zip (unC F.names bargs))).map look
    · exact List.mem_append_right _ q
    · rw [hrest a q] at ho; exact List.mem_append_left _ (hD a o ho)
  · intro a o ho
    by_cases q : a ∈ (cellNames F.names ((cellKs F.sc F.names).zip (unC F.names bargs))).map look
    · obtain ⟨x, hx, rfl⟩ := List.mem_map.mp q
      obtain ⟨i, v, h1, h2⟩ := cellNames_mem hx
      have hv := hcell i x v h1 h2
      have ho := ho.symm.trans hv
      obtain rfl := Option.some.inj ho
      obtain ⟨ob, hob, hd⟩ := hobj x (isC x hx)
      refine ⟨ob, List.mem_append_left _ hob, cm x, hd, ?_⟩
      have hu := (hpg i x true v h1 h2).2
      have hnk : kindOf x ≠ some .local := by rw [hko]; show F.sc.names.lookup x ≠ _; rw [isC x hx]; decide
      rcases unC_get hnm h1 hu with ⟨_, hb'⟩ | ⟨hge', e⟩
      · obtain ⟨val, g1, g2⟩ := bget i x v hb'
        rw [hcm, bindC_get ndb g1 hnk]
        exact ⟨fun e => by rw [e] at g2; cases val <;> simp [absV] at g2, g2⟩
      · rw [hcm, bindC_not (fun hm' => ?_)]
        · exact e
        · rw [← hb1, ← hnm] at hm'
          obtain ⟨j, hj, e'⟩ := List.mem_iff_getElem.mp hm'
          rw [List.length_take] at hj
          have g1 : F.names[j]? = some x := by
            rw [List.getElem_take] at e'
            rw [← e']; exact List.getElem?_eq_getElem _
          have g2 := List.getElem?_eq_some_iff.mp g1
          have g3 := List.getElem?_eq_some_iff.mp h1
          obtain ⟨a1, b1⟩ := g2
          obtain ⟨a2, b2⟩ := g3
          have := (List.getElem_inj FO.nd).mp (b1.trans b2.symm)
          omega
    · rw [hrest a q] at ho
      have := H.2 a o ho
      cases o with
      | ro vs => exact this
      | list vs => obtain ⟨ob, h1, h2⟩ := this; exact ⟨ob, List.mem_append_right _ h1, h2⟩
      | tup vs => obtain ⟨ob, h1, h2⟩ := this; exact ⟨ob, List.mem_append_right _ h1, h2⟩
      | cell vs => obtain ⟨ob, h1, h2⟩ := this; exact ⟨ob, List.mem_append_right _ h1, h2⟩
      | rng _ _ _ => obtain ⟨ob, h1, h2⟩ := this; exact ⟨ob, List.mem_append_right _ h1, h2⟩
      | dict _ => obtain ⟨ob, h1, h2⟩ := this; exact ⟨ob, List.mem_append_right _ h1, h2⟩
  · intro p hp'
    rw [hrest]
    · exact D p hp'
    · intro q
      obtain ⟨x, hx, e⟩ := List.mem_map.mp q
      have hgt := hge _ (hlook x (isC x hx)).2
      have := hlt p (List.mem_append_right _ hp')
      rw [← e] at this
      exact absurd this (Nat.not_lt.mpr (Nat.le_of_succ_le hgt))
theorem cellsFrom_none : ∀ {ns : List (Str × NameKind)} {n : Nat}, (ns.all fun y => !(y.2 == .cell)) = true → cellsFrom n ns [] = []
  | [], _, _ => rfl
  | (y, k) :: r, n, h => by
    simp only [List.all_cons, Bool.and_eq_true, Bool.not_eq_true'] at h
    unfold cellsFrom
    rw [if_neg (by rw [h.1]; decide)]
    exact cellsFrom_none h.2
theorem calls_ofC {F : Fx} (FO : F.Ok) {f : Addr} (hok : fnOkC F.g.K f F.names = true) (hsc : (fnAt F.g.K f).scope = F.sc) {ms : MS} (hb : SB F (bodyAt F.g.K f) ms) {args : List V} {kw bargs : List (Str × V)}
    (hbind : Binds F.g f args kw bargs) (hnm : F.names.take bargs.length = bargs.map (·.1)) (hloc : (bargs.all fun p => F.sc.names.lookup p.1 == some .local || F.sc.names.lookup p.1 == some .cell) = true)
    {d : Nat} {hp : HP} {Q : V → HP → Prop} {X : XC}
    (h : enterC ((cellKs F.sc F.names).zip (unC F.names bargs)) hp fun l h0 => exec F.g d ms l h0 (retQ Q) noX) : Calls F.g (d + 1) f args kw hp Q X := by
  intro c hg ok rm names l vals kvals hv hkv fr s P E R hP hX
  unfold fnOkC at hok
  split at hok
  · rename_i oc od fd osl hK
    simp only [Bool.and_eq_true, Bool.not_eq_true', List.isEmpty_iff, beq_iff_eq, decide_eq_true_eq] at hok
    obtain ⟨⟨⟨⟨⟨⟨⟨⟨⟨k1, k2⟩, k3⟩, k4⟩, k5⟩, k6⟩, k7⟩, k8⟩, k9⟩, k10⟩ := hok
    have hfd : fnAt F.g.K f = fd := by unfold fnAt; rw [hK]
    cases hbd : fd.body with
    | expr _ => rw [hbd] at k9; cases k9
    | stmts body =>
      have hbody : bodyAt F.g.K f = body := by unfold bodyAt; rw [hfd, hbd]
      rw [hbody] at hb
      rw [hfd] at hsc
      obtain ⟨binds, hB, hbs⟩ := hbind s vals kvals (by rw [← hg]; exact R.inK ok) hv hkv
      rw [hfd] at hB
      have hfn : fd = fnOf fd.name fd.qualname fd.params body fd.scope fd.defaults fd.kwdefaults fd.doc fd.pyModule fd.annotations fd.code fd.closureTuple := by
        cases fd
        simp only at k1 k2 k3 hbd
        subst k1 k2 k3 hbd
        rfl
      obtain ⟨g, m, news, T, Fm, lo, H, N, D⟩ := R.parts
      have okg := ok.turn T
      refine wpAny_call (code_defCT (K := c.g.K) okg.below Fm (ok.inK.keeps okg.below.stays) N ((ok.top.keeps okg.below.stays).nolimit) (Around.frames_deeper ok.below.stack) rfl ok.fkind (by rw [hg, hK, ← hfn]) (by rw [hg]; exact k4) (by have := rm.1; omega) (by rw [← hfn]; exact hB) ?_ k8 ?_ k5 k6 k7)
      · refine List.all_eq_true.mpr fun y hy => ?_
        have : (y.1, absV y.2) ∈ bargs := by rw [← hbs]; exact List.mem_map_of_mem (f := fun p => (p.1, absV p.2)) hy
        have := List.all_eq_true.mp hloc _ this
        rw [hsc]; exact this
      · intro g' L' h₁ tk cells FG F' N' CA B' hlt
        let c' : Cx := { g := c.g, A₀ := c.A, base := c.base, h₀ := g', outer := c.fenv :: c.outer, L := L', qn := fd.qualname, fsc := fd.scope, fa := f, cd := fd.code, cl := cellsFrom (L' + 1) fd.scope.names [], cp := none }
        have ok' : c'.Ok := ⟨B', ok.inK, ok.top, okg.dictsPush FG, k7, k7, k6, k5, handled_none ok, ok.seer, ok.tree⟩
        have rm' : room c' d := ⟨by have := rm.1; show c.A.depth + 1 + d + 200 < _; omega, by have := rm.2; show c.A.units + 3 + 8 * d + 200 < _; omega⟩
        obtain ⟨l', hp1, hex, R'⟩ := enter_rep FO (c' := c') rfl rfl rfl hsc rfl rfl rfl F' N' CA H hlt D (fun b o e => B'.stays b o e) hbs hnm
          (fun x hx => by have := List.all_eq_true.mp k10 x hx; simpa using this) h
        refine hb c' d FO hg ⟨hsc, fun _ => rfl, fun _ hc => by show cellsFrom (L' + 1) fd.scope.names [] = []; rw [hsc]; exact cellsFrom_none hc⟩ ok' rm' _ hp1 _ noX hex rfl fr _ _ _ R' (fun o f' l2 hp' h' tk' hq hf R2 => ?_) (fun l' => noXP)
        obtain ⟨g2, m2, news2, T2, F2, lo2, H2, N2, D2⟩ := R2.parts
        refine ⟨g2, L', m2, news2 ++ fr, T2, F2, N2, fun h3 T3 F3 N3 => ?_⟩
        cases o with
        | next =>
          cases f' <;> first | exact hf.elim | skip
          exact hP .none .none hp' h' tk' hq rfl (Rep.of (T.trans T3) F3 lo H2 N3 D2)
        | brk => exact hq.elim
        | ret v =>
          cases f' <;> first | exact hf.elim | skip
          exact hP v _ hp' h' tk' hq hf (Rep.of (T.trans T3) F3 lo H2 N3 D2)
  · cases hok
section
variable {F : Fx}
theorem se_strC {y : String} {x : Str} {k pos} (hxy : x = Str.ofString y) : SE F (.Constant (.str x) k pos) (.strC y) := by
  intro c d FO hg hsc ok rm l hp Q X hev fr s P E R hP hX
  subst hxy
  exact Constant_str (hP _ _ hp s.heap _ hev rfl R)
/-- raise ValueError(a text) -/
theorem ss_raise {x : Str} {np cpos pos kp : Pos} {k : Nat} {t : Str} (hxe : x = "ValueError") (hx : x ∈ F.bt) (hk : F.sc.names.lookup x = some .globalImplicit) :
    SS F (.Raise (some (.Call (.Name x np) [.Constant (.str t) k kp] [] cpos)) none pos) (.raise "ValueError") := by
  intro c d FO hg hsc ok rm l hp Q X hev hcp fr s P E R hP hX
  subst hxe
  refine Raise_madeB PySem.F.excCall_ValueError PySem.F.excRaise_ValueError (handled_none ok) (nameB FO hg hsc ok hx (v := .type "ValueError") PyProof.Rows.Boot.«ValueError» hk (by decide) (by decide) R ⟨rfl, ?_⟩) rfl rfl
  refine spliced_more (Constant_str ?_) rfl
  refine spliced_none ⟨by simp [sizeLine_eq], fun h' e hm => ?_⟩
  obtain ⟨g, m, news, T, Fm, lo, H, N, D⟩ := R.parts
  exact hX l (.own "ValueError") e hp h' _ hev ⟨D, g, m, s.heap, T, Fm, lo, .inr ⟨"ValueError", _, news, rfl, hm.of, H, N⟩⟩
theorem storeC {c : Cx} (hsc : SCF c F) (ok : c.Ok) {x : Str} {i : Nat} {a : Addr} {w : V} {l hp fr} {s : Shared} {v : V} {val : Value} {P : Unit → Shared → Prop} {E : Value → Shared → Prop}
    (hi : F.names[i]? = some x) (hk : F.sc.names.lookup x = some .cell) (R : Rep c F.names l hp fr s.heap) (hl : lget l i = .cell a) (h0 : hp a = some (.cell w)) (hv : absV val = v)
    (h : ∀ h' tk', Rep c F.names l (hset hp a (.cell v)) fr h' → P () { s with heap := h', toks := tk' }) :
    wpAny (model c.g.prog c.g.w) c.A (storeName c.env x val) P E s := by
  have hcl := R.cellOf hi hl
  obtain ⟨g, T, m, Fm, lo, H, N, D⟩ := id R
  obtain ⟨ob, ho, ⟨w', hd, _⟩, _⟩ := H.2 a _ h0
  refine wpAny_storeName_cell (by rw [c.env_scope]; exact ok.kind) (by rw [c.env_kindOf, hsc.1]; exact hk) hcl ⟨ob, ho, hd⟩ fun h' hv' hs => ?_
  obtain ⟨ob', ho', hd'⟩ := hv'
  exact h h' s.toks (R.upd h0 hs ho' ⟨some val, hd', fun e => by rw [e] at hv; cases val <;> simp [absV] at hv, hv⟩ (fun ws e => by cases e))
end
section
variable {F : Fx}
/-- a value stored in a cell, be it a comprehension's -/
theorem ss_casgX {x : Str} {p pos : Pos} {i : Nat} {e : Expr} {m : ME} (hi : F.names[i]? = some x) (hk : F.sc.names.lookup x = some .cell) (he : SE F e m) : SS F (.Assign [.Name x p] e pos) (.casg i m) := by
  intro c d FO hg hsc ok rm l hp Q X hev hcp fr s P E R hP hX
  have hsw : swapsWith e (some (.Name x p)) pos.line c.env = pure false := by
    unfold swapsWith
    have hkc : c.env.kindOf x = some .cell := by rw [c.env_kindOf, hsc.1]; exact hk
    cases e <;> first | rfl | (show pure (((c.env.blockKind == .function && c.env.kindOf x == some .local) && _) && _) = _; rw [hkc, show (some NameKind.cell == some NameKind.local) = false from by decide, Bool.and_false, Bool.false_and, Bool.false_and])
  refine wpAny_Assign_Name (he c d FO hg hsc ok rm l hp _ X hev fr s _ E R (fun v y h1 hh tk hq hy R1 => ?_) (hX l)) hsw
  split at hq
  · rename_i a hl
    obtain ⟨⟨w, h0⟩, hq⟩ := hq
    exact storeC hsc ok hi hk R1 hl h0 hy fun h' tk' R' => hP .next .next _ _ h' tk' hq trivial R'
  · exact hq.elim
end
section
variable {F : Fx}
noncomputable def swapB (F : Fx) (y : Str) (py : Pos) (scope : Scope) (pos : Pos) : Bool :=
  (F.sc.names.lookup y == some .local) && (py.line == pos.line) && !(scope.names.any fun z => z.1 == y && (z.2 == .local || z.2 == .cell))
/-- a comprehension stored in a local name -/
theorem ss_asgX {x y : Str} {py spos : Pos} {i : Nat} {xs : List Str} {is : List Nat} {scope : Scope} (co : CompOk F scope x xs is) (ht : F.top = true) {px pos : Pos} {ifs : List Expr} {iter elt : Expr} {m : ME} (hse : ∀ env v, foldedSetIterable iter env v = pure v)
    (h : CompRun F x xs is scope px pos ifs iter elt m) (hi : F.names[i]? = some y) (hk : F.sc.names.lookup y = some .local) (hsw : swapB F y py scope pos = true) :
    SS F (.Assign [.Name y py] (.ListComp elt [⟨.Name x px, iter, ifs, 0⟩] scope pos) spos) (.asg i m) := by
  intro c d FO hg hsc ok rm l hp Q X hev hcp fr s P E R hP hX
  have hs : swapsWith (.ListComp elt [⟨.Name x px, iter, ifs, 0⟩] scope pos) (some (.Name y py)) spos.line c.env = pure true := by
    simp only [swapB, Bool.and_eq_true] at hsw
    have hb : c.env.blockKind = .function := by unfold Env.blockKind; rw [c.env_scope, ok.kind]; rfl
    show pure (((c.env.blockKind == .function && c.env.kindOf y == some .local) && _) && _) = _
    rw [hb, c.env_kindOf, hsc.1]
    rw [hsw.1.1]
    show pure (((_ && true) && (py.line == pos.line)) && _) = _
    rw [hsw.1.2, hsw.2]; rfl
  rw [exec_Assign_Name_used _ _ _ _ hs]
  refine wpAny_bind (wpAny_standAt (wpAny_bind ?_))
  show wpAny _ c.A (do let _ ← comprehension (.ListComp elt [⟨.Name x px, iter, ifs, 0⟩] scope pos) scope c.env _ (newList []) false (eval iter c.env) (some (assign (.Name y py) c.env))) _ _ s
  obtain ⟨hcells, h⟩ := h c d FO hg hsc ok rm hcp l hp (fun v h1 => Q .next (lset l i v) h1) X hev
  refine wpAny_bind (wpAny_mono (wpAny_comprehension_free (use := some (assign (.Name y py) c.env)) (Q := fun _ s' => P .next s') rfl (hse _) (closureFor_list _ (comp_look co R hcells)) co.kind co.names
    (h fr s E _ R (hX l) fun D C oC m₂ hp' h' tk' hq hNs R1 hfC => ?_)) (fun _ s' hq => wpAny_pure (wpAny_pure hq)) fun _ _ e => e)
  show wpAny _ c.A (assign (.Name y py) c.env (.ref D)) _ _ _
  refine wpAny_assign_Name (storeS FO hsc ok hcp hi hk R1 (v := .ref D) rfl fun h2 tk2 R2 => ?_)
  obtain ⟨es1, ep1, hd1, hk1', hr1⟩ := hNs
  have hgC : h2.get? C = some oC := by obtain ⟨_, _, _, _, _, _, N, _⟩ := id R2; exact (N _ (.head _)).1
  refine ⟨m₂, ⟨oC, es1, ep1, hgC, hd1, hk1', hr1⟩, fun h'' hs'' => ?_⟩
  exact hP .next .next _ _ h'' _ hq trivial (R2.drop (noC hcp) (fun b ob hne e => (hs''.2 b hne).trans e) hfC)
end
section
variable {F : Fx}
/-- a handler's suite, run while the exception is handled -/
noncomputable def SH (F : Fx) (b : List Stmt) (h : MH) : Prop := ∀ c d (A' : Around), F.Ok → c.g = F.g → SCF c F → c.Ok → room c d → c.cp = none → ∀ l hp Q, execH h l hp Q → ∀ (fr : List (Addr × Obj)) (s : Shared) (P : Flow → Shared → Prop) (E : Value → Shared → Prop), Rep c F.names l hp fr s.heap →
    (∀ o f l' hp' h' tk', Q o l' hp' → rO o f → Rep c F.names l' hp' fr h' → P f { s with heap := h', toks := tk' }) → wpAny (model c.g.prog c.g.w) A' (execs b c.env) P E s
theorem sh_retB {b : Bool} {k pos p} : SH F [.Return (some (.Constant (.bool b) k pos)) p] (.retB b) := by
  intro c d A' FO hg hsc ok rm hcp l hp Q hev fr s P E R hP
  refine wpAny_execs_cons (wpAny_Return_some (Constant_bool ?_))
  exact hP (.ret (.bool b)) (.ret (.bool b)) l hp s.heap s.toks hev rfl R
theorem sh_retN {k pos p} : SH F [.Return (some (.Constant .none k pos)) p] .retN := by
  intro c d A' FO hg hsc ok rm hcp l hp Q hev fr s P E R hP
  refine wpAny_execs_cons (wpAny_Return_some (wpAny_Constant_none ?_))
  exact hP (.ret .none) (.ret .none) l hp s.heap s.toks hev rfl R
theorem sh_retS {x : Str} {y : String} {k pos p k2 p2} (hxy : x = Str.ofString y) : SH F [.Return (some (.Tuple [.Constant (.str x) k pos] k2 p2)) p] (.retS y) := by
  intro c d A' FO hg hsc ok rm hcp l hp Q hev fr s P E R hP
  subst hxy
  refine wpAny_execs_cons (wpAny_Return_some (Tuple_ ?_))
  refine spliced_more (Constant_str ?_) rfl
  refine spliced_none ?_
  obtain ⟨f1, f2⟩ := R.fresh ok
  obtain ⟨g, m, news, T, Fm, lo, H, N, D⟩ := R.parts
  refine newTuple_N Fm N (fun h' F' N' => hP (.ret _) (.ret _) l _ h' _ (hev _ f1) rfl ?_) (by simp [sizeLine_eq])
  exact Rep.more T F' lo H N' D f1 f2 ⟨_, _, rfl, rfl⟩
theorem sh_inc {x : Str} {i : Nat} {n : Int} {p p1 p2 p3 k p4 : _} (hi : F.names[i]? = some x) (hk : F.sc.names.lookup x = some .local) (hd : (x == ("__debug__" : Str)) = false) :
    SH F [.Assign [.Name x p1] (.BinOp (.Name x p2) .Add (.Constant (.int n) k p4) p3) p] (.inc i n) := by
  intro c d A' FO hg hsc ok rm hcp l hp Q hev fr s P E R hP
  refine wpAny_execs_cons (wpAny_Assign_Name ?_ (swaps_plain rfl _ _ _))
  obtain ⟨⟨hn, hc⟩, hQ⟩ := varV_iff.mp hev
  obtain ⟨m, val, hns, hm, hab⟩ := R.locals hi rfl hn hc
  refine wpAny_BinOp (wpAny_Name (wpAny_loadName_local (by rw [c.env_scope]; exact ok.kind) (by rw [c.env_kindOf, hsc.1]; exact hk) hns hm ?_) hd)
  refine wpAny_Constant_int ?_
  cases hl : lget l i <;> rw [hl] at hQ hab <;> first | exact hQ.elim | skip
  obtain ⟨t, rfl⟩ := absV_int hab
  refine PyProof.Rows.add_int ?_
  obtain ⟨g, m2, news, T, Fm, lo, H, N, D⟩ := R.parts
  rw [c.env_plain hcp]
  refine storeX_L Fm N (fun h' F' N' => wpAny_execs_nil (hP .next .next _ hp h' _ hQ trivial (Rep.of T F' ((LocX.plain hcp).mpr (((LocX.plain hcp).mp lo).set FO.nd hi rfl)) H N' D))) ok.fkind (by show c.fsc.names.lookup x = _; rw [← c.sc_plain hcp, hsc.1]; exact hk)
theorem caughtS {c : Cx} (FO : F.Ok) (hg : c.g = F.g) (hsc : SCF c F) (ok : c.Ok) (hcp : c.cp = none) (hcl : c.cl = []) {d : Nat} (rm : room c d) (hx : (Str.ofString "ValueError") ∈ F.bt) (hk : F.sc.names.lookup (Str.ofString "ValueError") = some .globalImplicit)
    {b₀ : Stmt} {suite : List Stmt} {mh : MH} (hh : SH F (b₀ :: suite) mh) {np pos : Pos} {l : List V} {hp : HP} {fr : List (Addr × Obj)} {e : Addr} {s' : Shared} {Q : Out → List V → HP → Prop}
    (hr : Raised c F.names l hp fr (.up "ValueError") e s'.heap) (hex : execH mh l hp Q) {P : Flow → Shared → Prop}
    (hP : ∀ o f l' hp' h' tk', Q o l' hp' → rO o f → Rep c F.names l' hp' fr h' → P f { s' with heap := h', toks := tk' }) :
    wpAny (model c.g.prog c.g.w) c.A (noteFrame (.ref e) c.env) (fun _ s₂ => wpAny (model c.g.prog c.g.w) c.A (setFlight (.ref e) none) (fun _ s₃ =>
      wpAny (model c.g.prog c.g.w) c.A (handleBy (.ref e) c.env [.ExceptHandler (some (.Name (Str.ofString "ValueError") np)) none (b₀ :: suite) pos]) P (fun _ _ => False) s₃) (fun _ _ => False) s₂) (fun _ _ => False) s' := by
  have hf : c.fenv = envOf c.qn c.fsc c.L c.fa c.cd := by show envX c.qn c.fsc c.L c.fa c.cd c.cl = _; rw [hcl]; rfl
  have henv : c.env = envOf c.qn c.fsc c.L c.fa c.cd := (c.env_plain hcp).trans hf
  obtain ⟨D, g, m, hh0, T, Fm, lo, hr⟩ := hr
  rcases hr with ⟨c0, t, vs, news, q, hup, hrk, hH⟩ | ⟨c0, vs, news, q, _⟩
  · cases q
    rw [hf] at hrk
    have okg := ok.turn T
    have hA : c.A = c.A₀.deeper (envOf c.qn c.fsc c.L c.fa c.cd) := by show c.A₀.deeper c.fenv = _; rw [hf]
    rw [henv, hA]
    refine caught_S0 (X := "ValueError") (T' := "ValueError") (KF := c.g.K) (g₀ := c.h₀) hrk Fm okg.below hup ok.inK ok.top okg.dicts T (by rw [hg]; exact FO.bt _ hx) PyProof.Rows.Boot.«ValueError» (by decide) PySem.F.isExc_ValueError PySem.F.notTuple_ValueError (by rw [isSubtype_type]; kernel_rfl) (fun h' g' news₂ T' F' N₂ got N' K' X' P' D' => ?_)
      ok.fkind (by show c.fsc.names.lookup _ = _; rw [← c.sc_plain hcp, hsc.1]; exact hk) (by decide) PassesOwnAt.never
    rw [← henv]
    exact hh c d _ FO hg hsc ok rm hcp l hp Q hex fr _ _ _ (Rep.of (news := news) T' F' lo hH N' D) (fun o f l' hp' h'' tk' hq hf' R' => hP o f l' hp' h'' tk' hq hf' R')
  · cases q
/-- what the try's statement does with the value -/
inductive TS (F : Fx) : Expr → Stmt → TK → Prop
  | expr {e pos} : compE e = false → TS F e (.Expr e pos) .expr
  | ret {e pos} : TS F e (.Return (some e) pos) .ret
  | asg {e x p pos i} : F.names[i]? = some x → F.sc.names.lookup x = some .local → compE e = false → TS F e (.Assign [.Name x p] e pos) (.asg i)
theorem ss_tryE {e : Expr} {st : Stmt} {t : TK} {m : ME} (ht : TS F e st t) (he : SE F e m) (htop : F.top = true) (hnc : (F.sc.names.all fun y => !(y.2 == .cell)) = true) (hx : (Str.ofString "ValueError") ∈ F.bt) (hk : F.sc.names.lookup (Str.ofString "ValueError") = some .globalImplicit)
    {b₀ : Stmt} {suite : List Stmt} {mh : MH} (hh : SH F (b₀ :: suite) mh) {np pos p2 : Pos} :
    SS F (.Try [st] [.ExceptHandler (some (.Name (Str.ofString "ValueError") np)) none (b₀ :: suite) pos] [] [] p2) (.tryE t m "ValueError" mh) := by
  intro c d FO hg hsc ok rm l hp Q X hev hcp fr s P E R hP hX
  have hcl := hsc.2.2 htop hnc
  refine wpAny_Try_except ?_
  have main : ∀ (E' : Value → Shared → Prop), (∀ e hp' h' tk', execH mh l hp' Q → Raised c F.names l hp' fr (.up "ValueError") e h' → E' (.ref e) { s with heap := h', toks := tk' }) →
      XP c F.names l fr (fun c h1 => match c with | .up c => c = "ValueError" ∧ execH mh l h1 Q | .own _ => False) E' s := by
    intro E' hE cls e hp' h' tk' hx hr
    cases cls with
    | own c => exact hx.elim
    | up c => obtain ⟨rfl, hx⟩ := hx; exact hE e hp' h' tk' hx hr
  have catch_ : ∀ e hp' h' tk', execH mh l hp' Q → Raised c F.names l hp' fr (.up "ValueError") e h' →
      wpAny (model c.g.prog c.g.w) c.A (noteFrame (.ref e) c.env) (fun _ s₂ => wpAny (model c.g.prog c.g.w) c.A (setFlight (.ref e) none) (fun _ s₃ =>
        wpAny (model c.g.prog c.g.w) c.A (handleBy (.ref e) c.env [.ExceptHandler (some (.Name (Str.ofString "ValueError") np)) none (b₀ :: suite) pos]) P E s₃) E s₂) E { s with heap := h', toks := tk' } := by
    intro e hp' h' tk' hex hr
    have h0 := caughtS (s' := { s with heap := h', toks := tk' }) FO hg hsc ok hcp hcl rm hx hk hh (np := np) (pos := pos) hr hex (P := P) (fun o f l' hp'' h'' tk'' hq hf R' => hP o f l' hp'' h'' tk'' hq hf R')
    exact wpAny_mono h0 (fun _ _ h1 => wpAny_mono h1 (fun _ _ h2 => wpAny_mono h2 (fun _ _ h3 => h3) (fun _ _ h3 => h3.elim)) (fun _ _ h3 => h3.elim)) (fun _ _ h3 => h3.elim)
  cases ht with
  | expr hc =>
    have hi : interactive c.env = false := by
      unfold interactive
      rw [show c.env.scope.kind = .function by rw [c.env_scope]; exact ok.kind]; rfl
    refine wpAny_execs_cons (wpAny_Expr_any (he c d FO hg hsc ok rm l hp _ _ hev fr s _ _ R (fun v y h1 hh tk hq hy R1 => ?_) (main _ ?_)) hi (swaps_plain hc _ _ _))
    · exact wpAny_execs_nil (wpAny_execs_nil (hP .next .next l h1 hh tk hq trivial R1))
    · exact catch_
  | ret =>
    refine wpAny_execs_cons (wpAny_Return_some (he c d FO hg hsc ok rm l hp _ _ hev fr s _ _ R (fun v y h1 hh tk hq hy R1 => ?_) (main _ ?_)))
    · exact hP (.ret v) (.ret y) l h1 hh tk hq hy R1
    · exact catch_
  | asg hi hkx hc =>
    refine wpAny_execs_cons (wpAny_Assign_Name (he c d FO hg hsc ok rm l hp _ _ hev fr s _ _ R (fun v y h1 hh tk hq hy R1 => ?_) (main _ ?_)) (swaps_plain hc _ _ _))
    · exact storeS FO hsc ok hcp hi hkx R1 hy fun h' tk' R' => wpAny_execs_nil (wpAny_execs_nil (hP .next .next _ h1 h' tk' hq trivial R'))
    · exact catch_
end
theorem entry_powT : entryFor table "pow" = some Builtin.«pow» := entryFor_of_fast (by kernel_rfl)
theorem kind_powT : builtinKind "pow" = none := by decide +kernel
theorem plain_powT : plainId "pow" = true := by decide +kernel
theorem args_powT2 (a b : Value) : argsOk "pow" ⟨[a, b], []⟩ := by unfold argsOk; kernel_rfl
theorem boot_powT : bootBuiltins "pow" = some (.builtin "pow") := by decide +kernel
theorem bind_pow2 (a b : Value) : Builtin.Builtins.bindParams "pow" ["base", "exp", "mod"] 2 ⟨[a, b], []⟩ = pure [some a, some b, none] := by kernel_rfl
theorem call_pow2 {prog : Program} {w : World} {A : Around} {E : Value → Shared → Prop} {s : Shared} {a b : Value} {Q : Value → Shared → Prop}
    (h : wpAny (model prog w) A.in1 (binaryOp .Pow a b) Q E s) : wpAny (model prog w) A (call (.builtin "pow") [a, b]) Q E s := by
  refine Calls.call_function_entry kind_powT plain_powT entry_powT (args_powT2 _ _) ?_
  unfold Builtin.«pow»
  rw [bind_pow2]
  show wpAny _ _ (do ret (← binaryOp .Pow a b)) _ _ s
  exact wpAny_bind (wpAny_mono h (fun v s' hq => wpAny_pure ⟨v, rfl, hq⟩) fun _ _ e => e)
section
variable {F : Fx}
theorem se_pow2 {x : Str} {p pos : Pos} {a b : Expr} {ma mb : ME} (hxe : x = "pow") (hx : x ∈ F.bt) (hk : F.sc.names.lookup x = some .globalImplicit) (hn : notStar a = true) (hn2 : notStar b = true) (ha : SE F a ma) (hb : SE F b mb) : SE F (.Call (.Name x p) [a, b] [] pos) (.bin .pow ma mb) := by
  intro c d FO hg hsc ok rm l hp Q X hev fr s P E R hP hX
  subst hxe
  refine Call_ (nameB FO hg hsc ok hx (v := .builtin "pow") boot_powT hk (by decide) (by decide) R ?_) rfl
  refine PyProof.Rows.callWith_builtin1 ?_ (starEach_cons hn) (by rw [starEach_cons hn2]; rfl)
  refine spliced_more (ha c d FO hg hsc ok rm l hp _ X hev fr s _ E R (fun v y h1 hh tk hq hy R1 => ?_) hX) (starEach_cons hn)
  refine spliced_more (hb c d FO hg hsc ok rm l h1 _ X hq fr _ _ E R1 (fun w z h2 hh2 tk2 hq2 hz R2 => ?_) hX) (starEach_cons hn2)
  refine spliced_none ?_
  unfold binV at hq2
  split at hq2
  · rename_i i j
    obtain ⟨t, rfl⟩ := absV_int hy
    obtain ⟨u, rfl⟩ := absV_int hz
    exact call_pow2 (PyProof.Rows.pow_int hq2.1.1 hq2.1.2 (hP _ _ h2 hh2 _ hq2.2 rfl R2))
  · exact hq2.elim
  · exact hq2.elim
end
theorem args_powT3 (a b c : Value) : argsOk "pow" ⟨[a, b, c], []⟩ := by unfold argsOk; kernel_rfl
theorem args_int_pow3 (a b c : Value) : argsOk "int.__pow__" ⟨[a, b, c], []⟩ := by unfold argsOk; kernel_rfl
theorem bind_pow3 (a b c : Value) : Builtin.Builtins.bindParams "pow" ["base", "exp", "mod"] 2 ⟨[a, b, c], []⟩ = pure [some a, some b, some c] := by kernel_rfl
/-! the power by bits -/
theorem powMod_go (b e m : Nat) : ∀ (k p : Nat), p % m = b ^ (e >>> k) % m → ((List.range k).reverse.foldl (fun p i => if e.testBit i then p * p % m * b % m else p * p % m) p) % m = b ^ e % m
  | 0, p, h => by simpa using h
  | k + 1, p, h => by
    rw [List.range_succ, List.reverse_append, List.reverse_cons, List.reverse_nil, List.nil_append, List.cons_append, List.nil_append, List.foldl_cons]
    refine powMod_go b e m k _ ?_
    have e1 : e >>> k = 2 * (e >>> (k + 1)) + (if e.testBit k then 1 else 0) := by
      rw [Nat.shiftRight_succ]
      have := Nat.div_add_mod (e >>> k) 2
      have h2 : (e >>> k) % 2 = (if e.testBit k then 1 else 0) := by
        unfold Nat.testBit
        rw [Nat.and_comm, Nat.and_one_is_mod]
        rcases Nat.mod_two_eq_zero_or_one (e >>> k) with h | h <;> simp [h]
      omega
    rw [e1]
    cases hb : e.testBit k with
    | false =>
      simp only [Bool.false_eq_true, if_false, Nat.add_zero]
      rw [Nat.mod_mod, Nat.mul_mod, h, ← Nat.mul_mod, Nat.two_mul, Nat.pow_add]
    | true =>
      simp only [if_true]
      have h2 : p * p % m = b ^ (2 * e >>> (k + 1)) % m := by rw [Nat.mul_mod, h, ← Nat.mul_mod, Nat.two_mul, Nat.pow_add]
      rw [Nat.mod_mod, Nat.mul_mod, Nat.mod_mod, h2, ← Nat.mul_mod, Nat.pow_succ]
theorem powMod_eq (b e m : Nat) (hm : 0 < m) : Builtin.powMod b e m = b ^ e % m := by
  have h1 : Builtin.powMod b e m % m = b ^ e % m := by
    unfold Builtin.powMod
    refine powMod_go b e m _ _ ?_
    have : e >>> Builtin.Int.intBits e = 0 := by
      rw [Nat.shiftRight_eq_div_pow]
      apply Nat.div_eq_of_lt
      unfold Builtin.Int.intBits
      split
      · rename_i h; have : e = 0 := by simpa using h
        subst this; simp
      · exact Nat.lt_log2_self
    rw [this, Nat.mod_mod]; rfl
  have h2 : Builtin.powMod b e m < m := by
    unfold Builtin.powMod
    have : ∀ (l : List Nat) (p : Nat), p < m → l.foldl (fun p i => if e.testBit i then p * p % m * b % m else p * p % m) p < m := by
      intro l
      induction l with
      | nil => intro p h; exact h
      | cons i r ih => intro p h; refine ih _ ?_; show (if e.testBit i = true then _ else _) < m; split <;> exact Nat.mod_lt _ hm
    exact this _ _ (Nat.mod_lt _ hm)
  rw [Nat.mod_eq_of_lt h2] at h1; exact h1
theorem int_pow3 (a : Int) (t : Tok) (b : Int) (u : Tok) (c : Int) (v : Tok) (hc0 : ¬(c == 0) = true) (hc1 : ¬ (c.natAbs == 1) = true) (hb : ¬ b < 0) :
    Gives (Builtin.«int.__pow__» ⟨[.int a t, .int b u, .int c v], []⟩) (.int (if (decide (c < 0) && ((Builtin.powMod (a % (c.natAbs : Int)).toNat b.natAbs c.natAbs : Nat) : Int) != 0) = true then
        ((Builtin.powMod (a % (c.natAbs : Int)).toNat b.natAbs c.natAbs : Nat) : Int) - c.natAbs else ((Builtin.powMod (a % (c.natAbs : Int)).toNat b.natAbs c.natAbs : Nat) : Int))) :=
  .of_wp fun M A E s Q h => by obtain ⟨hp, g, d, tk, os⟩ := s; wp_walk; exact ⟨_, rfl, h⟩
theorem pow_emod' (a : Int) (n : Nat) (m : Int) : (a % m) ^ n % m = a ^ n % m := by
  induction n with
  | zero => simp
  | succ n ih => rw [Int.pow_succ, Int.pow_succ, Int.mul_emod, ih, Int.emod_emod, ← Int.mul_emod]
theorem powMod_int {a c : Int} (n : Nat) (hc : 0 < c) : ((Builtin.powMod (a % (c.natAbs : Int)).toNat n c.natAbs : Nat) : Int) = (a ^ n).fmod c := by
  have hn : (c.natAbs : Int) = c := Int.natAbs_of_nonneg (by omega)
  rw [powMod_eq _ _ _ (by omega), Int.fmod_eq_emod_of_nonneg _ (by omega)]
  push_cast
  rw [hn, Int.toNat_of_nonneg (Int.emod_nonneg _ (by omega)), pow_emod']
theorem call_int_pow3 {prog : Program} {w : World} {A : Around} {E : Value → Shared → Prop} {s : Shared} {a b c : Int} {t u v : Tok} (hb : 0 ≤ b) (hc : 0 < c) {Q : Value → Shared → Prop}
    (h : Q (.int ((a ^ b.toNat).fmod c) s.toks) { s with toks := s.toks + 1 }) : wpAny (model prog w) A (call (.builtin "int.__pow__") [.int a t, .int b u, .int c v]) Q E s := by
  by_cases h1 : c = 1
  · subst h1
    refine call_gives F.slot_int_pow (typeIs_int s a t) F.entry_int_pow (args_int_pow3 _ _ _) (AutoIntG3.int___pow___int_int_int_1 a t b u 1 v (by decide) (by decide)) ?_
    have e : (a ^ b.toNat).fmod 1 = 0 := by rw [Int.fmod_eq_emod_of_nonneg _ (by decide)]; omega
    rw [e] at h
    exact h
  · refine call_gives F.slot_int_pow (typeIs_int s a t) F.entry_int_pow (args_int_pow3 _ _ _) (int_pow3 a t b u c v (by simp; omega) (by simp; omega) (by omega)) ?_
    rw [show decide (c < 0) = false by simp; omega, Bool.false_and]
    simp only [Bool.false_eq_true, if_false]
    rw [powMod_int _ hc, show b.natAbs = b.toNat by omega]
    exact h
theorem call_pow3 {prog : Program} {w : World} {A : Around} {E : Value → Shared → Prop} {s : Shared} {a b c : Int} {t u v : Tok} (hb : 0 ≤ b) (hc : 0 < c) {Q : Value → Shared → Prop}
    (h : Q (.int ((a ^ b.toNat).fmod c) s.toks) { s with toks := s.toks + 1 }) : wpAny (model prog w) A (call (.builtin "pow") [.int a t, .int b u, .int c v]) Q E s := by
  refine Calls.call_function_entry kind_powT plain_powT entry_powT (args_powT3 _ _ _) ?_
  unfold Builtin.«pow»
  rw [bind_pow3]
  simp only [pure_bind, Option.getD_some]
  refine wpAny_bind (wpAny_rule ?_)
  refine wpAny_bind (wpAny_typeOf (typeIs_int s a t) ?_)
  show wpAny _ _ (_ >>= _) _ _ _
  refine wpAny_bind (wpAny_of_eq F.slot_int_pow.lookup ?_)
  show wpAny _ _ (_ >>= _) _ _ _
  refine wpAny_bind (wpAny_callSpecial?_slot (name := Str.ofString "__pow__") (typeIs_int s a t) F.slot_int_pow (call_int_pow3 hb hc ?_))
  show wpAny _ _ (if (_ != _) = true then ret _ else _) _ _ _
  rw [if_pos (by rfl)]
  exact wpAny_pure ⟨_, rfl, h⟩
section
variable {F : Fx}
theorem se_pow3 {x : Str} {p pos : Pos} {a b e : Expr} {ma mb me : ME} (hxe : x = "pow") (hx : x ∈ F.bt) (hk : F.sc.names.lookup x = some .globalImplicit) (hn : notStar a = true) (hn2 : notStar b = true) (hn3 : notStar e = true) (ha : SE F a ma) (hb : SE F b mb) (he : SE F e me) :
    SE F (.Call (.Name x p) [a, b, e] [] pos) (.pow3 ma mb me) := by
  intro c d FO hg hsc ok rm l hp Q X hev fr s P E R hP hX
  subst hxe
  refine Call_ (nameB FO hg hsc ok hx (v := .builtin "pow") boot_powT hk (by decide) (by decide) R ?_) rfl
  refine PyProof.Rows.callWith_builtin1 ?_ (starEach_cons hn) (by rw [starEach_cons hn2, starEach_cons hn3]; rfl)
  refine spliced_more (ha c d FO hg hsc ok rm l hp _ X hev fr s _ E R (fun v y h1 hh tk hq hy R1 => ?_) hX) (starEach_cons hn)
  refine spliced_more (hb c d FO hg hsc ok rm l h1 _ X hq fr _ _ E R1 (fun w z h2 hh2 tk2 hq2 hz R2 => ?_) hX) (starEach_cons hn2)
  refine spliced_more (he c d FO hg hsc ok rm l h2 _ X hq2 fr _ _ E R2 (fun u z3 h3 hh3 tk3 hq3 hz3 R3 => ?_) hX) (starEach_cons hn3)
  refine spliced_none ?_
  split at hq3
  · obtain ⟨t, rfl⟩ := absV_int hy
    obtain ⟨u, rfl⟩ := absV_int hz
    obtain ⟨u3, rfl⟩ := absV_int hz3
    exact call_pow3 hq3.1 hq3.2.1 (hP _ _ h3 hh3 _ hq3.2.2 rfl R3)
  · exact hq3.elim
end
theorem ints_abs : ∀ {vs : List Value} {ns : List Int}, IntsAre vs ns → vs.map absV = ns.map V.int
  | _, _, .nil => rfl
  | _, _, .cons n t r => by simp only [List.map_cons, absV, List.cons.injEq, true_and]; exact ints_abs r
theorem ints_of_abs : ∀ {vs : List Value} {ns : List Int}, vs.map absV = ns.map V.int → IntsAre vs ns
  | [], [], _ => .nil
  | [], _ :: _, h => by cases h
  | _ :: _, [], h => by cases h
  | v :: vs, n :: ns, h => by
    rw [List.map_cons, List.map_cons] at h
    obtain ⟨t, rfl⟩ := absV_int (List.head_eq_of_cons_eq h)
    exact .cons n t (ints_of_abs (List.tail_eq_of_cons_eq h))
/-- the places of a row of names, of which some are cells -/
noncomputable def tgtC? (F : Fx) : List Expr → Option (List (Nat × Bool))
  | [] => some []
  | .Name x _ :: r => match tgtC? F r with
    | some is => match loc? F x with
      | some i => some ((i, false) :: is)
      | none => match fIdx F.names x 0 with
        | some i => if F.sc.names.lookup x = some .cell then some ((i, true) :: is) else none
        | none => none
    | none => none
  | _ :: _ => none
section
variable {F : Fx}
theorem se_sorted {x : Str} {p pos : Pos} {a : Expr} {ma : ME} (hxe : x = "sorted") (hx : x ∈ F.bt) (hk : F.sc.names.lookup x = some .globalImplicit) (hn : notStar a = true) (ha : SE F a ma) : SE F (.Call (.Name x p) [a] [] pos) (.sorted ma) := by
  intro c d FO hg hsc ok rm l hp Q X hev fr s P E R hP hX
  subst hxe
  refine Call_ (nameB FO hg hsc ok hx (v := .builtin "sorted") boot_sorted hk (by decide) (by decide) R ?_) rfl
  refine PyProof.Rows.callWith_builtin1 ?_ (starEach_cons hn) rfl
  refine spliced_more (ha c d FO hg hsc ok rm l hp _ X hev fr s _ E R (fun v y h1 hh tk hq hy R1 => ?_) hX) (starEach_cons hn)
  refine spliced_none ?_
  cases v with
  | ref r =>
    cases absV_ref hy
    obtain ⟨ns, e1, h64, hq⟩ := hq
    obtain ⟨items, hi, hl⟩ := R1.listI ok e1
    obtain ⟨g, m, news, T, Fm, lo, H, N, D⟩ := R1.parts
    refine kso_sorted Fm N (vs := items.toList) (by simpa using hl) (ints_of_abs hi) h64 fun D' vs' ns' c' h' F' N' hlt hI _ hp' hs _ => ?_
    obtain ⟨f1, f2⟩ := fresh_of ok T H N' hlt
    exact hP _ _ _ h' tk (hq ns' hp' hs _ f1) rfl (Rep.more T F' lo H N' D f1 f2 ⟨vs'.toArray, c', rfl, by simpa using ints_abs hI⟩)
  | _ => exact hq.elim
theorem tgtC?_assign {c : Cx} (FO : F.Ok) (hsc : SCF c F) (ok : c.Ok) (hcp : c.cp = none) : ∀ {ts : List Expr} {is : List (Nat × Bool)}, tgtC? F ts = some is →
    ((assignEach ts c.env).length = ts.length ∧ ts.length = is.length ∧ List.findIdx? (fun x => x.fst) (assignEach ts c.env) = none) ∧
    ∀ (l : List V) (hp : HP) (fr : List (Addr × Obj)) (s : Shared) (vs : List V) (vals : List Value) (K : List V → HP → Prop) (P : Unit → Shared → Prop) (E : Value → Shared → Prop), vals.map absV = vs → putN l is vs hp K → Rep c F.names l hp fr s.heap →
      (∀ l' hp' h' tk', K l' hp' → Rep c F.names l' hp' fr h' → P () { s with heap := h', toks := tk' }) →
      wpAny (model c.g.prog c.g.w) c.A (assignInOrder ((assignEach ts c.env).map (fun x => x.snd)) vals) P E s
  | [], is, h => by
    cases h
    refine ⟨⟨rfl, rfl, rfl⟩, fun l hp fr s vs vals K P E hv hq R hP => ?_⟩
    cases vals with
    | nil => subst hv; exact assignInOrder_nil (hP _ _ s.heap s.toks hq R)
    | cons y r => subst hv; exact hq.elim
  | e :: r, is, h => by
    cases e <;> first | (simp only [tgtC?, reduceCtorEq] at h; done) | skip
    rename_i x p
    simp only [tgtC?] at h
    split at h
    · rename_i js hr
      obtain ⟨⟨a1, a2, a3⟩, ih⟩ := tgtC?_assign FO hsc ok hcp hr
      split at h
      · rename_i i hi
        cases h
        obtain ⟨b1, b2, b3⟩ := loc?_spec hi
        refine ⟨⟨by simp [assignEach, a1], by simp [a2], by simp [assignEach, List.findIdx?_cons, a3]⟩, fun l hp fr s vs vals K P E hv hq R hP => ?_⟩
        cases vals with
        | nil => subst hv; exact hq.elim
        | cons y ys' =>
          subst hv
          show wpAny _ _ (assignInOrder (assign (.Name x p) c.env :: (assignEach r c.env).map (fun x => x.snd)) (y :: ys')) P E s
          refine assignInOrder_cons (PyProof.Rows.assign_Name (storeS FO hsc ok hcp b1 b2 R rfl fun h' tk' R' => ?_))
          exact ih _ _ _ _ _ _ _ _ _ rfl hq R' fun l2 hp2 h2 tk2 hq2 R2 => hP l2 hp2 h2 tk2 hq2 R2
      · split at h
        · rename_i i hi
          split at h
          · rename_i hcell
            cases h
            have b1 : F.names[i]? = some x := by simpa using (fIdx_get hi).2
            refine ⟨⟨by simp [assignEach, a1], by simp [a2], by simp [assignEach, List.findIdx?_cons, a3]⟩, fun l hp fr s vs vals K P E hv hq R hP => ?_⟩
            cases vals with
            | nil => subst hv; exact hq.elim
            | cons y ys' =>
              subst hv
              rw [List.map_cons] at hq
              unfold putN at hq
              split at hq
              · rename_i a hla
                obtain ⟨⟨w, h0⟩, hq⟩ := hq
                show wpAny _ _ (assignInOrder (assign (.Name x p) c.env :: (assignEach r c.env).map (fun x => x.snd)) (y :: ys')) P E s
                refine assignInOrder_cons (PyProof.Rows.assign_Name (storeC hsc ok b1 hcell R hla h0 rfl fun h' tk' R' => ?_))
                exact ih _ _ _ _ _ _ _ _ _ rfl hq R' fun l2 hp2 h2 tk2 hq2 R2 => hP l2 hp2 h2 tk2 hq2 R2
              · exact hq.elim
          · cases h
        · cases h
    · cases h
theorem ss_asgC {ts es : List Expr} {k k' p p' pos} {is : List (Nat × Bool)} {ms : ME} (ht : tgtC? F ts = some is) (hs : swr F.sc ts es = some none) (hl : ts.length = es.length) (hsz : es.length ≤ 100) (hes : SEs F es ms) :
    SS F (.Assign [.Tuple ts k p] (.Tuple es k' p') pos) (.asgC is ms) := by
  intro c d FO hg hsc ok rm l hp Q X hev hcp fr s P E R hP hX
  obtain ⟨⟨a1, a2, a3⟩, hasg⟩ := tgtC?_assign (c := c) FO hsc ok hcp ht
  have hkf : F.sc.kind = .function := hsc.1 ▸ ok.kind
  have hsw : ∀ t, swapsWithSole [t] (.Tuple es k' p') pos.line c.env = pure false := fun t => swaps_plain (e := .Tuple es k' p') rfl (some t) pos.line c.env
  refine Assign_Tuple ?_ (hsw _) (swr_spec hs (c.env_scope.trans hsc.1) hkf)
  refine Tuple_ (hes c d FO hg hsc ok rm l hp _ X hev p' fr s _ E R (fun vs vals h1 hh tk hq hx R1 => ?_) (hX l))
  have hlv : vs.length = is.length := by
    have : ∀ (is : List (Nat × Bool)) (vs : List V) (l : List V) (h : HP) (K : List V → HP → Prop), putN l is vs h K → vs.length = is.length := by
      intro is
      induction is with
      | nil => intro vs l h K hq; cases vs with
        | nil => rfl
        | cons _ _ => exact hq.elim
      | cons q is ih =>
        intro vs l h K hq
        obtain ⟨i, b⟩ := q
        cases vs with
        | nil => cases b <;> exact hq.elim
        | cons v vs =>
          cases b with
          | false => simp only [List.length_cons]; rw [ih vs _ h K hq]
          | true =>
            unfold putN at hq
            split at hq
            · simp only [List.length_cons]; rw [ih vs _ _ K hq.2]
            · exact hq.elim
    exact this _ _ _ _ _ hq
  obtain ⟨g, m, news, T, Fm, lo, H, N, D⟩ := R1.parts
  have hvl : vals.length = vs.length := by rw [← hx]; simp
  refine newTuple_N Fm N (fun h' F' N' => ?_) (by rw [sizeLine_eq]; omega)
  refine unpackN_ F' N' (t := hh.objs.size) (items := vals.toArray) ⟨_, (N' _ (.head _)).1, rfl, _, rfl⟩ (handled_none ok) (by rw [a1, a2, ← hlv, ← hvl]; simp) a3 fun h2 F2 N2 => ?_
  exact hasg _ _ _ _ vs vals.toArray.toList _ _ _ (by simpa [rVs] using hx) hq (Rep.of T F2 lo H (fun p hp => N2 p (.tail _ hp)) D) fun l3 hp3 h3 tk3 hq3 R3 => hP .next .next _ _ h3 tk3 hq3 trivial R3
end
noncomputable abbrev RE (F : Fx) (e : Expr) := Option { m : ME // SE F e m }
noncomputable abbrev RT (F : Fx) (e : Expr) := Option { m : ME // ST F e m }
noncomputable abbrev REs (F : Fx) (es : List Expr) := Option { m : ME // SEs F es m }
noncomputable abbrev RTB (F : Fx) (o : BoolOp) (es : List Expr) (pos : Pos) := Option { m : ME // STB F o es pos m }
noncomputable def glob? (F : Fx) (x : Str) : Bool := decide (F.sc.names.lookup x = some .globalImplicit) && !(x == ("__debug__" : Str))
theorem glob?_spec {F : Fx} {x : Str} (h : glob? F x = true) : F.sc.names.lookup x = some .globalImplicit ∧ (x == ("__debug__" : Str)) = false := by
  simp only [glob?, Bool.and_eq_true, decide_eq_true_eq, Bool.not_eq_true'] at h; exact h
noncomputable def bi? (F : Fx) (x : Str) : Bool := glob? F x && F.bt.contains x
theorem bi?_spec {F : Fx} {x : Str} (h : bi? F x = true) : x ∈ F.bt ∧ F.sc.names.lookup x = some .globalImplicit := by
  simp only [bi?, Bool.and_eq_true, List.contains_iff_mem] at h; exact ⟨h.2, (glob?_spec h.1).1⟩
/-- a call of a built-in of one argument -/
noncomputable def cB1 (F : Fx) (x : Str) (p pos : Pos) (a : Expr) (hb : bi? F x = true) (hn : notStar a = true) (ma : { m : ME // SE F a m }) : RE F (.Call (.Name x p) [a] [] pos) :=
  if h : x = "len" then some ⟨.len ma.1, se_len h (bi?_spec hb).1 (bi?_spec hb).2 hn ma.2⟩
  else if h : x = "int" then some ⟨.toInt ma.1, se_toInt h (bi?_spec hb).1 (bi?_spec hb).2 hn ma.2⟩
  else if h : x = "list" then some ⟨.listOf ma.1, se_listOf h (bi?_spec hb).1 (bi?_spec hb).2 hn ma.2⟩
  else if h : x = "sorted" then some ⟨.sorted ma.1, se_sorted h (bi?_spec hb).1 (bi?_spec hb).2 hn ma.2⟩
  else none
noncomputable def cB2 (F : Fx) (x : Str) (p pos : Pos) (a b : Expr) (hb : bi? F x = true) (hn : notStar a = true) (hn2 : notStar b = true) (ma : { m : ME // SE F a m }) (mb : { m : ME // SE F b m }) : RE F (.Call (.Name x p) [a, b] [] pos) :=
  if h : x = "divmod" then some ⟨.dvm ma.1 mb.1, se_dvm h (bi?_spec hb).1 (bi?_spec hb).2 hn hn2 ma.2 mb.2⟩
  else if h : x = "pow" then some ⟨.bin .pow ma.1 mb.1, se_pow2 h (bi?_spec hb).1 (bi?_spec hb).2 hn hn2 ma.2 mb.2⟩
  else none
noncomputable def cB3 (F : Fx) (x : Str) (p pos : Pos) (a b e : Expr) (hb : bi? F x = true) (hn : notStar a = true) (hn2 : notStar b = true) (hn3 : notStar e = true) (ma : { m : ME // SE F a m }) (mb : { m : ME // SE F b m }) (me : { m : ME // SE F e m }) : RE F (.Call (.Name x p) [a, b, e] [] pos) :=
  if h : x = "pow" then some ⟨.pow3 ma.1 mb.1 me.1, se_pow3 h (bi?_spec hb).1 (bi?_spec hb).2 hn hn2 hn3 ma.2 mb.2 me.2⟩
  else none
/-- the place of a cell name -/
noncomputable def locC? (F : Fx) (x : Str) : Option Nat :=
  match fIdx F.names x 0 with
  | some i => if F.sc.names.lookup x = some .cell ∧ (x == ("__debug__" : Str)) = false then some i else none
  | none => none
theorem locC?_spec {F : Fx} {x : Str} {i : Nat} (h : locC? F x = some i) : F.names[i]? = some x ∧ F.sc.names.lookup x = some .cell ∧ (x == ("__debug__" : Str)) = false := by
  unfold locC? at h
  split at h
  · rename_i j hj
    split at h
    · rename_i e
      cases h
      exact ⟨by simpa using (fIdx_get hj).2, e.1, e.2⟩
    · cases h
  · cases h
noncomputable def ndB : List Str → Bool
  | [] => true
  | x :: r => !(r.contains x) && ndB r
theorem ndB_nodup : ∀ {l : List Str}, ndB l = true → l.Nodup
  | [], _ => List.nodup_nil
  | x :: r, h => by
    simp only [ndB, Bool.and_eq_true, Bool.not_eq_true', List.contains_eq_mem, decide_eq_false_iff_not] at h
    exact List.nodup_cons.mpr ⟨h.1, ndB_nodup h.2⟩
noncomputable def idxs (F : Fx) : List Str → Option (List Nat)
  | [] => some []
  | x :: r => match fIdx F.names x 0, idxs F r with
    | some i, some is => some (i :: is)
    | _, _ => none
noncomputable def freeOfS (scope : Scope) : List Str := (scope.names.filter (·.2 == .free)).map (·.1)
noncomputable def compB (F : Fx) (scope : Scope) (x : Str) (xs : List Str) (is : List Nat) : Bool :=
  (scope.kind == .function) && scope.names.all (fun y => !(y.2 == .cell)) && scope.names.all (fun y => !(y.2 == .local) || scope.names.lookup y.1 == some .local) && (scope.names.lookup x == some .local) &&
    (xs.length == is.length) && (xs.zip is).all (fun p => F.names[p.2]? == some p.1) && ndB (x :: xs)
theorem compB_spec {F : Fx} {scope : Scope} {x : Str} {is : List Nat} (h : compB F scope x (freeOfS scope) is = true) : CompOk F scope x (freeOfS scope) is := by
  simp only [compB, Bool.and_eq_true, beq_iff_eq] at h
  obtain ⟨⟨⟨⟨⟨⟨h1, h2⟩, h3⟩, h4⟩, h5⟩, h6⟩, h7⟩ := h
  refine ⟨h1, fun y hy e => ?_, fun y hy e => ?_, h4, rfl, h5, fun p hp => ?_, ndB_nodup h7⟩
  · have := List.all_eq_true.mp h2 y hy
    rw [e] at this; revert this; decide
  · have := List.all_eq_true.mp h3 y hy
    rw [e] at this; simpa using this
  · simpa using List.all_eq_true.mp h6 p hp
noncomputable def compX (F : Fx) (scope : Scope) (x : Str) : Option { is : List Nat // CompOk F scope x (freeOfS scope) is } :=
  match idxs F (freeOfS scope) with
  | some is => if h : compB F scope x (freeOfS scope) is = true then some ⟨is, compB_spec h⟩ else none
  | none => none
/-- a compiled comprehension -/
structure RC (F : Fx) (x : Str) (px : Pos) (iter : Expr) (ifs : List Expr) (scope : Scope) (pos : Pos) (elt : Expr) where
  m : ME
  is : List Nat
  co : CompOk F scope x (freeOfS scope) is
  hse : ∀ env v, foldedSetIterable iter env v = pure v
  run : CompRun F x (freeOfS scope) is scope px pos ifs iter elt m
mutual
noncomputable def cC (F : Fx) : Nat → (x : Str) → (px : Pos) → (iter : Expr) → (ifs : List Expr) → (scope : Scope) → (pos : Pos) → (elt : Expr) → Option (RC F x px iter ifs scope pos elt)
  | 0, _, _, _, _, _, _, _ => none
  | n + 1, x, px, iter, ifs, scope, pos, elt =>
      match compX F scope x with
      | none => none
      | some co => match cTs (F.inner scope (x :: freeOfS scope)) n ifs, cE (F.inner scope (x :: freeOfS scope)) n elt with
        | some mc, some me => (match iter with
          | .Call (.Name r pr) [a] [] pc => if hr : r = "range" ∧ bi? F r = true ∧ notStar a = true then (match cE F n a with
              | some ma => some ⟨.compR (.int 0) ma.1 (.int 1) mc.1 me.1 co.1, co.1, co.2, (fun _ => folded_call), (cr_compR1 co.2 hr.1 (bi?_spec hr.2.1).1 (bi?_spec hr.2.1).2 hr.2.2 ma.2 mc.2 me.2)⟩
              | none => none) else (match cE F n (.Call (.Name r pr) [a] [] pc) with
              | some mi => some ⟨.compL mi.1 mc.1 me.1 co.1, co.1, co.2, (fun _ => folded_call), cr_compL co.2 rfl mi.2 mc.2 me.2⟩
              | none => none)
          | .Call (.Name r pr) [a, b] [] pc => if hr : r = "range" ∧ bi? F r = true ∧ notStar a = true ∧ notStar b = true then (match cE F n a, cE F n b with
              | some ma, some mb => some ⟨.compR ma.1 mb.1 (.int 1) mc.1 me.1 co.1, co.1, co.2, (fun _ => folded_call), (cr_compR2 co.2 hr.1 (bi?_spec hr.2.1).1 (bi?_spec hr.2.1).2 hr.2.2.1 ma.2 hr.2.2.2 mb.2 mc.2 me.2)⟩
              | _, _ => none) else none
          | .Call (.Name r pr) [a, b, f] [] pc => if hr : r = "range" ∧ bi? F r = true ∧ notStar a = true ∧ notStar b = true ∧ notStar f = true then (match cE F n a, cE F n b, cE F n f with
              | some ma, some mb, some mf => some ⟨.compR ma.1 mb.1 mf.1 mc.1 me.1 co.1, co.1, co.2, (fun _ => folded_call), (cr_compR3 co.2 hr.1 (bi?_spec hr.2.1).1 (bi?_spec hr.2.1).2 hr.2.2.1 ma.2 hr.2.2.2.1 mb.2 hr.2.2.2.2 mf.2 mc.2 me.2)⟩
              | _, _, _ => none) else none
          | e => if hs : setE e = false then (match cE F n e with
              | some mi => some ⟨.compL mi.1 mc.1 me.1 co.1, co.1, co.2, (fun _ => folded_plain hs), (cr_compL co.2 hs mi.2 mc.2 me.2)⟩
              | none => none) else none)
        | _, _ => none
termination_by structural n => n
noncomputable def cE (F : Fx) : Nat → (e : Expr) → RE F e
  | 0, _ => none
  | n + 1, .Name x _ => match h : loc? F x with
    | some i => some ⟨.var i, se_var (loc?_spec h).1 (loc?_spec h).2.1 (loc?_spec h).2.2⟩
    | none => match h : locC? F x with
      | some i => some ⟨.cvar i, se_cvar (locC?_spec h).1 (locC?_spec h).2.1 (locC?_spec h).2.2⟩
      | none => none
  | n + 1, .ListComp elt [⟨.Name x px, iter, ifs, 0⟩] scope pos => if ht : F.top = true then
      match cC F n x px iter ifs scope pos elt with
      | some c => some ⟨c.m, se_comp c.co ht c.hse c.run⟩
      | none => none
    else none
  | n + 1, .Constant (.int i) _ _ => some ⟨.int i, se_int⟩
  | n + 1, .Constant (.bool b) _ _ => some ⟨.bool b, se_bool⟩
  | n + 1, .Constant (.str x) _ _ => if h : x = Str.ofString x.toString then some ⟨.strC x.toString, se_strC h⟩ else none
  | n + 1, .BinOp a o b _ => match h : opOf o, cE F n a, cE F n b with
    | some bo, some ma, some mb => some ⟨.bin bo ma.1 mb.1, se_bin h ma.2 mb.2⟩
    | _, _, _ => none
  | n + 1, .UnaryOp .USub a _ => (cE F n a).map fun ma => ⟨.neg ma.1, se_neg ma.2⟩
  | n + 1, .UnaryOp .Not a _ => (cE F n a).map fun ma => ⟨.not ma.1, se_not ma.2 fun _ _ _ _ _ _ h => PyProof.Rows.not_of h⟩
  | n + 1, .Compare a [o] [b] _ => match h : cmpOf o, cE F n a, cE F n b with
    | some bo, some ma, some mb => some ⟨.cmp bo ma.1 mb.1, se_cmp h ma.2 mb.2⟩
    | _, _, _ => none
  | n + 1, .Compare a [o, q] [b, e] _ => match h : cmpOf o, h' : cmpOf q, cE F n a, cE F n b, cE F n e with
    | some bo, some bq, some ma, some mb, some me => some ⟨.chain ma.1 bo mb.1 bq me.1, se_chain h h' ma.2 mb.2 me.2⟩
    | _, _, _, _, _ => none
  | n + 1, .BoolOp o [a] _ => (cE F n a).map fun ma => ⟨ma.1, se_and_one o ma.2⟩
  | n + 1, .BoolOp .And (a :: b :: r) pos => match cE F n a, cE F n (.BoolOp .And (b :: r) pos) with
    | some ma, some mb => some ⟨.and ma.1 mb.1, se_and ma.2 mb.2⟩
    | _, _ => none
  | n + 1, .BoolOp .Or (a :: b :: r) pos => match cE F n a, cE F n (.BoolOp .Or (b :: r) pos) with
    | some ma, some mb => some ⟨.or ma.1 mb.1, se_or ma.2 mb.2⟩
    | _, _ => none
  | n + 1, .IfExp a b e _ => match cT F n a, cE F n b, cE F n e with
    | some ma, some mb, some me => some ⟨.ite ma.1 mb.1 me.1, se_ite ma.2 mb.2 me.2⟩
    | _, _, _ => none
  | n + 1, .Tuple es _ _ => (cEs F n es).map fun ms => ⟨.tup ms.1, se_tup ms.2⟩
  | n + 1, .List es _ => (cEs F n es).map fun ms => ⟨.list ms.1, se_list ms.2⟩
  | n + 1, .Subscript a (.Slice (some i) none none p) pos => match cE F n a, cE F n i with
    | some ma, some mi => some ⟨.slcF ma.1 mi.1, se_slcF ma.2 mi.2⟩
    | _, _ => none
  | n + 1, .Subscript a i _ => if h : sliceOf i = false then match cE F n a, cE F n i with
      | some ma, some mi => some ⟨.idx ma.1 mi.1, se_idx h ma.2 mi.2⟩
      | _, _ => none
    else none
  | n + 1, .Call (.Attribute o nm apos) [e] [] pos => if hs : supE o = false ∧ (apos.endLine == pos.line) = true then match cE F n o with
      | some mo => if h : nm = "append" then (if hn : notStar e = true then (cE F n e).map fun me => ⟨.app mo.1 me.1, se_app h hs.1 hs.2 hn mo.2 me.2⟩ else none)
        else if h : nm = "pop" then (match e with
          | .Constant (.int 0) _ _ => some ⟨.pop0 mo.1, se_pop0 h hs.1 hs.2 mo.2⟩
          | _ => none)
        else none
      | none => none
    else none
  | n + 1, .Call (.Name x p) (e :: es) [] pos => match h : F.gt.lookup x with
    | some a => if hx : glob? F x = true ∧ (e :: es).all notStar = true then
        (cEs F n (e :: es)).map fun ms => ⟨.call a ms.1, se_call h (glob?_spec hx.1).1 (glob?_spec hx.1).2 hx.2 ms.2⟩
      else none
    | none => if hb : bi? F x = true then match es with
        | [] => if hn : notStar e = true then (match cE F n e with | some ma => cB1 F x p pos e hb hn ma | none => none) else none
        | [.Name T pT] => if hi : x = "isinstance" then (match hk : kdOf T with
              | some k => if hT : bi? F T = true ∧ notStar e = true then (cE F n e).map fun ma => ⟨.isi ma.1 k, se_isi hi (bi?_spec hb).1 (bi?_spec hb).2 (bi?_spec hT.1).1 (bi?_spec hT.1).2 hk hT.2 ma.2⟩ else none
              | none => none)
            else if hn : notStar e = true then (match cE F n e, cE F n (.Name T pT) with | some ma, some mb => cB2 F x p pos e (.Name T pT) hb hn rfl ma mb | _, _ => none) else none
        | [b] => if hn : notStar e = true ∧ notStar b = true then (match cE F n e, cE F n b with | some ma, some mb => cB2 F x p pos e b hb hn.1 hn.2 ma mb | _, _ => none) else none
        | [b, f] => if hn : notStar e = true ∧ notStar b = true ∧ notStar f = true then (match cE F n e, cE F n b, cE F n f with | some ma, some mb, some mf => cB3 F x p pos e b f hb hn.1 hn.2.1 hn.2.2 ma mb mf | _, _, _ => none) else none
        | _ => none
      else none
  | _ + 1, _ => none
termination_by structural n => n
noncomputable def cEs (F : Fx) : Nat → (es : List Expr) → REs F es
  | 0, _ => none
  | n + 1, [] => some ⟨.nil, ses_nil⟩
  | n + 1, e :: r => if h : notStar e = true then match cE F n e, cEs F n r with
      | some me, some mr => some ⟨.cons me.1 mr.1, ses_cons h me.2 mr.2⟩
      | _, _ => none
    else none
termination_by structural n => n
noncomputable def cTs (F : Fx) : Nat → (es : List Expr) → Option { m : ME // STs F es m }
  | 0, _ => none
  | n + 1, [] => some ⟨.tv (.bool true), sts_nil⟩
  | n + 1, [e] => (cT F n e).map fun m => ⟨m.1, sts_one m.2⟩
  | _ + 1, _ => none
termination_by structural n => n
noncomputable def cT (F : Fx) : Nat → (e : Expr) → RT F e
  | 0, _ => none
  | n + 1, .Compare a [.Is] [.Constant .none _ _] _ => (cE F n a).map fun ma => ⟨.tv (.isn ma.1 true), st_isn ma.2⟩
  | n + 1, .Compare a [.IsNot] [.Constant .none _ _] _ => (cE F n a).map fun ma => ⟨.tv (.isn ma.1 false), st_isnn ma.2⟩
  | n + 1, .Compare a [o] [b] _ => match h : cmpOf o, cE F n a, cE F n b with
    | some bo, some ma, some mb => some ⟨.cmp bo ma.1 mb.1, st_cmp h ma.2 mb.2⟩
    | _, _, _ => none
  | n + 1, .Compare a [o, q] [b, e] _ => match h : cmpOf o, h' : cmpOf q, cE F n a, cE F n b, cE F n e with
    | some bo, some bq, some ma, some mb, some me => some ⟨.chain ma.1 bo mb.1 bq me.1, st_chain h h' ma.2 mb.2 me.2⟩
    | _, _, _, _, _ => none
  | n + 1, .UnaryOp .Not a _ => (cT F n a).map fun ma => ⟨.not ma.1, st_not ma.2⟩
  | n + 1, .BoolOp o es pos => (cTB F n o es pos).map fun m => ⟨m.1, st_of m.2⟩
  | n + 1, .IfExp a b e _ => match cT F n a, cT F n b, cT F n e with
    | some ma, some mb, some me => some ⟨.ite ma.1 mb.1 me.1, st_ite ma.2 mb.2 me.2⟩
    | _, _, _ => none
  | n + 1, e => if h : plainTest e = true then (cE F n e).map fun m => ⟨.tv m.1, st_tv h m.2⟩ else none
termination_by structural n => n
noncomputable def cTB (F : Fx) : Nat → (o : BoolOp) → (es : List Expr) → (pos : Pos) → RTB F o es pos
  | 0, _, _, _ => none
  | n + 1, .And, [a], pos => (cT F n a).map fun m => ⟨m.1, stb_and_one m.2⟩
  | n + 1, .Or, [a], pos => (cT F n a).map fun m => ⟨m.1, stb_or_one m.2⟩
  | n + 1, .And, a :: r, pos => match cT F n a, cTB F n .And r pos with
    | some ma, some mr => some ⟨.and ma.1 mr.1, stb_and ma.2 mr.2⟩
    | _, _ => none
  | n + 1, .Or, a :: r, pos => match cT F n a, cTB F n .Or r pos with
    | some ma, some mr => some ⟨.or ma.1 mr.1, stb_or ma.2 mr.2⟩
    | _, _ => none
  | _, _, _, _ => none
termination_by structural n => n
end
noncomputable abbrev RS (F : Fx) (st : Stmt) := Option { m : MS // SS F st m }
noncomputable abbrev RB (F : Fx) (b : List Stmt) := Option { m : MS // SB F b m }
theorem or7 {b : BOp} (h : (b == .add || b == .sub || b == .mul || b == .fdiv || b == .mod || b == .shr || b == .band) = true) : b = .add ∨ b = .sub ∨ b = .mul ∨ b = .fdiv ∨ b = .mod ∨ b = .shr ∨ b = .band := by
  cases b <;> simp_all <;> revert h <;> decide
noncomputable def isTup : Expr → Bool
  | .Tuple .. => true
  | _ => false
theorem isTup_ne {e : Expr} (h : isTup e = false) : ∀ vs k' p', e ≠ .Tuple vs k' p' := by
  intro vs k p q; subst q; cases h
structure RTS (F : Fx) (st : Stmt) where
  e : Expr
  t : TK
  m : ME
  ts : TS F e st t
  se : SE F e m
noncomputable def cTS (F : Fx) : (st : Stmt) → Option (RTS F st)
  | .Expr e pos => if hc : compE e = false then (cE F 60 e).map fun m => ⟨e, .expr, m.1, .expr hc, m.2⟩ else none
  | .Return (some e) pos => (cE F 60 e).map fun m => ⟨e, .ret, m.1, .ret, m.2⟩
  | .Assign [.Name x p] e pos => match h : loc? F x with
    | some i => if hc : compE e = false then (cE F 60 e).map fun m => ⟨e, .asg i, m.1, .asg (loc?_spec h).1 (loc?_spec h).2.1 hc, m.2⟩ else none
    | none => none
  | _ => none
noncomputable def cSH (F : Fx) : (b : List Stmt) → Option { m : MH // SH F b m }
  | [.Return (some (.Constant (.bool b) _ _)) _] => some ⟨.retB b, sh_retB⟩
  | [.Return (some (.Constant .none _ _)) _] => some ⟨.retN, sh_retN⟩
  | [.Return (some (.Tuple [.Constant (.str x) _ _] _ _)) _] => if h : x = Str.ofString x.toString then some ⟨.retS x.toString, sh_retS h⟩ else none
  | [.Assign [.Name x _] (.BinOp (.Name y _) .Add (.Constant (.int n) _ _) _) _] => if hxy : y = x then (match h : loc? F x with
      | some i => some ⟨.inc i n, by subst hxy; exact sh_inc (loc?_spec h).1 (loc?_spec h).2.1 (loc?_spec h).2.2⟩
      | none => none) else none
  | _ => none
mutual
noncomputable def cS (F : Fx) : Nat → (st : Stmt) → RS F st
  | 0, _ => none
  | n + 1, .Assign [.Name x p] e pos => match h : loc? F x with
    | some i => if hc : compE e = false then (cE F 60 e).map fun m => ⟨.asg i m.1, ss_asg (loc?_spec h).1 (loc?_spec h).2.1 hc m.2⟩
      else (match e with
        | .ListComp elt [⟨.Name y px, iter, ifs, 0⟩] scope cpos => if hs : F.top = true ∧ swapB F x p scope cpos = true then (match cC F 60 y px iter ifs scope cpos elt with
            | some c => some ⟨.asg i c.m, ss_asgX c.co hs.1 c.hse c.run (loc?_spec h).1 (loc?_spec h).2.1 hs.2⟩
            | none => none) else none
        | _ => none)
    | none => match h : locC? F x with
      | some i => (cE F 60 e).map fun m => ⟨.casg i m.1, ss_casgX (locC?_spec h).1 (locC?_spec h).2.1 m.2⟩
      | none => none
  | n + 1, .Assign [.Tuple ts k p] (.Tuple es k' p') pos => match ht : tgt? F ts with
    | some (xs, is) => if hl : ts.length = es.length ∧ es.length ≤ 100 then
        (match hs : swr F.sc ts es with
        | some none => (cEs F 60 es).map fun m => ⟨.asgN is m.1, ss_asgN ht (.inl hs) hl.1 hl.2 m.2⟩
        | some (some ys) => if hy : ys = xs ∧ is.Nodup then (cEs F 60 es).map fun m => ⟨.asgN is m.1, ss_asgN ht (.inr ⟨by rw [hs, hy.1], hy.2⟩) hl.1 hl.2 m.2⟩ else none
        | none => none)
      else none
    | none => match ht : tgtC? F ts with
      | some is => if hl : swr F.sc ts es = some none ∧ ts.length = es.length ∧ es.length ≤ 100 then (cEs F 60 es).map fun m => ⟨.asgC is m.1, ss_asgC ht hl.1 hl.2.1 hl.2.2 m.2⟩ else none
      | none => none
  | n + 1, .Assign [.Tuple ts k p] e pos => match ht : tgt? F ts with
    | some (xs, is) => if hc : compE e = false ∧ isTup e = false then (cE F 60 e).map fun m => ⟨.unp is m.1, ss_unp ht (isTup_ne hc.2) hc.1 m.2⟩ else none
    | none => none
  | n + 1, .Assign [.Subscript o i p] e pos => if hc : compE e = false then
      (match cE F 60 o, cE F 60 i, cE F 60 e with
      | some mo, some mi, some me => some ⟨.setI mo.1 mi.1 me.1, ss_setI hc me.2 mo.2 mi.2⟩
      | _, _, _ => none) else none
  | n + 1, .AugAssign (.Name x p) o e pos => match h : loc? F x, ho : opOf o with
    | some i, some b => if hb : (b == .add || b == .sub || b == .mul || b == .fdiv || b == .mod || b == .shr || b == .band) = true then
        (cE F 60 e).map fun m => ⟨.aug i b m.1, ss_aug ho (or7 hb) (loc?_spec h).1 (loc?_spec h).2.1 m.2⟩ else none
    | _, _ => none
  | n + 1, .If t a b pos => match cT F 60 t, cSB F n a, cSB F n b with
    | some mt, some ma, some mb => some ⟨.ite mt.1 ma.1 mb.1, ss_if mt.2 ma.2 mb.2⟩
    | _, _, _ => none
  | n + 1, .While t a b pos => match cT F 60 t, cSB F n a, cSB F n b with
    | some mt, some ma, some mb => some ⟨.whil mt.1 ma.1 mb.1, ss_while mt.2 ma.2 mb.2⟩
    | _, _, _ => none
  | n + 1, .Return (some e) pos => (cE F 60 e).map fun m => ⟨.ret m.1, ss_ret m.2⟩
  | n + 1, .Expr e pos => if hc : compE e = false then (cE F 60 e).map fun m => ⟨.expr m.1, ss_expr hc m.2⟩ else none
  | n + 1, .For (.Name x p) (.Call (.Name r pr) [a] [] pc) b [] pos => if hr : r = "range" then
      (match h : loc? F x with
      | some i => if hb : bi? F r = true ∧ notStar a = true then (match cE F 60 a, cSB F n b with
          | some ma, some mb => some ⟨.forR i (.int 0) ma.1 (.int 1) mb.1, ss_forR1 hr (bi?_spec hb.1).1 (bi?_spec hb.1).2 hb.2 ma.2 (loc?_spec h).1 (loc?_spec h).2.1 mb.2⟩
          | _, _ => none) else none
      | none => none)
      else (match h : loc? F x with
      | some i => (match cE F 60 (.Call (.Name r pr) [a] [] pc), cSB F n b with
          | some ma, some mb => some ⟨.forL i ma.1 mb.1, ss_forL rfl ma.2 (loc?_spec h).1 (loc?_spec h).2.1 mb.2⟩
          | _, _ => none)
      | none => none)
  | n + 1, .For (.Name x p) (.Call (.Name r pr) [a, e] [] pc) b [] pos => if hr : r = "range" then
      (match h : loc? F x with
      | some i => if hb : bi? F r = true ∧ notStar a = true ∧ notStar e = true then (match cE F 60 a, cE F 60 e, cSB F n b with
          | some ma, some me, some mb => some ⟨.forR i ma.1 me.1 (.int 1) mb.1, ss_forR2 hr (bi?_spec hb.1).1 (bi?_spec hb.1).2 hb.2.1 ma.2 hb.2.2 me.2 (loc?_spec h).1 (loc?_spec h).2.1 mb.2⟩
          | _, _, _ => none) else none
      | none => none)
      else none
  | n + 1, .For (.Name x p) (.Call (.Name r pr) [a, e, f] [] pc) b [] pos => if hr : r = "range" then
      (match h : loc? F x with
      | some i => if hb : bi? F r = true ∧ notStar a = true ∧ notStar e = true ∧ notStar f = true then (match cE F 60 a, cE F 60 e, cE F 60 f, cSB F n b with
          | some ma, some me, some mf, some mb => some ⟨.forR i ma.1 me.1 mf.1 mb.1, ss_forR3 hr (bi?_spec hb.1).1 (bi?_spec hb.1).2 hb.2.1 ma.2 hb.2.2.1 me.2 hb.2.2.2 mf.2 (loc?_spec h).1 (loc?_spec h).2.1 mb.2⟩
          | _, _, _, _ => none) else none
      | none => none)
      else none
  | _ + 1, .Raise (some (.Call (.Name x np) [.Constant (.str t) k kp] [] cpos)) none pos => if h : x = "ValueError" ∧ bi? F x = true then some ⟨.raise "ValueError", ss_raise h.1 (bi?_spec h.2).1 (bi?_spec h.2).2⟩ else some ⟨.stop, ss_stop⟩
  | _ + 1, .Raise .. => some ⟨.stop, ss_stop⟩
  | n + 1, .Try [st] [.ExceptHandler (some (.Name x np)) none (b₀ :: suite) pos] [] [] p2 => if h : x = Str.ofString "ValueError" ∧ bi? F x = true ∧ F.top = true ∧ (F.sc.names.all fun y => !(y.2 == .cell)) = true then
      match cTS F st, cSH F (b₀ :: suite) with
      | some t, some mh => some ⟨.tryE t.t t.m "ValueError" mh.1, by
          obtain ⟨rfl, h2, h3, h4⟩ := h
          exact ss_tryE t.ts t.se h3 h4 (bi?_spec h2).1 (bi?_spec h2).2 mh.2⟩
      | _, _ => none
    else none
  | _ + 1, _ => none
termination_by structural n => n
noncomputable def cSB (F : Fx) : Nat → (b : List Stmt) → RB F b
  | 0, _ => none
  | n + 1, [] => some ⟨.skip, sb_nil⟩
  | n + 1, st :: r => match cS F n st, cSB F n r with
    | some m, some mr => some ⟨.seq m.1 mr.1, sb_cons m.2 mr.2⟩
    | _, _ => none
termination_by structural n => n
end
noncomputable def namesOf (sc : Scope) : List Str := sc.names.filterMap fun (x, k) => if k == .local || k == .cell then some x else none
noncomputable abbrev mkF (g : G) (gt : List (Str × Addr)) (bt : List Str) (f : Addr) (tr : Bool := false) : Fx := ⟨g, gt, bt, namesOf (fnAt g.K f).scope, (fnAt g.K f).scope, true, tr⟩
theorem sb_of {F : Fx} {b : List Stmt} {n : Nat} {ms : MS} (h : (cSB F n b).map (fun m => m.1) = some ms) : SB F b ms := by
  cases q : cSB F n b with
  | none => rw [q] at h; cases h
  | some m => rw [q] at h; simp only [Option.map_some, Option.some.injEq] at h; exact h ▸ m.2
noncomputable def gtB (K : Frag) (gt : List (Str × Addr)) : Bool := gt.all fun p => (match nsIn K mainGlobals p.1 with | some (some (.ref a)) => a == p.2 | _ => false) && keepIn K (.ref p.2)
noncomputable def btB (K : Frag) (bt : List Str) : Bool := bt.all fun x => (match nsIn K mainGlobals x with | some Option.none => true | _ => false)
theorem lookup_mem {x : Str} {a : Addr} : ∀ {l : List (Str × Addr)}, l.lookup x = some a → (x, a) ∈ l
  | [], h => by cases h
  | (y, b) :: r, h => by
    rw [List.lookup_cons] at h
    cases q : x == y with
    | true => rw [q] at h; cases h; rw [beq_iff_eq.mp q]; exact .head _
    | false => rw [q] at h; exact .tail _ (lookup_mem h)
theorem fok {g : G} {gt : List (Str × Addr)} {bt : List Str} {names : List Str} {sc : Scope} (h1 : gtB g.K gt = true) (h2 : btB g.K bt = true) (h3 : ndB names = true) {tr : Bool} (h4 : tr = true → catchOk g := by intro h; cases h) : Fx.Ok ⟨g, gt, bt, names, sc, true, tr⟩ where
  tr := h4
  gt := fun x a h => by
    have := List.all_eq_true.mp h1 _ (lookup_mem h)
    simp only [Bool.and_eq_true] at this
    refine ⟨?_, this.2⟩
    have h := this.1
    split at h
    · rename_i b e; rw [e, eq_of_beq h]
    · cases h
  bt := fun x h => by
    have := List.all_eq_true.mp h2 _ h
    split at this
    · assumption
    · cases this
  nd := ndB_nodup h3
/-- the two stores agree on all that the first held, but at the places of S -/
noncomputable def Upto (S : List Addr) (hp hp' : HP) : Prop := ∀ b, b ∉ S → ∀ o, hp b = some o → hp' b = some o
theorem Upto.refl {S hp} : Upto S hp hp := fun _ _ _ h => h
theorem Upto.trans {S hp h1 h2} (a : Upto S hp h1) (b : Upto S h1 h2) : Upto S hp h2 := fun x hx o h => b x hx o (a x hx o h)
theorem Upto.new {S hp r o} (h : hp r = none) : Upto S hp (hset hp r o) := fun x _ o' e => by rw [hset_ne (fun q => by rw [q, h] at e; cases e)]; exact e
theorem Upto.set {S hp r o} (h : r ∈ S) : Upto S hp (hset hp r o) := fun x hx o' e => by rw [hset_ne (fun q => hx (by rw [q]; exact h))]; exact e
theorem Upto.mono {S T hp hp'} (a : Upto S hp hp') (h : ∀ x ∈ S, x ∈ T) : Upto T hp hp' := fun x hx o e => a x (fun q => hx (h x q)) o e
theorem Upto.at {S hp hp' a o} (u : Upto S hp hp') (h : hp a = some o) (hn : a ∉ S := by simp) : hp' a = some o := u a hn o h
theorem ne_of_none {hp : HP} {a b : Addr} {o : O} (h : hp a = none) (h' : hp b = some o) : b ≠ a := fun e => by rw [e, h] at h'; cases h'
theorem turnNil {g g' h : Heap} {L : Addr} {m : Str → Option Value} (T : KtsTurn [] g g') (F : Fr g' L h m) : Fr g L h m :=
  ⟨F.ns, fun b o e => F.keep b o (T.other b o e (by simp)), by rw [← T.size]; exact F.above⟩
/-- a law whose frame has cells -/
theorem law_endC {prog : Program} {w : World} {K : Frag} {p : Program} {loose : List Str} {mean : ExcName → Option Value} {mg mb : Str → Option Value} {gt : List (Str × Addr)} {bt : List Str} {f : Addr} {tr : Bool}
    (FO : Fx.Ok (mkF ⟨prog, w, K, p, loose, mean, mg, mb⟩ gt bt f tr)) {body : List Stmt} {ms : MS} (hb : SB (mkF ⟨prog, w, K, p, loose, mean, mg, mb⟩ gt bt f tr) body ms)
    {s₁ : Shared} {h₁ : Heap} {tk : Nat} {qn : Str} {sc : Scope} {fa : Addr} {cd : Value} {m : Str → Option Value} {a : Addr} {vs : List Value} {ns : List Int} {cells : List (Addr × Obj)}
    (T : Top p loose mean mg mb s₁.heap) (KX : K.In s₁.heap) (K0 : Below callerA s₁.heap [] s₁.heap) (hF : Fr s₁.heap s₁.heap.objs.size h₁ m) (hN : News s₁.heap s₁.heap.objs.size h₁ cells) (hl : s₁.heap.IsList a vs.toArray) (hi : IntsAre vs ns)
    (hsc : sc = (fnAt K f).scope) (hk : sc.kind = .function) (hg : sc.isGenerator = false) (hc : sc.isCoroutine = false) (him : importsNone p = true) (htree : prog.given.tree = none)
    {x : Str} (hm : m = bindL (fun y => sc.names.lookup y) [(x, Value.ref a)] fun _ => none) (CA : CellsAre (bindC (fun y => sc.names.lookup y) [(x, Value.ref a)] fun _ => none) (cellsFrom (s₁.heap.objs.size + 1) sc.names []) cells)
    (hnm : (namesOf (fnAt K f).scope).take 1 = [x]) (hnl : ((namesOf (fnAt K f).scope).all fun x => (fnAt K f).scope.names.lookup x == some .local || (fnAt K f).scope.names.lookup x == some .cell) = true)
    {ps : V → List (Bool × V)} (hps : ∀ b, (cellKs (fnAt K f).scope (namesOf (fnAt K f).scope)).zip (unC (namesOf (fnAt K f).scope) [(x, V.ref b)]) = ps (.ref b))
    (hex : ∀ b, enterC (ps (.ref b)) (fun c => if c = b then some (.ro (ns.map .int)) else none) fun l h0 => exec ⟨prog, w, K, p, loose, mean, mg, mb⟩ 40 ms l h0 (fun o _ _ => o = .ret (.bool true)) noX)
    {Q : Flow → Shared → Prop} {E : Value → Shared → Prop} (hQ : ∀ h' tk' m', Fr s₁.heap s₁.heap.objs.size h' m' → Q (.ret (.bool true)) { s₁ with heap := h', toks := tk' }) :
    wpAny (model prog w) (callerA.deeper (envOfC qn sc s₁.heap.objs.size fa cd)) (execs body (envOfC qn sc s₁.heap.objs.size fa cd)) Q E { s₁ with heap := h₁, toks := tk } := by
  subst hsc
  let c : Cx := { g := ⟨prog, w, K, p, loose, mean, mg, mb⟩, A₀ := callerA, base := s₁.heap, h₀ := s₁.heap, outer := [], L := s₁.heap.objs.size, qn := qn, fsc := (fnAt K f).scope, fa := fa, cd := cd, cl := cellsFrom (s₁.heap.objs.size + 1) (fnAt K f).scope.names [], cp := none }
  have ok : c.Ok := ⟨K0, KX, T, ktsDicts_nil, hk, hk, hg, hc, rfl, T.seer him, htree⟩
  have hv := ints_abs hi
  have H : HpN c (fun b => if b = a then some (.ro (ns.map .int)) else none) [] := by
    refine ⟨⟨[a], fun b o h => ?_⟩, fun b o h => ?_⟩
    · by_cases q : b = a
      · simp [q]
      · simp [q] at h
    · by_cases q : b = a
      · simp only [q, if_true, Option.some.injEq] at h
        subst h; subst q
        exact ⟨vs.toArray, hl, by simpa using hv⟩
      · simp [q] at h
  obtain ⟨l', hp1, hx1, R'⟩ := enter_rep (F := mkF ⟨prog, w, K, p, loose, mean, mg, mb⟩ gt bt f tr) FO (c' := c) (sc := (fnAt K f).scope) (L' := s₁.heap.objs.size) (binds := [(x, Value.ref a)]) (bargs := [(x, V.ref a)]) (fr := []) (news0 := []) rfl rfl rfl rfl rfl hm rfl hF (by simpa using hN) CA H (fun _ h => nomatch h) (fun _ h => nomatch h) (fun _ _ e => e) rfl (by simpa using hnm)
    (fun x hx => by have := List.all_eq_true.mp hnl x hx; simpa using this) (by rw [hps]; exact hex a)
  refine hb c 40 FO rfl ⟨rfl, fun _ => rfl, fun _ hc => cellsFrom_none hc⟩ ok ⟨(by show callerA.depth + 1 + 40 + 200 < recursionLimit; decide), (by show callerA.units + 3 + 8 * 40 + 200 < cLine; decide)⟩ l' hp1 _ noX hx1 rfl [] _ _ _ R' (fun o f l' hp' h' tk' ho hf R' => ?_) fun _ => noXP
  subst ho
  cases f <;> first | exact hf.elim | skip
  cases absV_bool hf
  obtain ⟨g, T, m', F', _⟩ := R'
  exact hQ h' tk' m' (turnNil (g' := g) T F')
/-- the pool of a law: at p the cell x, the seed y and the list r of the numbers left -/
noncomputable def Pool (hp : HP) (p r : Addr) : Prop :=
  ∃ (x y : Int) (ns : List Int), hp p = some (.list [.int x, .int y, .ref r]) ∧ hp r = some (.list (ns.map .int)) ∧ p ≠ r ∧ 0 ≤ x ∧ 0 ≤ y ∧ ns.length < 1000
theorem Pool.up {S hp hp' p r} (P : Pool hp p r) (u : Upto S hp hp') (h1 : p ∉ S := by simp) (h2 : r ∉ S := by simp) : Pool hp' p r := by
  obtain ⟨x, y, ns, a, b, c⟩ := P
  exact ⟨x, y, ns, u.at a h1, u.at b h2, c⟩
noncomputable def drawTail : MS := (.seq (.ite (.cmp .gt (.idx (.var 0) (.int 0)) (.int 0))
      (.seq (.asg 4 (.bin .mod (.toInt (.idx (.var 0) (.int 0))) (.var 1)))
        (.seq (.setI (.var 0) (.int 0) (.bin .fdiv (.idx (.var 0) (.int 0)) (.var 1))) (.seq (.ret (.var 4)) .skip))) .skip)
    (.seq (.setI (.var 0) (.int 1) (.bin .mod (.toInt (.bin .add (.bin .mul (.idx (.var 0) (.int 1)) (.int 48271)) (.int 11))) (.int 2147483647)))
      (.seq (.ret (.bin .mod (.bin .fdiv (.bin .mod (.toInt (.bin .mul (.idx (.var 0) (.int 1)) (.idx (.var 0) (.int 1)))) (.int 2147483629)) (.int 32)) (.var 1))) .skip)))
noncomputable def drawMS : MS := .seq (.ite (.and (.cmp .eq (.idx (.var 0) (.int 0)) (.int 0)) (.cmp .ne (.idx (.var 0) (.int 2)) (.list .nil)))
    (.seq (.asg 2 (.toInt (.pop0 (.idx (.var 0) (.int 2)))))
      (.seq (.asg 3 (.ite (.cmp .ge (.var 2) (.int 0)) (.bin .mul (.int 2) (.var 2)) (.bin .sub (.neg (.int 1)) (.bin .mul (.int 2) (.var 2)))))
        (.seq (.setI (.var 0) (.int 0) (.ite (.cmp .ge (.var 3) (.bin .pow (.int 10) (.int 18))) (.var 3) (.int 0)))
          (.seq (.setI (.var 0) (.int 1) (.bin .add (.bin .mod (.toInt (.bin .add (.idx (.var 0) (.int 1)) (.bin .mul (.var 3) (.int 69621)))) (.int 2147483629)) (.int 3))) .skip)))) .skip)
  drawTail
theorem mul_small_left {a b : Int} (h : a.natAbs < 2 ^ 64) : IntMulOk a b := IntMulOk.of_left (PySem.intBits_le_64 (by omega) (by omega))
theorem mul_small_right {a b : Int} (h : b.natAbs < 2 ^ 64) : IntMulOk a b := IntMulOk.of_right (PySem.intBits_le_64 (by omega) (by omega))
theorem rdL_ints {hp : HP} : ∀ (ns : List Int), RdL hp (ns.map .int) (ns.map .int)
  | [] => .nil
  | n :: r => .cons (.int n) (rdL_ints r)
theorem Upto.at' {S hp a o q x} (_u : Upto S hp (hset hp q x)) (h : hp a = some o) (hn : a ≠ q) : hset hp q x a = some o := by rw [hset_ne hn]; exact h
theorem idxE {v w : V} {hp : HP} {Q : V → Prop} {a : Addr} {k : Int} {vs : List V} {x : V} (hv : v = .ref a) (hw : w = .int k) (e : itemsOf (hp a) = some vs) (hfit : vs.length < 2 ^ 62) (h0 : 0 ≤ k) (hx : vs[k.toNat]? = some x) (h : Q x) : idxV v w hp Q := by
  subst hv; subst hw
  have hl : k.toNat < vs.length := by
    rcases Nat.lt_or_ge k.toNat vs.length with q | q
    · exact q
    · rw [List.getElem?_eq_none q] at hx; cases hx
  refine ⟨vs, x, e, by omega, by omega, by omega, ?_, h⟩
  rw [if_neg (by omega)]; exact hx
theorem idx3 {hp : HP} {Q : V → Prop} {a : Addr} {k : Nat} {x y z u : V} (e : hp a = some (.list [x, y, z])) (hx : [x, y, z][k]? = some u) (h : Q u) : idxV (.ref a) (.int (k : Nat)) hp Q :=
  idxE rfl rfl (by rw [e]; rfl) (by simp) (by omega) (by simpa using hx) h
theorem setE' {hp : HP} {Q : HP → Prop} {a : Addr} {k : Nat} {x : V} {vs : List V} (e : hp a = some (.list vs)) (hk : k < vs.length) (hfit : vs.length < 2 ^ 62) (h : Q (hset hp a (.list (vs.set k x)))) : setV (.ref a) (.int (k : Nat)) x hp Q :=
  ⟨vs, e, by omega, by omega, by omega, by simpa using h⟩
theorem draw_exec {g : G} {d : Nat} {hp : HP} {p r : Addr} {many : Int} (P : Pool hp p r) (hm : 0 < many) {Q : V → HP → Prop} {X : XT}
    (h : ∀ v hp', 0 ≤ v → v < many → Pool hp' p r → Upto [p, r] hp hp' → Q (.int v) hp') :
    exec g d drawMS [.ref p, .int many, .unb, .unb, .unb] hp (retQ Q) X := by
  obtain ⟨x, y, ns, hp0, hr0, hne, hx, hy, hlen⟩ := P
  -- what stands behind the first if
  have tail : ∀ (x y : Int) (ns : List Int) (h1 : HP) (a b : V), h1 p = some (.list [.int x, .int y, .ref r]) → h1 r = some (.list (ns.map .int)) → 0 ≤ x → 0 ≤ y → ns.length < 1000 → Upto [p, r] hp h1 →
      exec g d drawTail [.ref p, .int many, a, b, .unb] h1 (retQ Q) X := by
    intro x y ns h1 a b e1 e2 hx hy hl u
    have m0 : many ≠ 0 := by omega
    refine idx3 (k := 0) e1 rfl ⟨fun ht => ?_, fun ht => ?_⟩
    · refine idx3 (k := 0) e1 rfl ⟨m0, ?_⟩
      refine idx3 (k := 0) e1 rfl ⟨m0, ?_⟩
      refine setE' (k := 0) e1 (by simp) (by simp) ?_
      have hx0 : 0 < x := by simpa [cmpI] using ht
      refine h _ _ ?_ ?_ ⟨x.fdiv many, y, ns, hset_same, ?_, hne, ?_, hy, hl⟩ (u.trans (Upto.set (by simp)))
      · show 0 ≤ x.fmod many; rw [Int.fmod_eq_emod_of_nonneg x (by omega)]; exact Int.emod_nonneg _ m0
      · show x.fmod many < many; rw [Int.fmod_eq_emod_of_nonneg x (by omega)]; exact Int.emod_lt_of_pos _ hm
      · rw [hset_ne (Ne.symm hne)]; exact e2
      · rw [Int.fdiv_eq_ediv_of_nonneg x (by omega)]; exact Int.ediv_nonneg (by omega) (by omega)
    · refine idx3 (k := 1) e1 rfl ⟨mul_small_right (by decide), ?_⟩
      refine ⟨trivial, ?_⟩
      refine ⟨(show (2147483647 : Int) ≠ 0 by decide), ?_⟩
      refine setE' (k := 1) e1 (by simp) (by simp) ?_
      have e3 := @hset_same h1 p (.list ([V.int x, V.int y, V.ref r].set 1 (.int ((y * 48271 + 11).fmod 2147483647))))
      have hy2 : 0 ≤ (y * 48271 + 11).fmod 2147483647 ∧ (y * 48271 + 11).fmod 2147483647 < 2147483647 := by
        rw [Int.fmod_eq_emod_of_nonneg _ (by omega)]; omega
      refine idx3 (k := 1) e3 rfl ?_
      refine idx3 (k := 1) e3 rfl ⟨mul_small_right (by omega), ?_⟩
      refine ⟨(show (2147483629 : Int) ≠ 0 by decide), ?_⟩
      refine ⟨(show (32 : Int) ≠ 0 by decide), m0, ?_⟩
      refine h _ _ ?_ ?_ ⟨x, _, ns, e3, ?_, hne, hx, hy2.1, hl⟩ (u.trans (Upto.set (by simp)))
      · show 0 ≤ Int.fmod _ many; rw [Int.fmod_eq_emod_of_nonneg _ (by omega)]; exact Int.emod_nonneg _ m0
      · show Int.fmod _ many < many; rw [Int.fmod_eq_emod_of_nonneg _ (by omega)]; exact Int.emod_lt_of_pos _ hm
      · rw [hset_ne (Ne.symm hne)]; exact e2
  refine idx3 (k := 0) hp0 rfl ⟨fun ht => ?_, fun ht => ⟨fun q => by simp at q, fun _ => tail x y ns hp _ _ hp0 hr0 hx hy hlen .refl⟩⟩
  refine idx3 (k := 2) hp0 rfl ⟨by decide, fun q hq => ?_⟩
  have hq1 := ne_of_none hq hp0
  have hq2 := ne_of_none hq hr0
  refine ⟨.list (ns.map .int), .list [], .list (by rw [hset_ne hq2]; exact hr0) (rdL_ints _), .list hset_same .nil, shaped_ints ns, by decide, fun he => ?_, fun he => ?_⟩
  · cases ns with
    | nil => simp [PyData.eqv, PyData.eqvAll] at he
    | cons n ns' =>
      have u0 : Upto [p, r] hp (hset hp q (.list [])) := .new hq
      refine idx3 (k := 2) (u0.at' hp0 hq1) rfl ?_
      refine ⟨.int n, ns'.map .int, by rw [hset_ne hq2]; exact hr0, by simp at hlen ⊢; rw [sizeLine_eq]; omega, ?_⟩
      have aft : ∀ (sz x1 : Int) (h2 : HP), h2 p = some (.list [.int x1, .int y, .ref r]) → h2 r = some (.list (ns'.map .int)) → 0 ≤ sz → 0 ≤ x1 → Upto [p, r] hp h2 →
          exec g d (.seq (.setI (.var 0) (.int 1) (.bin .add (.bin .mod (.toInt (.bin .add (.idx (.var 0) (.int 1)) (.bin .mul (.var 3) (.int 69621)))) (.int 2147483629)) (.int 3))) .skip) [.ref p, .int many, .int n, .int sz, .unb] h2
            (fun o l1 h1 => match o with | .next => exec g d drawTail l1 h1 (retQ Q) X | .brk => retQ Q .brk l1 h1 | .ret v => retQ Q (.ret v) l1 h1) X := by
        intro sz x1 h2 e1 e2 h0 h3 u
        refine idx3 (k := 1) e1 rfl ⟨mul_small_right (by decide), ?_⟩
        refine ⟨trivial, (show (2147483629 : Int) ≠ 0 by decide), trivial, ?_⟩
        refine setE' (k := 1) e1 (by simp) (by simp) ?_
        refine tail x1 _ ns' _ _ _ hset_same ?_ h3 ?_ ?_ (u.trans (Upto.set (by simp)))
        · rw [hset_ne (Ne.symm hne)]; exact e2
        · show 0 ≤ Int.fmod _ 2147483629 + 3; rw [Int.fmod_eq_emod_of_nonneg _ (by omega)]; omega
        · simp at hlen ⊢; omega
      have u1 : Upto [p, r] hp (hset (hset hp q (.list [])) r (.list (ns'.map .int))) := u0.trans (Upto.set (by simp))
      have e1 : hset (hset hp q (.list [])) r (.list (ns'.map .int)) p = some (.list [.int x, .int y, .ref r]) := by rw [hset_ne hne, hset_ne hq1]; exact hp0
      have e2 : hset (hset hp q (.list [])) r (.list (ns'.map .int)) r = some (.list (ns'.map .int)) := hset_same
      have sz2 : ∀ sz : Int, 0 ≤ sz → exec g d (.seq (.setI (.var 0) (.int 0) (.ite (.cmp .ge (.var 3) (.bin .pow (.int 10) (.int 18))) (.var 3) (.int 0)))
          (.seq (.setI (.var 0) (.int 1) (.bin .add (.bin .mod (.toInt (.bin .add (.idx (.var 0) (.int 1)) (.bin .mul (.var 3) (.int 69621)))) (.int 2147483629)) (.int 3))) .skip)) [.ref p, .int many, .int n, .int sz, .unb] (hset (hset hp q (.list [])) r (.list (ns'.map .int)))
            (fun o l1 h1 => match o with | .next => exec g d drawTail l1 h1 (retQ Q) X | .brk => retQ Q .brk l1 h1 | .ret v => retQ Q (.ret v) l1 h1) X := by
        intro sz hsz
        refine ⟨⟨by decide, by decide⟩, fun _ => ?_, fun _ => ?_⟩
        · refine setE' (k := 0) e1 (by simp) (by simp) ?_
          exact aft sz sz _ hset_same (by rw [hset_ne (Ne.symm hne)]; exact e2) hsz hsz (u1.trans (Upto.set (by simp)))
        · refine setE' (k := 0) e1 (by simp) (by simp) ?_
          exact aft sz 0 _ hset_same (by rw [hset_ne (Ne.symm hne)]; exact e2) hsz (by decide) (u1.trans (Upto.set (by simp)))
      refine ⟨fun hc => ⟨mul_small_left (by decide), ?_⟩, fun hc => ⟨mul_small_left (by decide), trivial, ?_⟩⟩
      · have : 0 ≤ n := by simpa [cmpI] using hc
        exact sz2 (2 * n) (by omega)
      · have : n < 0 := by simpa [cmpI] using hc
        exact sz2 (-1 - 2 * n) (by omega)
  · exact tail x y ns _ _ _ (by rw [hset_ne hq1]; exact hp0) (by rw [hset_ne hq2]; exact hr0) hx hy hlen (.new hq)
noncomputable def poolMS : MS := .seq (.asg 1 (.ite (.cmp .gt (.len (.var 0)) (.int 0)) (.toInt (.idx (.var 0) (.int 0))) (.int 0)))
  (.seq (.asg 2 (.ite (.cmp .ge (.var 1) (.int 0)) (.bin .mul (.int 2) (.var 1)) (.bin .sub (.neg (.int 1)) (.bin .mul (.int 2) (.var 1)))))
    (.seq (.ret (.list (.cons (.ite (.cmp .ge (.var 2) (.bin .pow (.int 10) (.int 18))) (.var 2) (.int 0))
      (.cons (.bin .add (.bin .mod (.toInt (.bin .add (.bin .mul (.var 2) (.int 48271)) (.int 1009))) (.int 2147483629)) (.int 3))
        (.cons (.listOf (.slcF (.var 0) (.int 1))) .nil))))) .skip))
theorem pool_exec {g : G} {d : Nat} {hp : HP} {a : Addr} {ns : List Int} (ha : hp a = some (.ro (ns.map .int))) (hl : ns.length ≤ 63) {Q : V → HP → Prop} {X : XT}
    (h : ∀ p r hp', Pool hp' p r → Upto [] hp hp' → Q (.ref p) hp') :
    exec g d poolMS [.ref a, .unb, .unb] hp (retQ Q) X := by
  have hlen : (ns.map V.int).length = ns.length := by simp
  have last : ∀ f sz : Int, 0 ≤ sz → exec g d (.seq (.ret (.list (.cons (.ite (.cmp .ge (.var 2) (.bin .pow (.int 10) (.int 18))) (.var 2) (.int 0))
      (.cons (.bin .add (.bin .mod (.toInt (.bin .add (.bin .mul (.var 2) (.int 48271)) (.int 1009))) (.int 2147483629)) (.int 3))
        (.cons (.listOf (.slcF (.var 0) (.int 1))) .nil))))) .skip) [.ref a, .int f, .int sz] hp (retQ Q) X := by
    intro f sz hsz
    have fin : ∀ x : Int, 0 ≤ x → evs g d (.cons (.bin .add (.bin .mod (.toInt (.bin .add (.bin .mul (.var 2) (.int 48271)) (.int 1009))) (.int 2147483629)) (.int 3))
        (.cons (.listOf (.slcF (.var 0) (.int 1))) .nil)) [.ref a, .int f, .int sz] hp (fun vs h1 => (V.int x :: vs).length ≤ sizeLine ∧ ∀ r, h1 r = Option.none → (fun v h1 => retQ Q (.ret v) [.ref a, .int f, .int sz] h1) (.ref r) (hset h1 r (.list (V.int x :: vs)))) X := by
      intro x hx
      refine ⟨mul_small_right (by decide), trivial, (show (2147483629 : Int) ≠ 0 by decide), trivial, ?_⟩
      refine ⟨ns.map .int, by rw [ha]; rfl, by rw [hlen, sizeLine_eq]; omega, by decide, fun q hq => ?_⟩
      refine ⟨_, by rw [hset_same]; rfl, by simp; rw [sizeLine_eq]; omega, fun r hr => ?_⟩
      refine ⟨by simp; rw [sizeLine_eq]; omega, fun p hp' => ?_⟩
      have e1 := hset_none.mp hr
      have e2 := hset_none.mp hp'
      have e3 := hset_none.mp e2.2
      refine h p r _ ⟨x, _, ns.drop 1, hset_same, ?_, e2.1, hx, ?_, ?_⟩ (((Upto.new hq).trans (Upto.new hr)).trans (Upto.new hp'))
      · rw [hset_ne (Ne.symm e2.1), hset_same]; simp
      · show 0 ≤ Int.fmod _ 2147483629 + 3; rw [Int.fmod_eq_emod_of_nonneg _ (by omega)]; omega
      · simp; omega
    refine ⟨⟨by decide, by decide⟩, fun _ => ?_, fun _ => ?_⟩
    · exact fin sz hsz
    · exact fin 0 (by decide)
  have mid : ∀ f : Int, exec g d (.seq (.asg 2 (.ite (.cmp .ge (.var 1) (.int 0)) (.bin .mul (.int 2) (.var 1)) (.bin .sub (.neg (.int 1)) (.bin .mul (.int 2) (.var 1)))))
    (.seq (.ret (.list (.cons (.ite (.cmp .ge (.var 2) (.bin .pow (.int 10) (.int 18))) (.var 2) (.int 0))
      (.cons (.bin .add (.bin .mod (.toInt (.bin .add (.bin .mul (.var 2) (.int 48271)) (.int 1009))) (.int 2147483629)) (.int 3))
        (.cons (.listOf (.slcF (.var 0) (.int 1))) .nil))))) .skip)) [.ref a, .int f, .unb] hp (retQ Q) X := by
    intro f
    refine ⟨fun hc => ⟨mul_small_left (by decide), ?_⟩, fun hc => ⟨mul_small_left (by decide), trivial, ?_⟩⟩
    · have : 0 ≤ f := by simpa [cmpI] using hc
      exact last f (2 * f) (by omega)
    · have : f < 0 := by simpa [cmpI] using hc
      exact last f (-1 - 2 * f) (by omega)
  refine ⟨_, by rw [ha]; rfl, by rw [hlen]; omega, fun hc => ?_, fun hc => mid 0⟩
  cases ns with
  | nil => simp [cmpI] at hc
  | cons n ns' =>
    exact idxE rfl rfl (x := .int n) (by rw [ha]; rfl) (by simp at hl ⊢; omega) (by decide) (by simp) (mid n)
/-! plain facts -/
noncomputable def Bd (k : Nat) (x : Int) : Prop := x.natAbs < 2 ^ k
theorem Bd.mono {k j : Nat} {x : Int} (h : Bd k x) (hj : k ≤ j) : Bd j x := Nat.lt_of_lt_of_le h (Nat.pow_le_pow_right (by omega) hj)
theorem Bd.mul {k j : Nat} {x y : Int} (h : Bd k x) (h' : Bd j y) : Bd (k + j) (x * y) := by
  unfold Bd at *
  rw [Int.natAbs_mul, Nat.pow_add]
  exact Nat.mul_lt_mul'' h h'
theorem Bd.neg {k : Nat} {x : Int} (h : Bd k x) : Bd k (-x) := by unfold Bd at *; rw [Int.natAbs_neg]; exact h
theorem Bd.add {k : Nat} {x y : Int} (h : Bd k x) (h' : Bd k y) : Bd (k + 1) (x + y) := by
  unfold Bd at *
  have := Int.natAbs_add_le x y
  rw [Nat.pow_succ]; omega
theorem Bd.sub {k : Nat} {x y : Int} (h : Bd k x) (h' : Bd k y) : Bd (k + 1) (x - y) := by
  rw [Int.sub_eq_add_neg]; exact h.add h'.neg
theorem Bd.le {k : Nat} {x y : Int} (h : Bd k y) (hx : x.natAbs ≤ y.natAbs) : Bd k x := Nat.lt_of_le_of_lt hx h
theorem Bd.bits {k : Nat} {x : Int} (h : Bd k x) : Builtin.Int.intBits x ≤ k := by
  unfold Builtin.Int.intBits
  split
  · omega
  · rename_i hx
    have h0 : x.natAbs ≠ 0 := by simpa using hx
    have := (Nat.log2_lt h0).mpr h
    omega
theorem mulOk_bits {a b : Int} (h : Builtin.Int.intBits a + Builtin.Int.intBits b ≤ 2 ^ 27) : IntMulOk a b := by
  unfold IntMulOk Builtin.Int.intTooBig bitsLine
  simp only [Bool.and_eq_true, decide_eq_true_eq, not_and]
  intro _ h'
  omega
theorem Bd.mulOk {k j : Nat} {a b : Int} (h : Bd k a) (h' : Bd j b) (hk : k + j ≤ 2 ^ 27 := by decide) : IntMulOk a b :=
  mulOk_bits (Nat.le_trans (Nat.add_le_add h.bits h'.bits) hk)
/-! loops -/
theorem forUp {turn : List V → HP → (Out → List V → HP → Prop) → Prop} {i : Nat} {lo hi : Int} {l : List V} {hp : HP} {Q : Out → List V → HP → Prop} (n : Nat) (hn : n = (hi - lo).toNat) (I : Nat → List V → HP → Prop)
    (h0 : I 0 l hp) (step : ∀ k l h, k < n → I k l h → turn (lset l i (.int (lo + k))) h (fun o l2 h2 => match o with | .next => I (k + 1) l2 h2 | .brk => Q .next l2 h2 | .ret v => Q (.ret v) l2 h2))
    (fin : ∀ l h, I n l h → Q .next l h) :
    forIn turn i ((List.range (Builtin.Range.rangeSize lo hi 1).toNat).map fun (k : Nat) => V.int (lo + k * 1)) l hp (fun _ => True) Q := by
  have hsz : (Builtin.Range.rangeSize lo hi 1).toNat = n := by rw [rangeSize_one]; split <;> omega
  rw [hsz]
  refine ⟨I, h0, fun k x l h hx hI => ?_, fun l h hI => ⟨trivial, fin l h (by simpa using hI)⟩⟩
  have hk : k < n := by
    rcases Nat.lt_or_ge k n with q | q
    · exact q
    · rw [List.getElem?_eq_none (by simpa using q)] at hx; cases hx
  simp only [List.getElem?_map, List.getElem?_range hk, Option.map_some, Option.some.injEq, Int.mul_one] at hx
  subst hx
  exact ⟨trivial, step k l h hk hI⟩
/-! data -/
theorem cmpL {o : COp} {a b : Addr} {hp : HP} {ns ms : List Int} {Q : Bool → Prop} (ho : o = .eq ∨ o = .ne) (ha : hp a = some (.list (ns.map .int))) (hb : hp b = some (.list (ms.map .int)))
    (h : Q (if o = .eq then decide (ns = ms) else !decide (ns = ms))) : cmpV o (.ref a) (.ref b) hp Q := by
  rcases ho with rfl | rfl
  · exact ⟨_, _, .list ha (rdL_ints ns), .list hb (rdL_ints ms), shaped_ints ns, shaped_ints ms, by rw [if_pos rfl] at h; simpa only [PyData.eqv, ked_eqvAll] using h⟩
  · exact ⟨_, _, .list ha (rdL_ints ns), .list hb (rdL_ints ms), shaped_ints ns, shaped_ints ms, by rw [if_neg (by decide)] at h; simpa only [PyData.eqv, ked_eqvAll] using h⟩
theorem cmpL_eq {a b : Addr} {hp : HP} {ns ms : List Int} {Q : Bool → Prop} (ha : hp a = some (.list (ns.map .int))) (hb : hp b = some (.list (ms.map .int))) (e : ns = ms) (h : Q true) : cmpV .eq (.ref a) (.ref b) hp Q :=
  cmpL (.inl rfl) ha hb (by simpa [e] using h)
/-! what a comparison says -/
theorem ceq_t {a b : Int} : cmpI a b .eq = true ↔ a = b := by simp [cmpI]
theorem ceq_f {a b : Int} : cmpI a b .eq = false ↔ a ≠ b := by simp [cmpI]
theorem cne_t {a b : Int} : cmpI a b .ne = true ↔ a ≠ b := by simp [cmpI]
theorem cne_f {a b : Int} : cmpI a b .ne = false ↔ a = b := by simp [cmpI]
theorem clt_t {a b : Int} : cmpI a b .lt = true ↔ a < b := by simp [cmpI]
theorem clt_f {a b : Int} : cmpI a b .lt = false ↔ b ≤ a := by simp [cmpI]
theorem cle_t {a b : Int} : cmpI a b .le = true ↔ a ≤ b := by simp [cmpI]
theorem cgt_f {a b : Int} : cmpI a b .gt = false ↔ a ≤ b := by simp [cmpI]
theorem cge_f {a b : Int} : cmpI a b .ge = false ↔ a < b := by simp [cmpI]
theorem tru_t {a : Int} : ((a != 0) = true) ↔ a ≠ 0 := by simp
theorem tru_f {a : Int} : ((a != 0) = false) ↔ a = 0 := by simp
theorem not_t {b : Bool} : ((!b) = true) ↔ b = false := by simp
theorem not_f {b : Bool} : ((!b) = false) ↔ b = true := by simp
theorem Bd.abs {k : Nat} {x : Int} : Bd k x ↔ x.natAbs < 2 ^ k := .rfl
/-! the logarithm -/
/-- l is the logarithm of n to the base b -/
structure LogOf (n b l : Nat) : Prop where
  two : 2 ≤ b
  lo : b ^ l ≤ n
  hi : n < b ^ (l + 1)
theorem Upto.fresh {S : List Addr} {hp h : HP} {r : Addr} {o : O} (u : Upto S hp h) (n : hp r = none) : Upto S hp (hset h r o) := fun x hx o' e => by
  rw [hset_ne (fun q => by rw [q, n] at e; cases e)]; exact u x hx o' e
theorem nqP {h : HP} {a r q : Addr} (P : Pool h a r) (n : h q = none) : q ∉ [a, r] := by
  obtain ⟨x, y, ns', q0, q1, -⟩ := P
  intro h'
  simp only [List.mem_cons, List.not_mem_nil, or_false] at h'
  rcases h' with rfl | rfl
  · rw [n] at q0; cases q0
  · rw [n] at q1; cases q1
/-! the square root -/
/-- a comprehension over a range -/
theorem compUp {test : List V → HP → (Bool → HP → Prop) → Prop} {elt : List V → HP → (V → HP → Prop) → Prop} {new : V → (List V → Prop) → HP → Prop} {lo hi : Int} {hp : HP} {Q : V → HP → Prop} (n : Nat) (hn : n = (hi - lo).toNat) (I : Nat → List V → HP → Prop) (h0 : I 0 [] hp)
    (step : ∀ k acc h, k < n → I k acc h → acc.length ≤ sizeLine ∧ new (.int (lo + k)) (fun l => test l h fun t h1 => (t = true → elt l h1 fun v h2 => I (k + 1) (acc ++ [v]) h2) ∧ (t = false → I (k + 1) acc h1)) h)
    (fin : ∀ acc h, I n acc h → newV h (.list acc) Q) :
    compI test elt new ((List.range (Builtin.Range.rangeSize lo hi 1).toNat).map fun (k : Nat) => V.int (lo + k * 1)) hp (fun _ => True) Q := by
  have hsz : (Builtin.Range.rangeSize lo hi 1).toNat = n := by rw [rangeSize_one]; split <;> omega
  rw [hsz]
  refine ⟨I, h0, fun k x acc h hx hI => ?_, fun acc h hI => ⟨trivial, fin acc h (by simpa using hI)⟩⟩
  have hk : k < n := by
    rcases Nat.lt_or_ge k n with q | q
    · exact q
    · rw [List.getElem?_eq_none (by simpa using q)] at hx; cases hx
  simp only [List.getElem?_map, List.getElem?_range hk, Option.map_some, Option.some.injEq, Int.mul_one] at hx
  subst hx
  exact ⟨trivial, step k acc h hk hI⟩
/-! great numbers, drawn -/
/-- what a law's top gives: the text, the world, the heap that stands, the names that may be read -/
structure HB where
  prog : Program
  w : World
  K : Frag
  p : Program
  lo : List Str
  gt : List (Str × Addr)
  bt : List Str
noncomputable abbrev HB.gm (b : HB) (mean : ExcName → Option Value) (mg mb : Str → Option Value) : G := ⟨b.prog, b.w, b.K, b.p, b.lo, mean, mg, mb⟩
/-- what the kernel sees of the def at a -/
noncomputable def HB.Fn (b : HB) (a : Addr) (names : List Str) (np : Nat) (ms : MS) : Prop :=
  fnOkB b.K a = true ∧ (∀ mean mg mb, (cSB (mkF (b.gm mean mg mb) b.gt b.bt a) 60 (bodyAt b.K a)).map (fun m => m.1) = some ms) ∧
    namesOf (fnAt b.K a).scope = names ∧ ndB names = true ∧ ((names.take np).all fun x => (fnAt b.K a).scope.names.lookup x == some .local) = true
noncomputable def HB.FnC (b : HB) (a : Addr) (names : List Str) (np : Nat) (ks : List Bool) (ms : MS) : Prop :=
  fnOkC b.K a names = true ∧ (∀ mean mg mb, (cSB (mkF (b.gm mean mg mb) b.gt b.bt a) 60 (bodyAt b.K a)).map (fun m => m.1) = some ms) ∧
    namesOf (fnAt b.K a).scope = names ∧ ndB names = true ∧ ((names.take np).all fun x => (fnAt b.K a).scope.names.lookup x == some .local || (fnAt b.K a).scope.names.lookup x == some .cell) = true ∧
    cellKs (fnAt b.K a).scope names = ks
noncomputable def BindN (K : Frag) (a : Addr) (xs : List Str) : Nat → List Value → Prop
  | 0, acc => bindArgs (fnAt K a) ⟨acc, []⟩ = pure (xs.zip acc)
  | n + 1, acc => ∀ v, BindN K a xs n (acc ++ [v])
theorem BindN.get {K : Frag} {a : Addr} {xs : List Str} : ∀ {n : Nat} {acc : List Value}, BindN K a xs n acc → ∀ vals : List Value, vals.length = n → bindArgs (fnAt K a) ⟨acc ++ vals, []⟩ = pure (xs.zip (acc ++ vals))
  | 0, acc, h, [], _ => by rw [List.append_nil]; exact h
  | n + 1, acc, h, v :: vs, hl => by
    have := BindN.get (h v) vs (Nat.succ.inj hl)
    rwa [List.append_assoc] at this
noncomputable def DefF (K : Frag) (a T : Addr) (items : Array Value) (k : Nat) : Prop := (fnAt K a).defaults = .ref T ∧ K.lookup T = some ⟨.type "tuple", none, .seq items k, #[]⟩
noncomputable def BindD (K : Frag) (a : Addr) (xs : List Str) (items : Array Value) (dv : List Value) : Nat → List Value → Prop
  | 0, acc => ∃ k : Option (Array Value) → Sem (List (Str × Value)), bindArgs (fnAt K a) ⟨acc, []⟩ = (seqItems? (fnAt K a).defaults >>= k) ∧ k (some items) = pure (xs.zip (acc ++ dv))
  | n + 1, acc => ∀ v, BindD K a xs items dv n (acc ++ [v])
theorem BindD.get {K : Frag} {a : Addr} {xs : List Str} {items : Array Value} {dv : List Value} : ∀ {n : Nat} {acc : List Value}, BindD K a xs items dv n acc → ∀ vals : List Value, vals.length = n →
    ∃ k : Option (Array Value) → Sem (List (Str × Value)), bindArgs (fnAt K a) ⟨acc ++ vals, []⟩ = (seqItems? (fnAt K a).defaults >>= k) ∧ k (some items) = pure (xs.zip (acc ++ vals ++ dv))
  | 0, acc, h, [], _ => by rw [List.append_nil]; exact h
  | n + 1, acc, h, v :: vs, hl => by
    have := BindD.get (h v) vs (Nat.succ.inj hl)
    rwa [List.append_assoc] at this
noncomputable def BindK (K : Frag) (a : Addr) (xs : List Str) (items : Array Value) (kw : Str) : Nat → List Value → Prop
  | 0, acc => ∀ vk, ∃ k : Option (Array Value) → Sem (List (Str × Value)), bindArgs (fnAt K a) ⟨acc, [(kw, vk)]⟩ = (seqItems? (fnAt K a).defaults >>= k) ∧ k (some items) = pure (xs.zip (acc ++ [vk]))
  | n + 1, acc => ∀ v, BindK K a xs items kw n (acc ++ [v])
theorem BindK.get {K : Frag} {a : Addr} {xs : List Str} {items : Array Value} {kw : Str} : ∀ {n : Nat} {acc : List Value}, BindK K a xs items kw n acc → ∀ vals : List Value, vals.length = n → ∀ vk,
    ∃ k : Option (Array Value) → Sem (List (Str × Value)), bindArgs (fnAt K a) ⟨acc ++ vals, [(kw, vk)]⟩ = (seqItems? (fnAt K a).defaults >>= k) ∧ k (some items) = pure (xs.zip (acc ++ vals ++ [vk]))
  | 0, acc, h, [], _ => by rw [List.append_nil]; exact h
  | n + 1, acc, h, v :: vs, hl => by
    have := BindK.get (h v) vs (Nat.succ.inj hl)
    rwa [List.append_assoc] at this
theorem BindD.mk0 {K : Frag} {a : Addr} {xs : List Str} {items : Array Value} {dv acc : List Value} {k : Option (Array Value) → Sem (List (Str × Value))} (e1 : bindArgs (fnAt K a) ⟨acc, []⟩ = (seqItems? (fnAt K a).defaults >>= k))
    (e2 : k (some items) = pure (xs.zip (acc ++ dv))) : BindD K a xs items dv 0 acc := ⟨k, e1, e2⟩
theorem BindK.mk0 {K : Frag} {a : Addr} {xs : List Str} {items : Array Value} {kw : Str} {acc : List Value} {k : Value → Option (Array Value) → Sem (List (Str × Value))} (e1 : ∀ vk, bindArgs (fnAt K a) ⟨acc, [(kw, vk)]⟩ = (seqItems? (fnAt K a).defaults >>= k vk))
    (e2 : ∀ vk, k vk (some items) = pure (xs.zip (acc ++ [vk]))) : BindK K a xs items kw 0 acc := fun vk => ⟨k vk, e1 vk, e2 vk⟩
theorem zipAbs (xs : List Str) (vals : List Value) : ((xs.zip vals).map fun p => (p.1, absV p.2)) = xs.zip (vals.map absV) := by
  rw [List.zip_map_right]; rfl
theorem binds0 {b : HB} {a : Addr} {xs : List Str} {np : Nat} (B : BindN b.K a xs np []) {mean mg mb} {args : List V} (hl : args.length = np) : Binds (b.gm mean mg mb) a args [] (xs.zip args) := fun s vals kvals _ hv hkv => by
  obtain rfl : kvals = [] := by simpa using hkv
  subst hv
  exact ⟨xs.zip vals, BindsTo.of_eq (B.get vals (by simpa using hl)), zipAbs _ _⟩
theorem bindsD {b : HB} {a T : Addr} {xs : List Str} {items : Array Value} {k : Nat} {dv : List Value} {np : Nat} (D : DefF b.K a T items k) (B : BindD b.K a xs items dv np []) {mean mg mb} {args dva : List V} (hl : args.length = np)
    (hd : dv.map absV = dva) : Binds (b.gm mean mg mb) a args [] (xs.zip (args ++ dva)) := fun s vals kvals hK hv hkv => by
  obtain rfl : kvals = [] := by simpa using hkv
  subst hv; subst hd
  obtain ⟨k', e1, e2⟩ := B.get vals (by simpa using hl)
  refine ⟨xs.zip (vals ++ dv), BindsTo.of_defaults D.1 (hK T _ D.2) rfl e1 e2, ?_⟩
  rw [zipAbs, List.map_append]
theorem zip_fst {α β : Type} : ∀ {xs : List α} {ys : List β}, xs.length = ys.length → (xs.zip ys).map (·.1) = xs
  | [], [], _ => rfl
  | x :: xs, y :: ys, h => by rw [List.zip_cons_cons, List.map_cons, zip_fst (Nat.succ.inj h)]
theorem zip_snd {α β : Type} : ∀ {xs : List α} {ys : List β}, xs.length = ys.length → (xs.zip ys).map (·.2) = ys
  | [], [], _ => rfl
  | x :: xs, y :: ys, h => by rw [List.zip_cons_cons, List.map_cons, zip_snd (Nat.succ.inj h)]
theorem take_len {α : Type} : ∀ (n : Nat) (l : List α), l.take (l.take n).length = l.take n
  | 0, _ => rfl
  | _ + 1, [] => rfl
  | n + 1, x :: l => by rw [List.take_succ_cons, List.length_cons, List.take_succ_cons, take_len n l]
/-- a call of a def, by what the kernel sees -/
theorem callF {b : HB} (hgt : gtB b.K b.gt = true) (hbt : btB b.K b.bt = true) {a : Addr} {names xs : List Str} {np : Nat} {ms : MS} (F : b.Fn a names np ms) {mean mg mb} {args bv : List V} {kw : List (Str × V)}
    (B : Binds (b.gm mean mg mb) a args kw (xs.zip bv)) (hx : names.take np = xs) (hl : xs.length = bv.length) {d : Nat} {hp : HP} {Q : V → HP → Prop} {X : XC}
    (h : exec (b.gm mean mg mb) d ms (bv ++ List.replicate (names.length - xs.length) V.unb) hp (retQ Q) (upX X)) : Calls (b.gm mean mg mb) (d + 1) a args kw hp Q X := by
  obtain ⟨h1, h2, h3, h4, h5⟩ := F
  subst h3; subst hx
  have hm : (((namesOf (fnAt b.K a).scope).take np).zip bv).length = ((namesOf (fnAt b.K a).scope).take np).length := by rw [List.length_zip, hl, Nat.min_self]
  refine calls_of (F := mkF (b.gm mean mg mb) b.gt b.bt a) (fok hgt hbt h4) h1 rfl (sb_of (h2 mean mg mb)) B ?_ ?_ ?_
  · rw [zip_fst hl, hm]; exact take_len _ _
  · have := h5
    rw [← zip_fst hl, List.all_map] at this
    exact this
  · rw [zip_snd hl, hm]; exact h
theorem callC {b : HB} (hgt : gtB b.K b.gt = true) (hbt : btB b.K b.bt = true) {a : Addr} {names xs : List Str} {np : Nat} {ks : List Bool} {ms : MS} (F : b.FnC a names np ks ms) {mean mg mb} {args bv : List V} {kw : List (Str × V)}
    (B : Binds (b.gm mean mg mb) a args kw (xs.zip bv)) (hx : names.take np = xs) (hl : xs.length = bv.length) {ps : List (Bool × V)} (hps : ks.zip (unC names (xs.zip bv)) = ps) {d : Nat} {hp : HP} {Q : V → HP → Prop} {X : XC}
    (h : enterC ps hp fun l h0 => exec (b.gm mean mg mb) d ms l h0 (retQ Q) noX) : Calls (b.gm mean mg mb) (d + 1) a args kw hp Q X := by
  obtain ⟨h1, h2, h3, h4, h5, h6⟩ := F
  subst h3; subst hx; subst h6
  have hm : (((namesOf (fnAt b.K a).scope).take np).zip bv).length = ((namesOf (fnAt b.K a).scope).take np).length := by rw [List.length_zip, hl, Nat.min_self]
  refine calls_ofC (F := mkF (b.gm mean mg mb) b.gt b.bt a) (fok hgt hbt h4) h1 rfl (sb_of (h2 mean mg mb)) B ?_ ?_ ?_
  · rw [zip_fst hl, hm]; exact take_len _ _
  · have := h5
    rw [← zip_fst hl, List.all_map] at this
    exact this
  · show enterC ((cellKs _ (namesOf (fnAt b.K a).scope)).zip _) _ _
    rw [hps]; exact h
/-! the Jacobi symbol as the program reckons it -/
noncomputable def evenF : Nat → Nat → Nat → Int → Option (Nat × Int)
  | 0, _, _, _ => none
  | k + 1, a, m, s => if a % 2 = 0 then evenF k (a / 2) m (if m % 8 = 3 ∨ m % 8 = 5 then -s else s) else some (a, s)
noncomputable def legF : Nat → Nat → Nat → Int → Option Int
  | 0, _, _, _ => none
  | k + 1, a, m, s => if a = 0 then some (if m = 1 then s else 0) else match evenF 6 a m s with
    | none => none
    | some (b, t) => legF k (m % b) b (if m % 4 = 3 ∧ b % 4 = 3 then -t else t)
noncomputable def legV (r p : Nat) : Option Int := legF 6 r p 1
noncomputable def primes11 : List Nat := [3, 5, 7, 11, 13, 17, 19, 23, 29, 31, 37, 41]
/-- the loop of the roots for p = 1 modulo 8 -/
noncomputable def tonF (A D p s : Nat) : Nat → Nat
  | 0 => 0
  | i + 1 => let m := tonF A D p s i
    if (A * (D ^ m % p)) ^ (2 ^ (s - 1 - (i + 1))) % p = p - 1 then m + 2 ^ (i + 1) else m
noncomputable def rootV (p r : Nat) : Nat :=
  if p % 8 = 3 ∨ p % 8 = 7 then r ^ (p / 4 + 1) % p
  else if p % 8 = 5 then (if (r ^ (p / 8 + 1) % p) ^ 2 % p = r then r ^ (p / 8 + 1) % p else (r ^ (p / 8 + 1) % p) * (2 ^ (p / 4) % p) % p)
  else
    let s := if p = 17 then 4 else 3
    let t := if p = 17 then 1 else 5
    let m := tonF (r ^ t % p) (3 ^ t % p) p s (s - 1)
    (r ^ ((t + 1) / 2) % p) * ((3 ^ t % p) ^ (m / 2) % p) % p
noncomputable def rowOk (p r : Nat) : Bool :=
  match legV r p with
  | none => false
  | some v => if r = 0 then decide (v = 0) else if v = 1 then decide (0 < rootV p r ∧ rootV p r < p ∧ rootV p r * rootV p r % p = r) else decide (v = -1) && (List.range p).all fun y => !(decide (y * y % p = r))
theorem rows_ok : (primes11.all fun p => (List.range p).all fun r => rowOk p r) = true := by decide +kernel
theorem row_ok {p r : Nat} (hp : p ∈ primes11) (hr : r < p) : rowOk p r = true := List.all_eq_true.mp (List.all_eq_true.mp rows_ok p hp) r (List.mem_range.mpr hr)
theorem cops_ok : (primes11.all fun p => (List.range p).all fun r => decide (r = 0) || decide (Nat.gcd p r = 1)) = true := by decide +kernel
theorem cop11 {p : Nat} (hp : p ∈ primes11) {m : Nat} (h : ¬ p ∣ m) : Nat.Coprime p m := by
  have hp0 : 0 < p := by
    have : primes11.all (fun p => decide (0 < p)) = true := by decide
    simpa using List.all_eq_true.mp this p hp
  have h1 := List.all_eq_true.mp (List.all_eq_true.mp cops_ok p hp) (m % p) (List.mem_range.mpr (Nat.mod_lt _ hp0))
  simp only [Bool.or_eq_true, decide_eq_true_eq] at h1
  rcases h1 with h1 | h1
  · exact absurd (Nat.dvd_of_mod_eq_zero h1) h
  · have e1 : Nat.gcd p m = Nat.gcd (m % p) p := Nat.gcd_rec p m
    rw [Nat.gcd_comm] at e1
    unfold Nat.Coprime
    rw [Nat.gcd_comm, e1, Nat.gcd_comm]; exact h1
/-- the two roots -/
theorem two_roots {p e x y : Nat} {n : Int} (hp : p ∈ primes11) (h2 : ¬ p ∣ 2) (he : 1 ≤ e) (hx : x < p ^ e) (hy : y < p ^ e) (hn : ¬ (p : Int) ∣ n)
    (ex : ((p ^ e : Nat) : Int) ∣ n - (x : Int) * x) (ey : ((p ^ e : Nat) : Int) ∣ (y : Int) * y - n) : y = x ∨ y = p ^ e - x := by
  have hd : ((p ^ e : Nat) : Int) ∣ ((y : Int) - x) * ((y : Int) + x) := by
    have := Int.dvd_add ey ex
    have e1 : (y : Int) * y - n + (n - (x : Int) * x) = ((y : Int) - x) * ((y : Int) + x) := by
      rw [Int.sub_mul, Int.mul_add, Int.mul_add, Int.mul_comm (x : Int) y]; omega
    rwa [e1] at this
  have hpe : (p : Int) ∣ ((p ^ e : Nat) : Int) := by
    refine Int.natCast_dvd_natCast.mpr ?_
    exact Nat.dvd_trans (by rw [Nat.pow_one]; exact Nat.dvd_refl _) (Nat.pow_dvd_pow p he : p ^ 1 ∣ p ^ e)
  have hpx : ¬ p ∣ x := by
    intro q
    apply hn
    have h1 : (p : Int) ∣ (x : Int) * x := Int.dvd_mul_of_dvd_left (Int.natCast_dvd_natCast.mpr q)
    have h3 : (p : Int) ∣ n - (x : Int) * x := Int.dvd_trans hpe ex
    have := Int.dvd_add h3 h1
    rwa [show n - (x : Int) * x + (x : Int) * x = n by omega] at this
  have hm : 0 < p ^ e := by omega
  by_cases h : (p : Int) ∣ (y : Int) - x
  · left
    have hs : ¬ p ∣ y + x := by
      intro q
      have q' : (p : Int) ∣ ((y + x : Nat) : Int) := Int.natCast_dvd_natCast.mpr q
      have h3 := Int.dvd_sub q' h
      rw [show ((y + x : Nat) : Int) - ((y : Int) - x) = ((2 * x : Nat) : Int) by push_cast; omega] at h3
      have h4 : p ∣ 2 * x := Int.natCast_dvd_natCast.mp h3
      exact hpx ((cop11 hp h2).dvd_of_dvd_mul_left h4)
    have c : Nat.Coprime (p ^ e) (y + x) := (cop11 hp hs).pow_left e
    have h5 : p ^ e ∣ ((y : Int) - x).natAbs * (y + x) := by
      have := Int.natAbs_dvd_natAbs.mpr hd
      rwa [Int.natAbs_natCast, Int.natAbs_mul, show ((y : Int) + x).natAbs = y + x by omega] at this
    have h6 := c.dvd_of_dvd_mul_right h5
    rcases Nat.eq_zero_or_pos ((y : Int) - x).natAbs with q | q
    · omega
    · have := Nat.le_of_dvd q h6
      omega
  · right
    have hs : ¬ p ∣ ((y : Int) - x).natAbs := fun q => h (Int.ofNat_dvd_left.mpr q)
    have c : Nat.Coprime (p ^ e) ((y : Int) - x).natAbs := (cop11 hp hs).pow_left e
    have h5 : p ^ e ∣ ((y : Int) - x).natAbs * (y + x) := by
      have := Int.natAbs_dvd_natAbs.mpr hd
      rwa [Int.natAbs_natCast, Int.natAbs_mul, show ((y : Int) + x).natAbs = y + x by omega] at this
    have h6 := c.dvd_of_dvd_mul_left h5
    have hx0 : x ≠ 0 := fun q => hpx (by rw [q]; exact Nat.dvd_zero p)
    obtain ⟨k, hk⟩ := h6
    have : k = 1 := by
      rcases Nat.lt_or_ge k 2 with q | q
      · rcases Nat.lt_or_ge k 1 with q1 | q1
        · have : k = 0 := by omega
          rw [this] at hk; omega
        · omega
      · have : p ^ e * 2 ≤ p ^ e * k := Nat.mul_le_mul_left _ q
        omega
    subst this
    omega
theorem powmod {n : Int} {p : Nat} (_ : 0 < p) (k : Nat) : (n ^ k).fmod p = (((n % p).toNat ^ k % p : Nat) : Int) := by
  rw [Int.fmod_eq_emod_of_nonneg _ (by omega), ← pow_emod']
  have : n % (p : Int) = ((n % (p : Int)).toNat : Int) := by have := Int.emod_nonneg n (b := (p : Int)) (by omega); omega
  rw [this]; push_cast; rfl
/-! the inverse -/
noncomputable def extF : Nat → Int → Int → Int → Int → Int → Int → Option (Int × Int × Int)
  | 0, _, _, _, _, _, _ => none
  | k + 1, a, b, g, u, v, w => if w = 0 then (if 0 ≤ g then some (a, b, g) else none)
    else if (g.fdiv w).natAbs < 2 ^ 60 then extF k u v w (a - g.fdiv w * u) (b - g.fdiv w * v) (g.fmod w) else none
noncomputable def invV (p r : Nat) : Option Int := match extF 12 1 0 p 0 1 r with
  | some (_, b, g) => if g = 1 then some (if b < 0 then p + b else b) else none
  | none => none
noncomputable def invOk (p x : Nat) : Bool := match invV p (x * 2 % p) with
  | some z => decide ((2 * x * z - 1) % (p : Int) = 0 ∧ z.natAbs < 100)
  | none => false
theorem invs_ok : (primes11.all fun p => (List.range p).all fun x => decide (x = 0) || invOk p x) = true := by decide +kernel
theorem inv_ok {p x : Nat} (hp : p ∈ primes11) (hx : x < p) (h0 : x ≠ 0) : ∃ z, invV p (x * 2 % p) = some z ∧ (p : Int) ∣ 2 * x * z - 1 ∧ z.natAbs < 100 := by
  have := List.all_eq_true.mp (List.all_eq_true.mp invs_ok p hp) x (List.mem_range.mpr hx)
  simp only [Bool.or_eq_true, decide_eq_true_eq] at this
  have := this.resolve_left h0
  unfold invOk at this
  split at this
  · rename_i z hz
    exact ⟨z, hz, Int.dvd_of_emod_eq_zero (of_decide_eq_true this).1, (of_decide_eq_true this).2⟩
  · cases this
/-- a step of the lifting -/
theorem lift {n x z : Int} {p q : Nat} (hq : (p : Int) ∣ q) (h : (q : Int) ∣ n - x * x) (hz : (p : Int) ∣ 2 * x * z - 1) :
    ((q * p : Nat) : Int) ∣ n - (x + ((n - x * x) / q * z % p) * q) * (x + ((n - x * x) / q * z % p) * q) := by
  obtain ⟨u, hu⟩ := h
  obtain ⟨w, hw⟩ := hz
  obtain ⟨v, hv⟩ := hq
  rcases Nat.eq_zero_or_pos q with q0 | q0
  · subst q0
    simp at hu
    have : n = x * x := by omega
    simp [this]
  have e1 : (n - x * x) / (q : Int) = u := by rw [hu, Int.mul_ediv_cancel_left _ (by omega)]
  rw [e1]
  have e2 := Int.emod_add_mul_ediv (u * z) p
  generalize u * z % (p : Int) = t at *
  generalize u * z / (p : Int) = k at *
  have hn : n = x * x + q * u := by omega
  have ht : t = u * z - p * k := by omega
  refine ⟨-(u * w) + 2 * x * k - t * t * v, ?_⟩
  have hzw : 2 * x * z = p * w + 1 := by omega
  rw [hn]
  have a1 : (x + t * q) * (x + t * q) = x * x + q * (2 * x * t) + q * (t * t * q) := by
    simp only [Int.mul_add, Int.add_mul]
    rw [show q * (2 * x * t) = x * (t * q) + t * q * x by
      rw [show (2 : Int) * x = x + x by omega]; simp only [Int.mul_add, Int.add_mul]; ac_rfl]
    ac_rfl
  have a2 : 2 * x * t = u * (p * w + 1) - p * (2 * x * k) := by
    rw [ht, Int.mul_sub, ← hzw]; ac_rfl
  rw [a1, a2]
  push_cast
  conv => lhs; rw [show q * (t * t * (q : Int)) = q * p * (t * t * v) by rw [hv]; ac_rfl]
  simp only [Int.mul_add, Int.mul_sub, Int.mul_one, Int.mul_neg]
  rw [show (q : Int) * (u * (p * w)) = q * p * (u * w) by ac_rfl, show (q : Int) * (p * (2 * x * k)) = q * p * (2 * x * k) by ac_rfl]
  omega
/-- the roots of n below m, in their order -/
noncomputable def rootsL (m : Nat) (n : Int) : List Nat := (List.range m).filter fun y => decide (((y : Int) * y - n) % m = 0)
theorem mem_roots {m y : Nat} {n : Int} : y ∈ rootsL m n ↔ y < m ∧ (m : Int) ∣ (y : Int) * y - n := by
  unfold rootsL
  rw [List.mem_filter, List.mem_range, decide_eq_true_eq]
  exact ⟨fun h => ⟨h.1, Int.dvd_of_emod_eq_zero h.2⟩, fun h => ⟨h.1, Int.emod_eq_zero_of_dvd h.2⟩⟩
theorem roots_sorted (m : Nat) (n : Int) : (rootsL m n).Pairwise (· < ·) := List.Pairwise.filter _ List.pairwise_lt_range
theorem roots_eq {m x : Nat} {n : Int} {ms : List Int} (hx0 : 0 < x) (hx : x < m) (h2 : x ≠ m - x) (hm : ∀ y, y ∈ rootsL m n ↔ y = x ∨ y = m - x) (hp : ms.Perm [(x : Int), m - x]) (hs : ms.Pairwise (· ≤ ·)) :
    ms = (rootsL m n).map fun (y : Nat) => (y : Int) := by
  have h1 : (rootsL m n).Perm [x, m - x] := by
    refine (List.perm_ext_iff_of_nodup ((roots_sorted m n).imp fun h => Nat.ne_of_lt h) ?_).mpr fun y => ?_
    · simpa using h2
    · rw [hm]; simp
  have h3 : ((rootsL m n).map fun (y : Nat) => (y : Int)).Perm [(x : Int), m - x] := by
    have := h1.map fun (y : Nat) => (y : Int)
    rw [show [x, m - x].map (fun (y : Nat) => (y : Int)) = [(x : Int), m - x] by simp; omega] at this
    exact this
  refine List.Perm.eq_of_pairwise (fun x y _ _ h1 h2 => Int.le_antisymm h1 h2) hs ?_ (hp.trans h3.symm)
  refine List.Pairwise.map _ (fun a b h => ?_) (roots_sorted m n)
  omega
noncomputable def gt : List (Str × Addr) := [((Str.ofString "extgcd"), 21), ((Str.ofString "legendre"), 28), ((Str.ofString "modsqrt"), 36), ((Str.ofString "inverse"), 43), ((Str.ofString "vp"), 51), ((Str.ofString "_law_pool"), 58), ((Str.ofString "_law_draw"), 65), ((Str.ofString "_law_is_prime"), 70), ((Str.ofString "_law_prime"), 75), ((Str.ofString "_law_heard"), 82), ((Str.ofString "_law_right"), 89), ((Str.ofString "_law_all_right"), 94), ((Str.ofString "_law_number"), 101), ((Str.ofString "law"), 106)]
noncomputable def bt : List Str := [(Str.ofString "len"), (Str.ofString "int"), (Str.ofString "list"), (Str.ofString "tuple"), (Str.ofString "abs"), (Str.ofString "min"), (Str.ofString "max"), (Str.ofString "divmod"), (Str.ofString "isinstance"), (Str.ofString "bool"), (Str.ofString "range"), (Str.ofString "ValueError"), (Str.ofString "sorted"), (Str.ofString "set"), (Str.ofString "sum"), (Str.ofString "zip"), (Str.ofString "enumerate"), (Str.ofString "pow"), (Str.ofString "str")]
-- extgcd at 21: ['x', 'y', 'a', 'b', 'g', 'u', 'v', 'w', 'q', 't']
noncomputable def m_extgcd : MS := (.seq (.asgN [2, 3, 4, 5, 6, 7] (.cons (.int 1) (.cons (.int 0) (.cons (.var 0) (.cons (.int 0) (.cons (.int 1) (.cons (.var 1) .nil))))))) (.seq (.whil (.tv (.var 7)) (.seq (.unp [8, 9] (.dvm (.var 4) (.var 7))) (.seq (.asgN [2, 3, 4, 5, 6, 7] (.cons (.var 5) (.cons (.var 6) (.cons (.var 7) (.cons (.bin .sub (.var 2) (.bin .mul (.var 8) (.var 5))) (.cons (.bin .sub (.var 3) (.bin .mul (.var 8) (.var 6))) (.cons (.var 9) .nil))))))) .skip)) .skip) (.seq (.ite (.cmp .ge (.var 4) (.int 0)) (.seq (.ret (.tup (.cons (.var 2) (.cons (.var 3) (.cons (.var 4) .nil))))) .skip) (.seq (.ret (.tup (.cons (.neg (.var 2)) (.cons (.neg (.var 3)) (.cons (.neg (.var 4)) .nil))))) .skip)) .skip)))
noncomputable abbrev n_extgcd : List Str := [(Str.ofString "x"), (Str.ofString "y"), (Str.ofString "a"), (Str.ofString "b"), (Str.ofString "g"), (Str.ofString "u"), (Str.ofString "v"), (Str.ofString "w"), (Str.ofString "q"), (Str.ofString "t")]
noncomputable abbrev p_extgcd : List Str := [(Str.ofString "x"), (Str.ofString "y")]
-- legendre at 28: ['a', 'm', 'symbol']
noncomputable def m_legendre : MS := (.seq (.asg 0 (.bin .mod (.var 0) (.var 1))) (.seq (.asg 2 (.int 1)) (.seq (.whil (.cmp .ne (.var 0) (.int 0)) (.seq (.whil (.cmp .eq (.bin .band (.var 0) (.int 1)) (.int 0)) (.seq (.aug 0 .shr (.int 1)) (.seq (.ite (.or (.cmp .eq (.bin .band (.var 1) (.int 7)) (.int 3)) (.cmp .eq (.bin .band (.var 1) (.int 7)) (.int 5))) (.seq (.asg 2 (.neg (.var 2))) .skip) .skip) .skip)) .skip) (.seq (.asgN [0, 1] (.cons (.var 1) (.cons (.var 0) .nil))) (.seq (.ite (.and (.cmp .eq (.bin .band (.var 0) (.int 3)) (.int 3)) (.cmp .eq (.bin .band (.var 1) (.int 3)) (.int 3))) (.seq (.asg 2 (.neg (.var 2))) .skip) .skip) (.seq (.asg 0 (.bin .mod (.var 0) (.var 1))) .skip)))) .skip) (.seq (.ite (.cmp .eq (.var 1) (.int 1)) (.seq (.ret (.var 2)) .skip) .skip) (.seq (.ret (.int 0)) .skip)))))
noncomputable abbrev n_legendre : List Str := [(Str.ofString "a"), (Str.ofString "m"), (Str.ofString "symbol")]
noncomputable abbrev p_legendre : List Str := [(Str.ofString "a"), (Str.ofString "m")]
-- modsqrt at 36: ['n', 'p', 'e', 'x', 'ppower', 'z', 'i', 'symbol', 'pmod8', 'c', 'd', 's', 't', 'A', 'D', 'm']
noncomputable def m_modsqrt : MS := (.seq (.ite (.cmp .lt (.int 1) (.var 2)) (.seq (.asg 3 (.call 36 (.cons (.var 0) (.cons (.var 1) .nil)))) (.seq (.ite (.cmp .eq (.int 0) (.var 3)) (.seq (.raise "ValueError") .skip) .skip) (.seq (.asg 4 (.var 1)) (.seq (.asg 5 (.call 43 (.cons (.bin .shl (.var 3) (.int 1)) (.cons (.var 1) .nil)))) (.seq (.forR 6 (.int 0) (.bin .sub (.var 2) (.int 1)) (.int 1) (.seq (.aug 3 .add (.bin .mul (.bin .mod (.bin .mul (.bin .fdiv (.bin .sub (.var 0) (.bin .pow (.var 3) (.int 2))) (.var 4)) (.var 5)) (.var 1)) (.var 4))) (.seq (.aug 4 .mul (.var 1)) .skip))) (.seq (.ret (.var 3)) .skip)))))) .skip) (.seq (.asg 7 (.call 28 (.cons (.var 0) (.cons (.var 1) .nil)))) (.seq (.ite (.cmp .eq (.var 7) (.int 1)) (.seq (.asg 8 (.bin .band (.var 1) (.int 7))) (.seq (.ite (.cmp .ne (.var 8) (.int 1)) (.seq (.aug 0 .mod (.var 1)) (.seq (.ite (.or (.cmp .eq (.var 8) (.int 3)) (.cmp .eq (.var 8) (.int 7))) (.seq (.asg 3 (.pow3 (.var 0) (.bin .add (.bin .shr (.var 1) (.int 2)) (.int 1)) (.var 1))) .skip) (.seq (.asg 3 (.pow3 (.var 0) (.bin .add (.bin .shr (.var 1) (.int 3)) (.int 1)) (.var 1))) (.seq (.asg 9 (.pow3 (.var 3) (.int 2) (.var 1))) (.seq (.ite (.cmp .ne (.var 9) (.var 0)) (.seq (.asg 3 (.bin .mod (.bin .mul (.var 3) (.pow3 (.int 2) (.bin .shr (.var 1) (.int 2)) (.var 1))) (.var 1))) .skip) .skip) .skip)))) .skip)) (.seq (.asg 10 (.int 2)) (.seq (.whil (.cmp .ne (.call 28 (.cons (.var 10) (.cons (.var 1) .nil))) (.neg (.int 1))) (.seq (.aug 10 .add (.int 1)) .skip) .skip) (.seq (.unp [11, 12] (.call 51 (.cons (.bin .sub (.var 1) (.int 1)) (.cons (.int 2) .nil)))) (.seq (.asg 13 (.pow3 (.var 0) (.var 12) (.var 1))) (.seq (.asg 14 (.pow3 (.var 10) (.var 12) (.var 1))) (.seq (.asg 15 (.int 0)) (.seq (.forR 6 (.int 1) (.var 11) (.int 1) (.seq (.ite (.cmp .eq (.pow3 (.bin .mul (.var 13) (.pow3 (.var 14) (.var 15) (.var 1))) (.bin .shl (.int 1) (.bin .sub (.bin .sub (.var 11) (.int 1)) (.var 6))) (.var 1)) (.bin .sub (.var 1) (.int 1))) (.seq (.aug 15 .add (.bin .shl (.int 1) (.var 6))) .skip) .skip) .skip)) (.seq (.asg 3 (.bin .mod (.bin .mul (.pow3 (.var 0) (.bin .shr (.bin .add (.var 12) (.int 1)) (.int 1)) (.var 1)) (.pow3 (.var 14) (.bin .shr (.var 15) (.int 1)) (.var 1))) (.var 1))) .skip))))))))) (.seq (.ret (.var 3)) .skip))) (.seq (.ite (.cmp .eq (.var 7) (.int 0)) (.seq (.ret (.int 0)) .skip) (.seq (.raise "ValueError") .skip)) .skip)) .skip)))
noncomputable abbrev n_modsqrt : List Str := [(Str.ofString "n"), (Str.ofString "p"), (Str.ofString "e"), (Str.ofString "x"), (Str.ofString "ppower"), (Str.ofString "z"), (Str.ofString "i"), (Str.ofString "symbol"), (Str.ofString "pmod8"), (Str.ofString "c"), (Str.ofString "d"), (Str.ofString "s"), (Str.ofString "t"), (Str.ofString "A"), (Str.ofString "D"), (Str.ofString "m")]
noncomputable abbrev p_modsqrt : List Str := [(Str.ofString "n"), (Str.ofString "p"), (Str.ofString "e")]
-- inverse at 43: ['x', 'n', 'y', 'r']
noncomputable def m_inverse : MS := (.seq (.asg 0 (.bin .mod (.var 0) (.var 1))) (.seq (.asg 2 (.call 21 (.cons (.var 1) (.cons (.var 0) .nil)))) (.seq (.ite (.cmp .eq (.idx (.var 2) (.int 2)) (.int 1)) (.seq (.ite (.cmp .lt (.idx (.var 2) (.int 1)) (.int 0)) (.seq (.asg 3 (.bin .add (.var 1) (.idx (.var 2) (.int 1)))) (.seq (.ret (.var 3)) .skip)) (.seq (.ret (.idx (.var 2) (.int 1))) .skip)) .skip) .skip) (.seq .stop .skip))))
noncomputable abbrev n_inverse : List Str := [(Str.ofString "x"), (Str.ofString "n"), (Str.ofString "y"), (Str.ofString "r")]
noncomputable abbrev p_inverse : List Str := [(Str.ofString "x"), (Str.ofString "n")]
-- vp at 51: ['n', 'p', 'k', 'q']
noncomputable def m_vp : MS := (.seq (.asg 3 (.var 1)) (.seq (.whil (.not (.tv (.bin .mod (.var 0) (.var 3)))) (.seq (.aug 2 .add (.int 1)) (.seq (.aug 3 .mul (.var 1)) .skip)) .skip) (.seq (.ret (.tup (.cons (.var 2) (.cons (.bin .fdiv (.var 0) (.bin .fdiv (.var 3) (.var 1))) .nil)))) .skip)))
noncomputable abbrev n_vp : List Str := [(Str.ofString "n"), (Str.ofString "p"), (Str.ofString "k"), (Str.ofString "q")]
noncomputable abbrev p_vp : List Str := [(Str.ofString "n"), (Str.ofString "p"), (Str.ofString "k")]
-- _law_pool at 58: ['script', 'first', 'size']
noncomputable abbrev n_l_pool : List Str := [(Str.ofString "script"), (Str.ofString "first"), (Str.ofString "size")]
noncomputable abbrev p_l_pool : List Str := [(Str.ofString "script")]
-- _law_draw at 65: ['pool', 'many', 'cell', 'size', 'found']
noncomputable abbrev n_l_draw : List Str := [(Str.ofString "pool"), (Str.ofString "many"), (Str.ofString "cell"), (Str.ofString "size"), (Str.ofString "found")]
noncomputable abbrev p_l_draw : List Str := [(Str.ofString "pool"), (Str.ofString "many")]
-- _law_is_prime at 70: ['number']
noncomputable def m_l_is_prime : MS := (.seq (.ret (.and (.cmp .gt (.cvar 0) (.int 1)) (.cmp .eq (.compR (.int 2) (.cvar 0) (.int 1) (.cmp .eq (.bin .mod (.cvar 1) (.var 0)) (.int 0)) (.var 0) [0]) (.list .nil)))) .skip)
noncomputable abbrev n_l_is_prime : List Str := [(Str.ofString "number")]
noncomputable abbrev p_l_is_prime : List Str := [(Str.ofString "number")]
-- _law_prime at 75: ['pool', 'begin']
noncomputable def m_l_prime : MS := (.seq (.asg 1 (.bin .add (.int 3) (.bin .mul (.int 2) (.call 65 (.cons (.var 0) (.cons (.int 20) .nil)))))) (.seq (.ret (.idx (.compR (.var 1) (.bin .add (.var 1) (.int 14)) (.int 1) (.tv (.call 70 (.cons (.var 0) .nil))) (.var 0) []) (.int 0))) .skip))
noncomputable abbrev n_l_prime : List Str := [(Str.ofString "pool"), (Str.ofString "begin")]
noncomputable abbrev p_l_prime : List Str := [(Str.ofString "pool")]
-- _law_heard at 82: ['n', 'p', 'e']
noncomputable def m_l_heard : MS := (.seq (.tryE .ret (.tup (.cons (.strC "is") (.cons (.call 36 (.cons (.var 0) (.cons (.var 1) (.cons (.var 2) .nil)))) .nil))) "ValueError" (.retS "refused")) .skip)
noncomputable abbrev n_l_heard : List Str := [(Str.ofString "n"), (Str.ofString "p"), (Str.ofString "e")]
noncomputable abbrev p_l_heard : List Str := [(Str.ofString "n"), (Str.ofString "p"), (Str.ofString "e")]
-- _law_right at 89: ['n', 'p', 'e', 'roots', 'heard', 'modulus']
noncomputable def m_l_right : MS := (.seq (.asgN [4, 5] (.cons (.call 82 (.cons (.var 0) (.cons (.var 1) (.cons (.var 2) .nil)))) (.cons (.bin .pow (.var 1) (.var 2)) .nil))) (.seq (.ite (.cmp .eq (.bin .mod (.var 0) (.var 1)) (.int 0)) (.seq (.ret (.cmp .eq (.var 4) (.ite (.cmp .eq (.var 2) (.int 1)) (.tup (.cons (.strC "is") (.cons (.int 0) .nil))) (.tup (.cons (.strC "refused") .nil))))) .skip) .skip) (.seq (.ite (.cmp .eq (.var 3) (.list .nil)) (.seq (.ret (.cmp .eq (.var 4) (.tup (.cons (.strC "refused") .nil)))) .skip) .skip) (.seq (.ite (.or (.cmp .ne (.idx (.var 4) (.int 0)) (.strC "is")) (.or (.not (.tv (.isi (.idx (.var 4) (.int 1)) .int))) (.tv (.isi (.idx (.var 4) (.int 1)) .bool)))) (.seq (.ret (.bool false)) .skip) .skip) (.seq (.ret (.and (.chain (.int 0) .lt (.idx (.var 4) (.int 1)) .lt (.var 5)) (.cmp .eq (.var 3) (.sorted (.list (.cons (.idx (.var 4) (.int 1)) (.cons (.bin .sub (.var 5) (.idx (.var 4) (.int 1))) .nil))))))) .skip)))))
noncomputable abbrev n_l_right : List Str := [(Str.ofString "n"), (Str.ofString "p"), (Str.ofString "e"), (Str.ofString "roots"), (Str.ofString "heard"), (Str.ofString "modulus")]
noncomputable abbrev p_l_right : List Str := [(Str.ofString "n"), (Str.ofString "p"), (Str.ofString "e"), (Str.ofString "roots")]
-- _law_all_right at 94: ['p', 'e', 'more', 'modulus', 'n', 'roots', 'x']
noncomputable def m_l_all_right : MS := (.seq (.asg 3 (.bin .pow (.var 0) (.var 1))) (.seq (.asg 5 (.compR (.int 0) (.var 3) (.int 1) (.tv (.bool true)) (.list .nil) [])) (.seq (.forR 6 (.int 0) (.var 3) (.int 1) (.seq (.expr (.app (.idx (.var 5) (.bin .mod (.bin .mul (.var 6) (.var 6)) (.var 3))) (.var 6))) .skip)) (.seq (.forR 4 (.int 0) (.var 3) (.int 1) (.seq (.ite (.not (.tv (.call 89 (.cons (.bin .add (.var 4) (.bin .mul (.var 2) (.var 3))) (.cons (.var 0) (.cons (.var 1) (.cons (.idx (.var 5) (.var 4)) .nil))))))) (.seq (.ret (.bool false)) .skip) .skip) .skip)) (.seq (.ret (.bool true)) .skip)))))
noncomputable abbrev n_l_all_right : List Str := [(Str.ofString "p"), (Str.ofString "e"), (Str.ofString "more"), (Str.ofString "modulus"), (Str.ofString "n"), (Str.ofString "roots"), (Str.ofString "x")]
noncomputable abbrev p_l_all_right : List Str := [(Str.ofString "p"), (Str.ofString "e"), (Str.ofString "more")]
-- _law_number at 101: ['pool', 'p', 'modulus', 'way', 'size', 'drawn']
noncomputable def m_l_number : MS := (.seq (.asgN [3, 4] (.cons (.call 65 (.cons (.var 0) (.cons (.int 6) .nil))) (.cons (.idx (.list (.cons (.int 50) (.cons (.bin .pow (.int 10) (.int 6)) (.cons (.bin .pow (.int 10) (.int 40)) .nil)))) (.call 65 (.cons (.var 0) (.cons (.int 3) .nil)))) .nil))) (.seq (.asg 5 (.bin .sub (.call 65 (.cons (.var 0) (.cons (.var 4) .nil))) (.bin .fdiv (.bin .mul (.call 65 (.cons (.var 0) (.cons (.int 2) .nil))) (.var 4)) (.int 2)))) (.seq (.ite (.cmp .lt (.var 3) (.int 3)) (.seq (.ret (.bin .add (.bin .mul (.var 5) (.var 5)) (.bin .mul (.var 2) (.bin .sub (.call 65 (.cons (.var 0) (.cons (.int 200) .nil))) (.int 100))))) .skip) .skip) (.seq (.ret (.ite (.cmp .lt (.var 3) (.int 5)) (.var 5) (.bin .mul (.var 1) (.var 5)))) .skip))))
noncomputable abbrev n_l_number : List Str := [(Str.ofString "pool"), (Str.ofString "p"), (Str.ofString "modulus"), (Str.ofString "way"), (Str.ofString "size"), (Str.ofString "drawn")]
noncomputable abbrev p_l_number : List Str := [(Str.ofString "pool"), (Str.ofString "p"), (Str.ofString "modulus")]
-- law at 106: ['script', 'pool', 'p', 'most', 'e', 'modulus', 'turn', 'n', 'roots']
noncomputable def m_law : MS := (.seq (.asg 1 (.call 58 (.cons (.var 0) .nil))) (.seq (.ite (.not (.tv (.call 94 (.cons (.int 5) (.cons (.int 2) (.cons (.bin .sub (.call 65 (.cons (.var 1) (.cons (.bin .pow (.int 10) (.int 20)) .nil))) (.call 65 (.cons (.var 1) (.cons (.int 9) .nil)))) .nil)))))) (.seq (.ret (.bool false)) .skip) .skip) (.seq (.asgC [(2, true), (3, true)] (.cons (.call 75 (.cons (.var 1) .nil)) (.cons (.ite (.cmp .gt (.idx (.var 1) (.int 0)) (.int 0)) (.int 2500) (.int 400)) .nil))) (.seq (.asg 4 (.idx (.compR (.int 1) (.bin .add (.int 2) (.call 65 (.cons (.var 1) (.cons (.int 6) .nil)))) (.int 1) (.or (.cmp .eq (.var 0) (.int 1)) (.cmp .le (.bin .pow (.cvar 2) (.var 0)) (.cvar 1))) (.var 0) [3, 2]) (.neg (.int 1)))) (.seq (.casg 5 (.bin .pow (.cvar 2) (.var 4))) (.seq (.forR 6 (.int 0) (.bin .add (.int 1) (.call 65 (.cons (.var 1) (.cons (.int 6) .nil)))) (.int 1) (.seq (.casg 7 (.ite (.cmp .gt (.var 6) (.int 0)) (.call 101 (.cons (.var 1) (.cons (.cvar 2) (.cons (.cvar 5) .nil)))) (.int 0))) (.seq (.asg 8 (.compR (.int 0) (.cvar 5) (.int 1) (.cmp .eq (.bin .mod (.bin .sub (.bin .mul (.var 0) (.var 0)) (.cvar 2)) (.cvar 1)) (.int 0)) (.var 0) [5, 7])) (.seq (.ite (.not (.tv (.call 89 (.cons (.cvar 7) (.cons (.cvar 2) (.cons (.var 4) (.cons (.var 8) .nil))))))) (.seq (.ret (.bool false)) .skip) .skip) .skip)))) (.seq (.ite (.and (.cmp .eq (.var 4) (.int 1)) (.cmp .eq (.call 65 (.cons (.var 1) (.cons (.int 2) .nil))) (.int 0))) (.seq (.casg 7 (.call 101 (.cons (.var 1) (.cons (.cvar 2) (.cons (.cvar 2) .nil))))) (.seq (.ret (.or (.cmp .ne (.bin .mod (.cvar 7) (.cvar 2)) (.int 0)) (.cmp .eq (.call 36 (.cons (.cvar 7) (.cons (.cvar 2) .nil))) (.int 0)))) .skip)) .skip) (.seq (.ret (.bool true)) .skip))))))))
structure HW where
  b : HB
  gt : gtB b.K b.gt = true
  bt : btB b.K b.bt = true
  f_extgcd : b.Fn 21 n_extgcd 2 m_extgcd
  b_extgcd : BindN b.K 21 p_extgcd 2 []
  f_legendre : b.Fn 28 n_legendre 2 m_legendre
  b_legendre : BindN b.K 28 p_legendre 2 []
  f_modsqrt : b.Fn 36 n_modsqrt 3 m_modsqrt
  d_modsqrt : DefF b.K 36 29 #[(.int 1 216)] 0
  b_modsqrt2 : BindD b.K 36 p_modsqrt #[(.int 1 216)] [(.int 1 216)] 2 []
  b_modsqrt3 : BindD b.K 36 p_modsqrt #[(.int 1 216)] [] 3 []
  b_modsqrtk : BindK b.K 36 p_modsqrt #[(.int 1 216)] (Str.ofString "e") 2 []
  f_inverse : b.Fn 43 n_inverse 2 m_inverse
  b_inverse : BindN b.K 43 p_inverse 2 []
  f_vp : b.Fn 51 n_vp 3 m_vp
  d_vp : DefF b.K 51 44 #[(.int 0 249)] 0
  b_vp2 : BindD b.K 51 p_vp #[(.int 0 249)] [(.int 0 249)] 2 []
  b_vp3 : BindD b.K 51 p_vp #[(.int 0 249)] [] 3 []
  b_vpk : BindK b.K 51 p_vp #[(.int 0 249)] (Str.ofString "k") 2 []
  f_l_pool : b.Fn 58 n_l_pool 1 poolMS
  b_l_pool : BindN b.K 58 p_l_pool 1 []
  f_l_draw : b.Fn 65 n_l_draw 2 drawMS
  b_l_draw : BindN b.K 65 p_l_draw 2 []
  f_l_is_prime : b.FnC 70 n_l_is_prime 1 [true] m_l_is_prime
  b_l_is_prime : BindN b.K 70 p_l_is_prime 1 []
  f_l_prime : b.Fn 75 n_l_prime 1 m_l_prime
  b_l_prime : BindN b.K 75 p_l_prime 1 []
  f_l_heard : b.Fn 82 n_l_heard 3 m_l_heard
  b_l_heard : BindN b.K 82 p_l_heard 3 []
  f_l_right : b.Fn 89 n_l_right 4 m_l_right
  b_l_right : BindN b.K 89 p_l_right 4 []
  f_l_all_right : b.Fn 94 n_l_all_right 3 m_l_all_right
  b_l_all_right : BindN b.K 94 p_l_all_right 3 []
  f_l_number : b.Fn 101 n_l_number 3 m_l_number
  b_l_number : BindN b.K 101 p_l_number 3 []
noncomputable abbrev gg (w : HW) (mean : ExcName → Option Value) (mg mb : Str → Option Value) : G := w.b.gm mean mg mb
theorem call_extgcd {w mean mg mb} {a0 : V} {a1 : V} {d : Nat} {hp : HP} {Q : V → HP → Prop} {X : XC}
    (h : exec (gg w mean mg mb) d m_extgcd [a0, a1, .unb, .unb, .unb, .unb, .unb, .unb, .unb, .unb] hp (retQ Q) (upX X)) : Calls (gg w mean mg mb) (d + 1) 21 [a0, a1] [] hp Q X :=
  callF w.gt w.bt w.f_extgcd (bv := [a0, a1]) (binds0 w.b_extgcd rfl) rfl rfl h
theorem call_legendre {w mean mg mb} {a0 : V} {a1 : V} {d : Nat} {hp : HP} {Q : V → HP → Prop} {X : XC}
    (h : exec (gg w mean mg mb) d m_legendre [a0, a1, .unb] hp (retQ Q) (upX X)) : Calls (gg w mean mg mb) (d + 1) 28 [a0, a1] [] hp Q X :=
  callF w.gt w.bt w.f_legendre (bv := [a0, a1]) (binds0 w.b_legendre rfl) rfl rfl h
theorem call_modsqrt2 {w mean mg mb} {a0 : V} {a1 : V} {d : Nat} {hp : HP} {Q : V → HP → Prop} {X : XC}
    (h : exec (gg w mean mg mb) d m_modsqrt [a0, a1, .int 1, .unb, .unb, .unb, .unb, .unb, .unb, .unb, .unb, .unb, .unb, .unb, .unb, .unb] hp (retQ Q) (upX X)) : Calls (gg w mean mg mb) (d + 1) 36 [a0, a1] [] hp Q X :=
  callF w.gt w.bt w.f_modsqrt (bv := [a0, a1, .int 1]) (bindsD w.d_modsqrt w.b_modsqrt2 rfl rfl) rfl rfl h
theorem call_modsqrt3 {w mean mg mb} {a0 : V} {a1 : V} {a2 : V} {d : Nat} {hp : HP} {Q : V → HP → Prop} {X : XC}
    (h : exec (gg w mean mg mb) d m_modsqrt [a0, a1, a2, .unb, .unb, .unb, .unb, .unb, .unb, .unb, .unb, .unb, .unb, .unb, .unb, .unb] hp (retQ Q) (upX X)) : Calls (gg w mean mg mb) (d + 1) 36 [a0, a1, a2] [] hp Q X :=
  callF w.gt w.bt w.f_modsqrt (bv := [a0, a1, a2]) (bindsD w.d_modsqrt w.b_modsqrt3 rfl rfl) rfl rfl h
theorem call_inverse {w mean mg mb} {a0 : V} {a1 : V} {d : Nat} {hp : HP} {Q : V → HP → Prop} {X : XC}
    (h : exec (gg w mean mg mb) d m_inverse [a0, a1, .unb, .unb] hp (retQ Q) (upX X)) : Calls (gg w mean mg mb) (d + 1) 43 [a0, a1] [] hp Q X :=
  callF w.gt w.bt w.f_inverse (bv := [a0, a1]) (binds0 w.b_inverse rfl) rfl rfl h
theorem call_vp2 {w mean mg mb} {a0 : V} {a1 : V} {d : Nat} {hp : HP} {Q : V → HP → Prop} {X : XC}
    (h : exec (gg w mean mg mb) d m_vp [a0, a1, .int 0, .unb] hp (retQ Q) (upX X)) : Calls (gg w mean mg mb) (d + 1) 51 [a0, a1] [] hp Q X :=
  callF w.gt w.bt w.f_vp (bv := [a0, a1, .int 0]) (bindsD w.d_vp w.b_vp2 rfl rfl) rfl rfl h
theorem call_l_pool {w mean mg mb} {a0 : V} {d : Nat} {hp : HP} {Q : V → HP → Prop} {X : XC}
    (h : exec (gg w mean mg mb) d poolMS [a0, .unb, .unb] hp (retQ Q) (upX X)) : Calls (gg w mean mg mb) (d + 1) 58 [a0] [] hp Q X :=
  callF w.gt w.bt w.f_l_pool (bv := [a0]) (binds0 w.b_l_pool rfl) rfl rfl h
theorem call_l_draw {w mean mg mb} {a0 : V} {a1 : V} {d : Nat} {hp : HP} {Q : V → HP → Prop} {X : XC}
    (h : exec (gg w mean mg mb) d drawMS [a0, a1, .unb, .unb, .unb] hp (retQ Q) (upX X)) : Calls (gg w mean mg mb) (d + 1) 65 [a0, a1] [] hp Q X :=
  callF w.gt w.bt w.f_l_draw (bv := [a0, a1]) (binds0 w.b_l_draw rfl) rfl rfl h
theorem call_l_is_prime {w mean mg mb} {a0 : V} {d : Nat} {hp : HP} {Q : V → HP → Prop} {X : XC}
    (h : enterC [(true, a0)] hp fun l h0 => exec (gg w mean mg mb) d m_l_is_prime l h0 (retQ Q) noX) : Calls (gg w mean mg mb) (d + 1) 70 [a0] [] hp Q X :=
  callC w.gt w.bt w.f_l_is_prime (bv := [a0]) (binds0 w.b_l_is_prime rfl) rfl rfl (by kernel_rfl!) h
theorem call_l_prime {w mean mg mb} {a0 : V} {d : Nat} {hp : HP} {Q : V → HP → Prop} {X : XC}
    (h : exec (gg w mean mg mb) d m_l_prime [a0, .unb] hp (retQ Q) (upX X)) : Calls (gg w mean mg mb) (d + 1) 75 [a0] [] hp Q X :=
  callF w.gt w.bt w.f_l_prime (bv := [a0]) (binds0 w.b_l_prime rfl) rfl rfl h
theorem call_l_heard {w mean mg mb} {a0 : V} {a1 : V} {a2 : V} {d : Nat} {hp : HP} {Q : V → HP → Prop} {X : XC}
    (h : exec (gg w mean mg mb) d m_l_heard [a0, a1, a2] hp (retQ Q) (upX X)) : Calls (gg w mean mg mb) (d + 1) 82 [a0, a1, a2] [] hp Q X :=
  callF w.gt w.bt w.f_l_heard (bv := [a0, a1, a2]) (binds0 w.b_l_heard rfl) rfl rfl h
theorem call_l_right {w mean mg mb} {a0 : V} {a1 : V} {a2 : V} {a3 : V} {d : Nat} {hp : HP} {Q : V → HP → Prop} {X : XC}
    (h : exec (gg w mean mg mb) d m_l_right [a0, a1, a2, a3, .unb, .unb] hp (retQ Q) (upX X)) : Calls (gg w mean mg mb) (d + 1) 89 [a0, a1, a2, a3] [] hp Q X :=
  callF w.gt w.bt w.f_l_right (bv := [a0, a1, a2, a3]) (binds0 w.b_l_right rfl) rfl rfl h
theorem call_l_all_right {w mean mg mb} {a0 : V} {a1 : V} {a2 : V} {d : Nat} {hp : HP} {Q : V → HP → Prop} {X : XC}
    (h : exec (gg w mean mg mb) d m_l_all_right [a0, a1, a2, .unb, .unb, .unb, .unb] hp (retQ Q) (upX X)) : Calls (gg w mean mg mb) (d + 1) 94 [a0, a1, a2] [] hp Q X :=
  callF w.gt w.bt w.f_l_all_right (bv := [a0, a1, a2]) (binds0 w.b_l_all_right rfl) rfl rfl h
theorem call_l_number {w mean mg mb} {a0 : V} {a1 : V} {a2 : V} {d : Nat} {hp : HP} {Q : V → HP → Prop} {X : XC}
    (h : exec (gg w mean mg mb) d m_l_number [a0, a1, a2, .unb, .unb, .unb] hp (retQ Q) (upX X)) : Calls (gg w mean mg mb) (d + 1) 101 [a0, a1, a2] [] hp Q X :=
  callF w.gt w.bt w.f_l_number (bv := [a0, a1, a2]) (binds0 w.b_l_number rfl) rfl rfl h
noncomputable def dropS : Nat → MS → MS
  | n + 1, .seq _ r => dropS n r
  | _, m => m
theorem ne0 {p : Nat} (h : 0 < p) : (p : Int) ≠ 0 := Int.natCast_ne_zero.mpr (Nat.ne_of_gt h)
theorem pos0 {p : Nat} (h : 0 < p) : (0 : Int) < p := Int.natCast_pos.mpr h
theorem smallN {a p : Nat} (h : a < p) (hp : p ≤ 2500) : ((a : Nat) : Int).natAbs < 2 ^ 64 := by omega
theorem sub1 {a p : Nat} (hp : 0 < p) : (a : Int) = (p : Int) - 1 ↔ a = p - 1 := by omega
theorem bits1 {x : Int} (h : x ≤ 2500) : (Builtin.Int.intBits 1 : Int) + x ≤ 2 ^ 27 := by
  have : Builtin.Int.intBits 1 = 1 := by decide
  omega
theorem smallL {a : Nat} (h : a ≤ 2500) : ((a : Nat) : Int).natAbs < 2 ^ 64 := by omega
theorem odd8 {p : Nat} (h : p % 2 = 1) (h1 : p % 8 ≠ 1) : p % 8 = 3 ∨ p % 8 = 5 ∨ p % 8 = 7 := by omega
theorem rlt {n : Int} {p r : Nat} (hp : 0 < p) (hr : (n % p).toNat = r) : r < p := by
  have := Int.emod_lt_of_pos n (b := (p : Int)) (pos0 hp)
  omega
theorem even_exec {w mean mg mb} {d : Nat} {hp : HP} {k a m b : Nat} {s t : Int} (hk : evenF k a m s = some (b, t)) {Q : Out → List V → HP → Prop} (hQ : b % 2 = 1 → Q .next [.int b, .int m, .int t] hp) :
    whileI (fun l h R => evT (gg w mean mg mb) d (.cmp .eq (.bin .band (.var 0) (.int 1)) (.int 0)) l h R noX)
      (fun l h R => exec (gg w mean mg mb) d (.seq (.aug 0 .shr (.int 1)) (.seq (.ite (.or (.cmp .eq (.bin .band (.var 1) (.int 7)) (.int 3)) (.cmp .eq (.bin .band (.var 1) (.int 7)) (.int 5))) (.seq (.asg 2 (.neg (.var 2))) .skip) .skip) .skip)) l h R noX)
      (fun l h R => exec (gg w mean mg mb) d .skip l h R noX) [.int a, .int m, .int s] hp Q := by
  refine ⟨fun j l h => ∃ (a : Nat) (s : Int), l = [.int a, .int m, .int s] ∧ h = hp ∧ evenF j a m s = some (b, t), ⟨k, a, s, rfl, rfl, hk⟩, ?_⟩
  rintro j l h ⟨a, s, rfl, rfl, hj⟩
  cases j with
  | zero => cases hj
  | succ j =>
  simp only [evenF] at hj
  refine ⟨trivial, fun ht => ?_, fun ht => ?_⟩
  · have ht := ceq_t.mp ht
    have ha : a % 2 = 0 := by
      have : Builtin.bitAnd (a : Int) 1 = 0 := ht
      rw [bitAnd_m1] at this; omega
    rw [if_pos ha] at hj
    have e2 : intOp (a : Int) 1 .shr = ((a / 2 : Nat) : Int) := by
      show (a : Int).fdiv (2 ^ (1 : Int).toNat) = _
      rw [show (2 : Int) ^ (1 : Int).toNat = 2 from rfl, Int.fdiv_eq_ediv_of_nonneg _ (by decide)]; rfl
    refine ⟨(show (0 : Int) ≤ 1 by decide), ?_⟩
    show exec (gg w mean mg mb) d _ [.int (intOp (a : Int) 1 .shr), .int m, .int s] h _ noX
    rw [e2]
    have e7 : Builtin.bitAnd (m : Int) 7 = ((m % 8 : Nat) : Int) := by rw [bitAnd_m3]; rfl
    refine ⟨trivial, fun t1 => ⟨fun _ => ?_, (fun q => nomatch q)⟩, fun t1 => ⟨trivial, fun t2 => ?_, fun t2 => ?_⟩⟩
    · have t1 : Builtin.bitAnd (m : Int) 7 = 3 := ceq_t.mp t1
      rw [e7] at t1
      rw [if_pos (.inl (Int.ofNat.inj t1))] at hj
      exact ⟨j, by omega, _, _, rfl, rfl, hj⟩
    · have t2 : Builtin.bitAnd (m : Int) 7 = 5 := ceq_t.mp t2
      rw [e7] at t2
      rw [if_pos (.inr (Int.ofNat.inj t2))] at hj
      exact ⟨j, by omega, _, _, rfl, rfl, hj⟩
    · have t1 : Builtin.bitAnd (m : Int) 7 ≠ 3 := ceq_f.mp t1
      have t2 : Builtin.bitAnd (m : Int) 7 ≠ 5 := ceq_f.mp t2
      rw [e7] at t1 t2
      rw [if_neg (fun q => q.elim (fun q => t1 (congrArg Int.ofNat q)) (fun q => t2 (congrArg Int.ofNat q)))] at hj
      exact ⟨j, by omega, _, _, rfl, rfl, hj⟩
  · have ht := ceq_f.mp ht
    have ha : a % 2 ≠ 0 := by
      have : Builtin.bitAnd (a : Int) 1 ≠ 0 := ht
      rw [bitAnd_m1] at this; omega
    rw [if_neg ha] at hj
    cases hj
    exact hQ (by omega)
theorem leg_exec {w mean mg mb} {d : Nat} {hp : HP} {m : Nat} {n v : Int} (hm : 0 < m) (hv : legV (n % m).toNat m = some v) {Q : V → HP → Prop} {X : XT} (hQ : Q (.int v) hp) :
    exec (gg w mean mg mb) d m_legendre [.int n, .int m, .unb] hp (retQ Q) X := by
  refine ⟨ne0 hm, ?_⟩
  have e : intOp n m .mod = ((n % (m : Int)).toNat : Int) := by
    show n.fmod m = _
    rw [Int.fmod_eq_emod_of_nonneg _ (Int.natCast_nonneg _), Int.toNat_of_nonneg (Int.emod_nonneg _ (ne0 hm))]
  show exec (gg w mean mg mb) d _ [.int (intOp n m .mod), .int m, .int 1] hp _ X
  rw [e]
  generalize (n % (m : Int)).toNat = r at *
  refine ⟨fun k l h => ∃ (a m : Nat) (s : Int), l = [.int a, .int m, .int s] ∧ h = hp ∧ legF k a m s = some v, ⟨6, r, m, 1, rfl, rfl, hv⟩, ?_⟩
  rintro k l h ⟨a, m, s, rfl, rfl, hk⟩
  cases k with
  | zero => cases hk
  | succ k =>
  simp only [legF] at hk
  refine ⟨fun t => ?_, fun t => ?_⟩
  · have ha := cne_t.mp t
    rw [if_neg (by omega)] at hk
    split at hk
    · cases hk
    rename_i b t' hev
    refine even_exec hev fun hb => ?_
    have em : intOp (m : Int) (b : Int) .mod = ((m % b : Nat) : Int) := by
      show (m : Int).fmod b = _
      rw [Int.fmod_eq_emod_of_nonneg _ (Int.natCast_nonneg _)]; rfl
    have e3 : Builtin.bitAnd (m : Int) 3 = ((m % 4 : Nat) : Int) := by rw [bitAnd_m2]; rfl
    have e4 : Builtin.bitAnd (b : Int) 3 = ((b % 4 : Nat) : Int) := by rw [bitAnd_m2]; rfl
    have fin : ∀ s2 : Int, legF k (m % b) b s2 = some v → exec (gg w mean mg mb) d (.seq (.asg 0 (.bin .mod (.var 0) (.var 1))) .skip) [.int m, .int b, .int s2] h (fun o l2 h2 => match o with
      | .next => ∃ j, j < k + 1 ∧ ∃ (a m : Nat) (s : Int), l2 = [.int a, .int m, .int s] ∧ h2 = h ∧ legF j a m s = some v | .brk => True | .ret _ => False) noX := by
      intro s2 hs
      refine ⟨(show (b : Int) ≠ 0 by omega), k, by omega, m % b, b, s2, ?_, rfl, hs⟩
      show [V.int (intOp (m : Int) (b : Int) .mod), V.int b, V.int s2] = _
      rw [em]
    refine ⟨trivial, fun t1 => ⟨trivial, fun t2 => ?_, fun t2 => ?_⟩, fun t1 => ⟨(fun q => nomatch q), fun _ => ?_⟩⟩
    · have t1 : Builtin.bitAnd (m : Int) 3 = 3 := ceq_t.mp t1
      have t2 : Builtin.bitAnd (b : Int) 3 = 3 := ceq_t.mp t2
      rw [e3] at t1; rw [e4] at t2
      rw [if_pos ⟨Int.ofNat.inj t1, Int.ofNat.inj t2⟩] at hk
      exact fin _ hk
    · have t2 : Builtin.bitAnd (b : Int) 3 ≠ 3 := ceq_f.mp t2
      rw [e4] at t2
      rw [if_neg (fun q => t2 (congrArg Int.ofNat q.2))] at hk
      exact fin _ hk
    · have t1 : Builtin.bitAnd (m : Int) 3 ≠ 3 := ceq_f.mp t1
      rw [e3] at t1
      rw [if_neg (fun q => t1 (congrArg Int.ofNat q.1))] at hk
      exact fin _ hk
  · have ha := cne_f.mp t
    rw [if_pos (by omega)] at hk
    refine ⟨fun t => ?_, fun t => ?_⟩
    · have hm : (m : Int) = 1 := ceq_t.mp t
      rw [if_pos (by omega)] at hk
      cases hk; exact hQ
    · have hm : (m : Int) ≠ 1 := ceq_f.mp t
      rw [if_neg (by omega)] at hk
      cases hk; exact hQ
theorem ext_exec {w mean mg mb} {d : Nat} {hp : HP} {k : Nat} {x y A B G : Int} (hk : extF k 1 0 x 0 1 y = some (A, B, G)) {Q : V → HP → Prop} {X : XT}
    (hQ : ∀ h' r, Upto [] hp h' → h' r = some (.tup [.int A, .int B, .int G]) → Q (.ref r) h') :
    exec (gg w mean mg mb) d m_extgcd [.int x, .int y, .unb, .unb, .unb, .unb, .unb, .unb, .unb, .unb] hp (retQ Q) X := by
  refine ⟨fun k l h => ∃ (a b g u v w : Int) (x8 x9 : V), l = [.int x, .int y, .int a, .int b, .int g, .int u, .int v, .int w, x8, x9] ∧ Upto [] hp h ∧ extF k a b g u v w = some (A, B, G), ⟨k, 1, 0, x, 0, 1, y, _, _, rfl, .refl, hk⟩, ?_⟩
  rintro k l h ⟨a, b, g, u, v, z, x8, x9, rfl, up, hk⟩
  cases k with
  | zero => cases hk
  | succ k =>
  simp only [extF] at hk
  refine ⟨fun t => ?_, fun t => ?_⟩
  · have hz : z ≠ 0 := tru_t.mp t
    rw [if_neg hz] at hk
    split at hk
    · rename_i hs
      refine ⟨hz, fun r nr => ⟨_, hset_same, rfl, mul_small_left (Nat.lt_trans hs (by decide)), trivial, mul_small_left (Nat.lt_trans hs (by decide)), trivial, ?_⟩⟩
      exact ⟨k, by omega, _, _, _, _, _, _, _, _, rfl, up.trans (.new nr), hk⟩
    · cases hk
  · have hz : z = 0 := tru_f.mp t
    rw [if_pos hz] at hk
    split at hk
    · rename_i hg
      cases hk
      refine ⟨fun _ => ⟨by simp [sizeLine_eq], fun r nr => hQ _ r (up.trans (.new nr)) hset_same⟩, fun t => absurd (cge_f.mp t) (by omega)⟩
    · cases hk
theorem inv_exec {w mean mg mb} {d : Nat} {hp : HP} {p : Nat} {n z : Int} (hp0 : 0 < p) (hz : invV p (n % p).toNat = some z) {Q : V → HP → Prop} {X : XT} (hQ : ∀ h', Upto [] hp h' → Q (.int z) h') :
    exec (gg w mean mg mb) (d + 1) m_inverse [.int n, .int p, .unb, .unb] hp (retQ Q) X := by
  refine ⟨(ne0 hp0), ?_⟩
  have e : intOp n p .mod = ((n % (p : Int)).toNat : Int) := by
    show n.fmod p = _
    rw [Int.fmod_eq_emod_of_nonneg _ (Int.natCast_nonneg _), Int.toNat_of_nonneg (Int.emod_nonneg _ (ne0 hp0))]
  show exec (gg w mean mg mb) (d + 1) _ [.int (intOp n p .mod), .int p, .unb, .unb] hp _ X
  rw [e]
  generalize (n % (p : Int)).toNat = r at *
  unfold invV at hz
  split at hz
  · rename_i A B G he
    split at hz
    · rename_i hg
      rw [hg] at he
      refine call_extgcd (ext_exec he fun h1 q u1 hq => ?_)
      refine idxE (k := 2) rfl rfl (vs := [.int A, .int B, .int 1]) (by rw [hq]; rfl) (by simp) (by simp) rfl ⟨fun _ => ?_, fun t => nomatch t⟩
      refine idxE (k := 1) rfl rfl (vs := [.int A, .int B, .int 1]) (by rw [hq]; rfl) (by simp) (by simp) rfl ⟨fun t => ?_, fun t => ?_⟩
      · have hb : B < 0 := clt_t.mp t
        rw [if_pos hb] at hz
        cases hz
        exact idxE (k := 1) rfl rfl (vs := [.int A, .int B, .int 1]) (by rw [hq]; rfl) (by simp) (by simp) rfl ⟨trivial, hQ _ u1⟩
      · have hb : 0 ≤ B := clt_f.mp t
        rw [if_neg (by omega)] at hz
        cases hz
        exact idxE (k := 1) rfl rfl (vs := [.int A, .int _, .int 1]) (by rw [hq]; rfl) (by simp) (by simp) rfl (hQ _ u1)
    · cases hz
  · cases hz
theorem vp_exec {w mean mg mb} {d : Nat} {hp : HP} {N s : Nat} (hs : s < 60) (h1 : ∀ j, j < s → N % 2 ^ (j + 1) = 0) (h2 : N % 2 ^ (s + 1) ≠ 0) {Q : V → HP → Prop} {X : XT}
    (hQ : ∀ h' r, Upto [] hp h' → h' r = some (.tup [.int s, .int (N / 2 ^ s : Nat)]) → Q (.ref r) h') :
    exec (gg w mean mg mb) d m_vp [.int N, .int 2, .int 0, .unb] hp (retQ Q) X := by
  have em : ∀ j : Nat, intOp (N : Int) ((2 ^ (j + 1) : Nat) : Int) .mod = ((N % 2 ^ (j + 1) : Nat) : Int) := by
    intro j
    show (N : Int).fmod _ = _
    rw [Int.fmod_eq_emod_of_nonneg _ (Int.natCast_nonneg _)]; push_cast; rfl
  have hpos : ∀ j : Nat, 0 < 2 ^ j := fun j => Nat.pow_pos (by decide)
  refine ⟨fun k l h => ∃ j : Nat, l = [.int N, .int 2, .int j, .int (2 ^ (j + 1) : Nat)] ∧ h = hp ∧ j ≤ s ∧ k = s - j, ⟨s, 0, rfl, rfl, by omega, rfl⟩, ?_⟩
  rintro k l h ⟨j, rfl, rfl, hj, rfl⟩
  refine ⟨(show ((2 ^ (j + 1) : Nat) : Int) ≠ 0 by have := hpos (j + 1); omega), ?_⟩
  show truV (.int (intOp (N : Int) ((2 ^ (j + 1) : Nat) : Int) .mod)) h _
  rw [em]
  refine ⟨fun t => ?_, fun t => ?_⟩
  · have hz : ((N % 2 ^ (j + 1) : Nat) : Int) = 0 := tru_f.mp (not_t.mp t)
    have hjs : j < s := by
      rcases Nat.lt_or_ge j s with q | q
      · exact q
      · have e0 : j = s := by omega
        rw [e0] at hz
        omega
    refine ⟨trivial, mul_small_right (by decide), s - (j + 1), by omega, j + 1, ?_, rfl, hjs, rfl⟩
    show [V.int N, V.int 2, V.int ((j : Int) + 1), V.int (((2 ^ (j + 1) : Nat) : Int) * 2)] = _
    rw [Nat.pow_succ 2 (j + 1)]; push_cast; rfl
  · have hz : ((N % 2 ^ (j + 1) : Nat) : Int) ≠ 0 := tru_t.mp (not_f.mp t)
    have hjs : j = s := by
      rcases Nat.lt_or_ge j s with q | q
      · exact absurd (by have := h1 j q; omega) hz
      · omega
    subst hjs
    have e1 : ((2 ^ (j + 1) : Nat) : Int).fdiv 2 = ((2 ^ j : Nat) : Int) := by
      rw [Int.fdiv_eq_ediv_of_nonneg _ (by decide), Nat.pow_succ, show ((2 ^ j * 2 : Nat) : Int) / 2 = (((2 ^ j * 2) / 2 : Nat) : Int) by push_cast; rfl, Nat.mul_div_cancel _ (by decide)]
    refine ⟨(show (2 : Int) ≠ 0 by decide), ?_⟩
    show binV .fdiv (.int N) (.int (((2 ^ (j + 1) : Nat) : Int).fdiv 2)) h _
    rw [e1]
    refine ⟨(show ((2 ^ j : Nat) : Int) ≠ 0 by have := hpos j; omega), by simp [sizeLine_eq], fun r nr => hQ _ r (.new nr) ?_⟩
    rw [hset_same]
    have e3 : intOp (N : Int) ((2 ^ j : Nat) : Int) .fdiv = ((N / 2 ^ j : Nat) : Int) := by
      show (N : Int).fdiv _ = _
      rw [Int.fdiv_eq_ediv_of_nonneg _ (Int.natCast_nonneg _)]; push_cast; rfl
    rw [e3]; rfl
theorem shrN (a k : Nat) : intOp (a : Int) (k : Int) .shr = ((a / 2 ^ k : Nat) : Int) := by
  show (a : Int).fdiv (2 ^ (k : Int).toNat) = _
  rw [Int.toNat_natCast, Int.fdiv_eq_ediv_of_nonneg _ (Int.le_of_lt (Int.pow_pos (by decide)))]; push_cast; rfl
theorem powmodN {a p : Nat} (hp : 0 < p) (k : Nat) : ((a : Int) ^ k).fmod p = ((a ^ k % p : Nat) : Int) := by
  rw [Int.fmod_eq_emod_of_nonneg _ (Int.natCast_nonneg _)]; push_cast; rfl
theorem primes11_pos {p : Nat} (hp : p ∈ primes11) : 3 ≤ p ∧ p ≤ 41 ∧ p % 2 = 1 := by
  have : primes11.all (fun p => decide (3 ≤ p ∧ p ≤ 41 ∧ p % 2 = 1)) = true := by decide
  simpa using List.all_eq_true.mp this p hp
/-- the root when p is not 1 modulo 8 -/
theorem rootA_exec {w mean mg mb} {d : Nat} {hp : HP} {p r : Nat} {n : Int} (hp0 : 3 ≤ p ∧ p ≤ 41 ∧ p % 2 = 1) (hr : (n % p).toNat = r) (h8 : p % 8 ≠ 1) (h80 : p % 8 = 3 ∨ p % 8 = 5 ∨ p % 8 = 7) {Q : Out → List V → HP → Prop} {X : XT}
    (hQ : ∀ x0 x9, Q .next [x0, .int p, .int 1, .int (rootV p r : Nat), .unb, .unb, .unb, .int 1, .int (p % 8 : Nat), x9, .unb, .unb, .unb, .unb, .unb, .unb] hp) :
    exec (gg w mean mg mb) d (.seq (.aug 0 .mod (.var 1)) (.seq (.ite (.or (.cmp .eq (.var 8) (.int 3)) (.cmp .eq (.var 8) (.int 7))) (.seq (.asg 3 (.pow3 (.var 0) (.bin .add (.bin .shr (.var 1) (.int 2)) (.int 1)) (.var 1))) .skip) (.seq (.asg 3 (.pow3 (.var 0) (.bin .add (.bin .shr (.var 1) (.int 3)) (.int 1)) (.var 1))) (.seq (.asg 9 (.pow3 (.var 3) (.int 2) (.var 1))) (.seq (.ite (.cmp .ne (.var 9) (.var 0)) (.seq (.asg 3 (.bin .mod (.bin .mul (.var 3) (.pow3 (.int 2) (.bin .shr (.var 1) (.int 2)) (.var 1))) (.var 1))) .skip) .skip) .skip)))) .skip))
      [.int n, .int p, .int 1, .unb, .unb, .unb, .unb, .int 1, .int (p % 8 : Nat), .unb, .unb, .unb, .unb, .unb, .unb, .unb] hp Q X := by
  have hpp : 0 < p := Nat.lt_of_lt_of_le (by decide) hp0.1
  have e0 : intOp n p .mod = (r : Int) := by
    show n.fmod p = _
    rw [← hr, Int.fmod_eq_emod_of_nonneg _ (Int.natCast_nonneg _), Int.toNat_of_nonneg (Int.emod_nonneg _ (ne0 hpp))]
  have q2 : intOp (p : Int) 2 .shr = ((p / 4 : Nat) : Int) := shrN p 2
  have q3 : intOp (p : Int) 3 .shr = ((p / 8 : Nat) : Int) := shrN p 3
  refine ⟨(ne0 hpp), ?_⟩
  show exec (gg w mean mg mb) d _ [.int (intOp n p .mod), .int p, .int 1, .unb, .unb, .unb, .unb, .int 1, .int (p % 8 : Nat), .unb, .unb, .unb, .unb, .unb, .unb, .unb] hp Q X
  rw [e0]
  have fin37 : p % 8 = 3 ∨ p % 8 = 7 → exec (gg w mean mg mb) d (.seq (.asg 3 (.pow3 (.var 0) (.bin .add (.bin .shr (.var 1) (.int 2)) (.int 1)) (.var 1))) .skip) [.int r, .int p, .int 1, .unb, .unb, .unb, .unb, .int 1, .int (p % 8 : Nat), .unb, .unb, .unb, .unb, .unb, .unb, .unb] hp Q X := by
    intro h37
    refine ⟨(show (0 : Int) ≤ 2 by decide), trivial, ?_, (pos0 hpp), ?_⟩
    · show 0 ≤ intOp (p : Int) 2 .shr + 1
      rw [q2]; exact Int.natCast_nonneg (p / 4 + 1)
    · show Q .next [.int r, .int p, .int 1, .int (((r : Int) ^ (intOp (p : Int) 2 .shr + 1).toNat).fmod p), .unb, .unb, .unb, .int 1, .int (p % 8 : Nat), .unb, .unb, .unb, .unb, .unb, .unb, .unb] hp
      rw [q2, show (((p / 4 : Nat) : Int) + 1).toNat = p / 4 + 1 from rfl, powmodN hpp, show r ^ (p / 4 + 1) % p = rootV p r by unfold rootV; rw [if_pos h37]]
      exact hQ _ _
  refine ⟨fun t1 => ⟨fun _ => ?_, (fun q => nomatch q)⟩, fun t1 => ⟨fun t2 => ?_, fun t2 => ?_⟩⟩
  · have t1 : ((p % 8 : Nat) : Int) = 3 := ceq_t.mp t1
    exact fin37 (.inl (Int.ofNat.inj t1))
  · have t2 : ((p % 8 : Nat) : Int) = 7 := ceq_t.mp t2
    exact fin37 (.inr (Int.ofNat.inj t2))
  · have t1 : ((p % 8 : Nat) : Int) ≠ 3 := ceq_f.mp t1
    have t2 : ((p % 8 : Nat) : Int) ≠ 7 := ceq_f.mp t2
    have hn37 : ¬ (p % 8 = 3 ∨ p % 8 = 7) := fun q => q.elim (fun q => t1 (congrArg Int.ofNat q)) (fun q => t2 (congrArg Int.ofNat q))
    have h5 : p % 8 = 5 := h80.elim (fun q => absurd (.inl q) hn37) fun q => q.elim id fun q => absurd (.inr q) hn37
    refine ⟨(show (0 : Int) ≤ 3 by decide), trivial, ?_, (pos0 hpp), ?_⟩
    · show 0 ≤ intOp (p : Int) 3 .shr + 1
      rw [q3]; exact Int.natCast_nonneg (p / 8 + 1)
    show exec (gg w mean mg mb) d _ [.int r, .int p, .int 1, .int (((r : Int) ^ (intOp (p : Int) 3 .shr + 1).toNat).fmod p), .unb, .unb, .unb, .int 1, .int (p % 8 : Nat), .unb, .unb, .unb, .unb, .unb, .unb, .unb] hp _ X
    rw [q3, show (((p / 8 : Nat) : Int) + 1).toNat = p / 8 + 1 from rfl, powmodN hpp]
    have hv : rootV p r = if (r ^ (p / 8 + 1) % p) ^ 2 % p = r then r ^ (p / 8 + 1) % p else (r ^ (p / 8 + 1) % p) * (2 ^ (p / 4) % p) % p := by
      unfold rootV; rw [if_neg hn37, if_pos h5]
    have hx : r ^ (p / 8 + 1) % p < p := Nat.mod_lt _ hpp
    generalize r ^ (p / 8 + 1) % p = x at *
    refine ⟨(show (0 : Int) ≤ 2 by decide), (pos0 hpp), ?_⟩
    show exec (gg w mean mg mb) d _ [.int r, .int p, .int 1, .int x, .unb, .unb, .unb, .int 1, .int (p % 8 : Nat), .int (((x : Int) ^ 2).fmod p), .unb, .unb, .unb, .unb, .unb, .unb] hp _ X
    rw [powmodN hpp]
    refine ⟨fun t => ?_, fun t => ?_⟩
    · have t : ((x ^ 2 % p : Nat) : Int) ≠ r := cne_t.mp t
      rw [if_neg (fun q => t (congrArg Int.ofNat q))] at hv
      refine ⟨(show (0 : Int) ≤ 2 by decide), ?_, (pos0 hpp), mul_small_left (by omega), (ne0 hpp), ?_⟩
      · show 0 ≤ intOp (p : Int) 2 .shr
        rw [q2]; exact Int.natCast_nonneg _
      show Q .next [.int r, .int p, .int 1, .int (((x : Int) * ((2 : Int) ^ (intOp (p : Int) 2 .shr).toNat).fmod p).fmod p), .unb, .unb, .unb, .int 1, .int (p % 8 : Nat), .int (x ^ 2 % p : Nat), .unb, .unb, .unb, .unb, .unb, .unb] hp
      rw [q2, Int.toNat_natCast, show ((2 : Int) ^ (p / 4)).fmod p = ((2 ^ (p / 4) % p : Nat) : Int) from powmodN (a := 2) hpp _, Int.fmod_eq_emod_of_nonneg _ (Int.natCast_nonneg _), ← Int.natCast_mul, ← Int.natCast_emod, ← hv]
      exact hQ _ _
    · have t : ((x ^ 2 % p : Nat) : Int) = r := cne_f.mp t
      rw [if_pos (Int.ofNat.inj t)] at hv
      rw [← hv]
      exact hQ _ _
/-- the root when p is 1 modulo 8 -/
theorem rootB_exec {w mean mg mb} {d : Nat} {hp : HP} {p r s t : Nat} {n : Int} (hp0 : 3 ≤ p ∧ p ≤ 41) (hr : (n % p).toNat = r) (hs : 2 ≤ s ∧ s < 10) (ht : t < 10) (hl2 : legV ((2 : Int) % p).toNat p = some 1) (hl3 : legV ((3 : Int) % p).toNat p = some (-1))
    (h1 : ∀ j, j < s → (p - 1) % 2 ^ (j + 1) = 0) (h2 : (p - 1) % 2 ^ (s + 1) ≠ 0) (h3 : (p - 1) / 2 ^ s = t)
    (hv : rootV p r = (r ^ ((t + 1) / 2) % p) * ((3 ^ t % p) ^ (tonF (r ^ t % p) (3 ^ t % p) p s (s - 1) / 2) % p) % p) {Q : Out → List V → HP → Prop} {X : XT} {x8 : V}
    (hQ : ∀ x6 x9 x10 x11 x12 x13 x14 x15 h', Upto [] hp h' → Q .next [.int n, .int p, .int 1, .int (rootV p r : Nat), .unb, .unb, x6, .int 1, x8, x9, x10, x11, x12, x13, x14, x15] h') :
    exec (gg w mean mg mb) (d + 1) (.seq (.asg 10 (.int 2)) (.seq (.whil (.cmp .ne (.call 28 (.cons (.var 10) (.cons (.var 1) .nil))) (.neg (.int 1))) (.seq (.aug 10 .add (.int 1)) .skip) .skip) (.seq (.unp [11, 12] (.call 51 (.cons (.bin .sub (.var 1) (.int 1)) (.cons (.int 2) .nil)))) (.seq (.asg 13 (.pow3 (.var 0) (.var 12) (.var 1))) (.seq (.asg 14 (.pow3 (.var 10) (.var 12) (.var 1))) (.seq (.asg 15 (.int 0)) (.seq (.forR 6 (.int 1) (.var 11) (.int 1) (.seq (.ite (.cmp .eq (.pow3 (.bin .mul (.var 13) (.pow3 (.var 14) (.var 15) (.var 1))) (.bin .shl (.int 1) (.bin .sub (.bin .sub (.var 11) (.int 1)) (.var 6))) (.var 1)) (.bin .sub (.var 1) (.int 1))) (.seq (.aug 15 .add (.bin .shl (.int 1) (.var 6))) .skip) .skip) .skip)) (.seq (.asg 3 (.bin .mod (.bin .mul (.pow3 (.var 0) (.bin .shr (.bin .add (.var 12) (.int 1)) (.int 1)) (.var 1)) (.pow3 (.var 14) (.bin .shr (.var 15) (.int 1)) (.var 1))) (.var 1))) .skip))))))))
      [.int n, .int p, .int 1, .unb, .unb, .unb, .unb, .int 1, x8, .unb, .unb, .unb, .unb, .unb, .unb, .unb] hp Q X := by
  have hpp : 0 < p := Nat.lt_of_lt_of_le (by decide) hp0.1
  have hp25 : p ≤ 2500 := Nat.le_trans hp0.2 (by decide)
  refine ⟨fun k l h => ∃ dd : Int, l = [.int n, .int p, .int 1, .unb, .unb, .unb, .unb, .int 1, x8, .unb, .int dd, .unb, .unb, .unb, .unb, .unb] ∧ h = hp ∧ (dd = 2 ∧ k = 1 ∨ dd = 3 ∧ k = 0), ⟨1, 2, rfl, rfl, .inl ⟨rfl, rfl⟩⟩, ?_⟩
  rintro k l h ⟨dd, rfl, rfl, hd⟩
  rcases hd with ⟨rfl, rfl⟩ | ⟨rfl, rfl⟩
  · refine call_legendre (leg_exec hpp hl2 ?_)
    exact ⟨fun _ => ⟨trivial, 0, by omega, 3, rfl, rfl, .inr ⟨rfl, rfl⟩⟩, (fun q => nomatch q)⟩
  refine call_legendre (leg_exec hpp hl3 ?_)
  refine ⟨(fun q => nomatch q), fun _ => ?_⟩
  refine ⟨trivial, ?_⟩
  have e1 : intOp (p : Int) 1 .sub = ((p - 1 : Nat) : Int) := by show (p : Int) - 1 = _; omega
  show Calls (gg w mean mg mb) (d + 1) 51 [.int (intOp (p : Int) 1 .sub), .int 2] [] h _ _
  rw [e1]
  refine call_vp2 (vp_exec (s := s) (by omega) h1 h2 fun h4 q u4 hq => ?_)
  refine ⟨_, hq, rfl, ?_⟩
  rw [h3]
  refine ⟨(Int.natCast_nonneg _), (pos0 hpp), ?_⟩
  show exec (gg w mean mg mb) (d + 1) _ [.int n, .int p, .int 1, .unb, .unb, .unb, .unb, .int 1, x8, .unb, .int 3, .int s, .int t, .int ((n ^ (t : Int).toNat).fmod p), .unb, .unb] h4 _ X
  rw [Int.toNat_natCast, powmod hpp, hr]
  have hA : r ^ t % p < p := Nat.mod_lt _ hpp
  refine ⟨(Int.natCast_nonneg _), (pos0 hpp), ?_⟩
  show exec (gg w mean mg mb) (d + 1) _ [.int n, .int p, .int 1, .unb, .unb, .unb, .unb, .int 1, x8, .unb, .int 3, .int s, .int t, .int (r ^ t % p : Nat), .int (((3 : Int) ^ (t : Int).toNat).fmod p), .unb] h4 _ X
  rw [Int.toNat_natCast, show ((3 : Int) ^ t).fmod p = ((3 ^ t % p : Nat) : Int) from powmodN (a := 3) hpp _]
  have hD : 3 ^ t % p < p := Nat.mod_lt _ hpp
  generalize r ^ t % p = A at *
  generalize 3 ^ t % p = D at *
  refine ⟨(show (1 : Int) ≠ 0 by decide), small_one (by decide) (by decide) (by omega) (by omega), ?_⟩
  refine forUp (l := [.int n, .int p, .int 1, .unb, .unb, .unb, .unb, .int 1, x8, .unb, .int 3, .int s, .int t, .int A, .int D, .int 0]) (s - 1) (by omega) (fun k l h => ∃ x6, l = [.int n, .int p, .int 1, .unb, .unb, .unb, x6, .int 1, x8, .unb, .int 3, .int s, .int t, .int A, .int D, .int (tonF A D p s k : Nat)] ∧ h = h4) ⟨_, rfl, rfl⟩ ?_ ?_
  · rintro k l h hk ⟨x6, rfl, rfl⟩
    have ek : (s : Int) - 1 - (1 + k) = ((s - 1 - (k + 1) : Nat) : Int) := by omega
    have hm : (2 : Nat) ^ (k + 1) = 2 ^ (1 + k) := by rw [Nat.add_comm]
    simp only [tonF]
    generalize tonF A D p s k = m at *
    have hDm : D ^ m % p < p := Nat.mod_lt _ hpp
    refine ⟨(Int.natCast_nonneg _), (pos0 hpp), ?_⟩
    show binV .mul (.int A) (.int (((D : Int) ^ (m : Int).toNat).fmod p)) h _
    rw [Int.toNat_natCast, powmodN hpp]
    refine ⟨mul_small_left (smallN hA hp25), trivial, trivial, ⟨?_, ?_⟩, ?_⟩
    · show 0 ≤ (s : Int) - 1 - (1 + k)
      omega
    · show (Builtin.Int.intBits 1 : Int) + ((s : Int) - 1 - (1 + k)) ≤ 2 ^ 27
      exact bits1 (by omega)
    have e5 : intOp 1 ((s : Int) - 1 - (1 + k)) .shl = ((2 ^ (s - 1 - (k + 1)) : Nat) : Int) := by
      rw [ek]
      show (1 : Int) * 2 ^ ((s - 1 - (k + 1) : Nat) : Int).toNat = _
      rw [Int.toNat_natCast, Int.one_mul]; push_cast; rfl
    refine ⟨?_, (pos0 hpp), trivial, ?_⟩
    · show 0 ≤ intOp 1 ((s : Int) - 1 - (1 + k)) .shl
      rw [e5]; exact Int.natCast_nonneg _
    show cmpV .eq (.int (((A : Int) * ((D ^ m % p : Nat) : Int)) ^ (intOp 1 ((s : Int) - 1 - (1 + k)) .shl).toNat |>.fmod p)) (.int ((p : Int) - 1)) h _
    rw [e5, Int.toNat_natCast, ← Int.natCast_mul, powmodN hpp]
    refine ⟨fun tt => ?_, fun tt => ?_⟩
    · have tt := ceq_t.mp tt
      rw [if_pos ((sub1 hpp).mp tt)]
      refine ⟨⟨(show 0 ≤ (1 : Int) + k by omega), ?_⟩, trivial, ?_⟩
      · show (Builtin.Int.intBits 1 : Int) + (1 + k) ≤ 2 ^ 27
        exact bits1 (by omega)
      · refine ⟨.int (1 + k), ?_, rfl⟩
        show [V.int n, .int p, .int 1, .unb, .unb, .unb, .int (1 + k), .int 1, x8, .unb, .int 3, .int s, .int _, .int A, .int D, .int ((m : Int) + 1 * 2 ^ ((1 : Int) + k).toNat)] = _
        rw [show ((1 : Int) + k).toNat = k + 1 by omega, Int.one_mul]; push_cast; rfl
    · have tt := ceq_f.mp tt
      rw [if_neg (fun q => tt ((sub1 hpp).mpr q))]
      exact ⟨.int (1 + k), rfl, rfl⟩
  · rintro l h ⟨x6, rfl, rfl⟩
    generalize tonF A D p s (s - 1) = m at *
    have e2 : intOp (intOp (t : Int) 1 .add) 1 .shr = (((t + 1) / 2 : Nat) : Int) := by
      rw [show intOp (t : Int) 1 .add = ((t + 1 : Nat) : Int) by show (t : Int) + 1 = _; push_cast; rfl]
      exact shrN (t + 1) 1
    have e3 : intOp (m : Int) 1 .shr = ((m / 2 : Nat) : Int) := shrN m 1
    refine ⟨trivial, (show (0 : Int) ≤ 1 by decide), ?_, (pos0 hpp), ?_⟩
    · show 0 ≤ intOp (intOp (t : Int) 1 .add) 1 .shr
      rw [e2]; exact Int.natCast_nonneg _
    refine ⟨(show (0 : Int) ≤ 1 by decide), ?_, (pos0 hpp), ?_⟩
    · show 0 ≤ intOp (m : Int) 1 .shr
      rw [e3]; exact Int.natCast_nonneg _
    show binV .mul (.int ((n ^ (intOp (intOp (t : Int) 1 .add) 1 .shr).toNat).fmod p)) (.int (((D : Int) ^ (intOp (m : Int) 1 .shr).toNat).fmod p)) h _
    rw [e2, e3, Int.toNat_natCast, Int.toNat_natCast, powmod hpp, hr, powmodN hpp]
    have hb : r ^ ((t + 1) / 2) % p < p := Nat.mod_lt _ hpp
    refine ⟨mul_small_left (smallN hb hp25), (ne0 hpp), ?_⟩
    show Q .next [.int n, .int p, .int 1, .int ((((r ^ ((t + 1) / 2) % p : Nat) : Int) * ((D ^ (m / 2) % p : Nat) : Int)).fmod p), .unb, .unb, x6, .int 1, x8, .unb, .int 3, .int s, .int t, .int A, .int D, .int m] h
    rw [Int.fmod_eq_emod_of_nonneg _ (Int.natCast_nonneg _), ← Int.natCast_mul, ← Int.natCast_emod, ← hv]
    exact hQ _ _ _ _ _ _ _ _ _ u4
/-- what the root of n modulo p is -/
noncomputable def Root1 (p r x : Nat) : Prop := (r = 0 ∧ x = 0) ∨ (r ≠ 0 ∧ 0 < x ∧ x < p ∧ x * x % p = r)
theorem mod1_exec {w mean mg mb} {d : Nat} {hp : HP} {p r : Nat} {n : Int} (hp1 : p ∈ primes11) (hr : (n % p).toNat = r) {Q : V → HP → Prop} {X : XT}
    (hQ : ∀ h' (x : Nat), Upto [] hp h' → Root1 p r x → Q (.int x) h')
    (hX : r ≠ 0 → (∀ y, y < p → y * y % p ≠ r) → X (.own "ValueError") hp) :
    exec (gg w mean mg mb) (d + 1) m_modsqrt [.int n, .int p, .int 1, .unb, .unb, .unb, .unb, .unb, .unb, .unb, .unb, .unb, .unb, .unb, .unb, .unb] hp (retQ Q) X := by
  have hp0 := primes11_pos hp1
  have hpp : 0 < p := Nat.lt_of_lt_of_le (by decide) hp0.1
  have hrp : r < p := rlt hpp hr
  refine ⟨(fun t => nomatch t), fun _ => ?_⟩
  have hrow := row_ok hp1 hrp
  unfold rowOk at hrow
  split at hrow
  · cases hrow
  rename_i v hv
  refine call_legendre (leg_exec hpp (by rw [hr]; exact hv) ?_)
  by_cases h0 : r = 0
  · rw [if_pos h0] at hrow
    have hv0 : v = 0 := of_decide_eq_true hrow
    subst hv0
    exact ⟨(fun t => nomatch t), fun _ => ⟨fun _ => hQ _ 0 .refl (.inl ⟨h0, rfl⟩), (fun t => nomatch t)⟩⟩
  rw [if_neg h0] at hrow
  split at hrow
  · rename_i hv1
    subst hv1
    have hx := of_decide_eq_true hrow
    have fin : ∀ h', Upto [] hp h' → Q (.int (rootV p r : Nat)) h' := fun h' u => hQ h' _ u (.inr ⟨h0, hx⟩)
    refine ⟨fun _ => ⟨trivial, ?_⟩, (fun t => nomatch t)⟩
    show exec (gg w mean mg mb) (d + 1) _ [.int n, .int p, .int 1, .unb, .unb, .unb, .unb, .int 1, .int (Builtin.bitAnd (p : Int) 7), .unb, .unb, .unb, .unb, .unb, .unb, .unb] hp _ X
    rw [show Builtin.bitAnd (p : Int) 7 = ((p % 8 : Nat) : Int) by rw [bitAnd_m3]; rfl]
    refine ⟨fun t => ?_, fun t => ?_⟩
    · have t : ((p % 8 : Nat) : Int) ≠ 1 := cne_t.mp t
      exact rootA_exec hp0 hr (fun q => t (congrArg Int.ofNat q)) (odd8 hp0.2.2 fun q => t (congrArg Int.ofNat q)) fun _ _ => fin _ .refl
    · have t : ((p % 8 : Nat) : Int) = 1 := cne_f.mp t
      have ht : p % 8 = 1 := Int.ofNat.inj t
      have : primes11.all (fun p => decide (p % 8 = 1 → p = 17 ∨ p = 41)) = true := by decide
      have h2 := of_decide_eq_true (List.all_eq_true.mp this p hp1) ht
      rcases h2 with rfl | rfl
      · exact rootB_exec (s := 4) (t := 1) (by decide) hr (by decide) (by decide) (by decide +kernel) (by decide +kernel) (by decide) (by decide) (by decide) rfl fun _ _ _ _ _ _ _ _ h' u => fin h' u
      · exact rootB_exec (s := 3) (t := 5) (by decide) hr (by decide) (by decide) (by decide +kernel) (by decide +kernel) (by decide) (by decide) (by decide) rfl fun _ _ _ _ _ _ _ _ h' u => fin h' u
  · simp only [Bool.and_eq_true, decide_eq_true_eq] at hrow
    obtain ⟨hv1, hall⟩ := hrow
    subst hv1
    refine ⟨(fun t => nomatch t), fun _ => ⟨(fun t => nomatch t), fun _ => hX h0 fun y hy => ?_⟩⟩
    have := List.all_eq_true.mp hall y (List.mem_range.mpr hy)
    simpa using this
/-- what modsqrt gives: a root, or a refusal -/
structure RootE (p e : Nat) (n : Int) (x : Nat) : Prop where
  pos : 0 < x
  lt : x < p ^ e
  dvd : ((p ^ e : Nat) : Int) ∣ n - (x : Int) * x
theorem root1_dvd {p r x : Nat} {n : Int} (hpp : 0 < p) (hr : (n % p).toNat = r) (h : x * x % p = r) : (p : Int) ∣ n - (x : Int) * x := by
  have h1 : n % (p : Int) = r := by have := Int.emod_nonneg n (b := (p : Int)) (by omega); omega
  have h2 : ((x : Int) * x) % (p : Int) = r := by rw [← h]; push_cast; rfl
  exact Int.dvd_of_emod_eq_zero (Int.emod_eq_emod_iff_emod_sub_eq_zero.mp (h1.trans h2.symm))
theorem mod_exec {w mean mg mb} {d : Nat} {hp : HP} {p e : Nat} {n : Int} (hp1 : p ∈ primes11) (he : 1 ≤ e) (hs : p ^ e ≤ 2500) {Q : V → HP → Prop} {X : XT}
    (h0 : (p : Int) ∣ n → e = 1 → ∀ h', Upto [] hp h' → Q (.int 0) h') (hQ : ∀ h' (x : Nat), ¬ (p : Int) ∣ n → Upto [] hp h' → RootE p e n x → Q (.int x) h')
    (hX : ∀ c h', (e = 1 ∧ ¬ (p : Int) ∣ n ∧ (∀ y : Nat, ¬ (p : Int) ∣ n - (y : Int) * y) ∨ e ≠ 1 ∧ ((p : Int) ∣ n ∨ ∀ y : Nat, ¬ (p : Int) ∣ n - (y : Int) * y)) → c.cls = "ValueError" → Upto [] hp h' → X c h') :
    exec (gg w mean mg mb) (d + 3) m_modsqrt [.int n, .int p, .int e, .unb, .unb, .unb, .unb, .unb, .unb, .unb, .unb, .unb, .unb, .unb, .unb, .unb] hp (retQ Q) X := by
  have hp0 := primes11_pos hp1
  have hpp : 0 < p := Nat.lt_of_lt_of_le (by decide) hp0.1
  have hmod : n % (p : Int) = ((n % (p : Int)).toNat : Int) := by have := Int.emod_nonneg n (b := (p : Int)) (by omega); omega
  have hdvd : (p : Int) ∣ n ↔ (n % (p : Int)).toNat = 0 := by
    constructor
    · intro h; have := Int.emod_eq_zero_of_dvd h; omega
    · intro h; exact Int.dvd_of_emod_eq_zero (by omega)
  have hnon : ∀ r, (n % (p : Int)).toNat = r → (∀ y, y < p → y * y % p ≠ r) → ∀ y : Nat, ¬ (p : Int) ∣ n - (y : Int) * y := by
    intro r hr hy y q
    apply hy (y % p) (Nat.mod_lt _ hpp)
    have h1 := Int.emod_eq_emod_iff_emod_sub_eq_zero.mpr (Int.emod_eq_zero_of_dvd q)
    have h2 : ((y : Int) * y) % (p : Int) = ((y * y % p : Nat) : Int) := by push_cast; rfl
    have h3 : y * y % p = r := by omega
    rw [← h3, ← Nat.mul_mod]
  by_cases he1 : e = 1
  · subst he1
    refine mod1_exec hp1 rfl (fun h' x u hx => ?_) fun hr hy => ?_
    · rcases hx with ⟨hr, rfl⟩ | ⟨hr, hx0, hxp, hxx⟩
      · exact h0 (hdvd.mpr hr) rfl _ u
      · exact hQ _ _ (fun q => hr (hdvd.mp q)) u ⟨hx0, by rw [Nat.pow_one]; exact hxp, by rw [Nat.pow_one]; exact root1_dvd hpp rfl hxx⟩
    · exact hX _ _ (.inl ⟨rfl, fun q => hr (hdvd.mp q), hnon _ rfl hy⟩) rfl .refl
  have he2 : 2 ≤ e := by omega
  refine ⟨fun _ => ?_, fun t => absurd (clt_f.mp t) (by omega)⟩
  refine call_modsqrt2 (mod1_exec hp1 rfl (fun h1 x u1 hx => ?_) fun hr hy => ?_)
  rotate_left
  · exact hX _ _ (.inr ⟨he1, .inr (hnon _ rfl hy)⟩) rfl .refl
  rcases hx with ⟨hr, rfl⟩ | ⟨hr, hx0, hxp, hxx⟩
  · exact ⟨fun _ => hX _ _ (.inr ⟨he1, .inl (hdvd.mpr hr)⟩) rfl u1, (fun t => nomatch t)⟩
  have hnd : ¬ (p : Int) ∣ n := fun q => hr (hdvd.mp q)
  refine ⟨fun t => absurd (ceq_t.mp t) (by omega), fun _ => ?_⟩
  obtain ⟨z, hz, hzd, hzb⟩ := inv_ok hp1 hxp (by omega)
  have e2 : intOp (x : Int) 1 .shl = ((x * 2 : Nat) : Int) := by show (x : Int) * 2 ^ (1 : Int).toNat = _; push_cast; rfl
  refine ⟨⟨(show (0 : Int) ≤ 1 by decide), ?_⟩, ?_⟩
  · have hb : Bd 6 (x : Int) := by unfold Bd; omega
    have := hb.bits
    show (Builtin.Int.intBits (x : Int) : Int) + 1 ≤ 2 ^ 27
    omega
  show Calls (gg w mean mg mb) (d + 3) 43 [.int (intOp (x : Int) 1 .shl), .int p] [] h1 _ _
  rw [e2]
  refine call_inverse (inv_exec hpp (by rw [← Int.natCast_emod, Int.toNat_natCast]; exact hz) fun h2 u2 => ?_)
  have u := u1.trans u2
  refine ⟨trivial, (show (1 : Int) ≠ 0 by decide), small_one (by decide) (by decide) ?_ ?_, ?_⟩
  · have := (Nat.lt_pow_self (n := e) (show 1 < p by omega)); show -2 ^ 62 ≤ (e : Int) - 1; omega
  · have := (Nat.lt_pow_self (n := e) (show 1 < p by omega)); show (e : Int) - 1 < 2 ^ 62; omega
  refine forUp (l := [.int n, .int p, .int e, .int x, .int p, .int z, .unb, .unb, .unb, .unb, .unb, .unb, .unb, .unb, .unb, .unb]) (e - 1) (by show e - 1 = ((e : Int) - 1 - 0).toNat; omega)
    (fun k l h => ∃ (y : Nat) (x6 : V), l = [.int n, .int p, .int e, .int y, .int (p ^ (k + 1) : Nat), .int z, x6, .unb, .unb, .unb, .unb, .unb, .unb, .unb, .unb, .unb] ∧ h = h2 ∧ y % p = x ∧ RootE p (k + 1) n y)
    ⟨x, .unb, by rw [Nat.pow_one], rfl, Nat.mod_eq_of_lt hxp, ⟨hx0, by rw [Nat.pow_one]; exact hxp, by rw [Nat.pow_one]; exact root1_dvd hpp rfl hxx⟩⟩ ?_ ?_
  · rintro k l h hk ⟨y, x6, rfl, rfl, hyx, hy⟩
    have hq : p ^ (k + 1) * p ≤ 2500 := by
      rw [← Nat.pow_succ]
      exact Nat.le_trans (Nat.pow_le_pow_right hpp (by omega)) hs
    have hq0 : 0 < p ^ (k + 1) := Nat.pow_pos hpp
    obtain ⟨y0, ylt, yd⟩ := hy
    have hqp : p ∣ p ^ (k + 1) := ⟨p ^ k, by rw [Nat.pow_succ, Nat.mul_comm]⟩
    have eq1 : p ^ (k + 1 + 1) = p ^ (k + 1) * p := Nat.pow_succ ..
    rw [eq1]
    have hq1 : p ^ (k + 1) ≤ 2500 := Nat.le_trans (Nat.le_mul_of_pos_right _ hpp) hq
    generalize p ^ (k + 1) = q at *
    have hz2 : (p : Int) ∣ 2 * (y : Int) * z - 1 := by
      have e3 : (y : Int) = p * ((y / p : Nat) : Int) + x := by
        have := Nat.div_add_mod y p
        rw [hyx] at this
        rw [← Int.natCast_mul, ← Int.natCast_add, this]
      rw [e3, show 2 * ((p : Int) * ((y / p : Nat) : Int) + x) * z - 1 = p * (2 * ((y / p : Nat) : Int) * z) + (2 * x * z - 1) by
        rw [Int.mul_add, Int.add_mul, show 2 * ((p : Int) * ((y / p : Nat) : Int)) * z = p * (2 * ((y / p : Nat) : Int) * z) by ac_rfl]; omega]
      exact Int.dvd_add ⟨_, rfl⟩ hzd
    have hl := lift (Int.natCast_dvd_natCast.mpr hqp) yd hz2
    have ey : intOp (y : Int) 2 .pow = (y : Int) * y := by
      show (y : Int) ^ 2 = _
      rw [show (2 : Nat) = 1 + 1 from rfl, Int.pow_succ, show (1 : Nat) = 0 + 1 from rfl, Int.pow_succ, Int.pow_zero, Int.one_mul]
    refine ⟨⟨(show (0 : Int) ≤ 2 by decide), ?_⟩, trivial, ?_⟩
    · have hb : Bd 12 (y : Int) := by unfold Bd; omega
      have := hb.bits
      show (Builtin.Int.intBits (y : Int) : Int) * 2 ≤ 2 ^ 27
      omega
    have t0 := Int.emod_nonneg ((n - (y : Int) * y) / q * z) (b := (p : Int)) (ne0 hpp)
    have t1 := Int.emod_lt_of_pos ((n - (y : Int) * y) / q * z) (b := (p : Int)) (pos0 hpp)
    obtain ⟨t, ht⟩ := Int.eq_ofNat_of_zero_le t0
    rw [ht] at hl t1
    have et : ((n - intOp (y : Int) 2 .pow).fdiv q * z).fmod p = (t : Int) := by
      rw [ey, Int.fdiv_eq_ediv_of_nonneg _ (Int.natCast_nonneg _), Int.fmod_eq_emod_of_nonneg _ (Int.natCast_nonneg _), ht]
    refine ⟨ne0 hq0, mul_small_right (Nat.lt_trans hzb (by decide)), (ne0 hpp), mul_small_right (smallL hq1), trivial, mul_small_right (smallL (Nat.le_trans hp0.2.1 (by decide))), y + t * q, .int (0 + k), ?_, rfl, ?_, ?_, ?_, ?_⟩
    · show [V.int n, .int p, .int e, .int ((y : Int) + ((n - intOp (y : Int) 2 .pow).fdiv q * z).fmod p * q), .int ((q : Int) * p), .int z, .int (0 + k), .unb, .unb, .unb, .unb, .unb, .unb, .unb, .unb, .unb] = _
      rw [et]; push_cast; rfl
    · obtain ⟨v, rfl⟩ := hqp
      rw [show y + t * (p * v) = y + p * (t * v) by rw [Nat.mul_left_comm], Nat.add_mul_mod_self_left]; exact hyx
    · omega
    · rw [eq1]
      have : (t + 1) * q ≤ p * q := Nat.mul_le_mul_right _ (by omega)
      rw [Nat.add_mul, Nat.mul_comm p q] at this
      omega
    · rw [eq1]
      push_cast at hl ⊢
      exact hl
  · rintro l h ⟨y, x6, rfl, rfl, hyx, hy⟩
    rw [show e - 1 + 1 = e by omega] at hy
    exact hQ _ y hnd u hy
noncomputable def isT (x : Nat) : List V := [.str (Str.ofString "is"), .int x]
noncomputable def refT : List V := [.str (Str.ofString "refused")]
/-- why modsqrt refuses -/
noncomputable def Refuses (p e : Nat) (n : Int) : Prop := (e = 1 ∧ ¬ (p : Int) ∣ n ∧ (∀ y : Nat, ¬ (p : Int) ∣ n - (y : Int) * y) ∨ e ≠ 1 ∧ ((p : Int) ∣ n ∨ ∀ y : Nat, ¬ (p : Int) ∣ n - (y : Int) * y))
theorem heard_exec {w mean mg mb} {d : Nat} {hp : HP} {p e : Nat} {n : Int} (hp1 : p ∈ primes11) (he : 1 ≤ e) (hs : p ^ e ≤ 2500) {Q : V → HP → Prop} {X : XT}
    (h0 : (p : Int) ∣ n → e = 1 → ∀ h' r, Upto [] hp h' → h' r = some (.tup (isT 0)) → Q (.ref r) h')
    (hQ : ∀ h' r (x : Nat), ¬ (p : Int) ∣ n → RootE p e n x → Upto [] hp h' → h' r = some (.tup (isT x)) → Q (.ref r) h')
    (hX : Refuses p e n → ∀ h' r, Upto [] hp h' → h' r = some (.tup refT) → Q (.ref r) h') :
    exec (gg w mean mg mb) (d + 4) m_l_heard [.int n, .int p, .int e] hp (retQ Q) X := by
  refine call_modsqrt3 (mod_exec hp1 he hs (fun hd h1e h' u => ⟨by simp [sizeLine_eq], fun r nr => h0 hd h1e _ r (u.trans (.new nr)) hset_same⟩) (fun h' x hn u hx => ⟨by simp [sizeLine_eq], fun r nr => hQ _ r x hn hx (u.trans (.new nr)) hset_same⟩) (fun c h' hc hcc u => ?_))
  exact ⟨hcc, fun r nr => hX hc _ r (u.trans (.new nr)) hset_same⟩
theorem eqT {hp : HP} {a b : Addr} {vs ws : List V} {ds es : List PyData} {Q : Bool → Prop} (ha : hp a = some (.tup vs)) (hb : hp b = some (.tup ws)) (h1 : RdL hp vs ds) (h2 : RdL hp ws es) (s1 : SeqAt.shaped (.tuple ds) = true) (s2 : SeqAt.shaped (.tuple es) = true) (h : Q (PyData.eqv (.tuple ds) (.tuple es))) : cmpV .eq (.ref a) (.ref b) hp Q :=
  ⟨_, _, .tup ha h1, .tup hb h2, s1, s2, h⟩
theorem refT_eq {hp : HP} {a b : Addr} {Q : Bool → Prop} (ha : hp a = some (.tup refT)) (hb : hp b = some (.tup refT)) (h : Q true) : cmpV .eq (.ref a) (.ref b) hp Q :=
  eqT ha hb (.cons (.str _) .nil) (.cons (.str _) .nil) (by decide +kernel) (by decide +kernel) h
theorem isT_eq {hp : HP} {a b : Addr} {Q : Bool → Prop} (ha : hp a = some (.tup (isT 0))) (hb : hp b = some (.tup (isT 0))) (h : Q true) : cmpV .eq (.ref a) (.ref b) hp Q :=
  eqT ha hb (.cons (.str _) (.cons (.int _) .nil)) (.cons (.str _) (.cons (.int _) .nil)) (by decide +kernel) (by decide +kernel) h
theorem right_exec {w mean mg mb} {d : Nat} {hp : HP} {p e : Nat} {n : Int} {R : Addr} (hp1 : p ∈ primes11) (he : 1 ≤ e) (hs : p ^ e ≤ 2500) (hR : hp R = some (.list (((rootsL (p ^ e) n).map fun (y : Nat) => (y : Int)).map .int))) {Q : V → HP → Prop} {X : XT} (hQ : ∀ h', Upto [] hp h' → Q (.bool true) h') :
    exec (gg w mean mg mb) (d + 5) m_l_right [.int n, .int p, .int e, .ref R, .unb, .unb] hp (retQ Q) X := by
  have hp0 := primes11_pos hp1
  have hpp : 0 < p := Nat.lt_of_lt_of_le (by decide) hp0.1
  have he12 : e < 12 := by
    rcases Nat.lt_or_ge e 12 with q | q
    · exact q
    · have h1 : 2 ^ 12 ≤ p ^ e := Nat.le_trans (Nat.pow_le_pow_left (by omega) 12) (Nat.pow_le_pow_right hpp q)
      omega
  have next : ∀ (a : Addr) (h : HP), Upto [] hp h → ((p : Int) ∣ n ∧ e = 1 ∧ h a = some (.tup (isT 0)) ∨ (∃ x, ¬ (p : Int) ∣ n ∧ RootE p e n x ∧ h a = some (.tup (isT x))) ∨ Refuses p e n ∧ h a = some (.tup refT)) →
      exec (gg w mean mg mb) (d + 5) (dropS 1 m_l_right) [.int n, .int p, .int e, .ref R, .ref a, .int (p ^ e : Nat)] h (retQ Q) X := by
    intro a h u hc
    have hR := u.at hR
    refine ⟨(ne0 hpp), fun t => ?_, fun t => ?_⟩
    · have t : n.fmod p = 0 := ceq_t.mp t
      have hd : (p : Int) ∣ n := Int.dvd_of_fmod_eq_zero t
      refine ⟨fun t => ?_, fun t => ?_⟩
      · have he1 : e = 1 := Int.ofNat.inj (ceq_t.mp t)
        refine ⟨by simp [sizeLine_eq], fun b nb => ?_⟩
        have u2 : Upto [] h (hset h b (.tup (isT 0))) := .new nb
        rcases hc with ⟨-, -, ha⟩ | ⟨x, hn, -⟩ | ⟨hr, -⟩
        · exact isT_eq (u2.at ha) hset_same (hQ _ (u.trans u2))
        · exact absurd hd hn
        · rcases hr with ⟨-, hn, -⟩ | ⟨hn, -⟩
          · exact absurd hd hn
          · exact absurd he1 hn
      · have he1 : e ≠ 1 := fun q => (ceq_f.mp t) (congrArg Int.ofNat q)
        refine ⟨by simp [sizeLine_eq], fun b nb => ?_⟩
        have u2 : Upto [] h (hset h b (.tup refT)) := .new nb
        rcases hc with ⟨-, he1', -⟩ | ⟨x, hn, -⟩ | ⟨hr, ha⟩
        · exact absurd he1' he1
        · exact absurd hd hn
        · exact refT_eq (u2.at ha) hset_same (hQ _ (u.trans u2))
    have t : n.fmod p ≠ 0 := ceq_f.mp t
    have hnd : ¬ (p : Int) ∣ n := fun q => t (Int.fmod_eq_zero_of_dvd q)
    have hpe : (p : Int) ∣ ((p ^ e : Nat) : Int) := by
      refine Int.natCast_dvd_natCast.mpr ?_
      have := Nat.pow_dvd_pow p he
      rwa [Nat.pow_one] at this
    refine ⟨by simp [sizeLine_eq], fun b nb => ?_⟩
    have u2 : Upto [] h (hset h b (.list [])) := .new nb
    refine cmpL (.inl rfl) (u2.at hR) (ms := []) hset_same ⟨fun t => ?_, fun t => ?_⟩
    · have hns : rootsL (p ^ e) n = [] := by simpa using t
      refine ⟨by simp [sizeLine_eq], fun c nc => ?_⟩
      have u3 : Upto [] (hset h b (.list [])) (hset (hset h b (.list [])) c (.tup refT)) := .new nc
      rcases hc with ⟨hd, -⟩ | ⟨x, -, hx, -⟩ | ⟨-, ha⟩
      · exact absurd hd hnd
      · have : x ∈ rootsL (p ^ e) n := mem_roots.mpr ⟨hx.lt, by
          have := Int.dvd_neg.mpr hx.dvd
          rwa [Int.neg_sub] at this⟩
        rw [hns] at this; cases this
      · exact refT_eq (u3.at (u2.at ha)) hset_same (hQ _ ((u.trans u2).trans u3))
    · have hns : rootsL (p ^ e) n ≠ [] := by simpa using t
      rcases hc with ⟨hd, -⟩ | ⟨x, -, hx, ha⟩ | ⟨hr, -⟩
      · exact absurd hd hnd
      rotate_left
      · exfalso
        obtain ⟨y, hy⟩ := List.exists_mem_of_ne_nil _ hns
        have hy := Int.dvd_trans hpe (mem_roots.mp hy).2
        have hy := Int.dvd_neg.mpr hy
        rw [Int.neg_sub] at hy
        rcases hr with ⟨-, -, hr⟩ | ⟨-, hr | hr⟩
        · exact hr y hy
        · exact hnd hr
        · exact hr y hy
      have ha := u2.at ha
      have hR := u2.at hR
      have u := u.trans u2
      generalize hset h b (.list []) = h2 at *
      have e1 : PyData.eqv (.str (Str.ofString "is")) (.str (Str.ofString "is")) = true := by decide +kernel
      have at1 : ∀ {Q : V → Prop}, Q (.int x) → idxV (.ref a) (.int 1) h2 Q := fun hq => idxE rfl rfl (vs := isT x) (by rw [ha]; rfl) (by simp [isT]) (by decide) rfl hq
      refine idxE (k := 0) rfl rfl (vs := isT x) (by rw [ha]; rfl) (by simp [isT]) (by decide) rfl ?_
      refine ⟨_, _, .str _, .str _, by decide +kernel, by decide +kernel, fun t => ?_, fun _ => ?_⟩
      · rw [e1] at t; cases t
      refine at1 ⟨(fun t => nomatch t), fun _ => ?_⟩
      refine at1 ⟨(fun t => nomatch t), fun _ => ?_⟩
      refine at1 ⟨fun _ => ?_, fun t => absurd (clt_f.mp t) (Int.not_le.mpr (pos0 hx.pos))⟩
      refine ⟨fun _ => ?_, fun t => absurd t (by rw [clt_t.mpr (Int.ofNat_lt.mpr hx.lt)]; decide)⟩
      refine at1 (at1 ⟨trivial, by simp [sizeLine_eq], fun c nc => ?_⟩)
      have u3 : Upto [] h2 (hset h2 c (.list [.int x, .int (intOp (p ^ e : Nat) x .sub)])) := .new nc
      refine ⟨[(x : Int), (p ^ e : Nat) - x], by rw [hset_same]; rfl, by simp, fun ms hms hsort k nk => ?_⟩
      have hm2 : p ^ e % 2 = 1 := by rw [Nat.pow_mod, hp0.2.2, Nat.one_pow]
      have hlt := hx.lt
      have key := roots_eq (m := p ^ e) (n := n) hx.pos hx.lt (by omega) (fun y => ?_) hms hsort
      · have u4 : Upto [] (hset h2 c (.list [.int x, .int (intOp (p ^ e : Nat) x .sub)])) (hset (hset h2 c (.list [.int x, .int (intOp (p ^ e : Nat) x .sub)])) k (.list (ms.map .int))) := .new nk
        exact cmpL_eq (u4.at (u3.at hR)) hset_same key.symm (hQ _ ((u.trans u3).trans u4))
      · rw [mem_roots]
        constructor
        · rintro ⟨hy1, hy2⟩
          exact two_roots hp1 (fun q => by have := Nat.le_of_dvd (by decide) q; omega) he hx.lt hy1 hnd hx.dvd hy2
        · have hxd : ((p ^ e : Nat) : Int) ∣ (x : Int) * x - n := by
            have := Int.dvd_neg.mpr hx.dvd
            rwa [Int.neg_sub] at this
          rintro (rfl | rfl)
          · exact ⟨hlt, hxd⟩
          · have hx0 := hx.pos
            refine ⟨by omega, ?_⟩
            rw [Int.ofNat_sub (by omega)]
            have := Int.dvd_add hxd (Int.dvd_mul_right ((p ^ e : Nat) : Int) ((p ^ e : Nat) - 2 * x))
            rwa [show (x : Int) * x - n + ((p ^ e : Nat) : Int) * (((p ^ e : Nat) : Int) - 2 * x) = (((p ^ e : Nat) : Int) - x) * (((p ^ e : Nat) : Int) - x) - n by
              generalize ((p ^ e : Nat) : Int) = m
              simp only [Int.mul_sub, Int.sub_mul]
              rw [show m * (2 * (x : Int)) = x * m + m * x by rw [show (2 : Int) * x = x + x by omega, Int.mul_add, Int.mul_comm (x : Int) m]]
              omega] at this
  have ep : intOp (p : Int) (e : Int) .pow = ((p ^ e : Nat) : Int) := by
    show (p : Int) ^ (e : Int).toNat = _
    rw [Int.toNat_natCast]; push_cast; rfl
  have hbits : (Builtin.Int.intBits (p : Int) : Int) * e ≤ 2 ^ 27 := by
    have hb : Bd 6 (p : Int) := by unfold Bd; omega
    have h1 : Builtin.Int.intBits (p : Int) * e ≤ 6 * 12 := Nat.mul_le_mul hb.bits (Nat.le_of_lt he12)
    have h2 : ((Builtin.Int.intBits (p : Int) * e : Nat) : Int) ≤ 72 := Int.ofNat_le.mpr h1
    push_cast at h2
    exact Int.le_trans h2 (by decide)
  rw [← ep] at next
  refine call_l_heard (heard_exec hp1 he hs (fun hd h1e h' a u ha => ?_) (fun h' a x hn hx u ha => ?_) (fun hr h' a u ha => ?_))
  · exact ⟨⟨Int.natCast_nonneg _, hbits⟩, next a h' u (.inl ⟨hd, h1e, ha⟩)⟩
  · exact ⟨⟨Int.natCast_nonneg _, hbits⟩, next a h' u (.inr (.inl ⟨x, hn, hx, ha⟩))⟩
  · exact ⟨⟨Int.natCast_nonneg _, hbits⟩, next a h' u (.inr (.inr ⟨hr, ha⟩))⟩
noncomputable def divsF (N k : Nat) : List Int := ((List.range k).filter fun j => decide (N % (j + 2) = 0)).map fun (j : Nat) => 2 + (j : Int)
noncomputable def isPB (N : Nat) : Bool := decide (divsF N (N - 2) = [])
noncomputable def firstP (b : Nat) : List Nat := (List.range 14).filter fun k => isPB (b + k)
noncomputable def firstOk (b : Nat) : Bool := match firstP b with
  | k :: _ => decide (b + k ∈ primes11)
  | [] => false
theorem first_ok : ((List.range 20).all fun t => firstOk (3 + 2 * t)) = true := by decide +kernel
theorem filt_step {f : Nat → Bool} {k : Nat} {g : Nat → V} (h : f k = true) : ((List.range (k + 1)).filter f).map g = ((List.range k).filter f).map g ++ [g k] := by
  rw [List.range_succ, List.filter_append, List.map_append]; simp [h]
theorem filt_skip {f : Nat → Bool} {k : Nat} {g : Nat → V} (h : f k = false) : ((List.range (k + 1)).filter f).map g = ((List.range k).filter f).map g := by
  rw [List.range_succ, List.filter_append, List.map_append]; simp [h]
theorem filt_len {f : Nat → Bool} {k : Nat} {g : Nat → V} (hk : k ≤ 10000) : (((List.range k).filter f).map g).length ≤ sizeLine := by
  have := List.length_filter_le f (List.range k)
  rw [List.length_range] at this
  rw [List.length_map, sizeLine_eq]; omega
theorem is_prime_exec {w mean mg mb} {d : Nat} {hp : HP} {N : Nat} (hN : 2 ≤ N) (hN2 : N < 1000) {Q : V → HP → Prop} {X : XT} (hQ : ∀ h', Upto [] hp h' → Q (.bool (isPB N)) h') :
    enterC [(true, V.int N)] hp fun l h0 => exec (gg w mean mg mb) d m_l_is_prime l h0 (retQ Q) X := by
  intro c nc
  have u0 : Upto [] hp (hset hp c (.cell (.int N))) := .new nc
  have hc : hset hp c (.cell (.int N)) c = some (.cell (.int N)) := hset_same
  show exec (gg w mean mg mb) d m_l_is_prime [.cell c] (hset hp c (.cell (.int N))) _ _
  generalize hset hp c (.cell (.int N)) = h0 at *
  refine ⟨_, hc, (fun q => nomatch q), fun _ => ?_, fun t => absurd (cgt_f.mp t) (by omega)⟩
  refine ⟨rfl, _, hc, (fun q => nomatch q), (show (1 : Int) ≠ 0 by decide), small_one (by decide) (by decide) (by omega) (by omega), ?_⟩
  refine compUp (N - 2) (by omega) (fun k acc h => acc = (divsF N k).map .int ∧ h = h0) ⟨rfl, rfl⟩ ?_ ?_
  · rintro k acc h hk ⟨rfl, rfl⟩
    unfold divsF
    rw [List.map_map]
    refine ⟨filt_len (by omega), _, hc, (fun q => nomatch q), (show (2 : Int) + k ≠ 0 by omega), fun t => ⟨?_, rfl⟩, fun t => ⟨?_, rfl⟩⟩
    · have t : (N : Int).fmod (2 + k) = 0 := ceq_t.mp t
      rw [Int.fmod_eq_emod_of_nonneg _ (by  omega), show (2 : Int) + k = ((k + 2 : Nat) : Int) by push_cast; omega] at t
      rw [List.map_map, filt_step (by simpa using (show N % (k + 2) = 0 by omega))]; rfl
    · have t : (N : Int).fmod (2 + k) ≠ 0 := ceq_f.mp t
      rw [Int.fmod_eq_emod_of_nonneg _ (by  omega), show (2 : Int) + k = ((k + 2 : Nat) : Int) by push_cast; omega] at t
      rw [List.map_map, filt_skip (by simpa using (show N % (k + 2) ≠ 0 by omega))]
  · rintro acc h ⟨rfl, rfl⟩ r nr
    refine ⟨by simp [sizeLine_eq], fun q nq => ?_⟩
    have u1 : Upto [] h (hset h r (.list ((divsF N (N - 2)).map .int))) := .new nr
    have u2 : Upto [] (hset h r (.list ((divsF N (N - 2)).map .int))) (hset (hset h r (.list ((divsF N (N - 2)).map .int))) q (.list [])) := .new nq
    refine cmpL (.inl rfl) (u2.at hset_same) (ms := []) hset_same ?_
    exact hQ _ ((u0.trans u1).trans u2)
theorem prime_exec {w mean mg mb} {d : Nat} {hp : HP} {p rr : Addr} (P : Pool hp p rr) {Q : V → HP → Prop} {X : XT} (hQ : ∀ (q : Nat) h', q ∈ primes11 → Pool h' p rr → Upto [p, rr] hp h' → Q (.int q) h') :
    exec (gg w mean mg mb) (d + 1) m_l_prime [.ref p, .unb] hp (retQ Q) X := by
  refine call_l_draw (draw_exec P (by decide) fun v h1 v0 v1 P1 u1 => ?_)
  obtain ⟨v, rfl⟩ := Int.eq_ofNat_of_zero_le v0
  refine ⟨mul_small_left (by decide), trivial, ?_⟩
  have e : intOp 3 (intOp 2 (v : Int) .mul) .add = ((3 + 2 * v : Nat) : Int) := by show (3 : Int) + 2 * v = _; push_cast; rfl
  show exec (gg w mean mg mb) (d + 1) _ [.ref p, .int (intOp 3 (intOp 2 (v : Int) .mul) .add)] h1 _ X
  rw [e]
  have hb := List.all_eq_true.mp first_ok v (List.mem_range.mpr (by omega))
  have hb3 : 3 ≤ 3 + 2 * v ∧ 3 + 2 * v < 44 := by omega
  generalize 3 + 2 * v = b at *
  refine ⟨rfl, trivial, (show (1 : Int) ≠ 0 by decide), ?_, ?_⟩
  · exact small_one (by omega) (by omega) (by show -2 ^ 62 ≤ (b : Int) + 14; omega) (by show (b : Int) + 14 < 2 ^ 62; omega)
  refine compUp 14 (by show 14 = ((b : Int) + 14 - b).toNat; omega) (fun k acc h => acc = ((List.range k).filter fun k => isPB (b + k)).map (fun (k : Nat) => V.int (b + k)) ∧ Upto [] h1 h) ⟨rfl, .refl⟩ ?_ ?_
  · rintro k acc h hk ⟨rfl, u⟩
    refine ⟨filt_len (by omega), ?_⟩
    show Calls (gg w mean mg mb) (d + 1) 70 [.int ((b : Int) + k)] [] h _ _
    rw [show (b : Int) + k = ((b + k : Nat) : Int) by push_cast; rfl]
    refine call_l_is_prime (is_prime_exec (by omega) (by omega) fun h' u' => ?_)
    refine ⟨fun t => ⟨?_, u.trans u'⟩, fun t => ⟨?_, u.trans u'⟩⟩
    · rw [filt_step (f := fun k => isPB (b + k)) t]
      rw [show ((b + k : Nat) : Int) = (b : Int) + k by push_cast; rfl]; rfl
    · rw [filt_skip (f := fun k => isPB (b + k)) t]
  · rintro acc h ⟨rfl, u⟩ r nr
    unfold firstOk firstP at hb
    split at hb
    · rename_i k l hkl
      have hm := of_decide_eq_true hb
      have u2 : Upto [] h (hset h r (.list (((List.range 14).filter fun k => isPB (b + k)).map (fun (k : Nat) => V.int (b + k))))) := .new nr
      refine idxE (k := 0) rfl rfl (vs := ((List.range 14).filter fun k => isPB (b + k)).map (fun (k : Nat) => V.int (b + k))) (by rw [hset_same]; rfl) ?_ (by decide) (x := .int (b + k)) (by rw [hkl]; rfl) ?_
      · have := filt_len (f := fun k => isPB (b + k)) (g := fun (k : Nat) => V.int (b + k)) (k := 14) (by decide)
        rw [sizeLine_eq] at this; omega
      · have := hQ (b + k) _ hm ((P1.up u).up u2) ((u1.trans (u.mono (by simp))).trans (u2.mono (by simp)))
        rwa [show ((b + k : Nat) : Int) = (b : Int) + k by push_cast; rfl] at this
    · cases hb
theorem number_exec {w mean mg mb} {d : Nat} {hp : HP} {p rr : Addr} (P : Pool hp p rr) {a b : Nat} (ha : a ≤ 2500) (hb : b ≤ 2500) {Q : V → HP → Prop} {X : XT} (hQ : ∀ z h', Pool h' p rr → Upto [p, rr] hp h' → Q (.int z) h') :
    exec (gg w mean mg mb) (d + 1) m_l_number [.ref p, .int a, .int b, .unb, .unb, .unb] hp (retQ Q) X := by
  have rest : ∀ (way size : Int) (h : HP), 0 < size → size ≤ 10 ^ 40 → Pool h p rr → Upto [p, rr] hp h → exec (gg w mean mg mb) (d + 1) (dropS 1 m_l_number) [.ref p, .int a, .int b, .int way, .int size, .unb] h (retQ Q) X := by
    intro way size h s0 s1 P u
    refine call_l_draw (draw_exec P s0 fun v h1 v0 v1 P1 u1 => ?_)
    refine call_l_draw (draw_exec P1 (by decide) fun t h2 t0 t1 P2 u2 => ?_)
    refine ⟨mul_small_left (by omega), (show (2 : Int) ≠ 0 by decide), trivial, ?_⟩
    have u3 := (u.trans u1).trans u2
    show exec (gg w mean mg mb) (d + 1) _ [.ref p, .int a, .int b, .int way, .int size, .int (v - (t * size).fdiv 2)] h2 _ X
    have hz : Bd 140 (v - (t * size).fdiv 2) := by
      have ht : t = 0 ∨ t = 1 := by omega
      have e40 : (10 : Int) ^ 40 + 10 ^ 40 < 2 ^ 139 := by decide
      have e140 : ((2 ^ 140 : Nat) : Int) = 2 ^ 139 + 2 ^ 139 := by decide
      unfold Bd
      refine Int.ofNat_lt.mp ?_
      rw [e140]
      generalize (10 : Int) ^ 40 = z at *
      generalize (2 : Int) ^ 139 = y at *
      rcases ht with rfl | rfl
      · rw [Int.zero_mul, Int.zero_fdiv]; omega
      · rw [Int.one_mul, Int.fdiv_eq_ediv_of_nonneg _ (by decide)]; omega
    generalize v - (t * size).fdiv 2 = z at *
    refine ⟨fun _ => ⟨hz.mulOk hz, ?_⟩, fun _ => ⟨fun _ => hQ _ _ P2 u3, fun _ => ⟨mul_small_left (smallL ha), hQ _ _ P2 u3⟩⟩⟩
    refine call_l_draw (draw_exec P2 (by decide) fun y h3 y0 y1 P3 u4 => ⟨trivial, mul_small_left (smallL hb), trivial, hQ _ _ P3 (u3.trans u4)⟩)
  refine call_l_draw (draw_exec P (by decide) fun way h1 w0 w1 P1 u1 => ?_)
  refine ⟨⟨by decide, by decide⟩, ⟨by decide, by decide⟩, by simp [sizeLine_eq], fun q nq => ?_⟩
  have u2 : Upto [] h1 (hset h1 q (.list ([50, 10 ^ 6, 10 ^ 40].map V.int))) := .new nq
  have e2 : hset h1 q (.list ([50, 10 ^ 6, 10 ^ 40].map V.int)) q = some (.list ([50, 10 ^ 6, 10 ^ 40].map V.int)) := hset_same
  have n2 := nqP P1 nq
  refine call_l_draw (draw_exec (P1.up u2) (by decide) fun t h3 t0 t1 P3 u3 => ?_)
  have e3 := u3.at e2 n2
  have u := (u1.trans (u2.mono (by simp))).trans u3
  have ht : t = 0 ∨ t = 1 ∨ t = 2 := by omega
  rcases ht with rfl | rfl | rfl
  · exact idxE (k := 0) rfl rfl (vs := [50, 10 ^ 6, 10 ^ 40].map .int) (by rw [e3]; rfl) (by simp) (by decide) rfl (rest _ _ _ (by decide) (by decide) P3 u)
  · exact idxE (k := 1) rfl rfl (vs := [50, 10 ^ 6, 10 ^ 40].map .int) (by rw [e3]; rfl) (by simp) (by decide) rfl (rest _ _ _ (by decide) (by decide) P3 u)
  · exact idxE (k := 2) rfl rfl (vs := [50, 10 ^ 6, 10 ^ 40].map .int) (by rw [e3]; rfl) (by simp) (by decide) rfl (rest _ _ _ (by decide) (by decide) P3 u)
noncomputable def sqL (i k : Nat) : List V := ((List.range k).filter fun y => decide (y * y % 25 = i)).map fun (y : Nat) => V.int y
theorem roots25 {i : Nat} (hi : i < 25) (m : Int) : rootsL (5 ^ 2) (i + m * 25) = (List.range 25).filter fun y => decide (y * y % 25 = i) := by
  show (List.range 25).filter _ = _
  refine List.filter_congr fun y _ => ?_
  rw [decide_eq_decide]
  rw [show (((5 ^ 2 : Nat)) : Int) = 25 by decide]
  have : (((y * y : Nat)) : Int) = (y : Int) * y := by push_cast; rfl
  omega
theorem all_right_exec {w mean mg mb} {d : Nat} {hp : HP} {m : Int} {Q : V → HP → Prop} {X : XT} (hQ : ∀ h', Upto [] hp h' → Q (.bool true) h') :
    exec (gg w mean mg mb) (d + 6) m_l_all_right [.int 5, .int 2, .int m, .unb, .unb, .unb, .unb] hp (retQ Q) X := by
  refine ⟨⟨by decide, by decide⟩, ?_⟩
  show exec (gg w mean mg mb) (d + 6) _ [.int 5, .int 2, .int m, .int 25, .unb, .unb, .unb] hp _ X
  refine ⟨rfl, (show (1 : Int) ≠ 0 by decide), by decide, ?_⟩
  refine compUp 25 (by decide) (fun k acc h => ∃ as : List Addr, acc = as.map .ref ∧ as.length = k ∧ as.Nodup ∧ (∀ a ∈ as, h a = some (.list []) ∧ hp a = none) ∧ Upto [] hp h) ⟨[], rfl, rfl, .nil, (fun _ h => nomatch h), .refl⟩ ?_ ?_
  · rintro k acc h hk ⟨as, rfl, hlen, hnd, has, u⟩
    refine ⟨by rw [List.length_map, sizeLine_eq]; omega, fun _ => ⟨by simp [sizeLine_eq], fun r nr => ?_⟩, (fun t => nomatch t)⟩
    have u1 : Upto [] h (hset h r (.list [])) := .new nr
    have hr : hp r = none := by
      cases q : hp r with
      | none => rfl
      | some o => rw [u.at q] at nr; cases nr
    refine ⟨as ++ [r], by simp, by simp [hlen], ?_, ?_, u.trans u1⟩
    · refine List.nodup_append.mpr ⟨hnd, by simp, fun a ha b hb e => ?_⟩
      simp at hb; subst hb; subst e
      rw [(has a ha).1] at nr; cases nr
    · intro a ha
      rcases List.mem_append.mp ha with ha | ha
      · exact ⟨u1.at (has a ha).1, (has a ha).2⟩
      · simp at ha; subst ha; exact ⟨hset_same, hr⟩
  rintro acc h ⟨as, rfl, hlen, hnd, has, u⟩ R nR
  have hRp : hp R = none := by
    cases q : hp R with
    | none => rfl
    | some o => rw [u.at q] at nR; cases nR
  have u1 : Upto [] h (hset h R (.list (as.map .ref))) := .new nR
  have hRas : R ∉ as := fun q => by rw [(has R q).1] at nR; cases nR
  have hR : hset h R (.list (as.map .ref)) R = some (.list (as.map .ref)) := hset_same
  have has1 : ∀ a ∈ as, hset h R (.list (as.map V.ref)) a = some (.list []) := fun a ha => u1.at (has a ha).1
  have hnone : ∀ a ∈ as, hp a = none := fun a ha => (has a ha).2
  have u := u.trans u1
  show exec (gg w mean mg mb) (d + 6) _ [.int 5, .int 2, .int m, .int 25, .unb, .ref R, .unb] (hset h R (.list (as.map .ref))) _ X
  generalize hset h R (.list (as.map V.ref)) = h1 at *
  refine ⟨(show (1 : Int) ≠ 0 by decide), by decide, ?_⟩
  refine forUp (l := [.int 5, .int 2, .int m, .int 25, .unb, .ref R, .unb]) 25 (by decide) (fun k l h => ∃ x6, l = [.int 5, .int 2, .int m, .int 25, .unb, .ref R, x6] ∧ h R = some (.list (as.map .ref)) ∧ (∀ i a, as[i]? = some a → h a = some (.list (sqL i k))) ∧ Upto [] hp h)
    ⟨_, rfl, hR, fun i a hi => has1 a (List.mem_of_getElem? hi), u⟩ ?_ ?_
  · rintro k l h' hk ⟨x6, rfl, hR, hl, u⟩
    have hi : k * k % 25 < as.length := by rw [hlen]; exact Nat.mod_lt _ (by decide)
    have ei : intOp (intOp (0 + (k : Int)) (0 + k) .mul) 25 .mod = ((k * k % 25 : Nat) : Int) := by
      show ((0 + (k : Int)) * (0 + k)).fmod 25 = _
      rw [Int.fmod_eq_emod_of_nonneg _ (by decide), Int.zero_add]; push_cast; rfl
    have hget : as[k * k % 25]? = some as[k * k % 25] := List.getElem?_eq_getElem hi
    have ha := hl _ _ hget
    have hmem : as[k * k % 25] ∈ as := List.getElem_mem hi
    refine ⟨mul_small_left (by omega), (show (25 : Int) ≠ 0 by decide), ?_⟩
    show idxV (.ref R) (.int (intOp (intOp (0 + (k : Int)) (0 + k) .mul) 25 .mod)) h' _
    rw [ei]
    refine idxE rfl rfl (vs := as.map .ref) (by rw [hR]; rfl) (by rw [List.length_map]; omega) (Int.natCast_nonneg _) (x := .ref as[k * k % 25]) (by rw [Int.toNat_natCast, List.getElem?_map, hget]; rfl) ?_
    refine ⟨⟨_, ha⟩, _, ha, filt_len (by omega), .int (0 + k), rfl, ?_, ?_, ?_⟩
    · rw [hset_ne (fun q => hRas (by rw [q]; exact hmem))]; exact hR
    · intro i a hia
      by_cases q : a = as[k * k % 25]
      · subst q
        have : i = k * k % 25 := by
          have h1 := List.getElem?_eq_some_iff.mp hia
          obtain ⟨hi1, hi2⟩ := h1
          exact (List.getElem?_inj hi1 hnd).mp (hia.trans hget.symm)
        subst this
        rw [hset_same, sqL, sqL, filt_step (f := fun y => decide (y * y % 25 = k * k % 25)) (by simp)]
        show some (O.list (_ ++ [V.int (0 + (k : Int))])) = _
        rw [Int.zero_add]
      · rw [hset_ne q, hl i a hia]
        have : k * k % 25 ≠ i := fun e => q (by subst e; rw [hget] at hia; exact (Option.some.inj hia).symm)
        rw [sqL, sqL, filt_skip (f := fun y => decide (y * y % 25 = i)) (by simpa using this)]
    · intro b hb o ho
      rw [hset_ne (fun q => by rw [q, hnone _ hmem] at ho; cases ho)]
      exact u b hb o ho
  rintro l h2 ⟨x6, rfl, hR, hl, u⟩
  refine ⟨(show (1 : Int) ≠ 0 by decide), by decide, ?_⟩
  refine forUp (l := [.int 5, .int 2, .int m, .int 25, .unb, .ref R, x6]) 25 (by decide) (fun k l h => ∃ x4, l = [.int 5, .int 2, .int m, .int 25, x4, .ref R, x6] ∧ Upto [] h2 h) ⟨_, rfl, .refl⟩ ?_ ?_
  · rintro k l h' hk ⟨x4, rfl, u2⟩
    have hi : k < as.length := by omega
    have hget : as[k]? = some as[k] := List.getElem?_eq_getElem hi
    have ha := u2.at (hl _ _ hget)
    refine ⟨mul_small_right (by decide), trivial, ?_⟩
    refine idxE (k := 0 + (k : Int)) rfl rfl (vs := as.map .ref) (by rw [u2.at hR]; rfl) (by rw [List.length_map]; omega) (by omega) (x := .ref as[k]) (by rw [show (0 + (k : Int)).toNat = k by omega, List.getElem?_map, hget]; rfl) ?_
    refine call_l_right (right_exec (p := 5) (e := 2) (n := 0 + k + m * 25) (by decide) (by decide) (by decide) ?_ fun h3 u3 => ?_)
    · rw [ha, Int.zero_add, roots25 (by omega), List.map_map]; rfl
    · exact ⟨(fun t => nomatch t), fun _ => ⟨_, rfl, u2.trans u3⟩⟩
  · rintro l h' ⟨x4, rfl, u2⟩
    exact hQ _ (u.trans u2)
theorem Pool.cell {h : HP} {p rr c : Addr} {v w : V} (P : Pool h p rr) (hc : h c = some (.cell w)) : Pool (hset h c (.cell v)) p rr ∧ c ∉ [p, rr] := by
  obtain ⟨x, y, ns, a, b, r⟩ := id P
  have h1 : p ≠ c := fun q => by rw [q, hc] at a; cases a
  have h2 : rr ≠ c := fun q => by rw [q, hc] at b; cases b
  exact ⟨P.up (S := [c]) (.set (by simp)) (by simpa using h1) (by simpa using h2), by simp; exact ⟨Ne.symm h1, Ne.symm h2⟩⟩
/-- the law's pool and cells -/
structure St (h : HP) (p rr c2 c3 c5 c7 : Addr) (v2 v3 v5 v7 : V) : Prop where
  pool : Pool h p rr
  k2 : h c2 = some (.cell v2)
  k3 : h c3 = some (.cell v3)
  k5 : h c5 = some (.cell v5)
  k7 : h c7 = some (.cell v7)
  ne : c2 ≠ c3 ∧ c2 ≠ c5 ∧ c2 ≠ c7 ∧ c3 ≠ c5 ∧ c3 ≠ c7 ∧ c5 ≠ c7
  m2 : c2 ∉ [p, rr]
  m3 : c3 ∉ [p, rr]
  m5 : c5 ∉ [p, rr]
  m7 : c7 ∉ [p, rr]
theorem St.up {h h' p rr c2 c3 c5 c7 v2 v3 v5 v7} (s : St h p rr c2 c3 c5 c7 v2 v3 v5 v7) (P : Pool h' p rr) (u : Upto [p, rr] h h') : St h' p rr c2 c3 c5 c7 v2 v3 v5 v7 :=
  ⟨P, u.at s.k2 s.m2, u.at s.k3 s.m3, u.at s.k5 s.m5, u.at s.k7 s.m7, s.ne, s.m2, s.m3, s.m5, s.m7⟩
theorem St.nu {h h' p rr c2 c3 c5 c7 v2 v3 v5 v7} (s : St h p rr c2 c3 c5 c7 v2 v3 v5 v7) (u : Upto [] h h') : St h' p rr c2 c3 c5 c7 v2 v3 v5 v7 := s.up (s.pool.up u) (u.mono (by simp))
theorem St.set2 {h p rr c2 c3 c5 c7 v2 v3 v5 v7} (s : St h p rr c2 c3 c5 c7 v2 v3 v5 v7) (v : V) : St (hset h c2 (.cell v)) p rr c2 c3 c5 c7 v v3 v5 v7 := by
  obtain ⟨P, k2, k3, k5, k7, ⟨a, b, c, d, e, f⟩, m2, m3, m5, m7⟩ := s
  have hn := m2
  simp only [List.mem_cons, List.not_mem_nil, or_false, not_or] at hn
  exact ⟨P.up (S := [c2]) (.set (by simp)) (by simpa using Ne.symm hn.1) (by simpa using Ne.symm hn.2), hset_same, by rw [hset_ne (Ne.symm a)]; exact k3, by rw [hset_ne (Ne.symm b)]; exact k5, by rw [hset_ne (Ne.symm c)]; exact k7, ⟨a, b, c, d, e, f⟩, m2, m3, m5, m7⟩
theorem St.set3 {h p rr c2 c3 c5 c7 v2 v3 v5 v7} (s : St h p rr c2 c3 c5 c7 v2 v3 v5 v7) (v : V) : St (hset h c3 (.cell v)) p rr c2 c3 c5 c7 v2 v v5 v7 := by
  obtain ⟨P, k2, k3, k5, k7, ⟨a, b, c, d, e, f⟩, m2, m3, m5, m7⟩ := s
  have hn := m3
  simp only [List.mem_cons, List.not_mem_nil, or_false, not_or] at hn
  exact ⟨P.up (S := [c3]) (.set (by simp)) (by simpa using Ne.symm hn.1) (by simpa using Ne.symm hn.2), by rw [hset_ne a]; exact k2, hset_same, by rw [hset_ne (Ne.symm d)]; exact k5, by rw [hset_ne (Ne.symm e)]; exact k7, ⟨a, b, c, d, e, f⟩, m2, m3, m5, m7⟩
theorem St.set5 {h p rr c2 c3 c5 c7 v2 v3 v5 v7} (s : St h p rr c2 c3 c5 c7 v2 v3 v5 v7) (v : V) : St (hset h c5 (.cell v)) p rr c2 c3 c5 c7 v2 v3 v v7 := by
  obtain ⟨P, k2, k3, k5, k7, ⟨a, b, c, d, e, f⟩, m2, m3, m5, m7⟩ := s
  have hn := m5
  simp only [List.mem_cons, List.not_mem_nil, or_false, not_or] at hn
  exact ⟨P.up (S := [c5]) (.set (by simp)) (by simpa using Ne.symm hn.1) (by simpa using Ne.symm hn.2), by rw [hset_ne b]; exact k2, by rw [hset_ne d]; exact k3, hset_same, by rw [hset_ne (Ne.symm f)]; exact k7, ⟨a, b, c, d, e, f⟩, m2, m3, m5, m7⟩
theorem St.set7 {h p rr c2 c3 c5 c7 v2 v3 v5 v7} (s : St h p rr c2 c3 c5 c7 v2 v3 v5 v7) (v : V) : St (hset h c7 (.cell v)) p rr c2 c3 c5 c7 v2 v3 v5 v := by
  obtain ⟨P, k2, k3, k5, k7, ⟨a, b, c, d, e, f⟩, m2, m3, m5, m7⟩ := s
  have hn := m7
  simp only [List.mem_cons, List.not_mem_nil, or_false, not_or] at hn
  exact ⟨P.up (S := [c7]) (.set (by simp)) (by simpa using Ne.symm hn.1) (by simpa using Ne.symm hn.2), by rw [hset_ne c]; exact k2, by rw [hset_ne e]; exact k3, by rw [hset_ne f]; exact k5, hset_same, ⟨a, b, c, d, e, f⟩, m2, m3, m5, m7⟩
noncomputable def turnMS : MS := match dropS 5 m_law with
  | .seq (.forR _ _ _ _ b) _ => b
  | _ => .skip
theorem turn_exec {w mean mg mb} {d : Nat} {h : HP} {s p rr c2 c3 c5 c7 : Addr} {q e : Nat} {k : Int} {v3 v7 x8 : V} (hq : q ∈ primes11) (he : 1 ≤ e) (hs : q ^ e ≤ 2500) (S : St h p rr c2 c3 c5 c7 (.int q) v3 (.int (q ^ e : Nat)) v7)
    {Q : Out → List V → HP → Prop} (hQ : ∀ h' z x, St h' p rr c2 c3 c5 c7 (.int q) v3 (.int (q ^ e : Nat)) z → Q .next [.ref s, .ref p, .cell c2, .cell c3, .int e, .cell c5, .int k, .cell c7, x] h') :
    exec (gg w mean mg mb) (d + 10) turnMS [.ref s, .ref p, .cell c2, .cell c3, .int e, .cell c5, .int k, .cell c7, x8] h Q noX := by
  have hq0 := primes11_pos hq
  have rest : ∀ (z : Int) (h : HP), St h p rr c2 c3 c5 c7 (.int q) v3 (.int (q ^ e : Nat)) (.int z) → exec (gg w mean mg mb) (d + 10) (dropS 1 turnMS) [.ref s, .ref p, .cell c2, .cell c3, .int e, .cell c5, .int k, .cell c7, x8] h Q noX := by
    intro z h S
    have hm0 : 0 < q ^ e := Nat.pow_pos (by omega)
    refine ⟨rfl, _, S.k5, (fun t => nomatch t), (show (1 : Int) ≠ 0 by decide), small_one (by decide) (by decide) (by omega) (by omega), ?_⟩
    refine compUp (q ^ e) (by omega) (fun j acc h' => acc = ((List.range j).filter fun (y : Nat) => decide (((y : Int) * y - z) % (q ^ e : Nat) = 0)).map (fun (y : Nat) => V.int y) ∧ h' = h) ⟨rfl, rfl⟩ ?_ ?_
    · rintro j acc h' hj ⟨rfl, rfl⟩
      refine ⟨filt_len (by omega), mul_small_left (by omega), _, S.k7, (fun t => nomatch t), trivial, _, S.k5, (fun t => nomatch t), (show ((q ^ e : Nat) : Int) ≠ 0 by omega), fun t => ⟨?_, rfl⟩, fun t => ⟨?_, rfl⟩⟩
      · have t : ((0 + (j : Int)) * (0 + j) - z).fmod (q ^ e : Nat) = 0 := ceq_t.mp t
        rw [Int.fmod_eq_emod_of_nonneg _ (Int.natCast_nonneg _), Int.zero_add] at t
        rw [filt_step (f := fun (y : Nat) => decide (((y : Int) * y - z) % (q ^ e : Nat) = 0)) (decide_eq_true t)]
        show _ ++ [V.int (0 + (j : Int))] = _
        rw [Int.zero_add]
      · have t : ((0 + (j : Int)) * (0 + j) - z).fmod (q ^ e : Nat) ≠ 0 := ceq_f.mp t
        rw [Int.fmod_eq_emod_of_nonneg _ (Int.natCast_nonneg _), Int.zero_add] at t
        rw [filt_skip (f := fun (y : Nat) => decide (((y : Int) * y - z) % (q ^ e : Nat) = 0)) (decide_eq_false t)]
    · rintro acc h' ⟨rfl, rfl⟩ R nR
      have u1 : Upto [] h' (hset h' R (.list ((rootsL (q ^ e) z).map fun (y : Nat) => V.int y))) := .new nR
      have S1 := S.nu u1
      refine ⟨_, S1.k7, (fun t => nomatch t), _, S1.k2, (fun t => nomatch t), ?_⟩
      refine call_l_right (right_exec hq he hs (R := R) ?_ fun h2 u2 => ?_)
      · rw [hset_same, List.map_map]; rfl
      · exact ⟨(fun t => nomatch t), fun _ => hQ _ _ _ (S1.nu u2)⟩
  refine ⟨fun _ => ?_, fun _ => ?_⟩
  · refine ⟨_, S.k2, (fun t => nomatch t), _, S.k5, (fun t => nomatch t), ?_⟩
    refine call_l_number (number_exec S.pool (by omega) hs fun z h1 P1 u1 => ?_)
    have S1 := S.up P1 u1
    exact ⟨⟨_, S1.k7⟩, rest z _ (S1.set7 _)⟩
  · exact ⟨⟨_, S.k7⟩, rest 0 _ (S.set7 _)⟩
theorem last_exec {w mean mg mb} {d : Nat} {h : HP} {s p rr c2 c3 c5 c7 : Addr} {q e : Nat} {v3 v7 x6 x8 : V} (hq : q ∈ primes11) (S : St h p rr c2 c3 c5 c7 (.int q) v3 (.int (q ^ e : Nat)) v7) :
    exec (gg w mean mg mb) (d + 10) (dropS 6 m_law) [.ref s, .ref p, .cell c2, .cell c3, .int e, .cell c5, x6, .cell c7, x8] h (fun o _ _ => o = .ret (.bool true)) noX := by
  have hq0 := primes11_pos hq
  refine ⟨fun t => ?_, fun _ => ⟨(fun t => nomatch t), fun _ => rfl⟩⟩
  refine call_l_draw (draw_exec S.pool (by decide) fun v h1 v0 v1 P1 u1 => ?_)
  have S := S.up P1 u1
  refine ⟨fun t => ?_, fun t => rfl⟩
  refine ⟨_, S.k2, (fun t => nomatch t), _, S.k2, (fun t => nomatch t), ?_⟩
  refine call_l_number (number_exec S.pool (by omega) (by omega) fun z h2 P2 u2 => ?_)
  have S := (S.up P2 u2)
  refine ⟨⟨_, S.k7⟩, ?_⟩
  have S := S.set7 (.int z)
  show exec (gg w mean mg mb) (d + 10) _ _ (hset h2 c7 (.cell (.int z))) _ _
  generalize hset h2 c7 (.cell (.int z)) = h3 at *
  refine ⟨_, S.k7, (fun t => nomatch t), _, S.k2, (fun t => nomatch t), (show (q : Int) ≠ 0 by omega), fun t => ?_, fun t => ?_⟩
  · exact congrArg (fun b => Out.ret (.bool b)) t
  · have t : z.fmod q = 0 := cne_f.mp t
    refine ⟨_, S.k7, (fun t => nomatch t), _, S.k2, (fun t => nomatch t), ?_⟩
    have hz : (q : Int) ∣ z := Int.dvd_of_fmod_eq_zero t
    refine call_modsqrt2 (mod1_exec hq rfl (fun h4 x u4 hx => ?_) fun hr _ => ?_)
    · rcases hx with ⟨hr, rfl⟩ | ⟨hr, -⟩
      · rfl
      · exact absurd (by have := Int.emod_eq_zero_of_dvd hz; omega) hr
    · exact absurd (by have := Int.emod_eq_zero_of_dvd hz; omega) hr
theorem powE {q e : Nat} (hq : q ≤ 41) (he : e ≤ 12) : intOp (q : Int) (e : Int) .pow = ((q ^ e : Nat) : Int) ∧ intOk (q : Int) (e : Int) .pow := by
  refine ⟨?_, Int.natCast_nonneg _, ?_⟩
  · show (q : Int) ^ (e : Int).toNat = _
    rw [Int.toNat_natCast]; push_cast; rfl
  · have hb : Bd 6 (q : Int) := by unfold Bd; omega
    have h1 : Builtin.Int.intBits (q : Int) * e ≤ 6 * 12 := Nat.mul_le_mul hb.bits he
    have h2 : ((Builtin.Int.intBits (q : Int) * e : Nat) : Int) ≤ 72 := Int.ofNat_le.mpr h1
    push_cast at h2
    exact Int.le_trans h2 (by decide)
theorem mid_exec {w mean mg mb} {d : Nat} {h : HP} {s p rr c2 c3 c5 c7 : Addr} {q most : Nat} {v5 v7 : V} (hq : q ∈ primes11) (hm : most ≤ 2500) (S : St h p rr c2 c3 c5 c7 (.int q) (.int most) v5 v7) :
    exec (gg w mean mg mb) (d + 10) (dropS 3 m_law) [.ref s, .ref p, .cell c2, .cell c3, .unb, .cell c5, .unb, .cell c7, .unb] h (fun o _ _ => o = .ret (.bool true)) noX := by
  have hq0 := primes11_pos hq
  refine ⟨rfl, ?_⟩
  refine call_l_draw (draw_exec S.pool (by decide) fun t h1 t0 t1 P1 u1 => ?_)
  have S := S.up P1 u1
  obtain ⟨t, rfl⟩ := Int.eq_ofNat_of_zero_le t0
  refine ⟨trivial, (show (1 : Int) ≠ 0 by decide), ?_, ?_⟩
  · exact small_one (by decide) (by decide) (by show -2 ^ 62 ≤ (2 : Int) + t; omega) (by show (2 : Int) + t < 2 ^ 62; omega)
  refine compUp (t + 1) (by show t + 1 = ((2 : Int) + t - 1).toNat; omega) (fun k acc h' => h' = h1 ∧ ∃ es : List Nat, acc = es.map (fun (e : Nat) => V.int e) ∧ es.length ≤ k ∧ (k ≠ 0 → es ≠ []) ∧ ∀ e ∈ es, 1 ≤ e ∧ q ^ e ≤ 2500 ∧ e ≤ 12) ⟨rfl, [], rfl, Nat.le_refl _, fun q => absurd rfl q, fun _ h => nomatch h⟩ ?_ ?_
  · rintro k acc h' hk ⟨rfl, es, rfl, hlen, hne, hes⟩
    have ev : (1 : Int) + k = ((k + 1 : Nat) : Int) := by push_cast; omega
    have add : q ^ (k + 1) ≤ 2500 → ∃ es' : List Nat, es.map (fun (e : Nat) => V.int e) ++ [V.int (1 + k)] = es'.map (fun (e : Nat) => V.int e) ∧ es'.length ≤ k + 1 ∧ (k + 1 ≠ 0 → es' ≠ []) ∧ ∀ e ∈ es', 1 ≤ e ∧ q ^ e ≤ 2500 ∧ e ≤ 12 := by
      intro hle
      refine ⟨es ++ [k + 1], by rw [ev, List.map_append]; rfl, by simp; omega, fun _ => by simp, fun e he => ?_⟩
      rcases List.mem_append.mp he with he | he
      · exact hes e he
      · simp at he; subst he; exact ⟨by omega, hle, by omega⟩
    refine ⟨by rw [List.length_map, sizeLine_eq]; omega, fun t1 => ⟨fun _ => ⟨rfl, add ?_⟩, (fun t => nomatch t)⟩, fun t1 => ?_⟩
    · have t1 : (1 : Int) + k = 1 := ceq_t.mp t1
      rw [show k + 1 = 1 by omega, Nat.pow_one]; omega
    · have t1 : (1 : Int) + k ≠ 1 := ceq_f.mp t1
      obtain ⟨pe, pk⟩ := powE (q := q) (e := k + 1) (by omega) (by omega)
      rw [← ev] at pe pk
      refine ⟨_, S.k2, (fun t => nomatch t), pk, _, S.k3, (fun t => nomatch t), fun t2 => ⟨rfl, add ?_⟩, fun _ => ⟨rfl, es, rfl, by omega, fun _ => hne (by omega), hes⟩⟩
      have t2 : intOp (q : Int) (1 + k) .pow ≤ most := cle_t.mp t2
      rw [pe] at t2
      omega
  rintro acc h' ⟨rfl, es, rfl, hlen, hne, hes⟩ r nr
  have hne := hne (by omega)
  have hl0 : 0 < es.length := List.length_pos_iff.mpr hne
  have hget : es[es.length - 1]? = some (es[es.length - 1]'(by omega)) := List.getElem?_eq_getElem (by omega)
  obtain ⟨he1, hes1, he12⟩ := hes _ (List.getElem_mem (show es.length - 1 < es.length by omega))
  generalize es[es.length - 1]'(by omega) = e at *
  have u2 : Upto [] h' (hset h' r (.list (es.map (fun (e : Nat) => V.int e)))) := .new nr
  have S := S.nu u2
  refine ⟨es.map (fun (e : Nat) => V.int e), .int e, by rw [hset_same]; rfl, by rw [List.length_map]; omega, by rw [List.length_map]; show -(es.length : Int) ≤ -1; omega, by rw [List.length_map]; show (-1 : Int) < es.length; omega, ?_, ?_⟩
  · rw [if_pos (show (-1 : Int) < 0 by decide), List.length_map, show (-1 + (es.length : Int)).toNat = es.length - 1 by omega, List.getElem?_map, hget]; rfl
  obtain ⟨pe, pk⟩ := powE (q := q) (e := e) (by omega) he12
  refine ⟨_, S.k2, (fun t => nomatch t), pk, ⟨_, S.k5⟩, ?_⟩
  have S := S.set5 (.int (intOp (q : Int) (e : Int) .pow))
  show exec (gg w mean mg mb) (d + 10) (dropS 5 m_law) [.ref s, .ref p, .cell c2, .cell c3, .int e, .cell c5, .unb, .cell c7, .unb] (hset (hset h' r (.list (es.map (fun (e : Nat) => V.int e)))) c5 (.cell (.int (intOp (q : Int) (e : Int) .pow)))) _ _
  generalize hset (hset h' r (.list (es.map (fun (e : Nat) => V.int e)))) c5 (.cell (.int (intOp (q : Int) (e : Int) .pow))) = h3 at *
  rw [pe] at S
  refine call_l_draw (draw_exec S.pool (by decide) fun y h4 y0 y1 P4 u4 => ?_)
  have S := S.up P4 u4
  obtain ⟨y, rfl⟩ := Int.eq_ofNat_of_zero_le y0
  refine ⟨trivial, (show (1 : Int) ≠ 0 by decide), ?_, ?_⟩
  · exact small_one (by decide) (by decide) (by show -2 ^ 62 ≤ (1 : Int) + y; omega) (by show (1 : Int) + y < 2 ^ 62; omega)
  refine forUp (l := [.ref s, .ref p, .cell c2, .cell c3, .int e, .cell c5, .unb, .cell c7, .unb]) (y + 1) (by show y + 1 = ((1 : Int) + y - 0).toNat; omega) (fun k l h => ∃ x6 x8 v7, l = [.ref s, .ref p, .cell c2, .cell c3, .int e, .cell c5, x6, .cell c7, x8] ∧ St h p rr c2 c3 c5 c7 (.int q) (.int most) (.int (q ^ e : Nat)) v7) ⟨_, _, _, rfl, S⟩ ?_ ?_
  · rintro k l h hk ⟨x6, x8, v7, rfl, S⟩
    exact turn_exec (k := 0 + (k : Int)) hq he1 hes1 S fun h' z x S' => ⟨_, _, _, rfl, S'⟩
  · rintro l h ⟨x6, x8, v7, rfl, S⟩
    exact last_exec hq S
theorem law_exec {w mean mg mb} {d : Nat} {ns : List Int} (hl : ns.length ≤ 63) (s : Addr) :
    enterC [(false, V.ref s), (false, .unb), (true, .unb), (true, .unb), (false, .unb), (true, .unb), (false, .unb), (true, .unb), (false, .unb)] (fun c => if c = s then some (.ro (ns.map .int)) else none) fun l h0 => exec (gg w mean mg mb) (d + 10) m_law l h0 (fun o _ _ => o = .ret (.bool true)) noX := by
  generalize hh0 : (fun c => if c = s then some (O.ro (ns.map .int)) else none : HP) = hs
  have es : hs s = some (.ro (ns.map .int)) := by rw [← hh0]; simp
  intro c2 n2 c3 n3 c5 n5 c7 n7
  have u2 : Upto [] hs (hset hs c2 (.cell .unb)) := .new n2
  have e2 : hset hs c2 (.cell .unb) c2 = some (.cell .unb) := hset_same
  generalize hset hs c2 (.cell .unb) = h2 at *
  have u3 : Upto [] h2 (hset h2 c3 (.cell .unb)) := .new n3
  have e3 : hset h2 c3 (.cell .unb) c3 = some (.cell .unb) := hset_same
  have d23 := ne_of_none n3 e2
  have e2 := u3.at e2
  generalize hset h2 c3 (.cell .unb) = h3 at *
  have u5 : Upto [] h3 (hset h3 c5 (.cell .unb)) := .new n5
  have e5 : hset h3 c5 (.cell .unb) c5 = some (.cell .unb) := hset_same
  have d25 := ne_of_none n5 e2
  have d35 := ne_of_none n5 e3
  have e2 := u5.at e2
  have e3 := u5.at e3
  generalize hset h3 c5 (.cell .unb) = h5 at *
  have u7 : Upto [] h5 (hset h5 c7 (.cell .unb)) := .new n7
  have e7 : hset h5 c7 (.cell .unb) c7 = some (.cell .unb) := hset_same
  have d27 := ne_of_none n7 e2
  have d37 := ne_of_none n7 e3
  have d57 := ne_of_none n7 e5
  have e2 := u7.at e2
  have e3 := u7.at e3
  have e5 := u7.at e5
  show exec (gg w mean mg mb) (d + 10) m_law [.ref s, .unb, .cell c2, .cell c3, .unb, .cell c5, .unb, .cell c7, .unb] (hset h5 c7 (.cell .unb)) _ _
  have e0 := u7.at (u5.at (u3.at (u2.at es)))
  generalize hset h5 c7 (.cell .unb) = h7 at *
  refine call_l_pool (pool_exec e0 hl fun p rr h8 P8 u8 => ?_)
  have cellm : ∀ c, h8 c = some (.cell .unb) → c ∉ [p, rr] := fun c hc => (P8.cell (v := .unb) hc).2
  have S : St h8 p rr c2 c3 c5 c7 .unb .unb .unb .unb := ⟨P8, u8.at e2, u8.at e3, u8.at e5, u8.at e7, ⟨d23, d25, d27, d35, d37, d57⟩, cellm _ (u8.at e2), cellm _ (u8.at e3), cellm _ (u8.at e5), cellm _ (u8.at e7)⟩
  refine ⟨⟨by decide, by decide⟩, ?_⟩
  refine call_l_draw (draw_exec S.pool (by decide) fun v h9 v0 v1 P9 u9 => ?_)
  have S := S.up P9 u9
  refine call_l_draw (draw_exec S.pool (by decide) fun z h10 z0 z1 P10 u10 => ?_)
  have S := S.up P10 u10
  refine ⟨trivial, ?_⟩
  refine call_l_all_right (all_right_exec fun h11 u11 => ?_)
  have S := S.nu u11
  refine ⟨(fun t => nomatch t), fun _ => ?_⟩
  refine call_l_prime (prime_exec S.pool fun q h12 hq P12 u12 => ?_)
  have S := S.up P12 u12
  have go : ∀ most : Nat, most ≤ 2500 → putN [.ref s, .ref p, .cell c2, .cell c3, .unb, .cell c5, .unb, .cell c7, .unb] [(2, true), (3, true)] [.int q, .int most] h12 fun l2 h2 => exec (gg w mean mg mb) (d + 10) (dropS 3 m_law) l2 h2 (fun o _ _ => o = .ret (.bool true)) noX := by
    intro most hm
    have S1 := S.set2 (.int q)
    exact ⟨⟨_, S.k2⟩, ⟨_, S1.k3⟩, mid_exec hq hm (S1.set3 (.int most))⟩
  obtain ⟨cell, seed, rest, p0, -⟩ := id S.pool
  refine idx3 (k := 0) p0 rfl ⟨fun _ => ?_, fun _ => ?_⟩
  · exact go 2500 (by decide)
  · exact go 400 (by decide)
end Mine
namespace Mine
noncomputable abbrev top.tw10090393231696489298 : Unit := ()
noncomputable abbrev top.tw10224862841783034586 : Unit := ()
noncomputable abbrev top.tw10567129059001840431 : Unit := ()
noncomputable abbrev top.tw10617020205504526918 : Unit := ()
noncomputable abbrev top.tw10773188271377071773 : Unit := ()
noncomputable abbrev top.tw10996937224433265937 : Unit := ()
noncomputable abbrev top.tw11334415319851112604 : Unit := ()
noncomputable abbrev top.tw1139600151236580504 : Unit := ()
noncomputable abbrev top.tw11430207588045935325 : Unit := ()
noncomputable abbrev top.tw11459358961799972967 : Unit := ()
noncomputable abbrev top.tw11482458903657704404 : Unit := ()
noncomputable abbrev top.tw1149218181149386328 : Unit := ()
noncomputable abbrev top.tw11546936639936008217 : Unit := ()
noncomputable abbrev top.tw11613256710310857696 : Unit := ()
noncomputable abbrev top.tw1245559373397905713 : Unit := ()
noncomputable abbrev top.tw12819366960792805191 : Unit := ()
noncomputable abbrev top.tw13091174067606910046 : Unit := ()
noncomputable abbrev top.tw13120753694373217308 : Unit := ()
noncomputable abbrev top.tw13303987763403120937 : Unit := ()
noncomputable abbrev top.tw13359135706311490777 : Unit := ()
noncomputable abbrev top.tw13365172418744591121 : Unit := ()
noncomputable abbrev top.tw13369591340354186047 : Unit := ()
noncomputable abbrev top.tw14177919720447124146 : Unit := ()
noncomputable abbrev top.tw14347721165454393637 : Unit := ()
noncomputable abbrev top.tw14608685727046917156 : Unit := ()
noncomputable abbrev top.tw14611434983143301774 : Unit := ()
noncomputable abbrev top.tw14823308797102314842 : Unit := ()
noncomputable abbrev top.tw14851680436948445374 : Unit := ()
noncomputable abbrev top.tw14861896470697024400 : Unit := ()
noncomputable abbrev top.tw14901070454687303710 : Unit := ()
noncomputable abbrev top.tw14917401599646851644 : Unit := ()
noncomputable abbrev top.tw1492452104121835379 : Unit := ()
noncomputable abbrev top.tw14987219478266130788 : Unit := ()
noncomputable abbrev top.tw15169761463676818070 : Unit := ()
noncomputable abbrev top.tw15240379268576122478 : Unit := ()
noncomputable abbrev top.tw15646934709686841381 : Unit := ()
noncomputable abbrev top.tw15860264024139754761 : Unit := ()
noncomputable abbrev top.tw15976228082101565994 : Unit := ()
noncomputable abbrev top.tw16204670001084760307 : Unit := ()
noncomputable abbrev top.tw16420938139371093754 : Unit := ()
noncomputable abbrev top.tw16439428074185983240 : Unit := ()
noncomputable abbrev top.tw16541100652227675460 : Unit := ()
noncomputable abbrev top.tw16782997733028217545 : Unit := ()
noncomputable abbrev top.tw16900427199656544559 : Unit := ()
noncomputable abbrev top.tw1736530178072539846 : Unit := ()
noncomputable abbrev top.tw17492772389151264855 : Unit := ()
noncomputable abbrev top.tw17810072253543177317 : Unit := ()
noncomputable abbrev top.tw17886615442053742456 : Unit := ()
noncomputable abbrev top.tw1795890182318252594 : Unit := ()
noncomputable abbrev top.tw18064794426631996164 : Unit := ()
noncomputable abbrev top.tw18086089286151905521 : Unit := ()
noncomputable abbrev top.tw1814787853859245837 : Unit := ()
noncomputable abbrev top.tw1869187583165140508 : Unit := ()
noncomputable abbrev top.tw1886144042066472794 : Unit := ()
noncomputable abbrev top.tw2057334267981633021 : Unit := ()
noncomputable abbrev top.tw2218668502564051296 : Unit := ()
noncomputable abbrev top.tw2287823674025257028 : Unit := ()
noncomputable abbrev top.tw2464713573024523455 : Unit := ()
noncomputable abbrev top.tw2731995056826638727 : Unit := ()
noncomputable abbrev top.tw2732273902793177162 : Unit := ()
noncomputable abbrev top.tw2782073688633401757 : Unit := ()
noncomputable abbrev top.tw2985252069258134486 : Unit := ()
noncomputable abbrev top.tw352232786441526191 : Unit := ()
noncomputable abbrev top.tw4166218997396506358 : Unit := ()
noncomputable abbrev top.tw4571971715460732019 : Unit := ()
noncomputable abbrev top.tw4655869559712951663 : Unit := ()
noncomputable abbrev top.tw5088376156974544275 : Unit := ()
noncomputable abbrev top.tw5105846836358774362 : Unit := ()
noncomputable abbrev top.tw5118827330378232414 : Unit := ()
noncomputable abbrev top.tw5155950481276406077 : Unit := ()
noncomputable abbrev top.tw5303079699428457377 : Unit := ()
noncomputable abbrev top.tw5476889619067714990 : Unit := ()
noncomputable abbrev top.tw5597187220613765494 : Unit := ()
noncomputable abbrev top.tw6491118196486620199 : Unit := ()
noncomputable abbrev top.tw6756868429301003459 : Unit := ()
noncomputable abbrev top.tw6812286434817487243 : Unit := ()
noncomputable abbrev top.tw72247145696351765 : Unit := ()
noncomputable abbrev top.tw7458633546980236471 : Unit := ()
noncomputable abbrev top.tw814325599930780420 : Unit := ()
noncomputable abbrev top.tw8143265674769528471 : Unit := ()
noncomputable abbrev top.tw8507776931139520737 : Unit := ()
noncomputable abbrev top.tw8598144960395782539 : Unit := ()
noncomputable abbrev top.tw8645369167282567922 : Unit := ()
noncomputable abbrev top.tw864819663365544661 : Unit := ()
noncomputable abbrev top.tw8689318265317240412 : Unit := ()
noncomputable abbrev top.tw8735323631387419056 : Unit := ()
noncomputable abbrev top.tw8813761850579938390 : Unit := ()
noncomputable abbrev top.tw9063741608606530840 : Unit := ()
noncomputable abbrev top.tw908825868028484722 : Unit := ()
noncomputable abbrev top.tw9229161468869434483 : Unit := ()
noncomputable abbrev top.tw9305691244287143441 : Unit := ()
noncomputable abbrev top.tw956942650209027819 : Unit := ()
noncomputable abbrev top.tw9601329371697537090 : Unit := ()
noncomputable abbrev top.tw9631074621892390191 : Unit := ()
noncomputable abbrev top.tw9800703332001039478 : Unit := ()
set_option Elab.async true in
set_option maxHeartbeats 8000000 in
theorem top : PySem.Challenge.rw_xv0001_11.Holds := by
  w_on; o_law; k_head
  case hw => w_witness2
  k_go0
  rename_i F1 o0 o1 o2 o3 d0 d1 d2 d3 N1 X1
  refine law_endC (x := Str.ofString "script") (gt := gt) (bt := bt) (f := 106) (ms := m_law) (fok (tr := false) ?g1 ?g2 ?g3) (sb_of (n := 60) ?hb) (T := ‹_›) (KX := ‹_›) (K0 := ‹_›) (hF := F1) (hN := N1) (hl := ‹_›) (hi := ‹_›) ?h1 ?h2 ?h3 ?h4 ?h5 ?h6 ?h7 ?ca ?hn ?hnl (ps := fun b => [(false, b), (false, .unb), (true, .unb), (true, .unb), (false, .unb), (true, .unb), (false, .unb), (true, .unb), (false, .unb)]) ?hps ?h9 ?h10
  case g1 => kernel_rfl!
  case g2 => kernel_rfl!
  case g3 => kernel_rfl!
  case hb => kernel_rfl!
  case h1 => kernel_rfl!
  case h2 => rfl
  case h3 => rfl
  case h4 => rfl
  case h5 => kernel_rfl!
  case h6 => kernel_rfl!
  case h7 => kernel_rfl!
  case ca => exact .cons (d0.trans (by kernel_rfl!)) (.cons (d1.trans (by kernel_rfl!)) (.cons (d2.trans (by kernel_rfl!)) (.cons (d3.trans (by kernel_rfl!)) .nil)))
  case hn => kernel_rfl!
  case hnl => kernel_rfl!
  case hps => intro b; kernel_rfl!
  case h9 =>
    intro b
    refine law_exec (w := ⟨⟨_, _, _, _, _, gt, bt⟩, ?a0, ?a1, ?a2, ?a3, ?a4, ?a5, ?a6, ?a7, ?a8, ?a9, ?a10, ?a11, ?a12, ?a13, ?a14, ?a15, ?a16, ?a17, ?a18, ?a19, ?a20, ?a21, ?a22, ?a23, ?a24, ?a25, ?a26, ?a27, ?a28, ?a29, ?a30, ?a31, ?a32, ?a33⟩) (by omega) b
    case a0 => kernel_rfl!
    case a1 => kernel_rfl!
    case a2 => exact ⟨by kernel_rfl!, fun _ _ _ => by kernel_rfl!, by kernel_rfl!, by kernel_rfl!, by kernel_rfl!⟩
    case a3 => intro v0 v1; show bindArgs _ _ = pure _; kernel_rfl!
    case a4 => exact ⟨by kernel_rfl!, fun _ _ _ => by kernel_rfl!, by kernel_rfl!, by kernel_rfl!, by kernel_rfl!⟩
    case a5 => intro v0 v1; show bindArgs _ _ = pure _; kernel_rfl!
    case a6 => exact ⟨by kernel_rfl!, fun _ _ _ => by kernel_rfl!, by kernel_rfl!, by kernel_rfl!, by kernel_rfl!⟩
    case a7 => exact ⟨by kernel_rfl!, by kernel_rfl!⟩
    case a8 => intro v0 v1; exact BindD.mk0 (by rfl) (by rfl)
    case a9 => intro v0 v1 v2; exact BindD.mk0 (by rfl) (by rfl)
    case a10 => intro v0 v1; exact BindK.mk0 (fun vk => by rfl) (fun vk => by rfl)
    case a11 => exact ⟨by kernel_rfl!, fun _ _ _ => by kernel_rfl!, by kernel_rfl!, by kernel_rfl!, by kernel_rfl!⟩
    case a12 => intro v0 v1; show bindArgs _ _ = pure _; kernel_rfl!
    case a13 => exact ⟨by kernel_rfl!, fun _ _ _ => by kernel_rfl!, by kernel_rfl!, by kernel_rfl!, by kernel_rfl!⟩
    case a14 => exact ⟨by kernel_rfl!, by kernel_rfl!⟩
    case a15 => intro v0 v1; exact BindD.mk0 (by rfl) (by rfl)
    case a16 => intro v0 v1 v2; exact BindD.mk0 (by rfl) (by rfl)
    case a17 => intro v0 v1; exact BindK.mk0 (fun vk => by rfl) (fun vk => by rfl)
    case a18 => exact ⟨by kernel_rfl!, fun _ _ _ => by kernel_rfl!, by kernel_rfl!, by kernel_rfl!, by kernel_rfl!⟩
    case a19 => intro v0; show bindArgs _ _ = pure _; kernel_rfl!
    case a20 => exact ⟨by kernel_rfl!, fun _ _ _ => by kernel_rfl!, by kernel_rfl!, by kernel_rfl!, by kernel_rfl!⟩
    case a21 => intro v0 v1; show bindArgs _ _ = pure _; kernel_rfl!
    case a22 => exact ⟨by kernel_rfl!, fun _ _ _ => by kernel_rfl!, by kernel_rfl!, by kernel_rfl!, by kernel_rfl!, by kernel_rfl!⟩
    case a23 => intro v0; show bindArgs _ _ = pure _; kernel_rfl!
    case a24 => exact ⟨by kernel_rfl!, fun _ _ _ => by kernel_rfl!, by kernel_rfl!, by kernel_rfl!, by kernel_rfl!⟩
    case a25 => intro v0; show bindArgs _ _ = pure _; kernel_rfl!
    case a26 => exact ⟨by kernel_rfl!, fun _ _ _ => by kernel_rfl!, by kernel_rfl!, by kernel_rfl!, by kernel_rfl!⟩
    case a27 => intro v0 v1 v2; show bindArgs _ _ = pure _; kernel_rfl!
    case a28 => exact ⟨by kernel_rfl!, fun _ _ _ => by kernel_rfl!, by kernel_rfl!, by kernel_rfl!, by kernel_rfl!⟩
    case a29 => intro v0 v1 v2 v3; show bindArgs _ _ = pure _; kernel_rfl!
    case a30 => exact ⟨by kernel_rfl!, fun _ _ _ => by kernel_rfl!, by kernel_rfl!, by kernel_rfl!, by kernel_rfl!⟩
    case a31 => intro v0 v1 v2; show bindArgs _ _ = pure _; kernel_rfl!
    case a32 => exact ⟨by kernel_rfl!, fun _ _ _ => by kernel_rfl!, by kernel_rfl!, by kernel_rfl!, by kernel_rfl!⟩
    case a33 => intro v0 v1 v2; show bindArgs _ _ = pure _; kernel_rfl!
  case h10 =>
    intro h' tk' m' F'
    refine goodW_bool F' (by assumption) (raisesW_false ?_) ?_
    · wrow_none_raised
    · wrow_post
end Mine
theorem PySem.Challenge.cw_xv0001_11_holds : PySem.Challenge.rw_xv0001_11.Holds := by
  exact Mine.top