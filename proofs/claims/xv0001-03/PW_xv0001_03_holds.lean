import PyProof.Rows.All
import Wide.All
import OpenK.AllK
import Wide.FinOn
import PySem.Challenge.RW_xv0001_03
open PySem PySem.W PyProof.Rows PySem.Calls
set_option Elab.async false
set_option maxRecDepth 100000
namespace Mine
/-- a value without its token -/
inductive V where
  | unb | other | none
  | int (i : Int)
  | bool (b : Bool)
  | str (s : Str)
  | ref (a : Addr)
  | cell (a : Addr)
def absV : Value → V
  | .int i _ => .int i
  | .bool b => .bool b
  | .none => .none
  | .str s _ => .str s
  | .ref a => .ref a
  | _ => .other
inductive O where
  | list (vs : List V)
  | tup (vs : List V)
  | ro (vs : List V)
  | cell (v : V)
  | rng (a b c : Int)
  | dict (kvs : List (Int × Int))
abbrev HP := Addr → Option O
def hset (h : HP) (a : Addr) (o : O) : HP := fun b => if b = a then some o else h b
theorem hset_same {h : HP} {a : Addr} {o : O} : hset h a o a = some o := by simp [hset]
theorem hset_ne {h : HP} {a b : Addr} {o : O} (e : b ≠ a) : hset h a o b = h b := by simp [hset, e]
theorem hset_none {h : HP} {a b : Addr} {o : O} : hset h a o b = Option.none ↔ b ≠ a ∧ h b = Option.none := by
  unfold hset; by_cases e : b = a <;> simp [e]
/-- an exception under way: raised in this frame, or come up from a call -/
inductive Ex where
  | own (c : String)
  | up (c : String)
def Ex.cls : Ex → String
  | .own c => c
  | .up c => c
abbrev XT := Ex → HP → Prop
abbrev XC := String → HP → Prop
abbrev upX (X : XC) : XT := fun e h => X e.cls h
abbrev dnX (X : XT) : XC := fun c h => X (.up c) h
abbrev cX (X : XC) : XT := fun e h => match e with | .up c => X c h | .own _ => False
structure G where
  prog : Program
  w : World
  K : Frag
  p : Program
  loose : List Str
  mean : ExcName → Option Value
  mg : Str → Option Value
  mb : Str → Option Value
/-- the place of a comprehension that is under way -/
structure CP where
  C : Addr
  ksc : Scope
  kcl : List (Str × Addr)
  knames : List Str
  kl : List V
structure Cx where
  g : G
  A₀ : Around
  base : Heap
  h₀ : Heap
  outer : List Env
  L : Addr
  qn : Str
  fsc : Scope
  fa : Addr
  cd : Value
  cl : List (Str × Addr)
  cp : Option CP
abbrev Cx.fenv (c : Cx) : Env := envX c.qn c.fsc c.L c.fa c.cd c.cl
abbrev Cx.env (c : Cx) : Env := match c.cp with
  | none => c.fenv
  | some k => compEnvC k.ksc k.kcl k.C c.fenv
abbrev Cx.sc (c : Cx) : Scope := match c.cp with
  | none => c.fsc
  | some k => relabel k.ksc c.fenv
abbrev Cx.A (c : Cx) : Around := c.A₀.deeper c.fenv
abbrev Cx.fs (c : Cx) : List Addr := c.outer.filterMap (·.frame)
abbrev Cx.at (c : Cx) (g : Heap) : Cx := { c with h₀ := g }
structure Cx.Ok (c : Cx) : Prop where
  below : Below c.A₀ c.base c.outer c.h₀
  inK : c.g.K.In c.base
  top : Top c.g.p c.g.loose c.g.mean c.g.mg c.g.mb c.base
  dicts : KtsDicts c.fs c.h₀
  kind : c.sc.kind = .function
  fkind : c.fsc.kind = .function
  gen : c.fsc.isGenerator = false
  cor : c.fsc.isCoroutine = false
  hd : c.A₀.handled = none
  seer : c.base.NoSeer
  tree : c.g.prog.given.tree = none
def RepO : O → Obj → Prop
  | .list vs, o => ∃ items n, o = { cls := .type "list", data := .seq items n } ∧ items.toList.map absV = vs
  | .tup vs, o => ∃ items n, o = { cls := .type "tuple", data := .seq items n } ∧ items.toList.map absV = vs
  | .ro _, _ => False
  | .cell v, o => ∃ w : Option Value, o.data = .cell w ∧ (match w with | Option.none => v = .unb | some val => v ≠ .unb ∧ absV val = v)
  | .rng a b c, o => ∃ t u v, o = { cls := .type "range", dict := none, data := .fields #[.int a t, .int b u, .int c v], slots := #[] }
  | .dict _, _ => False
def HpRep (c : Cx) (hp : HP) (h : Heap) : Prop :=
  (∃ D : List Addr, ∀ a o, hp a = some o → a ∈ D) ∧
  ∀ a o, hp a = some o → match o with
    | .ro vs => ∃ items : Array Value, c.base.IsList a items ∧ items.toList.map absV = vs
    | o => ∃ ob, h.get? a = some ob ∧ RepO o ob ∧ a ≠ c.L ∧ c.h₀.get? a = none
def Loc (cl : List (Str × Addr)) (names : List Str) (l : List V) (m : Str → Option Value) : Prop :=
  ∀ (i : Nat) x v, names[i]? = some x → l[i]? = some v → v ≠ .unb → (∃ a, v = .cell a ∧ cl.lookup x = some a) ∨ ((∀ a, v ≠ .cell a) ∧ ∃ val, m x = some val ∧ absV val = v)
/-- an object that is the space of names m -/
def NsObj (o : Obj) (m : Str → Option Value) : Prop := ∃ es ep, o.data = .dict es ep ∧ StrKeys es ∧ ∀ name, nsFind es name = m name
def LocX (c : Cx) (names : List Str) (l : List V) (m : Str → Option Value) (fr : List (Addr × Obj)) : Prop := match c.cp with
  | none => Loc c.cl names l m
  | some k => Loc c.cl k.knames k.kl m ∧ ∃ oC m₂, (k.C, oC) ∈ fr ∧ NsObj oC m₂ ∧ Loc k.kcl names l m₂
theorem LocX.sub {c : Cx} {names l m fr fr'} (h : LocX c names l m fr) (hs : ∀ p ∈ fr, p ∈ fr') : LocX c names l m fr' := by
  unfold LocX at *
  split at h
  · exact h
  · obtain ⟨a, oC, m₂, b, c⟩ := h; exact ⟨a, oC, m₂, hs _ b, c⟩
theorem LocX.any {c : Cx} {names l m fr fr'} (h : LocX c names l m fr) (hc : c.cp = none) : LocX c names l m fr' := by
  unfold LocX at *
  rw [hc] at h ⊢; exact h
theorem LocX.plain {c : Cx} {names l m fr} (hc : c.cp = none) : LocX c names l m fr ↔ Loc c.cl names l m := by
  unfold LocX; rw [hc]
/-- the heap h of the frame c: its names bear l, its store hp, and the objects of fr stand as they are -/
def Rep0 (c : Cx) (names : List Str) (l : List V) (hp : HP) (fr : List (Addr × Obj)) (h : Heap) : Prop :=
  ∃ m, Fr c.h₀ c.L h m ∧ LocX c names l m fr ∧ HpRep c hp h ∧ News c.h₀ c.L h fr ∧ ∀ p ∈ fr, hp p.1 = Option.none
/-- the same, over a ground whose outer frames have turned -/
def Rep (c : Cx) (names : List Str) (l : List V) (hp : HP) (fr : List (Addr × Obj)) (h : Heap) : Prop :=
  ∃ g, KtsTurn c.fs c.h₀ g ∧ Rep0 (c.at g) names l hp fr h
def HpN (c : Cx) (hp : HP) (news : List (Addr × Obj)) : Prop :=
  (∃ D : List Addr, ∀ a o, hp a = some o → a ∈ D) ∧
  ∀ a o, hp a = some o → match o with
    | .ro vs => ∃ items : Array Value, c.base.IsList a items ∧ items.toList.map absV = vs
    | o => ∃ ob, (a, ob) ∈ news ∧ RepO o ob
/-- an exception under way in the frame c -/
def Raised (c : Cx) (names : List Str) (l : List V) (hp : HP) (fr : List (Addr × Obj)) (x : Ex) (e : Addr) (h' : Heap) : Prop :=
  (∀ p ∈ fr, hp p.1 = Option.none) ∧ ∃ g m hh, KtsTurn c.fs c.h₀ g ∧ Fr g c.L hh m ∧ LocX c names l m fr ∧
    ((∃ cls t vs news, x = .up cls ∧ hh.UpToSlots h' ∧ RaisedS c.base hh (c.fenv :: c.outer) e (.type cls) t vs (news ++ fr) h' ∧ HpN c hp news) ∨
     (∃ cls vs news, x = .own cls ∧ Heap.MadeExcOf hh h' e (.type cls) vs ∧ HpN c hp news ∧ News g c.L hh (news ++ fr)))
def XP (c : Cx) (names : List Str) (l : List V) (fr : List (Addr × Obj)) (X : XT) (E : Value → Shared → Prop) (s : Shared) : Prop :=
  ∀ cls e hp' h' tk', X cls hp' → Raised c names l hp' fr cls e h' → E (.ref e) { s with heap := h', toks := tk' }
theorem XP.call {c : Cx} {names : List Str} {l : List V} {fr : List (Addr × Obj)} {X : XT} {E : Value → Shared → Prop} {s s' : Shared} (h : XP c names l fr X E s) (e : ∀ h' tk', ({ s' with heap := h', toks := tk' } : Shared) = { s with heap := h', toks := tk' } := by intros; rfl) : XP c names l fr (cX (dnX X)) E s' := by
  intro x e' hp' h' tk' hx hr
  rw [e]
  cases x with
  | up c => exact h (.up c) e' hp' h' tk' hx hr
  | own c => exact hx.elim
/-- the tree t, run in the frame c over the store hp, ends in Q or raises into X -/
def W {α β : Type} (rel : β → α → Prop) (c : Cx) (names : List Str) (l : List V) (t : Sem α) (hp : HP) (Q : β → HP → Prop) (X : XT) : Prop :=
  ∀ (fr : List (Addr × Obj)) (s : Shared) (P : α → Shared → Prop) (E : Value → Shared → Prop), Rep c names l hp fr s.heap →
    (∀ b a hp' h' tk', Q b hp' → rel b a → Rep c names l hp' fr h' → P a { s with heap := h', toks := tk' }) →
    XP c names l fr X E s →
    wpAny (model c.g.prog c.g.w) c.A t P E s
def rV (v : V) (val : Value) : Prop := absV val = v
def rVs (vs : List V) (vals : List Value) : Prop := vals.map absV = vs
def rB (b b' : Bool) : Prop := b' = b
def room (c : Cx) (d : Nat) : Prop := c.A.depth + d + 200 < recursionLimit ∧ c.A.units + 8 * d + 200 < cLine
/-- a call of the def at f -/
def Calls (g : G) (d : Nat) (f : Addr) (args : List V) (kw : List (Str × V)) (hp : HP) (Q : V → HP → Prop) (X : XC) : Prop :=
  ∀ (c : Cx), c.g = g → c.Ok → room c d → ∀ (names : List Str) (l : List V) (vals : List Value) (kvals : List (Str × Value)),
    vals.map absV = args → (kvals.map fun p => (p.1, absV p.2)) = kw →
    W rV c names l (call (.ref f) vals kvals) hp Q (cX X)
set_option genSizeOf false
set_option genInjectivity false
inductive BOp where
  | add | sub | mul | fdiv | mod | pow | shl | shr | band
  deriving DecidableEq
inductive COp where
  | eq | ne | lt | le | gt | ge
  deriving DecidableEq
inductive Kd where
  | int | bool | list | tuple
  deriving DecidableEq
inductive ME where
  | var (i : Nat)
  | int (i : Int)
  | bool (b : Bool)
  | none
  | bin (o : BOp) (a b : ME)
  | neg (a : ME)
  | cmp (o : COp) (a b : ME)
  | chain (a : ME) (o : COp) (b : ME) (p : COp) (d : ME)
  | isn (a : ME) (pos : Bool)
  | not (a : ME)
  | and (a b : ME)
  | or (a b : ME)
  | ite (a b d : ME)
  | call (f : Nat) (as : ME)
  | callk (f : Nat) (as : ME) (k : String) (e : ME)
  | nil
  | cons (a b : ME)
  | tup (as : ME)
  | list (as : ME)
  | idx (a i : ME)
  | len (a : ME)
  | toInt (a : ME)
  | isi (a : ME) (k : Kd)
  | tv (a : ME)
  | slcF (a i : ME)
  | slcT (a i : ME)
  | listOf (a : ME)
  | tupOf (a : ME)
  | pop0 (a : ME)
  | app (a b : ME)
  | rev (a : ME)
  | bitlen (a : ME)
  | mn (a b : ME)
  | mx (a b : ME)
  | abs (a : ME)
  | dvm (a b : ME)
  | strOf (a : ME)
  | strC (x : String)
  | pow3 (a b e : ME)
  | cvar (i : Nat)
  | rng (a b e : ME)
  | revd (a : ME)
  | sorted (a : ME)
  | compR (lo hi st cond elt : ME) (caps : List Nat)
  | compL (it cond elt : ME) (caps : List Nat)
  | compU (n : Nat) (it cond elt : ME) (caps : List Nat)
/-- what a handler does -/
inductive MH where
  | retB (b : Bool)
  | retN
  | inc (i : Nat) (k : Int)
  | retS (x : String)
inductive TK where
  | expr | ret
  | asg (i : Nat)
inductive MS where
  | skip
  | seq (a b : MS)
  | asg (i : Nat) (e : ME)
  | asgN (is : List Nat) (es : ME)
  | unp (is : List Nat) (e : ME)
  | aug (i : Nat) (o : BOp) (e : ME)
  | setI (a i e : ME)
  | ite (c : ME) (a b : MS)
  | whil (c : ME) (a b : MS)
  | forR (i : Nat) (lo hi st : ME) (a : MS)
  | forL (i : Nat) (e : ME) (a : MS)
  | ret (e : ME)
  | brk
  | expr (e : ME)
  | forU (is : List Nat) (e : ME) (a : MS)
  | stop
  | raise (x : String)
  | raiseF (x : String) (es : ME)
  | casg (i : Nat) (e : ME)
  | asgC (is : List (Nat × Bool)) (es : ME)
  | unpC (is : List (Nat × Bool)) (e : ME)
  | tryE (t : TK) (e : ME) (x : String) (h : MH)
set_option genSizeOf true
set_option genInjectivity true
def truV : V → HP → (Bool → Prop) → Prop
  | .int i, _, Q => Q (i != 0)
  | .bool b, _, Q => Q b
  | _, _, _ => False
def intOk (i j : Int) : BOp → Prop
  | .mul => IntMulOk i j
  | .fdiv => j ≠ 0
  | .mod => j ≠ 0
  | .pow => 0 ≤ j ∧ (Builtin.Int.intBits i : Int) * j ≤ 2 ^ 27
  | .shl => 0 ≤ j ∧ (Builtin.Int.intBits i : Int) + j ≤ 2 ^ 27
  | .shr => 0 ≤ j
  | _ => True
def intOp (i j : Int) : BOp → Int
  | .add => i + j
  | .sub => i - j
  | .mul => i * j
  | .fdiv => i.fdiv j
  | .mod => i.fmod j
  | .pow => i ^ j.toNat
  | .shl => i * 2 ^ j.toNat
  | .shr => i.fdiv (2 ^ j.toNat)
  | .band => Builtin.bitAnd i j
def itemsOf : Option O → Option (List V)
  | some (.list vs) => some vs
  | some (.ro vs) => some vs
  | some (.tup vs) => some vs
  | some (.cell _) => Option.none
  | some (.rng _ _ _) => Option.none
  | some (.dict _) => Option.none
  | Option.none => Option.none
def rngL (a b c : Int) : List V := (List.range (Builtin.Range.rangeSize a b c).toNat).map fun (k : Nat) => V.int (a + k * c)
/-- the items of a list, a tuple or a range -/
def iterOf : Option O → Option (List V)
  | some (.rng a b c) => if Builtin.Range.small a b c then some (rngL a b c) else Option.none
  | o => itemsOf o
/-- the items of a list (not of a tuple) -/
def listAt : Option O → Option (List V)
  | some (.list vs) => some vs
  | some (.ro vs) => some vs
  | _ => Option.none
def newV (hp : HP) (o : O) (Q : V → HP → Prop) : Prop := ∀ r, hp r = Option.none → Q (.ref r) (hset hp r o)
def binV (o : BOp) (v w : V) (hp : HP) (Q : V → HP → Prop) : Prop :=
  match v, w with
  | .int i, .int j => intOk i j o ∧ Q (.int (intOp i j o)) hp
  | .ref a, .ref b => match o with
    | .add => ∃ vs ws, listAt (hp a) = some vs ∧ listAt (hp b) = some ws ∧ vs.length + ws.length ≤ sizeLine ∧ newV hp (.list (vs ++ ws)) Q
    | _ => False
  | _, _ => False
def augV (o : BOp) (v w : V) (hp : HP) (Q : V → HP → Prop) : Prop :=
  match v, w with
  | .int i, .int j => intOk i j o ∧ Q (.int (intOp i j o)) hp
  | _, _ => False
def cmpI (i j : Int) : COp → Bool
  | .eq => decide (i = j)
  | .ne => !decide (i = j)
  | .lt => decide (i < j)
  | .le => decide (i ≤ j)
  | .gt => decide (j < i)
  | .ge => decide (j ≤ i)
/-- two data compared by == (ints, and lists or tuples of ints) -/
def eqV : V → V → Option Bool
  | .int i, .int j => some (decide (i = j))
  | .bool a, .bool b => some (a == b)
  | .none, .none => some true
  | _, _ => Option.none
mutual
/-- the datum that a value reads as -/
inductive Rd (hp : HP) : V → PyData → Prop
  | int (i : Int) : Rd hp (.int i) (.int i)
  | bool (b : Bool) : Rd hp (.bool b) (.bool b)
  | none : Rd hp .none .none
  | str (x : Str) : Rd hp (.str x) (.str x)
  | list {a : Addr} {vs : List V} {ds : List PyData} : hp a = some (.list vs) → RdL hp vs ds → Rd hp (.ref a) (.list ds)
  | ro {a : Addr} {vs : List V} {ds : List PyData} : hp a = some (.ro vs) → RdL hp vs ds → Rd hp (.ref a) (.list ds)
  | tup {a : Addr} {vs : List V} {ds : List PyData} : hp a = some (.tup vs) → RdL hp vs ds → Rd hp (.ref a) (.tuple ds)
inductive RdL (hp : HP) : List V → List PyData → Prop
  | nil : RdL hp [] []
  | cons {v : V} {d : PyData} {vs : List V} {ds : List PyData} : Rd hp v d → RdL hp vs ds → RdL hp (v :: vs) (d :: ds)
end
def cmpV (o : COp) (v w : V) (hp : HP) (Q : Bool → Prop) : Prop :=
  match v, w, o with
  | .int i, .int j, o => Q (cmpI i j o)
  | v, w, .eq => ∃ d e, Rd hp v d ∧ Rd hp w e ∧ SeqAt.shaped d = true ∧ SeqAt.shaped e = true ∧ Q (PyData.eqv d e)
  | v, w, .ne => ∃ d e, Rd hp v d ∧ Rd hp w e ∧ SeqAt.shaped d = true ∧ SeqAt.shaped e = true ∧ Q (!PyData.eqv d e)
  | _, _, _ => False
def isNone : V → Option Bool
  | .none => some true
  | .int _ => some false
  | .bool _ => some false
  | .ref _ => some false
  | _ => Option.none
def isiV (v : V) (hp : HP) (k : Kd) (Q : Bool → Prop) : Prop :=
  match v, k with
  | .int _, .int => Q true
  | .int _, _ => Q false
  | .bool _, .int => Q true
  | .bool _, .bool => Q true
  | .bool _, _ => Q false
  | .ref a, k => (∃ vs, hp a = some (.list vs) ∧ Q (decide (k = .list))) ∨ (∃ vs, hp a = some (.tup vs) ∧ Q (decide (k = .tuple)))
  | _, _ => False
def lget : List V → Nat → V
  | [], _ => .unb
  | v :: _, 0 => v
  | _ :: r, n + 1 => lget r n
def lset : List V → Nat → V → List V
  | [], _, _ => []
  | _ :: r, 0, v => v :: r
  | x :: r, n + 1, v => x :: lset r n v
def lsetN : List V → List Nat → List V → List V
  | l, i :: is, v :: vs => lsetN (lset l i v) is vs
  | l, _, _ => l
def varV (l : List V) (i : Nat) (Q : V → Prop) : Prop :=
  match lget l i with
  | .unb => False
  | .cell _ => False
  | v => Q v
def idxV (v w : V) (hp : HP) (Q : V → Prop) : Prop :=
  match v, w with
  | .ref a, .int k => ∃ vs x, itemsOf (hp a) = some vs ∧ (vs.length : Int) < 2 ^ 62 ∧ -(vs.length : Int) ≤ k ∧ k < vs.length ∧
      vs[(if k < 0 then k + vs.length else k).toNat]? = some x ∧ Q x
  | _, _ => False
def lenV (v : V) (hp : HP) (Q : Int → Prop) : Prop :=
  match v with
  | .ref a => ∃ vs, itemsOf (hp a) = some vs ∧ (vs.length : Int) < 2 ^ 62 ∧ Q vs.length
  | .str x => (x.length : Int) < 2 ^ 62 ∧ Q x.length
  | _ => False
def slcV (from' : Bool) (v w : V) (hp : HP) (Q : V → HP → Prop) : Prop :=
  match v, w with
  | .ref a, .int k => ∃ vs, listAt (hp a) = some vs ∧ vs.length ≤ sizeLine ∧ 0 ≤ k ∧ newV hp (.list (match from' with | true => vs.drop k.toNat | false => vs.take k.toNat)) Q
  | _, _ => False
def lstV (v : V) (hp : HP) (Q : V → HP → Prop) : Prop :=
  match v with
  | .ref a => ∃ vs, iterOf (hp a) = some vs ∧ vs.length ≤ sizeLine ∧ newV hp (.list vs) Q
  | _ => False
def tupV (v : V) (hp : HP) (Q : V → HP → Prop) : Prop :=
  match v with
  | .ref a => ∃ vs, listAt (hp a) = some vs ∧ vs.length ≤ 16384 ∧ newV hp (.tup vs) Q
  | _ => False
def pop0V (v : V) (hp : HP) (Q : V → HP → Prop) : Prop :=
  match v with
  | .ref a => ∃ x vs, hp a = some (.list (x :: vs)) ∧ vs.length < sizeLine ∧ Q x (hset hp a (.list vs))
  | _ => False
def isLV (v : V) (hp : HP) (P : Prop) : Prop :=
  match v with
  | .ref a => (∃ vs, hp a = some (.list vs)) ∧ P
  | _ => False
def appV (v x : V) (hp : HP) (Q : V → HP → Prop) : Prop :=
  match v with
  | .ref a => ∃ vs, hp a = some (.list vs) ∧ vs.length ≤ sizeLine ∧ Q .none (hset hp a (.list (vs ++ [x])))
  | _ => False
def revV (v : V) (hp : HP) (Q : V → HP → Prop) : Prop :=
  match v with
  | .ref a => ∃ vs, hp a = some (.list vs) ∧ vs.length ≤ sizeLine ∧ Q .none (hset hp a (.list vs.reverse))
  | _ => False
def cvarV (l : List V) (i : Nat) (hp : HP) (Q : V → Prop) : Prop :=
  match lget l i with
  | .cell a => ∃ v, hp a = some (.cell v) ∧ v ≠ .unb ∧ Q v
  | _ => False
/-- the values that a comprehension keeps hold of -/
def capsV (l : List V) : List Nat → List V
  | [] => []
  | i :: r => lget l i :: capsV l r
def cellsB (l : List V) : List Nat → Bool
  | [] => true
  | i :: r => (match lget l i with | .cell _ => true | _ => false) && cellsB l r
/-- a comprehension over the values vs -/
def compI (test : List V → HP → (Bool → HP → Prop) → Prop) (elt : List V → HP → (V → HP → Prop) → Prop) (new : V → (List V → Prop) → HP → Prop) (vs : List V) (hp : HP) (K : HP → Prop) (Q : V → HP → Prop) : Prop :=
  ∃ I : Nat → List V → HP → Prop, I 0 [] hp ∧
    (∀ k x acc h, vs[k]? = some x → I k acc h → K h ∧ acc.length ≤ sizeLine ∧ new x (fun l => test l h fun t h1 =>
      (t = true → elt l h1 fun v h2 => I (k + 1) (acc ++ [v]) h2) ∧ (t = false → I (k + 1) acc h1)) h) ∧
    (∀ acc h, I vs.length acc h → K h ∧ newV h (.list acc) Q)
mutual
def ev (g : G) (d : Nat) : ME → List V → HP → (V → HP → Prop) → (XT) → Prop
  | .var i, l, hp, Q, _ => varV l i fun v => Q v hp
  | .int i, _, hp, Q, _ => Q (.int i) hp
  | .bool b, _, hp, Q, _ => Q (.bool b) hp
  | .none, _, hp, Q, _ => Q .none hp
  | .bin o a b, l, hp, Q, X => ev g d a l hp (fun v h1 => ev g d b l h1 (fun w h2 => binV o v w h2 Q) X) X
  | .neg a, l, hp, Q, X => ev g d a l hp (fun v h1 => match v with | .int i => Q (.int (-i)) h1 | _ => False) X
  | .cmp o a b, l, hp, Q, X => ev g d a l hp (fun v h1 => ev g d b l h1 (fun w h2 => cmpV o v w h2 fun t => Q (.bool t) h2) X) X
  | .chain a o b p e, l, hp, Q, X => ev g d a l hp (fun v h1 => ev g d b l h1 (fun w h2 => cmpV o v w h2 fun t =>
      (t = true → ev g d e l h2 (fun u h3 => cmpV p w u h3 fun t' => Q (.bool t') h3) X) ∧ (t = false → Q (.bool false) h2)) X) X
  | .isn a pos, l, hp, Q, X => ev g d a l hp (fun v h1 => match isNone v with | some b => Q (.bool (b == pos)) h1 | Option.none => False) X
  | .not a, l, hp, Q, X => ev g d a l hp (fun v h1 => truV v h1 fun t => Q (.bool (!t)) h1) X
  | .and a b, l, hp, Q, X => ev g d a l hp (fun v h1 => truV v h1 fun t => (t = true → ev g d b l h1 Q X) ∧ (t = false → Q v h1)) X
  | .or a b, l, hp, Q, X => ev g d a l hp (fun v h1 => truV v h1 fun t => (t = true → Q v h1) ∧ (t = false → ev g d b l h1 Q X)) X
  | .ite a b e, l, hp, Q, X => evT g d a l hp (fun t h1 => (t = true → ev g d b l h1 Q X) ∧ (t = false → ev g d e l h1 Q X)) X
  | .call f as, l, hp, Q, X => evs g d as l hp (fun vs h1 => Calls g d f vs [] h1 Q (dnX X)) X
  | .callk f as k e, l, hp, Q, X => evs g d as l hp (fun vs h1 => ev g d e l h1 (fun v h2 => Calls g d f vs [(Str.ofString k, v)] h2 Q (dnX X)) X) X
  | .tup as, l, hp, Q, X => evs g d as l hp (fun vs h1 => vs.length ≤ sizeLine ∧ ∀ r, h1 r = Option.none → Q (.ref r) (hset h1 r (.tup vs))) X
  | .list as, l, hp, Q, X => evs g d as l hp (fun vs h1 => vs.length ≤ sizeLine ∧ ∀ r, h1 r = Option.none → Q (.ref r) (hset h1 r (.list vs))) X
  | .idx a i, l, hp, Q, X => ev g d a l hp (fun v h1 => ev g d i l h1 (fun w h2 => idxV v w h2 fun x => Q x h2) X) X
  | .len a, l, hp, Q, X => ev g d a l hp (fun v h1 => lenV v h1 fun n => Q (.int n) h1) X
  | .toInt a, l, hp, Q, X => ev g d a l hp (fun v h1 => match v with | .int i => Q (.int i) h1 | _ => False) X
  | .isi a k, l, hp, Q, X => ev g d a l hp (fun v h1 => isiV v h1 k fun t => Q (.bool t) h1) X
  | .nil, _, _, _, _ => False
  | .cons _ _, _, _, _, _ => False
  | .tv _, _, _, _, _ => False
  | .slcF a i, l, hp, Q, X => ev g d a l hp (fun v h1 => ev g d i l h1 (fun w h2 => slcV true v w h2 Q) X) X
  | .slcT a i, l, hp, Q, X => ev g d a l hp (fun v h1 => ev g d i l h1 (fun w h2 => slcV false v w h2 Q) X) X
  | .listOf a, l, hp, Q, X => ev g d a l hp (fun v h1 => lstV v h1 Q) X
  | .tupOf a, l, hp, Q, X => ev g d a l hp (fun v h1 => tupV v h1 Q) X
  | .pop0 a, l, hp, Q, X => ev g d a l hp (fun v h1 => pop0V v h1 Q) X
  | .app a b, l, hp, Q, X => ev g d a l hp (fun v h1 => isLV v h1 (ev g d b l h1 (fun w h2 => appV v w h2 Q) X)) X
  | .rev a, l, hp, Q, X => ev g d a l hp (fun v h1 => revV v h1 Q) X
  | .bitlen a, l, hp, Q, X => ev g d a l hp (fun v h1 => match v with | .int i => Q (.int (Builtin.Int.intBits i)) h1 | _ => False) X
  | .mn a b, l, hp, Q, X => ev g d a l hp (fun v h1 => ev g d b l h1 (fun w h2 => match v, w with | .int i, .int j => Q (.int (if j < i then j else i)) h2 | _, _ => False) X) X
  | .mx a b, l, hp, Q, X => ev g d a l hp (fun v h1 => ev g d b l h1 (fun w h2 => match v, w with | .int i, .int j => Q (.int (if j > i then j else i)) h2 | _, _ => False) X) X
  | .abs a, l, hp, Q, X => ev g d a l hp (fun v h1 => match v with | .int i => Q (.int (if i < 0 then -i else i)) h1 | _ => False) X
  | .dvm a b, l, hp, Q, X => ev g d a l hp (fun v h1 => ev g d b l h1 (fun w h2 => match v, w with | .int i, .int j => j ≠ 0 ∧ newV h2 (.tup [.int (i.fdiv j), .int (i.fmod j)]) Q | _, _ => False) X) X
  | .strOf a, l, hp, Q, X => ev g d a l hp (fun v h1 => match v with | .int i => i.natAbs < 10 ^ 4300 ∧ Q (.str (Str.ofString (toString i))) h1 | _ => False) X
  | .cvar i, l, hp, Q, _ => cvarV l i hp fun v => Q v hp
  | .compR lo hi st cond elt caps, l, hp, Q, X => cellsB l caps = true ∧ ev g d lo l hp (fun x h1 => ev g d hi l h1 (fun y h2 => ev g d st l h2 (fun z h3 =>
      match x, y, z with
      | .int x, .int y, .int z => z ≠ 0 ∧ Builtin.Range.small x y z = true ∧ compI (fun l h R => evT g d cond l h R fun _ _ => False) (fun l h R => ev g d elt l h R fun _ _ => False) (fun v R _ => R (v :: capsV l caps))
          ((List.range (Builtin.Range.rangeSize x y z).toNat).map fun (k : Nat) => V.int (x + k * z)) h3 (fun _ => True) Q
      | _, _, _ => False) X) X) X
  | .compL it cond elt caps, l, hp, Q, X => cellsB l caps = true ∧ ev g d it l hp (fun v h1 => match v with
      | .ref r => ∃ vs, listAt (h1 r) = some vs ∧ (vs.length : Int) < 2 ^ 62 ∧ compI (fun l h R => evT g d cond l h R fun _ _ => False) (fun l h R => ev g d elt l h R fun _ _ => False) (fun v R _ => R (v :: capsV l caps)) vs h1 (fun h => h r = h1 r) Q
      | _ => False) X
  | .compU n it cond elt caps, l, hp, Q, X => cellsB l caps = true ∧ ev g d it l hp (fun v h1 => match v with
      | .ref r => ∃ vs, listAt (h1 r) = some vs ∧ (vs.length : Int) < 2 ^ 62 ∧ compI (fun l h R => evT g d cond l h R fun _ _ => False) (fun l h R => ev g d elt l h R fun _ _ => False)
          (fun v R h => match v with | .ref a => ∃ ws, h a = some (.tup ws) ∧ ws.length = n ∧ R (ws ++ capsV l caps) | _ => False) vs h1 (fun h => h r = h1 r) Q
      | _ => False) X
  | .rng a b e, l, hp, Q, X => ev g d a l hp (fun v h1 => ev g d b l h1 (fun w h2 => ev g d e l h2 (fun u h3 => match v, w, u with
      | .int i, .int j, .int k => k ≠ 0 ∧ newV h3 (.rng i j k) Q | _, _, _ => False) X) X) X
  | .revd a, l, hp, Q, X => ev g d a l hp (fun v h1 => match v with
      | .ref r => ∃ vs, listAt (h1 r) = some vs ∧ vs.length ≤ sizeLine ∧ newV h1 (.list vs.reverse) Q | _ => False) X
  | .sorted a, l, hp, Q, X => ev g d a l hp (fun v h1 => match v with
      | .ref r => ∃ ns : List Int, listAt (h1 r) = some (ns.map .int) ∧ ns.length < 64 ∧ ∀ ms : List Int, ms.Perm ns → ms.Pairwise (· ≤ ·) → newV h1 (.list (ms.map .int)) Q | _ => False) X
  | .strC x, _, hp, Q, _ => Q (.str (Str.ofString x)) hp
  | .pow3 a b e, l, hp, Q, X => ev g d a l hp (fun v h1 => ev g d b l h1 (fun w h2 => ev g d e l h2 (fun u h3 => match v, w, u with
      | .int i, .int j, .int k => 0 ≤ j ∧ 0 < k ∧ Q (.int ((i ^ j.toNat).fmod k)) h3 | _, _, _ => False) X) X) X
termination_by structural m => m
def evs (g : G) (d : Nat) : ME → List V → HP → (List V → HP → Prop) → (XT) → Prop
  | .nil, _, hp, Q, _ => Q [] hp
  | .cons a b, l, hp, Q, X => ev g d a l hp (fun v h1 => evs g d b l h1 (fun vs h2 => Q (v :: vs) h2) X) X
  | _, _, _, _, _ => False
termination_by structural m => m
def evT (g : G) (d : Nat) : ME → List V → HP → (Bool → HP → Prop) → (XT) → Prop
  | .cmp o a b, l, hp, Q, X => ev g d a l hp (fun v h1 => ev g d b l h1 (fun w h2 => cmpV o v w h2 fun t => Q t h2) X) X
  | .chain a o b p e, l, hp, Q, X => ev g d a l hp (fun v h1 => ev g d b l h1 (fun w h2 => cmpV o v w h2 fun t =>
      (t = true → ev g d e l h2 (fun u h3 => cmpV p w u h3 fun t' => Q t' h3) X) ∧ (t = false → Q false h2)) X) X
  | .not a, l, hp, Q, X => evT g d a l hp (fun t h1 => Q (!t) h1) X
  | .and a b, l, hp, Q, X => evT g d a l hp (fun t h1 => (t = true → evT g d b l h1 Q X) ∧ (t = false → Q false h1)) X
  | .or a b, l, hp, Q, X => evT g d a l hp (fun t h1 => (t = true → Q true h1) ∧ (t = false → evT g d b l h1 Q X)) X
  | .ite a b e, l, hp, Q, X => evT g d a l hp (fun t h1 => (t = true → evT g d b l h1 Q X) ∧ (t = false → evT g d e l h1 Q X)) X
  | .tv a, l, hp, Q, X => ev g d a l hp (fun v h1 => truV v h1 fun t => Q t h1) X
  | _, _, _, _, _ => False
termination_by structural m => m
end
inductive Out where
  | next | brk
  | ret (v : V)
def setV (v w x : V) (hp : HP) (Q : HP → Prop) : Prop :=
  match v, w with
  | .ref a, .int k => ∃ vs, hp a = some (.list vs) ∧ 0 ≤ k ∧ k < vs.length ∧ (vs.length : Int) < 2 ^ 62 ∧ Q (hset hp a (.list (vs.set k.toNat x)))
  | _, _ => False
def unpV (v : V) (n : Nat) (hp : HP) (Q : List V → Prop) : Prop :=
  match v with
  | .ref a => ∃ vs, hp a = some (.tup vs) ∧ vs.length = n ∧ Q vs
  | _ => False
/-- values put at places, of which some are cells -/
def putN (l : List V) : List (Nat × Bool) → List V → HP → (List V → HP → Prop) → Prop
  | [], [], hp, Q => Q l hp
  | (i, false) :: is, v :: vs, hp, Q => putN (lset l i v) is vs hp Q
  | (i, true) :: is, v :: vs, hp, Q => match lget l i with
    | .cell a => (∃ w, hp a = some (.cell w)) ∧ putN l is vs (hset hp a (.cell v)) Q
    | _ => False
  | _, _, _, _ => False
/-- a loop over the values vs -/
def forIn (turn : List V → HP → (Out → List V → HP → Prop) → Prop) (i : Nat) (vs : List V) (l : List V) (hp : HP) (K : HP → Prop) (Q : Out → List V → HP → Prop) : Prop :=
  ∃ I : Nat → List V → HP → Prop, I 0 l hp ∧
    (∀ k x l h, vs[k]? = some x → I k l h → K h ∧ turn (lset l i x) h (fun o l2 h2 => match o with
      | .next => I (k + 1) l2 h2 | .brk => Q .next l2 h2 | .ret v => Q (.ret v) l2 h2)) ∧
    (∀ l h, I vs.length l h → K h ∧ Q .next l h)
/-- a loop over rows that are taken apart -/
def forInU (turn : List V → HP → (Out → List V → HP → Prop) → Prop) (is : List Nat) (vs : List V) (l : List V) (hp : HP) (K : HP → Prop) (Q : Out → List V → HP → Prop) : Prop :=
  ∃ I : Nat → List V → HP → Prop, I 0 l hp ∧
    (∀ k x l h, vs[k]? = some x → I k l h → K h ∧ unpV x is.length h fun ys => turn (lsetN l is ys) h (fun o l2 h2 => match o with
      | .next => I (k + 1) l2 h2 | .brk => Q .next l2 h2 | .ret v => Q (.ret v) l2 h2)) ∧
    (∀ l h, I vs.length l h → K h ∧ Q .next l h)
def execH : MH → List V → HP → (Out → List V → HP → Prop) → Prop
  | .retB b, l, hp, Q => Q (.ret (.bool b)) l hp
  | .retN, l, hp, Q => Q (.ret .none) l hp
  | .inc i k, l, hp, Q => varV l i fun v => match v with | .int n => Q .next (lset l i (.int (n + k))) hp | _ => False
  | .retS x, l, hp, Q => newV hp (.tup [.str (Str.ofString x)]) fun v h1 => Q (.ret v) l h1
def whileI (test : List V → HP → (Bool → HP → Prop) → Prop) (turn els : List V → HP → (Out → List V → HP → Prop) → Prop) (l : List V) (hp : HP) (Q : Out → List V → HP → Prop) : Prop :=
  ∃ I : Nat → List V → HP → Prop, (∃ n, I n l hp) ∧ ∀ n l h, I n l h → test l h (fun t h1 =>
    (t = true → turn l h1 (fun o l2 h2 => match o with
      | .next => ∃ m, m < n ∧ I m l2 h2 | .brk => Q .next l2 h2 | .ret v => Q (.ret v) l2 h2)) ∧
    (t = false → els l h1 Q))
def sameLen : List V → List Nat → Bool
  | [], [] => true
  | _ :: r, _ :: t => sameLen r t
  | _, _ => false
theorem sameLen_len : ∀ {vs : List V} {is : List Nat}, sameLen vs is = true → vs.length = is.length
  | [], [], _ => rfl
  | [], _ :: _, h => by cases h
  | _ :: _, [], h => by cases h
  | _ :: r, _ :: t, h => by simp only [List.length_cons]; rw [sameLen_len (vs := r) (is := t) h]
abbrev noX : XT := fun _ _ => False
def exec (g : G) (d : Nat) : MS → List V → HP → (Out → List V → HP → Prop) → (XT) → Prop
  | .skip, l, hp, Q, _ => Q .next l hp
  | .seq a b, l, hp, Q, X => exec g d a l hp (fun o l1 h1 => match o with | .next => exec g d b l1 h1 Q X | .brk => Q .brk l1 h1 | .ret v => Q (.ret v) l1 h1) X
  | .asg i e, l, hp, Q, X => ev g d e l hp (fun v h1 => Q .next (lset l i v) h1) X
  | .asgN is es, l, hp, Q, X => evs g d es l hp (fun vs h1 => match sameLen vs is with | true => Q .next (lsetN l is vs) h1 | false => False) X
  | .unp is e, l, hp, Q, X => ev g d e l hp (fun v h1 => unpV v is.length h1 fun vs => Q .next (lsetN l is vs) h1) X
  | .aug i o e, l, hp, Q, X => varV l i fun v => ev g d e l hp (fun w h1 => augV o v w h1 fun r h2 => Q .next (lset l i r) h2) X
  | .setI a i e, l, hp, Q, X => ev g d e l hp (fun x h1 => ev g d a l h1 (fun v h2 => ev g d i l h2 (fun w h3 => setV v w x h3 fun h4 => Q .next l h4) X) X) X
  | .ite c a b, l, hp, Q, X => evT g d c l hp (fun t h1 => (t = true → exec g d a l h1 Q X) ∧ (t = false → exec g d b l h1 Q X)) X
  | .whil c a b, l, hp, Q, _ => whileI (fun l h R => evT g d c l h R noX) (fun l h R => exec g d a l h R noX) (fun l h R => exec g d b l h R noX) l hp Q
  | .forR i lo hi st a, l, hp, Q, X => ev g d lo l hp (fun x h1 => ev g d hi l h1 (fun y h2 => ev g d st l h2 (fun z h3 =>
      match x, y, z with
      | .int x, .int y, .int z => z ≠ 0 ∧ Builtin.Range.small x y z = true ∧ forIn (fun l h R => exec g d a l h R noX) i ((List.range (Builtin.Range.rangeSize x y z).toNat).map fun (k : Nat) => V.int (x + k * z)) l h3 (fun _ => True) Q
      | _, _, _ => False) X) X) X
  | .forL i e a, l, hp, Q, X => ev g d e l hp (fun v h1 => match v with
      | .ref r => ∃ vs, iterOf (h1 r) = some vs ∧ (vs.length : Int) < 2 ^ 62 ∧ forIn (fun l h R => exec g d a l h R noX) i vs l h1 (fun h => h r = h1 r) Q
      | _ => False) X
  | .ret e, l, hp, Q, X => ev g d e l hp (fun v h1 => Q (.ret v) l h1) X
  | .brk, l, hp, Q, _ => Q .brk l hp
  | .expr e, l, hp, Q, X => ev g d e l hp (fun _ h1 => Q .next l h1) X
  | .forU is e a, l, hp, Q, X => ev g d e l hp (fun v h1 => match v with
      | .ref r => ∃ vs, iterOf (h1 r) = some vs ∧ (vs.length : Int) < 2 ^ 62 ∧ forInU (fun l h R => exec g d a l h R noX) is vs l h1 (fun h => h r = h1 r) Q
      | _ => False) X
  | .stop, _, _, _, _ => False
  | .casg i e, l, hp, Q, X => ev g d e l hp (fun v h1 => match lget l i with | .cell a => (∃ w, h1 a = some (.cell w)) ∧ Q .next l (hset h1 a (.cell v)) | _ => False) X
  | .asgC is es, l, hp, Q, X => evs g d es l hp (fun vs h1 => putN l is vs h1 fun l2 h2 => Q .next l2 h2) X
  | .unpC is e, l, hp, Q, X => ev g d e l hp (fun v h1 => unpV v is.length h1 fun vs => putN l is vs h1 fun l2 h2 => Q .next l2 h2) X
  | .raise x, _, hp, _, X => X (.own x) hp
  | .raiseF x es, l, hp, _, X => evs g d es l hp (fun vs h1 => match vs with | [.int n, .int k] => n.natAbs < 10 ^ 4300 ∧ k.natAbs < 10 ^ 4300 ∧ X (.own x) h1 | _ => False) X
  | .tryE t e x h, l, hp, Q, _ => ev g d e l hp (fun v h1 => match t with
      | .expr => Q .next l h1
      | .ret => Q (.ret v) l h1
      | .asg i => Q .next (lset l i v) h1) (fun c h1 => match c with
      | .up c => c = x ∧ execH h l h1 Q
      | .own _ => False)
structure Fx where
  g : G
  gt : List (Str × Addr)
  bt : List Str
  names : List Str
  sc : Scope
  top : Bool
  tr : Bool
/-- ValueError stands as the built-in one -/
def catchOk (g : G) : Prop := (Str.ofString "ValueError") ∉ startupNames ∧ (Str.ofString "ValueError") ∉ g.loose ∧ (Str.ofString "ValueError") ∉ (recsOf g.p).map (·.name) ∧
  (Str.ofString "ValueError") ∉ (litsOf g.p).map (·.1) ∧ (Str.ofString "ValueError") ∉ (clssOf g.p g.loose).map (·.name)
structure Fx.Ok (F : Fx) : Prop where
  gt : ∀ x a, F.gt.lookup x = some a → nsIn F.g.K mainGlobals x = some (some (.ref a)) ∧ keepIn F.g.K (.ref a) = true
  bt : ∀ x ∈ F.bt, nsIn F.g.K mainGlobals x = some Option.none
  nd : F.names.Nodup
  tr : F.tr = true → catchOk F.g
/-- the frame c is one of F -/
def SCF (c : Cx) (F : Fx) : Prop := c.sc = F.sc ∧ (F.top = true → c.cp = none) ∧ (F.top = true → (F.sc.names.all fun y => !(y.2 == .cell)) = true → c.cl = [])
def SE (F : Fx) (e : Expr) (m : ME) : Prop := ∀ c d, F.Ok → c.g = F.g → SCF c F → c.Ok → room c d → ∀ l hp Q X, ev F.g d m l hp Q X → W rV c F.names l (eval e c.env) hp Q X
def ST (F : Fx) (e : Expr) (m : ME) : Prop := ∀ c d, F.Ok → c.g = F.g → SCF c F → c.Ok → room c d → ∀ l hp Q X, evT F.g d m l hp Q X → ∀ whole, whole = eval e c.env → W rB c F.names l (isTrue e c.env whole) hp Q X
def SEs (F : Fx) (es : List Expr) (m : ME) : Prop := ∀ c d, F.Ok → c.g = F.g → SCF c F → c.Ok → room c d → ∀ l hp Q X, evs F.g d m l hp Q X → ∀ pos, W rVs c F.names l (spliced (backTo pos (starEach es c.env))) hp Q X
def notStar : Expr → Bool
  | .Starred .. => false
  | _ => true
theorem starEach_plain : ∀ (es : List Expr) (env : Env), es.all notStar = true → starEach es env = es.map fun e => (false, eval e env)
  | [], _, _ => rfl
  | e :: r, env, h => by
    simp only [List.all_cons, Bool.and_eq_true] at h
    have ih := starEach_plain r env h.2
    have : starEach (e :: r) env = (false, eval e env) :: starEach r env := by
      cases e <;> first | rfl | (exact absurd h.1 (by simp [notStar]))
    rw [this, ih]; rfl
theorem starEach_cons {e : Expr} {r : List Expr} {env : Env} (h : notStar e = true) : starEach (e :: r) env = (false, eval e env) :: starEach r env := by
  cases e <;> first | rfl | (exact absurd h (by simp [notStar]))
theorem backTo_any {es : List Expr} {env : Env} {pos : Pos} (h : es.all notStar = true) : (backTo pos (starEach es env)).any (·.1) = false := by
  rw [starEach_plain es env h]
  induction es with
  | nil => rfl
  | cons e r ih =>
    simp only [List.all_cons, Bool.and_eq_true] at h
    have := ih h.2
    simp only [backTo, List.map_cons, List.any_cons, Bool.false_or] at this ⊢
    exact this
theorem lget_some {v : V} : ∀ {l : List V} {i : Nat}, lget l i = v → v ≠ .unb → l[i]? = some v
  | [], _, h, n => absurd h.symm n
  | _ :: _, 0, h, _ => by simp [lget] at h; simp [h]
  | _ :: r, i + 1, h, n => by simp only [lget] at h; simpa using lget_some (l := r) h n
theorem Cx.env_scope (c : Cx) : c.env.scope = c.sc := by unfold Cx.env Cx.sc; cases c.cp <;> rfl
theorem Cx.env_globals (c : Cx) : c.env.globals = mainGlobals := by unfold Cx.env; cases c.cp <;> rfl
theorem Cx.env_builtins (c : Cx) : c.env.builtins = builtinsNs := by unfold Cx.env; cases c.cp <;> rfl
theorem Cx.env_kindOf (c : Cx) (x : Str) : c.env.kindOf x = c.sc.names.lookup x := by rw [← c.env_scope]; rfl
theorem Cx.env_plain {c : Cx} (h : c.cp = none) : c.env = c.fenv := by unfold Cx.env; rw [h]
theorem Cx.sc_plain {c : Cx} (h : c.cp = none) : c.sc = c.fsc := by unfold Cx.sc; rw [h]
theorem Cx.Ok.turn {c : Cx} (ok : c.Ok) {g : Heap} (T : KtsTurn c.fs c.h₀ g) : (c.at g).Ok :=
  ⟨⟨ok.below.stack, fun b o e => T.other b o (ok.below.stays b o e) (fun hm => by rw [(ok.below.frames.mem hm).1] at e; cases e), ok.below.frames.of_keeps fun b o e _ => by
    obtain ⟨sl, hs⟩ := T.up e
    exact ⟨_, hs, rfl⟩⟩, ok.inK, ok.top, ok.dicts.turn T, ok.kind, ok.fkind, ok.gen, ok.cor, ok.hd, ok.seer, ok.tree⟩
theorem Rep.locals {c : Cx} {names l hp fr h} {i : Nat} {x : Str} {v : V} (R : Rep c names l hp fr h) (hx : names[i]? = some x) (hv : lget l i = v) (hn : v ≠ .unb) (hc : ∀ a, v ≠ .cell a) :
    ∃ m val, h.Ns c.env.locals m ∧ m x = some val ∧ absV val = v := by
  obtain ⟨g, T, m, F, lo, _, N, _⟩ := R
  unfold LocX at lo
  unfold Cx.env
  split at lo
  · rename_i e
    rcases lo i x v hx (lget_some hv hn) hn with ⟨a, q, _⟩ | ⟨_, val, a, b⟩
    · exact absurd q (hc a)
    · have e : c.cp = none := e
      rw [e]
      exact ⟨m, val, F.ns, a, b⟩
  · rename_i k e
    obtain ⟨_, oC, m₂, hm, ⟨es, ep, hd, r⟩, lo⟩ := lo
    rcases lo i x v hx (lget_some hv hn) hn with ⟨a, q, _⟩ | ⟨_, val, a, b⟩
    · exact absurd q (hc a)
    · have e : c.cp = some k := e
      rw [e]
      exact ⟨m₂, val, ⟨oC, es, ep, (N _ hm).1, hd, r⟩, a, b⟩
/-- the cell of a name -/
theorem Rep.cellOf {c : Cx} {names l hp fr h} {i : Nat} {x : Str} {a : Addr} (R : Rep c names l hp fr h) (hx : names[i]? = some x) (hv : lget l i = .cell a) : c.env.cells.lookup x = some a := by
  obtain ⟨g, T, m, F, lo, _, N, _⟩ := R
  unfold LocX at lo
  unfold Cx.env
  split at lo
  · rename_i e
    have e : c.cp = none := e
    rw [e]
    rcases lo i x _ hx (lget_some hv (by simp)) (by simp) with ⟨b, q, r⟩ | ⟨q, _⟩
    · cases q; exact r
    · exact absurd rfl (q a)
  · rename_i k e
    have e : c.cp = some k := e
    rw [e]
    obtain ⟨_, oC, m₂, hm, _, lo⟩ := lo
    rcases lo i x _ hx (lget_some hv (by simp)) (by simp) with ⟨b, q, r⟩ | ⟨q, _⟩
    · cases q; exact r
    · exact absurd rfl (q a)
theorem varV_iff {l : List V} {i : Nat} {Q : V → Prop} : varV l i Q ↔ (lget l i ≠ .unb ∧ ∀ a, lget l i ≠ .cell a) ∧ Q (lget l i) := by
  unfold varV; cases lget l i <;> simp
theorem Rep.keep {c : Cx} {names l hp fr h} (ok : c.Ok) (R : Rep c names l hp fr h) : ∀ b o, c.base.get? b = some o → h.get? b = some o :=
  let ⟨_, T, _, F, _⟩ := R; fun b o e => F.keep b o ((ok.turn T).below.stays b o e)
section
variable {F : Fx}
theorem se_var {x : Str} {pos : Pos} {i : Nat} (hi : F.names[i]? = some x) (hk : F.sc.names.lookup x = some .local) (hd : (x == ("__debug__" : Str)) = false) : SE F (.Name x pos) (.var i) := by
  intro c d FO hg hsc ok rm l hp Q X hev fr s P E R hP hX
  obtain ⟨⟨hn, hc⟩, hQ⟩ := varV_iff.mp hev
  obtain ⟨m, val, hns, hm, hab⟩ := R.locals hi rfl hn hc
  exact wpAny_Name (wpAny_loadName_local (by rw [c.env_scope]; exact ok.kind) (by rw [c.env_kindOf, hsc.1]; exact hk) hns hm (hP _ val hp s.heap s.toks hQ hab R)) hd
theorem se_cvar {x : Str} {pos : Pos} {i : Nat} (hi : F.names[i]? = some x) (hk : F.sc.names.lookup x = some .cell) (hd : (x == ("__debug__" : Str)) = false) : SE F (.Name x pos) (.cvar i) := by
  intro c d FO hg hsc ok rm l hp Q X hev fr s P E R hP hX
  have hev : cvarV l i hp fun v => Q v hp := hev
  unfold cvarV at hev
  split at hev
  · rename_i a e
    obtain ⟨v, h1, hn, hQ⟩ := hev
    have hcl := R.cellOf hi e
    obtain ⟨g, T, m, Fm, lo, H, N, D⟩ := id R
    obtain ⟨ob, ho, ⟨w, hd', hw⟩, _⟩ := H.2 a _ h1
    cases w with
    | none => exact absurd hw hn
    | some val => exact wpAny_Name (wpAny_loadName_cell (by rw [c.env_scope]; exact ok.kind) (by rw [c.env_kindOf, hsc.1]; exact hk) hcl ⟨ob, ho, hd'⟩ (hP _ val hp s.heap s.toks hQ hw.2 R)) hd
  · exact hev.elim
theorem se_int {i : Int} {k pos} : SE F (.Constant (.int i) k pos) (.int i) := by
  intro c d FO hg hsc ok rm l hp Q X hev fr s P E R hP hX
  exact wpAny_Constant_int (hP _ _ hp s.heap _ hev rfl R)
theorem se_bool {b : Bool} {k pos} : SE F (.Constant (.bool b) k pos) (.bool b) := by
  intro c d FO hg hsc ok rm l hp Q X hev fr s P E R hP hX
  exact Constant_bool (hP _ _ hp s.heap s.toks hev rfl R)
theorem se_none {k pos} : SE F (.Constant .none k pos) .none := by
  intro c d FO hg hsc ok rm l hp Q X hev fr s P E R hP hX
  exact wpAny_Constant_none (hP _ _ hp s.heap s.toks hev rfl R)
def opOf : Operator → Option BOp
  | .Add => some .add | .Sub => some .sub | .Mult => some .mul | .FloorDiv => some .fdiv | .Mod => some .mod
  | .Pow => some .pow | .LShift => some .shl | .RShift => some .shr | .BitAnd => some .band | _ => Option.none
theorem absV_int {v : Value} {i : Int} (h : absV v = .int i) : ∃ t, v = .int i t := by
  cases v <;> simp [absV] at h
  subst h; exact ⟨_, rfl⟩
theorem absV_bool {v : Value} {b : Bool} (h : absV v = .bool b) : v = .bool b := by
  cases v <;> simp [absV] at h
  subst h; rfl
theorem absV_str {v : Value} {x : Str} (h : absV v = .str x) : ∃ t, v = .str x t := by
  cases v <;> simp [absV] at h
  subst h; exact ⟨_, rfl⟩
theorem absV_ref {v : Value} {a : Addr} (h : absV v = .ref a) : v = .ref a := by
  cases v <;> simp [absV] at h
  subst h; rfl
theorem absV_none {v : Value} (h : absV v = .none) : v = .none := by
  cases v <;> simp [absV] at h
  rfl
theorem pylong {c : Cx} {names l hp fr} {s : Shared} {d : Nat} (ok : c.Ok) (rm : room c d) (R : Rep c names l hp fr s.heap) : PylongRoom (model c.g.prog c.g.w) c.A s := by
  refine PylongRoom.of (ok.top.nolimit.keeps (R.keep ok)) ?_ (SeerAt.of (ok.seer.keeps (R.keep ok)) ok.tree (Around.frames_deeper ok.below.stack) ok.gen ok.cor rfl rfl)
  have h1 := rm.1
  have : Builtin.pylongFrames = 100 := rfl
  omega
theorem se_neg {a : Expr} {pos} {ma : ME} (ha : SE F a ma) : SE F (.UnaryOp .USub a pos) (.neg ma) := by
  intro c d FO hg hsc ok rm l hp Q X hev fr s P E R hP hX
  refine UnaryOp_ (ha c d FO hg hsc ok rm l hp _ X hev fr s _ E R (fun v x h1 hh tk hq hx R1 => ?_) hX)
  split at hq
  · obtain ⟨t, rfl⟩ := absV_int hx
    exact PyProof.Rows.neg_int (hP _ _ h1 hh _ hq rfl R1)
  · exact hq.elim
theorem truS {c : Cx} {names : List Str} {l : List V} {hp : HP} {X : XT} {Q : Bool → HP → Prop} {v : V} {x : Value} (h : truV v hp fun t => Q t hp) (hx : absV x = v) : W rB c names l (truthy x) hp Q X := by
  intro fr s P E R hP hX
  cases v with
  | int i =>
    obtain ⟨t, rfl⟩ := absV_int hx
    exact PyProof.Rows.truthy_int (hP _ _ hp s.heap s.toks h rfl R)
  | bool b =>
    cases absV_bool hx
    exact wpAny_truthy_bool (hP _ _ hp s.heap s.toks h rfl R)
  | _ => exact h.elim
def cmpOf : CmpOp → Option COp
  | .Eq => some .eq | .NotEq => some .ne | .Lt => some .lt | .LtE => some .le | .Gt => some .gt | .GtE => some .ge | _ => Option.none
theorem se_ite {a b e : Expr} {pos} {ma mb me : ME} (ha : ST F a ma) (hb : SE F b mb) (he : SE F e me) : SE F (.IfExp a b e pos) (.ite ma mb me) := by
  intro c d FO hg hsc ok rm l hp Q X hev fr s P E R hP hX
  refine IfExp_ (ha c d FO hg hsc ok rm l hp _ X hev _ rfl fr s _ E R (fun v x h1 hh tk hq hx R1 => ?_) hX)
  cases hx
  cases v with
  | true => rw [if_pos rfl]; exact hb c d FO hg hsc ok rm l h1 _ X (hq.1 rfl) fr _ _ E R1 hP hX
  | false => rw [if_neg (by decide)]; exact he c d FO hg hsc ok rm l h1 _ X (hq.2 rfl) fr _ _ E R1 hP hX
theorem se_not {a : Expr} {pos} {ma : ME} (ha : SE F a ma) (hun : ∀ M A v s (Q : Value → Shared → Prop) E, wpAny M A (truthy v) (fun t s' => Q (.bool (!t)) s') E s → wpAny M A (unaryOp .Not v) Q E s) : SE F (.UnaryOp .Not a pos) (.not ma) := by
  intro c d FO hg hsc ok rm l hp Q X hev fr s P E R hP hX
  refine UnaryOp_ (ha c d FO hg hsc ok rm l hp _ X hev fr s _ E R (fun v x h1 hh tk hq hx R1 => ?_) hX)
  refine hun _ _ _ _ _ _ (truS (Q := fun t h => Q (.bool (!t)) h) hq hx fr _ _ E R1 (fun u z h3 hh3 tk3 hq3 hz R3 => ?_) hX)
  cases hz
  exact hP _ _ h3 hh3 tk3 hq3 rfl R3
theorem st_not {a : Expr} {pos} {ma : ME} (ha : ST F a ma) : ST F (.UnaryOp .Not a pos) (.not ma) := by
  intro c d FO hg hsc ok rm l hp Q X hev whole hw fr s P E R hP hX
  refine isTrue_not (ha c d FO hg hsc ok rm l hp _ X hev _ rfl fr s _ E R (fun v x h1 hh tk hq hx R1 => ?_) hX)
  cases hx
  exact hP _ _ h1 hh tk hq rfl R1
theorem st_ite {a b e : Expr} {pos} {ma mb me : ME} (ha : ST F a ma) (hb : ST F b mb) (he : ST F e me) : ST F (.IfExp a b e pos) (.ite ma mb me) := by
  intro c d FO hg hsc ok rm l hp Q X hev whole hw fr s P E R hP hX
  refine isTrue_IfExp (ha c d FO hg hsc ok rm l hp _ X hev _ rfl fr s _ E R (fun v x h1 hh tk hq hx R1 => ?_) hX)
  cases hx
  cases v with
  | true => rw [if_pos rfl]; exact hb c d FO hg hsc ok rm l h1 _ X (hq.1 rfl) _ rfl fr _ _ E R1 hP hX
  | false => rw [if_neg (by decide)]; exact he c d FO hg hsc ok rm l h1 _ X (hq.2 rfl) _ rfl fr _ _ E R1 hP hX
def plainTest : Expr → Bool
  | .BoolOp .. => false
  | .UnaryOp .. => false
  | .Compare .. => false
  | .IfExp .. => false
  | .NamedExpr .. => false
  | _ => true
theorem st_tv {e : Expr} {m : ME} (hp : plainTest e = true) (h : SE F e m) : ST F e (.tv m) := by
  intro c d FO hg hsc ok rm l hp' Q X hev whole hw fr s P E R hP hX
  subst hw
  refine isTrue_plain (h c d FO hg hsc ok rm l hp' _ X hev fr s _ E R (fun v x h1 hh tk hq hx R1 => ?_) hX) ?_
  · exact truS (Q := Q) hq hx fr _ _ E R1 hP hX
  · cases e <;> first | rfl | (exact absurd hp (by simp [plainTest]))
end
theorem base_lt {c : Cx} (ok : c.Ok) {m h a} {items : Array Value} (Fm : Fr c.h₀ c.L h m) (hb : c.base.IsList a items) : a < h.objs.size := by
  obtain ⟨o, ho, _⟩ := hb
  exact Heap.lt_size (Fm.keep _ _ (ok.below.stays _ _ ho))
def pick (hp : HP) (h : Heap) (a : Addr) : Option (Addr × Obj) :=
  match hp a with
  | some (.list _) => (h.get? a).map (a, ·)
  | some (.tup _) => (h.get? a).map (a, ·)
  | some (.cell _) => (h.get? a).map (a, ·)
  | some (.rng _ _ _) => (h.get? a).map (a, ·)
  | some (.dict _) => (h.get? a).map (a, ·)
  | _ => Option.none
theorem HpRep.news {c : Cx} {hp : HP} {h : Heap} (H : HpRep c hp h) : ∃ news, News c.h₀ c.L h news ∧ HpN c hp news := by
  obtain ⟨⟨D, hD⟩, hH⟩ := H
  refine ⟨D.filterMap (pick hp h), fun p hp' => ?_, ⟨D, hD⟩, fun a o ho => ?_⟩
  · obtain ⟨a, ha, e⟩ := List.mem_filterMap.mp hp'
    unfold pick at e
    split at e
    all_goals first
      | (rename_i q; have := hH a _ q; dsimp only at this; obtain ⟨ob, h1, _, h3, h4⟩ := this
         rw [h1] at e; simp only [Option.map_some, Option.some.injEq] at e; subst e; exact ⟨h1, h3, h4⟩)
      | cases e
  · have := hH a o ho
    cases o with
    | ro vs => exact this
    | list vs =>
      obtain ⟨ob, h1, h2, _⟩ := this
      exact ⟨ob, List.mem_filterMap.mpr ⟨a, hD a _ ho, by simp only [pick, ho, h1, Option.map_some]⟩, h2⟩
    | tup vs =>
      obtain ⟨ob, h1, h2, _⟩ := this
      exact ⟨ob, List.mem_filterMap.mpr ⟨a, hD a _ ho, by simp only [pick, ho, h1, Option.map_some]⟩, h2⟩
    | cell vs =>
      obtain ⟨ob, h1, h2, _⟩ := this
      exact ⟨ob, List.mem_filterMap.mpr ⟨a, hD a _ ho, by simp only [pick, ho, h1, Option.map_some]⟩, h2⟩
    | rng _ _ _ =>
      obtain ⟨ob, h1, h2, _⟩ := this
      exact ⟨ob, List.mem_filterMap.mpr ⟨a, hD a _ ho, by simp only [pick, ho, h1, Option.map_some]⟩, h2⟩
    | dict _ =>
      obtain ⟨ob, h1, h2, _⟩ := this
      exact ⟨ob, List.mem_filterMap.mpr ⟨a, hD a _ ho, by simp only [pick, ho, h1, Option.map_some]⟩, h2⟩
theorem HpN.rep {c : Cx} {hp : HP} {h : Heap} {news : List (Addr × Obj)} (H : HpN c hp news) (N : News c.h₀ c.L h news) : HpRep c hp h := by
  refine ⟨H.1, fun a o ho => ?_⟩
  have := H.2 a o ho
  cases o with
  | ro vs => exact this
  | list vs => obtain ⟨ob, h1, h2⟩ := this; exact ⟨ob, (N _ h1).1, h2, (N _ h1).2⟩
  | tup vs => obtain ⟨ob, h1, h2⟩ := this; exact ⟨ob, (N _ h1).1, h2, (N _ h1).2⟩
  | cell vs => obtain ⟨ob, h1, h2⟩ := this; exact ⟨ob, (N _ h1).1, h2, (N _ h1).2⟩
  | rng _ _ _ => obtain ⟨ob, h1, h2⟩ := this; exact ⟨ob, (N _ h1).1, h2, (N _ h1).2⟩
  | dict _ => obtain ⟨ob, h1, h2⟩ := this; exact ⟨ob, (N _ h1).1, h2, (N _ h1).2⟩
theorem Rep0.parts {c : Cx} {names l hp fr h} (R : Rep0 c names l hp fr h) :
    ∃ m news, Fr c.h₀ c.L h m ∧ LocX c names l m fr ∧ HpN c hp news ∧ News c.h₀ c.L h (news ++ fr) ∧ ∀ p ∈ fr, hp p.1 = Option.none := by
  obtain ⟨m, Fm, lo, H, N, D⟩ := R
  obtain ⟨news, N1, H1⟩ := H.news
  exact ⟨m, news, Fm, lo, H1, N1.append N, D⟩
theorem Rep.parts {c : Cx} {names l hp fr h} (R : Rep c names l hp fr h) :
    ∃ g m news, KtsTurn c.fs c.h₀ g ∧ Fr g c.L h m ∧ LocX c names l m fr ∧ HpN c hp news ∧ News g c.L h (news ++ fr) ∧ ∀ p ∈ fr, hp p.1 = Option.none := by
  obtain ⟨g, T, R⟩ := R
  obtain ⟨m, news, r⟩ := R.parts
  exact ⟨g, m, news, T, r⟩
theorem News.left' {h₀ h : Heap} {L : Addr} {a b : List (Addr × Obj)} (N : News h₀ L h (a ++ b)) : News h₀ L h a := fun p hp => N p (List.mem_append_left _ hp)
theorem News.right' {h₀ h : Heap} {L : Addr} {a b : List (Addr × Obj)} (N : News h₀ L h (a ++ b)) : News h₀ L h b := fun p hp => N p (List.mem_append_right _ hp)
theorem Rep.of {c : Cx} {names l hp fr h m news g} (T : KtsTurn c.fs c.h₀ g) (Fm : Fr g c.L h m) (lo : LocX c names l m fr) (H : HpN c hp news) (N : News g c.L h (news ++ fr)) (D : ∀ p ∈ fr, hp p.1 = Option.none) : Rep c names l hp fr h :=
  ⟨g, T, m, Fm, lo, HpN.rep (c := c.at g) H (News.left' N), News.right' N, D⟩
theorem Rep.fresh {c : Cx} {names l hp fr h} (ok : c.Ok) (R : Rep c names l hp fr h) : hp h.objs.size = Option.none ∧ ∀ p ∈ fr, p.1 ≠ h.objs.size := by
  obtain ⟨g, T, m, Fm, lo, H, N, D⟩ := R
  have ok := ok.turn T
  constructor
  · cases q : hp h.objs.size with
    | none => rfl
    | some o =>
      have := H.2 _ _ q
      cases o with
      | ro vs => obtain ⟨it, hb, _⟩ := this; exact absurd (base_lt ok Fm hb) (Nat.lt_irrefl _)
      | list vs => obtain ⟨ob, h1, _⟩ := this; exact absurd (Heap.lt_size h1) (Nat.lt_irrefl _)
      | tup vs => obtain ⟨ob, h1, _⟩ := this; exact absurd (Heap.lt_size h1) (Nat.lt_irrefl _)
      | cell vs => obtain ⟨ob, h1, _⟩ := this; exact absurd (Heap.lt_size h1) (Nat.lt_irrefl _)
      | rng _ _ _ => obtain ⟨ob, h1, _⟩ := this; exact absurd (Heap.lt_size h1) (Nat.lt_irrefl _)
      | dict _ => obtain ⟨ob, h1, _⟩ := this; exact absurd (Heap.lt_size h1) (Nat.lt_irrefl _)
  · intro p hp' e
    exact absurd (Heap.lt_size (N p hp').1) (by rw [e]; exact Nat.lt_irrefl _)
/-- a new object enters -/
theorem Rep.more {c : Cx} {names : List Str} {l : List V} {hp : HP} {fr news : List (Addr × Obj)} {h' : Heap} {m : Str → Option Value} {r : Addr} {ob : Obj} {o : O} {g : Heap} (T : KtsTurn c.fs c.h₀ g) (Fm : Fr g c.L h' m) (lo : LocX c names l m fr) (H : HpN c hp news) (N : News g c.L h' ((r, ob) :: (news ++ fr)))
    (D : ∀ p ∈ fr, hp p.1 = Option.none) (hr : hp r = Option.none) (hf : ∀ p ∈ fr, p.1 ≠ r) (ho : RepO o ob) : Rep c names l (hset hp r o) fr h' := by
  refine Rep.of (news := (r, ob) :: news) T Fm lo ⟨?_, fun a x hx => ?_⟩ N fun p hp' => hset_none.mpr ⟨hf p hp', D p hp'⟩
  · obtain ⟨Dm, hD⟩ := H.1
    refine ⟨r :: Dm, fun a x hx => ?_⟩
    by_cases e : a = r
    · exact e ▸ .head _
    · rw [hset_ne e] at hx; exact .tail _ (hD a x hx)
  · by_cases e : a = r
    · subst e
      rw [hset_same] at hx
      cases hx
      cases o with
      | ro vs => exact ho.elim
      | list vs => exact ⟨ob, .head _, ho⟩
      | tup vs => exact ⟨ob, .head _, ho⟩
      | cell vs => exact ⟨ob, .head _, ho⟩
      | rng _ _ _ => exact ⟨ob, .head _, ho⟩
      | dict _ => exact ⟨ob, .head _, ho⟩
    · rw [hset_ne e] at hx
      have := H.2 a x hx
      cases x with
      | ro vs => exact this
      | list vs => obtain ⟨ob', h1, h2⟩ := this; exact ⟨ob', .tail _ h1, h2⟩
      | tup vs => obtain ⟨ob', h1, h2⟩ := this; exact ⟨ob', .tail _ h1, h2⟩
      | cell vs => obtain ⟨ob', h1, h2⟩ := this; exact ⟨ob', .tail _ h1, h2⟩
      | rng _ _ _ => obtain ⟨ob', h1, h2⟩ := this; exact ⟨ob', .tail _ h1, h2⟩
      | dict _ => obtain ⟨ob', h1, h2⟩ := this; exact ⟨ob', .tail _ h1, h2⟩
theorem newTupleS {c : Cx} {names l hp Q X} {vs : List V} {vals : List Value} (ok : c.Ok) (hv : vals.map absV = vs) (hsz : vs.length ≤ sizeLine)
    (h : ∀ r, hp r = Option.none → Q (.ref r) (hset hp r (.tup vs))) : W rV c names l (newTuple vals) hp Q X := by
  intro fr s P E R hP hX
  obtain ⟨f1, f2⟩ := R.fresh ok
  obtain ⟨g, m, news, T, Fm, lo, H, N, D⟩ := R.parts
  refine newTuple_N Fm N (fun h' F' N' => hP _ _ _ h' _ (h _ f1) rfl ?_) (by rw [← hv, List.length_map] at hsz; exact hsz)
  exact Rep.more T F' lo H N' D f1 f2 ⟨vals.toArray, _, rfl, by simpa using hv⟩
theorem newListS {c : Cx} {names l hp Q X} {vs : List V} {vals : List Value} (ok : c.Ok) (hv : vals.map absV = vs) (hsz : vs.length ≤ sizeLine)
    (h : ∀ r, hp r = Option.none → Q (.ref r) (hset hp r (.list vs))) : W rV c names l (newList vals) hp Q X := by
  intro fr s P E R hP hX
  obtain ⟨f1, f2⟩ := R.fresh ok
  obtain ⟨g, m, news, T, Fm, lo, H, N, D⟩ := R.parts
  refine newList_N Fm N (fun h' F' N' => hP _ _ _ h' _ (h _ f1) rfl ?_) (by rw [← hv, List.length_map] at hsz; exact hsz)
  exact Rep.more T F' lo H N' D f1 f2 ⟨vals.toArray, _, rfl, by simpa using hv⟩
/-- what a place of the store holds, in the heap -/
theorem Rep.items {c : Cx} {names l hp fr h} {a : Addr} {vs : List V} (ok : c.Ok) (R : Rep c names l hp fr h) (e : itemsOf (hp a) = some vs) :
    ∃ items : Array Value, items.toList.map absV = vs ∧ ((h.IsList a items ∧ ∀ ws, hp a ≠ some (.tup ws)) ∨ (IsTup h a items ∧ hp a = some (.tup vs))) := by
  obtain ⟨g, T, m, Fm, lo, H, N, D⟩ := R
  have ok := ok.turn T
  cases q : hp a with
  | none => rw [q] at e; cases e
  | some o =>
    have := H.2 _ _ q
    rw [q] at e
    cases o with
    | ro ws =>
      cases e
      obtain ⟨it, ⟨ob, h1, h2⟩, h3⟩ := this
      exact ⟨it, h3, .inl ⟨⟨ob, Fm.keep _ _ (ok.below.stays _ _ h1), h2⟩, by intro ws; simp⟩⟩
    | list ws =>
      cases e
      obtain ⟨ob, h1, ⟨it, n, rfl, h2⟩, _⟩ := this
      exact ⟨it, h2, .inl ⟨⟨_, h1, rfl, n, rfl⟩, by intro ws; simp⟩⟩
    | tup ws =>
      cases e
      obtain ⟨ob, h1, ⟨it, n, rfl, h2⟩, _⟩ := this
      exact ⟨it, h2, .inr ⟨⟨_, h1, rfl, n, rfl⟩, rfl⟩⟩
    | cell ws => cases e
    | rng _ _ _ => cases e
    | dict _ => cases e
theorem lenS {c : Cx} {names l hp X} {Q : V → HP → Prop} {v : V} {x : Value} (ok : c.Ok) (h : lenV v hp fun n => Q (.int n) hp) (hx : absV x = v) : W rV c names l (call (.builtin "len") [x]) hp Q X := by
  intro fr s P E R hP hX
  cases v with
  | ref a =>
    cases absV_ref hx
    obtain ⟨vs, e, hfit, hq⟩ := h
    obtain ⟨items, hi, hl⟩ := R.items ok e
    have hsz : (items.size : Int) = vs.length := by rw [← hi]; simp
    rw [← hsz] at hq
    rcases hl with ⟨hl, _⟩ | ⟨hl, _⟩
    · exact call_len_list hl (by omega) (hP _ _ hp s.heap _ hq rfl R)
    · exact len_tuple hl (by omega) (hP _ _ hp s.heap _ hq rfl R)
  | str y =>
    obtain ⟨t, rfl⟩ := absV_str hx
    exact PySem.P.len_str (by have := h.1; omega) (hP _ _ hp s.heap _ h.2 rfl R)
  | _ => exact h.elim
def sliceOf : Expr → Bool
  | .Slice .. => true
  | _ => false
theorem sub_plain {slice : Expr} (h : sliceOf slice = false) (o i : Value) : subscripted slice false o i = operate [o, i] (getItem o i) := by
  cases slice <;> first | rfl | (exact absurd h (by simp [sliceOf]))
theorem idxS {c : Cx} {names l hp X} {Q : V → HP → Prop} {v w : V} {x y : Value} {value slice : Expr} (ok : c.Ok) (hs : sliceOf slice = false) (h : idxV v w hp fun u => Q u hp) (hx : absV x = v) (hy : absV y = w) : W rV c names l (subscriptTail value slice x y) hp Q X := by
  intro fr s P E R hP hX
  unfold idxV at h
  split at h
  · rename_i a k
    cases absV_ref hx
    obtain ⟨t, rfl⟩ := absV_int hy
    obtain ⟨vs, u, e, hfit, hlo, hhi, hu, hq⟩ := h
    obtain ⟨items, hi, hl⟩ := R.items ok e
    have hsz : items.size = vs.length := by rw [← hi]; simp
    replace hu : items.toList[(if k < 0 then k + vs.length else k).toNat]?.map absV = some u := by rw [← List.getElem?_map, hi]; exact hu
    cases hit : items.toList[(if k < 0 then k + vs.length else k).toNat]? with
    | none => rw [hit] at hu; cases hu
    | some z =>
      rw [hit] at hu
      simp only [Option.map_some, Option.some.injEq] at hu
      rw [Array.getElem?_toList] at hit
      rcases hl with ⟨hl, _⟩ | ⟨hl, _⟩
      · refine tail_any hl.typeIs slot_list_getitem.lookup ?_ (sub_plain hs _ _)
        by_cases hk : k < 0
        · rw [if_pos hk] at hit
          exact wpAny_getItem_list_neg hl hk (by omega) (by omega) (by rw [hsz]; exact hit) (hP _ _ hp s.heap s.toks hq hu R)
        · rw [if_neg hk] at hit
          exact wpAny_getItem_list hl (by omega) (by omega) hit (hP _ _ hp s.heap s.toks hq hu R)
      · refine tail_any hl.typeIs slot_tuple_getitem.lookup ?_ (sub_plain hs _ _)
        refine getItem_tuple hl (j := (if k < 0 then k + vs.length else k).toNat) (by omega) (by omega) ?_ hit (hP _ _ hp s.heap s.toks hq hu R)
        unfold seqIndex?
        rw [hsz]
        by_cases hk : k < 0
        · simp only [hk, if_true]
          rw [if_pos (by simp only [Bool.and_eq_true, decide_eq_true_eq]; omega)]
        · simp only [hk, if_false]
          rw [if_pos (by simp only [Bool.and_eq_true, decide_eq_true_eq]; omega)]
  · exact h.elim
theorem Rep.listI {c : Cx} {names l hp fr h} {a : Addr} {vs : List V} (ok : c.Ok) (R : Rep c names l hp fr h) (e : listAt (hp a) = some vs) :
    ∃ items : Array Value, items.toList.map absV = vs ∧ h.IsList a items := by
  have e' : itemsOf (hp a) = some vs := by
    cases q : hp a with
    | none => rw [q] at e; cases e
    | some o => rw [q] at e; cases o <;> first | exact e | cases e
  obtain ⟨items, hi, hl⟩ := R.items ok e'
  rcases hl with ⟨hl, _⟩ | ⟨_, hl⟩
  · exact ⟨items, hi, hl⟩
  · rw [hl] at e; cases e
mutual
theorem Rep.reads {c : Cx} {names l hp fr h} (ok : c.Ok) (R : Rep c names l hp fr h) : ∀ {v : V} {d : PyData}, Rd hp v d → ∀ {x : Value}, absV x = v → ∃ as, Reads h x d as
  | _, _, .int i, x, hx => by obtain ⟨t, rfl⟩ := absV_int hx; exact ⟨_, .int i t⟩
  | _, _, .bool b, x, hx => by cases absV_bool hx; exact ⟨_, .bool b⟩
  | _, _, .none, x, hx => by cases absV_none hx; exact ⟨_, .none⟩
  | _, _, .str y, x, hx => by
    cases x <;> simp only [absV, reduceCtorEq, V.str.injEq] at hx
    subst hx; exact ⟨_, .str _ _⟩
  | _, _, .list (a := a) e r, x, hx => by
    cases absV_ref hx
    obtain ⟨items, hi, hl⟩ := R.listI ok (a := a) (by rw [e]; rfl)
    obtain ⟨as, ra⟩ := Rep.readsL ok R r hi
    obtain ⟨o, ho, hc, n, hd⟩ := hl
    exact ⟨_, Reads.list ho hc hd ra⟩
  | _, _, .ro (a := a) e r, x, hx => by
    cases absV_ref hx
    obtain ⟨items, hi, hl⟩ := R.listI ok (a := a) (by rw [e]; rfl)
    obtain ⟨as, ra⟩ := Rep.readsL ok R r hi
    obtain ⟨o, ho, hc, n, hd⟩ := hl
    exact ⟨_, Reads.list ho hc hd ra⟩
  | _, _, .tup (a := a) e r, x, hx => by
    cases absV_ref hx
    obtain ⟨items, hi, hl⟩ := R.items ok (a := a) (by rw [e]; rfl)
    obtain ⟨as, ra⟩ := Rep.readsL ok R r hi
    rcases hl with ⟨_, hl⟩ | ⟨hl, _⟩
    · exact absurd e (hl _)
    · obtain ⟨o, ho, hc, n, hd⟩ := hl
      exact ⟨_, Reads.tuple ho hc hd ra⟩
theorem Rep.readsL {c : Cx} {names l hp fr h} (ok : c.Ok) (R : Rep c names l hp fr h) : ∀ {vs : List V} {ds : List PyData}, RdL hp vs ds → ∀ {xs : List Value}, xs.map absV = vs → ∃ as, ReadsAll h xs ds as
  | _, _, .nil, xs, hx => by
    have : xs = [] := by simpa using hx
    subst this; exact ⟨_, .nil⟩
  | _, _, .cons r rs, xs, hx => by
    cases xs with
    | nil => simp at hx
    | cons y ys =>
      simp only [List.map_cons, List.cons.injEq] at hx
      obtain ⟨as, ra⟩ := Rep.reads ok R r hx.1
      obtain ⟨bs, rb⟩ := Rep.readsL ok R rs hx.2
      exact ⟨_, .cons ra rb⟩
end
section
variable {F : Fx}
theorem binS {o : Operator} {b : BOp} (ho : opOf o = some b) {c : Cx} {d : Nat} (ok : c.Ok) (rm : room c d) {names l hp Q X} {v w : V} {x y : Value}
    (h : binV b v w hp Q) (hx : absV x = v) (hy : absV y = w) : W rV c names l (binaryOp o x y) hp Q X := by
  intro fr s P E R hP hX
  unfold binV at h
  split at h
  · rename_i i j
    obtain ⟨t, rfl⟩ := absV_int hx
    obtain ⟨u, rfl⟩ := absV_int hy
    obtain ⟨hok, hq⟩ := h
    cases o <;> simp only [opOf, Option.some.injEq, reduceCtorEq] at ho <;> subst ho
    · exact PyProof.Rows.add_int (hP _ _ hp s.heap _ hq rfl R)
    · exact PyProof.Rows.sub_int (hP _ _ hp s.heap _ hq rfl R)
    · exact PyProof.Rows.mul_int (hP _ _ hp s.heap _ hq rfl R) hok
    · exact mod_int' hok (hP _ _ hp s.heap _ hq rfl R)
    · exact PyProof.Rows.pow_int hok.1 hok.2 (hP _ _ hp s.heap _ hq rfl R)
    · exact PyProof.Rows.lshift_int hok.1 hok.2 (hP _ _ hp s.heap _ hq rfl R)
    · exact PyProof.Rows.rshift_int hok (hP _ _ hp s.heap _ hq rfl R)
    · exact PyProof.Rows.and_int (hP _ _ hp s.heap _ hq rfl R)
    · exact floordiv_int hok (hP _ _ hp s.heap _ hq rfl R) (.inr (pylong ok rm R))
  · rename_i a b'
    cases absV_ref hx
    cases absV_ref hy
    cases o <;> simp only [opOf, Option.some.injEq, reduceCtorEq] at ho <;> subst ho <;> first | exact h.elim | skip
    obtain ⟨vs, ws, e1, e2, hsz, hn⟩ := h
    obtain ⟨i1, hi1, hl1⟩ := R.listI ok e1
    obtain ⟨i2, hi2, hl2⟩ := R.listI ok e2
    obtain ⟨f1, f2⟩ := R.fresh ok
    obtain ⟨g, m, news, T, Fm, lo, H, N, D⟩ := R.parts
    refine PyProof.Rows.add_arrays Fm N hl1 hl2 (fun h' F' N' => hP _ _ _ h' _ (hn _ f1) rfl ?_) (by rw [← hi1, ← hi2] at hsz; simpa using hsz)
    exact Rep.more T F' lo H N' D f1 f2 ⟨_, _, rfl, by simp [← hi1, ← hi2]⟩
  · exact h.elim
theorem se_bin {a b : Expr} {o : Operator} {pos} {ma mb : ME} {bo : BOp} (ho : opOf o = some bo) (ha : SE F a ma) (hb : SE F b mb) : SE F (.BinOp a o b pos) (.bin bo ma mb) := by
  intro c d FO hg hsc ok rm l hp Q X hev fr s P E R hP hX
  refine wpAny_BinOp (ha c d FO hg hsc ok rm l hp _ X hev fr s _ E R (fun v x h1 hh tk hq hx R1 => ?_) hX)
  refine hb c d FO hg hsc ok rm l h1 _ X hq fr _ _ E R1 (fun w y h2 hh2 tk2 hq2 hy R2 => ?_) hX
  exact binS ho ok rm hq2 hx hy fr _ _ E R2 hP hX
theorem cmpS {o : CmpOp} {b : COp} (ho : cmpOf o = some b) {c : Cx} {d : Nat} (ok : c.Ok) (rm : room c d) {names : List Str} {l : List V} {hp : HP} {X : XT} {Q : Bool → HP → Prop} {v w : V} {x y : Value}
    (h : cmpV b v w hp fun t => Q t hp) (hx : absV x = v) (hy : absV y = w) : W rV c names l (compareOp o x y) hp (fun u h' => ∃ t, u = .bool t ∧ Q t h') X := by
  intro fr s P E R hP hX
  unfold cmpV at h
  split at h
  · rename_i i j
    obtain ⟨t, rfl⟩ := absV_int hx
    obtain ⟨u, rfl⟩ := absV_int hy
    cases o <;> simp only [cmpOf, Option.some.injEq, reduceCtorEq] at ho <;> subst ho
    · exact PyProof.Rows.eq_int (hP _ _ hp s.heap s.toks ⟨_, rfl, h⟩ rfl R)
    · exact PyProof.Rows.ne_int (hP _ _ hp s.heap s.toks ⟨_, rfl, h⟩ rfl R)
    · exact PyProof.Rows.lt_int (hP _ _ hp s.heap s.toks ⟨_, rfl, h⟩ rfl R)
    · exact PyProof.Rows.le_int (hP _ _ hp s.heap s.toks ⟨_, rfl, h⟩ rfl R)
    · exact PyProof.Rows.gt_int (hP _ _ hp s.heap s.toks ⟨_, rfl, h⟩ rfl R)
    · exact PyProof.Rows.ge_int (hP _ _ hp s.heap s.toks ⟨_, rfl, h⟩ rfl R)
  · obtain ⟨d', e, rd, re, sd, se, hq⟩ := h
    obtain ⟨as, ra⟩ := R.reads ok rd hx
    obtain ⟨bs, rb⟩ := R.reads ok re hy
    cases o <;> simp only [cmpOf, Option.some.injEq, reduceCtorEq] at ho
    exact eq_dataH ra rb sd se (by have := rm.2; omega) (hP _ _ hp s.heap s.toks ⟨_, rfl, hq⟩ rfl R)
  · obtain ⟨d', e, rd, re, sd, se, hq⟩ := h
    obtain ⟨as, ra⟩ := R.reads ok rd hx
    obtain ⟨bs, rb⟩ := R.reads ok re hy
    cases o <;> simp only [cmpOf, Option.some.injEq, reduceCtorEq] at ho
    exact ne_dataH ra rb sd se (by have := rm.2; omega) (hP _ _ hp s.heap s.toks ⟨_, rfl, hq⟩ rfl R)
  · exact h.elim
theorem notIn_of_cmpOf {o : CmpOp} {b : COp} (ho : cmpOf o = some b) (e : Expr) : behindInMarks o e = false := by
  cases o <;> simp only [cmpOf, reduceCtorEq] at ho <;> cases e <;> first | rfl | simp [behindInMarks]
theorem se_cmp {a b : Expr} {o : CmpOp} {pos} {ma mb : ME} {bo : COp} (ho : cmpOf o = some bo) (ha : SE F a ma) (hb : SE F b mb) : SE F (.Compare a [o] [b] pos) (.cmp bo ma mb) := by
  intro c d FO hg hsc ok rm l hp Q X hev fr s P E R hP hX
  refine wpAny_Compare1 (ha c d FO hg hsc ok rm l hp _ X hev fr s _ E R (fun v x h1 hh tk hq hx R1 => ?_) hX) (notIn_of_cmpOf ho b)
  refine hb c d FO hg hsc ok rm l h1 _ X hq fr _ _ E R1 (fun w y h2 hh2 tk2 hq2 hy R2 => ?_) hX
  refine cmpS (Q := fun t h => Q (.bool t) h) ho ok rm hq2 hx hy fr _ _ E R2 (fun u z h3 hh3 tk3 hq3 hz R3 => ?_) hX
  obtain ⟨t, rfl, hq4⟩ := hq3
  exact hP _ _ h3 hh3 tk3 hq4 hz R3
theorem st_cmp {a b : Expr} {o : CmpOp} {pos} {ma mb : ME} {bo : COp} (ho : cmpOf o = some bo) (ha : SE F a ma) (hb : SE F b mb) : ST F (.Compare a [o] [b] pos) (.cmp bo ma mb) := by
  intro c d FO hg hsc ok rm l hp Q X hev whole hw fr s P E R hP hX
  refine wpAny_isTrue_Compare1 (ha c d FO hg hsc ok rm l hp _ X hev fr s _ E R (fun v x h1 hh tk hq hx R1 => ?_) hX) (notIn_of_cmpOf ho b)
  refine hb c d FO hg hsc ok rm l h1 _ X hq fr _ _ E R1 (fun w y h2 hh2 tk2 hq2 hy R2 => ?_) hX
  refine cmpS (Q := fun t h => Q t h) ho ok rm hq2 hx hy fr _ _ E R2 (fun u z h3 hh3 tk3 hq3 hz R3 => ?_) hX
  obtain ⟨t, rfl, hq4⟩ := hq3
  exact truS (Q := Q) (show truV (.bool t) h3 _ from hq4) hz fr _ _ E R3 hP hX
end
section
variable {F : Fx}
theorem ses_nil : SEs F [] .nil := by
  intro c d FO hg hsc ok rm l hp Q X hev pos fr s P E R hP hX
  exact spliced_none (hP _ _ hp s.heap s.toks hev rfl R)
theorem ses_cons {e : Expr} {es : List Expr} {m ms : ME} (hn : notStar e = true) (he : SE F e m) (hes : SEs F es ms) : SEs F (e :: es) (.cons m ms) := by
  intro c d FO hg hsc ok rm l hp Q X hev pos fr s P E R hP hX
  refine spliced_more (he c d FO hg hsc ok rm l hp _ X hev fr s _ E R (fun v x h1 hh tk hq hx R1 => ?_) hX) (starEach_cons hn)
  refine hes c d FO hg hsc ok rm l h1 _ X hq pos fr _ _ E R1 (fun vs xs h2 hh2 tk2 hq2 hxs R2 => ?_) hX
  exact hP _ _ h2 hh2 tk2 hq2 (by show absV x :: xs.map absV = _; rw [hx, hxs]) R2
theorem se_tup {es : List Expr} {ms : ME} {k pos} (hes : SEs F es ms) : SE F (.Tuple es k pos) (.tup ms) := by
  intro c d FO hg hsc ok rm l hp Q X hev fr s P E R hP hX
  refine Tuple_ (hes c d FO hg hsc ok rm l hp _ X hev pos fr s _ E R (fun vs xs h1 hh tk hq hx R1 => ?_) hX)
  exact newTupleS ok hx hq.1 hq.2 fr _ _ E R1 hP hX
theorem se_list {es : List Expr} {ms : ME} {pos} (hes : SEs F es ms) : SE F (.List es pos) (.list ms) := by
  intro c d FO hg hsc ok rm l hp Q X hev fr s P E R hP hX
  refine List_ (hes c d FO hg hsc ok rm l hp _ X hev pos fr s _ E R (fun vs xs h1 hh tk hq hx R1 => ?_) hX)
  exact newListS ok hx hq.1 hq.2 fr _ _ E R1 hP hX
theorem se_idx {a i : Expr} {pos} {ma mi : ME} (hs : sliceOf i = false) (ha : SE F a ma) (hi : SE F i mi) : SE F (.Subscript a i pos) (.idx ma mi) := by
  intro c d FO hg hsc ok rm l hp Q X hev fr s P E R hP hX
  refine Subscript_ (ha c d FO hg hsc ok rm l hp _ X hev fr s _ E R (fun v x h1 hh tk hq hx R1 => ?_) hX)
  refine hi c d FO hg hsc ok rm l h1 _ X hq fr _ _ E R1 (fun w y h2 hh2 tk2 hq2 hy R2 => ?_) hX
  exact idxS ok hs hq2 hx hy fr _ _ E R2 hP hX
/-- a global name that a def of the text bears -/
theorem nameG {c : Cx} (FO : F.Ok) (hg : c.g = F.g) (hsc : SCF c F) (ok : c.Ok) {x : Str} {p : Pos} {a : Addr} (hx : F.gt.lookup x = some a) (hk : F.sc.names.lookup x = some .globalImplicit)
    (hd : (x == ("__debug__" : Str)) = false) {names l hp fr} {s : Shared} {P E : Value → Shared → Prop} (R : Rep c names l hp fr s.heap) (h : P (.ref a) s) :
    wpAny (model c.g.prog c.g.w) c.A (eval (.Name x p) c.env) P E s := by
  exact Name_function_global (by rw [c.env_scope]; exact ok.kind) (by rw [c.env_kindOf, hsc.1]; exact hk) (loadGlobal_global (by rw [c.env_globals]; exact (topRead_of ok.top).g.keeps (R.keep ok)) (mg_of ok.inK (topRead_of ok.top).g (by rw [hg]; exact (FO.gt x a hx).1)) h) hd
theorem nameB {c : Cx} (FO : F.Ok) (hg : c.g = F.g) (hsc : SCF c F) (ok : c.Ok) {x : Str} {p : Pos} {v : Value} (hx : x ∈ F.bt) (hv : bootBuiltins x = some v) (hk : F.sc.names.lookup x = some .globalImplicit)
    (hd : (x == ("__debug__" : Str)) = false) (hnm : x ≠ "__name__") {names l hp fr} {s : Shared} {P E : Value → Shared → Prop} (R : Rep c names l hp fr s.heap) (h : P v s) :
    wpAny (model c.g.prog c.g.w) c.A (eval (.Name x p) c.env) P E s := by
  exact Name_function_global (by rw [c.env_scope]; exact ok.kind) (by rw [c.env_kindOf, hsc.1]; exact hk) (loadGlobal_builtin (by rw [c.env_globals]; exact (topRead_of ok.top).g.keeps (R.keep ok)) (mg_none_of ok.inK (topRead_of ok.top).g (by rw [hg]; exact FO.bt x hx)) (by rw [c.env_builtins]; exact (topRead_of ok.top).b.keeps (R.keep ok)) (((topRead_of ok.top).builtins x hnm).trans hv) h) hd
theorem Rep.inK {c : Cx} (ok : c.Ok) {names l hp fr h} (R : Rep c names l hp fr h) : c.g.K.In h := ok.inK.keeps (R.keep ok)
theorem se_call {x : Str} {p pos : Pos} {a : Addr} {e : Expr} {es : List Expr} {ms : ME} (hx : F.gt.lookup x = some a) (hk : F.sc.names.lookup x = some .globalImplicit) (hd : (x == ("__debug__" : Str)) = false)
    (hn : (e :: es).all notStar = true) (hes : SEs F (e :: es) ms) : SE F (.Call (.Name x p) (e :: es) [] pos) (.call a ms) := by
  intro c d FO hg hsc ok rm l hp Q X hev fr s P E R hP hX
  simp only [List.all_cons, Bool.and_eq_true] at hn
  refine Call_ (nameG FO hg hsc ok hx hk hd R ?_) rfl
  refine callWith_K ok.inK (by rw [hg]; exact (FO.gt x a hx).2) ?_ (starEach_cons hn.1) (backTo_any hn.2)
  refine hes c d FO hg hsc ok rm l hp _ X hev pos fr s _ E R (fun vs xs h1 hh tk hq hxs R1 => ⟨R1.inK ok, ?_⟩) hX
  rw [List.nil_append]
  exact hq c hg ok rm F.names l xs [] hxs rfl fr _ _ E R1 hP hX.call
theorem se_callk {x k : Str} {p pos kp : Pos} {a : Addr} {e v : Expr} {es : List Expr} {ms mv : ME} {ks : String} (hx : F.gt.lookup x = some a) (hk : F.sc.names.lookup x = some .globalImplicit) (hd : (x == ("__debug__" : Str)) = false)
    (hn : (e :: es).all notStar = true) (hes : SEs F (e :: es) ms) (hv : SE F v mv) (hks : k = Str.ofString ks) : SE F (.Call (.Name x p) (e :: es) [⟨some k, v, kp⟩] pos) (.callk a ms ks mv) := by
  intro c d FO hg hsc ok rm l hp Q X hev fr s P E R hP hX
  have hn' := hn
  simp only [List.all_cons, Bool.and_eq_true] at hn
  have e1 : eval (.Call (.Name x p) (e :: es) [⟨some k, v, kp⟩] pos) c.env = (do callWith pos (← eval (.Name x p) c.env) [] (backTo pos (starEach (e :: es) c.env)) (backToKw pos (keywordEach [⟨some k, v, kp⟩] c.env))) := rfl
  rw [e1]
  refine wpAny_bind (nameG FO hg hsc ok hx hk hd R ?_)
  refine callWith_KW ok.inK (by rw [hg]; exact (FO.gt x a hx).2) rfl ?_ (by rw [backTo_any hn']; rfl) (starEach_cons hn.1)
  refine hes c d FO hg hsc ok rm l hp _ X hev pos fr s _ E R (fun vs xs h1 hh tk hq hxs R1 => ?_) hX
  refine kwAll_cons (hv c d FO hg hsc ok rm l h1 _ X hq fr _ _ E R1 (fun u y h2 hh2 tk2 hq2 hy R2 => ?_) hX)
  refine kwAll_nil ⟨R2.inK ok, ?_⟩
  show wpAny _ _ (call (.ref a) ([] ++ xs) [(k, y)]) P E _
  rw [List.nil_append]
  exact hq2 c hg ok rm F.names l xs [(k, y)] hxs (by subst hks; show [(_, absV y)] = _; rw [hy]) fr _ _ E R2 hP hX.call
theorem se_len {x : Str} {p pos : Pos} {a : Expr} {ma : ME} (hxe : x = "len") (hx : x ∈ F.bt) (hk : F.sc.names.lookup x = some .globalImplicit) (hn : notStar a = true) (ha : SE F a ma) : SE F (.Call (.Name x p) [a] [] pos) (.len ma) := by
  intro c d FO hg hsc ok rm l hp Q X hev fr s P E R hP hX
  subst hxe
  refine Call_ (nameB FO hg hsc ok hx (v := .builtin "len") (by decide +kernel) hk (by decide) (by decide) R ?_) rfl
  refine PyProof.Rows.callWith_builtin1 ?_ (starEach_cons hn) rfl
  refine spliced_more (ha c d FO hg hsc ok rm l hp _ X hev fr s _ E R (fun v y h1 hh tk hq hy R1 => ?_) hX) (starEach_cons hn)
  refine spliced_none ?_
  exact lenS (Q := Q) ok hq hy fr _ _ E R1 hP hX
theorem se_toInt {x : Str} {p pos : Pos} {a : Expr} {ma : ME} (hxe : x = "int") (hx : x ∈ F.bt) (hk : F.sc.names.lookup x = some .globalImplicit) (hn : notStar a = true) (ha : SE F a ma) : SE F (.Call (.Name x p) [a] [] pos) (.toInt ma) := by
  intro c d FO hg hsc ok rm l hp Q X hev fr s P E R hP hX
  subst hxe
  refine Call_ (nameB FO hg hsc ok hx (v := .type "int") boot_int hk (by decide) (by decide) R ?_) rfl
  refine PyProof.Rows.callWith_type1 ?_ (starEach_cons hn) rfl
  refine spliced_more (ha c d FO hg hsc ok rm l hp _ X hev fr s _ E R (fun v y h1 hh tk hq hy R1 => ?_) hX) (starEach_cons hn)
  refine spliced_none ?_
  split at hq
  · obtain ⟨t, rfl⟩ := absV_int hy
    exact call_int_int (hP _ _ h1 hh tk hq rfl R1)
  · exact hq.elim
theorem isiS {c : Cx} {names : List Str} {l : List V} {hp : HP} {X : XT} {Q : V → HP → Prop} {v : V} {x : Value} {k : Kd} {T : String}
    (hT : T = (match k with | .int => "int" | .bool => "bool" | .list => "list" | .tuple => "tuple"))
    (h : isiV v hp k fun t => Q (.bool t) hp) (hx : absV x = v) : W rV c names l (call (.builtin "isinstance") [x, .type T]) hp Q X := by
  intro fr s P E R hP hX
  have key : ∀ b, Q (.bool b) hp → ∀ tk, P (.bool b) { s with toks := tk } := fun b hb tk => hP _ _ hp s.heap tk hb rfl R
  cases v with
  | int i =>
    obtain ⟨t, rfl⟩ := absV_int hx
    cases k <;> subst hT
    · exact IsiPair.int_int (key _ h _)
    · exact IsiPair.int_bool (key _ h _)
    · exact IsiPair.int_list (key _ h _)
    · exact IsiPair.int_tuple (key _ h _)
  | bool b =>
    cases absV_bool hx
    cases k <;> subst hT
    · exact IsiPair.bool_int (key _ h _)
    · exact IsiPair.bool_bool (key _ h _)
    · exact IsiPair.bool_list (key _ h _)
    · exact IsiPair.bool_tuple (key _ h _)
  | ref a =>
    cases absV_ref hx
    obtain ⟨g, T, m, Fm, lo, H, N, D⟩ := id R
    rcases h with ⟨vs, e, hq⟩ | ⟨vs, e, hq⟩
    · obtain ⟨ob, h1, ⟨it, n, rfl, _⟩, _⟩ := H.2 _ _ e
      cases k <;> subst hT
      · exact IsiPair.list_int h1 rfl (key _ hq _)
      · exact IsiPair.list_bool h1 rfl (key _ hq _)
      · exact IsiPair.list_list h1 rfl (key _ hq _)
      · exact IsiPair.list_tuple h1 rfl (key _ hq _)
    · obtain ⟨ob, h1, ⟨it, n, rfl, _⟩, _⟩ := H.2 _ _ e
      cases k <;> subst hT
      · exact IsiPair.tuple_int h1 rfl (key _ hq _)
      · exact IsiPair.tuple_bool h1 rfl (key _ hq _)
      · exact IsiPair.tuple_list h1 rfl (key _ hq _)
      · exact IsiPair.tuple_tuple h1 rfl (key _ hq _)
  | _ => exact h.elim
def kdOf (T : Str) : Option Kd :=
  if T = "int" then some .int else if T = "bool" then some .bool else if T = "list" then some .list else if T = "tuple" then some .tuple else Option.none
theorem se_isi {x T : Str} {p pT pos : Pos} {a : Expr} {ma : ME} {k : Kd} (hxe : x = "isinstance") (hx : x ∈ F.bt) (hk : F.sc.names.lookup x = some .globalImplicit)
    (hT : T ∈ F.bt) (hkT : F.sc.names.lookup T = some .globalImplicit) (hkd : kdOf T = some k) (hn : notStar a = true) (ha : SE F a ma) : SE F (.Call (.Name x p) [a, .Name T pT] [] pos) (.isi ma k) := by
  intro c d FO hg hsc ok rm l hp Q X hev fr s P E R hP hX
  subst hxe
  refine Call_ (nameB FO hg hsc ok hx (v := .builtin "isinstance") boot_isinstance hk (by decide) (by decide) R ?_) rfl
  refine PyProof.Rows.callWith_builtin1 ?_ (starEach_cons hn) rfl
  refine spliced_more (ha c d FO hg hsc ok rm l hp _ X hev fr s _ E R (fun v y h1 hh tk hq hy R1 => ?_) hX) (starEach_cons hn)
  unfold kdOf at hkd
  split at hkd
  · rename_i e; subst e; cases hkd
    exact spliced_more (nameB FO hg hsc ok hT (v := .type "int") boot_int hkT (by decide) (by decide) R1 (spliced_none (isiS rfl hq hy fr _ _ E R1 hP hX))) rfl
  · split at hkd
    · rename_i e; subst e; cases hkd
      exact spliced_more (nameB FO hg hsc ok hT (v := .type "bool") boot_bool hkT (by decide) (by decide) R1 (spliced_none (isiS rfl hq hy fr _ _ E R1 hP hX))) rfl
    · split at hkd
      · rename_i e; subst e; cases hkd
        exact spliced_more (nameB FO hg hsc ok hT (v := .type "list") boot_list hkT (by decide) (by decide) R1 (spliced_none (isiS rfl hq hy fr _ _ E R1 hP hX))) rfl
      · split at hkd
        · rename_i e; subst e; cases hkd
          exact spliced_more (nameB FO hg hsc ok hT (v := .type "tuple") boot_tuple hkT (by decide) (by decide) R1 (spliced_none (isiS rfl hq hy fr _ _ E R1 hP hX))) rfl
        · cases hkd
theorem se_isn {a : Expr} {k pos cp} {ma : ME} (ha : SE F a ma) : SE F (.Compare a [.Is] [.Constant .none k cp] pos) (.isn ma true) := by
  intro c d FO hg hsc ok rm l hp Q X hev fr s P E R hP hX
  refine wpAny_Compare1 (ha c d FO hg hsc ok rm l hp _ X hev fr s _ E R (fun v x h1 hh tk hq hx R1 => ?_) hX) rfl
  refine wpAny_Constant_none (is_none ?_)
  split at hq
  · rename_i b hb
    refine hP _ _ h1 hh tk hq ?_ R1
    subst hx
    show V.bool _ = _
    congr 1
    cases x <;> simp only [absV, isNone, Option.some.injEq, reduceCtorEq] at hb <;> subst hb <;> first | rfl | simp
  · exact hq.elim
theorem se_isnn {a : Expr} {k pos cp} {ma : ME} (ha : SE F a ma) : SE F (.Compare a [.IsNot] [.Constant .none k cp] pos) (.isn ma false) := by
  intro c d FO hg hsc ok rm l hp Q X hev fr s P E R hP hX
  refine wpAny_Compare1 (ha c d FO hg hsc ok rm l hp _ X hev fr s _ E R (fun v x h1 hh tk hq hx R1 => ?_) hX) rfl
  refine wpAny_Constant_none (isnot_none_gen ?_)
  split at hq
  · rename_i b hb
    refine hP _ _ h1 hh tk hq ?_ R1
    subst hx
    show V.bool _ = _
    congr 1
    cases x <;> simp only [absV, isNone, Option.some.injEq, reduceCtorEq] at hb <;> subst hb <;> first | rfl | simp
  · exact hq.elim
theorem st_isn {a : Expr} {k pos cp} {ma : ME} (ha : SE F a ma) : ST F (.Compare a [.Is] [.Constant .none k cp] pos) (.tv (.isn ma true)) := by
  intro c d FO hg hsc ok rm l hp Q X hev whole hw fr s P E R hP hX
  refine wpAny_isTrue_Compare1 (ha c d FO hg hsc ok rm l hp _ X hev fr s _ E R (fun v x h1 hh tk hq hx R1 => ?_) hX) rfl
  refine wpAny_Constant_none (is_none (wpAny_truthy_bool ?_))
  split at hq
  · rename_i b hb
    refine hP _ _ h1 hh tk hq ?_ R1
    subst hx
    show _ = _
    cases x <;> simp only [absV, isNone, Option.some.injEq, reduceCtorEq] at hb <;> subst hb <;> first | rfl | simp
  · exact hq.elim
theorem st_isnn {a : Expr} {k pos cp} {ma : ME} (ha : SE F a ma) : ST F (.Compare a [.IsNot] [.Constant .none k cp] pos) (.tv (.isn ma false)) := by
  intro c d FO hg hsc ok rm l hp Q X hev whole hw fr s P E R hP hX
  refine wpAny_isTrue_Compare1 (ha c d FO hg hsc ok rm l hp _ X hev fr s _ E R (fun v x h1 hh tk hq hx R1 => ?_) hX) rfl
  refine wpAny_Constant_none (isnot_none_gen (wpAny_truthy_bool ?_))
  split at hq
  · rename_i b hb
    refine hP _ _ h1 hh tk hq ?_ R1
    subst hx
    show _ = _
    cases x <;> simp only [absV, isNone, Option.some.injEq, reduceCtorEq] at hb <;> subst hb <;> first | rfl | simp
  · exact hq.elim
theorem se_chain {a b e : Expr} {o p : CmpOp} {pos} {ma mb me : ME} {bo bp : COp} (ho : cmpOf o = some bo) (hp' : cmpOf p = some bp) (ha : SE F a ma) (hb : SE F b mb) (he : SE F e me) : SE F (.Compare a [o, p] [b, e] pos) (.chain ma bo mb bp me) := by
  intro c d FO hg hsc ok rm l hp Q X hev fr s P E R hP hX
  refine Compare_chain (ha c d FO hg hsc ok rm l hp _ X hev fr s _ E R (fun v x h1 hh tk hq hx R1 => ?_) hX) (notIn_of_cmpOf hp' e)
  refine chain_link (hb c d FO hg hsc ok rm l h1 _ X hq fr _ _ E R1 (fun w y h2 hh2 tk2 hq2 hy R2 => ?_) hX)
  refine cmpS (Q := fun t h => (t = true → ev F.g d me l h (fun u h3 => cmpV bp w u h3 fun t' => Q (.bool t') h3) X) ∧ (t = false → Q (.bool false) h)) ho ok rm hq2 hx hy fr _ _ E R2 (fun u z h3 hh3 tk3 hq3 hz R3 => ?_) hX
  obtain ⟨t, rfl, hq4⟩ := hq3
  cases absV_bool hz
  refine wpAny_truthy_bool ?_
  cases t with
  | false => rw [if_neg (by decide)]; exact hP _ _ h3 hh3 tk3 (hq4.2 rfl) rfl R3
  | true =>
    rw [if_pos rfl]
    refine chain_last (he c d FO hg hsc ok rm l h3 _ X (hq4.1 rfl) fr _ _ E R3 (fun w5 y5 h5 hh5 tk5 hq5 hy5 R5 => ?_) hX)
    refine cmpS (Q := fun t h => Q (.bool t) h) hp' ok rm hq5 hy hy5 fr _ _ E R5 (fun u6 z6 h6 hh6 tk6 hq6 hz6 R6 => ?_) hX
    obtain ⟨t, rfl, hq7⟩ := hq6
    exact hP _ _ h6 hh6 tk6 hq7 hz6 R6
theorem st_chain {a b e : Expr} {o p : CmpOp} {pos} {ma mb me : ME} {bo bp : COp} (ho : cmpOf o = some bo) (hp' : cmpOf p = some bp) (ha : SE F a ma) (hb : SE F b mb) (he : SE F e me) : ST F (.Compare a [o, p] [b, e] pos) (.chain ma bo mb bp me) := by
  intro c d FO hg hsc ok rm l hp Q X hev whole hw fr s P E R hP hX
  refine isTrue_chain (ha c d FO hg hsc ok rm l hp _ X hev fr s _ E R (fun v x h1 hh tk hq hx R1 => ?_) hX) (notIn_of_cmpOf hp' e)
  refine test_link (hb c d FO hg hsc ok rm l h1 _ X hq fr _ _ E R1 (fun w y h2 hh2 tk2 hq2 hy R2 => ?_) hX)
  refine cmpS (Q := fun t h => (t = true → ev F.g d me l h (fun u h3 => cmpV bp w u h3 fun t' => Q t' h3) X) ∧ (t = false → Q false h)) ho ok rm hq2 hx hy fr _ _ E R2 (fun u z h3 hh3 tk3 hq3 hz R3 => ?_) hX
  obtain ⟨t, rfl, hq4⟩ := hq3
  cases absV_bool hz
  refine wpAny_truthy_bool ?_
  cases t with
  | false => rw [if_neg (by decide)]; exact hP _ _ h3 hh3 tk3 (hq4.2 rfl) rfl R3
  | true =>
    rw [if_pos rfl]
    refine test_last (he c d FO hg hsc ok rm l h3 _ X (hq4.1 rfl) fr _ _ E R3 (fun w5 y5 h5 hh5 tk5 hq5 hy5 R5 => ?_) hX)
    refine cmpS (Q := fun t h => Q t h) hp' ok rm hq5 hy hy5 fr _ _ E R5 (fun u6 z6 h6 hh6 tk6 hq6 hz6 R6 => ?_) hX
    obtain ⟨t, rfl, hq7⟩ := hq6
    exact truS (Q := Q) (show truV (.bool t) h6 _ from hq7) hz6 fr _ _ E R6 hP hX
theorem se_and_one {a : Expr} {pos} {ma : ME} (o : BoolOp) (ha : SE F a ma) : SE F (.BoolOp o [a] pos) ma := by
  intro c d FO hg hsc ok rm l hp Q X hev fr s P E R hP hX
  exact BoolOp_one (ha c d FO hg hsc ok rm l hp Q X hev fr s P E R hP hX)
theorem se_and {a b : Expr} {r : List Expr} {pos} {ma mb : ME} (ha : SE F a ma) (hb : SE F (.BoolOp .And (b :: r) pos) mb) : SE F (.BoolOp .And (a :: b :: r) pos) (.and ma mb) := by
  intro c d FO hg hsc ok rm l hp Q X hev fr s P E R hP hX
  refine BoolOp_and (ha c d FO hg hsc ok rm l hp _ X hev fr s _ E R (fun v x h1 hh tk hq hx R1 => ?_) hX)
  refine truS (Q := fun t h => (t = true → ev F.g d mb l h Q X) ∧ (t = false → Q v h)) hq hx fr _ _ E R1 (fun t z h3 hh3 tk3 hq3 hz R3 => ?_) hX
  cases hz
  cases t with
  | true => rw [if_pos rfl]; exact hb c d FO hg hsc ok rm l h3 Q X (hq3.1 rfl) fr _ _ E R3 hP hX
  | false => rw [if_neg (by decide)]; exact hP _ _ h3 hh3 tk3 (hq3.2 rfl) hx R3
theorem se_or {a b : Expr} {r : List Expr} {pos} {ma mb : ME} (ha : SE F a ma) (hb : SE F (.BoolOp .Or (b :: r) pos) mb) : SE F (.BoolOp .Or (a :: b :: r) pos) (.or ma mb) := by
  intro c d FO hg hsc ok rm l hp Q X hev fr s P E R hP hX
  refine BoolOp_or (ha c d FO hg hsc ok rm l hp _ X hev fr s _ E R (fun v x h1 hh tk hq hx R1 => ?_) hX)
  refine truS (Q := fun t h => (t = true → Q v h) ∧ (t = false → ev F.g d mb l h Q X)) hq hx fr _ _ E R1 (fun t z h3 hh3 tk3 hq3 hz R3 => ?_) hX
  cases hz
  cases t with
  | true => rw [if_pos rfl]; exact hP _ _ h3 hh3 tk3 (hq3.1 rfl) hx R3
  | false => rw [if_neg (by decide)]; exact hb c d FO hg hsc ok rm l h3 Q X (hq3.2 rfl) fr _ _ E R3 hP hX
/-- a BoolOp as a test, whatever stands as its whole -/
def STB (F : Fx) (o : BoolOp) (es : List Expr) (pos : Pos) (m : ME) : Prop := ∀ c d, F.Ok → c.g = F.g → SCF c F → c.Ok → room c d → ∀ l hp Q X, evT F.g d m l hp Q X → ∀ whole, W rB c F.names l (isTrue (.BoolOp o es pos) c.env whole) hp Q X
theorem stb_and_one {a : Expr} {pos} {ma : ME} (ha : ST F a ma) : STB F .And [a] pos ma := by
  intro c d FO hg hsc ok rm l hp Q X hev whole fr s P E R hP hX
  refine PyProof.Rows.isTrue_and (ha c d FO hg hsc ok rm l hp _ X hev _ rfl fr s _ E R (fun v x h1 hh tk hq hx R1 => ?_) hX)
  cases hx
  cases v with
  | true => rw [if_pos rfl]; exact isTrue_and_nil (hP _ _ h1 hh tk hq rfl R1)
  | false => rw [if_neg (by decide)]; exact hP _ _ h1 hh tk hq rfl R1
theorem stb_or_one {a : Expr} {pos} {ma : ME} (ha : ST F a ma) : STB F .Or [a] pos ma := by
  intro c d FO hg hsc ok rm l hp Q X hev whole fr s P E R hP hX
  refine PyProof.Rows.isTrue_or (ha c d FO hg hsc ok rm l hp _ X hev _ rfl fr s _ E R (fun v x h1 hh tk hq hx R1 => ?_) hX)
  cases hx
  cases v with
  | true => rw [if_pos rfl]; exact hP _ _ h1 hh tk hq rfl R1
  | false => rw [if_neg (by decide)]; exact isTrue_or_nil (hP _ _ h1 hh tk hq rfl R1)
theorem stb_and {a : Expr} {r : List Expr} {pos} {ma mb : ME} (ha : ST F a ma) (hb : STB F .And r pos mb) : STB F .And (a :: r) pos (.and ma mb) := by
  intro c d FO hg hsc ok rm l hp Q X hev whole fr s P E R hP hX
  refine PyProof.Rows.isTrue_and (ha c d FO hg hsc ok rm l hp _ X hev _ rfl fr s _ E R (fun v x h1 hh tk hq hx R1 => ?_) hX)
  cases hx
  cases v with
  | true => rw [if_pos rfl]; exact hb c d FO hg hsc ok rm l h1 Q X (hq.1 rfl) _ fr _ _ E R1 hP hX
  | false => rw [if_neg (by decide)]; exact hP _ _ h1 hh tk (hq.2 rfl) rfl R1
theorem stb_or {a : Expr} {r : List Expr} {pos} {ma mb : ME} (ha : ST F a ma) (hb : STB F .Or r pos mb) : STB F .Or (a :: r) pos (.or ma mb) := by
  intro c d FO hg hsc ok rm l hp Q X hev whole fr s P E R hP hX
  refine PyProof.Rows.isTrue_or (ha c d FO hg hsc ok rm l hp _ X hev _ rfl fr s _ E R (fun v x h1 hh tk hq hx R1 => ?_) hX)
  cases hx
  cases v with
  | true => rw [if_pos rfl]; exact hP _ _ h1 hh tk (hq.1 rfl) rfl R1
  | false => rw [if_neg (by decide)]; exact hb c d FO hg hsc ok rm l h1 Q X (hq.2 rfl) _ fr _ _ E R1 hP hX
theorem st_of {o : BoolOp} {es : List Expr} {pos} {m : ME} (h : STB F o es pos m) : ST F (.BoolOp o es pos) m :=
  fun c d FO hg hsc ok rm l hp Q X hev whole _ => h c d FO hg hsc ok rm l hp Q X hev whole
end
def rO (o : Out) (f : Flow) : Prop :=
  match o, f with
  | .next, .next => True
  | .brk, .brk => True
  | .ret v, .ret x => absV x = v
  | _, _ => False
def WS (c : Cx) (names : List Str) (l : List V) (t : Sem Flow) (hp : HP) (Q : Out → List V → HP → Prop) (X : XT) : Prop :=
  c.cp = none → ∀ (fr : List (Addr × Obj)) (s : Shared) (P : Flow → Shared → Prop) (E : Value → Shared → Prop), Rep c names l hp fr s.heap →
    (∀ o f l' hp' h' tk', Q o l' hp' → rO o f → Rep c names l' hp' fr h' → P f { s with heap := h', toks := tk' }) →
    (∀ l', XP c names l' fr X E s) →
    wpAny (model c.g.prog c.g.w) c.A t P E s
def SS (F : Fx) (st : Stmt) (m : MS) : Prop := ∀ c d, F.Ok → c.g = F.g → SCF c F → c.Ok → room c d → ∀ l hp Q X, exec F.g d m l hp Q X → WS c F.names l (PySem.exec st c.env) hp Q X
def SB (F : Fx) (b : List Stmt) (m : MS) : Prop := ∀ c d, F.Ok → c.g = F.g → SCF c F → c.Ok → room c d → ∀ l hp Q X, exec F.g d m l hp Q X → WS c F.names l (execs b c.env) hp Q X
theorem lset_get {v : V} : ∀ {l : List V} {i j : Nat} {w : V}, (lset l i v)[j]? = some w → (j = i ∧ w = v) ∨ (j ≠ i ∧ l[j]? = some w)
  | [], _, _, _, h => by simp [lset] at h
  | _ :: _, 0, 0, _, h => by simp [lset] at h; exact .inl ⟨rfl, h.symm⟩
  | _ :: _, 0, j + 1, _, h => by simp [lset] at h; exact .inr ⟨by omega, by simpa using h⟩
  | _ :: _, i + 1, 0, _, h => by simp [lset] at h; exact .inr ⟨by omega, by simpa using h⟩
  | _ :: r, i + 1, j + 1, w, h => by
    simp only [lset, List.getElem?_cons_succ] at h
    rcases lset_get (l := r) h with ⟨a, b⟩ | ⟨a, b⟩
    · exact .inl ⟨by omega, b⟩
    · exact .inr ⟨by omega, by simpa using b⟩
theorem Loc.set {cl : List (Str × Addr)} {names : List Str} {l : List V} {m : Str → Option Value} {i : Nat} {x : Str} {v : V} {val : Value} (nd : names.Nodup) (lo : Loc cl names l m) (hx : names[i]? = some x) (hv : absV val = v) :
    Loc cl names (lset l i v) (fun y => if y = x then some val else m y) := by
  intro j y w hy hw hn
  rcases lset_get hw with ⟨rfl, rfl⟩ | ⟨hne, hw⟩
  · rw [hx] at hy; cases hy
    exact .inr ⟨fun a e => by rw [e] at hv; cases val <;> simp [absV] at hv, val, by simp, hv⟩
  · have : y ≠ x := by
      intro e; subst e
      apply hne
      have h1 := (List.getElem?_eq_some_iff.mp hy)
      have h2 := (List.getElem?_eq_some_iff.mp hx)
      obtain ⟨a1, b1⟩ := h1
      obtain ⟨a2, b2⟩ := h2
      exact (List.getElem_inj nd).mp (b1.trans b2.symm)
    rcases lo j y w hy hw hn with h0 | ⟨h0, u, h1, h2⟩
    · exact .inl h0
    · exact .inr ⟨h0, u, by simp [this, h1], h2⟩
theorem noC {c : Cx} (h : c.cp = none) {it : Addr} : ∀ k, c.cp = some k → k.C ≠ it := fun k e => by rw [h] at e; cases e
theorem LocX.drop {c : Cx} {names l m fr} {it : Addr} {o : Obj} (h : LocX c names l m ((it, o) :: fr)) (hC : ∀ k, c.cp = some k → k.C ≠ it) : LocX c names l m fr := by
  unfold LocX at *
  split at h
  · exact h
  · rename_i k e
    obtain ⟨a, oC, m₂, b, r⟩ := h
    refine ⟨a, oC, m₂, ?_, r⟩
    rcases List.mem_cons.mp b with q | q
    · cases q; exact absurd rfl (hC k e)
    · exact q
theorem LocX.push {c : Cx} {names l m fr} {p : Addr × Obj} (h : LocX c names l m fr) : LocX c names l m (p :: fr) := h.sub fun _ => .tail _
theorem storeS {F : Fx} {c : Cx} (FO : F.Ok) (hsc : SCF c F) (ok : c.Ok) (hcp : c.cp = none) {x : Str} {i : Nat} {l hp fr} {s : Shared} {v : V} {val : Value} {P : Unit → Shared → Prop} {E : Value → Shared → Prop}
    (hi : F.names[i]? = some x) (hk : F.sc.names.lookup x = some .local) (R : Rep c F.names l hp fr s.heap) (hv : absV val = v)
    (h : ∀ h' tk', Rep c F.names (lset l i v) hp fr h' → P () { s with heap := h', toks := tk' }) :
    wpAny (model c.g.prog c.g.w) c.A (storeName c.env x val) P E s := by
  obtain ⟨g, m, news, T, Fm, lo, H, N, D⟩ := R.parts
  rw [c.env_plain hcp]
  refine storeX_L Fm N (fun h' F' N' => h h' _ (Rep.of T F' ((LocX.plain hcp).mpr (((LocX.plain hcp).mp lo).set FO.nd hi hv)) H N' D)) ok.fkind (by show c.fsc.names.lookup x = _; rw [← c.sc_plain hcp, hsc.1]; exact hk)
def compE : Expr → Bool
  | .ListComp .. => true
  | .SetComp .. => true
  | .DictComp .. => true
  | _ => false
theorem swaps_plain {e : Expr} (h : compE e = false) (t : Option Expr) (n : Nat) (env : Env) : swapsWith e t n env = pure false := by
  cases e <;> first | rfl | (exact absurd h (by simp [compE]))
section
variable {F : Fx}
theorem sb_nil : SB F [] .skip := by
  intro c d FO hg hsc ok rm l hp Q X hev hcp fr s P E R hP hX
  exact wpAny_execs_nil (hP .next .next l hp s.heap s.toks hev trivial R)
theorem sb_cons {st : Stmt} {r : List Stmt} {m mr : MS} (h : SS F st m) (hr : SB F r mr) : SB F (st :: r) (.seq m mr) := by
  intro c d FO hg hsc ok rm l hp Q X hev hcp fr s P E R hP hX
  refine wpAny_execs_cons (h c d FO hg hsc ok rm l hp _ X hev hcp fr s _ E R (fun o f l1 h1 hh tk hq hf R1 => ?_) hX)
  cases o with
  | next =>
    cases f <;> first | exact hf.elim | skip
    exact hr c d FO hg hsc ok rm l1 h1 Q X hq hcp fr _ _ E R1 hP hX
  | brk =>
    cases f <;> first | exact hf.elim | skip
    exact hP .brk .brk l1 h1 hh tk hq trivial R1
  | ret v =>
    cases f <;> first | exact hf.elim | skip
    exact hP (.ret v) _ l1 h1 hh tk hq hf R1
theorem ss_asg {x : Str} {p pos : Pos} {i : Nat} {e : Expr} {m : ME} (hi : F.names[i]? = some x) (hk : F.sc.names.lookup x = some .local) (hc : compE e = false) (he : SE F e m) : SS F (.Assign [.Name x p] e pos) (.asg i m) := by
  intro c d FO hg hsc ok rm l hp Q X hev hcp fr s P E R hP hX
  refine wpAny_Assign_Name (he c d FO hg hsc ok rm l hp _ X hev fr s _ E R (fun v y h1 hh tk hq hy R1 => ?_) (hX l)) (swaps_plain hc _ _ _)
  exact storeS FO hsc ok hcp hi hk R1 hy fun h' tk' R' => hP .next .next _ h1 h' tk' hq trivial R'
theorem ibinS {o : Operator} {b : BOp} (ho : opOf o = some b) (hno : b = .add ∨ b = .sub ∨ b = .mul ∨ b = .fdiv ∨ b = .mod ∨ b = .shr ∨ b = .band) {c : Cx} {d : Nat} (ok : c.Ok) (rm : room c d) {names l hp Q X} {v w : V} {x y : Value}
    (h : augV b v w hp Q) (hx : absV x = v) (hy : absV y = w) : W rV c names l (inplaceOp o x y) hp Q X := by
  intro fr s P E R hP hX
  unfold augV at h
  split at h
  · rename_i i j
    obtain ⟨t, rfl⟩ := absV_int hx
    obtain ⟨u, rfl⟩ := absV_int hy
    obtain ⟨hok, hq⟩ := h
    cases o <;> simp only [opOf, Option.some.injEq, reduceCtorEq] at ho <;> subst ho
    · exact PyProof.Rows.iadd_int (hP _ _ hp s.heap _ hq rfl R)
    · exact PyProof.Rows.isub_int (hP _ _ hp s.heap _ hq rfl R)
    · exact PyProof.Rows.imul_int (hP _ _ hp s.heap _ hq rfl R) hok
    · exact imod_int hok (hP _ _ hp s.heap _ hq rfl R)
    · simp at hno
    · simp at hno
    · exact irshift_int hok (hP _ _ hp s.heap _ hq rfl R)
    · exact iand_int (hP _ _ hp s.heap _ hq rfl R)
    · exact ifloordiv_int hok (hP _ _ hp s.heap _ hq rfl R) (.inr (pylong ok rm R))
  · exact h.elim
theorem ss_aug {x : Str} {p pos : Pos} {i : Nat} {o : Operator} {b : BOp} {e : Expr} {m : ME} (ho : opOf o = some b) (hno : b = .add ∨ b = .sub ∨ b = .mul ∨ b = .fdiv ∨ b = .mod ∨ b = .shr ∨ b = .band)
    (hi : F.names[i]? = some x) (hk : F.sc.names.lookup x = some .local) (he : SE F e m) : SS F (.AugAssign (.Name x p) o e pos) (.aug i b m) := by
  intro c d FO hg hsc ok rm l hp Q X hev hcp fr s P E R hP hX
  obtain ⟨⟨hn, hnc⟩, hev⟩ := varV_iff.mp hev
  obtain ⟨m', val, hns, hm, hab⟩ := R.locals hi rfl hn hnc
  refine wpAny_AugAssign_Name (wpAny_loadName_local (by rw [c.env_scope]; exact ok.kind) (by rw [c.env_kindOf, hsc.1]; exact hk) hns hm ?_)
  refine he c d FO hg hsc ok rm l hp _ X hev fr s _ E R (fun v y h1 hh tk hq hy R1 => ?_) (hX l)
  refine ibinS ho hno ok rm hq hab hy fr _ _ E R1 (fun u z h2 hh2 tk2 hq2 hz R2 => ?_) (hX l)
  exact storeS FO hsc ok hcp hi hk R2 hz fun h' tk' R' => hP .next .next _ h2 h' tk' hq2 trivial R'
theorem ss_if {t : Expr} {a b : List Stmt} {pos : Pos} {mt : ME} {ma mb : MS} (ht : ST F t mt) (ha : SB F a ma) (hb : SB F b mb) : SS F (.If t a b pos) (.ite mt ma mb) := by
  intro c d FO hg hsc ok rm l hp Q X hev hcp fr s P E R hP hX
  refine wpAny_If (ht c d FO hg hsc ok rm l hp _ X hev _ rfl fr s _ E R (fun v y h1 hh tk hq hy R1 => ?_) (hX l))
  cases hy
  cases v with
  | true => rw [if_pos rfl]; exact ha c d FO hg hsc ok rm l h1 Q X (hq.1 rfl) hcp fr _ _ E R1 hP hX
  | false => rw [if_neg (by decide)]; exact hb c d FO hg hsc ok rm l h1 Q X (hq.2 rfl) hcp fr _ _ E R1 hP hX
theorem ss_ret {e : Expr} {pos : Pos} {m : ME} (he : SE F e m) : SS F (.Return (some e) pos) (.ret m) := by
  intro c d FO hg hsc ok rm l hp Q X hev hcp fr s P E R hP hX
  exact wpAny_Return_some (he c d FO hg hsc ok rm l hp _ X hev fr s _ E R (fun v y h1 hh tk hq hy R1 => hP (.ret v) (.ret y) l h1 hh tk hq hy R1) (hX l))
theorem ss_brk {pos : Pos} : SS F (.Break pos) .brk := by
  intro c d FO hg hsc ok rm l hp Q X hev hcp fr s P E R hP hX
  exact wpAny_Break (hP .brk .brk l hp s.heap s.toks hev trivial R)
theorem noXP {c : Cx} {names l fr E s} : XP c names l fr noX E s := fun _ _ _ _ _ h => h.elim
theorem ss_while {t : Expr} {a b : List Stmt} {pos : Pos} {mt : ME} {ma mb : MS} (ht : ST F t mt) (ha : SB F a ma) (hb : SB F b mb) : SS F (.While t a b pos) (.whil mt ma mb) := by
  intro c d FO hg hsc ok rm l hp Q X hev hcp fr s P E R hP hX
  obtain ⟨I, ⟨n, h0⟩, step⟩ := hev
  refine wpAny_While (codeAny_whileLoop (fun n s' => ∃ l' hp' h' tk', I n l' hp' ∧ Rep c F.names l' hp' fr h' ∧ s' = { s with heap := h', toks := tk' }) ?_ n ⟨l, hp, s.heap, s.toks, h0, R, rfl⟩)
  rintro n s' ⟨l1, hp1, hh1, tk1, hI, R1, rfl⟩
  refine ht c d FO hg hsc ok rm l1 hp1 _ noX (step n l1 hp1 hI) _ rfl fr _ _ _ R1 (fun v y h2 hh2 tk2 hq hy R2 => ?_) noXP
  cases hy
  cases v with
  | true =>
    rw [if_pos rfl]
    refine ha c d FO hg hsc ok rm l1 h2 _ noX (hq.1 rfl) hcp fr _ _ _ R2 (fun o f l3 h3 hh3 tk3 hq3 hf R3 => ?_) fun _ => noXP
    cases o with
    | next =>
      cases f <;> first | exact hf.elim | skip
      obtain ⟨k, hk, hI3⟩ := hq3
      exact ⟨k, hk, l3, h3, hh3, tk3, hI3, R3, rfl⟩
    | brk =>
      cases f <;> first | exact hf.elim | skip
      exact hP .next .next l3 h3 hh3 tk3 hq3 trivial R3
    | ret v =>
      cases f <;> first | exact hf.elim | skip
      exact hP (.ret v) _ l3 h3 hh3 tk3 hq3 hf R3
  | false =>
    rw [if_neg (by decide)]
    exact hb c d FO hg hsc ok rm l1 h2 _ noX (hq.2 rfl) hcp fr _ _ _ R2 (fun o f l3 h3 hh3 tk3 hq3 hf R3 => hP o f l3 h3 hh3 tk3 hq3 hf R3) fun _ => noXP
theorem Rep.iter {c : Cx} {names l hp fr h h'} {it : Addr} {o o' : Obj} (R : Rep c names l hp ((it, o) :: fr) h) (hC : ∀ k, c.cp = some k → k.C ≠ it) (hs : ∀ b ob, b ≠ it → h.get? b = some ob → h'.get? b = some ob) (ho : h'.get? it = some o') (hfr : ∀ p ∈ fr, p.1 ≠ it) :
    Rep c names l hp ((it, o') :: fr) h' := by
  obtain ⟨g, T, m, Fm, lo, H, N, D⟩ := R
  have hi := N (it, o) (.head _)
  refine ⟨g, T, m, ⟨Fm.ns.at' fun ob e => hs _ _ (Ne.symm hi.2.1) e, fun b ob e => hs b ob (fun q => by rw [q, hi.2.2] at e; cases e) (Fm.keep b ob e), Fm.above⟩, (lo.drop hC).push, ⟨H.1, fun a x hx => ?_⟩, fun p hp' => ?_, fun p hp' => ?_⟩
  · have := H.2 a x hx
    have hne : a ≠ it := by
      intro e
      have := D (it, o) (.head _)
      rw [← e] at this
      rw [this] at hx; cases hx
    cases x with
    | ro vs => exact this
    | list vs => obtain ⟨ob, h1, h2⟩ := this; exact ⟨ob, hs _ _ hne h1, h2⟩
    | tup vs => obtain ⟨ob, h1, h2⟩ := this; exact ⟨ob, hs _ _ hne h1, h2⟩
    | cell vs => obtain ⟨ob, h1, h2⟩ := this; exact ⟨ob, hs _ _ hne h1, h2⟩
    | rng _ _ _ => obtain ⟨ob, h1, h2⟩ := this; exact ⟨ob, hs _ _ hne h1, h2⟩
    | dict _ => obtain ⟨ob, h1, h2⟩ := this; exact ⟨ob, hs _ _ hne h1, h2⟩
  · cases hp' with
    | head => exact ⟨ho, hi.2⟩
    | tail _ hp' => exact ⟨hs _ _ (hfr p hp') (N p (.tail _ hp')).1, (N p (.tail _ hp')).2⟩
  · cases hp' with
    | head => exact D (it, o) (.head _)
    | tail _ hp' => exact D p (.tail _ hp')
theorem Rep.drop {c : Cx} {names l hp fr h h'} {it : Addr} {o : Obj} (R : Rep c names l hp ((it, o) :: fr) h) (hC : ∀ k, c.cp = some k → k.C ≠ it) (hs : ∀ b ob, b ≠ it → h.get? b = some ob → h'.get? b = some ob) (hfr : ∀ p ∈ fr, p.1 ≠ it) :
    Rep c names l hp fr h' := by
  obtain ⟨g, T, m, Fm, lo, H, N, D⟩ := R
  have hi := N (it, o) (.head _)
  refine ⟨g, T, m, ⟨Fm.ns.at' fun ob e => hs _ _ (Ne.symm hi.2.1) e, fun b ob e => hs b ob (fun q => by rw [q, hi.2.2] at e; cases e) (Fm.keep b ob e), Fm.above⟩, lo.drop hC, ⟨H.1, fun a x hx => ?_⟩, fun p hp' => ?_, fun p hp' => D p (.tail _ hp')⟩
  · have := H.2 a x hx
    have hne : a ≠ it := by
      intro e
      have := D (it, o) (.head _)
      rw [← e] at this
      rw [this] at hx; cases hx
    cases x with
    | ro vs => exact this
    | list vs => obtain ⟨ob, h1, h2⟩ := this; exact ⟨ob, hs _ _ hne h1, h2⟩
    | tup vs => obtain ⟨ob, h1, h2⟩ := this; exact ⟨ob, hs _ _ hne h1, h2⟩
    | cell vs => obtain ⟨ob, h1, h2⟩ := this; exact ⟨ob, hs _ _ hne h1, h2⟩
    | rng _ _ _ => obtain ⟨ob, h1, h2⟩ := this; exact ⟨ob, hs _ _ hne h1, h2⟩
    | dict _ => obtain ⟨ob, h1, h2⟩ := this; exact ⟨ob, hs _ _ hne h1, h2⟩
  · exact ⟨hs _ _ (hfr p hp') (N p (.tail _ hp')).1, (N p (.tail _ hp')).2⟩
theorem Rep.push {c : Cx} {names l hp fr h} (ok : c.Ok) (R : Rep c names l hp fr h) (o : Obj) (hf : o.isFreed = false) : Rep c names l hp ((h.objs.size, o) :: fr) (h.push o) := by
  obtain ⟨f1, f2⟩ := R.fresh ok
  obtain ⟨g, m, news, T, Fm, lo, H, N, D⟩ := R.parts
  have N2 := N.push Fm o hf
  refine ⟨g, T, m, Fm.push o, lo.push, HpN.rep (c := c.at g) H fun p hp' => N2 p (.tail _ (List.mem_append_left _ hp')), fun p hp' => ?_, fun p hp' => ?_⟩
  · cases hp' with
    | head => exact N2 _ (.head _)
    | tail _ hp' => exact N2 p (.tail _ (List.mem_append_right _ hp'))
  · cases hp' with
    | head => exact f1
    | tail _ hp' => exact D p hp'
end
section
variable {F : Fx}
theorem handled_none {c : Cx} (ok : c.Ok) : c.A.handled = none := ok.hd
/-- the loop itself, whatever yields its items and whatever takes them -/
theorem forSG {c : Cx} (FO : F.Ok) (hsc : SCF c F) (ok : c.Ok) (hcp : c.cp = none) {tgt : Expr} {upd : V → List V → HP → (List V → Prop) → Prop} {b : List Stmt} {m : MS} {d : Nat} (hg : c.g = F.g) (rm : room c d)
    (hasg : ∀ (v : V) (val : Value) (l : List V) (hp : HP) (fr : List (Addr × Obj)) (s : Shared) (K : List V → Prop) (P : Unit → Shared → Prop) (E : Value → Shared → Prop), absV val = v → upd v l hp K → Rep c F.names l hp fr s.heap →
      (∀ l' h' tk', K l' → Rep c F.names l' hp fr h' → P () { s with heap := h', toks := tk' }) → wpAny (model c.g.prog c.g.w) c.A (assign tgt c.env val) P E s)
    (hb : SB F b m) {vs : List V} {K : HP → Prop} {Q : Out → List V → HP → Prop}
    {l : List V} {hp : HP} {fr : List (Addr × Obj)} {s : Shared} {it : Addr} (ItObj : Nat → Obj → Prop)
    (hgo : ∀ k o val (s' : Shared) (P : Unit → Shared → Prop) (E : Value → Shared → Prop), ItObj k o → s'.heap.get? it = some o → P () s' → wpAny (model c.g.prog c.g.w) c.A (letOwnedTupleGo tgt (.ref it) val) P E s')
    (next : ∀ k l hp o h (s' : Shared) (P : Option Value → Shared → Prop) (E : Value → Shared → Prop), K hp → ItObj k o → s'.heap = h → Rep c F.names l hp ((it, o) :: fr) h → (∀ p ∈ fr, p.1 ≠ it) →
      (∀ val v h' tk' o', vs[k]? = some v → absV val = v → ItObj (k + 1) o' → Rep c F.names l hp ((it, o') :: fr) h' → P (some val) { s' with heap := h', toks := tk' }) →
      (k = vs.length → ∀ h' tk', Rep c F.names l hp fr h' → P Option.none { s' with heap := h', toks := tk' }) → k ≤ vs.length → wpAny (model c.g.prog c.g.w) c.A (pyNext (.ref it)) P E s')
    {o₀ : Obj} (h0 : ItObj 0 o₀) (R0 : Rep c F.names l hp ((it, o₀) :: fr) s.heap) (hfr : ∀ p ∈ fr, p.1 ≠ it)
    (hK : ∃ I : Nat → List V → HP → Prop, I 0 l hp ∧
      (∀ k x l h, vs[k]? = some x → I k l h → K h ∧ upd x l h fun l1 => exec F.g d m l1 h (fun o l2 h2 => match o with
        | .next => I (k + 1) l2 h2 | .brk => Q .next l2 h2 | .ret v => Q (.ret v) l2 h2) noX) ∧
      (∀ l h, I vs.length l h → K h ∧ Q .next l h)) {R : Result → Shared → Prop}
    (hR : ∀ o f l' hp' h' tk', Q o l' hp' → rO o f → Rep c F.names l' hp' fr h' → R (.ok f) { s with heap := h', toks := tk' }) :
    codeAny (model c.g.prog c.g.w) c.A (.forLoop tgt (.ref it) b [] c.env) R s := by
  obtain ⟨I, hI0, step, fin⟩ := hK
  refine codeAny_forLoop_any (fun n s' => ∃ k l' hp' o h' tk', n = vs.length + 1 - k ∧ k ≤ vs.length ∧ I k l' hp' ∧ ItObj k o ∧ Rep c F.names l' hp' ((it, o) :: fr) h' ∧ s' = { s with heap := h', toks := tk' }) ?_ _ ⟨0, l, hp, o₀, s.heap, s.toks, rfl, Nat.zero_le _, hI0, h0, R0, rfl⟩
  rintro n s' ⟨k, l1, hp1, o1, hh1, tk1, rfl, hk1, hI, hO, R1, rfl⟩
  have hKh : K hp1 := by
    by_cases hlt : k < vs.length
    · exact (step k vs[k] l1 hp1 (by simp [hlt]) hI).1
    · have : k = vs.length := by omega
      subst this
      exact (fin l1 hp1 hI).1
  refine next k l1 hp1 o1 hh1 _ _ _ hKh hO rfl R1 hfr (fun val v h' tk' o' hv hval hO' R2 => ?_) (fun hkl h' tk' R2 => ?_) hk1
  · dsimp only
    refine hgo (k + 1) o' val _ _ _ hO' (by obtain ⟨_, _, _, _, _, _, N, _⟩ := id R2; exact (N _ (.head _)).1) ?_
    refine hasg v val _ _ _ { s with heap := h', toks := tk' } _ _ _ hval (step k v l1 hp1 hv hI).2 R2 fun l3 h3 tk3 hq3 R3 => ?_
    refine hb c d FO hg hsc ok rm _ hp1 _ noX hq3 hcp _ _ _ _ R3 (fun o f l4 h4 hh4 tk4 hq4 hf R4 => ?_) fun _ => noXP
    have hlt : k < vs.length := by
      rcases Nat.lt_or_ge k vs.length with h | h
      · exact h
      · rw [List.getElem?_eq_none h] at hv; cases hv
    cases o with
    | next =>
      cases f <;> first | exact hf.elim | skip
      exact ⟨vs.length + 1 - (k + 1), by omega, k + 1, l4, h4, o', hh4, tk4, rfl, by omega, hq4, hO', R4, rfl⟩
    | brk =>
      cases f <;> first | exact hf.elim | skip
      exact hR .next .next l4 h4 hh4 tk4 hq4 trivial (R4.drop (noC hcp) (fun _ _ _ e => e) hfr)
    | ret v =>
      cases f <;> first | exact hf.elim | skip
      exact hR (.ret v) _ l4 h4 hh4 tk4 hq4 hf (R4.drop (noC hcp) (fun _ _ _ e => e) hfr)
  · dsimp only
    subst hkl
    exact wpAny_execs_nil (hR .next .next l1 hp1 h' tk' (fin l1 hp1 hI).2 trivial R2)
/-- the loop over a name -/
theorem forS {c : Cx} (FO : F.Ok) (hsc : SCF c F) (ok : c.Ok) (hcp : c.cp = none) {x : Str} {p : Pos} {i : Nat} {b : List Stmt} {m : MS} {d : Nat} (hg : c.g = F.g) (rm : room c d)
    (hi : F.names[i]? = some x) (hk : F.sc.names.lookup x = some .local) (hb : SB F b m) {vs : List V} {K : HP → Prop} {Q : Out → List V → HP → Prop}
    {l : List V} {hp : HP} {fr : List (Addr × Obj)} {s : Shared} {it : Addr} (ItObj : Nat → Obj → Prop)
    (next : ∀ k l hp o h (s' : Shared) (P : Option Value → Shared → Prop) (E : Value → Shared → Prop), K hp → ItObj k o → s'.heap = h → Rep c F.names l hp ((it, o) :: fr) h → (∀ p ∈ fr, p.1 ≠ it) →
      (∀ val v h' tk' o', vs[k]? = some v → absV val = v → ItObj (k + 1) o' → Rep c F.names l hp ((it, o') :: fr) h' → P (some val) { s' with heap := h', toks := tk' }) →
      (k = vs.length → ∀ h' tk', Rep c F.names l hp fr h' → P Option.none { s' with heap := h', toks := tk' }) → k ≤ vs.length → wpAny (model c.g.prog c.g.w) c.A (pyNext (.ref it)) P E s')
    {o₀ : Obj} (h0 : ItObj 0 o₀) (R0 : Rep c F.names l hp ((it, o₀) :: fr) s.heap) (hfr : ∀ p ∈ fr, p.1 ≠ it)
    (hK : forIn (fun l h R => exec F.g d m l h R noX) i vs l hp K Q) {R : Result → Shared → Prop}
    (hR : ∀ o f l' hp' h' tk', Q o l' hp' → rO o f → Rep c F.names l' hp' fr h' → R (.ok f) { s with heap := h', toks := tk' }) :
    codeAny (model c.g.prog c.g.w) c.A (.forLoop (.Name x p) (.ref it) b [] c.env) R s :=
  forSG (upd := fun v l _ k => k (lset l i v)) FO hsc ok hcp hg rm
    (fun v val l hp fr s K P E hval hu R1 hP => wpAny_assign_Name (storeS FO hsc ok hcp hi hk R1 hval fun h3 tk3 R3 => hP _ h3 tk3 hu R3)) hb ItObj (fun _ _ _ _ _ _ _ _ h => wpAny_pure h) next h0 R0 hfr hK hR
theorem ss_forR_core {x : Str} {p pos : Pos} {i : Nat} {iter : Expr} {b : List Stmt} {m : MS} {c : Cx} {d : Nat} (FO : F.Ok) (hg : c.g = F.g) (hsc : SCF c F) (ok : c.Ok) (hcp : c.cp = none) (rm : room c d)
    (hi : F.names[i]? = some x) (hk : F.sc.names.lookup x = some .local) (hb : SB F b m) {Q : Out → List V → HP → Prop} {l : List V} {hp : HP} {fr : List (Addr × Obj)} {s : Shared}
    {lo hi' st : Int} {r : Addr} {t u v : Tok} (hsm : Builtin.Range.small lo hi' st = true) (R : Rep c F.names l hp fr s.heap) (hr : IsRange s.heap r lo hi' st t u v)
    (hK : forIn (fun l h R => exec F.g d m l h R noX) i ((List.range (Builtin.Range.rangeSize lo hi' st).toNat).map fun (k : Nat) => V.int (lo + k * st)) l hp (fun _ => True) Q)
    {P : Flow → Shared → Prop} {E : Value → Shared → Prop} (hP : ∀ o f l' hp' h' tk', Q o l' hp' → rO o f → Rep c F.names l' hp' fr h' → P f { s with heap := h', toks := tk' }) :
    wpAny (model c.g.prog c.g.w) c.A (pyIter (.ref r)) (fun it s₂ => codeAny (model c.g.prog c.g.w) c.A (.forLoop (.Name x p) it b [] c.env) (fun r s' => match r with | .ok f => P f s' | .error e => cameBackBy (model c.g.prog c.g.w) c.A c.env E e s') s₂) E s := by
  refine wpAny_pyIter_range hr hsm ?_
  have R0 := R.push ok { cls := Value.type "range_iterator", data := Data.fields #[rawInt lo, rawInt (Builtin.Range.rangeSize lo hi' st), rawInt st] } rfl
  have hsz : 0 ≤ Builtin.Range.rangeSize lo hi' st := by
    unfold Builtin.Range.rangeSize
    split <;> split <;> first | omega | skip
    · exact Int.add_nonneg (Int.ediv_nonneg (by omega) (by omega)) (by omega)
    · rename_i h1 h2
      by_cases hz : st = 0
      · subst hz; simp
      · exact Int.add_nonneg (Int.ediv_nonneg (by omega) (by omega)) (by omega)
  refine forS FO hsc ok hcp hg rm hi hk hb (fun k o => o = { cls := Value.type "range_iterator", data := Data.fields #[rawInt (lo + k * st), rawInt (Builtin.Range.rangeSize lo hi' st - k), rawInt st] }) ?_ ?_ R0 (R.fresh ok).2 hK hP
  · intro k l1 hp1 o1 h1 s' P1 E1 _ hO hs R1 hfr hitem hend hkl
    subst hO
    subst hs
    simp only [List.length_map, List.length_range] at hkl hend
    obtain ⟨g, T, m1, Fm, lo1, H, N, D⟩ := id R1
    have hit := (N _ (.head _)).1
    by_cases hlt : k < (Builtin.Range.rangeSize lo hi' st).toNat
    · refine wpAny_pyNext_range_item (it := s.heap.objs.size) hit (by omega) fun h' hit' hs' => ?_
      refine hitem _ (.int (lo + k * st)) h' _ _ (by simp [hlt]) rfl ?_ (R1.iter (noC hcp) (fun b ob hne e => (hs'.2 b hne).trans e) hit' hfr)
      congr 4
      · rw [show ((k + 1 : Nat) : Int) * st = (k : Int) * st + st by push_cast; rw [Int.add_mul, Int.one_mul], Int.add_assoc]
      · rw [show Builtin.Range.rangeSize lo hi' st - ((k + 1 : Nat) : Int) = Builtin.Range.rangeSize lo hi' st - k - 1 by push_cast; omega]
    · refine wpAny_pyNext_range_end (it := s.heap.objs.size) (handled_none ok) hit (by omega) fun h' he => ?_
      exact hend (by omega) h' _ (R1.drop (noC hcp) (fun b ob hne e => he b ob hne e) hfr)
  · simp
theorem se_rangeArgs1 {x : Str} {p pos : Pos} {a : Expr} {ma : ME} (hxe : x = "range") (hx : x ∈ F.bt) (hk : F.sc.names.lookup x = some .globalImplicit) (hn : notStar a = true) (ha : SE F a ma)
    {c : Cx} {d : Nat} (FO : F.Ok) (hg : c.g = F.g) (hsc : SCF c F) (ok : c.Ok) (rm : room c d) {l hp X} {Q : Int → Int → Int → HP → Prop}
    (hev : ev F.g d ma l hp (fun v h1 => match v with | .int n => Q 0 n 1 h1 | _ => False) X) {fr} {s : Shared} {P E : Value → Shared → Prop} (R : Rep c F.names l hp fr s.heap)
    (hP : ∀ lo hi st hp' h' tk' r t u v, Q lo hi st hp' → Rep c F.names l hp' fr h' → IsRange h' r lo hi st t u v → P (.ref r) { s with heap := h', toks := tk' }) (hX : XP c F.names l fr X E s) :
    wpAny (model c.g.prog c.g.w) c.A (eval (.Call (.Name x p) [a] [] pos) c.env) P E s := by
  subst hxe
  refine Call_ (nameB FO hg hsc ok hx (v := .type "range") boot_range hk (by decide) (by decide) R ?_) rfl
  refine PyProof.Rows.callWith_type1 ?_ (starEach_cons hn) rfl
  refine spliced_more (ha c d FO hg hsc ok rm l hp _ X hev fr s _ E R (fun v y h1 hh tk hq hy R1 => ?_) hX) (starEach_cons hn)
  refine spliced_none ?_
  split at hq
  · obtain ⟨t, rfl⟩ := absV_int hy
    obtain ⟨g, m, news, T, Fm, lo, H, N, D⟩ := R1.parts
    exact range1_rows Fm N fun h' tk' t1 u1 v1 hr F' N' _ => hP _ _ _ h1 h' tk' _ _ _ _ hq (Rep.of T F' lo H N' D) hr
  · exact hq.elim
theorem se_rangeArgs2 {x : Str} {p pos : Pos} {a b : Expr} {ma mb : ME} (hxe : x = "range") (hx : x ∈ F.bt) (hk : F.sc.names.lookup x = some .globalImplicit) (hn : notStar a = true) (ha : SE F a ma) (hn2 : notStar b = true) (hb : SE F b mb)
    {c : Cx} {d : Nat} (FO : F.Ok) (hg : c.g = F.g) (hsc : SCF c F) (ok : c.Ok) (rm : room c d) {l hp X} {Q : Int → Int → Int → HP → Prop}
    (hev : ev F.g d ma l hp (fun v h1 => ev F.g d mb l h1 (fun w h2 => match v, w with | .int a, .int b => Q a b 1 h2 | _, _ => False) X) X) {fr} {s : Shared} {P E : Value → Shared → Prop} (R : Rep c F.names l hp fr s.heap)
    (hP : ∀ lo hi st hp' h' tk' r t u v, Q lo hi st hp' → Rep c F.names l hp' fr h' → IsRange h' r lo hi st t u v → P (.ref r) { s with heap := h', toks := tk' }) (hX : XP c F.names l fr X E s) :
    wpAny (model c.g.prog c.g.w) c.A (eval (.Call (.Name x p) [a, b] [] pos) c.env) P E s := by
  subst hxe
  refine Call_ (nameB FO hg hsc ok hx (v := .type "range") boot_range hk (by decide) (by decide) R ?_) rfl
  refine PyProof.Rows.callWith_type1 ?_ (starEach_cons hn) (by rw [starEach_cons hn2]; rfl)
  refine spliced_more (ha c d FO hg hsc ok rm l hp _ X hev fr s _ E R (fun v y h1 hh tk hq hy R1 => ?_) hX) (starEach_cons hn)
  refine spliced_more (hb c d FO hg hsc ok rm l h1 _ X hq fr _ _ E R1 (fun w z h2 hh2 tk2 hq2 hz R2 => ?_) hX) (starEach_cons hn2)
  refine spliced_none ?_
  split at hq2
  · obtain ⟨t, rfl⟩ := absV_int hy
    obtain ⟨u, rfl⟩ := absV_int hz
    obtain ⟨g, m, news, T, Fm, lo, H, N, D⟩ := R2.parts
    exact range2_rows Fm N fun h' tk' t1 u1 v1 hr F' N' _ => hP _ _ _ h2 h' tk' _ _ _ _ hq2 (Rep.of T F' lo H N' D) hr
  · exact hq2.elim
theorem se_rangeArgs3 {x : Str} {p pos : Pos} {a b e : Expr} {ma mb me : ME} (hxe : x = "range") (hx : x ∈ F.bt) (hk : F.sc.names.lookup x = some .globalImplicit) (hn : notStar a = true) (ha : SE F a ma) (hn2 : notStar b = true) (hb : SE F b mb) (hn3 : notStar e = true) (he : SE F e me)
    {c : Cx} {d : Nat} (FO : F.Ok) (hg : c.g = F.g) (hsc : SCF c F) (ok : c.Ok) (rm : room c d) {l hp X} {Q : Int → Int → Int → HP → Prop}
    (hev : ev F.g d ma l hp (fun v h1 => ev F.g d mb l h1 (fun w h2 => ev F.g d me l h2 (fun u h3 => match v, w, u with | .int a, .int b, .int e => e ≠ 0 ∧ Q a b e h3 | _, _, _ => False) X) X) X) {fr} {s : Shared} {P E : Value → Shared → Prop} (R : Rep c F.names l hp fr s.heap)
    (hP : ∀ lo hi st hp' h' tk' r t u v, Q lo hi st hp' → Rep c F.names l hp' fr h' → IsRange h' r lo hi st t u v → P (.ref r) { s with heap := h', toks := tk' }) (hX : XP c F.names l fr X E s) :
    wpAny (model c.g.prog c.g.w) c.A (eval (.Call (.Name x p) [a, b, e] [] pos) c.env) P E s := by
  subst hxe
  refine Call_ (nameB FO hg hsc ok hx (v := .type "range") boot_range hk (by decide) (by decide) R ?_) rfl
  refine PyProof.Rows.callWith_type1 ?_ (starEach_cons hn) (by rw [starEach_cons hn2, starEach_cons hn3]; rfl)
  refine spliced_more (ha c d FO hg hsc ok rm l hp _ X hev fr s _ E R (fun v y h1 hh tk hq hy R1 => ?_) hX) (starEach_cons hn)
  refine spliced_more (hb c d FO hg hsc ok rm l h1 _ X hq fr _ _ E R1 (fun w z h2 hh2 tk2 hq2 hz R2 => ?_) hX) (starEach_cons hn2)
  refine spliced_more (he c d FO hg hsc ok rm l h2 _ X hq2 fr _ _ E R2 (fun u z3 h3 hh3 tk3 hq3 hz3 R3 => ?_) hX) (starEach_cons hn3)
  refine spliced_none ?_
  split at hq3
  · obtain ⟨t, rfl⟩ := absV_int hy
    obtain ⟨u, rfl⟩ := absV_int hz
    obtain ⟨u3, rfl⟩ := absV_int hz3
    obtain ⟨g, m, news, T, Fm, lo, H, N, D⟩ := R3.parts
    exact range3_rows Fm N hq3.1 (fun h' tk' t1 u1 v1 hr F' N' _ => hP _ _ _ h3 h' tk' _ _ _ _ hq3.2 (Rep.of T F' lo H N' D) hr) (.inr (pylong ok rm R3))
  · exact hq3.elim
theorem folded_call {f : Expr} {as : List Expr} {ks : List Keyword} {pos : Pos} {env : Env} (x : Value) : foldedSetIterable (.Call f as ks pos) env x = pure x := rfl
theorem ss_forR1 {x r : Str} {p pr pc pos : Pos} {i : Nat} {a : Expr} {ma : ME} {b : List Stmt} {m : MS} (hre : r = "range") (hr : r ∈ F.bt) (hkr : F.sc.names.lookup r = some .globalImplicit) (hn : notStar a = true) (ha : SE F a ma)
    (hi : F.names[i]? = some x) (hk : F.sc.names.lookup x = some .local) (hb : SB F b m) : SS F (.For (.Name x p) (.Call (.Name r pr) [a] [] pc) b [] pos) (.forR i (.int 0) ma (.int 1) m) := by
  intro c d FO hg hsc ok rm l hp Q X hev hcp fr s P E R hP hX
  refine wpAny_For (se_rangeArgs1 hre hr hkr hn ha FO hg hsc ok rm (X := X)
    (Q := fun x y z h3 => z ≠ 0 ∧ Builtin.Range.small x y z = true ∧ forIn (fun l h R => exec F.g d m l h R noX) i ((List.range (Builtin.Range.rangeSize x y z).toNat).map fun (k : Nat) => V.int (x + k * z)) l h3 (fun _ => True) Q) ?_ R ?_ (hX l)) folded_call
  · refine Eq.mp ?_ hev
    show ev F.g d ma l hp _ X = ev F.g d ma l hp _ X
    congr 1
    funext v h1
    show (match V.int 0, v, V.int 1 with | .int x, .int y, .int z => _ | _, _, _ => False) = _
    cases v <;> rfl
  · intro lo hi' st hp' h' tk' r' t u v hq R' hr'
    exact ss_forR_core (pos := pos) (iter := a) FO hg hsc ok hcp rm hi hk hb hq.2.1 R' hr' hq.2.2 hP
theorem ss_forR2 {x r : Str} {p pr pc pos : Pos} {i : Nat} {a e : Expr} {ma me : ME} {b : List Stmt} {m : MS} (hre : r = "range") (hr : r ∈ F.bt) (hkr : F.sc.names.lookup r = some .globalImplicit) (hn : notStar a = true) (ha : SE F a ma) (hn2 : notStar e = true) (he : SE F e me)
    (hi : F.names[i]? = some x) (hk : F.sc.names.lookup x = some .local) (hb : SB F b m) : SS F (.For (.Name x p) (.Call (.Name r pr) [a, e] [] pc) b [] pos) (.forR i ma me (.int 1) m) := by
  intro c d FO hg hsc ok rm l hp Q X hev hcp fr s P E R hP hX
  refine wpAny_For (se_rangeArgs2 hre hr hkr hn ha hn2 he FO hg hsc ok rm (X := X)
    (Q := fun x y z h3 => z ≠ 0 ∧ Builtin.Range.small x y z = true ∧ forIn (fun l h R => exec F.g d m l h R noX) i ((List.range (Builtin.Range.rangeSize x y z).toNat).map fun (k : Nat) => V.int (x + k * z)) l h3 (fun _ => True) Q) ?_ R ?_ (hX l)) folded_call
  · refine Eq.mp ?_ hev
    show ev F.g d ma l hp _ X = ev F.g d ma l hp _ X
    congr 1
    funext v h1
    show ev F.g d me l h1 _ X = ev F.g d me l h1 _ X
    congr 1
    funext w h2
    show (match v, w, V.int 1 with | .int x, .int y, .int z => _ | _, _, _ => False) = _
    cases v <;> cases w <;> rfl
  · intro lo hi' st hp' h' tk' r' t u v hq R' hr'
    exact ss_forR_core (pos := pos) (iter := a) FO hg hsc ok hcp rm hi hk hb hq.2.1 R' hr' hq.2.2 hP
theorem ss_forR3 {x r : Str} {p pr pc pos : Pos} {i : Nat} {a e f : Expr} {ma me mf : ME} {b : List Stmt} {m : MS} (hre : r = "range") (hr : r ∈ F.bt) (hkr : F.sc.names.lookup r = some .globalImplicit) (hn : notStar a = true) (ha : SE F a ma) (hn2 : notStar e = true) (he : SE F e me)
    (hn3 : notStar f = true) (hf : SE F f mf)
    (hi : F.names[i]? = some x) (hk : F.sc.names.lookup x = some .local) (hb : SB F b m) : SS F (.For (.Name x p) (.Call (.Name r pr) [a, e, f] [] pc) b [] pos) (.forR i ma me mf m) := by
  intro c d FO hg hsc ok rm l hp Q X hev hcp fr s P E R hP hX
  refine wpAny_For (se_rangeArgs3 hre hr hkr hn ha hn2 he hn3 hf FO hg hsc ok rm (X := X)
    (Q := fun x y z h3 => Builtin.Range.small x y z = true ∧ forIn (fun l h R => exec F.g d m l h R noX) i ((List.range (Builtin.Range.rangeSize x y z).toNat).map fun (k : Nat) => V.int (x + k * z)) l h3 (fun _ => True) Q) ?_ R ?_ (hX l)) folded_call
  · exact hev
  · intro lo hi' st hp' h' tk' r' t u v hq R' hr'
    exact ss_forR_core (pos := pos) (iter := a) FO hg hsc ok hcp rm hi hk hb hq.1 R' hr' hq.2 hP
end
theorem isTuple_of {h : Heap} {a : Addr} {items : Array Value} (t : IsTup h a items) : h.IsTuple a items := t
def setE : Expr → Bool
  | .Set .. => true
  | _ => false
theorem folded_plain {e : Expr} (h : setE e = false) {env : Env} (x : Value) : foldedSetIterable e env x = pure x := by
  cases e <;> first | rfl | (exact absurd h (by simp [setE]))
theorem lset_comm {a b : V} : ∀ {l : List V} {i j : Nat}, i ≠ j → lset (lset l i a) j b = lset (lset l j b) i a
  | [], _, _, _ => rfl
  | _ :: _, 0, 0, h => absurd rfl h
  | _ :: _, 0, _ + 1, _ => rfl
  | _ :: _, _ + 1, 0, _ => rfl
  | x :: r, i + 1, j + 1, h => by simp only [lset]; rw [lset_comm (l := r) (by omega)]
theorem lsetN_snoc : ∀ (is : List Nat) (vs : List V) (l : List V) (i : Nat) (v : V), is.length = vs.length → lsetN l (is ++ [i]) (vs ++ [v]) = lset (lsetN l is vs) i v
  | [], [], _, _, _, _ => rfl
  | [], _ :: _, _, _, _, h => by simp at h
  | _ :: _, [], _, _, _, h => by simp at h
  | j :: is, w :: vs, l, i, v, h => by
    simp only [List.cons_append, lsetN]
    exact lsetN_snoc is vs _ i v (by simpa using h)
theorem lsetN_lset : ∀ (is : List Nat) (vs : List V) (l : List V) (i : Nat) (v : V), i ∉ is → lset (lsetN l is vs) i v = lsetN (lset l i v) is vs
  | [], _, _, _, _, _ => by simp [lsetN]
  | _ :: _, [], _, _, _, _ => by simp [lsetN]
  | j :: is, w :: vs, l, i, v, h => by
    simp only [lsetN]
    rw [lsetN_lset is vs _ i v (fun q => h (.tail _ q)), lset_comm (fun e => h (by rw [e]; exact .head _))]
theorem lsetN_rev : ∀ (is : List Nat) (vs : List V) (l : List V), is.Nodup → is.length = vs.length → lsetN l is.reverse vs.reverse = lsetN l is vs
  | [], [], _, _, _ => rfl
  | [], _ :: _, _, _, h => by simp at h
  | _ :: _, [], _, _, h => by simp at h
  | j :: is, w :: vs, l, nd, h => by
    have h' : is.length = vs.length := by simpa using h
    rw [List.reverse_cons, List.reverse_cons, lsetN_snoc _ _ _ _ _ (by simpa using h')]
    rw [lsetN_rev is vs l (List.nodup_cons.mp nd).2 h', lsetN_lset _ _ _ _ _ (List.nodup_cons.mp nd).1]
    rfl
def fIdx : List Str → Str → Nat → Option Nat
  | [], _, _ => none
  | y :: r, x, n => if y == x then some n else fIdx r x (n + 1)
theorem fIdx_get : ∀ {names : List Str} {x : Str} {n i : Nat}, fIdx names x n = some i → n ≤ i ∧ names[i - n]? = some x
  | [], _, _, _, h => by cases h
  | y :: r, x, n, i, h => by
    unfold fIdx at h
    split at h
    · rename_i e
      cases h
      rw [beq_iff_eq.mp e]
      simp
    · obtain ⟨a, b⟩ := fIdx_get h
      refine ⟨by omega, ?_⟩
      rw [show i - n = (i - (n + 1)) + 1 by omega]
      simpa using b
/-- the place of a local name -/
def loc? (F : Fx) (x : Str) : Option Nat :=
  match fIdx F.names x 0 with
  | some i => if F.sc.names.lookup x = some .local ∧ (x == ("__debug__" : Str)) = false then some i else none
  | none => none
theorem loc?_spec {F : Fx} {x : Str} {i : Nat} (h : loc? F x = some i) : F.names[i]? = some x ∧ F.sc.names.lookup x = some .local ∧ (x == ("__debug__" : Str)) = false := by
  unfold loc? at h
  split at h
  · rename_i j hj
    split at h
    · rename_i e
      cases h
      exact ⟨by simpa using (fIdx_get hj).2, e.1, e.2⟩
    · cases h
  · cases h
/-- the places of a row of names -/
def tgt? (F : Fx) : List Expr → Option (List Str × List Nat)
  | [] => some ([], [])
  | .Name x _ :: r => match loc? F x, tgt? F r with
    | some i, some (xs, is) => some (x :: xs, i :: is)
    | _, _ => none
  | _ :: _ => none
theorem tgt?_assign {F : Fx} {c : Cx} (FO : F.Ok) (hsc : SCF c F) (ok : c.Ok) (hcp : c.cp = none) : ∀ {ts : List Expr} {xs : List Str} {is : List Nat}, tgt? F ts = some (xs, is) →
    ((assignEach ts c.env).length = ts.length ∧ ts.length = is.length ∧ List.findIdx? (fun x => x.fst) (assignEach ts c.env) = none) ∧
    ∀ (l : List V) (hp : HP) (fr : List (Addr × Obj)) (s : Shared) (vs : List V) (vals : List Value) (P : Unit → Shared → Prop) (E : Value → Shared → Prop), vals.map absV = vs → vs.length = is.length → Rep c F.names l hp fr s.heap →
      (∀ h' tk', Rep c F.names (lsetN l is vs) hp fr h' → P () { s with heap := h', toks := tk' }) →
      wpAny (model c.g.prog c.g.w) c.A (assignInOrder ((assignEach ts c.env).map (fun x => x.snd)) vals) P E s
  | [], xs, is, h => by
    cases h
    refine ⟨⟨rfl, rfl, rfl⟩, fun l hp fr s vs vals P E hv hl R hP => ?_⟩
    have : vs = [] := by simpa using hl
    subst this
    exact assignInOrder_nil (hP s.heap s.toks R)
  | e :: r, xs, is, h => by
    cases e <;> first | (simp only [tgt?, reduceCtorEq] at h; done) | skip
    rename_i x p
    simp only [tgt?] at h
    split at h
    · rename_i i ys js hi hr
      cases h
      obtain ⟨⟨a1, a2, a3⟩, ih⟩ := tgt?_assign FO hsc ok hcp hr
      obtain ⟨b1, b2, b3⟩ := loc?_spec hi
      refine ⟨⟨by simp [assignEach, a1], by simp [a2], by simp [assignEach, List.findIdx?_cons, a3]⟩, fun l hp fr s vs vals P E hv hl R hP => ?_⟩
      cases vals with
      | nil => subst hv; simp at hl
      | cons y ys' =>
        subst hv
        simp only [List.map_cons, List.length_cons] at hl
        show wpAny _ _ (assignInOrder (assign (.Name x p) c.env :: (assignEach r c.env).map (fun x => x.snd)) (y :: ys')) P E s
        refine assignInOrder_cons (PyProof.Rows.assign_Name (storeS FO hsc ok hcp b1 b2 R rfl fun h' tk' R' => ?_))
        exact ih _ _ _ _ _ _ _ _ rfl (by simpa using hl) R' fun h2 tk2 R2 => hP h2 tk2 R2
    · cases h
theorem bindNames {F : Fx} {c : Cx} (FO : F.Ok) (hsc : SCF c F) (ok : c.Ok) (hcp : c.cp = none) : ∀ {xs : List Str} {is : List Nat}, xs.length = is.length → (∀ p ∈ xs.zip is, F.names[p.2]? = some p.1 ∧ F.sc.names.lookup p.1 = some .local) →
    ∀ (l : List V) (hp : HP) (fr : List (Addr × Obj)) (s : Shared) (vs : List V) (vals : List Value) (P : Unit → Shared → Prop) (E : Value → Shared → Prop), vals.map absV = vs → vs.length = is.length → Rep c F.names l hp fr s.heap →
      (∀ h' tk', Rep c F.names (lsetN l is vs) hp fr h' → P () { s with heap := h', toks := tk' }) →
      wpAny (model c.g.prog c.g.w) c.A (assignInOrder (xs.map fun n => bindName c.env n) vals) P E s
  | [], [], _, _ => fun l hp fr s vs vals P E hv hl R hP => by
    have : vs = [] := by simpa using hl
    subst this
    exact assignInOrder_nil (hP s.heap s.toks R)
  | [], _ :: _, h, _ => by simp at h
  | _ :: _, [], h, _ => by simp at h
  | x :: xs, i :: is, h, hz => fun l hp fr s vs vals P E hv hl R hP => by
    cases vals with
    | nil => subst hv; simp at hl
    | cons y ys' =>
      subst hv
      obtain ⟨b1, b2⟩ := hz (x, i) (by simp)
      refine assignInOrder_cons (bindName_ (storeS FO hsc ok hcp b1 b2 R rfl fun h' tk' R' => ?_))
      exact bindNames FO hsc ok hcp (by simpa using h) (fun p hp => hz p (by simp only [List.zip_cons_cons]; exact .tail _ hp)) _ _ _ _ _ _ _ _ rfl (by simpa using hl) R' fun h2 tk2 R2 => hP h2 tk2 R2
theorem tgt?_zip {F : Fx} : ∀ {ts : List Expr} {xs : List Str} {is : List Nat}, tgt? F ts = some (xs, is) → xs.length = is.length ∧ ∀ p ∈ xs.zip is, F.names[p.2]? = some p.1 ∧ F.sc.names.lookup p.1 = some .local
  | [], xs, is, h => by cases h; simp
  | e :: r, xs, is, h => by
    cases e <;> first | (simp only [tgt?, reduceCtorEq] at h; done) | skip
    rename_i x p
    simp only [tgt?] at h
    split at h
    · rename_i i ys js hi hr
      cases h
      obtain ⟨a1, a2⟩ := tgt?_zip hr
      obtain ⟨b1, b2, b3⟩ := loc?_spec hi
      refine ⟨by simp [a1], fun p hp => ?_⟩
      simp only [List.zip_cons_cons] at hp
      cases hp with
      | head => exact ⟨b1, b2⟩
      | tail _ hp => exact a2 p hp
    · cases h
/-- how a row of names takes a tuple display: none: item by item; some names: from the last on -/
def swr (sc : Scope) (ts vs : List Expr) : Option (Option (List Str)) :=
  if !(ts.length == 2 || ts.length == 3) || vs.length != ts.length then some none
  else if vs.any (fun | .Starred .. => true | _ => false) then some none
  else
    let line := (ts.head?.map (·.pos.line)).getD 0
    let names := ts.filterMap fun
      | .Name id pos => if sc.names.lookup id == some .local && pos.line == line then some id else none
      | _ => none
    if names.length != ts.length || names.eraseDups.length != names.length then some none
    else if vs.all (foldedForSure 8) then some none
    else if vs.all (constantsAlone 8) then none
    else some (some names)
theorem swr_spec {sc : Scope} {ts vs : List Expr} {r : Option (List Str)} (h : swr sc ts vs = some r) {env : Env} (he : env.scope = sc) (hk : sc.kind = .function) {k k' p p'} :
    swappedStores [.Tuple ts k p] (.Tuple vs k' p') env = pure r := by
  have hb : env.blockKind = .function := by unfold Env.blockKind; rw [he, hk]; rfl
  unfold swr at h
  unfold swappedStores
  simp only [hb, bne_self_eq_false, Bool.or_false, Env.kindOf, he]
  dsimp only at h ⊢
  split at h
  · rename_i e; cases h; rw [if_pos e]
  · rename_i e
    rw [if_neg e]
    simp only [pure_bind, bind_pure_comp] 
    split at h
    · rename_i e; cases h; exact if_pos e
    · rename_i e
      refine (if_neg e).trans ?_
      split at h
      · rename_i e; cases h; exact if_pos e
      · rename_i e
        refine (if_neg e).trans ?_
        split at h
        · rename_i e; cases h; exact if_pos e
        · rename_i e
          refine (if_neg e).trans ?_
          split at h
          · cases h
          · rename_i e; cases h; exact if_neg e
theorem unp_none {ts : List Expr} {k p} {e : Expr} (h : ∀ vs k' p', e ≠ .Tuple vs k' p') {env : Env} : swappedStores [.Tuple ts k p] e env = pure none := by
  unfold swappedStores
  cases e <;> first | rfl | (exact absurd rfl (h _ _ _))
section
variable {F : Fx}
theorem ss_asgN {ts es : List Expr} {k k' p p' pos} {xs : List Str} {is : List Nat} {ms : ME} (ht : tgt? F ts = some (xs, is)) (hs : swr F.sc ts es = some none ∨ (swr F.sc ts es = some (some xs) ∧ is.Nodup))
    (hl : ts.length = es.length) (hsz : es.length ≤ 100) (hes : SEs F es ms) : SS F (.Assign [.Tuple ts k p] (.Tuple es k' p') pos) (.asgN is ms) := by
  intro c d FO hg hsc ok rm l hp Q X hev hcp fr s P E R hP hX
  obtain ⟨⟨a1, a2, a3⟩, hasg⟩ := tgt?_assign (c := c) FO hsc ok hcp ht
  have hkf : F.sc.kind = .function := hsc.1 ▸ ok.kind
  have main : ∀ (vs : List V) (vals : List Value) (h1 : HP) (hh : Heap) (tk : Nat) (T₀ : Value → Shared → Prop), vals.map absV = vs → vs.length = is.length → Rep c F.names l h1 fr hh →
      (∀ r h' g m news, KtsTurn c.fs c.h₀ g → Fr g c.L h' m → LocX c F.names l m fr → HpN c h1 news → News g c.L h' ((r, { cls := .type "tuple", data := .seq vals.toArray }) :: (news ++ fr)) → (∀ p ∈ fr, h1 p.1 = Option.none) → T₀ (.ref r) { s with heap := h', toks := tk }) →
      wpAny (model c.g.prog c.g.w) c.A (newTuple vals) T₀ E { s with heap := hh, toks := tk } := by
    intro vs vals h1 hh tk T₀ hv hlv R1 hT
    obtain ⟨g, m, news, T, Fm, lo, H, N, D⟩ := R1.parts
    refine newTuple_N Fm N (fun h' F' N' => hT _ h' g m news T F' lo H N' D) ?_
    have : vals.length = vs.length := by rw [← hv]; simp
    have h2 : sizeLine = 2 ^ 24 := rfl
    omega
  have hsw : ∀ t, swapsWithSole [t] (.Tuple es k' p') pos.line c.env = pure false := fun t => swaps_plain (e := .Tuple es k' p') rfl (some t) pos.line c.env
  rcases hs with hs | ⟨hs, hnd⟩
  · refine Assign_Tuple ?_ (hsw _) (swr_spec hs (c.env_scope.trans hsc.1) hkf)
    refine Tuple_ (hes c d FO hg hsc ok rm l hp _ X hev p' fr s _ E R (fun vs vals h1 hh tk hq hx R1 => ?_) (hX l))
    dsimp only at hq
    cases hsl : sameLen vs is with
    | false => rw [hsl] at hq; exact hq.elim
    | true =>
      rw [hsl] at hq
      have hlv := sameLen_len hsl
      refine main vs vals h1 hh tk _ hx hlv R1 fun r h' g m news T F' lo H N' D => ?_
      refine unpackN_ F' N' (t := r) (items := vals.toArray) ⟨_, (N' _ (.head _)).1, rfl, _, rfl⟩ (handled_none ok) (by rw [a1, a2, ← hlv, ← hx]; simp) a3 fun h2 F2 N2 => ?_
      exact hasg _ _ _ _ vs vals.toArray.toList _ _ (by simpa [rVs] using hx) hlv (Rep.of T F2 lo H (fun p hp => N2 p (.tail _ hp)) D) fun h3 tk3 R3 => hP .next .next _ h1 h3 tk3 hq trivial R3
  · refine Assign_Tuple_swapped (names := xs) ?_ (hsw _) (swr_spec hs (c.env_scope.trans hsc.1) hkf)
    refine Tuple_ (hes c d FO hg hsc ok rm l hp _ X hev p' fr s _ E R (fun vs vals h1 hh tk hq hx R1 => ?_) (hX l))
    dsimp only at hq
    cases hsl : sameLen vs is with
    | false => rw [hsl] at hq; exact hq.elim
    | true =>
      rw [hsl] at hq
      have hlv := sameLen_len hsl
      obtain ⟨z1, z2⟩ := tgt?_zip ht
      refine main vs vals h1 hh tk _ hx hlv R1 fun r h' g m news T F' lo H N' D => ?_
      refine unpackItemsN_ F' N' (t := r) (items := vals.toArray) ⟨_, (N' _ (.head _)).1, rfl, _, rfl⟩ (handled_none ok) (by rw [z1, ← hlv, ← hx]; simp) fun h2 F2 N2 => ?_
      refine bindNames FO hsc ok hcp (xs := xs.reverse) (is := is.reverse) (by simpa using z1) (fun q hq' => z2 q ?_) _ _ _ _ vs.reverse _ _ _ (by rw [← hx]; simp) (by simpa using hlv) (Rep.of T F2 lo H (fun p hp => N2 p (.tail _ hp)) D) fun h3 tk3 R3 => ?_
      · have e9 : xs.reverse.zip is.reverse = (xs.zip is).reverse := by simp only [List.zip]; exact (List.reverse_zipWith z1).symm
        rw [e9] at hq'
        simpa using hq'
      · rw [lsetN_rev is vs l hnd hlv.symm] at R3
        exact hP .next .next _ h1 h3 tk3 hq trivial R3
theorem ss_unp {ts : List Expr} {k p pos} {xs : List Str} {is : List Nat} {e : Expr} {m : ME} (ht : tgt? F ts = some (xs, is)) (hne : ∀ vs k' p', e ≠ .Tuple vs k' p') (hc : compE e = false)
    (he : SE F e m) : SS F (.Assign [.Tuple ts k p] e pos) (.unp is m) := by
  intro c d FO hg hsc ok rm l hp Q X hev hcp fr s P E R hP hX
  obtain ⟨⟨a1, a2, a3⟩, hasg⟩ := tgt?_assign (c := c) FO hsc ok hcp ht
  have hsw : swapsWithSole [.Tuple ts k p] e pos.line c.env = pure false := swaps_plain hc (some (.Tuple ts k p)) pos.line c.env
  refine Assign_Tuple ?_ hsw (unp_none hne)
  refine he c d FO hg hsc ok rm l hp _ X hev fr s _ E R (fun v x h1 hh tk hq hx R1 => ?_) (hX l)
  cases v with
  | ref a =>
    cases absV_ref hx
    obtain ⟨vs, e1, hlv, hq⟩ := hq
    obtain ⟨items, hi, hl⟩ := R1.items ok (by rw [e1]; rfl)
    rcases hl with ⟨_, hl⟩ | ⟨hl, _⟩
    · exact absurd e1 (hl _)
    · obtain ⟨g, m', news, T, Fm, lo, H, N, D⟩ := R1.parts
      refine unpackN_ Fm N hl (handled_none ok) (by rw [a1, a2, ← hlv, ← hi]; simp) a3 fun h2 F2 N2 => ?_
      exact hasg _ _ _ _ vs items.toList _ _ hi hlv (Rep.of T F2 lo H N2 D) fun h3 tk3 R3 => hP .next .next _ h1 h3 tk3 hq trivial R3
  | _ => exact hq.elim
/-- an object of the store gives way to another -/
theorem Rep.upd {c : Cx} {names l hp fr h h'} {a : Addr} {o o₀ : O} {ob : Obj} (R : Rep c names l hp fr h) (h0 : hp a = some o₀) (hs : Heap.SameBut a h h') (ho : h'.get? a = some ob) (hr : RepO o ob)
    (hn : ∀ ws, o₀ ≠ .ro ws) : Rep c names l (hset hp a o) fr h' := by
  obtain ⟨g, T, m, Fm, lo, H, N, D⟩ := R
  have ha : a ≠ c.L ∧ g.get? a = none := by
    have := H.2 a _ h0
    cases o₀ with
    | ro ws => exact absurd rfl (hn ws)
    | list ws => obtain ⟨_, _, _, q⟩ := this; exact q
    | tup ws => obtain ⟨_, _, _, q⟩ := this; exact q
    | cell ws => obtain ⟨_, _, _, q⟩ := this; exact q
    | rng _ _ _ => obtain ⟨_, _, _, q⟩ := this; exact q
    | dict _ => obtain ⟨_, _, _, q⟩ := this; exact q
  have hfr : ∀ p ∈ fr, p.1 ≠ a := fun p hp' e => by have := D p hp'; rw [e, h0] at this; cases this
  refine ⟨g, T, m, ⟨Fm.ns.at' fun ob' e => (hs.2 _ (Ne.symm ha.1)).trans e, fun b ob' e => (hs.2 b fun q => by rw [q, ha.2] at e; cases e).trans (Fm.keep b ob' e), Fm.above⟩, lo, ⟨?_, fun b x hx => ?_⟩, fun p hp' => ⟨(hs.2 _ (hfr p hp')).trans (N p hp').1, (N p hp').2⟩, fun p hp' => by rw [hset_ne (hfr p hp')]; exact D p hp'⟩
  · obtain ⟨Dm, hD⟩ := H.1
    refine ⟨a :: Dm, fun b x hx => ?_⟩
    by_cases e : b = a
    · exact e ▸ .head _
    · rw [hset_ne e] at hx; exact .tail _ (hD b x hx)
  · by_cases e : b = a
    · subst e
      rw [hset_same] at hx
      cases hx
      cases o with
      | ro vs => exact hr.elim
      | list vs => exact ⟨ob, ho, hr, ha⟩
      | tup vs => exact ⟨ob, ho, hr, ha⟩
      | cell vs => exact ⟨ob, ho, hr, ha⟩
      | rng _ _ _ => exact ⟨ob, ho, hr, ha⟩
      | dict _ => exact ⟨ob, ho, hr, ha⟩
    · rw [hset_ne e] at hx
      have := H.2 b x hx
      cases x with
      | ro vs => exact this
      | list vs => obtain ⟨ob', h1, h2⟩ := this; exact ⟨ob', (hs.2 _ e).trans h1, h2⟩
      | tup vs => obtain ⟨ob', h1, h2⟩ := this; exact ⟨ob', (hs.2 _ e).trans h1, h2⟩
      | cell vs => obtain ⟨ob', h1, h2⟩ := this; exact ⟨ob', (hs.2 _ e).trans h1, h2⟩
      | rng _ _ _ => obtain ⟨ob', h1, h2⟩ := this; exact ⟨ob', (hs.2 _ e).trans h1, h2⟩
      | dict _ => obtain ⟨ob', h1, h2⟩ := this; exact ⟨ob', (hs.2 _ e).trans h1, h2⟩
end
/-! frames whose ground has turned -/
/-- the caller's ground, when what the callee stood on has turned -/
theorem turnBack {A₀ : Around} {base h₀ g g' H : Heap} {outer : List Env} {L : Addr} {m : Str → Option Value} (B : Below A₀ base outer h₀) (FG : Fr h₀ L g m)
    (T : KtsTurn (L :: outer.filterMap (·.frame)) g g') (k : ∀ b o, g'.get? b = some o → H.get? b = some o) :
    ∃ h', KtsTurn (outer.filterMap (·.frame)) h₀ h' ∧ Fr h' L H m ∧ ∀ b, g'.get? b = none → b ≠ L ∧ h'.get? b = none := by
  have nL : h₀.get? L = none := kts_self FG
  obtain ⟨oL, es, ep, hL, hLd, hLk, hLf⟩ := FG.ns
  obtain ⟨sl, hs⟩ := T.up hL
  obtain ⟨T₁, S₁⟩ := kts_turn_at (h := H) (fs := outer.filterMap (·.frame)) (g := h₀)
    (fun b hb => by
      obtain ⟨_, o, ho', _⟩ := B.frames.mem hb
      exact ⟨o, ho'⟩)
    (fun b o e nm => k b o (T.other b o (FG.keep b o e) (fun q => by
      rcases List.mem_cons.mp q with z | z
      · rw [z, nL] at e; cases e
      · exact nm z)))
    (fun b o e hm => by
      obtain ⟨sl', hs'⟩ := T.up (FG.keep b o e)
      exact ⟨sl', k _ _ hs'⟩)
  refine ⟨_, T₁, ⟨⟨_, es, ep, k _ _ hs, hLd, hLk, hLf⟩, S₁, by rw [T₁.size]; exact FG.above⟩, fun b hb => ⟨fun e => (by rw [e, hs] at hb; cases hb), T₁.none_ _ ?_⟩⟩
  cases q : h₀.get? b with
  | none => rfl
  | some o =>
    obtain ⟨sl', hs'⟩ := T.up (FG.keep _ _ q)
    rw [hs'] at hb; cases hb
def LeaveT (fs : List Addr) (h₀ : Heap) (L : Addr) (m : Str → Option Value) (g : Heap) (R : Result → Shared → Prop) (v : Value) (s' : Shared) : Prop :=
  ∃ g' L' m' news', KtsTurn (L :: fs) g g' ∧ Fr g' L' s'.heap m' ∧ News g' L' s'.heap news' ∧ ∀ h₀', KtsTurn fs h₀ h₀' → Fr h₀' L s'.heap m → News h₀' L s'.heap news' → R (.ok (.ret v)) s'
theorem LeaveT.done {A₀ : Around} {base h₀ g : Heap} {outer : List Env} {L : Addr} {m : Str → Option Value} {R : Result → Shared → Prop} {v : Value} {s' : Shared} (B : Below A₀ base outer h₀) (FG : Fr h₀ L g m)
    (h : LeaveT (outer.filterMap (·.frame)) h₀ L m g R v s') : R (.ok (.ret v)) s' := by
  obtain ⟨g', L', m', news', T, F', N', k⟩ := h
  obtain ⟨h', T₁, F₁, fr⟩ := turnBack (H := s'.heap) B FG T F'.keep
  exact k h' T₁ F₁ fun p hp => ⟨(N' p hp).1, (fr _ (N' p hp).2.2).1, (fr _ (N' p hp).2.2).2⟩
section
variable {prog : Program} {w : World} {A₀ A : Around} {s : Shared} {base h₀ : Heap} {L : Addr} {m : Str → Option Value} {news : List (Addr × Obj)} {K : Frag} {p : Program} {loose : List Str} {mean : ExcName → Option Value} {mg mb : Str → Option Value}
  {env : Env} {outer : List Env} {R : Result → Shared → Prop} {name qual : Str} {params : Arguments} {body : List Stmt} {scope : Scope} {dV kV doc pm cdv ct oc : Value} {an od : Option Addr} {osl : Array (Option Value)} {f : Addr} {args : Args} {binds : List (Str × Value)}
theorem code_defT (B : Below A₀ base outer h₀) (F : Fr h₀ L s.heap m) (X₀ : K.In h₀) (N : News h₀ L s.heap news) (hlim : h₀.NoLimit) (hA : A.frames = some (env :: outer)) (hf : env.frame = some L) (hke : env.scope.kind = .function)
    (ho : K.lookup f = some ⟨oc, od, .func (fnOf name qual params body scope dV kV doc pm an cdv ct), osl⟩) (hcd : codeIn K cdv qual = true) (hroom : A.depth < recursionLimit)
    (hbind : BindsTo s (fnOf name qual params body scope dV kV doc pm an cdv ct) args binds) (hloc : ∀ y ∈ binds, scope.names.lookup y.1 = some .local)
    (h : ∀ g L' h₁, Fr h₀ L g m → Fr g L' h₁ (fun y => binds.reverse.lookup y) → News g L' h₁ news → Below A base (env :: outer) g →
      wpAny (model prog w) (A.deeper (envOf qual scope L' f cdv)) (execs body (envOf qual scope L' f cdv))
        (fun fl s' => LeaveT (outer.filterMap (·.frame)) h₀ L m g R (match fl with | .ret v => v | _ => .none) s')
        (fun e s' => wpAny (model prog w) (A.deeper (envOf qual scope L' f cdv)) (leaving (envOf qual scope L' f cdv) e) (fun _ s'' => R (.error e) s'') (fun e' s'' => R (.error e') s'') s')
        { s with heap := h₁, toks := s.toks + binds.length })
    (hco : scope.isCoroutine = false) (hgen : scope.isGenerator = false) (hk : scope.kind = .function)
    (hcell : ∀ x ∈ scope.names, x.2 ≠ .cell) : codeAny (model prog w) A (.call (.ref f) args) R s := by
  obtain ⟨FG, BG, st, lv⟩ := groundX (R := R) B F N hA hf hke
  refine codeAny_call_def (fd := fnOf name qual params body scope dV kV doc pm an cdv ct) (body := body) (binds := binds) hroom ((X₀.keeps F.keep) _ _ ho) rfl (hlim.keeps F.keep) (codeRec_of (X₀.keeps F.keep) hcd) rfl hbind hcell hloc (fun h₁ hns hk₁ => ?_) hco hgen hk
  exact wpAny_mono (h _ s.heap.objs.size h₁ FG ⟨hns, fun b o e => hk₁ b o (of_hideAll _ e), Nat.le_of_eq (hideAll_size _ _)⟩
    (fun p hp => ⟨hk₁ _ _ (N p hp).1, Nat.ne_of_lt (Heap.lt_size (N p hp).1), hideAll_none _ (List.mem_map_of_mem hp)⟩) BG) (fun fl s' hl => hl.done B FG) fun _ _ y => y
theorem code_defCT (B : Below A₀ base outer h₀) (F : Fr h₀ L s.heap m) (X₀ : K.In h₀) (N : News h₀ L s.heap news) (hlim : h₀.NoLimit) (hA : A.frames = some (env :: outer)) (hf : env.frame = some L) (hke : env.scope.kind = .function)
    (ho : K.lookup f = some ⟨oc, od, .func (fnOf name qual params body scope dV kV doc pm an cdv ct), osl⟩) (hcd : codeIn K cdv qual = true) (hroom : A.depth < recursionLimit)
    (hbind : BindsTo s (fnOf name qual params body scope dV kV doc pm an cdv ct) args binds) (hkind : (binds.all fun y => scope.names.lookup y.1 == some .local || scope.names.lookup y.1 == some .cell) = true)
    (hnd : ((cellsFrom 0 scope.names []).map (·.1)).Nodup)
    (h : ∀ g L' h₁ tk cells, Fr h₀ L g m → Fr g L' h₁ (bindL (envOfC qual scope L' f cdv).kindOf binds fun _ => none) → News g L' h₁ (cells ++ news) →
      CellsAre (bindC (envOfC qual scope L' f cdv).kindOf binds fun _ => none) (cellsFrom (L' + 1) scope.names []) cells → Below A base (env :: outer) g → (∀ p ∈ news, p.1 < L') →
      wpAny (model prog w) (A.deeper (envOfC qual scope L' f cdv)) (execs body (envOfC qual scope L' f cdv))
        (fun fl s' => LeaveT (outer.filterMap (·.frame)) h₀ L m g R (match fl with | .ret v => v | _ => .none) s')
        (fun e s' => wpAny (model prog w) (A.deeper (envOfC qual scope L' f cdv)) (leaving (envOfC qual scope L' f cdv) e) (fun _ s'' => R (.error e) s'') (fun e' s'' => R (.error e') s'') s')
        { s with heap := h₁, toks := tk })
    (hco : scope.isCoroutine = false) (hgen : scope.isGenerator = false) (hk : scope.kind = .function) : codeAny (model prog w) A (.call (.ref f) args) R s := by
  obtain ⟨FG, BG, st, lv⟩ := groundX (R := R) B F N hA hf hke
  refine codeAny_call_function hroom ((X₀.keeps F.keep) _ _ ho) rfl hco hgen rfl (codeRec_of (X₀.keeps F.keep) hcd) (hbind _ _ _ _ ?_)
  refine wpAny_newFunctionEnv_cells hk (kindsX hkind _) fun env' he s' x => ?_
  subst he
  refine ⟨(hlim.keeps F.keep).keeps x.toInCall.keep, codeAny_func ?_⟩
  obtain ⟨h₁, tk, rfl, _⟩ := x.done
  have hk₁ := x.toInCall.keep
  obtain ⟨cells, NC, Y⟩ := Cl.news (h₀ := s.heap) (Nat.le_refl _) fun n c hm => ⟨x.cell n c (lookup_of_mem_nodup (cellsFrom_names scope.names 0 (s.heap.objs.size + 1) [] [] rfl ▸ hnd) hm), x.above n c hm⟩
  refine wpAny_mono (h _ s.heap.objs.size h₁ tk cells FG ⟨x.toInCall.ns, fun b o e => hk₁ b o (of_hideAll _ e), Nat.le_of_eq (hideAll_size _ _)⟩ (fun p hp => ?_) Y BG (fun p hp => Heap.lt_size (N p hp).1)) (fun fl s' hl => hl.done B FG) fun _ _ y => y
  rcases List.mem_append.mp hp with hp | hp
  · refine ⟨(NC p hp).1, (NC p hp).2.1, ?_⟩
    cases q : (hideAll s.heap (news.map (·.1))).get? p.1 with
    | none => rfl
    | some o => have := of_hideAll _ q; rw [(NC p hp).2.2] at this; cases this
  · exact ⟨hk₁ _ _ (N p hp).1, Nat.ne_of_lt (Heap.lt_size (N p hp).1), hideAll_none _ (List.mem_map_of_mem hp)⟩
end
theorem Cx.fs_push {c : Cx} : (c.fenv :: c.outer).filterMap (·.frame) = c.L :: c.fs := rfl
theorem Cx.Ok.dictsPush {c : Cx} (ok : c.Ok) {g : Heap} {m : Str → Option Value} (FG : Fr c.h₀ c.L g m) : KtsDicts (c.L :: c.fs) g := by
  intro b hb
  rcases List.mem_cons.mp hb with rfl | hb
  · obtain ⟨oL, es, ep, hL, hLd, _⟩ := FG.ns
    exact ⟨oL, es, ep, hL, hLd⟩
  · obtain ⟨o, es, n, ho, hd⟩ := ok.dicts b hb
    exact ⟨o, es, n, FG.keep b o ho, hd⟩
def hclr (hp : HP) (a : Addr) : HP := fun b => if b = a then none else hp b
theorem Rep.at {c : Cx} {names l hp fr h} {a : Addr} {vs : List V} (R : Rep c names l hp fr h) (e : hp a = some (.list vs)) :
    ∃ g m news items n, KtsTurn c.fs c.h₀ g ∧ Fr g c.L h m ∧ LocX c names l m fr ∧ items.toList.map absV = vs ∧ HpN c (hclr hp a) news ∧ News g c.L h ((a, listOf items n) :: (news ++ fr)) ∧
      (∀ p ∈ news ++ fr, p.1 ≠ a) ∧ ∀ p ∈ fr, hp p.1 = Option.none := by
  obtain ⟨g, T, m, Fm, lo, H, N, D⟩ := R
  have H' : HpRep (c.at g) (hclr hp a) h := by
    refine ⟨?_, fun b o hb => ?_⟩
    · obtain ⟨Dm, hD⟩ := H.1
      refine ⟨Dm, fun b o hb => ?_⟩
      unfold hclr at hb
      split at hb
      · cases hb
      · exact hD b o hb
    · unfold hclr at hb
      split at hb
      · cases hb
      · exact H.2 b o hb
  obtain ⟨news, N1, H1⟩ := H'.news
  obtain ⟨ob, h1, ⟨items, n, rfl, hi⟩, h2⟩ := H.2 a _ e
  have hfr : ∀ p ∈ fr, p.1 ≠ a := fun p hp' q => by have := D p hp'; rw [q, e] at this; cases this
  refine ⟨g, m, news.filter (fun p => p.1 != a), items, n, T, Fm, lo, hi, ⟨H1.1, fun b o hb => ?_⟩, ?_, ?_, D⟩
  · have hba : b ≠ a := by intro q; unfold hclr at hb; rw [if_pos q] at hb; cases hb
    have := H1.2 b o hb
    cases o with
    | ro vs => exact this
    | list vs => obtain ⟨ob', q1, q2⟩ := this; exact ⟨ob', List.mem_filter.mpr ⟨q1, by simpa using hba⟩, q2⟩
    | tup vs => obtain ⟨ob', q1, q2⟩ := this; exact ⟨ob', List.mem_filter.mpr ⟨q1, by simpa using hba⟩, q2⟩
    | cell vs => obtain ⟨ob', q1, q2⟩ := this; exact ⟨ob', List.mem_filter.mpr ⟨q1, by simpa using hba⟩, q2⟩
    | rng _ _ _ => obtain ⟨ob', q1, q2⟩ := this; exact ⟨ob', List.mem_filter.mpr ⟨q1, by simpa using hba⟩, q2⟩
    | dict _ => obtain ⟨ob', q1, q2⟩ := this; exact ⟨ob', List.mem_filter.mpr ⟨q1, by simpa using hba⟩, q2⟩
  · intro p hp'
    rcases List.mem_cons.mp hp' with rfl | hp'
    · exact ⟨h1, h2⟩
    · rcases List.mem_append.mp hp' with q | q
      · exact N1 p (List.mem_filter.mp q).1
      · exact N p q
  · intro p hp'
    rcases List.mem_append.mp hp' with q | q
    · have := (List.mem_filter.mp q).2
      simpa using this
    · exact hfr p q
theorem Rep.back {c : Cx} {names : List Str} {l : List V} {hp : HP} {fr news : List (Addr × Obj)} {h' : Heap} {m : Str → Option Value} {a : Addr} {items : Array Value} {n : Nat} {o₀ : O} {g : Heap}
    (T : KtsTurn c.fs c.h₀ g) (Fm : Fr g c.L h' m) (lo : LocX c names l m fr) (H : HpN c (hclr hp a) news) (N : News g c.L h' ((a, listOf items n) :: (news ++ fr))) (D : ∀ p ∈ fr, hp p.1 = Option.none) (e : hp a = some o₀) :
    Rep c names l (hset hp a (.list (items.toList.map absV))) fr h' := by
  have hfr : ∀ p ∈ fr, p.1 ≠ a := fun p hp' q => by have := D p hp'; rw [q, e] at this; cases this
  refine Rep.of (news := (a, listOf items n) :: news) T Fm lo ⟨?_, fun b x hx => ?_⟩ N fun p hp' => by rw [hset_ne (hfr p hp')]; exact D p hp'
  · obtain ⟨Dm, hD⟩ := H.1
    refine ⟨a :: Dm, fun b x hx => ?_⟩
    by_cases q : b = a
    · exact q ▸ .head _
    · rw [hset_ne q] at hx; exact .tail _ (hD b x (by unfold hclr; rw [if_neg q]; exact hx))
  · by_cases q : b = a
    · subst q
      rw [hset_same] at hx
      cases hx
      exact ⟨_, .head _, items, n, rfl, rfl⟩
    · rw [hset_ne q] at hx
      have := H.2 b x (by unfold hclr; rw [if_neg q]; exact hx)
      cases x with
      | ro vs => exact this
      | list vs => obtain ⟨ob', h1, h2⟩ := this; exact ⟨ob', .tail _ h1, h2⟩
      | tup vs => obtain ⟨ob', h1, h2⟩ := this; exact ⟨ob', .tail _ h1, h2⟩
      | cell vs => obtain ⟨ob', h1, h2⟩ := this; exact ⟨ob', .tail _ h1, h2⟩
      | rng _ _ _ => obtain ⟨ob', h1, h2⟩ := this; exact ⟨ob', .tail _ h1, h2⟩
      | dict _ => obtain ⟨ob', h1, h2⟩ := this; exact ⟨ob', .tail _ h1, h2⟩
theorem setL_some : ∀ {l : List Value} {k : Nat} {v : Value}, k < l.length → ki_setL l k v = some (l.set k v)
  | [], _, _, h => by simp at h
  | _ :: _, 0, _, _ => rfl
  | x :: r, k + 1, v, h => by
    show (match ki_setL r k v with | some q => some (x :: q) | none => none) = _
    rw [setL_some (by simpa using h)]; rfl
section
variable {F : Fx}
theorem ss_setI {o i e : Expr} {p pos} {mo mi me : ME} (hc : compE e = false) (he : SE F e me) (ho : SE F o mo) (hi : SE F i mi) : SS F (.Assign [.Subscript o i p] e pos) (.setI mo mi me) := by
  intro c d FO hg hsc ok rm l hp Q X hev hcp fr s P E R hP hX
  refine wpAny_Assign_Subscript (he c d FO hg hsc ok rm l hp _ X hev fr s _ E R (fun u x h1 hh tk hq hx R1 => ?_) (hX l)) (swaps_plain hc _ _ _)
  refine ho c d FO hg hsc ok rm l h1 _ X hq fr _ _ E R1 (fun v y h2 hh2 tk2 hq2 hy R2 => ?_) (hX l)
  refine hi c d FO hg hsc ok rm l h2 _ X hq2 fr _ _ E R2 (fun w z h3 hh3 tk3 hq3 hz R3 => ?_) (hX l)
  unfold setV at hq3
  split at hq3
  · rename_i a k
    cases absV_ref hy
    obtain ⟨t, rfl⟩ := absV_int hz
    obtain ⟨vs, e1, h0, hlt, hfit, hq4⟩ := hq3
    obtain ⟨g, m, news, items, n, T, Fm, lo, hit, H, N, hne, D⟩ := R3.at e1
    have hsz : items.size = vs.length := by rw [← hit]; simp
    cases hx
    refine ki_set (its := items) (n := n) (D := a) Fm N h0 (by omega) (q := items.toList.set k.toNat x) ?_ (Upd.head hne) fun h' F' N' => ?_
    · exact setL_some (by rw [Array.length_toList]; omega)
    · have := Rep.back T F' lo H N' D e1
      refine hP .next .next _ _ h' _ hq4 trivial ?_
      simpa [← hit, List.map_set] using this
  · exact hq3.elim
theorem iterOf_cases {o : Option O} {vs : List V} (h : iterOf o = some vs) : itemsOf o = some vs ∨ ∃ a b c, o = some (.rng a b c) ∧ Builtin.Range.small a b c = true ∧ vs = rngL a b c := by
  cases o with
  | none => exact .inl h
  | some o =>
    cases o with
    | rng a b c =>
      simp only [iterOf] at h
      split at h
      · rename_i q; exact .inr ⟨a, b, c, rfl, q, (Option.some.inj h).symm⟩
      · cases h
    | _ => exact .inl h
theorem Rep.rng {c : Cx} {names l hp fr h} {a : Addr} {x y z : Int} (R : Rep c names l hp fr h) (e : hp a = some (.rng x y z)) : ∃ t u v, IsRange h a x y z t u v := by
  obtain ⟨g, T, m, Fm, lo, H, N, D⟩ := R
  obtain ⟨ob, h1, ⟨t, u, v, rfl⟩, _⟩ := H.2 a _ e
  exact ⟨t, u, v, h1⟩
/-- a loop over a list or a tuple of the store -/
theorem forLG {tgt : Expr} {upd : V → List V → HP → (List V → Prop) → Prop} {pos : Pos} {iter : Expr} {mi : ME} {b : List Stmt} {m : MS} (hse : setE iter = false) (hit : SE F iter mi) (hb : SB F b m)
    {c : Cx} {d : Nat} (FO : F.Ok) (hg : c.g = F.g) (hsc : SCF c F) (ok : c.Ok) (hcp : c.cp = none) (rm : room c d)
    (hasg : ∀ (v : V) (val : Value) (l : List V) (hp : HP) (fr : List (Addr × Obj)) (s : Shared) (K : List V → Prop) (P : Unit → Shared → Prop) (E : Value → Shared → Prop), absV val = v → upd v l hp K → Rep c F.names l hp fr s.heap →
      (∀ l' h' tk', K l' → Rep c F.names l' hp fr h' → P () { s with heap := h', toks := tk' }) → wpAny (model c.g.prog c.g.w) c.A (assign tgt c.env val) P E s)
    (hgo : ∀ (it : Addr) (o : Obj) val (s' : Shared) (P : Unit → Shared → Prop) (E : Value → Shared → Prop), (o.cls = .type "list_iterator" ∨ o.cls = .type "tuple_iterator" ∨ o.cls = .type "range_iterator") → s'.heap.get? it = some o → P () s' → wpAny (model c.g.prog c.g.w) c.A (letOwnedTupleGo tgt (.ref it) val) P E s')
    {l : List V} {hp : HP} {Q : Out → List V → HP → Prop} {X : XT}
    (hev : ev F.g d mi l hp (fun v h1 => match v with
      | .ref r => ∃ vs, iterOf (h1 r) = some vs ∧ (vs.length : Int) < 2 ^ 62 ∧ ∃ I : Nat → List V → HP → Prop, I 0 l h1 ∧
          (∀ k x l h, vs[k]? = some x → I k l h → h r = h1 r ∧ upd x l h fun l1 => exec F.g d m l1 h (fun o l2 h2 => match o with
            | .next => I (k + 1) l2 h2 | .brk => Q .next l2 h2 | .ret v => Q (.ret v) l2 h2) noX) ∧
          (∀ l h, I vs.length l h → h r = h1 r ∧ Q .next l h)
      | _ => False) X) {fr : List (Addr × Obj)} {s : Shared} {P : Flow → Shared → Prop} {E : Value → Shared → Prop} (R : Rep c F.names l hp fr s.heap)
    (hP : ∀ o f l' hp' h' tk', Q o l' hp' → rO o f → Rep c F.names l' hp' fr h' → P f { s with heap := h', toks := tk' }) (hX : XP c F.names l fr X E s) :
    wpAny (model c.g.prog c.g.w) c.A (PySem.exec (.For tgt iter b [] pos) c.env) P E s := by
  refine wpAny_For (hit c d FO hg hsc ok rm l hp _ X hev fr s _ E R (fun v y h1 hh tk hq hy R1 => ?_) hX) (folded_plain hse)
  cases v with
  | ref r =>
    cases absV_ref hy
    obtain ⟨vs, e1, hfit, hq⟩ := hq
    rcases iterOf_cases e1 with e1 | ⟨lo, hi', st, erg, hsm, rfl⟩
    case inr =>
      obtain ⟨t, u, v, hr⟩ := R1.rng erg
      refine wpAny_pyIter_range hr hsm ?_
      have R0 := R1.push ok { cls := Value.type "range_iterator", data := Data.fields #[rawInt lo, rawInt (Builtin.Range.rangeSize lo hi' st), rawInt st] } rfl
      have hsz : 0 ≤ Builtin.Range.rangeSize lo hi' st := by
        unfold Builtin.Range.rangeSize
        split <;> split <;> first | omega | skip
        · exact Int.add_nonneg (Int.ediv_nonneg (by omega) (by omega)) (by omega)
        · rename_i h1 h2
          by_cases hz : st = 0
          · subst hz; simp
          · exact Int.add_nonneg (Int.ediv_nonneg (by omega) (by omega)) (by omega)
      refine forSG FO hsc ok hcp hg rm hasg hb (K := fun h => h r = h1 r) (fun k o => o = { cls := Value.type "range_iterator", data := Data.fields #[rawInt (lo + k * st), rawInt (Builtin.Range.rangeSize lo hi' st - k), rawInt st] })
        (fun k o val s' P E ho => hgo _ o val s' P E (.inr (.inr (by rw [ho])))) ?_ ?_ R0 (R1.fresh ok).2 hq hP
      · intro k l1 hp1 o1 h2 s' P1 E1 _ hO hs R2 hfr hitem hend hkl
        subst hO
        subst hs
        simp only [rngL, List.length_map, List.length_range] at hkl hend
        have hit := (by obtain ⟨_, _, _, _, _, _, N, _⟩ := id R2; exact (N _ (.head _)).1 : s'.heap.get? _ = some _)
        by_cases hlt : k < (Builtin.Range.rangeSize lo hi' st).toNat
        · refine wpAny_pyNext_range_item hit (by omega) fun h' hit' hs' => ?_
          refine hitem _ (.int (lo + k * st)) h' _ _ (by simp [rngL, hlt]) rfl ?_ (R2.iter (noC hcp) (fun b ob hne e => (hs'.2 b hne).trans e) hit' hfr)
          congr 4
          · rw [show ((k + 1 : Nat) : Int) * st = (k : Int) * st + st by push_cast; rw [Int.add_mul, Int.one_mul], Int.add_assoc]
          · rw [show Builtin.Range.rangeSize lo hi' st - ((k + 1 : Nat) : Int) = Builtin.Range.rangeSize lo hi' st - k - 1 by push_cast; omega]
        · refine wpAny_pyNext_range_end (handled_none ok) hit (by omega) fun h' he => ?_
          exact hend (by omega) h' _ (R2.drop (noC hcp) (fun b ob hne e => he b ob hne e) hfr)
      · simp
    obtain ⟨items, hitems, hl⟩ := R1.items ok e1
    have hex : ∀ h : HP, h r = h1 r → itemsOf (h r) = some vs := fun h e => by rw [e]; exact e1
    rcases hl with ⟨hl, hnt⟩ | ⟨hl, htp⟩
    · refine wpAny_pyIter_list hl ?_
      refine forSG FO hsc ok hcp hg rm hasg hb (K := fun h => h r = h1 r) (fun k o => o.cls = .type "list_iterator" ∧ o.data = .fields #[.ref r, .int k 0]) (fun k o val s' P E ho => hgo _ o val s' P E (.inl ho.1)) ?_ ⟨rfl, rfl⟩ (R1.push ok _ rfl) (R1.fresh ok).2 hq hP
      intro k l1 hp1 o1 h2 s' P1 E1 hKh hO hs R2 hfr hitem hend hkl
      subst hs
      have hIt : s'.heap.IsListIter _ r k := ⟨o1, (by obtain ⟨_, _, _, _, _, _, N, _⟩ := id R2; exact (N _ (.head _)).1), hO⟩
      obtain ⟨items2, hitems2, hl2⟩ := R2.items ok (hex hp1 hKh)
      have hl3 : s'.heap.IsList r items2 := by
        rcases hl2 with ⟨q, _⟩ | ⟨_, q⟩
        · exact q
        · exact absurd (hKh ▸ q) (hnt _)
      have hsz : items2.size = vs.length := by rw [← hitems2]; simp
      by_cases hlt : k < vs.length
      · refine wpAny_pyNext_list_item hIt hl3 (x := items2[k]) (by simp [hsz, hlt]) fun h' hit' hs' => ?_
        obtain ⟨o', ho', hc'⟩ := hit'
        refine hitem _ (absV items2[k]) h' _ o' ?_ rfl hc' (R2.iter (noC hcp) (fun b ob hne e => (hs'.2 b hne).trans e) ho' hfr)
        have e9 : vs[k]? = (items2.toList.map absV)[k]? := by rw [hitems2]
        rw [e9]; simp [hsz, hlt]
      · refine wpAny_pyNext_list_end (handled_none ok) hIt hl3 (by simp [hsz]; omega) fun h' he => ?_
        exact hend (by omega) h' _ (R2.drop (noC hcp) (fun b ob hne e => he b ob hne e) hfr)
    · refine wpAny_pyIter_tuple hl ?_
      refine forSG FO hsc ok hcp hg rm hasg hb (K := fun h => h r = h1 r) (fun k o => o.cls = .type "tuple_iterator" ∧ o.data = .fields #[.ref r, .int k 0]) (fun k o val s' P E ho => hgo _ o val s' P E (.inr (.inl ho.1))) ?_ ⟨rfl, rfl⟩ (R1.push ok _ rfl) (R1.fresh ok).2 hq hP
      intro k l1 hp1 o1 h2 s' P1 E1 hKh hO hs R2 hfr hitem hend hkl
      subst hs
      have hIt : s'.heap.IsTupleIter _ r k := ⟨o1, (by obtain ⟨_, _, _, _, _, _, N, _⟩ := id R2; exact (N _ (.head _)).1), hO⟩
      obtain ⟨items2, hitems2, hl2⟩ := R2.items ok (hex hp1 hKh)
      have hl3 : s'.heap.IsTuple r items2 := by
        rcases hl2 with ⟨_, q⟩ | ⟨q, _⟩
        · exact absurd (hKh.trans htp) (q _)
        · exact q
      have hsz : items2.size = vs.length := by rw [← hitems2]; simp
      by_cases hlt : k < vs.length
      · refine wpAny_pyNext_tuple_item hIt hl3 (x := items2[k]) (by simp [hsz, hlt]) fun h' hit' hs' => ?_
        obtain ⟨o', ho', hc'⟩ := hit'
        refine hitem _ (absV items2[k]) h' _ o' ?_ rfl hc' (R2.iter (noC hcp) (fun b ob hne e => (hs'.2 b hne).trans e) ho' hfr)
        have e9 : vs[k]? = (items2.toList.map absV)[k]? := by rw [hitems2]
        rw [e9]; simp [hsz, hlt]
      · refine wpAny_pyNext_tuple_end (handled_none ok) hIt hl3 (by simp [hsz]; omega) fun h' he => ?_
        exact hend (by omega) h' _ (R2.drop (noC hcp) (fun b ob hne e => he b ob hne e) hfr)
  | _ => exact hq.elim
theorem ss_forL {x : Str} {p pos : Pos} {i : Nat} {iter : Expr} {mi : ME} {b : List Stmt} {m : MS} (hse : setE iter = false) (hit : SE F iter mi)
    (hi : F.names[i]? = some x) (hk : F.sc.names.lookup x = some .local) (hb : SB F b m) : SS F (.For (.Name x p) iter b [] pos) (.forL i mi m) := by
  intro c d FO hg hsc ok rm l hp Q X hev hcp fr s P E R hP hX
  exact forLG (upd := fun v l _ k => k (lset l i v)) hse hit hb FO hg hsc ok hcp rm
    (fun v val l hp fr s K P E hval hu R1 hP => wpAny_assign_Name (storeS FO hsc ok hcp hi hk R1 hval fun h3 tk3 R3 => hP _ h3 tk3 hu R3)) (fun _ _ _ _ _ _ _ _ h => wpAny_pure h) hev R hP (hX l)
theorem assignU {c : Cx} (FO : F.Ok) (hsc : SCF c F) (ok : c.Ok) (hcp : c.cp = none) {ts : List Expr} {k p} {xs : List Str} {is : List Nat} (ht : tgt? F ts = some (xs, is))
    (v : V) (val : Value) (l : List V) (hp : HP) (fr : List (Addr × Obj)) (s : Shared) (K : List V → Prop) (P : Unit → Shared → Prop) (E : Value → Shared → Prop) (hx : absV val = v) (hu : unpV v is.length hp fun ys => K (lsetN l is ys)) (R1 : Rep c F.names l hp fr s.heap)
    (hP : ∀ l' h' tk', K l' → Rep c F.names l' hp fr h' → P () { s with heap := h', toks := tk' }) : wpAny (model c.g.prog c.g.w) c.A (assign (.Tuple ts k p) c.env val) P E s := by
  obtain ⟨⟨a1, a2, a3⟩, hasg⟩ := tgt?_assign (c := c) FO hsc ok hcp ht
  cases v with
  | ref a =>
    cases absV_ref hx
    obtain ⟨vs, e1, hlv, hq⟩ := hu
    obtain ⟨items, hi, hl⟩ := R1.items ok (by rw [e1]; rfl)
    rcases hl with ⟨_, hl⟩ | ⟨hl, _⟩
    · exact absurd e1 (hl _)
    · obtain ⟨g, m', news, T, Fm, lo, H, N, D⟩ := R1.parts
      refine unpackN_ Fm N hl (handled_none ok) (by rw [a1, a2, ← hlv, ← hi]; simp) a3 fun h2 F2 N2 => ?_
      exact hasg _ _ _ _ vs items.toList _ _ hi hlv (Rep.of T F2 lo H N2 D) fun h3 tk3 R3 => hP _ h3 tk3 hq R3
  | _ => exact hu.elim
theorem goU {prog : Program} {w : World} {A : Around} {ts : List Expr} {k p} (it : Addr) (o : Obj) (val : Value) (s' : Shared) (P : Unit → Shared → Prop) (E : Value → Shared → Prop) (h : o.cls = .type "list_iterator" ∨ o.cls = .type "tuple_iterator" ∨ o.cls = .type "range_iterator") (ho : s'.heap.get? it = some o) (hP : P () s') :
    wpAny (model prog w) A (letOwnedTupleGo (.Tuple ts k p) (.ref it) val) P E s' := by
  unfold letOwnedTupleGo
  cases val <;> first | exact wpAny_pure hP | skip
  refine wpAny_bind (wpAny_load ho ?_)
  rcases h with e | e | e <;> rw [e] <;> cases o.data <;> first | exact wpAny_pure hP | skip
  all_goals exact wpAny_ite (ite_no (by simp) (wpAny_pure hP))
theorem ss_forU {ts : List Expr} {k p} {xs : List Str} {is : List Nat} {pos : Pos} {iter : Expr} {mi : ME} {b : List Stmt} {m : MS} (hse : setE iter = false) (hit : SE F iter mi)
    (ht : tgt? F ts = some (xs, is)) (hb : SB F b m) : SS F (.For (.Tuple ts k p) iter b [] pos) (.forU is mi m) := by
  intro c d FO hg hsc ok rm l hp Q X hev hcp fr s P E R hP hX
  exact forLG (upd := fun v l h k => unpV v is.length h fun ys => k (lsetN l is ys)) hse hit hb FO hg hsc ok hcp rm (assignU FO hsc ok hcp ht) goU hev R hP (hX l)
end
/-- the def at f -/
def fnAt (K : Frag) (f : Addr) : FuncData := match K.lookup f with
  | some ⟨_, _, .func fd, _⟩ => fd
  | _ => default
def bodyAt (K : Frag) (f : Addr) : List Stmt := match (fnAt K f).body with
  | .stmts b => b
  | _ => []
def fnOkB (K : Frag) (f : Addr) : Bool := match K.lookup f with
  | some ⟨_, _, .func fd, _⟩ => fd.closure.isEmpty && fd.globals == mainGlobals && fd.builtins == builtinsNs && codeIn K fd.code fd.qualname && !fd.scope.isCoroutine && !fd.scope.isGenerator &&
      fd.scope.kind == .function && fd.scope.names.all (fun x => !(x.2 == .cell)) && (match fd.body with | .stmts _ => true | _ => false)
  | _ => false
theorem lookup_rev {binds : List (Str × Value)} {x : Str} {v : Value} (nd : (binds.map (·.1)).Nodup) (h : (x, v) ∈ binds) : binds.reverse.lookup x = some v := by
  have hn : (binds.reverse.map (·.1)).Nodup := by rw [List.map_reverse]; unfold List.Nodup at *; exact List.pairwise_reverse.mpr (nd.imp Ne.symm)
  have hm : (x, v) ∈ binds.reverse := List.mem_reverse.mpr h
  generalize binds.reverse = bs at hn hm
  induction bs with
  | nil => cases hm
  | cons p r ih =>
    obtain ⟨y, w⟩ := p
    simp only [List.map_cons, List.nodup_cons] at hn
    cases hm with
    | head => simp
    | tail _ hm =>
      have : x ≠ y := fun e => hn.1 (e ▸ List.mem_map_of_mem (f := (·.1)) hm)
      rw [List.lookup_cons, beq_eq_false_iff_ne.mpr this]
      exact ih hn.2 hm
theorem absV_cell {v : Value} {a : Addr} (h : absV v = .cell a) : False := by cases v <;> simp [absV] at h
theorem Loc.start {cl : List (Str × Addr)} {names : List Str} {binds : List (Str × Value)} {l : List V} (nd : names.Nodup) (hn : names.take binds.length = binds.map (·.1)) (hl : l = binds.map (fun p => absV p.2) ++ List.replicate (names.length - binds.length) V.unb) :
    Loc cl names l (fun y => binds.reverse.lookup y) := by
  intro i x v hx hv hne
  subst hl
  by_cases hi : i < binds.length
  · rw [List.getElem?_append_left (by simpa using hi)] at hv
    rw [List.getElem?_map] at hv
    have h1 : binds[i]? = some binds[i] := by simp [hi]
    rw [h1] at hv
    simp only [Option.map_some, Option.some.injEq] at hv
    have h2 : (names.take binds.length)[i]? = some x := by rw [List.getElem?_take, if_pos hi]; exact hx
    rw [hn, List.getElem?_map, h1] at h2
    simp only [Option.map_some, Option.some.injEq] at h2
    refine .inr ⟨fun a e => absV_cell (hv.trans e), binds[i].2, ?_, hv⟩
    have nd' : (binds.map (·.1)).Nodup := hn ▸ List.Sublist.nodup (List.take_sublist _ _) nd
    refine lookup_rev nd' ?_
    have : binds[i] ∈ binds := List.getElem_mem hi
    rw [← h2]; exact this
  · rw [List.getElem?_append_right (by simpa using hi)] at hv
    rw [List.getElem?_replicate] at hv
    split at hv
    · cases hv; exact absurd rfl hne
    · cases hv
def retQ (Q : V → HP → Prop) (o : Out) (_ : List V) (h : HP) : Prop :=
  match o with
  | .ret v => Q v h
  | .next => Q .none h
  | .brk => False
def Binds (g : G) (f : Addr) (args : List V) (kw : List (Str × V)) (bargs : List (Str × V)) : Prop :=
  ∀ (s : Shared) vals kvals, g.K.In s.heap → vals.map absV = args → (kvals.map fun p => (p.1, absV p.2)) = kw →
    ∃ binds : List (Str × Value), BindsTo s (fnAt g.K f) ⟨vals, kvals⟩ binds ∧ (binds.map fun p => (p.1, absV p.2)) = bargs
theorem calls_of {F : Fx} (FO : F.Ok) {f : Addr} (hok : fnOkB F.g.K f = true) (hsc : (fnAt F.g.K f).scope = F.sc) {ms : MS} (hb : SB F (bodyAt F.g.K f) ms) {args : List V} {kw bargs : List (Str × V)}
    (hbind : Binds F.g f args kw bargs) (hnm : F.names.take bargs.length = bargs.map (·.1)) (hloc : (bargs.all fun p => F.sc.names.lookup p.1 == some .local) = true)
    {d : Nat} {hp : HP} {Q : V → HP → Prop} {X : XC}
    (h : exec F.g d ms (bargs.map (·.2) ++ List.replicate (F.names.length - bargs.length) V.unb) hp (retQ Q) (upX X)) : Calls F.g (d + 1) f args kw hp Q X := by
  intro c hg ok rm names l vals kvals hv hkv fr s P E R hP hX
  unfold fnOkB at hok
  have hok' := hok
  split at hok
  · rename_i oc od fd osl hK
    simp only [Bool.and_eq_true, Bool.not_eq_true', List.isEmpty_iff, beq_iff_eq] at hok
    obtain ⟨⟨⟨⟨⟨⟨⟨⟨k1, k2⟩, k3⟩, k4⟩, k5⟩, k6⟩, k7⟩, k8⟩, k9⟩ := hok
    have hfd : fnAt F.g.K f = fd := by unfold fnAt; rw [hK]
    cases hbd : fd.body with
    | expr _ => rw [hbd] at k9; cases k9
    | stmts body =>
      have hbody : bodyAt F.g.K f = body := by unfold bodyAt; rw [hfd, hbd]
      rw [hbody] at hb
      rw [hfd] at hsc
      obtain ⟨binds, hB, hbs⟩ := hbind s vals kvals (by rw [← hg]; exact R.inK ok) hv hkv
      rw [hfd] at hB
      have hfn : fd = fnOf fd.name fd.qualname fd.params body fd.scope fd.defaults fd.kwdefaults fd.doc fd.pyModule fd.annotations fd.code fd.closureTuple := by
        cases fd
        simp only at k1 k2 k3 hbd
        subst k1 k2 k3 hbd
        rfl
      obtain ⟨g, m, news, T, Fm, lo, H, N, D⟩ := R.parts
      have hlen : binds.length = bargs.length := by rw [← hbs]; simp
      have hb1 : bargs.map (·.1) = binds.map (·.1) := by rw [← hbs]; simp
      have hb2 : bargs.map (·.2) = binds.map (fun p => absV p.2) := by rw [← hbs]; simp
      have okg := ok.turn T
      refine wpAny_call (code_defT (K := c.g.K) okg.below Fm (ok.inK.keeps okg.below.stays) N ((ok.top.keeps okg.below.stays).nolimit) (Around.frames_deeper ok.below.stack) rfl ok.fkind (by rw [hg, hK, ← hfn]) (by rw [hg]; exact k4) (by have := rm.1; omega) (by rw [← hfn]; exact hB) ?_ ?_ k5 k6 k7 ?_)
      · intro y hy
        have : (y.1, absV y.2) ∈ bargs := by rw [← hbs]; exact List.mem_map_of_mem (f := fun p => (p.1, absV p.2)) hy
        have := List.all_eq_true.mp hloc _ this
        rw [hsc]; simpa using this
      · intro g' L' h₁ FG F' N' B'
        let c' : Cx := { g := c.g, A₀ := c.A, base := c.base, h₀ := g', outer := c.fenv :: c.outer, L := L', qn := fd.qualname, fsc := fd.scope, fa := f, cd := fd.code, cl := [], cp := none }
        have ok' : c'.Ok := ⟨B', ok.inK, ok.top, okg.dictsPush FG, k7, k7, k6, k5, handled_none ok, ok.seer, ok.tree⟩
        have rm' : room c' d := ⟨by have := rm.1; show c.A.depth + 1 + d + 200 < _; omega, by have := rm.2; show c.A.units + 3 + 8 * d + 200 < _; omega⟩
        have R' : Rep c' F.names (bargs.map (·.2) ++ List.replicate (F.names.length - bargs.length) V.unb) hp fr h₁ := by
          refine Rep.of (c := c') (news := news) KtsTurn.refl F' (Loc.start FO.nd (by rw [hlen, hnm, hb1]) (by rw [hb2, hlen])) H N' D
        refine hb c' d FO hg ⟨hsc, fun _ => rfl, fun _ _ => rfl⟩ ok' rm' _ hp _ (upX X) h rfl fr _ _ _ R' (fun o f' l' hp' h' tk' hq hf R2 => ?_) (fun l' => ?_)
        · obtain ⟨g2, m2, news2, T2, F2, lo2, H2, N2, D2⟩ := R2.parts
          refine ⟨g2, L', m2, news2 ++ fr, T2, F2, N2, fun h3 T3 F3 N3 => ?_⟩
          cases o with
          | next =>
            cases f' <;> first | exact hf.elim | skip
            exact hP .none .none hp' h' tk' hq rfl (Rep.of (T.trans T3) F3 lo H2 N3 D2)
          | brk => exact hq.elim
          | ret v =>
            cases f' <;> first | exact hf.elim | skip
            exact hP v _ hp' h' tk' hq hf (Rep.of (T.trans T3) F3 lo H2 N3 D2)
        · intro cls e hp' h' tk' hx hr
          obtain ⟨hD, g2, m2, hh, T2, F2, lo2, hr⟩ := hr
          have ok2 := ok'.turn T2
          obtain ⟨h3, T3, F3, _⟩ := turnBack (H := g2) okg.below FG T2 (fun _ _ e => e)
          rcases hr with ⟨c0, t, vs, news2, rfl, hup, hrk, hH⟩ | ⟨c0, vs, news2, rfl, hmade, hH, hN⟩
          · refine leave_onS (A := c.A) (g := g2) (g₂ := hh) ok2.below F2 hrk hup fun h4 hrk4 _ hup4 => ?_
            exact hX (.up c0) e hp' h4 tk' hx ⟨hD, h3, m, g2, T.trans T3, F3, lo, .inl ⟨c0, t, vs, news2, rfl, hup4, hrk4, hH⟩⟩
          · refine leave_raiseS (A := c.A) (g := g2) ok2.below hmade F2 hN (fun h4 t hrk4 _ hup4 => ?_) k7
            exact hX (.up c0) e hp' h4 tk' hx ⟨hD, h3, m, g2, T.trans T3, F3, lo, .inl ⟨c0, t, vs, news2, rfl, hup4, hrk4, hH⟩⟩
      · intro x hx e
        have := List.all_eq_true.mp k8 x hx
        rw [e] at this
        simp at this
  · cases hok
section
variable {F : Fx}
def supE : Expr → Bool
  | .Call .. => true
  | _ => false
theorem base_plain {o : Expr} (h : supE o = false) (n : Str) (env : Env) : attributeBase o n env (eval o env) = eval o env := by
  cases o <;> first | rfl | (exact absurd h (by simp [supE]))
theorem typeIs_list {c : Cx} {names l hp fr} {s : Shared} {a : Addr} {vs : List V} (R : Rep c names l hp fr s.heap) (e : hp a = some (.list vs)) :
    s.TypeIs (.ref a) "list" ∧ ∀ a', Value.ref a = .ref a' → ∃ ob, s.heap.get? a' = some ob ∧ ob.dict = none := by
  obtain ⟨g, T, m, Fm, lo, H, N, D⟩ := R
  obtain ⟨ob, h1, ⟨items, n, rfl, _⟩, _⟩ := H.2 a _ e
  exact ⟨⟨_, h1, rfl⟩, fun a' q => by cases q; exact ⟨_, h1, rfl⟩⟩
theorem margs0 {pos : Pos} {env : Env} : ((((backTo pos (starEach [] env)).all fun x => !x.fst) && (backToKw pos (keywordEach [] env)).all fun x => x.fst.isSome) && decide ((([] : List Expr).length + ([] : List Keyword).length + if ([] : List Keyword).isEmpty = true then 0 else 1) < 30)) = true := rfl
theorem margs1 {pos : Pos} {env : Env} {e : Expr} (h : notStar e = true) : ((((backTo pos (starEach [e] env)).all fun x => !x.fst) && (backToKw pos (keywordEach [] env)).all fun x => x.fst.isSome) && decide ((([e] : List Expr).length + ([] : List Keyword).length + if ([] : List Keyword).isEmpty = true then 0 else 1) < 30)) = true := by
  rw [starEach_cons h]; rfl
theorem se_app {o e : Expr} {apos pos : Pos} {nm : Str} {mo me : ME} (hnm : nm = "append") (hso : supE o = false) (hap : (apos.endLine == pos.line) = true) (hn : notStar e = true) (ho : SE F o mo) (he : SE F e me) :
    SE F (.Call (.Attribute o nm apos) [e] [] pos) (.app mo me) := by
  intro c d FO hg hsc ok rm l hp Q X hev fr s P E R hP hX
  subst hnm
  refine wpAny_Call_method (base_plain hso _ _) (margs1 hn) hap PySem.F.plainAttrs_list PySem.F.slot_list_append PySem.F.type_list_append (ho c d FO hg hsc ok rm l hp _ X hev fr s _ E R (fun v x h1 hh tk hq hx R1 => ?_) hX)
  cases v with
  | ref a =>
    cases absV_ref hx
    obtain ⟨⟨vs0, e0⟩, hq⟩ := hq
    obtain ⟨t1, t2⟩ := typeIs_list (s := { s with heap := hh, toks := tk }) R1 e0
    refine ⟨t1, t2, callWith_method1 ?_ (starEach_cons hn) rfl⟩
    refine spliced_more (he c d FO hg hsc ok rm l h1 _ X hq fr _ _ E R1 (fun w y h2 hh2 tk2 hq2 hy R2 => ?_) hX) (starEach_cons hn)
    refine spliced_none ?_
    obtain ⟨vs, e1, hsz, hq3⟩ := hq2
    obtain ⟨g, m, news, items, n, T, Fm, lo, hit, H, N, hne, D⟩ := R2.at e1
    refine append_K (D := a) (its := items) (n := n) Fm N (Upd.head hne) (fun h' F' N' => ?_) (by rw [← hit] at hsz; simpa using hsz)
    cases hy
    refine hP .none .none _ h' tk2 hq3 rfl ?_
    have := Rep.back T F' lo H N' D e1
    simpa [← hit] using this
  | _ => exact hq.elim
theorem se_rev {o : Expr} {apos pos : Pos} {nm : Str} {mo : ME} (hnm : nm = "reverse") (hso : supE o = false) (hap : (apos.endLine == pos.line) = true) (ho : SE F o mo) :
    SE F (.Call (.Attribute o nm apos) [] [] pos) (.rev mo) := by
  intro c d FO hg hsc ok rm l hp Q X hev fr s P E R hP hX
  subst hnm
  refine wpAny_Call_method (base_plain hso _ _) margs0 hap PySem.F.plainAttrs_list PySem.F.slot_list_reverse PySem.F.type_list_reverse (ho c d FO hg hsc ok rm l hp _ X hev fr s _ E R (fun v x h1 hh tk hq hx R1 => ?_) hX)
  cases v with
  | ref a =>
    cases absV_ref hx
    obtain ⟨vs, e1, hsz, hq3⟩ := hq
    obtain ⟨t1, t2⟩ := typeIs_list (s := { s with heap := hh, toks := tk }) R1 e1
    refine ⟨t1, t2, callWith_method0 ?_⟩
    obtain ⟨g, m, news, items, n, T, Fm, lo, hit, H, N, hne, D⟩ := R1.at e1
    refine kl_reverse (D := a) (its := items) (n := n) (l := items.toList.reverse) Fm N rfl (Upd.head hne) (by rw [← hit] at hsz; simpa using hsz) (fun h' F' N' => ?_)
    refine hP .none .none _ h' tk hq3 rfl ?_
    have := Rep.back T F' lo H N' D e1
    simpa [← hit] using this
  | _ => exact hq.elim
theorem kl_cut0 (x : Value) (r : List Value) : kl_cut (x :: r) 0 = some ([], x, r) := rfl
theorem se_pop0 {o : Expr} {apos pos cp : Pos} {k : Nat} {nm : Str} {mo : ME} (hnm : nm = "pop") (hso : supE o = false) (hap : (apos.endLine == pos.line) = true) (ho : SE F o mo) :
    SE F (.Call (.Attribute o nm apos) [.Constant (.int 0) k cp] [] pos) (.pop0 mo) := by
  intro c d FO hg hsc ok rm l hp Q X hev fr s P E R hP hX
  subst hnm
  refine wpAny_Call_method (base_plain hso _ _) (margs1 rfl) hap PySem.F.plainAttrs_list PySem.F.slot_list_pop PySem.F.type_list_pop (ho c d FO hg hsc ok rm l hp _ X hev fr s _ E R (fun v x h1 hh tk hq hx R1 => ?_) hX)
  cases v with
  | ref a =>
    cases absV_ref hx
    obtain ⟨u, vs, e1, hsz, hq3⟩ := hq
    obtain ⟨t1, t2⟩ := typeIs_list (s := { s with heap := hh, toks := tk }) R1 e1
    refine ⟨t1, t2, callWith_method1 ?_ rfl rfl⟩
    refine spliced_more (wpAny_Constant_int (spliced_none ?_)) rfl
    obtain ⟨g, m, news, items, n, T, Fm, lo, hit, H, N, hne, D⟩ := R1.at e1
    obtain ⟨y, ys, hys⟩ : ∃ y ys, items.toList = y :: ys := by
      cases q : items.toList with
      | nil => rw [q] at hit; cases hit
      | cons y ys => exact ⟨y, ys, rfl⟩
    rw [hys] at hit
    simp only [List.map_cons, List.cons.injEq] at hit
    have hlen : items.size = ys.length + 1 := by have := congrArg List.length hys; simpa using this
    have hl2 : vs.length = ys.length := by rw [← hit.2]; simp
    refine kl_popAt (D := a) (its := items) (n := n) (k := 0) (p := []) (q := ys) (y := y) Fm N (by decide +kernel) (by unfold seqIndex?; simp [hlen]) (by rw [hys]; rfl) (Upd.head hne) (by rw [hys]; simp; omega) (fun h' F' N' => ?_)
    refine hP u y _ h' _ hq3 hit.1 ?_
    have := Rep.back T F' lo H N' D e1
    simpa [← hit.2] using this
  | _ => exact hq.elim
theorem se_bitlen {o : Expr} {apos pos : Pos} {nm : Str} {mo : ME} (hnm : nm = "bit_length") (hso : supE o = false) (hap : (apos.endLine == pos.line) = true) (ho : SE F o mo) :
    SE F (.Call (.Attribute o nm apos) [] [] pos) (.bitlen mo) := by
  intro c d FO hg hsc ok rm l hp Q X hev fr s P E R hP hX
  subst hnm
  refine wpAny_Call_method (base_plain hso _ _) margs0 hap PySem.F.plainAttrs_int PyProof.Rows.slot_int_bit_length PyProof.Rows.type_int_bit_length (ho c d FO hg hsc ok rm l hp _ X hev fr s _ E R (fun v x h1 hh tk hq hx R1 => ?_) hX)
  cases v with
  | int i =>
    obtain ⟨t, rfl⟩ := absV_int hx
    refine ⟨typeIs_int _ _ _, (fun a q => by cases q), callWith_method0 ?_⟩
    exact call_int_bit_length (hP _ _ h1 hh _ hq rfl R1)
  | _ => exact hq.elim
theorem sub_slice {lo hi : Option Expr} {p : Pos} (o i : Value) : subscripted (.Slice lo hi none p) false o i = operate [i, o] (getItem o i) := rfl
theorem Rep.noC {c : Cx} {names : List Str} {l : List V} {hp : HP} {fr : List (Addr × Obj)} {h : Heap} {it : Addr} (R : Rep c names l hp fr h) (hf : ∀ p ∈ fr, p.1 ≠ it) : ∀ k, c.cp = some k → k.C ≠ it := by
  intro k e
  obtain ⟨g, T, m, Fm, lo, _⟩ := R
  unfold LocX at lo
  rw [show (c.at g).cp = some k from e] at lo
  obtain ⟨_, oC, m₂, hm, _⟩ := lo
  exact hf _ hm
/-- a slice's new list enters -/
theorem sliceS {c : Cx} {names : List Str} {l : List V} {hp : HP} {Q : V → HP → Prop} {fr : List (Addr × Obj)} {s : Shared} {P E : Value → Shared → Prop} {a : Addr} {vs ws : List V} {value : Expr} {lo hi : Option Expr} {p : Pos} {vl vu : Value} {x y : Option Int}
    (ok : c.Ok) (R : Rep c names l hp fr s.heap) (e : listAt (hp a) = some vs) (hsz : vs.length ≤ sizeLine) (pl : IsPart vl x) (pu : IsPart vu y)
    (hpick : ∀ items : Array Value, items.toList.map absV = vs → (slicePick items x y none).toList.map absV = ws) (hq : newV hp (.list ws) Q)
    (hP : ∀ b val hp' h' tk', Q b hp' → rV b val → Rep c names l hp' fr h' → P val { s with heap := h', toks := tk' }) :
    wpAny (model c.g.prog c.g.w) c.A (subscriptTail value (.Slice lo hi none p) (.ref a) (.ref s.heap.objs.size)) P E
      { s with heap := s.heap.push { cls := .type "slice", data := .fields #[vl, vu, .none] } } := by
  obtain ⟨items, hit, hl⟩ := R.listI ok e
  have R1 := R.push ok { cls := .type "slice", data := .fields #[vl, vu, .none] } rfl
  obtain ⟨f1, f2⟩ := R1.fresh ok
  refine tail_any (Heap.IsList.typeIs (s := { s with heap := s.heap.push _ }) (hl.push _)) list_getitem_lookup ?_ (sub_slice _ _)
  refine wpAny_getItem_list_slice (hl.push _) (Heap.IsSliceOf.new ..) pl pu .none (by simp) ?_ (by rw [← hit] at hsz; simpa using hsz)
  refine hP _ _ _ _ s.toks (hq _ f1) rfl ?_
  obtain ⟨g, m, news, T, Fm, lo', H, N, D⟩ := R1.parts
  have N2 := N.push Fm { cls := .type "list", data := .seq (slicePick items x y none) }
  have R2 := Rep.more (ob := { cls := .type "list", data := .seq (slicePick items x y none) }) (o := .list ws) T (Fm.push _) lo' H N2 D f1 f2 ⟨_, _, rfl, hpick items hit⟩
  exact R2.drop (R.noC fun q hq => (R.fresh ok).2 q hq) (fun _ _ _ e => e) (fun q hq => (R.fresh ok).2 q hq)
theorem se_slcF {a i : Expr} {p pos : Pos} {ma mi : ME} (ha : SE F a ma) (hi : SE F i mi) : SE F (.Subscript a (.Slice (some i) none none p) pos) (.slcF ma mi) := by
  intro c d FO hg hsc ok rm l hp Q X hev fr s P E R hP hX
  refine Subscript_ (ha c d FO hg hsc ok rm l hp _ X hev fr s _ E R (fun v x h1 hh tk hq hx R1 => ?_) hX)
  refine wpAny_Slice ?_
  show wpAny _ _ (eval i c.env) _ _ _
  refine hi c d FO hg hsc ok rm l h1 _ X hq fr _ _ E R1 (fun w y h2 hh2 tk2 hq2 hy R2 => ?_) hX
  refine wpAny_pure (a := Value.none) ?_
  refine wpAny_pure (a := Value.none) ?_
  unfold slcV at hq2
  split at hq2
  · rename_i r k
    cases absV_ref hx
    obtain ⟨t, rfl⟩ := absV_int hy
    obtain ⟨vs, e, hsz, h0, hn⟩ := hq2
    refine sliceS (s := { s with heap := hh2, toks := tk2 }) ok R2 e hsz (.int k t) .none (fun items hit => ?_) hn hP
    have : (some k : Option Int) = some ((k.toNat : Nat) : Int) := by rw [Int.toNat_of_nonneg h0]
    rw [this, slicePick_from' items k.toNat, ← hit]
    simp
  · exact hq2.elim
theorem se_slcT {a i : Expr} {p pos : Pos} {ma mi : ME} (ha : SE F a ma) (hi : SE F i mi) : SE F (.Subscript a (.Slice none (some i) none p) pos) (.slcT ma mi) := by
  intro c d FO hg hsc ok rm l hp Q X hev fr s P E R hP hX
  refine Subscript_ (ha c d FO hg hsc ok rm l hp _ X hev fr s _ E R (fun v x h1 hh tk hq hx R1 => ?_) hX)
  refine wpAny_Slice ?_
  refine wpAny_pure (a := Value.none) ?_
  show wpAny _ _ (eval i c.env) _ _ _
  refine hi c d FO hg hsc ok rm l h1 _ X hq fr _ _ E R1 (fun w y h2 hh2 tk2 hq2 hy R2 => ?_) hX
  refine wpAny_pure (a := Value.none) ?_
  unfold slcV at hq2
  split at hq2
  · rename_i r k
    cases absV_ref hx
    obtain ⟨t, rfl⟩ := absV_int hy
    obtain ⟨vs, e, hsz, h0, hn⟩ := hq2
    refine sliceS (s := { s with heap := hh2, toks := tk2 }) ok R2 e hsz .none (.int k t) (fun items hit => ?_) hn hP
    have : (some k : Option Int) = some ((k.toNat : Nat) : Int) := by rw [Int.toNat_of_nonneg h0]
    rw [this, slicePick_upto' items k.toNat, ← hit]
    simp
  · exact hq2.elim
theorem fresh_of {c : Cx} (ok : c.Ok) {hp : HP} {news fr : List (Addr × Obj)} {h' : Heap} {D : Addr} {o : Obj} {g : Heap} (T : KtsTurn c.fs c.h₀ g) (H : HpN c hp news) (N : News g c.L h' ((D, o) :: (news ++ fr))) (hlt : ∀ q ∈ news ++ fr, q.1 < D) :
    hp D = none ∧ ∀ p ∈ fr, p.1 ≠ D := by
  refine ⟨?_, fun p hp' => Nat.ne_of_lt (hlt p (List.mem_append_right _ hp'))⟩
  cases q : hp D with
  | none => rfl
  | some o' =>
    have := H.2 _ _ q
    cases o' with
    | ro ws =>
      obtain ⟨it, ⟨ob, hb, _⟩, _⟩ := this
      have h0 := (N _ (.head _)).2.2
      rw [(ok.turn T).below.stays _ _ hb] at h0; cases h0
    | list ws => obtain ⟨ob, hb, _⟩ := this; exact absurd (hlt _ (List.mem_append_left _ hb)) (Nat.lt_irrefl _)
    | tup ws => obtain ⟨ob, hb, _⟩ := this; exact absurd (hlt _ (List.mem_append_left _ hb)) (Nat.lt_irrefl _)
    | cell ws => obtain ⟨ob, hb, _⟩ := this; exact absurd (hlt _ (List.mem_append_left _ hb)) (Nat.lt_irrefl _)
    | rng _ _ _ => obtain ⟨ob, hb, _⟩ := this; exact absurd (hlt _ (List.mem_append_left _ hb)) (Nat.lt_irrefl _)
    | dict _ => obtain ⟨ob, hb, _⟩ := this; exact absurd (hlt _ (List.mem_append_left _ hb)) (Nat.lt_irrefl _)
theorem se_listOf {x : Str} {p pos : Pos} {a : Expr} {ma : ME} (hxe : x = "list") (hx : x ∈ F.bt) (hk : F.sc.names.lookup x = some .globalImplicit) (hn : notStar a = true) (ha : SE F a ma) : SE F (.Call (.Name x p) [a] [] pos) (.listOf ma) := by
  intro c d FO hg hsc ok rm l hp Q X hev fr s P E R hP hX
  subst hxe
  refine Call_ (nameB FO hg hsc ok hx (v := .type "list") boot_list hk (by decide) (by decide) R ?_) rfl
  refine PyProof.Rows.callWith_type1 ?_ (starEach_cons hn) rfl
  refine spliced_more (ha c d FO hg hsc ok rm l hp _ X hev fr s _ E R (fun v y h1 hh tk hq hy R1 => ?_) hX) (starEach_cons hn)
  refine spliced_none ?_
  cases v with
  | ref a =>
    cases absV_ref hy
    obtain ⟨vs, e1, hsz, hq⟩ := hq
    rcases iterOf_cases e1 with e1 | ⟨lo, hi', st, erg, hsm, rfl⟩
    case inr =>
      obtain ⟨t, u, v, hr⟩ := R1.rng erg
      obtain ⟨f1, f2⟩ := R1.fresh ok
      obtain ⟨g, m, news, T, Fm, lo0, H, N, D⟩ := R1.parts
      have hsz0 : 0 ≤ Builtin.Range.rangeSize lo hi' st := by
        unfold Builtin.Range.rangeSize
        split <;> split <;> first | omega | skip
        · exact Int.add_nonneg (Int.ediv_nonneg (by omega) (by omega)) (by omega)
        · rename_i h1 h2
          by_cases hz : st = 0
          · subst hz; simp
          · exact Int.add_nonneg (Int.ediv_nonneg (by omega) (by omega)) (by omega)
      refine list_rangeD (n := (Builtin.Range.rangeSize lo hi' st).toNat) (handled_none ok) Fm N hr hsm (Int.toNat_of_nonneg hsz0).symm (by simp only [rngL, List.length_map, List.length_range] at hsz; exact hsz) fun h' tk' ys F' N' hk hfr hl hpl hc => ?_
      obtain ⟨⟨c0, hob⟩, hne⟩ := hpl
      have hys : ys.map absV = rngL lo hi' st := by
        have key : ∀ {ys : List Value} {ns : List Int}, CarriedAll ys (ns.map .int) → ys.map absV = ns.map V.int := by
          intro ys
          induction ys with
          | nil => intro ns h; cases ns with
            | nil => rfl
            | cons _ _ => cases h
          | cons y ys ih => intro ns h; cases ns with
            | nil => cases h
            | cons n ns =>
              simp only [List.map_cons] at h ⊢
              cases h with
              | cons h1 h2 => cases h1; rw [ih h2]; rfl
        rw [key hc]; simp [rngL, rangeInts]
      refine hP _ _ _ h' tk' (hq _ f1) rfl (Rep.more (ob := listOf ys.toArray c0) T F' lo0 H (fun p hp' => ?_) D f1 f2 ⟨_, _, rfl, by simpa using hys⟩)
      rcases List.mem_cons.mp hp' with rfl | hp'
      · refine ⟨hob, fun e => ?_, hfr⟩
        obtain ⟨oL, _, _, hL, _⟩ := Fm.ns
        exact absurd (Heap.lt_size hL) (by rw [← e]; exact Nat.lt_irrefl _)
      · exact N' p hp'
    obtain ⟨items, hi, hl⟩ := R1.items ok e1
    have hsz' : items.size ≤ sizeLine := by rw [← hi] at hsz; simpa using hsz
    obtain ⟨g, m, news, T, Fm, lo, H, N, D⟩ := R1.parts
    have fin : ∀ D' c' h', Fr g c.L h' m → News g c.L h' ((D', W.listOf items c') :: (news ++ fr)) → (∀ q ∈ news ++ fr, q.1 < D') → P (.ref D') { s with heap := h', toks := tk } := by
      intro D' c' h' F' N' hlt
      obtain ⟨f1, f2⟩ := fresh_of ok T H N' hlt
      exact hP _ _ _ h' tk (hq _ f1) rfl (Rep.more T F' lo H N' D f1 f2 ⟨items, c', rfl, hi⟩)
    rcases hl with ⟨hl, _⟩ | ⟨hl, _⟩
    · exact list_copyK Fm N hl fin hsz'
    · exact list_copyKT Fm N hl fin hsz'
  | _ => exact hq.elim
theorem se_tupOf {x : Str} {p pos : Pos} {a : Expr} {ma : ME} (hxe : x = "tuple") (hx : x ∈ F.bt) (hk : F.sc.names.lookup x = some .globalImplicit) (hn : notStar a = true) (ha : SE F a ma) : SE F (.Call (.Name x p) [a] [] pos) (.tupOf ma) := by
  intro c d FO hg hsc ok rm l hp Q X hev fr s P E R hP hX
  subst hxe
  refine Call_ (nameB FO hg hsc ok hx (v := .type "tuple") boot_tuple hk (by decide) (by decide) R ?_) rfl
  refine PyProof.Rows.callWith_type1 ?_ (starEach_cons hn) rfl
  refine spliced_more (ha c d FO hg hsc ok rm l hp _ X hev fr s _ E R (fun v y h1 hh tk hq hy R1 => ?_) hX) (starEach_cons hn)
  refine spliced_none ?_
  cases v with
  | ref a =>
    cases absV_ref hy
    obtain ⟨vs, e1, hsz, hq⟩ := hq
    obtain ⟨items, hi, hl⟩ := R1.listI ok e1
    have hsz' : items.size ≤ 16384 := by rw [← hi] at hsz; simpa using hsz
    obtain ⟨g, m, news, T, Fm, lo, H, N, D⟩ := R1.parts
    refine kde_tupleOf Fm N hl hsz' rfl fun D' h' F' N' hlt => ?_
    obtain ⟨f1, f2⟩ := fresh_of ok T H N' hlt
    exact hP _ _ _ h' tk (hq _ f1) rfl (Rep.more T F' lo H N' D f1 f2 ⟨_, _, rfl, by simpa using hi⟩)
  | _ => exact hq.elim
theorem se_mn {x : Str} {p pos : Pos} {a b : Expr} {ma mb : ME} (hxe : x = "min") (hx : x ∈ F.bt) (hk : F.sc.names.lookup x = some .globalImplicit) (hn : notStar a = true) (hn2 : notStar b = true) (ha : SE F a ma) (hb : SE F b mb) : SE F (.Call (.Name x p) [a, b] [] pos) (.mn ma mb) := by
  intro c d FO hg hsc ok rm l hp Q X hev fr s P E R hP hX
  subst hxe
  refine Call_ (nameB FO hg hsc ok hx (v := .builtin "min") boot_min hk (by decide) (by decide) R ?_) rfl
  refine PyProof.Rows.callWith_builtin1 ?_ (starEach_cons hn) (by rw [starEach_cons hn2]; rfl)
  refine spliced_more (ha c d FO hg hsc ok rm l hp _ X hev fr s _ E R (fun v y h1 hh tk hq hy R1 => ?_) hX) (starEach_cons hn)
  refine spliced_more (hb c d FO hg hsc ok rm l h1 _ X hq fr _ _ E R1 (fun w z h2 hh2 tk2 hq2 hz R2 => ?_) hX) (starEach_cons hn2)
  refine spliced_none ?_
  split at hq2
  · obtain ⟨t, rfl⟩ := absV_int hy
    obtain ⟨u, rfl⟩ := absV_int hz
    obtain ⟨g, m, news, T, Fm, lo, H, N, D⟩ := R2.parts
    exact min_two_N (handled_none ok) Fm N fun h' tk' F' N' => hP _ _ _ h' tk' hq2 rfl (Rep.of T F' lo H N' D)
  · exact hq2.elim
theorem se_mx {x : Str} {p pos : Pos} {a b : Expr} {ma mb : ME} (hxe : x = "max") (hx : x ∈ F.bt) (hk : F.sc.names.lookup x = some .globalImplicit) (hn : notStar a = true) (hn2 : notStar b = true) (ha : SE F a ma) (hb : SE F b mb) : SE F (.Call (.Name x p) [a, b] [] pos) (.mx ma mb) := by
  intro c d FO hg hsc ok rm l hp Q X hev fr s P E R hP hX
  subst hxe
  refine Call_ (nameB FO hg hsc ok hx (v := .builtin "max") boot_max hk (by decide) (by decide) R ?_) rfl
  refine PyProof.Rows.callWith_builtin1 ?_ (starEach_cons hn) (by rw [starEach_cons hn2]; rfl)
  refine spliced_more (ha c d FO hg hsc ok rm l hp _ X hev fr s _ E R (fun v y h1 hh tk hq hy R1 => ?_) hX) (starEach_cons hn)
  refine spliced_more (hb c d FO hg hsc ok rm l h1 _ X hq fr _ _ E R1 (fun w z h2 hh2 tk2 hq2 hz R2 => ?_) hX) (starEach_cons hn2)
  refine spliced_none ?_
  split at hq2
  · obtain ⟨t, rfl⟩ := absV_int hy
    obtain ⟨u, rfl⟩ := absV_int hz
    obtain ⟨g, m, news, T, Fm, lo, H, N, D⟩ := R2.parts
    exact max_two_N (handled_none ok) Fm N fun h' tk' F' N' => hP _ _ _ h' tk' hq2 rfl (Rep.of T F' lo H N' D)
  · exact hq2.elim
theorem se_dvm {x : Str} {p pos : Pos} {a b : Expr} {ma mb : ME} (hxe : x = "divmod") (hx : x ∈ F.bt) (hk : F.sc.names.lookup x = some .globalImplicit) (hn : notStar a = true) (hn2 : notStar b = true) (ha : SE F a ma) (hb : SE F b mb) : SE F (.Call (.Name x p) [a, b] [] pos) (.dvm ma mb) := by
  intro c d FO hg hsc ok rm l hp Q X hev fr s P E R hP hX
  subst hxe
  refine Call_ (nameB FO hg hsc ok hx (v := .builtin "divmod") boot_divmod hk (by decide) (by decide) R ?_) rfl
  refine PyProof.Rows.callWith_builtin1 ?_ (starEach_cons hn) (by rw [starEach_cons hn2]; rfl)
  refine spliced_more (ha c d FO hg hsc ok rm l hp _ X hev fr s _ E R (fun v y h1 hh tk hq hy R1 => ?_) hX) (starEach_cons hn)
  refine spliced_more (hb c d FO hg hsc ok rm l h1 _ X hq fr _ _ E R1 (fun w z h2 hh2 tk2 hq2 hz R2 => ?_) hX) (starEach_cons hn2)
  refine spliced_none ?_
  split at hq2
  · obtain ⟨t, rfl⟩ := absV_int hy
    obtain ⟨u, rfl⟩ := absV_int hz
    obtain ⟨g, m, news, T, Fm, lo, H, N, D⟩ := R2.parts
    obtain ⟨f1, f2⟩ := R2.fresh ok
    refine divmod_N Fm N hq2.1 (fun h' F' N' => hP _ _ _ h' _ (hq2.2 _ f1) rfl ?_) (.inr (pylong ok rm R2))
    exact Rep.more T F' lo H N' D f1 f2 ⟨_, _, rfl, rfl⟩
  · exact hq2.elim
theorem se_abs {x : Str} {p pos : Pos} {a : Expr} {ma : ME} (hxe : x = "abs") (hx : x ∈ F.bt) (hk : F.sc.names.lookup x = some .globalImplicit) (hn : notStar a = true) (ha : SE F a ma) : SE F (.Call (.Name x p) [a] [] pos) (.abs ma) := by
  intro c d FO hg hsc ok rm l hp Q X hev fr s P E R hP hX
  subst hxe
  refine Call_ (nameB FO hg hsc ok hx (v := .builtin "abs") (by decide +kernel) hk (by decide) (by decide) R ?_) rfl
  refine PyProof.Rows.callWith_builtin1 ?_ (starEach_cons hn) rfl
  refine spliced_more (ha c d FO hg hsc ok rm l hp _ X hev fr s _ E R (fun v y h1 hh tk hq hy R1 => ?_) hX) (starEach_cons hn)
  refine spliced_none ?_
  split at hq
  · obtain ⟨t, rfl⟩ := absV_int hy
    exact call_abs_int fun u tk' => hP _ _ h1 hh tk' hq rfl R1
  · exact hq.elim
theorem se_strOf {x : Str} {p pos : Pos} {a : Expr} {ma : ME} (hxe : x = "str") (hx : x ∈ F.bt) (hk : F.sc.names.lookup x = some .globalImplicit) (hn : notStar a = true) (ha : SE F a ma) : SE F (.Call (.Name x p) [a] [] pos) (.strOf ma) := by
  intro c d FO hg hsc ok rm l hp Q X hev fr s P E R hP hX
  subst hxe
  refine Call_ (nameB FO hg hsc ok hx (v := .type "str") boot_str hk (by decide) (by decide) R ?_) rfl
  refine PyProof.Rows.callWith_type1 ?_ (starEach_cons hn) rfl
  refine spliced_more (ha c d FO hg hsc ok rm l hp _ X hev fr s _ E R (fun v y h1 hh tk hq hy R1 => ?_) hX) (starEach_cons hn)
  refine spliced_none ?_
  split at hq
  · obtain ⟨t, rfl⟩ := absV_int hy
    obtain ⟨g, T, m, Fm, lo, H, N, D⟩ := id R1
    refine str_of_int_or (handled_none ok) (Heap.NoDigits.keeps ok.top.nodigits (R1.keep ok)) (fun _ => ?_) (fun h => ?_)
    · exact hP _ _ h1 _ _ hq.2 rfl R1
    · exfalso; generalize 10 ^ 4300 = z at h hq; exact absurd hq.1 (Nat.not_lt.mpr h)
  · exact hq.elim
theorem ss_stop {st : Stmt} : SS F st .stop := fun _ _ _ _ _ _ _ _ _ _ _ h => h.elim
theorem ss_expr {e : Expr} {pos : Pos} {m : ME} (hc : compE e = false) (he : SE F e m) : SS F (.Expr e pos) (.expr m) := by
  intro c d FO hg hsc ok rm l hp Q X hev hcp fr s P E R hP hX
  have hi : interactive c.env = false := by
    unfold interactive
    rw [show c.env.scope.kind = .function by rw [c.env_scope]; exact ok.kind]; rfl
  exact wpAny_Expr_any (he c d FO hg hsc ok rm l hp _ X hev fr s _ E R (fun v y h1 hh tk hq hy R1 => hP .next .next l h1 hh tk hq trivial R1) (hX l)) hi (swaps_plain hc _ _ _)
end
section
variable {F : Fx}
theorem se_strC {y : String} {x : Str} {k pos} (hxy : x = Str.ofString y) : SE F (.Constant (.str x) k pos) (.strC y) := by
  intro c d FO hg hsc ok rm l hp Q X hev fr s P E R hP hX
  subst hxy
  exact Constant_str (hP _ _ hp s.heap _ hev rfl R)
/-- raise ValueError(a text) -/
theorem ss_raise {x : Str} {np cpos pos kp : Pos} {k : Nat} {t : Str} (hxe : x = "ValueError") (hx : x ∈ F.bt) (hk : F.sc.names.lookup x = some .globalImplicit) :
    SS F (.Raise (some (.Call (.Name x np) [.Constant (.str t) k kp] [] cpos)) none pos) (.raise "ValueError") := by
  intro c d FO hg hsc ok rm l hp Q X hev hcp fr s P E R hP hX
  subst hxe
  refine Raise_madeB PySem.F.excCall_ValueError PySem.F.excRaise_ValueError (handled_none ok) (nameB FO hg hsc ok hx (v := .type "ValueError") PyProof.Rows.Boot.«ValueError» hk (by decide) (by decide) R ⟨rfl, ?_⟩) rfl rfl
  refine spliced_more (Constant_str ?_) rfl
  refine spliced_none ⟨by simp [sizeLine_eq], fun h' e hm => ?_⟩
  obtain ⟨g, m, news, T, Fm, lo, H, N, D⟩ := R.parts
  exact hX l (.own "ValueError") e hp h' _ hev ⟨D, g, m, s.heap, T, Fm, lo, .inr ⟨"ValueError", _, news, rfl, hm.of, H, N⟩⟩
end
section
variable {F : Fx}
/-- a handler's suite, run while the exception is handled -/
def SH (F : Fx) (b : List Stmt) (h : MH) : Prop := ∀ c d (A' : Around), F.Ok → c.g = F.g → SCF c F → c.Ok → room c d → c.cp = none → ∀ l hp Q, execH h l hp Q → ∀ (fr : List (Addr × Obj)) (s : Shared) (P : Flow → Shared → Prop) (E : Value → Shared → Prop), Rep c F.names l hp fr s.heap →
    (∀ o f l' hp' h' tk', Q o l' hp' → rO o f → Rep c F.names l' hp' fr h' → P f { s with heap := h', toks := tk' }) → wpAny (model c.g.prog c.g.w) A' (execs b c.env) P E s
theorem sh_retB {b : Bool} {k pos p} : SH F [.Return (some (.Constant (.bool b) k pos)) p] (.retB b) := by
  intro c d A' FO hg hsc ok rm hcp l hp Q hev fr s P E R hP
  refine wpAny_execs_cons (wpAny_Return_some (Constant_bool ?_))
  exact hP (.ret (.bool b)) (.ret (.bool b)) l hp s.heap s.toks hev rfl R
theorem sh_retN {k pos p} : SH F [.Return (some (.Constant .none k pos)) p] .retN := by
  intro c d A' FO hg hsc ok rm hcp l hp Q hev fr s P E R hP
  refine wpAny_execs_cons (wpAny_Return_some (wpAny_Constant_none ?_))
  exact hP (.ret .none) (.ret .none) l hp s.heap s.toks hev rfl R
theorem sh_retS {x : Str} {y : String} {k pos p k2 p2} (hxy : x = Str.ofString y) : SH F [.Return (some (.Tuple [.Constant (.str x) k pos] k2 p2)) p] (.retS y) := by
  intro c d A' FO hg hsc ok rm hcp l hp Q hev fr s P E R hP
  subst hxy
  refine wpAny_execs_cons (wpAny_Return_some (Tuple_ ?_))
  refine spliced_more (Constant_str ?_) rfl
  refine spliced_none ?_
  obtain ⟨f1, f2⟩ := R.fresh ok
  obtain ⟨g, m, news, T, Fm, lo, H, N, D⟩ := R.parts
  refine newTuple_N Fm N (fun h' F' N' => hP (.ret _) (.ret _) l _ h' _ (hev _ f1) rfl ?_) (by simp [sizeLine_eq])
  exact Rep.more T F' lo H N' D f1 f2 ⟨_, _, rfl, rfl⟩
theorem sh_inc {x : Str} {i : Nat} {n : Int} {p p1 p2 p3 k p4 : _} (hi : F.names[i]? = some x) (hk : F.sc.names.lookup x = some .local) (hd : (x == ("__debug__" : Str)) = false) :
    SH F [.Assign [.Name x p1] (.BinOp (.Name x p2) .Add (.Constant (.int n) k p4) p3) p] (.inc i n) := by
  intro c d A' FO hg hsc ok rm hcp l hp Q hev fr s P E R hP
  refine wpAny_execs_cons (wpAny_Assign_Name ?_ (swaps_plain rfl _ _ _))
  obtain ⟨⟨hn, hc⟩, hQ⟩ := varV_iff.mp hev
  obtain ⟨m, val, hns, hm, hab⟩ := R.locals hi rfl hn hc
  refine wpAny_BinOp (wpAny_Name (wpAny_loadName_local (by rw [c.env_scope]; exact ok.kind) (by rw [c.env_kindOf, hsc.1]; exact hk) hns hm ?_) hd)
  refine wpAny_Constant_int ?_
  cases hl : lget l i <;> rw [hl] at hQ hab <;> first | exact hQ.elim | skip
  obtain ⟨t, rfl⟩ := absV_int hab
  refine PyProof.Rows.add_int ?_
  obtain ⟨g, m2, news, T, Fm, lo, H, N, D⟩ := R.parts
  rw [c.env_plain hcp]
  refine storeX_L Fm N (fun h' F' N' => wpAny_execs_nil (hP .next .next _ hp h' _ hQ trivial (Rep.of T F' ((LocX.plain hcp).mpr (((LocX.plain hcp).mp lo).set FO.nd hi rfl)) H N' D))) ok.fkind (by show c.fsc.names.lookup x = _; rw [← c.sc_plain hcp, hsc.1]; exact hk)
theorem caughtS {c : Cx} (FO : F.Ok) (hg : c.g = F.g) (hsc : SCF c F) (ok : c.Ok) (hcp : c.cp = none) (hcl : c.cl = []) {d : Nat} (rm : room c d) (hx : (Str.ofString "ValueError") ∈ F.bt) (hk : F.sc.names.lookup (Str.ofString "ValueError") = some .globalImplicit)
    {b₀ : Stmt} {suite : List Stmt} {mh : MH} (hh : SH F (b₀ :: suite) mh) {np pos : Pos} {l : List V} {hp : HP} {fr : List (Addr × Obj)} {e : Addr} {s' : Shared} {Q : Out → List V → HP → Prop}
    (hr : Raised c F.names l hp fr (.up "ValueError") e s'.heap) (hex : execH mh l hp Q) {P : Flow → Shared → Prop}
    (hP : ∀ o f l' hp' h' tk', Q o l' hp' → rO o f → Rep c F.names l' hp' fr h' → P f { s' with heap := h', toks := tk' }) :
    wpAny (model c.g.prog c.g.w) c.A (noteFrame (.ref e) c.env) (fun _ s₂ => wpAny (model c.g.prog c.g.w) c.A (setFlight (.ref e) none) (fun _ s₃ =>
      wpAny (model c.g.prog c.g.w) c.A (handleBy (.ref e) c.env [.ExceptHandler (some (.Name (Str.ofString "ValueError") np)) none (b₀ :: suite) pos]) P (fun _ _ => False) s₃) (fun _ _ => False) s₂) (fun _ _ => False) s' := by
  have hf : c.fenv = envOf c.qn c.fsc c.L c.fa c.cd := by show envX c.qn c.fsc c.L c.fa c.cd c.cl = _; rw [hcl]; rfl
  have henv : c.env = envOf c.qn c.fsc c.L c.fa c.cd := (c.env_plain hcp).trans hf
  obtain ⟨D, g, m, hh0, T, Fm, lo, hr⟩ := hr
  rcases hr with ⟨c0, t, vs, news, q, hup, hrk, hH⟩ | ⟨c0, vs, news, q, _⟩
  · cases q
    rw [hf] at hrk
    have okg := ok.turn T
    have hA : c.A = c.A₀.deeper (envOf c.qn c.fsc c.L c.fa c.cd) := by show c.A₀.deeper c.fenv = _; rw [hf]
    rw [henv, hA]
    refine caught_S0 (X := "ValueError") (T' := "ValueError") (KF := c.g.K) (g₀ := c.h₀) hrk Fm okg.below hup ok.inK ok.top okg.dicts T (by rw [hg]; exact FO.bt _ hx) PyProof.Rows.Boot.«ValueError» (by decide) PySem.F.isExc_ValueError PySem.F.notTuple_ValueError (by rw [isSubtype_type]; kernel_rfl) (fun h' g' news₂ T' F' N₂ got N' K' X' P' D' => ?_)
      ok.fkind (by show c.fsc.names.lookup _ = _; rw [← c.sc_plain hcp, hsc.1]; exact hk) (by decide) PassesOwnAt.never
    rw [← henv]
    exact hh c d _ FO hg hsc ok rm hcp l hp Q hex fr _ _ _ (Rep.of (news := news) T' F' lo hH N' D) (fun o f l' hp' h'' tk' hq hf' R' => hP o f l' hp' h'' tk' hq hf' R')
  · cases q
/-- what the try's statement does with the value -/
inductive TS (F : Fx) : Expr → Stmt → TK → Prop
  | expr {e pos} : compE e = false → TS F e (.Expr e pos) .expr
  | ret {e pos} : TS F e (.Return (some e) pos) .ret
  | asg {e x p pos i} : F.names[i]? = some x → F.sc.names.lookup x = some .local → compE e = false → TS F e (.Assign [.Name x p] e pos) (.asg i)
theorem ss_tryE {e : Expr} {st : Stmt} {t : TK} {m : ME} (ht : TS F e st t) (he : SE F e m) (htop : F.top = true) (hnc : (F.sc.names.all fun y => !(y.2 == .cell)) = true) (hx : (Str.ofString "ValueError") ∈ F.bt) (hk : F.sc.names.lookup (Str.ofString "ValueError") = some .globalImplicit)
    {b₀ : Stmt} {suite : List Stmt} {mh : MH} (hh : SH F (b₀ :: suite) mh) {np pos p2 : Pos} :
    SS F (.Try [st] [.ExceptHandler (some (.Name (Str.ofString "ValueError") np)) none (b₀ :: suite) pos] [] [] p2) (.tryE t m "ValueError" mh) := by
  intro c d FO hg hsc ok rm l hp Q X hev hcp fr s P E R hP hX
  have hcl := hsc.2.2 htop hnc
  refine wpAny_Try_except ?_
  have main : ∀ (E' : Value → Shared → Prop), (∀ e hp' h' tk', execH mh l hp' Q → Raised c F.names l hp' fr (.up "ValueError") e h' → E' (.ref e) { s with heap := h', toks := tk' }) →
      XP c F.names l fr (fun c h1 => match c with | .up c => c = "ValueError" ∧ execH mh l h1 Q | .own _ => False) E' s := by
    intro E' hE cls e hp' h' tk' hx hr
    cases cls with
    | own c => exact hx.elim
    | up c => obtain ⟨rfl, hx⟩ := hx; exact hE e hp' h' tk' hx hr
  have catch_ : ∀ e hp' h' tk', execH mh l hp' Q → Raised c F.names l hp' fr (.up "ValueError") e h' →
      wpAny (model c.g.prog c.g.w) c.A (noteFrame (.ref e) c.env) (fun _ s₂ => wpAny (model c.g.prog c.g.w) c.A (setFlight (.ref e) none) (fun _ s₃ =>
        wpAny (model c.g.prog c.g.w) c.A (handleBy (.ref e) c.env [.ExceptHandler (some (.Name (Str.ofString "ValueError") np)) none (b₀ :: suite) pos]) P E s₃) E s₂) E { s with heap := h', toks := tk' } := by
    intro e hp' h' tk' hex hr
    have h0 := caughtS (s' := { s with heap := h', toks := tk' }) FO hg hsc ok hcp hcl rm hx hk hh (np := np) (pos := pos) hr hex (P := P) (fun o f l' hp'' h'' tk'' hq hf R' => hP o f l' hp'' h'' tk'' hq hf R')
    exact wpAny_mono h0 (fun _ _ h1 => wpAny_mono h1 (fun _ _ h2 => wpAny_mono h2 (fun _ _ h3 => h3) (fun _ _ h3 => h3.elim)) (fun _ _ h3 => h3.elim)) (fun _ _ h3 => h3.elim)
  cases ht with
  | expr hc =>
    have hi : interactive c.env = false := by
      unfold interactive
      rw [show c.env.scope.kind = .function by rw [c.env_scope]; exact ok.kind]; rfl
    refine wpAny_execs_cons (wpAny_Expr_any (he c d FO hg hsc ok rm l hp _ _ hev fr s _ _ R (fun v y h1 hh tk hq hy R1 => ?_) (main _ ?_)) hi (swaps_plain hc _ _ _))
    · exact wpAny_execs_nil (wpAny_execs_nil (hP .next .next l h1 hh tk hq trivial R1))
    · exact catch_
  | ret =>
    refine wpAny_execs_cons (wpAny_Return_some (he c d FO hg hsc ok rm l hp _ _ hev fr s _ _ R (fun v y h1 hh tk hq hy R1 => ?_) (main _ ?_)))
    · exact hP (.ret v) (.ret y) l h1 hh tk hq hy R1
    · exact catch_
  | asg hi hkx hc =>
    refine wpAny_execs_cons (wpAny_Assign_Name (he c d FO hg hsc ok rm l hp _ _ hev fr s _ _ R (fun v y h1 hh tk hq hy R1 => ?_) (main _ ?_)) (swaps_plain hc _ _ _))
    · exact storeS FO hsc ok hcp hi hkx R1 hy fun h' tk' R' => wpAny_execs_nil (wpAny_execs_nil (hP .next .next _ h1 h' tk' hq trivial R'))
    · exact catch_
end
theorem entry_powT : entryFor table "pow" = some Builtin.«pow» := entryFor_of_fast (by kernel_rfl)
theorem kind_powT : builtinKind "pow" = none := by decide +kernel
theorem plain_powT : plainId "pow" = true := by decide +kernel
theorem args_powT2 (a b : Value) : argsOk "pow" ⟨[a, b], []⟩ := by unfold argsOk; kernel_rfl
theorem boot_powT : bootBuiltins "pow" = some (.builtin "pow") := by decide +kernel
theorem bind_pow2 (a b : Value) : Builtin.Builtins.bindParams "pow" ["base", "exp", "mod"] 2 ⟨[a, b], []⟩ = pure [some a, some b, none] := by kernel_rfl
theorem call_pow2 {prog : Program} {w : World} {A : Around} {E : Value → Shared → Prop} {s : Shared} {a b : Value} {Q : Value → Shared → Prop}
    (h : wpAny (model prog w) A.in1 (binaryOp .Pow a b) Q E s) : wpAny (model prog w) A (call (.builtin "pow") [a, b]) Q E s := by
  refine Calls.call_function_entry kind_powT plain_powT entry_powT (args_powT2 _ _) ?_
  unfold Builtin.«pow»
  rw [bind_pow2]
  show wpAny _ _ (do ret (← binaryOp .Pow a b)) _ _ s
  exact wpAny_bind (wpAny_mono h (fun v s' hq => wpAny_pure ⟨v, rfl, hq⟩) fun _ _ e => e)
section
variable {F : Fx}
theorem se_pow2 {x : Str} {p pos : Pos} {a b : Expr} {ma mb : ME} (hxe : x = "pow") (hx : x ∈ F.bt) (hk : F.sc.names.lookup x = some .globalImplicit) (hn : notStar a = true) (hn2 : notStar b = true) (ha : SE F a ma) (hb : SE F b mb) : SE F (.Call (.Name x p) [a, b] [] pos) (.bin .pow ma mb) := by
  intro c d FO hg hsc ok rm l hp Q X hev fr s P E R hP hX
  subst hxe
  refine Call_ (nameB FO hg hsc ok hx (v := .builtin "pow") boot_powT hk (by decide) (by decide) R ?_) rfl
  refine PyProof.Rows.callWith_builtin1 ?_ (starEach_cons hn) (by rw [starEach_cons hn2]; rfl)
  refine spliced_more (ha c d FO hg hsc ok rm l hp _ X hev fr s _ E R (fun v y h1 hh tk hq hy R1 => ?_) hX) (starEach_cons hn)
  refine spliced_more (hb c d FO hg hsc ok rm l h1 _ X hq fr _ _ E R1 (fun w z h2 hh2 tk2 hq2 hz R2 => ?_) hX) (starEach_cons hn2)
  refine spliced_none ?_
  unfold binV at hq2
  split at hq2
  · rename_i i j
    obtain ⟨t, rfl⟩ := absV_int hy
    obtain ⟨u, rfl⟩ := absV_int hz
    exact call_pow2 (PyProof.Rows.pow_int hq2.1.1 hq2.1.2 (hP _ _ h2 hh2 _ hq2.2 rfl R2))
  · exact hq2.elim
  · exact hq2.elim
theorem se_rng1 {x : Str} {p pos : Pos} {a : Expr} {ma : ME} (hxe : x = "range") (hx : x ∈ F.bt) (hk : F.sc.names.lookup x = some .globalImplicit) (hn : notStar a = true) (ha : SE F a ma) : SE F (.Call (.Name x p) [a] [] pos) (.rng (.int 0) ma (.int 1)) := by
  intro c d FO hg hsc ok rm l hp Q X hev fr s P E R hP hX
  subst hxe
  refine Call_ (nameB FO hg hsc ok hx (v := .type "range") boot_range hk (by decide) (by decide) R ?_) rfl
  refine PyProof.Rows.callWith_type1 ?_ (starEach_cons hn) rfl
  refine spliced_more (ha c d FO hg hsc ok rm l hp _ X hev fr s _ E R (fun v y h1 hh tk hq hy R1 => ?_) hX) (starEach_cons hn)
  refine spliced_none ?_
  cases v with
  | int n =>
    have hq : (1 : Int) ≠ 0 ∧ newV h1 (.rng 0 n 1) Q := hq
    obtain ⟨t, rfl⟩ := absV_int hy
    obtain ⟨f1, f2⟩ := R1.fresh ok
    obtain ⟨g, m, news, T, Fm, lo, H, N, D⟩ := R1.parts
    refine range1_rows Fm N fun h' tk' t1 u1 v1 hr F' N' _ => hP _ _ _ h' tk' (hq.2 _ f1) rfl (Rep.more T F' lo H (fun p hp' => ?_) D f1 f2 ⟨t1, u1, v1, rfl⟩)
    rcases List.mem_cons.mp hp' with rfl | hp'
    · refine ⟨hr, fun e => ?_, ?_⟩
      · obtain ⟨oL, _, _, hL, _⟩ := Fm.ns
        exact absurd (Heap.lt_size hL) (by rw [← e]; exact Nat.lt_irrefl _)
      · cases q : g.get? hh.objs.size with
        | none => rfl
        | some o => exact absurd (Heap.lt_size (Fm.keep _ _ q)) (Nat.lt_irrefl _)
    · exact N' p hp'
  | _ => exact (show False from hq).elim
theorem se_rng2 {x : Str} {p pos : Pos} {a b : Expr} {ma mb : ME} (hxe : x = "range") (hx : x ∈ F.bt) (hk : F.sc.names.lookup x = some .globalImplicit) (hn : notStar a = true) (ha : SE F a ma) (hn2 : notStar b = true) (hb : SE F b mb) : SE F (.Call (.Name x p) [a, b] [] pos) (.rng ma mb (.int 1)) := by
  intro c d FO hg hsc ok rm l hp Q X hev fr s P E R hP hX
  subst hxe
  refine Call_ (nameB FO hg hsc ok hx (v := .type "range") boot_range hk (by decide) (by decide) R ?_) rfl
  refine PyProof.Rows.callWith_type1 ?_ (starEach_cons hn) (by rw [starEach_cons hn2]; rfl)
  refine spliced_more (ha c d FO hg hsc ok rm l hp _ X hev fr s _ E R (fun v y h1 hh tk hq hy R1 => ?_) hX) (starEach_cons hn)
  refine spliced_more (hb c d FO hg hsc ok rm l h1 _ X hq fr _ _ E R1 (fun w z h2 hh2 tk2 hq2 hz R2 => ?_) hX) (starEach_cons hn2)
  refine spliced_none ?_
  cases v <;> first | exact (show False from hq2).elim | skip
  cases w <;> first | exact (show False from hq2).elim | skip
  rename_i i j
  have hq3 : (1 : Int) ≠ 0 ∧ newV h2 (.rng i j 1) Q := hq2
  obtain ⟨t, rfl⟩ := absV_int hy
  obtain ⟨u, rfl⟩ := absV_int hz
  obtain ⟨f1, f2⟩ := R2.fresh ok
  obtain ⟨g, m, news, T, Fm, lo, H, N, D⟩ := R2.parts
  refine range2_rows Fm N fun h' tk' t1 u1 v1 hr F' N' _ => hP _ _ _ h' tk' (hq3.2 _ f1) rfl (Rep.more T F' lo H (fun p hp' => ?_) D f1 f2 ⟨t1, u1, v1, rfl⟩)
  rcases List.mem_cons.mp hp' with rfl | hp'
  · refine ⟨hr, fun e => ?_, ?_⟩
    · obtain ⟨oL, _, _, hL, _⟩ := Fm.ns
      exact absurd (Heap.lt_size hL) (by rw [← e]; exact Nat.lt_irrefl _)
    · cases q : g.get? hh2.objs.size with
      | none => rfl
      | some o => exact absurd (Heap.lt_size (Fm.keep _ _ q)) (Nat.lt_irrefl _)
  · exact N' p hp'
theorem filterMap_get {α : Type} (l : List α) : ∀ (n : Nat), n ≤ l.length → ((List.range n).map fun (k : Nat) => n - 1 - k).filterMap (fun i => l[i]?) = (l.take n).reverse
  | 0, _ => rfl
  | n + 1, h => by
    rw [List.range_succ_eq_map, List.map_cons, List.filterMap_cons]
    have h1 : l[n + 1 - 1 - 0]? = some l[n] := by simp [List.getElem?_eq_getElem (show n < l.length from h)]
    rw [h1]
    have h2 : ((List.range n).map Nat.succ).map (fun k => n + 1 - 1 - k) = (List.range n).map fun k => n - 1 - k := by
      rw [List.map_map]
      apply List.map_congr_left
      intro k hk
      have := List.mem_range.mp hk
      show n + 1 - 1 - (k + 1) = n - 1 - k
      omega
    rw [h2]
    simp only
    rw [filterMap_get l n (by omega), List.take_add_one, List.getElem?_eq_getElem (show n < l.length from h)]
    simp only [Option.toList_some, List.reverse_append, List.reverse_cons, List.reverse_nil, List.nil_append, List.cons_append]
theorem slicePick_rev (items : Array Value) : (slicePick items none none (some (-1))).toList = items.toList.reverse := by
  have hb : sliceBounds none none (some (-1)) items.size = ((items.size : Int) - 1, -1, -1) := by rfl
  unfold slicePick
  rw [hb]
  have hr : sliceRange ((items.size : Int) - 1) (-1) (-1) = (List.range items.size).map fun (k : Nat) => items.size - 1 - k := by
    unfold sliceRange
    have hc : (if (-1 : Int) > 0 then (if (items.size : Int) - 1 < -1 then (-1 - ((items.size : Int) - 1) + -1 - 1) / -1 else 0) else (if (items.size : Int) - 1 > -1 then ((items.size : Int) - 1 - -1 - -1 - 1) / (- -1) else 0)).toNat = items.size := by
      rw [if_neg (by decide), show (- -1 : Int) = 1 from rfl, Int.ediv_one]
      split <;> omega
    simp only
    rw [hc]
    apply List.map_congr_left
    intro k hk
    have := List.mem_range.mp hk
    omega
  simp only
  rw [hr]
  have := filterMap_get items.toList items.size (by simp)
  rw [List.take_of_length_le (by simp)] at this
  rw [← this]
  simp only [Array.getElem?_toList]
theorem se_revd {a : Expr} {k : Nat} {p pos p1 p2 : Pos} {ma : ME} (ha : SE F a ma) : SE F (.Subscript a (.Slice none none (some (.UnaryOp .USub (.Constant (.int 1) k p2) p1)) p) pos) (.revd ma) := by
  intro c d FO hg hsc ok rm l hp Q X hev fr s P E R hP hX
  refine Subscript_ (ha c d FO hg hsc ok rm l hp _ X hev fr s _ E R (fun v x h1 hh tk hq hx R1 => ?_) hX)
  refine wpAny_Slice ?_
  refine wpAny_pure (a := Value.none) ?_
  refine wpAny_pure (a := Value.none) ?_
  refine UnaryOp_ (wpAny_Constant_int (PyProof.Rows.neg_int ?_))
  cases v with
  | ref r =>
    obtain ⟨vs, e, hsz, hq⟩ := hq
    cases absV_ref hx
    obtain ⟨items, hit, hl⟩ := R1.listI ok e
    have R2 := R1.push ok { cls := .type "slice", data := .fields #[.none, .none, .int (-1) (tk + 1)] } rfl
    obtain ⟨f1, f2⟩ := R2.fresh ok
    refine tail_any (Heap.IsList.typeIs (s := { s with heap := hh.push _ }) (hl.push _)) list_getitem_lookup ?_ rfl
    refine wpAny_getItem_list_slice (hl.push _) (Heap.IsSliceOf.new ..) .none .none (.int (-1) (tk + 1)) (by simp) ?_ (by rw [← hit] at hsz; simpa using hsz)
    refine hP _ _ _ _ _ (hq _ f1) rfl ?_
    obtain ⟨g, m, news, T, Fm, lo', H, N, D⟩ := R2.parts
    have N2 := N.push Fm { cls := .type "list", data := .seq (slicePick items none none (some (-1))) }
    have R3 := Rep.more (ob := { cls := .type "list", data := .seq (slicePick items none none (some (-1))) }) (o := .list vs.reverse) T (Fm.push _) lo' H N2 D f1 f2 ⟨_, _, rfl, by rw [slicePick_rev, List.map_reverse, hit]⟩
    exact R3.drop (R1.noC fun q hq => (R1.fresh ok).2 q hq) (fun _ _ _ e => e) (fun q hq => (R1.fresh ok).2 q hq)
  | _ => exact hq.elim
end
open PySem.Builtin PySem.Builtin.Str
theorem call_repr10 {prog : Program} {w : World} {A : Around} {E : Value → Shared → Prop} {s : Shared} {a : Int} {t : Tok} {Q : Value → Shared → Prop} (hn : s.heap.NoDigits) (hlt : a.natAbs < 10 ^ 4300)
    (h1 : Q (.str (toString a) s.toks) { s with toks := s.toks + 1 }) :
    wpAny (model prog w) A (call (.builtin "int.__repr__") [.int a t]) Q E s := by
  refine wpAny_call_entry F.slot_int_repr (typeIs_int s a t) F.entry_int_repr ?_ (F.args_int_repr_1 _)
  unfold Builtin.«int.__repr__»
  show wpAny _ _ (do let r ← Builtin.overDigitLimit? a; _) _ _ s
  refine wpAny_bind (overDigitLimit_any hn (fun hlt => ?_) (fun hge => ?_))
  · exact wpAny_bind (wpAny_mkStr (wpAny_pure ⟨_, rfl, h1⟩) (int_text_fits10 hlt))
  · exfalso; generalize 10 ^ 4300 = z at hge hlt; omega
theorem repr_len {m : Nat} (h : m < 10 ^ 4300) : (Str.ofString (toString (m : Int))).length ≤ 4300 := by
  rw [PySem.ofString_length]
  exact (Nat.length_repr_le_iff (by decide)).mpr h
theorem pint_len (c : Percent) (h1 : c.alt = false) (h2 : c.type = 100) (h3 : c.prec = none) (b : Bool) (d : List Nat) : (percentInt c b d).length ≤ d.length + 1 := by
  unfold percentInt
  cases b <;> simp [h1, h2, h3]
theorem after_K {M : Model} {A : Around} {E : Value → Shared → Prop} {s : Shared} {l : List Nat} {p : List Value} {r : List Nat}
    {f : Nat → List Value × Writer × List Nat → Sem (ForInStep (List Value × Writer × List Nat))} {Q : List Value × Writer × List Nat → Shared → Prop} {w : Writer} {T x : PySem.Str} {N : Nat} {o : Option Value} (K : Nat)
    (g : KPc.Good w T N) (hx : x.length ≤ K) (ho : o = none) (h : ∀ w' T', KPc.Good w' T' (N + K) → wpAny M A (ForIn.forIn l (p, w', r) f) Q E s) : wpAny M A (ForIn.forIn l (p, w.add x o, r) f) Q E s :=
  h _ _ (KPc.good_mono (KPc.good_add g (KPc.obj_none ho)) (Nat.add_le_add_left hx _))
/-- the text of the error of a root -/
def rootText : Str := ⟨#[37, 100, 32, 104, 97, 115, 32, 110, 111, 32, 114, 101, 97, 108, 32, 37, 100, 45, 116, 104, 32, 114, 111, 111, 116, 46]⟩
theorem rootText_eq : Str.ofString "%d has no real %d-th root." = ⟨#[37, 100, 32, 104, 97, 115, 32, 110, 111, 32, 114, 101, 97, 108, 32, 37, 100, 45, 116, 104, 32, 114, 111, 111, 116, 46]⟩ := by decide +kernel
set_option maxHeartbeats 4000000 in
theorem meets_root {t u v : Tok} {b : Addr} {n k : Int} (hn : n.natAbs < 10 ^ 4300) (hk : k.natAbs < 10 ^ 4300) :
    Meets («str.__mod__» ⟨[.str ⟨#[37, 100, 32, 104, 97, 115, 32, 110, 111, 32, 114, 101, 97, 108, 32, 37, 100, 45, 116, 104, 32, 114, 111, 111, 116, 46]⟩ t, .ref b], []⟩) (fun _ R s => (s.heap.NoDigits ∧ IsTup s.heap b #[.int n u, .int k v]) ∧ ∀ T t' k', R (.ok (.ret (.str T t'))) { s with toks := k' }) := by
  refine Meets.of_wp fun prog w A R s hS => ?_
  obtain ⟨⟨hd, kptO, kptG, kptC, kptN, kptD⟩, hR⟩ := hS
  rw [KPt.entry_is_r]
  unfold Builtin.Str.percentFormat
  refine wpAny_bind (wpAny_isInstance (T := "tuple") ⟨kptO, kptG, kptC⟩ KPt.sub_tt ?_)
  refine wpAny_bind (KPt.asStr_ref kptG kptD ?_)
  refine wpAny_bind (KPt.fills_ref ⟨kptO, kptG, kptC⟩ ?_)
  intro _
  kpc_if
  refine wpAny_bind (wpAny_seqItems kptG kptD ?_)
  refine wpAny_bind (wpAny_pure ?_)
  refine wpAny_bind ?_
  rw [KPc.range_list]
  refine KPc.start ?_
  intro w0 g0
  refine KPc.turn ?_
  kpc_check
  repeat kpc_if
  refine wpAny_bind ?_
  refine wpAny_holding ?_
  repeat kpc_if
  refine wpAny_bind (wpAny_of_eq (a := _) rfl ?_)
  repeat kpc_if
  refine wpAny_bind (wpAny_mkInt ?_)
  refine wpAny_bind (call_repr10 hd hn ?_)
  refine wpAny_bind (wpAny_of_eq (a := some _) rfl ?_)
  refine wpAny_pure ?_
  refine wpAny_pure ?_
  refine after_K 4301 (by kpc_g) ?len1 (by kpc_none) ?_
  case len1 =>
    show (percentInt _ _ _).toArray.size ≤ 4301
    rw [List.size_toArray]
    exact Nat.le_trans (pint_len _ rfl rfl rfl _ _) (Nat.succ_le_succ (repr_len hn))
  intro w1 T1 g1
  refine KPc.turn ?_
  kpc_check
  repeat kpc_if
  refine wpAny_pure ?_
  kpc_piece
  refine KPc.turn ?_
  kpc_check
  repeat kpc_if
  refine wpAny_bind ?_
  refine wpAny_holding ?_
  repeat kpc_if
  refine wpAny_bind (wpAny_of_eq (a := _) rfl ?_)
  repeat kpc_if
  refine wpAny_bind (wpAny_mkInt ?_)
  refine wpAny_bind (call_repr10 hd hk ?_)
  refine wpAny_bind (wpAny_of_eq (a := some _) rfl ?_)
  refine wpAny_pure ?_
  refine wpAny_pure ?_
  refine after_K 4301 (by kpc_g) ?len2 (by kpc_none) ?_
  case len2 =>
    show (percentInt _ _ _).toArray.size ≤ 4301
    rw [List.size_toArray]
    exact Nat.le_trans (pint_len _ rfl rfl rfl _ _) (Nat.succ_le_succ (repr_len hk))
  intro w2 T2 g2
  refine KPc.turn ?_
  kpc_check
  repeat kpc_if
  refine wpAny_pure ?_
  kpc_piece
  refine KPc.turn ?_
  kpc_check
  repeat kpc_if
  refine wpAny_pure ?_
  kpc_if
  refine KPc.finish_ok (by kpc_g) (by decide +kernel) rfl ?_
  exact fun t' k' => ⟨_, rfl, hR _ t' k'⟩
section
variable {F : Fx}
/-- raise ValueError('%d has no real %d-th root.' % (n, k)) -/
theorem ss_raiseF {x t : Str} {np cpos pos kp tp bp : Pos} {k tk : Nat} {es : List Expr} {ms : ME} (hxe : x = "ValueError") (ht : t = rootText) (hx : x ∈ F.bt) (hk : F.sc.names.lookup x = some .globalImplicit) (hes : SEs F es ms) :
    SS F (.Raise (some (.Call (.Name x np) [.BinOp (.Constant (.str t) k kp) .Mod (.Tuple es tk tp) bp] [] cpos)) none pos) (.raiseF "ValueError" ms) := by
  intro c d FO hg hsc ok rm l hp Q X hev hcp fr s P E R hP hX
  subst hxe ht
  refine Raise_madeB PySem.F.excCall_ValueError PySem.F.excRaise_ValueError (handled_none ok) (nameB FO hg hsc ok hx (v := .type "ValueError") PyProof.Rows.Boot.«ValueError» hk (by decide) (by decide) R ⟨rfl, ?_⟩) rfl rfl
  refine spliced_more (wpAny_BinOp (Constant_str (Tuple_ ?_))) rfl
  refine hes c d FO hg hsc ok rm l hp _ X hev tp fr _ _ E R (fun vs vals h1 hh tk1 hq hv R1 => ?_) (hX l)
  dsimp only at hq
  split at hq
  · rename_i n m
    obtain ⟨v0, vals, rfl, hv0, hv⟩ : ∃ v0 r, vals = v0 :: r ∧ absV v0 = .int n ∧ r.map absV = [.int m] := by
      cases vals with
      | nil => cases hv
      | cons v r => exact ⟨v, r, rfl, List.head_eq_of_cons_eq hv, List.tail_eq_of_cons_eq hv⟩
    obtain ⟨v1, vals, rfl, hv1, hv⟩ : ∃ v0 r, vals = v0 :: r ∧ absV v0 = .int m ∧ r.map absV = [] := by
      cases vals with
      | nil => cases hv
      | cons v r => exact ⟨v, r, rfl, List.head_eq_of_cons_eq hv, List.tail_eq_of_cons_eq hv⟩
    obtain rfl : vals = [] := List.map_eq_nil_iff.mp hv
    obtain ⟨u, rfl⟩ := absV_int hv0
    obtain ⟨u2, rfl⟩ := absV_int hv1
    obtain ⟨g, m1, news, T, Fm, lo, H, N, D⟩ := R1.parts
    refine newTuple_N Fm N (fun h' F' N' => ?_) (by simp [sizeLine_eq])
    have hnd : h'.NoDigits := Heap.NoDigits.keeps ok.top.nodigits fun b o e => F'.keep b o ((ok.turn T).below.stays b o e)
    refine KPt.bin_left (T := "str") (U := "tuple") (op := .Mod) (by decide) (typeIs_str _ _ _) ⟨_, (N' _ (.head _)).1, rfl⟩ PySem.F.fills_str_mod KPt.fills_tuple PySem.F.slot_str_mod
      (call_meets PySem.F.slot_str_mod (typeIs_str _ _ _) PySem.F.entry_str_mod (PySem.F.args_str_mod_2 _ _) (meets_root hq.1 hq.2.1) ⟨⟨hnd, ⟨_, (N' _ (.head _)).1, rfl, _, rfl⟩⟩, fun Tx t' k' => ⟨(fun e => nomatch e), ?_⟩⟩)
    refine spliced_none ⟨by simp [sizeLine_eq], fun h2 e hm => ?_⟩
    have N2 : News g c.L h' (news ++ fr) := fun p hp => N' p (.tail _ hp)
    exact hX l (.own "ValueError") e h1 h2 _ hq.2.2 ⟨D, g, m1, h', T, F', lo, .inr ⟨"ValueError", _, news, rfl, hm.of, H, N2⟩⟩
  · exact hq.elim
end
theorem ints_abs : ∀ {vs : List Value} {ns : List Int}, IntsAre vs ns → vs.map absV = ns.map V.int
  | _, _, .nil => rfl
  | _, _, .cons n t r => by simp only [List.map_cons, absV, List.cons.injEq, true_and]; exact ints_abs r
theorem ints_of_abs : ∀ {vs : List Value} {ns : List Int}, vs.map absV = ns.map V.int → IntsAre vs ns
  | [], [], _ => .nil
  | [], _ :: _, h => by cases h
  | _ :: _, [], h => by cases h
  | v :: vs, n :: ns, h => by
    rw [List.map_cons, List.map_cons] at h
    obtain ⟨t, rfl⟩ := absV_int (List.head_eq_of_cons_eq h)
    exact .cons n t (ints_of_abs (List.tail_eq_of_cons_eq h))
section
variable {F : Fx}
end
abbrev RE (F : Fx) (e : Expr) := Option { m : ME // SE F e m }
abbrev RT (F : Fx) (e : Expr) := Option { m : ME // ST F e m }
abbrev REs (F : Fx) (es : List Expr) := Option { m : ME // SEs F es m }
abbrev RTB (F : Fx) (o : BoolOp) (es : List Expr) (pos : Pos) := Option { m : ME // STB F o es pos m }
def glob? (F : Fx) (x : Str) : Bool := decide (F.sc.names.lookup x = some .globalImplicit) && !(x == ("__debug__" : Str))
theorem glob?_spec {F : Fx} {x : Str} (h : glob? F x = true) : F.sc.names.lookup x = some .globalImplicit ∧ (x == ("__debug__" : Str)) = false := by
  simp only [glob?, Bool.and_eq_true, decide_eq_true_eq, Bool.not_eq_true'] at h; exact h
def bi? (F : Fx) (x : Str) : Bool := glob? F x && F.bt.contains x
theorem bi?_spec {F : Fx} {x : Str} (h : bi? F x = true) : x ∈ F.bt ∧ F.sc.names.lookup x = some .globalImplicit := by
  simp only [bi?, Bool.and_eq_true, List.contains_iff_mem] at h; exact ⟨h.2, (glob?_spec h.1).1⟩
/-- a call of a built-in of one argument -/
noncomputable def cB1 (F : Fx) (x : Str) (p pos : Pos) (a : Expr) (hb : bi? F x = true) (hn : notStar a = true) (ma : { m : ME // SE F a m }) : RE F (.Call (.Name x p) [a] [] pos) :=
  if h : x = "len" then some ⟨.len ma.1, se_len h (bi?_spec hb).1 (bi?_spec hb).2 hn ma.2⟩
  else if h : x = "int" then some ⟨.toInt ma.1, se_toInt h (bi?_spec hb).1 (bi?_spec hb).2 hn ma.2⟩
  else if h : x = "list" then some ⟨.listOf ma.1, se_listOf h (bi?_spec hb).1 (bi?_spec hb).2 hn ma.2⟩
  else if h : x = "tuple" then some ⟨.tupOf ma.1, se_tupOf h (bi?_spec hb).1 (bi?_spec hb).2 hn ma.2⟩
  else if h : x = "str" then some ⟨.strOf ma.1, se_strOf h (bi?_spec hb).1 (bi?_spec hb).2 hn ma.2⟩
  else if h : x = "range" then some ⟨.rng (.int 0) ma.1 (.int 1), se_rng1 h (bi?_spec hb).1 (bi?_spec hb).2 hn ma.2⟩
  else if h : x = "abs" then some ⟨.abs ma.1, se_abs h (bi?_spec hb).1 (bi?_spec hb).2 hn ma.2⟩
  else none
noncomputable def cB2 (F : Fx) (x : Str) (p pos : Pos) (a b : Expr) (hb : bi? F x = true) (hn : notStar a = true) (hn2 : notStar b = true) (ma : { m : ME // SE F a m }) (mb : { m : ME // SE F b m }) : RE F (.Call (.Name x p) [a, b] [] pos) :=
  if h : x = "min" then some ⟨.mn ma.1 mb.1, se_mn h (bi?_spec hb).1 (bi?_spec hb).2 hn hn2 ma.2 mb.2⟩
  else if h : x = "max" then some ⟨.mx ma.1 mb.1, se_mx h (bi?_spec hb).1 (bi?_spec hb).2 hn hn2 ma.2 mb.2⟩
  else if h : x = "divmod" then some ⟨.dvm ma.1 mb.1, se_dvm h (bi?_spec hb).1 (bi?_spec hb).2 hn hn2 ma.2 mb.2⟩
  else if h : x = "pow" then some ⟨.bin .pow ma.1 mb.1, se_pow2 h (bi?_spec hb).1 (bi?_spec hb).2 hn hn2 ma.2 mb.2⟩
  else if h : x = "range" then some ⟨.rng ma.1 mb.1 (.int 1), se_rng2 h (bi?_spec hb).1 (bi?_spec hb).2 hn ma.2 hn2 mb.2⟩
  else none
def ndB : List Str → Bool
  | [] => true
  | x :: r => !(r.contains x) && ndB r
theorem ndB_nodup : ∀ {l : List Str}, ndB l = true → l.Nodup
  | [], _ => List.nodup_nil
  | x :: r, h => by
    simp only [ndB, Bool.and_eq_true, Bool.not_eq_true', List.contains_eq_mem, decide_eq_false_iff_not] at h
    exact List.nodup_cons.mpr ⟨h.1, ndB_nodup h.2⟩
mutual
noncomputable def cE (F : Fx) : Nat → (e : Expr) → RE F e
  | 0, _ => none
  | n + 1, .Name x _ => match h : loc? F x with
    | some i => some ⟨.var i, se_var (loc?_spec h).1 (loc?_spec h).2.1 (loc?_spec h).2.2⟩
    | none => none
  | n + 1, .Constant (.int i) _ _ => some ⟨.int i, se_int⟩
  | n + 1, .Constant (.bool b) _ _ => some ⟨.bool b, se_bool⟩
  | n + 1, .Constant .none _ _ => some ⟨.none, se_none⟩
  | n + 1, .Constant (.str x) _ _ => if h : x = Str.ofString x.toString then some ⟨.strC x.toString, se_strC h⟩ else none
  | n + 1, .BinOp a o b _ => match h : opOf o, cE F n a, cE F n b with
    | some bo, some ma, some mb => some ⟨.bin bo ma.1 mb.1, se_bin h ma.2 mb.2⟩
    | _, _, _ => none
  | n + 1, .UnaryOp .USub a _ => (cE F n a).map fun ma => ⟨.neg ma.1, se_neg ma.2⟩
  | n + 1, .UnaryOp .Not a _ => (cE F n a).map fun ma => ⟨.not ma.1, se_not ma.2 fun _ _ _ _ _ _ h => PyProof.Rows.not_of h⟩
  | n + 1, .Compare a [.Is] [.Constant .none _ _] _ => (cE F n a).map fun ma => ⟨.isn ma.1 true, se_isn ma.2⟩
  | n + 1, .Compare a [.IsNot] [.Constant .none _ _] _ => (cE F n a).map fun ma => ⟨.isn ma.1 false, se_isnn ma.2⟩
  | n + 1, .Compare a [o] [b] _ => match h : cmpOf o, cE F n a, cE F n b with
    | some bo, some ma, some mb => some ⟨.cmp bo ma.1 mb.1, se_cmp h ma.2 mb.2⟩
    | _, _, _ => none
  | n + 1, .Compare a [o, q] [b, e] _ => match h : cmpOf o, h' : cmpOf q, cE F n a, cE F n b, cE F n e with
    | some bo, some bq, some ma, some mb, some me => some ⟨.chain ma.1 bo mb.1 bq me.1, se_chain h h' ma.2 mb.2 me.2⟩
    | _, _, _, _, _ => none
  | n + 1, .BoolOp o [a] _ => (cE F n a).map fun ma => ⟨ma.1, se_and_one o ma.2⟩
  | n + 1, .BoolOp .And (a :: b :: r) pos => match cE F n a, cE F n (.BoolOp .And (b :: r) pos) with
    | some ma, some mb => some ⟨.and ma.1 mb.1, se_and ma.2 mb.2⟩
    | _, _ => none
  | n + 1, .BoolOp .Or (a :: b :: r) pos => match cE F n a, cE F n (.BoolOp .Or (b :: r) pos) with
    | some ma, some mb => some ⟨.or ma.1 mb.1, se_or ma.2 mb.2⟩
    | _, _ => none
  | n + 1, .IfExp a b e _ => match cT F n a, cE F n b, cE F n e with
    | some ma, some mb, some me => some ⟨.ite ma.1 mb.1 me.1, se_ite ma.2 mb.2 me.2⟩
    | _, _, _ => none
  | n + 1, .Tuple es _ _ => (cEs F n es).map fun ms => ⟨.tup ms.1, se_tup ms.2⟩
  | n + 1, .List es _ => (cEs F n es).map fun ms => ⟨.list ms.1, se_list ms.2⟩
  | n + 1, .Subscript a (.Slice (some i) none none p) pos => match cE F n a, cE F n i with
    | some ma, some mi => some ⟨.slcF ma.1 mi.1, se_slcF ma.2 mi.2⟩
    | _, _ => none
  | n + 1, .Subscript a (.Slice none (some i) none p) pos => match cE F n a, cE F n i with
    | some ma, some mi => some ⟨.slcT ma.1 mi.1, se_slcT ma.2 mi.2⟩
    | _, _ => none
  | n + 1, .Subscript a (.Slice none none (some (.UnaryOp .USub (.Constant (.int 1) _ _) _)) p) pos => (cE F n a).map fun ma => ⟨.revd ma.1, se_revd ma.2⟩
  | n + 1, .Subscript a i _ => if h : sliceOf i = false then match cE F n a, cE F n i with
      | some ma, some mi => some ⟨.idx ma.1 mi.1, se_idx h ma.2 mi.2⟩
      | _, _ => none
    else none
  | n + 1, .Call (.Attribute o nm apos) [] [] pos => if hs : supE o = false ∧ (apos.endLine == pos.line) = true then match cE F n o with
      | some mo => if h : nm = "reverse" then some ⟨.rev mo.1, se_rev h hs.1 hs.2 mo.2⟩
        else if h : nm = "bit_length" then some ⟨.bitlen mo.1, se_bitlen h hs.1 hs.2 mo.2⟩
        else none
      | none => none
    else none
  | n + 1, .Call (.Attribute o nm apos) [e] [] pos => if hs : supE o = false ∧ (apos.endLine == pos.line) = true then match cE F n o with
      | some mo => if h : nm = "append" then (if hn : notStar e = true then (cE F n e).map fun me => ⟨.app mo.1 me.1, se_app h hs.1 hs.2 hn mo.2 me.2⟩ else none)
        else if h : nm = "pop" then (match e with
          | .Constant (.int 0) _ _ => some ⟨.pop0 mo.1, se_pop0 h hs.1 hs.2 mo.2⟩
          | _ => none)
        else none
      | none => none
    else none
  | n + 1, .Call (.Name x p) (e :: es) [] pos => match h : F.gt.lookup x with
    | some a => if hx : glob? F x = true ∧ (e :: es).all notStar = true then
        (cEs F n (e :: es)).map fun ms => ⟨.call a ms.1, se_call h (glob?_spec hx.1).1 (glob?_spec hx.1).2 hx.2 ms.2⟩
      else none
    | none => if hb : bi? F x = true then match es with
        | [] => if hn : notStar e = true then (match cE F n e with | some ma => cB1 F x p pos e hb hn ma | none => none) else none
        | [.Name T pT] => if hi : x = "isinstance" then (match hk : kdOf T with
              | some k => if hT : bi? F T = true ∧ notStar e = true then (cE F n e).map fun ma => ⟨.isi ma.1 k, se_isi hi (bi?_spec hb).1 (bi?_spec hb).2 (bi?_spec hT.1).1 (bi?_spec hT.1).2 hk hT.2 ma.2⟩ else none
              | none => none)
            else if hn : notStar e = true then (match cE F n e, cE F n (.Name T pT) with | some ma, some mb => cB2 F x p pos e (.Name T pT) hb hn rfl ma mb | _, _ => none) else none
        | [b] => if hn : notStar e = true ∧ notStar b = true then (match cE F n e, cE F n b with | some ma, some mb => cB2 F x p pos e b hb hn.1 hn.2 ma mb | _, _ => none) else none
        | _ => none
      else none
  | n + 1, .Call (.Name x p) (e :: es) [⟨some k, v, kp⟩] pos => match h : F.gt.lookup x with
    | some a => if hx : glob? F x = true ∧ (e :: es).all notStar = true ∧ k = Str.ofString "k" then
          match cEs F n (e :: es), cE F n v with
          | some ms, some mv => some ⟨.callk a ms.1 "k" mv.1, se_callk h (glob?_spec hx.1).1 (glob?_spec hx.1).2 hx.2.1 ms.2 mv.2 hx.2.2⟩
          | _, _ => none
        else if hx : glob? F x = true ∧ (e :: es).all notStar = true ∧ k = Str.ofString "base" then
          match cEs F n (e :: es), cE F n v with
          | some ms, some mv => some ⟨.callk a ms.1 "base" mv.1, se_callk h (glob?_spec hx.1).1 (glob?_spec hx.1).2 hx.2.1 ms.2 mv.2 hx.2.2⟩
          | _, _ => none
        else if hx : glob? F x = true ∧ (e :: es).all notStar = true ∧ k = Str.ofString "init" then
          match cEs F n (e :: es), cE F n v with
          | some ms, some mv => some ⟨.callk a ms.1 "init" mv.1, se_callk h (glob?_spec hx.1).1 (glob?_spec hx.1).2 hx.2.1 ms.2 mv.2 hx.2.2⟩
          | _, _ => none
        else if hx : glob? F x = true ∧ (e :: es).all notStar = true ∧ k = Str.ofString "return_power" then
          match cEs F n (e :: es), cE F n v with
          | some ms, some mv => some ⟨.callk a ms.1 "return_power" mv.1, se_callk h (glob?_spec hx.1).1 (glob?_spec hx.1).2 hx.2.1 ms.2 mv.2 hx.2.2⟩
          | _, _ => none
        else none
    | none => none
  | _ + 1, _ => none
termination_by structural n => n
noncomputable def cEs (F : Fx) : Nat → (es : List Expr) → REs F es
  | 0, _ => none
  | n + 1, [] => some ⟨.nil, ses_nil⟩
  | n + 1, e :: r => if h : notStar e = true then match cE F n e, cEs F n r with
      | some me, some mr => some ⟨.cons me.1 mr.1, ses_cons h me.2 mr.2⟩
      | _, _ => none
    else none
termination_by structural n => n
noncomputable def cT (F : Fx) : Nat → (e : Expr) → RT F e
  | 0, _ => none
  | n + 1, .Compare a [.Is] [.Constant .none _ _] _ => (cE F n a).map fun ma => ⟨.tv (.isn ma.1 true), st_isn ma.2⟩
  | n + 1, .Compare a [.IsNot] [.Constant .none _ _] _ => (cE F n a).map fun ma => ⟨.tv (.isn ma.1 false), st_isnn ma.2⟩
  | n + 1, .Compare a [o] [b] _ => match h : cmpOf o, cE F n a, cE F n b with
    | some bo, some ma, some mb => some ⟨.cmp bo ma.1 mb.1, st_cmp h ma.2 mb.2⟩
    | _, _, _ => none
  | n + 1, .Compare a [o, q] [b, e] _ => match h : cmpOf o, h' : cmpOf q, cE F n a, cE F n b, cE F n e with
    | some bo, some bq, some ma, some mb, some me => some ⟨.chain ma.1 bo mb.1 bq me.1, st_chain h h' ma.2 mb.2 me.2⟩
    | _, _, _, _, _ => none
  | n + 1, .UnaryOp .Not a _ => (cT F n a).map fun ma => ⟨.not ma.1, st_not ma.2⟩
  | n + 1, .BoolOp o es pos => (cTB F n o es pos).map fun m => ⟨m.1, st_of m.2⟩
  | n + 1, .IfExp a b e _ => match cT F n a, cT F n b, cT F n e with
    | some ma, some mb, some me => some ⟨.ite ma.1 mb.1 me.1, st_ite ma.2 mb.2 me.2⟩
    | _, _, _ => none
  | n + 1, e => if h : plainTest e = true then (cE F n e).map fun m => ⟨.tv m.1, st_tv h m.2⟩ else none
termination_by structural n => n
noncomputable def cTB (F : Fx) : Nat → (o : BoolOp) → (es : List Expr) → (pos : Pos) → RTB F o es pos
  | 0, _, _, _ => none
  | n + 1, .And, [a], pos => (cT F n a).map fun m => ⟨m.1, stb_and_one m.2⟩
  | n + 1, .Or, [a], pos => (cT F n a).map fun m => ⟨m.1, stb_or_one m.2⟩
  | n + 1, .And, a :: r, pos => match cT F n a, cTB F n .And r pos with
    | some ma, some mr => some ⟨.and ma.1 mr.1, stb_and ma.2 mr.2⟩
    | _, _ => none
  | n + 1, .Or, a :: r, pos => match cT F n a, cTB F n .Or r pos with
    | some ma, some mr => some ⟨.or ma.1 mr.1, stb_or ma.2 mr.2⟩
    | _, _ => none
  | _, _, _, _ => none
termination_by structural n => n
end
abbrev RS (F : Fx) (st : Stmt) := Option { m : MS // SS F st m }
abbrev RB (F : Fx) (b : List Stmt) := Option { m : MS // SB F b m }
theorem or7 {b : BOp} (h : (b == .add || b == .sub || b == .mul || b == .fdiv || b == .mod || b == .shr || b == .band) = true) : b = .add ∨ b = .sub ∨ b = .mul ∨ b = .fdiv ∨ b = .mod ∨ b = .shr ∨ b = .band := by
  cases b <;> simp_all <;> revert h <;> decide
def isTup : Expr → Bool
  | .Tuple .. => true
  | _ => false
theorem isTup_ne {e : Expr} (h : isTup e = false) : ∀ vs k' p', e ≠ .Tuple vs k' p' := by
  intro vs k p q; subst q; cases h
structure RTS (F : Fx) (st : Stmt) where
  e : Expr
  t : TK
  m : ME
  ts : TS F e st t
  se : SE F e m
noncomputable def cTS (F : Fx) : (st : Stmt) → Option (RTS F st)
  | .Expr e pos => if hc : compE e = false then (cE F 60 e).map fun m => ⟨e, .expr, m.1, .expr hc, m.2⟩ else none
  | .Return (some e) pos => (cE F 60 e).map fun m => ⟨e, .ret, m.1, .ret, m.2⟩
  | .Assign [.Name x p] e pos => match h : loc? F x with
    | some i => if hc : compE e = false then (cE F 60 e).map fun m => ⟨e, .asg i, m.1, .asg (loc?_spec h).1 (loc?_spec h).2.1 hc, m.2⟩ else none
    | none => none
  | _ => none
noncomputable def cSH (F : Fx) : (b : List Stmt) → Option { m : MH // SH F b m }
  | [.Return (some (.Constant (.bool b) _ _)) _] => some ⟨.retB b, sh_retB⟩
  | [.Return (some (.Constant .none _ _)) _] => some ⟨.retN, sh_retN⟩
  | [.Return (some (.Tuple [.Constant (.str x) _ _] _ _)) _] => if h : x = Str.ofString x.toString then some ⟨.retS x.toString, sh_retS h⟩ else none
  | [.Assign [.Name x _] (.BinOp (.Name y _) .Add (.Constant (.int n) _ _) _) _] => if hxy : y = x then (match h : loc? F x with
      | some i => some ⟨.inc i n, by subst hxy; exact sh_inc (loc?_spec h).1 (loc?_spec h).2.1 (loc?_spec h).2.2⟩
      | none => none) else none
  | _ => none
mutual
noncomputable def cS (F : Fx) : Nat → (st : Stmt) → RS F st
  | 0, _ => none
  | n + 1, .Assign [.Name x p] e pos => match h : loc? F x with
    | some i => if hc : compE e = false then (cE F 60 e).map fun m => ⟨.asg i m.1, ss_asg (loc?_spec h).1 (loc?_spec h).2.1 hc m.2⟩
      else none
    | none => none
  | n + 1, .Assign [.Tuple ts k p] (.Tuple es k' p') pos => match ht : tgt? F ts with
    | some (xs, is) => if hl : ts.length = es.length ∧ es.length ≤ 100 then
        (match hs : swr F.sc ts es with
        | some none => (cEs F 60 es).map fun m => ⟨.asgN is m.1, ss_asgN ht (.inl hs) hl.1 hl.2 m.2⟩
        | some (some ys) => if hy : ys = xs ∧ is.Nodup then (cEs F 60 es).map fun m => ⟨.asgN is m.1, ss_asgN ht (.inr ⟨by rw [hs, hy.1], hy.2⟩) hl.1 hl.2 m.2⟩ else none
        | none => none)
      else none
    | none => none
  | n + 1, .Assign [.Tuple ts k p] e pos => match ht : tgt? F ts with
    | some (xs, is) => if hc : compE e = false ∧ isTup e = false then (cE F 60 e).map fun m => ⟨.unp is m.1, ss_unp ht (isTup_ne hc.2) hc.1 m.2⟩ else none
    | none => none
  | n + 1, .Assign [.Subscript o i p] e pos => if hc : compE e = false then
      (match cE F 60 o, cE F 60 i, cE F 60 e with
      | some mo, some mi, some me => some ⟨.setI mo.1 mi.1 me.1, ss_setI hc me.2 mo.2 mi.2⟩
      | _, _, _ => none) else none
  | n + 1, .AugAssign (.Name x p) o e pos => match h : loc? F x, ho : opOf o with
    | some i, some b => if hb : (b == .add || b == .sub || b == .mul || b == .fdiv || b == .mod || b == .shr || b == .band) = true then
        (cE F 60 e).map fun m => ⟨.aug i b m.1, ss_aug ho (or7 hb) (loc?_spec h).1 (loc?_spec h).2.1 m.2⟩ else none
    | _, _ => none
  | n + 1, .If t a b pos => match cT F 60 t, cSB F n a, cSB F n b with
    | some mt, some ma, some mb => some ⟨.ite mt.1 ma.1 mb.1, ss_if mt.2 ma.2 mb.2⟩
    | _, _, _ => none
  | n + 1, .While t a b pos => match cT F 60 t, cSB F n a, cSB F n b with
    | some mt, some ma, some mb => some ⟨.whil mt.1 ma.1 mb.1, ss_while mt.2 ma.2 mb.2⟩
    | _, _, _ => none
  | n + 1, .Return (some e) pos => (cE F 60 e).map fun m => ⟨.ret m.1, ss_ret m.2⟩
  | n + 1, .Break pos => some ⟨.brk, ss_brk⟩
  | n + 1, .Expr e pos => if hc : compE e = false then (cE F 60 e).map fun m => ⟨.expr m.1, ss_expr hc m.2⟩ else none
  | n + 1, .For (.Name x p) (.Call (.Name r pr) [a] [] pc) b [] pos => if hr : r = "range" then
      (match h : loc? F x with
      | some i => if hb : bi? F r = true ∧ notStar a = true then (match cE F 60 a, cSB F n b with
          | some ma, some mb => some ⟨.forR i (.int 0) ma.1 (.int 1) mb.1, ss_forR1 hr (bi?_spec hb.1).1 (bi?_spec hb.1).2 hb.2 ma.2 (loc?_spec h).1 (loc?_spec h).2.1 mb.2⟩
          | _, _ => none) else none
      | none => none)
      else (match h : loc? F x with
      | some i => (match cE F 60 (.Call (.Name r pr) [a] [] pc), cSB F n b with
          | some ma, some mb => some ⟨.forL i ma.1 mb.1, ss_forL rfl ma.2 (loc?_spec h).1 (loc?_spec h).2.1 mb.2⟩
          | _, _ => none)
      | none => none)
  | n + 1, .For (.Name x p) (.Call (.Name r pr) [a, e] [] pc) b [] pos => if hr : r = "range" then
      (match h : loc? F x with
      | some i => if hb : bi? F r = true ∧ notStar a = true ∧ notStar e = true then (match cE F 60 a, cE F 60 e, cSB F n b with
          | some ma, some me, some mb => some ⟨.forR i ma.1 me.1 (.int 1) mb.1, ss_forR2 hr (bi?_spec hb.1).1 (bi?_spec hb.1).2 hb.2.1 ma.2 hb.2.2 me.2 (loc?_spec h).1 (loc?_spec h).2.1 mb.2⟩
          | _, _, _ => none) else none
      | none => none)
      else none
  | n + 1, .For (.Name x p) (.Call (.Name r pr) [a, e, f] [] pc) b [] pos => if hr : r = "range" then
      (match h : loc? F x with
      | some i => if hb : bi? F r = true ∧ notStar a = true ∧ notStar e = true ∧ notStar f = true then (match cE F 60 a, cE F 60 e, cE F 60 f, cSB F n b with
          | some ma, some me, some mf, some mb => some ⟨.forR i ma.1 me.1 mf.1 mb.1, ss_forR3 hr (bi?_spec hb.1).1 (bi?_spec hb.1).2 hb.2.1 ma.2 hb.2.2.1 me.2 hb.2.2.2 mf.2 (loc?_spec h).1 (loc?_spec h).2.1 mb.2⟩
          | _, _, _, _ => none) else none
      | none => none)
      else none
  | n + 1, .For (.Name x p) it b [] pos => if hs : setE it = false then
      (match h : loc? F x with
      | some i => (match cE F 60 it, cSB F n b with
          | some ma, some mb => some ⟨.forL i ma.1 mb.1, ss_forL hs ma.2 (loc?_spec h).1 (loc?_spec h).2.1 mb.2⟩
          | _, _ => none)
      | none => none)
      else none
  | n + 1, .For (.Tuple ts k p) it b [] pos => if hs : setE it = false then
      (match h : tgt? F ts with
      | some (xs, is) => (match cE F 60 it, cSB F n b with
          | some ma, some mb => some ⟨.forU is ma.1 mb.1, ss_forU hs ma.2 h mb.2⟩
          | _, _ => none)
      | none => none)
      else none
  | _ + 1, .Raise (some (.Call (.Name x np) [.Constant (.str t) k kp] [] cpos)) none pos => if h : x = "ValueError" ∧ bi? F x = true then some ⟨.raise "ValueError", ss_raise h.1 (bi?_spec h.2).1 (bi?_spec h.2).2⟩ else some ⟨.stop, ss_stop⟩
  | _ + 1, .Raise (some (.Call (.Name x np) [.BinOp (.Constant (.str t) k kp) .Mod (.Tuple es tk tp) bp] [] cpos)) none pos => if h : x = "ValueError" ∧ t = rootText ∧ bi? F x = true then (match cEs F 60 es with
      | some ms => some ⟨.raiseF "ValueError" ms.1, ss_raiseF h.1 h.2.1 (bi?_spec h.2.2).1 (bi?_spec h.2.2).2 ms.2⟩
      | none => some ⟨.stop, ss_stop⟩) else some ⟨.stop, ss_stop⟩
  | _ + 1, .Raise .. => some ⟨.stop, ss_stop⟩
  | n + 1, .Try [st] [.ExceptHandler (some (.Name x np)) none (b₀ :: suite) pos] [] [] p2 => if h : x = Str.ofString "ValueError" ∧ bi? F x = true ∧ F.top = true ∧ (F.sc.names.all fun y => !(y.2 == .cell)) = true then
      match cTS F st, cSH F (b₀ :: suite) with
      | some t, some mh => some ⟨.tryE t.t t.m "ValueError" mh.1, by
          obtain ⟨rfl, h2, h3, h4⟩ := h
          exact ss_tryE t.ts t.se h3 h4 (bi?_spec h2).1 (bi?_spec h2).2 mh.2⟩
      | _, _ => none
    else none
  | _ + 1, _ => none
termination_by structural n => n
noncomputable def cSB (F : Fx) : Nat → (b : List Stmt) → RB F b
  | 0, _ => none
  | n + 1, [] => some ⟨.skip, sb_nil⟩
  | n + 1, st :: r => match cS F n st, cSB F n r with
    | some m, some mr => some ⟨.seq m.1 mr.1, sb_cons m.2 mr.2⟩
    | _, _ => none
termination_by structural n => n
end
def namesOf (sc : Scope) : List Str := sc.names.filterMap fun (x, k) => if k == .local || k == .cell then some x else none
abbrev mkF (g : G) (gt : List (Str × Addr)) (bt : List Str) (f : Addr) (tr : Bool := false) : Fx := ⟨g, gt, bt, namesOf (fnAt g.K f).scope, (fnAt g.K f).scope, true, tr⟩
theorem sb_of {F : Fx} {b : List Stmt} {n : Nat} {ms : MS} (h : (cSB F n b).map (fun m => m.1) = some ms) : SB F b ms := by
  cases q : cSB F n b with
  | none => rw [q] at h; cases h
  | some m => rw [q] at h; simp only [Option.map_some, Option.some.injEq] at h; exact h ▸ m.2
def gtB (K : Frag) (gt : List (Str × Addr)) : Bool := gt.all fun p => (match nsIn K mainGlobals p.1 with | some (some (.ref a)) => a == p.2 | _ => false) && keepIn K (.ref p.2)
def btB (K : Frag) (bt : List Str) : Bool := bt.all fun x => (match nsIn K mainGlobals x with | some Option.none => true | _ => false)
theorem lookup_mem {x : Str} {a : Addr} : ∀ {l : List (Str × Addr)}, l.lookup x = some a → (x, a) ∈ l
  | [], h => by cases h
  | (y, b) :: r, h => by
    rw [List.lookup_cons] at h
    cases q : x == y with
    | true => rw [q] at h; cases h; rw [beq_iff_eq.mp q]; exact .head _
    | false => rw [q] at h; exact .tail _ (lookup_mem h)
theorem fok {g : G} {gt : List (Str × Addr)} {bt : List Str} {names : List Str} {sc : Scope} (h1 : gtB g.K gt = true) (h2 : btB g.K bt = true) (h3 : ndB names = true) {tr : Bool} (h4 : tr = true → catchOk g := by intro h; cases h) : Fx.Ok ⟨g, gt, bt, names, sc, true, tr⟩ where
  tr := h4
  gt := fun x a h => by
    have := List.all_eq_true.mp h1 _ (lookup_mem h)
    simp only [Bool.and_eq_true] at this
    refine ⟨?_, this.2⟩
    have h := this.1
    split at h
    · rename_i b e; rw [e, eq_of_beq h]
    · cases h
  bt := fun x h => by
    have := List.all_eq_true.mp h2 _ h
    split at this
    · assumption
    · cases this
  nd := ndB_nodup h3
/-- the two stores agree on all that the first held, but at the places of S -/
def Upto (S : List Addr) (hp hp' : HP) : Prop := ∀ b, b ∉ S → ∀ o, hp b = some o → hp' b = some o
theorem Upto.refl {S hp} : Upto S hp hp := fun _ _ _ h => h
theorem Upto.trans {S hp h1 h2} (a : Upto S hp h1) (b : Upto S h1 h2) : Upto S hp h2 := fun x hx o h => b x hx o (a x hx o h)
theorem Upto.new {S hp r o} (h : hp r = none) : Upto S hp (hset hp r o) := fun x _ o' e => by rw [hset_ne (fun q => by rw [q, h] at e; cases e)]; exact e
theorem Upto.set {S hp r o} (h : r ∈ S) : Upto S hp (hset hp r o) := fun x hx o' e => by rw [hset_ne (fun q => hx (by rw [q]; exact h))]; exact e
theorem Upto.mono {S T hp hp'} (a : Upto S hp hp') (h : ∀ x ∈ S, x ∈ T) : Upto T hp hp' := fun x hx o e => a x (fun q => hx (h x q)) o e
theorem Upto.at {S hp hp' a o} (u : Upto S hp hp') (h : hp a = some o) (hn : a ∉ S := by simp) : hp' a = some o := u a hn o h
theorem ne_of_none {hp : HP} {a b : Addr} {o : O} (h : hp a = none) (h' : hp b = some o) : b ≠ a := fun e => by rw [e, h] at h'; cases h'
theorem turnNil {g g' h : Heap} {L : Addr} {m : Str → Option Value} (T : KtsTurn [] g g') (F : Fr g' L h m) : Fr g L h m :=
  ⟨F.ns, fun b o e => F.keep b o (T.other b o e (by simp)), by rw [← T.size]; exact F.above⟩
/-- the end of a law: its body walked in its own frame -/
theorem law_end {F : Fx} (FO : F.Ok) {body : List Stmt} {ms : MS} (hb : SB F body ms) {c : Cx} (hg : c.g = F.g) (hsc : SCF c F) (ok : c.Ok) {d : Nat} (rm : room c d) {m : Str → Option Value} {s : Shared}
    (Fm : Fr c.h₀ c.L s.heap m) (hout : c.outer = []) {a : Addr} {vs : List Value} {ns : List Int} (hl : c.base.IsList a vs.toArray) (hi : IntsAre vs ns) {l : List V} (hcp : c.cp = none) (lo : Loc c.cl F.names l m)
    (hex : exec F.g d ms l (fun b => if b = a then some (.ro (ns.map .int)) else none) (fun o _ _ => o = .ret (.bool true)) noX)
    {Q : Flow → Shared → Prop} {E : Value → Shared → Prop} (hQ : ∀ h' tk' m', Fr c.h₀ c.L h' m' → Q (.ret (.bool true)) { s with heap := h', toks := tk' }) :
    wpAny (model c.g.prog c.g.w) c.A (execs body c.env) Q E s := by
  have hv := ints_abs hi
  refine hb c d FO hg hsc ok rm l _ _ noX hex hcp [] s _ _ ⟨c.h₀, KtsTurn.refl, m, Fm, (LocX.plain hcp).mpr lo, ⟨⟨[a], fun b o h => ?_⟩, fun b o h => ?_⟩, (fun _ h => nomatch h), (fun _ h => nomatch h)⟩ (fun o f l' hp' h' tk' ho hf R' => ?_) fun _ => noXP
  · by_cases q : b = a
    · simp [q]
    · simp [q] at h
  · by_cases q : b = a
    · simp only [q, if_true, Option.some.injEq] at h
      subst h; subst q
      exact ⟨vs.toArray, hl, by simpa using hv⟩
    · simp [q] at h
  · subst ho
    cases f <;> first | exact hf.elim | skip
    cases absV_bool hf
    obtain ⟨g, T, m', F', _⟩ := R'
    refine hQ h' tk' m' (turnNil (g' := g) ?_ F')
    have : c.fs = [] := by show c.outer.filterMap _ = []; rw [hout]; rfl
    rw [← this]; exact T
theorem law_end' {prog : Program} {w : World} {K : Frag} {p : Program} {loose : List Str} {mean : ExcName → Option Value} {mg mb : Str → Option Value} {gt : List (Str × Addr)} {bt : List Str} {f : Addr} {tr : Bool}
    (FO : Fx.Ok (mkF ⟨prog, w, K, p, loose, mean, mg, mb⟩ gt bt f tr)) {body : List Stmt} {ms : MS} (hb : SB (mkF ⟨prog, w, K, p, loose, mean, mg, mb⟩ gt bt f tr) body ms)
    {s₁ : Shared} {h₁ : Heap} {tk : Nat} {qn : Str} {sc : Scope} {fa : Addr} {cd : Value} {m : Str → Option Value} {a : Addr} {vs : List Value} {ns : List Int}
    (T : Top p loose mean mg mb s₁.heap) (KX : K.In s₁.heap) (K0 : Below callerA s₁.heap [] s₁.heap) (hF : Fr s₁.heap s₁.heap.objs.size h₁ m) (hl : s₁.heap.IsList a vs.toArray) (hi : IntsAre vs ns)
    (hsc : sc = (fnAt K f).scope) (hk : sc.kind = .function) (hg : sc.isGenerator = false) (hc : sc.isCoroutine = false) (him : importsNone p = true) (htree : prog.given.tree = none)
    {x : Str} (hm : m = fun y => List.lookup y [(x, Value.ref a)].reverse) (hnm : (namesOf (fnAt K f).scope).take 1 = [x])
    {k : Nat} (hn : (namesOf (fnAt K f).scope).length - 1 = k)
    (hex : ∀ b, exec ⟨prog, w, K, p, loose, mean, mg, mb⟩ 40 ms (V.ref b :: List.replicate k V.unb) (fun c => if c = b then some (.ro (ns.map .int)) else none) (fun o _ _ => o = .ret (.bool true)) noX)
    {Q : Flow → Shared → Prop} {E : Value → Shared → Prop} (hQ : ∀ h' tk' m', Fr s₁.heap s₁.heap.objs.size h' m' → Q (.ret (.bool true)) { s₁ with heap := h', toks := tk' }) :
    wpAny (model prog w) (callerA.deeper (envOf qn sc s₁.heap.objs.size fa cd)) (execs body (envOf qn sc s₁.heap.objs.size fa cd)) Q E { s₁ with heap := h₁, toks := tk } := by
  subst hsc
  subst hn
  let c : Cx := { g := ⟨prog, w, K, p, loose, mean, mg, mb⟩, A₀ := callerA, base := s₁.heap, h₀ := s₁.heap, outer := [], L := s₁.heap.objs.size, qn := qn, fsc := (fnAt K f).scope, fa := fa, cd := cd, cl := [], cp := none }
  have ok : c.Ok := ⟨K0, KX, T, ktsDicts_nil, hk, hk, hg, hc, rfl, T.seer him, htree⟩
  refine law_end (c := c) FO hb rfl ⟨rfl, fun _ => rfl, fun _ _ => rfl⟩ ok (d := 40) ⟨(by show callerA.depth + 1 + 40 + 200 < recursionLimit; decide), (by show callerA.units + 3 + 8 * 40 + 200 < cLine; decide)⟩ hF rfl hl hi (l := V.ref a :: List.replicate ((namesOf (fnAt K f).scope).length - 1) V.unb) rfl ?_ (hex a) (fun h' tk' m' F' => hQ h' tk' m' F')
  rw [hm]
  exact Loc.start (binds := [(x, Value.ref a)]) FO.nd (by simpa using hnm) rfl
/-- the pool of a law: at p the cell x, the seed y and the list r of the numbers left -/
def Pool (hp : HP) (p r : Addr) : Prop :=
  ∃ (x y : Int) (ns : List Int), hp p = some (.list [.int x, .int y, .ref r]) ∧ hp r = some (.list (ns.map .int)) ∧ p ≠ r ∧ 0 ≤ x ∧ 0 ≤ y ∧ ns.length < 1000
theorem Pool.up {S hp hp' p r} (P : Pool hp p r) (u : Upto S hp hp') (h1 : p ∉ S := by simp) (h2 : r ∉ S := by simp) : Pool hp' p r := by
  obtain ⟨x, y, ns, a, b, c⟩ := P
  exact ⟨x, y, ns, u.at a h1, u.at b h2, c⟩
def drawTail : MS := (.seq (.ite (.cmp .gt (.idx (.var 0) (.int 0)) (.int 0))
      (.seq (.asg 4 (.bin .mod (.toInt (.idx (.var 0) (.int 0))) (.var 1)))
        (.seq (.setI (.var 0) (.int 0) (.bin .fdiv (.idx (.var 0) (.int 0)) (.var 1))) (.seq (.ret (.var 4)) .skip))) .skip)
    (.seq (.setI (.var 0) (.int 1) (.bin .mod (.toInt (.bin .add (.bin .mul (.idx (.var 0) (.int 1)) (.int 48271)) (.int 11))) (.int 2147483647)))
      (.seq (.ret (.bin .mod (.bin .fdiv (.bin .mod (.toInt (.bin .mul (.idx (.var 0) (.int 1)) (.idx (.var 0) (.int 1)))) (.int 2147483629)) (.int 32)) (.var 1))) .skip)))
def drawMS : MS := .seq (.ite (.and (.cmp .eq (.idx (.var 0) (.int 0)) (.int 0)) (.cmp .ne (.idx (.var 0) (.int 2)) (.list .nil)))
    (.seq (.asg 2 (.toInt (.pop0 (.idx (.var 0) (.int 2)))))
      (.seq (.asg 3 (.ite (.cmp .ge (.var 2) (.int 0)) (.bin .mul (.int 2) (.var 2)) (.bin .sub (.neg (.int 1)) (.bin .mul (.int 2) (.var 2)))))
        (.seq (.setI (.var 0) (.int 0) (.ite (.cmp .ge (.var 3) (.bin .pow (.int 10) (.int 18))) (.var 3) (.int 0)))
          (.seq (.setI (.var 0) (.int 1) (.bin .add (.bin .mod (.toInt (.bin .add (.idx (.var 0) (.int 1)) (.bin .mul (.var 3) (.int 69621)))) (.int 2147483629)) (.int 3))) .skip)))) .skip)
  drawTail
theorem mul_small_left {a b : Int} (h : a.natAbs < 2 ^ 64) : IntMulOk a b := IntMulOk.of_left (PySem.intBits_le_64 (by omega) (by omega))
theorem mul_small_right {a b : Int} (h : b.natAbs < 2 ^ 64) : IntMulOk a b := IntMulOk.of_right (PySem.intBits_le_64 (by omega) (by omega))
theorem rdL_ints {hp : HP} : ∀ (ns : List Int), RdL hp (ns.map .int) (ns.map .int)
  | [] => .nil
  | n :: r => .cons (.int n) (rdL_ints r)
theorem Upto.at' {S hp a o q x} (_u : Upto S hp (hset hp q x)) (h : hp a = some o) (hn : a ≠ q) : hset hp q x a = some o := by rw [hset_ne hn]; exact h
theorem idxE {v w : V} {hp : HP} {Q : V → Prop} {a : Addr} {k : Int} {vs : List V} {x : V} (hv : v = .ref a) (hw : w = .int k) (e : itemsOf (hp a) = some vs) (hfit : vs.length < 2 ^ 62) (h0 : 0 ≤ k) (hx : vs[k.toNat]? = some x) (h : Q x) : idxV v w hp Q := by
  subst hv; subst hw
  have hl : k.toNat < vs.length := by
    rcases Nat.lt_or_ge k.toNat vs.length with q | q
    · exact q
    · rw [List.getElem?_eq_none q] at hx; cases hx
  refine ⟨vs, x, e, by omega, by omega, by omega, ?_, h⟩
  rw [if_neg (by omega)]; exact hx
theorem idx3 {hp : HP} {Q : V → Prop} {a : Addr} {k : Nat} {x y z u : V} (e : hp a = some (.list [x, y, z])) (hx : [x, y, z][k]? = some u) (h : Q u) : idxV (.ref a) (.int (k : Nat)) hp Q :=
  idxE rfl rfl (by rw [e]; rfl) (by simp) (by omega) (by simpa using hx) h
theorem setE' {hp : HP} {Q : HP → Prop} {a : Addr} {k : Nat} {x : V} {vs : List V} (e : hp a = some (.list vs)) (hk : k < vs.length) (hfit : vs.length < 2 ^ 62) (h : Q (hset hp a (.list (vs.set k x)))) : setV (.ref a) (.int (k : Nat)) x hp Q :=
  ⟨vs, e, by omega, by omega, by omega, by simpa using h⟩
theorem draw_exec {g : G} {d : Nat} {hp : HP} {p r : Addr} {many : Int} (P : Pool hp p r) (hm : 0 < many) {Q : V → HP → Prop} {X : XT}
    (h : ∀ v hp', 0 ≤ v → v < many → Pool hp' p r → Upto [p, r] hp hp' → Q (.int v) hp') :
    exec g d drawMS [.ref p, .int many, .unb, .unb, .unb] hp (retQ Q) X := by
  obtain ⟨x, y, ns, hp0, hr0, hne, hx, hy, hlen⟩ := P
  -- what stands behind the first if
  have tail : ∀ (x y : Int) (ns : List Int) (h1 : HP) (a b : V), h1 p = some (.list [.int x, .int y, .ref r]) → h1 r = some (.list (ns.map .int)) → 0 ≤ x → 0 ≤ y → ns.length < 1000 → Upto [p, r] hp h1 →
      exec g d drawTail [.ref p, .int many, a, b, .unb] h1 (retQ Q) X := by
    intro x y ns h1 a b e1 e2 hx hy hl u
    have m0 : many ≠ 0 := by omega
    refine idx3 (k := 0) e1 rfl ⟨fun ht => ?_, fun ht => ?_⟩
    · refine idx3 (k := 0) e1 rfl ⟨m0, ?_⟩
      refine idx3 (k := 0) e1 rfl ⟨m0, ?_⟩
      refine setE' (k := 0) e1 (by simp) (by simp) ?_
      have hx0 : 0 < x := by simpa [cmpI] using ht
      refine h _ _ ?_ ?_ ⟨x.fdiv many, y, ns, hset_same, ?_, hne, ?_, hy, hl⟩ (u.trans (Upto.set (by simp)))
      · show 0 ≤ x.fmod many; rw [Int.fmod_eq_emod_of_nonneg x (by omega)]; exact Int.emod_nonneg _ m0
      · show x.fmod many < many; rw [Int.fmod_eq_emod_of_nonneg x (by omega)]; exact Int.emod_lt_of_pos _ hm
      · rw [hset_ne (Ne.symm hne)]; exact e2
      · rw [Int.fdiv_eq_ediv_of_nonneg x (by omega)]; exact Int.ediv_nonneg (by omega) (by omega)
    · refine idx3 (k := 1) e1 rfl ⟨mul_small_right (by decide), ?_⟩
      refine ⟨trivial, ?_⟩
      refine ⟨(show (2147483647 : Int) ≠ 0 by decide), ?_⟩
      refine setE' (k := 1) e1 (by simp) (by simp) ?_
      have e3 := @hset_same h1 p (.list ([V.int x, V.int y, V.ref r].set 1 (.int ((y * 48271 + 11).fmod 2147483647))))
      have hy2 : 0 ≤ (y * 48271 + 11).fmod 2147483647 ∧ (y * 48271 + 11).fmod 2147483647 < 2147483647 := by
        rw [Int.fmod_eq_emod_of_nonneg _ (by omega)]; omega
      refine idx3 (k := 1) e3 rfl ?_
      refine idx3 (k := 1) e3 rfl ⟨mul_small_right (by omega), ?_⟩
      refine ⟨(show (2147483629 : Int) ≠ 0 by decide), ?_⟩
      refine ⟨(show (32 : Int) ≠ 0 by decide), m0, ?_⟩
      refine h _ _ ?_ ?_ ⟨x, _, ns, e3, ?_, hne, hx, hy2.1, hl⟩ (u.trans (Upto.set (by simp)))
      · show 0 ≤ Int.fmod _ many; rw [Int.fmod_eq_emod_of_nonneg _ (by omega)]; exact Int.emod_nonneg _ m0
      · show Int.fmod _ many < many; rw [Int.fmod_eq_emod_of_nonneg _ (by omega)]; exact Int.emod_lt_of_pos _ hm
      · rw [hset_ne (Ne.symm hne)]; exact e2
  refine idx3 (k := 0) hp0 rfl ⟨fun ht => ?_, fun ht => ⟨fun q => by simp at q, fun _ => tail x y ns hp _ _ hp0 hr0 hx hy hlen .refl⟩⟩
  refine idx3 (k := 2) hp0 rfl ⟨by decide, fun q hq => ?_⟩
  have hq1 := ne_of_none hq hp0
  have hq2 := ne_of_none hq hr0
  refine ⟨.list (ns.map .int), .list [], .list (by rw [hset_ne hq2]; exact hr0) (rdL_ints _), .list hset_same .nil, shaped_ints ns, by decide, fun he => ?_, fun he => ?_⟩
  · cases ns with
    | nil => simp [PyData.eqv, PyData.eqvAll] at he
    | cons n ns' =>
      have u0 : Upto [p, r] hp (hset hp q (.list [])) := .new hq
      refine idx3 (k := 2) (u0.at' hp0 hq1) rfl ?_
      refine ⟨.int n, ns'.map .int, by rw [hset_ne hq2]; exact hr0, by simp at hlen ⊢; rw [sizeLine_eq]; omega, ?_⟩
      have aft : ∀ (sz x1 : Int) (h2 : HP), h2 p = some (.list [.int x1, .int y, .ref r]) → h2 r = some (.list (ns'.map .int)) → 0 ≤ sz → 0 ≤ x1 → Upto [p, r] hp h2 →
          exec g d (.seq (.setI (.var 0) (.int 1) (.bin .add (.bin .mod (.toInt (.bin .add (.idx (.var 0) (.int 1)) (.bin .mul (.var 3) (.int 69621)))) (.int 2147483629)) (.int 3))) .skip) [.ref p, .int many, .int n, .int sz, .unb] h2
            (fun o l1 h1 => match o with | .next => exec g d drawTail l1 h1 (retQ Q) X | .brk => retQ Q .brk l1 h1 | .ret v => retQ Q (.ret v) l1 h1) X := by
        intro sz x1 h2 e1 e2 h0 h3 u
        refine idx3 (k := 1) e1 rfl ⟨mul_small_right (by decide), ?_⟩
        refine ⟨trivial, (show (2147483629 : Int) ≠ 0 by decide), trivial, ?_⟩
        refine setE' (k := 1) e1 (by simp) (by simp) ?_
        refine tail x1 _ ns' _ _ _ hset_same ?_ h3 ?_ ?_ (u.trans (Upto.set (by simp)))
        · rw [hset_ne (Ne.symm hne)]; exact e2
        · show 0 ≤ Int.fmod _ 2147483629 + 3; rw [Int.fmod_eq_emod_of_nonneg _ (by omega)]; omega
        · simp at hlen ⊢; omega
      have u1 : Upto [p, r] hp (hset (hset hp q (.list [])) r (.list (ns'.map .int))) := u0.trans (Upto.set (by simp))
      have e1 : hset (hset hp q (.list [])) r (.list (ns'.map .int)) p = some (.list [.int x, .int y, .ref r]) := by rw [hset_ne hne, hset_ne hq1]; exact hp0
      have e2 : hset (hset hp q (.list [])) r (.list (ns'.map .int)) r = some (.list (ns'.map .int)) := hset_same
      have sz2 : ∀ sz : Int, 0 ≤ sz → exec g d (.seq (.setI (.var 0) (.int 0) (.ite (.cmp .ge (.var 3) (.bin .pow (.int 10) (.int 18))) (.var 3) (.int 0)))
          (.seq (.setI (.var 0) (.int 1) (.bin .add (.bin .mod (.toInt (.bin .add (.idx (.var 0) (.int 1)) (.bin .mul (.var 3) (.int 69621)))) (.int 2147483629)) (.int 3))) .skip)) [.ref p, .int many, .int n, .int sz, .unb] (hset (hset hp q (.list [])) r (.list (ns'.map .int)))
            (fun o l1 h1 => match o with | .next => exec g d drawTail l1 h1 (retQ Q) X | .brk => retQ Q .brk l1 h1 | .ret v => retQ Q (.ret v) l1 h1) X := by
        intro sz hsz
        refine ⟨⟨by decide, by decide⟩, fun _ => ?_, fun _ => ?_⟩
        · refine setE' (k := 0) e1 (by simp) (by simp) ?_
          exact aft sz sz _ hset_same (by rw [hset_ne (Ne.symm hne)]; exact e2) hsz hsz (u1.trans (Upto.set (by simp)))
        · refine setE' (k := 0) e1 (by simp) (by simp) ?_
          exact aft sz 0 _ hset_same (by rw [hset_ne (Ne.symm hne)]; exact e2) hsz (by decide) (u1.trans (Upto.set (by simp)))
      refine ⟨fun hc => ⟨mul_small_left (by decide), ?_⟩, fun hc => ⟨mul_small_left (by decide), trivial, ?_⟩⟩
      · have : 0 ≤ n := by simpa [cmpI] using hc
        exact sz2 (2 * n) (by omega)
      · have : n < 0 := by simpa [cmpI] using hc
        exact sz2 (-1 - 2 * n) (by omega)
  · exact tail x y ns _ _ _ (by rw [hset_ne hq1]; exact hp0) (by rw [hset_ne hq2]; exact hr0) hx hy hlen (.new hq)
def poolMS : MS := .seq (.asg 1 (.ite (.cmp .gt (.len (.var 0)) (.int 0)) (.toInt (.idx (.var 0) (.int 0))) (.int 0)))
  (.seq (.asg 2 (.ite (.cmp .ge (.var 1) (.int 0)) (.bin .mul (.int 2) (.var 1)) (.bin .sub (.neg (.int 1)) (.bin .mul (.int 2) (.var 1)))))
    (.seq (.ret (.list (.cons (.ite (.cmp .ge (.var 2) (.bin .pow (.int 10) (.int 18))) (.var 2) (.int 0))
      (.cons (.bin .add (.bin .mod (.toInt (.bin .add (.bin .mul (.var 2) (.int 48271)) (.int 1009))) (.int 2147483629)) (.int 3))
        (.cons (.listOf (.slcF (.var 0) (.int 1))) .nil))))) .skip))
theorem pool_exec {g : G} {d : Nat} {hp : HP} {a : Addr} {ns : List Int} (ha : hp a = some (.ro (ns.map .int))) (hl : ns.length ≤ 63) {Q : V → HP → Prop} {X : XT}
    (h : ∀ p r hp', Pool hp' p r → Upto [] hp hp' → Q (.ref p) hp') :
    exec g d poolMS [.ref a, .unb, .unb] hp (retQ Q) X := by
  have hlen : (ns.map V.int).length = ns.length := by simp
  have last : ∀ f sz : Int, 0 ≤ sz → exec g d (.seq (.ret (.list (.cons (.ite (.cmp .ge (.var 2) (.bin .pow (.int 10) (.int 18))) (.var 2) (.int 0))
      (.cons (.bin .add (.bin .mod (.toInt (.bin .add (.bin .mul (.var 2) (.int 48271)) (.int 1009))) (.int 2147483629)) (.int 3))
        (.cons (.listOf (.slcF (.var 0) (.int 1))) .nil))))) .skip) [.ref a, .int f, .int sz] hp (retQ Q) X := by
    intro f sz hsz
    have fin : ∀ x : Int, 0 ≤ x → evs g d (.cons (.bin .add (.bin .mod (.toInt (.bin .add (.bin .mul (.var 2) (.int 48271)) (.int 1009))) (.int 2147483629)) (.int 3))
        (.cons (.listOf (.slcF (.var 0) (.int 1))) .nil)) [.ref a, .int f, .int sz] hp (fun vs h1 => (V.int x :: vs).length ≤ sizeLine ∧ ∀ r, h1 r = Option.none → (fun v h1 => retQ Q (.ret v) [.ref a, .int f, .int sz] h1) (.ref r) (hset h1 r (.list (V.int x :: vs)))) X := by
      intro x hx
      refine ⟨mul_small_right (by decide), trivial, (show (2147483629 : Int) ≠ 0 by decide), trivial, ?_⟩
      refine ⟨ns.map .int, by rw [ha]; rfl, by rw [hlen, sizeLine_eq]; omega, by decide, fun q hq => ?_⟩
      refine ⟨_, by rw [hset_same]; rfl, by simp; rw [sizeLine_eq]; omega, fun r hr => ?_⟩
      refine ⟨by simp; rw [sizeLine_eq]; omega, fun p hp' => ?_⟩
      have e1 := hset_none.mp hr
      have e2 := hset_none.mp hp'
      have e3 := hset_none.mp e2.2
      refine h p r _ ⟨x, _, ns.drop 1, hset_same, ?_, e2.1, hx, ?_, ?_⟩ (((Upto.new hq).trans (Upto.new hr)).trans (Upto.new hp'))
      · rw [hset_ne (Ne.symm e2.1), hset_same]; simp
      · show 0 ≤ Int.fmod _ 2147483629 + 3; rw [Int.fmod_eq_emod_of_nonneg _ (by omega)]; omega
      · simp; omega
    refine ⟨⟨by decide, by decide⟩, fun _ => ?_, fun _ => ?_⟩
    · exact fin sz hsz
    · exact fin 0 (by decide)
  have mid : ∀ f : Int, exec g d (.seq (.asg 2 (.ite (.cmp .ge (.var 1) (.int 0)) (.bin .mul (.int 2) (.var 1)) (.bin .sub (.neg (.int 1)) (.bin .mul (.int 2) (.var 1)))))
    (.seq (.ret (.list (.cons (.ite (.cmp .ge (.var 2) (.bin .pow (.int 10) (.int 18))) (.var 2) (.int 0))
      (.cons (.bin .add (.bin .mod (.toInt (.bin .add (.bin .mul (.var 2) (.int 48271)) (.int 1009))) (.int 2147483629)) (.int 3))
        (.cons (.listOf (.slcF (.var 0) (.int 1))) .nil))))) .skip)) [.ref a, .int f, .unb] hp (retQ Q) X := by
    intro f
    refine ⟨fun hc => ⟨mul_small_left (by decide), ?_⟩, fun hc => ⟨mul_small_left (by decide), trivial, ?_⟩⟩
    · have : 0 ≤ f := by simpa [cmpI] using hc
      exact last f (2 * f) (by omega)
    · have : f < 0 := by simpa [cmpI] using hc
      exact last f (-1 - 2 * f) (by omega)
  refine ⟨_, by rw [ha]; rfl, by rw [hlen]; omega, fun hc => ?_, fun hc => mid 0⟩
  cases ns with
  | nil => simp [cmpI] at hc
  | cons n ns' =>
    exact idxE rfl rfl (x := .int n) (by rw [ha]; rfl) (by simp at hl ⊢; omega) (by decide) (by simp) (mid n)
theorem kvals1 {kvals : List (Str × Value)} {k : Str} {a : V} (h : (kvals.map fun p => (p.1, absV p.2)) = [(k, a)]) : ∃ v, kvals = [(k, v)] ∧ absV v = a := by
  cases kvals with
  | nil => cases h
  | cons p r =>
    simp only [List.map_cons, List.cons.injEq, List.map_eq_nil_iff, Prod.mk.injEq] at h
    obtain ⟨⟨h1, h2⟩, rfl⟩ := h
    exact ⟨p.2, by rw [← h1], h2⟩
theorem valsS {vals : List Value} {a0 : V} {r : List V} (h : vals.map absV = a0 :: r) : ∃ v0 vs, vals = v0 :: vs ∧ absV v0 = a0 ∧ vs.map absV = r := by
  cases vals with
  | nil => cases h
  | cons v vs => rw [List.map_cons] at h; exact ⟨v, vs, rfl, List.head_eq_of_cons_eq h, List.tail_eq_of_cons_eq h⟩
theorem vals0 {vals : List Value} (h : vals.map absV = []) : vals = [] := List.map_eq_nil_iff.mp h
theorem vals1 {vals : List Value} {a0 : V} (h : vals.map absV = [a0]) : ∃ v0, vals = [v0] ∧ absV v0 = a0 := by
  obtain ⟨v0, vs, rfl, h0, h⟩ := valsS h
  exact ⟨v0, by rw [vals0 h], h0⟩
theorem vals2 {vals : List Value} {a0 a1 : V} (h : vals.map absV = [a0, a1]) : ∃ v0 v1, vals = [v0, v1] ∧ absV v0 = a0 ∧ absV v1 = a1 := by
  obtain ⟨v0, vs, rfl, h0, h⟩ := valsS h
  obtain ⟨v1, rfl, h1⟩ := vals1 h
  exact ⟨v0, v1, rfl, h0, h1⟩
theorem vals3 {vals : List Value} {a0 a1 a2 : V} (h : vals.map absV = [a0, a1, a2]) : ∃ v0 v1 v2, vals = [v0, v1, v2] ∧ absV v0 = a0 ∧ absV v1 = a1 ∧ absV v2 = a2 := by
  obtain ⟨v0, vs, rfl, h0, h⟩ := valsS h
  obtain ⟨v1, v2, rfl, h1⟩ := vals2 h
  exact ⟨v0, v1, v2, rfl, h0, h1⟩
theorem vals4 {vals : List Value} {a0 a1 a2 a3 : V} (h : vals.map absV = [a0, a1, a2, a3]) : ∃ v0 v1 v2 v3, vals = [v0, v1, v2, v3] ∧ absV v0 = a0 ∧ absV v1 = a1 ∧ absV v2 = a2 ∧ absV v3 = a3 := by
  obtain ⟨v0, vs, rfl, h0, h⟩ := valsS h
  obtain ⟨v1, v2, v3, rfl, h1⟩ := vals3 h
  exact ⟨v0, v1, v2, v3, rfl, h0, h1⟩
theorem vals5 {vals : List Value} {a0 a1 a2 a3 a4 : V} (h : vals.map absV = [a0, a1, a2, a3, a4]) : ∃ v0 v1 v2 v3 v4, vals = [v0, v1, v2, v3, v4] ∧ absV v0 = a0 ∧ absV v1 = a1 ∧ absV v2 = a2 ∧ absV v3 = a3 ∧ absV v4 = a4 := by
  obtain ⟨v0, vs, rfl, h0, h⟩ := valsS h
  obtain ⟨v1, v2, v3, v4, rfl, h1⟩ := vals4 h
  exact ⟨v0, v1, v2, v3, v4, rfl, h0, h1⟩
/-! plain facts -/
def Bd (k : Nat) (x : Int) : Prop := x.natAbs < 2 ^ k
theorem Bd.mono {k j : Nat} {x : Int} (h : Bd k x) (hj : k ≤ j) : Bd j x := Nat.lt_of_lt_of_le h (Nat.pow_le_pow_right (by omega) hj)
theorem Bd.mul {k j : Nat} {x y : Int} (h : Bd k x) (h' : Bd j y) : Bd (k + j) (x * y) := by
  unfold Bd at *
  rw [Int.natAbs_mul, Nat.pow_add]
  exact Nat.mul_lt_mul'' h h'
theorem Bd.neg {k : Nat} {x : Int} (h : Bd k x) : Bd k (-x) := by unfold Bd at *; rw [Int.natAbs_neg]; exact h
theorem Bd.add {k : Nat} {x y : Int} (h : Bd k x) (h' : Bd k y) : Bd (k + 1) (x + y) := by
  unfold Bd at *
  have := Int.natAbs_add_le x y
  rw [Nat.pow_succ]; omega
theorem Bd.sub {k : Nat} {x y : Int} (h : Bd k x) (h' : Bd k y) : Bd (k + 1) (x - y) := by
  rw [Int.sub_eq_add_neg]; exact h.add h'.neg
theorem Bd.le {k : Nat} {x y : Int} (h : Bd k y) (hx : x.natAbs ≤ y.natAbs) : Bd k x := Nat.lt_of_le_of_lt hx h
theorem Bd.of_lt {k : Nat} {x : Int} (h0 : 0 ≤ x) (h : x < 2 ^ k) : Bd k x := by
  unfold Bd
  have : ((x.natAbs : Nat) : Int) < ((2 ^ k : Nat) : Int) := by rw [Int.natAbs_of_nonneg h0]; push_cast; exact h
  exact Int.ofNat_lt.mp this
theorem Bd.bits {k : Nat} {x : Int} (h : Bd k x) : Builtin.Int.intBits x ≤ k := by
  unfold Builtin.Int.intBits
  split
  · omega
  · rename_i hx
    have h0 : x.natAbs ≠ 0 := by simpa using hx
    have := (Nat.log2_lt h0).mpr h
    omega
theorem mulOk_bits {a b : Int} (h : Builtin.Int.intBits a + Builtin.Int.intBits b ≤ 2 ^ 27) : IntMulOk a b := by
  unfold IntMulOk Builtin.Int.intTooBig bitsLine
  simp only [Bool.and_eq_true, decide_eq_true_eq, not_and]
  intro _ h'
  omega
theorem Bd.mulOk {k j : Nat} {a b : Int} (h : Bd k a) (h' : Bd j b) (hk : k + j ≤ 2 ^ 27 := by decide) : IntMulOk a b :=
  mulOk_bits (Nat.le_trans (Nat.add_le_add h.bits h'.bits) hk)
theorem fmod_zero_iff {a b : Int} : a.fmod b = 0 ↔ b ∣ a := ⟨Int.dvd_of_fmod_eq_zero, Int.fmod_eq_zero_of_dvd⟩
theorem isTrueNe {a : Int} : ((a != 0) = true) ↔ a ≠ 0 := by simp
/-! loops -/
theorem forUp {turn : List V → HP → (Out → List V → HP → Prop) → Prop} {i : Nat} {lo hi : Int} {l : List V} {hp : HP} {Q : Out → List V → HP → Prop} (n : Nat) (hn : n = (hi - lo).toNat) (I : Nat → List V → HP → Prop)
    (h0 : I 0 l hp) (step : ∀ k l h, k < n → I k l h → turn (lset l i (.int (lo + k))) h (fun o l2 h2 => match o with | .next => I (k + 1) l2 h2 | .brk => Q .next l2 h2 | .ret v => Q (.ret v) l2 h2))
    (fin : ∀ l h, I n l h → Q .next l h) :
    forIn turn i ((List.range (Builtin.Range.rangeSize lo hi 1).toNat).map fun (k : Nat) => V.int (lo + k * 1)) l hp (fun _ => True) Q := by
  have hsz : (Builtin.Range.rangeSize lo hi 1).toNat = n := by rw [rangeSize_one]; split <;> omega
  rw [hsz]
  refine ⟨I, h0, fun k x l h hx hI => ?_, fun l h hI => ⟨trivial, fin l h (by simpa using hI)⟩⟩
  have hk : k < n := by
    rcases Nat.lt_or_ge k n with q | q
    · exact q
    · rw [List.getElem?_eq_none (by simpa using q)] at hx; cases hx
  simp only [List.getElem?_map, List.getElem?_range hk, Option.map_some, Option.some.injEq, Int.mul_one] at hx
  subst hx
  exact ⟨trivial, step k l h hk hI⟩
/-- a while by an invariant and a measure -/
theorem whileUp {test : List V → HP → (Bool → HP → Prop) → Prop} {turn els : List V → HP → (Out → List V → HP → Prop) → Prop} {l : List V} {hp : HP} {Q : Out → List V → HP → Prop} (I : Nat → List V → HP → Prop) (n : Nat) (h0 : I n l hp)
    (step : ∀ n l h, I n l h → test l h (fun t h1 =>
    (t = true → turn l h1 (fun o l2 h2 => match o with
      | .next => ∃ m, m < n ∧ I m l2 h2 | .brk => Q .next l2 h2 | .ret v => Q (.ret v) l2 h2)) ∧
    (t = false → els l h1 Q))) : whileI test turn els l hp Q := ⟨I, ⟨n, h0⟩, step⟩
/-! data -/
theorem shaped_tup (ns : List Int) : SeqAt.shaped (.tuple (ns.map PyData.int)) = true := by
  have h1 := W.depthAll_ints ns
  have h2 : PyData.depth (.tuple (ns.map PyData.int)) ≤ 64 := by simp only [PyData.depth]; omega
  show (PyData.canLay0 (.tuple (ns.map PyData.int)) && decide (PyData.depth (.tuple (ns.map PyData.int)) ≤ 64)) = true
  rw [Bool.and_eq_true]
  exact ⟨by simp only [PyData.canLay0]; exact W.canLayAll0_ints ns, decide_eq_true h2⟩
theorem cmpT {o : COp} {a b : Addr} {hp : HP} {ns ms : List Int} {Q : Bool → Prop} (ho : o = .eq ∨ o = .ne) (ha : hp a = some (.tup (ns.map .int))) (hb : hp b = some (.tup (ms.map .int)))
    (h : Q (if o = .eq then decide (ns = ms) else !decide (ns = ms))) : cmpV o (.ref a) (.ref b) hp Q := by
  rcases ho with rfl | rfl
  · exact ⟨_, _, .tup ha (rdL_ints ns), .tup hb (rdL_ints ms), shaped_tup ns, shaped_tup ms, by rw [if_pos rfl] at h; simpa only [PyData.eqv, ked_eqvAll] using h⟩
  · exact ⟨_, _, .tup ha (rdL_ints ns), .tup hb (rdL_ints ms), shaped_tup ns, shaped_tup ms, by rw [if_neg (by decide)] at h; simpa only [PyData.eqv, ked_eqvAll] using h⟩
theorem cmpL {o : COp} {a b : Addr} {hp : HP} {ns ms : List Int} {Q : Bool → Prop} (ho : o = .eq ∨ o = .ne) (ha : hp a = some (.list (ns.map .int))) (hb : hp b = some (.list (ms.map .int)))
    (h : Q (if o = .eq then decide (ns = ms) else !decide (ns = ms))) : cmpV o (.ref a) (.ref b) hp Q := by
  rcases ho with rfl | rfl
  · exact ⟨_, _, .list ha (rdL_ints ns), .list hb (rdL_ints ms), shaped_ints ns, shaped_ints ms, by rw [if_pos rfl] at h; simpa only [PyData.eqv, ked_eqvAll] using h⟩
  · exact ⟨_, _, .list ha (rdL_ints ns), .list hb (rdL_ints ms), shaped_ints ns, shaped_ints ms, by rw [if_neg (by decide)] at h; simpa only [PyData.eqv, ked_eqvAll] using h⟩
/-- two tuples of ints that are the same -/
theorem cmpT_ne {a b : Addr} {hp : HP} {ns ms : List Int} {Q : Bool → Prop} (ha : hp a = some (.tup (ns.map .int))) (hb : hp b = some (.tup (ms.map .int))) (e : ns = ms) (h : Q false) : cmpV .ne (.ref a) (.ref b) hp Q :=
  cmpT (.inr rfl) ha hb (by simpa [e] using h)
theorem cmpT_eq {a b : Addr} {hp : HP} {ns ms : List Int} {Q : Bool → Prop} (ha : hp a = some (.tup (ns.map .int))) (hb : hp b = some (.tup (ms.map .int))) (e : ns = ms) (h : Q true) : cmpV .eq (.ref a) (.ref b) hp Q :=
  cmpT (.inl rfl) ha hb (by simpa [e] using h)
theorem cmpL_ne {a b : Addr} {hp : HP} {ns ms : List Int} {Q : Bool → Prop} (ha : hp a = some (.list (ns.map .int))) (hb : hp b = some (.list (ms.map .int))) (e : ns = ms) (h : Q false) : cmpV .ne (.ref a) (.ref b) hp Q :=
  cmpL (.inr rfl) ha hb (by simpa [e] using h)
theorem cmpL_eq {a b : Addr} {hp : HP} {ns ms : List Int} {Q : Bool → Prop} (ha : hp a = some (.list (ns.map .int))) (hb : hp b = some (.list (ms.map .int))) (e : ns = ms) (h : Q true) : cmpV .eq (.ref a) (.ref b) hp Q :=
  cmpL (.inl rfl) ha hb (by simpa [e] using h)
/-! what a comparison says -/
theorem ceq_t {a b : Int} : cmpI a b .eq = true ↔ a = b := by simp [cmpI]
theorem ceq_f {a b : Int} : cmpI a b .eq = false ↔ a ≠ b := by simp [cmpI]
theorem cne_t {a b : Int} : cmpI a b .ne = true ↔ a ≠ b := by simp [cmpI]
theorem cne_f {a b : Int} : cmpI a b .ne = false ↔ a = b := by simp [cmpI]
theorem clt_t {a b : Int} : cmpI a b .lt = true ↔ a < b := by simp [cmpI]
theorem clt_f {a b : Int} : cmpI a b .lt = false ↔ b ≤ a := by simp [cmpI]
theorem cle_t {a b : Int} : cmpI a b .le = true ↔ a ≤ b := by simp [cmpI]
theorem cle_f {a b : Int} : cmpI a b .le = false ↔ b < a := by simp [cmpI]
theorem cgt_t {a b : Int} : cmpI a b .gt = true ↔ b < a := by simp [cmpI]
theorem cgt_f {a b : Int} : cmpI a b .gt = false ↔ a ≤ b := by simp [cmpI]
theorem cge_t {a b : Int} : cmpI a b .ge = true ↔ b ≤ a := by simp [cmpI]
theorem cge_f {a b : Int} : cmpI a b .ge = false ↔ a < b := by simp [cmpI]
theorem tru_t {a : Int} : ((a != 0) = true) ↔ a ≠ 0 := by simp
theorem tru_f {a : Int} : ((a != 0) = false) ↔ a = 0 := by simp
theorem not_t {b : Bool} : ((!b) = true) ↔ b = false := by simp
theorem not_f {b : Bool} : ((!b) = false) ↔ b = true := by simp
theorem Bd.abs {k : Nat} {x : Int} : Bd k x ↔ x.natAbs < 2 ^ k := .rfl
theorem pow_one' (p : Int) : p ^ 1 = p := by rw [show (1:Nat) = 0 + 1 from rfl, Int.pow_succ, Int.pow_zero, Int.one_mul]
theorem dvd_natAbs_le {a b : Int} (h : a ∣ b) (h0 : b ≠ 0) : a.natAbs ≤ b.natAbs := Nat.le_of_dvd (Int.natAbs_pos.mpr h0) (Int.natAbs_dvd_natAbs.mpr h)
/-! the logarithm -/
/-- l is the logarithm of n to the base b -/
structure LogOf (n b l : Nat) : Prop where
  two : 2 ≤ b
  lo : b ^ l ≤ n
  hi : n < b ^ (l + 1)
theorem LogOf.uniq {n b l k : Nat} (h : LogOf n b l) (lo : b ^ k ≤ n) (hi : n < b ^ (k + 1)) : l = k := by
  have h2 : 1 < b := h.two
  have a := (Nat.pow_lt_pow_iff_right h2).mp (Nat.lt_of_le_of_lt h.lo hi)
  have c := (Nat.pow_lt_pow_iff_right h2).mp (Nat.lt_of_le_of_lt lo h.hi)
  omega
theorem log_ex {n b : Nat} (hb : 2 ≤ b) (hn : 1 ≤ n) : ∃ l, LogOf n b l := by
  have : ∃ k, n < b ^ k := ⟨n, Nat.lt_of_lt_of_le (Nat.lt_two_pow_self) (Nat.pow_le_pow_left hb n)⟩
  obtain ⟨k, hk⟩ := this
  induction k with
  | zero => simp at hk; omega
  | succ k ih =>
    by_cases h : n < b ^ k
    · exact ih h
    · exact ⟨k, hb, by omega, hk⟩
theorem LogOf.one_le {n b l : Nat} (h : LogOf n b l) (hn : b ≤ n) : 1 ≤ l := by
  cases l with
  | zero => have := h.hi; simp at this; omega
  | succ l => omega
theorem LogOf.n1 {n b l : Nat} (h : LogOf n b l) : 1 ≤ n := Nat.le_trans (Nat.pow_pos (by have := h.two; omega)) h.lo
theorem intBits_log {n l : Nat} (h : LogOf n 2 l) : (Builtin.Int.intBits (n : Int) : Int) = l + 1 := by
  have h1 := h.n1
  have h0 : n ≠ 0 := by omega
  have a := (Nat.log2_lt h0).mpr h.hi
  have c : ¬ n.log2 < l := fun q => by have := (Nat.log2_lt h0).mp q; have := h.lo; omega
  unfold Builtin.Int.intBits
  rw [if_neg (by simpa using h0)]
  have : (n : Int).natAbs.log2 = l := by rw [Int.natAbs_natCast]; omega
  rw [this]; push_cast; rfl
def log10MS : MS := (.seq (.ret (.bin .sub (.len (.strOf (.var 0))) (.int 1))) .skip)
theorem text_len {n l : Nat} (h : LogOf n 10 l) (hl : 1 ≤ l) : (Str.ofString (toString (n : Int))).length = l + 1 := by
  rw [PySem.ofString_length]
  show (Nat.repr n).length = l + 1
  have a := (Nat.length_repr_le_iff (n := n) (k := l + 1) (by omega)).mpr h.hi
  have c : ¬ (Nat.repr n).length ≤ l := fun q => by have := (Nat.length_repr_le_iff (n := n) (k := l) hl).mp q; have := h.lo; omega
  omega
theorem lt_ten {n : Nat} (h : n < 2 ^ 12900) : (n : Int).natAbs < 10 ^ 4300 := by
  rw [Int.natAbs_natCast]; exact Nat.lt_of_lt_of_le h PyProof.Rows.pow_lo
theorem log10_exec {g : G} {d : Nat} {hp : HP} {n l : Nat} (h : LogOf n 10 l) (hl : 1 ≤ l) (hl2 : l < 2 ^ 60) (hn : n < 2 ^ 12900) {Q : V → HP → Prop} {X : XT} (hQ : Q (.int l) hp) : exec g d log10MS [.int n] hp (retQ Q) X := by
  refine ⟨lt_ten hn, ?_⟩
  refine ⟨?_, trivial, ?_⟩
  · rw [text_len h hl]; omega
  · have := text_len h hl
    show Q (.int (((Str.ofString (toString (n : Int))).length : Int) - 1)) hp
    rw [this]
    have e : ((l + 1 : Nat) : Int) - 1 = l := by omega
    rw [e]; exact hQ
def logMS (a : Addr) : MS := (.seq (.ite (.cmp .lt (.var 0) (.var 1)) (.seq (.ret (.int 0)) .skip) .skip) (.seq (.ite (.cmp .eq (.var 1) (.int 10)) (.seq (.ret (.call a (.cons (.var 0) .nil))) .skip) .skip) (.seq (.ite (.cmp .eq (.var 1) (.int 2)) (.seq (.ret (.bin .sub (.bitlen (.var 0)) (.int 1))) .skip) .skip) (.seq (.asg 2 (.var 1)) (.seq (.asg 3 (.int 1)) (.seq (.asg 4 (.list (.cons (.tup (.cons (.var 3) (.cons (.var 2) .nil))) .nil))) (.seq (.whil (.cmp .lt (.var 2) (.var 0)) (.seq (.asg 5 (.bin .pow (.var 2) (.int 2))) (.seq (.ite (.cmp .le (.var 5) (.var 0)) (.seq (.asg 2 (.var 5)) (.seq (.aug 3 .add (.var 3)) (.seq (.expr (.app (.var 4) (.tup (.cons (.var 3) (.cons (.var 2) .nil))))) .skip))) (.seq .brk .skip)) .skip)) (.seq (.ret (.var 3)) .skip)) (.seq (.expr (.rev (.var 4))) (.seq (.forU [6, 7] (.var 4) (.seq (.asg 8 (.bin .mul (.var 2) (.var 7))) (.seq (.ite (.cmp .eq (.var 8) (.var 0)) (.seq (.aug 3 .add (.var 6)) (.seq .brk .skip)) (.seq (.ite (.cmp .lt (.var 8) (.var 0)) (.seq (.asg 2 (.var 8)) (.seq (.aug 3 .add (.var 6)) .skip)) .skip) .skip)) .skip))) (.seq (.ret (.var 3)) .skip))))))))))
def logTurn : MS := match logMS 0 with | .seq _ (.seq _ (.seq _ (.seq _ (.seq _ (.seq _ (.seq w _)))))) => w | _ => .skip
def logRest : MS := match logMS 0 with | .seq _ (.seq _ (.seq _ (.seq _ (.seq _ (.seq _ (.seq _ r)))))) => r | _ => .skip
theorem Upto.fresh {S : List Addr} {hp h : HP} {r : Addr} {o : O} (u : Upto S hp h) (n : hp r = none) : Upto S hp (hset h r o) := fun x hx o' e => by
  rw [hset_ne (fun q => by rw [q, n] at e; cases e)]; exact u x hx o' e
/-- the stock of log: rows of (2^i, b^(2^i)) -/
def Stock (b : Nat) (h : HP) (st : Addr) (ts : List Addr) : Prop :=
  h st = some (.list (ts.map .ref)) ∧ ∀ i t, ts[i]? = some t → h t = some (.tup [.int (2 ^ i : Nat), .int (b ^ (2 ^ i) : Nat)])
theorem two_pow_double (j : Nat) : 2 ^ j + 2 ^ j = 2 ^ (j + 1) := by rw [Nat.pow_succ]; omega
theorem BdN {k n : Nat} (h : n < 2 ^ k) : Bd k (n : Int) := by unfold Bd; rw [Int.natAbs_natCast]; exact h
theorem log_rest {g : G} {d : Nat} {hp h0 : HP} {n b l : Nat} {st : Addr} {ts : List Addr} {j : Nat} {x5 : V} (h : LogOf n b l) (hn : n < 2 ^ 12900) (hts : ts.length = j + 1)
    (S : Stock b h0 st ts) (u : Upto [] hp h0) (hst : hp st = none) (hj : b ^ (2 ^ j) ≤ n) (hj2 : n < b ^ (2 ^ j) * b ^ (2 ^ j)) (hsz : j < 1000) {Q : V → HP → Prop} {X : XT} (hQ : ∀ h', Upto [] hp h' → Q (.int l) h') :
    exec g d logRest [.int n, .int b, .int (b ^ (2 ^ j) : Nat), .int (2 ^ j : Nat), .ref st, x5, .unb, .unb, .unb] h0 (retQ Q) X := by
  refine ⟨_, S.1, by rw [List.length_map, sizeLine_eq]; omega, ?_⟩
  generalize hh1 : hset h0 st (.list (ts.map V.ref).reverse) = h1
  have e1 : h1 st = some (.list (ts.map V.ref).reverse) := by rw [← hh1]; exact hset_same
  have u1 : Upto [] hp h1 := by rw [← hh1]; exact u.fresh hst
  have rows : ∀ i t, ts[i]? = some t → h1 t = some (.tup [.int (2 ^ i : Nat), .int (b ^ (2 ^ i) : Nat)]) := fun i t e => by
    have := S.2 i t e
    rw [← hh1, hset_ne (fun q => by rw [q, S.1] at this; cases this)]; exact this
  have hb1 : 1 < b := h.two
  refine ⟨(ts.map V.ref).reverse, by rw [e1]; rfl, by rw [List.length_reverse, List.length_map]; omega, ?_⟩
  refine ⟨fun k l' h' => ∃ R x6 x7 x8, l' = [.int n, .int b, .int (b ^ R : Nat), .int (R : Nat), .ref st, x5, x6, x7, x8] ∧ h' = h1 ∧ b ^ R ≤ n ∧ n < b ^ (R + 2 ^ (j + 1 - k)) ∧ k ≤ j + 1, ⟨2 ^ j, .unb, .unb, .unb, rfl, rfl, hj, ?_, Nat.zero_le _⟩, ?_, ?_⟩
  · rw [← Nat.pow_add] at hj2
    exact Nat.lt_of_lt_of_le hj2 (Nat.pow_le_pow_right (by omega) (by exact Nat.add_le_add_left (Nat.pow_le_pow_right (by decide) (by omega)) _))
  · rintro k x l' h' hx ⟨R, x6, x7, x8, rfl, rfl, h2, h3, hk⟩
    refine ⟨rfl, ?_⟩
    have hk2 : k < j + 1 := by
      rcases Nat.lt_or_ge k (j + 1) with q | q
      · exact q
      · rw [List.getElem?_eq_none (by simp; omega)] at hx; cases hx
    have hx' : ∃ t, ts[j - k]? = some t ∧ x = .ref t := by
      rw [List.getElem?_reverse (by simp; omega)] at hx
      simp only [List.length_map, hts, List.getElem?_map] at hx
      rw [show j + 1 - 1 - k = j - k by omega] at hx
      cases e : ts[j - k]? with
      | none => rw [e] at hx; cases hx
      | some t => rw [e] at hx; exact ⟨t, rfl, by cases hx; rfl⟩
    obtain ⟨t, ht, rfl⟩ := hx'
    refine ⟨_, rows _ _ ht, rfl, ?_⟩
    have hR : b ^ R < 2 ^ 12900 := by omega
    have hp2 : b ^ 2 ^ (j - k) < 2 ^ 12900 := Nat.lt_of_le_of_lt (Nat.le_trans (Nat.pow_le_pow_right (by omega) (Nat.pow_le_pow_right (by decide) (by omega))) hj) hn
    have em : ((b ^ R : Nat) : Int) * ((b ^ 2 ^ (j - k) : Nat) : Int) = ((b ^ (R + 2 ^ (j - k)) : Nat) : Int) := by rw [Nat.pow_add]; push_cast; rfl
    have ea : ((R : Nat) : Int) + ((2 ^ (j - k) : Nat) : Int) = ((R + 2 ^ (j - k) : Nat) : Int) := by push_cast; rfl
    have e2 : 2 ^ (j + 1 - k) = 2 ^ (j - k) + 2 ^ (j - k) := by rw [show j + 1 - k = j - k + 1 by omega, Nat.pow_succ]; omega
    refine ⟨(BdN hR).mulOk (BdN hp2), ?_⟩
    show exec g d _ [.int n, .int b, .int (b ^ R : Nat), .int (R : Nat), .ref st, x5, .int (2 ^ (j - k) : Nat), .int (b ^ 2 ^ (j - k) : Nat), .int (((b ^ R : Nat) : Int) * ((b ^ 2 ^ (j - k) : Nat) : Int))] h' _ noX
    rw [em]
    refine ⟨fun hc => ?_, fun hc => ⟨fun hc2 => ?_, fun hc2 => ?_⟩⟩
    · have hc := ceq_t.mp hc
      have hc : b ^ (R + 2 ^ (j - k)) = n := Int.ofNat.inj hc
      refine ⟨trivial, ?_⟩
      show Q (.int (((R : Nat) : Int) + ((2 ^ (j - k) : Nat) : Int))) h'
      rw [ea, ← h.uniq (k := R + 2 ^ (j - k)) (by omega) (by rw [← hc, Nat.pow_succ]; have : 0 < b ^ (R + 2 ^ (j - k)) := Nat.pow_pos (by omega); exact (Nat.lt_mul_iff_one_lt_right this).mpr hb1)]
      exact hQ _ u1
    · have hc2 := clt_t.mp hc2
      have hc2 : b ^ (R + 2 ^ (j - k)) < n := Int.ofNat_lt.mp hc2
      refine ⟨trivial, R + 2 ^ (j - k), .int (2 ^ (j - k) : Nat), .int (b ^ 2 ^ (j - k) : Nat), .int (b ^ (R + 2 ^ (j - k)) : Nat), ?_, rfl, by omega, ?_, by omega⟩
      · rw [← ea]; rfl
      · rw [show j + 1 - (k + 1) = j - k by omega, Nat.add_assoc, ← e2]; exact h3
    · have hc := ceq_f.mp hc
      have hc2 := clt_f.mp hc2
      have hc2 : n ≤ b ^ (R + 2 ^ (j - k)) := Int.ofNat_le.mp hc2
      have hc : b ^ (R + 2 ^ (j - k)) ≠ n := fun e => hc (congrArg Int.ofNat e)
      exact ⟨R, _, _, _, rfl, rfl, h2, by rw [show j + 1 - (k + 1) = j - k by omega]; omega, by omega⟩
  · rintro l' h' ⟨R, x6, x7, x8, rfl, rfl, h2, h3, hk⟩
    refine ⟨rfl, ?_⟩
    rw [List.length_reverse, List.length_map, hts, Nat.sub_self] at h3
    have := h.uniq (k := R) h2 (by simpa using h3)
    subst this
    exact hQ _ u1
theorem log_small {g : G} {d : Nat} {hp : HP} {a : Addr} {n b : Int} (h : n < b) {Q : V → HP → Prop} {X : XT} (hQ : Q (.int 0) hp) : exec g d (logMS a) [.int n, .int b, .unb, .unb, .unb, .unb, .unb, .unb, .unb] hp (retQ Q) X :=
  ⟨fun _ => hQ, fun ht => absurd (clt_f.mp ht) (by omega)⟩
theorem log_exec {g : G} {d : Nat} {hp : HP} {a : Addr} {n b l : Nat} (h : LogOf n b l) (hbn : b ≤ n) (hn : n < 2 ^ 12900)
    (ten : b = 10 → ∀ (Q : V → HP → Prop) (X : XC), Q (.int l) hp → Calls g d a [.int n] [] hp Q X) {Q : V → HP → Prop} {X : XT} (hQ : ∀ h', Upto [] hp h' → Q (.int l) h') :
    exec g d (logMS a) [.int n, .int b, .unb, .unb, .unb, .unb, .unb, .unb, .unb] hp (retQ Q) X := by
  have hb1 : 1 < b := h.two
  refine ⟨fun ht => ?_, fun _ => ⟨fun ht => ?_, fun _ => ⟨fun ht => ?_, fun _ => ?_⟩⟩⟩
  · have := clt_t.mp ht; omega
  · have := ceq_t.mp ht
    exact ten (by omega) _ _ (hQ _ .refl)
  · have := ceq_t.mp ht
    have e : b = 2 := by omega
    subst e
    refine ⟨trivial, ?_⟩
    show Q (.int ((Builtin.Int.intBits (n : Int) : Int) - 1)) hp
    rw [intBits_log h, Int.add_sub_cancel]
    exact hQ _ .refl
  · refine ⟨by simp [sizeLine_eq], fun r1 n1 => ⟨by simp [sizeLine_eq], fun st n2 => ?_⟩⟩
    obtain ⟨n3, n4⟩ := hset_none.mp n2
    have S0 : Stock b (hset (hset hp r1 (.tup [.int 1, .int b])) st (.list [.ref r1])) st [r1] := by
      refine ⟨hset_same, fun i t e => ?_⟩
      cases i with
      | zero => cases e; rw [hset_ne (Ne.symm n3), hset_same]; simp
      | succ i => cases e
    have u0 : Upto [] hp (hset (hset hp r1 (.tup [.int 1, .int b])) st (.list [.ref r1])) := (Upto.new n1).trans (.new n2)
    refine ⟨fun i l' h' => ∃ (j : Nat) (ts : List Addr) (x5 : V), l' = [.int n, .int b, .int (b ^ (2 ^ j) : Nat), .int (2 ^ j : Nat), .ref st, x5, .unb, .unb, .unb] ∧ ts.length = j + 1 ∧ Stock b h' st ts ∧ Upto [] hp h' ∧ b ^ (2 ^ j) ≤ n ∧ i = n - b ^ (2 ^ j),
      ⟨_, 0, [r1], .unb, by simp [lset, lget], rfl, S0, u0, by simpa using hbn, rfl⟩, ?_⟩
    rintro i l' h' ⟨j, ts, x5, rfl, hts, S, u, hj, rfl⟩
    have h2j : 2 ^ j < 12900 := (Nat.pow_lt_pow_iff_right (a := 2) (by decide)).mp (Nat.lt_of_le_of_lt (Nat.le_trans (Nat.pow_le_pow_left h.two _) hj) hn)
    have hj14 : j < 14 := (Nat.pow_lt_pow_iff_right (a := 2) (by decide)).mp (Nat.lt_trans h2j (by decide))
    have em : ((b ^ 2 ^ j : Nat) : Int) ^ ((2 : Int).toNat) = ((b ^ 2 ^ (j + 1) : Nat) : Int) := by
      rw [show (2 : Int).toNat = 2 from rfl, Nat.pow_succ 2 j, Nat.pow_mul]; push_cast; rfl
    refine ⟨fun ht => ?_, fun ht => ?_⟩
    · have ht := Int.ofNat_lt.mp (clt_t.mp ht)
      have hbits := (BdN (Nat.lt_of_le_of_lt hj hn)).bits
      refine ⟨⟨by decide, by omega⟩, ?_⟩
      show exec g d _ [.int n, .int b, .int (b ^ (2 ^ j) : Nat), .int (2 ^ j : Nat), .ref st, .int (((b ^ 2 ^ j : Nat) : Int) ^ ((2 : Int).toNat)), .unb, .unb, .unb] h' _ noX
      rw [em]
      refine ⟨fun hc => ?_, fun hc => ?_⟩
      · have hc := Int.ofNat_le.mp (cle_t.mp hc)
        refine ⟨trivial, ⟨_, S.1⟩, by simp [sizeLine_eq], fun r nr => ?_⟩
        have e0 : hset h' r (.tup [V.int (((2 ^ j : Nat) : Int) + ((2 ^ j : Nat) : Int)), .int (b ^ 2 ^ (j + 1) : Nat)]) st = some (.list (ts.map .ref)) := by
          rw [hset_ne (ne_of_none nr S.1)]; exact S.1
        refine ⟨_, e0, by rw [List.length_map, sizeLine_eq]; omega, ?_⟩
        have e1 : ((2 ^ j : Nat) : Int) + ((2 ^ j : Nat) : Int) = ((2 ^ (j + 1) : Nat) : Int) := by rw [← two_pow_double]; push_cast; rfl
        refine ⟨n - b ^ 2 ^ (j + 1), ?_, j + 1, ts ++ [r], .int (b ^ 2 ^ (j + 1) : Nat), ?_, by simp [hts], ⟨?_, fun i t e => ?_⟩, ?_, hc, rfl⟩
        · have : b ^ 2 ^ j < b ^ 2 ^ (j + 1) := (Nat.pow_lt_pow_iff_right hb1).mpr ((Nat.pow_lt_pow_iff_right (by decide)).mpr (by omega))
          omega
        · rw [← e1]; rfl
        · rw [hset_same]; simp [lget, lset]
        · rcases Nat.lt_or_ge i ts.length with q | q
          · rw [List.getElem?_append_left q] at e
            have := S.2 i t e
            rw [hset_ne (fun q => by rw [q, S.1] at this; cases this), hset_ne (ne_of_none nr this)]; exact this
          · rw [List.getElem?_append_right q] at e
            have hi : i = j + 1 := by
              rcases Nat.lt_or_ge (i - ts.length) 1 with z | z
              · omega
              · rw [List.getElem?_eq_none (by simpa using z)] at e; cases e
            subst hi
            rw [show j + 1 - ts.length = 0 by omega] at e
            cases e
            rw [hset_ne (fun q => by rw [q, S.1] at nr; cases nr), hset_same, ← e1]; rfl
        · refine Upto.fresh (u.trans (.new nr)) ?_
          exact n4
      · have hc := Int.ofNat_lt.mp (cle_f.mp hc)
        refine log_rest h hn hts S u n4 hj ?_ (by omega) hQ
        rw [← Nat.pow_add, two_pow_double]; exact hc
    · have ht := Int.ofNat_le.mp (clt_f.mp ht)
      have : l = 2 ^ j := h.uniq hj (by
        have e : b ^ 2 ^ j = n := Nat.le_antisymm hj ht
        rw [Nat.pow_succ, e]
        exact (Nat.lt_mul_iff_one_lt_right h.n1).mpr hb1)
      subst this
      exact hQ _ u
def powMS : MS := (.seq (.asg 2 (.int 1)) (.seq (.forR 3 (.int 0) (.var 1) (.int 1) (.seq (.asg 2 (.bin .mul (.var 2) (.var 0))) .skip)) (.seq (.ret (.var 2)) .skip)))
theorem pow_exec {g : G} {d : Nat} {hp : HP} {n : Int} {k : Nat} (hk : k < 2 ^ 60) (hn : Bd 60000000 n) (hb : ∀ j, j ≤ k → Bd 60000000 (n ^ j)) {Q : V → HP → Prop} {X : XT} (hQ : Q (.int (n ^ k)) hp) :
    exec g d powMS [.int n, .int k, .unb, .unb] hp (retQ Q) X := by
  refine ⟨by decide, small_one (by decide) (by decide) (by omega) (by omega), ?_⟩
  refine forUp (l := [.int n, .int k, .int 1, .unb]) k (by omega) (fun j l h' => ∃ x, l = [.int n, .int k, .int (n ^ j), x] ∧ j ≤ k ∧ h' = hp) ⟨.unb, by simp, Nat.zero_le _, rfl⟩ ?_ ?_
  · rintro j l h' hj ⟨x, rfl, hjk, rfl⟩
    refine ⟨(hb j hjk).mulOk hn, .int (0 + j), ?_, hj, rfl⟩
    rw [Int.pow_succ]; rfl
  · rintro l h' ⟨x, rfl, -, rfl⟩
    exact hQ
theorem pow_bd {n : Int} (h0 : n ≠ 0) {k K : Nat} (hb : Bd K (n ^ k)) {j : Nat} (hj : j ≤ k) : Bd K (n ^ j) :=
  hb.le (dvd_natAbs_le ⟨n ^ (k - j), by rw [← Int.pow_add]; congr 1; omega⟩ (Int.pow_ne_zero h0))
theorem mem_ints {ns : List Int} {k : Nat} {x : V} (h : (ns.map V.int)[k]? = some x) : ∃ z, z ∈ ns ∧ x = .int z := by
  rw [List.getElem?_map] at h
  cases e : ns[k]? with
  | none => rw [e] at h; cases h
  | some z => rw [e] at h; cases h; exact ⟨z, List.mem_of_getElem? e, rfl⟩
theorem nqP {h : HP} {a r q : Addr} (P : Pool h a r) (n : h q = none) : q ∉ [a, r] := by
  obtain ⟨x, y, ns', q0, q1, -⟩ := P
  intro h'
  simp only [List.mem_cons, List.not_mem_nil, or_false] at h'
  rcases h' with rfl | rfl
  · rw [n] at q0; cases q0
  · rw [n] at q1; cases q1
/-- a loop over a list of ints that stands all the while -/
theorem forLI {turn : List V → HP → (Out → List V → HP → Prop) → Prop} {i : Nat} {ns : List Int} {l : List V} {hp : HP} {r : Addr} {Q : Out → List V → HP → Prop} (e : hp r = some (.list (ns.map .int))) (fit : ns.length < 2 ^ 62) (I : List V → HP → Prop)
    (h0 : I l hp) (step : ∀ z l h, z ∈ ns → I l h → h r = some (.list (ns.map .int)) → turn (lset l i (.int z)) h (fun o l2 h2 => match o with | .next => I l2 h2 ∧ h2 r = some (.list (ns.map .int)) | .brk => Q .next l2 h2 | .ret v => Q (.ret v) l2 h2))
    (fin : ∀ l h, I l h → Q .next l h) : ∃ vs, iterOf (hp r) = some vs ∧ (vs.length : Int) < 2 ^ 62 ∧ forIn turn i vs l hp (fun h => h r = hp r) Q := by
  refine ⟨ns.map .int, by rw [e]; rfl, by rw [List.length_map]; omega, fun _ l h => I l h ∧ h r = some (.list (ns.map .int)), ⟨h0, e⟩, ?_, ?_⟩
  · rintro k x l h hx ⟨hI, hr⟩
    obtain ⟨z, hz, rfl⟩ := mem_ints hx
    refine ⟨hr.trans e.symm, step z l h hz hI hr⟩
  · rintro l h ⟨hI, hr⟩
    exact ⟨hr.trans e.symm, fin l h hI⟩
/-! the square root -/
theorem newton_ge {a r x : Nat} (hr : r * r ≤ a) (hx : 0 < x) : r ≤ (x + a / x) / 2 := by
  rw [Nat.le_div_iff_mul_le (by decide)]
  rcases Nat.lt_or_ge x (r * 2) with h | h
  · have h1 : x * (2 * r - x) ≤ a := by
      refine Nat.le_trans ?_ hr
      obtain ⟨k, hk⟩ : ∃ k, 2 * r = x + k := ⟨2 * r - x, by omega⟩
      rw [hk, Nat.add_sub_cancel_left]
      rcases Nat.le_total x k with q | q
      · obtain ⟨j, rfl⟩ : ∃ j, k = x + j := ⟨k - x, by omega⟩
        obtain ⟨i, rfl⟩ : ∃ i, j = 2 * i := ⟨j / 2, by omega⟩
        obtain rfl : r = x + i := by omega
        simp only [Nat.mul_add, Nat.add_mul]
        have : i * x = x * i := Nat.mul_comm _ _
        rw [show x * (2 * i) = x * i + x * i by rw [Nat.mul_comm 2 i, ← Nat.mul_assoc]; omega]
        omega
      · obtain ⟨j, rfl⟩ : ∃ j, x = k + j := ⟨x - k, by omega⟩
        obtain ⟨i, rfl⟩ : ∃ i, j = 2 * i := ⟨j / 2, by omega⟩
        obtain rfl : r = k + i := by omega
        simp only [Nat.mul_add, Nat.add_mul]
        have : i * k = k * i := Nat.mul_comm _ _
        rw [show 2 * i * k = k * i + k * i by rw [Nat.mul_assoc, Nat.mul_comm i k]; omega]
        omega
    have h2 : 2 * r - x ≤ a / x := (Nat.le_div_iff_mul_le hx).mpr (by rw [Nat.mul_comm]; exact h1)
    generalize a / x = q at *
    omega
  · generalize a / x = q
    omega
theorem newton_stop {a r x : Nat} (h2 : a < (r + 1) * (r + 1)) (hx : 0 < x) (hr : r ≤ x) (h : x ≤ (x + a / x) / 2) : x = r := by
  have h3 : x ≤ a / x := by generalize a / x = q at *; omega
  have h4 : x * x ≤ a := (Nat.le_div_iff_mul_le hx).mp h3
  rcases Nat.lt_or_ge r x with q | q
  · have := Nat.mul_le_mul (show r + 1 ≤ x from q) (show r + 1 ≤ x from q)
    omega
  · omega
def sqrtMS (a : Addr) : MS := (.seq (.ite (.cmp .lt (.var 0) (.bin .shl (.int 1) (.int 59))) (.seq (.ite (.cmp .lt (.var 0) (.int 0)) (.seq (.raise "ValueError") .skip) .skip) (.seq (.asgN [1, 2] (.cons (.var 0) (.cons (.bin .shr (.bin .add (.var 0) (.int 1)) (.int 1)) .nil))) (.seq (.whil (.cmp .lt (.var 2) (.var 1)) (.seq (.asgN [1, 2] (.cons (.var 2) (.cons (.bin .shr (.bin .add (.var 2) (.bin .fdiv (.var 0) (.var 2))) (.int 1)) .nil))) .skip) .skip) (.seq (.ret (.var 1)) .skip)))) (.seq (.asg 1 (.bin .pow (.int 10) (.bin .add (.bin .shr (.call a (.cons (.var 0) (.cons (.int 10) .nil))) (.int 1)) (.int 1)))) (.seq (.whil (.tv (.bool true)) (.seq (.asg 3 (.bin .shr (.bin .add (.var 1) (.bin .fdiv (.var 0) (.var 1))) (.int 1))) (.seq (.ite (.cmp .le (.var 1) (.var 3)) (.seq (.ret (.var 1)) .skip) .skip) (.seq (.asg 1 (.var 3)) .skip))) .skip) .skip))) .skip)
theorem half_cast (x : Nat) : intOp (x : Int) 1 .shr = ((x / 2 : Nat) : Int) := by
  show (x : Int).fdiv (2 ^ (1 : Int).toNat) = _
  rw [show (2 : Int) ^ (1 : Int).toNat = 2 from rfl, Int.fdiv_eq_ediv_of_nonneg _ (by decide)]
  push_cast; rfl
theorem step_cast (a x : Nat) : intOp (intOp (x : Int) (intOp (a : Int) (x : Int) .fdiv) .add) 1 .shr = (((x + a / x) / 2 : Nat) : Int) := by
  have : intOp (x : Int) (intOp (a : Int) (x : Int) .fdiv) .add = ((x + a / x : Nat) : Int) := by
    show (x : Int) + (a : Int).fdiv x = _
    rw [Int.fdiv_eq_ediv_of_nonneg _ (by omega)]; push_cast; rfl
  rw [this, half_cast]
theorem sqrt_neg {g : G} {d : Nat} {hp : HP} {a : Addr} {n : Int} (hn : n < 0) {Q : Out → List V → HP → Prop} {X : XT} (hX : X (.own "ValueError") hp) : exec g d (sqrtMS a) [.int n, .unb, .unb, .unb] hp Q X := by
  refine ⟨⟨by decide, by decide⟩, fun _ => ?_, fun ht => absurd (clt_f.mp ht) ?_⟩
  · exact ⟨fun _ => hX, fun ht => absurd (clt_f.mp ht) (by omega)⟩
  · show ¬ (1 * 2 ^ 59 : Int) ≤ n
    omega
theorem sqrt_exec {g : G} {d : Nat} {hp : HP} {a : Addr} {n r : Nat} (h1 : r * r ≤ n) (h2 : n < (r + 1) * (r + 1)) (hn : n < 2 ^ 12900)
    (hlog : ∀ l, 10 ≤ n → LogOf n 10 l → ∀ (Q : V → HP → Prop) (X : XC), (∀ h', Upto [] hp h' → Q (.int l) h') → Calls g d a [.int n, .int 10] [] hp Q X) {Q : V → HP → Prop} {X : XT} (hQ : ∀ h', Upto [] hp h' → Q (.int r) h') :
    exec g d (sqrtMS a) [.int n, .unb, .unb, .unb] hp (retQ Q) X := by
  refine ⟨⟨by decide, by decide⟩, fun ht => ⟨fun q => absurd (clt_t.mp q) (by omega), fun _ => ⟨trivial, show 0 ≤ (1 : Int) by decide, ?_⟩⟩, fun ht => ?_⟩
  · -- a small number
    have e0 : intOp (intOp (n : Int) 1 .add) 1 .shr = (((n + 1) / 2 : Nat) : Int) := by
      rw [show intOp (n : Int) 1 .add = ((n + 1 : Nat) : Int) by rfl, half_cast]
    show exec g d _ [.int n, .int n, .int (intOp (intOp (n : Int) 1 .add) 1 .shr), .unb] hp _ X
    rw [e0]
    refine ⟨fun i l h' => ∃ x y : Nat, l = [.int n, .int x, .int y, .unb] ∧ h' = hp ∧ r ≤ x ∧ (x = 0 → y = 0) ∧ (0 < x → y = (x + n / x) / 2) ∧ x ≤ n ∧ i = x, ⟨n, n, (n + 1) / 2, rfl, rfl, ?_, by omega, fun h0 => ?_, Nat.le_refl _, rfl⟩, ?_⟩
    · rcases Nat.lt_or_ge r 1 with q | q
      · omega
      · exact Nat.le_trans (Nat.le_mul_of_pos_left r (by omega)) h1
    · rw [Nat.div_self h0]
    · rintro i l h' ⟨x, y, rfl, rfl, hr, h0, hy, hxn, rfl⟩
      refine ⟨fun ht => ?_, fun ht => ?_⟩
      · have ht := Int.ofNat_lt.mp (clt_t.mp ht)
        have hx : 0 < i := by omega
        have hy := hy hx
        have hge : r ≤ y := by rw [hy]; exact newton_ge h1 hx
        have hy0 : 0 < y := by
          rcases Nat.eq_zero_or_pos y with q | q
          · have r0 : r = 0 := by omega
            subst r0
            have : n = 0 := by omega
            omega
          · exact q
        refine ⟨show (y : Int) ≠ 0 by omega, trivial, show 0 ≤ (1 : Int) by decide, ?_⟩
        refine ⟨y, ht, y, (y + n / y) / 2, ?_, rfl, hge, by omega, fun _ => rfl, by omega, rfl⟩
        show [V.int n, V.int y, V.int (intOp (intOp (y : Int) (intOp (n : Int) (y : Int) .fdiv) .add) 1 .shr), V.unb] = _
        rw [step_cast]
      · have ht := Int.ofNat_le.mp (clt_f.mp ht)
        have : i = r := by
          rcases Nat.eq_zero_or_pos i with q | q
          · omega
          · exact newton_stop h2 q hr (by rw [← hy q]; exact ht)
        subst this
        exact hQ _ .refl
  · have hbig : 2 ^ 59 ≤ n := by
      have := clt_f.mp ht
      have h9 : ((1 : Int) * 2 ^ (59 : Int).toNat) = ((2 ^ 59 : Nat) : Int) := by decide
      have h8 : intOp 1 59 .shl = ((2 ^ 59 : Nat) : Int) := h9
      rw [h8] at this
      exact Int.ofNat_le.mp this
    obtain ⟨lg, hlg⟩ := log_ex (b := 10) (by decide) (show 1 ≤ n by omega)
    have hl : lg < 12900 := (Nat.pow_lt_pow_iff_right (a := 2) (by decide)).mp (Nat.lt_of_le_of_lt (Nat.le_trans (Nat.pow_le_pow_left (by decide) _) hlg.lo) hn)
    refine hlog lg (by omega) hlg _ _ fun h' u => ?_
    refine ⟨show 0 ≤ (1 : Int) by decide, trivial, ?_⟩
    have e1 : intOp (intOp (lg : Int) 1 .shr) 1 .add = ((lg / 2 + 1 : Nat) : Int) := by
      rw [half_cast]; show ((lg / 2 : Nat) : Int) + 1 = _; push_cast; rfl
    rw [e1]
    refine ⟨⟨by omega, ?_⟩, ?_⟩
    · have : Builtin.Int.intBits 10 = 4 := by decide
      rw [this]; omega
    have e2 : intOp 10 ((lg / 2 + 1 : Nat) : Int) .pow = ((10 ^ (lg / 2 + 1) : Nat) : Int) := by
      show (10 : Int) ^ ((lg / 2 + 1 : Nat) : Int).toNat = _
      rw [Int.toNat_natCast]; push_cast; rfl
    show exec g d _ [.int n, .int (intOp 10 ((lg / 2 + 1 : Nat) : Int) .pow), .unb, .unb] h' _ X
    rw [e2]
    have hstart : r ≤ 10 ^ (lg / 2 + 1) := by
      rcases Nat.lt_or_ge (10 ^ (lg / 2 + 1)) r with q | q
      · exfalso
        have h3 : 10 ^ (lg / 2 + 1) * 10 ^ (lg / 2 + 1) ≤ r * r := Nat.mul_le_mul (by omega) (by omega)
        rw [← Nat.pow_add] at h3
        have h4 : 10 ^ (lg + 1) ≤ 10 ^ (lg / 2 + 1 + (lg / 2 + 1)) := Nat.pow_le_pow_right (by decide) (by omega)
        have := hlg.hi
        omega
      · exact q
    refine ⟨fun i l h2 => ∃ (x : Nat) (y : V), l = [.int n, .int x, .unb, y] ∧ h2 = h' ∧ r ≤ x ∧ 0 < x ∧ i = x, ⟨_, 10 ^ (lg / 2 + 1), .unb, rfl, rfl, hstart, Nat.pow_pos (by decide), rfl⟩, ?_⟩
    rintro i l h3 ⟨x, y, rfl, rfl, hr, hx, rfl⟩
    refine ⟨fun _ => ?_, (fun q => nomatch q)⟩
    refine ⟨show (i : Int) ≠ 0 by omega, trivial, show 0 ≤ (1 : Int) by decide, ?_⟩
    show exec g d _ [.int n, .int i, .unb, .int (intOp (intOp (i : Int) (intOp (n : Int) (i : Int) .fdiv) .add) 1 .shr)] h3 _ noX
    rw [step_cast]
    refine ⟨fun ht => ?_, fun ht => ?_⟩
    · have ht := Int.ofNat_le.mp (cle_t.mp ht)
      have := newton_stop h2 hx hr ht
      subst this
      exact hQ _ u
    · have ht := Int.ofNat_lt.mp (cle_f.mp ht)
      have hge : r ≤ (i + n / i) / 2 := newton_ge h1 hx
      refine ⟨_, ht, _, _, rfl, rfl, hge, ?_, rfl⟩
      rcases Nat.eq_zero_or_pos ((i + n / i) / 2) with q | q
      · exfalso
        have r0 : r = 0 := by omega
        subst r0
        omega
      · exact q
/-- a comprehension over a range -/
theorem compUp {test : List V → HP → (Bool → HP → Prop) → Prop} {elt : List V → HP → (V → HP → Prop) → Prop} {new : V → (List V → Prop) → HP → Prop} {lo hi : Int} {hp : HP} {Q : V → HP → Prop} (n : Nat) (hn : n = (hi - lo).toNat) (I : Nat → List V → HP → Prop) (h0 : I 0 [] hp)
    (step : ∀ k acc h, k < n → I k acc h → acc.length ≤ sizeLine ∧ new (.int (lo + k)) (fun l => test l h fun t h1 => (t = true → elt l h1 fun v h2 => I (k + 1) (acc ++ [v]) h2) ∧ (t = false → I (k + 1) acc h1)) h)
    (fin : ∀ acc h, I n acc h → newV h (.list acc) Q) :
    compI test elt new ((List.range (Builtin.Range.rangeSize lo hi 1).toNat).map fun (k : Nat) => V.int (lo + k * 1)) hp (fun _ => True) Q := by
  have hsz : (Builtin.Range.rangeSize lo hi 1).toNat = n := by rw [rangeSize_one]; split <;> omega
  rw [hsz]
  refine ⟨I, h0, fun k x acc h hx hI => ?_, fun acc h hI => ⟨trivial, fin acc h (by simpa using hI)⟩⟩
  have hk : k < n := by
    rcases Nat.lt_or_ge k n with q | q
    · exact q
    · rw [List.getElem?_eq_none (by simpa using q)] at hx; cases hx
  simp only [List.getElem?_map, List.getElem?_range hk, Option.map_some, Option.some.injEq, Int.mul_one] at hx
  subst hx
  exact ⟨trivial, step k acc h hk hI⟩
theorem sqrt_ex (n : Nat) : ∃ r, r * r ≤ n ∧ n < (r + 1) * (r + 1) := by
  induction n with
  | zero => exact ⟨0, by decide, by decide⟩
  | succ n ih =>
    obtain ⟨r, h1, h2⟩ := ih
    by_cases h : n + 1 < (r + 1) * (r + 1)
    · exact ⟨r, by omega, h⟩
    · exact ⟨r + 1, by omega, by
        simp only [Nat.add_mul, Nat.mul_add] at *
        omega⟩
/-! great numbers, drawn -/
def greatMS (dr : Addr) : MS := (.seq (.asg 2 (.int 0)) (.seq (.forR 3 (.int 0) (.bin .add (.int 1) (.call dr (.cons (.var 0) (.cons (.var 1) .nil)))) (.int 1) (.seq (.asg 2 (.bin .add (.bin .mul (.var 2) (.bin .pow (.int 10) (.int 9))) (.call dr (.cons (.var 0) (.cons (.bin .pow (.int 10) (.int 9)) .nil))))) .skip)) (.seq (.ret (.var 2)) .skip)))
/-- the def at dr draws -/
def DrawsC (g : G) (d : Nat) (dr : Addr) : Prop := ∀ (hp : HP) (p r : Addr) (many : Int), Pool hp p r → 0 < many → ∀ (Q : V → HP → Prop) (X : XC),
  (∀ v hp', 0 ≤ v → v < many → Pool hp' p r → Upto [p, r] hp hp' → Q (.int v) hp') → Calls g d dr [.ref p, .int many] [] hp Q X
theorem great_exec {g : G} {d : Nat} {dr : Addr} (DR : DrawsC g d dr) {hp : HP} {p r : Addr} {most : Nat} (P : Pool hp p r) (h0 : 0 < most) (h1 : most < 2 ^ 20) {Q : V → HP → Prop} {X : XT}
    (hQ : ∀ (N : Nat) hp', N < 10 ^ (9 * most) → Pool hp' p r → Upto [p, r] hp hp' → Q (.int N) hp') : exec g d (greatMS dr) [.ref p, .int most, .unb, .unb] hp (retQ Q) X := by
  refine DR _ _ _ _ P (by omega) _ _ fun t h2 t0 t1 P2 u2 => ?_
  obtain ⟨t, rfl⟩ := Int.eq_ofNat_of_zero_le t0
  refine ⟨trivial, (show (1 : Int) ≠ 0 by decide), ?_, ?_⟩
  · have e : intOp 1 (t : Int) .add = ((t + 1 : Nat) : Int) := by show (1 : Int) + t = _; push_cast; omega
    rw [e]
    exact small_one (by decide) (by decide) (by omega) (by omega)
  refine forUp (l := [.ref p, .int most, .int 0, .unb]) (t + 1) (by show t + 1 = ((1 : Int) + t - 0).toNat; omega) (fun k l h => ∃ (N : Nat) (x : V), l = [.ref p, .int most, .int N, x] ∧ N < 10 ^ (9 * k) ∧ Pool h p r ∧ Upto [p, r] hp h) ⟨0, .unb, rfl, by decide, P2, u2⟩ ?_ ?_
  · rintro k l h hk ⟨N, x, rfl, hN, P3, u3⟩
    have hk2 : 9 * k < 2 ^ 24 := by omega
    have hb : Bd (4 * (9 * k)) (N : Int) := BdN (Nat.lt_of_lt_of_le hN (by
      have : (2 : Nat) ^ (4 * (9 * k)) = 16 ^ (9 * k) := by rw [Nat.pow_mul 2 4]
      rw [this]; exact Nat.pow_le_pow_left (show 10 ≤ 16 by decide) _))
    refine ⟨⟨by decide, by decide⟩, hb.mulOk (j := 30) (show Bd 30 1000000000 by unfold Bd; decide) (by omega), ⟨by decide, by decide⟩, ?_⟩
    refine DR _ _ _ _ P3 (by decide) _ _ fun v h4 v0 v1 P4 u4 => ?_
    obtain ⟨v, rfl⟩ := Int.eq_ofNat_of_zero_le v0
    refine ⟨trivial, N * 1000000000 + v, .int (0 + k), ?_, ?_, P4, u3.trans u4⟩
    · show [V.ref p, V.int most, V.int ((N : Int) * 1000000000 + v), V.int (0 + k)] = _
      rw [show ((N * 1000000000 + v : Nat) : Int) = (N : Int) * 1000000000 + v by omega]
    · have v1 : (v : Int) < 1000000000 := v1
      have e : 10 ^ (9 * (k + 1)) = 10 ^ (9 * k) * 1000000000 := by rw [Nat.mul_succ, Nat.pow_add]
      rw [e]
      have : (N + 1) * 1000000000 ≤ 10 ^ (9 * k) * 1000000000 := Nat.mul_le_mul_right _ hN
      omega
  · rintro l h ⟨N, x, rfl, hN, P3, u3⟩
    refine hQ N h (Nat.lt_of_lt_of_le hN (Nat.pow_le_pow_right (by decide) (by have : (t : Int) < most := t1; omega))) P3 u3
theorem LogOf.small' {n l : Nat} (h : LogOf n 2 l) {K : Nat} (hn : n < 2 ^ K) : l < K :=
  (Nat.pow_lt_pow_iff_right (a := 2) (by decide)).mp (Nat.lt_of_le_of_lt h.lo hn)
/-! roots of any degree -/
theorem amgm (r x : Nat) : ∀ k, (k + 1) * (r * x ^ k) ≤ r ^ (k + 1) + k * x ^ (k + 1)
  | 0 => by simp
  | k + 1 => by
    have ih := Nat.mul_le_mul_right r (amgm r x k)
    have sq : 2 * (r * x) ≤ r * r + x * x := by
      rcases Nat.le_total r x with h | h
      · obtain ⟨j, rfl⟩ := Nat.le.dest h
        simp only [Nat.mul_add, Nat.add_mul]
        have : j * r = r * j := Nat.mul_comm _ _
        omega
      · obtain ⟨j, rfl⟩ := Nat.le.dest h
        simp only [Nat.mul_add, Nat.add_mul]
        have : j * x = x * j := Nat.mul_comm _ _
        omega
    have sq2 := Nat.mul_le_mul_left ((k + 1) * x ^ k) sq
    have e1 : (k + 1) * (r * x ^ k) * r = (k + 1) * (x ^ k * (r * r)) := by rw [Nat.mul_assoc, Nat.mul_right_comm r, Nat.mul_comm (r * r)]
    have e2 : (r ^ (k + 1) + k * x ^ (k + 1)) * r = r ^ (k + 1 + 1) + k * (x ^ k * (r * x)) := by
      rw [Nat.add_mul, ← Nat.pow_succ, Nat.mul_assoc, Nat.pow_succ x, Nat.mul_assoc (x ^ k), Nat.mul_comm x r]
    have e3 : (k + 1) * x ^ k * (2 * (r * x)) = 2 * ((k + 1) * (x ^ k * (r * x))) := by rw [Nat.mul_left_comm, Nat.mul_assoc]
    have e4 : (k + 1) * x ^ k * (r * r + x * x) = (k + 1) * (x ^ k * (r * r)) + (k + 1) * (x ^ k * (x * x)) := by rw [Nat.mul_add, Nat.mul_assoc, Nat.mul_assoc]
    have e5 : r * x ^ (k + 1) = x ^ k * (r * x) := by rw [Nat.pow_succ, Nat.mul_left_comm]
    have e6 : x ^ (k + 1 + 1) = x ^ k * (x * x) := by rw [Nat.pow_succ, Nat.pow_succ, Nat.mul_assoc]
    rw [e1, e2] at ih
    rw [e3, e4] at sq2
    rw [e5, e6]
    generalize x ^ k * (r * r) = A at *
    generalize x ^ k * (r * x) = B at *
    generalize x ^ k * (x * x) = C at *
    generalize r ^ (k + 1 + 1) = R at *
    simp only [Nat.add_mul, Nat.one_mul] at *
    generalize k * A = kA at *
    generalize k * B = kB at *
    generalize k * C = kC at *
    omega
theorem newtonk_ge {n r x k : Nat} (h : r ^ (k + 1) ≤ n) (hx : 0 < x) : r ≤ (k * x + n / x ^ k) / (k + 1) := by
  rw [Nat.le_div_iff_mul_le (by omega)]
  have hp : 0 < x ^ k := Nat.pow_pos hx
  rcases Nat.lt_or_ge (k * x) (r * (k + 1)) with h1 | h1
  · have h2 : r * (k + 1) - k * x ≤ n / x ^ k := by
      refine (Nat.le_div_iff_mul_le hp).mpr (Nat.le_trans ?_ h)
      have := amgm r x k
      rw [Nat.sub_mul]
      have e1 : r * (k + 1) * x ^ k = (k + 1) * (r * x ^ k) := by rw [Nat.mul_right_comm, Nat.mul_comm]
      have e2 : k * x * x ^ k = k * x ^ (k + 1) := by rw [Nat.mul_assoc, Nat.pow_succ, Nat.mul_comm x]
      rw [e1, e2]
      omega
    generalize n / x ^ k = q at *
    omega
  · generalize n / x ^ k = q at *
    omega
theorem newtonk_stop {n r x k : Nat} (h2 : n < (r + 1) ^ (k + 1)) (hx : 0 < x) (hr : r ≤ x) (h : x ≤ n / x ^ k) : x = r := by
  have h4 : x ^ (k + 1) ≤ n := by rw [Nat.pow_succ, Nat.mul_comm]; exact (Nat.le_div_iff_mul_le (Nat.pow_pos hx)).mp h
  rcases Nat.lt_or_ge r x with q | q
  · have := Nat.pow_le_pow_left (show r + 1 ≤ x from q) (k + 1)
    omega
  · omega
theorem root_ex (n k : Nat) : ∃ r, r ^ (k + 1) ≤ n ∧ n < (r + 1) ^ (k + 1) := by
  induction n with
  | zero => exact ⟨0, by rw [Nat.zero_pow (by omega)]; exact Nat.le_refl _, by rw [Nat.zero_add, Nat.one_pow]; decide⟩
  | succ n ih =>
    obtain ⟨r, h1, h2⟩ := ih
    by_cases h : n + 1 < (r + 1) ^ (k + 1)
    · exact ⟨r, by omega, h⟩
    · refine ⟨r + 1, by omega, ?_⟩
      have : (r + 1) ^ (k + 1) < (r + 1 + 1) ^ (k + 1) := Nat.pow_lt_pow_left (by omega) (by omega)
      omega
def rootMS (sq lg : Addr) : MS := (.seq (.ite (.cmp .eq (.var 1) (.int 1)) (.seq (.ite (.tv (.var 2)) (.seq (.ret (.tup (.cons (.var 0) (.cons (.var 0) .nil)))) .skip) (.seq (.ret (.var 0)) .skip)) .skip) (.seq (.ite (.cmp .eq (.var 1) (.int 2)) (.seq (.asg 3 (.call sq (.cons (.var 0) .nil))) (.seq (.ite (.tv (.var 2)) (.seq (.ret (.tup (.cons (.var 3) (.cons (.bin .pow (.var 3) (.int 2)) .nil)))) .skip) (.seq (.ret (.var 3)) .skip)) .skip)) .skip) .skip)) (.seq (.ite (.cmp .le (.var 0) (.int 0)) (.seq (.ite (.cmp .eq (.int 0) (.var 0)) (.seq (.ite (.tv (.var 2)) (.seq (.ret (.tup (.cons (.int 0) (.cons (.int 0) .nil)))) .skip) (.seq (.ret (.int 0)) .skip)) .skip) (.seq (.ite (.cmp .eq (.int 0) (.bin .band (.var 1) (.int 1))) (.seq (.raiseF "ValueError" (.cons (.var 0) (.cons (.var 1) .nil))) .skip) (.seq (.asg 4 (.neg (.int 1))) (.seq (.asg 0 (.neg (.var 0))) .skip))) .skip)) .skip) (.seq (.asg 4 (.int 1)) .skip)) (.seq (.unp [5, 6] (.dvm (.bin .add (.call lg (.cons (.var 0) .nil)) (.int 1)) (.var 1))) (.seq (.ite (.cmp .ne (.int 0) (.var 6)) (.seq (.aug 5 .add (.int 1)) .skip) .skip) (.seq (.asg 7 (.bin .shr (.var 0) (.bin .mul (.var 5) (.bin .sub (.var 1) (.int 1))))) (.seq (.asg 8 (.bin .shl (.int 1) (.var 5))) (.seq (.whil (.tv (.bool true)) (.seq (.aug 8 .add (.bin .fdiv (.bin .sub (.var 7) (.var 8)) (.var 1))) (.seq (.asg 9 (.bin .pow (.var 8) (.bin .sub (.var 1) (.int 1)))) (.seq (.asg 7 (.bin .fdiv (.var 0) (.var 9))) (.seq (.ite (.cmp .le (.var 8) (.var 7)) (.seq .brk .skip) .skip) .skip)))) .skip) (.seq (.ite (.cmp .lt (.var 4) (.int 0)) (.seq (.asg 8 (.neg (.var 8))) .skip) .skip) (.seq (.ite (.tv (.var 2)) (.seq (.ret (.tup (.cons (.var 8) (.cons (.bin .mul (.var 8) (.var 9)) .nil)))) .skip) (.seq (.ret (.var 8)) .skip)) .skip)))))))))
def RetR (b : Bool) (r p : Int) (hp : HP) (Q : V → HP → Prop) : Prop := match b with
  | true => ∀ q h', h' q = some (.tup [.int r, .int p]) → Upto [] hp h' → Q (.ref q) h'
  | false => ∀ h', Upto [] hp h' → Q (.int r) h'
theorem root1 {g : G} {d : Nat} {hp : HP} {sq lg : Addr} {n : Int} {b : Bool} {Q : V → HP → Prop} {X : XT} (hQ : RetR b n n hp Q) :
    exec g d (rootMS sq lg) [.int n, .int 1, .bool b, .unb, .unb, .unb, .unb, .unb, .unb, .unb] hp (retQ Q) X := by
  refine ⟨fun _ => ?_, fun t => absurd (ceq_f.mp t) (by simp)⟩
  cases b with
  | true => exact ⟨fun _ => ⟨by simp [sizeLine_eq], fun q nq => hQ q _ hset_same (.new nq)⟩, (fun t => nomatch t)⟩
  | false => exact ⟨(fun t => nomatch t), fun _ => hQ _ .refl⟩
theorem root2 {g : G} {d : Nat} {hp : HP} {sq lg : Addr} {n r : Nat} {b : Bool} (h1 : r ^ 2 ≤ n) (h2 : n < (r + 1) ^ 2) (hn : n < 2 ^ 12900)
    (hsq : ∀ (Q : V → HP → Prop) (X : XC), (∀ h', Upto [] hp h' → Q (.int r) h') → Calls g d sq [.int n] [] hp Q X) {Q : V → HP → Prop} {X : XT} (hQ : RetR b r (r ^ 2 : Nat) hp Q) :
    exec g d (rootMS sq lg) [.int n, .int 2, .bool b, .unb, .unb, .unb, .unb, .unb, .unb, .unb] hp (retQ Q) X := by
  refine ⟨fun t => absurd (ceq_t.mp t) (by decide), fun _ => ⟨fun _ => ?_, fun t => absurd (ceq_f.mp t) (by simp)⟩⟩
  refine hsq _ _ fun h' u => ?_
  have hr : r < 2 ^ 12901 := by
    rcases Nat.lt_or_ge r (2 ^ 12901) with q | q
    · exact q
    · exfalso
      have h3 : 2 ^ 12900 ≤ 2 ^ 12901 := Nat.pow_le_pow_right (by decide) (by decide)
      have h4 : 0 < 2 ^ 12901 := Nat.pow_pos (by decide)
      have h5 : r ≤ r ^ 2 := by rw [Nat.pow_two]; exact Nat.le_mul_of_pos_left r (by generalize 2 ^ 12901 = z at *; omega)
      generalize 2 ^ 12901 = z at *
      generalize 2 ^ 12900 = y at *
      omega
  cases b with
  | true =>
    refine ⟨fun _ => ⟨⟨by decide, ?_⟩, by simp [sizeLine_eq], fun q nq => ?_⟩, (fun t => nomatch t)⟩
    · have := (BdN hr).bits; omega
    · have e : intOp (r : Int) 2 .pow = ((r ^ 2 : Nat) : Int) := by show (r : Int) ^ (2 : Int).toNat = _; push_cast; rfl
      rw [e]
      exact hQ q _ hset_same (u.trans (.new nq))
  | false => exact ⟨(fun t => nomatch t), fun _ => hQ _ u⟩
theorem root2_neg {g : G} {d : Nat} {hp : HP} {sq lg : Addr} {n : Int} {v : V} {Q : Out → List V → HP → Prop} {X : XT} (hsq : ∀ Q, Calls g d sq [.int n] [] hp Q (dnX X)) :
    exec g d (rootMS sq lg) [.int n, .int 2, v, .unb, .unb, .unb, .unb, .unb, .unb, .unb] hp Q X :=
  ⟨fun t => absurd (ceq_t.mp t) (by decide), fun _ => ⟨fun _ => hsq _, fun t => absurd (ceq_f.mp t) (by simp)⟩⟩
theorem root0 {g : G} {d : Nat} {hp : HP} {sq lg : Addr} {k : Nat} (hk : 3 ≤ k) {b : Bool} {Q : V → HP → Prop} {X : XT} (hQ : RetR b 0 0 hp Q) :
    exec g d (rootMS sq lg) [.int 0, .int k, .bool b, .unb, .unb, .unb, .unb, .unb, .unb, .unb] hp (retQ Q) X := by
  refine ⟨fun t => absurd (ceq_t.mp t) (by omega), fun _ => ⟨fun t => absurd (ceq_t.mp t) (by omega), fun _ => ?_⟩⟩
  refine ⟨fun _ => ⟨fun _ => ?_, fun t => absurd (ceq_f.mp t) (by simp)⟩, fun t => absurd (cle_f.mp t) (by decide)⟩
  cases b with
  | true => exact ⟨fun _ => ⟨by simp [sizeLine_eq], fun q nq => hQ q _ hset_same (.new nq)⟩, (fun t => nomatch t)⟩
  | false => exact ⟨(fun t => nomatch t), fun _ => hQ _ .refl⟩
theorem root_even_neg {g : G} {d : Nat} {hp : HP} {sq lg : Addr} {n : Int} {k : Nat} {v : V} (hk : 3 ≤ k) (hev : k % 2 = 0) (hk2 : k < 1000) (hn : n < 0) (hn2 : n.natAbs < 2 ^ 12900) {Q : Out → List V → HP → Prop} {X : XT} (hX : X (.own "ValueError") hp) :
    exec g d (rootMS sq lg) [.int n, .int k, v, .unb, .unb, .unb, .unb, .unb, .unb, .unb] hp Q X := by
  refine ⟨fun t => absurd (ceq_t.mp t) (by omega), fun _ => ⟨fun t => absurd (ceq_t.mp t) (by omega), fun _ => ?_⟩⟩
  refine ⟨fun _ => ⟨fun t => absurd (ceq_t.mp t) (by omega), fun _ => ⟨trivial, fun _ => ?_, fun t => absurd (ceq_f.mp t) ?_⟩⟩, fun t => absurd (cle_f.mp t) (by omega)⟩
  · exact ⟨Nat.lt_of_lt_of_le hn2 PyProof.Rows.pow_lo, Nat.lt_of_lt_of_le (by rw [Int.natAbs_natCast]; exact Nat.lt_trans hk2 (show 1000 < 2 ^ 12900 from Nat.lt_of_lt_of_le (show 1000 < 2 ^ 10 by decide) (Nat.pow_le_pow_right (by decide) (by decide)))) PyProof.Rows.pow_lo, hX⟩
  · show ¬ (0 : Int) ≠ Builtin.bitAnd k 1
    rw [bitAnd_m1]; omega
def dropN : Nat → MS → MS
  | n + 1, .seq _ r => dropN n r
  | _, m => m
theorem kstep_cast (k x q : Nat) : (x : Int) + ((q : Int) - x).fdiv ((k + 1 : Nat) : Int) = (((k * x + q) / (k + 1) : Nat) : Int) := by
  rw [Int.fdiv_eq_ediv_of_nonneg _ (by omega)]
  have e : (x : Int) + ((q : Int) - x) / ((k + 1 : Nat) : Int) = ((q : Int) - x + ((k + 1 : Nat) : Int) * x) / ((k + 1 : Nat) : Int) := by
    rw [Int.add_mul_ediv_left _ _ (by omega), Int.add_comm]
  rw [e]
  have e2 : (q : Int) - x + ((k + 1 : Nat) : Int) * x = ((k * x + q : Nat) : Int) := by
    push_cast
    rw [Int.add_mul, Int.one_mul]; omega
  rw [e2]; push_cast; rfl
theorem root_main {g : G} {d : Nat} {hp : HP} {sq lg : Addr} {n r k : Nat} {b : Bool} (hk : 2 ≤ k) (hk2 : k < 1000) (h1 : r ^ (k + 1) ≤ n) (h2 : n < (r + 1) ^ (k + 1)) (hn1 : 1 ≤ n) (hn : n < 2 ^ 12900) {sg : Int} (hs : sg = 1 ∨ sg = -1)
    (hlg : ∀ l : Nat, Builtin.Int.intBits (n : Int) = l + 1 → LogOf n 2 l → ∀ (Q : V → HP → Prop) (X : XC), (∀ h', Upto [] hp h' → Q (.int l) h') → Calls g d lg [.int n] [] hp Q X) {Q : V → HP → Prop} {X : XT} (hQ : RetR b (sg * r) (sg * (r ^ (k + 1) : Nat)) hp Q) :
    exec g d (dropN 2 (rootMS sq lg)) [.int n, .int ((k + 1 : Nat) : Int), .bool b, .unb, .int sg, .unb, .unb, .unb, .unb, .unb] hp (retQ Q) X := by
  obtain ⟨l, hl⟩ := log_ex (b := 2) (by decide) hn1
  have hll : l < 12900 := hl.small' hn
  refine hlg l (by have := intBits_log hl; omega) hl _ _ fun h' u => ?_
  refine ⟨trivial, (by show ((k + 1 : Nat) : Int) ≠ 0; omega), fun q nq => ?_⟩
  have ed : intOp (l : Int) 1 .add = ((l + 1 : Nat) : Int) := by rfl
  rw [ed]
  refine ⟨_, hset_same, rfl, ?_⟩
  have e1 : ((l + 1 : Nat) : Int).fdiv ((k + 1 : Nat) : Int) = (((l + 1) / (k + 1) : Nat) : Int) := by rw [Int.fdiv_eq_ediv_of_nonneg _ (by omega)]; push_cast; rfl
  have e2 : ((l + 1 : Nat) : Int).fmod ((k + 1 : Nat) : Int) = (((l + 1) % (k + 1) : Nat) : Int) := by rw [Int.fmod_eq_emod_of_nonneg _ (by omega)]; push_cast; rfl
  rw [e1, e2]
  have u1 : Upto [] hp (hset h' q (.tup [.int (((l + 1) / (k + 1) : Nat) : Int), .int (((l + 1) % (k + 1) : Nat) : Int)])) := u.trans (.new nq)
  generalize hset h' q (.tup [.int (((l + 1) / (k + 1) : Nat) : Int), .int (((l + 1) % (k + 1) : Nat) : Int)]) = h1' at *
  have rest : ∀ E : Nat, l + 1 ≤ E * (k + 1) → E ≤ l + 2 → exec g d (dropN 4 (rootMS sq lg)) [.int n, .int ((k + 1 : Nat) : Int), .bool b, .unb, .int sg, .int E, .int (((l + 1) % (k + 1) : Nat) : Int), .unb, .unb, .unb] h1' (retQ Q) X := by
    intro E hE hE2
    have hbE : Bd 20 (E : Int) := BdN (by omega)
    have hbk : Bd 20 ((k : Nat) : Int) := BdN (by omega)
    have ek : intOp ((k + 1 : Nat) : Int) 1 .sub = (k : Int) := by show ((k + 1 : Nat) : Int) - 1 = _; omega
    refine ⟨trivial, by rw [ek]; exact hbE.mulOk hbk, by rw [ek]; exact Int.mul_nonneg (by omega) (by omega), ⟨by omega, ?_⟩, ?_⟩
    · have : Builtin.Int.intBits 1 = 1 := by decide
      rw [this]; omega
    have eq0 : intOp (n : Int) (intOp (E : Int) (intOp ((k + 1 : Nat) : Int) 1 .sub) .mul) .shr = ((n / (2 ^ E) ^ k : Nat) : Int) := by
      rw [ek]
      show (n : Int).fdiv (2 ^ ((E : Int) * (k : Int)).toNat) = _
      rw [show ((E : Int) * (k : Int)).toNat = E * k by rw [← Int.natCast_mul, Int.toNat_natCast], Int.fdiv_eq_ediv_of_nonneg _ (Int.le_of_lt (Int.pow_pos (by decide))), show (2 : Int) ^ (E * k) = (((2 ^ E) ^ k : Nat) : Int) by rw [← Nat.pow_mul]; push_cast; rfl]
      push_cast; rfl
    have ex0 : intOp 1 (E : Int) .shl = ((2 ^ E : Nat) : Int) := by
      show (1 : Int) * 2 ^ (E : Int).toNat = _
      rw [Int.toNat_natCast, Int.one_mul]; push_cast; rfl
    show exec g d _ [.int n, .int ((k + 1 : Nat) : Int), .bool b, .unb, .int sg, .int E, .int (((l + 1) % (k + 1) : Nat) : Int), .int (intOp (n : Int) (intOp (E : Int) (intOp ((k + 1 : Nat) : Int) 1 .sub) .mul) .shr), .int (intOp 1 (E : Int) .shl), .unb] h1' (retQ Q) X
    rw [eq0, ex0]
    have hx0 : 0 < 2 ^ E := Nat.pow_pos (by decide)
    have hbig : n < (2 ^ E) ^ (k + 1) := by
      rw [← Nat.pow_mul]
      exact Nat.lt_of_lt_of_le hl.hi (Nat.pow_le_pow_right (by decide) hE)
    have hrE : r ≤ 2 ^ E := by
      rcases Nat.lt_or_ge (2 ^ E) r with q | q
      · exfalso
        have := Nat.pow_lt_pow_left q (show k + 1 ≠ 0 by omega)
        omega
      · exact q
    have hr1 : 1 ≤ r := by
      rcases Nat.eq_zero_or_pos r with q | q
      · subst q; simp at h2; omega
      · exact q
    refine ⟨fun i l' h' => ∃ (x q : Nat) (v : V), l' = [.int n, .int ((k + 1 : Nat) : Int), .bool b, .unb, .int sg, .int E, .int (((l + 1) % (k + 1) : Nat) : Int), .int q, .int x, v] ∧ h' = h1' ∧ q = n / x ^ k ∧ q < x ∧ r ≤ x ∧ x ≤ 2 ^ E ∧ i = x,
      ⟨_, 2 ^ E, n / (2 ^ E) ^ k, .unb, rfl, rfl, rfl, ?_, hrE, Nat.le_refl _, rfl⟩, ?_⟩
    · exact (Nat.div_lt_iff_lt_mul (Nat.pow_pos hx0)).mpr (by rw [Nat.mul_comm, ← Nat.pow_succ]; exact hbig)
    rintro i l' h' ⟨x, q, v, rfl, rfl, rfl, hqx, hrx, hxE, rfl⟩
    have hx : 0 < i := by omega
    refine ⟨fun _ => ?_, (fun t => nomatch t)⟩
    refine ⟨trivial, (by show ((k + 1 : Nat) : Int) ≠ 0; omega), trivial, ?_⟩
    have es : intOp (i : Int) (intOp (intOp ((n / i ^ k : Nat) : Int) (i : Int) .sub) ((k + 1 : Nat) : Int) .fdiv) .add = (((k * i + n / i ^ k) / (k + 1) : Nat) : Int) := kstep_cast k i (n / i ^ k)
    have hge := newtonk_ge h1 hx
    have hlt : (k * i + n / i ^ k) / (k + 1) < i := by
      refine (Nat.div_lt_iff_lt_mul (by omega)).mpr ?_
      rw [Nat.mul_add, Nat.mul_one, Nat.mul_comm i k]
      generalize n / i ^ k = q at *
      omega
    show exec g d _ [.int n, .int ((k + 1 : Nat) : Int), .bool b, .unb, .int sg, .int E, .int (((l + 1) % (k + 1) : Nat) : Int), .int (n / i ^ k : Nat), .int (intOp (i : Int) (intOp (intOp ((n / i ^ k : Nat) : Int) (i : Int) .sub) ((k + 1 : Nat) : Int) .fdiv) .add), v] h' _ noX
    rw [es]
    generalize (k * i + n / i ^ k) / (k + 1) = y at *
    have hy : 0 < y := by omega
    have hyb : Bd (E + 1) (y : Int) := BdN (by rw [Nat.pow_succ]; omega)
    refine ⟨trivial, ⟨by rw [ek]; omega, ?_⟩, ?_⟩
    · rw [ek]
      have := hyb.bits
      have h5 : (Builtin.Int.intBits (y : Int) : Int) * (k : Int) ≤ 12903 * 1000 := Int.mul_le_mul (by omega) (by omega) (by omega) (by decide)
      omega
    have ez : intOp (y : Int) (intOp ((k + 1 : Nat) : Int) 1 .sub) .pow = ((y ^ k : Nat) : Int) := by
      rw [ek]
      show (y : Int) ^ (k : Int).toNat = _
      rw [Int.toNat_natCast]; push_cast; rfl
    show exec g d _ [.int n, .int ((k + 1 : Nat) : Int), .bool b, .unb, .int sg, .int E, .int (((l + 1) % (k + 1) : Nat) : Int), .int (n / i ^ k : Nat), .int y, .int (intOp (y : Int) (intOp ((k + 1 : Nat) : Int) 1 .sub) .pow)] h' _ noX
    rw [ez]
    have hyk : 0 < y ^ k := Nat.pow_pos hy
    refine ⟨(by show ((y ^ k : Nat) : Int) ≠ 0; omega), ?_⟩
    have eq1 : intOp (n : Int) ((y ^ k : Nat) : Int) .fdiv = ((n / y ^ k : Nat) : Int) := by
      show (n : Int).fdiv _ = _
      rw [Int.fdiv_eq_ediv_of_nonneg _ (by omega)]; push_cast; rfl
    show exec g d _ [.int n, .int ((k + 1 : Nat) : Int), .bool b, .unb, .int sg, .int E, .int (((l + 1) % (k + 1) : Nat) : Int), .int (intOp (n : Int) ((y ^ k : Nat) : Int) .fdiv), .int y, .int (y ^ k : Nat)] h' _ noX
    rw [eq1]
    refine ⟨fun t => ?_, fun t => ?_⟩
    · have t := Int.ofNat_le.mp (cle_t.mp t)
      have hyr := newtonk_stop h2 hy hge t
      subst hyr
      have hyn : y ^ k ≤ n := Nat.le_trans (Nat.pow_le_pow_right hy (Nat.le_succ k)) h1
      have hBk : Bd 12901 ((y ^ k : Nat) : Int) := (BdN (Nat.lt_of_le_of_lt hyn hn)).mono (by decide)
      have hB13 : Bd 12904 (y : Int) := hyb.mono (by omega)
      have em : (y : Int) * ((y ^ k : Nat) : Int) = ((y ^ (k + 1) : Nat) : Int) := by rw [Nat.pow_succ, Nat.mul_comm]; push_cast; rfl
      rcases hs with rfl | rfl
      · refine ⟨fun q => absurd (clt_t.mp q) (by decide), fun _ => ?_⟩
        rw [Int.one_mul, Int.one_mul] at hQ
        cases b with
        | true =>
          refine ⟨fun _ => ⟨hB13.mulOk hBk, by simp [sizeLine_eq], fun q nq => ?_⟩, (fun t => nomatch t)⟩
          rw [← em] at hQ
          exact hQ q _ hset_same (u1.trans (.new nq))
        | false => exact ⟨(fun t => nomatch t), fun _ => hQ _ u1⟩
      · refine ⟨fun _ => ?_, fun q => absurd (clt_f.mp q) (by decide)⟩
        rw [Int.neg_mul, Int.neg_mul, Int.one_mul, Int.one_mul] at hQ
        cases b with
        | true =>
          refine ⟨fun _ => ⟨hB13.neg.mulOk hBk, by simp [sizeLine_eq], fun q nq => ?_⟩, (fun t => nomatch t)⟩
          rw [← em, ← Int.neg_mul] at hQ
          exact hQ q _ hset_same (u1.trans (.new nq))
        | false => exact ⟨(fun t => nomatch t), fun _ => hQ _ u1⟩
    · have t := Int.ofNat_lt.mp (cle_f.mp t)
      exact ⟨y, hlt, y, n / y ^ k, _, rfl, rfl, rfl, t, hge, by omega, rfl⟩
  refine ⟨fun t => ⟨trivial, ?_⟩, fun t => ?_⟩
  · have := rest ((l + 1) / (k + 1) + 1) ?_ ?_
    · exact this
    · have := Nat.div_add_mod (l + 1) (k + 1)
      have h3 := Nat.mod_lt (l + 1) (show 0 < k + 1 by omega)
      rw [Nat.add_mul, Nat.mul_comm]; omega
    · have := Nat.div_le_self (l + 1) (k + 1); omega
  · have t := cne_f.mp t
    refine rest ((l + 1) / (k + 1)) ?_ ?_
    · have := Nat.div_add_mod (l + 1) (k + 1)
      rw [Nat.mul_comm]; omega
    · have := Nat.div_le_self (l + 1) (k + 1); omega
theorem root_pos {g : G} {d : Nat} {hp : HP} {sq lg : Addr} {n r k : Nat} {b : Bool} (hk : 2 ≤ k) (hk2 : k < 1000) (h1 : r ^ (k + 1) ≤ n) (h2 : n < (r + 1) ^ (k + 1)) (hn1 : 1 ≤ n) (hn : n < 2 ^ 12900)
    (hlg : ∀ l : Nat, Builtin.Int.intBits (n : Int) = l + 1 → LogOf n 2 l → ∀ (Q : V → HP → Prop) (X : XC), (∀ h', Upto [] hp h' → Q (.int l) h') → Calls g d lg [.int n] [] hp Q X) {Q : V → HP → Prop} {X : XT} (hQ : RetR b r (r ^ (k + 1) : Nat) hp Q) :
    exec g d (rootMS sq lg) [.int n, .int ((k + 1 : Nat) : Int), .bool b, .unb, .unb, .unb, .unb, .unb, .unb, .unb] hp (retQ Q) X := by
  refine ⟨fun t => absurd (ceq_t.mp t) (by omega), fun _ => ⟨fun t => absurd (ceq_t.mp t) (by omega), fun _ => ?_⟩⟩
  refine ⟨fun t => absurd (cle_t.mp t) (by omega), fun _ => ?_⟩
  exact root_main (sq := sq) (b := b) hk hk2 h1 h2 hn1 hn (sg := 1) (.inl rfl) hlg (by rw [Int.one_mul, Int.one_mul]; exact hQ)
theorem root_negodd {g : G} {d : Nat} {hp : HP} {sq lg : Addr} {n r k : Nat} {b : Bool} (hk : 2 ≤ k) (hk2 : k < 1000) (hodd : (k + 1) % 2 = 1) (h1 : r ^ (k + 1) ≤ n) (h2 : n < (r + 1) ^ (k + 1)) (hn1 : 1 ≤ n) (hn : n < 2 ^ 12900)
    (hlg : ∀ l : Nat, Builtin.Int.intBits (n : Int) = l + 1 → LogOf n 2 l → ∀ (Q : V → HP → Prop) (X : XC), (∀ h', Upto [] hp h' → Q (.int l) h') → Calls g d lg [.int n] [] hp Q X) {Q : V → HP → Prop} {X : XT} (hQ : RetR b (-(r : Int)) (-((r ^ (k + 1) : Nat) : Int)) hp Q) :
    exec g d (rootMS sq lg) [.int (-(n : Int)), .int ((k + 1 : Nat) : Int), .bool b, .unb, .unb, .unb, .unb, .unb, .unb, .unb] hp (retQ Q) X := by
  refine ⟨fun t => absurd (ceq_t.mp t) (by omega), fun _ => ⟨fun t => absurd (ceq_t.mp t) (by omega), fun _ => ?_⟩⟩
  refine ⟨fun _ => ⟨fun t => absurd (ceq_t.mp t) (by omega), fun _ => ⟨trivial, fun t => absurd (ceq_t.mp t) ?_, fun _ => ?_⟩⟩, fun t => absurd (cle_f.mp t) (by omega)⟩
  · show ¬ (0 : Int) = Builtin.bitAnd ((k + 1 : Nat) : Int) 1
    rw [bitAnd_m1]; omega
  have := root_main (g := g) (d := d) (sq := sq) (X := X) (Q := Q) (b := b) hk hk2 h1 h2 hn1 hn (sg := -1) (.inr rfl) hlg (by rw [Int.neg_mul, Int.neg_mul, Int.one_mul, Int.one_mul]; exact hQ)
  show exec g d (dropN 2 (rootMS sq lg)) [.int (- -(n : Int)), .int ((k + 1 : Nat) : Int), .bool b, .unb, .int (-1), .unb, .unb, .unb, .unb, .unb] hp (retQ Q) X
  rw [Int.neg_neg]
  exact this
set_option maxHeartbeats 8000000 in
open_top hd for PySem.Challenge.rw_xv0001_03
noncomputable abbrev gg (w : World) (mean : ExcName → Option Value) (mg mb : Str → Option Value) : G := ⟨PySem.Challenge.rw_xv0001_03.row.prog, w, hd.heap_39 w.params, hd.view_39, looseW hd.view_39 [(Str.ofString "floorpowerroot"), (Str.ofString "log")], mean, mg, mb⟩
def gt : List (Str × Addr) := [((Str.ofString "floorsqrt"), 21), ((Str.ofString "floorpowerroot"), 29), ((Str.ofString "log"), 37), ((Str.ofString "_log10"), 44), ((Str.ofString "_law_pool"), 51), ((Str.ofString "_law_draw"), 58), ((Str.ofString "_law_great"), 65), ((Str.ofString "_law_power"), 72), ((Str.ofString "_law_is_whole"), 79), ((Str.ofString "_law_refused"), 86), ((Str.ofString "_law_told"), 93), ((Str.ofString "_law_degree_right"), 100), ((Str.ofString "law"), 107)]
def bt : List Str := [(Str.ofString "len"), (Str.ofString "int"), (Str.ofString "list"), (Str.ofString "tuple"), (Str.ofString "abs"), (Str.ofString "min"), (Str.ofString "max"), (Str.ofString "divmod"), (Str.ofString "isinstance"), (Str.ofString "bool"), (Str.ofString "range"), (Str.ofString "ValueError"), (Str.ofString "sorted"), (Str.ofString "set"), (Str.ofString "sum"), (Str.ofString "zip"), (Str.ofString "enumerate"), (Str.ofString "pow"), (Str.ofString "str")]
theorem gt_ok (w) : gtB (hd.heap_39 w) gt = true := by kernel_rfl!
theorem bt_ok (w) : btB (hd.heap_39 w) bt = true := by kernel_rfl!
-- floorsqrt at 21: ['a', 'x', 'y', 'x_new']
def m_floorsqrt : MS := (.seq (.ite (.cmp .lt (.var 0) (.bin .shl (.int 1) (.int 59))) (.seq (.ite (.cmp .lt (.var 0) (.int 0)) (.seq (.raise "ValueError") .skip) .skip) (.seq (.asgN [1, 2] (.cons (.var 0) (.cons (.bin .shr (.bin .add (.var 0) (.int 1)) (.int 1)) .nil))) (.seq (.whil (.cmp .lt (.var 2) (.var 1)) (.seq (.asgN [1, 2] (.cons (.var 2) (.cons (.bin .shr (.bin .add (.var 2) (.bin .fdiv (.var 0) (.var 2))) (.int 1)) .nil))) .skip) .skip) (.seq (.ret (.var 1)) .skip)))) (.seq (.asg 1 (.bin .pow (.int 10) (.bin .add (.bin .shr (.call 37 (.cons (.var 0) (.cons (.int 10) .nil))) (.int 1)) (.int 1)))) (.seq (.whil (.tv (.bool true)) (.seq (.asg 3 (.bin .shr (.bin .add (.var 1) (.bin .fdiv (.var 0) (.var 1))) (.int 1))) (.seq (.ite (.cmp .le (.var 1) (.var 3)) (.seq (.ret (.var 1)) .skip) .skip) (.seq (.asg 1 (.var 3)) .skip))) .skip) .skip))) .skip)
theorem ok_floorsqrt (w) : fnOkB (hd.heap_39 w) 21 = true := by kernel_rfl!
theorem sb_floorsqrt (w mean mg mb) : SB (mkF (gg w mean mg mb) gt bt 21) (bodyAt (hd.heap_39 w.params) 21) m_floorsqrt := sb_of (n := 60) (by kernel_rfl!)
theorem fo_floorsqrt (w mean mg mb) : Fx.Ok (mkF (gg w mean mg mb) gt bt 21) := fok (gt_ok _) (bt_ok _) (by kernel_rfl!)
theorem bd_floorsqrt (w mean mg mb) (a0 : V) : Binds (gg w mean mg mb) 21 [a0] [] [((Str.ofString "a"), a0)] := by
  intro s vals kvals hK hv hkv
  obtain ⟨v0, rfl, h0⟩ := vals1 hv
  obtain rfl : kvals = [] := by simpa using hkv
  refine ⟨[((Str.ofString "a"), v0)], BindsTo.of_eq (by kernel_rfl!), ?_⟩
  subst h0; rfl
theorem call_floorsqrt {w mean mg mb} {a0 : V} {d : Nat} {hp : HP} {Q : V → HP → Prop} {X : XC}
    (h : exec (gg w mean mg mb) d m_floorsqrt [a0, .unb, .unb, .unb] hp (retQ Q) (upX X)) : Calls (gg w mean mg mb) (d + 1) 21 [a0] [] hp Q X :=
  calls_of (fo_floorsqrt w mean mg mb) (ok_floorsqrt w.params) rfl (sb_floorsqrt w mean mg mb) (bd_floorsqrt w mean mg mb a0) (by kernel_rfl!) (by kernel_rfl!) h
-- floorpowerroot at 29: ['n', 'k', 'return_power', 'rslt', 'sign', 'exp', 'rem', 'q', 'x', 'z']
def m_floorpowerroot : MS := (.seq (.ite (.cmp .eq (.var 1) (.int 1)) (.seq (.ite (.tv (.var 2)) (.seq (.ret (.tup (.cons (.var 0) (.cons (.var 0) .nil)))) .skip) (.seq (.ret (.var 0)) .skip)) .skip) (.seq (.ite (.cmp .eq (.var 1) (.int 2)) (.seq (.asg 3 (.call 21 (.cons (.var 0) .nil))) (.seq (.ite (.tv (.var 2)) (.seq (.ret (.tup (.cons (.var 3) (.cons (.bin .pow (.var 3) (.int 2)) .nil)))) .skip) (.seq (.ret (.var 3)) .skip)) .skip)) .skip) .skip)) (.seq (.ite (.cmp .le (.var 0) (.int 0)) (.seq (.ite (.cmp .eq (.int 0) (.var 0)) (.seq (.ite (.tv (.var 2)) (.seq (.ret (.tup (.cons (.int 0) (.cons (.int 0) .nil)))) .skip) (.seq (.ret (.int 0)) .skip)) .skip) (.seq (.ite (.cmp .eq (.int 0) (.bin .band (.var 1) (.int 1))) (.seq (.raiseF "ValueError" (.cons (.var 0) (.cons (.var 1) .nil))) .skip) (.seq (.asg 4 (.neg (.int 1))) (.seq (.asg 0 (.neg (.var 0))) .skip))) .skip)) .skip) (.seq (.asg 4 (.int 1)) .skip)) (.seq (.unp [5, 6] (.dvm (.bin .add (.call 37 (.cons (.var 0) .nil)) (.int 1)) (.var 1))) (.seq (.ite (.cmp .ne (.int 0) (.var 6)) (.seq (.aug 5 .add (.int 1)) .skip) .skip) (.seq (.asg 7 (.bin .shr (.var 0) (.bin .mul (.var 5) (.bin .sub (.var 1) (.int 1))))) (.seq (.asg 8 (.bin .shl (.int 1) (.var 5))) (.seq (.whil (.tv (.bool true)) (.seq (.aug 8 .add (.bin .fdiv (.bin .sub (.var 7) (.var 8)) (.var 1))) (.seq (.asg 9 (.bin .pow (.var 8) (.bin .sub (.var 1) (.int 1)))) (.seq (.asg 7 (.bin .fdiv (.var 0) (.var 9))) (.seq (.ite (.cmp .le (.var 8) (.var 7)) (.seq .brk .skip) .skip) .skip)))) .skip) (.seq (.ite (.cmp .lt (.var 4) (.int 0)) (.seq (.asg 8 (.neg (.var 8))) .skip) .skip) (.seq (.ite (.tv (.var 2)) (.seq (.ret (.tup (.cons (.var 8) (.cons (.bin .mul (.var 8) (.var 9)) .nil)))) .skip) (.seq (.ret (.var 8)) .skip)) .skip)))))))))
theorem ok_floorpowerroot (w) : fnOkB (hd.heap_39 w) 29 = true := by kernel_rfl!
theorem sb_floorpowerroot (w mean mg mb) : SB (mkF (gg w mean mg mb) gt bt 29) (bodyAt (hd.heap_39 w.params) 29) m_floorpowerroot := sb_of (n := 60) (by kernel_rfl!)
theorem fo_floorpowerroot (w mean mg mb) : Fx.Ok (mkF (gg w mean mg mb) gt bt 29) := fok (gt_ok _) (bt_ok _) (by kernel_rfl!)
theorem bd_floorpowerroot2 (w mean mg mb) (a0 : V) (a1 : V) : Binds (gg w mean mg mb) 29 [a0, a1] [] [((Str.ofString "n"), a0), ((Str.ofString "k"), a1), ((Str.ofString "return_power"), .bool false)] := by
  intro s vals kvals hK hv hkv
  obtain ⟨v0, v1, rfl, h0, h1⟩ := vals2 hv
  obtain rfl : kvals = [] := by simpa using hkv
  have hd1 : (fnAt (hd.heap_39 w.params) 29).defaults = .ref 22 := by kernel_rfl!
  refine ⟨[((Str.ofString "n"), v0), ((Str.ofString "k"), v1), ((Str.ofString "return_power"), (.bool false))], BindsTo.of_defaults hd1 (hK 22 ⟨.type "tuple", none, .seq #[(.bool false)] 0, #[]⟩ (by kernel_rfl!)) rfl (by rfl) (by rfl), ?_⟩
  subst h0 h1; rfl
theorem call_floorpowerroot2 {w mean mg mb} {a0 : V} {a1 : V} {d : Nat} {hp : HP} {Q : V → HP → Prop} {X : XC}
    (h : exec (gg w mean mg mb) d m_floorpowerroot [a0, a1, .bool false, .unb, .unb, .unb, .unb, .unb, .unb, .unb] hp (retQ Q) (upX X)) : Calls (gg w mean mg mb) (d + 1) 29 [a0, a1] [] hp Q X :=
  calls_of (fo_floorpowerroot w mean mg mb) (ok_floorpowerroot w.params) rfl (sb_floorpowerroot w mean mg mb) (bd_floorpowerroot2 w mean mg mb a0 a1) (by kernel_rfl!) (by kernel_rfl!) h
theorem bd_floorpowerroot3 (w mean mg mb) (a0 : V) (a1 : V) (a2 : V) : Binds (gg w mean mg mb) 29 [a0, a1, a2] [] [((Str.ofString "n"), a0), ((Str.ofString "k"), a1), ((Str.ofString "return_power"), a2)] := by
  intro s vals kvals hK hv hkv
  obtain ⟨v0, v1, v2, rfl, h0, h1, h2⟩ := vals3 hv
  obtain rfl : kvals = [] := by simpa using hkv
  have hd1 : (fnAt (hd.heap_39 w.params) 29).defaults = .ref 22 := by kernel_rfl!
  refine ⟨[((Str.ofString "n"), v0), ((Str.ofString "k"), v1), ((Str.ofString "return_power"), v2)], BindsTo.of_defaults hd1 (hK 22 ⟨.type "tuple", none, .seq #[(.bool false)] 0, #[]⟩ (by kernel_rfl!)) rfl (by rfl) (by rfl), ?_⟩
  subst h0 h1 h2; rfl
theorem call_floorpowerroot3 {w mean mg mb} {a0 : V} {a1 : V} {a2 : V} {d : Nat} {hp : HP} {Q : V → HP → Prop} {X : XC}
    (h : exec (gg w mean mg mb) d m_floorpowerroot [a0, a1, a2, .unb, .unb, .unb, .unb, .unb, .unb, .unb] hp (retQ Q) (upX X)) : Calls (gg w mean mg mb) (d + 1) 29 [a0, a1, a2] [] hp Q X :=
  calls_of (fo_floorpowerroot w mean mg mb) (ok_floorpowerroot w.params) rfl (sb_floorpowerroot w mean mg mb) (bd_floorpowerroot3 w mean mg mb a0 a1 a2) (by kernel_rfl!) (by kernel_rfl!) h
theorem bd_floorpowerrootk (w mean mg mb) (a0 : V) (a1 : V) (ak : V) : Binds (gg w mean mg mb) 29 [a0, a1] [((Str.ofString "return_power"), ak)] [((Str.ofString "n"), a0), ((Str.ofString "k"), a1), ((Str.ofString "return_power"), ak)] := by
  intro s vals kvals hK hv hkv
  obtain ⟨v0, v1, rfl, h0, h1⟩ := vals2 hv
  obtain ⟨vk, rfl, hk⟩ := kvals1 hkv
  have hd1 : (fnAt (hd.heap_39 w.params) 29).defaults = .ref 22 := by kernel_rfl!
  refine ⟨[((Str.ofString "n"), v0), ((Str.ofString "k"), v1), ((Str.ofString "return_power"), vk)], BindsTo.of_defaults hd1 (hK 22 ⟨.type "tuple", none, .seq #[(.bool false)] 0, #[]⟩ (by kernel_rfl!)) rfl (by rfl) (by rfl), ?_⟩
  subst h0 h1 hk; rfl
theorem call_floorpowerrootk {w mean mg mb} {a0 : V} {a1 : V} {ak : V} {d : Nat} {hp : HP} {Q : V → HP → Prop} {X : XC}
    (h : exec (gg w mean mg mb) d m_floorpowerroot [a0, a1, ak, .unb, .unb, .unb, .unb, .unb, .unb, .unb] hp (retQ Q) (upX X)) : Calls (gg w mean mg mb) (d + 1) 29 [a0, a1] [((Str.ofString "return_power"), ak)] hp Q X :=
  calls_of (fo_floorpowerroot w mean mg mb) (ok_floorpowerroot w.params) rfl (sb_floorpowerroot w mean mg mb) (bd_floorpowerrootk w mean mg mb a0 a1 ak) (by kernel_rfl!) (by kernel_rfl!) h
-- log at 37: ['n', 'base', 'fit', 'result', 'stock', 'next', 'index', 'power', 'prefit']
def m_log : MS := (.seq (.ite (.cmp .lt (.var 0) (.var 1)) (.seq (.ret (.int 0)) .skip) .skip) (.seq (.ite (.cmp .eq (.var 1) (.int 10)) (.seq (.ret (.call 44 (.cons (.var 0) .nil))) .skip) .skip) (.seq (.ite (.cmp .eq (.var 1) (.int 2)) (.seq (.ret (.bin .sub (.bitlen (.var 0)) (.int 1))) .skip) .skip) (.seq (.asg 2 (.var 1)) (.seq (.asg 3 (.int 1)) (.seq (.asg 4 (.list (.cons (.tup (.cons (.var 3) (.cons (.var 2) .nil))) .nil))) (.seq (.whil (.cmp .lt (.var 2) (.var 0)) (.seq (.asg 5 (.bin .pow (.var 2) (.int 2))) (.seq (.ite (.cmp .le (.var 5) (.var 0)) (.seq (.asg 2 (.var 5)) (.seq (.aug 3 .add (.var 3)) (.seq (.expr (.app (.var 4) (.tup (.cons (.var 3) (.cons (.var 2) .nil))))) .skip))) (.seq .brk .skip)) .skip)) (.seq (.ret (.var 3)) .skip)) (.seq (.expr (.rev (.var 4))) (.seq (.forU [6, 7] (.var 4) (.seq (.asg 8 (.bin .mul (.var 2) (.var 7))) (.seq (.ite (.cmp .eq (.var 8) (.var 0)) (.seq (.aug 3 .add (.var 6)) (.seq .brk .skip)) (.seq (.ite (.cmp .lt (.var 8) (.var 0)) (.seq (.asg 2 (.var 8)) (.seq (.aug 3 .add (.var 6)) .skip)) .skip) .skip)) .skip))) (.seq (.ret (.var 3)) .skip))))))))))
theorem ok_log (w) : fnOkB (hd.heap_39 w) 37 = true := by kernel_rfl!
theorem sb_log (w mean mg mb) : SB (mkF (gg w mean mg mb) gt bt 37) (bodyAt (hd.heap_39 w.params) 37) m_log := sb_of (n := 60) (by kernel_rfl!)
theorem fo_log (w mean mg mb) : Fx.Ok (mkF (gg w mean mg mb) gt bt 37) := fok (gt_ok _) (bt_ok _) (by kernel_rfl!)
theorem bd_log1 (w mean mg mb) (a0 : V) : Binds (gg w mean mg mb) 37 [a0] [] [((Str.ofString "n"), a0), ((Str.ofString "base"), .int 2)] := by
  intro s vals kvals hK hv hkv
  obtain ⟨v0, rfl, h0⟩ := vals1 hv
  obtain rfl : kvals = [] := by simpa using hkv
  have hd1 : (fnAt (hd.heap_39 w.params) 37).defaults = .ref 30 := by kernel_rfl!
  refine ⟨[((Str.ofString "n"), v0), ((Str.ofString "base"), (.int 2 215))], BindsTo.of_defaults hd1 (hK 30 ⟨.type "tuple", none, .seq #[(.int 2 215)] 0, #[]⟩ (by kernel_rfl!)) rfl (by rfl) (by rfl), ?_⟩
  subst h0; rfl
theorem call_log1 {w mean mg mb} {a0 : V} {d : Nat} {hp : HP} {Q : V → HP → Prop} {X : XC}
    (h : exec (gg w mean mg mb) d m_log [a0, .int 2, .unb, .unb, .unb, .unb, .unb, .unb, .unb] hp (retQ Q) (upX X)) : Calls (gg w mean mg mb) (d + 1) 37 [a0] [] hp Q X :=
  calls_of (fo_log w mean mg mb) (ok_log w.params) rfl (sb_log w mean mg mb) (bd_log1 w mean mg mb a0) (by kernel_rfl!) (by kernel_rfl!) h
theorem bd_log2 (w mean mg mb) (a0 : V) (a1 : V) : Binds (gg w mean mg mb) 37 [a0, a1] [] [((Str.ofString "n"), a0), ((Str.ofString "base"), a1)] := by
  intro s vals kvals hK hv hkv
  obtain ⟨v0, v1, rfl, h0, h1⟩ := vals2 hv
  obtain rfl : kvals = [] := by simpa using hkv
  have hd1 : (fnAt (hd.heap_39 w.params) 37).defaults = .ref 30 := by kernel_rfl!
  refine ⟨[((Str.ofString "n"), v0), ((Str.ofString "base"), v1)], BindsTo.of_defaults hd1 (hK 30 ⟨.type "tuple", none, .seq #[(.int 2 215)] 0, #[]⟩ (by kernel_rfl!)) rfl (by rfl) (by rfl), ?_⟩
  subst h0 h1; rfl
theorem call_log2 {w mean mg mb} {a0 : V} {a1 : V} {d : Nat} {hp : HP} {Q : V → HP → Prop} {X : XC}
    (h : exec (gg w mean mg mb) d m_log [a0, a1, .unb, .unb, .unb, .unb, .unb, .unb, .unb] hp (retQ Q) (upX X)) : Calls (gg w mean mg mb) (d + 1) 37 [a0, a1] [] hp Q X :=
  calls_of (fo_log w mean mg mb) (ok_log w.params) rfl (sb_log w mean mg mb) (bd_log2 w mean mg mb a0 a1) (by kernel_rfl!) (by kernel_rfl!) h
theorem bd_logk (w mean mg mb) (a0 : V) (ak : V) : Binds (gg w mean mg mb) 37 [a0] [((Str.ofString "base"), ak)] [((Str.ofString "n"), a0), ((Str.ofString "base"), ak)] := by
  intro s vals kvals hK hv hkv
  obtain ⟨v0, rfl, h0⟩ := vals1 hv
  obtain ⟨vk, rfl, hk⟩ := kvals1 hkv
  have hd1 : (fnAt (hd.heap_39 w.params) 37).defaults = .ref 30 := by kernel_rfl!
  refine ⟨[((Str.ofString "n"), v0), ((Str.ofString "base"), vk)], BindsTo.of_defaults hd1 (hK 30 ⟨.type "tuple", none, .seq #[(.int 2 215)] 0, #[]⟩ (by kernel_rfl!)) rfl (by rfl) (by rfl), ?_⟩
  subst h0 hk; rfl
theorem call_logk {w mean mg mb} {a0 : V} {ak : V} {d : Nat} {hp : HP} {Q : V → HP → Prop} {X : XC}
    (h : exec (gg w mean mg mb) d m_log [a0, ak, .unb, .unb, .unb, .unb, .unb, .unb, .unb] hp (retQ Q) (upX X)) : Calls (gg w mean mg mb) (d + 1) 37 [a0] [((Str.ofString "base"), ak)] hp Q X :=
  calls_of (fo_log w mean mg mb) (ok_log w.params) rfl (sb_log w mean mg mb) (bd_logk w mean mg mb a0 ak) (by kernel_rfl!) (by kernel_rfl!) h
-- _log10 at 44: ['n']
def m_log10 : MS := (.seq (.ret (.bin .sub (.len (.strOf (.var 0))) (.int 1))) .skip)
theorem ok_log10 (w) : fnOkB (hd.heap_39 w) 44 = true := by kernel_rfl!
theorem sb_log10 (w mean mg mb) : SB (mkF (gg w mean mg mb) gt bt 44) (bodyAt (hd.heap_39 w.params) 44) m_log10 := sb_of (n := 60) (by kernel_rfl!)
theorem fo_log10 (w mean mg mb) : Fx.Ok (mkF (gg w mean mg mb) gt bt 44) := fok (gt_ok _) (bt_ok _) (by kernel_rfl!)
theorem bd_log10 (w mean mg mb) (a0 : V) : Binds (gg w mean mg mb) 44 [a0] [] [((Str.ofString "n"), a0)] := by
  intro s vals kvals hK hv hkv
  obtain ⟨v0, rfl, h0⟩ := vals1 hv
  obtain rfl : kvals = [] := by simpa using hkv
  refine ⟨[((Str.ofString "n"), v0)], BindsTo.of_eq (by kernel_rfl!), ?_⟩
  subst h0; rfl
theorem call_log10 {w mean mg mb} {a0 : V} {d : Nat} {hp : HP} {Q : V → HP → Prop} {X : XC}
    (h : exec (gg w mean mg mb) d m_log10 [a0] hp (retQ Q) (upX X)) : Calls (gg w mean mg mb) (d + 1) 44 [a0] [] hp Q X :=
  calls_of (fo_log10 w mean mg mb) (ok_log10 w.params) rfl (sb_log10 w mean mg mb) (bd_log10 w mean mg mb a0) (by kernel_rfl!) (by kernel_rfl!) h
-- _law_pool at 51: ['script', 'first', 'size']
theorem ok_l_pool (w) : fnOkB (hd.heap_39 w) 51 = true := by kernel_rfl!
theorem sb_l_pool (w mean mg mb) : SB (mkF (gg w mean mg mb) gt bt 51) (bodyAt (hd.heap_39 w.params) 51) poolMS := sb_of (n := 60) (by kernel_rfl!)
theorem fo_l_pool (w mean mg mb) : Fx.Ok (mkF (gg w mean mg mb) gt bt 51) := fok (gt_ok _) (bt_ok _) (by kernel_rfl!)
theorem bd_l_pool (w mean mg mb) (a0 : V) : Binds (gg w mean mg mb) 51 [a0] [] [((Str.ofString "script"), a0)] := by
  intro s vals kvals hK hv hkv
  obtain ⟨v0, rfl, h0⟩ := vals1 hv
  obtain rfl : kvals = [] := by simpa using hkv
  refine ⟨[((Str.ofString "script"), v0)], BindsTo.of_eq (by kernel_rfl!), ?_⟩
  subst h0; rfl
theorem call_l_pool {w mean mg mb} {a0 : V} {d : Nat} {hp : HP} {Q : V → HP → Prop} {X : XC}
    (h : exec (gg w mean mg mb) d poolMS [a0, .unb, .unb] hp (retQ Q) (upX X)) : Calls (gg w mean mg mb) (d + 1) 51 [a0] [] hp Q X :=
  calls_of (fo_l_pool w mean mg mb) (ok_l_pool w.params) rfl (sb_l_pool w mean mg mb) (bd_l_pool w mean mg mb a0) (by kernel_rfl!) (by kernel_rfl!) h
-- _law_draw at 58: ['pool', 'many', 'cell', 'size', 'found']
theorem ok_l_draw (w) : fnOkB (hd.heap_39 w) 58 = true := by kernel_rfl!
theorem sb_l_draw (w mean mg mb) : SB (mkF (gg w mean mg mb) gt bt 58) (bodyAt (hd.heap_39 w.params) 58) drawMS := sb_of (n := 60) (by kernel_rfl!)
theorem fo_l_draw (w mean mg mb) : Fx.Ok (mkF (gg w mean mg mb) gt bt 58) := fok (gt_ok _) (bt_ok _) (by kernel_rfl!)
theorem bd_l_draw (w mean mg mb) (a0 : V) (a1 : V) : Binds (gg w mean mg mb) 58 [a0, a1] [] [((Str.ofString "pool"), a0), ((Str.ofString "many"), a1)] := by
  intro s vals kvals hK hv hkv
  obtain ⟨v0, v1, rfl, h0, h1⟩ := vals2 hv
  obtain rfl : kvals = [] := by simpa using hkv
  refine ⟨[((Str.ofString "pool"), v0), ((Str.ofString "many"), v1)], BindsTo.of_eq (by kernel_rfl!), ?_⟩
  subst h0 h1; rfl
theorem call_l_draw {w mean mg mb} {a0 : V} {a1 : V} {d : Nat} {hp : HP} {Q : V → HP → Prop} {X : XC}
    (h : exec (gg w mean mg mb) d drawMS [a0, a1, .unb, .unb, .unb] hp (retQ Q) (upX X)) : Calls (gg w mean mg mb) (d + 1) 58 [a0, a1] [] hp Q X :=
  calls_of (fo_l_draw w mean mg mb) (ok_l_draw w.params) rfl (sb_l_draw w mean mg mb) (bd_l_draw w mean mg mb a0 a1) (by kernel_rfl!) (by kernel_rfl!) h
-- _law_great at 65: ['pool', 'most', 'found', 'turn']
def m_l_great : MS := (.seq (.asg 2 (.int 0)) (.seq (.forR 3 (.int 0) (.bin .add (.int 1) (.call 58 (.cons (.var 0) (.cons (.var 1) .nil)))) (.int 1) (.seq (.asg 2 (.bin .add (.bin .mul (.var 2) (.bin .pow (.int 10) (.int 9))) (.call 58 (.cons (.var 0) (.cons (.bin .pow (.int 10) (.int 9)) .nil))))) .skip)) (.seq (.ret (.var 2)) .skip)))
theorem ok_l_great (w) : fnOkB (hd.heap_39 w) 65 = true := by kernel_rfl!
theorem sb_l_great (w mean mg mb) : SB (mkF (gg w mean mg mb) gt bt 65) (bodyAt (hd.heap_39 w.params) 65) m_l_great := sb_of (n := 60) (by kernel_rfl!)
theorem fo_l_great (w mean mg mb) : Fx.Ok (mkF (gg w mean mg mb) gt bt 65) := fok (gt_ok _) (bt_ok _) (by kernel_rfl!)
theorem bd_l_great (w mean mg mb) (a0 : V) (a1 : V) : Binds (gg w mean mg mb) 65 [a0, a1] [] [((Str.ofString "pool"), a0), ((Str.ofString "most"), a1)] := by
  intro s vals kvals hK hv hkv
  obtain ⟨v0, v1, rfl, h0, h1⟩ := vals2 hv
  obtain rfl : kvals = [] := by simpa using hkv
  refine ⟨[((Str.ofString "pool"), v0), ((Str.ofString "most"), v1)], BindsTo.of_eq (by kernel_rfl!), ?_⟩
  subst h0 h1; rfl
theorem call_l_great {w mean mg mb} {a0 : V} {a1 : V} {d : Nat} {hp : HP} {Q : V → HP → Prop} {X : XC}
    (h : exec (gg w mean mg mb) d m_l_great [a0, a1, .unb, .unb] hp (retQ Q) (upX X)) : Calls (gg w mean mg mb) (d + 1) 65 [a0, a1] [] hp Q X :=
  calls_of (fo_l_great w mean mg mb) (ok_l_great w.params) rfl (sb_l_great w mean mg mb) (bd_l_great w mean mg mb a0 a1) (by kernel_rfl!) (by kernel_rfl!) h
-- _law_power at 72: ['base', 'degree', 'found', 'square', 'left', 'turn']
def m_l_power : MS := (.seq (.asgN [2, 3, 4] (.cons (.int 1) (.cons (.var 0) (.cons (.var 1) .nil)))) (.seq (.forR 5 (.int 0) (.int 12) (.int 1) (.seq (.ite (.cmp .eq (.bin .mod (.var 4) (.int 2)) (.int 1)) (.seq (.asg 2 (.bin .mul (.var 2) (.var 3))) .skip) .skip) (.seq (.asgN [3, 4] (.cons (.ite (.cmp .gt (.var 4) (.int 1)) (.bin .mul (.var 3) (.var 3)) (.var 3)) (.cons (.bin .fdiv (.var 4) (.int 2)) .nil))) .skip))) (.seq (.ret (.var 2)) .skip)))
theorem ok_l_power (w) : fnOkB (hd.heap_39 w) 72 = true := by kernel_rfl!
theorem sb_l_power (w mean mg mb) : SB (mkF (gg w mean mg mb) gt bt 72) (bodyAt (hd.heap_39 w.params) 72) m_l_power := sb_of (n := 60) (by kernel_rfl!)
theorem fo_l_power (w mean mg mb) : Fx.Ok (mkF (gg w mean mg mb) gt bt 72) := fok (gt_ok _) (bt_ok _) (by kernel_rfl!)
theorem bd_l_power (w mean mg mb) (a0 : V) (a1 : V) : Binds (gg w mean mg mb) 72 [a0, a1] [] [((Str.ofString "base"), a0), ((Str.ofString "degree"), a1)] := by
  intro s vals kvals hK hv hkv
  obtain ⟨v0, v1, rfl, h0, h1⟩ := vals2 hv
  obtain rfl : kvals = [] := by simpa using hkv
  refine ⟨[((Str.ofString "base"), v0), ((Str.ofString "degree"), v1)], BindsTo.of_eq (by kernel_rfl!), ?_⟩
  subst h0 h1; rfl
theorem call_l_power {w mean mg mb} {a0 : V} {a1 : V} {d : Nat} {hp : HP} {Q : V → HP → Prop} {X : XC}
    (h : exec (gg w mean mg mb) d m_l_power [a0, a1, .unb, .unb, .unb, .unb] hp (retQ Q) (upX X)) : Calls (gg w mean mg mb) (d + 1) 72 [a0, a1] [] hp Q X :=
  calls_of (fo_l_power w mean mg mb) (ok_l_power w.params) rfl (sb_l_power w mean mg mb) (bd_l_power w mean mg mb a0 a1) (by kernel_rfl!) (by kernel_rfl!) h
-- _law_is_whole at 79: ['thing']
def m_l_is_whole : MS := (.seq (.ret (.and (.isi (.var 0) .int) (.not (.isi (.var 0) .bool)))) .skip)
theorem ok_l_is_whole (w) : fnOkB (hd.heap_39 w) 79 = true := by kernel_rfl!
theorem sb_l_is_whole (w mean mg mb) : SB (mkF (gg w mean mg mb) gt bt 79) (bodyAt (hd.heap_39 w.params) 79) m_l_is_whole := sb_of (n := 60) (by kernel_rfl!)
theorem fo_l_is_whole (w mean mg mb) : Fx.Ok (mkF (gg w mean mg mb) gt bt 79) := fok (gt_ok _) (bt_ok _) (by kernel_rfl!)
theorem bd_l_is_whole (w mean mg mb) (a0 : V) : Binds (gg w mean mg mb) 79 [a0] [] [((Str.ofString "thing"), a0)] := by
  intro s vals kvals hK hv hkv
  obtain ⟨v0, rfl, h0⟩ := vals1 hv
  obtain rfl : kvals = [] := by simpa using hkv
  refine ⟨[((Str.ofString "thing"), v0)], BindsTo.of_eq (by kernel_rfl!), ?_⟩
  subst h0; rfl
theorem call_l_is_whole {w mean mg mb} {a0 : V} {d : Nat} {hp : HP} {Q : V → HP → Prop} {X : XC}
    (h : exec (gg w mean mg mb) d m_l_is_whole [a0] hp (retQ Q) (upX X)) : Calls (gg w mean mg mb) (d + 1) 79 [a0] [] hp Q X :=
  calls_of (fo_l_is_whole w mean mg mb) (ok_l_is_whole w.params) rfl (sb_l_is_whole w mean mg mb) (bd_l_is_whole w mean mg mb a0) (by kernel_rfl!) (by kernel_rfl!) h
-- _law_refused at 86: ['n', 'k', 'many', 'is_asked']
def m_l_refused : MS := (.seq (.asg 2 (.int 0)) (.seq (.forL 3 (.list (.cons (.bool false) (.cons (.bool true) .nil))) (.seq (.tryE .expr (.call 29 (.cons (.var 0) (.cons (.var 1) (.cons (.var 3) .nil)))) "ValueError" (.inc 2 1)) .skip)) (.seq (.ret (.cmp .eq (.var 2) (.int 2))) .skip)))
theorem ok_l_refused (w) : fnOkB (hd.heap_39 w) 86 = true := by kernel_rfl!
theorem sb_l_refused (w mean mg mb) : SB (mkF (gg w mean mg mb) gt bt 86) (bodyAt (hd.heap_39 w.params) 86) m_l_refused := sb_of (n := 60) (by kernel_rfl!)
theorem fo_l_refused (w mean mg mb) : Fx.Ok (mkF (gg w mean mg mb) gt bt 86) := fok (gt_ok _) (bt_ok _) (by kernel_rfl!)
theorem bd_l_refused (w mean mg mb) (a0 : V) (a1 : V) : Binds (gg w mean mg mb) 86 [a0, a1] [] [((Str.ofString "n"), a0), ((Str.ofString "k"), a1)] := by
  intro s vals kvals hK hv hkv
  obtain ⟨v0, v1, rfl, h0, h1⟩ := vals2 hv
  obtain rfl : kvals = [] := by simpa using hkv
  refine ⟨[((Str.ofString "n"), v0), ((Str.ofString "k"), v1)], BindsTo.of_eq (by kernel_rfl!), ?_⟩
  subst h0 h1; rfl
theorem call_l_refused {w mean mg mb} {a0 : V} {a1 : V} {d : Nat} {hp : HP} {Q : V → HP → Prop} {X : XC}
    (h : exec (gg w mean mg mb) d m_l_refused [a0, a1, .unb, .unb] hp (retQ Q) (upX X)) : Calls (gg w mean mg mb) (d + 1) 86 [a0, a1] [] hp Q X :=
  calls_of (fo_l_refused w mean mg mb) (ok_l_refused w.params) rfl (sb_l_refused w mean mg mb) (bd_l_refused w mean mg mb a0 a1) (by kernel_rfl!) (by kernel_rfl!) h
-- _law_told at 93: ['n', 'k', 'root', 'power', 'one', 'pair']
def m_l_told : MS := (.seq (.asgN [4, 5] (.cons (.call 29 (.cons (.var 0) (.cons (.var 1) .nil))) (.cons (.callk 29 (.cons (.var 0) (.cons (.var 1) .nil)) "return_power" (.bool true)) .nil))) (.seq (.ite (.or (.not (.tv (.call 79 (.cons (.var 4) .nil)))) (.or (.cmp .ne (.var 4) (.var 2)) (.cmp .ne (.call 29 (.cons (.var 0) (.cons (.var 1) (.cons (.bool false) .nil)))) (.var 2)))) (.seq (.ret (.bool false)) .skip) .skip) (.seq (.ite (.or (.not (.tv (.isi (.var 5) .tuple))) (.or (.cmp .ne (.len (.var 5)) (.int 2)) (.or (.not (.tv (.call 79 (.cons (.idx (.var 5) (.int 0)) .nil)))) (.not (.tv (.call 79 (.cons (.idx (.var 5) (.int 1)) .nil))))))) (.seq (.ret (.bool false)) .skip) .skip) (.seq (.ret (.cmp .eq (.var 5) (.tup (.cons (.var 2) (.cons (.var 3) .nil))))) .skip))))
theorem ok_l_told (w) : fnOkB (hd.heap_39 w) 93 = true := by kernel_rfl!
theorem sb_l_told (w mean mg mb) : SB (mkF (gg w mean mg mb) gt bt 93) (bodyAt (hd.heap_39 w.params) 93) m_l_told := sb_of (n := 60) (by kernel_rfl!)
theorem fo_l_told (w mean mg mb) : Fx.Ok (mkF (gg w mean mg mb) gt bt 93) := fok (gt_ok _) (bt_ok _) (by kernel_rfl!)
theorem bd_l_told (w mean mg mb) (a0 : V) (a1 : V) (a2 : V) (a3 : V) : Binds (gg w mean mg mb) 93 [a0, a1, a2, a3] [] [((Str.ofString "n"), a0), ((Str.ofString "k"), a1), ((Str.ofString "root"), a2), ((Str.ofString "power"), a3)] := by
  intro s vals kvals hK hv hkv
  obtain ⟨v0, v1, v2, v3, rfl, h0, h1, h2, h3⟩ := vals4 hv
  obtain rfl : kvals = [] := by simpa using hkv
  refine ⟨[((Str.ofString "n"), v0), ((Str.ofString "k"), v1), ((Str.ofString "root"), v2), ((Str.ofString "power"), v3)], BindsTo.of_eq (by kernel_rfl!), ?_⟩
  subst h0 h1 h2 h3; rfl
theorem call_l_told {w mean mg mb} {a0 : V} {a1 : V} {a2 : V} {a3 : V} {d : Nat} {hp : HP} {Q : V → HP → Prop} {X : XC}
    (h : exec (gg w mean mg mb) d m_l_told [a0, a1, a2, a3, .unb, .unb] hp (retQ Q) (upX X)) : Calls (gg w mean mg mb) (d + 1) 93 [a0, a1, a2, a3] [] hp Q X :=
  calls_of (fo_l_told w mean mg mb) (ok_l_told w.params) rfl (sb_l_told w mean mg mb) (bd_l_told w mean mg mb a0 a1 a2 a3) (by kernel_rfl!) (by kernel_rfl!) h
-- _law_degree_right at 100: ['pool', 'k', 'base', 'power', 'above', 'room', 'more', 'n']
def m_l_degree_right : MS := (.seq (.asgN [3, 4] (.cons (.call 72 (.cons (.var 2) (.cons (.var 1) .nil))) (.cons (.call 72 (.cons (.bin .add (.var 2) (.int 1)) (.cons (.var 1) .nil))) .nil))) (.seq (.asg 5 (.bin .sub (.bin .sub (.var 4) (.var 3)) (.int 1))) (.seq (.forL 6 (.list (.cons (.int 0) (.cons (.mn (.int 1) (.var 5)) (.cons (.var 5) (.cons (.call 58 (.cons (.var 0) (.cons (.bin .add (.var 5) (.int 1)) .nil))) .nil))))) (.seq (.asg 7 (.bin .add (.var 3) (.var 6))) (.seq (.ite (.cmp .eq (.var 1) (.int 1)) (.seq (.ite (.or (.not (.tv (.call 93 (.cons (.var 7) (.cons (.int 1) (.cons (.var 7) (.cons (.var 7) .nil))))))) (.not (.tv (.call 93 (.cons (.bin .sub (.int 0) (.var 7)) (.cons (.int 1) (.cons (.bin .sub (.int 0) (.var 7)) (.cons (.bin .sub (.int 0) (.var 7)) .nil)))))))) (.seq (.ret (.bool false)) .skip) .skip) .skip) (.seq (.ite (.not (.tv (.call 93 (.cons (.var 7) (.cons (.var 1) (.cons (.var 2) (.cons (.var 3) .nil))))))) (.seq (.ret (.bool false)) .skip) (.seq (.ite (.and (.cmp .eq (.bin .mod (.var 1) (.int 2)) (.int 1)) (.not (.tv (.call 93 (.cons (.bin .sub (.int 0) (.var 7)) (.cons (.var 1) (.cons (.bin .sub (.int 0) (.var 2)) (.cons (.bin .sub (.int 0) (.var 3)) .nil)))))))) (.seq (.ret (.bool false)) .skip) (.seq (.ite (.and (.cmp .eq (.bin .mod (.var 1) (.int 2)) (.int 0)) (.not (.tv (.call 86 (.cons (.bin .sub (.int 0) (.var 7)) (.cons (.var 1) .nil)))))) (.seq (.ret (.bool false)) .skip) .skip) .skip)) .skip)) .skip)) .skip))) (.seq (.ret (.call 93 (.cons (.int 0) (.cons (.var 1) (.cons (.int 0) (.cons (.int 0) .nil)))))) .skip))))
theorem ok_l_degree_right (w) : fnOkB (hd.heap_39 w) 100 = true := by kernel_rfl!
theorem sb_l_degree_right (w mean mg mb) : SB (mkF (gg w mean mg mb) gt bt 100) (bodyAt (hd.heap_39 w.params) 100) m_l_degree_right := sb_of (n := 60) (by kernel_rfl!)
theorem fo_l_degree_right (w mean mg mb) : Fx.Ok (mkF (gg w mean mg mb) gt bt 100) := fok (gt_ok _) (bt_ok _) (by kernel_rfl!)
theorem bd_l_degree_right (w mean mg mb) (a0 : V) (a1 : V) (a2 : V) : Binds (gg w mean mg mb) 100 [a0, a1, a2] [] [((Str.ofString "pool"), a0), ((Str.ofString "k"), a1), ((Str.ofString "base"), a2)] := by
  intro s vals kvals hK hv hkv
  obtain ⟨v0, v1, v2, rfl, h0, h1, h2⟩ := vals3 hv
  obtain rfl : kvals = [] := by simpa using hkv
  refine ⟨[((Str.ofString "pool"), v0), ((Str.ofString "k"), v1), ((Str.ofString "base"), v2)], BindsTo.of_eq (by kernel_rfl!), ?_⟩
  subst h0 h1 h2; rfl
theorem call_l_degree_right {w mean mg mb} {a0 : V} {a1 : V} {a2 : V} {d : Nat} {hp : HP} {Q : V → HP → Prop} {X : XC}
    (h : exec (gg w mean mg mb) d m_l_degree_right [a0, a1, a2, .unb, .unb, .unb, .unb, .unb] hp (retQ Q) (upX X)) : Calls (gg w mean mg mb) (d + 1) 100 [a0, a1, a2] [] hp Q X :=
  calls_of (fo_l_degree_right w mean mg mb) (ok_l_degree_right w.params) rfl (sb_l_degree_right w mean mg mb) (bd_l_degree_right w mean mg mb a0 a1 a2) (by kernel_rfl!) (by kernel_rfl!) h
-- law at 107: ['script', 'pool', 'turn', 'begin', 'many', 'k', 'most', 'base']
def m_law : MS := (.seq (.asg 1 (.call 51 (.cons (.var 0) .nil))) (.seq (.forR 2 (.int 0) (.int 2) (.int 1) (.seq (.unp [3, 4] (.idx (.list (.cons (.tup (.cons (.int 1) (.cons (.int 12) .nil))) (.cons (.tup (.cons (.int 2) (.cons (.int 4) .nil))) (.cons (.tup (.cons (.int 3) (.cons (.int 9) .nil))) (.cons (.tup (.cons (.int 13) (.cons (.int 48) .nil))) .nil))))) (.call 58 (.cons (.var 1) (.cons (.int 4) .nil))))) (.seq (.asg 5 (.bin .add (.var 3) (.call 58 (.cons (.var 1) (.cons (.var 4) .nil))))) (.seq (.ite (.and (.cmp .gt (.idx (.var 1) (.int 0)) (.int 0)) (.cmp .eq (.call 58 (.cons (.var 1) (.cons (.int 6) .nil))) (.int 0))) (.seq (.asg 5 (.bin .add (.int 61) (.call 58 (.cons (.var 1) (.cons (.int 140) .nil))))) .skip) .skip) (.seq (.asg 6 (.bin .fdiv (.int 900) (.var 5))) (.seq (.asg 7 (.bin .add (.int 1) (.call 58 (.cons (.var 1) (.cons (.ite (.cmp .gt (.var 6) (.int 9)) (.bin .pow (.int 10) (.int 9)) (.int 99)) .nil))))) (.seq (.ite (.and (.cmp .gt (.var 6) (.int 18)) (.cmp .eq (.call 58 (.cons (.var 1) (.cons (.int 2) .nil))) (.int 0))) (.seq (.asg 7 (.bin .add (.int 1) (.call 65 (.cons (.var 1) (.cons (.bin .fdiv (.var 6) (.int 9)) .nil))))) .skip) .skip) (.seq (.ite (.not (.tv (.call 100 (.cons (.var 1) (.cons (.var 5) (.cons (.var 7) .nil)))))) (.seq (.ret (.bool false)) .skip) .skip) .skip)))))))) (.seq (.ret (.and (.call 100 (.cons (.var 1) (.cons (.int 3) (.cons (.bin .add (.int 1) (.call 58 (.cons (.var 1) (.cons (.int 40) .nil)))) .nil)))) (.call 100 (.cons (.var 1) (.cons (.int 2) (.cons (.bin .add (.int 1) (.call 58 (.cons (.var 1) (.cons (.int 40) .nil)))) .nil)))))) .skip)))
theorem ok_law (w) : fnOkB (hd.heap_39 w) 107 = true := by kernel_rfl!
theorem sb_law (w mean mg mb) : SB (mkF (gg w mean mg mb) gt bt 107) (bodyAt (hd.heap_39 w.params) 107) m_law := sb_of (n := 60) (by kernel_rfl!)
theorem fo_law (w mean mg mb) : Fx.Ok (mkF (gg w mean mg mb) gt bt 107) := fok (gt_ok _) (bt_ok _) (by kernel_rfl!)
theorem draws {w mean mg mb} {d : Nat} : DrawsC (gg w mean mg mb) (d + 1) 58 := fun _ _ _ _ P h _ _ k => call_l_draw (draw_exec P h k)
theorem logC {w mean mg mb} {d : Nat} {hp : HP} {n l : Nat} (h : LogOf n 10 l) (hn10 : 10 ≤ n) (hn : n < 2 ^ 12900) {Q : V → HP → Prop} {X : XC} (hQ : ∀ h', Upto [] hp h' → Q (.int l) h') :
    Calls (gg w mean mg mb) (d + 2) 37 [.int n, .int 10] [] hp Q X := by
  have hl : l < 12900 := (Nat.pow_lt_pow_iff_right (a := 2) (by decide)).mp (Nat.lt_of_le_of_lt (Nat.le_trans (Nat.pow_le_pow_left (by decide) _) h.lo) hn)
  exact call_log2 (log_exec (b := 10) h hn10 hn (fun _ Q X hq => call_log10 (log10_exec h (h.one_le hn10) (by omega) hn hq)) hQ)
theorem logC2 {w mean mg mb} {d : Nat} {hp : HP} {n l : Nat} (h : LogOf n 2 l) (hn : n < 2 ^ 12900) {Q : V → HP → Prop} {X : XC} (hQ : ∀ h', Upto [] hp h' → Q (.int l) h') :
    Calls (gg w mean mg mb) (d + 2) 37 [.int n] [] hp Q X := by
  rcases Nat.lt_or_ge n 2 with q | q
  · have hn1 := h.n1
    have : n = 1 := by omega
    subst this
    have := h.uniq (k := 0) (by decide) (by decide)
    subst this
    exact call_log1 (log_small (by decide) (hQ _ .refl))
  · exact call_log1 (log_exec (b := 2) h q hn (fun e => absurd e (by decide)) hQ)
theorem sqrtC {w mean mg mb} {d : Nat} {hp : HP} {n r : Nat} (h1 : r * r ≤ n) (h2 : n < (r + 1) * (r + 1)) (hn : n < 2 ^ 12900) {Q : V → HP → Prop} {X : XC} (hQ : ∀ h', Upto [] hp h' → Q (.int r) h') :
    Calls (gg w mean mg mb) (d + 3) 21 [.int n] [] hp Q X :=
  call_floorsqrt (sqrt_exec (a := 37) h1 h2 hn (fun _ h10 hl _ _ hq => logC hl h10 hn hq) hQ)
/-- what floorpowerroot tells of n -/
def Tells (w : World) (mean : ExcName → Option Value) (mg mb : Str → Option Value) (d : Nat) (n k root power : Int) : Prop := ∀ (b : Bool) (hp : HP) (Q : V → HP → Prop) (X : XT), RetR b root power hp Q →
  exec (gg w mean mg mb) d m_floorpowerroot [.int n, .int k, .bool b, .unb, .unb, .unb, .unb, .unb, .unb, .unb] hp (retQ Q) X
theorem tells1 {w mean mg mb} {d : Nat} {n : Int} : Tells w mean mg mb d n 1 n n := fun _ _ _ _ h => root1 (sq := 21) (lg := 37) h
theorem tells2 {w mean mg mb} {d : Nat} {n r : Nat} (h1 : r ^ 2 ≤ n) (h2 : n < (r + 1) ^ 2) (hn : n < 2 ^ 12900) : Tells w mean mg mb (d + 3) n 2 r (r ^ 2 : Nat) := fun _ _ _ _ h =>
  root2 (sq := 21) (lg := 37) h1 h2 hn (fun _ _ hq => sqrtC (by rw [← Nat.pow_two]; exact h1) (by rw [← Nat.pow_two]; exact h2) hn hq) h
theorem tells0 {w mean mg mb} {d k : Nat} (hk : 3 ≤ k) : Tells w mean mg mb d 0 k 0 0 := fun _ _ _ _ h => root0 (sq := 21) (lg := 37) hk h
theorem tells3 {w mean mg mb} {d n r k : Nat} (hk : 2 ≤ k) (hk2 : k < 1000) (h1 : r ^ (k + 1) ≤ n) (h2 : n < (r + 1) ^ (k + 1)) (hn1 : 1 ≤ n) (hn : n < 2 ^ 12900) : Tells w mean mg mb (d + 3) n ((k + 1 : Nat) : Int) r (r ^ (k + 1) : Nat) := fun _ _ _ _ h =>
  root_pos (sq := 21) (lg := 37) hk hk2 h1 h2 hn1 hn (fun _ _ hl _ _ hq => logC2 hl hn hq) h
theorem tells3n {w mean mg mb} {d n r k : Nat} (hk : 2 ≤ k) (hk2 : k < 1000) (hodd : (k + 1) % 2 = 1) (h1 : r ^ (k + 1) ≤ n) (h2 : n < (r + 1) ^ (k + 1)) (hn1 : 1 ≤ n) (hn : n < 2 ^ 12900) : Tells w mean mg mb (d + 3) (-(n : Int)) ((k + 1 : Nat) : Int) (-(r : Int)) (-((r ^ (k + 1) : Nat) : Int)) := fun _ _ _ _ h =>
  root_negodd (sq := 21) (lg := 37) hk hk2 hodd h1 h2 hn1 hn (fun _ _ hl _ _ hq => logC2 hl hn hq) h
theorem whole_exec {w mean mg mb} {d : Nat} {hp : HP} {n : Int} {Q : V → HP → Prop} {X : XC} (hQ : Q (.bool true) hp) : Calls (gg w mean mg mb) (d + 1) 79 [.int n] [] hp Q X :=
  call_l_is_whole ⟨fun _ => hQ, (fun t => nomatch t)⟩
theorem told_exec {w mean mg mb} {d : Nat} {hp : HP} {n k root power : Int} (T : Tells w mean mg mb d n k root power) {Q : V → HP → Prop} {X : XT} (hQ : ∀ h', Upto [] hp h' → Q (.bool true) h') :
    exec (gg w mean mg mb) (d + 1) m_l_told [.int n, .int k, .int root, .int power, .unb, .unb] hp (retQ Q) X := by
  refine call_floorpowerroot2 (T false _ _ _ fun h1 u1 => ?_)
  refine call_floorpowerrootk (T true _ _ _ fun q h2 e2 u2 => ?_)
  refine whole_exec ⟨(fun t => nomatch t), fun _ => ⟨fun t => absurd (cne_t.mp t) (fun z => z rfl), fun _ => ?_⟩⟩
  refine call_floorpowerroot3 (T false _ _ _ fun h3 u3 => ?_)
  have e3 := u3.at e2
  refine ⟨fun t => absurd (cne_t.mp t) (fun z => z rfl), fun _ => ?_⟩
  refine .inr ⟨_, e3, (fun t => nomatch t), fun _ => ?_⟩
  refine ⟨[root, power].map .int, by rw [e3]; rfl, by simp, fun t => absurd (cne_t.mp t) (by simp), fun _ => ?_⟩
  refine idxE rfl rfl (vs := [root, power].map .int) (by rw [e3]; rfl) (by simp) (by decide) rfl ?_
  refine whole_exec ⟨(fun t => nomatch t), fun _ => ?_⟩
  refine idxE rfl rfl (vs := [root, power].map .int) (by rw [e3]; rfl) (by simp) (by decide) rfl ?_
  refine whole_exec ⟨(fun t => nomatch t), fun _ => ?_⟩
  refine ⟨by simp [sizeLine_eq], fun q4 nq4 => ?_⟩
  refine cmpT_eq (ns := [root, power]) (ms := [root, power]) ((Upto.new (S := []) nq4).at e3) hset_same rfl ?_
  exact hQ _ (((u1.trans u2).trans u3).trans (.new nq4))
theorem refused_exec {w mean mg mb} {d : Nat} {hp : HP} {n k : Int} (T : ∀ (b : Bool) (hp : HP) (Q : V → HP → Prop) (X : XT), X (.own "ValueError") hp → X (.up "ValueError") hp → exec (gg w mean mg mb) d m_floorpowerroot [.int n, .int k, .bool b, .unb, .unb, .unb, .unb, .unb, .unb, .unb] hp (retQ Q) X)
    {Q : V → HP → Prop} {X : XT} (hQ : ∀ h', Upto [] hp h' → Q (.bool true) h') :
    exec (gg w mean mg mb) (d + 1) m_l_refused [.int n, .int k, .unb, .unb] hp (retQ Q) X := by
  refine ⟨by simp [sizeLine_eq], fun q nq => ?_⟩
  have e : hset hp q (.list [.bool false, .bool true]) q = some (.list [.bool false, .bool true]) := hset_same
  refine ⟨[.bool false, .bool true], by rw [e]; rfl, by simp, ?_⟩
  refine ⟨fun i l h => ∃ x, l = [.int n, .int k, .int i, x] ∧ h = hset hp q (.list [.bool false, .bool true]), ⟨_, rfl, rfl⟩, ?_, ?_⟩
  · rintro i x l h hx ⟨y, rfl, rfl⟩
    have : ∃ b, x = .bool b := by
      have : i = 0 ∨ i = 1 := by
        have := (List.getElem?_eq_some_iff.mp hx).1
        simp only [List.length_cons, List.length_nil] at this
        omega
      rcases this with rfl | rfl <;> (cases hx; exact ⟨_, rfl⟩)
    obtain ⟨b, rfl⟩ := this
    refine ⟨rfl, ?_⟩
    exact call_floorpowerroot3 (T b _ _ _ ⟨rfl, _, rfl, rfl⟩ ⟨rfl, _, rfl, rfl⟩)
  · rintro l h ⟨y, rfl, rfl⟩
    exact ⟨rfl, hQ _ (.new nq)⟩
theorem power_exec {w mean mg mb} {d : Nat} {hp : HP} {B D : Nat} (hB : 1 ≤ B) (hD : D < 4096) (hb : B ^ D < 2 ^ 12900) {Q : V → HP → Prop} {X : XC} (hQ : Q (.int (B ^ D : Nat)) hp) :
    Calls (gg w mean mg mb) (d + 1) 72 [.int B, .int D] [] hp Q X := by
  refine call_l_power ?_
  refine ⟨(show (1 : Int) ≠ 0 by decide), by decide, ?_⟩
  refine forUp (l := [.int B, .int D, .int 1, .int B, .int D, .unb]) 12 (by decide) (fun k l h => ∃ (f s t : Nat) (v : V), l = [.int B, .int D, .int f, .int s, .int t, v] ∧ h = hp ∧ f * s ^ t = B ^ D ∧ t < 2 ^ (12 - k) ∧ 1 ≤ f ∧ 1 ≤ s)
    ⟨1, B, D, .unb, rfl, rfl, by rw [Nat.one_mul], hD, Nat.le_refl _, hB⟩ ?_ ?_
  · rintro k l h hk ⟨f, s, t, v, rfl, rfl, hf, ht, hf1, hs1⟩
    have hst : 1 ≤ s ^ t := Nat.pow_pos hs1
    have hfb : Bd 12900 (f : Int) := BdN (Nat.lt_of_le_of_lt (Nat.le_trans (Nat.le_mul_of_pos_right f hst) (Nat.le_of_eq hf)) hb)
    have hsb : 1 ≤ t → Bd 12900 (s : Int) := fun h1 => BdN (by
      have h2 : s ≤ s ^ t := by
        have := Nat.pow_le_pow_right hs1 h1
        rwa [Nat.pow_one] at this
      have h3 : s ^ t ≤ f * s ^ t := Nat.le_mul_of_pos_left _ hf1
      omega)
    have e2 : 2 ^ (12 - k) = 2 * 2 ^ (12 - (k + 1)) := by rw [← Nat.pow_succ']; congr 1; omega
    have et : (t : Int).fdiv 2 = ((t / 2 : Nat) : Int) := by rw [Int.fdiv_eq_ediv_of_nonneg _ (by decide)]; push_cast; rfl
    have sq : ∀ f' : Nat, 1 ≤ f' → f' * (if 1 < t then s * s else s) ^ (t / 2) = B ^ D → ∀ l', l' = [V.int B, .int D, .int f', .int s, .int t, .int (0 + k)] →
        exec (gg w mean mg mb) d (match m_l_power with | .seq _ (.seq (.forR _ _ _ _ (.seq _ b)) _) => b | _ => .skip) l' h (fun o l2 h2 => match o with
          | .next => (fun k l h' => ∃ (f s t : Nat) (v : V), l = [.int B, .int D, .int f, .int s, .int t, v] ∧ h' = h ∧ f * s ^ t = B ^ D ∧ t < 2 ^ (12 - k) ∧ 1 ≤ f ∧ 1 ≤ s) (k + 1) l2 h2
          | .brk => exec (gg w mean mg mb) d (.seq (.ret (.var 2)) .skip) l2 h2 (retQ Q) (upX X) | .ret v => retQ Q (.ret v) l2 h2) noX := by
      rintro f' hf' hp' _ rfl
      refine ⟨fun q => ?_, fun q => ?_⟩
      · have q : 1 < t := by have := cgt_t.mp q; omega
        have hs := hsb (by omega)
        refine ⟨hs.mulOk hs, (show (2 : Int) ≠ 0 by decide), f', s * s, t / 2, .int (0 + k), ?_, rfl, by rw [if_pos q] at hp'; exact hp', by omega, hf', Nat.mul_pos hs1 hs1⟩
        show [V.int B, .int D, .int f', .int ((s : Int) * s), .int ((t : Int).fdiv 2), .int (0 + k)] = _
        rw [et]; push_cast; rfl
      · have q : ¬ 1 < t := by have := cgt_f.mp q; omega
        refine ⟨(show (2 : Int) ≠ 0 by decide), f', s, t / 2, .int (0 + k), ?_, rfl, by rw [if_neg q] at hp'; exact hp', by omega, hf', hs1⟩
        show [V.int B, .int D, .int f', .int s, .int ((t : Int).fdiv 2), .int (0 + k)] = _
        rw [et]
    have em : (t : Int).fmod 2 = ((t % 2 : Nat) : Int) := by rw [Int.fmod_eq_emod_of_nonneg _ (by decide)]; push_cast; rfl
    refine ⟨(show (2 : Int) ≠ 0 by decide), fun q => ?_, fun q => ?_⟩
    · have q : (t : Int).fmod 2 = 1 := ceq_t.mp q
      rw [em] at q
      have q : t % 2 = 1 := by omega
      refine ⟨hfb.mulOk (hsb (by omega)), ?_⟩
      refine sq (f * s) (Nat.mul_pos hf1 hs1) ?_ _ ?_
      · rw [← hf]
        have e3 : s ^ t = s * (s * s) ^ (t / 2) := by
          rw [← Nat.pow_two, ← Nat.pow_mul, ← Nat.pow_succ']
          congr 1; omega
        split
        · rw [e3, Nat.mul_assoc]
        · have : t = 1 := by omega
          subst this
          simp
      · show [V.int B, .int D, .int ((f : Int) * s), .int s, .int t, .int (0 + k)] = _
        push_cast; rfl
    · have q : (t : Int).fmod 2 ≠ 1 := ceq_f.mp q
      rw [em] at q
      have q : t % 2 = 0 := by omega
      refine sq f hf1 ?_ _ rfl
      rw [← hf]
      split
      · rw [← Nat.pow_two, ← Nat.pow_mul]
        congr 2; omega
      · have : t = 0 := by omega
        subst this
        simp
  · rintro l h ⟨f, s, t, v, rfl, rfl, hf, ht, hf1, hs1⟩
    have : t = 0 := by simp at ht; omega
    subst this
    rw [Nat.pow_zero, Nat.mul_one] at hf
    rw [← hf] at hQ
    exact hQ
/-- all that the law asks of one number -/
theorem degree_exec {w mean mg mb} {d : Nat} {hp : HP} {p rr : Addr} {k B : Nat} (P : Pool hp p rr) (hk : 1 ≤ k) (hk2 : k < 900) (hB : 1 ≤ B) (hb : (B + 1) ^ k < 2 ^ 3300) {Q : V → HP → Prop} {X : XT} (hQ : ∀ h', Pool h' p rr → Q (.bool true) h') :
    exec (gg w mean mg mb) (d + 5) m_l_degree_right [.ref p, .int k, .int B, .unb, .unb, .unb, .unb, .unb] hp (retQ Q) X := by
  have hb9 : (B + 1) ^ k < 2 ^ 12900 := Nat.lt_of_lt_of_le hb (Nat.pow_le_pow_right (by decide) (by decide))
  have hlt : B ^ k < (B + 1) ^ k := Nat.pow_lt_pow_left (by omega) (by omega)
  refine power_exec hB (by omega) (by omega) ?_
  refine ⟨trivial, power_exec (B := B + 1) (by omega) (by omega) hb9 ?_⟩
  refine ⟨trivial, trivial, ?_⟩
  obtain ⟨room, hroom⟩ : ∃ room, (B + 1) ^ k = B ^ k + 1 + room := ⟨(B + 1) ^ k - (B ^ k + 1), by omega⟩
  have er : intOp (intOp (((B + 1) ^ k : Nat) : Int) ((B ^ k : Nat) : Int) .sub) 1 .sub = (room : Int) := by
    show ((((B + 1) ^ k : Nat) : Int) - ((B ^ k : Nat) : Int)) - 1 = _
    omega
  show exec (gg w mean mg mb) (d + 5) _ [.ref p, .int k, .int B, .int (B ^ k : Nat), .int ((B + 1) ^ k : Nat), .int (intOp (intOp (((B + 1) ^ k : Nat) : Int) ((B ^ k : Nat) : Int) .sub) 1 .sub), .unb, .unb] hp _ X
  rw [er]
  refine ⟨trivial, ?_⟩
  refine call_l_draw (draw_exec P (by show (0 : Int) < room + 1; omega) fun v h1 v0 v1 P1 u1 => ?_)
  have v1 : v < room + 1 := v1
  refine ⟨by simp [sizeLine_eq], fun q nq => ?_⟩
  have P2 := P1.up (S := []) (.new (o := .list (([0, if (room : Int) < 1 then (room : Int) else 1, (room : Int), v] : List Int).map .int)) nq)
  refine forLI (r := q) (ns := [0, if (room : Int) < 1 then (room : Int) else 1, (room : Int), v]) hset_same (by simp) (fun l h => Pool h p rr ∧ ∃ x6 x7, l = [.ref p, .int k, .int B, .int (B ^ k : Nat), .int ((B + 1) ^ k : Nat), .int room, x6, x7]) ⟨P2, _, _, rfl⟩ ?_ ?_
  · rintro z l h hz ⟨P3, x6, x7, rfl⟩ hq
    have hz : ∃ n : Nat, z = n ∧ n ≤ room := by
      simp only [List.mem_cons, List.not_mem_nil, or_false] at hz
      refine ⟨z.toNat, ?_, ?_⟩
      · rcases hz with rfl | rfl | rfl | rfl <;> (try split) <;> omega
      · rcases hz with rfl | rfl | rfl | rfl <;> (try split) <;> omega
    obtain ⟨z, rfl, hzr⟩ := hz
    have n1 : B ^ k ≤ B ^ k + z := by omega
    have n2 : B ^ k + z < (B + 1) ^ k := by omega
    have hBk : 1 ≤ B ^ k := Nat.pow_pos hB
    have n3 : B ^ k + z < 2 ^ 12900 := by omega
    have neg : intOp 0 (intOp ((B ^ k : Nat) : Int) (z : Int) .add) .sub = -((B ^ k + z : Nat) : Int) := by
      show (0 : Int) - (((B ^ k : Nat) : Int) + z) = _
      push_cast; omega
    have ncast : intOp ((B ^ k : Nat) : Int) (z : Int) .add = ((B ^ k + z : Nat) : Int) := by rfl
    refine ⟨trivial, fun q1 => ?_, fun q1 => ?_⟩
    · have q1 : k = 1 := by have := ceq_t.mp q1; omega
      refine call_l_told (told_exec tells1 fun h4 u4 => ?_)
      refine ⟨(fun t => nomatch t), fun _ => ⟨trivial, trivial, trivial, ?_⟩⟩
      refine call_l_told (told_exec tells1 fun h5 u5 => ?_)
      exact ⟨(fun t => nomatch t), fun _ => ⟨⟨(P3.up u4).up u5, _, _, rfl⟩, u5.at (u4.at hq)⟩⟩
    · have q1 : k ≠ 1 := by have := ceq_f.mp q1; omega
      have T : Tells w mean mg mb (d + 3) ((B ^ k + z : Nat) : Int) k B (B ^ k : Nat) := by
        rcases Nat.lt_or_ge k 3 with q3 | q3
        · have : k = 2 := by omega
          subst this
          exact tells2 n1 n2 n3
        · obtain ⟨j, rfl⟩ : ∃ j, k = j + 1 := ⟨k - 1, by omega⟩
          exact tells3 (by omega) (by omega) n1 n2 (by omega) n3
      refine call_l_told (told_exec T fun h4 u4 => ?_)
      refine ⟨(fun t => nomatch t), fun _ => ?_⟩
      have em : ((k : Nat) : Int).fmod 2 = ((k % 2 : Nat) : Int) := by rw [Int.fmod_eq_emod_of_nonneg _ (by decide)]; push_cast; rfl
      have done : ∀ h5, Upto [] h4 h5 → Pool h5 p rr ∧ h5 q = some (.list (([0, if (room : Int) < 1 then (room : Int) else 1, (room : Int), v] : List Int).map .int)) := fun h5 u5 => ⟨(P3.up u4).up u5, u5.at (u4.at hq)⟩
      refine ⟨(show (2 : Int) ≠ 0 by decide), fun q2 => ?_, fun q2 => ?_⟩
      · have q2 : ((k : Nat) : Int).fmod 2 = 1 := ceq_t.mp q2
        rw [em] at q2
        obtain ⟨j, rfl⟩ : ∃ j, k = j + 1 := ⟨k - 1, by omega⟩
        have Tn : Tells w mean mg mb (d + 3) (-((B ^ (j + 1) + z : Nat) : Int)) ((j + 1 : Nat) : Int) (-(B : Int)) (-((B ^ (j + 1) : Nat) : Int)) := tells3n (by omega) (by omega) (by omega) n1 n2 (by omega) n3
        rw [← neg, ← Int.zero_sub (B : Int), ← Int.zero_sub ((B ^ (j + 1) : Nat) : Int)] at Tn
        refine ⟨trivial, trivial, trivial, call_l_told (told_exec Tn fun h5 u5 => ?_)⟩
        refine ⟨(fun t => nomatch t), fun _ => ⟨(show (2 : Int) ≠ 0 by decide), fun q4 => absurd (ceq_t.mp q4) ?_, fun _ => ⟨(fun t => nomatch t), fun _ => ⟨⟨(done h5 u5).1, _, _, rfl⟩, (done h5 u5).2⟩⟩⟩⟩
        show ¬ (((j + 1 : Nat) : Nat) : Int).fmod 2 = 0
        rw [em]; omega
      · have q2 : ((k : Nat) : Int).fmod 2 ≠ 1 := ceq_f.mp q2
        rw [em] at q2
        refine ⟨(fun t => nomatch t), fun _ => ⟨(show (2 : Int) ≠ 0 by decide), fun _ => ⟨trivial, ?_⟩, fun q4 => absurd (ceq_f.mp q4) ?_⟩⟩
        · have Tr : ∀ (b : Bool) (hp : HP) (Q : V → HP → Prop) (X : XT), X (.own "ValueError") hp → X (.up "ValueError") hp → exec (gg w mean mg mb) (d + 3) m_floorpowerroot [.int (intOp 0 (intOp ((B ^ k : Nat) : Int) (z : Int) .add) .sub), .int k, .bool b, .unb, .unb, .unb, .unb, .unb, .unb, .unb] hp (retQ Q) X := by
            intro b hp Q X hX hX2
            rw [neg]
            rcases Nat.lt_or_ge k 3 with q3 | q3
            · have : k = 2 := by omega
              subst this
              exact root2_neg (sq := 21) (lg := 37) fun Q => call_floorsqrt (sqrt_neg (a := 37) (by omega) hX2)
            · exact root_even_neg (sq := 21) (lg := 37) q3 (by omega) (by omega) (by omega) (by rw [Int.natAbs_neg, Int.natAbs_natCast]; exact n3) hX
          refine call_l_refused (refused_exec Tr fun h5 u5 => ?_)
          exact ⟨(fun t => nomatch t), fun _ => ⟨⟨(done h5 u5).1, _, _, rfl⟩, (done h5 u5).2⟩⟩
        · show ¬ ((k : Nat) : Int).fmod 2 ≠ 0
          rw [em]; omega
  · rintro l h ⟨P3, x6, x7, rfl⟩
    have T : Tells w mean mg mb (d + 3) 0 k 0 0 := by
      rcases Nat.lt_or_ge k 3 with q3 | q3
      · have : k = 1 ∨ k = 2 := by omega
        rcases this with rfl | rfl
        · exact tells1
        · exact tells2 (n := 0) (r := 0) (by decide) (by decide) (by generalize 12900 = e; exact Nat.pow_pos (by decide))
      · exact tells0 q3
    exact call_l_told (told_exec T fun h4 u4 => hQ _ (P3.up u4))
theorem big_bd {k B M : Nat} (hM : M * k ≤ 900) (hk : k < 50) (hB : B ≤ 10 ^ M) : (B + 1) ^ k < 2 ^ 3300 := by
  have h1 : B + 1 ≤ 2 * 10 ^ M := by have : 0 < 10 ^ M := Nat.pow_pos (by decide)
                                     omega
  refine Nat.lt_of_le_of_lt (Nat.pow_le_pow_left h1 k) ?_
  rw [Nat.mul_pow, ← Nat.pow_mul]
  have h2 : 2 ^ k ≤ 2 ^ 50 := Nat.pow_le_pow_right (by decide) (by omega)
  have h3 : 10 ^ (M * k) ≤ 10 ^ 900 := Nat.pow_le_pow_right (by decide) hM
  have h4 : 2 ^ 50 * 10 ^ 900 < 2 ^ 3300 := by decide
  exact Nat.lt_of_le_of_lt (Nat.mul_le_mul h2 h3) h4
theorem mid_bd {k B : Nat} (hk : k ≤ 90) (hB : B ≤ 10 ^ 9) : (B + 1) ^ k < 2 ^ 3300 := by
  have h1 : B + 1 ≤ 2 ^ 30 := by omega
  refine Nat.lt_of_le_of_lt (Nat.pow_le_pow_left h1 k) ?_
  rw [← Nat.pow_mul]
  exact Nat.pow_lt_pow_right (by decide) (by omega)
theorem low_bd {k B : Nat} (hk : k ≤ 201) (hB : B ≤ 99) : (B + 1) ^ k < 2 ^ 3300 := by
  have h1 : B + 1 ≤ 2 ^ 7 := by omega
  refine Nat.lt_of_le_of_lt (Nat.pow_le_pow_left h1 k) ?_
  rw [← Nat.pow_mul]
  exact Nat.pow_lt_pow_right (by decide) (by omega)
def lbody : MS := match m_law with | .seq _ (.seq (.forR _ _ _ _ b) _) => b | _ => .skip
theorem body2_exec {w mean mg mb} {d : Nat} {h : HP} {s p rr : Addr} {k : Nat} {x2 x3 x4 x6 x7 : V} (P : Pool h p rr) (hk : 1 ≤ k) (hk2 : k ≤ 201) {Q : Out → List V → HP → Prop} {X : XT}
    (hQ : ∀ l h', Pool h' p rr → (∃ x2 x3 x4 x5 x6 x7, l = [.ref s, .ref p, x2, x3, x4, x5, x6, x7]) → Q .next l h') :
    exec (gg w mean mg mb) (d + 6) (dropN 3 lbody) [.ref s, .ref p, x2, x3, x4, .int k, x6, x7] h Q X := by
  refine ⟨(by show (k : Int) ≠ 0; omega), ?_⟩
  have eM : intOp 900 (k : Int) .fdiv = ((900 / k : Nat) : Int) := by
    show (900 : Int).fdiv k = _
    rw [Int.fdiv_eq_ediv_of_nonneg _ (by omega)]; push_cast; rfl
  show exec (gg w mean mg mb) (d + 6) (dropN 4 lbody) [.ref s, .ref p, x2, x3, x4, .int k, .int (intOp 900 (k : Int) .fdiv), x7] h Q X
  rw [eM]
  have hM : 900 / k * k ≤ 900 := Nat.div_mul_le_self 900 k
  generalize 900 / k = M at *
  have fin : ∀ (B : Nat) (h2 : HP), Pool h2 p rr → 1 ≤ B → (B + 1) ^ k < 2 ^ 3300 → exec (gg w mean mg mb) (d + 6) (dropN 6 lbody) [.ref s, .ref p, x2, x3, x4, .int k, .int M, .int B] h2 Q X := by
    intro B h2 P2 hB hb
    refine call_l_degree_right (degree_exec P2 hk (by omega) hB hb fun h3 P3 => ?_)
    exact ⟨(fun t => nomatch t), fun _ => hQ _ _ P3 ⟨_, _, _, _, _, _, rfl⟩⟩
  have mid : ∀ (B : Nat) (h2 : HP), Pool h2 p rr → 1 ≤ B → (B + 1) ^ k < 2 ^ 3300 → exec (gg w mean mg mb) (d + 6) (dropN 5 lbody) [.ref s, .ref p, x2, x3, x4, .int k, .int M, .int B] h2 Q X := by
    intro B h2 P2 hB hb
    refine ⟨fun t => ?_, fun t => ⟨(fun q => nomatch q), fun _ => fin B h2 P2 hB hb⟩⟩
    have hM18 : 18 < M := by have := cgt_t.mp t; omega
    have hk50 : k < 50 := by
      rcases Nat.lt_or_ge k 50 with q | q
      · exact q
      · have := Nat.mul_le_mul (show 19 ≤ M from hM18) q; omega
    refine call_l_draw (draw_exec P2 (by decide) fun v h3 v0 v1 P3 u3 => ⟨fun _ => ?_, fun _ => fin B h3 P3 hB hb⟩)
    have e9 : intOp (M : Int) 9 .fdiv = ((M / 9 : Nat) : Int) := by
      show (M : Int).fdiv 9 = _
      rw [Int.fdiv_eq_ediv_of_nonneg _ (by decide)]; push_cast; rfl
    refine ⟨(show (9 : Int) ≠ 0 by decide), ?_⟩
    rw [e9]
    refine call_l_great (great_exec draws P3 (by omega) (by
      have : M ≤ 900 := Nat.le_trans (Nat.le_mul_of_pos_right M hk) hM
      omega) fun N h4 hN P4 u4 => ⟨trivial, ?_⟩)
    have hN2 : N < 10 ^ M := Nat.lt_of_lt_of_le hN (Nat.pow_le_pow_right (by decide) (by omega))
    exact fin (1 + N) h4 P4 (by omega) (big_bd hM hk50 (by omega))
  refine ⟨fun t => ⟨⟨by decide, by decide⟩, ?_⟩, fun t => ?_⟩
  · have hM9 : 9 < M := by have := cgt_t.mp t; omega
    have hk90 : k ≤ 90 := by
      rcases Nat.lt_or_ge 90 k with q | q
      · have := Nat.mul_le_mul (show 10 ≤ M from hM9) q; omega
      · exact q
    refine call_l_draw (draw_exec P (by decide) fun v h2 v0 v1 P2 u2 => ⟨trivial, ?_⟩)
    obtain ⟨v, rfl⟩ := Int.eq_ofNat_of_zero_le v0
    have v1 : (v : Int) < 1000000000 := v1
    exact mid (1 + v) h2 P2 (by omega) (mid_bd hk90 (by omega))
  · refine call_l_draw (draw_exec P (by decide) fun v h2 v0 v1 P2 u2 => ⟨trivial, ?_⟩)
    obtain ⟨v, rfl⟩ := Int.eq_ofNat_of_zero_le v0
    have v1 : (v : Int) < 99 := v1
    exact mid (1 + v) h2 P2 (by omega) (low_bd hk2 (by omega))
theorem body1_exec {w mean mg mb} {d : Nat} {h : HP} {s p rr : Addr} {b m : Nat} {x2 x5 x6 x7 : V} (P : Pool h p rr) (hb : 1 ≤ b) (hm : 1 ≤ m) (hbm : b + m ≤ 61) {Q : Out → List V → HP → Prop} {X : XT}
    (hQ : ∀ l h', Pool h' p rr → (∃ x2 x3 x4 x5 x6 x7, l = [.ref s, .ref p, x2, x3, x4, x5, x6, x7]) → Q .next l h') :
    exec (gg w mean mg mb) (d + 6) (dropN 1 lbody) [.ref s, .ref p, x2, .int b, .int m, x5, x6, x7] h Q X := by
  refine call_l_draw (draw_exec P (by omega) fun v h2 v0 v1 P2 u2 => ⟨trivial, ?_⟩)
  obtain ⟨v, rfl⟩ := Int.eq_ofNat_of_zero_le v0
  obtain ⟨cell, seed, rest, p0, -⟩ := id P2
  refine idx3 (k := 0) p0 rfl ⟨fun t => ?_, fun t => ⟨(fun q => nomatch q), fun _ => body2_exec (k := b + v) P2 (by omega) (by omega) hQ⟩⟩
  refine call_l_draw (draw_exec P2 (by decide) fun v2 h3 _ _ P3 u3 => ⟨fun _ => ?_, fun _ => body2_exec (k := b + v) P3 (by omega) (by omega) hQ⟩)
  refine call_l_draw (draw_exec P3 (by decide) fun y h4 y0 y1 P4 u4 => ⟨trivial, ?_⟩)
  obtain ⟨y, rfl⟩ := Int.eq_ofNat_of_zero_le y0
  have y1 : (y : Int) < 140 := y1
  exact body2_exec (k := 61 + y) P4 (by omega) (by omega) hQ
theorem body_exec {w mean mg mb} {d : Nat} {h : HP} {s p rr : Addr} {x2 x3 x4 x5 x6 x7 : V} (P : Pool h p rr) {Q : Out → List V → HP → Prop} {X : XT}
    (hQ : ∀ l h', Pool h' p rr → (∃ x2 x3 x4 x5 x6 x7, l = [.ref s, .ref p, x2, x3, x4, x5, x6, x7]) → Q .next l h') :
    exec (gg w mean mg mb) (d + 6) lbody [.ref s, .ref p, x2, x3, x4, x5, x6, x7] h Q X := by
  refine ⟨by simp [sizeLine_eq], fun r1 n1 => ⟨by simp [sizeLine_eq], fun r2 n2 => ⟨by simp [sizeLine_eq], fun r3 n3 => ⟨by simp [sizeLine_eq], fun r4 n4 => ⟨by simp [sizeLine_eq], fun q nq => ?_⟩⟩⟩⟩⟩
  have v1 : Upto [] h (hset h r1 (.tup [.int 1, .int 12])) := .new n1
  have v2 : Upto [] (hset h r1 (.tup [.int 1, .int 12])) (hset (hset h r1 (.tup [.int 1, .int 12])) r2 (.tup [.int 2, .int 4])) := .new n2
  have v3 : Upto [] (hset (hset h r1 (.tup [.int 1, .int 12])) r2 (.tup [.int 2, .int 4])) (hset (hset (hset h r1 (.tup [.int 1, .int 12])) r2 (.tup [.int 2, .int 4])) r3 (.tup [.int 3, .int 9])) := .new n3
  have v4 : Upto [] (hset (hset (hset h r1 (.tup [.int 1, .int 12])) r2 (.tup [.int 2, .int 4])) r3 (.tup [.int 3, .int 9])) (hset (hset (hset (hset h r1 (.tup [.int 1, .int 12])) r2 (.tup [.int 2, .int 4])) r3 (.tup [.int 3, .int 9])) r4 (.tup [.int 13, .int 48])) := .new n4
  have v5 : Upto [] (hset (hset (hset (hset h r1 (.tup [.int 1, .int 12])) r2 (.tup [.int 2, .int 4])) r3 (.tup [.int 3, .int 9])) r4 (.tup [.int 13, .int 48])) (hset (hset (hset (hset (hset h r1 (.tup [.int 1, .int 12])) r2 (.tup [.int 2, .int 4])) r3 (.tup [.int 3, .int 9])) r4 (.tup [.int 13, .int 48])) q (.list [.ref r1, .ref r2, .ref r3, .ref r4])) := .new nq
  have P5 := ((((P.up v1).up v2).up v3).up v4).up v5
  have m1 := nqP P n1
  have m2 := nqP (P.up v1) n2
  have m3 := nqP ((P.up v1).up v2) n3
  have m4 := nqP (((P.up v1).up v2).up v3) n4
  have m5 := nqP ((((P.up v1).up v2).up v3).up v4) nq
  have a1 := v5.at (v4.at (v3.at (v2.at (hset_same (h := h) (a := r1) (o := .tup [.int 1, .int 12])))))
  have a2 := v5.at (v4.at (v3.at (hset_same (h := hset h r1 (.tup [.int 1, .int 12])) (a := r2) (o := .tup [.int 2, .int 4]))))
  have a3 := v5.at (v4.at (hset_same (h := hset (hset h r1 (.tup [.int 1, .int 12])) r2 (.tup [.int 2, .int 4])) (a := r3) (o := .tup [.int 3, .int 9])))
  have a4 := v5.at (hset_same (h := hset (hset (hset h r1 (.tup [.int 1, .int 12])) r2 (.tup [.int 2, .int 4])) r3 (.tup [.int 3, .int 9])) (a := r4) (o := .tup [.int 13, .int 48]))
  have a5 := hset_same (h := hset (hset (hset (hset h r1 (.tup [.int 1, .int 12])) r2 (.tup [.int 2, .int 4])) r3 (.tup [.int 3, .int 9])) r4 (.tup [.int 13, .int 48])) (a := q) (o := .list [.ref r1, .ref r2, .ref r3, .ref r4])
  show Calls (gg w mean mg mb) (d + 6) 58 _ [] (hset (hset (hset (hset (hset h r1 (.tup [.int 1, .int 12])) r2 (.tup [.int 2, .int 4])) r3 (.tup [.int 3, .int 9])) r4 (.tup [.int 13, .int 48])) q (.list [.ref r1, .ref r2, .ref r3, .ref r4])) _ _
  generalize hset (hset (hset (hset (hset h r1 (.tup [.int 1, .int 12])) r2 (.tup [.int 2, .int 4])) r3 (.tup [.int 3, .int 9])) r4 (.tup [.int 13, .int 48])) q (.list [.ref r1, .ref r2, .ref r3, .ref r4]) = h5 at *
  refine call_l_draw (draw_exec P5 (by decide) fun way h6 w0 w1 P6 u6 => ?_)
  have b1 := u6.at a1 m1
  have b2 := u6.at a2 m2
  have b3 := u6.at a3 m3
  have b4 := u6.at a4 m4
  have b5 := u6.at a5 m5
  have hw : way = 0 ∨ way = 1 ∨ way = 2 ∨ way = 3 := by omega
  rcases hw with rfl | rfl | rfl | rfl
  · exact idxE rfl rfl (vs := [.ref r1, .ref r2, .ref r3, .ref r4]) (by rw [b5]; rfl) (by simp) (by decide) rfl ⟨_, b1, rfl, body1_exec (b := 1) (m := 12) P6 (by decide) (by decide) (by decide) hQ⟩
  · exact idxE rfl rfl (vs := [.ref r1, .ref r2, .ref r3, .ref r4]) (by rw [b5]; rfl) (by simp) (by decide) rfl ⟨_, b2, rfl, body1_exec (b := 2) (m := 4) P6 (by decide) (by decide) (by decide) hQ⟩
  · exact idxE rfl rfl (vs := [.ref r1, .ref r2, .ref r3, .ref r4]) (by rw [b5]; rfl) (by simp) (by decide) rfl ⟨_, b3, rfl, body1_exec (b := 3) (m := 9) P6 (by decide) (by decide) (by decide) hQ⟩
  · exact idxE rfl rfl (vs := [.ref r1, .ref r2, .ref r3, .ref r4]) (by rw [b5]; rfl) (by simp) (by decide) rfl ⟨_, b4, rfl, body1_exec (b := 13) (m := 48) P6 (by decide) (by decide) (by decide) hQ⟩
theorem law_exec {w mean mg mb} {d : Nat} {ns : List Int} (hl : ns.length ≤ 63) (s : Addr) :
    exec (gg w mean mg mb) (d + 6) m_law [.ref s, .unb, .unb, .unb, .unb, .unb, .unb, .unb] (fun c => if c = s then some (.ro (ns.map .int)) else none) (fun o _ _ => o = .ret (.bool true)) noX := by
  generalize hh0 : (fun c => if c = s then some (O.ro (ns.map .int)) else none : HP) = h0
  have e0 : h0 s = some (.ro (ns.map .int)) := by rw [← hh0]; simp
  refine call_l_pool (pool_exec e0 hl fun p rr h1 P1 u1 => ?_)
  refine ⟨(show (1 : Int) ≠ 0 by decide), by decide, ?_⟩
  refine forUp (l := [.ref s, .ref p, .unb, .unb, .unb, .unb, .unb, .unb]) 2 (by decide) (fun k l h => Pool h p rr ∧ ∃ x2 x3 x4 x5 x6 x7, l = [.ref s, .ref p, x2, x3, x4, x5, x6, x7]) ⟨P1, _, _, _, _, _, _, rfl⟩ ?_ ?_
  · rintro t l h ht ⟨P, x2, x3, x4, x5, x6, x7, rfl⟩
    exact body_exec (x2 := .int (0 + t)) P fun l h' P' hl' => ⟨P', hl'⟩
  · rintro l h ⟨P, x2, x3, x4, x5, x6, x7, rfl⟩
    refine call_l_draw (draw_exec P (by decide) fun v h2 v0 v1 P2 u2 => ?_)
    obtain ⟨v, rfl⟩ := Int.eq_ofNat_of_zero_le v0
    have v1 : (v : Int) < 40 := v1
    have ev : intOp 1 (v : Int) .add = ((1 + v : Nat) : Int) := by rfl
    refine ⟨trivial, ?_⟩
    rw [ev]
    refine call_l_degree_right (degree_exec (k := 3) (B := 1 + v) P2 (by decide) (by decide) (by omega) (low_bd (by decide) (by omega)) fun h3 P3 => ?_)
    refine ⟨fun _ => ?_, (fun t => nomatch t)⟩
    refine call_l_draw (draw_exec P3 (by decide) fun v h4 v0 v1 P4 u4 => ?_)
    obtain ⟨v, rfl⟩ := Int.eq_ofNat_of_zero_le v0
    have v1 : (v : Int) < 40 := v1
    have ev : intOp 1 (v : Int) .add = ((1 + v : Nat) : Int) := by rfl
    refine ⟨trivial, ?_⟩
    rw [ev]
    exact call_l_degree_right (degree_exec (k := 2) (B := 1 + v) P4 (by decide) (by decide) (by omega) (low_bd (by decide) (by omega)) fun h3 P3 => rfl)
end Mine
open Mine
set_option maxHeartbeats 8000000 in
theorem PySem.Challenge.cw_xv0001_03_holds : PySem.Challenge.rw_xv0001_03.Holds := by
  refine hd ?_
  k_go0
  refine law_end' (x := Str.ofString "script") (gt := gt) (bt := bt) (f := 107) (ms := m_law) (K := hd.heap_39 _) (fo_law _ _ _ _) (sb_of (n := 60) ?hb) (T := ‹_›) (KX := ‹_›) (K0 := ‹_›) (hF := ‹_›) (hl := ‹_›) (hi := ‹_›) ?h1 ?h2 ?h3 ?h4 ?h5 ?h6 ?h7 ?h8 (k := 7) ?hn ?h9 ?h10
  case hb => kernel_rfl!
  case h1 => kernel_rfl!
  case h2 => rfl
  case h3 => rfl
  case h4 => rfl
  case h5 => kernel_rfl!
  case h6 => kernel_rfl!
  case h7 => rfl
  case h8 => kernel_rfl!
  case hn => kernel_rfl!
  case h9 =>
    intro b
    exact law_exec (by omega) b
  case h10 =>
    intro h' tk' m' F'
    refine goodW_bool F' (by assumption) (raisesW_false ?_) ?_
    · wrow_none_raised
    · wrow_post
