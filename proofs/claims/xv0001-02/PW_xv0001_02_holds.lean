import PyProof.Rows.All
import Wide.All
import OpenK.AllK
import Wide.FinOn
import PySem.Challenge.RW_xv0001_02
open PySem PySem.W PyProof.Rows PySem.Calls
set_option Elab.async false
set_option genSizeOf false
set_option maxRecDepth 100000
namespace Mine
/-- a value without its token -/
inductive V where
  | unb | other | none
  | int (i : Int)
  | bool (b : Bool)
  | str (s : Str)
  | ref (a : Addr)
  | cell (a : Addr)
noncomputable def absV : Value → V
  | .int i _ => .int i
  | .bool b => .bool b
  | .none => .none
  | .str s _ => .str s
  | .ref a => .ref a
  | _ => .other
inductive O where
  | list (vs : List V)
  | tup (vs : List V)
  | ro (vs : List V)
  | cell (v : V)
  | rng (a b c : Int)
  | dict (kvs : List (Int × Int))
noncomputable abbrev HP := Addr → Option O
noncomputable def hset (h : HP) (a : Addr) (o : O) : HP := fun b => if b = a then some o else h b
theorem hset_same {h : HP} {a : Addr} {o : O} : hset h a o a = some o := by simp [hset]
theorem hset_ne {h : HP} {a b : Addr} {o : O} (e : b ≠ a) : hset h a o b = h b := by simp [hset, e]
theorem hset_none {h : HP} {a b : Addr} {o : O} : hset h a o b = Option.none ↔ b ≠ a ∧ h b = Option.none := by
  unfold hset; by_cases e : b = a <;> simp [e]
/-- an exception under way: raised in this frame, or come up from a call -/
inductive Ex where
  | own (c : String)
  | up (c : String)
noncomputable def Ex.cls : Ex → String
  | .own c => c
  | .up c => c
noncomputable abbrev XT := Ex → HP → Prop
noncomputable abbrev XC := String → HP → Prop
noncomputable abbrev upX (X : XC) : XT := fun e h => X e.cls h
noncomputable abbrev dnX (X : XT) : XC := fun c h => X (.up c) h
noncomputable abbrev cX (X : XC) : XT := fun e h => match e with | .up c => X c h | .own _ => False
set_option genInjectivity false
structure G where
  prog : Program
  w : World
  K : Frag
  p : Program
  loose : List Str
  mean : ExcName → Option Value
  mg : Str → Option Value
  mb : Str → Option Value
/-- the place of a comprehension that is under way -/
structure CP where
  C : Addr
  ksc : Scope
  kcl : List (Str × Addr)
  knames : List Str
  kl : List V
structure Cx where
  g : G
  A₀ : Around
  base : Heap
  h₀ : Heap
  outer : List Env
  L : Addr
  qn : Str
  fsc : Scope
  fa : Addr
  cd : Value
  cl : List (Str × Addr)
  cp : Option CP
set_option genInjectivity true
noncomputable abbrev Cx.fenv (c : Cx) : Env := envX c.qn c.fsc c.L c.fa c.cd c.cl
noncomputable abbrev Cx.env (c : Cx) : Env := match c.cp with
  | none => c.fenv
  | some k => compEnvC k.ksc k.kcl k.C c.fenv
noncomputable abbrev Cx.sc (c : Cx) : Scope := match c.cp with
  | none => c.fsc
  | some k => relabel k.ksc c.fenv
noncomputable abbrev Cx.A (c : Cx) : Around := c.A₀.deeper c.fenv
noncomputable abbrev Cx.fs (c : Cx) : List Addr := c.outer.filterMap (·.frame)
noncomputable abbrev Cx.at (c : Cx) (g : Heap) : Cx := { c with h₀ := g }
structure Cx.Ok (c : Cx) : Prop where
  below : Below c.A₀ c.base c.outer c.h₀
  inK : c.g.K.In c.base
  top : Top c.g.p c.g.loose c.g.mean c.g.mg c.g.mb c.base
  dicts : KtsDicts c.fs c.h₀
  kind : c.sc.kind = .function
  fkind : c.fsc.kind = .function
  gen : c.fsc.isGenerator = false
  cor : c.fsc.isCoroutine = false
  hd : c.A₀.handled = none
  seer : c.base.NoSeer
  tree : c.g.prog.given.tree = none
noncomputable def RepO : O → Obj → Prop
  | .list vs, o => ∃ items n, o = { cls := .type "list", data := .seq items n } ∧ items.toList.map absV = vs
  | .tup vs, o => ∃ items n, o = { cls := .type "tuple", data := .seq items n } ∧ items.toList.map absV = vs
  | .ro _, _ => False
  | .cell v, o => ∃ w : Option Value, o.data = .cell w ∧ (match w with | Option.none => v = .unb | some val => v ≠ .unb ∧ absV val = v)
  | .rng a b c, o => ∃ t u v, o = { cls := .type "range", dict := none, data := .fields #[.int a t, .int b u, .int c v], slots := #[] }
  | .dict _, _ => False
noncomputable def HpRep (c : Cx) (hp : HP) (h : Heap) : Prop :=
  (∃ D : List Addr, ∀ a o, hp a = some o → a ∈ D) ∧
  ∀ a o, hp a = some o → match o with
    | .ro vs => ∃ items : Array Value, c.base.IsList a items ∧ items.toList.map absV = vs
    | o => ∃ ob, h.get? a = some ob ∧ RepO o ob ∧ a ≠ c.L ∧ c.h₀.get? a = none
noncomputable def Loc (cl : List (Str × Addr)) (names : List Str) (l : List V) (m : Str → Option Value) : Prop :=
  ∀ (i : Nat) x v, names[i]? = some x → l[i]? = some v → v ≠ .unb → (∃ a, v = .cell a ∧ cl.lookup x = some a) ∨ ((∀ a, v ≠ .cell a) ∧ ∃ val, m x = some val ∧ absV val = v)
/-- an object that is the space of names m -/
noncomputable def NsObj (o : Obj) (m : Str → Option Value) : Prop := ∃ es ep, o.data = .dict es ep ∧ StrKeys es ∧ ∀ name, nsFind es name = m name
noncomputable def LocX (c : Cx) (names : List Str) (l : List V) (m : Str → Option Value) (fr : List (Addr × Obj)) : Prop := match c.cp with
  | none => Loc c.cl names l m
  | some k => Loc c.cl k.knames k.kl m ∧ ∃ oC m₂, (k.C, oC) ∈ fr ∧ NsObj oC m₂ ∧ Loc k.kcl names l m₂
theorem LocX.sub {c : Cx} {names l m fr fr'} (h : LocX c names l m fr) (hs : ∀ p ∈ fr, p ∈ fr') : LocX c names l m fr' := by
  unfold LocX at *
  split at h
  · exact h
  · obtain ⟨a, oC, m₂, b, c⟩ := h; exact ⟨a, oC, m₂, hs _ b, c⟩
theorem LocX.any {c : Cx} {names l m fr fr'} (h : LocX c names l m fr) (hc : c.cp = none) : LocX c names l m fr' := by
  unfold LocX at *
  rw [hc] at h ⊢; exact h
theorem LocX.plain {c : Cx} {names l m fr} (hc : c.cp = none) : LocX c names l m fr ↔ Loc c.cl names l m := by
  unfold LocX; rw [hc]
/-- the heap h of the frame c: its names bear l, its store hp, and the objects of fr stand as they are -/
noncomputable def Rep0 (c : Cx) (names : List Str) (l : List V) (hp : HP) (fr : List (Addr × Obj)) (h : Heap) : Prop :=
  ∃ m, Fr c.h₀ c.L h m ∧ LocX c names l m fr ∧ HpRep c hp h ∧ News c.h₀ c.L h fr ∧ ∀ p ∈ fr, hp p.1 = Option.none
/-- the same, over a ground whose outer frames have turned -/
noncomputable def Rep (c : Cx) (names : List Str) (l : List V) (hp : HP) (fr : List (Addr × Obj)) (h : Heap) : Prop :=
  ∃ g, KtsTurn c.fs c.h₀ g ∧ Rep0 (c.at g) names l hp fr h
noncomputable def HpN (c : Cx) (hp : HP) (news : List (Addr × Obj)) : Prop :=
  (∃ D : List Addr, ∀ a o, hp a = some o → a ∈ D) ∧
  ∀ a o, hp a = some o → match o with
    | .ro vs => ∃ items : Array Value, c.base.IsList a items ∧ items.toList.map absV = vs
    | o => ∃ ob, (a, ob) ∈ news ∧ RepO o ob
/-- an exception under way in the frame c -/
noncomputable def Raised (c : Cx) (names : List Str) (l : List V) (hp : HP) (fr : List (Addr × Obj)) (x : Ex) (e : Addr) (h' : Heap) : Prop :=
  (∀ p ∈ fr, hp p.1 = Option.none) ∧ ∃ g m hh, KtsTurn c.fs c.h₀ g ∧ Fr g c.L hh m ∧ LocX c names l m fr ∧
    ((∃ cls t vs news, x = .up cls ∧ hh.UpToSlots h' ∧ RaisedS c.base hh (c.fenv :: c.outer) e (.type cls) t vs (news ++ fr) h' ∧ HpN c hp news) ∨
     (∃ cls vs news, x = .own cls ∧ Heap.MadeExcOf hh h' e (.type cls) vs ∧ HpN c hp news ∧ News g c.L hh (news ++ fr)))
noncomputable def XP (c : Cx) (names : List Str) (l : List V) (fr : List (Addr × Obj)) (X : XT) (E : Value → Shared → Prop) (s : Shared) : Prop :=
  ∀ cls e hp' h' tk', X cls hp' → Raised c names l hp' fr cls e h' → E (.ref e) { s with heap := h', toks := tk' }
theorem XP.call {c : Cx} {names : List Str} {l : List V} {fr : List (Addr × Obj)} {X : XT} {E : Value → Shared → Prop} {s s' : Shared} (h : XP c names l fr X E s) (e : ∀ h' tk', ({ s' with heap := h', toks := tk' } : Shared) = { s with heap := h', toks := tk' } := by intros; rfl) : XP c names l fr (cX (dnX X)) E s' := by
  intro x e' hp' h' tk' hx hr
  rw [e]
  cases x with
  | up c => exact h (.up c) e' hp' h' tk' hx hr
  | own c => exact hx.elim
/-- the tree t, run in the frame c over the store hp, ends in Q or raises into X -/
noncomputable def W {α β : Type} (rel : β → α → Prop) (c : Cx) (names : List Str) (l : List V) (t : Sem α) (hp : HP) (Q : β → HP → Prop) (X : XT) : Prop :=
  ∀ (fr : List (Addr × Obj)) (s : Shared) (P : α → Shared → Prop) (E : Value → Shared → Prop), Rep c names l hp fr s.heap →
    (∀ b a hp' h' tk', Q b hp' → rel b a → Rep c names l hp' fr h' → P a { s with heap := h', toks := tk' }) →
    XP c names l fr X E s →
    wpAny (model c.g.prog c.g.w) c.A t P E s
noncomputable def rV (v : V) (val : Value) : Prop := absV val = v
noncomputable def rVs (vs : List V) (vals : List Value) : Prop := vals.map absV = vs
noncomputable def rB (b b' : Bool) : Prop := b' = b
noncomputable def room (c : Cx) (d : Nat) : Prop := c.A.depth + d + 200 < recursionLimit ∧ c.A.units + 8 * d + 200 < cLine
/-- the same for a code -/
noncomputable def WC (c : Cx) (names : List Str) (l : List V) (k : Code) (hp : HP) (Q : V → HP → Prop) (X : XT) : Prop :=
  ∀ (fr : List (Addr × Obj)) (s : Shared) (P : Value → Shared → Prop) (E : Value → Shared → Prop), Rep c names l hp fr s.heap →
    (∀ b a hp' h' tk', Q b hp' → rV b a → Rep c names l hp' fr h' → P a { s with heap := h', toks := tk' }) →
    XP c names l fr X E s →
    codeAny (model c.g.prog c.g.w) c.A k (fun r s' => match r with | .ok (.ret v) => P v s' | .ok _ => False | .error e => E e s') s
theorem WC.w {c : Cx} {names l f pos kw hp Q X} (h : WC c names l (.call f ⟨pos, kw⟩) hp Q X) : W rV c names l (call f pos kw) hp Q X := fun fr s P E R hP hX => wpAny_call (h fr s P E R hP hX)
/-- a call of the def at f -/
noncomputable def Calls (g : G) (d : Nat) (f : Addr) (args : List V) (kw : List (Str × V)) (hp : HP) (Q : V → HP → Prop) (X : XC) : Prop :=
  ∀ (c : Cx), c.g = g → c.Ok → room c d → ∀ (names : List Str) (l : List V) (vals : List Value) (kvals : List (Str × Value)),
    vals.map absV = args → (kvals.map fun p => (p.1, absV p.2)) = kw →
    WC c names l (.call (.ref f) ⟨vals, kvals⟩) hp Q (cX X)
set_option genInjectivity false
inductive BOp where
  | add | sub | mul | fdiv | mod | pow | shl | shr | band
  deriving DecidableEq
inductive COp where
  | eq | ne | lt | le | gt | ge
  deriving DecidableEq
inductive Kd where
  | int | bool | list | tuple
  deriving DecidableEq
inductive ME where
  | var (i : Nat)
  | int (i : Int)
  | bool (b : Bool)
  | none
  | bin (o : BOp) (a b : ME)
  | neg (a : ME)
  | cmp (o : COp) (a b : ME)
  | chain (a : ME) (o : COp) (b : ME) (p : COp) (d : ME)
  | isn (a : ME) (pos : Bool)
  | not (a : ME)
  | and (a b : ME)
  | or (a b : ME)
  | ite (a b d : ME)
  | call (f : Nat) (as : ME)
  | nil
  | cons (a b : ME)
  | tup (as : ME)
  | list (as : ME)
  | idx (a i : ME)
  | len (a : ME)
  | toInt (a : ME)
  | isi (a : ME) (k : Kd)
  | tv (a : ME)
  | slcF (a i : ME)
  | listOf (a : ME)
  | pop0 (a : ME)
  | app (a b : ME)
  | rev (a : ME)
  | bitlen (a : ME)
  | abs (a : ME)
  | dvm (a b : ME)
  | strOf (a : ME)
  | cvar (i : Nat)
  | rng (a b e : ME)
  | compR (lo hi st cond elt : ME) (caps : List Nat)
  | compL (it cond elt : ME) (caps : List Nat)
  | calli (x : String) (as : ME)
  | tabA (s : Nat) (x : String) (i : ME)
/-- what a handler does -/
inductive MH where
  | retB (b : Bool)
  | retN
  | inc (i : Nat) (k : Int)
  | retS (x : String)
inductive TK where
  | expr | ret
  | asg (i : Nat)
inductive MS where
  | skip
  | seq (a b : MS)
  | asg (i : Nat) (e : ME)
  | asgN (is : List Nat) (es : ME)
  | unp (is : List Nat) (e : ME)
  | aug (i : Nat) (o : BOp) (e : ME)
  | setI (a i e : ME)
  | ite (c : ME) (a b : MS)
  | whil (c : ME) (a b : MS)
  | forR (i : Nat) (lo hi st : ME) (a : MS)
  | forL (i : Nat) (e : ME) (a : MS)
  | ret (e : ME)
  | brk
  | expr (e : ME)
  | forU (is : List Nat) (e : ME) (a : MS)
  | stop
  | raise (x : String)
  | raiseF (x : String) (es : ME)
  | casg (i : Nat) (e : ME)
  | asgC (is : List (Nat × Bool)) (es : ME)
  | forE (is : List Nat) (e : ME) (a : MS)
set_option genInjectivity true
noncomputable def truV : V → HP → (Bool → Prop) → Prop
  | .int i, _, Q => Q (i != 0)
  | .bool b, _, Q => Q b
  | _, _, _ => False
noncomputable def intOk (i j : Int) : BOp → Prop
  | .mul => IntMulOk i j
  | .fdiv => j ≠ 0
  | .mod => j ≠ 0
  | .pow => 0 ≤ j ∧ (Builtin.Int.intBits i : Int) * j ≤ 2 ^ 27
  | .shl => 0 ≤ j ∧ (Builtin.Int.intBits i : Int) + j ≤ 2 ^ 27
  | .shr => 0 ≤ j
  | _ => True
noncomputable def intOp (i j : Int) : BOp → Int
  | .add => i + j
  | .sub => i - j
  | .mul => i * j
  | .fdiv => i.fdiv j
  | .mod => i.fmod j
  | .pow => i ^ j.toNat
  | .shl => i * 2 ^ j.toNat
  | .shr => i.fdiv (2 ^ j.toNat)
  | .band => Builtin.bitAnd i j
noncomputable def itemsOf : Option O → Option (List V)
  | some (.list vs) => some vs
  | some (.ro vs) => some vs
  | some (.tup vs) => some vs
  | some (.cell _) => Option.none
  | some (.rng _ _ _) => Option.none
  | some (.dict _) => Option.none
  | Option.none => Option.none
noncomputable def rngL (a b c : Int) : List V := (List.range (Builtin.Range.rangeSize a b c).toNat).map fun (k : Nat) => V.int (a + k * c)
/-- the items of a list, a tuple or a range -/
noncomputable def iterOf : Option O → Option (List V)
  | some (.rng a b c) => if Builtin.Range.small a b c then some (rngL a b c) else Option.none
  | o => itemsOf o
/-- the items of a list (not of a tuple) -/
noncomputable def listAt : Option O → Option (List V)
  | some (.list vs) => some vs
  | some (.ro vs) => some vs
  | _ => Option.none
noncomputable def newV (hp : HP) (o : O) (Q : V → HP → Prop) : Prop := ∀ r, hp r = Option.none → Q (.ref r) (hset hp r o)
noncomputable def binV (o : BOp) (v w : V) (hp : HP) (Q : V → HP → Prop) : Prop :=
  match v, w with
  | .int i, .int j => intOk i j o ∧ Q (.int (intOp i j o)) hp
  | .ref a, .ref b => match o with
    | .add => ∃ vs ws, listAt (hp a) = some vs ∧ listAt (hp b) = some ws ∧ vs.length + ws.length ≤ sizeLine ∧ newV hp (.list (vs ++ ws)) Q
    | _ => False
  | _, _ => False
noncomputable def augV (o : BOp) (v w : V) (hp : HP) (Q : V → HP → Prop) : Prop :=
  match v, w with
  | .int i, .int j => intOk i j o ∧ Q (.int (intOp i j o)) hp
  | _, _ => False
noncomputable def cmpI (i j : Int) : COp → Bool
  | .eq => decide (i = j)
  | .ne => !decide (i = j)
  | .lt => decide (i < j)
  | .le => decide (i ≤ j)
  | .gt => decide (j < i)
  | .ge => decide (j ≤ i)
mutual
/-- the datum that a value reads as -/
inductive Rd (hp : HP) : V → PyData → Prop
  | int (i : Int) : Rd hp (.int i) (.int i)
  | bool (b : Bool) : Rd hp (.bool b) (.bool b)
  | none : Rd hp .none .none
  | str (x : Str) : Rd hp (.str x) (.str x)
  | list {a : Addr} {vs : List V} {ds : List PyData} : hp a = some (.list vs) → RdL hp vs ds → Rd hp (.ref a) (.list ds)
  | ro {a : Addr} {vs : List V} {ds : List PyData} : hp a = some (.ro vs) → RdL hp vs ds → Rd hp (.ref a) (.list ds)
  | tup {a : Addr} {vs : List V} {ds : List PyData} : hp a = some (.tup vs) → RdL hp vs ds → Rd hp (.ref a) (.tuple ds)
inductive RdL (hp : HP) : List V → List PyData → Prop
  | nil : RdL hp [] []
  | cons {v : V} {d : PyData} {vs : List V} {ds : List PyData} : Rd hp v d → RdL hp vs ds → RdL hp (v :: vs) (d :: ds)
end
noncomputable def cmpV (o : COp) (v w : V) (hp : HP) (Q : Bool → Prop) : Prop :=
  match v, w, o with
  | .int i, .int j, o => Q (cmpI i j o)
  | v, w, .eq => ∃ d e, Rd hp v d ∧ Rd hp w e ∧ SeqAt.shaped d = true ∧ SeqAt.shaped e = true ∧ Q (PyData.eqv d e)
  | v, w, .ne => ∃ d e, Rd hp v d ∧ Rd hp w e ∧ SeqAt.shaped d = true ∧ SeqAt.shaped e = true ∧ Q (!PyData.eqv d e)
  | _, _, _ => False
noncomputable def isNone : V → Option Bool
  | .none => some true
  | .int _ => some false
  | .bool _ => some false
  | .ref _ => some false
  | _ => Option.none
noncomputable def isiV (v : V) (hp : HP) (k : Kd) (Q : Bool → Prop) : Prop :=
  match v, k with
  | .int _, .int => Q true
  | .int _, _ => Q false
  | .bool _, .int => Q true
  | .bool _, .bool => Q true
  | .bool _, _ => Q false
  | .ref a, k => (∃ vs, hp a = some (.list vs) ∧ Q (decide (k = .list))) ∨ (∃ vs, hp a = some (.tup vs) ∧ Q (decide (k = .tuple)))
  | _, _ => False
noncomputable def lget : List V → Nat → V
  | [], _ => .unb
  | v :: _, 0 => v
  | _ :: r, n + 1 => lget r n
noncomputable def lset : List V → Nat → V → List V
  | [], _, _ => []
  | _ :: r, 0, v => v :: r
  | x :: r, n + 1, v => x :: lset r n v
noncomputable def lsetN : List V → List Nat → List V → List V
  | l, i :: is, v :: vs => lsetN (lset l i v) is vs
  | l, _, _ => l
noncomputable def varV (l : List V) (i : Nat) (Q : V → Prop) : Prop :=
  match lget l i with
  | .unb => False
  | .cell _ => False
  | v => Q v
noncomputable def idxV (v w : V) (hp : HP) (Q : V → Prop) : Prop :=
  match v, w with
  | .ref a, .int k => ∃ vs x, itemsOf (hp a) = some vs ∧ (vs.length : Int) < 2 ^ 62 ∧ -(vs.length : Int) ≤ k ∧ k < vs.length ∧
      vs[(if k < 0 then k + vs.length else k).toNat]? = some x ∧ Q x
  | _, _ => False
noncomputable def lenV (v : V) (hp : HP) (Q : Int → Prop) : Prop :=
  match v with
  | .ref a => ∃ vs, itemsOf (hp a) = some vs ∧ (vs.length : Int) < 2 ^ 62 ∧ Q vs.length
  | .str x => (x.length : Int) < 2 ^ 62 ∧ Q x.length
  | _ => False
noncomputable def slcV (from' : Bool) (v w : V) (hp : HP) (Q : V → HP → Prop) : Prop :=
  match v, w with
  | .ref a, .int k => ∃ vs, listAt (hp a) = some vs ∧ vs.length ≤ sizeLine ∧ 0 ≤ k ∧ newV hp (.list (match from' with | true => vs.drop k.toNat | false => vs.take k.toNat)) Q
  | _, _ => False
noncomputable def lstV (v : V) (hp : HP) (Q : V → HP → Prop) : Prop :=
  match v with
  | .ref a => ∃ vs, iterOf (hp a) = some vs ∧ vs.length ≤ sizeLine ∧ newV hp (.list vs) Q
  | _ => False
noncomputable def pop0V (v : V) (hp : HP) (Q : V → HP → Prop) : Prop :=
  match v with
  | .ref a => ∃ x vs, hp a = some (.list (x :: vs)) ∧ vs.length < sizeLine ∧ Q x (hset hp a (.list vs))
  | _ => False
noncomputable def isLV (v : V) (hp : HP) (P : Prop) : Prop :=
  match v with
  | .ref a => (∃ vs, hp a = some (.list vs)) ∧ P
  | _ => False
noncomputable def appV (v x : V) (hp : HP) (Q : V → HP → Prop) : Prop :=
  match v with
  | .ref a => ∃ vs, hp a = some (.list vs) ∧ vs.length ≤ sizeLine ∧ Q .none (hset hp a (.list (vs ++ [x])))
  | _ => False
noncomputable def revV (v : V) (hp : HP) (Q : V → HP → Prop) : Prop :=
  match v with
  | .ref a => ∃ vs, hp a = some (.list vs) ∧ vs.length ≤ sizeLine ∧ Q .none (hset hp a (.list vs.reverse))
  | _ => False
noncomputable def cvarV (l : List V) (i : Nat) (hp : HP) (Q : V → Prop) : Prop :=
  match lget l i with
  | .cell a => ∃ v, hp a = some (.cell v) ∧ v ≠ .unb ∧ Q v
  | _ => False
/-- the values that a comprehension keeps hold of -/
noncomputable def capsV (l : List V) : List Nat → List V
  | [] => []
  | i :: r => lget l i :: capsV l r
noncomputable def cellsB (l : List V) : List Nat → Bool
  | [] => true
  | i :: r => (match lget l i with | .cell _ => true | _ => false) && cellsB l r
/-- a comprehension over the values vs -/
noncomputable def compI (test : List V → HP → (Bool → HP → Prop) → Prop) (elt : List V → HP → (V → HP → Prop) → Prop) (new : V → (List V → Prop) → HP → Prop) (vs : List V) (hp : HP) (K : HP → Prop) (Q : V → HP → Prop) : Prop :=
  ∃ I : Nat → List V → HP → Prop, I 0 [] hp ∧
    (∀ k x acc h, vs[k]? = some x → I k acc h → K h ∧ acc.length ≤ sizeLine ∧ new x (fun l => test l h fun t h1 =>
      (t = true → elt l h1 fun v h2 => I (k + 1) (acc ++ [v]) h2) ∧ (t = false → I (k + 1) acc h1)) h) ∧
    (∀ acc h, I vs.length acc h → K h ∧ newV h (.list acc) Q)
/-- an object of a class of the text -/
noncomputable def instOf (K : Frag) (x : Addr) : Option (Addr × Obj) := match K.lookup x with
  | some ⟨.ref C, some dx, .plain, _⟩ => (K.lookup dx).map fun od => (C, od)
  | _ => Option.none
noncomputable def intsOf : List Value → Option (List Int)
  | [] => some []
  | .int i _ :: r => (intsOf r).map (i :: ·)
  | _ :: _ => Option.none
noncomputable def gaOk (K : Frag) (C : Addr) : Bool := match findIn K (.ref C) "__getattribute__" with
  | some (some (.builtin b)) => b == "object.__getattribute__"
  | _ => false
noncomputable def callOk (K : Frag) (C f : Addr) : Bool := match findIn K (.ref C) "__call__" with
  | some (some (.ref f')) => f' == f
  | _ => false
/-- the def f stands behind a call of the object x -/
noncomputable def callB (K : Frag) (x f : Addr) : Bool := match instOf K x with
  | some (C, _) => callOk K C f && isFn K (.ref f) && fnIn K f
  | Option.none => false
/-- the list of ints that the object x shows under a name -/
noncomputable def tblAt (K : Frag) (x : Addr) (nm : Str) : Option (List Int) := match instOf K x with
  | some (C, od) => if gaOk K C = true then
      (match findObj K C (some od) nm with
        | some (.value (.ref L)) => (match K.lookup L with
          | some ⟨.type "list", _, .seq items _, _⟩ => intsOf items.toList
          | _ => Option.none)
        | _ => Option.none) else Option.none
  | Option.none => Option.none
mutual
noncomputable def ev (g : G) (d : Nat) : ME → List V → HP → (V → HP → Prop) → (XT) → Prop
  | .var i, l, hp, Q, _ => varV l i fun v => Q v hp
  | .int i, _, hp, Q, _ => Q (.int i) hp
  | .bool b, _, hp, Q, _ => Q (.bool b) hp
  | .none, _, hp, Q, _ => Q .none hp
  | .bin o a b, l, hp, Q, X => ev g d a l hp (fun v h1 => ev g d b l h1 (fun w h2 => binV o v w h2 Q) X) X
  | .neg a, l, hp, Q, X => ev g d a l hp (fun v h1 => match v with | .int i => Q (.int (-i)) h1 | _ => False) X
  | .cmp o a b, l, hp, Q, X => ev g d a l hp (fun v h1 => ev g d b l h1 (fun w h2 => cmpV o v w h2 fun t => Q (.bool t) h2) X) X
  | .chain a o b p e, l, hp, Q, X => ev g d a l hp (fun v h1 => ev g d b l h1 (fun w h2 => cmpV o v w h2 fun t =>
      (t = true → ev g d e l h2 (fun u h3 => cmpV p w u h3 fun t' => Q (.bool t') h3) X) ∧ (t = false → Q (.bool false) h2)) X) X
  | .isn a pos, l, hp, Q, X => ev g d a l hp (fun v h1 => match isNone v with | some b => Q (.bool (b == pos)) h1 | Option.none => False) X
  | .not a, l, hp, Q, X => ev g d a l hp (fun v h1 => truV v h1 fun t => Q (.bool (!t)) h1) X
  | .and a b, l, hp, Q, X => ev g d a l hp (fun v h1 => truV v h1 fun t => (t = true → ev g d b l h1 Q X) ∧ (t = false → Q v h1)) X
  | .or a b, l, hp, Q, X => ev g d a l hp (fun v h1 => truV v h1 fun t => (t = true → Q v h1) ∧ (t = false → ev g d b l h1 Q X)) X
  | .ite a b e, l, hp, Q, X => evT g d a l hp (fun t h1 => (t = true → ev g d b l h1 Q X) ∧ (t = false → ev g d e l h1 Q X)) X
  | .call f as, l, hp, Q, X => evs g d as l hp (fun vs h1 => Calls g d f vs [] h1 Q (dnX X)) X
  | .tup as, l, hp, Q, X => evs g d as l hp (fun vs h1 => vs.length ≤ sizeLine ∧ ∀ r, h1 r = Option.none → Q (.ref r) (hset h1 r (.tup vs))) X
  | .list as, l, hp, Q, X => evs g d as l hp (fun vs h1 => vs.length ≤ sizeLine ∧ ∀ r, h1 r = Option.none → Q (.ref r) (hset h1 r (.list vs))) X
  | .idx a i, l, hp, Q, X => ev g d a l hp (fun v h1 => ev g d i l h1 (fun w h2 => idxV v w h2 fun x => Q x h2) X) X
  | .len a, l, hp, Q, X => ev g d a l hp (fun v h1 => lenV v h1 fun n => Q (.int n) h1) X
  | .toInt a, l, hp, Q, X => ev g d a l hp (fun v h1 => match v with | .int i => Q (.int i) h1 | _ => False) X
  | .isi a k, l, hp, Q, X => ev g d a l hp (fun v h1 => isiV v h1 k fun t => Q (.bool t) h1) X
  | .nil, _, _, _, _ => False
  | .cons _ _, _, _, _, _ => False
  | .tv _, _, _, _, _ => False
  | .slcF a i, l, hp, Q, X => ev g d a l hp (fun v h1 => ev g d i l h1 (fun w h2 => slcV true v w h2 Q) X) X
  | .listOf a, l, hp, Q, X => ev g d a l hp (fun v h1 => lstV v h1 Q) X
  | .pop0 a, l, hp, Q, X => ev g d a l hp (fun v h1 => pop0V v h1 Q) X
  | .app a b, l, hp, Q, X => ev g d a l hp (fun v h1 => isLV v h1 (ev g d b l h1 (fun w h2 => appV v w h2 Q) X)) X
  | .rev a, l, hp, Q, X => ev g d a l hp (fun v h1 => revV v h1 Q) X
  | .bitlen a, l, hp, Q, X => ev g d a l hp (fun v h1 => match v with | .int i => Q (.int (Builtin.Int.intBits i)) h1 | _ => False) X
  | .abs a, l, hp, Q, X => ev g d a l hp (fun v h1 => match v with | .int i => Q (.int (if i < 0 then -i else i)) h1 | _ => False) X
  | .dvm a b, l, hp, Q, X => ev g d a l hp (fun v h1 => ev g d b l h1 (fun w h2 => match v, w with | .int i, .int j => j ≠ 0 ∧ newV h2 (.tup [.int (i.fdiv j), .int (i.fmod j)]) Q | _, _ => False) X) X
  | .strOf a, l, hp, Q, X => ev g d a l hp (fun v h1 => match v with | .int i => i.natAbs < 10 ^ 4300 ∧ Q (.str (Str.ofString (toString i))) h1 | _ => False) X
  | .cvar i, l, hp, Q, _ => cvarV l i hp fun v => Q v hp
  | .compR lo hi st cond elt caps, l, hp, Q, X => cellsB l caps = true ∧ ev g d lo l hp (fun x h1 => ev g d hi l h1 (fun y h2 => ev g d st l h2 (fun z h3 =>
      match x, y, z with
      | .int x, .int y, .int z => z ≠ 0 ∧ Builtin.Range.small x y z = true ∧ compI (fun l h R => evT g d cond l h R fun _ _ => False) (fun l h R => ev g d elt l h R fun _ _ => False) (fun v R _ => R (v :: capsV l caps))
          ((List.range (Builtin.Range.rangeSize x y z).toNat).map fun (k : Nat) => V.int (x + k * z)) h3 (fun _ => True) Q
      | _, _, _ => False) X) X) X
  | .compL it cond elt caps, l, hp, Q, X => cellsB l caps = true ∧ ev g d it l hp (fun v h1 => match v with
      | .ref r => ∃ vs, listAt (h1 r) = some vs ∧ (vs.length : Int) < 2 ^ 62 ∧ compI (fun l h R => evT g d cond l h R fun _ _ => False) (fun l h R => ev g d elt l h R fun _ _ => False) (fun v R _ => R (v :: capsV l caps)) vs h1 (fun h => h r = h1 r) Q
      | _ => False) X
  | .rng a b e, l, hp, Q, X => ev g d a l hp (fun v h1 => ev g d b l h1 (fun w h2 => ev g d e l h2 (fun u h3 => match v, w, u with
      | .int i, .int j, .int k => k ≠ 0 ∧ newV h3 (.rng i j k) Q | _, _, _ => False) X) X) X
  | .calli x as, l, hp, Q, X => ∃ a f, nsIn g.K mainGlobals (Str.ofString x) = some (some (.ref a)) ∧ callB g.K a f = true ∧ evs g d as l hp (fun vs h1 => Calls g d f (.ref a :: vs) [] h1 Q (dnX X)) X
  | .tabA s x i, l, hp, Q, X => varV l s fun v => match v with
      | .ref a => ∃ t, tblAt g.K a (Str.ofString x) = some t ∧ ev g d i l hp (fun w h1 => match w with | .int k => 0 ≤ k ∧ k < 2 ^ 62 ∧ ∃ r, t[k.toNat]? = some r ∧ Q (.int r) h1 | _ => False) X
      | _ => False
termination_by structural m => m
noncomputable def evs (g : G) (d : Nat) : ME → List V → HP → (List V → HP → Prop) → (XT) → Prop
  | .nil, _, hp, Q, _ => Q [] hp
  | .cons a b, l, hp, Q, X => ev g d a l hp (fun v h1 => evs g d b l h1 (fun vs h2 => Q (v :: vs) h2) X) X
  | _, _, _, _, _ => False
termination_by structural m => m
noncomputable def evT (g : G) (d : Nat) : ME → List V → HP → (Bool → HP → Prop) → (XT) → Prop
  | .cmp o a b, l, hp, Q, X => ev g d a l hp (fun v h1 => ev g d b l h1 (fun w h2 => cmpV o v w h2 fun t => Q t h2) X) X
  | .chain a o b p e, l, hp, Q, X => ev g d a l hp (fun v h1 => ev g d b l h1 (fun w h2 => cmpV o v w h2 fun t =>
      (t = true → ev g d e l h2 (fun u h3 => cmpV p w u h3 fun t' => Q t' h3) X) ∧ (t = false → Q false h2)) X) X
  | .not a, l, hp, Q, X => evT g d a l hp (fun t h1 => Q (!t) h1) X
  | .and a b, l, hp, Q, X => evT g d a l hp (fun t h1 => (t = true → evT g d b l h1 Q X) ∧ (t = false → Q false h1)) X
  | .or a b, l, hp, Q, X => evT g d a l hp (fun t h1 => (t = true → Q true h1) ∧ (t = false → evT g d b l h1 Q X)) X
  | .ite a b e, l, hp, Q, X => evT g d a l hp (fun t h1 => (t = true → evT g d b l h1 Q X) ∧ (t = false → evT g d e l h1 Q X)) X
  | .tv a, l, hp, Q, X => ev g d a l hp (fun v h1 => truV v h1 fun t => Q t h1) X
  | _, _, _, _, _ => False
termination_by structural m => m
end
inductive Out where
  | next | brk
  | ret (v : V)
noncomputable def setV (v w x : V) (hp : HP) (Q : HP → Prop) : Prop :=
  match v, w with
  | .ref a, .int k => ∃ vs, hp a = some (.list vs) ∧ 0 ≤ k ∧ k < vs.length ∧ (vs.length : Int) < 2 ^ 62 ∧ Q (hset hp a (.list (vs.set k.toNat x)))
  | _, _ => False
noncomputable def unpV (v : V) (n : Nat) (hp : HP) (Q : List V → Prop) : Prop :=
  match v with
  | .ref a => ∃ vs, hp a = some (.tup vs) ∧ vs.length = n ∧ Q vs
  | _ => False
/-- values put at places, of which some are cells -/
noncomputable def putN (l : List V) : List (Nat × Bool) → List V → HP → (List V → HP → Prop) → Prop
  | [], [], hp, Q => Q l hp
  | (i, false) :: is, v :: vs, hp, Q => putN (lset l i v) is vs hp Q
  | (i, true) :: is, v :: vs, hp, Q => match lget l i with
    | .cell a => (∃ w, hp a = some (.cell w)) ∧ putN l is vs (hset hp a (.cell v)) Q
    | _ => False
  | _, _, _, _ => False
/-- a loop over the values vs -/
noncomputable def forIn (turn : List V → HP → (Out → List V → HP → Prop) → Prop) (i : Nat) (vs : List V) (l : List V) (hp : HP) (K : HP → Prop) (Q : Out → List V → HP → Prop) : Prop :=
  ∃ I : Nat → List V → HP → Prop, I 0 l hp ∧
    (∀ k x l h, vs[k]? = some x → I k l h → K h ∧ turn (lset l i x) h (fun o l2 h2 => match o with
      | .next => I (k + 1) l2 h2 | .brk => Q .next l2 h2 | .ret v => Q (.ret v) l2 h2)) ∧
    (∀ l h, I vs.length l h → K h ∧ Q .next l h)
/-- a loop over rows that are taken apart -/
noncomputable def forInU (turn : List V → HP → (Out → List V → HP → Prop) → Prop) (is : List Nat) (vs : List V) (l : List V) (hp : HP) (K : HP → Prop) (Q : Out → List V → HP → Prop) : Prop :=
  ∃ I : Nat → List V → HP → Prop, I 0 l hp ∧
    (∀ k x l h, vs[k]? = some x → I k l h → K h ∧ unpV x is.length h fun ys => turn (lsetN l is ys) h (fun o l2 h2 => match o with
      | .next => I (k + 1) l2 h2 | .brk => Q .next l2 h2 | .ret v => Q (.ret v) l2 h2)) ∧
    (∀ l h, I vs.length l h → K h ∧ Q .next l h)
/-- a loop over rows, each put at the places is -/
noncomputable def forInR (turn : List V → HP → (Out → List V → HP → Prop) → Prop) (is : List Nat) (rows : List (List V)) (l : List V) (hp : HP) (K : HP → Prop) (Q : Out → List V → HP → Prop) : Prop :=
  ∃ I : Nat → List V → HP → Prop, I 0 l hp ∧
    (∀ k ys l h, rows[k]? = some ys → I k l h → K h ∧ turn (lsetN l is ys) h (fun o l2 h2 => match o with
      | .next => I (k + 1) l2 h2 | .brk => Q .next l2 h2 | .ret v => Q (.ret v) l2 h2)) ∧
    (∀ l h, I rows.length l h → K h ∧ Q .next l h)
/-- the rows of enumerate -/
noncomputable def enumR : Nat → List V → List (List V)
  | _, [] => []
  | k, x :: r => [.int k, x] :: enumR (k + 1) r
noncomputable def whileI (test : List V → HP → (Bool → HP → Prop) → Prop) (turn els : List V → HP → (Out → List V → HP → Prop) → Prop) (l : List V) (hp : HP) (Q : Out → List V → HP → Prop) : Prop :=
  ∃ I : Nat → List V → HP → Prop, (∃ n, I n l hp) ∧ ∀ n l h, I n l h → test l h (fun t h1 =>
    (t = true → turn l h1 (fun o l2 h2 => match o with
      | .next => ∃ m, m < n ∧ I m l2 h2 | .brk => Q .next l2 h2 | .ret v => Q (.ret v) l2 h2)) ∧
    (t = false → els l h1 Q))
noncomputable def sameLen : List V → List Nat → Bool
  | [], [] => true
  | _ :: r, _ :: t => sameLen r t
  | _, _ => false
theorem sameLen_len : ∀ {vs : List V} {is : List Nat}, sameLen vs is = true → vs.length = is.length
  | [], [], _ => rfl
  | [], _ :: _, h => by cases h
  | _ :: _, [], h => by cases h
  | _ :: r, _ :: t, h => by simp only [List.length_cons]; rw [sameLen_len (vs := r) (is := t) h]
noncomputable abbrev noX : XT := fun _ _ => False
noncomputable def exec (g : G) (d : Nat) : MS → List V → HP → (Out → List V → HP → Prop) → (XT) → Prop
  | .skip, l, hp, Q, _ => Q .next l hp
  | .seq a b, l, hp, Q, X => exec g d a l hp (fun o l1 h1 => match o with | .next => exec g d b l1 h1 Q X | .brk => Q .brk l1 h1 | .ret v => Q (.ret v) l1 h1) X
  | .asg i e, l, hp, Q, X => ev g d e l hp (fun v h1 => Q .next (lset l i v) h1) X
  | .asgN is es, l, hp, Q, X => evs g d es l hp (fun vs h1 => match sameLen vs is with | true => Q .next (lsetN l is vs) h1 | false => False) X
  | .unp is e, l, hp, Q, X => ev g d e l hp (fun v h1 => unpV v is.length h1 fun vs => Q .next (lsetN l is vs) h1) X
  | .aug i o e, l, hp, Q, X => varV l i fun v => ev g d e l hp (fun w h1 => augV o v w h1 fun r h2 => Q .next (lset l i r) h2) X
  | .setI a i e, l, hp, Q, X => ev g d e l hp (fun x h1 => ev g d a l h1 (fun v h2 => ev g d i l h2 (fun w h3 => setV v w x h3 fun h4 => Q .next l h4) X) X) X
  | .ite c a b, l, hp, Q, X => evT g d c l hp (fun t h1 => (t = true → exec g d a l h1 Q X) ∧ (t = false → exec g d b l h1 Q X)) X
  | .whil c a b, l, hp, Q, _ => whileI (fun l h R => evT g d c l h R noX) (fun l h R => exec g d a l h R noX) (fun l h R => exec g d b l h R noX) l hp Q
  | .forR i lo hi st a, l, hp, Q, X => ev g d lo l hp (fun x h1 => ev g d hi l h1 (fun y h2 => ev g d st l h2 (fun z h3 =>
      match x, y, z with
      | .int x, .int y, .int z => z ≠ 0 ∧ Builtin.Range.small x y z = true ∧ forIn (fun l h R => exec g d a l h R noX) i ((List.range (Builtin.Range.rangeSize x y z).toNat).map fun (k : Nat) => V.int (x + k * z)) l h3 (fun _ => True) Q
      | _, _, _ => False) X) X) X
  | .forL i e a, l, hp, Q, X => ev g d e l hp (fun v h1 => match v with
      | .ref r => ∃ vs, iterOf (h1 r) = some vs ∧ (vs.length : Int) < 2 ^ 62 ∧ forIn (fun l h R => exec g d a l h R noX) i vs l h1 (fun h => h r = h1 r) Q
      | _ => False) X
  | .ret e, l, hp, Q, X => ev g d e l hp (fun v h1 => Q (.ret v) l h1) X
  | .brk, l, hp, Q, _ => Q .brk l hp
  | .expr e, l, hp, Q, X => ev g d e l hp (fun _ h1 => Q .next l h1) X
  | .forU is e a, l, hp, Q, X => ev g d e l hp (fun v h1 => match v with
      | .ref r => ∃ vs, iterOf (h1 r) = some vs ∧ (vs.length : Int) < 2 ^ 62 ∧ forInU (fun l h R => exec g d a l h R noX) is vs l h1 (fun h => h r = h1 r) Q
      | _ => False) X
  | .forE is e a, l, hp, Q, X => ev g d e l hp (fun v h1 => match v with
      | .ref r => ∃ vs, listAt (h1 r) = some vs ∧ forInR (fun l h R => exec g d a l h R noX) is (enumR 0 vs) l h1 (fun h => h r = h1 r) Q
      | _ => False) X
  | .stop, _, _, _, _ => False
  | .casg i e, l, hp, Q, X => ev g d e l hp (fun v h1 => match lget l i with | .cell a => (∃ w, h1 a = some (.cell w)) ∧ Q .next l (hset h1 a (.cell v)) | _ => False) X
  | .asgC is es, l, hp, Q, X => evs g d es l hp (fun vs h1 => putN l is vs h1 fun l2 h2 => Q .next l2 h2) X
  | .raise x, _, hp, _, X => X (.own x) hp
  | .raiseF x es, l, hp, _, X => evs g d es l hp (fun vs h1 => match vs with | [.int n, .int k] => n.natAbs < 10 ^ 4300 ∧ k.natAbs < 10 ^ 4300 ∧ X (.own x) h1 | _ => False) X
structure Fx where
  g : G
  gt : List (Str × Addr)
  bt : List Str
  names : List Str
  sc : Scope
  top : Bool
  tr : Bool
/-- ValueError stands as the built-in one -/
noncomputable def catchOk (g : G) : Prop := (Str.ofString "ValueError") ∉ startupNames ∧ (Str.ofString "ValueError") ∉ g.loose ∧ (Str.ofString "ValueError") ∉ (recsOf g.p).map (·.name) ∧
  (Str.ofString "ValueError") ∉ (litsOf g.p).map (·.1) ∧ (Str.ofString "ValueError") ∉ (clssOf g.p g.loose).map (·.name)
structure Fx.Ok (F : Fx) : Prop where
  gt : ∀ x a, F.gt.lookup x = some a → nsIn F.g.K mainGlobals x = some (some (.ref a)) ∧ keepIn F.g.K (.ref a) = true
  bt : ∀ x ∈ F.bt, nsIn F.g.K mainGlobals x = some Option.none
  nd : F.names.Nodup
  tr : F.tr = true → catchOk F.g
/-- the frame c is one of F -/
noncomputable def SCF (c : Cx) (F : Fx) : Prop := c.sc = F.sc ∧ (F.top = true → c.cp = none) ∧ (F.top = true → (F.sc.names.all fun y => !(y.2 == .cell)) = true → c.cl = [])
noncomputable def SE (F : Fx) (e : Expr) (m : ME) : Prop := ∀ c d, F.Ok → c.g = F.g → SCF c F → c.Ok → room c d → ∀ l hp Q X, ev F.g d m l hp Q X → W rV c F.names l (eval e c.env) hp Q X
noncomputable def ST (F : Fx) (e : Expr) (m : ME) : Prop := ∀ c d, F.Ok → c.g = F.g → SCF c F → c.Ok → room c d → ∀ l hp Q X, evT F.g d m l hp Q X → ∀ whole, whole = eval e c.env → W rB c F.names l (isTrue e c.env whole) hp Q X
noncomputable def SEs (F : Fx) (es : List Expr) (m : ME) : Prop := ∀ c d, F.Ok → c.g = F.g → SCF c F → c.Ok → room c d → ∀ l hp Q X, evs F.g d m l hp Q X → ∀ pos, W rVs c F.names l (spliced (backTo pos (starEach es c.env))) hp Q X
noncomputable def notStar : Expr → Bool
  | .Starred .. => false
  | _ => true
theorem starEach_plain : ∀ (es : List Expr) (env : Env), es.all notStar = true → starEach es env = es.map fun e => (false, eval e env)
  | [], _, _ => rfl
  | e :: r, env, h => by
    simp only [List.all_cons, Bool.and_eq_true] at h
    have ih := starEach_plain r env h.2
    have : starEach (e :: r) env = (false, eval e env) :: starEach r env := by
      cases e <;> first | rfl | (exact absurd h.1 (by simp [notStar]))
    rw [this, ih]; rfl
theorem starEach_cons {e : Expr} {r : List Expr} {env : Env} (h : notStar e = true) : starEach (e :: r) env = (false, eval e env) :: starEach r env := by
  cases e <;> first | rfl | (exact absurd h (by simp [notStar]))
theorem backTo_any {es : List Expr} {env : Env} {pos : Pos} (h : es.all notStar = true) : (backTo pos (starEach es env)).any (·.1) = false := by
  rw [starEach_plain es env h]
  induction es with
  | nil => rfl
  | cons e r ih =>
    simp only [List.all_cons, Bool.and_eq_true] at h
    have := ih h.2
    simp only [backTo, List.map_cons, List.any_cons, Bool.false_or] at this ⊢
    exact this
theorem lget_some {v : V} : ∀ {l : List V} {i : Nat}, lget l i = v → v ≠ .unb → l[i]? = some v
  | [], _, h, n => absurd h.symm n
  | _ :: _, 0, h, _ => by simp [lget] at h; simp [h]
  | _ :: r, i + 1, h, n => by simp only [lget] at h; simpa using lget_some (l := r) h n
theorem Cx.env_scope (c : Cx) : c.env.scope = c.sc := by unfold Cx.env Cx.sc; cases c.cp <;> rfl
theorem Cx.env_globals (c : Cx) : c.env.globals = mainGlobals := by unfold Cx.env; cases c.cp <;> rfl
theorem Cx.env_builtins (c : Cx) : c.env.builtins = builtinsNs := by unfold Cx.env; cases c.cp <;> rfl
theorem Cx.env_kindOf (c : Cx) (x : Str) : c.env.kindOf x = c.sc.names.lookup x := by rw [← c.env_scope]; rfl
theorem Cx.env_plain {c : Cx} (h : c.cp = none) : c.env = c.fenv := by unfold Cx.env; rw [h]
theorem Cx.sc_plain {c : Cx} (h : c.cp = none) : c.sc = c.fsc := by unfold Cx.sc; rw [h]
theorem Cx.Ok.turn {c : Cx} (ok : c.Ok) {g : Heap} (T : KtsTurn c.fs c.h₀ g) : (c.at g).Ok :=
  ⟨⟨ok.below.stack, fun b o e => T.other b o (ok.below.stays b o e) (fun hm => by rw [(ok.below.frames.mem hm).1] at e; cases e), ok.below.frames.of_keeps fun b o e _ => by
    obtain ⟨sl, hs⟩ := T.up e
    exact ⟨_, hs, rfl⟩⟩, ok.inK, ok.top, ok.dicts.turn T, ok.kind, ok.fkind, ok.gen, ok.cor, ok.hd, ok.seer, ok.tree⟩
theorem Rep.locals {c : Cx} {names l hp fr h} {i : Nat} {x : Str} {v : V} (R : Rep c names l hp fr h) (hx : names[i]? = some x) (hv : lget l i = v) (hn : v ≠ .unb) (hc : ∀ a, v ≠ .cell a) :
    ∃ m val, h.Ns c.env.locals m ∧ m x = some val ∧ absV val = v := by
  obtain ⟨g, T, m, F, lo, _, N, _⟩ := R
  unfold LocX at lo
  unfold Cx.env
  split at lo
  · rename_i e
    rcases lo i x v hx (lget_some hv hn) hn with ⟨a, q, _⟩ | ⟨_, val, a, b⟩
    · exact absurd q (hc a)
    · have e : c.cp = none := e
      rw [e]
      exact ⟨m, val, F.ns, a, b⟩
  · rename_i k e
    obtain ⟨_, oC, m₂, hm, ⟨es, ep, hd, r⟩, lo⟩ := lo
    rcases lo i x v hx (lget_some hv hn) hn with ⟨a, q, _⟩ | ⟨_, val, a, b⟩
    · exact absurd q (hc a)
    · have e : c.cp = some k := e
      rw [e]
      exact ⟨m₂, val, ⟨oC, es, ep, (N _ hm).1, hd, r⟩, a, b⟩
/-- the cell of a name -/
theorem Rep.cellOf {c : Cx} {names l hp fr h} {i : Nat} {x : Str} {a : Addr} (R : Rep c names l hp fr h) (hx : names[i]? = some x) (hv : lget l i = .cell a) : c.env.cells.lookup x = some a := by
  obtain ⟨g, T, m, F, lo, _, N, _⟩ := R
  unfold LocX at lo
  unfold Cx.env
  split at lo
  · rename_i e
    have e : c.cp = none := e
    rw [e]
    rcases lo i x _ hx (lget_some hv (by simp)) (by simp) with ⟨b, q, r⟩ | ⟨q, _⟩
    · cases q; exact r
    · exact absurd rfl (q a)
  · rename_i k e
    have e : c.cp = some k := e
    rw [e]
    obtain ⟨_, oC, m₂, hm, _, lo⟩ := lo
    rcases lo i x _ hx (lget_some hv (by simp)) (by simp) with ⟨b, q, r⟩ | ⟨q, _⟩
    · cases q; exact r
    · exact absurd rfl (q a)
theorem varV_iff {l : List V} {i : Nat} {Q : V → Prop} : varV l i Q ↔ (lget l i ≠ .unb ∧ ∀ a, lget l i ≠ .cell a) ∧ Q (lget l i) := by
  unfold varV; cases lget l i <;> simp
theorem Rep.keep {c : Cx} {names l hp fr h} (ok : c.Ok) (R : Rep c names l hp fr h) : ∀ b o, c.base.get? b = some o → h.get? b = some o :=
  let ⟨_, T, _, F, _⟩ := R; fun b o e => F.keep b o ((ok.turn T).below.stays b o e)
section
variable {F : Fx}
theorem se_var {x : Str} {pos : Pos} {i : Nat} (hi : F.names[i]? = some x) (hk : F.sc.names.lookup x = some .local) (hd : (x == ("__debug__" : Str)) = false) : SE F (.Name x pos) (.var i) := by
  intro c d FO hg hsc ok rm l hp Q X hev fr s P E R hP hX
  obtain ⟨⟨hn, hc⟩, hQ⟩ := varV_iff.mp hev
  obtain ⟨m, val, hns, hm, hab⟩ := R.locals hi rfl hn hc
  exact wpAny_Name (wpAny_loadName_local (by rw [c.env_scope]; exact ok.kind) (by rw [c.env_kindOf, hsc.1]; exact hk) hns hm (hP _ val hp s.heap s.toks hQ hab R)) hd
theorem se_cvar {x : Str} {pos : Pos} {i : Nat} (hi : F.names[i]? = some x) (hk : F.sc.names.lookup x = some .cell) (hd : (x == ("__debug__" : Str)) = false) : SE F (.Name x pos) (.cvar i) := by
  intro c d FO hg hsc ok rm l hp Q X hev fr s P E R hP hX
  have hev : cvarV l i hp fun v => Q v hp := hev
  unfold cvarV at hev
  split at hev
  · rename_i a e
    obtain ⟨v, h1, hn, hQ⟩ := hev
    have hcl := R.cellOf hi e
    obtain ⟨g, T, m, Fm, lo, H, N, D⟩ := id R
    obtain ⟨ob, ho, ⟨w, hd', hw⟩, _⟩ := H.2 a _ h1
    cases w with
    | none => exact absurd hw hn
    | some val => exact wpAny_Name (wpAny_loadName_cell (by rw [c.env_scope]; exact ok.kind) (by rw [c.env_kindOf, hsc.1]; exact hk) hcl ⟨ob, ho, hd'⟩ (hP _ val hp s.heap s.toks hQ hw.2 R)) hd
  · exact hev.elim
theorem se_int {i : Int} {k pos} : SE F (.Constant (.int i) k pos) (.int i) := by
  intro c d FO hg hsc ok rm l hp Q X hev fr s P E R hP hX
  exact wpAny_Constant_int (hP _ _ hp s.heap _ hev rfl R)
theorem se_bool {b : Bool} {k pos} : SE F (.Constant (.bool b) k pos) (.bool b) := by
  intro c d FO hg hsc ok rm l hp Q X hev fr s P E R hP hX
  exact Constant_bool (hP _ _ hp s.heap s.toks hev rfl R)
noncomputable def opOf : Operator → Option BOp
  | .Add => some .add | .Sub => some .sub | .Mult => some .mul | .FloorDiv => some .fdiv | .Mod => some .mod
  | .Pow => some .pow | .LShift => some .shl | .RShift => some .shr | .BitAnd => some .band | _ => Option.none
theorem absV_int {v : Value} {i : Int} (h : absV v = .int i) : ∃ t, v = .int i t := by
  cases v <;> simp [absV] at h
  subst h; exact ⟨_, rfl⟩
theorem absV_bool {v : Value} {b : Bool} (h : absV v = .bool b) : v = .bool b := by
  cases v <;> simp [absV] at h
  subst h; rfl
theorem absV_str {v : Value} {x : Str} (h : absV v = .str x) : ∃ t, v = .str x t := by
  cases v <;> simp [absV] at h
  subst h; exact ⟨_, rfl⟩
theorem absV_ref {v : Value} {a : Addr} (h : absV v = .ref a) : v = .ref a := by
  cases v <;> simp [absV] at h
  subst h; rfl
theorem absV_none {v : Value} (h : absV v = .none) : v = .none := by
  cases v <;> simp [absV] at h
  rfl
theorem pylong {c : Cx} {names l hp fr} {s : Shared} {d : Nat} (ok : c.Ok) (rm : room c d) (R : Rep c names l hp fr s.heap) : PylongRoom (model c.g.prog c.g.w) c.A s := by
  refine PylongRoom.of (ok.top.nolimit.keeps (R.keep ok)) ?_ (SeerAt.of (ok.seer.keeps (R.keep ok)) ok.tree (Around.frames_deeper ok.below.stack) ok.gen ok.cor rfl rfl)
  have h1 := rm.1
  have : Builtin.pylongFrames = 100 := rfl
  omega
theorem se_neg {a : Expr} {pos} {ma : ME} (ha : SE F a ma) : SE F (.UnaryOp .USub a pos) (.neg ma) := by
  intro c d FO hg hsc ok rm l hp Q X hev fr s P E R hP hX
  refine UnaryOp_ (ha c d FO hg hsc ok rm l hp _ X hev fr s _ E R (fun v x h1 hh tk hq hx R1 => ?_) hX)
  split at hq
  · obtain ⟨t, rfl⟩ := absV_int hx
    exact PyProof.Rows.neg_int (hP _ _ h1 hh _ hq rfl R1)
  · exact hq.elim
theorem truS {c : Cx} {names : List Str} {l : List V} {hp : HP} {X : XT} {Q : Bool → HP → Prop} {v : V} {x : Value} (h : truV v hp fun t => Q t hp) (hx : absV x = v) : W rB c names l (truthy x) hp Q X := by
  intro fr s P E R hP hX
  cases v with
  | int i =>
    obtain ⟨t, rfl⟩ := absV_int hx
    exact PyProof.Rows.truthy_int (hP _ _ hp s.heap s.toks h rfl R)
  | bool b =>
    cases absV_bool hx
    exact wpAny_truthy_bool (hP _ _ hp s.heap s.toks h rfl R)
  | _ => exact h.elim
noncomputable def cmpOf : CmpOp → Option COp
  | .Eq => some .eq | .NotEq => some .ne | .Lt => some .lt | .LtE => some .le | .Gt => some .gt | .GtE => some .ge | _ => Option.none
theorem se_ite {a b e : Expr} {pos} {ma mb me : ME} (ha : ST F a ma) (hb : SE F b mb) (he : SE F e me) : SE F (.IfExp a b e pos) (.ite ma mb me) := by
  intro c d FO hg hsc ok rm l hp Q X hev fr s P E R hP hX
  refine IfExp_ (ha c d FO hg hsc ok rm l hp _ X hev _ rfl fr s _ E R (fun v x h1 hh tk hq hx R1 => ?_) hX)
  cases hx
  cases v with
  | true => rw [if_pos rfl]; exact hb c d FO hg hsc ok rm l h1 _ X (hq.1 rfl) fr _ _ E R1 hP hX
  | false => rw [if_neg (by decide)]; exact he c d FO hg hsc ok rm l h1 _ X (hq.2 rfl) fr _ _ E R1 hP hX
theorem se_not {a : Expr} {pos} {ma : ME} (ha : SE F a ma) (hun : ∀ M A v s (Q : Value → Shared → Prop) E, wpAny M A (truthy v) (fun t s' => Q (.bool (!t)) s') E s → wpAny M A (unaryOp .Not v) Q E s) : SE F (.UnaryOp .Not a pos) (.not ma) := by
  intro c d FO hg hsc ok rm l hp Q X hev fr s P E R hP hX
  refine UnaryOp_ (ha c d FO hg hsc ok rm l hp _ X hev fr s _ E R (fun v x h1 hh tk hq hx R1 => ?_) hX)
  refine hun _ _ _ _ _ _ (truS (Q := fun t h => Q (.bool (!t)) h) hq hx fr _ _ E R1 (fun u z h3 hh3 tk3 hq3 hz R3 => ?_) hX)
  cases hz
  exact hP _ _ h3 hh3 tk3 hq3 rfl R3
theorem st_not {a : Expr} {pos} {ma : ME} (ha : ST F a ma) : ST F (.UnaryOp .Not a pos) (.not ma) := by
  intro c d FO hg hsc ok rm l hp Q X hev whole hw fr s P E R hP hX
  refine isTrue_not (ha c d FO hg hsc ok rm l hp _ X hev _ rfl fr s _ E R (fun v x h1 hh tk hq hx R1 => ?_) hX)
  cases hx
  exact hP _ _ h1 hh tk hq rfl R1
theorem st_ite {a b e : Expr} {pos} {ma mb me : ME} (ha : ST F a ma) (hb : ST F b mb) (he : ST F e me) : ST F (.IfExp a b e pos) (.ite ma mb me) := by
  intro c d FO hg hsc ok rm l hp Q X hev whole hw fr s P E R hP hX
  refine isTrue_IfExp (ha c d FO hg hsc ok rm l hp _ X hev _ rfl fr s _ E R (fun v x h1 hh tk hq hx R1 => ?_) hX)
  cases hx
  cases v with
  | true => rw [if_pos rfl]; exact hb c d FO hg hsc ok rm l h1 _ X (hq.1 rfl) _ rfl fr _ _ E R1 hP hX
  | false => rw [if_neg (by decide)]; exact he c d FO hg hsc ok rm l h1 _ X (hq.2 rfl) _ rfl fr _ _ E R1 hP hX
noncomputable def plainTest : Expr → Bool
  | .BoolOp .. => false
  | .UnaryOp .. => false
  | .Compare .. => false
  | .IfExp .. => false
  | .NamedExpr .. => false
  | _ => true
theorem st_tv {e : Expr} {m : ME} (hp : plainTest e = true) (h : SE F e m) : ST F e (.tv m) := by
  intro c d FO hg hsc ok rm l hp' Q X hev whole hw fr s P E R hP hX
  subst hw
  refine isTrue_plain (h c d FO hg hsc ok rm l hp' _ X hev fr s _ E R (fun v x h1 hh tk hq hx R1 => ?_) hX) ?_
  · exact truS (Q := Q) hq hx fr _ _ E R1 hP hX
  · cases e <;> first | rfl | (exact absurd hp (by simp [plainTest]))
end
theorem base_lt {c : Cx} (ok : c.Ok) {m h a} {items : Array Value} (Fm : Fr c.h₀ c.L h m) (hb : c.base.IsList a items) : a < h.objs.size := by
  obtain ⟨o, ho, _⟩ := hb
  exact Heap.lt_size (Fm.keep _ _ (ok.below.stays _ _ ho))
noncomputable def pick (hp : HP) (h : Heap) (a : Addr) : Option (Addr × Obj) :=
  match hp a with
  | some (.list _) => (h.get? a).map (a, ·)
  | some (.tup _) => (h.get? a).map (a, ·)
  | some (.cell _) => (h.get? a).map (a, ·)
  | some (.rng _ _ _) => (h.get? a).map (a, ·)
  | some (.dict _) => (h.get? a).map (a, ·)
  | _ => Option.none
theorem HpRep.news {c : Cx} {hp : HP} {h : Heap} (H : HpRep c hp h) : ∃ news, News c.h₀ c.L h news ∧ HpN c hp news := by
  obtain ⟨⟨D, hD⟩, hH⟩ := H
  refine ⟨D.filterMap (pick hp h), fun p hp' => ?_, ⟨D, hD⟩, fun a o ho => ?_⟩
  · obtain ⟨a, ha, e⟩ := List.mem_filterMap.mp hp'
    unfold pick at e
    split at e
    all_goals first
      | (rename_i q; have := hH a _ q; dsimp only at this; obtain ⟨ob, h1, _, h3, h4⟩ := this
         rw [h1] at e; simp only [Option.map_some, Option.some.injEq] at e; subst e; exact ⟨h1, h3, h4⟩)
      | cases e
  · have := hH a o ho
    cases o with
    | ro vs => exact this
    | list vs =>
      obtain ⟨ob, h1, h2, _⟩ := this
      exact ⟨ob, List.mem_filterMap.mpr ⟨a, hD a _ ho, by simp only [pick, ho, h1, Option.map_some]⟩, h2⟩
    | tup vs =>
      obtain ⟨ob, h1, h2, _⟩ := this
      exact ⟨ob, List.mem_filterMap.mpr ⟨a, hD a _ ho, by simp only [pick, ho, h1, Option.map_some]⟩, h2⟩
    | cell vs =>
      obtain ⟨ob, h1, h2, _⟩ := this
      exact ⟨ob, List.mem_filterMap.mpr ⟨a, hD a _ ho, by simp only [pick, ho, h1, Option.map_some]⟩, h2⟩
    | rng _ _ _ =>
      obtain ⟨ob, h1, h2, _⟩ := this
      exact ⟨ob, List.mem_filterMap.mpr ⟨a, hD a _ ho, by simp only [pick, ho, h1, Option.map_some]⟩, h2⟩
    | dict _ =>
      obtain ⟨ob, h1, h2, _⟩ := this
      exact ⟨ob, List.mem_filterMap.mpr ⟨a, hD a _ ho, by simp only [pick, ho, h1, Option.map_some]⟩, h2⟩
theorem HpN.rep {c : Cx} {hp : HP} {h : Heap} {news : List (Addr × Obj)} (H : HpN c hp news) (N : News c.h₀ c.L h news) : HpRep c hp h := by
  refine ⟨H.1, fun a o ho => ?_⟩
  have := H.2 a o ho
  cases o with
  | ro vs => exact this
  | list vs => obtain ⟨ob, h1, h2⟩ := this; exact ⟨ob, (N _ h1).1, h2, (N _ h1).2⟩
  | tup vs => obtain ⟨ob, h1, h2⟩ := this; exact ⟨ob, (N _ h1).1, h2, (N _ h1).2⟩
  | cell vs => obtain ⟨ob, h1, h2⟩ := this; exact ⟨ob, (N _ h1).1, h2, (N _ h1).2⟩
  | rng _ _ _ => obtain ⟨ob, h1, h2⟩ := this; exact ⟨ob, (N _ h1).1, h2, (N _ h1).2⟩
  | dict _ => obtain ⟨ob, h1, h2⟩ := this; exact ⟨ob, (N _ h1).1, h2, (N _ h1).2⟩
theorem Rep0.parts {c : Cx} {names l hp fr h} (R : Rep0 c names l hp fr h) :
    ∃ m news, Fr c.h₀ c.L h m ∧ LocX c names l m fr ∧ HpN c hp news ∧ News c.h₀ c.L h (news ++ fr) ∧ ∀ p ∈ fr, hp p.1 = Option.none := by
  obtain ⟨m, Fm, lo, H, N, D⟩ := R
  obtain ⟨news, N1, H1⟩ := H.news
  exact ⟨m, news, Fm, lo, H1, N1.append N, D⟩
theorem Rep.parts {c : Cx} {names l hp fr h} (R : Rep c names l hp fr h) :
    ∃ g m news, KtsTurn c.fs c.h₀ g ∧ Fr g c.L h m ∧ LocX c names l m fr ∧ HpN c hp news ∧ News g c.L h (news ++ fr) ∧ ∀ p ∈ fr, hp p.1 = Option.none := by
  obtain ⟨g, T, R⟩ := R
  obtain ⟨m, news, r⟩ := R.parts
  exact ⟨g, m, news, T, r⟩
theorem News.left' {h₀ h : Heap} {L : Addr} {a b : List (Addr × Obj)} (N : News h₀ L h (a ++ b)) : News h₀ L h a := fun p hp => N p (List.mem_append_left _ hp)
theorem News.right' {h₀ h : Heap} {L : Addr} {a b : List (Addr × Obj)} (N : News h₀ L h (a ++ b)) : News h₀ L h b := fun p hp => N p (List.mem_append_right _ hp)
theorem Rep.of {c : Cx} {names l hp fr h m news g} (T : KtsTurn c.fs c.h₀ g) (Fm : Fr g c.L h m) (lo : LocX c names l m fr) (H : HpN c hp news) (N : News g c.L h (news ++ fr)) (D : ∀ p ∈ fr, hp p.1 = Option.none) : Rep c names l hp fr h :=
  ⟨g, T, m, Fm, lo, HpN.rep (c := c.at g) H (News.left' N), News.right' N, D⟩
theorem Rep.fresh {c : Cx} {names l hp fr h} (ok : c.Ok) (R : Rep c names l hp fr h) : hp h.objs.size = Option.none ∧ ∀ p ∈ fr, p.1 ≠ h.objs.size := by
  obtain ⟨g, T, m, Fm, lo, H, N, D⟩ := R
  have ok := ok.turn T
  constructor
  · cases q : hp h.objs.size with
    | none => rfl
    | some o =>
      have := H.2 _ _ q
      cases o with
      | ro vs => obtain ⟨it, hb, _⟩ := this; exact absurd (base_lt ok Fm hb) (Nat.lt_irrefl _)
      | list vs => obtain ⟨ob, h1, _⟩ := this; exact absurd (Heap.lt_size h1) (Nat.lt_irrefl _)
      | tup vs => obtain ⟨ob, h1, _⟩ := this; exact absurd (Heap.lt_size h1) (Nat.lt_irrefl _)
      | cell vs => obtain ⟨ob, h1, _⟩ := this; exact absurd (Heap.lt_size h1) (Nat.lt_irrefl _)
      | rng _ _ _ => obtain ⟨ob, h1, _⟩ := this; exact absurd (Heap.lt_size h1) (Nat.lt_irrefl _)
      | dict _ => obtain ⟨ob, h1, _⟩ := this; exact absurd (Heap.lt_size h1) (Nat.lt_irrefl _)
  · intro p hp' e
    exact absurd (Heap.lt_size (N p hp').1) (by rw [e]; exact Nat.lt_irrefl _)
/-- a new object enters -/
theorem Rep.more {c : Cx} {names : List Str} {l : List V} {hp : HP} {fr news : List (Addr × Obj)} {h' : Heap} {m : Str → Option Value} {r : Addr} {ob : Obj} {o : O} {g : Heap} (T : KtsTurn c.fs c.h₀ g) (Fm : Fr g c.L h' m) (lo : LocX c names l m fr) (H : HpN c hp news) (N : News g c.L h' ((r, ob) :: (news ++ fr)))
    (D : ∀ p ∈ fr, hp p.1 = Option.none) (hr : hp r = Option.none) (hf : ∀ p ∈ fr, p.1 ≠ r) (ho : RepO o ob) : Rep c names l (hset hp r o) fr h' := by
  refine Rep.of (news := (r, ob) :: news) T Fm lo ⟨?_, fun a x hx => ?_⟩ N fun p hp' => hset_none.mpr ⟨hf p hp', D p hp'⟩
  · obtain ⟨Dm, hD⟩ := H.1
    refine ⟨r :: Dm, fun a x hx => ?_⟩
    by_cases e : a = r
    · exact e ▸ .head _
    · rw [hset_ne e] at hx; exact .tail _ (hD a x hx)
  · by_cases e : a = r
    · subst e
      rw [hset_same] at hx
      cases hx
      cases o with
      | ro vs => exact ho.elim
      | list vs => exact ⟨ob, .head _, ho⟩
      | tup vs => exact ⟨ob, .head _, ho⟩
      | cell vs => exact ⟨ob, .head _, ho⟩
      | rng _ _ _ => exact ⟨ob, .head _, ho⟩
      | dict _ => exact ⟨ob, .head _, ho⟩
    · rw [hset_ne e] at hx
      have := H.2 a x hx
      cases x with
      | ro vs => exact this
      | list vs => obtain ⟨ob', h1, h2⟩ := this; exact ⟨ob', .tail _ h1, h2⟩
      | tup vs => obtain ⟨ob', h1, h2⟩ := this; exact ⟨ob', .tail _ h1, h2⟩
      | cell vs => obtain ⟨ob', h1, h2⟩ := this; exact ⟨ob', .tail _ h1, h2⟩
      | rng _ _ _ => obtain ⟨ob', h1, h2⟩ := this; exact ⟨ob', .tail _ h1, h2⟩
      | dict _ => obtain ⟨ob', h1, h2⟩ := this; exact ⟨ob', .tail _ h1, h2⟩
theorem newTupleS {c : Cx} {names l hp Q X} {vs : List V} {vals : List Value} (ok : c.Ok) (hv : vals.map absV = vs) (hsz : vs.length ≤ sizeLine)
    (h : ∀ r, hp r = Option.none → Q (.ref r) (hset hp r (.tup vs))) : W rV c names l (newTuple vals) hp Q X := by
  intro fr s P E R hP hX
  obtain ⟨f1, f2⟩ := R.fresh ok
  obtain ⟨g, m, news, T, Fm, lo, H, N, D⟩ := R.parts
  refine newTuple_N Fm N (fun h' F' N' => hP _ _ _ h' _ (h _ f1) rfl ?_) (by rw [← hv, List.length_map] at hsz; exact hsz)
  exact Rep.more T F' lo H N' D f1 f2 ⟨vals.toArray, _, rfl, by simpa using hv⟩
theorem newListS {c : Cx} {names l hp Q X} {vs : List V} {vals : List Value} (ok : c.Ok) (hv : vals.map absV = vs) (hsz : vs.length ≤ sizeLine)
    (h : ∀ r, hp r = Option.none → Q (.ref r) (hset hp r (.list vs))) : W rV c names l (newList vals) hp Q X := by
  intro fr s P E R hP hX
  obtain ⟨f1, f2⟩ := R.fresh ok
  obtain ⟨g, m, news, T, Fm, lo, H, N, D⟩ := R.parts
  refine newList_N Fm N (fun h' F' N' => hP _ _ _ h' _ (h _ f1) rfl ?_) (by rw [← hv, List.length_map] at hsz; exact hsz)
  exact Rep.more T F' lo H N' D f1 f2 ⟨vals.toArray, _, rfl, by simpa using hv⟩
/-- what a place of the store holds, in the heap -/
theorem Rep.items {c : Cx} {names l hp fr h} {a : Addr} {vs : List V} (ok : c.Ok) (R : Rep c names l hp fr h) (e : itemsOf (hp a) = some vs) :
    ∃ items : Array Value, items.toList.map absV = vs ∧ ((h.IsList a items ∧ ∀ ws, hp a ≠ some (.tup ws)) ∨ (IsTup h a items ∧ hp a = some (.tup vs))) := by
  obtain ⟨g, T, m, Fm, lo, H, N, D⟩ := R
  have ok := ok.turn T
  cases q : hp a with
  | none => rw [q] at e; cases e
  | some o =>
    have := H.2 _ _ q
    rw [q] at e
    cases o with
    | ro ws =>
      cases e
      obtain ⟨it, ⟨ob, h1, h2⟩, h3⟩ := this
      exact ⟨it, h3, .inl ⟨⟨ob, Fm.keep _ _ (ok.below.stays _ _ h1), h2⟩, by intro ws; simp⟩⟩
    | list ws =>
      cases e
      obtain ⟨ob, h1, ⟨it, n, rfl, h2⟩, _⟩ := this
      exact ⟨it, h2, .inl ⟨⟨_, h1, rfl, n, rfl⟩, by intro ws; simp⟩⟩
    | tup ws =>
      cases e
      obtain ⟨ob, h1, ⟨it, n, rfl, h2⟩, _⟩ := this
      exact ⟨it, h2, .inr ⟨⟨_, h1, rfl, n, rfl⟩, rfl⟩⟩
    | cell ws => cases e
    | rng _ _ _ => cases e
    | dict _ => cases e
theorem lenS {c : Cx} {names l hp X} {Q : V → HP → Prop} {v : V} {x : Value} (ok : c.Ok) (h : lenV v hp fun n => Q (.int n) hp) (hx : absV x = v) : W rV c names l (call (.builtin "len") [x]) hp Q X := by
  intro fr s P E R hP hX
  cases v with
  | ref a =>
    cases absV_ref hx
    obtain ⟨vs, e, hfit, hq⟩ := h
    obtain ⟨items, hi, hl⟩ := R.items ok e
    have hsz : (items.size : Int) = vs.length := by rw [← hi]; simp
    rw [← hsz] at hq
    rcases hl with ⟨hl, _⟩ | ⟨hl, _⟩
    · exact call_len_list hl (by omega) (hP _ _ hp s.heap _ hq rfl R)
    · exact len_tuple hl (by omega) (hP _ _ hp s.heap _ hq rfl R)
  | str y =>
    obtain ⟨t, rfl⟩ := absV_str hx
    exact PySem.P.len_str (by have := h.1; omega) (hP _ _ hp s.heap _ h.2 rfl R)
  | _ => exact h.elim
noncomputable def sliceOf : Expr → Bool
  | .Slice .. => true
  | _ => false
theorem sub_plain {slice : Expr} (h : sliceOf slice = false) (o i : Value) : subscripted slice false o i = operate [o, i] (getItem o i) := by
  cases slice <;> first | rfl | (exact absurd h (by simp [sliceOf]))
theorem idxS {c : Cx} {names l hp X} {Q : V → HP → Prop} {v w : V} {x y : Value} {value slice : Expr} (ok : c.Ok) (hs : sliceOf slice = false) (h : idxV v w hp fun u => Q u hp) (hx : absV x = v) (hy : absV y = w) : W rV c names l (subscriptTail value slice x y) hp Q X := by
  intro fr s P E R hP hX
  unfold idxV at h
  split at h
  · rename_i a k
    cases absV_ref hx
    obtain ⟨t, rfl⟩ := absV_int hy
    obtain ⟨vs, u, e, hfit, hlo, hhi, hu, hq⟩ := h
    obtain ⟨items, hi, hl⟩ := R.items ok e
    have hsz : items.size = vs.length := by rw [← hi]; simp
    replace hu : items.toList[(if k < 0 then k + vs.length else k).toNat]?.map absV = some u := by rw [← List.getElem?_map, hi]; exact hu
    cases hit : items.toList[(if k < 0 then k + vs.length else k).toNat]? with
    | none => rw [hit] at hu; cases hu
    | some z =>
      rw [hit] at hu
      simp only [Option.map_some, Option.some.injEq] at hu
      rw [Array.getElem?_toList] at hit
      rcases hl with ⟨hl, _⟩ | ⟨hl, _⟩
      · refine tail_any hl.typeIs slot_list_getitem.lookup ?_ (sub_plain hs _ _)
        by_cases hk : k < 0
        · rw [if_pos hk] at hit
          exact wpAny_getItem_list_neg hl hk (by omega) (by omega) (by rw [hsz]; exact hit) (hP _ _ hp s.heap s.toks hq hu R)
        · rw [if_neg hk] at hit
          exact wpAny_getItem_list hl (by omega) (by omega) hit (hP _ _ hp s.heap s.toks hq hu R)
      · refine tail_any hl.typeIs slot_tuple_getitem.lookup ?_ (sub_plain hs _ _)
        refine getItem_tuple hl (j := (if k < 0 then k + vs.length else k).toNat) (by omega) (by omega) ?_ hit (hP _ _ hp s.heap s.toks hq hu R)
        unfold seqIndex?
        rw [hsz]
        by_cases hk : k < 0
        · simp only [hk, if_true]
          rw [if_pos (by simp only [Bool.and_eq_true, decide_eq_true_eq]; omega)]
        · simp only [hk, if_false]
          rw [if_pos (by simp only [Bool.and_eq_true, decide_eq_true_eq]; omega)]
  · exact h.elim
theorem Rep.listI {c : Cx} {names l hp fr h} {a : Addr} {vs : List V} (ok : c.Ok) (R : Rep c names l hp fr h) (e : listAt (hp a) = some vs) :
    ∃ items : Array Value, items.toList.map absV = vs ∧ h.IsList a items := by
  have e' : itemsOf (hp a) = some vs := by
    cases q : hp a with
    | none => rw [q] at e; cases e
    | some o => rw [q] at e; cases o <;> first | exact e | cases e
  obtain ⟨items, hi, hl⟩ := R.items ok e'
  rcases hl with ⟨hl, _⟩ | ⟨_, hl⟩
  · exact ⟨items, hi, hl⟩
  · rw [hl] at e; cases e
mutual
theorem Rep.reads {c : Cx} {names l hp fr h} (ok : c.Ok) (R : Rep c names l hp fr h) : ∀ {v : V} {d : PyData}, Rd hp v d → ∀ {x : Value}, absV x = v → ∃ as, Reads h x d as
  | _, _, .int i, x, hx => by obtain ⟨t, rfl⟩ := absV_int hx; exact ⟨_, .int i t⟩
  | _, _, .bool b, x, hx => by cases absV_bool hx; exact ⟨_, .bool b⟩
  | _, _, .none, x, hx => by cases absV_none hx; exact ⟨_, .none⟩
  | _, _, .str y, x, hx => by
    cases x <;> simp only [absV, reduceCtorEq, V.str.injEq] at hx
    subst hx; exact ⟨_, .str _ _⟩
  | _, _, .list (a := a) e r, x, hx => by
    cases absV_ref hx
    obtain ⟨items, hi, hl⟩ := R.listI ok (a := a) (by rw [e]; rfl)
    obtain ⟨as, ra⟩ := Rep.readsL ok R r hi
    obtain ⟨o, ho, hc, n, hd⟩ := hl
    exact ⟨_, Reads.list ho hc hd ra⟩
  | _, _, .ro (a := a) e r, x, hx => by
    cases absV_ref hx
    obtain ⟨items, hi, hl⟩ := R.listI ok (a := a) (by rw [e]; rfl)
    obtain ⟨as, ra⟩ := Rep.readsL ok R r hi
    obtain ⟨o, ho, hc, n, hd⟩ := hl
    exact ⟨_, Reads.list ho hc hd ra⟩
  | _, _, .tup (a := a) e r, x, hx => by
    cases absV_ref hx
    obtain ⟨items, hi, hl⟩ := R.items ok (a := a) (by rw [e]; rfl)
    obtain ⟨as, ra⟩ := Rep.readsL ok R r hi
    rcases hl with ⟨_, hl⟩ | ⟨hl, _⟩
    · exact absurd e (hl _)
    · obtain ⟨o, ho, hc, n, hd⟩ := hl
      exact ⟨_, Reads.tuple ho hc hd ra⟩
theorem Rep.readsL {c : Cx} {names l hp fr h} (ok : c.Ok) (R : Rep c names l hp fr h) : ∀ {vs : List V} {ds : List PyData}, RdL hp vs ds → ∀ {xs : List Value}, xs.map absV = vs → ∃ as, ReadsAll h xs ds as
  | _, _, .nil, xs, hx => by
    have : xs = [] := by simpa using hx
    subst this; exact ⟨_, .nil⟩
  | _, _, .cons r rs, xs, hx => by
    cases xs with
    | nil => simp at hx
    | cons y ys =>
      simp only [List.map_cons, List.cons.injEq] at hx
      obtain ⟨as, ra⟩ := Rep.reads ok R r hx.1
      obtain ⟨bs, rb⟩ := Rep.readsL ok R rs hx.2
      exact ⟨_, .cons ra rb⟩
end
section
variable {F : Fx}
theorem binS {o : Operator} {b : BOp} (ho : opOf o = some b) {c : Cx} {d : Nat} (ok : c.Ok) (rm : room c d) {names l hp Q X} {v w : V} {x y : Value}
    (h : binV b v w hp Q) (hx : absV x = v) (hy : absV y = w) : W rV c names l (binaryOp o x y) hp Q X := by
  intro fr s P E R hP hX
  unfold binV at h
  split at h
  · rename_i i j
    obtain ⟨t, rfl⟩ := absV_int hx
    obtain ⟨u, rfl⟩ := absV_int hy
    obtain ⟨hok, hq⟩ := h
    cases o <;> simp only [opOf, Option.some.injEq, reduceCtorEq] at ho <;> subst ho
    · exact PyProof.Rows.add_int (hP _ _ hp s.heap _ hq rfl R)
    · exact PyProof.Rows.sub_int (hP _ _ hp s.heap _ hq rfl R)
    · exact PyProof.Rows.mul_int (hP _ _ hp s.heap _ hq rfl R) hok
    · exact mod_int' hok (hP _ _ hp s.heap _ hq rfl R)
    · exact PyProof.Rows.pow_int hok.1 hok.2 (hP _ _ hp s.heap _ hq rfl R)
    · exact PyProof.Rows.lshift_int hok.1 hok.2 (hP _ _ hp s.heap _ hq rfl R)
    · exact PyProof.Rows.rshift_int hok (hP _ _ hp s.heap _ hq rfl R)
    · exact PyProof.Rows.and_int (hP _ _ hp s.heap _ hq rfl R)
    · exact floordiv_int hok (hP _ _ hp s.heap _ hq rfl R) (.inr (pylong ok rm R))
  · rename_i a b'
    cases absV_ref hx
    cases absV_ref hy
    cases o <;> simp only [opOf, Option.some.injEq, reduceCtorEq] at ho <;> subst ho <;> first | exact h.elim | skip
    obtain ⟨vs, ws, e1, e2, hsz, hn⟩ := h
    obtain ⟨i1, hi1, hl1⟩ := R.listI ok e1
    obtain ⟨i2, hi2, hl2⟩ := R.listI ok e2
    obtain ⟨f1, f2⟩ := R.fresh ok
    obtain ⟨g, m, news, T, Fm, lo, H, N, D⟩ := R.parts
    refine PyProof.Rows.add_arrays Fm N hl1 hl2 (fun h' F' N' => hP _ _ _ h' _ (hn _ f1) rfl ?_) (by rw [← hi1, ← hi2] at hsz; simpa using hsz)
    exact Rep.more T F' lo H N' D f1 f2 ⟨_, _, rfl, by simp [← hi1, ← hi2]⟩
  · exact h.elim
theorem se_bin {a b : Expr} {o : Operator} {pos} {ma mb : ME} {bo : BOp} (ho : opOf o = some bo) (ha : SE F a ma) (hb : SE F b mb) : SE F (.BinOp a o b pos) (.bin bo ma mb) := by
  intro c d FO hg hsc ok rm l hp Q X hev fr s P E R hP hX
  refine wpAny_BinOp (ha c d FO hg hsc ok rm l hp _ X hev fr s _ E R (fun v x h1 hh tk hq hx R1 => ?_) hX)
  refine hb c d FO hg hsc ok rm l h1 _ X hq fr _ _ E R1 (fun w y h2 hh2 tk2 hq2 hy R2 => ?_) hX
  exact binS ho ok rm hq2 hx hy fr _ _ E R2 hP hX
theorem cmpS {o : CmpOp} {b : COp} (ho : cmpOf o = some b) {c : Cx} {d : Nat} (ok : c.Ok) (rm : room c d) {names : List Str} {l : List V} {hp : HP} {X : XT} {Q : Bool → HP → Prop} {v w : V} {x y : Value}
    (h : cmpV b v w hp fun t => Q t hp) (hx : absV x = v) (hy : absV y = w) : W rV c names l (compareOp o x y) hp (fun u h' => ∃ t, u = .bool t ∧ Q t h') X := by
  intro fr s P E R hP hX
  unfold cmpV at h
  split at h
  · rename_i i j
    obtain ⟨t, rfl⟩ := absV_int hx
    obtain ⟨u, rfl⟩ := absV_int hy
    cases o <;> simp only [cmpOf, Option.some.injEq, reduceCtorEq] at ho <;> subst ho
    · exact PyProof.Rows.eq_int (hP _ _ hp s.heap s.toks ⟨_, rfl, h⟩ rfl R)
    · exact PyProof.Rows.ne_int (hP _ _ hp s.heap s.toks ⟨_, rfl, h⟩ rfl R)
    · exact PyProof.Rows.lt_int (hP _ _ hp s.heap s.toks ⟨_, rfl, h⟩ rfl R)
    · exact PyProof.Rows.le_int (hP _ _ hp s.heap s.toks ⟨_, rfl, h⟩ rfl R)
    · exact PyProof.Rows.gt_int (hP _ _ hp s.heap s.toks ⟨_, rfl, h⟩ rfl R)
    · exact PyProof.Rows.ge_int (hP _ _ hp s.heap s.toks ⟨_, rfl, h⟩ rfl R)
  · obtain ⟨d', e, rd, re, sd, se, hq⟩ := h
    obtain ⟨as, ra⟩ := R.reads ok rd hx
    obtain ⟨bs, rb⟩ := R.reads ok re hy
    cases o <;> simp only [cmpOf, Option.some.injEq, reduceCtorEq] at ho
    exact eq_dataH ra rb sd se (by have := rm.2; omega) (hP _ _ hp s.heap s.toks ⟨_, rfl, hq⟩ rfl R)
  · obtain ⟨d', e, rd, re, sd, se, hq⟩ := h
    obtain ⟨as, ra⟩ := R.reads ok rd hx
    obtain ⟨bs, rb⟩ := R.reads ok re hy
    cases o <;> simp only [cmpOf, Option.some.injEq, reduceCtorEq] at ho
    exact ne_dataH ra rb sd se (by have := rm.2; omega) (hP _ _ hp s.heap s.toks ⟨_, rfl, hq⟩ rfl R)
  · exact h.elim
theorem notIn_of_cmpOf {o : CmpOp} {b : COp} (ho : cmpOf o = some b) (e : Expr) : behindInMarks o e = false := by
  cases o <;> simp only [cmpOf, reduceCtorEq] at ho <;> cases e <;> first | rfl | simp [behindInMarks]
theorem se_cmp {a b : Expr} {o : CmpOp} {pos} {ma mb : ME} {bo : COp} (ho : cmpOf o = some bo) (ha : SE F a ma) (hb : SE F b mb) : SE F (.Compare a [o] [b] pos) (.cmp bo ma mb) := by
  intro c d FO hg hsc ok rm l hp Q X hev fr s P E R hP hX
  refine wpAny_Compare1 (ha c d FO hg hsc ok rm l hp _ X hev fr s _ E R (fun v x h1 hh tk hq hx R1 => ?_) hX) (notIn_of_cmpOf ho b)
  refine hb c d FO hg hsc ok rm l h1 _ X hq fr _ _ E R1 (fun w y h2 hh2 tk2 hq2 hy R2 => ?_) hX
  refine cmpS (Q := fun t h => Q (.bool t) h) ho ok rm hq2 hx hy fr _ _ E R2 (fun u z h3 hh3 tk3 hq3 hz R3 => ?_) hX
  obtain ⟨t, rfl, hq4⟩ := hq3
  exact hP _ _ h3 hh3 tk3 hq4 hz R3
theorem st_cmp {a b : Expr} {o : CmpOp} {pos} {ma mb : ME} {bo : COp} (ho : cmpOf o = some bo) (ha : SE F a ma) (hb : SE F b mb) : ST F (.Compare a [o] [b] pos) (.cmp bo ma mb) := by
  intro c d FO hg hsc ok rm l hp Q X hev whole hw fr s P E R hP hX
  refine wpAny_isTrue_Compare1 (ha c d FO hg hsc ok rm l hp _ X hev fr s _ E R (fun v x h1 hh tk hq hx R1 => ?_) hX) (notIn_of_cmpOf ho b)
  refine hb c d FO hg hsc ok rm l h1 _ X hq fr _ _ E R1 (fun w y h2 hh2 tk2 hq2 hy R2 => ?_) hX
  refine cmpS (Q := fun t h => Q t h) ho ok rm hq2 hx hy fr _ _ E R2 (fun u z h3 hh3 tk3 hq3 hz R3 => ?_) hX
  obtain ⟨t, rfl, hq4⟩ := hq3
  exact truS (Q := Q) (show truV (.bool t) h3 _ from hq4) hz fr _ _ E R3 hP hX
end
section
variable {F : Fx}
theorem ses_nil : SEs F [] .nil := by
  intro c d FO hg hsc ok rm l hp Q X hev pos fr s P E R hP hX
  exact spliced_none (hP _ _ hp s.heap s.toks hev rfl R)
theorem ses_cons {e : Expr} {es : List Expr} {m ms : ME} (hn : notStar e = true) (he : SE F e m) (hes : SEs F es ms) : SEs F (e :: es) (.cons m ms) := by
  intro c d FO hg hsc ok rm l hp Q X hev pos fr s P E R hP hX
  refine spliced_more (he c d FO hg hsc ok rm l hp _ X hev fr s _ E R (fun v x h1 hh tk hq hx R1 => ?_) hX) (starEach_cons hn)
  refine hes c d FO hg hsc ok rm l h1 _ X hq pos fr _ _ E R1 (fun vs xs h2 hh2 tk2 hq2 hxs R2 => ?_) hX
  exact hP _ _ h2 hh2 tk2 hq2 (by show absV x :: xs.map absV = _; rw [hx, hxs]) R2
theorem se_tup {es : List Expr} {ms : ME} {k pos} (hes : SEs F es ms) : SE F (.Tuple es k pos) (.tup ms) := by
  intro c d FO hg hsc ok rm l hp Q X hev fr s P E R hP hX
  refine Tuple_ (hes c d FO hg hsc ok rm l hp _ X hev pos fr s _ E R (fun vs xs h1 hh tk hq hx R1 => ?_) hX)
  exact newTupleS ok hx hq.1 hq.2 fr _ _ E R1 hP hX
theorem se_list {es : List Expr} {ms : ME} {pos} (hes : SEs F es ms) : SE F (.List es pos) (.list ms) := by
  intro c d FO hg hsc ok rm l hp Q X hev fr s P E R hP hX
  refine List_ (hes c d FO hg hsc ok rm l hp _ X hev pos fr s _ E R (fun vs xs h1 hh tk hq hx R1 => ?_) hX)
  exact newListS ok hx hq.1 hq.2 fr _ _ E R1 hP hX
theorem se_idx {a i : Expr} {pos} {ma mi : ME} (hs : sliceOf i = false) (ha : SE F a ma) (hi : SE F i mi) : SE F (.Subscript a i pos) (.idx ma mi) := by
  intro c d FO hg hsc ok rm l hp Q X hev fr s P E R hP hX
  refine Subscript_ (ha c d FO hg hsc ok rm l hp _ X hev fr s _ E R (fun v x h1 hh tk hq hx R1 => ?_) hX)
  refine hi c d FO hg hsc ok rm l h1 _ X hq fr _ _ E R1 (fun w y h2 hh2 tk2 hq2 hy R2 => ?_) hX
  exact idxS ok hs hq2 hx hy fr _ _ E R2 hP hX
/-- a global name that a def of the text bears -/
theorem nameG {c : Cx} (FO : F.Ok) (hg : c.g = F.g) (hsc : SCF c F) (ok : c.Ok) {x : Str} {p : Pos} {a : Addr} (hx : F.gt.lookup x = some a) (hk : F.sc.names.lookup x = some .globalImplicit)
    (hd : (x == ("__debug__" : Str)) = false) {names l hp fr} {s : Shared} {P E : Value → Shared → Prop} (R : Rep c names l hp fr s.heap) (h : P (.ref a) s) :
    wpAny (model c.g.prog c.g.w) c.A (eval (.Name x p) c.env) P E s := by
  exact Name_function_global (by rw [c.env_scope]; exact ok.kind) (by rw [c.env_kindOf, hsc.1]; exact hk) (loadGlobal_global (by rw [c.env_globals]; exact (topRead_of ok.top).g.keeps (R.keep ok)) (mg_of ok.inK (topRead_of ok.top).g (by rw [hg]; exact (FO.gt x a hx).1)) h) hd
theorem nameB {c : Cx} (FO : F.Ok) (hg : c.g = F.g) (hsc : SCF c F) (ok : c.Ok) {x : Str} {p : Pos} {v : Value} (hx : x ∈ F.bt) (hv : bootBuiltins x = some v) (hk : F.sc.names.lookup x = some .globalImplicit)
    (hd : (x == ("__debug__" : Str)) = false) (hnm : x ≠ "__name__") {names l hp fr} {s : Shared} {P E : Value → Shared → Prop} (R : Rep c names l hp fr s.heap) (h : P v s) :
    wpAny (model c.g.prog c.g.w) c.A (eval (.Name x p) c.env) P E s := by
  exact Name_function_global (by rw [c.env_scope]; exact ok.kind) (by rw [c.env_kindOf, hsc.1]; exact hk) (loadGlobal_builtin (by rw [c.env_globals]; exact (topRead_of ok.top).g.keeps (R.keep ok)) (mg_none_of ok.inK (topRead_of ok.top).g (by rw [hg]; exact FO.bt x hx)) (by rw [c.env_builtins]; exact (topRead_of ok.top).b.keeps (R.keep ok)) (((topRead_of ok.top).builtins x hnm).trans hv) h) hd
theorem Rep.inK {c : Cx} (ok : c.Ok) {names l hp fr h} (R : Rep c names l hp fr h) : c.g.K.In h := ok.inK.keeps (R.keep ok)
theorem se_call {x : Str} {p pos : Pos} {a : Addr} {e : Expr} {es : List Expr} {ms : ME} (hx : F.gt.lookup x = some a) (hk : F.sc.names.lookup x = some .globalImplicit) (hd : (x == ("__debug__" : Str)) = false)
    (hn : (e :: es).all notStar = true) (hes : SEs F (e :: es) ms) : SE F (.Call (.Name x p) (e :: es) [] pos) (.call a ms) := by
  intro c d FO hg hsc ok rm l hp Q X hev fr s P E R hP hX
  simp only [List.all_cons, Bool.and_eq_true] at hn
  refine Call_ (nameG FO hg hsc ok hx hk hd R ?_) rfl
  refine callWith_K ok.inK (by rw [hg]; exact (FO.gt x a hx).2) ?_ (starEach_cons hn.1) (backTo_any hn.2)
  refine hes c d FO hg hsc ok rm l hp _ X hev pos fr s _ E R (fun vs xs h1 hh tk hq hxs R1 => ⟨R1.inK ok, ?_⟩) hX
  rw [List.nil_append]
  exact (hq c hg ok rm F.names l xs [] hxs rfl).w fr _ _ E R1 hP hX.call
theorem se_len {x : Str} {p pos : Pos} {a : Expr} {ma : ME} (hxe : x = "len") (hx : x ∈ F.bt) (hk : F.sc.names.lookup x = some .globalImplicit) (hn : notStar a = true) (ha : SE F a ma) : SE F (.Call (.Name x p) [a] [] pos) (.len ma) := by
  intro c d FO hg hsc ok rm l hp Q X hev fr s P E R hP hX
  subst hxe
  refine Call_ (nameB FO hg hsc ok hx (v := .builtin "len") (by decide +kernel) hk (by decide) (by decide) R ?_) rfl
  refine PyProof.Rows.callWith_builtin1 ?_ (starEach_cons hn) rfl
  refine spliced_more (ha c d FO hg hsc ok rm l hp _ X hev fr s _ E R (fun v y h1 hh tk hq hy R1 => ?_) hX) (starEach_cons hn)
  refine spliced_none ?_
  exact lenS (Q := Q) ok hq hy fr _ _ E R1 hP hX
theorem se_toInt {x : Str} {p pos : Pos} {a : Expr} {ma : ME} (hxe : x = "int") (hx : x ∈ F.bt) (hk : F.sc.names.lookup x = some .globalImplicit) (hn : notStar a = true) (ha : SE F a ma) : SE F (.Call (.Name x p) [a] [] pos) (.toInt ma) := by
  intro c d FO hg hsc ok rm l hp Q X hev fr s P E R hP hX
  subst hxe
  refine Call_ (nameB FO hg hsc ok hx (v := .type "int") boot_int hk (by decide) (by decide) R ?_) rfl
  refine PyProof.Rows.callWith_type1 ?_ (starEach_cons hn) rfl
  refine spliced_more (ha c d FO hg hsc ok rm l hp _ X hev fr s _ E R (fun v y h1 hh tk hq hy R1 => ?_) hX) (starEach_cons hn)
  refine spliced_none ?_
  split at hq
  · obtain ⟨t, rfl⟩ := absV_int hy
    exact call_int_int (hP _ _ h1 hh tk hq rfl R1)
  · exact hq.elim
theorem isiS {c : Cx} {names : List Str} {l : List V} {hp : HP} {X : XT} {Q : V → HP → Prop} {v : V} {x : Value} {k : Kd} {T : String}
    (hT : T = (match k with | .int => "int" | .bool => "bool" | .list => "list" | .tuple => "tuple"))
    (h : isiV v hp k fun t => Q (.bool t) hp) (hx : absV x = v) : W rV c names l (call (.builtin "isinstance") [x, .type T]) hp Q X := by
  intro fr s P E R hP hX
  have key : ∀ b, Q (.bool b) hp → ∀ tk, P (.bool b) { s with toks := tk } := fun b hb tk => hP _ _ hp s.heap tk hb rfl R
  cases v with
  | int i =>
    obtain ⟨t, rfl⟩ := absV_int hx
    cases k <;> subst hT
    · exact IsiPair.int_int (key _ h _)
    · exact IsiPair.int_bool (key _ h _)
    · exact IsiPair.int_list (key _ h _)
    · exact IsiPair.int_tuple (key _ h _)
  | bool b =>
    cases absV_bool hx
    cases k <;> subst hT
    · exact IsiPair.bool_int (key _ h _)
    · exact IsiPair.bool_bool (key _ h _)
    · exact IsiPair.bool_list (key _ h _)
    · exact IsiPair.bool_tuple (key _ h _)
  | ref a =>
    cases absV_ref hx
    obtain ⟨g, T, m, Fm, lo, H, N, D⟩ := id R
    rcases h with ⟨vs, e, hq⟩ | ⟨vs, e, hq⟩
    · obtain ⟨ob, h1, ⟨it, n, rfl, _⟩, _⟩ := H.2 _ _ e
      cases k <;> subst hT
      · exact IsiPair.list_int h1 rfl (key _ hq _)
      · exact IsiPair.list_bool h1 rfl (key _ hq _)
      · exact IsiPair.list_list h1 rfl (key _ hq _)
      · exact IsiPair.list_tuple h1 rfl (key _ hq _)
    · obtain ⟨ob, h1, ⟨it, n, rfl, _⟩, _⟩ := H.2 _ _ e
      cases k <;> subst hT
      · exact IsiPair.tuple_int h1 rfl (key _ hq _)
      · exact IsiPair.tuple_bool h1 rfl (key _ hq _)
      · exact IsiPair.tuple_list h1 rfl (key _ hq _)
      · exact IsiPair.tuple_tuple h1 rfl (key _ hq _)
  | _ => exact h.elim
noncomputable def kdOf (T : Str) : Option Kd :=
  if T = "int" then some .int else if T = "bool" then some .bool else if T = "list" then some .list else if T = "tuple" then some .tuple else Option.none
theorem se_isi {x T : Str} {p pT pos : Pos} {a : Expr} {ma : ME} {k : Kd} (hxe : x = "isinstance") (hx : x ∈ F.bt) (hk : F.sc.names.lookup x = some .globalImplicit)
    (hT : T ∈ F.bt) (hkT : F.sc.names.lookup T = some .globalImplicit) (hkd : kdOf T = some k) (hn : notStar a = true) (ha : SE F a ma) : SE F (.Call (.Name x p) [a, .Name T pT] [] pos) (.isi ma k) := by
  intro c d FO hg hsc ok rm l hp Q X hev fr s P E R hP hX
  subst hxe
  refine Call_ (nameB FO hg hsc ok hx (v := .builtin "isinstance") boot_isinstance hk (by decide) (by decide) R ?_) rfl
  refine PyProof.Rows.callWith_builtin1 ?_ (starEach_cons hn) rfl
  refine spliced_more (ha c d FO hg hsc ok rm l hp _ X hev fr s _ E R (fun v y h1 hh tk hq hy R1 => ?_) hX) (starEach_cons hn)
  unfold kdOf at hkd
  split at hkd
  · rename_i e; subst e; cases hkd
    exact spliced_more (nameB FO hg hsc ok hT (v := .type "int") boot_int hkT (by decide) (by decide) R1 (spliced_none (isiS rfl hq hy fr _ _ E R1 hP hX))) rfl
  · split at hkd
    · rename_i e; subst e; cases hkd
      exact spliced_more (nameB FO hg hsc ok hT (v := .type "bool") boot_bool hkT (by decide) (by decide) R1 (spliced_none (isiS rfl hq hy fr _ _ E R1 hP hX))) rfl
    · split at hkd
      · rename_i e; subst e; cases hkd
        exact spliced_more (nameB FO hg hsc ok hT (v := .type "list") boot_list hkT (by decide) (by decide) R1 (spliced_none (isiS rfl hq hy fr _ _ E R1 hP hX))) rfl
      · split at hkd
        · rename_i e; subst e; cases hkd
          exact spliced_more (nameB FO hg hsc ok hT (v := .type "tuple") boot_tuple hkT (by decide) (by decide) R1 (spliced_none (isiS rfl hq hy fr _ _ E R1 hP hX))) rfl
        · cases hkd
theorem se_isn {a : Expr} {k pos cp} {ma : ME} (ha : SE F a ma) : SE F (.Compare a [.Is] [.Constant .none k cp] pos) (.isn ma true) := by
  intro c d FO hg hsc ok rm l hp Q X hev fr s P E R hP hX
  refine wpAny_Compare1 (ha c d FO hg hsc ok rm l hp _ X hev fr s _ E R (fun v x h1 hh tk hq hx R1 => ?_) hX) rfl
  refine wpAny_Constant_none (is_none ?_)
  split at hq
  · rename_i b hb
    refine hP _ _ h1 hh tk hq ?_ R1
    subst hx
    show V.bool _ = _
    congr 1
    cases x <;> simp only [absV, isNone, Option.some.injEq, reduceCtorEq] at hb <;> subst hb <;> first | rfl | simp
  · exact hq.elim
theorem se_isnn {a : Expr} {k pos cp} {ma : ME} (ha : SE F a ma) : SE F (.Compare a [.IsNot] [.Constant .none k cp] pos) (.isn ma false) := by
  intro c d FO hg hsc ok rm l hp Q X hev fr s P E R hP hX
  refine wpAny_Compare1 (ha c d FO hg hsc ok rm l hp _ X hev fr s _ E R (fun v x h1 hh tk hq hx R1 => ?_) hX) rfl
  refine wpAny_Constant_none (isnot_none_gen ?_)
  split at hq
  · rename_i b hb
    refine hP _ _ h1 hh tk hq ?_ R1
    subst hx
    show V.bool _ = _
    congr 1
    cases x <;> simp only [absV, isNone, Option.some.injEq, reduceCtorEq] at hb <;> subst hb <;> first | rfl | simp
  · exact hq.elim
theorem st_isn {a : Expr} {k pos cp} {ma : ME} (ha : SE F a ma) : ST F (.Compare a [.Is] [.Constant .none k cp] pos) (.tv (.isn ma true)) := by
  intro c d FO hg hsc ok rm l hp Q X hev whole hw fr s P E R hP hX
  refine wpAny_isTrue_Compare1 (ha c d FO hg hsc ok rm l hp _ X hev fr s _ E R (fun v x h1 hh tk hq hx R1 => ?_) hX) rfl
  refine wpAny_Constant_none (is_none (wpAny_truthy_bool ?_))
  split at hq
  · rename_i b hb
    refine hP _ _ h1 hh tk hq ?_ R1
    subst hx
    show _ = _
    cases x <;> simp only [absV, isNone, Option.some.injEq, reduceCtorEq] at hb <;> subst hb <;> first | rfl | simp
  · exact hq.elim
theorem st_isnn {a : Expr} {k pos cp} {ma : ME} (ha : SE F a ma) : ST F (.Compare a [.IsNot] [.Constant .none k cp] pos) (.tv (.isn ma false)) := by
  intro c d FO hg hsc ok rm l hp Q X hev whole hw fr s P E R hP hX
  refine wpAny_isTrue_Compare1 (ha c d FO hg hsc ok rm l hp _ X hev fr s _ E R (fun v x h1 hh tk hq hx R1 => ?_) hX) rfl
  refine wpAny_Constant_none (isnot_none_gen (wpAny_truthy_bool ?_))
  split at hq
  · rename_i b hb
    refine hP _ _ h1 hh tk hq ?_ R1
    subst hx
    show _ = _
    cases x <;> simp only [absV, isNone, Option.some.injEq, reduceCtorEq] at hb <;> subst hb <;> first | rfl | simp
  · exact hq.elim
theorem st_chain {a b e : Expr} {o p : CmpOp} {pos} {ma mb me : ME} {bo bp : COp} (ho : cmpOf o = some bo) (hp' : cmpOf p = some bp) (ha : SE F a ma) (hb : SE F b mb) (he : SE F e me) : ST F (.Compare a [o, p] [b, e] pos) (.chain ma bo mb bp me) := by
  intro c d FO hg hsc ok rm l hp Q X hev whole hw fr s P E R hP hX
  refine isTrue_chain (ha c d FO hg hsc ok rm l hp _ X hev fr s _ E R (fun v x h1 hh tk hq hx R1 => ?_) hX) (notIn_of_cmpOf hp' e)
  refine test_link (hb c d FO hg hsc ok rm l h1 _ X hq fr _ _ E R1 (fun w y h2 hh2 tk2 hq2 hy R2 => ?_) hX)
  refine cmpS (Q := fun t h => (t = true → ev F.g d me l h (fun u h3 => cmpV bp w u h3 fun t' => Q t' h3) X) ∧ (t = false → Q false h)) ho ok rm hq2 hx hy fr _ _ E R2 (fun u z h3 hh3 tk3 hq3 hz R3 => ?_) hX
  obtain ⟨t, rfl, hq4⟩ := hq3
  cases absV_bool hz
  refine wpAny_truthy_bool ?_
  cases t with
  | false => rw [if_neg (by decide)]; exact hP _ _ h3 hh3 tk3 (hq4.2 rfl) rfl R3
  | true =>
    rw [if_pos rfl]
    refine test_last (he c d FO hg hsc ok rm l h3 _ X (hq4.1 rfl) fr _ _ E R3 (fun w5 y5 h5 hh5 tk5 hq5 hy5 R5 => ?_) hX)
    refine cmpS (Q := fun t h => Q t h) hp' ok rm hq5 hy hy5 fr _ _ E R5 (fun u6 z6 h6 hh6 tk6 hq6 hz6 R6 => ?_) hX
    obtain ⟨t, rfl, hq7⟩ := hq6
    exact truS (Q := Q) (show truV (.bool t) h6 _ from hq7) hz6 fr _ _ E R6 hP hX
theorem se_and_one {a : Expr} {pos} {ma : ME} (o : BoolOp) (ha : SE F a ma) : SE F (.BoolOp o [a] pos) ma := by
  intro c d FO hg hsc ok rm l hp Q X hev fr s P E R hP hX
  exact BoolOp_one (ha c d FO hg hsc ok rm l hp Q X hev fr s P E R hP hX)
theorem se_and {a b : Expr} {r : List Expr} {pos} {ma mb : ME} (ha : SE F a ma) (hb : SE F (.BoolOp .And (b :: r) pos) mb) : SE F (.BoolOp .And (a :: b :: r) pos) (.and ma mb) := by
  intro c d FO hg hsc ok rm l hp Q X hev fr s P E R hP hX
  refine BoolOp_and (ha c d FO hg hsc ok rm l hp _ X hev fr s _ E R (fun v x h1 hh tk hq hx R1 => ?_) hX)
  refine truS (Q := fun t h => (t = true → ev F.g d mb l h Q X) ∧ (t = false → Q v h)) hq hx fr _ _ E R1 (fun t z h3 hh3 tk3 hq3 hz R3 => ?_) hX
  cases hz
  cases t with
  | true => rw [if_pos rfl]; exact hb c d FO hg hsc ok rm l h3 Q X (hq3.1 rfl) fr _ _ E R3 hP hX
  | false => rw [if_neg (by decide)]; exact hP _ _ h3 hh3 tk3 (hq3.2 rfl) hx R3
theorem se_or {a b : Expr} {r : List Expr} {pos} {ma mb : ME} (ha : SE F a ma) (hb : SE F (.BoolOp .Or (b :: r) pos) mb) : SE F (.BoolOp .Or (a :: b :: r) pos) (.or ma mb) := by
  intro c d FO hg hsc ok rm l hp Q X hev fr s P E R hP hX
  refine BoolOp_or (ha c d FO hg hsc ok rm l hp _ X hev fr s _ E R (fun v x h1 hh tk hq hx R1 => ?_) hX)
  refine truS (Q := fun t h => (t = true → Q v h) ∧ (t = false → ev F.g d mb l h Q X)) hq hx fr _ _ E R1 (fun t z h3 hh3 tk3 hq3 hz R3 => ?_) hX
  cases hz
  cases t with
  | true => rw [if_pos rfl]; exact hP _ _ h3 hh3 tk3 (hq3.1 rfl) hx R3
  | false => rw [if_neg (by decide)]; exact hb c d FO hg hsc ok rm l h3 Q X (hq3.2 rfl) fr _ _ E R3 hP hX
/-- a BoolOp as a test, whatever stands as its whole -/
noncomputable def STB (F : Fx) (o : BoolOp) (es : List Expr) (pos : Pos) (m : ME) : Prop := ∀ c d, F.Ok → c.g = F.g → SCF c F → c.Ok → room c d → ∀ l hp Q X, evT F.g d m l hp Q X → ∀ whole, W rB c F.names l (isTrue (.BoolOp o es pos) c.env whole) hp Q X
theorem stb_and_one {a : Expr} {pos} {ma : ME} (ha : ST F a ma) : STB F .And [a] pos ma := by
  intro c d FO hg hsc ok rm l hp Q X hev whole fr s P E R hP hX
  refine PyProof.Rows.isTrue_and (ha c d FO hg hsc ok rm l hp _ X hev _ rfl fr s _ E R (fun v x h1 hh tk hq hx R1 => ?_) hX)
  cases hx
  cases v with
  | true => rw [if_pos rfl]; exact isTrue_and_nil (hP _ _ h1 hh tk hq rfl R1)
  | false => rw [if_neg (by decide)]; exact hP _ _ h1 hh tk hq rfl R1
theorem stb_or_one {a : Expr} {pos} {ma : ME} (ha : ST F a ma) : STB F .Or [a] pos ma := by
  intro c d FO hg hsc ok rm l hp Q X hev whole fr s P E R hP hX
  refine PyProof.Rows.isTrue_or (ha c d FO hg hsc ok rm l hp _ X hev _ rfl fr s _ E R (fun v x h1 hh tk hq hx R1 => ?_) hX)
  cases hx
  cases v with
  | true => rw [if_pos rfl]; exact hP _ _ h1 hh tk hq rfl R1
  | false => rw [if_neg (by decide)]; exact isTrue_or_nil (hP _ _ h1 hh tk hq rfl R1)
theorem stb_and {a : Expr} {r : List Expr} {pos} {ma mb : ME} (ha : ST F a ma) (hb : STB F .And r pos mb) : STB F .And (a :: r) pos (.and ma mb) := by
  intro c d FO hg hsc ok rm l hp Q X hev whole fr s P E R hP hX
  refine PyProof.Rows.isTrue_and (ha c d FO hg hsc ok rm l hp _ X hev _ rfl fr s _ E R (fun v x h1 hh tk hq hx R1 => ?_) hX)
  cases hx
  cases v with
  | true => rw [if_pos rfl]; exact hb c d FO hg hsc ok rm l h1 Q X (hq.1 rfl) _ fr _ _ E R1 hP hX
  | false => rw [if_neg (by decide)]; exact hP _ _ h1 hh tk (hq.2 rfl) rfl R1
theorem stb_or {a : Expr} {r : List Expr} {pos} {ma mb : ME} (ha : ST F a ma) (hb : STB F .Or r pos mb) : STB F .Or (a :: r) pos (.or ma mb) := by
  intro c d FO hg hsc ok rm l hp Q X hev whole fr s P E R hP hX
  refine PyProof.Rows.isTrue_or (ha c d FO hg hsc ok rm l hp _ X hev _ rfl fr s _ E R (fun v x h1 hh tk hq hx R1 => ?_) hX)
  cases hx
  cases v with
  | true => rw [if_pos rfl]; exact hP _ _ h1 hh tk (hq.1 rfl) rfl R1
  | false => rw [if_neg (by decide)]; exact hb c d FO hg hsc ok rm l h1 Q X (hq.2 rfl) _ fr _ _ E R1 hP hX
theorem st_of {o : BoolOp} {es : List Expr} {pos} {m : ME} (h : STB F o es pos m) : ST F (.BoolOp o es pos) m :=
  fun c d FO hg hsc ok rm l hp Q X hev whole _ => h c d FO hg hsc ok rm l hp Q X hev whole
end
noncomputable def rO (o : Out) (f : Flow) : Prop :=
  match o, f with
  | .next, .next => True
  | .brk, .brk => True
  | .ret v, .ret x => absV x = v
  | _, _ => False
noncomputable def WS (c : Cx) (names : List Str) (l : List V) (t : Sem Flow) (hp : HP) (Q : Out → List V → HP → Prop) (X : XT) : Prop :=
  c.cp = none → ∀ (fr : List (Addr × Obj)) (s : Shared) (P : Flow → Shared → Prop) (E : Value → Shared → Prop), Rep c names l hp fr s.heap →
    (∀ o f l' hp' h' tk', Q o l' hp' → rO o f → Rep c names l' hp' fr h' → P f { s with heap := h', toks := tk' }) →
    (∀ l', XP c names l' fr X E s) →
    wpAny (model c.g.prog c.g.w) c.A t P E s
noncomputable def SS (F : Fx) (st : Stmt) (m : MS) : Prop := ∀ c d, F.Ok → c.g = F.g → SCF c F → c.Ok → room c d → ∀ l hp Q X, exec F.g d m l hp Q X → WS c F.names l (PySem.exec st c.env) hp Q X
noncomputable def SB (F : Fx) (b : List Stmt) (m : MS) : Prop := ∀ c d, F.Ok → c.g = F.g → SCF c F → c.Ok → room c d → ∀ l hp Q X, exec F.g d m l hp Q X → WS c F.names l (execs b c.env) hp Q X
theorem lset_get {v : V} : ∀ {l : List V} {i j : Nat} {w : V}, (lset l i v)[j]? = some w → (j = i ∧ w = v) ∨ (j ≠ i ∧ l[j]? = some w)
  | [], _, _, _, h => by simp [lset] at h
  | _ :: _, 0, 0, _, h => by simp [lset] at h; exact .inl ⟨rfl, h.symm⟩
  | _ :: _, 0, j + 1, _, h => by simp [lset] at h; exact .inr ⟨by omega, by simpa using h⟩
  | _ :: _, i + 1, 0, _, h => by simp [lset] at h; exact .inr ⟨by omega, by simpa using h⟩
  | _ :: r, i + 1, j + 1, w, h => by
    simp only [lset, List.getElem?_cons_succ] at h
    rcases lset_get (l := r) h with ⟨a, b⟩ | ⟨a, b⟩
    · exact .inl ⟨by omega, b⟩
    · exact .inr ⟨by omega, by simpa using b⟩
theorem Loc.set {cl : List (Str × Addr)} {names : List Str} {l : List V} {m : Str → Option Value} {i : Nat} {x : Str} {v : V} {val : Value} (nd : names.Nodup) (lo : Loc cl names l m) (hx : names[i]? = some x) (hv : absV val = v) :
    Loc cl names (lset l i v) (fun y => if y = x then some val else m y) := by
  intro j y w hy hw hn
  rcases lset_get hw with ⟨rfl, rfl⟩ | ⟨hne, hw⟩
  · rw [hx] at hy; cases hy
    exact .inr ⟨fun a e => by rw [e] at hv; cases val <;> simp [absV] at hv, val, by simp, hv⟩
  · have : y ≠ x := by
      intro e; subst e
      apply hne
      have h1 := (List.getElem?_eq_some_iff.mp hy)
      have h2 := (List.getElem?_eq_some_iff.mp hx)
      obtain ⟨a1, b1⟩ := h1
      obtain ⟨a2, b2⟩ := h2
      exact (List.getElem_inj nd).mp (b1.trans b2.symm)
    rcases lo j y w hy hw hn with h0 | ⟨h0, u, h1, h2⟩
    · exact .inl h0
    · exact .inr ⟨h0, u, by simp [this, h1], h2⟩
theorem noC {c : Cx} (h : c.cp = none) {it : Addr} : ∀ k, c.cp = some k → k.C ≠ it := fun k e => by rw [h] at e; cases e
theorem LocX.drop {c : Cx} {names l m fr} {it : Addr} {o : Obj} (h : LocX c names l m ((it, o) :: fr)) (hC : ∀ k, c.cp = some k → k.C ≠ it) : LocX c names l m fr := by
  unfold LocX at *
  split at h
  · exact h
  · rename_i k e
    obtain ⟨a, oC, m₂, b, r⟩ := h
    refine ⟨a, oC, m₂, ?_, r⟩
    rcases List.mem_cons.mp b with q | q
    · cases q; exact absurd rfl (hC k e)
    · exact q
theorem LocX.push {c : Cx} {names l m fr} {p : Addr × Obj} (h : LocX c names l m fr) : LocX c names l m (p :: fr) := h.sub fun _ => .tail _
theorem storeS {F : Fx} {c : Cx} (FO : F.Ok) (hsc : SCF c F) (ok : c.Ok) (hcp : c.cp = none) {x : Str} {i : Nat} {l hp fr} {s : Shared} {v : V} {val : Value} {P : Unit → Shared → Prop} {E : Value → Shared → Prop}
    (hi : F.names[i]? = some x) (hk : F.sc.names.lookup x = some .local) (R : Rep c F.names l hp fr s.heap) (hv : absV val = v)
    (h : ∀ h' tk', Rep c F.names (lset l i v) hp fr h' → P () { s with heap := h', toks := tk' }) :
    wpAny (model c.g.prog c.g.w) c.A (storeName c.env x val) P E s := by
  obtain ⟨g, m, news, T, Fm, lo, H, N, D⟩ := R.parts
  rw [c.env_plain hcp]
  refine storeX_L Fm N (fun h' F' N' => h h' _ (Rep.of T F' ((LocX.plain hcp).mpr (((LocX.plain hcp).mp lo).set FO.nd hi hv)) H N' D)) ok.fkind (by show c.fsc.names.lookup x = _; rw [← c.sc_plain hcp, hsc.1]; exact hk)
noncomputable def compE : Expr → Bool
  | .ListComp .. => true
  | .SetComp .. => true
  | .DictComp .. => true
  | _ => false
theorem swaps_plain {e : Expr} (h : compE e = false) (t : Option Expr) (n : Nat) (env : Env) : swapsWith e t n env = pure false := by
  cases e <;> first | rfl | (exact absurd h (by simp [compE]))
section
variable {F : Fx}
theorem sb_nil : SB F [] .skip := by
  intro c d FO hg hsc ok rm l hp Q X hev hcp fr s P E R hP hX
  exact wpAny_execs_nil (hP .next .next l hp s.heap s.toks hev trivial R)
theorem sb_cons {st : Stmt} {r : List Stmt} {m mr : MS} (h : SS F st m) (hr : SB F r mr) : SB F (st :: r) (.seq m mr) := by
  intro c d FO hg hsc ok rm l hp Q X hev hcp fr s P E R hP hX
  refine wpAny_execs_cons (h c d FO hg hsc ok rm l hp _ X hev hcp fr s _ E R (fun o f l1 h1 hh tk hq hf R1 => ?_) hX)
  cases o with
  | next =>
    cases f <;> first | exact hf.elim | skip
    exact hr c d FO hg hsc ok rm l1 h1 Q X hq hcp fr _ _ E R1 hP hX
  | brk =>
    cases f <;> first | exact hf.elim | skip
    exact hP .brk .brk l1 h1 hh tk hq trivial R1
  | ret v =>
    cases f <;> first | exact hf.elim | skip
    exact hP (.ret v) _ l1 h1 hh tk hq hf R1
theorem ss_asg {x : Str} {p pos : Pos} {i : Nat} {e : Expr} {m : ME} (hi : F.names[i]? = some x) (hk : F.sc.names.lookup x = some .local) (hc : compE e = false) (he : SE F e m) : SS F (.Assign [.Name x p] e pos) (.asg i m) := by
  intro c d FO hg hsc ok rm l hp Q X hev hcp fr s P E R hP hX
  refine wpAny_Assign_Name (he c d FO hg hsc ok rm l hp _ X hev fr s _ E R (fun v y h1 hh tk hq hy R1 => ?_) (hX l)) (swaps_plain hc _ _ _)
  exact storeS FO hsc ok hcp hi hk R1 hy fun h' tk' R' => hP .next .next _ h1 h' tk' hq trivial R'
theorem ibinS {o : Operator} {b : BOp} (ho : opOf o = some b) (hno : b = .add ∨ b = .sub ∨ b = .mul ∨ b = .fdiv ∨ b = .mod ∨ b = .shr ∨ b = .band) {c : Cx} {d : Nat} (ok : c.Ok) (rm : room c d) {names l hp Q X} {v w : V} {x y : Value}
    (h : augV b v w hp Q) (hx : absV x = v) (hy : absV y = w) : W rV c names l (inplaceOp o x y) hp Q X := by
  intro fr s P E R hP hX
  unfold augV at h
  split at h
  · rename_i i j
    obtain ⟨t, rfl⟩ := absV_int hx
    obtain ⟨u, rfl⟩ := absV_int hy
    obtain ⟨hok, hq⟩ := h
    cases o <;> simp only [opOf, Option.some.injEq, reduceCtorEq] at ho <;> subst ho
    · exact PyProof.Rows.iadd_int (hP _ _ hp s.heap _ hq rfl R)
    · exact PyProof.Rows.isub_int (hP _ _ hp s.heap _ hq rfl R)
    · exact PyProof.Rows.imul_int (hP _ _ hp s.heap _ hq rfl R) hok
    · exact imod_int hok (hP _ _ hp s.heap _ hq rfl R)
    · simp at hno
    · simp at hno
    · exact irshift_int hok (hP _ _ hp s.heap _ hq rfl R)
    · exact iand_int (hP _ _ hp s.heap _ hq rfl R)
    · exact ifloordiv_int hok (hP _ _ hp s.heap _ hq rfl R) (.inr (pylong ok rm R))
  · exact h.elim
theorem ss_aug {x : Str} {p pos : Pos} {i : Nat} {o : Operator} {b : BOp} {e : Expr} {m : ME} (ho : opOf o = some b) (hno : b = .add ∨ b = .sub ∨ b = .mul ∨ b = .fdiv ∨ b = .mod ∨ b = .shr ∨ b = .band)
    (hi : F.names[i]? = some x) (hk : F.sc.names.lookup x = some .local) (he : SE F e m) : SS F (.AugAssign (.Name x p) o e pos) (.aug i b m) := by
  intro c d FO hg hsc ok rm l hp Q X hev hcp fr s P E R hP hX
  obtain ⟨⟨hn, hnc⟩, hev⟩ := varV_iff.mp hev
  obtain ⟨m', val, hns, hm, hab⟩ := R.locals hi rfl hn hnc
  refine wpAny_AugAssign_Name (wpAny_loadName_local (by rw [c.env_scope]; exact ok.kind) (by rw [c.env_kindOf, hsc.1]; exact hk) hns hm ?_)
  refine he c d FO hg hsc ok rm l hp _ X hev fr s _ E R (fun v y h1 hh tk hq hy R1 => ?_) (hX l)
  refine ibinS ho hno ok rm hq hab hy fr _ _ E R1 (fun u z h2 hh2 tk2 hq2 hz R2 => ?_) (hX l)
  exact storeS FO hsc ok hcp hi hk R2 hz fun h' tk' R' => hP .next .next _ h2 h' tk' hq2 trivial R'
theorem ss_if {t : Expr} {a b : List Stmt} {pos : Pos} {mt : ME} {ma mb : MS} (ht : ST F t mt) (ha : SB F a ma) (hb : SB F b mb) : SS F (.If t a b pos) (.ite mt ma mb) := by
  intro c d FO hg hsc ok rm l hp Q X hev hcp fr s P E R hP hX
  refine wpAny_If (ht c d FO hg hsc ok rm l hp _ X hev _ rfl fr s _ E R (fun v y h1 hh tk hq hy R1 => ?_) (hX l))
  cases hy
  cases v with
  | true => rw [if_pos rfl]; exact ha c d FO hg hsc ok rm l h1 Q X (hq.1 rfl) hcp fr _ _ E R1 hP hX
  | false => rw [if_neg (by decide)]; exact hb c d FO hg hsc ok rm l h1 Q X (hq.2 rfl) hcp fr _ _ E R1 hP hX
theorem ss_ret {e : Expr} {pos : Pos} {m : ME} (he : SE F e m) : SS F (.Return (some e) pos) (.ret m) := by
  intro c d FO hg hsc ok rm l hp Q X hev hcp fr s P E R hP hX
  exact wpAny_Return_some (he c d FO hg hsc ok rm l hp _ X hev fr s _ E R (fun v y h1 hh tk hq hy R1 => hP (.ret v) (.ret y) l h1 hh tk hq hy R1) (hX l))
theorem ss_brk {pos : Pos} : SS F (.Break pos) .brk := by
  intro c d FO hg hsc ok rm l hp Q X hev hcp fr s P E R hP hX
  exact wpAny_Break (hP .brk .brk l hp s.heap s.toks hev trivial R)
theorem noXP {c : Cx} {names l fr E s} : XP c names l fr noX E s := fun _ _ _ _ _ h => h.elim
theorem ss_while {t : Expr} {a b : List Stmt} {pos : Pos} {mt : ME} {ma mb : MS} (ht : ST F t mt) (ha : SB F a ma) (hb : SB F b mb) : SS F (.While t a b pos) (.whil mt ma mb) := by
  intro c d FO hg hsc ok rm l hp Q X hev hcp fr s P E R hP hX
  obtain ⟨I, ⟨n, h0⟩, step⟩ := hev
  refine wpAny_While (codeAny_whileLoop (fun n s' => ∃ l' hp' h' tk', I n l' hp' ∧ Rep c F.names l' hp' fr h' ∧ s' = { s with heap := h', toks := tk' }) ?_ n ⟨l, hp, s.heap, s.toks, h0, R, rfl⟩)
  rintro n s' ⟨l1, hp1, hh1, tk1, hI, R1, rfl⟩
  refine ht c d FO hg hsc ok rm l1 hp1 _ noX (step n l1 hp1 hI) _ rfl fr _ _ _ R1 (fun v y h2 hh2 tk2 hq hy R2 => ?_) noXP
  cases hy
  cases v with
  | true =>
    rw [if_pos rfl]
    refine ha c d FO hg hsc ok rm l1 h2 _ noX (hq.1 rfl) hcp fr _ _ _ R2 (fun o f l3 h3 hh3 tk3 hq3 hf R3 => ?_) fun _ => noXP
    cases o with
    | next =>
      cases f <;> first | exact hf.elim | skip
      obtain ⟨k, hk, hI3⟩ := hq3
      exact ⟨k, hk, l3, h3, hh3, tk3, hI3, R3, rfl⟩
    | brk =>
      cases f <;> first | exact hf.elim | skip
      exact hP .next .next l3 h3 hh3 tk3 hq3 trivial R3
    | ret v =>
      cases f <;> first | exact hf.elim | skip
      exact hP (.ret v) _ l3 h3 hh3 tk3 hq3 hf R3
  | false =>
    rw [if_neg (by decide)]
    exact hb c d FO hg hsc ok rm l1 h2 _ noX (hq.2 rfl) hcp fr _ _ _ R2 (fun o f l3 h3 hh3 tk3 hq3 hf R3 => hP o f l3 h3 hh3 tk3 hq3 hf R3) fun _ => noXP
theorem Rep.iter {c : Cx} {names l hp fr h h'} {it : Addr} {o o' : Obj} (R : Rep c names l hp ((it, o) :: fr) h) (hC : ∀ k, c.cp = some k → k.C ≠ it) (hs : ∀ b ob, b ≠ it → h.get? b = some ob → h'.get? b = some ob) (ho : h'.get? it = some o') (hfr : ∀ p ∈ fr, p.1 ≠ it) :
    Rep c names l hp ((it, o') :: fr) h' := by
  obtain ⟨g, T, m, Fm, lo, H, N, D⟩ := R
  have hi := N (it, o) (.head _)
  refine ⟨g, T, m, ⟨Fm.ns.at' fun ob e => hs _ _ (Ne.symm hi.2.1) e, fun b ob e => hs b ob (fun q => by rw [q, hi.2.2] at e; cases e) (Fm.keep b ob e), Fm.above⟩, (lo.drop hC).push, ⟨H.1, fun a x hx => ?_⟩, fun p hp' => ?_, fun p hp' => ?_⟩
  · have := H.2 a x hx
    have hne : a ≠ it := by
      intro e
      have := D (it, o) (.head _)
      rw [← e] at this
      rw [this] at hx; cases hx
    cases x with
    | ro vs => exact this
    | list vs => obtain ⟨ob, h1, h2⟩ := this; exact ⟨ob, hs _ _ hne h1, h2⟩
    | tup vs => obtain ⟨ob, h1, h2⟩ := this; exact ⟨ob, hs _ _ hne h1, h2⟩
    | cell vs => obtain ⟨ob, h1, h2⟩ := this; exact ⟨ob, hs _ _ hne h1, h2⟩
    | rng _ _ _ => obtain ⟨ob, h1, h2⟩ := this; exact ⟨ob, hs _ _ hne h1, h2⟩
    | dict _ => obtain ⟨ob, h1, h2⟩ := this; exact ⟨ob, hs _ _ hne h1, h2⟩
  · cases hp' with
    | head => exact ⟨ho, hi.2⟩
    | tail _ hp' => exact ⟨hs _ _ (hfr p hp') (N p (.tail _ hp')).1, (N p (.tail _ hp')).2⟩
  · cases hp' with
    | head => exact D (it, o) (.head _)
    | tail _ hp' => exact D p (.tail _ hp')
theorem Rep.drop {c : Cx} {names l hp fr h h'} {it : Addr} {o : Obj} (R : Rep c names l hp ((it, o) :: fr) h) (hC : ∀ k, c.cp = some k → k.C ≠ it) (hs : ∀ b ob, b ≠ it → h.get? b = some ob → h'.get? b = some ob) (hfr : ∀ p ∈ fr, p.1 ≠ it) :
    Rep c names l hp fr h' := by
  obtain ⟨g, T, m, Fm, lo, H, N, D⟩ := R
  have hi := N (it, o) (.head _)
  refine ⟨g, T, m, ⟨Fm.ns.at' fun ob e => hs _ _ (Ne.symm hi.2.1) e, fun b ob e => hs b ob (fun q => by rw [q, hi.2.2] at e; cases e) (Fm.keep b ob e), Fm.above⟩, lo.drop hC, ⟨H.1, fun a x hx => ?_⟩, fun p hp' => ?_, fun p hp' => D p (.tail _ hp')⟩
  · have := H.2 a x hx
    have hne : a ≠ it := by
      intro e
      have := D (it, o) (.head _)
      rw [← e] at this
      rw [this] at hx; cases hx
    cases x with
    | ro vs => exact this
    | list vs => obtain ⟨ob, h1, h2⟩ := this; exact ⟨ob, hs _ _ hne h1, h2⟩
    | tup vs => obtain ⟨ob, h1, h2⟩ := this; exact ⟨ob, hs _ _ hne h1, h2⟩
    | cell vs => obtain ⟨ob, h1, h2⟩ := this; exact ⟨ob, hs _ _ hne h1, h2⟩
    | rng _ _ _ => obtain ⟨ob, h1, h2⟩ := this; exact ⟨ob, hs _ _ hne h1, h2⟩
    | dict _ => obtain ⟨ob, h1, h2⟩ := this; exact ⟨ob, hs _ _ hne h1, h2⟩
  · exact ⟨hs _ _ (hfr p hp') (N p (.tail _ hp')).1, (N p (.tail _ hp')).2⟩
theorem Rep.push {c : Cx} {names l hp fr h} (ok : c.Ok) (R : Rep c names l hp fr h) (o : Obj) (hf : o.isFreed = false) : Rep c names l hp ((h.objs.size, o) :: fr) (h.push o) := by
  obtain ⟨f1, f2⟩ := R.fresh ok
  obtain ⟨g, m, news, T, Fm, lo, H, N, D⟩ := R.parts
  have N2 := N.push Fm o hf
  refine ⟨g, T, m, Fm.push o, lo.push, HpN.rep (c := c.at g) H fun p hp' => N2 p (.tail _ (List.mem_append_left _ hp')), fun p hp' => ?_, fun p hp' => ?_⟩
  · cases hp' with
    | head => exact N2 _ (.head _)
    | tail _ hp' => exact N2 p (.tail _ (List.mem_append_right _ hp'))
  · cases hp' with
    | head => exact f1
    | tail _ hp' => exact D p hp'
end
section
variable {F : Fx}
theorem handled_none {c : Cx} (ok : c.Ok) : c.A.handled = none := ok.hd
/-- the loop itself, whatever yields its items and whatever takes them -/
theorem forSG {c : Cx} (FO : F.Ok) (hsc : SCF c F) (ok : c.Ok) (hcp : c.cp = none) {tgt : Expr} {upd : V → List V → HP → (List V → Prop) → Prop} {b : List Stmt} {m : MS} {d : Nat} (hg : c.g = F.g) (rm : room c d)
    (hasg : ∀ (v : V) (val : Value) (l : List V) (hp : HP) (fr : List (Addr × Obj)) (s : Shared) (K : List V → Prop) (P : Unit → Shared → Prop) (E : Value → Shared → Prop), absV val = v → upd v l hp K → Rep c F.names l hp fr s.heap →
      (∀ l' h' tk', K l' → Rep c F.names l' hp fr h' → P () { s with heap := h', toks := tk' }) → wpAny (model c.g.prog c.g.w) c.A (assign tgt c.env val) P E s)
    (hb : SB F b m) {vs : List V} {K : HP → Prop} {Q : Out → List V → HP → Prop}
    {l : List V} {hp : HP} {fr : List (Addr × Obj)} {s : Shared} {it : Addr} (ItObj : Nat → Obj → Prop)
    (hgo : ∀ k o val (s' : Shared) (P : Unit → Shared → Prop) (E : Value → Shared → Prop), ItObj k o → s'.heap.get? it = some o → P () s' → wpAny (model c.g.prog c.g.w) c.A (letOwnedTupleGo tgt (.ref it) val) P E s')
    (next : ∀ k l hp o h (s' : Shared) (P : Option Value → Shared → Prop) (E : Value → Shared → Prop), K hp → ItObj k o → s'.heap = h → Rep c F.names l hp ((it, o) :: fr) h → (∀ p ∈ fr, p.1 ≠ it) →
      (∀ val v h' tk' o', vs[k]? = some v → absV val = v → ItObj (k + 1) o' → Rep c F.names l hp ((it, o') :: fr) h' → P (some val) { s' with heap := h', toks := tk' }) →
      (k = vs.length → ∀ h' tk', Rep c F.names l hp fr h' → P Option.none { s' with heap := h', toks := tk' }) → k ≤ vs.length → wpAny (model c.g.prog c.g.w) c.A (pyNext (.ref it)) P E s')
    {o₀ : Obj} (h0 : ItObj 0 o₀) (R0 : Rep c F.names l hp ((it, o₀) :: fr) s.heap) (hfr : ∀ p ∈ fr, p.1 ≠ it)
    (hK : ∃ I : Nat → List V → HP → Prop, I 0 l hp ∧
      (∀ k x l h, vs[k]? = some x → I k l h → K h ∧ upd x l h fun l1 => exec F.g d m l1 h (fun o l2 h2 => match o with
        | .next => I (k + 1) l2 h2 | .brk => Q .next l2 h2 | .ret v => Q (.ret v) l2 h2) noX) ∧
      (∀ l h, I vs.length l h → K h ∧ Q .next l h)) {R : Result → Shared → Prop}
    (hR : ∀ o f l' hp' h' tk', Q o l' hp' → rO o f → Rep c F.names l' hp' fr h' → R (.ok f) { s with heap := h', toks := tk' }) :
    codeAny (model c.g.prog c.g.w) c.A (.forLoop tgt (.ref it) b [] c.env) R s := by
  obtain ⟨I, hI0, step, fin⟩ := hK
  refine codeAny_forLoop_any (fun n s' => ∃ k l' hp' o h' tk', n = vs.length + 1 - k ∧ k ≤ vs.length ∧ I k l' hp' ∧ ItObj k o ∧ Rep c F.names l' hp' ((it, o) :: fr) h' ∧ s' = { s with heap := h', toks := tk' }) ?_ _ ⟨0, l, hp, o₀, s.heap, s.toks, rfl, Nat.zero_le _, hI0, h0, R0, rfl⟩
  rintro n s' ⟨k, l1, hp1, o1, hh1, tk1, rfl, hk1, hI, hO, R1, rfl⟩
  have hKh : K hp1 := by
    by_cases hlt : k < vs.length
    · exact (step k vs[k] l1 hp1 (by simp [hlt]) hI).1
    · have : k = vs.length := by omega
      subst this
      exact (fin l1 hp1 hI).1
  refine next k l1 hp1 o1 hh1 _ _ _ hKh hO rfl R1 hfr (fun val v h' tk' o' hv hval hO' R2 => ?_) (fun hkl h' tk' R2 => ?_) hk1
  · dsimp only
    refine hgo (k + 1) o' val _ _ _ hO' (by obtain ⟨_, _, _, _, _, _, N, _⟩ := id R2; exact (N _ (.head _)).1) ?_
    refine hasg v val _ _ _ { s with heap := h', toks := tk' } _ _ _ hval (step k v l1 hp1 hv hI).2 R2 fun l3 h3 tk3 hq3 R3 => ?_
    refine hb c d FO hg hsc ok rm _ hp1 _ noX hq3 hcp _ _ _ _ R3 (fun o f l4 h4 hh4 tk4 hq4 hf R4 => ?_) fun _ => noXP
    have hlt : k < vs.length := by
      rcases Nat.lt_or_ge k vs.length with h | h
      · exact h
      · rw [List.getElem?_eq_none h] at hv; cases hv
    cases o with
    | next =>
      cases f <;> first | exact hf.elim | skip
      exact ⟨vs.length + 1 - (k + 1), by omega, k + 1, l4, h4, o', hh4, tk4, rfl, by omega, hq4, hO', R4, rfl⟩
    | brk =>
      cases f <;> first | exact hf.elim | skip
      exact hR .next .next l4 h4 hh4 tk4 hq4 trivial (R4.drop (noC hcp) (fun _ _ _ e => e) hfr)
    | ret v =>
      cases f <;> first | exact hf.elim | skip
      exact hR (.ret v) _ l4 h4 hh4 tk4 hq4 hf (R4.drop (noC hcp) (fun _ _ _ e => e) hfr)
  · dsimp only
    subst hkl
    exact wpAny_execs_nil (hR .next .next l1 hp1 h' tk' (fin l1 hp1 hI).2 trivial R2)
/-- the loop over a name -/
theorem forS {c : Cx} (FO : F.Ok) (hsc : SCF c F) (ok : c.Ok) (hcp : c.cp = none) {x : Str} {p : Pos} {i : Nat} {b : List Stmt} {m : MS} {d : Nat} (hg : c.g = F.g) (rm : room c d)
    (hi : F.names[i]? = some x) (hk : F.sc.names.lookup x = some .local) (hb : SB F b m) {vs : List V} {K : HP → Prop} {Q : Out → List V → HP → Prop}
    {l : List V} {hp : HP} {fr : List (Addr × Obj)} {s : Shared} {it : Addr} (ItObj : Nat → Obj → Prop)
    (next : ∀ k l hp o h (s' : Shared) (P : Option Value → Shared → Prop) (E : Value → Shared → Prop), K hp → ItObj k o → s'.heap = h → Rep c F.names l hp ((it, o) :: fr) h → (∀ p ∈ fr, p.1 ≠ it) →
      (∀ val v h' tk' o', vs[k]? = some v → absV val = v → ItObj (k + 1) o' → Rep c F.names l hp ((it, o') :: fr) h' → P (some val) { s' with heap := h', toks := tk' }) →
      (k = vs.length → ∀ h' tk', Rep c F.names l hp fr h' → P Option.none { s' with heap := h', toks := tk' }) → k ≤ vs.length → wpAny (model c.g.prog c.g.w) c.A (pyNext (.ref it)) P E s')
    {o₀ : Obj} (h0 : ItObj 0 o₀) (R0 : Rep c F.names l hp ((it, o₀) :: fr) s.heap) (hfr : ∀ p ∈ fr, p.1 ≠ it)
    (hK : forIn (fun l h R => exec F.g d m l h R noX) i vs l hp K Q) {R : Result → Shared → Prop}
    (hR : ∀ o f l' hp' h' tk', Q o l' hp' → rO o f → Rep c F.names l' hp' fr h' → R (.ok f) { s with heap := h', toks := tk' }) :
    codeAny (model c.g.prog c.g.w) c.A (.forLoop (.Name x p) (.ref it) b [] c.env) R s :=
  forSG (upd := fun v l _ k => k (lset l i v)) FO hsc ok hcp hg rm
    (fun v val l hp fr s K P E hval hu R1 hP => wpAny_assign_Name (storeS FO hsc ok hcp hi hk R1 hval fun h3 tk3 R3 => hP _ h3 tk3 hu R3)) hb ItObj (fun _ _ _ _ _ _ _ _ h => wpAny_pure h) next h0 R0 hfr hK hR
theorem ss_forR_core {x : Str} {p pos : Pos} {i : Nat} {iter : Expr} {b : List Stmt} {m : MS} {c : Cx} {d : Nat} (FO : F.Ok) (hg : c.g = F.g) (hsc : SCF c F) (ok : c.Ok) (hcp : c.cp = none) (rm : room c d)
    (hi : F.names[i]? = some x) (hk : F.sc.names.lookup x = some .local) (hb : SB F b m) {Q : Out → List V → HP → Prop} {l : List V} {hp : HP} {fr : List (Addr × Obj)} {s : Shared}
    {lo hi' st : Int} {r : Addr} {t u v : Tok} (hsm : Builtin.Range.small lo hi' st = true) (R : Rep c F.names l hp fr s.heap) (hr : IsRange s.heap r lo hi' st t u v)
    (hK : forIn (fun l h R => exec F.g d m l h R noX) i ((List.range (Builtin.Range.rangeSize lo hi' st).toNat).map fun (k : Nat) => V.int (lo + k * st)) l hp (fun _ => True) Q)
    {P : Flow → Shared → Prop} {E : Value → Shared → Prop} (hP : ∀ o f l' hp' h' tk', Q o l' hp' → rO o f → Rep c F.names l' hp' fr h' → P f { s with heap := h', toks := tk' }) :
    wpAny (model c.g.prog c.g.w) c.A (pyIter (.ref r)) (fun it s₂ => codeAny (model c.g.prog c.g.w) c.A (.forLoop (.Name x p) it b [] c.env) (fun r s' => match r with | .ok f => P f s' | .error e => cameBackBy (model c.g.prog c.g.w) c.A c.env E e s') s₂) E s := by
  refine wpAny_pyIter_range hr hsm ?_
  have R0 := R.push ok { cls := Value.type "range_iterator", data := Data.fields #[rawInt lo, rawInt (Builtin.Range.rangeSize lo hi' st), rawInt st] } rfl
  have hsz : 0 ≤ Builtin.Range.rangeSize lo hi' st := by
    unfold Builtin.Range.rangeSize
    split <;> split <;> first | omega | skip
    · exact Int.add_nonneg (Int.ediv_nonneg (by omega) (by omega)) (by omega)
    · rename_i h1 h2
      by_cases hz : st = 0
      · subst hz; simp
      · exact Int.add_nonneg (Int.ediv_nonneg (by omega) (by omega)) (by omega)
  refine forS FO hsc ok hcp hg rm hi hk hb (fun k o => o = { cls := Value.type "range_iterator", data := Data.fields #[rawInt (lo + k * st), rawInt (Builtin.Range.rangeSize lo hi' st - k), rawInt st] }) ?_ ?_ R0 (R.fresh ok).2 hK hP
  · intro k l1 hp1 o1 h1 s' P1 E1 _ hO hs R1 hfr hitem hend hkl
    subst hO
    subst hs
    simp only [List.length_map, List.length_range] at hkl hend
    obtain ⟨g, T, m1, Fm, lo1, H, N, D⟩ := id R1
    have hit := (N _ (.head _)).1
    by_cases hlt : k < (Builtin.Range.rangeSize lo hi' st).toNat
    · refine wpAny_pyNext_range_item (it := s.heap.objs.size) hit (by omega) fun h' hit' hs' => ?_
      refine hitem _ (.int (lo + k * st)) h' _ _ (by simp [hlt]) rfl ?_ (R1.iter (noC hcp) (fun b ob hne e => (hs'.2 b hne).trans e) hit' hfr)
      congr 4
      · rw [show ((k + 1 : Nat) : Int) * st = (k : Int) * st + st by push_cast; rw [Int.add_mul, Int.one_mul], Int.add_assoc]
      · rw [show Builtin.Range.rangeSize lo hi' st - ((k + 1 : Nat) : Int) = Builtin.Range.rangeSize lo hi' st - k - 1 by push_cast; omega]
    · refine wpAny_pyNext_range_end (it := s.heap.objs.size) (handled_none ok) hit (by omega) fun h' he => ?_
      exact hend (by omega) h' _ (R1.drop (noC hcp) (fun b ob hne e => he b ob hne e) hfr)
  · simp
theorem se_rangeArgs1 {x : Str} {p pos : Pos} {a : Expr} {ma : ME} (hxe : x = "range") (hx : x ∈ F.bt) (hk : F.sc.names.lookup x = some .globalImplicit) (hn : notStar a = true) (ha : SE F a ma)
    {c : Cx} {d : Nat} (FO : F.Ok) (hg : c.g = F.g) (hsc : SCF c F) (ok : c.Ok) (rm : room c d) {l hp X} {Q : Int → Int → Int → HP → Prop}
    (hev : ev F.g d ma l hp (fun v h1 => match v with | .int n => Q 0 n 1 h1 | _ => False) X) {fr} {s : Shared} {P E : Value → Shared → Prop} (R : Rep c F.names l hp fr s.heap)
    (hP : ∀ lo hi st hp' h' tk' r t u v, Q lo hi st hp' → Rep c F.names l hp' fr h' → IsRange h' r lo hi st t u v → P (.ref r) { s with heap := h', toks := tk' }) (hX : XP c F.names l fr X E s) :
    wpAny (model c.g.prog c.g.w) c.A (eval (.Call (.Name x p) [a] [] pos) c.env) P E s := by
  subst hxe
  refine Call_ (nameB FO hg hsc ok hx (v := .type "range") boot_range hk (by decide) (by decide) R ?_) rfl
  refine PyProof.Rows.callWith_type1 ?_ (starEach_cons hn) rfl
  refine spliced_more (ha c d FO hg hsc ok rm l hp _ X hev fr s _ E R (fun v y h1 hh tk hq hy R1 => ?_) hX) (starEach_cons hn)
  refine spliced_none ?_
  split at hq
  · obtain ⟨t, rfl⟩ := absV_int hy
    obtain ⟨g, m, news, T, Fm, lo, H, N, D⟩ := R1.parts
    exact range1_rows Fm N fun h' tk' t1 u1 v1 hr F' N' _ => hP _ _ _ h1 h' tk' _ _ _ _ hq (Rep.of T F' lo H N' D) hr
  · exact hq.elim
theorem se_rangeArgs2 {x : Str} {p pos : Pos} {a b : Expr} {ma mb : ME} (hxe : x = "range") (hx : x ∈ F.bt) (hk : F.sc.names.lookup x = some .globalImplicit) (hn : notStar a = true) (ha : SE F a ma) (hn2 : notStar b = true) (hb : SE F b mb)
    {c : Cx} {d : Nat} (FO : F.Ok) (hg : c.g = F.g) (hsc : SCF c F) (ok : c.Ok) (rm : room c d) {l hp X} {Q : Int → Int → Int → HP → Prop}
    (hev : ev F.g d ma l hp (fun v h1 => ev F.g d mb l h1 (fun w h2 => match v, w with | .int a, .int b => Q a b 1 h2 | _, _ => False) X) X) {fr} {s : Shared} {P E : Value → Shared → Prop} (R : Rep c F.names l hp fr s.heap)
    (hP : ∀ lo hi st hp' h' tk' r t u v, Q lo hi st hp' → Rep c F.names l hp' fr h' → IsRange h' r lo hi st t u v → P (.ref r) { s with heap := h', toks := tk' }) (hX : XP c F.names l fr X E s) :
    wpAny (model c.g.prog c.g.w) c.A (eval (.Call (.Name x p) [a, b] [] pos) c.env) P E s := by
  subst hxe
  refine Call_ (nameB FO hg hsc ok hx (v := .type "range") boot_range hk (by decide) (by decide) R ?_) rfl
  refine PyProof.Rows.callWith_type1 ?_ (starEach_cons hn) (by rw [starEach_cons hn2]; rfl)
  refine spliced_more (ha c d FO hg hsc ok rm l hp _ X hev fr s _ E R (fun v y h1 hh tk hq hy R1 => ?_) hX) (starEach_cons hn)
  refine spliced_more (hb c d FO hg hsc ok rm l h1 _ X hq fr _ _ E R1 (fun w z h2 hh2 tk2 hq2 hz R2 => ?_) hX) (starEach_cons hn2)
  refine spliced_none ?_
  split at hq2
  · obtain ⟨t, rfl⟩ := absV_int hy
    obtain ⟨u, rfl⟩ := absV_int hz
    obtain ⟨g, m, news, T, Fm, lo, H, N, D⟩ := R2.parts
    exact range2_rows Fm N fun h' tk' t1 u1 v1 hr F' N' _ => hP _ _ _ h2 h' tk' _ _ _ _ hq2 (Rep.of T F' lo H N' D) hr
  · exact hq2.elim
theorem se_rangeArgs3 {x : Str} {p pos : Pos} {a b e : Expr} {ma mb me : ME} (hxe : x = "range") (hx : x ∈ F.bt) (hk : F.sc.names.lookup x = some .globalImplicit) (hn : notStar a = true) (ha : SE F a ma) (hn2 : notStar b = true) (hb : SE F b mb) (hn3 : notStar e = true) (he : SE F e me)
    {c : Cx} {d : Nat} (FO : F.Ok) (hg : c.g = F.g) (hsc : SCF c F) (ok : c.Ok) (rm : room c d) {l hp X} {Q : Int → Int → Int → HP → Prop}
    (hev : ev F.g d ma l hp (fun v h1 => ev F.g d mb l h1 (fun w h2 => ev F.g d me l h2 (fun u h3 => match v, w, u with | .int a, .int b, .int e => e ≠ 0 ∧ Q a b e h3 | _, _, _ => False) X) X) X) {fr} {s : Shared} {P E : Value → Shared → Prop} (R : Rep c F.names l hp fr s.heap)
    (hP : ∀ lo hi st hp' h' tk' r t u v, Q lo hi st hp' → Rep c F.names l hp' fr h' → IsRange h' r lo hi st t u v → P (.ref r) { s with heap := h', toks := tk' }) (hX : XP c F.names l fr X E s) :
    wpAny (model c.g.prog c.g.w) c.A (eval (.Call (.Name x p) [a, b, e] [] pos) c.env) P E s := by
  subst hxe
  refine Call_ (nameB FO hg hsc ok hx (v := .type "range") boot_range hk (by decide) (by decide) R ?_) rfl
  refine PyProof.Rows.callWith_type1 ?_ (starEach_cons hn) (by rw [starEach_cons hn2, starEach_cons hn3]; rfl)
  refine spliced_more (ha c d FO hg hsc ok rm l hp _ X hev fr s _ E R (fun v y h1 hh tk hq hy R1 => ?_) hX) (starEach_cons hn)
  refine spliced_more (hb c d FO hg hsc ok rm l h1 _ X hq fr _ _ E R1 (fun w z h2 hh2 tk2 hq2 hz R2 => ?_) hX) (starEach_cons hn2)
  refine spliced_more (he c d FO hg hsc ok rm l h2 _ X hq2 fr _ _ E R2 (fun u z3 h3 hh3 tk3 hq3 hz3 R3 => ?_) hX) (starEach_cons hn3)
  refine spliced_none ?_
  split at hq3
  · obtain ⟨t, rfl⟩ := absV_int hy
    obtain ⟨u, rfl⟩ := absV_int hz
    obtain ⟨u3, rfl⟩ := absV_int hz3
    obtain ⟨g, m, news, T, Fm, lo, H, N, D⟩ := R3.parts
    exact range3_rows Fm N hq3.1 (fun h' tk' t1 u1 v1 hr F' N' _ => hP _ _ _ h3 h' tk' _ _ _ _ hq3.2 (Rep.of T F' lo H N' D) hr) (.inr (pylong ok rm R3))
  · exact hq3.elim
theorem folded_call {f : Expr} {as : List Expr} {ks : List Keyword} {pos : Pos} {env : Env} (x : Value) : foldedSetIterable (.Call f as ks pos) env x = pure x := rfl
theorem ss_forR1 {x r : Str} {p pr pc pos : Pos} {i : Nat} {a : Expr} {ma : ME} {b : List Stmt} {m : MS} (hre : r = "range") (hr : r ∈ F.bt) (hkr : F.sc.names.lookup r = some .globalImplicit) (hn : notStar a = true) (ha : SE F a ma)
    (hi : F.names[i]? = some x) (hk : F.sc.names.lookup x = some .local) (hb : SB F b m) : SS F (.For (.Name x p) (.Call (.Name r pr) [a] [] pc) b [] pos) (.forR i (.int 0) ma (.int 1) m) := by
  intro c d FO hg hsc ok rm l hp Q X hev hcp fr s P E R hP hX
  refine wpAny_For (se_rangeArgs1 hre hr hkr hn ha FO hg hsc ok rm (X := X)
    (Q := fun x y z h3 => z ≠ 0 ∧ Builtin.Range.small x y z = true ∧ forIn (fun l h R => exec F.g d m l h R noX) i ((List.range (Builtin.Range.rangeSize x y z).toNat).map fun (k : Nat) => V.int (x + k * z)) l h3 (fun _ => True) Q) ?_ R ?_ (hX l)) folded_call
  · refine Eq.mp ?_ hev
    show ev F.g d ma l hp _ X = ev F.g d ma l hp _ X
    congr 1
    funext v h1
    show (match V.int 0, v, V.int 1 with | .int x, .int y, .int z => _ | _, _, _ => False) = _
    cases v <;> rfl
  · intro lo hi' st hp' h' tk' r' t u v hq R' hr'
    exact ss_forR_core (pos := pos) (iter := a) FO hg hsc ok hcp rm hi hk hb hq.2.1 R' hr' hq.2.2 hP
theorem ss_forR2 {x r : Str} {p pr pc pos : Pos} {i : Nat} {a e : Expr} {ma me : ME} {b : List Stmt} {m : MS} (hre : r = "range") (hr : r ∈ F.bt) (hkr : F.sc.names.lookup r = some .globalImplicit) (hn : notStar a = true) (ha : SE F a ma) (hn2 : notStar e = true) (he : SE F e me)
    (hi : F.names[i]? = some x) (hk : F.sc.names.lookup x = some .local) (hb : SB F b m) : SS F (.For (.Name x p) (.Call (.Name r pr) [a, e] [] pc) b [] pos) (.forR i ma me (.int 1) m) := by
  intro c d FO hg hsc ok rm l hp Q X hev hcp fr s P E R hP hX
  refine wpAny_For (se_rangeArgs2 hre hr hkr hn ha hn2 he FO hg hsc ok rm (X := X)
    (Q := fun x y z h3 => z ≠ 0 ∧ Builtin.Range.small x y z = true ∧ forIn (fun l h R => exec F.g d m l h R noX) i ((List.range (Builtin.Range.rangeSize x y z).toNat).map fun (k : Nat) => V.int (x + k * z)) l h3 (fun _ => True) Q) ?_ R ?_ (hX l)) folded_call
  · refine Eq.mp ?_ hev
    show ev F.g d ma l hp _ X = ev F.g d ma l hp _ X
    congr 1
    funext v h1
    show ev F.g d me l h1 _ X = ev F.g d me l h1 _ X
    congr 1
    funext w h2
    show (match v, w, V.int 1 with | .int x, .int y, .int z => _ | _, _, _ => False) = _
    cases v <;> cases w <;> rfl
  · intro lo hi' st hp' h' tk' r' t u v hq R' hr'
    exact ss_forR_core (pos := pos) (iter := a) FO hg hsc ok hcp rm hi hk hb hq.2.1 R' hr' hq.2.2 hP
theorem ss_forR3 {x r : Str} {p pr pc pos : Pos} {i : Nat} {a e f : Expr} {ma me mf : ME} {b : List Stmt} {m : MS} (hre : r = "range") (hr : r ∈ F.bt) (hkr : F.sc.names.lookup r = some .globalImplicit) (hn : notStar a = true) (ha : SE F a ma) (hn2 : notStar e = true) (he : SE F e me)
    (hn3 : notStar f = true) (hf : SE F f mf)
    (hi : F.names[i]? = some x) (hk : F.sc.names.lookup x = some .local) (hb : SB F b m) : SS F (.For (.Name x p) (.Call (.Name r pr) [a, e, f] [] pc) b [] pos) (.forR i ma me mf m) := by
  intro c d FO hg hsc ok rm l hp Q X hev hcp fr s P E R hP hX
  refine wpAny_For (se_rangeArgs3 hre hr hkr hn ha hn2 he hn3 hf FO hg hsc ok rm (X := X)
    (Q := fun x y z h3 => Builtin.Range.small x y z = true ∧ forIn (fun l h R => exec F.g d m l h R noX) i ((List.range (Builtin.Range.rangeSize x y z).toNat).map fun (k : Nat) => V.int (x + k * z)) l h3 (fun _ => True) Q) ?_ R ?_ (hX l)) folded_call
  · exact hev
  · intro lo hi' st hp' h' tk' r' t u v hq R' hr'
    exact ss_forR_core (pos := pos) (iter := a) FO hg hsc ok hcp rm hi hk hb hq.1 R' hr' hq.2 hP
end
noncomputable def setE : Expr → Bool
  | .Set .. => true
  | _ => false
theorem folded_plain {e : Expr} (h : setE e = false) {env : Env} (x : Value) : foldedSetIterable e env x = pure x := by
  cases e <;> first | rfl | (exact absurd h (by simp [setE]))
theorem lset_comm {a b : V} : ∀ {l : List V} {i j : Nat}, i ≠ j → lset (lset l i a) j b = lset (lset l j b) i a
  | [], _, _, _ => rfl
  | _ :: _, 0, 0, h => absurd rfl h
  | _ :: _, 0, _ + 1, _ => rfl
  | _ :: _, _ + 1, 0, _ => rfl
  | x :: r, i + 1, j + 1, h => by simp only [lset]; rw [lset_comm (l := r) (by omega)]
theorem lsetN_snoc : ∀ (is : List Nat) (vs : List V) (l : List V) (i : Nat) (v : V), is.length = vs.length → lsetN l (is ++ [i]) (vs ++ [v]) = lset (lsetN l is vs) i v
  | [], [], _, _, _, _ => rfl
  | [], _ :: _, _, _, _, h => by simp at h
  | _ :: _, [], _, _, _, h => by simp at h
  | j :: is, w :: vs, l, i, v, h => by
    simp only [List.cons_append, lsetN]
    exact lsetN_snoc is vs _ i v (by simpa using h)
theorem lsetN_lset : ∀ (is : List Nat) (vs : List V) (l : List V) (i : Nat) (v : V), i ∉ is → lset (lsetN l is vs) i v = lsetN (lset l i v) is vs
  | [], _, _, _, _, _ => by simp [lsetN]
  | _ :: _, [], _, _, _, _ => by simp [lsetN]
  | j :: is, w :: vs, l, i, v, h => by
    simp only [lsetN]
    rw [lsetN_lset is vs _ i v (fun q => h (.tail _ q)), lset_comm (fun e => h (by rw [e]; exact .head _))]
theorem lsetN_rev : ∀ (is : List Nat) (vs : List V) (l : List V), is.Nodup → is.length = vs.length → lsetN l is.reverse vs.reverse = lsetN l is vs
  | [], [], _, _, _ => rfl
  | [], _ :: _, _, _, h => by simp at h
  | _ :: _, [], _, _, h => by simp at h
  | j :: is, w :: vs, l, nd, h => by
    have h' : is.length = vs.length := by simpa using h
    rw [List.reverse_cons, List.reverse_cons, lsetN_snoc _ _ _ _ _ (by simpa using h')]
    rw [lsetN_rev is vs l (List.nodup_cons.mp nd).2 h', lsetN_lset _ _ _ _ _ (List.nodup_cons.mp nd).1]
    rfl
noncomputable def fIdx : List Str → Str → Nat → Option Nat
  | [], _, _ => none
  | y :: r, x, n => if y == x then some n else fIdx r x (n + 1)
theorem fIdx_get : ∀ {names : List Str} {x : Str} {n i : Nat}, fIdx names x n = some i → n ≤ i ∧ names[i - n]? = some x
  | [], _, _, _, h => by cases h
  | y :: r, x, n, i, h => by
    unfold fIdx at h
    split at h
    · rename_i e
      cases h
      rw [beq_iff_eq.mp e]
      simp
    · obtain ⟨a, b⟩ := fIdx_get h
      refine ⟨by omega, ?_⟩
      rw [show i - n = (i - (n + 1)) + 1 by omega]
      simpa using b
/-- the place of a local name -/
noncomputable def loc? (F : Fx) (x : Str) : Option Nat :=
  match fIdx F.names x 0 with
  | some i => if F.sc.names.lookup x = some .local ∧ (x == ("__debug__" : Str)) = false then some i else none
  | none => none
theorem loc?_spec {F : Fx} {x : Str} {i : Nat} (h : loc? F x = some i) : F.names[i]? = some x ∧ F.sc.names.lookup x = some .local ∧ (x == ("__debug__" : Str)) = false := by
  unfold loc? at h
  split at h
  · rename_i j hj
    split at h
    · rename_i e
      cases h
      exact ⟨by simpa using (fIdx_get hj).2, e.1, e.2⟩
    · cases h
  · cases h
/-- the places of a row of names -/
noncomputable def tgt? (F : Fx) : List Expr → Option (List Str × List Nat)
  | [] => some ([], [])
  | .Name x _ :: r => match loc? F x, tgt? F r with
    | some i, some (xs, is) => some (x :: xs, i :: is)
    | _, _ => none
  | _ :: _ => none
theorem tgt?_assign {F : Fx} {c : Cx} (FO : F.Ok) (hsc : SCF c F) (ok : c.Ok) (hcp : c.cp = none) : ∀ {ts : List Expr} {xs : List Str} {is : List Nat}, tgt? F ts = some (xs, is) →
    ((assignEach ts c.env).length = ts.length ∧ ts.length = is.length ∧ List.findIdx? (fun x => x.fst) (assignEach ts c.env) = none) ∧
    ∀ (l : List V) (hp : HP) (fr : List (Addr × Obj)) (s : Shared) (vs : List V) (vals : List Value) (P : Unit → Shared → Prop) (E : Value → Shared → Prop), vals.map absV = vs → vs.length = is.length → Rep c F.names l hp fr s.heap →
      (∀ h' tk', Rep c F.names (lsetN l is vs) hp fr h' → P () { s with heap := h', toks := tk' }) →
      wpAny (model c.g.prog c.g.w) c.A (assignInOrder ((assignEach ts c.env).map (fun x => x.snd)) vals) P E s
  | [], xs, is, h => by
    cases h
    refine ⟨⟨rfl, rfl, rfl⟩, fun l hp fr s vs vals P E hv hl R hP => ?_⟩
    have : vs = [] := by simpa using hl
    subst this
    exact assignInOrder_nil (hP s.heap s.toks R)
  | e :: r, xs, is, h => by
    cases e <;> first | (simp only [tgt?, reduceCtorEq] at h; done) | skip
    rename_i x p
    simp only [tgt?] at h
    split at h
    · rename_i i ys js hi hr
      cases h
      obtain ⟨⟨a1, a2, a3⟩, ih⟩ := tgt?_assign FO hsc ok hcp hr
      obtain ⟨b1, b2, b3⟩ := loc?_spec hi
      refine ⟨⟨by simp [assignEach, a1], by simp [a2], by simp [assignEach, List.findIdx?_cons, a3]⟩, fun l hp fr s vs vals P E hv hl R hP => ?_⟩
      cases vals with
      | nil => subst hv; simp at hl
      | cons y ys' =>
        subst hv
        simp only [List.map_cons, List.length_cons] at hl
        show wpAny _ _ (assignInOrder (assign (.Name x p) c.env :: (assignEach r c.env).map (fun x => x.snd)) (y :: ys')) P E s
        refine assignInOrder_cons (PyProof.Rows.assign_Name (storeS FO hsc ok hcp b1 b2 R rfl fun h' tk' R' => ?_))
        exact ih _ _ _ _ _ _ _ _ rfl (by simpa using hl) R' fun h2 tk2 R2 => hP h2 tk2 R2
    · cases h
theorem bindNames {F : Fx} {c : Cx} (FO : F.Ok) (hsc : SCF c F) (ok : c.Ok) (hcp : c.cp = none) : ∀ {xs : List Str} {is : List Nat}, xs.length = is.length → (∀ p ∈ xs.zip is, F.names[p.2]? = some p.1 ∧ F.sc.names.lookup p.1 = some .local) →
    ∀ (l : List V) (hp : HP) (fr : List (Addr × Obj)) (s : Shared) (vs : List V) (vals : List Value) (P : Unit → Shared → Prop) (E : Value → Shared → Prop), vals.map absV = vs → vs.length = is.length → Rep c F.names l hp fr s.heap →
      (∀ h' tk', Rep c F.names (lsetN l is vs) hp fr h' → P () { s with heap := h', toks := tk' }) →
      wpAny (model c.g.prog c.g.w) c.A (assignInOrder (xs.map fun n => bindName c.env n) vals) P E s
  | [], [], _, _ => fun l hp fr s vs vals P E hv hl R hP => by
    have : vs = [] := by simpa using hl
    subst this
    exact assignInOrder_nil (hP s.heap s.toks R)
  | [], _ :: _, h, _ => by simp at h
  | _ :: _, [], h, _ => by simp at h
  | x :: xs, i :: is, h, hz => fun l hp fr s vs vals P E hv hl R hP => by
    cases vals with
    | nil => subst hv; simp at hl
    | cons y ys' =>
      subst hv
      obtain ⟨b1, b2⟩ := hz (x, i) (by simp)
      refine assignInOrder_cons (bindName_ (storeS FO hsc ok hcp b1 b2 R rfl fun h' tk' R' => ?_))
      exact bindNames FO hsc ok hcp (by simpa using h) (fun p hp => hz p (by simp only [List.zip_cons_cons]; exact .tail _ hp)) _ _ _ _ _ _ _ _ rfl (by simpa using hl) R' fun h2 tk2 R2 => hP h2 tk2 R2
theorem tgt?_zip {F : Fx} : ∀ {ts : List Expr} {xs : List Str} {is : List Nat}, tgt? F ts = some (xs, is) → xs.length = is.length ∧ ∀ p ∈ xs.zip is, F.names[p.2]? = some p.1 ∧ F.sc.names.lookup p.1 = some .local
  | [], xs, is, h => by cases h; simp
  | e :: r, xs, is, h => by
    cases e <;> first | (simp only [tgt?, reduceCtorEq] at h; done) | skip
    rename_i x p
    simp only [tgt?] at h
    split at h
    · rename_i i ys js hi hr
      cases h
      obtain ⟨a1, a2⟩ := tgt?_zip hr
      obtain ⟨b1, b2, b3⟩ := loc?_spec hi
      refine ⟨by simp [a1], fun p hp => ?_⟩
      simp only [List.zip_cons_cons] at hp
      cases hp with
      | head => exact ⟨b1, b2⟩
      | tail _ hp => exact a2 p hp
    · cases h
/-- how a row of names takes a tuple display: none: item by item; some names: from the last on -/
noncomputable def swr (sc : Scope) (ts vs : List Expr) : Option (Option (List Str)) :=
  if !(ts.length == 2 || ts.length == 3) || vs.length != ts.length then some none
  else if vs.any (fun | .Starred .. => true | _ => false) then some none
  else
    let line := (ts.head?.map (·.pos.line)).getD 0
    let names := ts.filterMap fun
      | .Name id pos => if sc.names.lookup id == some .local && pos.line == line then some id else none
      | _ => none
    if names.length != ts.length || names.eraseDups.length != names.length then some none
    else if vs.all (foldedForSure 8) then some none
    else if vs.all (constantsAlone 8) then none
    else some (some names)
theorem swr_spec {sc : Scope} {ts vs : List Expr} {r : Option (List Str)} (h : swr sc ts vs = some r) {env : Env} (he : env.scope = sc) (hk : sc.kind = .function) {k k' p p'} :
    swappedStores [.Tuple ts k p] (.Tuple vs k' p') env = pure r := by
  have hb : env.blockKind = .function := by unfold Env.blockKind; rw [he, hk]; rfl
  unfold swr at h
  unfold swappedStores
  simp only [hb, bne_self_eq_false, Bool.or_false, Env.kindOf, he]
  dsimp only at h ⊢
  split at h
  · rename_i e; cases h; rw [if_pos e]
  · rename_i e
    rw [if_neg e]
    simp only [pure_bind, bind_pure_comp] 
    split at h
    · rename_i e; cases h; exact if_pos e
    · rename_i e
      refine (if_neg e).trans ?_
      split at h
      · rename_i e; cases h; exact if_pos e
      · rename_i e
        refine (if_neg e).trans ?_
        split at h
        · rename_i e; cases h; exact if_pos e
        · rename_i e
          refine (if_neg e).trans ?_
          split at h
          · cases h
          · rename_i e; cases h; exact if_neg e
theorem unp_none {ts : List Expr} {k p} {e : Expr} (h : ∀ vs k' p', e ≠ .Tuple vs k' p') {env : Env} : swappedStores [.Tuple ts k p] e env = pure none := by
  unfold swappedStores
  cases e <;> first | rfl | (exact absurd rfl (h _ _ _))
section
variable {F : Fx}
theorem ss_asgN {ts es : List Expr} {k k' p p' pos} {xs : List Str} {is : List Nat} {ms : ME} (ht : tgt? F ts = some (xs, is)) (hs : swr F.sc ts es = some none ∨ (swr F.sc ts es = some (some xs) ∧ is.Nodup))
    (hl : ts.length = es.length) (hsz : es.length ≤ 100) (hes : SEs F es ms) : SS F (.Assign [.Tuple ts k p] (.Tuple es k' p') pos) (.asgN is ms) := by
  intro c d FO hg hsc ok rm l hp Q X hev hcp fr s P E R hP hX
  obtain ⟨⟨a1, a2, a3⟩, hasg⟩ := tgt?_assign (c := c) FO hsc ok hcp ht
  have hkf : F.sc.kind = .function := hsc.1 ▸ ok.kind
  have main : ∀ (vs : List V) (vals : List Value) (h1 : HP) (hh : Heap) (tk : Nat) (T₀ : Value → Shared → Prop), vals.map absV = vs → vs.length = is.length → Rep c F.names l h1 fr hh →
      (∀ r h' g m news, KtsTurn c.fs c.h₀ g → Fr g c.L h' m → LocX c F.names l m fr → HpN c h1 news → News g c.L h' ((r, { cls := .type "tuple", data := .seq vals.toArray }) :: (news ++ fr)) → (∀ p ∈ fr, h1 p.1 = Option.none) → T₀ (.ref r) { s with heap := h', toks := tk }) →
      wpAny (model c.g.prog c.g.w) c.A (newTuple vals) T₀ E { s with heap := hh, toks := tk } := by
    intro vs vals h1 hh tk T₀ hv hlv R1 hT
    obtain ⟨g, m, news, T, Fm, lo, H, N, D⟩ := R1.parts
    refine newTuple_N Fm N (fun h' F' N' => hT _ h' g m news T F' lo H N' D) ?_
    have : vals.length = vs.length := by rw [← hv]; simp
    have h2 : sizeLine = 2 ^ 24 := rfl
    omega
  have hsw : ∀ t, swapsWithSole [t] (.Tuple es k' p') pos.line c.env = pure false := fun t => swaps_plain (e := .Tuple es k' p') rfl (some t) pos.line c.env
  rcases hs with hs | ⟨hs, hnd⟩
  · refine Assign_Tuple ?_ (hsw _) (swr_spec hs (c.env_scope.trans hsc.1) hkf)
    refine Tuple_ (hes c d FO hg hsc ok rm l hp _ X hev p' fr s _ E R (fun vs vals h1 hh tk hq hx R1 => ?_) (hX l))
    dsimp only at hq
    cases hsl : sameLen vs is with
    | false => rw [hsl] at hq; exact hq.elim
    | true =>
      rw [hsl] at hq
      have hlv := sameLen_len hsl
      refine main vs vals h1 hh tk _ hx hlv R1 fun r h' g m news T F' lo H N' D => ?_
      refine unpackN_ F' N' (t := r) (items := vals.toArray) ⟨_, (N' _ (.head _)).1, rfl, _, rfl⟩ (handled_none ok) (by rw [a1, a2, ← hlv, ← hx]; simp) a3 fun h2 F2 N2 => ?_
      exact hasg _ _ _ _ vs vals.toArray.toList _ _ (by simpa [rVs] using hx) hlv (Rep.of T F2 lo H (fun p hp => N2 p (.tail _ hp)) D) fun h3 tk3 R3 => hP .next .next _ h1 h3 tk3 hq trivial R3
  · refine Assign_Tuple_swapped (names := xs) ?_ (hsw _) (swr_spec hs (c.env_scope.trans hsc.1) hkf)
    refine Tuple_ (hes c d FO hg hsc ok rm l hp _ X hev p' fr s _ E R (fun vs vals h1 hh tk hq hx R1 => ?_) (hX l))
    dsimp only at hq
    cases hsl : sameLen vs is with
    | false => rw [hsl] at hq; exact hq.elim
    | true =>
      rw [hsl] at hq
      have hlv := sameLen_len hsl
      obtain ⟨z1, z2⟩ := tgt?_zip ht
      refine main vs vals h1 hh tk _ hx hlv R1 fun r h' g m news T F' lo H N' D => ?_
      refine unpackItemsN_ F' N' (t := r) (items := vals.toArray) ⟨_, (N' _ (.head _)).1, rfl, _, rfl⟩ (handled_none ok) (by rw [z1, ← hlv, ← hx]; simp) fun h2 F2 N2 => ?_
      refine bindNames FO hsc ok hcp (xs := xs.reverse) (is := is.reverse) (by simpa using z1) (fun q hq' => z2 q ?_) _ _ _ _ vs.reverse _ _ _ (by rw [← hx]; simp) (by simpa using hlv) (Rep.of T F2 lo H (fun p hp => N2 p (.tail _ hp)) D) fun h3 tk3 R3 => ?_
      · have e9 : xs.reverse.zip is.reverse = (xs.zip is).reverse := by simp only [List.zip]; exact (List.reverse_zipWith z1).symm
        rw [e9] at hq'
        simpa using hq'
      · rw [lsetN_rev is vs l hnd hlv.symm] at R3
        exact hP .next .next _ h1 h3 tk3 hq trivial R3
theorem ss_unp {ts : List Expr} {k p pos} {xs : List Str} {is : List Nat} {e : Expr} {m : ME} (ht : tgt? F ts = some (xs, is)) (hne : ∀ vs k' p', e ≠ .Tuple vs k' p') (hc : compE e = false)
    (he : SE F e m) : SS F (.Assign [.Tuple ts k p] e pos) (.unp is m) := by
  intro c d FO hg hsc ok rm l hp Q X hev hcp fr s P E R hP hX
  obtain ⟨⟨a1, a2, a3⟩, hasg⟩ := tgt?_assign (c := c) FO hsc ok hcp ht
  have hsw : swapsWithSole [.Tuple ts k p] e pos.line c.env = pure false := swaps_plain hc (some (.Tuple ts k p)) pos.line c.env
  refine Assign_Tuple ?_ hsw (unp_none hne)
  refine he c d FO hg hsc ok rm l hp _ X hev fr s _ E R (fun v x h1 hh tk hq hx R1 => ?_) (hX l)
  cases v with
  | ref a =>
    cases absV_ref hx
    obtain ⟨vs, e1, hlv, hq⟩ := hq
    obtain ⟨items, hi, hl⟩ := R1.items ok (by rw [e1]; rfl)
    rcases hl with ⟨_, hl⟩ | ⟨hl, _⟩
    · exact absurd e1 (hl _)
    · obtain ⟨g, m', news, T, Fm, lo, H, N, D⟩ := R1.parts
      refine unpackN_ Fm N hl (handled_none ok) (by rw [a1, a2, ← hlv, ← hi]; simp) a3 fun h2 F2 N2 => ?_
      exact hasg _ _ _ _ vs items.toList _ _ hi hlv (Rep.of T F2 lo H N2 D) fun h3 tk3 R3 => hP .next .next _ h1 h3 tk3 hq trivial R3
  | _ => exact hq.elim
/-- an object of the store gives way to another -/
theorem Rep.upd {c : Cx} {names l hp fr h h'} {a : Addr} {o o₀ : O} {ob : Obj} (R : Rep c names l hp fr h) (h0 : hp a = some o₀) (hs : Heap.SameBut a h h') (ho : h'.get? a = some ob) (hr : RepO o ob)
    (hn : ∀ ws, o₀ ≠ .ro ws) : Rep c names l (hset hp a o) fr h' := by
  obtain ⟨g, T, m, Fm, lo, H, N, D⟩ := R
  have ha : a ≠ c.L ∧ g.get? a = none := by
    have := H.2 a _ h0
    cases o₀ with
    | ro ws => exact absurd rfl (hn ws)
    | list ws => obtain ⟨_, _, _, q⟩ := this; exact q
    | tup ws => obtain ⟨_, _, _, q⟩ := this; exact q
    | cell ws => obtain ⟨_, _, _, q⟩ := this; exact q
    | rng _ _ _ => obtain ⟨_, _, _, q⟩ := this; exact q
    | dict _ => obtain ⟨_, _, _, q⟩ := this; exact q
  have hfr : ∀ p ∈ fr, p.1 ≠ a := fun p hp' e => by have := D p hp'; rw [e, h0] at this; cases this
  refine ⟨g, T, m, ⟨Fm.ns.at' fun ob' e => (hs.2 _ (Ne.symm ha.1)).trans e, fun b ob' e => (hs.2 b fun q => by rw [q, ha.2] at e; cases e).trans (Fm.keep b ob' e), Fm.above⟩, lo, ⟨?_, fun b x hx => ?_⟩, fun p hp' => ⟨(hs.2 _ (hfr p hp')).trans (N p hp').1, (N p hp').2⟩, fun p hp' => by rw [hset_ne (hfr p hp')]; exact D p hp'⟩
  · obtain ⟨Dm, hD⟩ := H.1
    refine ⟨a :: Dm, fun b x hx => ?_⟩
    by_cases e : b = a
    · exact e ▸ .head _
    · rw [hset_ne e] at hx; exact .tail _ (hD b x hx)
  · by_cases e : b = a
    · subst e
      rw [hset_same] at hx
      cases hx
      cases o with
      | ro vs => exact hr.elim
      | list vs => exact ⟨ob, ho, hr, ha⟩
      | tup vs => exact ⟨ob, ho, hr, ha⟩
      | cell vs => exact ⟨ob, ho, hr, ha⟩
      | rng _ _ _ => exact ⟨ob, ho, hr, ha⟩
      | dict _ => exact ⟨ob, ho, hr, ha⟩
    · rw [hset_ne e] at hx
      have := H.2 b x hx
      cases x with
      | ro vs => exact this
      | list vs => obtain ⟨ob', h1, h2⟩ := this; exact ⟨ob', (hs.2 _ e).trans h1, h2⟩
      | tup vs => obtain ⟨ob', h1, h2⟩ := this; exact ⟨ob', (hs.2 _ e).trans h1, h2⟩
      | cell vs => obtain ⟨ob', h1, h2⟩ := this; exact ⟨ob', (hs.2 _ e).trans h1, h2⟩
      | rng _ _ _ => obtain ⟨ob', h1, h2⟩ := this; exact ⟨ob', (hs.2 _ e).trans h1, h2⟩
      | dict _ => obtain ⟨ob', h1, h2⟩ := this; exact ⟨ob', (hs.2 _ e).trans h1, h2⟩
end
/-! frames whose ground has turned -/
/-- the caller's ground, when what the callee stood on has turned -/
theorem turnBack {A₀ : Around} {base h₀ g g' H : Heap} {outer : List Env} {L : Addr} {m : Str → Option Value} (B : Below A₀ base outer h₀) (FG : Fr h₀ L g m)
    (T : KtsTurn (L :: outer.filterMap (·.frame)) g g') (k : ∀ b o, g'.get? b = some o → H.get? b = some o) :
    ∃ h', KtsTurn (outer.filterMap (·.frame)) h₀ h' ∧ Fr h' L H m ∧ ∀ b, g'.get? b = none → b ≠ L ∧ h'.get? b = none := by
  have nL : h₀.get? L = none := kts_self FG
  obtain ⟨oL, es, ep, hL, hLd, hLk, hLf⟩ := FG.ns
  obtain ⟨sl, hs⟩ := T.up hL
  obtain ⟨T₁, S₁⟩ := kts_turn_at (h := H) (fs := outer.filterMap (·.frame)) (g := h₀)
    (fun b hb => by
      obtain ⟨_, o, ho', _⟩ := B.frames.mem hb
      exact ⟨o, ho'⟩)
    (fun b o e nm => k b o (T.other b o (FG.keep b o e) (fun q => by
      rcases List.mem_cons.mp q with z | z
      · rw [z, nL] at e; cases e
      · exact nm z)))
    (fun b o e hm => by
      obtain ⟨sl', hs'⟩ := T.up (FG.keep b o e)
      exact ⟨sl', k _ _ hs'⟩)
  refine ⟨_, T₁, ⟨⟨_, es, ep, k _ _ hs, hLd, hLk, hLf⟩, S₁, by rw [T₁.size]; exact FG.above⟩, fun b hb => ⟨fun e => (by rw [e, hs] at hb; cases hb), T₁.none_ _ ?_⟩⟩
  cases q : h₀.get? b with
  | none => rfl
  | some o =>
    obtain ⟨sl', hs'⟩ := T.up (FG.keep _ _ q)
    rw [hs'] at hb; cases hb
noncomputable def LeaveT (fs : List Addr) (h₀ : Heap) (L : Addr) (m : Str → Option Value) (g : Heap) (R : Result → Shared → Prop) (v : Value) (s' : Shared) : Prop :=
  ∃ g' L' m' news', KtsTurn (L :: fs) g g' ∧ Fr g' L' s'.heap m' ∧ News g' L' s'.heap news' ∧ ∀ h₀', KtsTurn fs h₀ h₀' → Fr h₀' L s'.heap m → News h₀' L s'.heap news' → R (.ok (.ret v)) s'
theorem LeaveT.done {A₀ : Around} {base h₀ g : Heap} {outer : List Env} {L : Addr} {m : Str → Option Value} {R : Result → Shared → Prop} {v : Value} {s' : Shared} (B : Below A₀ base outer h₀) (FG : Fr h₀ L g m)
    (h : LeaveT (outer.filterMap (·.frame)) h₀ L m g R v s') : R (.ok (.ret v)) s' := by
  obtain ⟨g', L', m', news', T, F', N', k⟩ := h
  obtain ⟨h', T₁, F₁, fr⟩ := turnBack (H := s'.heap) B FG T F'.keep
  exact k h' T₁ F₁ fun p hp => ⟨(N' p hp).1, (fr _ (N' p hp).2.2).1, (fr _ (N' p hp).2.2).2⟩
section
variable {prog : Program} {w : World} {A₀ A : Around} {s : Shared} {base h₀ : Heap} {L : Addr} {m : Str → Option Value} {news : List (Addr × Obj)} {K : Frag} {p : Program} {loose : List Str} {mean : ExcName → Option Value} {mg mb : Str → Option Value}
  {env : Env} {outer : List Env} {R : Result → Shared → Prop} {name qual : Str} {params : Arguments} {body : List Stmt} {scope : Scope} {dV kV doc pm cdv ct oc : Value} {an od : Option Addr} {osl : Array (Option Value)} {f : Addr} {args : Args} {binds : List (Str × Value)}
theorem code_defT (B : Below A₀ base outer h₀) (F : Fr h₀ L s.heap m) (X₀ : K.In h₀) (N : News h₀ L s.heap news) (hlim : h₀.NoLimit) (hA : A.frames = some (env :: outer)) (hf : env.frame = some L) (hke : env.scope.kind = .function)
    (ho : K.lookup f = some ⟨oc, od, .func (fnOf name qual params body scope dV kV doc pm an cdv ct), osl⟩) (hcd : codeIn K cdv qual = true) (hroom : A.depth < recursionLimit)
    (hbind : BindsTo s (fnOf name qual params body scope dV kV doc pm an cdv ct) args binds) (hloc : ∀ y ∈ binds, scope.names.lookup y.1 = some .local)
    (h : ∀ g L' h₁, Fr h₀ L g m → Fr g L' h₁ (fun y => binds.reverse.lookup y) → News g L' h₁ news → Below A base (env :: outer) g →
      wpAny (model prog w) (A.deeper (envOf qual scope L' f cdv)) (execs body (envOf qual scope L' f cdv))
        (fun fl s' => LeaveT (outer.filterMap (·.frame)) h₀ L m g R (match fl with | .ret v => v | _ => .none) s')
        (fun e s' => wpAny (model prog w) (A.deeper (envOf qual scope L' f cdv)) (leaving (envOf qual scope L' f cdv) e) (fun _ s'' => R (.error e) s'') (fun e' s'' => R (.error e') s'') s')
        { s with heap := h₁, toks := s.toks + binds.length })
    (hco : scope.isCoroutine = false) (hgen : scope.isGenerator = false) (hk : scope.kind = .function)
    (hcell : ∀ x ∈ scope.names, x.2 ≠ .cell) : codeAny (model prog w) A (.call (.ref f) args) R s := by
  obtain ⟨FG, BG, st, lv⟩ := groundX (R := R) B F N hA hf hke
  refine codeAny_call_def (fd := fnOf name qual params body scope dV kV doc pm an cdv ct) (body := body) (binds := binds) hroom ((X₀.keeps F.keep) _ _ ho) rfl (hlim.keeps F.keep) (codeRec_of (X₀.keeps F.keep) hcd) rfl hbind hcell hloc (fun h₁ hns hk₁ => ?_) hco hgen hk
  exact wpAny_mono (h _ s.heap.objs.size h₁ FG ⟨hns, fun b o e => hk₁ b o (of_hideAll _ e), Nat.le_of_eq (hideAll_size _ _)⟩
    (fun p hp => ⟨hk₁ _ _ (N p hp).1, Nat.ne_of_lt (Heap.lt_size (N p hp).1), hideAll_none _ (List.mem_map_of_mem hp)⟩) BG) (fun fl s' hl => hl.done B FG) fun _ _ y => y
theorem code_defCT (B : Below A₀ base outer h₀) (F : Fr h₀ L s.heap m) (X₀ : K.In h₀) (N : News h₀ L s.heap news) (hlim : h₀.NoLimit) (hA : A.frames = some (env :: outer)) (hf : env.frame = some L) (hke : env.scope.kind = .function)
    (ho : K.lookup f = some ⟨oc, od, .func (fnOf name qual params body scope dV kV doc pm an cdv ct), osl⟩) (hcd : codeIn K cdv qual = true) (hroom : A.depth < recursionLimit)
    (hbind : BindsTo s (fnOf name qual params body scope dV kV doc pm an cdv ct) args binds) (hkind : (binds.all fun y => scope.names.lookup y.1 == some .local || scope.names.lookup y.1 == some .cell) = true)
    (hnd : ((cellsFrom 0 scope.names []).map (·.1)).Nodup)
    (h : ∀ g L' h₁ tk cells, Fr h₀ L g m → Fr g L' h₁ (bindL (envOfC qual scope L' f cdv).kindOf binds fun _ => none) → News g L' h₁ (cells ++ news) →
      CellsAre (bindC (envOfC qual scope L' f cdv).kindOf binds fun _ => none) (cellsFrom (L' + 1) scope.names []) cells → Below A base (env :: outer) g → (∀ p ∈ news, p.1 < L') →
      wpAny (model prog w) (A.deeper (envOfC qual scope L' f cdv)) (execs body (envOfC qual scope L' f cdv))
        (fun fl s' => LeaveT (outer.filterMap (·.frame)) h₀ L m g R (match fl with | .ret v => v | _ => .none) s')
        (fun e s' => wpAny (model prog w) (A.deeper (envOfC qual scope L' f cdv)) (leaving (envOfC qual scope L' f cdv) e) (fun _ s'' => R (.error e) s'') (fun e' s'' => R (.error e') s'') s')
        { s with heap := h₁, toks := tk })
    (hco : scope.isCoroutine = false) (hgen : scope.isGenerator = false) (hk : scope.kind = .function) : codeAny (model prog w) A (.call (.ref f) args) R s := by
  obtain ⟨FG, BG, st, lv⟩ := groundX (R := R) B F N hA hf hke
  refine codeAny_call_function hroom ((X₀.keeps F.keep) _ _ ho) rfl hco hgen rfl (codeRec_of (X₀.keeps F.keep) hcd) (hbind _ _ _ _ ?_)
  refine wpAny_newFunctionEnv_cells hk (kindsX hkind _) fun env' he s' x => ?_
  subst he
  refine ⟨(hlim.keeps F.keep).keeps x.toInCall.keep, codeAny_func ?_⟩
  obtain ⟨h₁, tk, rfl, _⟩ := x.done
  have hk₁ := x.toInCall.keep
  obtain ⟨cells, NC, Y⟩ := Cl.news (h₀ := s.heap) (Nat.le_refl _) fun n c hm => ⟨x.cell n c (lookup_of_mem_nodup (cellsFrom_names scope.names 0 (s.heap.objs.size + 1) [] [] rfl ▸ hnd) hm), x.above n c hm⟩
  refine wpAny_mono (h _ s.heap.objs.size h₁ tk cells FG ⟨x.toInCall.ns, fun b o e => hk₁ b o (of_hideAll _ e), Nat.le_of_eq (hideAll_size _ _)⟩ (fun p hp => ?_) Y BG (fun p hp => Heap.lt_size (N p hp).1)) (fun fl s' hl => hl.done B FG) fun _ _ y => y
  rcases List.mem_append.mp hp with hp | hp
  · refine ⟨(NC p hp).1, (NC p hp).2.1, ?_⟩
    cases q : (hideAll s.heap (news.map (·.1))).get? p.1 with
    | none => rfl
    | some o => have := of_hideAll _ q; rw [(NC p hp).2.2] at this; cases this
  · exact ⟨hk₁ _ _ (N p hp).1, Nat.ne_of_lt (Heap.lt_size (N p hp).1), hideAll_none _ (List.mem_map_of_mem hp)⟩
end
theorem Cx.Ok.dictsPush {c : Cx} (ok : c.Ok) {g : Heap} {m : Str → Option Value} (FG : Fr c.h₀ c.L g m) : KtsDicts (c.L :: c.fs) g := by
  intro b hb
  rcases List.mem_cons.mp hb with rfl | hb
  · obtain ⟨oL, es, ep, hL, hLd, _⟩ := FG.ns
    exact ⟨oL, es, ep, hL, hLd⟩
  · obtain ⟨o, es, n, ho, hd⟩ := ok.dicts b hb
    exact ⟨o, es, n, FG.keep b o ho, hd⟩
noncomputable def hclr (hp : HP) (a : Addr) : HP := fun b => if b = a then none else hp b
theorem Rep.at {c : Cx} {names l hp fr h} {a : Addr} {vs : List V} (R : Rep c names l hp fr h) (e : hp a = some (.list vs)) :
    ∃ g m news items n, KtsTurn c.fs c.h₀ g ∧ Fr g c.L h m ∧ LocX c names l m fr ∧ items.toList.map absV = vs ∧ HpN c (hclr hp a) news ∧ News g c.L h ((a, listOf items n) :: (news ++ fr)) ∧
      (∀ p ∈ news ++ fr, p.1 ≠ a) ∧ ∀ p ∈ fr, hp p.1 = Option.none := by
  obtain ⟨g, T, m, Fm, lo, H, N, D⟩ := R
  have H' : HpRep (c.at g) (hclr hp a) h := by
    refine ⟨?_, fun b o hb => ?_⟩
    · obtain ⟨Dm, hD⟩ := H.1
      refine ⟨Dm, fun b o hb => ?_⟩
      unfold hclr at hb
      split at hb
      · cases hb
      · exact hD b o hb
    · unfold hclr at hb
      split at hb
      · cases hb
      · exact H.2 b o hb
  obtain ⟨news, N1, H1⟩ := H'.news
  obtain ⟨ob, h1, ⟨items, n, rfl, hi⟩, h2⟩ := H.2 a _ e
  have hfr : ∀ p ∈ fr, p.1 ≠ a := fun p hp' q => by have := D p hp'; rw [q, e] at this; cases this
  refine ⟨g, m, news.filter (fun p => p.1 != a), items, n, T, Fm, lo, hi, ⟨H1.1, fun b o hb => ?_⟩, ?_, ?_, D⟩
  · have hba : b ≠ a := by intro q; unfold hclr at hb; rw [if_pos q] at hb; cases hb
    have := H1.2 b o hb
    cases o with
    | ro vs => exact this
    | list vs => obtain ⟨ob', q1, q2⟩ := this; exact ⟨ob', List.mem_filter.mpr ⟨q1, by simpa using hba⟩, q2⟩
    | tup vs => obtain ⟨ob', q1, q2⟩ := this; exact ⟨ob', List.mem_filter.mpr ⟨q1, by simpa using hba⟩, q2⟩
    | cell vs => obtain ⟨ob', q1, q2⟩ := this; exact ⟨ob', List.mem_filter.mpr ⟨q1, by simpa using hba⟩, q2⟩
    | rng _ _ _ => obtain ⟨ob', q1, q2⟩ := this; exact ⟨ob', List.mem_filter.mpr ⟨q1, by simpa using hba⟩, q2⟩
    | dict _ => obtain ⟨ob', q1, q2⟩ := this; exact ⟨ob', List.mem_filter.mpr ⟨q1, by simpa using hba⟩, q2⟩
  · intro p hp'
    rcases List.mem_cons.mp hp' with rfl | hp'
    · exact ⟨h1, h2⟩
    · rcases List.mem_append.mp hp' with q | q
      · exact N1 p (List.mem_filter.mp q).1
      · exact N p q
  · intro p hp'
    rcases List.mem_append.mp hp' with q | q
    · have := (List.mem_filter.mp q).2
      simpa using this
    · exact hfr p q
theorem Rep.back {c : Cx} {names : List Str} {l : List V} {hp : HP} {fr news : List (Addr × Obj)} {h' : Heap} {m : Str → Option Value} {a : Addr} {items : Array Value} {n : Nat} {o₀ : O} {g : Heap}
    (T : KtsTurn c.fs c.h₀ g) (Fm : Fr g c.L h' m) (lo : LocX c names l m fr) (H : HpN c (hclr hp a) news) (N : News g c.L h' ((a, listOf items n) :: (news ++ fr))) (D : ∀ p ∈ fr, hp p.1 = Option.none) (e : hp a = some o₀) :
    Rep c names l (hset hp a (.list (items.toList.map absV))) fr h' := by
  have hfr : ∀ p ∈ fr, p.1 ≠ a := fun p hp' q => by have := D p hp'; rw [q, e] at this; cases this
  refine Rep.of (news := (a, listOf items n) :: news) T Fm lo ⟨?_, fun b x hx => ?_⟩ N fun p hp' => by rw [hset_ne (hfr p hp')]; exact D p hp'
  · obtain ⟨Dm, hD⟩ := H.1
    refine ⟨a :: Dm, fun b x hx => ?_⟩
    by_cases q : b = a
    · exact q ▸ .head _
    · rw [hset_ne q] at hx; exact .tail _ (hD b x (by unfold hclr; rw [if_neg q]; exact hx))
  · by_cases q : b = a
    · subst q
      rw [hset_same] at hx
      cases hx
      exact ⟨_, .head _, items, n, rfl, rfl⟩
    · rw [hset_ne q] at hx
      have := H.2 b x (by unfold hclr; rw [if_neg q]; exact hx)
      cases x with
      | ro vs => exact this
      | list vs => obtain ⟨ob', h1, h2⟩ := this; exact ⟨ob', .tail _ h1, h2⟩
      | tup vs => obtain ⟨ob', h1, h2⟩ := this; exact ⟨ob', .tail _ h1, h2⟩
      | cell vs => obtain ⟨ob', h1, h2⟩ := this; exact ⟨ob', .tail _ h1, h2⟩
      | rng _ _ _ => obtain ⟨ob', h1, h2⟩ := this; exact ⟨ob', .tail _ h1, h2⟩
      | dict _ => obtain ⟨ob', h1, h2⟩ := this; exact ⟨ob', .tail _ h1, h2⟩
theorem setL_some : ∀ {l : List Value} {k : Nat} {v : Value}, k < l.length → ki_setL l k v = some (l.set k v)
  | [], _, _, h => by simp at h
  | _ :: _, 0, _, _ => rfl
  | x :: r, k + 1, v, h => by
    show (match ki_setL r k v with | some q => some (x :: q) | none => none) = _
    rw [setL_some (by simpa using h)]; rfl
section
variable {F : Fx}
theorem ss_setI {o i e : Expr} {p pos} {mo mi me : ME} (hc : compE e = false) (he : SE F e me) (ho : SE F o mo) (hi : SE F i mi) : SS F (.Assign [.Subscript o i p] e pos) (.setI mo mi me) := by
  intro c d FO hg hsc ok rm l hp Q X hev hcp fr s P E R hP hX
  refine wpAny_Assign_Subscript (he c d FO hg hsc ok rm l hp _ X hev fr s _ E R (fun u x h1 hh tk hq hx R1 => ?_) (hX l)) (swaps_plain hc _ _ _)
  refine ho c d FO hg hsc ok rm l h1 _ X hq fr _ _ E R1 (fun v y h2 hh2 tk2 hq2 hy R2 => ?_) (hX l)
  refine hi c d FO hg hsc ok rm l h2 _ X hq2 fr _ _ E R2 (fun w z h3 hh3 tk3 hq3 hz R3 => ?_) (hX l)
  unfold setV at hq3
  split at hq3
  · rename_i a k
    cases absV_ref hy
    obtain ⟨t, rfl⟩ := absV_int hz
    obtain ⟨vs, e1, h0, hlt, hfit, hq4⟩ := hq3
    obtain ⟨g, m, news, items, n, T, Fm, lo, hit, H, N, hne, D⟩ := R3.at e1
    have hsz : items.size = vs.length := by rw [← hit]; simp
    cases hx
    refine ki_set (its := items) (n := n) (D := a) Fm N h0 (by omega) (q := items.toList.set k.toNat x) ?_ (Upd.head hne) fun h' F' N' => ?_
    · exact setL_some (by rw [Array.length_toList]; omega)
    · have := Rep.back T F' lo H N' D e1
      refine hP .next .next _ _ h' _ hq4 trivial ?_
      simpa [← hit, List.map_set] using this
  · exact hq3.elim
theorem iterOf_cases {o : Option O} {vs : List V} (h : iterOf o = some vs) : itemsOf o = some vs ∨ ∃ a b c, o = some (.rng a b c) ∧ Builtin.Range.small a b c = true ∧ vs = rngL a b c := by
  cases o with
  | none => exact .inl h
  | some o =>
    cases o with
    | rng a b c =>
      simp only [iterOf] at h
      split at h
      · rename_i q; exact .inr ⟨a, b, c, rfl, q, (Option.some.inj h).symm⟩
      · cases h
    | _ => exact .inl h
theorem Rep.rng {c : Cx} {names l hp fr h} {a : Addr} {x y z : Int} (R : Rep c names l hp fr h) (e : hp a = some (.rng x y z)) : ∃ t u v, IsRange h a x y z t u v := by
  obtain ⟨g, T, m, Fm, lo, H, N, D⟩ := R
  obtain ⟨ob, h1, ⟨t, u, v, rfl⟩, _⟩ := H.2 a _ e
  exact ⟨t, u, v, h1⟩
/-- a loop over a list or a tuple of the store -/
theorem forLG {tgt : Expr} {upd : V → List V → HP → (List V → Prop) → Prop} {pos : Pos} {iter : Expr} {mi : ME} {b : List Stmt} {m : MS} (hse : setE iter = false) (hit : SE F iter mi) (hb : SB F b m)
    {c : Cx} {d : Nat} (FO : F.Ok) (hg : c.g = F.g) (hsc : SCF c F) (ok : c.Ok) (hcp : c.cp = none) (rm : room c d)
    (hasg : ∀ (v : V) (val : Value) (l : List V) (hp : HP) (fr : List (Addr × Obj)) (s : Shared) (K : List V → Prop) (P : Unit → Shared → Prop) (E : Value → Shared → Prop), absV val = v → upd v l hp K → Rep c F.names l hp fr s.heap →
      (∀ l' h' tk', K l' → Rep c F.names l' hp fr h' → P () { s with heap := h', toks := tk' }) → wpAny (model c.g.prog c.g.w) c.A (assign tgt c.env val) P E s)
    (hgo : ∀ (it : Addr) (o : Obj) val (s' : Shared) (P : Unit → Shared → Prop) (E : Value → Shared → Prop), (o.cls = .type "list_iterator" ∨ o.cls = .type "tuple_iterator" ∨ o.cls = .type "range_iterator") → s'.heap.get? it = some o → P () s' → wpAny (model c.g.prog c.g.w) c.A (letOwnedTupleGo tgt (.ref it) val) P E s')
    {l : List V} {hp : HP} {Q : Out → List V → HP → Prop} {X : XT}
    (hev : ev F.g d mi l hp (fun v h1 => match v with
      | .ref r => ∃ vs, iterOf (h1 r) = some vs ∧ (vs.length : Int) < 2 ^ 62 ∧ ∃ I : Nat → List V → HP → Prop, I 0 l h1 ∧
          (∀ k x l h, vs[k]? = some x → I k l h → h r = h1 r ∧ upd x l h fun l1 => exec F.g d m l1 h (fun o l2 h2 => match o with
            | .next => I (k + 1) l2 h2 | .brk => Q .next l2 h2 | .ret v => Q (.ret v) l2 h2) noX) ∧
          (∀ l h, I vs.length l h → h r = h1 r ∧ Q .next l h)
      | _ => False) X) {fr : List (Addr × Obj)} {s : Shared} {P : Flow → Shared → Prop} {E : Value → Shared → Prop} (R : Rep c F.names l hp fr s.heap)
    (hP : ∀ o f l' hp' h' tk', Q o l' hp' → rO o f → Rep c F.names l' hp' fr h' → P f { s with heap := h', toks := tk' }) (hX : XP c F.names l fr X E s) :
    wpAny (model c.g.prog c.g.w) c.A (PySem.exec (.For tgt iter b [] pos) c.env) P E s := by
  refine wpAny_For (hit c d FO hg hsc ok rm l hp _ X hev fr s _ E R (fun v y h1 hh tk hq hy R1 => ?_) hX) (folded_plain hse)
  cases v with
  | ref r =>
    cases absV_ref hy
    obtain ⟨vs, e1, hfit, hq⟩ := hq
    rcases iterOf_cases e1 with e1 | ⟨lo, hi', st, erg, hsm, rfl⟩
    case inr =>
      obtain ⟨t, u, v, hr⟩ := R1.rng erg
      refine wpAny_pyIter_range hr hsm ?_
      have R0 := R1.push ok { cls := Value.type "range_iterator", data := Data.fields #[rawInt lo, rawInt (Builtin.Range.rangeSize lo hi' st), rawInt st] } rfl
      have hsz : 0 ≤ Builtin.Range.rangeSize lo hi' st := by
        unfold Builtin.Range.rangeSize
        split <;> split <;> first | omega | skip
        · exact Int.add_nonneg (Int.ediv_nonneg (by omega) (by omega)) (by omega)
        · rename_i h1 h2
          by_cases hz : st = 0
          · subst hz; simp
          · exact Int.add_nonneg (Int.ediv_nonneg (by omega) (by omega)) (by omega)
      refine forSG FO hsc ok hcp hg rm hasg hb (K := fun h => h r = h1 r) (fun k o => o = { cls := Value.type "range_iterator", data := Data.fields #[rawInt (lo + k * st), rawInt (Builtin.Range.rangeSize lo hi' st - k), rawInt st] })
        (fun k o val s' P E ho => hgo _ o val s' P E (.inr (.inr (by rw [ho])))) ?_ ?_ R0 (R1.fresh ok).2 hq hP
      · intro k l1 hp1 o1 h2 s' P1 E1 _ hO hs R2 hfr hitem hend hkl
        subst hO
        subst hs
        simp only [rngL, List.length_map, List.length_range] at hkl hend
        have hit := (by obtain ⟨_, _, _, _, _, _, N, _⟩ := id R2; exact (N _ (.head _)).1 : s'.heap.get? _ = some _)
        by_cases hlt : k < (Builtin.Range.rangeSize lo hi' st).toNat
        · refine wpAny_pyNext_range_item hit (by omega) fun h' hit' hs' => ?_
          refine hitem _ (.int (lo + k * st)) h' _ _ (by simp [rngL, hlt]) rfl ?_ (R2.iter (noC hcp) (fun b ob hne e => (hs'.2 b hne).trans e) hit' hfr)
          congr 4
          · rw [show ((k + 1 : Nat) : Int) * st = (k : Int) * st + st by push_cast; rw [Int.add_mul, Int.one_mul], Int.add_assoc]
          · rw [show Builtin.Range.rangeSize lo hi' st - ((k + 1 : Nat) : Int) = Builtin.Range.rangeSize lo hi' st - k - 1 by push_cast; omega]
        · refine wpAny_pyNext_range_end (handled_none ok) hit (by omega) fun h' he => ?_
          exact hend (by omega) h' _ (R2.drop (noC hcp) (fun b ob hne e => he b ob hne e) hfr)
      · simp
    obtain ⟨items, hitems, hl⟩ := R1.items ok e1
    have hex : ∀ h : HP, h r = h1 r → itemsOf (h r) = some vs := fun h e => by rw [e]; exact e1
    rcases hl with ⟨hl, hnt⟩ | ⟨hl, htp⟩
    · refine wpAny_pyIter_list hl ?_
      refine forSG FO hsc ok hcp hg rm hasg hb (K := fun h => h r = h1 r) (fun k o => o.cls = .type "list_iterator" ∧ o.data = .fields #[.ref r, .int k 0]) (fun k o val s' P E ho => hgo _ o val s' P E (.inl ho.1)) ?_ ⟨rfl, rfl⟩ (R1.push ok _ rfl) (R1.fresh ok).2 hq hP
      intro k l1 hp1 o1 h2 s' P1 E1 hKh hO hs R2 hfr hitem hend hkl
      subst hs
      have hIt : s'.heap.IsListIter _ r k := ⟨o1, (by obtain ⟨_, _, _, _, _, _, N, _⟩ := id R2; exact (N _ (.head _)).1), hO⟩
      obtain ⟨items2, hitems2, hl2⟩ := R2.items ok (hex hp1 hKh)
      have hl3 : s'.heap.IsList r items2 := by
        rcases hl2 with ⟨q, _⟩ | ⟨_, q⟩
        · exact q
        · exact absurd (hKh ▸ q) (hnt _)
      have hsz : items2.size = vs.length := by rw [← hitems2]; simp
      by_cases hlt : k < vs.length
      · refine wpAny_pyNext_list_item hIt hl3 (x := items2[k]) (by simp [hsz, hlt]) fun h' hit' hs' => ?_
        obtain ⟨o', ho', hc'⟩ := hit'
        refine hitem _ (absV items2[k]) h' _ o' ?_ rfl hc' (R2.iter (noC hcp) (fun b ob hne e => (hs'.2 b hne).trans e) ho' hfr)
        have e9 : vs[k]? = (items2.toList.map absV)[k]? := by rw [hitems2]
        rw [e9]; simp [hsz, hlt]
      · refine wpAny_pyNext_list_end (handled_none ok) hIt hl3 (by simp [hsz]; omega) fun h' he => ?_
        exact hend (by omega) h' _ (R2.drop (noC hcp) (fun b ob hne e => he b ob hne e) hfr)
    · refine wpAny_pyIter_tuple hl ?_
      refine forSG FO hsc ok hcp hg rm hasg hb (K := fun h => h r = h1 r) (fun k o => o.cls = .type "tuple_iterator" ∧ o.data = .fields #[.ref r, .int k 0]) (fun k o val s' P E ho => hgo _ o val s' P E (.inr (.inl ho.1))) ?_ ⟨rfl, rfl⟩ (R1.push ok _ rfl) (R1.fresh ok).2 hq hP
      intro k l1 hp1 o1 h2 s' P1 E1 hKh hO hs R2 hfr hitem hend hkl
      subst hs
      have hIt : s'.heap.IsTupleIter _ r k := ⟨o1, (by obtain ⟨_, _, _, _, _, _, N, _⟩ := id R2; exact (N _ (.head _)).1), hO⟩
      obtain ⟨items2, hitems2, hl2⟩ := R2.items ok (hex hp1 hKh)
      have hl3 : s'.heap.IsTuple r items2 := by
        rcases hl2 with ⟨_, q⟩ | ⟨q, _⟩
        · exact absurd (hKh.trans htp) (q _)
        · exact q
      have hsz : items2.size = vs.length := by rw [← hitems2]; simp
      by_cases hlt : k < vs.length
      · refine wpAny_pyNext_tuple_item hIt hl3 (x := items2[k]) (by simp [hsz, hlt]) fun h' hit' hs' => ?_
        obtain ⟨o', ho', hc'⟩ := hit'
        refine hitem _ (absV items2[k]) h' _ o' ?_ rfl hc' (R2.iter (noC hcp) (fun b ob hne e => (hs'.2 b hne).trans e) ho' hfr)
        have e9 : vs[k]? = (items2.toList.map absV)[k]? := by rw [hitems2]
        rw [e9]; simp [hsz, hlt]
      · refine wpAny_pyNext_tuple_end (handled_none ok) hIt hl3 (by simp [hsz]; omega) fun h' he => ?_
        exact hend (by omega) h' _ (R2.drop (noC hcp) (fun b ob hne e => he b ob hne e) hfr)
  | _ => exact hq.elim
theorem ss_forL {x : Str} {p pos : Pos} {i : Nat} {iter : Expr} {mi : ME} {b : List Stmt} {m : MS} (hse : setE iter = false) (hit : SE F iter mi)
    (hi : F.names[i]? = some x) (hk : F.sc.names.lookup x = some .local) (hb : SB F b m) : SS F (.For (.Name x p) iter b [] pos) (.forL i mi m) := by
  intro c d FO hg hsc ok rm l hp Q X hev hcp fr s P E R hP hX
  exact forLG (upd := fun v l _ k => k (lset l i v)) hse hit hb FO hg hsc ok hcp rm
    (fun v val l hp fr s K P E hval hu R1 hP => wpAny_assign_Name (storeS FO hsc ok hcp hi hk R1 hval fun h3 tk3 R3 => hP _ h3 tk3 hu R3)) (fun _ _ _ _ _ _ _ _ h => wpAny_pure h) hev R hP (hX l)
theorem assignU {c : Cx} (FO : F.Ok) (hsc : SCF c F) (ok : c.Ok) (hcp : c.cp = none) {ts : List Expr} {k p} {xs : List Str} {is : List Nat} (ht : tgt? F ts = some (xs, is))
    (v : V) (val : Value) (l : List V) (hp : HP) (fr : List (Addr × Obj)) (s : Shared) (K : List V → Prop) (P : Unit → Shared → Prop) (E : Value → Shared → Prop) (hx : absV val = v) (hu : unpV v is.length hp fun ys => K (lsetN l is ys)) (R1 : Rep c F.names l hp fr s.heap)
    (hP : ∀ l' h' tk', K l' → Rep c F.names l' hp fr h' → P () { s with heap := h', toks := tk' }) : wpAny (model c.g.prog c.g.w) c.A (assign (.Tuple ts k p) c.env val) P E s := by
  obtain ⟨⟨a1, a2, a3⟩, hasg⟩ := tgt?_assign (c := c) FO hsc ok hcp ht
  cases v with
  | ref a =>
    cases absV_ref hx
    obtain ⟨vs, e1, hlv, hq⟩ := hu
    obtain ⟨items, hi, hl⟩ := R1.items ok (by rw [e1]; rfl)
    rcases hl with ⟨_, hl⟩ | ⟨hl, _⟩
    · exact absurd e1 (hl _)
    · obtain ⟨g, m', news, T, Fm, lo, H, N, D⟩ := R1.parts
      refine unpackN_ Fm N hl (handled_none ok) (by rw [a1, a2, ← hlv, ← hi]; simp) a3 fun h2 F2 N2 => ?_
      exact hasg _ _ _ _ vs items.toList _ _ hi hlv (Rep.of T F2 lo H N2 D) fun h3 tk3 R3 => hP _ h3 tk3 hq R3
  | _ => exact hu.elim
theorem goU {prog : Program} {w : World} {A : Around} {ts : List Expr} {k p} (it : Addr) (o : Obj) (val : Value) (s' : Shared) (P : Unit → Shared → Prop) (E : Value → Shared → Prop) (h : o.cls = .type "list_iterator" ∨ o.cls = .type "tuple_iterator" ∨ o.cls = .type "range_iterator") (ho : s'.heap.get? it = some o) (hP : P () s') :
    wpAny (model prog w) A (letOwnedTupleGo (.Tuple ts k p) (.ref it) val) P E s' := by
  unfold letOwnedTupleGo
  cases val <;> first | exact wpAny_pure hP | skip
  refine wpAny_bind (wpAny_load ho ?_)
  rcases h with e | e | e <;> rw [e] <;> cases o.data <;> first | exact wpAny_pure hP | skip
  all_goals exact wpAny_ite (ite_no (by simp) (wpAny_pure hP))
theorem ss_forU {ts : List Expr} {k p} {xs : List Str} {is : List Nat} {pos : Pos} {iter : Expr} {mi : ME} {b : List Stmt} {m : MS} (hse : setE iter = false) (hit : SE F iter mi)
    (ht : tgt? F ts = some (xs, is)) (hb : SB F b m) : SS F (.For (.Tuple ts k p) iter b [] pos) (.forU is mi m) := by
  intro c d FO hg hsc ok rm l hp Q X hev hcp fr s P E R hP hX
  exact forLG (upd := fun v l h k => unpV v is.length h fun ys => k (lsetN l is ys)) hse hit hb FO hg hsc ok hcp rm (assignU FO hsc ok hcp ht) goU hev R hP (hX l)
end
/-- the def at f -/
noncomputable def fnAt (K : Frag) (f : Addr) : FuncData := match K.lookup f with
  | some ⟨_, _, .func fd, _⟩ => fd
  | _ => default
noncomputable def bodyAt (K : Frag) (f : Addr) : List Stmt := match (fnAt K f).body with
  | .stmts b => b
  | _ => []
noncomputable def fnOkB (K : Frag) (f : Addr) : Bool := match K.lookup f with
  | some ⟨_, _, .func fd, _⟩ => fd.closure.isEmpty && fd.globals == mainGlobals && fd.builtins == builtinsNs && codeIn K fd.code fd.qualname && !fd.scope.isCoroutine && !fd.scope.isGenerator &&
      fd.scope.kind == .function && fd.scope.names.all (fun x => !(x.2 == .cell)) && (match fd.body with | .stmts _ => true | _ => false)
  | _ => false
theorem lookup_rev {binds : List (Str × Value)} {x : Str} {v : Value} (nd : (binds.map (·.1)).Nodup) (h : (x, v) ∈ binds) : binds.reverse.lookup x = some v := by
  have hn : (binds.reverse.map (·.1)).Nodup := by rw [List.map_reverse]; unfold List.Nodup at *; exact List.pairwise_reverse.mpr (nd.imp Ne.symm)
  have hm : (x, v) ∈ binds.reverse := List.mem_reverse.mpr h
  generalize binds.reverse = bs at hn hm
  induction bs with
  | nil => cases hm
  | cons p r ih =>
    obtain ⟨y, w⟩ := p
    simp only [List.map_cons, List.nodup_cons] at hn
    cases hm with
    | head => simp
    | tail _ hm =>
      have : x ≠ y := fun e => hn.1 (e ▸ List.mem_map_of_mem (f := (·.1)) hm)
      rw [List.lookup_cons, beq_eq_false_iff_ne.mpr this]
      exact ih hn.2 hm
theorem absV_cell {v : Value} {a : Addr} (h : absV v = .cell a) : False := by cases v <;> simp [absV] at h
theorem Loc.start {cl : List (Str × Addr)} {names : List Str} {binds : List (Str × Value)} {l : List V} (nd : names.Nodup) (hn : names.take binds.length = binds.map (·.1)) (hl : l = binds.map (fun p => absV p.2) ++ List.replicate (names.length - binds.length) V.unb) :
    Loc cl names l (fun y => binds.reverse.lookup y) := by
  intro i x v hx hv hne
  subst hl
  by_cases hi : i < binds.length
  · rw [List.getElem?_append_left (by simpa using hi)] at hv
    rw [List.getElem?_map] at hv
    have h1 : binds[i]? = some binds[i] := by simp [hi]
    rw [h1] at hv
    simp only [Option.map_some, Option.some.injEq] at hv
    have h2 : (names.take binds.length)[i]? = some x := by rw [List.getElem?_take, if_pos hi]; exact hx
    rw [hn, List.getElem?_map, h1] at h2
    simp only [Option.map_some, Option.some.injEq] at h2
    refine .inr ⟨fun a e => absV_cell (hv.trans e), binds[i].2, ?_, hv⟩
    have nd' : (binds.map (·.1)).Nodup := hn ▸ List.Sublist.nodup (List.take_sublist _ _) nd
    refine lookup_rev nd' ?_
    have : binds[i] ∈ binds := List.getElem_mem hi
    rw [← h2]; exact this
  · rw [List.getElem?_append_right (by simpa using hi)] at hv
    rw [List.getElem?_replicate] at hv
    split at hv
    · cases hv; exact absurd rfl hne
    · cases hv
noncomputable def retQ (Q : V → HP → Prop) (o : Out) (_ : List V) (h : HP) : Prop :=
  match o with
  | .ret v => Q v h
  | .next => Q .none h
  | .brk => False
noncomputable def Binds (g : G) (f : Addr) (args : List V) (kw : List (Str × V)) (bargs : List (Str × V)) : Prop :=
  ∀ (s : Shared) vals kvals, g.K.In s.heap → vals.map absV = args → (kvals.map fun p => (p.1, absV p.2)) = kw →
    ∃ binds : List (Str × Value), BindsTo s (fnAt g.K f) ⟨vals, kvals⟩ binds ∧ (binds.map fun p => (p.1, absV p.2)) = bargs
theorem calls_of {F : Fx} (FO : F.Ok) {f : Addr} (hok : fnOkB F.g.K f = true) (hsc : (fnAt F.g.K f).scope = F.sc) {ms : MS} (hb : SB F (bodyAt F.g.K f) ms) {args : List V} {kw bargs : List (Str × V)}
    (hbind : Binds F.g f args kw bargs) (hnm : F.names.take bargs.length = bargs.map (·.1)) (hloc : (bargs.all fun p => F.sc.names.lookup p.1 == some .local) = true)
    {d : Nat} {hp : HP} {Q : V → HP → Prop} {X : XC}
    (h : exec F.g d ms (bargs.map (·.2) ++ List.replicate (F.names.length - bargs.length) V.unb) hp (retQ Q) (upX X)) : Calls F.g (d + 1) f args kw hp Q X := by
  intro c hg ok rm names l vals kvals hv hkv fr s P E R hP hX
  unfold fnOkB at hok
  have hok' := hok
  split at hok
  · rename_i oc od fd osl hK
    simp only [Bool.and_eq_true, Bool.not_eq_true', List.isEmpty_iff, beq_iff_eq] at hok
    obtain ⟨⟨⟨⟨⟨⟨⟨⟨k1, k2⟩, k3⟩, k4⟩, k5⟩, k6⟩, k7⟩, k8⟩, k9⟩ := hok
    have hfd : fnAt F.g.K f = fd := by unfold fnAt; rw [hK]
    cases hbd : fd.body with
    | expr _ => rw [hbd] at k9; cases k9
    | stmts body =>
      have hbody : bodyAt F.g.K f = body := by unfold bodyAt; rw [hfd, hbd]
      rw [hbody] at hb
      rw [hfd] at hsc
      obtain ⟨binds, hB, hbs⟩ := hbind s vals kvals (by rw [← hg]; exact R.inK ok) hv hkv
      rw [hfd] at hB
      have hfn : fd = fnOf fd.name fd.qualname fd.params body fd.scope fd.defaults fd.kwdefaults fd.doc fd.pyModule fd.annotations fd.code fd.closureTuple := by
        cases fd
        simp only at k1 k2 k3 hbd
        subst k1 k2 k3 hbd
        rfl
      obtain ⟨g, m, news, T, Fm, lo, H, N, D⟩ := R.parts
      have hlen : binds.length = bargs.length := by rw [← hbs]; simp
      have hb1 : bargs.map (·.1) = binds.map (·.1) := by rw [← hbs]; simp
      have hb2 : bargs.map (·.2) = binds.map (fun p => absV p.2) := by rw [← hbs]; simp
      have okg := ok.turn T
      refine code_defT (K := c.g.K) okg.below Fm (ok.inK.keeps okg.below.stays) N ((ok.top.keeps okg.below.stays).nolimit) (Around.frames_deeper ok.below.stack) rfl ok.fkind (by rw [hg, hK, ← hfn]) (by rw [hg]; exact k4) (by have := rm.1; omega) (by rw [← hfn]; exact hB) ?_ ?_ k5 k6 k7 ?_
      · intro y hy
        have : (y.1, absV y.2) ∈ bargs := by rw [← hbs]; exact List.mem_map_of_mem (f := fun p => (p.1, absV p.2)) hy
        have := List.all_eq_true.mp hloc _ this
        rw [hsc]; simpa using this
      · intro g' L' h₁ FG F' N' B'
        let c' : Cx := { g := c.g, A₀ := c.A, base := c.base, h₀ := g', outer := c.fenv :: c.outer, L := L', qn := fd.qualname, fsc := fd.scope, fa := f, cd := fd.code, cl := [], cp := none }
        have ok' : c'.Ok := ⟨B', ok.inK, ok.top, okg.dictsPush FG, k7, k7, k6, k5, handled_none ok, ok.seer, ok.tree⟩
        have rm' : room c' d := ⟨by have := rm.1; show c.A.depth + 1 + d + 200 < _; omega, by have := rm.2; show c.A.units + 3 + 8 * d + 200 < _; omega⟩
        have R' : Rep c' F.names (bargs.map (·.2) ++ List.replicate (F.names.length - bargs.length) V.unb) hp fr h₁ := by
          refine Rep.of (c := c') (news := news) KtsTurn.refl F' (Loc.start FO.nd (by rw [hlen, hnm, hb1]) (by rw [hb2, hlen])) H N' D
        refine hb c' d FO hg ⟨hsc, fun _ => rfl, fun _ _ => rfl⟩ ok' rm' _ hp _ (upX X) h rfl fr _ _ _ R' (fun o f' l' hp' h' tk' hq hf R2 => ?_) (fun l' => ?_)
        · obtain ⟨g2, m2, news2, T2, F2, lo2, H2, N2, D2⟩ := R2.parts
          refine ⟨g2, L', m2, news2 ++ fr, T2, F2, N2, fun h3 T3 F3 N3 => ?_⟩
          cases o with
          | next =>
            cases f' <;> first | exact hf.elim | skip
            exact hP .none .none hp' h' tk' hq rfl (Rep.of (T.trans T3) F3 lo H2 N3 D2)
          | brk => exact hq.elim
          | ret v =>
            cases f' <;> first | exact hf.elim | skip
            exact hP v _ hp' h' tk' hq hf (Rep.of (T.trans T3) F3 lo H2 N3 D2)
        · intro cls e hp' h' tk' hx hr
          obtain ⟨hD, g2, m2, hh, T2, F2, lo2, hr⟩ := hr
          have ok2 := ok'.turn T2
          obtain ⟨h3, T3, F3, _⟩ := turnBack (H := g2) okg.below FG T2 (fun _ _ e => e)
          rcases hr with ⟨c0, t, vs, news2, rfl, hup, hrk, hH⟩ | ⟨c0, vs, news2, rfl, hmade, hH, hN⟩
          · refine leave_onS (A := c.A) (g := g2) (g₂ := hh) ok2.below F2 hrk hup fun h4 hrk4 _ hup4 => ?_
            exact hX (.up c0) e hp' h4 tk' hx ⟨hD, h3, m, g2, T.trans T3, F3, lo, .inl ⟨c0, t, vs, news2, rfl, hup4, hrk4, hH⟩⟩
          · refine leave_raiseS (A := c.A) (g := g2) ok2.below hmade F2 hN (fun h4 t hrk4 _ hup4 => ?_) k7
            exact hX (.up c0) e hp' h4 tk' hx ⟨hD, h3, m, g2, T.trans T3, F3, lo, .inl ⟨c0, t, vs, news2, rfl, hup4, hrk4, hH⟩⟩
      · intro x hx e
        have := List.all_eq_true.mp k8 x hx
        rw [e] at this
        simp at this
  · cases hok
section
variable {F : Fx}
noncomputable def supE : Expr → Bool
  | .Call .. => true
  | _ => false
theorem base_plain {o : Expr} (h : supE o = false) (n : Str) (env : Env) : attributeBase o n env (eval o env) = eval o env := by
  cases o <;> first | rfl | (exact absurd h (by simp [supE]))
theorem typeIs_list {c : Cx} {names l hp fr} {s : Shared} {a : Addr} {vs : List V} (R : Rep c names l hp fr s.heap) (e : hp a = some (.list vs)) :
    s.TypeIs (.ref a) "list" ∧ ∀ a', Value.ref a = .ref a' → ∃ ob, s.heap.get? a' = some ob ∧ ob.dict = none := by
  obtain ⟨g, T, m, Fm, lo, H, N, D⟩ := R
  obtain ⟨ob, h1, ⟨items, n, rfl, _⟩, _⟩ := H.2 a _ e
  exact ⟨⟨_, h1, rfl⟩, fun a' q => by cases q; exact ⟨_, h1, rfl⟩⟩
theorem margs0 {pos : Pos} {env : Env} : ((((backTo pos (starEach [] env)).all fun x => !x.fst) && (backToKw pos (keywordEach [] env)).all fun x => x.fst.isSome) && decide ((([] : List Expr).length + ([] : List Keyword).length + if ([] : List Keyword).isEmpty = true then 0 else 1) < 30)) = true := rfl
theorem margs1 {pos : Pos} {env : Env} {e : Expr} (h : notStar e = true) : ((((backTo pos (starEach [e] env)).all fun x => !x.fst) && (backToKw pos (keywordEach [] env)).all fun x => x.fst.isSome) && decide ((([e] : List Expr).length + ([] : List Keyword).length + if ([] : List Keyword).isEmpty = true then 0 else 1) < 30)) = true := by
  rw [starEach_cons h]; rfl
theorem se_app {o e : Expr} {apos pos : Pos} {nm : Str} {mo me : ME} (hnm : nm = "append") (hso : supE o = false) (hap : (apos.endLine == pos.line) = true) (hn : notStar e = true) (ho : SE F o mo) (he : SE F e me) :
    SE F (.Call (.Attribute o nm apos) [e] [] pos) (.app mo me) := by
  intro c d FO hg hsc ok rm l hp Q X hev fr s P E R hP hX
  subst hnm
  refine wpAny_Call_method (base_plain hso _ _) (margs1 hn) hap PySem.F.plainAttrs_list PySem.F.slot_list_append PySem.F.type_list_append (ho c d FO hg hsc ok rm l hp _ X hev fr s _ E R (fun v x h1 hh tk hq hx R1 => ?_) hX)
  cases v with
  | ref a =>
    cases absV_ref hx
    obtain ⟨⟨vs0, e0⟩, hq⟩ := hq
    obtain ⟨t1, t2⟩ := typeIs_list (s := { s with heap := hh, toks := tk }) R1 e0
    refine ⟨t1, t2, callWith_method1 ?_ (starEach_cons hn) rfl⟩
    refine spliced_more (he c d FO hg hsc ok rm l h1 _ X hq fr _ _ E R1 (fun w y h2 hh2 tk2 hq2 hy R2 => ?_) hX) (starEach_cons hn)
    refine spliced_none ?_
    obtain ⟨vs, e1, hsz, hq3⟩ := hq2
    obtain ⟨g, m, news, items, n, T, Fm, lo, hit, H, N, hne, D⟩ := R2.at e1
    refine append_K (D := a) (its := items) (n := n) Fm N (Upd.head hne) (fun h' F' N' => ?_) (by rw [← hit] at hsz; simpa using hsz)
    cases hy
    refine hP .none .none _ h' tk2 hq3 rfl ?_
    have := Rep.back T F' lo H N' D e1
    simpa [← hit] using this
  | _ => exact hq.elim
theorem se_rev {o : Expr} {apos pos : Pos} {nm : Str} {mo : ME} (hnm : nm = "reverse") (hso : supE o = false) (hap : (apos.endLine == pos.line) = true) (ho : SE F o mo) :
    SE F (.Call (.Attribute o nm apos) [] [] pos) (.rev mo) := by
  intro c d FO hg hsc ok rm l hp Q X hev fr s P E R hP hX
  subst hnm
  refine wpAny_Call_method (base_plain hso _ _) margs0 hap PySem.F.plainAttrs_list PySem.F.slot_list_reverse PySem.F.type_list_reverse (ho c d FO hg hsc ok rm l hp _ X hev fr s _ E R (fun v x h1 hh tk hq hx R1 => ?_) hX)
  cases v with
  | ref a =>
    cases absV_ref hx
    obtain ⟨vs, e1, hsz, hq3⟩ := hq
    obtain ⟨t1, t2⟩ := typeIs_list (s := { s with heap := hh, toks := tk }) R1 e1
    refine ⟨t1, t2, callWith_method0 ?_⟩
    obtain ⟨g, m, news, items, n, T, Fm, lo, hit, H, N, hne, D⟩ := R1.at e1
    refine kl_reverse (D := a) (its := items) (n := n) (l := items.toList.reverse) Fm N rfl (Upd.head hne) (by rw [← hit] at hsz; simpa using hsz) (fun h' F' N' => ?_)
    refine hP .none .none _ h' tk hq3 rfl ?_
    have := Rep.back T F' lo H N' D e1
    simpa [← hit] using this
  | _ => exact hq.elim
theorem se_pop0 {o : Expr} {apos pos cp : Pos} {k : Nat} {nm : Str} {mo : ME} (hnm : nm = "pop") (hso : supE o = false) (hap : (apos.endLine == pos.line) = true) (ho : SE F o mo) :
    SE F (.Call (.Attribute o nm apos) [.Constant (.int 0) k cp] [] pos) (.pop0 mo) := by
  intro c d FO hg hsc ok rm l hp Q X hev fr s P E R hP hX
  subst hnm
  refine wpAny_Call_method (base_plain hso _ _) (margs1 rfl) hap PySem.F.plainAttrs_list PySem.F.slot_list_pop PySem.F.type_list_pop (ho c d FO hg hsc ok rm l hp _ X hev fr s _ E R (fun v x h1 hh tk hq hx R1 => ?_) hX)
  cases v with
  | ref a =>
    cases absV_ref hx
    obtain ⟨u, vs, e1, hsz, hq3⟩ := hq
    obtain ⟨t1, t2⟩ := typeIs_list (s := { s with heap := hh, toks := tk }) R1 e1
    refine ⟨t1, t2, callWith_method1 ?_ rfl rfl⟩
    refine spliced_more (wpAny_Constant_int (spliced_none ?_)) rfl
    obtain ⟨g, m, news, items, n, T, Fm, lo, hit, H, N, hne, D⟩ := R1.at e1
    obtain ⟨y, ys, hys⟩ : ∃ y ys, items.toList = y :: ys := by
      cases q : items.toList with
      | nil => rw [q] at hit; cases hit
      | cons y ys => exact ⟨y, ys, rfl⟩
    rw [hys] at hit
    simp only [List.map_cons, List.cons.injEq] at hit
    have hlen : items.size = ys.length + 1 := by have := congrArg List.length hys; simpa using this
    have hl2 : vs.length = ys.length := by rw [← hit.2]; simp
    refine kl_popAt (D := a) (its := items) (n := n) (k := 0) (p := []) (q := ys) (y := y) Fm N (by decide +kernel) (by unfold seqIndex?; simp [hlen]) (by rw [hys]; rfl) (Upd.head hne) (by rw [hys]; simp; omega) (fun h' F' N' => ?_)
    refine hP u y _ h' _ hq3 hit.1 ?_
    have := Rep.back T F' lo H N' D e1
    simpa [← hit.2] using this
  | _ => exact hq.elim
theorem se_bitlen {o : Expr} {apos pos : Pos} {nm : Str} {mo : ME} (hnm : nm = "bit_length") (hso : supE o = false) (hap : (apos.endLine == pos.line) = true) (ho : SE F o mo) :
    SE F (.Call (.Attribute o nm apos) [] [] pos) (.bitlen mo) := by
  intro c d FO hg hsc ok rm l hp Q X hev fr s P E R hP hX
  subst hnm
  refine wpAny_Call_method (base_plain hso _ _) margs0 hap PySem.F.plainAttrs_int PyProof.Rows.slot_int_bit_length PyProof.Rows.type_int_bit_length (ho c d FO hg hsc ok rm l hp _ X hev fr s _ E R (fun v x h1 hh tk hq hx R1 => ?_) hX)
  cases v with
  | int i =>
    obtain ⟨t, rfl⟩ := absV_int hx
    refine ⟨typeIs_int _ _ _, (fun a q => by cases q), callWith_method0 ?_⟩
    exact call_int_bit_length (hP _ _ h1 hh _ hq rfl R1)
  | _ => exact hq.elim
theorem sub_slice {lo hi : Option Expr} {p : Pos} (o i : Value) : subscripted (.Slice lo hi none p) false o i = operate [i, o] (getItem o i) := rfl
theorem Rep.noC {c : Cx} {names : List Str} {l : List V} {hp : HP} {fr : List (Addr × Obj)} {h : Heap} {it : Addr} (R : Rep c names l hp fr h) (hf : ∀ p ∈ fr, p.1 ≠ it) : ∀ k, c.cp = some k → k.C ≠ it := by
  intro k e
  obtain ⟨g, T, m, Fm, lo, _⟩ := R
  unfold LocX at lo
  rw [show (c.at g).cp = some k from e] at lo
  obtain ⟨_, oC, m₂, hm, _⟩ := lo
  exact hf _ hm
/-- a slice's new list enters -/
theorem sliceS {c : Cx} {names : List Str} {l : List V} {hp : HP} {Q : V → HP → Prop} {fr : List (Addr × Obj)} {s : Shared} {P E : Value → Shared → Prop} {a : Addr} {vs ws : List V} {value : Expr} {lo hi : Option Expr} {p : Pos} {vl vu : Value} {x y : Option Int}
    (ok : c.Ok) (R : Rep c names l hp fr s.heap) (e : listAt (hp a) = some vs) (hsz : vs.length ≤ sizeLine) (pl : IsPart vl x) (pu : IsPart vu y)
    (hpick : ∀ items : Array Value, items.toList.map absV = vs → (slicePick items x y none).toList.map absV = ws) (hq : newV hp (.list ws) Q)
    (hP : ∀ b val hp' h' tk', Q b hp' → rV b val → Rep c names l hp' fr h' → P val { s with heap := h', toks := tk' }) :
    wpAny (model c.g.prog c.g.w) c.A (subscriptTail value (.Slice lo hi none p) (.ref a) (.ref s.heap.objs.size)) P E
      { s with heap := s.heap.push { cls := .type "slice", data := .fields #[vl, vu, .none] } } := by
  obtain ⟨items, hit, hl⟩ := R.listI ok e
  have R1 := R.push ok { cls := .type "slice", data := .fields #[vl, vu, .none] } rfl
  obtain ⟨f1, f2⟩ := R1.fresh ok
  refine tail_any (Heap.IsList.typeIs (s := { s with heap := s.heap.push _ }) (hl.push _)) list_getitem_lookup ?_ (sub_slice _ _)
  refine wpAny_getItem_list_slice (hl.push _) (Heap.IsSliceOf.new ..) pl pu .none (by simp) ?_ (by rw [← hit] at hsz; simpa using hsz)
  refine hP _ _ _ _ s.toks (hq _ f1) rfl ?_
  obtain ⟨g, m, news, T, Fm, lo', H, N, D⟩ := R1.parts
  have N2 := N.push Fm { cls := .type "list", data := .seq (slicePick items x y none) }
  have R2 := Rep.more (ob := { cls := .type "list", data := .seq (slicePick items x y none) }) (o := .list ws) T (Fm.push _) lo' H N2 D f1 f2 ⟨_, _, rfl, hpick items hit⟩
  exact R2.drop (R.noC fun q hq => (R.fresh ok).2 q hq) (fun _ _ _ e => e) (fun q hq => (R.fresh ok).2 q hq)
theorem se_slcF {a i : Expr} {p pos : Pos} {ma mi : ME} (ha : SE F a ma) (hi : SE F i mi) : SE F (.Subscript a (.Slice (some i) none none p) pos) (.slcF ma mi) := by
  intro c d FO hg hsc ok rm l hp Q X hev fr s P E R hP hX
  refine Subscript_ (ha c d FO hg hsc ok rm l hp _ X hev fr s _ E R (fun v x h1 hh tk hq hx R1 => ?_) hX)
  refine wpAny_Slice ?_
  show wpAny _ _ (eval i c.env) _ _ _
  refine hi c d FO hg hsc ok rm l h1 _ X hq fr _ _ E R1 (fun w y h2 hh2 tk2 hq2 hy R2 => ?_) hX
  refine wpAny_pure (a := Value.none) ?_
  refine wpAny_pure (a := Value.none) ?_
  unfold slcV at hq2
  split at hq2
  · rename_i r k
    cases absV_ref hx
    obtain ⟨t, rfl⟩ := absV_int hy
    obtain ⟨vs, e, hsz, h0, hn⟩ := hq2
    refine sliceS (s := { s with heap := hh2, toks := tk2 }) ok R2 e hsz (.int k t) .none (fun items hit => ?_) hn hP
    have : (some k : Option Int) = some ((k.toNat : Nat) : Int) := by rw [Int.toNat_of_nonneg h0]
    rw [this, slicePick_from' items k.toNat, ← hit]
    simp
  · exact hq2.elim
theorem fresh_of {c : Cx} (ok : c.Ok) {hp : HP} {news fr : List (Addr × Obj)} {h' : Heap} {D : Addr} {o : Obj} {g : Heap} (T : KtsTurn c.fs c.h₀ g) (H : HpN c hp news) (N : News g c.L h' ((D, o) :: (news ++ fr))) (hlt : ∀ q ∈ news ++ fr, q.1 < D) :
    hp D = none ∧ ∀ p ∈ fr, p.1 ≠ D := by
  refine ⟨?_, fun p hp' => Nat.ne_of_lt (hlt p (List.mem_append_right _ hp'))⟩
  cases q : hp D with
  | none => rfl
  | some o' =>
    have := H.2 _ _ q
    cases o' with
    | ro ws =>
      obtain ⟨it, ⟨ob, hb, _⟩, _⟩ := this
      have h0 := (N _ (.head _)).2.2
      rw [(ok.turn T).below.stays _ _ hb] at h0; cases h0
    | list ws => obtain ⟨ob, hb, _⟩ := this; exact absurd (hlt _ (List.mem_append_left _ hb)) (Nat.lt_irrefl _)
    | tup ws => obtain ⟨ob, hb, _⟩ := this; exact absurd (hlt _ (List.mem_append_left _ hb)) (Nat.lt_irrefl _)
    | cell ws => obtain ⟨ob, hb, _⟩ := this; exact absurd (hlt _ (List.mem_append_left _ hb)) (Nat.lt_irrefl _)
    | rng _ _ _ => obtain ⟨ob, hb, _⟩ := this; exact absurd (hlt _ (List.mem_append_left _ hb)) (Nat.lt_irrefl _)
    | dict _ => obtain ⟨ob, hb, _⟩ := this; exact absurd (hlt _ (List.mem_append_left _ hb)) (Nat.lt_irrefl _)
theorem se_listOf {x : Str} {p pos : Pos} {a : Expr} {ma : ME} (hxe : x = "list") (hx : x ∈ F.bt) (hk : F.sc.names.lookup x = some .globalImplicit) (hn : notStar a = true) (ha : SE F a ma) : SE F (.Call (.Name x p) [a] [] pos) (.listOf ma) := by
  intro c d FO hg hsc ok rm l hp Q X hev fr s P E R hP hX
  subst hxe
  refine Call_ (nameB FO hg hsc ok hx (v := .type "list") boot_list hk (by decide) (by decide) R ?_) rfl
  refine PyProof.Rows.callWith_type1 ?_ (starEach_cons hn) rfl
  refine spliced_more (ha c d FO hg hsc ok rm l hp _ X hev fr s _ E R (fun v y h1 hh tk hq hy R1 => ?_) hX) (starEach_cons hn)
  refine spliced_none ?_
  cases v with
  | ref a =>
    cases absV_ref hy
    obtain ⟨vs, e1, hsz, hq⟩ := hq
    rcases iterOf_cases e1 with e1 | ⟨lo, hi', st, erg, hsm, rfl⟩
    case inr =>
      obtain ⟨t, u, v, hr⟩ := R1.rng erg
      obtain ⟨f1, f2⟩ := R1.fresh ok
      obtain ⟨g, m, news, T, Fm, lo0, H, N, D⟩ := R1.parts
      have hsz0 : 0 ≤ Builtin.Range.rangeSize lo hi' st := by
        unfold Builtin.Range.rangeSize
        split <;> split <;> first | omega | skip
        · exact Int.add_nonneg (Int.ediv_nonneg (by omega) (by omega)) (by omega)
        · rename_i h1 h2
          by_cases hz : st = 0
          · subst hz; simp
          · exact Int.add_nonneg (Int.ediv_nonneg (by omega) (by omega)) (by omega)
      refine list_rangeD (n := (Builtin.Range.rangeSize lo hi' st).toNat) (handled_none ok) Fm N hr hsm (Int.toNat_of_nonneg hsz0).symm (by simp only [rngL, List.length_map, List.length_range] at hsz; exact hsz) fun h' tk' ys F' N' hk hfr hl hpl hc => ?_
      obtain ⟨⟨c0, hob⟩, hne⟩ := hpl
      have hys : ys.map absV = rngL lo hi' st := by
        have key : ∀ {ys : List Value} {ns : List Int}, CarriedAll ys (ns.map .int) → ys.map absV = ns.map V.int := by
          intro ys
          induction ys with
          | nil => intro ns h; cases ns with
            | nil => rfl
            | cons _ _ => cases h
          | cons y ys ih => intro ns h; cases ns with
            | nil => cases h
            | cons n ns =>
              simp only [List.map_cons] at h ⊢
              cases h with
              | cons h1 h2 => cases h1; rw [ih h2]; rfl
        rw [key hc]; simp [rngL, rangeInts]
      refine hP _ _ _ h' tk' (hq _ f1) rfl (Rep.more (ob := listOf ys.toArray c0) T F' lo0 H (fun p hp' => ?_) D f1 f2 ⟨_, _, rfl, by simpa using hys⟩)
      rcases List.mem_cons.mp hp' with rfl | hp'
      · refine ⟨hob, fun e => ?_, hfr⟩
        obtain ⟨oL, _, _, hL, _⟩ := Fm.ns
        exact absurd (Heap.lt_size hL) (by rw [← e]; exact Nat.lt_irrefl _)
      · exact N' p hp'
    obtain ⟨items, hi, hl⟩ := R1.items ok e1
    have hsz' : items.size ≤ sizeLine := by rw [← hi] at hsz; simpa using hsz
    obtain ⟨g, m, news, T, Fm, lo, H, N, D⟩ := R1.parts
    have fin : ∀ D' c' h', Fr g c.L h' m → News g c.L h' ((D', W.listOf items c') :: (news ++ fr)) → (∀ q ∈ news ++ fr, q.1 < D') → P (.ref D') { s with heap := h', toks := tk } := by
      intro D' c' h' F' N' hlt
      obtain ⟨f1, f2⟩ := fresh_of ok T H N' hlt
      exact hP _ _ _ h' tk (hq _ f1) rfl (Rep.more T F' lo H N' D f1 f2 ⟨items, c', rfl, hi⟩)
    rcases hl with ⟨hl, _⟩ | ⟨hl, _⟩
    · exact list_copyK Fm N hl fin hsz'
    · exact list_copyKT Fm N hl fin hsz'
  | _ => exact hq.elim
theorem se_dvm {x : Str} {p pos : Pos} {a b : Expr} {ma mb : ME} (hxe : x = "divmod") (hx : x ∈ F.bt) (hk : F.sc.names.lookup x = some .globalImplicit) (hn : notStar a = true) (hn2 : notStar b = true) (ha : SE F a ma) (hb : SE F b mb) : SE F (.Call (.Name x p) [a, b] [] pos) (.dvm ma mb) := by
  intro c d FO hg hsc ok rm l hp Q X hev fr s P E R hP hX
  subst hxe
  refine Call_ (nameB FO hg hsc ok hx (v := .builtin "divmod") boot_divmod hk (by decide) (by decide) R ?_) rfl
  refine PyProof.Rows.callWith_builtin1 ?_ (starEach_cons hn) (by rw [starEach_cons hn2]; rfl)
  refine spliced_more (ha c d FO hg hsc ok rm l hp _ X hev fr s _ E R (fun v y h1 hh tk hq hy R1 => ?_) hX) (starEach_cons hn)
  refine spliced_more (hb c d FO hg hsc ok rm l h1 _ X hq fr _ _ E R1 (fun w z h2 hh2 tk2 hq2 hz R2 => ?_) hX) (starEach_cons hn2)
  refine spliced_none ?_
  split at hq2
  · obtain ⟨t, rfl⟩ := absV_int hy
    obtain ⟨u, rfl⟩ := absV_int hz
    obtain ⟨g, m, news, T, Fm, lo, H, N, D⟩ := R2.parts
    obtain ⟨f1, f2⟩ := R2.fresh ok
    refine divmod_N Fm N hq2.1 (fun h' F' N' => hP _ _ _ h' _ (hq2.2 _ f1) rfl ?_) (.inr (pylong ok rm R2))
    exact Rep.more T F' lo H N' D f1 f2 ⟨_, _, rfl, rfl⟩
  · exact hq2.elim
theorem se_strOf {x : Str} {p pos : Pos} {a : Expr} {ma : ME} (hxe : x = "str") (hx : x ∈ F.bt) (hk : F.sc.names.lookup x = some .globalImplicit) (hn : notStar a = true) (ha : SE F a ma) : SE F (.Call (.Name x p) [a] [] pos) (.strOf ma) := by
  intro c d FO hg hsc ok rm l hp Q X hev fr s P E R hP hX
  subst hxe
  refine Call_ (nameB FO hg hsc ok hx (v := .type "str") boot_str hk (by decide) (by decide) R ?_) rfl
  refine PyProof.Rows.callWith_type1 ?_ (starEach_cons hn) rfl
  refine spliced_more (ha c d FO hg hsc ok rm l hp _ X hev fr s _ E R (fun v y h1 hh tk hq hy R1 => ?_) hX) (starEach_cons hn)
  refine spliced_none ?_
  split at hq
  · obtain ⟨t, rfl⟩ := absV_int hy
    obtain ⟨g, T, m, Fm, lo, H, N, D⟩ := id R1
    refine str_of_int_or (handled_none ok) (Heap.NoDigits.keeps ok.top.nodigits (R1.keep ok)) (fun _ => ?_) (fun h => ?_)
    · exact hP _ _ h1 _ _ hq.2 rfl R1
    · exfalso; generalize 10 ^ 4300 = z at h hq; exact absurd hq.1 (Nat.not_lt.mpr h)
  · exact hq.elim
theorem ss_stop {st : Stmt} : SS F st .stop := fun _ _ _ _ _ _ _ _ _ _ _ h => h.elim
theorem ss_expr {e : Expr} {pos : Pos} {m : ME} (hc : compE e = false) (he : SE F e m) : SS F (.Expr e pos) (.expr m) := by
  intro c d FO hg hsc ok rm l hp Q X hev hcp fr s P E R hP hX
  have hi : interactive c.env = false := by
    unfold interactive
    rw [show c.env.scope.kind = .function by rw [c.env_scope]; exact ok.kind]; rfl
  exact wpAny_Expr_any (he c d FO hg hsc ok rm l hp _ X hev fr s _ E R (fun v y h1 hh tk hq hy R1 => hP .next .next l h1 hh tk hq trivial R1) (hX l)) hi (swaps_plain hc _ _ _)
end
/-! comprehensions -/
noncomputable def cellA : V → Addr
  | .cell a => a
  | _ => 0
theorem cellsB_get {l : List V} : ∀ {is : List Nat}, cellsB l is = true → ∀ i ∈ is, lget l i = .cell (cellA (lget l i))
  | [], _, i, h => by cases h
  | j :: r, hc, i, h => by
    simp only [cellsB, Bool.and_eq_true] at hc
    rcases List.mem_cons.mp h with rfl | h
    · have h1 := hc.1
      revert h1
      cases lget l i <;> intro h1 <;> first | rfl | cases h1
    · exact cellsB_get hc.2 i h
theorem closure_list {env : Env} (look : Str → Addr) : ∀ (ns : List (Str × NameKind)) (cs : List (Str × Addr)), (∀ y ∈ ns, y.2 = .free → env.cells.lookup y.1 = some (look y.1)) →
    (ForIn.forIn ns cs (fun x r => if (x.2 == NameKind.free) = true then (do let a ← cellOf env x.1; pure (ForInStep.yield ((x.1, a) :: r))) else pure (ForInStep.yield r)) : Sem (List (Str × Addr))) =
      pure (((ns.filter (·.2 == .free)).map fun y => (y.1, look y.1)).reverse ++ cs)
  | [], cs, _ => rfl
  | (n, k) :: r, cs, h => by
    rw [List.forIn_cons]
    cases hk : (k == NameKind.free) with
    | false =>
      have ih := closure_list look r cs fun y hy => h y (.tail _ hy)
      simp only [hk, Bool.false_eq_true, if_false, pure_bind, List.filter_cons]
      exact ih
    | true =>
      have e := h (n, k) (.head _) (beq_iff_eq.mp hk)
      have ih := closure_list look r ((n, look n) :: cs) fun y hy => h y (.tail _ hy)
      have ec : cellOf env n = pure (look n) := by unfold cellOf; rw [e]
      simp only [hk, if_true, ec, pure_bind, List.filter_cons, List.map_cons, List.reverse_cons, List.append_assoc, List.singleton_append]
      exact ih
theorem closureFor_list {scope : Scope} {env : Env} (look : Str → Addr) (h : ∀ y ∈ scope.names, y.2 = .free → env.cells.lookup y.1 = some (look y.1)) :
    closureFor scope env = pure ((scope.names.filter (·.2 == .free)).map fun y => (y.1, look y.1)).reverse := by
  have := closure_list look scope.names [] h
  rw [List.append_nil] at this
  unfold closureFor
  rw [← this, bind_pure]
/-- what a comprehension's scope must be -/
structure CompOk (F : Fx) (scope : Scope) (x : Str) (xs : List Str) (is : List Nat) : Prop where
  kind : scope.kind = .function
  cell : ∀ y ∈ scope.names, y.2 ≠ .cell
  names : ∀ y ∈ scope.names, y.2 = .local → scope.names.lookup y.1 = some .local
  tgt : scope.names.lookup x = some .local
  free : (scope.names.filter (·.2 == .free)).map (·.1) = xs
  len : xs.length = is.length
  idx : ∀ p ∈ xs.zip is, F.names[p.2]? = some p.1
  nd : (x :: xs).Nodup
/-- the scope as it is relabelled -/
noncomputable def relabelS (scope sc : Scope) : Scope := relabel scope (envX (Str.ofString "") sc 0 0 .none [])
noncomputable abbrev Fx.inner (F : Fx) (scope : Scope) (names : List Str) : Fx := ⟨F.g, F.gt, F.bt, names, relabelS scope F.sc, false, false⟩
theorem Fx.Ok.inner {F : Fx} (FO : F.Ok) {scope : Scope} {names : List Str} (nd : names.Nodup) : (F.inner scope names).Ok := ⟨FO.gt, FO.bt, nd, fun e => (nomatch e)⟩
/-- the place that a comprehension puts over the frame c -/
noncomputable abbrev Cx.within (c : Cx) (C : Addr) (scope : Scope) (kcl : List (Str × Addr)) (names : List Str) (l : List V) : Cx := { c with cp := some ⟨C, scope, kcl, names, l⟩ }
theorem Rep.inner {c : Cx} (hcp : c.cp = none) {names names' : List Str} {l l' : List V} {hp : HP} {fr : List (Addr × Obj)} {h : Heap} {C : Addr} {scope : Scope} {kcl : List (Str × Addr)} {oC : Obj} {m₂ : Str → Option Value}
    (R : Rep c names l hp fr h) (hm : (C, oC) ∈ fr) (ho : NsObj oC m₂) (lo' : Loc kcl names' l' m₂) : Rep (c.within C scope kcl names l) names' l' hp fr h := by
  obtain ⟨g, T, m, Fm, lo, H, N, D⟩ := R
  exact ⟨g, T, m, Fm, ⟨(LocX.plain (c := c.at g) hcp).mp lo, oC, m₂, hm, ho, lo'⟩, H, N, D⟩
theorem Rep.outer {c : Cx} (hcp : c.cp = none) {names names' : List Str} {l l' : List V} {hp : HP} {fr : List (Addr × Obj)} {h : Heap} {C : Addr} {scope : Scope} {kcl : List (Str × Addr)}
    (R : Rep (c.within C scope kcl names l) names' l' hp fr h) : Rep c names l hp fr h := by
  obtain ⟨g, T, m, Fm, lo, H, N, D⟩ := R
  exact ⟨g, T, m, Fm, (LocX.plain (c := c.at g) hcp).mpr lo.1, H, N, D⟩
theorem Rep.perm {c : Cx} (hcp : c.cp = none) {names : List Str} {l : List V} {hp : HP} {fr fr' : List (Addr × Obj)} {h : Heap} (R : Rep c names l hp fr h) (hs : ∀ p ∈ fr', p ∈ fr) : Rep c names l hp fr' h := by
  obtain ⟨g, T, m, Fm, lo, H, N, D⟩ := R
  exact ⟨g, T, m, Fm, lo.any hcp, H, fun p hp' => N p (hs p hp'), fun p hp' => D p (hs p hp')⟩
theorem Rep.adopt {c : Cx} (hcp : c.cp = none) {names : List Str} {l : List V} {hp : HP} {fr : List (Addr × Obj)} {h : Heap} {r : Addr} {ob : Obj} {o : O} (R : Rep c names l hp ((r, ob) :: fr) h) (hf : ∀ p ∈ fr, p.1 ≠ r) (ho : RepO o ob) : Rep c names l (hset hp r o) fr h := by
  obtain ⟨g, m, news, T, Fm, lo, H, N, D⟩ := R.parts
  refine Rep.more (news := news) T Fm (lo.any hcp) H (fun p hp' => N p ?_) (fun p hp' => D p (.tail _ hp')) (D _ (.head _)) hf ho
  rcases List.mem_cons.mp hp' with rfl | q
  · exact List.mem_append_right _ (.head _)
  · rcases List.mem_append.mp q with q | q
    · exact List.mem_append_left _ q
    · exact List.mem_append_right _ (.tail _ q)
/-- the tests of a comprehension -/
noncomputable def STs (F : Fx) (es : List Expr) (m : ME) : Prop := ∀ c d, F.Ok → c.g = F.g → SCF c F → c.Ok → room c d → ∀ l hp Q X, evT F.g d m l hp Q X →
  W rB c F.names l (ForIn.forIn es true fun e r => if r = true then (do let ok ← isTrue e c.env (eval e c.env); pure (ForInStep.yield ok)) else pure (ForInStep.yield r)) hp Q X
theorem sts_nil {F : Fx} : STs F [] (.tv (.bool true)) := by
  intro c d FO hg hsc ok rm l hp Q X hev fr s P E R hP hX
  exact wpAny_tests_nil (hP true true hp s.heap s.toks hev rfl R)
theorem sts_one {F : Fx} {e : Expr} {m : ME} (h : ST F e m) : STs F [e] m := by
  intro c d FO hg hsc ok rm l hp Q X hev fr s P E R hP hX
  exact wpAny_tests_one (h c d FO hg hsc ok rm l hp Q X hev _ rfl fr s _ E R hP hX)
theorem caps_get {l : List V} : ∀ {is : List Nat} {j : Nat} {i : Nat}, is[j]? = some i → (capsV l is)[j]? = some (lget l i)
  | [], _, _, h => by simp at h
  | _ :: _, 0, _, h => by simp at h; subst h; rfl
  | _ :: r, j + 1, _, h => by simp only [List.getElem?_cons_succ] at h; simpa [capsV] using caps_get (is := r) h
noncomputable def lookOf (l : List V) (xs : List Str) (is : List Nat) (y : Str) : Addr := match (xs.zip is).lookup y with
  | some i => cellA (lget l i)
  | none => 0
theorem zip_lookup : ∀ {xs : List Str} {is : List Nat} {y : Str}, xs.length = is.length → y ∈ xs → ∃ i, (xs.zip is).lookup y = some i ∧ (y, i) ∈ xs.zip is
  | [], _, _, _, h => by cases h
  | x :: r, [], _, hl, _ => by simp at hl
  | x :: r, i :: is, y, hl, h => by
    cases e : y == x with
    | true => exact ⟨i, by simp [List.lookup_cons, e], by rw [beq_iff_eq.mp e]; exact .head _⟩
    | false =>
      have hne : y ≠ x := by simpa using e
      obtain ⟨j, a, b⟩ := zip_lookup (xs := r) (is := is) (by simpa using hl) ((List.mem_cons.mp h).resolve_left hne)
      exact ⟨j, by simp [List.lookup_cons, e, a], .tail _ b⟩
theorem zip_lookup_get : ∀ {xs : List Str} {is : List Nat} {y : Str} {j i : Nat}, xs.Nodup → xs[j]? = some y → is[j]? = some i → (xs.zip is).lookup y = some i
  | [], _, _, _, _, _, h, _ => by simp at h
  | _ :: _, [], _, _, _, _, _, h => by simp at h
  | x :: r, k :: is, y, 0, i, _, h, h' => by simp at h h'; subst h h'; simp
  | x :: r, k :: is, y, j + 1, i, nd, h, h' => by
    simp only [List.getElem?_cons_succ] at h h'
    have hm : y ∈ r := List.mem_of_getElem? h
    have hne : y ≠ x := fun e => (List.nodup_cons.mp nd).1 (e ▸ hm)
    simp only [List.zip_cons_cons, List.lookup_cons, beq_eq_false_iff_ne.mpr hne]
    exact zip_lookup_get (List.nodup_cons.mp nd).2 h h'
noncomputable abbrev kclOf (scope : Scope) (look : Str → Addr) : List (Str × Addr) := ((scope.names.filter (·.2 == .free)).map fun y => (y.1, look y.1)).reverse
theorem kcl_lookup {look : Str → Addr} : ∀ {ns : List (Str × NameKind)} {y : Str}, (ns.map (·.1)).Nodup → y ∈ ns.map (·.1) → ((ns.map fun y => (y.1, look y.1)).reverse).lookup y = some (look y) := by
  intro ns y nd hy
  have key : ∀ (ps : List (Str × Addr)), (∀ p ∈ ps, p.2 = look p.1) → y ∈ ps.map (·.1) → ps.lookup y = some (look y) := by
    intro ps
    induction ps with
    | nil => intro _ h; cases h
    | cons p r ih =>
      intro hp h
      cases e : y == p.1 with
      | true =>
        have := hp p (.head _)
        obtain ⟨a, b⟩ := p
        simp only at e this
        rw [beq_iff_eq.mp e] at *
        simp [List.lookup_cons, this]
      | false =>
        have hne : y ≠ p.1 := by simpa using e
        obtain ⟨a, b⟩ := p
        simp only at e hne
        simp only [List.lookup_cons, e]
        exact ih (fun q hq => hp q (.tail _ hq)) ((List.mem_cons.mp h).resolve_left hne)
  refine key _ (fun p hp => ?_) ?_
  · obtain ⟨q, _, rfl⟩ := List.mem_map.mp (List.mem_reverse.mp hp)
    rfl
  · rw [List.map_reverse, List.mem_reverse, List.map_map]
    exact hy
section
variable {F : Fx}
theorem comp_look {c : Cx} {x : Str} {xs : List Str} {is : List Nat} {scope : Scope} (co : CompOk F scope x xs is) {l : List V} {hp : HP} {fr : List (Addr × Obj)} {h : Heap} (R : Rep c F.names l hp fr h) (hcells : cellsB l is = true) :
    ∀ y ∈ scope.names, y.2 = .free → c.env.cells.lookup y.1 = some (lookOf l xs is y.1) := by
  intro y hy hk
  have hm : y.1 ∈ xs := by
    rw [← co.free]
    exact List.mem_map_of_mem (f := (·.1)) ((List.mem_filter (p := fun z : Str × NameKind => z.2 == .free)).mpr ⟨hy, by simp [hk]⟩)
  obtain ⟨i, h1, h2⟩ := zip_lookup co.len hm
  have h3 := co.idx _ h2
  have h4 := cellsB_get hcells i (List.of_mem_zip h2).2
  have := R.cellOf h3 h4
  unfold lookOf
  rw [h1]; exact this
theorem comp_loc {x : Str} {xs : List Str} {is : List Nat} {scope : Scope} (co : CompOk F scope x xs is) {l : List V} (hcells : cellsB l is = true) {m₂ : Str → Option Value} {v : V} {val : Value} (hx : m₂ x = some val) (hv : absV val = v) :
    Loc (kclOf scope (lookOf l xs is)) (x :: xs) (v :: capsV l is) m₂ := by
  intro j y w hy hw hn
  cases j with
  | zero =>
    simp at hy hw
    subst hy hw
    exact .inr ⟨fun a e => absV_cell (hv.trans e), val, hx, hv⟩
  | succ j =>
    simp only [List.getElem?_cons_succ] at hy hw
    have hj : j < is.length := by
      rw [← co.len]
      exact (List.getElem?_eq_some_iff.mp hy).1
    have hi : is[j]? = some is[j] := by simp [hj]
    rw [caps_get hi] at hw
    have hw : lget l is[j] = w := Option.some.inj hw
    have hc := cellsB_get hcells is[j] (List.getElem_mem hj)
    refine .inl ⟨cellA (lget l is[j]), by rw [← hw]; exact hc, ?_⟩
    have nd : xs.Nodup := (List.nodup_cons.mp co.nd).2
    have h1 := zip_lookup_get nd hy hi
    have : lookOf l xs is y = cellA (lget l is[j]) := by unfold lookOf; rw [h1]
    rw [← this]
    exact kcl_lookup (by rw [co.free]; exact nd) (by rw [co.free]; exact List.mem_of_getElem? hy)
theorem compG {c : Cx} {d : Nat} (FO : F.Ok) (hg : c.g = F.g) (hsc : SCF c F) (ok : c.Ok) (hcp : c.cp = none) (rm : room c d)
    {x : Str} {xs : List Str} {is : List Nat} {scope : Scope} (co : CompOk F scope x xs is) {px pos : Pos} {ifs : List Expr} {iter elt : Expr} {mc me : ME}
    (hc : STs (F.inner scope (x :: xs)) ifs mc) (he : SE (F.inner scope (x :: xs)) elt me)
    {vs : List V} {K : HP → Prop} {Q : V → HP → Prop} {l : List V} {hp : HP} {fr : List (Addr × Obj)} {s : Shared} {it : Addr} (ItObj : Nat → Obj → Prop)
    (again : ∀ o (s' : Shared) (P : Value → Shared → Prop) (E : Value → Shared → Prop), ItObj 0 o → s'.heap.get? it = some o → P (.ref it) s' → wpAny (model c.g.prog c.g.w) c.A (pyIter (.ref it)) P E s')
    (next : ∀ k l hp o h (s' : Shared) (fr : List (Addr × Obj)) (P : Option Value → Shared → Prop) (E : Value → Shared → Prop), K hp → ItObj k o → s'.heap = h → Rep c F.names l hp ((it, o) :: fr) h → (∀ p ∈ fr, p.1 ≠ it) →
      (∀ val v h' tk' o', vs[k]? = some v → absV val = v → ItObj (k + 1) o' → Rep c F.names l hp ((it, o') :: fr) h' → P (some val) { s' with heap := h', toks := tk' }) →
      (k = vs.length → ∀ h' tk', Rep c F.names l hp fr h' → P Option.none { s' with heap := h', toks := tk' }) → k ≤ vs.length → wpAny (model c.g.prog c.g.w) c.A (pyNext (.ref it)) P E s')
    {o₀ : Obj} (h0 : ItObj 0 o₀) (R0 : Rep c F.names l hp ((it, o₀) :: fr) s.heap) (hfr : ∀ p ∈ fr, p.1 ≠ it) (hcells : cellsB l is = true)
    (hK : compI (fun l h R => evT F.g d mc l h R fun _ _ => False) (fun l h R => ev F.g d me l h R fun _ _ => False) (fun v R _ => R (v :: capsV l is)) vs hp K Q)
    {E : Value → Shared → Prop} {RR : Value → Addr → Result → Shared → Prop}
    (hRR : ∀ D C oC m₂ hp' h' tk', Q (.ref D) hp' → NsObj oC m₂ → Rep c F.names l hp' ((C, oC) :: fr) h' → (∀ p ∈ fr, p.1 ≠ C) → RR (.ref D) C (.ok .next) { s with heap := h', toks := tk' }) :
    wpAny (model c.g.prog c.g.w) c.A (newList []) (fun acc s₃ => wpAny (model c.g.prog c.g.w) c.A (newFunctionEnv scope c.env.globals (kclOf scope (lookOf l xs is)) [] c.env.qual none .none (some c.env)) (fun cenv s₄ =>
      codeAny (model c.g.prog c.g.w) c.A (.compStart (.ListComp elt [⟨.Name x px, iter, ifs, 0⟩] scope pos) 0 (.ref it) acc { cenv with scope := relabel scope c.env }) (RR acc cenv.locals) s₄) E s₃) E s := by
  obtain ⟨I, hI0, step, fin⟩ := hK
  rw [c.env_plain hcp]
  refine wpAny_newObj_type (wpAny_newFunctionEnv co.cell (by intro y hy; simp at hy) (fun h₁ hns₁ hsb₁ => ?_) co.kind)
  dsimp only at hns₁ hsb₁ ⊢
  have R1 := R0.push ok { cls := .type "list", dict := none, data := .seq ([] : List Value).toArray } rfl
  have f1 := (R0.fresh ok).2
  have R2 := R1.push ok { cls := .type "dict", data := .dict #[] } rfl
  have f2 := (R1.fresh ok).2
  generalize hD : s.heap.objs.size = D at *
  generalize hH : s.heap.push { cls := .type "list", dict := none, data := .seq ([] : List Value).toArray } = H2 at *
  generalize hC : H2.objs.size = C at *
  have hDC : D ≠ C := f2 (D, _) (.head _)
  have hIC : it ≠ C := f2 (it, o₀) (.tail _ (.head _))
  have hID : it ≠ D := f1 (it, o₀) (.head _)
  have hfC : ∀ p ∈ fr, p.1 ≠ C := fun p hp' => f2 p (.tail _ (.tail _ hp'))
  have hfD : ∀ p ∈ fr, p.1 ≠ D := fun p hp' => f1 p (.tail _ hp')
  obtain ⟨oC, es, ep, hoC, hd0, hk0, hr0⟩ := id hns₁
  have R3 := R2.iter (noC hcp) (fun b ob hne e => (hsb₁.2 b hne).trans e) hoC f2
  have R4 : Rep c F.names l hp ((it, o₀) :: (C, oC) :: (D, listOf #[] 0) :: fr) h₁ := R3.perm hcp (by
    intro p hp'
    simp only [List.mem_cons] at hp' ⊢
    rcases hp' with rfl | rfl | rfl | hp'
    · exact .inr (.inr (.inl rfl))
    · exact .inl rfl
    · exact .inr (.inl rfl)
    · exact .inr (.inr (.inr hp')))
  have offI : ∀ (oC : Obj) (its : Array Value) (n : Nat), ∀ p ∈ (C, oC) :: (D, listOf its n) :: fr, p.1 ≠ it := by
    intro oC its n p hp'
    rcases List.mem_cons.mp hp' with rfl | hp'
    · exact Ne.symm hIC
    · rcases List.mem_cons.mp hp' with rfl | hp'
      · exact Ne.symm hID
      · exact hfr p hp'
  have loop : ∀ s₃ : Shared, s₃ = { s with heap := h₁, toks := s.toks + ([] : List (Str × Value)).length } →
      codeAny (model c.g.prog c.g.w) c.A (.compLoop (.ListComp elt [⟨.Name x px, iter, ifs, 0⟩] scope pos) 0 (.ref it) (.ref D) (compEnvC scope (kclOf scope (lookOf l xs is)) C c.fenv))
        (RR (.ref D) C) s₃ := by
    rintro s₃ rfl
    refine codeAny_compLoop_tests (fun n s' => ∃ k hp' oI oC m₂ its cnt h' tk, n = vs.length + 1 - k ∧ k ≤ vs.length ∧ I k (its.toList.map absV) hp' ∧ ItObj k oI ∧ NsObj oC m₂ ∧
      Rep c F.names l hp' ((it, oI) :: (C, oC) :: (D, listOf its cnt) :: fr) h' ∧ s' = { s with heap := h', toks := tk }) ?_ _ ⟨0, hp, o₀, oC, _, #[], 0, h₁, _, rfl, Nat.zero_le _, hI0, h0, ⟨es, ep, hd0, hk0, hr0⟩, R4, rfl⟩
    rintro n s' ⟨k, hp1, oI, oC1, m₂, its, cnt, hh1, tk1, rfl, hk1, hI, hO, hNs, R5, rfl⟩
    have hKh : K hp1 := by
      by_cases hlt : k < vs.length
      · exact (step k vs[k] _ hp1 (by simp [hlt]) hI).1
      · have : k = vs.length := by omega
        subst this
        exact (fin _ hp1 hI).1
    refine next k l hp1 oI hh1 _ _ _ _ hKh hO rfl R5 (offI _ _ _) (fun val v h' tk' o' hv hval hO' R6 => ?_) (fun hkl h' tk' R6 => ?_) hk1
    · dsimp only
      have hlt : k < vs.length := by
        rcases Nat.lt_or_ge k vs.length with h | h
        · exact h
        · rw [List.getElem?_eq_none h] at hv; cases hv
      obtain ⟨_, hlen, hev⟩ := step k v _ hp1 hv hI
      have hgC : h'.get? C = some oC1 := by obtain ⟨_, _, _, _, _, _, N, _⟩ := id R6; exact (N _ (.tail _ (.head _))).1
      obtain ⟨es1, ep1, hd1, hk1', hr1⟩ := hNs
      refine wpAny_assign_Name (wpAny_storeName_local (m := m₂) (lookup_relabel_local co.tgt) ⟨oC1, es1, ep1, hgC, hd1, hk1', hr1⟩ (fun h3 hn3 hs3 => ?_) (by simp [compEnvC, relabel, co.kind]))
      obtain ⟨oC2, es2, ep2, hoC2, hd2, hk2, hr2⟩ := id hn3
      have R7 : Rep c F.names l hp1 ((C, oC1) :: (it, o') :: (D, listOf its cnt) :: fr) h' := R6.perm hcp (by
        intro p hp'
        simp only [List.mem_cons] at hp' ⊢
        rcases hp' with rfl | rfl | hp'
        · exact .inr (.inl rfl)
        · exact .inl rfl
        · exact .inr (.inr hp'))
      have offC : ∀ (o' : Obj) (its : Array Value) (n : Nat), ∀ p ∈ (it, o') :: (D, listOf its n) :: fr, p.1 ≠ C := by
        intro o' its n p hp'
        rcases List.mem_cons.mp hp' with rfl | hp'
        · exact hIC
        · rcases List.mem_cons.mp hp' with rfl | hp'
          · exact hDC
          · exact hfC p hp'
      have R8 := R7.iter (noC hcp) (fun b ob hne e => (hs3.2 b hne).trans e) hoC2 (offC _ _ _)
      have hNs2 : NsObj oC2 (fun y => if y = x then some val else m₂ y) := ⟨es2, ep2, hd2, hk2, hr2⟩
      have lo2 := comp_loc co hcells (m₂ := fun y => if y = x then some val else m₂ y) (v := v) (val := val) (by simp) hval
      have RI := R8.inner (scope := scope) hcp (.head _) hNs2 lo2
      have hsc' : SCF (c.within C scope (kclOf scope (lookOf l xs is)) F.names l) (F.inner scope (x :: xs)) := by
        refine ⟨?_, fun e => (nomatch e), fun e => (nomatch e)⟩
        have : c.fsc = F.sc := (c.sc_plain hcp).symm.trans hsc.1
        show relabel scope c.fenv = relabelS scope F.sc
        rw [← this]; rfl
      have ok' : (c.within C scope (kclOf scope (lookOf l xs is)) F.names l).Ok := ⟨ok.below, ok.inK, ok.top, ok.dicts, co.kind, ok.fkind, ok.gen, ok.cor, ok.hd, ok.seer, ok.tree⟩
      refine hc (c.within C scope (kclOf scope (lookOf l xs is)) F.names l) d (FO.inner co.nd) hg hsc' ok' rm _ hp1 _ _ hev _ _ _ _ RI (fun b b' hp2 h4 tk4 hq4 hb4 R9 => ?_) (fun _ _ _ _ _ hx => hx.elim)
      cases hb4
      dsimp only
      cases b with
      | false =>
        rw [if_neg (by decide)]
        refine ⟨vs.length + 1 - (k + 1), by omega, k + 1, hp2, o', oC2, _, its, cnt, h4, tk4, rfl, by omega, hq4.2 rfl, hO', hNs2, (R9.outer hcp).perm hcp (by
          intro p hp'
          simp only [List.mem_cons] at hp' ⊢
          rcases hp' with rfl | rfl | hp'
          · exact .inr (.inl rfl)
          · exact .inl rfl
          · exact .inr (.inr hp')), rfl⟩
      | true =>
        rw [if_pos rfl]
        refine he (c.within C scope (kclOf scope (lookOf l xs is)) F.names l) d (FO.inner co.nd) hg hsc' ok' rm _ hp2 _ _ (hq4.1 rfl) _ _ _ _ R9 (fun w y hp3 h5 tk5 hq5 hy R10 => ?_) (fun _ _ _ _ _ hx => hx.elim)
        have R11 : Rep c F.names l hp3 ((D, listOf its cnt) :: (C, oC2) :: (it, o') :: fr) h5 := (R10.outer hcp).perm hcp (by
          intro p hp'
          simp only [List.mem_cons] at hp' ⊢
          rcases hp' with rfl | rfl | rfl | hp'
          · exact .inr (.inr (.inl rfl))
          · exact .inl rfl
          · exact .inr (.inl rfl)
          · exact .inr (.inr (.inr hp')))
        have hgD : h5.get? D = some (listOf its cnt) := by obtain ⟨_, _, _, _, _, _, N, _⟩ := id R11; exact (N _ (.head _)).1
        refine append_at hgD (fun h6 hs6 ho6 => ?_) (by simpa using hlen)
        have offD : ∀ p ∈ (C, oC2) :: (it, o') :: fr, p.1 ≠ D := by
          intro p hp'
          rcases List.mem_cons.mp hp' with rfl | hp'
          · exact Ne.symm hDC
          · rcases List.mem_cons.mp hp' with rfl | hp'
            · exact hID
            · exact hfD p hp'
        have R12 := R11.iter (noC hcp) (fun b ob hne e => (hs6.2 b hne).trans e) ho6 offD
        refine ⟨vs.length + 1 - (k + 1), by omega, k + 1, hp3, o', oC2, _, its.push y, cnt + 1, h6, tk5, rfl, by omega, ?_, hO', hNs2, R12.perm hcp (by
          intro p hp'
          simp only [List.mem_cons] at hp' ⊢
          rcases hp' with rfl | rfl | rfl | hp'
          · exact .inr (.inr (.inl rfl))
          · exact .inr (.inl rfl)
          · exact .inl rfl
          · exact .inr (.inr (.inr hp'))), rfl⟩
        have : (its.push y).toList.map absV = its.toList.map absV ++ [w] := by cases hy; simp
        rw [this]; exact hq5
    · dsimp only
      subst hkl
      have R7 : Rep c F.names l hp1 ((D, listOf its cnt) :: (C, oC1) :: fr) h' := R6.perm hcp (by
        intro p hp'
        simp only [List.mem_cons] at hp' ⊢
        rcases hp' with rfl | rfl | hp'
        · exact .inr (.inl rfl)
        · exact .inl rfl
        · exact .inr (.inr hp'))
      have R8 := Rep.adopt (o := .list (its.toList.map absV)) hcp R7 (by
        intro p hp'
        rcases List.mem_cons.mp hp' with rfl | hp'
        · exact Ne.symm hDC
        · exact hfD p hp') ⟨its, cnt, rfl, rfl⟩
      have hDn : hp1 D = none := by obtain ⟨_, _, _, _, _, _, _, D'⟩ := id R7; exact D' _ (.head _)
      exact hRR D C oC1 m₂ _ h' _ ((fin _ hp1 hI).2 D hDn) hNs R8 hfC
  have st : ∀ s₃ : Shared, s₃ = { s with heap := h₁, toks := s.toks + ([] : List (Str × Value)).length } → s₃.heap.get? it = some o₀ := by
    rintro s₃ rfl
    obtain ⟨_, _, _, _, _, _, N, _⟩ := R4
    exact (N _ (.head _)).1
  exact codeAny_compStart_list (loop _ rfl) (again o₀ _ _ _ h0 (st _ rfl) (loop _ rfl))
end
section
variable {F : Fx}
theorem comp_eval {c : Cx} {x : Str} {xs : List Str} {is : List Nat} {scope : Scope} (co : CompOk F scope x xs is) {px pos : Pos} {ifs : List Expr} {iter elt : Expr} {l : List V} {hp : HP} {fr : List (Addr × Obj)} {s : Shared}
    (R : Rep c F.names l hp fr s.heap) (hs : ∀ v, foldedSetIterable iter c.env v = pure v) (hcells : cellsB l is = true) {P E : Value → Shared → Prop}
    (h : wpAny (model c.g.prog c.g.w) c.A (eval iter c.env) (fun xv s₁ => wpAny (model c.g.prog c.g.w) c.A (pyIter xv) (fun it s₂ => wpAny (model c.g.prog c.g.w) c.A (newList []) (fun acc s₃ =>
      wpAny (model c.g.prog c.g.w) c.A (newFunctionEnv scope c.env.globals (kclOf scope (lookOf l xs is)) [] c.env.qual none .none (some c.env)) (fun cenv s₄ =>
      codeAny (model c.g.prog c.g.w) c.A (.compStart (.ListComp elt [⟨.Name x px, iter, ifs, 0⟩] scope pos) 0 it acc { cenv with scope := relabel scope c.env }) (compPost (model c.g.prog c.g.w) c.A E none P acc cenv.locals) s₄) E s₃) E s₂) E s₁) E s) :
    wpAny (model c.g.prog c.g.w) c.A (eval (.ListComp elt [⟨.Name x px, iter, ifs, 0⟩] scope pos) c.env) P E s := by
  rw [eval_ListComp]
  exact wpAny_comprehension_free (use := none) rfl hs (closureFor_list _ (comp_look co R hcells)) co.kind co.names h
/-- a comprehension run up to its end, whatever is done with its list -/
noncomputable def CompRun (F : Fx) (x : Str) (xs : List Str) (is : List Nat) (scope : Scope) (px pos : Pos) (ifs : List Expr) (iter elt : Expr) (m : ME) : Prop := ∀ c d, F.Ok → c.g = F.g → SCF c F → c.Ok → room c d → c.cp = none → ∀ l hp Q X, ev F.g d m l hp Q X →
  cellsB l is = true ∧ ∀ (fr : List (Addr × Obj)) (s : Shared) (E : Value → Shared → Prop) (RR : Value → Addr → Result → Shared → Prop), Rep c F.names l hp fr s.heap → XP c F.names l fr X E s →
    (∀ D C oC m₂ hp' h' tk', Q (.ref D) hp' → NsObj oC m₂ → Rep c F.names l hp' ((C, oC) :: fr) h' → (∀ p ∈ fr, p.1 ≠ C) → RR (.ref D) C (.ok .next) { s with heap := h', toks := tk' }) →
    wpAny (model c.g.prog c.g.w) c.A (eval iter c.env) (fun xv s₁ => wpAny (model c.g.prog c.g.w) c.A (pyIter xv) (fun it s₂ => wpAny (model c.g.prog c.g.w) c.A (newList []) (fun acc s₃ =>
      wpAny (model c.g.prog c.g.w) c.A (newFunctionEnv scope c.env.globals (kclOf scope (lookOf l xs is)) [] c.env.qual none .none (some c.env)) (fun cenv s₄ =>
      codeAny (model c.g.prog c.g.w) c.A (.compStart (.ListComp elt [⟨.Name x px, iter, ifs, 0⟩] scope pos) 0 it acc { cenv with scope := relabel scope c.env }) (RR acc cenv.locals) s₄) E s₃) E s₂) E s₁) E s
theorem se_comp {x : Str} {xs : List Str} {is : List Nat} {scope : Scope} (co : CompOk F scope x xs is) (ht : F.top = true) {px pos : Pos} {ifs : List Expr} {iter elt : Expr} {m : ME} (hse : ∀ env v, foldedSetIterable iter env v = pure v)
    (h : CompRun F x xs is scope px pos ifs iter elt m) : SE F (.ListComp elt [⟨.Name x px, iter, ifs, 0⟩] scope pos) m := by
  intro c d FO hg hsc ok rm l hp Q X hev fr s P E R hP hX
  have hcp := hsc.2.1 ht
  obtain ⟨hcells, h⟩ := h c d FO hg hsc ok rm hcp l hp Q X hev
  refine comp_eval co R (hse _) hcells (h fr s E _ R hX fun D C oC m₂ hp' h' tk' hq hNs R1 hfC => ?_)
  obtain ⟨es1, ep1, hd1, hk1', hr1⟩ := hNs
  have hgC : h'.get? C = some oC := by obtain ⟨_, _, _, _, _, _, N, _⟩ := id R1; exact (N _ (.head _)).1
  refine ⟨m₂, ⟨oC, es1, ep1, hgC, hd1, hk1', hr1⟩, fun h'' hs'' => ?_⟩
  exact hP (.ref D) (.ref D) _ h'' _ hq rfl (R1.drop (noC hcp) (fun b ob hne e => (hs''.2 b hne).trans e) hfC)
/-- over a list -/
theorem cr_compL {x : Str} {xs : List Str} {is : List Nat} {scope : Scope} (co : CompOk F scope x xs is) {px pos : Pos} {ifs : List Expr} {iter elt : Expr} {mi mc me : ME} (hse : setE iter = false) (hit : SE F iter mi)
    (hc : STs (F.inner scope (x :: xs)) ifs mc) (he : SE (F.inner scope (x :: xs)) elt me) : CompRun F x xs is scope px pos ifs iter elt (.compL mi mc me is) := by
  intro c d FO hg hsc ok rm hcp l hp Q X hev
  obtain ⟨hcells, hev⟩ := hev
  refine ⟨hcells, fun fr s E RR R hX hRR => ?_⟩
  · refine (hit c d FO hg hsc ok rm l hp _ X hev fr s _ E R (fun v y h1 hh tk hq hy R1 => ?_) hX)
    cases v with
    | ref r =>
      cases absV_ref hy
      obtain ⟨vs, e1, hfit, hq⟩ := hq
      obtain ⟨items, hitems, hl⟩ := R1.listI ok e1
      have hex : ∀ h : HP, h r = h1 r → listAt (h r) = some vs := fun h e => by rw [e]; exact e1
      refine wpAny_pyIter_list hl ?_
      refine compG FO hg hsc ok hcp rm co hc he (K := fun h => h r = h1 r) (fun k o => o.cls = .type "list_iterator" ∧ o.data = .fields #[.ref r, .int k 0]) (fun o s' P E ho hg' hP => ?_) ?_ ⟨rfl, rfl⟩ (R1.push ok _ rfl) (R1.fresh ok).2 hcells hq hRR
      · exact wpAny_pyIter_listiter (l := r) (i := 0) ⟨o, hg', ho⟩ hP
      · intro k l1 hp1 o1 h2 s' fr' P1 E1 hKh hO hs R2 hfr hitem hend hkl
        subst hs
        have hIt : s'.heap.IsListIter _ r k := ⟨o1, (by obtain ⟨_, _, _, _, _, _, N, _⟩ := id R2; exact (N _ (.head _)).1), hO⟩
        obtain ⟨items2, hitems2, hl3⟩ := R2.listI ok (hex hp1 hKh)
        have hsz : items2.size = vs.length := by rw [← hitems2]; simp
        by_cases hlt : k < vs.length
        · refine wpAny_pyNext_list_item hIt hl3 (x := items2[k]) (by simp [hsz, hlt]) fun h' hit' hs' => ?_
          obtain ⟨o', ho', hc'⟩ := hit'
          refine hitem _ (absV items2[k]) h' _ o' ?_ rfl hc' (R2.iter (noC hcp) (fun b ob hne e => (hs'.2 b hne).trans e) ho' hfr)
          have e9 : vs[k]? = (items2.toList.map absV)[k]? := by rw [hitems2]
          rw [e9]; simp [hsz, hlt]
        · refine wpAny_pyNext_list_end (handled_none ok) hIt hl3 (by simp [hsz]; omega) fun h' he => ?_
          exact hend (by omega) h' _ (R2.drop (noC hcp) (fun b ob hne e => he b ob hne e) hfr)
    | _ => exact hq.elim
theorem comp_range {c : Cx} {d : Nat} (FO : F.Ok) (hg : c.g = F.g) (hsc : SCF c F) (ok : c.Ok) (hcp : c.cp = none) (rm : room c d)
    {x : Str} {xs : List Str} {is : List Nat} {scope : Scope} (co : CompOk F scope x xs is) {px pos : Pos} {ifs : List Expr} {iter elt : Expr} {mc me : ME}
    (hc : STs (F.inner scope (x :: xs)) ifs mc) (he : SE (F.inner scope (x :: xs)) elt me) {Q : V → HP → Prop} {l : List V} {hp : HP} {fr : List (Addr × Obj)} {s : Shared}
    {lo hi' st : Int} {r : Addr} {t u v : Tok} (hsm : Builtin.Range.small lo hi' st = true) (R : Rep c F.names l hp fr s.heap) (hr : IsRange s.heap r lo hi' st t u v) (hcells : cellsB l is = true)
    (hK : compI (fun l h R => evT F.g d mc l h R fun _ _ => False) (fun l h R => ev F.g d me l h R fun _ _ => False) (fun v R _ => R (v :: capsV l is)) ((List.range (Builtin.Range.rangeSize lo hi' st).toNat).map fun (k : Nat) => V.int (lo + k * st)) hp (fun _ => True) Q)
    {E : Value → Shared → Prop} {RR : Value → Addr → Result → Shared → Prop}
    (hRR : ∀ D C oC m₂ hp' h' tk', Q (.ref D) hp' → NsObj oC m₂ → Rep c F.names l hp' ((C, oC) :: fr) h' → (∀ p ∈ fr, p.1 ≠ C) → RR (.ref D) C (.ok .next) { s with heap := h', toks := tk' }) :
    wpAny (model c.g.prog c.g.w) c.A (pyIter (.ref r)) (fun it s₂ => wpAny (model c.g.prog c.g.w) c.A (newList []) (fun acc s₃ =>
      wpAny (model c.g.prog c.g.w) c.A (newFunctionEnv scope c.env.globals (kclOf scope (lookOf l xs is)) [] c.env.qual none .none (some c.env)) (fun cenv s₄ =>
      codeAny (model c.g.prog c.g.w) c.A (.compStart (.ListComp elt [⟨.Name x px, iter, ifs, 0⟩] scope pos) 0 it acc { cenv with scope := relabel scope c.env }) (RR acc cenv.locals) s₄) E s₃) E s₂) E s := by
  refine wpAny_pyIter_range hr hsm ?_
  have R0 := R.push ok { cls := Value.type "range_iterator", data := Data.fields #[rawInt lo, rawInt (Builtin.Range.rangeSize lo hi' st), rawInt st] } rfl
  have hsz : 0 ≤ Builtin.Range.rangeSize lo hi' st := by
    unfold Builtin.Range.rangeSize
    split <;> split <;> first | omega | skip
    · exact Int.add_nonneg (Int.ediv_nonneg (by omega) (by omega)) (by omega)
    · rename_i h1 h2
      by_cases hz : st = 0
      · subst hz; simp
      · exact Int.add_nonneg (Int.ediv_nonneg (by omega) (by omega)) (by omega)
  refine compG FO hg hsc ok hcp rm co hc he (K := fun _ => True) (fun k o => o = { cls := Value.type "range_iterator", data := Data.fields #[rawInt (lo + k * st), rawInt (Builtin.Range.rangeSize lo hi' st - k), rawInt st] }) (fun o s' P E ho hg' hP => ?_) ?_ ?_ R0 (R.fresh ok).2 hcells hK hRR
  · subst ho
    exact wpAny_pyIter_rangeiter hg' hP
  · intro k l1 hp1 o1 h1 s' fr' P1 E1 _ hO hs R1 hfr hitem hend hkl
    subst hO
    subst hs
    simp only [List.length_map, List.length_range] at hkl hend
    obtain ⟨g, T, m1, Fm, lo1, H, N, D⟩ := id R1
    have hit := (N _ (.head _)).1
    by_cases hlt : k < (Builtin.Range.rangeSize lo hi' st).toNat
    · refine wpAny_pyNext_range_item (it := s.heap.objs.size) hit (by omega) fun h' hit' hs' => ?_
      refine hitem _ (.int (lo + k * st)) h' _ _ (by simp [hlt]) rfl ?_ (R1.iter (noC hcp) (fun b ob hne e => (hs'.2 b hne).trans e) hit' hfr)
      congr 4
      · rw [show ((k + 1 : Nat) : Int) * st = (k : Int) * st + st by push_cast; rw [Int.add_mul, Int.one_mul], Int.add_assoc]
      · rw [show Builtin.Range.rangeSize lo hi' st - ((k + 1 : Nat) : Int) = Builtin.Range.rangeSize lo hi' st - k - 1 by push_cast; omega]
    · refine wpAny_pyNext_range_end (it := s.heap.objs.size) (handled_none ok) hit (by omega) fun h' he => ?_
      exact hend (by omega) h' _ (R1.drop (noC hcp) (fun b ob hne e => he b ob hne e) hfr)
  · simp
noncomputable abbrev RgQ (F : Fx) (d : Nat) (mc me : ME) (is : List Nat) (l : List V) (Q : V → HP → Prop) : Int → Int → Int → HP → Prop := fun x y z h3 => z ≠ 0 ∧ Builtin.Range.small x y z = true ∧
  compI (fun l h R => evT F.g d mc l h R fun _ _ => False) (fun l h R => ev F.g d me l h R fun _ _ => False) (fun v R _ => R (v :: capsV l is)) ((List.range (Builtin.Range.rangeSize x y z).toNat).map fun (k : Nat) => V.int (x + k * z)) h3 (fun _ => True) Q
theorem cr_compR1 {x r : Str} {xs : List Str} {is : List Nat} {scope : Scope} (co : CompOk F scope x xs is) {px pos pr pc : Pos} {ifs : List Expr} {a elt : Expr} {ma mc me : ME}
    (hre : r = "range") (hr : r ∈ F.bt) (hkr : F.sc.names.lookup r = some .globalImplicit) (hn : notStar a = true) (ha : SE F a ma)
    (hc : STs (F.inner scope (x :: xs)) ifs mc) (he : SE (F.inner scope (x :: xs)) elt me) : CompRun F x xs is scope px pos ifs (.Call (.Name r pr) [a] [] pc) elt (.compR (.int 0) ma (.int 1) mc me is) := by
  intro c d FO hg hsc ok rm hcp l hp Q X hev
  obtain ⟨hcells, hev⟩ := hev
  refine ⟨hcells, fun fr s E RR R hX hRR => ?_⟩
  refine (se_rangeArgs1 hre hr hkr hn ha FO hg hsc ok rm (X := X) (Q := RgQ F d mc me is l Q) ?_ R ?_ hX)
  · refine Eq.mp ?_ hev
    show ev F.g d ma l hp _ X = ev F.g d ma l hp _ X
    congr 1
    funext v h1
    show (match V.int 0, v, V.int 1 with | .int x, .int y, .int z => _ | _, _, _ => False) = _
    cases v <;> rfl
  · intro lo hi' st hp' h' tk' r' t u v hq R' hr'
    exact comp_range FO hg hsc ok hcp rm co hc he hq.2.1 R' hr' hcells hq.2.2 hRR
theorem cr_compR2 {x r : Str} {xs : List Str} {is : List Nat} {scope : Scope} (co : CompOk F scope x xs is) {px pos pr pc : Pos} {ifs : List Expr} {a b elt : Expr} {ma mb mc me : ME}
    (hre : r = "range") (hr : r ∈ F.bt) (hkr : F.sc.names.lookup r = some .globalImplicit) (hn : notStar a = true) (ha : SE F a ma) (hn2 : notStar b = true) (hb : SE F b mb)
    (hc : STs (F.inner scope (x :: xs)) ifs mc) (he : SE (F.inner scope (x :: xs)) elt me) : CompRun F x xs is scope px pos ifs (.Call (.Name r pr) [a, b] [] pc) elt (.compR ma mb (.int 1) mc me is) := by
  intro c d FO hg hsc ok rm hcp l hp Q X hev
  obtain ⟨hcells, hev⟩ := hev
  refine ⟨hcells, fun fr s E RR R hX hRR => ?_⟩
  refine (se_rangeArgs2 hre hr hkr hn ha hn2 hb FO hg hsc ok rm (X := X) (Q := RgQ F d mc me is l Q) ?_ R ?_ hX)
  · refine Eq.mp ?_ hev
    show ev F.g d ma l hp _ X = ev F.g d ma l hp _ X
    congr 1
    funext v h1
    show ev F.g d mb l h1 _ X = ev F.g d mb l h1 _ X
    congr 1
    funext w h2
    show (match v, w, V.int 1 with | .int x, .int y, .int z => _ | _, _, _ => False) = _
    cases v <;> cases w <;> rfl
  · intro lo hi' st hp' h' tk' r' t u v hq R' hr'
    exact comp_range FO hg hsc ok hcp rm co hc he hq.2.1 R' hr' hcells hq.2.2 hRR
theorem cr_compR3 {x r : Str} {xs : List Str} {is : List Nat} {scope : Scope} (co : CompOk F scope x xs is) {px pos pr pc : Pos} {ifs : List Expr} {a b f elt : Expr} {ma mb mf mc me : ME}
    (hre : r = "range") (hr : r ∈ F.bt) (hkr : F.sc.names.lookup r = some .globalImplicit) (hn : notStar a = true) (ha : SE F a ma) (hn2 : notStar b = true) (hb : SE F b mb) (hn3 : notStar f = true) (hf : SE F f mf)
    (hc : STs (F.inner scope (x :: xs)) ifs mc) (he : SE (F.inner scope (x :: xs)) elt me) : CompRun F x xs is scope px pos ifs (.Call (.Name r pr) [a, b, f] [] pc) elt (.compR ma mb mf mc me is) := by
  intro c d FO hg hsc ok rm hcp l hp Q X hev
  obtain ⟨hcells, hev⟩ := hev
  refine ⟨hcells, fun fr s E RR R hX hRR => ?_⟩
  refine (se_rangeArgs3 hre hr hkr hn ha hn2 hb hn3 hf FO hg hsc ok rm (X := X) (Q := fun x y z h3 => Builtin.Range.small x y z = true ∧
    compI (fun l h R => evT F.g d mc l h R fun _ _ => False) (fun l h R => ev F.g d me l h R fun _ _ => False) (fun v R _ => R (v :: capsV l is)) ((List.range (Builtin.Range.rangeSize x y z).toNat).map fun (k : Nat) => V.int (x + k * z)) h3 (fun _ => True) Q) ?_ R ?_ hX)
  · exact hev
  · intro lo hi' st hp' h' tk' r' t u v hq R' hr'
    exact comp_range FO hg hsc ok hcp rm co hc he hq.1 R' hr' hcells hq.2 hRR
end
/-! functions with cells -/
/-- the names of a frame enter: those that are cells get a place of the store -/
noncomputable def enterC : List (Bool × V) → HP → (List V → HP → Prop) → Prop
  | [], hp, k => k [] hp
  | (false, v) :: r, hp, k => enterC r hp fun l h => k (v :: l) h
  | (true, v) :: r, hp, k => ∀ a, hp a = none → enterC r (hset hp a (.cell v)) fun l h => k (.cell a :: l) h
noncomputable def cellNames : List Str → List (Bool × V) → List Str
  | x :: ns, (true, _) :: ps => x :: cellNames ns ps
  | _ :: ns, (false, _) :: ps => cellNames ns ps
  | _, _ => []
theorem enterS (look : Str → Addr) : ∀ (ns : List Str) (ps : List (Bool × V)) (hp : HP) (k : List V → HP → Prop), ns.length = ps.length → enterC ps hp k → (∀ x ∈ cellNames ns ps, hp (look x) = none) →
    ((cellNames ns ps).map look).Nodup → ∃ l' hp', k l' hp' ∧ l'.length = ps.length ∧ (∀ (i : Nat) (x : Str) (b : Bool) (v : V), ns[i]? = some x → ps[i]? = some (b, v) → l'[i]? = some (if b = true then V.cell (look x) else v)) ∧
      (∀ (i : Nat) (x : Str) (v : V), ns[i]? = some x → ps[i]? = some (true, v) → hp' (look x) = some (O.cell v)) ∧ (∀ a, a ∉ (cellNames ns ps).map look → hp' a = hp a)
  | [], [], hp, k, _, h, _, _ => ⟨[], hp, h, rfl, by simp, by simp, fun _ _ => rfl⟩
  | [], _ :: _, _, _, hl, _, _, _ => by simp at hl
  | _ :: _, [], _, _, hl, _, _, _ => by simp at hl
  | x :: ns, (false, v) :: ps, hp, k, hl, h, hf, nd => by
    obtain ⟨l', hp', h1, h2, h3, h4, h5⟩ := enterS look ns ps hp _ (by simpa using hl) h hf nd
    refine ⟨v :: l', hp', h1, by simp [h2], ?_, ?_, h5⟩
    · intro i y b w hy hw
      cases i with
      | zero => simp at hy hw; obtain ⟨rfl, rfl⟩ := hw; simp
      | succ i => simpa using h3 i y b w (by simpa using hy) (by simpa using hw)
    · intro i y w hy hw
      cases i with
      | zero => simp at hw
      | succ i => exact h4 i y w (by simpa using hy) (by simpa using hw)
  | x :: ns, (true, v) :: ps, hp, k, hl, h, hf, nd => by
    have hx := hf x (.head _)
    rw [show cellNames (x :: ns) ((true, v) :: ps) = x :: cellNames ns ps from rfl, List.map_cons, List.nodup_cons] at nd
    obtain ⟨l', hp', h1, h2, h3, h4, h5⟩ := enterS look ns ps (hset hp (look x) (.cell v)) _ (by simpa using hl) (h (look x) hx) (fun y hy => by
      have e2 : look y ≠ look x := fun e => nd.1 (by rw [← e]; exact List.mem_map_of_mem hy)
      rw [hset_ne e2]; exact hf y (.tail _ hy)) nd.2
    refine ⟨.cell (look x) :: l', hp', h1, by simp [h2], ?_, ?_, ?_⟩
    · intro i y b w hy hw
      cases i with
      | zero => simp at hy hw; obtain ⟨rfl, rfl⟩ := hw; subst hy; simp
      | succ i => simpa using h3 i y b w (by simpa using hy) (by simpa using hw)
    · intro i y w hy hw
      cases i with
      | zero => simp at hy hw; subst hy hw; rw [h5 _ nd.1, hset_same]
      | succ i => exact h4 i y w (by simpa using hy) (by simpa using hw)
    · intro a ha
      rw [show cellNames (x :: ns) ((true, v) :: ps) = x :: cellNames ns ps from rfl, List.map_cons, List.mem_cons, not_or] at ha
      rw [h5 a ha.2, hset_ne ha.1]
theorem cellNames_mem : ∀ {ns : List Str} {ps : List (Bool × V)} {x : Str}, x ∈ cellNames ns ps → ∃ (i : Nat) (v : V), ns[i]? = some x ∧ ps[i]? = some (true, v)
  | [], _, _, h => by simp [cellNames] at h
  | _ :: _, [], _, h => by simp [cellNames] at h
  | y :: ns, (false, _) :: ps, x, h => by
    obtain ⟨i, v, a, b⟩ := cellNames_mem (ns := ns) (ps := ps) h
    exact ⟨i + 1, v, by simpa using a, by simpa using b⟩
  | y :: ns, (true, w) :: ps, x, h => by
    rcases List.mem_cons.mp h with rfl | h
    · exact ⟨0, w, rfl, rfl⟩
    · obtain ⟨i, v, a, b⟩ := cellNames_mem (ns := ns) (ps := ps) h
      exact ⟨i + 1, v, by simpa using a, by simpa using b⟩
theorem cellNames_sub : ∀ {ns : List Str} {ps : List (Bool × V)}, List.Sublist (cellNames ns ps) ns
  | [], _ => by simp [cellNames]
  | _ :: _, [] => by simp [cellNames]
  | _ :: ns, (false, _) :: ps => (cellNames_sub (ns := ns) (ps := ps)).cons _
  | _ :: ns, (true, _) :: ps => (cellNames_sub (ns := ns) (ps := ps)).cons_cons _
/-! the cells' places -/
theorem cellsFrom_get : ∀ (ns : List (Str × NameKind)) (n : Nat) (acc : List (Str × Addr)) (x : Str), ((x, NameKind.cell) ∈ ns ∨ x ∈ acc.map (·.1)) → x ∈ (cellsFrom n ns acc).map (·.1)
  | [], _, _, _, h => by
    rcases h with h | h
    · cases h
    · exact h
  | (y, k) :: r, n, acc, x, h => by
    unfold cellsFrom
    by_cases hk : (k == NameKind.cell) = true
    · rw [if_pos hk]
      refine cellsFrom_get r _ _ x ?_
      rcases h with h | h
      · rcases List.mem_cons.mp h with e | h
        · cases e; exact .inr (by simp)
        · exact .inl h
      · exact .inr (by rw [List.map_cons]; exact .tail _ h)
    · rw [if_neg hk]
      refine cellsFrom_get r _ _ x ?_
      rcases h with h | h
      · rcases List.mem_cons.mp h with e | h
        · cases e; exact absurd rfl hk
        · exact .inl h
      · exact .inr h
theorem cellsFrom_apart : ∀ (ns : List (Str × NameKind)) (n lo : Nat) (acc : List (Str × Addr)), lo ≤ n → (∀ p ∈ acc, lo ≤ p.2 ∧ p.2 < n) → (acc.map (·.2)).Nodup →
    ((cellsFrom n ns acc).map (·.2)).Nodup ∧ ∀ p ∈ cellsFrom n ns acc, lo ≤ p.2
  | [], _, _, _, _, h, nd => ⟨nd, fun p hp => (h p hp).1⟩
  | (y, k) :: r, n, lo, acc, hlo, h, nd => by
    unfold cellsFrom
    by_cases hk : (k == NameKind.cell) = true
    · rw [if_pos hk]
      refine cellsFrom_apart r _ lo _ (by omega) (fun p hp => ?_) ?_
      · rcases List.mem_cons.mp hp with rfl | hp
        · exact ⟨hlo, Nat.lt_succ_self _⟩
        · have := h p hp; exact ⟨this.1, Nat.lt_succ_of_lt this.2⟩
      · rw [List.map_cons, List.nodup_cons]
        refine ⟨fun hm => ?_, nd⟩
        obtain ⟨p, hp, e⟩ := List.mem_map.mp hm
        have := (h p hp).2
        rw [e] at this
        exact Nat.lt_irrefl _ this
    · rw [if_neg hk]
      exact cellsFrom_apart r _ lo _ hlo h nd
theorem bindL_get {kindOf : Str → Option NameKind} {x : Str} {v : Value} : ∀ {binds : List (Str × Value)} {m : Str → Option Value}, (binds.map (·.1)).Nodup → (x, v) ∈ binds → kindOf x = some .local → bindL kindOf binds m x = some v := by
  have keep : ∀ {binds : List (Str × Value)} {m : Str → Option Value}, x ∉ binds.map (·.1) → bindL kindOf binds m x = m x := by
    intro binds
    induction binds with
    | nil => intro m _; rfl
    | cons p r ih =>
      intro m h
      obtain ⟨n, w⟩ := p
      rw [List.map_cons, List.mem_cons, not_or] at h
      unfold bindL
      rw [ih h.2]
      split
      · exact if_neg h.1
      · rfl
  intro binds
  induction binds with
  | nil => intro m _ h; cases h
  | cons p r ih =>
    intro m nd h hk
    obtain ⟨n, w⟩ := p
    rw [List.map_cons, List.nodup_cons] at nd
    unfold bindL
    rcases List.mem_cons.mp h with e | h
    · cases e
      rw [keep nd.1, if_pos hk]
      exact if_pos rfl
    · exact ih nd.2 h hk
theorem bindC_not {kindOf : Str → Option NameKind} {x : Str} : ∀ {binds : List (Str × Value)} {m : Str → Option Value}, x ∉ binds.map (·.1) → bindC kindOf binds m x = m x := by
  intro binds
  induction binds with
  | nil => intro m _; rfl
  | cons p r ih =>
    intro m h
    obtain ⟨n, w⟩ := p
    rw [List.map_cons, List.mem_cons, not_or] at h
    unfold bindC
    rw [ih h.2]
    split
    · rfl
    · exact if_neg h.1
theorem bindC_get {kindOf : Str → Option NameKind} {x : Str} {v : Value} : ∀ {binds : List (Str × Value)} {m : Str → Option Value}, (binds.map (·.1)).Nodup → (x, v) ∈ binds → kindOf x ≠ some .local → bindC kindOf binds m x = some v := by
  intro binds
  induction binds with
  | nil => intro m _ h; cases h
  | cons p r ih =>
    intro m nd h hk
    obtain ⟨n, w⟩ := p
    rw [List.map_cons, List.nodup_cons] at nd
    unfold bindC
    rcases List.mem_cons.mp h with e | h
    · cases e
      rw [bindC_not nd.1, if_neg hk]
      exact if_pos rfl
    · exact ih nd.2 h hk
theorem cellsAre_get {cm : Str → Option Value} : ∀ {cs : List (Str × Addr)} {cells : List (Addr × Obj)}, CellsAre cm cs cells → ∀ x a, (x, a) ∈ cs → ∃ o, (a, o) ∈ cells ∧ o.data = .cell (cm x)
  | _, _, .nil, _, _, h => by cases h
  | _, _, .cons hd r, x, a, h => by
    rcases List.mem_cons.mp h with e | h
    · cases e; exact ⟨_, .head _, hd⟩
    · obtain ⟨o, h1, h2⟩ := cellsAre_get r x a h; exact ⟨o, .tail _ h1, h2⟩
theorem lookup_of_mem {x : Str} : ∀ {cs : List (Str × Addr)}, x ∈ cs.map (·.1) → ∃ a, cs.lookup x = some a ∧ (x, a) ∈ cs
  | [], h => by cases h
  | (y, b) :: r, h => by
    cases e : x == y with
    | true => exact ⟨b, by simp [List.lookup_cons, e], by rw [beq_iff_eq.mp e]; exact .head _⟩
    | false =>
      have hne : x ≠ y := by simpa using e
      obtain ⟨a, h1, h2⟩ := lookup_of_mem (cs := r) ((List.mem_cons.mp h).resolve_left hne)
      exact ⟨a, by simp [List.lookup_cons, e, h1], .tail _ h2⟩
theorem mem_of_lookup' {α : Type} {x : Str} {k : α} : ∀ {l : List (Str × α)}, l.lookup x = some k → (x, k) ∈ l
  | [], h => by cases h
  | (y, b) :: r, h => by
    rw [List.lookup_cons] at h
    cases q : x == y with
    | true => rw [q] at h; cases h; rw [beq_iff_eq.mp q]; exact .head _
    | false => rw [q] at h; exact .tail _ (mem_of_lookup' h)
noncomputable def cellKs (sc : Scope) (names : List Str) : List Bool := names.map fun x => sc.names.lookup x == some .cell
noncomputable def unC (names : List Str) (bargs : List (Str × V)) : List V := bargs.map (·.2) ++ List.replicate (names.length - bargs.length) V.unb
noncomputable def fnOkC (K : Frag) (f : Addr) (names : List Str) : Bool := match K.lookup f with
  | some ⟨_, _, .func fd, _⟩ => fd.closure.isEmpty && fd.globals == mainGlobals && fd.builtins == builtinsNs && codeIn K fd.code fd.qualname && !fd.scope.isCoroutine && !fd.scope.isGenerator &&
      (fd.scope.kind == .function) && decide ((cellsFrom 0 fd.scope.names []).map (·.1)).Nodup && (match fd.body with | .stmts _ => true | _ => false) && names.all fun x => fd.scope.names.lookup x == some .local || fd.scope.names.lookup x == some .cell
  | _ => false
theorem unC_get {names : List Str} {bargs : List (Str × V)} {i : Nat} {x : Str} {v : V} (hnm : names.take bargs.length = bargs.map (·.1)) (hx : names[i]? = some x) (hv : (unC names bargs)[i]? = some v) :
    (i < bargs.length ∧ bargs[i]? = some (x, v)) ∨ (bargs.length ≤ i ∧ v = .unb) := by
  unfold unC at hv
  rcases Nat.lt_or_ge i bargs.length with hi | hi
  · rw [List.getElem?_append_left (by simpa using hi)] at hv
    rw [List.getElem?_map] at hv
    have h2 : (names.take bargs.length)[i]? = some x := by rw [List.getElem?_take, if_pos hi]; exact hx
    rw [hnm, List.getElem?_map] at h2
    cases e : bargs[i]? with
    | none => rw [e] at hv; cases hv
    | some p =>
      rw [e] at hv h2
      simp only [Option.map_some, Option.some.injEq] at hv h2
      refine .inl ⟨hi, ?_⟩
      rw [← hv, ← h2]
  · rw [List.getElem?_append_right (by simpa using hi), List.getElem?_replicate] at hv
    split at hv
    · cases hv; exact .inr ⟨hi, rfl⟩
    · cases hv
/-- the frame of a def with cells -/
theorem enter_rep {F : Fx} (FO : F.Ok) {c' : Cx} {sc : Scope} {L' : Addr} {cm m : Str → Option Value} {kindOf : Str → Option NameKind} {cells news0 fr : List (Addr × Obj)} {h₁ : Heap} {hp : HP} {binds : List (Str × Value)} {bargs : List (Str × V)}
    (hcl : c'.cl = cellsFrom (L' + 1) sc.names []) (hL : c'.L = L') (hcp : c'.cp = none) (hsc : sc = F.sc) (hko : kindOf = fun x => sc.names.lookup x) (hm : m = bindL kindOf binds fun _ => none) (hcm : cm = bindC kindOf binds fun _ => none)
    (F' : Fr c'.h₀ L' h₁ m) (N' : News c'.h₀ L' h₁ (cells ++ (news0 ++ fr))) (CA : CellsAre cm (cellsFrom (L' + 1) sc.names []) cells) (H : HpN c' hp news0) (hlt : ∀ p ∈ news0 ++ fr, p.1 < L') (D : ∀ p ∈ fr, hp p.1 = none)
    (hst : ∀ b o, c'.base.get? b = some o → c'.h₀.get? b = some o) (hbs : (binds.map fun p => (p.1, absV p.2)) = bargs) (hnm : F.names.take bargs.length = bargs.map (·.1))
    (hnl : ∀ x ∈ F.names, sc.names.lookup x = some .local ∨ sc.names.lookup x = some .cell) {k : List V → HP → Prop} (h : enterC ((cellKs F.sc F.names).zip (unC F.names bargs)) hp k) :
    ∃ l' hp', k l' hp' ∧ Rep c' F.names l' hp' fr h₁ := by
  subst hsc
  have hlen : bargs.length ≤ F.names.length := by
    have := congrArg List.length hnm
    simp only [List.length_take, List.length_map] at this
    omega
  have hbl : binds.length = bargs.length := by rw [← hbs]; simp
  have hb1 : bargs.map (·.1) = binds.map (·.1) := by rw [← hbs]; simp
  have ndb : (binds.map (·.1)).Nodup := by rw [← hb1, ← hnm]; exact List.Sublist.nodup (List.take_sublist _ _) FO.nd
  have hul : (unC F.names bargs).length = F.names.length := by unfold unC; simp; omega
  have hkl : (cellKs F.sc F.names).length = F.names.length := by unfold cellKs; simp
  have hpl : F.names.length = ((cellKs F.sc F.names).zip (unC F.names bargs)).length := by simp [hul, hkl]
  have hpg : ∀ (i : Nat) (x : Str) (b : Bool) (v : V), F.names[i]? = some x → ((cellKs F.sc F.names).zip (unC F.names bargs))[i]? = some (b, v) → b = (F.sc.names.lookup x == some .cell) ∧ (unC F.names bargs)[i]? = some v := by
    intro i x b v hx hv
    rw [List.getElem?_zip_eq_some] at hv
    obtain ⟨h1, h2⟩ := hv
    unfold cellKs at h1
    rw [List.getElem?_map, hx] at h1
    exact ⟨(Option.some.inj h1).symm, h2⟩
  let look : Str → Addr := fun x => ((cellsFrom (L' + 1) F.sc.names []).lookup x).getD 0
  have hlook : ∀ x, F.sc.names.lookup x = some .cell → (cellsFrom (L' + 1) F.sc.names []).lookup x = some (look x) ∧ (x, look x) ∈ cellsFrom (L' + 1) F.sc.names [] := by
    intro x hx
    obtain ⟨a, h1, h2⟩ := lookup_of_mem (cellsFrom_get F.sc.names (L' + 1) [] x (.inl (mem_of_lookup' hx)))
    have : look x = a := by show ((cellsFrom (L' + 1) F.sc.names []).lookup x).getD 0 = a; rw [h1]; rfl
    rw [this]; exact ⟨h1, h2⟩
  obtain ⟨ndA, hge⟩ := cellsFrom_apart F.sc.names (L' + 1) (L' + 1) [] (Nat.le_refl _) (fun _ h => nomatch h) List.nodup_nil
  have isC : ∀ x ∈ cellNames F.names ((cellKs F.sc F.names).zip (unC F.names bargs)), F.sc.names.lookup x = some .cell := by
    intro x hx
    obtain ⟨i, v, h1, h2⟩ := cellNames_mem hx
    have := (hpg i x true v h1 h2).1
    simpa using this.symm
  have hobj : ∀ x, F.sc.names.lookup x = some .cell → ∃ o, (look x, o) ∈ cells ∧ o.data = .cell (cm x) := fun x hx => cellsAre_get CA x _ (hlook x hx).2
  have hnew : ∀ x, F.sc.names.lookup x = some .cell → hp (look x) = none := by
    intro x hx
    obtain ⟨o, ho, _⟩ := hobj x hx
    have hgt := hge _ (hlook x hx).2
    cases q : hp (look x) with
    | none => rfl
    | some o' =>
      have := H.2 _ _ q
      cases o' with
      | ro vs =>
        obtain ⟨it, ⟨ob, hb, _⟩, _⟩ := this
        have h0 := (N' _ (List.mem_append_left _ ho)).2.2
        rw [hst _ _ hb] at h0; cases h0
      | list vs => obtain ⟨ob, hb, _⟩ := this; exact absurd (hlt _ (List.mem_append_left _ hb)) (Nat.not_lt.mpr (Nat.le_of_succ_le hgt))
      | tup vs => obtain ⟨ob, hb, _⟩ := this; exact absurd (hlt _ (List.mem_append_left _ hb)) (Nat.not_lt.mpr (Nat.le_of_succ_le hgt))
      | cell vs => obtain ⟨ob, hb, _⟩ := this; exact absurd (hlt _ (List.mem_append_left _ hb)) (Nat.not_lt.mpr (Nat.le_of_succ_le hgt))
      | rng _ _ _ => obtain ⟨ob, hb, _⟩ := this; exact absurd (hlt _ (List.mem_append_left _ hb)) (Nat.not_lt.mpr (Nat.le_of_succ_le hgt))
      | dict _ => obtain ⟨ob, hb, _⟩ := this; exact absurd (hlt _ (List.mem_append_left _ hb)) (Nat.not_lt.mpr (Nat.le_of_succ_le hgt))
  have ndl : ((cellNames F.names ((cellKs F.sc F.names).zip (unC F.names bargs))).map look).Nodup := by
    have nd0 : (cellNames F.names ((cellKs F.sc F.names).zip (unC F.names bargs))).Nodup := List.Sublist.nodup cellNames_sub FO.nd
    refine List.pairwise_map.mpr (List.Pairwise.imp_of_mem (fun {x y} hx hy hne e => hne ?_) nd0)
    have h1 := (hlook x (isC x hx)).2
    have h2 := (hlook y (isC y hy)).2
    rw [e] at h1
    have key : ∀ (cs : List (Str × Addr)) (a : Addr), (cs.map (·.2)).Nodup → (x, a) ∈ cs → (y, a) ∈ cs → x = y := by
      intro cs a
      induction cs with
      | nil => intro _ h; cases h
      | cons p r ih =>
        intro nd g1 g2
        rw [List.map_cons, List.nodup_cons] at nd
        rcases List.mem_cons.mp g1 with e1 | g1 <;> rcases List.mem_cons.mp g2 with e2 | g2
        · exact (Prod.mk.inj (e1.trans e2.symm)).1
        · exact absurd (by rw [← e1]; exact List.mem_map_of_mem (f := (·.2)) g2) nd.1
        · exact absurd (by rw [← e2]; exact List.mem_map_of_mem (f := (·.2)) g1) nd.1
        · exact ih nd.2 g1 g2
    exact key _ _ ndA h1 h2
  obtain ⟨l', hp', hk, hl', hget, hcell, hrest⟩ := enterS look F.names _ hp k hpl h (fun x hx => hnew x (isC x hx)) ndl
  have bget : ∀ (i : Nat) (x : Str) (v : V), bargs[i]? = some (x, v) → ∃ val, (x, val) ∈ binds ∧ absV val = v := by
    intro i x v hb
    rw [← hbs, List.getElem?_map] at hb
    cases e : binds[i]? with
    | none => rw [e] at hb; cases hb
    | some p =>
      rw [e] at hb
      simp only [Option.map_some, Option.some.injEq, Prod.mk.injEq] at hb
      exact ⟨p.2, by rw [← hb.1]; exact List.mem_of_getElem? e, hb.2⟩
  refine ⟨l', hp', hk, ?_⟩
  refine Rep.of (news := cells ++ news0) KtsTurn.refl (by rw [hL]; exact hm ▸ F') ((LocX.plain hcp).mpr ?_) ⟨?_, ?_⟩ (by rw [hL, List.append_assoc]; exact N') ?_
  · intro i x v hx hv hn
    have hi : i < F.names.length := (List.getElem?_eq_some_iff.mp hx).1
    obtain ⟨⟨b, w⟩, hw⟩ : ∃ p, ((cellKs F.sc F.names).zip (unC F.names bargs))[i]? = some p := ⟨_, List.getElem?_eq_getElem (by rw [← hpl]; exact hi)⟩
    obtain ⟨hb, hu⟩ := hpg i x b w hx hw
    rw [hget i x b w hx hw] at hv
    rcases hnl x (List.mem_of_getElem? hx) with hk | hk
    · have : b = false := by rw [hb, hk]; rfl
      subst this
      simp only [Bool.false_eq_true, if_false, Option.some.injEq] at hv
      subst hv
      rcases unC_get hnm hx hu with ⟨_, hb'⟩ | ⟨_, e⟩
      · obtain ⟨val, h1, h2⟩ := bget i x w hb'
        exact .inr ⟨fun a e => absV_cell (h2.trans e), val, bindL_get ndb h1 (by rw [hko]; exact hk), h2⟩
      · exact absurd e hn
    · have : b = true := by rw [hb, hk]; rfl
      subst this
      simp only [if_true, Option.some.injEq] at hv
      exact .inl ⟨look x, hv.symm, by rw [hcl]; exact (hlook x hk).1⟩
  · obtain ⟨Dm, hD⟩ := H.1
    refine ⟨Dm ++ (cellNames F.names ((cellKs F.sc F.names).zip (unC F.names bargs))).map look, fun a o ho => ?_⟩
    by_cases q : a ∈ (cellNames F.names ((cellKs F.sc F.names).zip (unC F.names bargs))).map look
    · exact List.mem_append_right _ q
    · rw [hrest a q] at ho; exact List.mem_append_left _ (hD a o ho)
  · intro a o ho
    by_cases q : a ∈ (cellNames F.names ((cellKs F.sc F.names).zip (unC F.names bargs))).map look
    · obtain ⟨x, hx, rfl⟩ := List.mem_map.mp q
      obtain ⟨i, v, h1, h2⟩ := cellNames_mem hx
      have hv := hcell i x v h1 h2
      have ho := ho.symm.trans hv
      obtain rfl := Option.some.inj ho
      obtain ⟨ob, hob, hd⟩ := hobj x (isC x hx)
      refine ⟨ob, List.mem_append_left _ hob, cm x, hd, ?_⟩
      have hu := (hpg i x true v h1 h2).2
      have hnk : kindOf x ≠ some .local := by rw [hko]; show F.sc.names.lookup x ≠ _; rw [isC x hx]; decide
      rcases unC_get hnm h1 hu with ⟨_, hb'⟩ | ⟨hge', e⟩
      · obtain ⟨val, g1, g2⟩ := bget i x v hb'
        rw [hcm, bindC_get ndb g1 hnk]
        exact ⟨fun e => by rw [e] at g2; cases val <;> simp [absV] at g2, g2⟩
      · rw [hcm, bindC_not (fun hm' => ?_)]
        · exact e
        · rw [← hb1, ← hnm] at hm'
          obtain ⟨j, hj, e'⟩ := List.mem_iff_getElem.mp hm'
          rw [List.length_take] at hj
          have g1 : F.names[j]? = some x := by
            rw [List.getElem_take] at e'
            rw [← e']; exact List.getElem?_eq_getElem _
          have g2 := List.getElem?_eq_some_iff.mp g1
          have g3 := List.getElem?_eq_some_iff.mp h1
          obtain ⟨a1, b1⟩ := g2
          obtain ⟨a2, b2⟩ := g3
          have := (List.getElem_inj FO.nd).mp (b1.trans b2.symm)
          omega
    · rw [hrest a q] at ho
      have := H.2 a o ho
      cases o with
      | ro vs => exact this
      | list vs => obtain ⟨ob, h1, h2⟩ := this; exact ⟨ob, List.mem_append_right _ h1, h2⟩
      | tup vs => obtain ⟨ob, h1, h2⟩ := this; exact ⟨ob, List.mem_append_right _ h1, h2⟩
      | cell vs => obtain ⟨ob, h1, h2⟩ := this; exact ⟨ob, List.mem_append_right _ h1, h2⟩
      | rng _ _ _ => obtain ⟨ob, h1, h2⟩ := this; exact ⟨ob, List.mem_append_right _ h1, h2⟩
      | dict _ => obtain ⟨ob, h1, h2⟩ := this; exact ⟨ob, List.mem_append_right _ h1, h2⟩
  · intro p hp'
    rw [hrest]
    · exact D p hp'
    · intro q
      obtain ⟨x, hx, e⟩ := List.mem_map.mp q
      have hgt := hge _ (hlook x (isC x hx)).2
      have := hlt p (List.mem_append_right _ hp')
      rw [← e] at this
      exact absurd this (Nat.not_lt.mpr (Nat.le_of_succ_le hgt))
theorem cellsFrom_none : ∀ {ns : List (Str × NameKind)} {n : Nat}, (ns.all fun y => !(y.2 == .cell)) = true → cellsFrom n ns [] = []
  | [], _, _ => rfl
  | (y, k) :: r, n, h => by
    simp only [List.all_cons, Bool.and_eq_true, Bool.not_eq_true'] at h
    unfold cellsFrom
    rw [if_neg (by rw [h.1]; decide)]
    exact cellsFrom_none h.2
theorem calls_ofC {F : Fx} (FO : F.Ok) {f : Addr} (hok : fnOkC F.g.K f F.names = true) (hsc : (fnAt F.g.K f).scope = F.sc) {ms : MS} (hb : SB F (bodyAt F.g.K f) ms) {args : List V} {kw bargs : List (Str × V)}
    (hbind : Binds F.g f args kw bargs) (hnm : F.names.take bargs.length = bargs.map (·.1)) (hloc : (bargs.all fun p => F.sc.names.lookup p.1 == some .local || F.sc.names.lookup p.1 == some .cell) = true)
    {d : Nat} {hp : HP} {Q : V → HP → Prop} {X : XC}
    (h : enterC ((cellKs F.sc F.names).zip (unC F.names bargs)) hp fun l h0 => exec F.g d ms l h0 (retQ Q) noX) : Calls F.g (d + 1) f args kw hp Q X := by
  intro c hg ok rm names l vals kvals hv hkv fr s P E R hP hX
  unfold fnOkC at hok
  split at hok
  · rename_i oc od fd osl hK
    simp only [Bool.and_eq_true, Bool.not_eq_true', List.isEmpty_iff, beq_iff_eq, decide_eq_true_eq] at hok
    obtain ⟨⟨⟨⟨⟨⟨⟨⟨⟨k1, k2⟩, k3⟩, k4⟩, k5⟩, k6⟩, k7⟩, k8⟩, k9⟩, k10⟩ := hok
    have hfd : fnAt F.g.K f = fd := by unfold fnAt; rw [hK]
    cases hbd : fd.body with
    | expr _ => rw [hbd] at k9; cases k9
    | stmts body =>
      have hbody : bodyAt F.g.K f = body := by unfold bodyAt; rw [hfd, hbd]
      rw [hbody] at hb
      rw [hfd] at hsc
      obtain ⟨binds, hB, hbs⟩ := hbind s vals kvals (by rw [← hg]; exact R.inK ok) hv hkv
      rw [hfd] at hB
      have hfn : fd = fnOf fd.name fd.qualname fd.params body fd.scope fd.defaults fd.kwdefaults fd.doc fd.pyModule fd.annotations fd.code fd.closureTuple := by
        cases fd
        simp only at k1 k2 k3 hbd
        subst k1 k2 k3 hbd
        rfl
      obtain ⟨g, m, news, T, Fm, lo, H, N, D⟩ := R.parts
      have okg := ok.turn T
      refine code_defCT (K := c.g.K) okg.below Fm (ok.inK.keeps okg.below.stays) N ((ok.top.keeps okg.below.stays).nolimit) (Around.frames_deeper ok.below.stack) rfl ok.fkind (by rw [hg, hK, ← hfn]) (by rw [hg]; exact k4) (by have := rm.1; omega) (by rw [← hfn]; exact hB) ?_ k8 ?_ k5 k6 k7
      · refine List.all_eq_true.mpr fun y hy => ?_
        have : (y.1, absV y.2) ∈ bargs := by rw [← hbs]; exact List.mem_map_of_mem (f := fun p => (p.1, absV p.2)) hy
        have := List.all_eq_true.mp hloc _ this
        rw [hsc]; exact this
      · intro g' L' h₁ tk cells FG F' N' CA B' hlt
        let c' : Cx := { g := c.g, A₀ := c.A, base := c.base, h₀ := g', outer := c.fenv :: c.outer, L := L', qn := fd.qualname, fsc := fd.scope, fa := f, cd := fd.code, cl := cellsFrom (L' + 1) fd.scope.names [], cp := none }
        have ok' : c'.Ok := ⟨B', ok.inK, ok.top, okg.dictsPush FG, k7, k7, k6, k5, handled_none ok, ok.seer, ok.tree⟩
        have rm' : room c' d := ⟨by have := rm.1; show c.A.depth + 1 + d + 200 < _; omega, by have := rm.2; show c.A.units + 3 + 8 * d + 200 < _; omega⟩
        obtain ⟨l', hp1, hex, R'⟩ := enter_rep FO (c' := c') rfl rfl rfl hsc rfl rfl rfl F' N' CA H hlt D (fun b o e => B'.stays b o e) hbs hnm
          (fun x hx => by have := List.all_eq_true.mp k10 x hx; simpa using this) h
        refine hb c' d FO hg ⟨hsc, fun _ => rfl, fun _ hc => by show cellsFrom (L' + 1) fd.scope.names [] = []; rw [hsc]; exact cellsFrom_none hc⟩ ok' rm' _ hp1 _ noX hex rfl fr _ _ _ R' (fun o f' l2 hp' h' tk' hq hf R2 => ?_) (fun l' => noXP)
        obtain ⟨g2, m2, news2, T2, F2, lo2, H2, N2, D2⟩ := R2.parts
        refine ⟨g2, L', m2, news2 ++ fr, T2, F2, N2, fun h3 T3 F3 N3 => ?_⟩
        cases o with
        | next =>
          cases f' <;> first | exact hf.elim | skip
          exact hP .none .none hp' h' tk' hq rfl (Rep.of (T.trans T3) F3 lo H2 N3 D2)
        | brk => exact hq.elim
        | ret v =>
          cases f' <;> first | exact hf.elim | skip
          exact hP v _ hp' h' tk' hq hf (Rep.of (T.trans T3) F3 lo H2 N3 D2)
  · cases hok
section
variable {F : Fx}
/-- raise ValueError(a text) -/
theorem ss_raise {x : Str} {np cpos pos kp : Pos} {k : Nat} {t : Str} (hxe : x = "ValueError") (hx : x ∈ F.bt) (hk : F.sc.names.lookup x = some .globalImplicit) :
    SS F (.Raise (some (.Call (.Name x np) [.Constant (.str t) k kp] [] cpos)) none pos) (.raise "ValueError") := by
  intro c d FO hg hsc ok rm l hp Q X hev hcp fr s P E R hP hX
  subst hxe
  refine Raise_madeB PySem.F.excCall_ValueError PySem.F.excRaise_ValueError (handled_none ok) (nameB FO hg hsc ok hx (v := .type "ValueError") PyProof.Rows.Boot.«ValueError» hk (by decide) (by decide) R ⟨rfl, ?_⟩) rfl rfl
  refine spliced_more (Constant_str ?_) rfl
  refine spliced_none ⟨by simp [sizeLine_eq], fun h' e hm => ?_⟩
  obtain ⟨g, m, news, T, Fm, lo, H, N, D⟩ := R.parts
  exact hX l (.own "ValueError") e hp h' _ hev ⟨D, g, m, s.heap, T, Fm, lo, .inr ⟨"ValueError", _, news, rfl, hm.of, H, N⟩⟩
theorem storeC {c : Cx} (hsc : SCF c F) (ok : c.Ok) {x : Str} {i : Nat} {a : Addr} {w : V} {l hp fr} {s : Shared} {v : V} {val : Value} {P : Unit → Shared → Prop} {E : Value → Shared → Prop}
    (hi : F.names[i]? = some x) (hk : F.sc.names.lookup x = some .cell) (R : Rep c F.names l hp fr s.heap) (hl : lget l i = .cell a) (h0 : hp a = some (.cell w)) (hv : absV val = v)
    (h : ∀ h' tk', Rep c F.names l (hset hp a (.cell v)) fr h' → P () { s with heap := h', toks := tk' }) :
    wpAny (model c.g.prog c.g.w) c.A (storeName c.env x val) P E s := by
  have hcl := R.cellOf hi hl
  obtain ⟨g, T, m, Fm, lo, H, N, D⟩ := id R
  obtain ⟨ob, ho, ⟨w', hd, _⟩, _⟩ := H.2 a _ h0
  refine wpAny_storeName_cell (by rw [c.env_scope]; exact ok.kind) (by rw [c.env_kindOf, hsc.1]; exact hk) hcl ⟨ob, ho, hd⟩ fun h' hv' hs => ?_
  obtain ⟨ob', ho', hd'⟩ := hv'
  exact h h' s.toks (R.upd h0 hs ho' ⟨some val, hd', fun e => by rw [e] at hv; cases val <;> simp [absV] at hv, hv⟩ (fun ws e => by cases e))
end
section
variable {F : Fx}
/-- a value stored in a cell, be it a comprehension's -/
theorem ss_casgX {x : Str} {p pos : Pos} {i : Nat} {e : Expr} {m : ME} (hi : F.names[i]? = some x) (hk : F.sc.names.lookup x = some .cell) (he : SE F e m) : SS F (.Assign [.Name x p] e pos) (.casg i m) := by
  intro c d FO hg hsc ok rm l hp Q X hev hcp fr s P E R hP hX
  have hsw : swapsWith e (some (.Name x p)) pos.line c.env = pure false := by
    unfold swapsWith
    have hkc : c.env.kindOf x = some .cell := by rw [c.env_kindOf, hsc.1]; exact hk
    cases e <;> first | rfl | (show pure (((c.env.blockKind == .function && c.env.kindOf x == some .local) && _) && _) = _; rw [hkc, show (some NameKind.cell == some NameKind.local) = false from by decide, Bool.and_false, Bool.false_and, Bool.false_and])
  refine wpAny_Assign_Name (he c d FO hg hsc ok rm l hp _ X hev fr s _ E R (fun v y h1 hh tk hq hy R1 => ?_) (hX l)) hsw
  split at hq
  · rename_i a hl
    obtain ⟨⟨w, h0⟩, hq⟩ := hq
    exact storeC hsc ok hi hk R1 hl h0 hy fun h' tk' R' => hP .next .next _ _ h' tk' hq trivial R'
  · exact hq.elim
end
section
variable {F : Fx}
noncomputable def swapB (F : Fx) (y : Str) (py : Pos) (scope : Scope) (pos : Pos) : Bool :=
  (F.sc.names.lookup y == some .local) && (py.line == pos.line) && !(scope.names.any fun z => z.1 == y && (z.2 == .local || z.2 == .cell))
/-- a comprehension stored in a local name -/
theorem ss_asgX {x y : Str} {py spos : Pos} {i : Nat} {xs : List Str} {is : List Nat} {scope : Scope} (co : CompOk F scope x xs is) (ht : F.top = true) {px pos : Pos} {ifs : List Expr} {iter elt : Expr} {m : ME} (hse : ∀ env v, foldedSetIterable iter env v = pure v)
    (h : CompRun F x xs is scope px pos ifs iter elt m) (hi : F.names[i]? = some y) (hk : F.sc.names.lookup y = some .local) (hsw : swapB F y py scope pos = true) :
    SS F (.Assign [.Name y py] (.ListComp elt [⟨.Name x px, iter, ifs, 0⟩] scope pos) spos) (.asg i m) := by
  intro c d FO hg hsc ok rm l hp Q X hev hcp fr s P E R hP hX
  have hs : swapsWith (.ListComp elt [⟨.Name x px, iter, ifs, 0⟩] scope pos) (some (.Name y py)) spos.line c.env = pure true := by
    simp only [swapB, Bool.and_eq_true] at hsw
    have hb : c.env.blockKind = .function := by unfold Env.blockKind; rw [c.env_scope, ok.kind]; rfl
    show pure (((c.env.blockKind == .function && c.env.kindOf y == some .local) && _) && _) = _
    rw [hb, c.env_kindOf, hsc.1]
    rw [hsw.1.1]
    show pure (((_ && true) && (py.line == pos.line)) && _) = _
    rw [hsw.1.2, hsw.2]; rfl
  rw [exec_Assign_Name_used _ _ _ _ hs]
  refine wpAny_bind (wpAny_standAt (wpAny_bind ?_))
  show wpAny _ c.A (do let _ ← comprehension (.ListComp elt [⟨.Name x px, iter, ifs, 0⟩] scope pos) scope c.env _ (newList []) false (eval iter c.env) (some (assign (.Name y py) c.env))) _ _ s
  obtain ⟨hcells, h⟩ := h c d FO hg hsc ok rm hcp l hp (fun v h1 => Q .next (lset l i v) h1) X hev
  refine wpAny_bind (wpAny_mono (wpAny_comprehension_free (use := some (assign (.Name y py) c.env)) (Q := fun _ s' => P .next s') rfl (hse _) (closureFor_list _ (comp_look co R hcells)) co.kind co.names
    (h fr s E _ R (hX l) fun D C oC m₂ hp' h' tk' hq hNs R1 hfC => ?_)) (fun _ s' hq => wpAny_pure (wpAny_pure hq)) fun _ _ e => e)
  show wpAny _ c.A (assign (.Name y py) c.env (.ref D)) _ _ _
  refine wpAny_assign_Name (storeS FO hsc ok hcp hi hk R1 (v := .ref D) rfl fun h2 tk2 R2 => ?_)
  obtain ⟨es1, ep1, hd1, hk1', hr1⟩ := hNs
  have hgC : h2.get? C = some oC := by obtain ⟨_, _, _, _, _, _, N, _⟩ := id R2; exact (N _ (.head _)).1
  refine ⟨m₂, ⟨oC, es1, ep1, hgC, hd1, hk1', hr1⟩, fun h'' hs'' => ?_⟩
  exact hP .next .next _ _ h'' _ hq trivial (R2.drop (noC hcp) (fun b ob hne e => (hs''.2 b hne).trans e) hfC)
end
theorem entry_powT : entryFor table "pow" = some Builtin.«pow» := entryFor_of_fast (by kernel_rfl)
theorem kind_powT : builtinKind "pow" = none := by decide +kernel
theorem plain_powT : plainId "pow" = true := by decide +kernel
theorem args_powT2 (a b : Value) : argsOk "pow" ⟨[a, b], []⟩ := by unfold argsOk; kernel_rfl
theorem boot_powT : bootBuiltins "pow" = some (.builtin "pow") := by decide +kernel
theorem bind_pow2 (a b : Value) : Builtin.Builtins.bindParams "pow" ["base", "exp", "mod"] 2 ⟨[a, b], []⟩ = pure [some a, some b, none] := by kernel_rfl
theorem call_pow2 {prog : Program} {w : World} {A : Around} {E : Value → Shared → Prop} {s : Shared} {a b : Value} {Q : Value → Shared → Prop}
    (h : wpAny (model prog w) A.in1 (binaryOp .Pow a b) Q E s) : wpAny (model prog w) A (call (.builtin "pow") [a, b]) Q E s := by
  refine Calls.call_function_entry kind_powT plain_powT entry_powT (args_powT2 _ _) ?_
  unfold Builtin.«pow»
  rw [bind_pow2]
  show wpAny _ _ (do ret (← binaryOp .Pow a b)) _ _ s
  exact wpAny_bind (wpAny_mono h (fun v s' hq => wpAny_pure ⟨v, rfl, hq⟩) fun _ _ e => e)
section
variable {F : Fx}
theorem se_pow2 {x : Str} {p pos : Pos} {a b : Expr} {ma mb : ME} (hxe : x = "pow") (hx : x ∈ F.bt) (hk : F.sc.names.lookup x = some .globalImplicit) (hn : notStar a = true) (hn2 : notStar b = true) (ha : SE F a ma) (hb : SE F b mb) : SE F (.Call (.Name x p) [a, b] [] pos) (.bin .pow ma mb) := by
  intro c d FO hg hsc ok rm l hp Q X hev fr s P E R hP hX
  subst hxe
  refine Call_ (nameB FO hg hsc ok hx (v := .builtin "pow") boot_powT hk (by decide) (by decide) R ?_) rfl
  refine PyProof.Rows.callWith_builtin1 ?_ (starEach_cons hn) (by rw [starEach_cons hn2]; rfl)
  refine spliced_more (ha c d FO hg hsc ok rm l hp _ X hev fr s _ E R (fun v y h1 hh tk hq hy R1 => ?_) hX) (starEach_cons hn)
  refine spliced_more (hb c d FO hg hsc ok rm l h1 _ X hq fr _ _ E R1 (fun w z h2 hh2 tk2 hq2 hz R2 => ?_) hX) (starEach_cons hn2)
  refine spliced_none ?_
  unfold binV at hq2
  split at hq2
  · rename_i i j
    obtain ⟨t, rfl⟩ := absV_int hy
    obtain ⟨u, rfl⟩ := absV_int hz
    exact call_pow2 (PyProof.Rows.pow_int hq2.1.1 hq2.1.2 (hP _ _ h2 hh2 _ hq2.2 rfl R2))
  · exact hq2.elim
  · exact hq2.elim
end
open PySem.Builtin PySem.Builtin.Str
theorem call_repr10 {prog : Program} {w : World} {A : Around} {E : Value → Shared → Prop} {s : Shared} {a : Int} {t : Tok} {Q : Value → Shared → Prop} (hn : s.heap.NoDigits) (hlt : a.natAbs < 10 ^ 4300)
    (h1 : Q (.str (toString a) s.toks) { s with toks := s.toks + 1 }) :
    wpAny (model prog w) A (call (.builtin "int.__repr__") [.int a t]) Q E s := by
  refine wpAny_call_entry F.slot_int_repr (typeIs_int s a t) F.entry_int_repr ?_ (F.args_int_repr_1 _)
  unfold Builtin.«int.__repr__»
  show wpAny _ _ (do let r ← Builtin.overDigitLimit? a; _) _ _ s
  refine wpAny_bind (overDigitLimit_any hn (fun hlt => ?_) (fun hge => ?_))
  · exact wpAny_bind (wpAny_mkStr (wpAny_pure ⟨_, rfl, h1⟩) (int_text_fits10 hlt))
  · exfalso; generalize 10 ^ 4300 = z at hge hlt; omega
theorem repr_len {m : Nat} (h : m < 10 ^ 4300) : (Str.ofString (toString (m : Int))).length ≤ 4300 := by
  rw [PySem.ofString_length]
  exact (Nat.length_repr_le_iff (by decide)).mpr h
theorem pint_len (c : Percent) (h1 : c.alt = false) (h2 : c.type = 100) (h3 : c.prec = none) (b : Bool) (d : List Nat) : (percentInt c b d).length ≤ d.length + 1 := by
  unfold percentInt
  cases b <;> simp [h1, h2, h3]
theorem after_K {M : Model} {A : Around} {E : Value → Shared → Prop} {s : Shared} {l : List Nat} {p : List Value} {r : List Nat}
    {f : Nat → List Value × Writer × List Nat → Sem (ForInStep (List Value × Writer × List Nat))} {Q : List Value × Writer × List Nat → Shared → Prop} {w : Writer} {T x : PySem.Str} {N : Nat} {o : Option Value} (K : Nat)
    (g : KPc.Good w T N) (hx : x.length ≤ K) (ho : o = none) (h : ∀ w' T', KPc.Good w' T' (N + K) → wpAny M A (ForIn.forIn l (p, w', r) f) Q E s) : wpAny M A (ForIn.forIn l (p, w.add x o, r) f) Q E s :=
  h _ _ (KPc.good_mono (KPc.good_add g (KPc.obj_none ho)) (Nat.add_le_add_left hx _))
/-- the text of the error of a root -/
noncomputable def rootText : Str := ⟨#[37, 100, 32, 104, 97, 115, 32, 110, 111, 32, 114, 101, 97, 108, 32, 37, 100, 45, 116, 104, 32, 114, 111, 111, 116, 46]⟩
set_option maxHeartbeats 4000000 in
theorem meets_root {t u v : Tok} {b : Addr} {n k : Int} (hn : n.natAbs < 10 ^ 4300) (hk : k.natAbs < 10 ^ 4300) :
    Meets («str.__mod__» ⟨[.str ⟨#[37, 100, 32, 104, 97, 115, 32, 110, 111, 32, 114, 101, 97, 108, 32, 37, 100, 45, 116, 104, 32, 114, 111, 111, 116, 46]⟩ t, .ref b], []⟩) (fun _ R s => (s.heap.NoDigits ∧ IsTup s.heap b #[.int n u, .int k v]) ∧ ∀ T t' k', R (.ok (.ret (.str T t'))) { s with toks := k' }) := by
  refine Meets.of_wp fun prog w A R s hS => ?_
  obtain ⟨⟨hd, kptO, kptG, kptC, kptN, kptD⟩, hR⟩ := hS
  rw [KPt.entry_is_r]
  unfold Builtin.Str.percentFormat
  refine wpAny_bind (wpAny_isInstance (T := "tuple") ⟨kptO, kptG, kptC⟩ KPt.sub_tt ?_)
  refine wpAny_bind (KPt.asStr_ref kptG kptD ?_)
  refine wpAny_bind (KPt.fills_ref ⟨kptO, kptG, kptC⟩ ?_)
  intro _
  kpc_if
  refine wpAny_bind (wpAny_seqItems kptG kptD ?_)
  refine wpAny_bind (wpAny_pure ?_)
  refine wpAny_bind ?_
  rw [KPc.range_list]
  refine KPc.start ?_
  intro w0 g0
  refine KPc.turn ?_
  kpc_check
  repeat kpc_if
  refine wpAny_bind ?_
  refine wpAny_holding ?_
  repeat kpc_if
  refine wpAny_bind (wpAny_of_eq (a := _) rfl ?_)
  repeat kpc_if
  refine wpAny_bind (wpAny_mkInt ?_)
  refine wpAny_bind (call_repr10 hd hn ?_)
  refine wpAny_bind (wpAny_of_eq (a := some _) rfl ?_)
  refine wpAny_pure ?_
  refine wpAny_pure ?_
  refine after_K 4301 (by kpc_g) ?len1 (by kpc_none) ?_
  case len1 =>
    show (percentInt _ _ _).toArray.size ≤ 4301
    rw [List.size_toArray]
    exact Nat.le_trans (pint_len _ rfl rfl rfl _ _) (Nat.succ_le_succ (repr_len hn))
  intro w1 T1 g1
  refine KPc.turn ?_
  kpc_check
  repeat kpc_if
  refine wpAny_pure ?_
  kpc_piece
  refine KPc.turn ?_
  kpc_check
  repeat kpc_if
  refine wpAny_bind ?_
  refine wpAny_holding ?_
  repeat kpc_if
  refine wpAny_bind (wpAny_of_eq (a := _) rfl ?_)
  repeat kpc_if
  refine wpAny_bind (wpAny_mkInt ?_)
  refine wpAny_bind (call_repr10 hd hk ?_)
  refine wpAny_bind (wpAny_of_eq (a := some _) rfl ?_)
  refine wpAny_pure ?_
  refine wpAny_pure ?_
  refine after_K 4301 (by kpc_g) ?len2 (by kpc_none) ?_
  case len2 =>
    show (percentInt _ _ _).toArray.size ≤ 4301
    rw [List.size_toArray]
    exact Nat.le_trans (pint_len _ rfl rfl rfl _ _) (Nat.succ_le_succ (repr_len hk))
  intro w2 T2 g2
  refine KPc.turn ?_
  kpc_check
  repeat kpc_if
  refine wpAny_pure ?_
  kpc_piece
  refine KPc.turn ?_
  kpc_check
  repeat kpc_if
  refine wpAny_pure ?_
  kpc_if
  refine KPc.finish_ok (by kpc_g) (by decide +kernel) rfl ?_
  exact fun t' k' => ⟨_, rfl, hR _ t' k'⟩
section
variable {F : Fx}
/-- raise ValueError('%d has no real %d-th root.' % (n, k)) -/
theorem ss_raiseF {x t : Str} {np cpos pos kp tp bp : Pos} {k tk : Nat} {es : List Expr} {ms : ME} (hxe : x = "ValueError") (ht : t = rootText) (hx : x ∈ F.bt) (hk : F.sc.names.lookup x = some .globalImplicit) (hes : SEs F es ms) :
    SS F (.Raise (some (.Call (.Name x np) [.BinOp (.Constant (.str t) k kp) .Mod (.Tuple es tk tp) bp] [] cpos)) none pos) (.raiseF "ValueError" ms) := by
  intro c d FO hg hsc ok rm l hp Q X hev hcp fr s P E R hP hX
  subst hxe ht
  refine Raise_madeB PySem.F.excCall_ValueError PySem.F.excRaise_ValueError (handled_none ok) (nameB FO hg hsc ok hx (v := .type "ValueError") PyProof.Rows.Boot.«ValueError» hk (by decide) (by decide) R ⟨rfl, ?_⟩) rfl rfl
  refine spliced_more (wpAny_BinOp (Constant_str (Tuple_ ?_))) rfl
  refine hes c d FO hg hsc ok rm l hp _ X hev tp fr _ _ E R (fun vs vals h1 hh tk1 hq hv R1 => ?_) (hX l)
  dsimp only at hq
  split at hq
  · rename_i n m
    obtain ⟨v0, vals, rfl, hv0, hv⟩ : ∃ v0 r, vals = v0 :: r ∧ absV v0 = .int n ∧ r.map absV = [.int m] := by
      cases vals with
      | nil => cases hv
      | cons v r => exact ⟨v, r, rfl, List.head_eq_of_cons_eq hv, List.tail_eq_of_cons_eq hv⟩
    obtain ⟨v1, vals, rfl, hv1, hv⟩ : ∃ v0 r, vals = v0 :: r ∧ absV v0 = .int m ∧ r.map absV = [] := by
      cases vals with
      | nil => cases hv
      | cons v r => exact ⟨v, r, rfl, List.head_eq_of_cons_eq hv, List.tail_eq_of_cons_eq hv⟩
    obtain rfl : vals = [] := List.map_eq_nil_iff.mp hv
    obtain ⟨u, rfl⟩ := absV_int hv0
    obtain ⟨u2, rfl⟩ := absV_int hv1
    obtain ⟨g, m1, news, T, Fm, lo, H, N, D⟩ := R1.parts
    refine newTuple_N Fm N (fun h' F' N' => ?_) (by simp [sizeLine_eq])
    have hnd : h'.NoDigits := Heap.NoDigits.keeps ok.top.nodigits fun b o e => F'.keep b o ((ok.turn T).below.stays b o e)
    refine KPt.bin_left (T := "str") (U := "tuple") (op := .Mod) (by decide) (typeIs_str _ _ _) ⟨_, (N' _ (.head _)).1, rfl⟩ PySem.F.fills_str_mod KPt.fills_tuple PySem.F.slot_str_mod
      (call_meets PySem.F.slot_str_mod (typeIs_str _ _ _) PySem.F.entry_str_mod (PySem.F.args_str_mod_2 _ _) (meets_root hq.1 hq.2.1) ⟨⟨hnd, ⟨_, (N' _ (.head _)).1, rfl, _, rfl⟩⟩, fun Tx t' k' => ⟨(fun e => nomatch e), ?_⟩⟩)
    refine spliced_none ⟨by simp [sizeLine_eq], fun h2 e hm => ?_⟩
    have N2 : News g c.L h' (news ++ fr) := fun p hp => N' p (.tail _ hp)
    exact hX l (.own "ValueError") e h1 h2 _ hq.2.2 ⟨D, g, m1, h', T, F', lo, .inr ⟨"ValueError", _, news, rfl, hm.of, H, N2⟩⟩
  · exact hq.elim
end
theorem ints_abs : ∀ {vs : List Value} {ns : List Int}, IntsAre vs ns → vs.map absV = ns.map V.int
  | _, _, .nil => rfl
  | _, _, .cons n t r => by simp only [List.map_cons, absV, List.cons.injEq, true_and]; exact ints_abs r
/-- the places of a row of names, of which some are cells -/
noncomputable def tgtC? (F : Fx) : List Expr → Option (List (Nat × Bool))
  | [] => some []
  | .Name x _ :: r => match tgtC? F r with
    | some is => match loc? F x with
      | some i => some ((i, false) :: is)
      | none => match fIdx F.names x 0 with
        | some i => if F.sc.names.lookup x = some .cell then some ((i, true) :: is) else none
        | none => none
    | none => none
  | _ :: _ => none
section
variable {F : Fx}
theorem tgtC?_assign {c : Cx} (FO : F.Ok) (hsc : SCF c F) (ok : c.Ok) (hcp : c.cp = none) : ∀ {ts : List Expr} {is : List (Nat × Bool)}, tgtC? F ts = some is →
    ((assignEach ts c.env).length = ts.length ∧ ts.length = is.length ∧ List.findIdx? (fun x => x.fst) (assignEach ts c.env) = none) ∧
    ∀ (l : List V) (hp : HP) (fr : List (Addr × Obj)) (s : Shared) (vs : List V) (vals : List Value) (K : List V → HP → Prop) (P : Unit → Shared → Prop) (E : Value → Shared → Prop), vals.map absV = vs → putN l is vs hp K → Rep c F.names l hp fr s.heap →
      (∀ l' hp' h' tk', K l' hp' → Rep c F.names l' hp' fr h' → P () { s with heap := h', toks := tk' }) →
      wpAny (model c.g.prog c.g.w) c.A (assignInOrder ((assignEach ts c.env).map (fun x => x.snd)) vals) P E s
  | [], is, h => by
    cases h
    refine ⟨⟨rfl, rfl, rfl⟩, fun l hp fr s vs vals K P E hv hq R hP => ?_⟩
    cases vals with
    | nil => subst hv; exact assignInOrder_nil (hP _ _ s.heap s.toks hq R)
    | cons y r => subst hv; exact hq.elim
  | e :: r, is, h => by
    cases e <;> first | (simp only [tgtC?, reduceCtorEq] at h; done) | skip
    rename_i x p
    simp only [tgtC?] at h
    split at h
    · rename_i js hr
      obtain ⟨⟨a1, a2, a3⟩, ih⟩ := tgtC?_assign FO hsc ok hcp hr
      split at h
      · rename_i i hi
        cases h
        obtain ⟨b1, b2, b3⟩ := loc?_spec hi
        refine ⟨⟨by simp [assignEach, a1], by simp [a2], by simp [assignEach, List.findIdx?_cons, a3]⟩, fun l hp fr s vs vals K P E hv hq R hP => ?_⟩
        cases vals with
        | nil => subst hv; exact hq.elim
        | cons y ys' =>
          subst hv
          show wpAny _ _ (assignInOrder (assign (.Name x p) c.env :: (assignEach r c.env).map (fun x => x.snd)) (y :: ys')) P E s
          refine assignInOrder_cons (PyProof.Rows.assign_Name (storeS FO hsc ok hcp b1 b2 R rfl fun h' tk' R' => ?_))
          exact ih _ _ _ _ _ _ _ _ _ rfl hq R' fun l2 hp2 h2 tk2 hq2 R2 => hP l2 hp2 h2 tk2 hq2 R2
      · split at h
        · rename_i i hi
          split at h
          · rename_i hcell
            cases h
            have b1 : F.names[i]? = some x := by simpa using (fIdx_get hi).2
            refine ⟨⟨by simp [assignEach, a1], by simp [a2], by simp [assignEach, List.findIdx?_cons, a3]⟩, fun l hp fr s vs vals K P E hv hq R hP => ?_⟩
            cases vals with
            | nil => subst hv; exact hq.elim
            | cons y ys' =>
              subst hv
              rw [List.map_cons] at hq
              unfold putN at hq
              split at hq
              · rename_i a hla
                obtain ⟨⟨w, h0⟩, hq⟩ := hq
                show wpAny _ _ (assignInOrder (assign (.Name x p) c.env :: (assignEach r c.env).map (fun x => x.snd)) (y :: ys')) P E s
                refine assignInOrder_cons (PyProof.Rows.assign_Name (storeC hsc ok b1 hcell R hla h0 rfl fun h' tk' R' => ?_))
                exact ih _ _ _ _ _ _ _ _ _ rfl hq R' fun l2 hp2 h2 tk2 hq2 R2 => hP l2 hp2 h2 tk2 hq2 R2
              · exact hq.elim
          · cases h
        · cases h
    · cases h
theorem ss_asgC {ts es : List Expr} {k k' p p' pos} {is : List (Nat × Bool)} {ms : ME} (ht : tgtC? F ts = some is) (hs : swr F.sc ts es = some none) (hl : ts.length = es.length) (hsz : es.length ≤ 100) (hes : SEs F es ms) :
    SS F (.Assign [.Tuple ts k p] (.Tuple es k' p') pos) (.asgC is ms) := by
  intro c d FO hg hsc ok rm l hp Q X hev hcp fr s P E R hP hX
  obtain ⟨⟨a1, a2, a3⟩, hasg⟩ := tgtC?_assign (c := c) FO hsc ok hcp ht
  have hkf : F.sc.kind = .function := hsc.1 ▸ ok.kind
  have hsw : ∀ t, swapsWithSole [t] (.Tuple es k' p') pos.line c.env = pure false := fun t => swaps_plain (e := .Tuple es k' p') rfl (some t) pos.line c.env
  refine Assign_Tuple ?_ (hsw _) (swr_spec hs (c.env_scope.trans hsc.1) hkf)
  refine Tuple_ (hes c d FO hg hsc ok rm l hp _ X hev p' fr s _ E R (fun vs vals h1 hh tk hq hx R1 => ?_) (hX l))
  have hlv : vs.length = is.length := by
    have : ∀ (is : List (Nat × Bool)) (vs : List V) (l : List V) (h : HP) (K : List V → HP → Prop), putN l is vs h K → vs.length = is.length := by
      intro is
      induction is with
      | nil => intro vs l h K hq; cases vs with
        | nil => rfl
        | cons _ _ => exact hq.elim
      | cons q is ih =>
        intro vs l h K hq
        obtain ⟨i, b⟩ := q
        cases vs with
        | nil => cases b <;> exact hq.elim
        | cons v vs =>
          cases b with
          | false => simp only [List.length_cons]; rw [ih vs _ h K hq]
          | true =>
            unfold putN at hq
            split at hq
            · simp only [List.length_cons]; rw [ih vs _ _ K hq.2]
            · exact hq.elim
    exact this _ _ _ _ _ hq
  obtain ⟨g, m, news, T, Fm, lo, H, N, D⟩ := R1.parts
  have hvl : vals.length = vs.length := by rw [← hx]; simp
  refine newTuple_N Fm N (fun h' F' N' => ?_) (by rw [sizeLine_eq]; omega)
  refine unpackN_ F' N' (t := hh.objs.size) (items := vals.toArray) ⟨_, (N' _ (.head _)).1, rfl, _, rfl⟩ (handled_none ok) (by rw [a1, a2, ← hlv, ← hvl]; simp) a3 fun h2 F2 N2 => ?_
  exact hasg _ _ _ _ vs vals.toArray.toList _ _ _ (by simpa [rVs] using hx) hq (Rep.of T F2 lo H (fun p hp => N2 p (.tail _ hp)) D) fun l3 hp3 h3 tk3 hq3 R3 => hP .next .next _ _ h3 tk3 hq3 trivial R3
end
theorem Rep.its {c : Cx} {names l hp fr h h'} {os os' : List (Addr × Obj)} (R : Rep c names l hp (os ++ fr) h) (hcp : c.cp = none) (ha : ∀ p ∈ os', p.1 ∈ os.map (·.1))
    (hs : ∀ b ob, b ∉ os.map (·.1) → h.get? b = some ob → h'.get? b = some ob) (ho : ∀ p ∈ os', h'.get? p.1 = some p.2) (hfr : ∀ p ∈ fr, p.1 ∉ os.map (·.1)) : Rep c names l hp (os' ++ fr) h' := by
  obtain ⟨g, T, m, Fm, lo, H, N, D⟩ := R
  have Ni : ∀ a, a ∈ os.map (·.1) → a ≠ c.L ∧ g.get? a = none ∧ hp a = none := fun a ha => by
    obtain ⟨p, hp', rfl⟩ := List.mem_map.mp ha
    exact ⟨(N p (List.mem_append_left _ hp')).2.1, (N p (List.mem_append_left _ hp')).2.2, D p (List.mem_append_left _ hp')⟩
  refine ⟨g, T, m, ⟨Fm.ns.at' fun ob e => hs _ _ (fun q => (Ni _ q).1 rfl) e, fun b ob e => hs b ob (fun q => by rw [(Ni _ q).2.1] at e; cases e) (Fm.keep b ob e), Fm.above⟩, lo.any hcp, ⟨H.1, fun a x hx => ?_⟩, fun p hp' => ?_, fun p hp' => ?_⟩
  · have := H.2 a x hx
    have hne : a ∉ os.map (·.1) := fun q => by rw [(Ni _ q).2.2] at hx; cases hx
    cases x with
    | ro vs => exact this
    | list vs => obtain ⟨ob, h1, h2⟩ := this; exact ⟨ob, hs _ _ hne h1, h2⟩
    | tup vs => obtain ⟨ob, h1, h2⟩ := this; exact ⟨ob, hs _ _ hne h1, h2⟩
    | cell vs => obtain ⟨ob, h1, h2⟩ := this; exact ⟨ob, hs _ _ hne h1, h2⟩
    | rng _ _ _ => obtain ⟨ob, h1, h2⟩ := this; exact ⟨ob, hs _ _ hne h1, h2⟩
    | dict _ => obtain ⟨ob, h1, h2⟩ := this; exact ⟨ob, hs _ _ hne h1, h2⟩
  · rcases List.mem_append.mp hp' with q | q
    · have := Ni p.1 (ha p q)
      exact ⟨ho p q, this.1, this.2.1⟩
    · exact ⟨hs _ _ (hfr p q) (N p (List.mem_append_right _ q)).1, (N p (List.mem_append_right _ q)).2⟩
  · rcases List.mem_append.mp hp' with q | q
    · exact (Ni p.1 (ha p q)).2.2
    · exact D p (List.mem_append_right _ q)
theorem Rep.less {c : Cx} {names l hp fr h} {os : List (Addr × Obj)} (R : Rep c names l hp (os ++ fr) h) (hcp : c.cp = none) : Rep c names l hp fr h := by
  obtain ⟨g, T, m, Fm, lo, H, N, D⟩ := R
  exact ⟨g, T, m, Fm, lo.any hcp, H, fun p hp' => N p (List.mem_append_right _ hp'), fun p hp' => D p (List.mem_append_right _ hp')⟩
theorem Rep.drops {c : Cx} {names l hp fr h h'} {os : List (Addr × Obj)} (R : Rep c names l hp (os ++ fr) h) (hcp : c.cp = none) (hfr : ∀ p ∈ fr, p.1 ∉ os.map (·.1))
    (hs : ∀ b ob, b ∉ os.map (·.1) → h.get? b = some ob → h'.get? b = some ob) : Rep c names l hp fr h' := R.its (os' := []) hcp (fun _ h => nomatch h) hs (fun _ h => nomatch h) hfr
/-- new objects that the store does not name -/
theorem Rep.news {c : Cx} {names l hp fr h h'} {os : List (Addr × Obj)} (ok : c.Ok) (R : Rep c names l hp fr h) (hcp : c.cp = none) (hs : ∀ b ob, h.get? b = some ob → h'.get? b = some ob)
    (ho : ∀ p ∈ os, h'.get? p.1 = some p.2 ∧ h.objs.size ≤ p.1) : Rep c names l hp (os ++ fr) h' := by
  obtain ⟨g, T, m, Fm, lo, H, N, D⟩ := R
  have up : ∀ {a : Addr} {o : Obj}, h.objs.size ≤ a → h.get? a = some o → False := fun ha e => absurd (Heap.lt_size e) (Nat.not_lt.mpr ha)
  refine ⟨g, T, m, ⟨Fm.ns.at' fun ob e => hs _ _ e, fun b ob e => hs b ob (Fm.keep b ob e), Fm.above⟩, lo.any hcp, ⟨H.1, fun a x hx => ?_⟩, fun p hp' => ?_, fun p hp' => ?_⟩
  · have := H.2 a x hx
    cases x with
    | ro vs => exact this
    | list vs => obtain ⟨ob, h1, h2⟩ := this; exact ⟨ob, hs _ _ h1, h2⟩
    | tup vs => obtain ⟨ob, h1, h2⟩ := this; exact ⟨ob, hs _ _ h1, h2⟩
    | cell vs => obtain ⟨ob, h1, h2⟩ := this; exact ⟨ob, hs _ _ h1, h2⟩
    | rng _ _ _ => obtain ⟨ob, h1, h2⟩ := this; exact ⟨ob, hs _ _ h1, h2⟩
    | dict _ => obtain ⟨ob, h1, h2⟩ := this; exact ⟨ob, hs _ _ h1, h2⟩
  · rcases List.mem_append.mp hp' with q | q
    · obtain ⟨a, b⟩ := ho p q
      obtain ⟨oL, es, ep, hL, _⟩ := Fm.ns
      refine ⟨a, fun e => ?_, ?_⟩
      · rw [e] at b; exact up b hL
      · cases e : g.get? p.1 with
        | none => rfl
        | some o => exact (up b (Fm.keep _ _ e)).elim
    · exact ⟨hs _ _ (N p q).1, (N p q).2⟩
  · rcases List.mem_append.mp hp' with q | q
    · obtain ⟨a, b⟩ := ho p q
      cases e : hp p.1 with
      | none => rfl
      | some o =>
        have := H.2 _ _ e
        cases o with
        | ro vs => obtain ⟨it, ⟨ob, hb, _⟩, _⟩ := this; exact (up b (Fm.keep _ _ ((ok.turn T).below.stays _ _ hb))).elim
        | list vs => obtain ⟨ob, h1, _⟩ := this; exact (up b h1).elim
        | tup vs => obtain ⟨ob, h1, _⟩ := this; exact (up b h1).elim
        | cell vs => obtain ⟨ob, h1, _⟩ := this; exact (up b h1).elim
        | rng _ _ _ => obtain ⟨ob, h1, _⟩ := this; exact (up b h1).elim
        | dict _ => obtain ⟨ob, h1, _⟩ := this; exact (up b h1).elim
    · exact D p q
section
variable {F : Fx}
/-- a loop whose rows come from objects of its own -/
theorem forSM {c : Cx} (FO : F.Ok) (hsc : SCF c F) (ok : c.Ok) (hcp : c.cp = none) {tgt : Expr} {b : List Stmt} {m : MS} {d : Nat} (hg : c.g = F.g) (rm : room c d) (hb : SB F b m) {n : Nat}
    {upd : Nat → List V → (List V → Prop) → Prop} {K : HP → Prop} {Q : Out → List V → HP → Prop} {l : List V} {hp : HP} {fr : List (Addr × Obj)} {s : Shared} {it : Addr} (It : Nat → List (Addr × Obj) → Prop)
    (next : ∀ k l hp os (s' : Shared) (PN : Option Value → Shared → Prop) (E : Value → Shared → Prop), K hp → It k os → Rep c F.names l hp (os ++ fr) s'.heap → k ≤ n →
      (∀ val h' tk', k < n → (∀ (K' : List V → Prop) (P : Unit → Shared → Prop), upd k l K' → (∀ l' os' h2 tk2, K' l' → It (k + 1) os' → Rep c F.names l' hp (os' ++ fr) h2 → P () { s' with heap := h2, toks := tk2 }) →
          wpAny (model c.g.prog c.g.w) c.A (letOwnedTupleGo tgt (.ref it) val) (fun _ s3 => wpAny (model c.g.prog c.g.w) c.A (assign tgt c.env val) P E s3) E { s' with heap := h', toks := tk' }) →
        PN (some val) { s' with heap := h', toks := tk' }) →
      (k = n → ∀ h' tk', Rep c F.names l hp fr h' → PN Option.none { s' with heap := h', toks := tk' }) → wpAny (model c.g.prog c.g.w) c.A (pyNext (.ref it)) PN E s')
    {os₀ : List (Addr × Obj)} (h0 : It 0 os₀) (R0 : Rep c F.names l hp (os₀ ++ fr) s.heap)
    (hK : ∃ I : Nat → List V → HP → Prop, I 0 l hp ∧
      (∀ k l h, k < n → I k l h → K h ∧ upd k l fun l1 => exec F.g d m l1 h (fun o l2 h2 => match o with
        | .next => I (k + 1) l2 h2 | .brk => Q .next l2 h2 | .ret v => Q (.ret v) l2 h2) noX) ∧
      (∀ l h, I n l h → K h ∧ Q .next l h)) {R : Result → Shared → Prop}
    (hR : ∀ o f l' hp' h' tk', Q o l' hp' → rO o f → Rep c F.names l' hp' fr h' → R (.ok f) { s with heap := h', toks := tk' }) :
    codeAny (model c.g.prog c.g.w) c.A (.forLoop tgt (.ref it) b [] c.env) R s := by
  obtain ⟨I, hI0, step, fin⟩ := hK
  refine codeAny_forLoop_any (fun j s' => ∃ k l' hp' os h' tk', j = n + 1 - k ∧ k ≤ n ∧ I k l' hp' ∧ It k os ∧ Rep c F.names l' hp' (os ++ fr) h' ∧ s' = { s with heap := h', toks := tk' }) ?_ _ ⟨0, l, hp, os₀, s.heap, s.toks, rfl, Nat.zero_le _, hI0, h0, R0, rfl⟩
  rintro j s' ⟨k, l1, hp1, os1, hh1, tk1, rfl, hk1, hI, hO, R1, rfl⟩
  have hKh : K hp1 := by
    by_cases hlt : k < n
    · exact (step k l1 hp1 hlt hI).1
    · have : k = n := by omega
      subst this
      exact (fin l1 hp1 hI).1
  refine next k l1 hp1 os1 _ _ _ hKh hO R1 hk1 (fun val h' tk' hlt item => ?_) (fun hkl h' tk' R2 => ?_)
  · dsimp only
    refine item _ _ (step k l1 hp1 hlt hI).2 fun l3 os3 h3 tk3 hq3 hO3 R3 => ?_
    refine hb c d FO hg hsc ok rm _ hp1 _ noX hq3 hcp _ _ _ _ R3 (fun o f l4 h4 hh4 tk4 hq4 hf R4 => ?_) fun _ => noXP
    cases o with
    | next =>
      cases f <;> first | exact hf.elim | skip
      exact ⟨n + 1 - (k + 1), by omega, k + 1, l4, h4, os3, hh4, tk4, rfl, hlt, hq4, hO3, R4, rfl⟩
    | brk =>
      cases f <;> first | exact hf.elim | skip
      exact hR .next .next l4 h4 hh4 tk4 hq4 trivial (R4.less hcp)
    | ret v =>
      cases f <;> first | exact hf.elim | skip
      exact hR (.ret v) _ l4 h4 hh4 tk4 hq4 hf (R4.less hcp)
  · dsimp only
    subst hkl
    exact wpAny_execs_nil (hR .next .next l1 hp1 h' tk' (fin l1 hp1 hI).2 trivial R2)
/-- a row that the loop's own tuple bears, taken apart -/
theorem assignT {c : Cx} (FO : F.Ok) (hsc : SCF c F) (ok : c.Ok) (hcp : c.cp = none) {ts : List Expr} {k p} {xs : List Str} {is : List Nat} (ht : tgt? F ts = some (xs, is)) {T : Addr} {items : Array Value} {l : List V} {hp : HP} {fr : List (Addr × Obj)} {s : Shared}
    {P : Unit → Shared → Prop} {E : Value → Shared → Prop} (hT : IsTup s.heap T items) (hl : items.size = is.length) (R : Rep c F.names l hp fr s.heap)
    (hP : ∀ h' tk', Rep c F.names (lsetN l is (items.toList.map absV)) hp fr h' → P () { s with heap := h', toks := tk' }) : wpAny (model c.g.prog c.g.w) c.A (assign (.Tuple ts k p) c.env (.ref T)) P E s := by
  obtain ⟨⟨a1, a2, a3⟩, hasg⟩ := tgt?_assign (c := c) FO hsc ok hcp ht
  obtain ⟨g, m', news, Tn, Fm, lo, H, N, D⟩ := R.parts
  refine unpackN_ Fm N hT (handled_none ok) (by rw [a1, a2, hl]) a3 fun h2 F2 N2 => ?_
  exact hasg _ _ _ _ _ items.toList _ _ rfl (by simpa using hl) (Rep.of Tn F2 lo H N2 D) fun h3 tk3 R3 => hP h3 tk3 R3
theorem enumR_get : ∀ (vs : List V) (j k : Nat), (enumR j vs)[k]? = (vs[k]?).map fun x => [V.int (j + k : Nat), x]
  | [], _, _ => rfl
  | x :: r, j, 0 => by simp [enumR]
  | x :: r, j, k + 1 => by
    simp only [enumR, List.getElem?_cons_succ]
    rw [enumR_get r (j + 1) k]
    congr 1
    funext x; congr 3; omega
theorem enumR_len : ∀ (vs : List V) (j : Nat), (enumR j vs).length = vs.length
  | [], _ => rfl
  | x :: r, j => by simp [enumR, enumR_len r]
theorem ss_forE {x : Str} {p pt pc pos : Pos} {a : Expr} {ma : ME} {ts : List Expr} {k} {xs : List Str} {is : List Nat} {b : List Stmt} {m : MS} (hxe : x = "enumerate") (hx : x ∈ F.bt) (hk : F.sc.names.lookup x = some .globalImplicit) (hn : notStar a = true)
    (ha : SE F a ma) (ht : tgt? F ts = some (xs, is)) (h2 : is.length = 2) (hb : SB F b m) : SS F (.For (.Tuple ts k pt) (.Call (.Name x p) [a] [] pc) b [] pos) (.forE is ma m) := by
  intro c d FO hg hsc ok rm l hp Q X hev hcp fr s P E R hP hX
  subst hxe
  refine wpAny_For (Call_ (nameB FO hg hsc ok hx (v := .type "enumerate") boot_enumerate hk (by decide) (by decide) R ?_) rfl) folded_call
  refine PyProof.Rows.callWith_type1 ?_ (starEach_cons hn) rfl
  refine spliced_more (ha c d FO hg hsc ok rm l hp _ X hev fr s _ E R (fun v y h1 hh tk hq hy R1 => ?_) (hX l)) (starEach_cons hn)
  refine spliced_none ?_
  cases v with
  | ref r =>
    cases absV_ref hy
    obtain ⟨vs, e1, I, i0, step, fin⟩ := hq
    obtain ⟨items, hi, hL⟩ := R1.listI ok e1
    refine call_enumerate_list hL fun h' he hit hz hs => ?_
    refine wpAny_pyIter_enum he ?_
    obtain ⟨oi, hoi, hci, hdi⟩ := hit
    have hne : hh.objs.size + 1 ≠ hh.objs.size := by omega
    have hfr : ∀ p ∈ fr, p.1 ∉ [hh.objs.size + 1, hh.objs.size] := fun p hp' q => by
      obtain ⟨_, _, _, _, _, _, N1, _⟩ := id R1
      have h3 : p.1 < hh.objs.size := Heap.lt_size (N1 p hp').1
      simp only [List.mem_cons, List.not_mem_nil, or_false] at q
      rcases q with q | q <;> rw [q] at h3
      · exact Nat.lt_irrefl _ (Nat.lt_of_succ_lt h3)
      · exact absurd h3 (Nat.lt_irrefl _)
    refine forSM FO hsc ok hcp hg rm hb (n := vs.length) (upd := fun k l K => ∃ v, vs[k]? = some v ∧ K (lsetN l is [.int k, v])) (K := fun h => h r = h1 r)
      (fun k os => ∃ old oi, os = [(hh.objs.size + 1, { cls := .type "enumerate", dict := none, data := .fields #[.none, .bool false, .ref hh.objs.size, rawInt k, .none, old], slots := #[] }), (hh.objs.size, oi)] ∧ oi.cls = .type "list_iterator" ∧ oi.data = .fields #[.ref r, .int k 0])
      (fun k l2 hp2 os s' PN E2 hK hO R2 hkn item fin2 => ?_) ⟨.none, oi, rfl, hci, hdi⟩ (R1.news ok hcp hs fun p hp' => ?_) ⟨I, i0, fun k l h hk hI => ?_, fun l h hI => fin l h (by rw [enumR_len]; exact hI)⟩ hP
    · obtain ⟨old, oi2, rfl, hc2, hd2⟩ := hO
      obtain ⟨_, _, _, _, _, _, N2, D2⟩ := id R2
      have he2 : IsEnum s'.heap (hh.objs.size + 1) hh.objs.size k old := (N2 _ (.head _)).1
      have hit2 : s'.heap.IsListIter hh.objs.size r k := ⟨oi2, (N2 _ (.tail _ (.head _))).1, hc2, hd2⟩
      obtain ⟨items2, hi2, hL2⟩ := R2.listI ok (by rw [hK]; exact e1)
      have hsz : items2.size = vs.length := by rw [← hi2]; simp
      by_cases hlt : k < vs.length
      · refine wpAny_pyNext_enum_item he2 hit2 hL2 (x := items2[k]) (by simp [hsz, hlt]) hne fun h3 heo hit3 ht3 hz3 hs3 => ?_
        refine item _ h3 _ hlt fun K' P' ⟨v, hv, hu⟩ hP' => ?_
        refine wpAny_letOwnedTupleGo_enum heo fun h4 he4 hs4 => ?_
        have hs4 : Heap.SameBut (hh.objs.size + 1) h3 h4 := hs4
        have hlt2 : hh.objs.size + 1 < s'.heap.objs.size := Heap.lt_size he2
        obtain ⟨oi3, hoi3, hc3, hd3⟩ := hit3
        have R4 : Rep c F.names l2 hp2 ([(hh.objs.size + 1, { cls := .type "enumerate", dict := none, data := .fields #[.none, .bool false, .ref hh.objs.size, rawInt ((k + 1 : Nat) : Int), .none, items2[k]], slots := #[] }), (hh.objs.size, oi3)] ++ fr) h4 := by
          refine R2.its hcp (fun p hp' => ?_) (fun b ob hb e => ?_) (fun p hp' => ?_) hfr
          · rcases List.mem_cons.mp hp' with rfl | hp'
            · exact .head _
            · rcases List.mem_cons.mp hp' with rfl | hp'
              · exact .tail _ (.head _)
              · cases hp'
          · simp only [List.map_cons, List.map_nil, List.mem_cons, List.not_mem_nil, or_false, not_or] at hb
            exact (hs4.2 b hb.1).trans (hs3 b ob hb.1 hb.2 e)
          · rcases List.mem_cons.mp hp' with rfl | hp'
            · exact he4
            · rcases List.mem_cons.mp hp' with rfl | hp'
              · exact (hs4.2 _ (Ne.symm hne)).trans hoi3
              · cases hp'
        have hT : IsTup h4 s'.heap.objs.size #[.int k s'.toks, items2[k]] := ⟨_, (hs4.2 _ (Nat.ne_of_gt hlt2)).trans ht3, rfl, _, rfl⟩
        refine assignT FO hsc ok hcp ht hT (by rw [h2]; rfl) R4 fun h5 tk5 R5 => ?_
        refine hP' _ _ h5 tk5 hu ⟨items2[k], oi3, rfl, hc3, hd3⟩ ?_
        have hv' : absV items2[k] = v := by
          have : (items2.toList.map absV)[k]? = some (absV items2[k]) := by simp [hsz, hlt]
          rw [hi2, hv] at this
          exact (Option.some.inj this).symm
        have e9 : (#[Value.int k s'.toks, items2[k]] : Array Value).toList.map absV = [V.int k, v] := by rw [← hv']; rfl
        rw [e9] at R5; exact R5
      · have hk : k = vs.length := by omega
        refine wpAny_pyNext_enum_end (handled_none ok) he2 hit2 hL2 (by simp [hsz]; omega) fun h3 hx3 => ?_
        refine fin2 hk h3 _ ?_
        exact (R2.drops hcp hfr fun b ob hb e => hx3 b ob (fun q => hb (by rw [q]; exact .tail _ (.head _))) e)
    · rcases List.mem_cons.mp hp' with rfl | hp'
      · exact ⟨he, by show hh.objs.size ≤ hh.objs.size + 1; omega⟩
      · rcases List.mem_cons.mp hp' with rfl | hp'
        · exact ⟨hoi, Nat.le_refl _⟩
        · cases hp'
    · obtain ⟨a, b⟩ := step k [.int k, vs[k]] l h (by rw [enumR_get]; simp [hk]) hI
      exact ⟨a, vs[k], by simp [hk], b⟩
  | _ => exact hq.elim
end
theorem instOf_spec {K : Frag} {x C : Addr} {od : Obj} (h : instOf K x = some (C, od)) : ∃ ox, ox.data = .plain ∧ ∀ hp : Heap, K.In hp → InstAt hp x ox C (some od) := by
  unfold instOf at h
  split at h
  · rename_i C' dx sl e
    cases q : K.lookup dx with
    | none => rw [q] at h; cases h
    | some od' =>
      rw [q] at h
      simp only [Option.map_some, Option.some.injEq, Prod.mk.injEq] at h
      obtain ⟨rfl, rfl⟩ := h
      exact ⟨_, rfl, fun hp X => InstAt.of_K X e q⟩
  · cases h
theorem intsOf_spec : ∀ {vs : List Value} {t : List Int}, intsOf vs = some t → ∀ {k : Nat} {r : Int}, t[k]? = some r → ∃ u, vs[k]? = some (.int r u)
  | [], t, h, k, r, e => by cases h; simp at e
  | v :: vs, t, h, k, r, e => by
    cases v <;> first | (simp only [intsOf, reduceCtorEq] at h; done) | skip
    rename_i i u
    simp only [intsOf] at h
    cases q : intsOf vs with
    | none => rw [q] at h; cases h
    | some t' =>
      rw [q] at h
      simp only [Option.map_some, Option.some.injEq] at h
      subst h
      cases k with
      | zero => simp at e; subst e; exact ⟨u, rfl⟩
      | succ k => exact intsOf_spec q (k := k) (by simpa using e)
section
variable {F : Fx}
theorem se_calli {x : Str} {y : String} {p pos : Pos} {e : Expr} {es : List Expr} {ms : ME} (hxy : x = Str.ofString y) (hk : F.sc.names.lookup x = some .globalImplicit) (hd : (x == ("__debug__" : Str)) = false)
    (hn : (e :: es).all notStar = true) (hes : SEs F (e :: es) ms) : SE F (.Call (.Name x p) (e :: es) [] pos) (.calli y ms) := by
  intro c d FO hg hsc ok rm l hp Q X hev fr s P E R hP hX
  simp only [List.all_cons, Bool.and_eq_true] at hn
  subst hxy
  obtain ⟨a, f, hg0, hc0, hev⟩ := hev
  unfold callB at hc0
  split at hc0
  · rename_i C od hin
    simp only [Bool.and_eq_true] at hc0
    obtain ⟨⟨h1, h2⟩, h3⟩ := hc0
    have h1' : findIn F.g.K (.ref C) "__call__" = some (some (.ref f)) := by
      unfold callOk at h1
      split at h1
      · rename_i f' eb; rw [eb, eq_of_beq h1]
      · cases h1
    have X0 : F.g.K.In s.heap := hg ▸ R.inK ok
    refine Call_ (Name_function_global (by rw [c.env_scope]; exact ok.kind) (by rw [c.env_kindOf, hsc.1]; exact hk) (loadGlobal_global (by rw [c.env_globals]; exact (topRead_of ok.top).g.keeps (R.keep ok)) (mg_of ok.inK (topRead_of ok.top).g (by rw [hg]; exact hg0)) ?_) hd) rfl
    obtain ⟨ox, hpl, I⟩ := instOf_spec hin
    refine kco_callWith X0 (I _ X0) hpl h1' ?_ (starEach_cons hn.1) (backTo_any hn.2)
    refine hes c d FO hg hsc ok rm l hp _ X hev pos fr s _ E R (fun vs xs h4 hh tk hq hxs R1 => ?_) hX
    have X1 : F.g.K.In hh := hg ▸ R1.inK ok
    refine ⟨⟨X1, I _ X1⟩, ?_⟩
    rw [List.nil_append]
    exact wpAny_call (kco_code (a := ⟨xs, []⟩) X1 (I _ X1) hpl h1' h2 h3 (hq c hg ok rm F.names l (.ref a :: xs) [] (by show absV (.ref a) :: xs.map absV = _; rw [hxs]; rfl) rfl fr { s with heap := hh, toks := tk } P E R1 hP hX.call))
  · cases hc0
theorem se_tabA {y nm : Str} {x : String} {py pa pos : Pos} {s : Nat} {i : Expr} {mi : ME} (hi : F.names[s]? = some y) (hk : F.sc.names.lookup y = some .local) (hd : (y == ("__debug__" : Str)) = false) (hx : nm = Str.ofString x) (hs : sliceOf i = false)
    (hmi : SE F i mi) : SE F (.Subscript (.Attribute (.Name y py) nm pa) i pos) (.tabA s x mi) := by
  intro c d FO hg hsc ok rm l hp Q X hev fr st P E R hP hX
  have hev : varV l s fun v => match v with
      | .ref a => ∃ t, tblAt F.g.K a (Str.ofString x) = some t ∧ ev F.g d mi l hp (fun w h1 => match w with | .int k => 0 ≤ k ∧ k < 2 ^ 62 ∧ ∃ r, t[k.toNat]? = some r ∧ Q (.int r) h1 | _ => False) X
      | _ => False := hev
  subst hx
  refine Subscript_ (Attribute_name (se_var hi hk hd c d FO hg hsc ok rm l hp (fun v h1 => h1 = hp ∧ v = lget l s) X ?_ fr st _ E R (fun v x1 h1 hh tk hq hx1 R1 => ?_) hX)) 
  · obtain ⟨h0, _⟩ := varV_iff.mp hev
    exact varV_iff.mpr ⟨h0, rfl, rfl⟩
  · obtain ⟨rfl, rfl⟩ := hq
    obtain ⟨_, hq⟩ := varV_iff.mp hev
    cases e : lget l s with
    | ref a =>
      rw [e] at hq hx1
      cases absV_ref hx1
      obtain ⟨t, ht, hq⟩ := hq
      unfold tblAt at ht
      split at ht
      · rename_i C od hin
        split at ht
        · rename_i hga
          split at ht
          · rename_i L hf
            split at ht
            · rename_i dd items n sl hL
              have X1 : F.g.K.In hh := hg ▸ R1.inK ok
              obtain ⟨ox, hpl, I⟩ := instOf_spec hin
              have hga' : findIn F.g.K (.ref C) "__getattribute__" = some (some (.builtin "object.__getattribute__")) := by
                unfold gaOk at hga
                split at hga
                · rename_i b eb; rw [eb, eq_of_beq hga]
                · cases hga
              refine get_value X1 (I _ X1) hga' hf rfl ?_
              have R2 : Rep c F.names l h1 fr hh := R1
              refine hmi c d FO hg hsc ok rm l h1 _ X hq fr _ _ E R2 (fun w y1 h2 hh2 tk2 hq2 hy R3 => ?_) hX
              cases w with
              | int k =>
                obtain ⟨u, rfl⟩ := absV_int hy
                obtain ⟨h0, hlt, r, hr, hq3⟩ := hq2
                obtain ⟨u2, hr2⟩ := intsOf_spec ht hr
                have X3 : F.g.K.In hh2 := hg ▸ R3.inK ok
                have hl : hh2.IsList L items := ⟨_, X3 _ _ hL, rfl, n, rfl⟩
                refine tail_any hl.typeIs slot_list_getitem.lookup ?_ (sub_plain hs _ _)
                exact wpAny_getItem_list hl h0 (by omega) (by rw [← Array.getElem?_toList]; exact hr2) (hP (V.int r) (.int r u2) h2 hh2 tk2 hq3 rfl R3)
              | _ => exact hq2.elim
            · cases ht
          · cases ht
        · cases ht
      · cases ht
    | _ => rw [e] at hq; exact hq.elim
end
noncomputable abbrev RE (F : Fx) (e : Expr) := Option { m : ME // SE F e m }
noncomputable abbrev RT (F : Fx) (e : Expr) := Option { m : ME // ST F e m }
noncomputable abbrev REs (F : Fx) (es : List Expr) := Option { m : ME // SEs F es m }
noncomputable abbrev RTB (F : Fx) (o : BoolOp) (es : List Expr) (pos : Pos) := Option { m : ME // STB F o es pos m }
noncomputable def glob? (F : Fx) (x : Str) : Bool := decide (F.sc.names.lookup x = some .globalImplicit) && !(x == ("__debug__" : Str))
theorem glob?_spec {F : Fx} {x : Str} (h : glob? F x = true) : F.sc.names.lookup x = some .globalImplicit ∧ (x == ("__debug__" : Str)) = false := by
  simp only [glob?, Bool.and_eq_true, decide_eq_true_eq, Bool.not_eq_true'] at h; exact h
noncomputable def bi? (F : Fx) (x : Str) : Bool := glob? F x && F.bt.contains x
theorem bi?_spec {F : Fx} {x : Str} (h : bi? F x = true) : x ∈ F.bt ∧ F.sc.names.lookup x = some .globalImplicit := by
  simp only [bi?, Bool.and_eq_true, List.contains_iff_mem] at h; exact ⟨h.2, (glob?_spec h.1).1⟩
noncomputable def instGlob (K : Frag) (x : Str) : Bool := match nsIn K mainGlobals x with
  | some (some (.ref a)) => (instOf K a).isSome
  | _ => false
/-- a call of a built-in of one argument -/
noncomputable def cB1 (F : Fx) (x : Str) (p pos : Pos) (a : Expr) (hb : bi? F x = true) (hn : notStar a = true) (ma : { m : ME // SE F a m }) : RE F (.Call (.Name x p) [a] [] pos) :=
  if h : x = "len" then some ⟨.len ma.1, se_len h (bi?_spec hb).1 (bi?_spec hb).2 hn ma.2⟩
  else if h : x = "int" then some ⟨.toInt ma.1, se_toInt h (bi?_spec hb).1 (bi?_spec hb).2 hn ma.2⟩
  else if h : x = "list" then some ⟨.listOf ma.1, se_listOf h (bi?_spec hb).1 (bi?_spec hb).2 hn ma.2⟩
  else if h : x = "str" then some ⟨.strOf ma.1, se_strOf h (bi?_spec hb).1 (bi?_spec hb).2 hn ma.2⟩
  else none
noncomputable def cB2 (F : Fx) (x : Str) (p pos : Pos) (a b : Expr) (hb : bi? F x = true) (hn : notStar a = true) (hn2 : notStar b = true) (ma : { m : ME // SE F a m }) (mb : { m : ME // SE F b m }) : RE F (.Call (.Name x p) [a, b] [] pos) :=
  if h : x = "divmod" then some ⟨.dvm ma.1 mb.1, se_dvm h (bi?_spec hb).1 (bi?_spec hb).2 hn hn2 ma.2 mb.2⟩
  else if h : x = "pow" then some ⟨.bin .pow ma.1 mb.1, se_pow2 h (bi?_spec hb).1 (bi?_spec hb).2 hn hn2 ma.2 mb.2⟩
  else none
/-- the place of a cell name -/
noncomputable def locC? (F : Fx) (x : Str) : Option Nat :=
  match fIdx F.names x 0 with
  | some i => if F.sc.names.lookup x = some .cell ∧ (x == ("__debug__" : Str)) = false then some i else none
  | none => none
theorem locC?_spec {F : Fx} {x : Str} {i : Nat} (h : locC? F x = some i) : F.names[i]? = some x ∧ F.sc.names.lookup x = some .cell ∧ (x == ("__debug__" : Str)) = false := by
  unfold locC? at h
  split at h
  · rename_i j hj
    split at h
    · rename_i e
      cases h
      exact ⟨by simpa using (fIdx_get hj).2, e.1, e.2⟩
    · cases h
  · cases h
noncomputable def ndB : List Str → Bool
  | [] => true
  | x :: r => !(r.contains x) && ndB r
theorem ndB_nodup : ∀ {l : List Str}, ndB l = true → l.Nodup
  | [], _ => List.nodup_nil
  | x :: r, h => by
    simp only [ndB, Bool.and_eq_true, Bool.not_eq_true', List.contains_eq_mem, decide_eq_false_iff_not] at h
    exact List.nodup_cons.mpr ⟨h.1, ndB_nodup h.2⟩
noncomputable def idxs (F : Fx) : List Str → Option (List Nat)
  | [] => some []
  | x :: r => match fIdx F.names x 0, idxs F r with
    | some i, some is => some (i :: is)
    | _, _ => none
noncomputable def freeOfS (scope : Scope) : List Str := (scope.names.filter (·.2 == .free)).map (·.1)
noncomputable def compB (F : Fx) (scope : Scope) (x : Str) (xs : List Str) (is : List Nat) : Bool :=
  (scope.kind == .function) && scope.names.all (fun y => !(y.2 == .cell)) && scope.names.all (fun y => !(y.2 == .local) || scope.names.lookup y.1 == some .local) && (scope.names.lookup x == some .local) &&
    (xs.length == is.length) && (xs.zip is).all (fun p => F.names[p.2]? == some p.1) && ndB (x :: xs)
theorem compB_spec {F : Fx} {scope : Scope} {x : Str} {is : List Nat} (h : compB F scope x (freeOfS scope) is = true) : CompOk F scope x (freeOfS scope) is := by
  simp only [compB, Bool.and_eq_true, beq_iff_eq] at h
  obtain ⟨⟨⟨⟨⟨⟨h1, h2⟩, h3⟩, h4⟩, h5⟩, h6⟩, h7⟩ := h
  refine ⟨h1, fun y hy e => ?_, fun y hy e => ?_, h4, rfl, h5, fun p hp => ?_, ndB_nodup h7⟩
  · have := List.all_eq_true.mp h2 y hy
    rw [e] at this; revert this; decide
  · have := List.all_eq_true.mp h3 y hy
    rw [e] at this; simpa using this
  · simpa using List.all_eq_true.mp h6 p hp
noncomputable def compX (F : Fx) (scope : Scope) (x : Str) : Option { is : List Nat // CompOk F scope x (freeOfS scope) is } :=
  match idxs F (freeOfS scope) with
  | some is => if h : compB F scope x (freeOfS scope) is = true then some ⟨is, compB_spec h⟩ else none
  | none => none
/-- a compiled comprehension -/
structure RC (F : Fx) (x : Str) (px : Pos) (iter : Expr) (ifs : List Expr) (scope : Scope) (pos : Pos) (elt : Expr) where
  m : ME
  is : List Nat
  co : CompOk F scope x (freeOfS scope) is
  hse : ∀ env v, foldedSetIterable iter env v = pure v
  run : CompRun F x (freeOfS scope) is scope px pos ifs iter elt m
mutual
noncomputable def cC (F : Fx) : Nat → (x : Str) → (px : Pos) → (iter : Expr) → (ifs : List Expr) → (scope : Scope) → (pos : Pos) → (elt : Expr) → Option (RC F x px iter ifs scope pos elt)
  | 0, _, _, _, _, _, _, _ => none
  | n + 1, x, px, iter, ifs, scope, pos, elt =>
      match compX F scope x with
      | none => none
      | some co => match cTs (F.inner scope (x :: freeOfS scope)) n ifs, cE (F.inner scope (x :: freeOfS scope)) n elt with
        | some mc, some me => (match iter with
          | .Call (.Name r pr) [a] [] pc => if hr : r = "range" ∧ bi? F r = true ∧ notStar a = true then (match cE F n a with
              | some ma => some ⟨.compR (.int 0) ma.1 (.int 1) mc.1 me.1 co.1, co.1, co.2, (fun _ => folded_call), (cr_compR1 co.2 hr.1 (bi?_spec hr.2.1).1 (bi?_spec hr.2.1).2 hr.2.2 ma.2 mc.2 me.2)⟩
              | none => none) else (match cE F n (.Call (.Name r pr) [a] [] pc) with
              | some mi => some ⟨.compL mi.1 mc.1 me.1 co.1, co.1, co.2, (fun _ => folded_call), cr_compL co.2 rfl mi.2 mc.2 me.2⟩
              | none => none)
          | .Call (.Name r pr) [a, b] [] pc => if hr : r = "range" ∧ bi? F r = true ∧ notStar a = true ∧ notStar b = true then (match cE F n a, cE F n b with
              | some ma, some mb => some ⟨.compR ma.1 mb.1 (.int 1) mc.1 me.1 co.1, co.1, co.2, (fun _ => folded_call), (cr_compR2 co.2 hr.1 (bi?_spec hr.2.1).1 (bi?_spec hr.2.1).2 hr.2.2.1 ma.2 hr.2.2.2 mb.2 mc.2 me.2)⟩
              | _, _ => none) else none
          | .Call (.Name r pr) [a, b, f] [] pc => if hr : r = "range" ∧ bi? F r = true ∧ notStar a = true ∧ notStar b = true ∧ notStar f = true then (match cE F n a, cE F n b, cE F n f with
              | some ma, some mb, some mf => some ⟨.compR ma.1 mb.1 mf.1 mc.1 me.1 co.1, co.1, co.2, (fun _ => folded_call), (cr_compR3 co.2 hr.1 (bi?_spec hr.2.1).1 (bi?_spec hr.2.1).2 hr.2.2.1 ma.2 hr.2.2.2.1 mb.2 hr.2.2.2.2 mf.2 mc.2 me.2)⟩
              | _, _, _ => none) else none
          | e => if hs : setE e = false then (match cE F n e with
              | some mi => some ⟨.compL mi.1 mc.1 me.1 co.1, co.1, co.2, (fun _ => folded_plain hs), (cr_compL co.2 hs mi.2 mc.2 me.2)⟩
              | none => none) else none)
        | _, _ => none
termination_by structural n => n
noncomputable def cE (F : Fx) : Nat → (e : Expr) → RE F e
  | 0, _ => none
  | n + 1, .Name x _ => match h : loc? F x with
    | some i => some ⟨.var i, se_var (loc?_spec h).1 (loc?_spec h).2.1 (loc?_spec h).2.2⟩
    | none => match h : locC? F x with
      | some i => some ⟨.cvar i, se_cvar (locC?_spec h).1 (locC?_spec h).2.1 (locC?_spec h).2.2⟩
      | none => none
  | n + 1, .ListComp elt [⟨.Name x px, iter, ifs, 0⟩] scope pos => if ht : F.top = true then
      match cC F n x px iter ifs scope pos elt with
      | some c => some ⟨c.m, se_comp c.co ht c.hse c.run⟩
      | none => none
    else none
  | n + 1, .Constant (.int i) _ _ => some ⟨.int i, se_int⟩
  | n + 1, .Constant (.bool b) _ _ => some ⟨.bool b, se_bool⟩
  | n + 1, .BinOp a o b _ => match h : opOf o, cE F n a, cE F n b with
    | some bo, some ma, some mb => some ⟨.bin bo ma.1 mb.1, se_bin h ma.2 mb.2⟩
    | _, _, _ => none
  | n + 1, .UnaryOp .USub a _ => (cE F n a).map fun ma => ⟨.neg ma.1, se_neg ma.2⟩
  | n + 1, .UnaryOp .Not a _ => (cE F n a).map fun ma => ⟨.not ma.1, se_not ma.2 fun _ _ _ _ _ _ h => PyProof.Rows.not_of h⟩
  | n + 1, .Compare a [.Is] [.Constant .none _ _] _ => (cE F n a).map fun ma => ⟨.isn ma.1 true, se_isn ma.2⟩
  | n + 1, .Compare a [.IsNot] [.Constant .none _ _] _ => (cE F n a).map fun ma => ⟨.isn ma.1 false, se_isnn ma.2⟩
  | n + 1, .Compare a [o] [b] _ => match h : cmpOf o, cE F n a, cE F n b with
    | some bo, some ma, some mb => some ⟨.cmp bo ma.1 mb.1, se_cmp h ma.2 mb.2⟩
    | _, _, _ => none
  | n + 1, .BoolOp o [a] _ => (cE F n a).map fun ma => ⟨ma.1, se_and_one o ma.2⟩
  | n + 1, .BoolOp .And (a :: b :: r) pos => match cE F n a, cE F n (.BoolOp .And (b :: r) pos) with
    | some ma, some mb => some ⟨.and ma.1 mb.1, se_and ma.2 mb.2⟩
    | _, _ => none
  | n + 1, .BoolOp .Or (a :: b :: r) pos => match cE F n a, cE F n (.BoolOp .Or (b :: r) pos) with
    | some ma, some mb => some ⟨.or ma.1 mb.1, se_or ma.2 mb.2⟩
    | _, _ => none
  | n + 1, .IfExp a b e _ => match cT F n a, cE F n b, cE F n e with
    | some ma, some mb, some me => some ⟨.ite ma.1 mb.1 me.1, se_ite ma.2 mb.2 me.2⟩
    | _, _, _ => none
  | n + 1, .Tuple es _ _ => (cEs F n es).map fun ms => ⟨.tup ms.1, se_tup ms.2⟩
  | n + 1, .List es _ => (cEs F n es).map fun ms => ⟨.list ms.1, se_list ms.2⟩
  | n + 1, .Subscript a (.Slice (some i) none none p) pos => match cE F n a, cE F n i with
    | some ma, some mi => some ⟨.slcF ma.1 mi.1, se_slcF ma.2 mi.2⟩
    | _, _ => none
  | n + 1, .Subscript (.Attribute (.Name y py) nm pa) i _ => match h : loc? F y with
    | some s => if hh : nm = Str.ofString nm.toString ∧ sliceOf i = false then (cE F n i).map fun mi => ⟨.tabA s nm.toString mi.1, se_tabA (loc?_spec h).1 (loc?_spec h).2.1 (loc?_spec h).2.2 hh.1 hh.2 mi.2⟩ else none
    | none => none
  | n + 1, .Subscript a i _ => if h : sliceOf i = false then match cE F n a, cE F n i with
      | some ma, some mi => some ⟨.idx ma.1 mi.1, se_idx h ma.2 mi.2⟩
      | _, _ => none
    else none
  | n + 1, .Call (.Attribute o nm apos) [] [] pos => if hs : supE o = false ∧ (apos.endLine == pos.line) = true then match cE F n o with
      | some mo => if h : nm = "reverse" then some ⟨.rev mo.1, se_rev h hs.1 hs.2 mo.2⟩
        else if h : nm = "bit_length" then some ⟨.bitlen mo.1, se_bitlen h hs.1 hs.2 mo.2⟩
        else none
      | none => none
    else none
  | n + 1, .Call (.Attribute o nm apos) [e] [] pos => if hs : supE o = false ∧ (apos.endLine == pos.line) = true then match cE F n o with
      | some mo => if h : nm = "append" then (if hn : notStar e = true then (cE F n e).map fun me => ⟨.app mo.1 me.1, se_app h hs.1 hs.2 hn mo.2 me.2⟩ else none)
        else if h : nm = "pop" then (match e with
          | .Constant (.int 0) _ _ => some ⟨.pop0 mo.1, se_pop0 h hs.1 hs.2 mo.2⟩
          | _ => none)
        else none
      | none => none
    else none
  | n + 1, .Call (.Name x p) (e :: es) [] pos => match h : F.gt.lookup x with
    | some a => if hx : glob? F x = true ∧ (e :: es).all notStar = true then
        (cEs F n (e :: es)).map fun ms => ⟨.call a ms.1, se_call h (glob?_spec hx.1).1 (glob?_spec hx.1).2 hx.2 ms.2⟩
      else none
    | none => if hb : bi? F x = true then match es with
        | [] => if hn : notStar e = true then (match cE F n e with | some ma => cB1 F x p pos e hb hn ma | none => none) else none
        | [.Name T pT] => if hi : x = "isinstance" then (match hk : kdOf T with
              | some k => if hT : bi? F T = true ∧ notStar e = true then (cE F n e).map fun ma => ⟨.isi ma.1 k, se_isi hi (bi?_spec hb).1 (bi?_spec hb).2 (bi?_spec hT.1).1 (bi?_spec hT.1).2 hk hT.2 ma.2⟩ else none
              | none => none)
            else if hn : notStar e = true then (match cE F n e, cE F n (.Name T pT) with | some ma, some mb => cB2 F x p pos e (.Name T pT) hb hn rfl ma mb | _, _ => none) else none
        | [b] => if hn : notStar e = true ∧ notStar b = true then (match cE F n e, cE F n b with | some ma, some mb => cB2 F x p pos e b hb hn.1 hn.2 ma mb | _, _ => none) else none
        | _ => none
      else if hx : x = Str.ofString x.toString ∧ glob? F x = true ∧ (e :: es).all notStar = true ∧ instGlob F.g.K x = true then
        (cEs F n (e :: es)).map fun ms => ⟨.calli x.toString ms.1, se_calli hx.1 (glob?_spec hx.2.1).1 (glob?_spec hx.2.1).2 hx.2.2.1 ms.2⟩
      else none
  | _ + 1, _ => none
termination_by structural n => n
noncomputable def cEs (F : Fx) : Nat → (es : List Expr) → REs F es
  | 0, _ => none
  | n + 1, [] => some ⟨.nil, ses_nil⟩
  | n + 1, e :: r => if h : notStar e = true then match cE F n e, cEs F n r with
      | some me, some mr => some ⟨.cons me.1 mr.1, ses_cons h me.2 mr.2⟩
      | _, _ => none
    else none
termination_by structural n => n
noncomputable def cTs (F : Fx) : Nat → (es : List Expr) → Option { m : ME // STs F es m }
  | 0, _ => none
  | n + 1, [] => some ⟨.tv (.bool true), sts_nil⟩
  | n + 1, [e] => (cT F n e).map fun m => ⟨m.1, sts_one m.2⟩
  | _ + 1, _ => none
termination_by structural n => n
noncomputable def cT (F : Fx) : Nat → (e : Expr) → RT F e
  | 0, _ => none
  | n + 1, .Compare a [.Is] [.Constant .none _ _] _ => (cE F n a).map fun ma => ⟨.tv (.isn ma.1 true), st_isn ma.2⟩
  | n + 1, .Compare a [.IsNot] [.Constant .none _ _] _ => (cE F n a).map fun ma => ⟨.tv (.isn ma.1 false), st_isnn ma.2⟩
  | n + 1, .Compare a [o] [b] _ => match h : cmpOf o, cE F n a, cE F n b with
    | some bo, some ma, some mb => some ⟨.cmp bo ma.1 mb.1, st_cmp h ma.2 mb.2⟩
    | _, _, _ => none
  | n + 1, .Compare a [o, q] [b, e] _ => match h : cmpOf o, h' : cmpOf q, cE F n a, cE F n b, cE F n e with
    | some bo, some bq, some ma, some mb, some me => some ⟨.chain ma.1 bo mb.1 bq me.1, st_chain h h' ma.2 mb.2 me.2⟩
    | _, _, _, _, _ => none
  | n + 1, .UnaryOp .Not a _ => (cT F n a).map fun ma => ⟨.not ma.1, st_not ma.2⟩
  | n + 1, .BoolOp o es pos => (cTB F n o es pos).map fun m => ⟨m.1, st_of m.2⟩
  | n + 1, .IfExp a b e _ => match cT F n a, cT F n b, cT F n e with
    | some ma, some mb, some me => some ⟨.ite ma.1 mb.1 me.1, st_ite ma.2 mb.2 me.2⟩
    | _, _, _ => none
  | n + 1, e => if h : plainTest e = true then (cE F n e).map fun m => ⟨.tv m.1, st_tv h m.2⟩ else none
termination_by structural n => n
noncomputable def cTB (F : Fx) : Nat → (o : BoolOp) → (es : List Expr) → (pos : Pos) → RTB F o es pos
  | 0, _, _, _ => none
  | n + 1, .And, [a], pos => (cT F n a).map fun m => ⟨m.1, stb_and_one m.2⟩
  | n + 1, .Or, [a], pos => (cT F n a).map fun m => ⟨m.1, stb_or_one m.2⟩
  | n + 1, .And, a :: r, pos => match cT F n a, cTB F n .And r pos with
    | some ma, some mr => some ⟨.and ma.1 mr.1, stb_and ma.2 mr.2⟩
    | _, _ => none
  | n + 1, .Or, a :: r, pos => match cT F n a, cTB F n .Or r pos with
    | some ma, some mr => some ⟨.or ma.1 mr.1, stb_or ma.2 mr.2⟩
    | _, _ => none
  | _, _, _, _ => none
termination_by structural n => n
end
noncomputable abbrev RS (F : Fx) (st : Stmt) := Option { m : MS // SS F st m }
noncomputable abbrev RB (F : Fx) (b : List Stmt) := Option { m : MS // SB F b m }
theorem or7 {b : BOp} (h : (b == .add || b == .sub || b == .mul || b == .fdiv || b == .mod || b == .shr || b == .band) = true) : b = .add ∨ b = .sub ∨ b = .mul ∨ b = .fdiv ∨ b = .mod ∨ b = .shr ∨ b = .band := by
  cases b <;> simp_all <;> revert h <;> decide
noncomputable def isTup : Expr → Bool
  | .Tuple .. => true
  | _ => false
theorem isTup_ne {e : Expr} (h : isTup e = false) : ∀ vs k' p', e ≠ .Tuple vs k' p' := by
  intro vs k p q; subst q; cases h
mutual
noncomputable def cS (F : Fx) : Nat → (st : Stmt) → RS F st
  | 0, _ => none
  | n + 1, .Assign [.Name x p] e pos => match h : loc? F x with
    | some i => if hc : compE e = false then (cE F 60 e).map fun m => ⟨.asg i m.1, ss_asg (loc?_spec h).1 (loc?_spec h).2.1 hc m.2⟩
      else (match e with
        | .ListComp elt [⟨.Name y px, iter, ifs, 0⟩] scope cpos => if hs : F.top = true ∧ swapB F x p scope cpos = true then (match cC F 60 y px iter ifs scope cpos elt with
            | some c => some ⟨.asg i c.m, ss_asgX c.co hs.1 c.hse c.run (loc?_spec h).1 (loc?_spec h).2.1 hs.2⟩
            | none => none) else none
        | _ => none)
    | none => match h : locC? F x with
      | some i => (cE F 60 e).map fun m => ⟨.casg i m.1, ss_casgX (locC?_spec h).1 (locC?_spec h).2.1 m.2⟩
      | none => none
  | n + 1, .Assign [.Tuple ts k p] (.Tuple es k' p') pos => match ht : tgt? F ts with
    | some (xs, is) => if hl : ts.length = es.length ∧ es.length ≤ 100 then
        (match hs : swr F.sc ts es with
        | some none => (cEs F 60 es).map fun m => ⟨.asgN is m.1, ss_asgN ht (.inl hs) hl.1 hl.2 m.2⟩
        | some (some ys) => if hy : ys = xs ∧ is.Nodup then (cEs F 60 es).map fun m => ⟨.asgN is m.1, ss_asgN ht (.inr ⟨by rw [hs, hy.1], hy.2⟩) hl.1 hl.2 m.2⟩ else none
        | none => none)
      else none
    | none => match ht : tgtC? F ts with
      | some is => if hl : swr F.sc ts es = some none ∧ ts.length = es.length ∧ es.length ≤ 100 then (cEs F 60 es).map fun m => ⟨.asgC is m.1, ss_asgC ht hl.1 hl.2.1 hl.2.2 m.2⟩ else none
      | none => none
  | n + 1, .Assign [.Tuple ts k p] e pos => match ht : tgt? F ts with
    | some (xs, is) => if hc : compE e = false ∧ isTup e = false then (cE F 60 e).map fun m => ⟨.unp is m.1, ss_unp ht (isTup_ne hc.2) hc.1 m.2⟩ else none
    | none => none
  | n + 1, .Assign [.Subscript o i p] e pos => if hc : compE e = false then
      (match cE F 60 o, cE F 60 i, cE F 60 e with
      | some mo, some mi, some me => some ⟨.setI mo.1 mi.1 me.1, ss_setI hc me.2 mo.2 mi.2⟩
      | _, _, _ => none) else none
  | n + 1, .AugAssign (.Name x p) o e pos => match h : loc? F x, ho : opOf o with
    | some i, some b => if hb : (b == .add || b == .sub || b == .mul || b == .fdiv || b == .mod || b == .shr || b == .band) = true then
        (cE F 60 e).map fun m => ⟨.aug i b m.1, ss_aug ho (or7 hb) (loc?_spec h).1 (loc?_spec h).2.1 m.2⟩ else none
    | _, _ => none
  | n + 1, .If t a b pos => match cT F 60 t, cSB F n a, cSB F n b with
    | some mt, some ma, some mb => some ⟨.ite mt.1 ma.1 mb.1, ss_if mt.2 ma.2 mb.2⟩
    | _, _, _ => none
  | n + 1, .While t a b pos => match cT F 60 t, cSB F n a, cSB F n b with
    | some mt, some ma, some mb => some ⟨.whil mt.1 ma.1 mb.1, ss_while mt.2 ma.2 mb.2⟩
    | _, _, _ => none
  | n + 1, .Return (some e) pos => (cE F 60 e).map fun m => ⟨.ret m.1, ss_ret m.2⟩
  | n + 1, .Break pos => some ⟨.brk, ss_brk⟩
  | n + 1, .Expr e pos => if hc : compE e = false then (cE F 60 e).map fun m => ⟨.expr m.1, ss_expr hc m.2⟩ else none
  | n + 1, .For (.Name x p) (.Call (.Name r pr) [a] [] pc) b [] pos => if hr : r = "range" then
      (match h : loc? F x with
      | some i => if hb : bi? F r = true ∧ notStar a = true then (match cE F 60 a, cSB F n b with
          | some ma, some mb => some ⟨.forR i (.int 0) ma.1 (.int 1) mb.1, ss_forR1 hr (bi?_spec hb.1).1 (bi?_spec hb.1).2 hb.2 ma.2 (loc?_spec h).1 (loc?_spec h).2.1 mb.2⟩
          | _, _ => none) else none
      | none => none)
      else (match h : loc? F x with
      | some i => (match cE F 60 (.Call (.Name r pr) [a] [] pc), cSB F n b with
          | some ma, some mb => some ⟨.forL i ma.1 mb.1, ss_forL rfl ma.2 (loc?_spec h).1 (loc?_spec h).2.1 mb.2⟩
          | _, _ => none)
      | none => none)
  | n + 1, .For (.Name x p) (.Call (.Name r pr) [a, e] [] pc) b [] pos => if hr : r = "range" then
      (match h : loc? F x with
      | some i => if hb : bi? F r = true ∧ notStar a = true ∧ notStar e = true then (match cE F 60 a, cE F 60 e, cSB F n b with
          | some ma, some me, some mb => some ⟨.forR i ma.1 me.1 (.int 1) mb.1, ss_forR2 hr (bi?_spec hb.1).1 (bi?_spec hb.1).2 hb.2.1 ma.2 hb.2.2 me.2 (loc?_spec h).1 (loc?_spec h).2.1 mb.2⟩
          | _, _, _ => none) else none
      | none => none)
      else none
  | n + 1, .For (.Name x p) (.Call (.Name r pr) [a, e, f] [] pc) b [] pos => if hr : r = "range" then
      (match h : loc? F x with
      | some i => if hb : bi? F r = true ∧ notStar a = true ∧ notStar e = true ∧ notStar f = true then (match cE F 60 a, cE F 60 e, cE F 60 f, cSB F n b with
          | some ma, some me, some mf, some mb => some ⟨.forR i ma.1 me.1 mf.1 mb.1, ss_forR3 hr (bi?_spec hb.1).1 (bi?_spec hb.1).2 hb.2.1 ma.2 hb.2.2.1 me.2 hb.2.2.2 mf.2 (loc?_spec h).1 (loc?_spec h).2.1 mb.2⟩
          | _, _, _, _ => none) else none
      | none => none)
      else none
  | n + 1, .For (.Name x p) it b [] pos => if hs : setE it = false then
      (match h : loc? F x with
      | some i => (match cE F 60 it, cSB F n b with
          | some ma, some mb => some ⟨.forL i ma.1 mb.1, ss_forL hs ma.2 (loc?_spec h).1 (loc?_spec h).2.1 mb.2⟩
          | _, _ => none)
      | none => none)
      else none
  | n + 1, .For (.Tuple ts k pt) (.Call (.Name x p) [a] [] pc) b [] pos => match ht : tgt? F ts with
      | some (xs, is) => if h : x = "enumerate" ∧ bi? F x = true ∧ notStar a = true ∧ is.length = 2 then (match cE F 60 a, cSB F n b with
          | some ma, some mb => some ⟨.forE is ma.1 mb.1, ss_forE h.1 (bi?_spec h.2.1).1 (bi?_spec h.2.1).2 h.2.2.1 ma.2 ht h.2.2.2 mb.2⟩
          | _, _ => none)
        else (match cE F 60 (.Call (.Name x p) [a] [] pc), cSB F n b with
          | some ma, some mb => some ⟨.forU is ma.1 mb.1, ss_forU rfl ma.2 ht mb.2⟩
          | _, _ => none)
      | none => none
  | n + 1, .For (.Tuple ts k p) it b [] pos => if hs : setE it = false then
      (match h : tgt? F ts with
      | some (xs, is) => (match cE F 60 it, cSB F n b with
          | some ma, some mb => some ⟨.forU is ma.1 mb.1, ss_forU hs ma.2 h mb.2⟩
          | _, _ => none)
      | none => none)
      else none
  | _ + 1, .Raise (some (.Call (.Name x np) [.Constant (.str t) k kp] [] cpos)) none pos => if h : x = "ValueError" ∧ bi? F x = true then some ⟨.raise "ValueError", ss_raise h.1 (bi?_spec h.2).1 (bi?_spec h.2).2⟩ else some ⟨.stop, ss_stop⟩
  | _ + 1, .Raise (some (.Call (.Name x np) [.BinOp (.Constant (.str t) k kp) .Mod (.Tuple es tk tp) bp] [] cpos)) none pos => if h : x = "ValueError" ∧ t = rootText ∧ bi? F x = true then (match cEs F 60 es with
      | some ms => some ⟨.raiseF "ValueError" ms.1, ss_raiseF h.1 h.2.1 (bi?_spec h.2.2).1 (bi?_spec h.2.2).2 ms.2⟩
      | none => some ⟨.stop, ss_stop⟩) else some ⟨.stop, ss_stop⟩
  | _ + 1, _ => none
termination_by structural n => n
noncomputable def cSB (F : Fx) : Nat → (b : List Stmt) → RB F b
  | 0, _ => none
  | n + 1, [] => some ⟨.skip, sb_nil⟩
  | n + 1, st :: r => match cS F n st, cSB F n r with
    | some m, some mr => some ⟨.seq m.1 mr.1, sb_cons m.2 mr.2⟩
    | _, _ => none
termination_by structural n => n
end
noncomputable def namesOf (sc : Scope) : List Str := sc.names.filterMap fun (x, k) => if k == .local || k == .cell then some x else none
noncomputable abbrev mkF (g : G) (gt : List (Str × Addr)) (bt : List Str) (f : Addr) (tr : Bool := false) : Fx := ⟨g, gt, bt, namesOf (fnAt g.K f).scope, (fnAt g.K f).scope, true, tr⟩
theorem sb_of {F : Fx} {b : List Stmt} {n : Nat} {ms : MS} (h : (cSB F n b).map (fun m => m.1) = some ms) : SB F b ms := by
  cases q : cSB F n b with
  | none => rw [q] at h; cases h
  | some m => rw [q] at h; simp only [Option.map_some, Option.some.injEq] at h; exact h ▸ m.2
noncomputable def gtB (K : Frag) (gt : List (Str × Addr)) : Bool := gt.all fun p => (match nsIn K mainGlobals p.1 with | some (some (.ref a)) => a == p.2 | _ => false) && keepIn K (.ref p.2)
noncomputable def btB (K : Frag) (bt : List Str) : Bool := bt.all fun x => (match nsIn K mainGlobals x with | some Option.none => true | _ => false)
theorem lookup_mem {x : Str} {a : Addr} : ∀ {l : List (Str × Addr)}, l.lookup x = some a → (x, a) ∈ l
  | [], h => by cases h
  | (y, b) :: r, h => by
    rw [List.lookup_cons] at h
    cases q : x == y with
    | true => rw [q] at h; cases h; rw [beq_iff_eq.mp q]; exact .head _
    | false => rw [q] at h; exact .tail _ (lookup_mem h)
theorem fok {g : G} {gt : List (Str × Addr)} {bt : List Str} {names : List Str} {sc : Scope} (h1 : gtB g.K gt = true) (h2 : btB g.K bt = true) (h3 : ndB names = true) {tr : Bool} (h4 : tr = true → catchOk g := by intro h; cases h) : Fx.Ok ⟨g, gt, bt, names, sc, true, tr⟩ where
  tr := h4
  gt := fun x a h => by
    have := List.all_eq_true.mp h1 _ (lookup_mem h)
    simp only [Bool.and_eq_true] at this
    refine ⟨?_, this.2⟩
    have h := this.1
    split at h
    · rename_i b e; rw [e, eq_of_beq h]
    · cases h
  bt := fun x h => by
    have := List.all_eq_true.mp h2 _ h
    split at this
    · assumption
    · cases this
  nd := ndB_nodup h3
/-- the two stores agree on all that the first held, but at the places of S -/
noncomputable def Upto (S : List Addr) (hp hp' : HP) : Prop := ∀ b, b ∉ S → ∀ o, hp b = some o → hp' b = some o
theorem Upto.refl {S hp} : Upto S hp hp := fun _ _ _ h => h
theorem Upto.trans {S hp h1 h2} (a : Upto S hp h1) (b : Upto S h1 h2) : Upto S hp h2 := fun x hx o h => b x hx o (a x hx o h)
theorem Upto.new {S hp r o} (h : hp r = none) : Upto S hp (hset hp r o) := fun x _ o' e => by rw [hset_ne (fun q => by rw [q, h] at e; cases e)]; exact e
theorem Upto.set {S hp r o} (h : r ∈ S) : Upto S hp (hset hp r o) := fun x hx o' e => by rw [hset_ne (fun q => hx (by rw [q]; exact h))]; exact e
theorem Upto.mono {S T hp hp'} (a : Upto S hp hp') (h : ∀ x ∈ S, x ∈ T) : Upto T hp hp' := fun x hx o e => a x (fun q => hx (h x q)) o e
theorem Upto.at {S hp hp' a o} (u : Upto S hp hp') (h : hp a = some o) (hn : a ∉ S := by simp) : hp' a = some o := u a hn o h
theorem ne_of_none {hp : HP} {a b : Addr} {o : O} (h : hp a = none) (h' : hp b = some o) : b ≠ a := fun e => by rw [e, h] at h'; cases h'
theorem turnNil {g g' h : Heap} {L : Addr} {m : Str → Option Value} (T : KtsTurn [] g g') (F : Fr g' L h m) : Fr g L h m :=
  ⟨F.ns, fun b o e => F.keep b o (T.other b o e (by simp)), by rw [← T.size]; exact F.above⟩
/-- the end of a law: its body walked in its own frame -/
theorem law_end {F : Fx} (FO : F.Ok) {body : List Stmt} {ms : MS} (hb : SB F body ms) {c : Cx} (hg : c.g = F.g) (hsc : SCF c F) (ok : c.Ok) {d : Nat} (rm : room c d) {m : Str → Option Value} {s : Shared}
    (Fm : Fr c.h₀ c.L s.heap m) (hout : c.outer = []) {a : Addr} {vs : List Value} {ns : List Int} (hl : c.base.IsList a vs.toArray) (hi : IntsAre vs ns) {l : List V} (hcp : c.cp = none) (lo : Loc c.cl F.names l m)
    (hex : exec F.g d ms l (fun b => if b = a then some (.ro (ns.map .int)) else none) (fun o _ _ => o = .ret (.bool true)) noX)
    {Q : Flow → Shared → Prop} {E : Value → Shared → Prop} (hQ : ∀ h' tk' m', Fr c.h₀ c.L h' m' → Q (.ret (.bool true)) { s with heap := h', toks := tk' }) :
    wpAny (model c.g.prog c.g.w) c.A (execs body c.env) Q E s := by
  have hv := ints_abs hi
  refine hb c d FO hg hsc ok rm l _ _ noX hex hcp [] s _ _ ⟨c.h₀, KtsTurn.refl, m, Fm, (LocX.plain hcp).mpr lo, ⟨⟨[a], fun b o h => ?_⟩, fun b o h => ?_⟩, (fun _ h => nomatch h), (fun _ h => nomatch h)⟩ (fun o f l' hp' h' tk' ho hf R' => ?_) fun _ => noXP
  · by_cases q : b = a
    · simp [q]
    · simp [q] at h
  · by_cases q : b = a
    · simp only [q, if_true, Option.some.injEq] at h
      subst h; subst q
      exact ⟨vs.toArray, hl, by simpa using hv⟩
    · simp [q] at h
  · subst ho
    cases f <;> first | exact hf.elim | skip
    cases absV_bool hf
    obtain ⟨g, T, m', F', _⟩ := R'
    refine hQ h' tk' m' (turnNil (g' := g) ?_ F')
    have : c.fs = [] := by show c.outer.filterMap _ = []; rw [hout]; rfl
    rw [← this]; exact T
theorem law_end' {prog : Program} {w : World} {K : Frag} {p : Program} {loose : List Str} {mean : ExcName → Option Value} {mg mb : Str → Option Value} {gt : List (Str × Addr)} {bt : List Str} {f : Addr} {tr : Bool}
    (FO : Fx.Ok (mkF ⟨prog, w, K, p, loose, mean, mg, mb⟩ gt bt f tr)) {body : List Stmt} {ms : MS} (hb : SB (mkF ⟨prog, w, K, p, loose, mean, mg, mb⟩ gt bt f tr) body ms)
    {s₁ : Shared} {h₁ : Heap} {tk : Nat} {qn : Str} {sc : Scope} {fa : Addr} {cd : Value} {m : Str → Option Value} {a : Addr} {vs : List Value} {ns : List Int}
    (T : Top p loose mean mg mb s₁.heap) (KX : K.In s₁.heap) (K0 : Below callerA s₁.heap [] s₁.heap) (hF : Fr s₁.heap s₁.heap.objs.size h₁ m) (hl : s₁.heap.IsList a vs.toArray) (hi : IntsAre vs ns)
    (hsc : sc = (fnAt K f).scope) (hk : sc.kind = .function) (hg : sc.isGenerator = false) (hc : sc.isCoroutine = false) (him : importsNone p = true) (htree : prog.given.tree = none)
    {x : Str} (hm : m = fun y => List.lookup y [(x, Value.ref a)].reverse) (hnm : (namesOf (fnAt K f).scope).take 1 = [x])
    {k : Nat} (hn : (namesOf (fnAt K f).scope).length - 1 = k)
    (hex : ∀ b, exec ⟨prog, w, K, p, loose, mean, mg, mb⟩ 40 ms (V.ref b :: List.replicate k V.unb) (fun c => if c = b then some (.ro (ns.map .int)) else none) (fun o _ _ => o = .ret (.bool true)) noX)
    {Q : Flow → Shared → Prop} {E : Value → Shared → Prop} (hQ : ∀ h' tk' m', Fr s₁.heap s₁.heap.objs.size h' m' → Q (.ret (.bool true)) { s₁ with heap := h', toks := tk' }) :
    wpAny (model prog w) (callerA.deeper (envOf qn sc s₁.heap.objs.size fa cd)) (execs body (envOf qn sc s₁.heap.objs.size fa cd)) Q E { s₁ with heap := h₁, toks := tk } := by
  subst hsc
  subst hn
  let c : Cx := { g := ⟨prog, w, K, p, loose, mean, mg, mb⟩, A₀ := callerA, base := s₁.heap, h₀ := s₁.heap, outer := [], L := s₁.heap.objs.size, qn := qn, fsc := (fnAt K f).scope, fa := fa, cd := cd, cl := [], cp := none }
  have ok : c.Ok := ⟨K0, KX, T, ktsDicts_nil, hk, hk, hg, hc, rfl, T.seer him, htree⟩
  refine law_end (c := c) FO hb rfl ⟨rfl, fun _ => rfl, fun _ _ => rfl⟩ ok (d := 40) ⟨(by show callerA.depth + 1 + 40 + 200 < recursionLimit; decide), (by show callerA.units + 3 + 8 * 40 + 200 < cLine; decide)⟩ hF rfl hl hi (l := V.ref a :: List.replicate ((namesOf (fnAt K f).scope).length - 1) V.unb) rfl ?_ (hex a) (fun h' tk' m' F' => hQ h' tk' m' F')
  rw [hm]
  exact Loc.start (binds := [(x, Value.ref a)]) FO.nd (by simpa using hnm) rfl
/-- the pool of a law: at p the cell x, the seed y and the list r of the numbers left -/
noncomputable def Pool (hp : HP) (p r : Addr) : Prop :=
  ∃ (x y : Int) (ns : List Int), hp p = some (.list [.int x, .int y, .ref r]) ∧ hp r = some (.list (ns.map .int)) ∧ p ≠ r ∧ 0 ≤ x ∧ 0 ≤ y ∧ ns.length < 1000
theorem Pool.up {S hp hp' p r} (P : Pool hp p r) (u : Upto S hp hp') (h1 : p ∉ S := by simp) (h2 : r ∉ S := by simp) : Pool hp' p r := by
  obtain ⟨x, y, ns, a, b, c⟩ := P
  exact ⟨x, y, ns, u.at a h1, u.at b h2, c⟩
noncomputable def drawTail : MS := (.seq (.ite (.cmp .gt (.idx (.var 0) (.int 0)) (.int 0))
      (.seq (.asg 4 (.bin .mod (.toInt (.idx (.var 0) (.int 0))) (.var 1)))
        (.seq (.setI (.var 0) (.int 0) (.bin .fdiv (.idx (.var 0) (.int 0)) (.var 1))) (.seq (.ret (.var 4)) .skip))) .skip)
    (.seq (.setI (.var 0) (.int 1) (.bin .mod (.toInt (.bin .add (.bin .mul (.idx (.var 0) (.int 1)) (.int 48271)) (.int 11))) (.int 2147483647)))
      (.seq (.ret (.bin .mod (.bin .fdiv (.bin .mod (.toInt (.bin .mul (.idx (.var 0) (.int 1)) (.idx (.var 0) (.int 1)))) (.int 2147483629)) (.int 32)) (.var 1))) .skip)))
noncomputable def drawMS : MS := .seq (.ite (.and (.cmp .eq (.idx (.var 0) (.int 0)) (.int 0)) (.cmp .ne (.idx (.var 0) (.int 2)) (.list .nil)))
    (.seq (.asg 2 (.toInt (.pop0 (.idx (.var 0) (.int 2)))))
      (.seq (.asg 3 (.ite (.cmp .ge (.var 2) (.int 0)) (.bin .mul (.int 2) (.var 2)) (.bin .sub (.neg (.int 1)) (.bin .mul (.int 2) (.var 2)))))
        (.seq (.setI (.var 0) (.int 0) (.ite (.cmp .ge (.var 3) (.bin .pow (.int 10) (.int 18))) (.var 3) (.int 0)))
          (.seq (.setI (.var 0) (.int 1) (.bin .add (.bin .mod (.toInt (.bin .add (.idx (.var 0) (.int 1)) (.bin .mul (.var 3) (.int 69621)))) (.int 2147483629)) (.int 3))) .skip)))) .skip)
  drawTail
theorem mul_small_left {a b : Int} (h : a.natAbs < 2 ^ 64) : IntMulOk a b := IntMulOk.of_left (PySem.intBits_le_64 (by omega) (by omega))
theorem mul_small_right {a b : Int} (h : b.natAbs < 2 ^ 64) : IntMulOk a b := IntMulOk.of_right (PySem.intBits_le_64 (by omega) (by omega))
theorem rdL_ints {hp : HP} : ∀ (ns : List Int), RdL hp (ns.map .int) (ns.map .int)
  | [] => .nil
  | n :: r => .cons (.int n) (rdL_ints r)
theorem Upto.at' {S hp a o q x} (_u : Upto S hp (hset hp q x)) (h : hp a = some o) (hn : a ≠ q) : hset hp q x a = some o := by rw [hset_ne hn]; exact h
theorem idxE {v w : V} {hp : HP} {Q : V → Prop} {a : Addr} {k : Int} {vs : List V} {x : V} (hv : v = .ref a) (hw : w = .int k) (e : itemsOf (hp a) = some vs) (hfit : vs.length < 2 ^ 62) (h0 : 0 ≤ k) (hx : vs[k.toNat]? = some x) (h : Q x) : idxV v w hp Q := by
  subst hv; subst hw
  have hl : k.toNat < vs.length := by
    rcases Nat.lt_or_ge k.toNat vs.length with q | q
    · exact q
    · rw [List.getElem?_eq_none q] at hx; cases hx
  refine ⟨vs, x, e, by omega, by omega, by omega, ?_, h⟩
  rw [if_neg (by omega)]; exact hx
theorem idx3 {hp : HP} {Q : V → Prop} {a : Addr} {k : Nat} {x y z u : V} (e : hp a = some (.list [x, y, z])) (hx : [x, y, z][k]? = some u) (h : Q u) : idxV (.ref a) (.int (k : Nat)) hp Q :=
  idxE rfl rfl (by rw [e]; rfl) (by simp) (by omega) (by simpa using hx) h
theorem setE' {hp : HP} {Q : HP → Prop} {a : Addr} {k : Nat} {x : V} {vs : List V} (e : hp a = some (.list vs)) (hk : k < vs.length) (hfit : vs.length < 2 ^ 62) (h : Q (hset hp a (.list (vs.set k x)))) : setV (.ref a) (.int (k : Nat)) x hp Q :=
  ⟨vs, e, by omega, by omega, by omega, by simpa using h⟩
theorem draw_exec {g : G} {d : Nat} {hp : HP} {p r : Addr} {many : Int} (P : Pool hp p r) (hm : 0 < many) {Q : V → HP → Prop} {X : XT}
    (h : ∀ v hp', 0 ≤ v → v < many → Pool hp' p r → Upto [p, r] hp hp' → Q (.int v) hp') :
    exec g d drawMS [.ref p, .int many, .unb, .unb, .unb] hp (retQ Q) X := by
  obtain ⟨x, y, ns, hp0, hr0, hne, hx, hy, hlen⟩ := P
  -- what stands behind the first if
  have tail : ∀ (x y : Int) (ns : List Int) (h1 : HP) (a b : V), h1 p = some (.list [.int x, .int y, .ref r]) → h1 r = some (.list (ns.map .int)) → 0 ≤ x → 0 ≤ y → ns.length < 1000 → Upto [p, r] hp h1 →
      exec g d drawTail [.ref p, .int many, a, b, .unb] h1 (retQ Q) X := by
    intro x y ns h1 a b e1 e2 hx hy hl u
    have m0 : many ≠ 0 := by omega
    refine idx3 (k := 0) e1 rfl ⟨fun ht => ?_, fun ht => ?_⟩
    · refine idx3 (k := 0) e1 rfl ⟨m0, ?_⟩
      refine idx3 (k := 0) e1 rfl ⟨m0, ?_⟩
      refine setE' (k := 0) e1 (by simp) (by simp) ?_
      have hx0 : 0 < x := by simpa [cmpI] using ht
      refine h _ _ ?_ ?_ ⟨x.fdiv many, y, ns, hset_same, ?_, hne, ?_, hy, hl⟩ (u.trans (Upto.set (by simp)))
      · show 0 ≤ x.fmod many; rw [Int.fmod_eq_emod_of_nonneg x (by omega)]; exact Int.emod_nonneg _ m0
      · show x.fmod many < many; rw [Int.fmod_eq_emod_of_nonneg x (by omega)]; exact Int.emod_lt_of_pos _ hm
      · rw [hset_ne (Ne.symm hne)]; exact e2
      · rw [Int.fdiv_eq_ediv_of_nonneg x (by omega)]; exact Int.ediv_nonneg (by omega) (by omega)
    · refine idx3 (k := 1) e1 rfl ⟨mul_small_right (by decide), ?_⟩
      refine ⟨trivial, ?_⟩
      refine ⟨(show (2147483647 : Int) ≠ 0 by decide), ?_⟩
      refine setE' (k := 1) e1 (by simp) (by simp) ?_
      have e3 := @hset_same h1 p (.list ([V.int x, V.int y, V.ref r].set 1 (.int ((y * 48271 + 11).fmod 2147483647))))
      have hy2 : 0 ≤ (y * 48271 + 11).fmod 2147483647 ∧ (y * 48271 + 11).fmod 2147483647 < 2147483647 := by
        rw [Int.fmod_eq_emod_of_nonneg _ (by omega)]; omega
      refine idx3 (k := 1) e3 rfl ?_
      refine idx3 (k := 1) e3 rfl ⟨mul_small_right (by omega), ?_⟩
      refine ⟨(show (2147483629 : Int) ≠ 0 by decide), ?_⟩
      refine ⟨(show (32 : Int) ≠ 0 by decide), m0, ?_⟩
      refine h _ _ ?_ ?_ ⟨x, _, ns, e3, ?_, hne, hx, hy2.1, hl⟩ (u.trans (Upto.set (by simp)))
      · show 0 ≤ Int.fmod _ many; rw [Int.fmod_eq_emod_of_nonneg _ (by omega)]; exact Int.emod_nonneg _ m0
      · show Int.fmod _ many < many; rw [Int.fmod_eq_emod_of_nonneg _ (by omega)]; exact Int.emod_lt_of_pos _ hm
      · rw [hset_ne (Ne.symm hne)]; exact e2
  refine idx3 (k := 0) hp0 rfl ⟨fun ht => ?_, fun ht => ⟨fun q => by simp at q, fun _ => tail x y ns hp _ _ hp0 hr0 hx hy hlen .refl⟩⟩
  refine idx3 (k := 2) hp0 rfl ⟨by decide, fun q hq => ?_⟩
  have hq1 := ne_of_none hq hp0
  have hq2 := ne_of_none hq hr0
  refine ⟨.list (ns.map .int), .list [], .list (by rw [hset_ne hq2]; exact hr0) (rdL_ints _), .list hset_same .nil, shaped_ints ns, by decide, fun he => ?_, fun he => ?_⟩
  · cases ns with
    | nil => simp [PyData.eqv, PyData.eqvAll] at he
    | cons n ns' =>
      have u0 : Upto [p, r] hp (hset hp q (.list [])) := .new hq
      refine idx3 (k := 2) (u0.at' hp0 hq1) rfl ?_
      refine ⟨.int n, ns'.map .int, by rw [hset_ne hq2]; exact hr0, by simp at hlen ⊢; rw [sizeLine_eq]; omega, ?_⟩
      have aft : ∀ (sz x1 : Int) (h2 : HP), h2 p = some (.list [.int x1, .int y, .ref r]) → h2 r = some (.list (ns'.map .int)) → 0 ≤ sz → 0 ≤ x1 → Upto [p, r] hp h2 →
          exec g d (.seq (.setI (.var 0) (.int 1) (.bin .add (.bin .mod (.toInt (.bin .add (.idx (.var 0) (.int 1)) (.bin .mul (.var 3) (.int 69621)))) (.int 2147483629)) (.int 3))) .skip) [.ref p, .int many, .int n, .int sz, .unb] h2
            (fun o l1 h1 => match o with | .next => exec g d drawTail l1 h1 (retQ Q) X | .brk => retQ Q .brk l1 h1 | .ret v => retQ Q (.ret v) l1 h1) X := by
        intro sz x1 h2 e1 e2 h0 h3 u
        refine idx3 (k := 1) e1 rfl ⟨mul_small_right (by decide), ?_⟩
        refine ⟨trivial, (show (2147483629 : Int) ≠ 0 by decide), trivial, ?_⟩
        refine setE' (k := 1) e1 (by simp) (by simp) ?_
        refine tail x1 _ ns' _ _ _ hset_same ?_ h3 ?_ ?_ (u.trans (Upto.set (by simp)))
        · rw [hset_ne (Ne.symm hne)]; exact e2
        · show 0 ≤ Int.fmod _ 2147483629 + 3; rw [Int.fmod_eq_emod_of_nonneg _ (by omega)]; omega
        · simp at hlen ⊢; omega
      have u1 : Upto [p, r] hp (hset (hset hp q (.list [])) r (.list (ns'.map .int))) := u0.trans (Upto.set (by simp))
      have e1 : hset (hset hp q (.list [])) r (.list (ns'.map .int)) p = some (.list [.int x, .int y, .ref r]) := by rw [hset_ne hne, hset_ne hq1]; exact hp0
      have e2 : hset (hset hp q (.list [])) r (.list (ns'.map .int)) r = some (.list (ns'.map .int)) := hset_same
      have sz2 : ∀ sz : Int, 0 ≤ sz → exec g d (.seq (.setI (.var 0) (.int 0) (.ite (.cmp .ge (.var 3) (.bin .pow (.int 10) (.int 18))) (.var 3) (.int 0)))
          (.seq (.setI (.var 0) (.int 1) (.bin .add (.bin .mod (.toInt (.bin .add (.idx (.var 0) (.int 1)) (.bin .mul (.var 3) (.int 69621)))) (.int 2147483629)) (.int 3))) .skip)) [.ref p, .int many, .int n, .int sz, .unb] (hset (hset hp q (.list [])) r (.list (ns'.map .int)))
            (fun o l1 h1 => match o with | .next => exec g d drawTail l1 h1 (retQ Q) X | .brk => retQ Q .brk l1 h1 | .ret v => retQ Q (.ret v) l1 h1) X := by
        intro sz hsz
        refine ⟨⟨by decide, by decide⟩, fun _ => ?_, fun _ => ?_⟩
        · refine setE' (k := 0) e1 (by simp) (by simp) ?_
          exact aft sz sz _ hset_same (by rw [hset_ne (Ne.symm hne)]; exact e2) hsz hsz (u1.trans (Upto.set (by simp)))
        · refine setE' (k := 0) e1 (by simp) (by simp) ?_
          exact aft sz 0 _ hset_same (by rw [hset_ne (Ne.symm hne)]; exact e2) hsz (by decide) (u1.trans (Upto.set (by simp)))
      refine ⟨fun hc => ⟨mul_small_left (by decide), ?_⟩, fun hc => ⟨mul_small_left (by decide), trivial, ?_⟩⟩
      · have : 0 ≤ n := by simpa [cmpI] using hc
        exact sz2 (2 * n) (by omega)
      · have : n < 0 := by simpa [cmpI] using hc
        exact sz2 (-1 - 2 * n) (by omega)
  · exact tail x y ns _ _ _ (by rw [hset_ne hq1]; exact hp0) (by rw [hset_ne hq2]; exact hr0) hx hy hlen (.new hq)
noncomputable def poolMS : MS := .seq (.asg 1 (.ite (.cmp .gt (.len (.var 0)) (.int 0)) (.toInt (.idx (.var 0) (.int 0))) (.int 0)))
  (.seq (.asg 2 (.ite (.cmp .ge (.var 1) (.int 0)) (.bin .mul (.int 2) (.var 1)) (.bin .sub (.neg (.int 1)) (.bin .mul (.int 2) (.var 1)))))
    (.seq (.ret (.list (.cons (.ite (.cmp .ge (.var 2) (.bin .pow (.int 10) (.int 18))) (.var 2) (.int 0))
      (.cons (.bin .add (.bin .mod (.toInt (.bin .add (.bin .mul (.var 2) (.int 48271)) (.int 1009))) (.int 2147483629)) (.int 3))
        (.cons (.listOf (.slcF (.var 0) (.int 1))) .nil))))) .skip))
theorem pool_exec {g : G} {d : Nat} {hp : HP} {a : Addr} {ns : List Int} (ha : hp a = some (.ro (ns.map .int))) (hl : ns.length ≤ 63) {Q : V → HP → Prop} {X : XT}
    (h : ∀ p r hp', Pool hp' p r → Upto [] hp hp' → Q (.ref p) hp') :
    exec g d poolMS [.ref a, .unb, .unb] hp (retQ Q) X := by
  have hlen : (ns.map V.int).length = ns.length := by simp
  have last : ∀ f sz : Int, 0 ≤ sz → exec g d (.seq (.ret (.list (.cons (.ite (.cmp .ge (.var 2) (.bin .pow (.int 10) (.int 18))) (.var 2) (.int 0))
      (.cons (.bin .add (.bin .mod (.toInt (.bin .add (.bin .mul (.var 2) (.int 48271)) (.int 1009))) (.int 2147483629)) (.int 3))
        (.cons (.listOf (.slcF (.var 0) (.int 1))) .nil))))) .skip) [.ref a, .int f, .int sz] hp (retQ Q) X := by
    intro f sz hsz
    have fin : ∀ x : Int, 0 ≤ x → evs g d (.cons (.bin .add (.bin .mod (.toInt (.bin .add (.bin .mul (.var 2) (.int 48271)) (.int 1009))) (.int 2147483629)) (.int 3))
        (.cons (.listOf (.slcF (.var 0) (.int 1))) .nil)) [.ref a, .int f, .int sz] hp (fun vs h1 => (V.int x :: vs).length ≤ sizeLine ∧ ∀ r, h1 r = Option.none → (fun v h1 => retQ Q (.ret v) [.ref a, .int f, .int sz] h1) (.ref r) (hset h1 r (.list (V.int x :: vs)))) X := by
      intro x hx
      refine ⟨mul_small_right (by decide), trivial, (show (2147483629 : Int) ≠ 0 by decide), trivial, ?_⟩
      refine ⟨ns.map .int, by rw [ha]; rfl, by rw [hlen, sizeLine_eq]; omega, by decide, fun q hq => ?_⟩
      refine ⟨_, by rw [hset_same]; rfl, by simp; rw [sizeLine_eq]; omega, fun r hr => ?_⟩
      refine ⟨by simp; rw [sizeLine_eq]; omega, fun p hp' => ?_⟩
      have e1 := hset_none.mp hr
      have e2 := hset_none.mp hp'
      have e3 := hset_none.mp e2.2
      refine h p r _ ⟨x, _, ns.drop 1, hset_same, ?_, e2.1, hx, ?_, ?_⟩ (((Upto.new hq).trans (Upto.new hr)).trans (Upto.new hp'))
      · rw [hset_ne (Ne.symm e2.1), hset_same]; simp
      · show 0 ≤ Int.fmod _ 2147483629 + 3; rw [Int.fmod_eq_emod_of_nonneg _ (by omega)]; omega
      · simp; omega
    refine ⟨⟨by decide, by decide⟩, fun _ => ?_, fun _ => ?_⟩
    · exact fin sz hsz
    · exact fin 0 (by decide)
  have mid : ∀ f : Int, exec g d (.seq (.asg 2 (.ite (.cmp .ge (.var 1) (.int 0)) (.bin .mul (.int 2) (.var 1)) (.bin .sub (.neg (.int 1)) (.bin .mul (.int 2) (.var 1)))))
    (.seq (.ret (.list (.cons (.ite (.cmp .ge (.var 2) (.bin .pow (.int 10) (.int 18))) (.var 2) (.int 0))
      (.cons (.bin .add (.bin .mod (.toInt (.bin .add (.bin .mul (.var 2) (.int 48271)) (.int 1009))) (.int 2147483629)) (.int 3))
        (.cons (.listOf (.slcF (.var 0) (.int 1))) .nil))))) .skip)) [.ref a, .int f, .unb] hp (retQ Q) X := by
    intro f
    refine ⟨fun hc => ⟨mul_small_left (by decide), ?_⟩, fun hc => ⟨mul_small_left (by decide), trivial, ?_⟩⟩
    · have : 0 ≤ f := by simpa [cmpI] using hc
      exact last f (2 * f) (by omega)
    · have : f < 0 := by simpa [cmpI] using hc
      exact last f (-1 - 2 * f) (by omega)
  refine ⟨_, by rw [ha]; rfl, by rw [hlen]; omega, fun hc => ?_, fun hc => mid 0⟩
  cases ns with
  | nil => simp [cmpI] at hc
  | cons n ns' =>
    exact idxE rfl rfl (x := .int n) (by rw [ha]; rfl) (by simp at hl ⊢; omega) (by decide) (by simp) (mid n)
/-! plain facts -/
noncomputable def Bd (k : Nat) (x : Int) : Prop := x.natAbs < 2 ^ k
theorem Bd.mono {k j : Nat} {x : Int} (h : Bd k x) (hj : k ≤ j) : Bd j x := Nat.lt_of_lt_of_le h (Nat.pow_le_pow_right (by omega) hj)
theorem Bd.mul {k j : Nat} {x y : Int} (h : Bd k x) (h' : Bd j y) : Bd (k + j) (x * y) := by
  unfold Bd at *
  rw [Int.natAbs_mul, Nat.pow_add]
  exact Nat.mul_lt_mul'' h h'
theorem Bd.neg {k : Nat} {x : Int} (h : Bd k x) : Bd k (-x) := by unfold Bd at *; rw [Int.natAbs_neg]; exact h
theorem Bd.add {k : Nat} {x y : Int} (h : Bd k x) (h' : Bd k y) : Bd (k + 1) (x + y) := by
  unfold Bd at *
  have := Int.natAbs_add_le x y
  rw [Nat.pow_succ]; omega
theorem Bd.sub {k : Nat} {x y : Int} (h : Bd k x) (h' : Bd k y) : Bd (k + 1) (x - y) := by
  rw [Int.sub_eq_add_neg]; exact h.add h'.neg
theorem Bd.le {k : Nat} {x y : Int} (h : Bd k y) (hx : x.natAbs ≤ y.natAbs) : Bd k x := Nat.lt_of_le_of_lt hx h
theorem Bd.bits {k : Nat} {x : Int} (h : Bd k x) : Builtin.Int.intBits x ≤ k := by
  unfold Builtin.Int.intBits
  split
  · omega
  · rename_i hx
    have h0 : x.natAbs ≠ 0 := by simpa using hx
    have := (Nat.log2_lt h0).mpr h
    omega
theorem mulOk_bits {a b : Int} (h : Builtin.Int.intBits a + Builtin.Int.intBits b ≤ 2 ^ 27) : IntMulOk a b := by
  unfold IntMulOk Builtin.Int.intTooBig bitsLine
  simp only [Bool.and_eq_true, decide_eq_true_eq, not_and]
  intro _ h'
  omega
theorem Bd.mulOk {k j : Nat} {a b : Int} (h : Bd k a) (h' : Bd j b) (hk : k + j ≤ 2 ^ 27 := by decide) : IntMulOk a b :=
  mulOk_bits (Nat.le_trans (Nat.add_le_add h.bits h'.bits) hk)
theorem fmod_zero_iff {a b : Int} : a.fmod b = 0 ↔ b ∣ a := ⟨Int.dvd_of_fmod_eq_zero, Int.fmod_eq_zero_of_dvd⟩
/-! loops -/
theorem forUp {turn : List V → HP → (Out → List V → HP → Prop) → Prop} {i : Nat} {lo hi : Int} {l : List V} {hp : HP} {Q : Out → List V → HP → Prop} (n : Nat) (hn : n = (hi - lo).toNat) (I : Nat → List V → HP → Prop)
    (h0 : I 0 l hp) (step : ∀ k l h, k < n → I k l h → turn (lset l i (.int (lo + k))) h (fun o l2 h2 => match o with | .next => I (k + 1) l2 h2 | .brk => Q .next l2 h2 | .ret v => Q (.ret v) l2 h2))
    (fin : ∀ l h, I n l h → Q .next l h) :
    forIn turn i ((List.range (Builtin.Range.rangeSize lo hi 1).toNat).map fun (k : Nat) => V.int (lo + k * 1)) l hp (fun _ => True) Q := by
  have hsz : (Builtin.Range.rangeSize lo hi 1).toNat = n := by rw [rangeSize_one]; split <;> omega
  rw [hsz]
  refine ⟨I, h0, fun k x l h hx hI => ?_, fun l h hI => ⟨trivial, fin l h (by simpa using hI)⟩⟩
  have hk : k < n := by
    rcases Nat.lt_or_ge k n with q | q
    · exact q
    · rw [List.getElem?_eq_none (by simpa using q)] at hx; cases hx
  simp only [List.getElem?_map, List.getElem?_range hk, Option.map_some, Option.some.injEq, Int.mul_one] at hx
  subst hx
  exact ⟨trivial, step k l h hk hI⟩
/-! data -/
theorem shaped_tup (ns : List Int) : SeqAt.shaped (.tuple (ns.map PyData.int)) = true := by
  have h1 := W.depthAll_ints ns
  have h2 : PyData.depth (.tuple (ns.map PyData.int)) ≤ 64 := by simp only [PyData.depth]; omega
  show (PyData.canLay0 (.tuple (ns.map PyData.int)) && decide (PyData.depth (.tuple (ns.map PyData.int)) ≤ 64)) = true
  rw [Bool.and_eq_true]
  exact ⟨by simp only [PyData.canLay0]; exact W.canLayAll0_ints ns, decide_eq_true h2⟩
theorem cmpT {o : COp} {a b : Addr} {hp : HP} {ns ms : List Int} {Q : Bool → Prop} (ho : o = .eq ∨ o = .ne) (ha : hp a = some (.tup (ns.map .int))) (hb : hp b = some (.tup (ms.map .int)))
    (h : Q (if o = .eq then decide (ns = ms) else !decide (ns = ms))) : cmpV o (.ref a) (.ref b) hp Q := by
  rcases ho with rfl | rfl
  · exact ⟨_, _, .tup ha (rdL_ints ns), .tup hb (rdL_ints ms), shaped_tup ns, shaped_tup ms, by rw [if_pos rfl] at h; simpa only [PyData.eqv, ked_eqvAll] using h⟩
  · exact ⟨_, _, .tup ha (rdL_ints ns), .tup hb (rdL_ints ms), shaped_tup ns, shaped_tup ms, by rw [if_neg (by decide)] at h; simpa only [PyData.eqv, ked_eqvAll] using h⟩
theorem cmpL {o : COp} {a b : Addr} {hp : HP} {ns ms : List Int} {Q : Bool → Prop} (ho : o = .eq ∨ o = .ne) (ha : hp a = some (.list (ns.map .int))) (hb : hp b = some (.list (ms.map .int)))
    (h : Q (if o = .eq then decide (ns = ms) else !decide (ns = ms))) : cmpV o (.ref a) (.ref b) hp Q := by
  rcases ho with rfl | rfl
  · exact ⟨_, _, .list ha (rdL_ints ns), .list hb (rdL_ints ms), shaped_ints ns, shaped_ints ms, by rw [if_pos rfl] at h; simpa only [PyData.eqv, ked_eqvAll] using h⟩
  · exact ⟨_, _, .list ha (rdL_ints ns), .list hb (rdL_ints ms), shaped_ints ns, shaped_ints ms, by rw [if_neg (by decide)] at h; simpa only [PyData.eqv, ked_eqvAll] using h⟩
/-- two tuples of ints that are the same -/
theorem cmpT_ne {a b : Addr} {hp : HP} {ns ms : List Int} {Q : Bool → Prop} (ha : hp a = some (.tup (ns.map .int))) (hb : hp b = some (.tup (ms.map .int))) (e : ns = ms) (h : Q false) : cmpV .ne (.ref a) (.ref b) hp Q :=
  cmpT (.inr rfl) ha hb (by simpa [e] using h)
theorem cmpT_eq {a b : Addr} {hp : HP} {ns ms : List Int} {Q : Bool → Prop} (ha : hp a = some (.tup (ns.map .int))) (hb : hp b = some (.tup (ms.map .int))) (e : ns = ms) (h : Q true) : cmpV .eq (.ref a) (.ref b) hp Q :=
  cmpT (.inl rfl) ha hb (by simpa [e] using h)
theorem cmpL_ne {a b : Addr} {hp : HP} {ns ms : List Int} {Q : Bool → Prop} (ha : hp a = some (.list (ns.map .int))) (hb : hp b = some (.list (ms.map .int))) (e : ns = ms) (h : Q false) : cmpV .ne (.ref a) (.ref b) hp Q :=
  cmpL (.inr rfl) ha hb (by simpa [e] using h)
/-! what a comparison says -/
theorem ceq_t {a b : Int} : cmpI a b .eq = true ↔ a = b := by simp [cmpI]
theorem ceq_f {a b : Int} : cmpI a b .eq = false ↔ a ≠ b := by simp [cmpI]
theorem cne_t {a b : Int} : cmpI a b .ne = true ↔ a ≠ b := by simp [cmpI]
theorem cne_f {a b : Int} : cmpI a b .ne = false ↔ a = b := by simp [cmpI]
theorem clt_t {a b : Int} : cmpI a b .lt = true ↔ a < b := by simp [cmpI]
theorem clt_f {a b : Int} : cmpI a b .lt = false ↔ b ≤ a := by simp [cmpI]
theorem cle_t {a b : Int} : cmpI a b .le = true ↔ a ≤ b := by simp [cmpI]
theorem cle_f {a b : Int} : cmpI a b .le = false ↔ b < a := by simp [cmpI]
theorem cgt_t {a b : Int} : cmpI a b .gt = true ↔ b < a := by simp [cmpI]
theorem cge_t {a b : Int} : cmpI a b .ge = true ↔ b ≤ a := by simp [cmpI]
theorem cge_f {a b : Int} : cmpI a b .ge = false ↔ a < b := by simp [cmpI]
theorem tru_f {a : Int} : ((a != 0) = false) ↔ a = 0 := by simp
theorem not_t {b : Bool} : ((!b) = true) ↔ b = false := by simp
theorem Bd.abs {k : Nat} {x : Int} : Bd k x ↔ x.natAbs < 2 ^ k := .rfl
theorem pow_one' (p : Int) : p ^ 1 = p := by rw [show (1:Nat) = 0 + 1 from rfl, Int.pow_succ, Int.pow_zero, Int.one_mul]
theorem dvd_natAbs_le {a b : Int} (h : a ∣ b) (h0 : b ≠ 0) : a.natAbs ≤ b.natAbs := Nat.le_of_dvd (Int.natAbs_pos.mpr h0) (Int.natAbs_dvd_natAbs.mpr h)
/-! the logarithm -/
/-- l is the logarithm of n to the base b -/
structure LogOf (n b l : Nat) : Prop where
  two : 2 ≤ b
  lo : b ^ l ≤ n
  hi : n < b ^ (l + 1)
theorem LogOf.uniq {n b l k : Nat} (h : LogOf n b l) (lo : b ^ k ≤ n) (hi : n < b ^ (k + 1)) : l = k := by
  have h2 : 1 < b := h.two
  have a := (Nat.pow_lt_pow_iff_right h2).mp (Nat.lt_of_le_of_lt h.lo hi)
  have c := (Nat.pow_lt_pow_iff_right h2).mp (Nat.lt_of_le_of_lt lo h.hi)
  omega
theorem log_ex {n b : Nat} (hb : 2 ≤ b) (hn : 1 ≤ n) : ∃ l, LogOf n b l := by
  have : ∃ k, n < b ^ k := ⟨n, Nat.lt_of_lt_of_le (Nat.lt_two_pow_self) (Nat.pow_le_pow_left hb n)⟩
  obtain ⟨k, hk⟩ := this
  induction k with
  | zero => simp at hk; omega
  | succ k ih =>
    by_cases h : n < b ^ k
    · exact ih h
    · exact ⟨k, hb, by omega, hk⟩
theorem LogOf.one_le {n b l : Nat} (h : LogOf n b l) (hn : b ≤ n) : 1 ≤ l := by
  cases l with
  | zero => have := h.hi; simp at this; omega
  | succ l => omega
theorem LogOf.n1 {n b l : Nat} (h : LogOf n b l) : 1 ≤ n := Nat.le_trans (Nat.pow_pos (by have := h.two; omega)) h.lo
theorem intBits_log {n l : Nat} (h : LogOf n 2 l) : (Builtin.Int.intBits (n : Int) : Int) = l + 1 := by
  have h1 := h.n1
  have h0 : n ≠ 0 := by omega
  have a := (Nat.log2_lt h0).mpr h.hi
  have c : ¬ n.log2 < l := fun q => by have := (Nat.log2_lt h0).mp q; have := h.lo; omega
  unfold Builtin.Int.intBits
  rw [if_neg (by simpa using h0)]
  have : (n : Int).natAbs.log2 = l := by rw [Int.natAbs_natCast]; omega
  rw [this]; push_cast; rfl
noncomputable def log10MS : MS := (.seq (.ret (.bin .sub (.len (.strOf (.var 0))) (.int 1))) .skip)
theorem text_len {n l : Nat} (h : LogOf n 10 l) (hl : 1 ≤ l) : (Str.ofString (toString (n : Int))).length = l + 1 := by
  rw [PySem.ofString_length]
  show (Nat.repr n).length = l + 1
  have a := (Nat.length_repr_le_iff (n := n) (k := l + 1) (by omega)).mpr h.hi
  have c : ¬ (Nat.repr n).length ≤ l := fun q => by have := (Nat.length_repr_le_iff (n := n) (k := l) hl).mp q; have := h.lo; omega
  omega
theorem lt_ten {n : Nat} (h : n < 2 ^ 12900) : (n : Int).natAbs < 10 ^ 4300 := by
  rw [Int.natAbs_natCast]; exact Nat.lt_of_lt_of_le h PyProof.Rows.pow_lo
theorem log10_exec {g : G} {d : Nat} {hp : HP} {n l : Nat} (h : LogOf n 10 l) (hl : 1 ≤ l) (hl2 : l < 2 ^ 60) (hn : n < 2 ^ 12900) {Q : V → HP → Prop} {X : XT} (hQ : Q (.int l) hp) : exec g d log10MS [.int n] hp (retQ Q) X := by
  refine ⟨lt_ten hn, ?_⟩
  refine ⟨?_, trivial, ?_⟩
  · rw [text_len h hl]; omega
  · have := text_len h hl
    show Q (.int (((Str.ofString (toString (n : Int))).length : Int) - 1)) hp
    rw [this]
    have e : ((l + 1 : Nat) : Int) - 1 = l := by omega
    rw [e]; exact hQ
noncomputable def logMS (a : Addr) : MS := (.seq (.ite (.cmp .lt (.var 0) (.var 1)) (.seq (.ret (.int 0)) .skip) .skip) (.seq (.ite (.cmp .eq (.var 1) (.int 10)) (.seq (.ret (.call a (.cons (.var 0) .nil))) .skip) .skip) (.seq (.ite (.cmp .eq (.var 1) (.int 2)) (.seq (.ret (.bin .sub (.bitlen (.var 0)) (.int 1))) .skip) .skip) (.seq (.asg 2 (.var 1)) (.seq (.asg 3 (.int 1)) (.seq (.asg 4 (.list (.cons (.tup (.cons (.var 3) (.cons (.var 2) .nil))) .nil))) (.seq (.whil (.cmp .lt (.var 2) (.var 0)) (.seq (.asg 5 (.bin .pow (.var 2) (.int 2))) (.seq (.ite (.cmp .le (.var 5) (.var 0)) (.seq (.asg 2 (.var 5)) (.seq (.aug 3 .add (.var 3)) (.seq (.expr (.app (.var 4) (.tup (.cons (.var 3) (.cons (.var 2) .nil))))) .skip))) (.seq .brk .skip)) .skip)) (.seq (.ret (.var 3)) .skip)) (.seq (.expr (.rev (.var 4))) (.seq (.forU [6, 7] (.var 4) (.seq (.asg 8 (.bin .mul (.var 2) (.var 7))) (.seq (.ite (.cmp .eq (.var 8) (.var 0)) (.seq (.aug 3 .add (.var 6)) (.seq .brk .skip)) (.seq (.ite (.cmp .lt (.var 8) (.var 0)) (.seq (.asg 2 (.var 8)) (.seq (.aug 3 .add (.var 6)) .skip)) .skip) .skip)) .skip))) (.seq (.ret (.var 3)) .skip))))))))))
noncomputable def logRest : MS := match logMS 0 with | .seq _ (.seq _ (.seq _ (.seq _ (.seq _ (.seq _ (.seq _ r)))))) => r | _ => .skip
theorem Upto.fresh {S : List Addr} {hp h : HP} {r : Addr} {o : O} (u : Upto S hp h) (n : hp r = none) : Upto S hp (hset h r o) := fun x hx o' e => by
  rw [hset_ne (fun q => by rw [q, n] at e; cases e)]; exact u x hx o' e
/-- the stock of log: rows of (2^i, b^(2^i)) -/
noncomputable def Stock (b : Nat) (h : HP) (st : Addr) (ts : List Addr) : Prop :=
  h st = some (.list (ts.map .ref)) ∧ ∀ i t, ts[i]? = some t → h t = some (.tup [.int (2 ^ i : Nat), .int (b ^ (2 ^ i) : Nat)])
theorem two_pow_double (j : Nat) : 2 ^ j + 2 ^ j = 2 ^ (j + 1) := by rw [Nat.pow_succ]; omega
theorem BdN {k n : Nat} (h : n < 2 ^ k) : Bd k (n : Int) := by unfold Bd; rw [Int.natAbs_natCast]; exact h
theorem log_rest {g : G} {d : Nat} {hp h0 : HP} {n b l : Nat} {st : Addr} {ts : List Addr} {j : Nat} {x5 : V} (h : LogOf n b l) (hn : n < 2 ^ 12900) (hts : ts.length = j + 1)
    (S : Stock b h0 st ts) (u : Upto [] hp h0) (hst : hp st = none) (hj : b ^ (2 ^ j) ≤ n) (hj2 : n < b ^ (2 ^ j) * b ^ (2 ^ j)) (hsz : j < 1000) {Q : V → HP → Prop} {X : XT} (hQ : ∀ h', Upto [] hp h' → Q (.int l) h') :
    exec g d logRest [.int n, .int b, .int (b ^ (2 ^ j) : Nat), .int (2 ^ j : Nat), .ref st, x5, .unb, .unb, .unb] h0 (retQ Q) X := by
  refine ⟨_, S.1, by rw [List.length_map, sizeLine_eq]; omega, ?_⟩
  generalize hh1 : hset h0 st (.list (ts.map V.ref).reverse) = h1
  have e1 : h1 st = some (.list (ts.map V.ref).reverse) := by rw [← hh1]; exact hset_same
  have u1 : Upto [] hp h1 := by rw [← hh1]; exact u.fresh hst
  have rows : ∀ i t, ts[i]? = some t → h1 t = some (.tup [.int (2 ^ i : Nat), .int (b ^ (2 ^ i) : Nat)]) := fun i t e => by
    have := S.2 i t e
    rw [← hh1, hset_ne (fun q => by rw [q, S.1] at this; cases this)]; exact this
  have hb1 : 1 < b := h.two
  refine ⟨(ts.map V.ref).reverse, by rw [e1]; rfl, by rw [List.length_reverse, List.length_map]; omega, ?_⟩
  refine ⟨fun k l' h' => ∃ R x6 x7 x8, l' = [.int n, .int b, .int (b ^ R : Nat), .int (R : Nat), .ref st, x5, x6, x7, x8] ∧ h' = h1 ∧ b ^ R ≤ n ∧ n < b ^ (R + 2 ^ (j + 1 - k)) ∧ k ≤ j + 1, ⟨2 ^ j, .unb, .unb, .unb, rfl, rfl, hj, ?_, Nat.zero_le _⟩, ?_, ?_⟩
  · rw [← Nat.pow_add] at hj2
    exact Nat.lt_of_lt_of_le hj2 (Nat.pow_le_pow_right (by omega) (by exact Nat.add_le_add_left (Nat.pow_le_pow_right (by decide) (by omega)) _))
  · rintro k x l' h' hx ⟨R, x6, x7, x8, rfl, rfl, h2, h3, hk⟩
    refine ⟨rfl, ?_⟩
    have hk2 : k < j + 1 := by
      rcases Nat.lt_or_ge k (j + 1) with q | q
      · exact q
      · rw [List.getElem?_eq_none (by simp; omega)] at hx; cases hx
    have hx' : ∃ t, ts[j - k]? = some t ∧ x = .ref t := by
      rw [List.getElem?_reverse (by simp; omega)] at hx
      simp only [List.length_map, hts, List.getElem?_map] at hx
      rw [show j + 1 - 1 - k = j - k by omega] at hx
      cases e : ts[j - k]? with
      | none => rw [e] at hx; cases hx
      | some t => rw [e] at hx; exact ⟨t, rfl, by cases hx; rfl⟩
    obtain ⟨t, ht, rfl⟩ := hx'
    refine ⟨_, rows _ _ ht, rfl, ?_⟩
    have hR : b ^ R < 2 ^ 12900 := by omega
    have hp2 : b ^ 2 ^ (j - k) < 2 ^ 12900 := Nat.lt_of_le_of_lt (Nat.le_trans (Nat.pow_le_pow_right (by omega) (Nat.pow_le_pow_right (by decide) (by omega))) hj) hn
    have em : ((b ^ R : Nat) : Int) * ((b ^ 2 ^ (j - k) : Nat) : Int) = ((b ^ (R + 2 ^ (j - k)) : Nat) : Int) := by rw [Nat.pow_add]; push_cast; rfl
    have ea : ((R : Nat) : Int) + ((2 ^ (j - k) : Nat) : Int) = ((R + 2 ^ (j - k) : Nat) : Int) := by push_cast; rfl
    have e2 : 2 ^ (j + 1 - k) = 2 ^ (j - k) + 2 ^ (j - k) := by rw [show j + 1 - k = j - k + 1 by omega, Nat.pow_succ]; omega
    refine ⟨(BdN hR).mulOk (BdN hp2), ?_⟩
    show exec g d _ [.int n, .int b, .int (b ^ R : Nat), .int (R : Nat), .ref st, x5, .int (2 ^ (j - k) : Nat), .int (b ^ 2 ^ (j - k) : Nat), .int (((b ^ R : Nat) : Int) * ((b ^ 2 ^ (j - k) : Nat) : Int))] h' _ noX
    rw [em]
    refine ⟨fun hc => ?_, fun hc => ⟨fun hc2 => ?_, fun hc2 => ?_⟩⟩
    · have hc := ceq_t.mp hc
      have hc : b ^ (R + 2 ^ (j - k)) = n := Int.ofNat.inj hc
      refine ⟨trivial, ?_⟩
      show Q (.int (((R : Nat) : Int) + ((2 ^ (j - k) : Nat) : Int))) h'
      rw [ea, ← h.uniq (k := R + 2 ^ (j - k)) (by omega) (by rw [← hc, Nat.pow_succ]; have : 0 < b ^ (R + 2 ^ (j - k)) := Nat.pow_pos (by omega); exact (Nat.lt_mul_iff_one_lt_right this).mpr hb1)]
      exact hQ _ u1
    · have hc2 := clt_t.mp hc2
      have hc2 : b ^ (R + 2 ^ (j - k)) < n := Int.ofNat_lt.mp hc2
      refine ⟨trivial, R + 2 ^ (j - k), .int (2 ^ (j - k) : Nat), .int (b ^ 2 ^ (j - k) : Nat), .int (b ^ (R + 2 ^ (j - k)) : Nat), ?_, rfl, by omega, ?_, by omega⟩
      · rw [← ea]; rfl
      · rw [show j + 1 - (k + 1) = j - k by omega, Nat.add_assoc, ← e2]; exact h3
    · have hc := ceq_f.mp hc
      have hc2 := clt_f.mp hc2
      have hc2 : n ≤ b ^ (R + 2 ^ (j - k)) := Int.ofNat_le.mp hc2
      have hc : b ^ (R + 2 ^ (j - k)) ≠ n := fun e => hc (congrArg Int.ofNat e)
      exact ⟨R, _, _, _, rfl, rfl, h2, by rw [show j + 1 - (k + 1) = j - k by omega]; omega, by omega⟩
  · rintro l' h' ⟨R, x6, x7, x8, rfl, rfl, h2, h3, hk⟩
    refine ⟨rfl, ?_⟩
    rw [List.length_reverse, List.length_map, hts, Nat.sub_self] at h3
    have := h.uniq (k := R) h2 (by simpa using h3)
    subst this
    exact hQ _ u1
theorem log_small {g : G} {d : Nat} {hp : HP} {a : Addr} {n b : Int} (h : n < b) {Q : V → HP → Prop} {X : XT} (hQ : Q (.int 0) hp) : exec g d (logMS a) [.int n, .int b, .unb, .unb, .unb, .unb, .unb, .unb, .unb] hp (retQ Q) X :=
  ⟨fun _ => hQ, fun ht => absurd (clt_f.mp ht) (by omega)⟩
theorem log_exec {g : G} {d : Nat} {hp : HP} {a : Addr} {n b l : Nat} (h : LogOf n b l) (hbn : b ≤ n) (hn : n < 2 ^ 12900)
    (ten : b = 10 → ∀ (Q : V → HP → Prop) (X : XC), Q (.int l) hp → Calls g d a [.int n] [] hp Q X) {Q : V → HP → Prop} {X : XT} (hQ : ∀ h', Upto [] hp h' → Q (.int l) h') :
    exec g d (logMS a) [.int n, .int b, .unb, .unb, .unb, .unb, .unb, .unb, .unb] hp (retQ Q) X := by
  have hb1 : 1 < b := h.two
  refine ⟨fun ht => ?_, fun _ => ⟨fun ht => ?_, fun _ => ⟨fun ht => ?_, fun _ => ?_⟩⟩⟩
  · have := clt_t.mp ht; omega
  · have := ceq_t.mp ht
    exact ten (by omega) _ _ (hQ _ .refl)
  · have := ceq_t.mp ht
    have e : b = 2 := by omega
    subst e
    refine ⟨trivial, ?_⟩
    show Q (.int ((Builtin.Int.intBits (n : Int) : Int) - 1)) hp
    rw [intBits_log h, Int.add_sub_cancel]
    exact hQ _ .refl
  · refine ⟨by simp [sizeLine_eq], fun r1 n1 => ⟨by simp [sizeLine_eq], fun st n2 => ?_⟩⟩
    obtain ⟨n3, n4⟩ := hset_none.mp n2
    have S0 : Stock b (hset (hset hp r1 (.tup [.int 1, .int b])) st (.list [.ref r1])) st [r1] := by
      refine ⟨hset_same, fun i t e => ?_⟩
      cases i with
      | zero => cases e; rw [hset_ne (Ne.symm n3), hset_same]; simp
      | succ i => cases e
    have u0 : Upto [] hp (hset (hset hp r1 (.tup [.int 1, .int b])) st (.list [.ref r1])) := (Upto.new n1).trans (.new n2)
    refine ⟨fun i l' h' => ∃ (j : Nat) (ts : List Addr) (x5 : V), l' = [.int n, .int b, .int (b ^ (2 ^ j) : Nat), .int (2 ^ j : Nat), .ref st, x5, .unb, .unb, .unb] ∧ ts.length = j + 1 ∧ Stock b h' st ts ∧ Upto [] hp h' ∧ b ^ (2 ^ j) ≤ n ∧ i = n - b ^ (2 ^ j),
      ⟨_, 0, [r1], .unb, by simp [lset, lget], rfl, S0, u0, by simpa using hbn, rfl⟩, ?_⟩
    rintro i l' h' ⟨j, ts, x5, rfl, hts, S, u, hj, rfl⟩
    have h2j : 2 ^ j < 12900 := (Nat.pow_lt_pow_iff_right (a := 2) (by decide)).mp (Nat.lt_of_le_of_lt (Nat.le_trans (Nat.pow_le_pow_left h.two _) hj) hn)
    have hj14 : j < 14 := (Nat.pow_lt_pow_iff_right (a := 2) (by decide)).mp (Nat.lt_trans h2j (by decide))
    have em : ((b ^ 2 ^ j : Nat) : Int) ^ ((2 : Int).toNat) = ((b ^ 2 ^ (j + 1) : Nat) : Int) := by
      rw [show (2 : Int).toNat = 2 from rfl, Nat.pow_succ 2 j, Nat.pow_mul]; push_cast; rfl
    refine ⟨fun ht => ?_, fun ht => ?_⟩
    · have ht := Int.ofNat_lt.mp (clt_t.mp ht)
      have hbits := (BdN (Nat.lt_of_le_of_lt hj hn)).bits
      refine ⟨⟨by decide, by omega⟩, ?_⟩
      show exec g d _ [.int n, .int b, .int (b ^ (2 ^ j) : Nat), .int (2 ^ j : Nat), .ref st, .int (((b ^ 2 ^ j : Nat) : Int) ^ ((2 : Int).toNat)), .unb, .unb, .unb] h' _ noX
      rw [em]
      refine ⟨fun hc => ?_, fun hc => ?_⟩
      · have hc := Int.ofNat_le.mp (cle_t.mp hc)
        refine ⟨trivial, ⟨_, S.1⟩, by simp [sizeLine_eq], fun r nr => ?_⟩
        have e0 : hset h' r (.tup [V.int (((2 ^ j : Nat) : Int) + ((2 ^ j : Nat) : Int)), .int (b ^ 2 ^ (j + 1) : Nat)]) st = some (.list (ts.map .ref)) := by
          rw [hset_ne (ne_of_none nr S.1)]; exact S.1
        refine ⟨_, e0, by rw [List.length_map, sizeLine_eq]; omega, ?_⟩
        have e1 : ((2 ^ j : Nat) : Int) + ((2 ^ j : Nat) : Int) = ((2 ^ (j + 1) : Nat) : Int) := by rw [← two_pow_double]; push_cast; rfl
        refine ⟨n - b ^ 2 ^ (j + 1), ?_, j + 1, ts ++ [r], .int (b ^ 2 ^ (j + 1) : Nat), ?_, by simp [hts], ⟨?_, fun i t e => ?_⟩, ?_, hc, rfl⟩
        · have : b ^ 2 ^ j < b ^ 2 ^ (j + 1) := (Nat.pow_lt_pow_iff_right hb1).mpr ((Nat.pow_lt_pow_iff_right (by decide)).mpr (by omega))
          omega
        · rw [← e1]; rfl
        · rw [hset_same]; simp [lget, lset]
        · rcases Nat.lt_or_ge i ts.length with q | q
          · rw [List.getElem?_append_left q] at e
            have := S.2 i t e
            rw [hset_ne (fun q => by rw [q, S.1] at this; cases this), hset_ne (ne_of_none nr this)]; exact this
          · rw [List.getElem?_append_right q] at e
            have hi : i = j + 1 := by
              rcases Nat.lt_or_ge (i - ts.length) 1 with z | z
              · omega
              · rw [List.getElem?_eq_none (by simpa using z)] at e; cases e
            subst hi
            rw [show j + 1 - ts.length = 0 by omega] at e
            cases e
            rw [hset_ne (fun q => by rw [q, S.1] at nr; cases nr), hset_same, ← e1]; rfl
        · refine Upto.fresh (u.trans (.new nr)) ?_
          exact n4
      · have hc := Int.ofNat_lt.mp (cle_f.mp hc)
        refine log_rest h hn hts S u n4 hj ?_ (by omega) hQ
        rw [← Nat.pow_add, two_pow_double]; exact hc
    · have ht := Int.ofNat_le.mp (clt_f.mp ht)
      have : l = 2 ^ j := h.uniq hj (by
        have e : b ^ 2 ^ j = n := Nat.le_antisymm hj ht
        rw [Nat.pow_succ, e]
        exact (Nat.lt_mul_iff_one_lt_right h.n1).mpr hb1)
      subst this
      exact hQ _ u
noncomputable def powMS : MS := (.seq (.asg 2 (.int 1)) (.seq (.forR 3 (.int 0) (.var 1) (.int 1) (.seq (.asg 2 (.bin .mul (.var 2) (.var 0))) .skip)) (.seq (.ret (.var 2)) .skip)))
theorem pow_exec {g : G} {d : Nat} {hp : HP} {n : Int} {k : Nat} (hk : k < 2 ^ 60) (hn : Bd 60000000 n) (hb : ∀ j, j ≤ k → Bd 60000000 (n ^ j)) {Q : V → HP → Prop} {X : XT} (hQ : Q (.int (n ^ k)) hp) :
    exec g d powMS [.int n, .int k, .unb, .unb] hp (retQ Q) X := by
  refine ⟨by decide, small_one (by decide) (by decide) (by omega) (by omega), ?_⟩
  refine forUp (l := [.int n, .int k, .int 1, .unb]) k (by omega) (fun j l h' => ∃ x, l = [.int n, .int k, .int (n ^ j), x] ∧ j ≤ k ∧ h' = hp) ⟨.unb, by simp, Nat.zero_le _, rfl⟩ ?_ ?_
  · rintro j l h' hj ⟨x, rfl, hjk, rfl⟩
    refine ⟨(hb j hjk).mulOk hn, .int (0 + j), ?_, hj, rfl⟩
    rw [Int.pow_succ]; rfl
  · rintro l h' ⟨x, rfl, -, rfl⟩
    exact hQ
theorem pow_bd {n : Int} (h0 : n ≠ 0) {k K : Nat} (hb : Bd K (n ^ k)) {j : Nat} (hj : j ≤ k) : Bd K (n ^ j) :=
  hb.le (dvd_natAbs_le ⟨n ^ (k - j), by rw [← Int.pow_add]; congr 1; omega⟩ (Int.pow_ne_zero h0))
theorem mem_ints {ns : List Int} {k : Nat} {x : V} (h : (ns.map V.int)[k]? = some x) : ∃ z, z ∈ ns ∧ x = .int z := by
  rw [List.getElem?_map] at h
  cases e : ns[k]? with
  | none => rw [e] at h; cases h
  | some z => rw [e] at h; cases h; exact ⟨z, List.mem_of_getElem? e, rfl⟩
theorem nqP {h : HP} {a r q : Addr} (P : Pool h a r) (n : h q = none) : q ∉ [a, r] := by
  obtain ⟨x, y, ns', q0, q1, -⟩ := P
  intro h'
  simp only [List.mem_cons, List.not_mem_nil, or_false] at h'
  rcases h' with rfl | rfl
  · rw [n] at q0; cases q0
  · rw [n] at q1; cases q1
/-- a loop over a list of ints that stands all the while -/
theorem forLI {turn : List V → HP → (Out → List V → HP → Prop) → Prop} {i : Nat} {ns : List Int} {l : List V} {hp : HP} {r : Addr} {Q : Out → List V → HP → Prop} (e : hp r = some (.list (ns.map .int))) (fit : ns.length < 2 ^ 62) (I : List V → HP → Prop)
    (h0 : I l hp) (step : ∀ z l h, z ∈ ns → I l h → h r = some (.list (ns.map .int)) → turn (lset l i (.int z)) h (fun o l2 h2 => match o with | .next => I l2 h2 ∧ h2 r = some (.list (ns.map .int)) | .brk => Q .next l2 h2 | .ret v => Q (.ret v) l2 h2))
    (fin : ∀ l h, I l h → Q .next l h) : ∃ vs, iterOf (hp r) = some vs ∧ (vs.length : Int) < 2 ^ 62 ∧ forIn turn i vs l hp (fun h => h r = hp r) Q := by
  refine ⟨ns.map .int, by rw [e]; rfl, by rw [List.length_map]; omega, fun _ l h => I l h ∧ h r = some (.list (ns.map .int)), ⟨h0, e⟩, ?_, ?_⟩
  · rintro k x l h hx ⟨hI, hr⟩
    obtain ⟨z, hz, rfl⟩ := mem_ints hx
    refine ⟨hr.trans e.symm, step z l h hz hI hr⟩
  · rintro l h ⟨hI, hr⟩
    exact ⟨hr.trans e.symm, fin l h hI⟩
/-! the square root -/
theorem newton_ge {a r x : Nat} (hr : r * r ≤ a) (hx : 0 < x) : r ≤ (x + a / x) / 2 := by
  rw [Nat.le_div_iff_mul_le (by decide)]
  rcases Nat.lt_or_ge x (r * 2) with h | h
  · have h1 : x * (2 * r - x) ≤ a := by
      refine Nat.le_trans ?_ hr
      obtain ⟨k, hk⟩ : ∃ k, 2 * r = x + k := ⟨2 * r - x, by omega⟩
      rw [hk, Nat.add_sub_cancel_left]
      rcases Nat.le_total x k with q | q
      · obtain ⟨j, rfl⟩ : ∃ j, k = x + j := ⟨k - x, by omega⟩
        obtain ⟨i, rfl⟩ : ∃ i, j = 2 * i := ⟨j / 2, by omega⟩
        obtain rfl : r = x + i := by omega
        simp only [Nat.mul_add, Nat.add_mul]
        have : i * x = x * i := Nat.mul_comm _ _
        rw [show x * (2 * i) = x * i + x * i by rw [Nat.mul_comm 2 i, ← Nat.mul_assoc]; omega]
        omega
      · obtain ⟨j, rfl⟩ : ∃ j, x = k + j := ⟨x - k, by omega⟩
        obtain ⟨i, rfl⟩ : ∃ i, j = 2 * i := ⟨j / 2, by omega⟩
        obtain rfl : r = k + i := by omega
        simp only [Nat.mul_add, Nat.add_mul]
        have : i * k = k * i := Nat.mul_comm _ _
        rw [show 2 * i * k = k * i + k * i by rw [Nat.mul_assoc, Nat.mul_comm i k]; omega]
        omega
    have h2 : 2 * r - x ≤ a / x := (Nat.le_div_iff_mul_le hx).mpr (by rw [Nat.mul_comm]; exact h1)
    generalize a / x = q at *
    omega
  · generalize a / x = q
    omega
theorem newton_stop {a r x : Nat} (h2 : a < (r + 1) * (r + 1)) (hx : 0 < x) (hr : r ≤ x) (h : x ≤ (x + a / x) / 2) : x = r := by
  have h3 : x ≤ a / x := by generalize a / x = q at *; omega
  have h4 : x * x ≤ a := (Nat.le_div_iff_mul_le hx).mp h3
  rcases Nat.lt_or_ge r x with q | q
  · have := Nat.mul_le_mul (show r + 1 ≤ x from q) (show r + 1 ≤ x from q)
    omega
  · omega
noncomputable def sqrtMS (a : Addr) : MS := (.seq (.ite (.cmp .lt (.var 0) (.bin .shl (.int 1) (.int 59))) (.seq (.ite (.cmp .lt (.var 0) (.int 0)) (.seq (.raise "ValueError") .skip) .skip) (.seq (.asgN [1, 2] (.cons (.var 0) (.cons (.bin .shr (.bin .add (.var 0) (.int 1)) (.int 1)) .nil))) (.seq (.whil (.cmp .lt (.var 2) (.var 1)) (.seq (.asgN [1, 2] (.cons (.var 2) (.cons (.bin .shr (.bin .add (.var 2) (.bin .fdiv (.var 0) (.var 2))) (.int 1)) .nil))) .skip) .skip) (.seq (.ret (.var 1)) .skip)))) (.seq (.asg 1 (.bin .pow (.int 10) (.bin .add (.bin .shr (.call a (.cons (.var 0) (.cons (.int 10) .nil))) (.int 1)) (.int 1)))) (.seq (.whil (.tv (.bool true)) (.seq (.asg 3 (.bin .shr (.bin .add (.var 1) (.bin .fdiv (.var 0) (.var 1))) (.int 1))) (.seq (.ite (.cmp .le (.var 1) (.var 3)) (.seq (.ret (.var 1)) .skip) .skip) (.seq (.asg 1 (.var 3)) .skip))) .skip) .skip))) .skip)
theorem half_cast (x : Nat) : intOp (x : Int) 1 .shr = ((x / 2 : Nat) : Int) := by
  show (x : Int).fdiv (2 ^ (1 : Int).toNat) = _
  rw [show (2 : Int) ^ (1 : Int).toNat = 2 from rfl, Int.fdiv_eq_ediv_of_nonneg _ (by decide)]
  push_cast; rfl
theorem step_cast (a x : Nat) : intOp (intOp (x : Int) (intOp (a : Int) (x : Int) .fdiv) .add) 1 .shr = (((x + a / x) / 2 : Nat) : Int) := by
  have : intOp (x : Int) (intOp (a : Int) (x : Int) .fdiv) .add = ((x + a / x : Nat) : Int) := by
    show (x : Int) + (a : Int).fdiv x = _
    rw [Int.fdiv_eq_ediv_of_nonneg _ (by omega)]; push_cast; rfl
  rw [this, half_cast]
theorem sqrt_exec {g : G} {d : Nat} {hp : HP} {a : Addr} {n r : Nat} (h1 : r * r ≤ n) (h2 : n < (r + 1) * (r + 1)) (hn : n < 2 ^ 12900)
    (hlog : ∀ l, 10 ≤ n → LogOf n 10 l → ∀ (Q : V → HP → Prop) (X : XC), (∀ h', Upto [] hp h' → Q (.int l) h') → Calls g d a [.int n, .int 10] [] hp Q X) {Q : V → HP → Prop} {X : XT} (hQ : ∀ h', Upto [] hp h' → Q (.int r) h') :
    exec g d (sqrtMS a) [.int n, .unb, .unb, .unb] hp (retQ Q) X := by
  refine ⟨⟨by decide, by decide⟩, fun ht => ⟨fun q => absurd (clt_t.mp q) (by omega), fun _ => ⟨trivial, show 0 ≤ (1 : Int) by decide, ?_⟩⟩, fun ht => ?_⟩
  · -- a small number
    have e0 : intOp (intOp (n : Int) 1 .add) 1 .shr = (((n + 1) / 2 : Nat) : Int) := by
      rw [show intOp (n : Int) 1 .add = ((n + 1 : Nat) : Int) by rfl, half_cast]
    show exec g d _ [.int n, .int n, .int (intOp (intOp (n : Int) 1 .add) 1 .shr), .unb] hp _ X
    rw [e0]
    refine ⟨fun i l h' => ∃ x y : Nat, l = [.int n, .int x, .int y, .unb] ∧ h' = hp ∧ r ≤ x ∧ (x = 0 → y = 0) ∧ (0 < x → y = (x + n / x) / 2) ∧ x ≤ n ∧ i = x, ⟨n, n, (n + 1) / 2, rfl, rfl, ?_, by omega, fun h0 => ?_, Nat.le_refl _, rfl⟩, ?_⟩
    · rcases Nat.lt_or_ge r 1 with q | q
      · omega
      · exact Nat.le_trans (Nat.le_mul_of_pos_left r (by omega)) h1
    · rw [Nat.div_self h0]
    · rintro i l h' ⟨x, y, rfl, rfl, hr, h0, hy, hxn, rfl⟩
      refine ⟨fun ht => ?_, fun ht => ?_⟩
      · have ht := Int.ofNat_lt.mp (clt_t.mp ht)
        have hx : 0 < i := by omega
        have hy := hy hx
        have hge : r ≤ y := by rw [hy]; exact newton_ge h1 hx
        have hy0 : 0 < y := by
          rcases Nat.eq_zero_or_pos y with q | q
          · have r0 : r = 0 := by omega
            subst r0
            have : n = 0 := by omega
            omega
          · exact q
        refine ⟨show (y : Int) ≠ 0 by omega, trivial, show 0 ≤ (1 : Int) by decide, ?_⟩
        refine ⟨y, ht, y, (y + n / y) / 2, ?_, rfl, hge, by omega, fun _ => rfl, by omega, rfl⟩
        show [V.int n, V.int y, V.int (intOp (intOp (y : Int) (intOp (n : Int) (y : Int) .fdiv) .add) 1 .shr), V.unb] = _
        rw [step_cast]
      · have ht := Int.ofNat_le.mp (clt_f.mp ht)
        have : i = r := by
          rcases Nat.eq_zero_or_pos i with q | q
          · omega
          · exact newton_stop h2 q hr (by rw [← hy q]; exact ht)
        subst this
        exact hQ _ .refl
  · have hbig : 2 ^ 59 ≤ n := by
      have := clt_f.mp ht
      have h9 : ((1 : Int) * 2 ^ (59 : Int).toNat) = ((2 ^ 59 : Nat) : Int) := by decide
      have h8 : intOp 1 59 .shl = ((2 ^ 59 : Nat) : Int) := h9
      rw [h8] at this
      exact Int.ofNat_le.mp this
    obtain ⟨lg, hlg⟩ := log_ex (b := 10) (by decide) (show 1 ≤ n by omega)
    have hl : lg < 12900 := (Nat.pow_lt_pow_iff_right (a := 2) (by decide)).mp (Nat.lt_of_le_of_lt (Nat.le_trans (Nat.pow_le_pow_left (by decide) _) hlg.lo) hn)
    refine hlog lg (by omega) hlg _ _ fun h' u => ?_
    refine ⟨show 0 ≤ (1 : Int) by decide, trivial, ?_⟩
    have e1 : intOp (intOp (lg : Int) 1 .shr) 1 .add = ((lg / 2 + 1 : Nat) : Int) := by
      rw [half_cast]; show ((lg / 2 : Nat) : Int) + 1 = _; push_cast; rfl
    rw [e1]
    refine ⟨⟨by omega, ?_⟩, ?_⟩
    · have : Builtin.Int.intBits 10 = 4 := by decide
      rw [this]; omega
    have e2 : intOp 10 ((lg / 2 + 1 : Nat) : Int) .pow = ((10 ^ (lg / 2 + 1) : Nat) : Int) := by
      show (10 : Int) ^ ((lg / 2 + 1 : Nat) : Int).toNat = _
      rw [Int.toNat_natCast]; push_cast; rfl
    show exec g d _ [.int n, .int (intOp 10 ((lg / 2 + 1 : Nat) : Int) .pow), .unb, .unb] h' _ X
    rw [e2]
    have hstart : r ≤ 10 ^ (lg / 2 + 1) := by
      rcases Nat.lt_or_ge (10 ^ (lg / 2 + 1)) r with q | q
      · exfalso
        have h3 : 10 ^ (lg / 2 + 1) * 10 ^ (lg / 2 + 1) ≤ r * r := Nat.mul_le_mul (by omega) (by omega)
        rw [← Nat.pow_add] at h3
        have h4 : 10 ^ (lg + 1) ≤ 10 ^ (lg / 2 + 1 + (lg / 2 + 1)) := Nat.pow_le_pow_right (by decide) (by omega)
        have := hlg.hi
        omega
      · exact q
    refine ⟨fun i l h2 => ∃ (x : Nat) (y : V), l = [.int n, .int x, .unb, y] ∧ h2 = h' ∧ r ≤ x ∧ 0 < x ∧ i = x, ⟨_, 10 ^ (lg / 2 + 1), .unb, rfl, rfl, hstart, Nat.pow_pos (by decide), rfl⟩, ?_⟩
    rintro i l h3 ⟨x, y, rfl, rfl, hr, hx, rfl⟩
    refine ⟨fun _ => ?_, (fun q => nomatch q)⟩
    refine ⟨show (i : Int) ≠ 0 by omega, trivial, show 0 ≤ (1 : Int) by decide, ?_⟩
    show exec g d _ [.int n, .int i, .unb, .int (intOp (intOp (i : Int) (intOp (n : Int) (i : Int) .fdiv) .add) 1 .shr)] h3 _ noX
    rw [step_cast]
    refine ⟨fun ht => ?_, fun ht => ?_⟩
    · have ht := Int.ofNat_le.mp (cle_t.mp ht)
      have := newton_stop h2 hx hr ht
      subst this
      exact hQ _ u
    · have ht := Int.ofNat_lt.mp (cle_f.mp ht)
      have hge : r ≤ (i + n / i) / 2 := newton_ge h1 hx
      refine ⟨_, ht, _, _, rfl, rfl, hge, ?_, rfl⟩
      rcases Nat.eq_zero_or_pos ((i + n / i) / 2) with q | q
      · exfalso
        have r0 : r = 0 := by omega
        subst r0
        omega
      · exact q
/-- a comprehension over a range -/
theorem compUp {test : List V → HP → (Bool → HP → Prop) → Prop} {elt : List V → HP → (V → HP → Prop) → Prop} {new : V → (List V → Prop) → HP → Prop} {lo hi : Int} {hp : HP} {Q : V → HP → Prop} (n : Nat) (hn : n = (hi - lo).toNat) (I : Nat → List V → HP → Prop) (h0 : I 0 [] hp)
    (step : ∀ k acc h, k < n → I k acc h → acc.length ≤ sizeLine ∧ new (.int (lo + k)) (fun l => test l h fun t h1 => (t = true → elt l h1 fun v h2 => I (k + 1) (acc ++ [v]) h2) ∧ (t = false → I (k + 1) acc h1)) h)
    (fin : ∀ acc h, I n acc h → newV h (.list acc) Q) :
    compI test elt new ((List.range (Builtin.Range.rangeSize lo hi 1).toNat).map fun (k : Nat) => V.int (lo + k * 1)) hp (fun _ => True) Q := by
  have hsz : (Builtin.Range.rangeSize lo hi 1).toNat = n := by rw [rangeSize_one]; split <;> omega
  rw [hsz]
  refine ⟨I, h0, fun k x acc h hx hI => ?_, fun acc h hI => ⟨trivial, fin acc h (by simpa using hI)⟩⟩
  have hk : k < n := by
    rcases Nat.lt_or_ge k n with q | q
    · exact q
    · rw [List.getElem?_eq_none (by simpa using q)] at hx; cases hx
  simp only [List.getElem?_map, List.getElem?_range hk, Option.map_some, Option.some.injEq, Int.mul_one] at hx
  subst hx
  exact ⟨trivial, step k acc h hk hI⟩
/-! great numbers, drawn -/
/-- the def at dr draws -/
noncomputable def DrawsC (g : G) (d : Nat) (dr : Addr) : Prop := ∀ (hp : HP) (p r : Addr) (many : Int), Pool hp p r → 0 < many → ∀ (Q : V → HP → Prop) (X : XC),
  (∀ v hp', 0 ≤ v → v < many → Pool hp' p r → Upto [p, r] hp hp' → Q (.int v) hp') → Calls g d dr [.ref p, .int many] [] hp Q X
theorem LogOf.small' {n l : Nat} (h : LogOf n 2 l) {K : Nat} (hn : n < 2 ^ K) : l < K :=
  (Nat.pow_lt_pow_iff_right (a := 2) (by decide)).mp (Nat.lt_of_le_of_lt h.lo hn)
/-! roots of any degree -/
theorem amgm (r x : Nat) : ∀ k, (k + 1) * (r * x ^ k) ≤ r ^ (k + 1) + k * x ^ (k + 1)
  | 0 => by simp
  | k + 1 => by
    have ih := Nat.mul_le_mul_right r (amgm r x k)
    have sq : 2 * (r * x) ≤ r * r + x * x := by
      rcases Nat.le_total r x with h | h
      · obtain ⟨j, rfl⟩ := Nat.le.dest h
        simp only [Nat.mul_add, Nat.add_mul]
        have : j * r = r * j := Nat.mul_comm _ _
        omega
      · obtain ⟨j, rfl⟩ := Nat.le.dest h
        simp only [Nat.mul_add, Nat.add_mul]
        have : j * x = x * j := Nat.mul_comm _ _
        omega
    have sq2 := Nat.mul_le_mul_left ((k + 1) * x ^ k) sq
    have e1 : (k + 1) * (r * x ^ k) * r = (k + 1) * (x ^ k * (r * r)) := by rw [Nat.mul_assoc, Nat.mul_right_comm r, Nat.mul_comm (r * r)]
    have e2 : (r ^ (k + 1) + k * x ^ (k + 1)) * r = r ^ (k + 1 + 1) + k * (x ^ k * (r * x)) := by
      rw [Nat.add_mul, ← Nat.pow_succ, Nat.mul_assoc, Nat.pow_succ x, Nat.mul_assoc (x ^ k), Nat.mul_comm x r]
    have e3 : (k + 1) * x ^ k * (2 * (r * x)) = 2 * ((k + 1) * (x ^ k * (r * x))) := by rw [Nat.mul_left_comm, Nat.mul_assoc]
    have e4 : (k + 1) * x ^ k * (r * r + x * x) = (k + 1) * (x ^ k * (r * r)) + (k + 1) * (x ^ k * (x * x)) := by rw [Nat.mul_add, Nat.mul_assoc, Nat.mul_assoc]
    have e5 : r * x ^ (k + 1) = x ^ k * (r * x) := by rw [Nat.pow_succ, Nat.mul_left_comm]
    have e6 : x ^ (k + 1 + 1) = x ^ k * (x * x) := by rw [Nat.pow_succ, Nat.pow_succ, Nat.mul_assoc]
    rw [e1, e2] at ih
    rw [e3, e4] at sq2
    rw [e5, e6]
    generalize x ^ k * (r * r) = A at *
    generalize x ^ k * (r * x) = B at *
    generalize x ^ k * (x * x) = C at *
    generalize r ^ (k + 1 + 1) = R at *
    simp only [Nat.add_mul, Nat.one_mul] at *
    generalize k * A = kA at *
    generalize k * B = kB at *
    generalize k * C = kC at *
    omega
theorem newtonk_ge {n r x k : Nat} (h : r ^ (k + 1) ≤ n) (hx : 0 < x) : r ≤ (k * x + n / x ^ k) / (k + 1) := by
  rw [Nat.le_div_iff_mul_le (by omega)]
  have hp : 0 < x ^ k := Nat.pow_pos hx
  rcases Nat.lt_or_ge (k * x) (r * (k + 1)) with h1 | h1
  · have h2 : r * (k + 1) - k * x ≤ n / x ^ k := by
      refine (Nat.le_div_iff_mul_le hp).mpr (Nat.le_trans ?_ h)
      have := amgm r x k
      rw [Nat.sub_mul]
      have e1 : r * (k + 1) * x ^ k = (k + 1) * (r * x ^ k) := by rw [Nat.mul_right_comm, Nat.mul_comm]
      have e2 : k * x * x ^ k = k * x ^ (k + 1) := by rw [Nat.mul_assoc, Nat.pow_succ, Nat.mul_comm x]
      rw [e1, e2]
      omega
    generalize n / x ^ k = q at *
    omega
  · generalize n / x ^ k = q at *
    omega
theorem newtonk_stop {n r x k : Nat} (h2 : n < (r + 1) ^ (k + 1)) (hx : 0 < x) (hr : r ≤ x) (h : x ≤ n / x ^ k) : x = r := by
  have h4 : x ^ (k + 1) ≤ n := by rw [Nat.pow_succ, Nat.mul_comm]; exact (Nat.le_div_iff_mul_le (Nat.pow_pos hx)).mp h
  rcases Nat.lt_or_ge r x with q | q
  · have := Nat.pow_le_pow_left (show r + 1 ≤ x from q) (k + 1)
    omega
  · omega
theorem root_ex (n k : Nat) : ∃ r, r ^ (k + 1) ≤ n ∧ n < (r + 1) ^ (k + 1) := by
  induction n with
  | zero => exact ⟨0, by rw [Nat.zero_pow (by omega)]; exact Nat.le_refl _, by rw [Nat.zero_add, Nat.one_pow]; decide⟩
  | succ n ih =>
    obtain ⟨r, h1, h2⟩ := ih
    by_cases h : n + 1 < (r + 1) ^ (k + 1)
    · exact ⟨r, by omega, h⟩
    · refine ⟨r + 1, by omega, ?_⟩
      have : (r + 1) ^ (k + 1) < (r + 1 + 1) ^ (k + 1) := Nat.pow_lt_pow_left (by omega) (by omega)
      omega
noncomputable def rootMS (sq lg : Addr) : MS := (.seq (.ite (.cmp .eq (.var 1) (.int 1)) (.seq (.ite (.tv (.var 2)) (.seq (.ret (.tup (.cons (.var 0) (.cons (.var 0) .nil)))) .skip) (.seq (.ret (.var 0)) .skip)) .skip) (.seq (.ite (.cmp .eq (.var 1) (.int 2)) (.seq (.asg 3 (.call sq (.cons (.var 0) .nil))) (.seq (.ite (.tv (.var 2)) (.seq (.ret (.tup (.cons (.var 3) (.cons (.bin .pow (.var 3) (.int 2)) .nil)))) .skip) (.seq (.ret (.var 3)) .skip)) .skip)) .skip) .skip)) (.seq (.ite (.cmp .le (.var 0) (.int 0)) (.seq (.ite (.cmp .eq (.int 0) (.var 0)) (.seq (.ite (.tv (.var 2)) (.seq (.ret (.tup (.cons (.int 0) (.cons (.int 0) .nil)))) .skip) (.seq (.ret (.int 0)) .skip)) .skip) (.seq (.ite (.cmp .eq (.int 0) (.bin .band (.var 1) (.int 1))) (.seq (.raiseF "ValueError" (.cons (.var 0) (.cons (.var 1) .nil))) .skip) (.seq (.asg 4 (.neg (.int 1))) (.seq (.asg 0 (.neg (.var 0))) .skip))) .skip)) .skip) (.seq (.asg 4 (.int 1)) .skip)) (.seq (.unp [5, 6] (.dvm (.bin .add (.call lg (.cons (.var 0) .nil)) (.int 1)) (.var 1))) (.seq (.ite (.cmp .ne (.int 0) (.var 6)) (.seq (.aug 5 .add (.int 1)) .skip) .skip) (.seq (.asg 7 (.bin .shr (.var 0) (.bin .mul (.var 5) (.bin .sub (.var 1) (.int 1))))) (.seq (.asg 8 (.bin .shl (.int 1) (.var 5))) (.seq (.whil (.tv (.bool true)) (.seq (.aug 8 .add (.bin .fdiv (.bin .sub (.var 7) (.var 8)) (.var 1))) (.seq (.asg 9 (.bin .pow (.var 8) (.bin .sub (.var 1) (.int 1)))) (.seq (.asg 7 (.bin .fdiv (.var 0) (.var 9))) (.seq (.ite (.cmp .le (.var 8) (.var 7)) (.seq .brk .skip) .skip) .skip)))) .skip) (.seq (.ite (.cmp .lt (.var 4) (.int 0)) (.seq (.asg 8 (.neg (.var 8))) .skip) .skip) (.seq (.ite (.tv (.var 2)) (.seq (.ret (.tup (.cons (.var 8) (.cons (.bin .mul (.var 8) (.var 9)) .nil)))) .skip) (.seq (.ret (.var 8)) .skip)) .skip)))))))))
noncomputable def RetR (b : Bool) (r p : Int) (hp : HP) (Q : V → HP → Prop) : Prop := match b with
  | true => ∀ q h', h' q = some (.tup [.int r, .int p]) → Upto [] hp h' → Q (.ref q) h'
  | false => ∀ h', Upto [] hp h' → Q (.int r) h'
theorem root1 {g : G} {d : Nat} {hp : HP} {sq lg : Addr} {n : Int} {b : Bool} {Q : V → HP → Prop} {X : XT} (hQ : RetR b n n hp Q) :
    exec g d (rootMS sq lg) [.int n, .int 1, .bool b, .unb, .unb, .unb, .unb, .unb, .unb, .unb] hp (retQ Q) X := by
  refine ⟨fun _ => ?_, fun t => absurd (ceq_f.mp t) (by simp)⟩
  cases b with
  | true => exact ⟨fun _ => ⟨by simp [sizeLine_eq], fun q nq => hQ q _ hset_same (.new nq)⟩, (fun t => nomatch t)⟩
  | false => exact ⟨(fun t => nomatch t), fun _ => hQ _ .refl⟩
theorem root2 {g : G} {d : Nat} {hp : HP} {sq lg : Addr} {n r : Nat} {b : Bool} (h1 : r ^ 2 ≤ n) (h2 : n < (r + 1) ^ 2) (hn : n < 2 ^ 12900)
    (hsq : ∀ (Q : V → HP → Prop) (X : XC), (∀ h', Upto [] hp h' → Q (.int r) h') → Calls g d sq [.int n] [] hp Q X) {Q : V → HP → Prop} {X : XT} (hQ : RetR b r (r ^ 2 : Nat) hp Q) :
    exec g d (rootMS sq lg) [.int n, .int 2, .bool b, .unb, .unb, .unb, .unb, .unb, .unb, .unb] hp (retQ Q) X := by
  refine ⟨fun t => absurd (ceq_t.mp t) (by decide), fun _ => ⟨fun _ => ?_, fun t => absurd (ceq_f.mp t) (by simp)⟩⟩
  refine hsq _ _ fun h' u => ?_
  have hr : r < 2 ^ 12901 := by
    rcases Nat.lt_or_ge r (2 ^ 12901) with q | q
    · exact q
    · exfalso
      have h3 : 2 ^ 12900 ≤ 2 ^ 12901 := Nat.pow_le_pow_right (by decide) (by decide)
      have h4 : 0 < 2 ^ 12901 := Nat.pow_pos (by decide)
      have h5 : r ≤ r ^ 2 := by rw [Nat.pow_two]; exact Nat.le_mul_of_pos_left r (by generalize 2 ^ 12901 = z at *; omega)
      generalize 2 ^ 12901 = z at *
      generalize 2 ^ 12900 = y at *
      omega
  cases b with
  | true =>
    refine ⟨fun _ => ⟨⟨by decide, ?_⟩, by simp [sizeLine_eq], fun q nq => ?_⟩, (fun t => nomatch t)⟩
    · have := (BdN hr).bits; omega
    · have e : intOp (r : Int) 2 .pow = ((r ^ 2 : Nat) : Int) := by show (r : Int) ^ (2 : Int).toNat = _; push_cast; rfl
      rw [e]
      exact hQ q _ hset_same (u.trans (.new nq))
  | false => exact ⟨(fun t => nomatch t), fun _ => hQ _ u⟩
theorem root0 {g : G} {d : Nat} {hp : HP} {sq lg : Addr} {k : Nat} (hk : 3 ≤ k) {b : Bool} {Q : V → HP → Prop} {X : XT} (hQ : RetR b 0 0 hp Q) :
    exec g d (rootMS sq lg) [.int 0, .int k, .bool b, .unb, .unb, .unb, .unb, .unb, .unb, .unb] hp (retQ Q) X := by
  refine ⟨fun t => absurd (ceq_t.mp t) (by omega), fun _ => ⟨fun t => absurd (ceq_t.mp t) (by omega), fun _ => ?_⟩⟩
  refine ⟨fun _ => ⟨fun _ => ?_, fun t => absurd (ceq_f.mp t) (by simp)⟩, fun t => absurd (cle_f.mp t) (by decide)⟩
  cases b with
  | true => exact ⟨fun _ => ⟨by simp [sizeLine_eq], fun q nq => hQ q _ hset_same (.new nq)⟩, (fun t => nomatch t)⟩
  | false => exact ⟨(fun t => nomatch t), fun _ => hQ _ .refl⟩
noncomputable def dropN : Nat → MS → MS
  | n + 1, .seq _ r => dropN n r
  | _, m => m
theorem kstep_cast (k x q : Nat) : (x : Int) + ((q : Int) - x).fdiv ((k + 1 : Nat) : Int) = (((k * x + q) / (k + 1) : Nat) : Int) := by
  rw [Int.fdiv_eq_ediv_of_nonneg _ (by omega)]
  have e : (x : Int) + ((q : Int) - x) / ((k + 1 : Nat) : Int) = ((q : Int) - x + ((k + 1 : Nat) : Int) * x) / ((k + 1 : Nat) : Int) := by
    rw [Int.add_mul_ediv_left _ _ (by omega), Int.add_comm]
  rw [e]
  have e2 : (q : Int) - x + ((k + 1 : Nat) : Int) * x = ((k * x + q : Nat) : Int) := by
    push_cast
    rw [Int.add_mul, Int.one_mul]; omega
  rw [e2]; push_cast; rfl
theorem root_main {g : G} {d : Nat} {hp : HP} {sq lg : Addr} {n r k : Nat} {b : Bool} (hk : 2 ≤ k) (hk2 : k < 1000) (h1 : r ^ (k + 1) ≤ n) (h2 : n < (r + 1) ^ (k + 1)) (hn1 : 1 ≤ n) (hn : n < 2 ^ 12900) {sg : Int} (hs : sg = 1 ∨ sg = -1)
    (hlg : ∀ l : Nat, Builtin.Int.intBits (n : Int) = l + 1 → LogOf n 2 l → ∀ (Q : V → HP → Prop) (X : XC), (∀ h', Upto [] hp h' → Q (.int l) h') → Calls g d lg [.int n] [] hp Q X) {Q : V → HP → Prop} {X : XT} (hQ : RetR b (sg * r) (sg * (r ^ (k + 1) : Nat)) hp Q) :
    exec g d (dropN 2 (rootMS sq lg)) [.int n, .int ((k + 1 : Nat) : Int), .bool b, .unb, .int sg, .unb, .unb, .unb, .unb, .unb] hp (retQ Q) X := by
  obtain ⟨l, hl⟩ := log_ex (b := 2) (by decide) hn1
  have hll : l < 12900 := hl.small' hn
  refine hlg l (by have := intBits_log hl; omega) hl _ _ fun h' u => ?_
  refine ⟨trivial, (by show ((k + 1 : Nat) : Int) ≠ 0; omega), fun q nq => ?_⟩
  have ed : intOp (l : Int) 1 .add = ((l + 1 : Nat) : Int) := by rfl
  rw [ed]
  refine ⟨_, hset_same, rfl, ?_⟩
  have e1 : ((l + 1 : Nat) : Int).fdiv ((k + 1 : Nat) : Int) = (((l + 1) / (k + 1) : Nat) : Int) := by rw [Int.fdiv_eq_ediv_of_nonneg _ (by omega)]; push_cast; rfl
  have e2 : ((l + 1 : Nat) : Int).fmod ((k + 1 : Nat) : Int) = (((l + 1) % (k + 1) : Nat) : Int) := by rw [Int.fmod_eq_emod_of_nonneg _ (by omega)]; push_cast; rfl
  rw [e1, e2]
  have u1 : Upto [] hp (hset h' q (.tup [.int (((l + 1) / (k + 1) : Nat) : Int), .int (((l + 1) % (k + 1) : Nat) : Int)])) := u.trans (.new nq)
  generalize hset h' q (.tup [.int (((l + 1) / (k + 1) : Nat) : Int), .int (((l + 1) % (k + 1) : Nat) : Int)]) = h1' at *
  have rest : ∀ E : Nat, l + 1 ≤ E * (k + 1) → E ≤ l + 2 → exec g d (dropN 4 (rootMS sq lg)) [.int n, .int ((k + 1 : Nat) : Int), .bool b, .unb, .int sg, .int E, .int (((l + 1) % (k + 1) : Nat) : Int), .unb, .unb, .unb] h1' (retQ Q) X := by
    intro E hE hE2
    have hbE : Bd 20 (E : Int) := BdN (by omega)
    have hbk : Bd 20 ((k : Nat) : Int) := BdN (by omega)
    have ek : intOp ((k + 1 : Nat) : Int) 1 .sub = (k : Int) := by show ((k + 1 : Nat) : Int) - 1 = _; omega
    refine ⟨trivial, by rw [ek]; exact hbE.mulOk hbk, by rw [ek]; exact Int.mul_nonneg (by omega) (by omega), ⟨by omega, ?_⟩, ?_⟩
    · have : Builtin.Int.intBits 1 = 1 := by decide
      rw [this]; omega
    have eq0 : intOp (n : Int) (intOp (E : Int) (intOp ((k + 1 : Nat) : Int) 1 .sub) .mul) .shr = ((n / (2 ^ E) ^ k : Nat) : Int) := by
      rw [ek]
      show (n : Int).fdiv (2 ^ ((E : Int) * (k : Int)).toNat) = _
      rw [show ((E : Int) * (k : Int)).toNat = E * k by rw [← Int.natCast_mul, Int.toNat_natCast], Int.fdiv_eq_ediv_of_nonneg _ (Int.le_of_lt (Int.pow_pos (by decide))), show (2 : Int) ^ (E * k) = (((2 ^ E) ^ k : Nat) : Int) by rw [← Nat.pow_mul]; push_cast; rfl]
      push_cast; rfl
    have ex0 : intOp 1 (E : Int) .shl = ((2 ^ E : Nat) : Int) := by
      show (1 : Int) * 2 ^ (E : Int).toNat = _
      rw [Int.toNat_natCast, Int.one_mul]; push_cast; rfl
    show exec g d _ [.int n, .int ((k + 1 : Nat) : Int), .bool b, .unb, .int sg, .int E, .int (((l + 1) % (k + 1) : Nat) : Int), .int (intOp (n : Int) (intOp (E : Int) (intOp ((k + 1 : Nat) : Int) 1 .sub) .mul) .shr), .int (intOp 1 (E : Int) .shl), .unb] h1' (retQ Q) X
    rw [eq0, ex0]
    have hx0 : 0 < 2 ^ E := Nat.pow_pos (by decide)
    have hbig : n < (2 ^ E) ^ (k + 1) := by
      rw [← Nat.pow_mul]
      exact Nat.lt_of_lt_of_le hl.hi (Nat.pow_le_pow_right (by decide) hE)
    have hrE : r ≤ 2 ^ E := by
      rcases Nat.lt_or_ge (2 ^ E) r with q | q
      · exfalso
        have := Nat.pow_lt_pow_left q (show k + 1 ≠ 0 by omega)
        omega
      · exact q
    have hr1 : 1 ≤ r := by
      rcases Nat.eq_zero_or_pos r with q | q
      · subst q; simp at h2; omega
      · exact q
    refine ⟨fun i l' h' => ∃ (x q : Nat) (v : V), l' = [.int n, .int ((k + 1 : Nat) : Int), .bool b, .unb, .int sg, .int E, .int (((l + 1) % (k + 1) : Nat) : Int), .int q, .int x, v] ∧ h' = h1' ∧ q = n / x ^ k ∧ q < x ∧ r ≤ x ∧ x ≤ 2 ^ E ∧ i = x,
      ⟨_, 2 ^ E, n / (2 ^ E) ^ k, .unb, rfl, rfl, rfl, ?_, hrE, Nat.le_refl _, rfl⟩, ?_⟩
    · exact (Nat.div_lt_iff_lt_mul (Nat.pow_pos hx0)).mpr (by rw [Nat.mul_comm, ← Nat.pow_succ]; exact hbig)
    rintro i l' h' ⟨x, q, v, rfl, rfl, rfl, hqx, hrx, hxE, rfl⟩
    have hx : 0 < i := by omega
    refine ⟨fun _ => ?_, (fun t => nomatch t)⟩
    refine ⟨trivial, (by show ((k + 1 : Nat) : Int) ≠ 0; omega), trivial, ?_⟩
    have es : intOp (i : Int) (intOp (intOp ((n / i ^ k : Nat) : Int) (i : Int) .sub) ((k + 1 : Nat) : Int) .fdiv) .add = (((k * i + n / i ^ k) / (k + 1) : Nat) : Int) := kstep_cast k i (n / i ^ k)
    have hge := newtonk_ge h1 hx
    have hlt : (k * i + n / i ^ k) / (k + 1) < i := by
      refine (Nat.div_lt_iff_lt_mul (by omega)).mpr ?_
      rw [Nat.mul_add, Nat.mul_one, Nat.mul_comm i k]
      generalize n / i ^ k = q at *
      omega
    show exec g d _ [.int n, .int ((k + 1 : Nat) : Int), .bool b, .unb, .int sg, .int E, .int (((l + 1) % (k + 1) : Nat) : Int), .int (n / i ^ k : Nat), .int (intOp (i : Int) (intOp (intOp ((n / i ^ k : Nat) : Int) (i : Int) .sub) ((k + 1 : Nat) : Int) .fdiv) .add), v] h' _ noX
    rw [es]
    generalize (k * i + n / i ^ k) / (k + 1) = y at *
    have hy : 0 < y := by omega
    have hyb : Bd (E + 1) (y : Int) := BdN (by rw [Nat.pow_succ]; omega)
    refine ⟨trivial, ⟨by rw [ek]; omega, ?_⟩, ?_⟩
    · rw [ek]
      have := hyb.bits
      have h5 : (Builtin.Int.intBits (y : Int) : Int) * (k : Int) ≤ 12903 * 1000 := Int.mul_le_mul (by omega) (by omega) (by omega) (by decide)
      omega
    have ez : intOp (y : Int) (intOp ((k + 1 : Nat) : Int) 1 .sub) .pow = ((y ^ k : Nat) : Int) := by
      rw [ek]
      show (y : Int) ^ (k : Int).toNat = _
      rw [Int.toNat_natCast]; push_cast; rfl
    show exec g d _ [.int n, .int ((k + 1 : Nat) : Int), .bool b, .unb, .int sg, .int E, .int (((l + 1) % (k + 1) : Nat) : Int), .int (n / i ^ k : Nat), .int y, .int (intOp (y : Int) (intOp ((k + 1 : Nat) : Int) 1 .sub) .pow)] h' _ noX
    rw [ez]
    have hyk : 0 < y ^ k := Nat.pow_pos hy
    refine ⟨(by show ((y ^ k : Nat) : Int) ≠ 0; omega), ?_⟩
    have eq1 : intOp (n : Int) ((y ^ k : Nat) : Int) .fdiv = ((n / y ^ k : Nat) : Int) := by
      show (n : Int).fdiv _ = _
      rw [Int.fdiv_eq_ediv_of_nonneg _ (by omega)]; push_cast; rfl
    show exec g d _ [.int n, .int ((k + 1 : Nat) : Int), .bool b, .unb, .int sg, .int E, .int (((l + 1) % (k + 1) : Nat) : Int), .int (intOp (n : Int) ((y ^ k : Nat) : Int) .fdiv), .int y, .int (y ^ k : Nat)] h' _ noX
    rw [eq1]
    refine ⟨fun t => ?_, fun t => ?_⟩
    · have t := Int.ofNat_le.mp (cle_t.mp t)
      have hyr := newtonk_stop h2 hy hge t
      subst hyr
      have hyn : y ^ k ≤ n := Nat.le_trans (Nat.pow_le_pow_right hy (Nat.le_succ k)) h1
      have hBk : Bd 12901 ((y ^ k : Nat) : Int) := (BdN (Nat.lt_of_le_of_lt hyn hn)).mono (by decide)
      have hB13 : Bd 12904 (y : Int) := hyb.mono (by omega)
      have em : (y : Int) * ((y ^ k : Nat) : Int) = ((y ^ (k + 1) : Nat) : Int) := by rw [Nat.pow_succ, Nat.mul_comm]; push_cast; rfl
      rcases hs with rfl | rfl
      · refine ⟨fun q => absurd (clt_t.mp q) (by decide), fun _ => ?_⟩
        rw [Int.one_mul, Int.one_mul] at hQ
        cases b with
        | true =>
          refine ⟨fun _ => ⟨hB13.mulOk hBk, by simp [sizeLine_eq], fun q nq => ?_⟩, (fun t => nomatch t)⟩
          rw [← em] at hQ
          exact hQ q _ hset_same (u1.trans (.new nq))
        | false => exact ⟨(fun t => nomatch t), fun _ => hQ _ u1⟩
      · refine ⟨fun _ => ?_, fun q => absurd (clt_f.mp q) (by decide)⟩
        rw [Int.neg_mul, Int.neg_mul, Int.one_mul, Int.one_mul] at hQ
        cases b with
        | true =>
          refine ⟨fun _ => ⟨hB13.neg.mulOk hBk, by simp [sizeLine_eq], fun q nq => ?_⟩, (fun t => nomatch t)⟩
          rw [← em, ← Int.neg_mul] at hQ
          exact hQ q _ hset_same (u1.trans (.new nq))
        | false => exact ⟨(fun t => nomatch t), fun _ => hQ _ u1⟩
    · have t := Int.ofNat_lt.mp (cle_f.mp t)
      exact ⟨y, hlt, y, n / y ^ k, _, rfl, rfl, rfl, t, hge, by omega, rfl⟩
  refine ⟨fun t => ⟨trivial, ?_⟩, fun t => ?_⟩
  · have := rest ((l + 1) / (k + 1) + 1) ?_ ?_
    · exact this
    · have := Nat.div_add_mod (l + 1) (k + 1)
      have h3 := Nat.mod_lt (l + 1) (show 0 < k + 1 by omega)
      rw [Nat.add_mul, Nat.mul_comm]; omega
    · have := Nat.div_le_self (l + 1) (k + 1); omega
  · have t := cne_f.mp t
    refine rest ((l + 1) / (k + 1)) ?_ ?_
    · have := Nat.div_add_mod (l + 1) (k + 1)
      rw [Nat.mul_comm]; omega
    · have := Nat.div_le_self (l + 1) (k + 1); omega
theorem root_pos {g : G} {d : Nat} {hp : HP} {sq lg : Addr} {n r k : Nat} {b : Bool} (hk : 2 ≤ k) (hk2 : k < 1000) (h1 : r ^ (k + 1) ≤ n) (h2 : n < (r + 1) ^ (k + 1)) (hn1 : 1 ≤ n) (hn : n < 2 ^ 12900)
    (hlg : ∀ l : Nat, Builtin.Int.intBits (n : Int) = l + 1 → LogOf n 2 l → ∀ (Q : V → HP → Prop) (X : XC), (∀ h', Upto [] hp h' → Q (.int l) h') → Calls g d lg [.int n] [] hp Q X) {Q : V → HP → Prop} {X : XT} (hQ : RetR b r (r ^ (k + 1) : Nat) hp Q) :
    exec g d (rootMS sq lg) [.int n, .int ((k + 1 : Nat) : Int), .bool b, .unb, .unb, .unb, .unb, .unb, .unb, .unb] hp (retQ Q) X := by
  refine ⟨fun t => absurd (ceq_t.mp t) (by omega), fun _ => ⟨fun t => absurd (ceq_t.mp t) (by omega), fun _ => ?_⟩⟩
  refine ⟨fun t => absurd (cle_t.mp t) (by omega), fun _ => ?_⟩
  exact root_main (sq := sq) (b := b) hk hk2 h1 h2 hn1 hn (sg := 1) (.inl rfl) hlg (by rw [Int.one_mul, Int.one_mul]; exact hQ)
/-- what a law's top gives: the text, the world, the heap that stands, the names that may be read -/
structure HB where
  prog : Program
  w : World
  K : Frag
  p : Program
  lo : List Str
  gt : List (Str × Addr)
  bt : List Str
noncomputable abbrev HB.gm (b : HB) (mean : ExcName → Option Value) (mg mb : Str → Option Value) : G := ⟨b.prog, b.w, b.K, b.p, b.lo, mean, mg, mb⟩
/-- what the kernel sees of the def at a -/
noncomputable def HB.Fn (b : HB) (a : Addr) (names : List Str) (np : Nat) (ms : MS) : Prop :=
  fnOkB b.K a = true ∧ (∀ mean mg mb, (cSB (mkF (b.gm mean mg mb) b.gt b.bt a) 60 (bodyAt b.K a)).map (fun m => m.1) = some ms) ∧
    namesOf (fnAt b.K a).scope = names ∧ ndB names = true ∧ ((names.take np).all fun x => (fnAt b.K a).scope.names.lookup x == some .local) = true
noncomputable def HB.FnC (b : HB) (a : Addr) (names : List Str) (np : Nat) (ks : List Bool) (ms : MS) : Prop :=
  fnOkC b.K a names = true ∧ (∀ mean mg mb, (cSB (mkF (b.gm mean mg mb) b.gt b.bt a) 60 (bodyAt b.K a)).map (fun m => m.1) = some ms) ∧
    namesOf (fnAt b.K a).scope = names ∧ ndB names = true ∧ ((names.take np).all fun x => (fnAt b.K a).scope.names.lookup x == some .local || (fnAt b.K a).scope.names.lookup x == some .cell) = true ∧
    cellKs (fnAt b.K a).scope names = ks
noncomputable def BindN (K : Frag) (a : Addr) (xs : List Str) : Nat → List Value → Prop
  | 0, acc => bindArgs (fnAt K a) ⟨acc, []⟩ = pure (xs.zip acc)
  | n + 1, acc => ∀ v, BindN K a xs n (acc ++ [v])
theorem BindN.get {K : Frag} {a : Addr} {xs : List Str} : ∀ {n : Nat} {acc : List Value}, BindN K a xs n acc → ∀ vals : List Value, vals.length = n → bindArgs (fnAt K a) ⟨acc ++ vals, []⟩ = pure (xs.zip (acc ++ vals))
  | 0, acc, h, [], _ => by rw [List.append_nil]; exact h
  | n + 1, acc, h, v :: vs, hl => by
    have := BindN.get (h v) vs (Nat.succ.inj hl)
    rwa [List.append_assoc] at this
/-- what a tree does behind its first look at T, when o stands there -/
noncomputable def afterLoad {α : Type} (t : Sem α) (T : Addr) (o : Obj) : Option (Sem α) := match t with
  | .load a _ k => if a == T then some (k o) else none
  | _ => none
theorem BindsTo.of_load {s : Shared} {fd : FuncData} {args : Args} {binds : List (Str × Value)} {T : Addr} {o : Obj} (ho : s.heap.get? T = some o) (h : afterLoad (bindArgs fd args) T o = some (pure binds)) : BindsTo s fd args binds := fun M A E Q hq => by
  unfold afterLoad at h
  split at h
  · rename_i a p k e
    split at h
    · rename_i ha
      cases eq_of_beq ha
      rw [e]
      refine nd_load ho ?_
      rw [Option.some.inj h]
      exact wpAny_pure hq
    · cases h
  · cases h
noncomputable abbrev tupO (items : Array Value) (k : Nat) : Obj := ⟨.type "tuple", none, .seq items k, #[]⟩
noncomputable def BindD (K : Frag) (a T : Addr) (xs : List Str) (o : Obj) (dv : List Value) : Nat → List Value → Prop
  | 0, acc => afterLoad (bindArgs (fnAt K a) ⟨acc, []⟩) T o = some (pure (xs.zip (acc ++ dv)))
  | n + 1, acc => ∀ v, BindD K a T xs o dv n (acc ++ [v])
theorem BindD.get {K : Frag} {a T : Addr} {xs : List Str} {o : Obj} {dv : List Value} : ∀ {n : Nat} {acc : List Value}, BindD K a T xs o dv n acc → ∀ vals : List Value, vals.length = n →
    afterLoad (bindArgs (fnAt K a) ⟨acc ++ vals, []⟩) T o = some (pure (xs.zip (acc ++ vals ++ dv)))
  | 0, acc, h, [], _ => by rw [List.append_nil]; exact h
  | n + 1, acc, h, v :: vs, hl => by
    have := BindD.get (h v) vs (Nat.succ.inj hl)
    rwa [List.append_assoc] at this
noncomputable def BindK (K : Frag) (a T : Addr) (xs : List Str) (o : Obj) (kw : Str) : Nat → List Value → Prop
  | 0, acc => ∀ vk, afterLoad (bindArgs (fnAt K a) ⟨acc, [(kw, vk)]⟩) T o = some (pure (xs.zip (acc ++ [vk])))
  | n + 1, acc => ∀ v, BindK K a T xs o kw n (acc ++ [v])
theorem BindK.get {K : Frag} {a T : Addr} {xs : List Str} {o : Obj} {kw : Str} : ∀ {n : Nat} {acc : List Value}, BindK K a T xs o kw n acc → ∀ vals : List Value, vals.length = n → ∀ vk,
    afterLoad (bindArgs (fnAt K a) ⟨acc ++ vals, [(kw, vk)]⟩) T o = some (pure (xs.zip (acc ++ vals ++ [vk])))
  | 0, acc, h, [], _ => by rw [List.append_nil]; exact h
  | n + 1, acc, h, v :: vs, hl => by
    have := BindK.get (h v) vs (Nat.succ.inj hl)
    rwa [List.append_assoc] at this
theorem zipAbs (xs : List Str) (vals : List Value) : ((xs.zip vals).map fun p => (p.1, absV p.2)) = xs.zip (vals.map absV) := by
  rw [List.zip_map_right]; rfl
theorem binds0 {b : HB} {a : Addr} {xs : List Str} {np : Nat} (B : BindN b.K a xs np []) {mean mg mb} {args : List V} (hl : args.length = np) : Binds (b.gm mean mg mb) a args [] (xs.zip args) := fun s vals kvals _ hv hkv => by
  obtain rfl : kvals = [] := by simpa using hkv
  subst hv
  exact ⟨xs.zip vals, BindsTo.of_eq (B.get vals (by simpa using hl)), zipAbs _ _⟩
theorem bindsD {b : HB} {a T : Addr} {xs : List Str} {o : Obj} {dv : List Value} {np : Nat} (D : b.K.lookup T = some o) (B : BindD b.K a T xs o dv np []) {mean mg mb} {args dva : List V} (hl : args.length = np)
    (hd : dv.map absV = dva) : Binds (b.gm mean mg mb) a args [] (xs.zip (args ++ dva)) := fun s vals kvals hK hv hkv => by
  obtain rfl : kvals = [] := by simpa using hkv
  subst hv; subst hd
  refine ⟨xs.zip (vals ++ dv), BindsTo.of_load (hK T _ D) (B.get vals (by simpa using hl)), ?_⟩
  rw [zipAbs, List.map_append]
theorem zip_fst {α β : Type} : ∀ {xs : List α} {ys : List β}, xs.length = ys.length → (xs.zip ys).map (·.1) = xs
  | [], [], _ => rfl
  | x :: xs, y :: ys, h => by rw [List.zip_cons_cons, List.map_cons, zip_fst (Nat.succ.inj h)]
theorem zip_snd {α β : Type} : ∀ {xs : List α} {ys : List β}, xs.length = ys.length → (xs.zip ys).map (·.2) = ys
  | [], [], _ => rfl
  | x :: xs, y :: ys, h => by rw [List.zip_cons_cons, List.map_cons, zip_snd (Nat.succ.inj h)]
theorem take_len {α : Type} : ∀ (n : Nat) (l : List α), l.take (l.take n).length = l.take n
  | 0, _ => rfl
  | _ + 1, [] => rfl
  | n + 1, x :: l => by rw [List.take_succ_cons, List.length_cons, List.take_succ_cons, take_len n l]
/-- a call of a def, by what the kernel sees -/
theorem callF {b : HB} (hgt : gtB b.K b.gt = true) (hbt : btB b.K b.bt = true) {a : Addr} {names xs : List Str} {np : Nat} {ms : MS} (F : b.Fn a names np ms) {mean mg mb} {args bv : List V} {kw : List (Str × V)}
    (B : Binds (b.gm mean mg mb) a args kw (xs.zip bv)) (hx : names.take np = xs) (hl : xs.length = bv.length) {d : Nat} {hp : HP} {Q : V → HP → Prop} {X : XC}
    (h : exec (b.gm mean mg mb) d ms (bv ++ List.replicate (names.length - xs.length) V.unb) hp (retQ Q) (upX X)) : Calls (b.gm mean mg mb) (d + 1) a args kw hp Q X := by
  obtain ⟨h1, h2, h3, h4, h5⟩ := F
  subst h3; subst hx
  have hm : (((namesOf (fnAt b.K a).scope).take np).zip bv).length = ((namesOf (fnAt b.K a).scope).take np).length := by rw [List.length_zip, hl, Nat.min_self]
  refine calls_of (F := mkF (b.gm mean mg mb) b.gt b.bt a) (fok hgt hbt h4) h1 rfl (sb_of (h2 mean mg mb)) B ?_ ?_ ?_
  · rw [zip_fst hl, hm]; exact take_len _ _
  · have := h5
    rw [← zip_fst hl, List.all_map] at this
    exact this
  · rw [zip_snd hl, hm]; exact h
theorem callC {b : HB} (hgt : gtB b.K b.gt = true) (hbt : btB b.K b.bt = true) {a : Addr} {names xs : List Str} {np : Nat} {ks : List Bool} {ms : MS} (F : b.FnC a names np ks ms) {mean mg mb} {args bv : List V} {kw : List (Str × V)}
    (B : Binds (b.gm mean mg mb) a args kw (xs.zip bv)) (hx : names.take np = xs) (hl : xs.length = bv.length) {ps : List (Bool × V)} (hps : ks.zip (unC names (xs.zip bv)) = ps) {d : Nat} {hp : HP} {Q : V → HP → Prop} {X : XC}
    (h : enterC ps hp fun l h0 => exec (b.gm mean mg mb) d ms l h0 (retQ Q) noX) : Calls (b.gm mean mg mb) (d + 1) a args kw hp Q X := by
  obtain ⟨h1, h2, h3, h4, h5, h6⟩ := F
  subst h3; subst hx; subst h6
  have hm : (((namesOf (fnAt b.K a).scope).take np).zip bv).length = ((namesOf (fnAt b.K a).scope).take np).length := by rw [List.length_zip, hl, Nat.min_self]
  refine calls_ofC (F := mkF (b.gm mean mg mb) b.gt b.bt a) (fok hgt hbt h4) h1 rfl (sb_of (h2 mean mg mb)) B ?_ ?_ ?_
  · rw [zip_fst hl, hm]; exact take_len _ _
  · have := h5
    rw [← zip_fst hl, List.all_map] at this
    exact this
  · show enterC ((cellKs _ (namesOf (fnAt b.K a).scope)).zip _) _ _
    rw [hps]; exact h
/-! the plain law of xv0001-02 -/
/-- the digits of n to the base m, the low ones first -/
inductive Digits (m : Int) : Int → List Int → Prop
  | last {n : Int} : n < m → Digits m n [n]
  | more {n : Int} {ds : List Int} : m ≤ n → Digits m (n.fdiv m) ds → Digits m n (n.fmod m :: ds)
theorem fdiv_small {m n : Int} (hm : 2 ≤ m) (hn : m ≤ n) : 1 ≤ n.fdiv m ∧ 2 * n.fdiv m ≤ n := by
  rw [Int.fdiv_eq_ediv_of_nonneg n (by omega)]
  have h0 : 1 ≤ n / m := Int.le_ediv_of_mul_le (by omega) (by omega)
  have h1 := Int.mul_ediv_self_le (x := n) (k := m) (by omega)
  refine ⟨h0, ?_⟩
  have : 2 * (n / m) ≤ m * (n / m) := Int.mul_le_mul_of_nonneg_right hm (by omega)
  omega
theorem digits_ex {m : Int} (hm : 2 ≤ m) : ∀ (k : Nat) (n : Int), n.toNat ≤ k → ∃ ds, Digits m n ds
  | 0, n, h => ⟨_, .last (by omega)⟩
  | k + 1, n, h => by
    by_cases hn : n < m
    · exact ⟨_, .last hn⟩
    · obtain ⟨a, b⟩ := fdiv_small hm (show m ≤ n by omega)
      obtain ⟨ds, hd⟩ := digits_ex hm k (n.fdiv m) (by omega)
      exact ⟨_, .more (by omega) hd⟩
theorem Digits.ne {m n : Int} {ds : List Int} (h : Digits m n ds) : ds ≠ [] := by cases h <;> simp
theorem Digits.len {m n : Int} {ds : List Int} (hm : 2 ≤ m) (h : Digits m n ds) : ∀ k : Nat, n < 2 ^ k → ds.length ≤ k + 1 := by
  induction h with
  | last h => intro k _; simp
  | @more n ds h _ ih =>
    intro k hk
    cases k with
    | zero => simp at hk; omega
    | succ k =>
      have := ih k (by
        have := (fdiv_small hm h).2
        have e : (2 : Int) ^ (k + 1) = 2 * 2 ^ k := by rw [Int.pow_succ, Int.mul_comm]
        omega)
      simp; omega
theorem Digits.log {m n : Int} {ds : List Int} (hm : 2 ≤ m) (h : Digits m n ds) : 1 ≤ n → m ^ (ds.length - 1) ≤ n ∧ n < m ^ ds.length := by
  induction h with
  | last h => intro h1; simp only [List.length_cons, List.length_nil]; exact ⟨by simpa using h1, by simpa [pow_one'] using h⟩
  | @more n ds h hd ih =>
    intro h1
    obtain ⟨a, b⟩ := fdiv_small hm h
    obtain ⟨c, e⟩ := ih a
    have hl : ds.length ≠ 0 := fun q => hd.ne (List.length_eq_zero_iff.mp q)
    obtain ⟨j, hj⟩ := Nat.exists_eq_succ_of_ne_zero hl
    have key := Int.fmod_add_mul_fdiv n m
    have r0 : 0 ≤ n.fmod m ∧ n.fmod m < m := by rw [Int.fmod_eq_emod_of_nonneg n (by omega)]; exact ⟨Int.emod_nonneg _ (by omega), Int.emod_lt_of_pos _ (by omega)⟩
    rw [hj] at c e
    simp only [List.length_cons, hj, Nat.add_sub_cancel, Nat.succ_eq_add_one] at c e ⊢
    have c2 : m ^ j * m ≤ n.fdiv m * m := Int.mul_le_mul_of_nonneg_right c (by omega)
    have e2 : (n.fdiv m + 1) * m ≤ m ^ (j + 1) * m := Int.mul_le_mul_of_nonneg_right (by omega) (by omega)
    rw [Int.add_mul, Int.one_mul] at e2
    rw [Int.mul_comm] at key
    rw [Int.pow_succ m (j + 1)]
    constructor
    · rw [Int.pow_succ]; omega
    · omega
theorem Digits.logOf {m n l : Nat} {ds : List Int} (h : Digits (m : Int) n ds) (hl : LogOf n m l) : ds.length = l + 1 := by
  have h2 := hl.two
  obtain ⟨a, b⟩ := h.log (by omega) (by have := hl.n1; omega)
  have hne : ds.length ≠ 0 := fun q => h.ne (List.length_eq_zero_iff.mp q)
  obtain ⟨j, hj⟩ := Nat.exists_eq_succ_of_ne_zero hne
  rw [hj] at a b ⊢
  simp only [Nat.succ_eq_add_one, Nat.add_sub_cancel] at a b ⊢
  rw [hl.uniq (k := j) (by exact_mod_cast a) (by exact_mod_cast b)]
theorem Digits.uniq {m n : Int} {ds es : List Int} (h : Digits m n ds) (h' : Digits m n es) : ds = es := by
  induction h generalizing es with
  | last h => cases h' with
    | last _ => rfl
    | more h2 _ => omega
  | more h _ ih => cases h' with
    | last h2 => omega
    | more _ h2 => rw [ih h2]
/-- m is how often p divides n, c what is left -/
structure Mult (n p : Int) (m : Nat) (c : Int) : Prop where
  eq : n = c * p ^ m
  ne : c.fmod p ≠ 0
  two : 2 ≤ p.natAbs
/-- the noughts that the digits begin with -/
theorem Digits.nought {m n : Int} {ds : List Int} (hm : 2 ≤ m) (h : Digits m n ds) : 1 ≤ n → ∃ z c, Mult n m z c ∧ 1 ≤ c ∧ Digits m c (ds.drop z) ∧ (∀ i, i < z → ds[i]? = some 0) ∧ ∃ x, ds[z]? = some x ∧ x ≠ 0 := by
  induction h with
  | @last n h =>
    intro h1
    have e : n.fmod m = n := by rw [Int.fmod_eq_emod_of_nonneg n (by omega)]; exact Int.emod_eq_of_lt (by omega) h
    exact ⟨0, n, ⟨by simp, by rw [e]; omega, by omega⟩, h1, .last h, fun i hi => absurd hi (by omega), n, rfl, by omega⟩
  | @more n ds h hd ih =>
    intro h1
    by_cases hz : n.fmod m = 0
    · obtain ⟨z, c, M, hc, D, hi, hx⟩ := ih (fdiv_small hm h).1
      refine ⟨z + 1, c, ⟨?_, M.ne, M.two⟩, hc, by simpa using D, fun i hi' => ?_, by simpa using hx⟩
      · have key := Int.fmod_add_mul_fdiv n m
        have e : n = n.fdiv m * m := by rw [Int.mul_comm]; omega
        rw [e]
        conv => lhs; rw [M.eq]
        rw [Int.pow_succ, Int.mul_assoc]
      · cases i with
        | zero => simp [hz]
        | succ i => simpa using hi i (by omega)
    · exact ⟨0, n, ⟨by simp, hz, by omega⟩, h1, .more h hd, fun i hi => absurd hi (by omega), n.fmod m, rfl, hz⟩
theorem Mult.p0 {n p : Int} {m : Nat} {c : Int} (h : Mult n p m c) : p ≠ 0 := by intro e; have := h.two; rw [e] at this; simp at this
theorem Mult.pow0 {n p : Int} {m : Nat} {c : Int} (h : Mult n p m c) (j : Nat) : p ^ j ≠ 0 := Int.pow_ne_zero h.p0
theorem Mult.dvd_iff {n p : Int} {m : Nat} {c : Int} (h : Mult n p m c) {j : Nat} (hj : j ≤ m) : n.fmod (p ^ (j + 1)) = 0 ↔ j < m := by
  rw [fmod_zero_iff]
  constructor
  · intro hd
    rcases Nat.lt_or_ge j m with q | q
    · exact q
    · exfalso
      have : j = m := by omega
      subst this
      obtain ⟨q, hq⟩ := hd
      apply h.ne
      apply fmod_zero_iff.mpr
      refine ⟨q, ?_⟩
      have e : c * p ^ j = p * q * p ^ j := by
        have := h.eq.symm.trans hq
        rw [this, Int.pow_succ, Int.mul_assoc, Int.mul_comm]
      exact Int.eq_of_mul_eq_mul_right (h.pow0 j) e
  · intro hlt
    refine ⟨c * p ^ (m - (j + 1)), ?_⟩
    have : m = (j + 1) + (m - (j + 1)) := by omega
    rw [h.eq]
    conv => lhs; rw [this, Int.pow_add]
    rw [← Int.mul_assoc, Int.mul_comm c, Int.mul_assoc]
theorem Mult.div0 {n p : Int} {m : Nat} {c : Int} (h : Mult n p m c) : n.fdiv (p ^ m) = c := by rw [h.eq]; exact Int.mul_fdiv_cancel _ (h.pow0 m)
theorem Mult.div {n p : Int} {m : Nat} {c : Int} (h : Mult n p m c) : n.fdiv ((p ^ (m + 1)).fdiv p) = c := by
  have e1 : (p ^ (m + 1)).fdiv p = p ^ m := by rw [Int.pow_succ]; exact Int.mul_fdiv_cancel _ h.p0
  rw [e1]; exact h.div0
theorem mult_ex {p : Int} (hp : 2 ≤ p.natAbs) : ∀ (k : Nat) (n : Int), n.natAbs ≤ k → n ≠ 0 → ∃ (m : Nat) (c : Int), Mult n p m c
  | 0, n, h, hn => absurd (Int.natAbs_eq_zero.mp (Nat.le_zero.mp h)) hn
  | k + 1, n, h, hn => by
    by_cases hd : n.fmod p = 0
    · obtain ⟨q, hq⟩ := fmod_zero_iff.mp hd
      have hq0 : q ≠ 0 := fun e => hn (by rw [hq, e, Int.mul_zero])
      have hqa : 0 < q.natAbs := Int.natAbs_pos.mpr hq0
      have e1 : n.natAbs = p.natAbs * q.natAbs := by rw [hq, Int.natAbs_mul]
      have h2 : 2 * q.natAbs ≤ n.natAbs := by rw [e1]; exact Nat.mul_le_mul_right _ hp
      obtain ⟨m, c, h3⟩ := mult_ex hp k q (by omega) hq0
      refine ⟨m + 1, c, ⟨?_, h3.ne, hp⟩⟩
      rw [hq, h3.eq, Int.pow_succ, Int.mul_comm p, Int.mul_assoc]
    · exact ⟨0, n, ⟨by simp, hd, hp⟩⟩
theorem mul_pow' (a b : Int) : ∀ k : Nat, (a * b) ^ k = a ^ k * b ^ k
  | 0 => by simp
  | k + 1 => by rw [Int.pow_succ, mul_pow' a b k, Int.pow_succ, Int.pow_succ]; simp only [Int.mul_assoc, Int.mul_left_comm, Int.mul_comm]
/-- the same of a power, p prime and small -/
theorem Mult.pow {n p : Int} {m : Nat} {c : Int} (h : Mult n p m c) {k : Nat} (hk : k = 2 ∨ k = 3) (hp : p = 2 ∨ p = 3 ∨ p = 5 ∨ p = 7 ∨ p = 11 ∨ p = 13) : Mult (n ^ k) p (k * m) (c ^ k) := by
  refine ⟨?_, ?_, h.two⟩
  · rw [h.eq, mul_pow', Nat.mul_comm, Int.pow_mul]
  · intro q
    apply h.ne
    have hp0 : 0 ≤ p := by omega
    rw [Int.fmod_eq_emod_of_nonneg _ hp0] at q ⊢
    have r1 := Int.emod_nonneg c (show p ≠ 0 by omega)
    have r2 := Int.emod_lt_of_pos c (show 0 < p by omega)
    have key : (∀ x : Nat, x < 14 → ∀ p ∈ [2, 3, 5, 7, 11, 13], x < p → x * x % p = 0 → x = 0) ∧ (∀ x : Nat, x < 14 → ∀ p ∈ [2, 3, 5, 7, 11, 13], x < p → x * x % p * x % p = 0 → x = 0) := by decide
    obtain ⟨y, hy⟩ := Int.eq_ofNat_of_zero_le r1
    obtain ⟨P, rfl⟩ := Int.eq_ofNat_of_zero_le hp0
    have hP : P ∈ [2, 3, 5, 7, 11, 13] := by
      simp only [List.mem_cons, List.not_mem_nil, or_false]; omega
    have e2 : c ^ 2 % P = ((y * y % P : Nat) : Int) := by
      rw [show c ^ 2 = c * c by rw [show (2 : Nat) = 1 + 1 from rfl, Int.pow_succ, pow_one'], Int.mul_emod, hy]; push_cast; rfl
    rw [hy]
    have : y = 0 := by
      rcases hk with rfl | rfl
      · rw [e2] at q
        exact key.1 y (by simp only [List.mem_cons, List.not_mem_nil, or_false] at hP; omega) P hP (by omega) (by exact_mod_cast q)
      · rw [show c ^ 3 = c ^ 2 * c by rw [show (3 : Nat) = 2 + 1 from rfl, Int.pow_succ], Int.mul_emod, e2, hy] at q
        exact key.2 y (by simp only [List.mem_cons, List.not_mem_nil, or_false] at hP; omega) P hP (by omega) (by exact_mod_cast q)
    rw [this]; rfl
/-- r is the root of the k-th degree of n, cut -/
structure Root (n k r : Nat) : Prop where
  lo : r ^ k ≤ n
  hi : n < (r + 1) ^ k
theorem Root.ex (n : Nat) {k : Nat} (hk : 1 ≤ k) : ∃ r, Root n k r := by
  obtain ⟨j, rfl⟩ := Nat.exists_eq_add_of_le hk
  obtain ⟨r, a, b⟩ := root_ex n j
  rw [Nat.add_comm]
  exact ⟨r, a, b⟩
theorem Root.uniq {n k r s : Nat} (h : Root n k r) (h' : Root n k s) : r = s := by
  have key : ∀ {a b : Nat}, a ^ k ≤ n → n < (b + 1) ^ k → a ≤ b := fun {a b} x y => by
    rcases Nat.lt_or_ge b a with q | q
    · have := Nat.pow_le_pow_left (show b + 1 ≤ a from q) k; omega
    · exact q
  exact Nat.le_antisymm (key h.lo h'.hi) (key h'.lo h.hi)
theorem Root.mul {n k r j s : Nat} (h : Root n k r) (h' : Root r j s) : Root n (j * k) s := by
  refine ⟨?_, ?_⟩
  · rw [Nat.pow_mul]; exact Nat.le_trans (Nat.pow_le_pow_left h'.lo k) h.lo
  · rw [Nat.pow_mul]; exact Nat.lt_of_lt_of_le h.hi (Nat.pow_le_pow_left h'.hi k)
theorem pow_mono_lt {a b k : Nat} (hk : 1 ≤ k) (h : a < b) : a ^ k < b ^ k := Nat.pow_lt_pow_left h (by omega)
theorem Root.log {n k r b l : Nat} (hk : 1 ≤ k) (h : Root n k r) (hl : LogOf n b l) : LogOf r b (l / k) := by
  have h1 := Nat.div_mul_le_self l k
  have h2 : l + 1 ≤ k * (l / k + 1) := by have := Nat.lt_mul_div_succ l (show 0 < k by omega); omega
  have h0 := hl.two
  refine ⟨h0, ?_, ?_⟩
  · rcases Nat.lt_or_ge r (b ^ (l / k)) with q | q
    · exfalso
      have a := Nat.pow_le_pow_left (show r + 1 ≤ b ^ (l / k) from q) k
      rw [← Nat.pow_mul] at a
      have c := Nat.pow_le_pow_right (show 0 < b by omega) h1
      have := h.hi; have := hl.lo; omega
    · exact q
  · rcases Nat.lt_or_ge r (b ^ (l / k + 1)) with q | q
    · exact q
    · exfalso
      have a := Nat.pow_le_pow_left q k
      rw [← Nat.pow_mul] at a
      have c := Nat.pow_le_pow_right (show 0 < b by omega) h2
      rw [Nat.mul_comm k] at c
      have := h.lo; have := hl.hi; omega
theorem LogOf.pow {n b l k : Nat} (hk : 1 ≤ k) (h : LogOf n b l) : LogOf (n ^ k) (b ^ k) l := by
  have h2 := h.two
  refine ⟨Nat.le_trans h2 (by simpa using Nat.pow_le_pow_right (show 0 < b by omega) hk), ?_, ?_⟩
  · rw [← Nat.pow_mul, Nat.mul_comm, Nat.pow_mul]; exact Nat.pow_le_pow_left h.lo k
  · rw [← Nat.pow_mul, Nat.mul_comm, Nat.pow_mul]; exact pow_mono_lt hk h.hi
theorem Root.self {n k : Nat} (hk : 1 ≤ k) : Root (n ^ k) k n := ⟨Nat.le_refl _, pow_mono_lt hk (by omega)⟩
theorem Root.pred {n k : Nat} (hk : 1 ≤ k) (hn : 1 ≤ n) : Root (n ^ k - 1) k (n - 1) := by
  have h1 : 1 ≤ n ^ k := Nat.pow_pos hn
  have h2 := pow_mono_lt hk (show n - 1 < n by omega)
  exact ⟨by omega, by rw [Nat.sub_add_cancel hn]; omega⟩
/-! the squares' residues -/
noncomputable def q11 : List Int := [1, 1, 0, 1, 1, 1, 0, 0, 0, 1, 0]
noncomputable def q63 : List Int := [1, 1, 0, 0, 1, 0, 0, 1, 0, 1, 0, 0, 0, 0, 0, 0, 1, 0, 1, 0, 0, 0, 1, 0, 0, 1, 0, 0, 1, 0, 0, 0, 0, 0, 0, 0, 1, 1, 0, 0, 0, 0, 0, 1, 0, 0, 1, 0, 0, 1, 0, 0, 0, 0, 0, 0, 0, 0, 1, 0, 0, 0, 0]
noncomputable def q64 : List Int := [1, 1, 0, 0, 1, 0, 0, 0, 0, 1, 0, 0, 0, 0, 0, 0, 1, 1, 0, 0, 0, 0, 0, 0, 0, 1, 0, 0, 0, 0, 0, 0, 0, 1, 0, 0, 1, 0, 0, 0, 0, 1, 0, 0, 0, 0, 0, 0, 0, 1, 0, 0, 0, 0, 0, 0, 0, 1, 0, 0, 0, 0, 0, 0]
noncomputable def q65 : List Int := [1, 1, 0, 0, 1, 0, 0, 0, 0, 1, 1, 0, 0, 0, 1, 0, 1, 0, 0, 0, 0, 0, 0, 0, 0, 1, 1, 0, 0, 1, 1, 0, 0, 0, 0, 1, 1, 0, 0, 1, 1, 0, 0, 0, 0, 0, 0, 0, 0, 1, 0, 1, 0, 0, 0, 1, 1, 0, 0, 0, 0, 1, 0, 0, 1]
theorem tbl_get {t : List Int} {k n : Nat} (hl : t.length = k) (hn : n < k) : ∃ r, t[n]? = some r := ⟨t[n], by simp [hl, hn]⟩
theorem sq11 (r : Nat) : q11[r * r % 11]? = some 1 := by
  have : ∀ x, x < 11 → q11[x * x % 11]? = some 1 := by decide
  rw [Nat.mul_mod]; exact this _ (Nat.mod_lt _ (by decide))
theorem sq63 (r : Nat) : q63[r * r % 63]? = some 1 := by
  have : ∀ x, x < 63 → q63[x * x % 63]? = some 1 := by decide
  rw [Nat.mul_mod]; exact this _ (Nat.mod_lt _ (by decide))
theorem sq64 (r : Nat) : q64[r * r % 64]? = some 1 := by
  have : ∀ x, x < 64 → q64[x * x % 64]? = some 1 := by decide
  rw [Nat.mul_mod]; exact this _ (Nat.mod_lt _ (by decide))
theorem sq65 (r : Nat) : q65[r * r % 65]? = some 1 := by
  have : ∀ x, x < 65 → q65[x * x % 65]? = some 1 := by decide
  rw [Nat.mul_mod]; exact this _ (Nat.mod_lt _ (by decide))
noncomputable def gt : List (Str × Addr) := [((Str.ofString "floorsqrt"), 21), ((Str.ofString "floorpowerroot"), 29), ((Str.ofString "expand"), 36), ((Str.ofString "vp"), 44), ((Str.ofString "log"), 79), ((Str.ofString "_log10"), 86), ((Str.ofString "product"), 94), ((Str.ofString "_law_pool"), 101), ((Str.ofString "_law_draw"), 108), ((Str.ofString "_law_pick"), 115), ((Str.ofString "_law_base"), 122), ((Str.ofString "_law_number"), 129), ((Str.ofString "_law_digits"), 136), ((Str.ofString "_law_power"), 143), ((Str.ofString "_law_noughts"), 150), ((Str.ofString "_law_is_whole"), 157), ((Str.ofString "_law_digits_right"), 162), ((Str.ofString "_law_roots_right"), 169), ((Str.ofString "_law_squares_right"), 176), ((Str.ofString "_law_powers_right"), 183), ((Str.ofString "law"), 190)]
noncomputable def bt : List Str := [(Str.ofString "len"), (Str.ofString "int"), (Str.ofString "list"), (Str.ofString "tuple"), (Str.ofString "abs"), (Str.ofString "min"), (Str.ofString "max"), (Str.ofString "divmod"), (Str.ofString "isinstance"), (Str.ofString "bool"), (Str.ofString "range"), (Str.ofString "ValueError"), (Str.ofString "sorted"), (Str.ofString "set"), (Str.ofString "sum"), (Str.ofString "zip"), (Str.ofString "enumerate"), (Str.ofString "pow"), (Str.ofString "str")]
-- floorsqrt at 21: ['a', 'x', 'y', 'x_new']
noncomputable def m_floorsqrt : MS := (.seq (.ite (.cmp .lt (.var 0) (.bin .shl (.int 1) (.int 59))) (.seq (.ite (.cmp .lt (.var 0) (.int 0)) (.seq (.raise "ValueError") .skip) .skip) (.seq (.asgN [1, 2] (.cons (.var 0) (.cons (.bin .shr (.bin .add (.var 0) (.int 1)) (.int 1)) .nil))) (.seq (.whil (.cmp .lt (.var 2) (.var 1)) (.seq (.asgN [1, 2] (.cons (.var 2) (.cons (.bin .shr (.bin .add (.var 2) (.bin .fdiv (.var 0) (.var 2))) (.int 1)) .nil))) .skip) .skip) (.seq (.ret (.var 1)) .skip)))) (.seq (.asg 1 (.bin .pow (.int 10) (.bin .add (.bin .shr (.call 79 (.cons (.var 0) (.cons (.int 10) .nil))) (.int 1)) (.int 1)))) (.seq (.whil (.tv (.bool true)) (.seq (.asg 3 (.bin .shr (.bin .add (.var 1) (.bin .fdiv (.var 0) (.var 1))) (.int 1))) (.seq (.ite (.cmp .le (.var 1) (.var 3)) (.seq (.ret (.var 1)) .skip) .skip) (.seq (.asg 1 (.var 3)) .skip))) .skip) .skip))) .skip)
noncomputable abbrev n_floorsqrt : List Str := [(Str.ofString "a"), (Str.ofString "x"), (Str.ofString "y"), (Str.ofString "x_new")]
noncomputable abbrev p_floorsqrt : List Str := [(Str.ofString "a")]
-- floorpowerroot at 29: ['n', 'k', 'return_power', 'rslt', 'sign', 'exp', 'rem', 'q', 'x', 'z']
noncomputable def m_floorpowerroot : MS := (.seq (.ite (.cmp .eq (.var 1) (.int 1)) (.seq (.ite (.tv (.var 2)) (.seq (.ret (.tup (.cons (.var 0) (.cons (.var 0) .nil)))) .skip) (.seq (.ret (.var 0)) .skip)) .skip) (.seq (.ite (.cmp .eq (.var 1) (.int 2)) (.seq (.asg 3 (.call 21 (.cons (.var 0) .nil))) (.seq (.ite (.tv (.var 2)) (.seq (.ret (.tup (.cons (.var 3) (.cons (.bin .pow (.var 3) (.int 2)) .nil)))) .skip) (.seq (.ret (.var 3)) .skip)) .skip)) .skip) .skip)) (.seq (.ite (.cmp .le (.var 0) (.int 0)) (.seq (.ite (.cmp .eq (.int 0) (.var 0)) (.seq (.ite (.tv (.var 2)) (.seq (.ret (.tup (.cons (.int 0) (.cons (.int 0) .nil)))) .skip) (.seq (.ret (.int 0)) .skip)) .skip) (.seq (.ite (.cmp .eq (.int 0) (.bin .band (.var 1) (.int 1))) (.seq (.raiseF "ValueError" (.cons (.var 0) (.cons (.var 1) .nil))) .skip) (.seq (.asg 4 (.neg (.int 1))) (.seq (.asg 0 (.neg (.var 0))) .skip))) .skip)) .skip) (.seq (.asg 4 (.int 1)) .skip)) (.seq (.unp [5, 6] (.dvm (.bin .add (.call 79 (.cons (.var 0) .nil)) (.int 1)) (.var 1))) (.seq (.ite (.cmp .ne (.int 0) (.var 6)) (.seq (.aug 5 .add (.int 1)) .skip) .skip) (.seq (.asg 7 (.bin .shr (.var 0) (.bin .mul (.var 5) (.bin .sub (.var 1) (.int 1))))) (.seq (.asg 8 (.bin .shl (.int 1) (.var 5))) (.seq (.whil (.tv (.bool true)) (.seq (.aug 8 .add (.bin .fdiv (.bin .sub (.var 7) (.var 8)) (.var 1))) (.seq (.asg 9 (.bin .pow (.var 8) (.bin .sub (.var 1) (.int 1)))) (.seq (.asg 7 (.bin .fdiv (.var 0) (.var 9))) (.seq (.ite (.cmp .le (.var 8) (.var 7)) (.seq .brk .skip) .skip) .skip)))) .skip) (.seq (.ite (.cmp .lt (.var 4) (.int 0)) (.seq (.asg 8 (.neg (.var 8))) .skip) .skip) (.seq (.ite (.tv (.var 2)) (.seq (.ret (.tup (.cons (.var 8) (.cons (.bin .mul (.var 8) (.var 9)) .nil)))) .skip) (.seq (.ret (.var 8)) .skip)) .skip)))))))))
noncomputable abbrev n_floorpowerroot : List Str := [(Str.ofString "n"), (Str.ofString "k"), (Str.ofString "return_power"), (Str.ofString "rslt"), (Str.ofString "sign"), (Str.ofString "exp"), (Str.ofString "rem"), (Str.ofString "q"), (Str.ofString "x"), (Str.ofString "z")]
noncomputable abbrev p_floorpowerroot : List Str := [(Str.ofString "n"), (Str.ofString "k"), (Str.ofString "return_power")]
-- expand at 36: ['n', 'm', 'k']
noncomputable def m_expand : MS := (.seq (.asg 2 (.list .nil)) (.seq (.whil (.cmp .ge (.var 0) (.var 1)) (.seq (.expr (.app (.var 2) (.bin .mod (.var 0) (.var 1)))) (.seq (.aug 0 .fdiv (.var 1)) .skip)) .skip) (.seq (.expr (.app (.var 2) (.var 0))) (.seq (.ret (.var 2)) .skip))))
noncomputable abbrev n_expand : List Str := [(Str.ofString "n"), (Str.ofString "m"), (Str.ofString "k")]
noncomputable abbrev p_expand : List Str := [(Str.ofString "n"), (Str.ofString "m")]
-- vp at 44: ['n', 'p', 'k', 'q']
noncomputable def m_vp : MS := (.seq (.asg 3 (.var 1)) (.seq (.whil (.not (.tv (.bin .mod (.var 0) (.var 3)))) (.seq (.aug 2 .add (.int 1)) (.seq (.aug 3 .mul (.var 1)) .skip)) .skip) (.seq (.ret (.tup (.cons (.var 2) (.cons (.bin .fdiv (.var 0) (.bin .fdiv (.var 3) (.var 1))) .nil)))) .skip)))
noncomputable abbrev n_vp : List Str := [(Str.ofString "n"), (Str.ofString "p"), (Str.ofString "k"), (Str.ofString "q")]
noncomputable abbrev p_vp : List Str := [(Str.ofString "n"), (Str.ofString "p"), (Str.ofString "k")]
-- log at 79: ['n', 'base', 'fit', 'result', 'stock', 'next', 'index', 'power', 'prefit']
noncomputable def m_log : MS := (.seq (.ite (.cmp .lt (.var 0) (.var 1)) (.seq (.ret (.int 0)) .skip) .skip) (.seq (.ite (.cmp .eq (.var 1) (.int 10)) (.seq (.ret (.call 86 (.cons (.var 0) .nil))) .skip) .skip) (.seq (.ite (.cmp .eq (.var 1) (.int 2)) (.seq (.ret (.bin .sub (.bitlen (.var 0)) (.int 1))) .skip) .skip) (.seq (.asg 2 (.var 1)) (.seq (.asg 3 (.int 1)) (.seq (.asg 4 (.list (.cons (.tup (.cons (.var 3) (.cons (.var 2) .nil))) .nil))) (.seq (.whil (.cmp .lt (.var 2) (.var 0)) (.seq (.asg 5 (.bin .pow (.var 2) (.int 2))) (.seq (.ite (.cmp .le (.var 5) (.var 0)) (.seq (.asg 2 (.var 5)) (.seq (.aug 3 .add (.var 3)) (.seq (.expr (.app (.var 4) (.tup (.cons (.var 3) (.cons (.var 2) .nil))))) .skip))) (.seq .brk .skip)) .skip)) (.seq (.ret (.var 3)) .skip)) (.seq (.expr (.rev (.var 4))) (.seq (.forU [6, 7] (.var 4) (.seq (.asg 8 (.bin .mul (.var 2) (.var 7))) (.seq (.ite (.cmp .eq (.var 8) (.var 0)) (.seq (.aug 3 .add (.var 6)) (.seq .brk .skip)) (.seq (.ite (.cmp .lt (.var 8) (.var 0)) (.seq (.asg 2 (.var 8)) (.seq (.aug 3 .add (.var 6)) .skip)) .skip) .skip)) .skip))) (.seq (.ret (.var 3)) .skip))))))))))
noncomputable abbrev n_log : List Str := [(Str.ofString "n"), (Str.ofString "base"), (Str.ofString "fit"), (Str.ofString "result"), (Str.ofString "stock"), (Str.ofString "next"), (Str.ofString "index"), (Str.ofString "power"), (Str.ofString "prefit")]
noncomputable abbrev p_log : List Str := [(Str.ofString "n"), (Str.ofString "base")]
-- _log10 at 86: ['n']
noncomputable def m_log10 : MS := (.seq (.ret (.bin .sub (.len (.strOf (.var 0))) (.int 1))) .skip)
noncomputable abbrev n_log10 : List Str := [(Str.ofString "n")]
noncomputable abbrev p_log10 : List Str := [(Str.ofString "n")]
-- product at 94: ['iterable', 'init', 'result', 'item']
noncomputable def m_product : MS := (.seq (.asg 2 (.var 1)) (.seq (.forL 3 (.var 0) (.seq (.ite (.tv (.isn (.var 2) true)) (.seq (.asg 2 (.var 3)) .skip) (.seq (.aug 2 .mul (.var 3)) .skip)) .skip)) (.seq (.ite (.tv (.isn (.var 2) true)) (.seq (.ret (.int 1)) .skip) .skip) (.seq (.ret (.var 2)) .skip))))
noncomputable abbrev n_product : List Str := [(Str.ofString "iterable"), (Str.ofString "init"), (Str.ofString "result"), (Str.ofString "item")]
noncomputable abbrev p_product : List Str := [(Str.ofString "iterable"), (Str.ofString "init")]
-- _law_pool at 101: ['script', 'first', 'size']
noncomputable abbrev n_l_pool : List Str := [(Str.ofString "script"), (Str.ofString "first"), (Str.ofString "size")]
noncomputable abbrev p_l_pool : List Str := [(Str.ofString "script")]
-- _law_draw at 108: ['pool', 'many', 'first', 'size', 'found']
noncomputable abbrev n_l_draw : List Str := [(Str.ofString "pool"), (Str.ofString "many"), (Str.ofString "first"), (Str.ofString "size"), (Str.ofString "found")]
noncomputable abbrev p_l_draw : List Str := [(Str.ofString "pool"), (Str.ofString "many")]
-- _law_pick at 115: ['pool', 'things']
noncomputable def m_l_pick : MS := (.seq (.ret (.idx (.var 1) (.call 108 (.cons (.var 0) (.cons (.len (.var 1)) .nil))))) .skip)
noncomputable abbrev n_l_pick : List Str := [(Str.ofString "pool"), (Str.ofString "things")]
noncomputable abbrev p_l_pick : List Str := [(Str.ofString "pool"), (Str.ofString "things")]
-- _law_base at 122: ['pool']
noncomputable def m_l_base : MS := (.seq (.ret (.call 115 (.cons (.var 0) (.cons (.list (.cons (.int 2) (.cons (.int 3) (.cons (.int 10) (.cons (.bin .add (.int 2) (.call 108 (.cons (.var 0) (.cons (.int 59) .nil)))) (.cons (.bin .add (.int 2) (.call 108 (.cons (.var 0) (.cons (.bin .pow (.int 10) (.int 18)) .nil)))) .nil)))))) .nil)))) .skip)
noncomputable abbrev n_l_base : List Str := [(Str.ofString "pool")]
noncomputable abbrev p_l_base : List Str := [(Str.ofString "pool")]
-- _law_number at 129: ['pool', 'most', 'found', 'turn']
noncomputable def m_l_number : MS := (.seq (.asg 2 (.int 0)) (.seq (.forR 3 (.int 0) (.call 108 (.cons (.var 0) (.cons (.bin .add (.var 1) (.int 1)) .nil))) (.int 1) (.seq (.asg 2 (.bin .add (.bin .mul (.var 2) (.bin .pow (.int 10) (.int 9))) (.call 108 (.cons (.var 0) (.cons (.bin .pow (.int 10) (.int 9)) .nil))))) .skip)) (.seq (.ret (.var 2)) .skip)))
noncomputable abbrev n_l_number : List Str := [(Str.ofString "pool"), (Str.ofString "most"), (Str.ofString "found"), (Str.ofString "turn")]
noncomputable abbrev p_l_number : List Str := [(Str.ofString "pool"), (Str.ofString "most")]
-- _law_digits at 136: ['n', 'm', 'found', 'left', 'turn']
noncomputable def m_l_digits : MS := (.seq (.asgN [2, 3] (.cons (.list .nil) (.cons (.var 0) .nil))) (.seq (.forR 4 (.int 0) (.int 1000) (.int 1) (.seq (.ite (.cmp .lt (.var 3) (.var 1)) (.seq .brk .skip) .skip) (.seq (.expr (.app (.var 2) (.bin .mod (.toInt (.var 3)) (.var 1)))) (.seq (.asg 3 (.bin .fdiv (.var 3) (.var 1))) .skip)))) (.seq (.ret (.bin .add (.var 2) (.list (.cons (.var 3) .nil)))) .skip)))
noncomputable abbrev n_l_digits : List Str := [(Str.ofString "n"), (Str.ofString "m"), (Str.ofString "found"), (Str.ofString "left"), (Str.ofString "turn")]
noncomputable abbrev p_l_digits : List Str := [(Str.ofString "n"), (Str.ofString "m")]
-- _law_power at 143: ['n', 'k', 'found', 'turn']
noncomputable def m_l_power : MS := (.seq (.asg 2 (.int 1)) (.seq (.forR 3 (.int 0) (.var 1) (.int 1) (.seq (.asg 2 (.bin .mul (.var 2) (.var 0))) .skip)) (.seq (.ret (.var 2)) .skip)))
noncomputable abbrev n_l_power : List Str := [(Str.ofString "n"), (Str.ofString "k"), (Str.ofString "found"), (Str.ofString "turn")]
noncomputable abbrev p_l_power : List Str := [(Str.ofString "n"), (Str.ofString "k")]
-- _law_noughts at 150: ['digits', 'at', 'digit']
noncomputable def m_l_noughts : MS := (.seq (.forE [1, 2] (.var 0) (.seq (.ite (.cmp .ne (.var 2) (.int 0)) (.seq (.ret (.var 1)) .skip) .skip) .skip)) (.seq (.ret (.len (.var 0))) .skip))
noncomputable abbrev n_l_noughts : List Str := [(Str.ofString "digits"), (Str.ofString "at"), (Str.ofString "digit")]
noncomputable abbrev p_l_noughts : List Str := [(Str.ofString "digits")]
-- _law_is_whole at 157: ['thing']
noncomputable def m_l_is_whole : MS := (.seq (.ret (.and (.isi (.var 0) .int) (.not (.isi (.var 0) .bool)))) .skip)
noncomputable abbrev n_l_is_whole : List Str := [(Str.ofString "thing")]
noncomputable abbrev p_l_is_whole : List Str := [(Str.ofString "thing")]
-- _law_digits_right at 162: ['n', 'm', 'c', 'digits', 'zeros', 'rest']
noncomputable def m_l_digits_right : MS := (.seq (.asg 3 (.call 136 (.cons (.var 0) (.cons (.cvar 1) .nil)))) (.seq (.ite (.or (.cmp .ne (.call 36 (.cons (.var 0) (.cons (.cvar 1) .nil))) (.var 3)) (.cmp .ne (.call 79 (.cons (.var 0) (.cons (.cvar 1) .nil))) (.bin .sub (.len (.var 3)) (.int 1)))) (.seq (.ret (.bool false)) .skip) .skip) (.seq (.ite (.and (.cmp .eq (.cvar 1) (.int 2)) (.cmp .ne (.call 79 (.cons (.var 0) .nil)) (.bin .sub (.len (.var 3)) (.int 1)))) (.seq (.ret (.bool false)) .skip) .skip) (.seq (.ite (.cmp .eq (.var 0) (.int 0)) (.seq (.ret (.bool true)) .skip) .skip) (.seq (.asg 4 (.call 150 (.cons (.var 3) .nil))) (.seq (.asg 5 (.bin .fdiv (.var 0) (.call 143 (.cons (.cvar 1) (.cons (.var 4) .nil))))) (.seq (.ite (.or (.cmp .ne (.call 44 (.cons (.var 0) (.cons (.cvar 1) .nil))) (.tup (.cons (.var 4) (.cons (.var 5) .nil)))) (.or (.cmp .ne (.call 44 (.cons (.var 0) (.cons (.cvar 1) (.cons (.var 2) .nil)))) (.tup (.cons (.bin .add (.var 4) (.var 2)) (.cons (.var 5) .nil)))) (.cmp .ne (.call 36 (.cons (.var 5) (.cons (.cvar 1) .nil))) (.slcF (.var 3) (.var 4))))) (.seq (.ret (.bool false)) .skip) .skip) (.seq (.ret (.and (.cmp .eq (.call 94 (.cons (.compR (.int 0) (.var 4) (.int 1) (.tv (.bool true)) (.cvar 1) [1]) (.cons (.var 5) .nil))) (.var 0)) (.cmp .eq (.call 94 (.cons (.bin .add (.list (.cons (.var 5) .nil)) (.compR (.int 0) (.var 4) (.int 1) (.tv (.bool true)) (.cvar 1) [1])) .nil)) (.var 0)))) .skip))))))))
noncomputable abbrev n_l_digits_right : List Str := [(Str.ofString "n"), (Str.ofString "m"), (Str.ofString "c"), (Str.ofString "digits"), (Str.ofString "zeros"), (Str.ofString "rest")]
noncomputable abbrev p_l_digits_right : List Str := [(Str.ofString "n"), (Str.ofString "m"), (Str.ofString "c")]
-- _law_roots_right at 169: ['n', 'm', 'k', 'root', 'power']
noncomputable def m_l_roots_right : MS := (.seq (.asg 3 (.call 29 (.cons (.var 0) (.cons (.var 2) .nil)))) (.seq (.ite (.or (.not (.tv (.call 157 (.cons (.var 3) .nil)))) (.cmp .lt (.var 3) (.int 0))) (.seq (.ret (.bool false)) .skip) .skip) (.seq (.asg 4 (.call 143 (.cons (.var 3) (.cons (.var 2) .nil)))) (.seq (.ite (.or (.cmp .gt (.var 4) (.var 0)) (.or (.cmp .le (.call 143 (.cons (.bin .add (.var 3) (.int 1)) (.cons (.var 2) .nil))) (.var 0)) (.cmp .ne (.call 29 (.cons (.var 0) (.cons (.var 2) (.cons (.bool true) .nil)))) (.tup (.cons (.var 3) (.cons (.var 4) .nil)))))) (.seq (.ret (.bool false)) .skip) .skip) (.seq (.ite (.and (.cmp .gt (.var 0) (.int 0)) (.cmp .ne (.call 79 (.cons (.var 3) (.cons (.var 1) .nil))) (.bin .fdiv (.bin .sub (.len (.call 136 (.cons (.var 0) (.cons (.var 1) .nil)))) (.int 1)) (.var 2)))) (.seq (.ret (.bool false)) .skip) .skip) (.seq (.ite (.or (.cmp .ne (.call 29 (.cons (.var 3) (.cons (.int 2) .nil))) (.call 29 (.cons (.var 0) (.cons (.bin .mul (.int 2) (.var 2)) .nil)))) (.cmp .ne (.call 21 (.cons (.var 3) .nil)) (.call 29 (.cons (.var 3) (.cons (.int 2) .nil))))) (.seq (.ret (.bool false)) .skip) .skip) (.seq (.ret (.cmp .eq (.call 29 (.cons (.var 3) (.cons (.int 3) .nil))) (.call 29 (.cons (.var 0) (.cons (.bin .mul (.int 3) (.var 2)) .nil))))) .skip)))))))
noncomputable abbrev n_l_roots_right : List Str := [(Str.ofString "n"), (Str.ofString "m"), (Str.ofString "k"), (Str.ofString "root"), (Str.ofString "power")]
noncomputable abbrev p_l_roots_right : List Str := [(Str.ofString "n"), (Str.ofString "m"), (Str.ofString "k")]
-- _law_squares_right at 176: ['n', 'root']
noncomputable def m_l_squares_right : MS := (.seq (.asg 1 (.call 21 (.cons (.var 0) .nil))) (.seq (.ite (.or (.cmp .gt (.bin .mul (.var 1) (.var 1)) (.var 0)) (.or (.cmp .le (.bin .mul (.bin .add (.var 1) (.int 1)) (.bin .add (.var 1) (.int 1))) (.var 0)) (.cmp .ne (.var 1) (.call 29 (.cons (.var 0) (.cons (.int 2) .nil)))))) (.seq (.ret (.bool false)) .skip) .skip) (.seq (.ite (.or (.cmp .ne (.calli "issquare" (.cons (.var 0) .nil)) (.ite (.cmp .eq (.bin .mul (.var 1) (.var 1)) (.var 0)) (.var 1) (.int 0))) (.or (.cmp .ne (.calli "issquare" (.cons (.bin .mul (.var 0) (.var 0)) .nil)) (.var 0)) (.cmp .ne (.call 21 (.cons (.bin .mul (.var 0) (.var 0)) .nil)) (.var 0)))) (.seq (.ret (.bool false)) .skip) .skip) (.seq (.ret (.and (.cmp .eq (.call 21 (.cons (.bin .add (.bin .mul (.var 0) (.var 0)) (.bin .mul (.int 2) (.var 0))) .nil)) (.var 0)) (.or (.cmp .eq (.var 0) (.int 0)) (.cmp .eq (.call 21 (.cons (.bin .sub (.bin .mul (.var 0) (.var 0)) (.int 1)) .nil)) (.bin .sub (.var 0) (.int 1)))))) .skip))))
noncomputable abbrev n_l_squares_right : List Str := [(Str.ofString "n"), (Str.ofString "root")]
noncomputable abbrev p_l_squares_right : List Str := [(Str.ofString "n")]
-- _law_powers_right at 183: ['n', 'm', 'k', 'p', 'power', 'many', 'rest']
noncomputable def m_l_powers_right : MS := (.seq (.asg 4 (.call 143 (.cons (.var 0) (.cons (.var 2) .nil)))) (.seq (.ite (.or (.cmp .ne (.call 29 (.cons (.var 4) (.cons (.var 2) .nil))) (.var 0)) (.and (.cmp .gt (.var 0) (.int 0)) (.cmp .ne (.call 29 (.cons (.bin .sub (.var 4) (.int 1)) (.cons (.var 2) .nil))) (.bin .sub (.var 0) (.int 1))))) (.seq (.ret (.bool false)) .skip) .skip) (.seq (.ite (.cmp .eq (.var 0) (.int 0)) (.seq (.ret (.bool true)) .skip) .skip) (.seq (.ite (.cmp .ne (.call 79 (.cons (.var 4) (.cons (.call 143 (.cons (.var 1) (.cons (.var 2) .nil))) .nil))) (.call 79 (.cons (.var 0) (.cons (.var 1) .nil)))) (.seq (.ret (.bool false)) .skip) .skip) (.seq (.unp [5, 6] (.call 44 (.cons (.var 0) (.cons (.var 3) .nil)))) (.seq (.ret (.and (.cmp .eq (.call 44 (.cons (.var 4) (.cons (.var 3) .nil))) (.tup (.cons (.bin .mul (.var 2) (.var 5)) (.cons (.call 143 (.cons (.var 6) (.cons (.var 2) .nil))) .nil)))) (.cmp .ne (.bin .mod (.toInt (.var 6)) (.var 3)) (.int 0)))) .skip))))))
noncomputable abbrev n_l_powers_right : List Str := [(Str.ofString "n"), (Str.ofString "m"), (Str.ofString "k"), (Str.ofString "p"), (Str.ofString "power"), (Str.ofString "many"), (Str.ofString "rest")]
noncomputable abbrev p_l_powers_right : List Str := [(Str.ofString "n"), (Str.ofString "m"), (Str.ofString "k"), (Str.ofString "p")]
-- law at 190: ['script', 'pool', 'm', 'drawn', 'cube', 'n', 'k']
noncomputable def m_law : MS := (.seq (.asg 1 (.call 101 (.cons (.var 0) .nil))) (.seq (.asg 2 (.call 122 (.cons (.var 1) .nil))) (.seq (.asg 3 (.bin .mul (.call 129 (.cons (.var 1) (.cons (.ite (.cmp .gt (.idx (.var 1) (.int 0)) (.int 0)) (.int 20) (.int 3)) .nil))) (.call 143 (.cons (.var 2) (.cons (.call 108 (.cons (.var 1) (.cons (.int 6) .nil))) .nil))))) (.seq (.asg 4 (.bin .mul (.bin .mul (.var 2) (.var 2)) (.var 2))) (.seq (.forL 5 (.list (.cons (.var 3) (.cons (.var 4) (.cons (.bin .sub (.var 4) (.int 1)) (.cons (.int 0) (.cons (.int 1) .nil)))))) (.seq (.ite (.or (.not (.tv (.call 162 (.cons (.var 5) (.cons (.var 2) (.cons (.call 108 (.cons (.var 1) (.cons (.int 9) .nil))) .nil)))))) (.not (.tv (.call 176 (.cons (.var 5) .nil))))) (.seq (.ret (.bool false)) .skip) .skip) (.seq (.asg 6 (.call 115 (.cons (.var 1) (.cons (.list (.cons (.int 1) (.cons (.int 2) (.cons (.int 3) (.cons (.int 4) (.cons (.int 5) (.cons (.int 7) (.cons (.bin .add (.int 1) (.call 108 (.cons (.var 1) (.cons (.int 60) .nil)))) .nil)))))))) .nil)))) (.seq (.ite (.not (.tv (.call 169 (.cons (.var 5) (.cons (.var 2) (.cons (.var 6) .nil)))))) (.seq (.ret (.bool false)) .skip) .skip) (.seq (.ite (.not (.tv (.call 183 (.cons (.var 5) (.cons (.var 2) (.cons (.bin .add (.int 2) (.call 108 (.cons (.var 1) (.cons (.int 2) .nil)))) (.cons (.call 115 (.cons (.var 1) (.cons (.list (.cons (.int 2) (.cons (.int 3) (.cons (.int 5) (.cons (.int 7) (.cons (.int 11) (.cons (.int 13) .nil))))))) .nil))) .nil))))))) (.seq (.ret (.bool false)) .skip) .skip) .skip))))) (.seq (.ret (.bool true)) .skip))))))
-- issquare at 62: ['self', 'c', 't', 'r']
noncomputable def m_issquare : MS := (.seq (.asg 2 (.bin .band (.var 1) (.int 63))) (.seq (.ite (.not (.tv (.tabA 0 "q64" (.var 2)))) (.seq (.ret (.int 0)) .skip) .skip) (.seq (.asg 3 (.bin .mod (.var 1) (.int 45045))) (.seq (.ite (.not (.tv (.tabA 0 "q63" (.bin .mod (.var 3) (.int 63))))) (.seq (.ret (.int 0)) .skip) .skip) (.seq (.ite (.not (.tv (.tabA 0 "q65" (.bin .mod (.var 3) (.int 65))))) (.seq (.ret (.int 0)) .skip) .skip) (.seq (.ite (.not (.tv (.tabA 0 "q11" (.bin .mod (.var 3) (.int 11))))) (.seq (.ret (.int 0)) .skip) .skip) (.seq (.asg 2 (.call 21 (.cons (.var 1) .nil))) (.seq (.ite (.cmp .eq (.bin .mul (.var 2) (.var 2)) (.var 1)) (.seq (.ret (.var 2)) .skip) (.seq (.ret (.int 0)) .skip)) .skip))))))))
noncomputable abbrev n_issquare : List Str := [(Str.ofString "self"), (Str.ofString "c"), (Str.ofString "t"), (Str.ofString "r")]
noncomputable abbrev p_issquare : List Str := [(Str.ofString "self"), (Str.ofString "c")]
structure HW where
  b : HB
  gt : gtB b.K b.gt = true
  bt : btB b.K b.bt = true
  f_floorsqrt : b.Fn 21 n_floorsqrt 1 m_floorsqrt
  b_floorsqrt : BindN b.K 21 p_floorsqrt 1 []
  f_floorpowerroot : b.Fn 29 n_floorpowerroot 3 m_floorpowerroot
  d_floorpowerroot : b.K.lookup 22 = some (tupO #[(.bool false)] 0)
  b_floorpowerroot2 : BindD b.K 29 22 p_floorpowerroot (tupO #[(.bool false)] 0) [(.bool false)] 2 []
  b_floorpowerroot3 : BindD b.K 29 22 p_floorpowerroot (tupO #[(.bool false)] 0) [] 3 []
  b_floorpowerrootk : BindK b.K 29 22 p_floorpowerroot (tupO #[(.bool false)] 0) (Str.ofString "return_power") 2 []
  f_expand : b.Fn 36 n_expand 2 m_expand
  b_expand : BindN b.K 36 p_expand 2 []
  f_vp : b.Fn 44 n_vp 3 m_vp
  d_vp : b.K.lookup 37 = some (tupO #[(.int 0 224)] 0)
  b_vp2 : BindD b.K 44 37 p_vp (tupO #[(.int 0 224)] 0) [(.int 0 224)] 2 []
  b_vp3 : BindD b.K 44 37 p_vp (tupO #[(.int 0 224)] 0) [] 3 []
  b_vpk : BindK b.K 44 37 p_vp (tupO #[(.int 0 224)] 0) (Str.ofString "k") 2 []
  f_log : b.Fn 79 n_log 2 m_log
  d_log : b.K.lookup 72 = some (tupO #[(.int 2 473)] 0)
  b_log1 : BindD b.K 79 72 p_log (tupO #[(.int 2 473)] 0) [(.int 2 473)] 1 []
  b_log2 : BindD b.K 79 72 p_log (tupO #[(.int 2 473)] 0) [] 2 []
  b_logk : BindK b.K 79 72 p_log (tupO #[(.int 2 473)] 0) (Str.ofString "base") 1 []
  f_log10 : b.Fn 86 n_log10 1 m_log10
  b_log10 : BindN b.K 86 p_log10 1 []
  f_product : b.Fn 94 n_product 2 m_product
  d_product : b.K.lookup 87 = some (tupO #[.none] 0)
  b_product1 : BindD b.K 94 87 p_product (tupO #[.none] 0) [.none] 1 []
  b_product2 : BindD b.K 94 87 p_product (tupO #[.none] 0) [] 2 []
  b_productk : BindK b.K 94 87 p_product (tupO #[.none] 0) (Str.ofString "init") 1 []
  f_l_pool : b.Fn 101 n_l_pool 1 poolMS
  b_l_pool : BindN b.K 101 p_l_pool 1 []
  f_l_draw : b.Fn 108 n_l_draw 2 drawMS
  b_l_draw : BindN b.K 108 p_l_draw 2 []
  f_l_pick : b.Fn 115 n_l_pick 2 m_l_pick
  b_l_pick : BindN b.K 115 p_l_pick 2 []
  f_l_base : b.Fn 122 n_l_base 1 m_l_base
  b_l_base : BindN b.K 122 p_l_base 1 []
  f_l_number : b.Fn 129 n_l_number 2 m_l_number
  b_l_number : BindN b.K 129 p_l_number 2 []
  f_l_digits : b.Fn 136 n_l_digits 2 m_l_digits
  b_l_digits : BindN b.K 136 p_l_digits 2 []
  f_l_power : b.Fn 143 n_l_power 2 m_l_power
  b_l_power : BindN b.K 143 p_l_power 2 []
  f_l_noughts : b.Fn 150 n_l_noughts 1 m_l_noughts
  b_l_noughts : BindN b.K 150 p_l_noughts 1 []
  f_l_is_whole : b.Fn 157 n_l_is_whole 1 m_l_is_whole
  b_l_is_whole : BindN b.K 157 p_l_is_whole 1 []
  f_l_digits_right : b.FnC 162 n_l_digits_right 3 [false, true, false, false, false, false] m_l_digits_right
  b_l_digits_right : BindN b.K 162 p_l_digits_right 3 []
  f_l_roots_right : b.Fn 169 n_l_roots_right 3 m_l_roots_right
  b_l_roots_right : BindN b.K 169 p_l_roots_right 3 []
  f_l_squares_right : b.Fn 176 n_l_squares_right 1 m_l_squares_right
  b_l_squares_right : BindN b.K 176 p_l_squares_right 1 []
  f_l_powers_right : b.Fn 183 n_l_powers_right 4 m_l_powers_right
  b_l_powers_right : BindN b.K 183 p_l_powers_right 4 []
  f_issquare : b.Fn 62 n_issquare 2 m_issquare
  b_issquare : BindN b.K 62 p_issquare 2 []
  i_issquare : nsIn b.K mainGlobals (Str.ofString "issquare") = some (some (.ref 71))
  c_issquare : callB b.K 71 62 = true
  t_issquare_q11 : tblAt b.K 71 (Str.ofString "q11") = some [1, 1, 0, 1, 1, 1, 0, 0, 0, 1, 0]
  t_issquare_q63 : tblAt b.K 71 (Str.ofString "q63") = some [1, 1, 0, 0, 1, 0, 0, 1, 0, 1, 0, 0, 0, 0, 0, 0, 1, 0, 1, 0, 0, 0, 1, 0, 0, 1, 0, 0, 1, 0, 0, 0, 0, 0, 0, 0, 1, 1, 0, 0, 0, 0, 0, 1, 0, 0, 1, 0, 0, 1, 0, 0, 0, 0, 0, 0, 0, 0, 1, 0, 0, 0, 0]
  t_issquare_q64 : tblAt b.K 71 (Str.ofString "q64") = some [1, 1, 0, 0, 1, 0, 0, 0, 0, 1, 0, 0, 0, 0, 0, 0, 1, 1, 0, 0, 0, 0, 0, 0, 0, 1, 0, 0, 0, 0, 0, 0, 0, 1, 0, 0, 1, 0, 0, 0, 0, 1, 0, 0, 0, 0, 0, 0, 0, 1, 0, 0, 0, 0, 0, 0, 0, 1, 0, 0, 0, 0, 0, 0]
  t_issquare_q65 : tblAt b.K 71 (Str.ofString "q65") = some [1, 1, 0, 0, 1, 0, 0, 0, 0, 1, 1, 0, 0, 0, 1, 0, 1, 0, 0, 0, 0, 0, 0, 0, 0, 1, 1, 0, 0, 1, 1, 0, 0, 0, 0, 1, 1, 0, 0, 1, 1, 0, 0, 0, 0, 0, 0, 0, 0, 1, 0, 1, 0, 0, 0, 1, 1, 0, 0, 0, 0, 1, 0, 0, 1]
noncomputable abbrev gg (w : HW) (mean : ExcName → Option Value) (mg mb : Str → Option Value) : G := w.b.gm mean mg mb
theorem call_floorsqrt {w mean mg mb} {a0 : V} {d : Nat} {hp : HP} {Q : V → HP → Prop} {X : XC}
    (h : exec (gg w mean mg mb) d m_floorsqrt [a0, .unb, .unb, .unb] hp (retQ Q) (upX X)) : Calls (gg w mean mg mb) (d + 1) 21 [a0] [] hp Q X :=
  callF w.gt w.bt w.f_floorsqrt (bv := [a0]) (binds0 w.b_floorsqrt rfl) rfl rfl h
theorem call_floorpowerroot2 {w mean mg mb} {a0 : V} {a1 : V} {d : Nat} {hp : HP} {Q : V → HP → Prop} {X : XC}
    (h : exec (gg w mean mg mb) d m_floorpowerroot [a0, a1, .bool false, .unb, .unb, .unb, .unb, .unb, .unb, .unb] hp (retQ Q) (upX X)) : Calls (gg w mean mg mb) (d + 1) 29 [a0, a1] [] hp Q X :=
  callF w.gt w.bt w.f_floorpowerroot (bv := [a0, a1, .bool false]) (bindsD w.d_floorpowerroot w.b_floorpowerroot2 rfl rfl) rfl rfl h
theorem call_floorpowerroot3 {w mean mg mb} {a0 : V} {a1 : V} {a2 : V} {d : Nat} {hp : HP} {Q : V → HP → Prop} {X : XC}
    (h : exec (gg w mean mg mb) d m_floorpowerroot [a0, a1, a2, .unb, .unb, .unb, .unb, .unb, .unb, .unb] hp (retQ Q) (upX X)) : Calls (gg w mean mg mb) (d + 1) 29 [a0, a1, a2] [] hp Q X :=
  callF w.gt w.bt w.f_floorpowerroot (bv := [a0, a1, a2]) (bindsD w.d_floorpowerroot w.b_floorpowerroot3 rfl rfl) rfl rfl h
theorem call_expand {w mean mg mb} {a0 : V} {a1 : V} {d : Nat} {hp : HP} {Q : V → HP → Prop} {X : XC}
    (h : exec (gg w mean mg mb) d m_expand [a0, a1, .unb] hp (retQ Q) (upX X)) : Calls (gg w mean mg mb) (d + 1) 36 [a0, a1] [] hp Q X :=
  callF w.gt w.bt w.f_expand (bv := [a0, a1]) (binds0 w.b_expand rfl) rfl rfl h
theorem call_vp2 {w mean mg mb} {a0 : V} {a1 : V} {d : Nat} {hp : HP} {Q : V → HP → Prop} {X : XC}
    (h : exec (gg w mean mg mb) d m_vp [a0, a1, .int 0, .unb] hp (retQ Q) (upX X)) : Calls (gg w mean mg mb) (d + 1) 44 [a0, a1] [] hp Q X :=
  callF w.gt w.bt w.f_vp (bv := [a0, a1, .int 0]) (bindsD w.d_vp w.b_vp2 rfl rfl) rfl rfl h
theorem call_vp3 {w mean mg mb} {a0 : V} {a1 : V} {a2 : V} {d : Nat} {hp : HP} {Q : V → HP → Prop} {X : XC}
    (h : exec (gg w mean mg mb) d m_vp [a0, a1, a2, .unb] hp (retQ Q) (upX X)) : Calls (gg w mean mg mb) (d + 1) 44 [a0, a1, a2] [] hp Q X :=
  callF w.gt w.bt w.f_vp (bv := [a0, a1, a2]) (bindsD w.d_vp w.b_vp3 rfl rfl) rfl rfl h
theorem call_log1 {w mean mg mb} {a0 : V} {d : Nat} {hp : HP} {Q : V → HP → Prop} {X : XC}
    (h : exec (gg w mean mg mb) d m_log [a0, .int 2, .unb, .unb, .unb, .unb, .unb, .unb, .unb] hp (retQ Q) (upX X)) : Calls (gg w mean mg mb) (d + 1) 79 [a0] [] hp Q X :=
  callF w.gt w.bt w.f_log (bv := [a0, .int 2]) (bindsD w.d_log w.b_log1 rfl rfl) rfl rfl h
theorem call_log2 {w mean mg mb} {a0 : V} {a1 : V} {d : Nat} {hp : HP} {Q : V → HP → Prop} {X : XC}
    (h : exec (gg w mean mg mb) d m_log [a0, a1, .unb, .unb, .unb, .unb, .unb, .unb, .unb] hp (retQ Q) (upX X)) : Calls (gg w mean mg mb) (d + 1) 79 [a0, a1] [] hp Q X :=
  callF w.gt w.bt w.f_log (bv := [a0, a1]) (bindsD w.d_log w.b_log2 rfl rfl) rfl rfl h
theorem call_log10 {w mean mg mb} {a0 : V} {d : Nat} {hp : HP} {Q : V → HP → Prop} {X : XC}
    (h : exec (gg w mean mg mb) d m_log10 [a0] hp (retQ Q) (upX X)) : Calls (gg w mean mg mb) (d + 1) 86 [a0] [] hp Q X :=
  callF w.gt w.bt w.f_log10 (bv := [a0]) (binds0 w.b_log10 rfl) rfl rfl h
theorem call_product1 {w mean mg mb} {a0 : V} {d : Nat} {hp : HP} {Q : V → HP → Prop} {X : XC}
    (h : exec (gg w mean mg mb) d m_product [a0, .none, .unb, .unb] hp (retQ Q) (upX X)) : Calls (gg w mean mg mb) (d + 1) 94 [a0] [] hp Q X :=
  callF w.gt w.bt w.f_product (bv := [a0, .none]) (bindsD w.d_product w.b_product1 rfl rfl) rfl rfl h
theorem call_product2 {w mean mg mb} {a0 : V} {a1 : V} {d : Nat} {hp : HP} {Q : V → HP → Prop} {X : XC}
    (h : exec (gg w mean mg mb) d m_product [a0, a1, .unb, .unb] hp (retQ Q) (upX X)) : Calls (gg w mean mg mb) (d + 1) 94 [a0, a1] [] hp Q X :=
  callF w.gt w.bt w.f_product (bv := [a0, a1]) (bindsD w.d_product w.b_product2 rfl rfl) rfl rfl h
theorem call_l_pool {w mean mg mb} {a0 : V} {d : Nat} {hp : HP} {Q : V → HP → Prop} {X : XC}
    (h : exec (gg w mean mg mb) d poolMS [a0, .unb, .unb] hp (retQ Q) (upX X)) : Calls (gg w mean mg mb) (d + 1) 101 [a0] [] hp Q X :=
  callF w.gt w.bt w.f_l_pool (bv := [a0]) (binds0 w.b_l_pool rfl) rfl rfl h
theorem call_l_draw {w mean mg mb} {a0 : V} {a1 : V} {d : Nat} {hp : HP} {Q : V → HP → Prop} {X : XC}
    (h : exec (gg w mean mg mb) d drawMS [a0, a1, .unb, .unb, .unb] hp (retQ Q) (upX X)) : Calls (gg w mean mg mb) (d + 1) 108 [a0, a1] [] hp Q X :=
  callF w.gt w.bt w.f_l_draw (bv := [a0, a1]) (binds0 w.b_l_draw rfl) rfl rfl h
theorem call_l_pick {w mean mg mb} {a0 : V} {a1 : V} {d : Nat} {hp : HP} {Q : V → HP → Prop} {X : XC}
    (h : exec (gg w mean mg mb) d m_l_pick [a0, a1] hp (retQ Q) (upX X)) : Calls (gg w mean mg mb) (d + 1) 115 [a0, a1] [] hp Q X :=
  callF w.gt w.bt w.f_l_pick (bv := [a0, a1]) (binds0 w.b_l_pick rfl) rfl rfl h
theorem call_l_base {w mean mg mb} {a0 : V} {d : Nat} {hp : HP} {Q : V → HP → Prop} {X : XC}
    (h : exec (gg w mean mg mb) d m_l_base [a0] hp (retQ Q) (upX X)) : Calls (gg w mean mg mb) (d + 1) 122 [a0] [] hp Q X :=
  callF w.gt w.bt w.f_l_base (bv := [a0]) (binds0 w.b_l_base rfl) rfl rfl h
theorem call_l_number {w mean mg mb} {a0 : V} {a1 : V} {d : Nat} {hp : HP} {Q : V → HP → Prop} {X : XC}
    (h : exec (gg w mean mg mb) d m_l_number [a0, a1, .unb, .unb] hp (retQ Q) (upX X)) : Calls (gg w mean mg mb) (d + 1) 129 [a0, a1] [] hp Q X :=
  callF w.gt w.bt w.f_l_number (bv := [a0, a1]) (binds0 w.b_l_number rfl) rfl rfl h
theorem call_l_digits {w mean mg mb} {a0 : V} {a1 : V} {d : Nat} {hp : HP} {Q : V → HP → Prop} {X : XC}
    (h : exec (gg w mean mg mb) d m_l_digits [a0, a1, .unb, .unb, .unb] hp (retQ Q) (upX X)) : Calls (gg w mean mg mb) (d + 1) 136 [a0, a1] [] hp Q X :=
  callF w.gt w.bt w.f_l_digits (bv := [a0, a1]) (binds0 w.b_l_digits rfl) rfl rfl h
theorem call_l_power {w mean mg mb} {a0 : V} {a1 : V} {d : Nat} {hp : HP} {Q : V → HP → Prop} {X : XC}
    (h : exec (gg w mean mg mb) d m_l_power [a0, a1, .unb, .unb] hp (retQ Q) (upX X)) : Calls (gg w mean mg mb) (d + 1) 143 [a0, a1] [] hp Q X :=
  callF w.gt w.bt w.f_l_power (bv := [a0, a1]) (binds0 w.b_l_power rfl) rfl rfl h
theorem call_l_noughts {w mean mg mb} {a0 : V} {d : Nat} {hp : HP} {Q : V → HP → Prop} {X : XC}
    (h : exec (gg w mean mg mb) d m_l_noughts [a0, .unb, .unb] hp (retQ Q) (upX X)) : Calls (gg w mean mg mb) (d + 1) 150 [a0] [] hp Q X :=
  callF w.gt w.bt w.f_l_noughts (bv := [a0]) (binds0 w.b_l_noughts rfl) rfl rfl h
theorem call_l_is_whole {w mean mg mb} {a0 : V} {d : Nat} {hp : HP} {Q : V → HP → Prop} {X : XC}
    (h : exec (gg w mean mg mb) d m_l_is_whole [a0] hp (retQ Q) (upX X)) : Calls (gg w mean mg mb) (d + 1) 157 [a0] [] hp Q X :=
  callF w.gt w.bt w.f_l_is_whole (bv := [a0]) (binds0 w.b_l_is_whole rfl) rfl rfl h
theorem call_l_digits_right {w mean mg mb} {a0 : V} {a1 : V} {a2 : V} {d : Nat} {hp : HP} {Q : V → HP → Prop} {X : XC}
    (h : enterC [(false, a0), (true, a1), (false, a2), (false, .unb), (false, .unb), (false, .unb)] hp fun l h0 => exec (gg w mean mg mb) d m_l_digits_right l h0 (retQ Q) noX) : Calls (gg w mean mg mb) (d + 1) 162 [a0, a1, a2] [] hp Q X :=
  callC w.gt w.bt w.f_l_digits_right (bv := [a0, a1, a2]) (binds0 w.b_l_digits_right rfl) rfl rfl (by kernel_rfl!) h
theorem call_l_roots_right {w mean mg mb} {a0 : V} {a1 : V} {a2 : V} {d : Nat} {hp : HP} {Q : V → HP → Prop} {X : XC}
    (h : exec (gg w mean mg mb) d m_l_roots_right [a0, a1, a2, .unb, .unb] hp (retQ Q) (upX X)) : Calls (gg w mean mg mb) (d + 1) 169 [a0, a1, a2] [] hp Q X :=
  callF w.gt w.bt w.f_l_roots_right (bv := [a0, a1, a2]) (binds0 w.b_l_roots_right rfl) rfl rfl h
theorem call_l_squares_right {w mean mg mb} {a0 : V} {d : Nat} {hp : HP} {Q : V → HP → Prop} {X : XC}
    (h : exec (gg w mean mg mb) d m_l_squares_right [a0, .unb] hp (retQ Q) (upX X)) : Calls (gg w mean mg mb) (d + 1) 176 [a0] [] hp Q X :=
  callF w.gt w.bt w.f_l_squares_right (bv := [a0]) (binds0 w.b_l_squares_right rfl) rfl rfl h
theorem call_l_powers_right {w mean mg mb} {a0 : V} {a1 : V} {a2 : V} {a3 : V} {d : Nat} {hp : HP} {Q : V → HP → Prop} {X : XC}
    (h : exec (gg w mean mg mb) d m_l_powers_right [a0, a1, a2, a3, .unb, .unb, .unb] hp (retQ Q) (upX X)) : Calls (gg w mean mg mb) (d + 1) 183 [a0, a1, a2, a3] [] hp Q X :=
  callF w.gt w.bt w.f_l_powers_right (bv := [a0, a1, a2, a3]) (binds0 w.b_l_powers_right rfl) rfl rfl h
theorem call_issquare {w mean mg mb} {a0 : V} {a1 : V} {d : Nat} {hp : HP} {Q : V → HP → Prop} {X : XC}
    (h : exec (gg w mean mg mb) d m_issquare [a0, a1, .unb, .unb] hp (retQ Q) (upX X)) : Calls (gg w mean mg mb) (d + 1) 62 [a0, a1] [] hp Q X :=
  callF w.gt w.bt w.f_issquare (bv := [a0, a1]) (binds0 w.b_issquare rfl) rfl rfl h
theorem ev_ref {g : G} {d i : Nat} {l : List V} {hp : HP} {Q : V → HP → Prop} {X : XT} (a : Addr) (h : lget l i = .ref a) (k : Q (.ref a) hp) : ev g d (.var i) l hp Q X := varV_iff.mpr ⟨by rw [h]; simp, by rw [h]; exact k⟩
theorem draws {w mean mg mb} {d : Nat} : DrawsC (gg w mean mg mb) (d + 1) 108 := fun _ _ _ _ P h _ _ k => call_l_draw (draw_exec P h k)
/-- the logarithm -/
theorem logB {w mean mg mb} {d : Nat} {hp : HP} {n b l : Nat} (h : LogOf n b l) (hn : n < 2 ^ 12900) {Q : V → HP → Prop} {X : XC} (hQ : ∀ h', Upto [] hp h' → Q (.int l) h') :
    Calls (gg w mean mg mb) (d + 2) 79 [.int n, .int b] [] hp Q X := by
  have hl : l < 12900 := (Nat.pow_lt_pow_iff_right (a := 2) (by decide)).mp (Nat.lt_of_le_of_lt (Nat.le_trans (Nat.pow_le_pow_left h.two _) h.lo) hn)
  rcases Nat.lt_or_ge n b with q | q
  · have e := h.uniq (k := 0) (by have := h.n1; simpa using this) (by simpa using q)
    subst e
    exact call_log2 (log_small (by omega) (hQ _ .refl))
  · exact call_log2 (log_exec h q hn (fun e Q X hq => by subst e; exact call_log10 (log10_exec h (h.one_le q) (by omega) hn hq)) hQ)
theorem log0 {w mean mg mb} {d : Nat} {hp : HP} {b : Int} (hb : 0 < b) {Q : V → HP → Prop} {X : XC} (hQ : Q (.int 0) hp) : Calls (gg w mean mg mb) (d + 2) 79 [.int 0, .int b] [] hp Q X := call_log2 (log_small hb hQ)
theorem logB2 {w mean mg mb} {d : Nat} {hp : HP} {n l : Nat} (h : LogOf n 2 l) (hn : n < 2 ^ 12900) {Q : V → HP → Prop} {X : XC} (hQ : ∀ h', Upto [] hp h' → Q (.int l) h') :
    Calls (gg w mean mg mb) (d + 2) 79 [.int n] [] hp Q X := by
  rcases Nat.lt_or_ge n 2 with q | q
  · have hn1 := h.n1
    have : n = 1 := by omega
    subst this
    have := h.uniq (k := 0) (by decide) (by decide)
    subst this
    exact call_log1 (log_small (by decide) (hQ _ .refl))
  · exact call_log1 (log_exec (b := 2) h q hn (fun e => absurd e (by decide)) hQ)
theorem sqrtC {w mean mg mb} {d : Nat} {hp : HP} {n r : Nat} (h : Root n 2 r) (hn : n < 2 ^ 12900) {Q : V → HP → Prop} {X : XC} (hQ : ∀ h', Upto [] hp h' → Q (.int r) h') :
    Calls (gg w mean mg mb) (d + 3) 21 [.int n] [] hp Q X :=
  call_floorsqrt (sqrt_exec (a := 79) (by rw [← Nat.pow_two]; exact h.lo) (by rw [← Nat.pow_two]; exact h.hi) hn (fun _ _ hl _ _ hq => logB hl hn hq) hQ)
/-- what floorpowerroot tells of n -/
theorem tells {w mean mg mb} {d n r k : Nat} (hk : 1 ≤ k) (hk2 : k < 1000) (h : Root n k r) (hn : n < 2 ^ 12900) {b : Bool} {hp : HP} {Q : V → HP → Prop} {X : XT} (hR : RetR b r (r ^ k : Nat) hp Q) :
    exec (gg w mean mg mb) (d + 3) m_floorpowerroot [.int n, .int k, .bool b, .unb, .unb, .unb, .unb, .unb, .unb, .unb] hp (retQ Q) X := by
  rcases Nat.lt_or_ge 2 k with q | q
  · obtain ⟨j, rfl⟩ := Nat.exists_eq_add_of_lt q
    rw [show 2 + j + 1 = (j + 2) + 1 by omega] at *
    rcases Nat.eq_zero_or_pos n with z | z
    · subst z
      have : r = 0 := h.uniq (s := 0) ⟨by rw [Nat.zero_pow (by omega)]; omega, by simp⟩
      subst this
      rw [Nat.zero_pow (by omega)] at hR
      exact root0 (sq := 21) (lg := 79) (by omega) hR
    · exact root_pos (sq := 21) (lg := 79) (by omega) (by omega) h.lo h.hi z hn (fun _ _ hl _ _ hq => logB2 hl hn hq) hR
  · have : k = 1 ∨ k = 2 := by omega
    rcases this with rfl | rfl
    · have : r = n := h.uniq (s := n) ⟨by simp, by simp⟩
      subst this
      rw [Nat.pow_one] at hR
      exact root1 (sq := 21) (lg := 79) hR
    · exact root2 (sq := 21) (lg := 79) h.lo h.hi hn (fun _ _ hq => sqrtC h hn hq) hR
theorem rootC {w mean mg mb} {d n r k : Nat} (hk : 1 ≤ k) (hk2 : k < 1000) (h : Root n k r) (hn : n < 2 ^ 12900) {hp : HP} {Q : V → HP → Prop} {X : XC} (hQ : ∀ h', Upto [] hp h' → Q (.int r) h') :
    Calls (gg w mean mg mb) (d + 4) 29 [.int n, .int k] [] hp Q X := call_floorpowerroot2 (tells (b := false) hk hk2 h hn hQ)
theorem rootI {w mean mg mb} {d n r k : Nat} {n' k' : Int} (en : n' = n) (ek : k' = k) (hk : 1 ≤ k) (hk2 : k < 1000) (h : Root n k r) (hn : n < 2 ^ 12900) {hp : HP} {Q : V → HP → Prop} {X : XC} (hQ : ∀ h', Upto [] hp h' → Q (.int r) h') :
    Calls (gg w mean mg mb) (d + 4) 29 [.int n', .int k'] [] hp Q X := by subst en; subst ek; exact rootC hk hk2 h hn hQ
theorem sqrtI {w mean mg mb} {d : Nat} {hp : HP} {n r : Nat} {n' : Int} (en : n' = n) (h : Root n 2 r) (hn : n < 2 ^ 12900) {Q : V → HP → Prop} {X : XC} (hQ : ∀ h', Upto [] hp h' → Q (.int r) h') :
    Calls (gg w mean mg mb) (d + 3) 21 [.int n'] [] hp Q X := by subst en; exact sqrtC h hn hQ
theorem rootT {w mean mg mb} {d n r k : Nat} (hk : 1 ≤ k) (hk2 : k < 1000) (h : Root n k r) (hn : n < 2 ^ 12900) {hp : HP} {Q : V → HP → Prop} {X : XC}
    (hQ : ∀ q h', h' q = some (.tup [.int r, .int (r ^ k : Nat)]) → Upto [] hp h' → Q (.ref q) h') : Calls (gg w mean mg mb) (d + 4) 29 [.int n, .int k, .bool true] [] hp Q X := call_floorpowerroot3 (tells (b := true) hk hk2 h hn hQ)
theorem whole_exec {w mean mg mb} {d : Nat} {hp : HP} {n : Int} {Q : V → HP → Prop} {X : XC} (hQ : Q (.bool true) hp) : Calls (gg w mean mg mb) (d + 1) 157 [.int n] [] hp Q X :=
  call_l_is_whole ⟨fun _ => hQ, (fun t => nomatch t)⟩
theorem powC {w mean mg mb} {d : Nat} {hp : HP} {n k : Nat} (hk : k < 2 ^ 60) (hn : Bd 60000000 n) (hb : Bd 60000000 ((n ^ k : Nat) : Int)) {Q : V → HP → Prop} {X : XC} (hQ : Q (.int (n ^ k : Nat)) hp) :
    Calls (gg w mean mg mb) (d + 1) 143 [.int n, .int k] [] hp Q X := by
  have e : ((n ^ k : Nat) : Int) = (n : Int) ^ k := by push_cast; rfl
  rw [e] at hb hQ
  refine call_l_power (pow_exec hk hn (fun j hj => ?_) hQ)
  rcases Nat.eq_zero_or_pos n with z | z
  · subst z
    refine Bd.mono (k := 1) ?_ (by decide)
    have : ((0 : Nat) : Int) ^ j = ((0 ^ j : Nat) : Int) := by push_cast; rfl
    rw [this]
    exact BdN (by rcases Nat.eq_zero_or_pos j with q | q
                  · subst q; decide
                  · rw [Nat.zero_pow q]; decide)
  · exact pow_bd (by omega) hb hj
theorem expandC {w mean mg mb} {d : Nat} {hp : HP} {n m : Int} {ds : List Int} (hm : 2 ≤ m) (h : Digits m n ds) (hl : ds.length ≤ 10000) {Q : V → HP → Prop} {X : XC}
    (hQ : ∀ r h', hp r = none → h' r = some (.list (ds.map .int)) → Upto [] hp h' → Q (.ref r) h') : Calls (gg w mean mg mb) (d + 1) 36 [.int n, .int m] [] hp Q X := by
  refine call_expand ⟨by simp [sizeLine_eq], fun r nr => ?_⟩
  refine ⟨fun i l h' => ∃ n' pre rest, l = [.int n', .int m, .ref r] ∧ h' r = some (.list (pre.map .int)) ∧ pre ++ rest = ds ∧ Digits m n' rest ∧ Upto [] hp h' ∧ i = rest.length,
    ⟨_, n, [], ds, rfl, hset_same, rfl, h, .new nr, rfl⟩, ?_⟩
  rintro i l h' ⟨n', pre, rest, rfl, hr, hpr, hd, u, rfl⟩
  have hpl : pre.length ≤ 10000 := by rw [← hpr] at hl; simp at hl; omega
  refine ⟨fun ht => ?_, fun ht => ?_⟩
  · have ht := cge_t.mp ht
    cases hd with
    | last h2 => omega
    | @more _ ds' _ h2 =>
      refine ⟨⟨_, hr⟩, ?_⟩
      refine ⟨show m ≠ 0 by omega, _, hr, by simp [sizeLine_eq]; omega, ?_⟩
      refine ⟨show m ≠ 0 by omega, ds'.length, by simp, n'.fdiv m, pre ++ [n'.fmod m], ds', rfl, ?_, by simp [← hpr], h2, u.fresh nr, rfl⟩
      rw [hset_same]; simp; rfl
  · have ht := cge_f.mp ht
    cases hd with
    | more h2 _ => omega
    | last h2 =>
      refine ⟨⟨_, hr⟩, _, hr, by simp [sizeLine_eq]; omega, ?_⟩
      exact hQ r _ nr (by rw [hset_same, ← hpr]; simp; rfl) (u.fresh nr)
theorem digitsC {w mean mg mb} {d : Nat} {hp : HP} {n m : Int} {ds : List Int} (hm : 2 ≤ m) (h : Digits m n ds) (hl : ds.length ≤ 1000) {Q : V → HP → Prop} {X : XC}
    (hQ : ∀ r h', hp r = none → h' r = some (.list (ds.map .int)) → Upto [] hp h' → Q (.ref r) h') : Calls (gg w mean mg mb) (d + 1) 136 [.int n, .int m] [] hp Q X := by
  refine call_l_digits ⟨by simp [sizeLine_eq], fun r nr => ?_⟩
  refine ⟨by decide, small_one (by decide) (by decide) (by decide) (by decide), ?_⟩
  refine forUp (l := [.int n, .int m, .ref r, .int n, .unb]) 1000 (by decide) (fun k l h' => ∃ n' pre rest x, l = [.int n, .int m, .ref r, .int n', x] ∧ h' r = some (.list (pre.map .int)) ∧ pre ++ rest = ds ∧ Digits m n' rest ∧ Upto [] hp h' ∧ pre.length = k)
    ⟨n, [], ds, .unb, rfl, hset_same, rfl, h, .new nr, rfl⟩ ?_ ?_
  · rintro k l h' hk ⟨n', pre, rest, x, rfl, hr, hpr, hd, u, hpk⟩
    refine ⟨fun ht => ?_, fun ht => ?_⟩
    · have ht := clt_t.mp ht
      cases hd with
      | more h2 _ => omega
      | last h2 =>
        refine ⟨by simp [sizeLine_eq], fun r2 nr2 => ?_⟩
        have hr2 := ne_of_none nr2 hr
        refine ⟨pre.map .int, [.int n'], by rw [hset_ne hr2, hr]; rfl, by rw [hset_same]; rfl, by simp [sizeLine_eq]; omega, fun r3 nr3 => ?_⟩
        have u2 : Upto [] hp (hset h' r2 (.list [.int n'])) := u.trans (.new nr2)
        refine hQ r3 _ ?_ ?_ (u2.trans (.new nr3))
        · cases q : hp r3 with
          | none => rfl
          | some o => exact absurd (nr3.symm.trans (u2.at q)) (by simp)
        · rw [hset_same, ← hpr]; simp
    · have ht := clt_f.mp ht
      cases hd with
      | last h2 => omega
      | @more _ ds' _ h2 =>
        refine ⟨⟨_, hr⟩, ?_⟩
        refine ⟨show m ≠ 0 by omega, _, hr, by simp [sizeLine_eq]; omega, ?_⟩
        refine ⟨show m ≠ 0 by omega, n'.fdiv m, pre ++ [n'.fmod m], ds', .int (0 + k), rfl, ?_, by simp [← hpr], h2, u.fresh nr, by simp [hpk]⟩
        rw [hset_same]; simp; rfl
  · rintro l h' ⟨n', pre, rest, x, rfl, hr, hpr, hd, u, hpk⟩
    have := congrArg List.length hpr
    have h2 : rest.length ≠ 0 := fun q => hd.ne (List.length_eq_zero_iff.mp q)
    simp at this; omega
theorem noughtsC {w mean mg mb} {d : Nat} {hp : HP} {r : Addr} {ds : List Int} {z : Nat} (hr : hp r = some (.list (ds.map .int))) (hz : ∀ i, i < z → ds[i]? = some 0) (hx : ∃ x, ds[z]? = some x ∧ x ≠ 0) {Q : V → HP → Prop} {X : XC} (hQ : Q (.int z) hp) :
    Calls (gg w mean mg mb) (d + 1) 150 [.ref r] [] hp Q X := by
  obtain ⟨x, hx, hx0⟩ := hx
  have hzl : z < ds.length := (List.getElem?_eq_some_iff.mp hx).1
  refine call_l_noughts ⟨_, by rw [hr]; rfl, fun k l h => ∃ a b, l = [.ref r, a, b] ∧ h = hp ∧ k ≤ z, ⟨.unb, .unb, rfl, rfl, Nat.zero_le _⟩, ?_, ?_⟩
  · rintro k ys l h hy ⟨a, b, rfl, rfl, hk⟩
    refine ⟨rfl, ?_⟩
    rw [enumR_get, List.getElem?_map] at hy
    cases e : ds[k]? with
    | none => rw [e] at hy; cases hy
    | some y =>
      rw [e] at hy
      simp only [Option.map_some, Option.some.injEq, Nat.zero_add] at hy
      subst hy
      refine ⟨fun ht => ?_, fun ht => ?_⟩
      · have ht := cne_t.mp ht
        have : k = z := by
          rcases Nat.lt_or_ge k z with q | q
          · rw [hz k q] at e; cases e; exact absurd rfl ht
          · omega
        subst this
        exact hQ
      · have ht := cne_f.mp ht
        refine ⟨.int k, .int y, rfl, rfl, ?_⟩
        rcases Nat.lt_or_ge k z with q | q
        · exact q
        · have : k = z := by omega
          subst this
          rw [hx] at e; cases e; exact absurd ht hx0
  · rintro l h ⟨a, b, rfl, rfl, hk⟩
    rw [enumR_len, List.length_map] at hk
    omega
theorem vp_exec {g : G} {d : Nat} {hp : HP} {n p k : Int} {m : Nat} {c : Int} (h : Mult n p m c) (hn0 : n ≠ 0) (hn : Bd 60000000 n) (hpb : Bd 60000000 p) {Q : V → HP → Prop} {X : XT}
    (hQ : ∀ r, hp r = none → Q (.ref r) (hset hp r (.tup [.int (m + k), .int c]))) : exec g d m_vp [.int n, .int p, .int k, .unb] hp (retQ Q) X := by
  refine ⟨fun i l h' => ∃ j : Nat, l = [.int n, .int p, .int (k + j), .int (p ^ (j + 1))] ∧ j ≤ m ∧ h' = hp ∧ i = m - j, ⟨_, 0, by simp [pow_one', lset, lget], Nat.zero_le _, rfl, rfl⟩, ?_⟩
  rintro i l h' ⟨j, rfl, hj, rfl, rfl⟩
  refine ⟨h.pow0 (j + 1), fun ht => ?_, fun ht => ?_⟩
  · have hd : n.fmod (p ^ (j + 1)) = 0 := by simpa [intOp] using ht
    have hlt := (h.dvd_iff hj).mp hd
    have hb : Bd 60000000 (p ^ (j + 1)) := hn.le (dvd_natAbs_le (fmod_zero_iff.mp hd) hn0)
    refine ⟨trivial, hb.mulOk hpb, m - (j + 1), by omega, j + 1, ?_, by omega, rfl, rfl⟩
    show [V.int n, .int p, .int (k + j + 1), .int (p ^ (j + 1) * p)] = _
    rw [Int.pow_succ p (j + 1)]
    simp [Int.add_assoc]
  · have hd : n.fmod (p ^ (j + 1)) ≠ 0 := by simpa [intOp] using ht
    have : j = m := by
      rcases Nat.lt_or_ge j m with q | q
      · exact absurd ((h.dvd_iff hj).mpr q) hd
      · omega
    subst this
    refine ⟨h.p0, ?_, by simp [sizeLine_eq], fun r hr => ?_⟩
    · show (p ^ (j + 1)).fdiv p ≠ 0
      rw [Int.pow_succ, Int.mul_fdiv_cancel _ h.p0]; exact h.pow0 j
    · have := hQ r hr
      show Q (.ref r) (hset h' r (.tup [.int (k + j), .int (n.fdiv ((p ^ (j + 1)).fdiv p))]))
      rw [h.div, Int.add_comm k]; exact this
noncomputable def prodI : List Int → Int
  | [] => 1
  | n :: r => n * prodI r
theorem prodI_app : ∀ (a b : List Int), prodI (a ++ b) = prodI a * prodI b
  | [], b => by simp [prodI]
  | x :: a, b => by simp only [List.cons_append, prodI]; rw [prodI_app a b, Int.mul_assoc]
theorem prodI_take {a : List Int} {k : Nat} {x : Int} (h : a[k]? = some x) : prodI (a.take (k + 1)) = prodI (a.take k) * x := by
  rw [List.take_add_one, h, prodI_app]; simp [prodI]
theorem prodI_rep (m : Int) : ∀ k, prodI (List.replicate k m) = m ^ k
  | 0 => by simp [prodI]
  | k + 1 => by rw [List.replicate_succ]; simp only [prodI]; rw [prodI_rep m k, Int.pow_succ, Int.mul_comm]
noncomputable def dropS : Nat → MS → MS
  | n + 1, .seq _ r => dropS n r
  | _, m => m
noncomputable def optV : Option Int → V
  | none => .none
  | some z => .int z
theorem prodLoop {w mean mg mb} {d : Nat} {hp : HP} {r : Addr} {ns : List Int} {x1 : V} (e : hp r = some (.list (ns.map .int))) (hlen : ns.length < 2 ^ 62) {b : Option Int} (hb : ∀ z ∈ ns, Bd 60000000 z) (hbb : ∀ k, Bd 60000000 (b.getD 1 * prodI (ns.take k))) {Q : V → HP → Prop} {X : XT} (hQ : Q (.int (b.getD 1 * prodI ns)) hp) :
    exec (gg w mean mg mb) d (dropS 1 m_product) [.ref r, x1, optV b, .unb] hp (retQ Q) X := by
  refine ⟨_, by rw [e]; rfl, by rw [List.length_map]; omega, ?_⟩
  refine ⟨fun k l h => ∃ (a : Option Int) (y : V), l = [.ref r, x1, optV a, y] ∧ h = hp ∧ a.getD 1 = b.getD 1 * prodI (ns.take k) ∧ (a = none → k = 0 ∧ b = none), ⟨b, .unb, rfl, rfl, by simp [prodI], fun h => ⟨rfl, h⟩⟩, ?_, ?_⟩
  · rintro k x l h hx ⟨a, y, rfl, rfl, ha, hn⟩
    refine ⟨rfl, ?_⟩
    have hx' : ∃ z, ns[k]? = some z ∧ x = .int z := by
      rw [List.getElem?_map] at hx
      cases q : ns[k]? with
      | none => rw [q] at hx; cases hx
      | some z => rw [q] at hx; cases hx; exact ⟨z, rfl, rfl⟩
    obtain ⟨z, hz, rfl⟩ := hx'
    cases a with
    | none =>
      obtain ⟨rfl, rfl⟩ := hn rfl
      refine ⟨fun _ => ⟨some z, .int z, rfl, rfl, ?_, (fun h => nomatch h)⟩, (fun t => nomatch t)⟩
      rw [prodI_take hz]; simp [prodI]
    | some acc =>
      have ha : acc = b.getD 1 * prodI (ns.take k) := ha
      refine ⟨(fun t => nomatch t), fun _ => ⟨(ha ▸ hbb k : Bd 60000000 acc).mulOk (hb z (List.mem_of_getElem? hz)), some (acc * z), .int z, rfl, rfl, ?_, (fun h => nomatch h)⟩⟩
      show acc * z = _
      rw [prodI_take hz, ← Int.mul_assoc, ha]
  · rintro l h ⟨a, y, rfl, rfl, ha, hn⟩
    refine ⟨rfl, ?_⟩
    rw [List.length_map, List.take_length] at ha
    cases a with
    | none =>
      obtain ⟨h0, rfl⟩ := hn rfl
      refine ⟨fun _ => ?_, (fun t => nomatch t)⟩
      rw [← ha] at hQ
      exact hQ
    | some acc =>
      refine ⟨(fun t => nomatch t), fun _ => ?_⟩
      rw [← ha] at hQ
      exact hQ
theorem prodC1 {w mean mg mb} {d : Nat} {hp : HP} {r : Addr} {ns : List Int} (e : hp r = some (.list (ns.map .int))) (hlen : ns.length < 2 ^ 62) (hb : ∀ z ∈ ns, Bd 60000000 z) (hbb : ∀ k, Bd 60000000 (prodI (ns.take k))) {Q : V → HP → Prop} {X : XC} (hQ : Q (.int (prodI ns)) hp) :
    Calls (gg w mean mg mb) (d + 1) 94 [.ref r] [] hp Q X := call_product1 (prodLoop (b := none) e hlen hb (by simpa using hbb) (by simpa using hQ))
theorem prodC2 {w mean mg mb} {d : Nat} {hp : HP} {r : Addr} {ns : List Int} {b : Int} (e : hp r = some (.list (ns.map .int))) (hlen : ns.length < 2 ^ 62) (hb : ∀ z ∈ ns, Bd 60000000 z) (hbb : ∀ k, Bd 60000000 (b * prodI (ns.take k))) {Q : V → HP → Prop} {X : XC} (hQ : Q (.int (b * prodI ns)) hp) :
    Calls (gg w mean mg mb) (d + 1) 94 [.ref r, .int b] [] hp Q X := call_product2 (prodLoop (b := some b) e hlen hb hbb hQ)
/-- the list of z times m -/
theorem times {w mean mg mb} {d : Nat} {h : HP} {l : List V} {ce : Addr} {z : Nat} {m : Int} (hc : lget l 1 = .cell ce) (h4 : lget l 4 = .int z) (hm : h ce = some (.cell (.int m))) (hz : z < 2 ^ 20) {Q : V → HP → Prop} {X : XT}
    (hQ : ∀ q, h q = none → Q (.ref q) (hset h q (.list ((List.replicate z m).map .int)))) : ev (gg w mean mg mb) d (.compR (.int 0) (.var 4) (.int 1) (.tv (.bool true)) (.cvar 1) [1]) l h Q X := by
  refine ⟨by simp [cellsB, hc], varV_iff.mpr ⟨by rw [h4]; simp, ?_⟩⟩
  rw [h4]
  refine ⟨by decide, small_one (by decide) (by decide) (by omega) (by omega), ?_⟩
  refine compUp z (by omega) (fun k acc h' => acc = (List.replicate k m).map .int ∧ h' = h) ⟨rfl, rfl⟩ ?_ ?_
  · rintro k acc h' hk ⟨rfl, rfl⟩
    refine ⟨by simp [sizeLine_eq]; omega, ⟨fun _ => ?_, (fun q => nomatch q)⟩⟩
    show cvarV [V.int (0 + k), lget l 1] 1 h' _
    rw [hc]
    exact ⟨.int m, hm, by simp, by rw [List.replicate_succ', List.map_append]; rfl, rfl⟩
  · rintro acc h' ⟨rfl, rfl⟩ q nq
    exact hQ q nq
theorem digits_last {w mean mg mb} {d : Nat} {hp h : HP} {n m C z : Nat} {c : Int} {ce r : Addr} (hm : 2 ≤ m) (hn : n < 2 ^ 902) (hn1 : 1 ≤ n) (hmb : m < 2 ^ 62) (u : Upto [] hp h) (hc : h ce = some (.cell (.int m)))
    (M : Mult n m z C) {Q : V → HP → Prop} (hQ : ∀ h', Upto [] hp h' → Q (.bool true) h') :
    exec (gg w mean mg mb) (d + 2) (dropS 7 m_l_digits_right) [.int n, .cell ce, .int c, .ref r, .int z, .int C] h (retQ Q) noX := by
  have eN : n = C * m ^ z := by have := M.eq; exact_mod_cast this
  have hC : 1 ≤ C := by rcases Nat.eq_zero_or_pos C with q | q; (subst q; simp at eN; omega); exact q
  have hpz : ∀ k, k ≤ z → C * m ^ k ≤ n := fun k hk => by rw [eN]; exact Nat.mul_le_mul_left _ (Nat.pow_le_pow_right (by omega) hk)
  have hz : z < 902 := (Nat.pow_lt_pow_iff_right (a := 2) (by decide)).mp (Nat.lt_of_le_of_lt (Nat.le_trans (Nat.pow_le_pow_left hm z) (Nat.le_trans (Nat.le_mul_of_pos_left _ hC) (hpz z (Nat.le_refl _)))) hn)
  have bd : ∀ k, Bd 60000000 ((C : Int) * prodI ((List.replicate z (m : Int)).take k)) := fun k => by
    rw [List.take_replicate, prodI_rep]
    refine Bd.mono (k := 902) ?_ (by decide)
    have := hpz (min k z) (Nat.min_le_right _ _)
    rw [show (C : Int) * (m : Int) ^ (min k z) = ((C * m ^ (min k z) : Nat) : Int) by push_cast; rfl]
    exact BdN (by omega)
  have bm : Bd 60000000 (m : Int) := Bd.mono (k := 62) (BdN hmb) (by decide)
  have bC : Bd 60000000 (C : Int) := Bd.mono (k := 902) (BdN (by have := hpz 0 (Nat.zero_le _); simp at this; omega)) (by decide)
  have eP : (C : Int) * prodI (List.replicate z (m : Int)) = n := by rw [prodI_rep]; exact M.eq.symm
  refine times rfl rfl hc (by omega) fun q nq => ?_
  refine prodC2 hset_same (by simp; omega) (fun x hx => by rw [(List.mem_replicate.mp hx).2]; exact bm) bd ?_
  rw [eP]
  refine ⟨fun _ => ?_, fun q => absurd (ceq_f.mp q) (by simp)⟩
  refine ⟨by simp [sizeLine_eq], fun r1 n1 => ?_⟩
  have nce := ne_of_none nq hc
  have hc1 : hset h q (.list ((List.replicate z (m : Int)).map .int)) ce = some (.cell (.int m)) := by rw [hset_ne nce]; exact hc
  have nce1 := ne_of_none n1 hc1
  refine times rfl rfl (by rw [hset_ne nce1]; exact hc1) (by omega) fun q2 nq2 => ?_
  have e2 := hset_none.mp nq2
  refine ⟨[.int C], (List.replicate z (m : Int)).map .int, by rw [hset_ne (Ne.symm e2.1), hset_same]; rfl, by rw [hset_same]; rfl, by simp [sizeLine_eq]; omega, fun q3 nq3 => ?_⟩
  refine prodC1 (ns := C :: List.replicate z (m : Int)) (by rw [hset_same]; rfl) (by simp; omega) (fun x hx => ?_) (fun k => ?_) ?_
  · rcases List.mem_cons.mp hx with rfl | hx
    · exact bC
    · rw [(List.mem_replicate.mp hx).2]; exact bm
  · cases k with
    | zero => exact Bd.mono (k := 1) (show Bd 1 1 by unfold Bd; decide) (by decide)
    | succ k => exact bd k
  · show Q (.bool (cmpI ((C : Int) * prodI (List.replicate z (m : Int))) (n : Int) .eq)) _
    rw [eP, ceq_t.mpr rfl]
    exact hQ _ ((((u.trans (.new nq)).trans (.new n1)).trans (.new nq2)).trans (.new nq3))
theorem digits_rest {w mean mg mb} {d : Nat} {hp h : HP} {n m : Nat} {c : Int} {ds : List Int} {ce r : Addr} (hm : 2 ≤ m) (hn : n < 2 ^ 902) (hmb : m < 2 ^ 62) (u : Upto [] hp h) (hc : h ce = some (.cell (.int m)))
    (D : Digits (m : Int) n ds) (hr : h r = some (.list (ds.map .int))) {Q : V → HP → Prop} (hQ : ∀ h', Upto [] hp h' → Q (.bool true) h') :
    exec (gg w mean mg mb) (d + 2) (dropS 3 m_l_digits_right) [.int n, .cell ce, .int c, .ref r, .unb, .unb] h (retQ Q) noX := by
  refine ⟨fun _ => hQ _ u, fun hf => ?_⟩
  have hf := ceq_f.mp hf
  have hn1 : 1 ≤ n := by omega
  have hlen : ds.length ≤ 903 := D.len (by omega) 902 (by exact_mod_cast hn)
  obtain ⟨z, C, M, hC, D2, hz, hx⟩ := D.nought (by omega) (by omega)
  obtain ⟨C, rfl⟩ := Int.eq_ofNat_of_zero_le (show 0 ≤ C by omega)
  have eN : n = C * m ^ z := by have := M.eq; exact_mod_cast this
  have hC1 : 1 ≤ C := by omega
  have hpz : m ^ z ≤ n := by rw [eN]; exact Nat.le_mul_of_pos_left _ hC1
  have hCn : C ≤ n := by rw [eN]; exact Nat.le_mul_of_pos_right _ (Nat.pow_pos (by omega))
  have hzl : z < 902 := (Nat.pow_lt_pow_iff_right (a := 2) (by decide)).mp (Nat.lt_of_le_of_lt (Nat.le_trans (Nat.pow_le_pow_left hm z) hpz) hn)
  have bm : Bd 60000000 (m : Int) := Bd.mono (k := 62) (BdN hmb) (by decide)
  have bn : Bd 60000000 (n : Int) := Bd.mono (k := 902) (BdN hn) (by decide)
  have bz : Bd 60000000 ((m ^ z : Nat) : Int) := Bd.mono (k := 902) (BdN (by omega)) (by decide)
  have hz0 : ((m ^ z : Nat) : Int) ≠ 0 := by have : 0 < m ^ z := Nat.pow_pos (by omega); omega
  have eC : (n : Int).fdiv ((m ^ z : Nat) : Int) = C := by have := M.div0; push_cast; exact this
  refine noughtsC hr hz hx ?_
  refine ⟨.int m, hc, by simp, powC (by omega) bm bz ⟨hz0, ?_⟩⟩
  show exec (gg w mean mg mb) (d + 2) (dropS 6 m_l_digits_right) [.int n, .cell ce, .int c, .ref r, .int z, .int ((n : Int).fdiv ((m ^ z : Nat) : Int))] h (retQ Q) noX
  rw [eC]
  refine ⟨.int m, hc, by simp, call_vp2 (vp_exec M (by omega) bn bm fun q1 n1 => ?_)⟩
  refine ⟨by simp [sizeLine_eq], fun q2 n2 => ?_⟩
  have e12 := ne_of_none n2 hset_same
  refine cmpT_ne (ns := [(z : Int) + 0, C]) (ms := [(z : Int), C]) (by rw [hset_ne e12]; exact hset_same) hset_same (by simp) ⟨(fun q => nomatch q), fun _ => ?_⟩
  have u2 : ∀ o, Upto [] h (hset _ q2 o) := fun o => (Upto.new n1).trans (.new n2)
  refine ⟨.int m, (u2 _).at hc, by simp, call_vp3 (vp_exec M (by omega) bn bm fun q3 n3 => ?_)⟩
  refine ⟨trivial, by simp [sizeLine_eq], fun q4 n4 => ?_⟩
  have e34 := ne_of_none n4 hset_same
  refine cmpT_ne (ns := [(z : Int) + c, C]) (ms := [(z : Int) + c, C]) (by rw [hset_ne e34]; exact hset_same) hset_same rfl ⟨(fun q => nomatch q), fun _ => ?_⟩
  have u3 : ∀ o, Upto [] h (hset _ q4 o) := fun o => ((u2 _).trans (Upto.new n3)).trans (.new n4)
  refine ⟨.int m, (u3 _).at hc, by simp, expandC (by omega) D2 (by simp; omega) fun q5 h5 n5 e5 u5 => ?_⟩
  have u5 := (u3 _).trans u5
  refine ⟨ds.map .int, by rw [u5.at hr]; rfl, by simp [sizeLine_eq]; omega, by omega, fun q6 n6 => ?_⟩
  have e56 := ne_of_none n6 e5
  refine cmpL_ne (ns := ds.drop z) (ms := ds.drop z) (by rw [hset_ne e56]; exact e5) (by rw [hset_same]; simp [List.map_drop]) rfl ⟨(fun q => nomatch q), fun _ => ?_⟩
  have u6 : ∀ o, Upto [] h (hset h5 q6 o) := fun o => u5.trans (.new n6)
  exact digits_last hm hn hn1 hmb (u.trans (u6 _)) ((u6 _).at hc) M hQ
theorem digits_right {w mean mg mb} {d : Nat} {hp : HP} {n m : Nat} {c : Int} (hm : 2 ≤ m) (hn : n < 2 ^ 902) (hmb : m < 2 ^ 62) {Q : V → HP → Prop} {X : XC} (hQ : ∀ h', Upto [] hp h' → Q (.bool true) h') :
    Calls (gg w mean mg mb) (d + 3) 162 [.int n, .int m, .int c] [] hp Q X := by
  refine call_l_digits_right fun ce nce => ?_
  generalize hh0 : hset hp ce (.cell (.int m)) = h0
  have c0 : h0 ce = some (.cell (.int m)) := by rw [← hh0]; exact hset_same
  have u0 : Upto [] hp h0 := by rw [← hh0]; exact .new nce
  obtain ⟨ds, D⟩ := digits_ex (m := (m : Int)) (by omega) n n (by simp)
  have hlen : ds.length ≤ 903 := D.len (by omega) 902 (by exact_mod_cast hn)
  have hn2 : n < 2 ^ 12900 := Nat.lt_of_lt_of_le hn (Nat.pow_le_pow_right (by decide) (by decide))
  have lg : ∀ (h : HP) (Q : V → HP → Prop) (X : XC), (∀ h', Upto [] h h' → Q (.int ((ds.length : Int) - 1)) h') → Calls (gg w mean mg mb) (d + 2) 79 [.int n, .int m] [] h Q X := fun h Q X hq => by
    rcases Nat.eq_zero_or_pos n with z | z
    · subst z
      cases D with
      | last _ => exact log0 (by omega) (hq _ .refl)
      | more h _ => omega
    · obtain ⟨l, hl⟩ := log_ex hm z
      refine logB hl hn2 fun h' u' => ?_
      have := hq h' u'
      rw [D.logOf hl] at this
      rwa [show (((l + 1 : Nat) : Int) - 1) = l by omega] at this
  refine ⟨.int m, c0, by simp, digitsC (by omega) D (by omega) fun r h1 nr hr u1 => ?_⟩
  refine ⟨.int m, u1.at c0, by simp, expandC (by omega) D (by omega) fun r2 h2 nr2 hr2 u2 => ?_⟩
  refine ev_ref r rfl (cmpL_ne hr2 (u2.at hr) rfl ?_)
  refine ⟨(fun q => nomatch q), fun _ => ?_⟩
  refine ⟨.int m, (u1.trans u2).at c0, by simp, lg _ _ _ fun h3 u3 => ?_⟩
  have u13 := u2.trans u3
  refine ⟨_, by rw [u13.at hr]; rfl, by simp; omega, trivial, ⟨fun q => absurd (cne_t.mp q) (by simp [intOp]), fun _ => ?_⟩⟩
  have c3 := (u1.trans u13).at c0
  have rest : ∀ h', Upto [] h3 h' → exec (gg w mean mg mb) (d + 2) (dropS 3 m_l_digits_right) [.int n, .cell ce, .int c, .ref r, .unb, .unb] h' (retQ Q) noX := fun h' u' =>
    digits_rest hm hn hmb (((u0.trans u1).trans u13).trans u') (u'.at c3) D ((u13.trans u').at hr) hQ
  refine ⟨.int m, c3, by simp, fun ht => ?_, fun _ => ⟨(fun q => nomatch q), fun _ => rest _ .refl⟩⟩
  have ht : (m : Int) = 2 := ceq_t.mp ht
  have l2 : ∀ (h : HP) (Q : V → HP → Prop) (X : XC), (∀ h', Upto [] h h' → Q (.int ((ds.length : Int) - 1)) h') → Calls (gg w mean mg mb) (d + 2) 79 [.int n] [] h Q X := fun h Q X hq => by
    have : m = 2 := by omega
    subst this
    rcases Nat.eq_zero_or_pos n with z | z
    · subst z
      cases D with
      | last _ => exact call_log1 (log_small (by decide) (hq _ .refl))
      | more h _ => omega
    · obtain ⟨l, hl⟩ := log_ex hm z
      refine logB2 hl hn2 fun h' u' => ?_
      have := hq h' u'
      rw [D.logOf hl] at this
      rwa [show (((l + 1 : Nat) : Int) - 1) = l by omega] at this
  refine l2 h3 _ _ fun h4 u4 => ?_
  refine ⟨_, by rw [(u13.trans u4).at hr]; rfl, by simp; omega, trivial, ⟨fun q => absurd (cne_t.mp q) (by simp [intOp]), fun _ => rest _ u4⟩⟩
theorem pow_bds {r k n : Nat} (hk : k ≤ 60) (h : r ^ k ≤ n) (hn : n < 2 ^ 902) : (r + 1) ^ k < 2 ^ 1000 := by
  rcases Nat.eq_zero_or_pos r with z | z
  · subst z; simp
  · have h1 : (r + 1) ^ k ≤ (2 * r) ^ k := Nat.pow_le_pow_left (by omega) k
    rw [Nat.mul_pow] at h1
    have h2 : 2 ^ k ≤ 2 ^ 60 := Nat.pow_le_pow_right (by decide) hk
    have h3 : 2 ^ k * r ^ k < 2 ^ 60 * 2 ^ 902 := Nat.mul_lt_mul_of_le_of_lt h2 (by omega) (by decide)
    have h4 : (2 : Nat) ^ 60 * 2 ^ 902 ≤ 2 ^ 1000 := by rw [← Nat.pow_add]; exact Nat.pow_le_pow_right (by decide) (by decide)
    omega
theorem lt_big {n j : Nat} (h : n < 2 ^ j) (hj : j ≤ 12900) : n < 2 ^ 12900 := Nat.lt_of_lt_of_le h (Nat.pow_le_pow_right (by decide) hj)
theorem bd_big {n j : Nat} (h : n < 2 ^ j) (hj : j ≤ 60000000) : Bd 60000000 (n : Int) := Bd.mono (BdN h) hj
theorem roots_right {w mean mg mb} {d : Nat} {hp : HP} {n m k : Nat} (hm : 2 ≤ m) (hn : n < 2 ^ 902) (hk : 1 ≤ k) (hk2 : k ≤ 60) {Q : V → HP → Prop} {X : XC} (hQ : ∀ h', Upto [] hp h' → Q (.bool true) h') :
    Calls (gg w mean mg mb) (d + 5) 169 [.int n, .int m, .int k] [] hp Q X := by
  obtain ⟨r, R⟩ := Root.ex n hk
  have hn2 := lt_big hn (by decide)
  have hr : r ≤ n := Nat.le_trans (Nat.le_self_pow (by omega) r) R.lo
  have hr1 : r < 2 ^ 902 := by omega
  have b1 := pow_bds hk2 R.lo hn
  have br : Bd 60000000 (r : Int) := bd_big hr1 (by decide)
  have br1 : Bd 60000000 ((r + 1 : Nat) : Int) := bd_big (j := 903) (by rw [Nat.pow_succ]; omega) (by decide)
  have bp : Bd 60000000 ((r ^ k : Nat) : Int) := bd_big (Nat.lt_of_le_of_lt R.lo hn) (by decide)
  have bp1 : Bd 60000000 (((r + 1) ^ k : Nat) : Int) := bd_big b1 (by decide)
  refine call_l_roots_right (rootC hk (by omega) R hn2 fun h1 u1 => ?_)
  refine whole_exec ⟨(fun q => nomatch q), fun _ => ⟨fun q => absurd (clt_t.mp q) (by omega), fun _ => ?_⟩⟩
  refine powC (by omega) br bp ?_
  refine ⟨fun q => absurd (cgt_t.mp q) (by have := R.lo; omega), fun _ => ?_⟩
  refine ⟨trivial, ?_⟩
  show Calls (gg w mean mg mb) (d + 4) 143 [.int ((r : Int) + 1), .int k] [] h1 _ _
  rw [show (r : Int) + 1 = ((r + 1 : Nat) : Int) by omega]
  refine powC (by omega) br1 bp1 ?_
  refine ⟨fun q => absurd (cle_t.mp q) (by have := R.hi; omega), fun _ => ?_⟩
  refine rootT hk (by omega) R hn2 fun q h2 e2 u2 => ?_
  refine ⟨by simp [sizeLine_eq], fun q2 n2 => ?_⟩
  refine cmpT_ne (ns := [(r : Int), (r ^ k : Nat)]) (ms := [(r : Int), (r ^ k : Nat)]) (by rw [hset_ne (ne_of_none n2 e2)]; exact e2) hset_same rfl ⟨(fun q => nomatch q), fun _ => ?_⟩
  have u3 : ∀ o, Upto [] hp (hset h2 q2 o) := fun o => (u1.trans u2).trans (.new n2)
  have rest : ∀ h3, Upto [] hp h3 → exec (gg w mean mg mb) (d + 4) (dropS 5 m_l_roots_right) [.int n, .int m, .int k, .int r, .int (r ^ k : Nat)] h3 (retQ Q) (upX X) := fun h3 u3 => by
    obtain ⟨s, S⟩ := Root.ex r (show 1 ≤ 2 by decide)
    obtain ⟨t, T⟩ := Root.ex r (show 1 ≤ 3 by decide)
    have hr2 := lt_big hr1 (by decide)
    have bk : ∀ c : Int, Bd 2 c → IntMulOk c (k : Int) := fun c hc => hc.mulOk (j := 10) (BdN (by omega))
    refine rootC (by decide) (by decide) S hr2 fun h4 u4 => ?_
    refine ⟨bk 2 (by unfold Bd; decide), rootI (k := 2 * k) rfl (by show (2 : Int) * k = _; omega) (by omega) (by omega) (R.mul S) hn2 fun h5 u5 => ?_⟩
    refine ⟨fun q => absurd (cne_t.mp q) (by simp), fun _ => ?_⟩
    refine sqrtC S hr2 fun h6 u6 => ?_
    refine rootC (by decide) (by decide) S hr2 fun h7 u7 => ?_
    refine ⟨fun q => absurd (cne_t.mp q) (by simp), fun _ => ?_⟩
    refine rootC (by decide) (by decide) T hr2 fun h8 u8 => ?_
    refine ⟨bk 3 (by unfold Bd; decide), rootI (k := 3 * k) rfl (by show (3 : Int) * k = _; omega) (by omega) (by omega) (R.mul T) hn2 fun h9 u9 => ?_⟩
    show Q (.bool (cmpI (t : Int) t .eq)) _
    rw [ceq_t.mpr rfl]
    exact hQ _ ((((((u3.trans u4).trans u5).trans u6).trans u7).trans u8).trans u9)
  refine ⟨fun ht => ?_, fun _ => ⟨(fun q => nomatch q), fun _ => rest _ (u3 _)⟩⟩
  have hn1 : 1 ≤ n := by have := cgt_t.mp ht; omega
  obtain ⟨l, L⟩ := log_ex hm hn1
  obtain ⟨ds, D⟩ := digits_ex (m := (m : Int)) (by omega) n n (by simp)
  have hlen : ds.length ≤ 903 := D.len (by omega) 902 (by exact_mod_cast hn)
  refine logB (R.log hk L) (lt_big hr1 (by decide)) fun h4 u4 => ?_
  refine digitsC (by omega) D (by omega) fun r5 h5 n5 e5 u5 => ?_
  refine ⟨_, by rw [e5]; rfl, by simp; omega, trivial, show (k : Int) ≠ 0 by omega, ?_⟩
  have e : (((ds.map V.int).length : Int) - 1).fdiv (k : Int) = ((l / k : Nat) : Int) := by
    rw [List.length_map, D.logOf L, Int.fdiv_eq_ediv_of_nonneg _ (by omega), show (((l + 1 : Nat) : Int) - 1) = l by omega]; push_cast; rfl
  refine ⟨fun q => absurd (cne_t.mp q) (by rw [show intOp (intOp _ 1 .sub) (k : Int) .fdiv = _ from e]; simp), fun _ => rest _ (((u3 _).trans u4).trans u5)⟩
theorem fmodN (n k : Nat) : (n : Int).fmod k = ((n % k : Nat) : Int) := by rw [Int.fmod_eq_emod_of_nonneg _ (by omega)]; push_cast; rfl
theorem issqC {w mean mg mb} {d : Nat} {hp : HP} {n r : Nat} {n' : Int} (en : n' = n) (R : Root n 2 r) (hn : n < 2 ^ 12900) {Q : V → HP → Prop} {X : XC} (hQ : ∀ h', Upto [] hp h' → Q (.int ((if r * r = n then r else 0 : Nat) : Int)) h') :
    Calls (gg w mean mg mb) (d + 4) 62 [.ref 71, .int n'] [] hp Q X := by
  subst en
  have no : ∀ {t : List Int} {k : Nat}, (t[r * r % k]? = some 1) → t[n % k]? = some 0 → r * r ≠ n := fun h1 h2 e => by rw [e, h2] at h1; cases h1
  have no0 : r * r ≠ n → Q (.int 0) hp := fun e => by have := hQ _ .refl; rwa [if_neg e] at this
  have bit : ∀ {t : List Int} {k : Nat} {P : Int → Prop}, (∀ x ∈ t, x = 0 ∨ x = 1) → t.length = k → 0 < k → (∀ x, t[n % k]? = some x → (x = 0 → P x) ∧ (x = 1 → P x)) → ∃ x, t[n % k]? = some x ∧ P x := fun {t k P} ht hl hk hx => by
    obtain ⟨x, e⟩ := tbl_get hl (Nat.mod_lt n hk)
    rcases ht x (List.mem_of_getElem? e) with z | z
    · exact ⟨x, e, (hx x e).1 z⟩
    · exact ⟨x, e, (hx x e).2 z⟩
  have e64 : intOp (n : Int) 63 .band = ((n % 64 : Nat) : Int) := by show Builtin.bitAnd (n : Int) 63 = _; rw [bitAnd_m6]; push_cast; rfl
  have eM : intOp (n : Int) 45045 .mod = ((n % 45045 : Nat) : Int) := fmodN n 45045
  have m63 : n % 45045 % 63 = n % 63 := Nat.mod_mod_of_dvd _ ⟨715, rfl⟩
  have m65 : n % 45045 % 65 = n % 65 := Nat.mod_mod_of_dvd _ ⟨693, rfl⟩
  have m11 : n % 45045 % 11 = n % 11 := Nat.mod_mod_of_dvd _ ⟨4095, rfl⟩
  refine call_issquare ?_
  refine ⟨trivial, ?_⟩
  show exec (gg w mean mg mb) (d + 3) (dropS 1 m_issquare) [.ref 71, .int n, .int (intOp (n : Int) 63 .band), .unb] hp (retQ Q) (upX X)
  rw [e64]
  obtain ⟨b1, g1⟩ := tbl_get (t := q64) (k := 64) rfl (Nat.mod_lt n (by decide))
  refine ⟨q64, w.t_issquare_q64, by omega, by have := Nat.mod_lt n (show 0 < 64 by decide); omega, b1, by rw [Int.toNat_natCast]; exact g1, fun t => no0 (no (sq64 r) ?_), fun t1 => ?_⟩
  · have := tru_f.mp (not_t.mp t); rw [← this]; exact g1
  show exec (gg w mean mg mb) (d + 3) (dropS 2 m_issquare) [.ref 71, .int n, .int (n % 64 : Nat), .unb] hp (retQ Q) (upX X)
  refine ⟨(show (45045 : Int) ≠ 0 by decide), ?_⟩
  show exec (gg w mean mg mb) (d + 3) (dropS 3 m_issquare) [.ref 71, .int n, .int (n % 64 : Nat), .int (intOp (n : Int) 45045 .mod)] hp (retQ Q) (upX X)
  rw [eM]
  obtain ⟨b2, g2⟩ := tbl_get (t := q63) (k := 63) rfl (Nat.mod_lt n (by decide))
  have x63 : (((n % 45045 : Nat) : Int).fmod 63) = ((n % 63 : Nat) : Int) := by rw [← m63]; exact fmodN _ 63
  refine ⟨q63, w.t_issquare_q63, (show (63 : Int) ≠ 0 by decide), ?_⟩
  show 0 ≤ ((n % 45045 : Nat) : Int).fmod 63 ∧ ((n % 45045 : Nat) : Int).fmod 63 < 2 ^ 62 ∧ ∃ r, q63[(((n % 45045 : Nat) : Int).fmod 63).toNat]? = some r ∧ _
  rw [x63]
  refine ⟨by omega, by have := Nat.mod_lt n (show 0 < 63 by decide); omega, b2, by rw [Int.toNat_natCast]; exact g2, fun t => no0 (no (sq63 r) ?_), fun t1 => ?_⟩
  · have := tru_f.mp (not_t.mp t); rw [← this]; exact g2
  obtain ⟨b3, g3⟩ := tbl_get (t := q65) (k := 65) rfl (Nat.mod_lt n (by decide))
  have x65 : (((n % 45045 : Nat) : Int).fmod 65) = ((n % 65 : Nat) : Int) := by rw [← m65]; exact fmodN _ 65
  refine ⟨q65, w.t_issquare_q65, (show (65 : Int) ≠ 0 by decide), ?_⟩
  show 0 ≤ ((n % 45045 : Nat) : Int).fmod 65 ∧ ((n % 45045 : Nat) : Int).fmod 65 < 2 ^ 62 ∧ ∃ r, q65[(((n % 45045 : Nat) : Int).fmod 65).toNat]? = some r ∧ _
  rw [x65]
  refine ⟨by omega, by have := Nat.mod_lt n (show 0 < 65 by decide); omega, b3, by rw [Int.toNat_natCast]; exact g3, fun t => no0 (no (sq65 r) ?_), fun t1 => ?_⟩
  · have := tru_f.mp (not_t.mp t); rw [← this]; exact g3
  obtain ⟨b4, g4⟩ := tbl_get (t := q11) (k := 11) rfl (Nat.mod_lt n (by decide))
  have x11 : (((n % 45045 : Nat) : Int).fmod 11) = ((n % 11 : Nat) : Int) := by rw [← m11]; exact fmodN _ 11
  refine ⟨q11, w.t_issquare_q11, (show (11 : Int) ≠ 0 by decide), ?_⟩
  show 0 ≤ ((n % 45045 : Nat) : Int).fmod 11 ∧ ((n % 45045 : Nat) : Int).fmod 11 < 2 ^ 62 ∧ ∃ r, q11[(((n % 45045 : Nat) : Int).fmod 11).toNat]? = some r ∧ _
  rw [x11]
  refine ⟨by omega, by have := Nat.mod_lt n (show 0 < 11 by decide); omega, b4, by rw [Int.toNat_natCast]; exact g4, fun t => no0 (no (sq11 r) ?_), fun t1 => ?_⟩
  · have := tru_f.mp (not_t.mp t); rw [← this]; exact g4
  refine sqrtC R hn fun h1 u1 => ?_
  have hr : r < 2 ^ 12900 := Nat.lt_of_le_of_lt (Nat.le_trans (Nat.le_self_pow (by decide) r) R.lo) hn
  have er : ((r : Int) * r = n) ↔ r * r = n := ⟨fun e => by exact_mod_cast e, fun e => by exact_mod_cast e⟩
  refine ⟨(BdN hr).mulOk (BdN hr), fun t => ?_, fun t => ?_⟩
  · have t : (r : Int) * r = n := ceq_t.mp t
    have := hQ h1 u1
    rwa [if_pos (er.mp t)] at this
  · have t : (r : Int) * r ≠ n := ceq_f.mp t
    have := hQ h1 u1
    rwa [if_neg (fun e => t (er.mpr e))] at this
theorem squares_right {w mean mg mb} {d : Nat} {hp : HP} {n : Nat} (hn : n < 2 ^ 902) {Q : V → HP → Prop} {X : XC} (hQ : ∀ h', Upto [] hp h' → Q (.bool true) h') :
    Calls (gg w mean mg mb) (d + 5) 176 [.int n] [] hp Q X := by
  obtain ⟨r, R⟩ := Root.ex n (show 1 ≤ 2 by decide)
  have lo : r * r ≤ n := by rw [← Nat.pow_two]; exact R.lo
  have hi : n < (r + 1) * (r + 1) := by rw [← Nat.pow_two]; exact R.hi
  have hn2 := lt_big hn (by decide)
  have hr : r ≤ n := Nat.le_trans (Nat.le_self_pow (by decide) r) R.lo
  have br : Bd 902 (r : Int) := BdN (by omega)
  have bn : Bd 902 (n : Int) := BdN hn
  have br1 : Bd 903 ((r : Int) + 1) := br.add (y := 1) (by unfold Bd; decide)
  have S0 : Root (n * n) 2 n := ⟨by rw [Nat.pow_two]; exact Nat.le_refl _, by rw [Nat.pow_two]; exact Nat.mul_lt_mul'' (by omega) (by omega)⟩
  have S1 : Root (n * n + 2 * n) 2 n := ⟨by rw [Nat.pow_two]; omega, by rw [Nat.pow_two]; simp only [Nat.add_mul, Nat.mul_add]; omega⟩
  have hnn : n * n < 2 ^ 1804 := by rw [show (1804 : Nat) = 902 + 902 from rfl, Nat.pow_add]; exact Nat.mul_lt_mul'' hn hn
  have hnn2 : n * n + 2 * n < 2 ^ 1805 := by
    have : (2 : Nat) ^ 1805 = 2 ^ 1804 + 2 ^ 1804 := by rw [Nat.pow_succ 2 1804]; omega
    have h3 : 2 * n < 2 ^ 903 := by rw [Nat.pow_succ]; omega
    have h4 : (2 : Nat) ^ 903 ≤ 2 ^ 1804 := Nat.pow_le_pow_right (by decide) (by decide)
    omega
  have enn : (n : Int) * n = ((n * n : Nat) : Int) := by push_cast; rfl
  refine call_l_squares_right (sqrtC R hn2 fun h1 u1 => ?_)
  refine ⟨br.mulOk br, fun q => absurd (cgt_t.mp q) (by show ¬ (n : Int) < (r : Int) * r; rw [show (r : Int) * r = ((r * r : Nat) : Int) by push_cast; rfl]; omega), fun _ => ?_⟩
  refine ⟨trivial, trivial, br1.mulOk br1, fun q => absurd (cle_t.mp q) ?_, fun _ => ?_⟩
  · show ¬ ((r : Int) + 1) * ((r : Int) + 1) ≤ n
    rw [show ((r : Int) + 1) * ((r : Int) + 1) = (((r + 1) * (r + 1) : Nat) : Int) by push_cast; rfl]; omega
  refine rootC (by decide) (by decide) R hn2 fun h2 u2 => ?_
  refine ⟨fun q => absurd (cne_t.mp q) (by simp), fun _ => ?_⟩
  refine ⟨71, 62, w.i_issquare, w.c_issquare, issqC rfl R hn2 fun h3 u3 => ?_⟩
  have er : ((r : Int) * r = n) ↔ r * r = n := ⟨fun e => by exact_mod_cast e, fun e => by exact_mod_cast e⟩
  have mid : ∀ (Q' : Bool → HP → Prop) (X' : XT), (∀ h', Upto [] h3 h' → Q' false h') → evT (gg w mean mg mb) (d + 4) (.or (.cmp .ne (.calli "issquare" (.cons (.bin .mul (.var 0) (.var 0)) .nil)) (.var 0)) (.cmp .ne (.call 21 (.cons (.bin .mul (.var 0) (.var 0)) .nil)) (.var 0)))
      [.int n, .int r] h3 Q' X' := fun Q' X' hq => by
    refine ⟨71, 62, w.i_issquare, w.c_issquare, bn.mulOk bn, issqC enn S0 (lt_big hnn (by decide)) fun h4 u4 => ?_⟩
    rw [if_pos rfl]
    refine ⟨fun q => absurd (cne_t.mp q) (by simp), fun _ => ?_⟩
    refine ⟨bn.mulOk bn, sqrtI enn S0 (lt_big hnn (by decide)) fun h5 u5 => ?_⟩
    show Q' (cmpI (n : Int) n .ne) h5
    rw [cne_f.mpr rfl]
    exact hq _ (u4.trans u5)
  have rest : ∀ h5, Upto [] h3 h5 → exec (gg w mean mg mb) (d + 4) (dropS 3 m_l_squares_right) [.int n, .int r] h5 (retQ Q) (upX X) := fun h5 u5 => by
    have u15 := ((u1.trans u2).trans u3).trans u5
    have b2 : Bd 2 2 := by unfold Bd; decide
    refine ⟨bn.mulOk bn, b2.mulOk bn, trivial, sqrtI (n := n * n + 2 * n) (by show (n : Int) * n + 2 * n = _; push_cast; rfl) S1 (lt_big hnn2 (by decide)) fun h6 u6 => ?_⟩
    have t1 : cmpI (n : Int) n .eq = true := ceq_t.mpr rfl
    refine ⟨fun _ => ?_, fun q => absurd (t1.symm.trans q) (by simp)⟩
    rcases Nat.eq_zero_or_pos n with z | z
    · refine ⟨fun t => ?_, fun t => absurd (ceq_f.mp t) (by omega)⟩
      have t : cmpI (n : Int) 0 .eq = true := t
      show Q (.bool (cmpI (n : Int) 0 .eq)) _
      rw [t]; exact hQ _ (u15.trans u6)
    · refine ⟨fun t => absurd (ceq_t.mp t) (by omega), fun _ => ?_⟩
      have hp : 1 ≤ n * n := Nat.mul_pos z z
      have S2 := Root.pred (n := n) (k := 2) (by decide) z
      rw [Nat.pow_two] at S2
      refine ⟨bn.mulOk bn, trivial, sqrtI (n := n * n - 1) (by show (n : Int) * n - 1 = _; rw [enn]; omega) S2 (lt_big (j := 1804) (by omega) (by decide)) fun h7 u7 => ⟨trivial, ?_⟩⟩
      show Q (.bool (cmpI ((n - 1 : Nat) : Int) ((n : Int) - 1) .eq)) _
      rw [ceq_t.mpr (by omega)]
      exact hQ _ ((u15.trans u6).trans u7)
  rcases Decidable.em (r * r = n) with e | e
  · rw [if_pos e]
    refine ⟨br.mulOk br, fun _ => ?_, fun t => absurd (er.mpr e) (ceq_f.mp t)⟩
    exact ⟨fun q => absurd (cne_t.mp q) (by simp), fun _ => mid _ _ fun h5 u5 => ⟨(fun q => nomatch q), fun _ => rest h5 u5⟩⟩
  · rw [if_neg e]
    refine ⟨br.mulOk br, fun t => absurd (ceq_t.mp t) (fun q => e (er.mp q)), fun _ => ?_⟩
    exact ⟨fun q => absurd (cne_t.mp q) (by simp), fun _ => mid _ _ fun h5 u5 => ⟨(fun q => nomatch q), fun _ => rest h5 u5⟩⟩
theorem powers_right {w mean mg mb} {d : Nat} {hp : HP} {n m k p : Nat} (hm : 2 ≤ m) (hmb : m < 2 ^ 62) (hn : n < 2 ^ 902) (hk : k = 2 ∨ k = 3) (hp0 : (p : Int) = 2 ∨ (p : Int) = 3 ∨ (p : Int) = 5 ∨ (p : Int) = 7 ∨ (p : Int) = 11 ∨ (p : Int) = 13)
    {Q : V → HP → Prop} {X : XC} (hQ : ∀ h', Upto [] hp h' → Q (.bool true) h') : Calls (gg w mean mg mb) (d + 5) 183 [.int n, .int m, .int k, .int p] [] hp Q X := by
  have hk1 : 1 ≤ k := by omega
  have hk3 : k ≤ 3 := by omega
  have pk : n ^ k < 2 ^ 2706 := by
    rcases Nat.eq_zero_or_pos n with z | z
    · subst z; rw [Nat.zero_pow (by omega)]; exact Nat.pow_pos (by decide)
    · have h1 : n ^ k ≤ n ^ 3 := Nat.pow_le_pow_right z hk3
      have h2 : n ^ 3 < (2 ^ 902) ^ 3 := Nat.pow_lt_pow_left hn (by decide)
      rw [← Nat.pow_mul] at h2
      omega
  have hn2 := lt_big hn (by decide)
  have pk2 := lt_big pk (by decide)
  have bn : Bd 60000000 (n : Int) := bd_big hn (by decide)
  have bpk : Bd 60000000 ((n ^ k : Nat) : Int) := bd_big pk (by decide)
  have bm : Bd 60000000 (m : Int) := bd_big hmb (by decide)
  have bmk : Bd 60000000 ((m ^ k : Nat) : Int) := by
    have h1 : m ^ k ≤ m ^ 3 := Nat.pow_le_pow_right (by omega) hk3
    have h2 : m ^ 3 < (2 ^ 62) ^ 3 := Nat.pow_lt_pow_left hmb (by decide)
    rw [← Nat.pow_mul] at h2
    exact bd_big (j := 186) (by omega) (by decide)
  have bp : Bd 60000000 (p : Int) := bd_big (j := 4) (by omega) (by decide)
  refine call_l_powers_right (powC (by omega) bn bpk ?_)
  refine rootC hk1 (by omega) (Root.self hk1) pk2 fun h1 u1 => ?_
  refine ⟨fun q => absurd (cne_t.mp q) (by simp), fun _ => ?_⟩
  have rest : ∀ h2, Upto [] hp h2 → exec (gg w mean mg mb) (d + 4) (dropS 2 m_l_powers_right) [.int n, .int m, .int k, .int p, .int (n ^ k : Nat), .unb, .unb] h2 (retQ Q) (upX X) := fun h2 u2 => by
    refine ⟨fun _ => hQ _ u2, fun hf => ?_⟩
    have hn1 : 1 ≤ n := by have := ceq_f.mp hf; omega
    obtain ⟨l, L⟩ := log_ex hm hn1
    obtain ⟨z, C, M⟩ := mult_ex (p := (p : Int)) (by omega) n n (by simp) (by omega)
    have M2 := M.pow hk hp0
    refine powC (by omega) bm bmk ?_
    refine logB (L.pow hk1) pk2 fun h3 u3 => ?_
    refine logB L hn2 fun h4 u4 => ?_
    refine ⟨fun q => absurd (cne_t.mp q) (by simp), fun _ => ?_⟩
    refine call_vp2 (vp_exec M (by omega) bn bp fun q5 n5 => ?_)
    refine ⟨_, hset_same, rfl, ?_⟩
    have hC : 0 ≤ C := by
      have e := M.eq
      have h5 : 0 < (p : Int) ^ z := Int.pow_pos (by omega)
      rcases Int.lt_or_le C 0 with q | q
      · have := Int.mul_neg_of_neg_of_pos q h5; omega
      · exact q
    obtain ⟨C, rfl⟩ := Int.eq_ofNat_of_zero_le hC
    have hCn : C ≤ n := by
      have e : n = C * p ^ z := by have := M.eq; exact_mod_cast this
      rw [e]; exact Nat.le_mul_of_pos_right _ (Nat.pow_pos (by omega))
    have hz : z < 902 := by
      have e : n = C * p ^ z := by have := M.eq; exact_mod_cast this
      have hC1 : 1 ≤ C := by rcases Nat.eq_zero_or_pos C with q | q; (subst q; simp at e; omega); exact q
      have h6 : 2 ^ z ≤ p ^ z := Nat.pow_le_pow_left (by omega) z
      have h7 : p ^ z ≤ n := by rw [e]; exact Nat.le_mul_of_pos_left _ hC1
      exact (Nat.pow_lt_pow_iff_right (a := 2) (by decide)).mp (by omega)
    have e2 : ((n ^ k : Nat) : Int) = (n : Int) ^ k := by push_cast; rfl
    refine call_vp2 (vp_exec (e2 ▸ M2) (by have : 0 < n ^ k := Nat.pow_pos hn1; omega) bpk bp fun q6 n6 => ?_)
    refine ⟨(BdN (k := 2) (n := k) (by omega)).mulOk (BdN (k := 10) (n := z) (by omega)), ?_⟩
    have bC : Bd 60000000 (C : Int) := bd_big (Nat.lt_of_le_of_lt hCn hn) (by decide)
    have bCk : Bd 60000000 ((C ^ k : Nat) : Int) := bd_big (Nat.lt_of_le_of_lt (Nat.pow_le_pow_left hCn k) pk) (by decide)
    refine powC (by omega) bC bCk ?_
    refine ⟨by simp [sizeLine_eq], fun q7 n7 => ?_⟩
    refine cmpT_eq (ns := [((k * z : Nat) : Int) + 0, (C : Int) ^ k]) (ms := [(k : Int) * z, (C ^ k : Nat)]) (by rw [hset_ne (ne_of_none n7 hset_same)]; exact hset_same) hset_same (by push_cast; simp) ?_
    refine ⟨fun _ => ⟨show (p : Int) ≠ 0 by omega, ?_⟩, (fun q => nomatch q)⟩
    show Q (.bool (cmpI ((C : Int).fmod p) 0 .ne)) _
    rw [cne_t.mpr M.ne]
    exact hQ _ (((((u2.trans u3).trans u4).trans (.new n5)).trans (.new n6)).trans (.new n7))
  refine ⟨fun ht => ?_, fun _ => ⟨(fun q => nomatch q), fun _ => rest _ u1⟩⟩
  have hn1 : 1 ≤ n := by have := cgt_t.mp ht; omega
  have h0 : 0 < n ^ k := Nat.pow_pos hn1
  refine ⟨trivial, rootI (n := n ^ k - 1) (by show ((n ^ k : Nat) : Int) - 1 = _; omega) rfl hk1 (by omega) (Root.pred hk1 hn1) (lt_big (j := 2706) (by omega) (by decide)) fun h2 u2 => ⟨trivial, ?_⟩⟩
  exact ⟨fun q => absurd (cne_t.mp q) (by show ¬ ((n - 1 : Nat) : Int) ≠ (n : Int) - 1; omega), fun _ => rest _ (u1.trans u2)⟩
/-! what is drawn -/
theorem pick_exec {w mean mg mb} {d : Nat} {hp : HP} {p rr q : Addr} {ns : List Int} (P : Pool hp p rr) (e : hp q = some (.list (ns.map .int))) (nq : q ∉ [p, rr]) (hl : 0 < ns.length) (hl2 : ns.length < 100) {Q : V → HP → Prop} {X : XC}
    (hQ : ∀ z h', z ∈ ns → Pool h' p rr → Upto [p, rr] hp h' → Q (.int z) h') : Calls (gg w mean mg mb) (d + 2) 115 [.ref p, .ref q] [] hp Q X := by
  refine call_l_pick ⟨_, by rw [e]; rfl, by simp; omega, ?_⟩
  refine draws _ _ _ _ P (by simp; omega) _ _ fun v h1 v0 v1 P1 u1 => ?_
  have v1 : v < (ns.length : Int) := by simpa using v1
  have hv : ∃ z, ns[v.toNat]? = some z := ⟨ns[v.toNat]'(by omega), by simp⟩
  obtain ⟨z, hz⟩ := hv
  refine idxE (x := .int z) rfl rfl (by rw [u1.at e nq]; rfl) (by simp; omega) v0 (by rw [List.getElem?_map, hz]; rfl) ?_
  exact hQ z h1 (List.mem_of_getElem? hz) P1 u1
theorem base_exec {w mean mg mb} {d : Nat} {hp : HP} {p rr : Addr} (P : Pool hp p rr) {Q : V → HP → Prop} {X : XC}
    (hQ : ∀ (m : Nat) h', 2 ≤ m → m < 10 ^ 18 + 2 → Pool h' p rr → Upto [p, rr] hp h' → Q (.int m) h') : Calls (gg w mean mg mb) (d + 3) 122 [.ref p] [] hp Q X := by
  refine call_l_base ?_
  refine draws _ _ _ _ P (by decide) _ _ fun a h1 a0 a1 P1 u1 => ?_
  refine ⟨trivial, ⟨by decide, by decide⟩, ?_⟩
  refine draws _ _ _ _ P1 (by decide) _ _ fun b h2 b0 b1 P2 u2 => ?_
  refine ⟨trivial, by simp [sizeLine_eq], fun q nq => ?_⟩
  have nq' := nqP P2 nq
  refine pick_exec (ns := [2, 3, 10, 2 + a, 2 + b]) (P2.up (S := []) (.new nq)) hset_same nq' (by simp) (by simp) fun z h3 hz P3 u3 => ?_
  have a1 : a < 59 := a1
  have b1 : b < 1000000000000000000 := b1
  have hz2 : 2 ≤ z ∧ z < 1000000000000000002 := by
    simp only [List.mem_cons, List.not_mem_nil, or_false] at hz; omega
  obtain ⟨m, rfl⟩ := Int.eq_ofNat_of_zero_le (show 0 ≤ z by omega)
  exact hQ m h3 (by omega) (by omega) P3 (((u1.trans u2).trans (.new nq)).trans u3)
theorem number_exec {w mean mg mb} {d : Nat} {hp : HP} {p rr : Addr} {most : Nat} (P : Pool hp p rr) (hm : most ≤ 20) {Q : V → HP → Prop} {X : XC}
    (hQ : ∀ (N : Nat) h', N < 10 ^ 180 → Pool h' p rr → Upto [p, rr] hp h' → Q (.int N) h') : Calls (gg w mean mg mb) (d + 2) 129 [.ref p, .int most] [] hp Q X := by
  refine call_l_number ⟨trivial, ?_⟩
  refine draws _ _ _ _ P (by show (0 : Int) < (most : Int) + 1; omega) _ _ fun t h1 t0 t1 P1 u1 => ?_
  have t1 : t < (most : Int) + 1 := t1
  obtain ⟨t, rfl⟩ := Int.eq_ofNat_of_zero_le t0
  refine ⟨by decide, small_one (by decide) (by decide) (by omega) (by omega), ?_⟩
  refine forUp (l := [.ref p, .int most, .int 0, .unb]) t (by omega) (fun k l h => ∃ (N : Nat) (x : V), l = [.ref p, .int most, .int N, x] ∧ N < 10 ^ (9 * k) ∧ Pool h p rr ∧ Upto [p, rr] hp h) ⟨0, .unb, rfl, by decide, P1, u1⟩ ?_ ?_
  · rintro k l h hk ⟨N, x, rfl, hN, P2, u2⟩
    have hb : Bd 800 (N : Int) := BdN (Nat.lt_of_lt_of_le hN (by
      have h1 : 10 ^ (9 * k) ≤ 10 ^ (9 * 20) := Nat.pow_le_pow_right (by decide) (by omega)
      have h2 : (10 : Nat) ^ (9 * 20) ≤ 2 ^ 800 := by decide
      omega))
    refine ⟨⟨by decide, by decide⟩, hb.mulOk (j := 30) (show Bd 30 1000000000 by unfold Bd; decide), ⟨by decide, by decide⟩, ?_⟩
    refine draws _ _ _ _ P2 (by decide) _ _ fun v h3 v0 v1 P3 u3 => ?_
    obtain ⟨v, rfl⟩ := Int.eq_ofNat_of_zero_le v0
    refine ⟨trivial, N * 1000000000 + v, .int (0 + k), ?_, ?_, P3, u2.trans u3⟩
    · show [V.ref p, V.int most, V.int ((N : Int) * 1000000000 + v), V.int (0 + k)] = _
      rw [show ((N * 1000000000 + v : Nat) : Int) = (N : Int) * 1000000000 + v by omega]
    · have v1 : (v : Int) < 1000000000 := v1
      have e : 10 ^ (9 * (k + 1)) = 10 ^ (9 * k) * 1000000000 := by rw [Nat.mul_succ, Nat.pow_add]
      rw [e]
      have : (N + 1) * 1000000000 ≤ 10 ^ (9 * k) * 1000000000 := Nat.mul_le_mul_right _ hN
      omega
  · rintro l h ⟨N, x, rfl, hN, P2, u2⟩
    exact hQ N h (Nat.lt_of_lt_of_le hN (Nat.pow_le_pow_right (by decide) (by omega))) P2 u2
noncomputable def lbody : MS := match m_law with | .seq _ (.seq _ (.seq _ (.seq _ (.seq (.forL _ _ b) _)))) => b | _ => .skip
theorem body_exec {w mean mg mb} {d : Nat} {h : HP} {s p rr : Addr} {n m : Nat} {x3 x4 x6 : V} (hm : 2 ≤ m) (hmb : m < 2 ^ 62) (hn : n < 2 ^ 902) (P : Pool h p rr) {Q : Out → List V → HP → Prop} {X : XT}
    (hQ : ∀ x6 h', Pool h' p rr → Upto [p, rr] h h' → Q .next [.ref s, .ref p, .int m, x3, x4, .int n, x6] h') :
    exec (gg w mean mg mb) (d + 5) lbody [.ref s, .ref p, .int m, x3, x4, .int n, x6] h Q X := by
  refine draws _ _ _ _ P (by decide) _ _ fun c h1 c0 c1 P1 u1 => ?_
  refine digits_right hm hn hmb fun h2 u2 => ⟨(fun q => nomatch q), fun _ => ?_⟩
  have P2 := P1.up u2
  refine squares_right hn fun h3 u3 => ⟨(fun q => nomatch q), fun _ => ?_⟩
  have P3 := P2.up u3
  refine draws _ _ _ _ P3 (by decide) _ _ fun t h4 t0 t1 P4 u4 => ?_
  have t1 : t < 60 := t1
  refine ⟨trivial, by simp [sizeLine_eq], fun q nq => ?_⟩
  refine pick_exec (ns := [1, 2, 3, 4, 5, 7, 1 + t]) (P4.up (S := []) (.new nq)) hset_same (nqP P4 nq) (by simp) (by simp) fun k h5 hk P5 u5 => ?_
  have hk2 : 1 ≤ k ∧ k ≤ 60 := by
    simp only [List.mem_cons, List.not_mem_nil, or_false] at hk; omega
  obtain ⟨k, rfl⟩ := Int.eq_ofNat_of_zero_le (show 0 ≤ k by omega)
  refine roots_right hm hn (by omega) (by omega) fun h6 u6 => ⟨(fun q => nomatch q), fun _ => ?_⟩
  have P6 := P5.up u6
  refine draws _ _ _ _ P6 (by decide) _ _ fun a h7 a0 a1 P7 u7 => ?_
  have a1 : a < 2 := a1
  refine ⟨trivial, by simp [sizeLine_eq], fun q2 nq2 => ?_⟩
  refine pick_exec (ns := [2, 3, 5, 7, 11, 13]) (P7.up (S := []) (.new nq2)) hset_same (nqP P7 nq2) (by simp) (by simp) fun b h8 hb P8 u8 => ?_
  simp only [List.mem_cons, List.not_mem_nil, or_false] at hb
  obtain ⟨b, rfl⟩ := Int.eq_ofNat_of_zero_le (show 0 ≤ b by omega)
  obtain ⟨a, rfl⟩ := Int.eq_ofNat_of_zero_le a0
  show Calls (gg w mean mg mb) (d + 5) 183 [.int n, .int m, .int (2 + (a : Int)), .int b] [] h8 _ _
  rw [show (2 + (a : Int)) = ((2 + a : Nat) : Int) by omega]
  refine powers_right hm hmb hn (by omega) hb fun h9 u9 => ⟨(fun q => nomatch q), fun _ => ?_⟩
  have v0 : Upto [p, rr] h h5 := (((((u1.trans (u2.mono (by simp))).trans (u3.mono (by simp))).trans u4).trans (.new nq)).trans u5)
  exact hQ _ h9 (P8.up u9) (((((v0.trans (u6.mono (by simp))).trans u7).trans (.new nq2)).trans u8).trans (u9.mono (by simp)))
theorem number_bd {N m e : Nat} (hN : N < 10 ^ 180) (hm : m < 10 ^ 18 + 2) (he : e < 6) : N * m ^ e < 2 ^ 902 := by
  have h1 : m ^ e ≤ (10 ^ 18 + 2) ^ e := Nat.pow_le_pow_left (by omega) e
  have h2 : (10 ^ 18 + 2) ^ e ≤ (10 ^ 18 + 2) ^ 5 := Nat.pow_le_pow_right (by decide) (by omega)
  have h3 : N * m ^ e ≤ 10 ^ 180 * (10 ^ 18 + 2) ^ 5 := Nat.mul_le_mul (by omega) (by omega)
  exact Nat.lt_of_le_of_lt h3 (by decide)
theorem law_exec {w mean mg mb} {d : Nat} {ns : List Int} (hl : ns.length ≤ 63) (s : Addr) :
    exec (gg w mean mg mb) (d + 5) m_law [.ref s, .unb, .unb, .unb, .unb, .unb, .unb] (fun c => if c = s then some (.ro (ns.map .int)) else none) (fun o _ _ => o = .ret (.bool true)) noX := by
  refine call_l_pool (pool_exec (ns := ns) (by simp) hl fun p rr h1 P1 u1 => ?_)
  refine base_exec P1 fun m h2 hm hmb P2 u2 => ?_
  have hm62 : m < 2 ^ 62 := by omega
  have bm : Bd 62 (m : Int) := BdN hm62
  obtain ⟨x, y, ns', q0, -⟩ := id P2
  have go : ∀ most : Nat, most ≤ 20 → Calls (gg w mean mg mb) (d + 5) 129 [.ref p, .int most] [] h2 (fun v h => ev (gg w mean mg mb) (d + 5) (.call 143 (.cons (.var 2) (.cons (.call 108 (.cons (.var 1) (.cons (.int 6) .nil))) .nil))) [.ref s, .ref p, .int m, .unb, .unb, .unb, .unb] h (fun w' h3 => binV .mul v w' h3 fun r h4 =>
      exec (gg w mean mg mb) (d + 5) (dropS 3 m_law) [.ref s, .ref p, .int m, r, .unb, .unb, .unb] h4 (fun o _ _ => o = .ret (.bool true)) noX) noX) (dnX noX) := fun most hmost => by
    refine number_exec (d := d + 3) P2 hmost fun N h3 hN P3 u3 => ?_
    refine draws _ _ _ _ P3 (by decide) _ _ fun e h4 e0 e1 P4 u4 => ?_
    obtain ⟨e, rfl⟩ := Int.eq_ofNat_of_zero_le e0
    have e1 : (e : Int) < 6 := e1
    have hme : m ^ e < 2 ^ 372 := by
      have h1 : m ^ e ≤ (2 ^ 62) ^ e := Nat.pow_le_pow_left (by omega) e
      rw [← Nat.pow_mul] at h1
      have h2 : (2 : Nat) ^ (62 * e) ≤ 2 ^ 371 := Nat.pow_le_pow_right (by decide) (by omega)
      have h3 : (2 : Nat) ^ 371 < 2 ^ 372 := Nat.pow_lt_pow_right (by decide) (by decide)
      omega
    have hN2 : N < 2 ^ 600 := Nat.lt_trans hN (by decide)
    refine powC (by omega) (bm.mono (by decide)) (bd_big hme (by decide)) ?_
    refine ⟨(BdN hN2).mulOk (BdN hme), ?_⟩
    show exec (gg w mean mg mb) (d + 5) (dropS 3 m_law) [.ref s, .ref p, .int m, .int ((N : Int) * (m ^ e : Nat)), .unb, .unb, .unb] h4 _ noX
    have hdr := number_bd hN hmb (show e < 6 by omega)
    rw [show (N : Int) * ((m ^ e : Nat) : Int) = ((N * m ^ e : Nat) : Int) by push_cast; rfl]
    generalize N * m ^ e = D at hdr
    have hcube : m * m * m < 2 ^ 186 := by
      have h1 : m * m < 2 ^ 62 * 2 ^ 62 := Nat.mul_lt_mul'' hm62 hm62
      have h2 : m * m * m < 2 ^ 62 * 2 ^ 62 * 2 ^ 62 := Nat.mul_lt_mul'' h1 hm62
      rw [← Nat.pow_add, ← Nat.pow_add] at h2; exact h2
    have hc1 : 1 ≤ m * m * m := Nat.mul_pos (Nat.mul_pos (by omega) (by omega)) (by omega)
    refine ⟨bm.mulOk bm, (bm.mul bm).mulOk bm, ?_⟩
    show exec (gg w mean mg mb) (d + 5) (dropS 4 m_law) [.ref s, .ref p, .int m, .int D, .int ((m : Int) * m * m), .unb, .unb] h4 _ noX
    rw [show (m : Int) * m * m = ((m * m * m : Nat) : Int) by push_cast; rfl]
    generalize m * m * m = C at hcube hc1
    refine ⟨trivial, by simp [sizeLine_eq], fun q nq => ?_⟩
    have P5 := P4.up (S := []) (.new nq (o := .list ([(D : Int), C, C - 1, 0, 1].map .int)))
    have nq' := nqP P4 nq
    refine forLI (ns := [(D : Int), C, C - 1, 0, 1]) hset_same (by simp) (fun l h => ∃ x5 x6, l = [.ref s, .ref p, .int m, .int D, .int C, x5, x6] ∧ Pool h p rr) ⟨.unb, .unb, rfl, P5⟩ ?_ (fun l h hI => by obtain ⟨x5, x6, rfl, -⟩ := hI; exact rfl)
    rintro z l h hz ⟨x5, x6, rfl, P6⟩ eq
    have hz2 : ∃ n : Nat, z = n ∧ n < 2 ^ 902 := by
      have h9 : (2 : Nat) ^ 186 ≤ 2 ^ 902 := Nat.pow_le_pow_right (by decide) (by decide)
      simp only [List.mem_cons, List.not_mem_nil, or_false] at hz
      rcases hz with rfl | rfl | rfl | rfl | rfl
      · exact ⟨D, rfl, hdr⟩
      · exact ⟨C, rfl, by omega⟩
      · exact ⟨C - 1, by omega, by omega⟩
      · exact ⟨0, rfl, Nat.pow_pos (by decide)⟩
      · exact ⟨1, rfl, by omega⟩
    obtain ⟨n, rfl, hn⟩ := hz2
    exact body_exec hm hm62 hn P6 fun x6 h9 P9 u9 => ⟨⟨_, _, rfl, P9⟩, u9.at eq nq'⟩
  refine idx3 (k := 0) q0 rfl ⟨fun _ => go 20 (by decide), fun _ => go 3 (by decide)⟩
end Mine
namespace Mine
noncomputable abbrev top.tw10090393231696489298 : Unit := ()
noncomputable abbrev top.tw10404823597219466188 : Unit := ()
noncomputable abbrev top.tw1047907039808853306 : Unit := ()
noncomputable abbrev top.tw105208000716104510 : Unit := ()
noncomputable abbrev top.tw10567129059001840431 : Unit := ()
noncomputable abbrev top.tw10648311167861321448 : Unit := ()
noncomputable abbrev top.tw10773188271377071773 : Unit := ()
noncomputable abbrev top.tw10996937224433265937 : Unit := ()
noncomputable abbrev top.tw11133666699803404755 : Unit := ()
noncomputable abbrev top.tw11247735229740821898 : Unit := ()
noncomputable abbrev top.tw11279390925490393535 : Unit := ()
noncomputable abbrev top.tw11334415319851112604 : Unit := ()
noncomputable abbrev top.tw1139600151236580504 : Unit := ()
noncomputable abbrev top.tw11430207588045935325 : Unit := ()
noncomputable abbrev top.tw11459358961799972967 : Unit := ()
noncomputable abbrev top.tw1149218181149386328 : Unit := ()
noncomputable abbrev top.tw11546936639936008217 : Unit := ()
noncomputable abbrev top.tw11613256710310857696 : Unit := ()
noncomputable abbrev top.tw11754848910469683712 : Unit := ()
noncomputable abbrev top.tw11858546649754279707 : Unit := ()
noncomputable abbrev top.tw1195175773429642966 : Unit := ()
noncomputable abbrev top.tw12012865196380796599 : Unit := ()
noncomputable abbrev top.tw12342655685612074800 : Unit := ()
noncomputable abbrev top.tw12385144161495827662 : Unit := ()
noncomputable abbrev top.tw1245559373397905713 : Unit := ()
noncomputable abbrev top.tw12540527436937284434 : Unit := ()
noncomputable abbrev top.tw12622177474791663080 : Unit := ()
noncomputable abbrev top.tw1275901062530889299 : Unit := ()
noncomputable abbrev top.tw1284575025550258836 : Unit := ()
noncomputable abbrev top.tw13091174067606910046 : Unit := ()
noncomputable abbrev top.tw13120753694373217308 : Unit := ()
noncomputable abbrev top.tw13160728816969591200 : Unit := ()
noncomputable abbrev top.tw13272337422414781067 : Unit := ()
noncomputable abbrev top.tw13303987763403120937 : Unit := ()
noncomputable abbrev top.tw13359135706311490777 : Unit := ()
noncomputable abbrev top.tw13369591340354186047 : Unit := ()
noncomputable abbrev top.tw13786189508201869602 : Unit := ()
noncomputable abbrev top.tw13928562000808390012 : Unit := ()
noncomputable abbrev top.tw14372152842798730730 : Unit := ()
noncomputable abbrev top.tw14402358008270493973 : Unit := ()
noncomputable abbrev top.tw14502225709538309166 : Unit := ()
noncomputable abbrev top.tw14608685727046917156 : Unit := ()
noncomputable abbrev top.tw14611434983143301774 : Unit := ()
noncomputable abbrev top.tw14796646475526232899 : Unit := ()
noncomputable abbrev top.tw14823308797102314842 : Unit := ()
noncomputable abbrev top.tw14826035006057030972 : Unit := ()
noncomputable abbrev top.tw14851680436948445374 : Unit := ()
noncomputable abbrev top.tw14901070454687303710 : Unit := ()
noncomputable abbrev top.tw14917401599646851644 : Unit := ()
noncomputable abbrev top.tw1492452104121835379 : Unit := ()
noncomputable abbrev top.tw14987219478266130788 : Unit := ()
noncomputable abbrev top.tw15169761463676818070 : Unit := ()
noncomputable abbrev top.tw15177526630643400193 : Unit := ()
noncomputable abbrev top.tw15240379268576122478 : Unit := ()
noncomputable abbrev top.tw15299407806266782574 : Unit := ()
noncomputable abbrev top.tw15362295582089109014 : Unit := ()
noncomputable abbrev top.tw15646934709686841381 : Unit := ()
noncomputable abbrev top.tw15860264024139754761 : Unit := ()
noncomputable abbrev top.tw15878805988109762761 : Unit := ()
noncomputable abbrev top.tw15976228082101565994 : Unit := ()
noncomputable abbrev top.tw16123964013534891561 : Unit := ()
noncomputable abbrev top.tw16155163154822807229 : Unit := ()
noncomputable abbrev top.tw16174758807025615021 : Unit := ()
noncomputable abbrev top.tw16196420915677631385 : Unit := ()
noncomputable abbrev top.tw16204670001084760307 : Unit := ()
noncomputable abbrev top.tw16273406610938067001 : Unit := ()
noncomputable abbrev top.tw16352630495959832749 : Unit := ()
noncomputable abbrev top.tw16420938139371093754 : Unit := ()
noncomputable abbrev top.tw16439428074185983240 : Unit := ()
noncomputable abbrev top.tw16541100652227675460 : Unit := ()
noncomputable abbrev top.tw16598799759364053327 : Unit := ()
noncomputable abbrev top.tw16759092144687519636 : Unit := ()
noncomputable abbrev top.tw16782997733028217545 : Unit := ()
noncomputable abbrev top.tw16885616592811714743 : Unit := ()
noncomputable abbrev top.tw16900427199656544559 : Unit := ()
noncomputable abbrev top.tw1732150942055357024 : Unit := ()
noncomputable abbrev top.tw17470836177267949868 : Unit := ()
noncomputable abbrev top.tw17486766287000646611 : Unit := ()
noncomputable abbrev top.tw17492772389151264855 : Unit := ()
noncomputable abbrev top.tw17555251805378815213 : Unit := ()
noncomputable abbrev top.tw17810072253543177317 : Unit := ()
noncomputable abbrev top.tw17881351837780720246 : Unit := ()
noncomputable abbrev top.tw18008055252877512497 : Unit := ()
noncomputable abbrev top.tw18064794426631996164 : Unit := ()
noncomputable abbrev top.tw18086089286151905521 : Unit := ()
noncomputable abbrev top.tw1814787853859245837 : Unit := ()
noncomputable abbrev top.tw18186074749648716422 : Unit := ()
noncomputable abbrev top.tw1869187583165140508 : Unit := ()
noncomputable abbrev top.tw1886144042066472794 : Unit := ()
noncomputable abbrev top.tw2057334267981633021 : Unit := ()
noncomputable abbrev top.tw2249405535684624136 : Unit := ()
noncomputable abbrev top.tw23087011456773342 : Unit := ()
noncomputable abbrev top.tw2462062305354472974 : Unit := ()
noncomputable abbrev top.tw2464713573024523455 : Unit := ()
noncomputable abbrev top.tw2514443458684651071 : Unit := ()
noncomputable abbrev top.tw2731995056826638727 : Unit := ()
noncomputable abbrev top.tw2732273902793177162 : Unit := ()
noncomputable abbrev top.tw2741389259953327712 : Unit := ()
noncomputable abbrev top.tw2782073688633401757 : Unit := ()
noncomputable abbrev top.tw2812155379371279736 : Unit := ()
noncomputable abbrev top.tw2822501910515967889 : Unit := ()
noncomputable abbrev top.tw2924597203103170677 : Unit := ()
noncomputable abbrev top.tw2985252069258134486 : Unit := ()
noncomputable abbrev top.tw342308947776675178 : Unit := ()
noncomputable abbrev top.tw352232786441526191 : Unit := ()
noncomputable abbrev top.tw3730354652608582461 : Unit := ()
noncomputable abbrev top.tw3776753064480771068 : Unit := ()
noncomputable abbrev top.tw3969286963782609292 : Unit := ()
noncomputable abbrev top.tw4213018616267185653 : Unit := ()
noncomputable abbrev top.tw427269002284569659 : Unit := ()
noncomputable abbrev top.tw4498253355057717688 : Unit := ()
noncomputable abbrev top.tw453181688931711583 : Unit := ()
noncomputable abbrev top.tw4551080515912023512 : Unit := ()
noncomputable abbrev top.tw4571971715460732019 : Unit := ()
noncomputable abbrev top.tw4655869559712951663 : Unit := ()
noncomputable abbrev top.tw4656485037274611717 : Unit := ()
noncomputable abbrev top.tw4671429814451907529 : Unit := ()
noncomputable abbrev top.tw5058314954733539658 : Unit := ()
noncomputable abbrev top.tw5088376156974544275 : Unit := ()
noncomputable abbrev top.tw5118827330378232414 : Unit := ()
noncomputable abbrev top.tw5155950481276406077 : Unit := ()
noncomputable abbrev top.tw517144808224063464 : Unit := ()
noncomputable abbrev top.tw5225153198818245361 : Unit := ()
noncomputable abbrev top.tw5303079699428457377 : Unit := ()
noncomputable abbrev top.tw5369755611852500808 : Unit := ()
noncomputable abbrev top.tw5476889619067714990 : Unit := ()
noncomputable abbrev top.tw5523086135645875356 : Unit := ()
noncomputable abbrev top.tw5597187220613765494 : Unit := ()
noncomputable abbrev top.tw5667650583090716360 : Unit := ()
noncomputable abbrev top.tw575894324575664597 : Unit := ()
noncomputable abbrev top.tw5766051744304087583 : Unit := ()
noncomputable abbrev top.tw6187478851450931391 : Unit := ()
noncomputable abbrev top.tw6286779285267259847 : Unit := ()
noncomputable abbrev top.tw6370870915552960936 : Unit := ()
noncomputable abbrev top.tw6431110157172167083 : Unit := ()
noncomputable abbrev top.tw6491118196486620199 : Unit := ()
noncomputable abbrev top.tw6520327441239513222 : Unit := ()
noncomputable abbrev top.tw6749217079512962374 : Unit := ()
noncomputable abbrev top.tw6756868429301003459 : Unit := ()
noncomputable abbrev top.tw6812286434817487243 : Unit := ()
noncomputable abbrev top.tw6883741973766446791 : Unit := ()
noncomputable abbrev top.tw6898770573198911631 : Unit := ()
noncomputable abbrev top.tw6906291655842520137 : Unit := ()
noncomputable abbrev top.tw7046679081361425455 : Unit := ()
noncomputable abbrev top.tw705360758644809490 : Unit := ()
noncomputable abbrev top.tw72247145696351765 : Unit := ()
noncomputable abbrev top.tw7527032243904285869 : Unit := ()
noncomputable abbrev top.tw775762912060472103 : Unit := ()
noncomputable abbrev top.tw7847650389618582240 : Unit := ()
noncomputable abbrev top.tw788273225186049534 : Unit := ()
noncomputable abbrev top.tw7990429038631628895 : Unit := ()
noncomputable abbrev top.tw814325599930780420 : Unit := ()
noncomputable abbrev top.tw8143265674769528471 : Unit := ()
noncomputable abbrev top.tw8345894832289464959 : Unit := ()
noncomputable abbrev top.tw8363718466572441477 : Unit := ()
noncomputable abbrev top.tw8443935842833279946 : Unit := ()
noncomputable abbrev top.tw8507776931139520737 : Unit := ()
noncomputable abbrev top.tw8538268897159353584 : Unit := ()
noncomputable abbrev top.tw8640399195822439974 : Unit := ()
noncomputable abbrev top.tw8645369167282567922 : Unit := ()
noncomputable abbrev top.tw864819663365544661 : Unit := ()
noncomputable abbrev top.tw8735323631387419056 : Unit := ()
noncomputable abbrev top.tw880935087679569431 : Unit := ()
noncomputable abbrev top.tw8810280945414196856 : Unit := ()
noncomputable abbrev top.tw8813761850579938390 : Unit := ()
noncomputable abbrev top.tw9059672392935016618 : Unit := ()
noncomputable abbrev top.tw9063741608606530840 : Unit := ()
noncomputable abbrev top.tw908825868028484722 : Unit := ()
noncomputable abbrev top.tw9229161468869434483 : Unit := ()
noncomputable abbrev top.tw9245062598194641482 : Unit := ()
noncomputable abbrev top.tw9305691244287143441 : Unit := ()
noncomputable abbrev top.tw9378254376102152143 : Unit := ()
noncomputable abbrev top.tw9601329371697537090 : Unit := ()
noncomputable abbrev top.tw9631074621892390191 : Unit := ()
noncomputable abbrev top.tw9800703332001039478 : Unit := ()
set_option Elab.async true in
set_option maxHeartbeats 8000000 in
theorem top : PySem.Challenge.rw_xv0001_02.Holds := by
  w_on; o_law; k_head
  case hw => w_witness2
  k_go0
  refine law_end' (x := Str.ofString "script") (gt := gt) (bt := bt) (f := 190) (ms := m_law) (fok (tr := false) ?g1 ?g2 ?g3) (sb_of (n := 60) ?hb) (T := ‹_›) (KX := ‹_›) (K0 := ‹_›) (hF := ‹_›) (hl := ‹_›) (hi := ‹_›) ?h1 ?h2 ?h3 ?h4 ?h5 ?h6 ?h7 ?h8 (k := 6) ?hn ?h9 ?h10
  case g1 => kernel_rfl!
  case g2 => kernel_rfl!
  case g3 => kernel_rfl!
  case hb => kernel_rfl!
  case h1 => kernel_rfl!
  case h2 => rfl
  case h3 => rfl
  case h4 => rfl
  case h5 => kernel_rfl!
  case h6 => kernel_rfl!
  case h7 => rfl
  case h8 => kernel_rfl!
  case hn => kernel_rfl!
  case h9 =>
    intro b
    refine law_exec (w := ⟨⟨_, _, _, _, _, gt, bt⟩, ?a0, ?a1, ?a2, ?a3, ?a4, ?a5, ?a6, ?a7, ?a8, ?a9, ?a10, ?a11, ?a12, ?a13, ?a14, ?a15, ?a16, ?a17, ?a18, ?a19, ?a20, ?a21, ?a22, ?a23, ?a24, ?a25, ?a26, ?a27, ?a28, ?a29, ?a30, ?a31, ?a32, ?a33, ?a34, ?a35, ?a36, ?a37, ?a38, ?a39, ?a40, ?a41, ?a42, ?a43, ?a44, ?a45, ?a46, ?a47, ?a48, ?a49, ?a50, ?a51, ?a52, ?a53, ?a54, ?a55, ?a56, ?a57, ?a58, ?a59, ?a60, ?a61⟩) (by omega) b
    case a0 => kernel_rfl!
    case a1 => kernel_rfl!
    case a2 => exact ⟨by kernel_rfl!, fun _ _ _ => by kernel_rfl!, by kernel_rfl!, by kernel_rfl!, by kernel_rfl!⟩
    case a3 => intro v0; show bindArgs _ _ = pure _; kernel_rfl!
    case a4 => exact ⟨by kernel_rfl!, fun _ _ _ => by kernel_rfl!, by kernel_rfl!, by kernel_rfl!, by kernel_rfl!⟩
    case a5 => kernel_rfl!
    case a6 => intro v0 v1; show afterLoad _ _ _ = some _; kernel_rfl!
    case a7 => intro v0 v1 v2; show afterLoad _ _ _ = some _; kernel_rfl!
    case a8 => intro v0 v1; intro vk; show afterLoad _ _ _ = some _; kernel_rfl!
    case a9 => exact ⟨by kernel_rfl!, fun _ _ _ => by kernel_rfl!, by kernel_rfl!, by kernel_rfl!, by kernel_rfl!⟩
    case a10 => intro v0 v1; show bindArgs _ _ = pure _; kernel_rfl!
    case a11 => exact ⟨by kernel_rfl!, fun _ _ _ => by kernel_rfl!, by kernel_rfl!, by kernel_rfl!, by kernel_rfl!⟩
    case a12 => kernel_rfl!
    case a13 => intro v0 v1; show afterLoad _ _ _ = some _; kernel_rfl!
    case a14 => intro v0 v1 v2; show afterLoad _ _ _ = some _; kernel_rfl!
    case a15 => intro v0 v1; intro vk; show afterLoad _ _ _ = some _; kernel_rfl!
    case a16 => exact ⟨by kernel_rfl!, fun _ _ _ => by kernel_rfl!, by kernel_rfl!, by kernel_rfl!, by kernel_rfl!⟩
    case a17 => kernel_rfl!
    case a18 => intro v0; show afterLoad _ _ _ = some _; kernel_rfl!
    case a19 => intro v0 v1; show afterLoad _ _ _ = some _; kernel_rfl!
    case a20 => intro v0; intro vk; show afterLoad _ _ _ = some _; kernel_rfl!
    case a21 => exact ⟨by kernel_rfl!, fun _ _ _ => by kernel_rfl!, by kernel_rfl!, by kernel_rfl!, by kernel_rfl!⟩
    case a22 => intro v0; show bindArgs _ _ = pure _; kernel_rfl!
    case a23 => exact ⟨by kernel_rfl!, fun _ _ _ => by kernel_rfl!, by kernel_rfl!, by kernel_rfl!, by kernel_rfl!⟩
    case a24 => kernel_rfl!
    case a25 => intro v0; show afterLoad _ _ _ = some _; kernel_rfl!
    case a26 => intro v0 v1; show afterLoad _ _ _ = some _; kernel_rfl!
    case a27 => intro v0; intro vk; show afterLoad _ _ _ = some _; kernel_rfl!
    case a28 => exact ⟨by kernel_rfl!, fun _ _ _ => by kernel_rfl!, by kernel_rfl!, by kernel_rfl!, by kernel_rfl!⟩
    case a29 => intro v0; show bindArgs _ _ = pure _; kernel_rfl!
    case a30 => exact ⟨by kernel_rfl!, fun _ _ _ => by kernel_rfl!, by kernel_rfl!, by kernel_rfl!, by kernel_rfl!⟩
    case a31 => intro v0 v1; show bindArgs _ _ = pure _; kernel_rfl!
    case a32 => exact ⟨by kernel_rfl!, fun _ _ _ => by kernel_rfl!, by kernel_rfl!, by kernel_rfl!, by kernel_rfl!⟩
    case a33 => intro v0 v1; show bindArgs _ _ = pure _; kernel_rfl!
    case a34 => exact ⟨by kernel_rfl!, fun _ _ _ => by kernel_rfl!, by kernel_rfl!, by kernel_rfl!, by kernel_rfl!⟩
    case a35 => intro v0; show bindArgs _ _ = pure _; kernel_rfl!
    case a36 => exact ⟨by kernel_rfl!, fun _ _ _ => by kernel_rfl!, by kernel_rfl!, by kernel_rfl!, by kernel_rfl!⟩
    case a37 => intro v0 v1; show bindArgs _ _ = pure _; kernel_rfl!
    case a38 => exact ⟨by kernel_rfl!, fun _ _ _ => by kernel_rfl!, by kernel_rfl!, by kernel_rfl!, by kernel_rfl!⟩
    case a39 => intro v0 v1; show bindArgs _ _ = pure _; kernel_rfl!
    case a40 => exact ⟨by kernel_rfl!, fun _ _ _ => by kernel_rfl!, by kernel_rfl!, by kernel_rfl!, by kernel_rfl!⟩
    case a41 => intro v0 v1; show bindArgs _ _ = pure _; kernel_rfl!
    case a42 => exact ⟨by kernel_rfl!, fun _ _ _ => by kernel_rfl!, by kernel_rfl!, by kernel_rfl!, by kernel_rfl!⟩
    case a43 => intro v0; show bindArgs _ _ = pure _; kernel_rfl!
    case a44 => exact ⟨by kernel_rfl!, fun _ _ _ => by kernel_rfl!, by kernel_rfl!, by kernel_rfl!, by kernel_rfl!⟩
    case a45 => intro v0; show bindArgs _ _ = pure _; kernel_rfl!
    case a46 => exact ⟨by kernel_rfl!, fun _ _ _ => by kernel_rfl!, by kernel_rfl!, by kernel_rfl!, by kernel_rfl!, by kernel_rfl!⟩
    case a47 => intro v0 v1 v2; show bindArgs _ _ = pure _; kernel_rfl!
    case a48 => exact ⟨by kernel_rfl!, fun _ _ _ => by kernel_rfl!, by kernel_rfl!, by kernel_rfl!, by kernel_rfl!⟩
    case a49 => intro v0 v1 v2; show bindArgs _ _ = pure _; kernel_rfl!
    case a50 => exact ⟨by kernel_rfl!, fun _ _ _ => by kernel_rfl!, by kernel_rfl!, by kernel_rfl!, by kernel_rfl!⟩
    case a51 => intro v0; show bindArgs _ _ = pure _; kernel_rfl!
    case a52 => exact ⟨by kernel_rfl!, fun _ _ _ => by kernel_rfl!, by kernel_rfl!, by kernel_rfl!, by kernel_rfl!⟩
    case a53 => intro v0 v1 v2 v3; show bindArgs _ _ = pure _; kernel_rfl!
    case a54 => exact ⟨by kernel_rfl!, fun _ _ _ => by kernel_rfl!, by kernel_rfl!, by kernel_rfl!, by kernel_rfl!⟩
    case a55 => intro v0 v1; show bindArgs _ _ = pure _; kernel_rfl!
    case a56 => kernel_rfl!
    case a57 => kernel_rfl!
    case a58 => kernel_rfl!
    case a59 => kernel_rfl!
    case a60 => kernel_rfl!
    case a61 => kernel_rfl!
  case h10 =>
    intro h' tk' m' F'
    refine goodW_bool F' (by assumption) (raisesW_false ?_) ?_
    · wrow_none_raised
    · wrow_post
end Mine
theorem PySem.Challenge.cw_xv0001_02_holds : PySem.Challenge.rw_xv0001_02.Holds := by
  exact Mine.top