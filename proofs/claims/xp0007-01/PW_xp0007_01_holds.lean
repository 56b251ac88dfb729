import PyProof.Rows.All
import Wide.All
import OpenK.AllK
import Wide.FinOn
import PySem.Challenge.RW_xp0007_01
set_option Elab.async false
set_option maxRecDepth 100000
set_option linter.unusedVariables false

section
open PySem PySem.W PyProof.Rows
namespace Mine

/-- what is known of a value and stays so -/
structure Stb where
  p : Heap → (Addr → Prop) → Value → Prop
  mono : ∀ (h h' : Heap) (X X' : Addr → Prop) (v : Value), (∀ b, X' b → X b ∨ h.get? b = none) → (∀ b o, ¬ X b → h.get? b = some o → h'.get? b = some o) → p h X v → p h' X' v

/-- abstract values -/
inductive PV where
  | none
  | bool (b : Bool)
  | int (i : Int)
  | str (x : Str)
  | bytes (b : Array UInt8)
  | tup (l : List PV)
  | lst (l : List PV)
  | dct (l : List (Int × Int))
  | barr (b : Array UInt8)
  | raw (v : Value)
  | any (P : Stb)

def Keep (X : Addr → Prop) (h h' : Heap) : Prop := ∀ b o, ¬ X b → h.get? b = some o → h'.get? b = some o
def Grow (h h' : Heap) : Prop := ∀ b o, h.get? b = some o → h'.get? b = some o
theorem Grow.refl (h : Heap) : Grow h h := fun _ _ e => e
theorem Grow.trans {h h' h'' : Heap} (x : Grow h h') (y : Grow h' h'') : Grow h h'' := fun b o e => y b o (x b o e)
theorem Grow.push (h : Heap) (o : Obj) : Grow h (h.push o) := fun _ _ e => Heap.get?_push_of_some o e
theorem Grow.keep {h h' : Heap} (x : Grow h h') (X : Addr → Prop) : Keep X h h' := fun b o _ e => x b o e
theorem Keep.trans {X : Addr → Prop} {h h' h'' : Heap} (x : Keep X h h') (y : Keep X h' h'') : Keep X h h'' := fun b o n e => y b o n (x b o n e)

def RepD : List (Int × Int) → List (Int × Value) → Prop
  | [], kvs => kvs = []
  | (k, i) :: r, kvs => ∃ t q, kvs = (k, .int i t) :: q ∧ RepD r q

section
variable (prog : Program) (w : World)
mutual
def Rep (h : Heap) (X : Addr → Prop) : PV → Value → Prop
  | .none, v => v = .none
  | .bool b, v => v = .bool b
  | .int i, v => ∃ t, v = .int i t
  | .str x, v => ∃ t, v = .str x t
  | .bytes b, v => ∃ t, v = .bytes b t
  | .tup l, v => ∃ a, v = .ref a ∧ ¬ X a ∧ ∃ vs, h.IsTuple a vs.toArray ∧ RepL h X l vs
  | .lst l, v => ∃ a, v = .ref a ∧ ¬ X a ∧ ∃ vs, h.PlainList a vs.toArray ∧ RepL h X l vs
  | .dct l, v => ∃ a, v = .ref a ∧ ¬ X a ∧ (a == sysModules) = false ∧ ∃ kvs, h.DictOf (intKind prog w) a kvs ∧ RepD l kvs
  | .barr b, v => ∃ a, v = .ref a ∧ ¬ X a ∧ h.get? a = some { cls := .type "bytearray", data := .bytearray b }
  | .raw u, v => v = u
  | .any P, v => P.p h X v
def RepL (h : Heap) (X : Addr → Prop) : List PV → List Value → Prop
  | [], vs => vs = []
  | d :: l, vs => ∃ v r, vs = v :: r ∧ Rep h X d v ∧ RepL h X l r
end
variable {prog w}

/-- what stands at an address that is the frame's own to change -/
def Cont (prog : Program) (w : World) (h : Heap) (X : Addr → Prop) : PV → Addr → Prop
  | .tup l, a => ∃ vs, h.IsTuple a vs.toArray ∧ RepL prog w h X l vs
  | .lst l, a => ∃ vs, h.PlainList a vs.toArray ∧ RepL prog w h X l vs
  | .dct l, a => (a == sysModules) = false ∧ ∃ kvs, h.DictOf (intKind prog w) a kvs ∧ RepD l kvs
  | .barr b, a => h.get? a = some { cls := .type "bytearray", data := .bytearray b }
  | _, _ => False

theorem isTuple_some {h : Heap} {a : Addr} {vs} (x : h.IsTuple a vs) : ∃ o, h.get? a = some o := let ⟨o, ho, _⟩ := x; ⟨o, ho⟩
theorem isList_some {h : Heap} {a : Addr} {vs} (x : h.IsList a vs) : ∃ o, h.get? a = some o := let ⟨o, ho, _⟩ := x; ⟨o, ho⟩
theorem IsTuple.at1 {h h' : Heap} {a : Addr} {vs} (x : h.IsTuple a vs) (k : ∀ o, h.get? a = some o → h'.get? a = some o) : h'.IsTuple a vs := let ⟨o, ho, r⟩ := x; ⟨o, k o ho, r⟩
theorem PlainList.isL {h : Heap} {a : Addr} {vs} (x : h.PlainList a vs) : h.IsList a vs := let ⟨n, ho⟩ := x; ⟨_, ho, rfl, n, rfl⟩
theorem PlainList.at1 {h h' : Heap} {a : Addr} {vs} (x : h.PlainList a vs) (k : ∀ o, h.get? a = some o → h'.get? a = some o) : h'.PlainList a vs := let ⟨n, ho⟩ := x; ⟨n, k _ ho⟩
theorem IsList.at1 {h h' : Heap} {a : Addr} {vs} (x : h.IsList a vs) (k : ∀ o, h.get? a = some o → h'.get? a = some o) : h'.IsList a vs := let ⟨o, ho, r⟩ := x; ⟨o, k o ho, r⟩
theorem DictOf.at1 {K : Type} [DecidableEq K] {knd : KeyKind prog w K} {h h' : Heap} {a : Addr} {kvs} (x : h.DictOf knd a kvs) (k : ∀ o, h.get? a = some o → h'.get? a = some o) : h'.DictOf knd a kvs :=
  let ⟨o, es, ep, ho, r⟩ := x; ⟨o, es, ep, k o ho, r⟩
theorem dictOf_some {K : Type} [DecidableEq K] {knd : KeyKind prog w K} {h : Heap} {a : Addr} {kvs} (x : h.DictOf knd a kvs) : ∃ o, h.get? a = some o := let ⟨o, _, _, ho, _⟩ := x; ⟨o, ho⟩

mutual
theorem Rep.to {h h' : Heap} {X X' : Addr → Prop} (hX : ∀ b, X' b → X b ∨ h.get? b = none) (hk : ∀ b o, ¬ X b → h.get? b = some o → h'.get? b = some o) :
    ∀ (d : PV) (v : Value), Rep prog w h X d v → Rep prog w h' X' d v
  | .none, v, e => by simpa only [Rep] using e
  | .bool b, v, e => by simpa only [Rep] using e
  | .int i, v, e => by simpa only [Rep] using e
  | .str x, v, e => by simpa only [Rep] using e
  | .bytes b, v, e => by simpa only [Rep] using e
  | .raw u, v, e => by simpa only [Rep] using e
  | .any P, v, e => by simp only [Rep] at e ⊢; exact P.mono _ _ _ _ _ hX hk e
  | .tup l, v, e => by
    simp only [Rep] at e ⊢
    obtain ⟨a, rfl, hn, vs, ht, hl⟩ := e
    obtain ⟨o, ho⟩ := isTuple_some ht
    exact ⟨a, rfl, fun hx => (hX a hx).elim hn (fun q => by rw [ho] at q; cases q), vs, IsTuple.at1 ht fun o e => hk a o hn e, RepL.to hX hk l vs hl⟩
  | .lst l, v, e => by
    simp only [Rep] at e ⊢
    obtain ⟨a, rfl, hn, vs, ht, hl⟩ := e
    obtain ⟨o, ho⟩ := isList_some (PlainList.isL ht)
    exact ⟨a, rfl, fun hx => (hX a hx).elim hn (fun q => by rw [ho] at q; cases q), vs, PlainList.at1 ht fun o e => hk a o hn e, RepL.to hX hk l vs hl⟩
  | .dct l, v, e => by
    simp only [Rep] at e ⊢
    obtain ⟨a, rfl, hn, hm, kvs, hd, hl⟩ := e
    obtain ⟨o, ho⟩ := dictOf_some hd
    exact ⟨a, rfl, fun hx => (hX a hx).elim hn (fun q => by rw [ho] at q; cases q), hm, kvs, DictOf.at1 hd fun o e => hk a o hn e, hl⟩
  | .barr b, v, e => by
    simp only [Rep] at e ⊢
    obtain ⟨a, rfl, hn, ho⟩ := e
    exact ⟨a, rfl, fun hx => (hX a hx).elim hn (fun q => by rw [ho] at q; cases q), hk a _ hn ho⟩
theorem RepL.to {h h' : Heap} {X X' : Addr → Prop} (hX : ∀ b, X' b → X b ∨ h.get? b = none) (hk : ∀ b o, ¬ X b → h.get? b = some o → h'.get? b = some o) :
    ∀ (l : List PV) (vs : List Value), RepL prog w h X l vs → RepL prog w h' X' l vs
  | [], vs, e => by simpa only [RepL] using e
  | d :: l, vs, e => by
    simp only [RepL] at e ⊢
    obtain ⟨v, r, rfl, hd, hl⟩ := e
    exact ⟨v, r, rfl, Rep.to hX hk d v hd, RepL.to hX hk l r hl⟩
end

theorem Rep.grow {h h' : Heap} {X : Addr → Prop} {d : PV} {v : Value} (x : Rep prog w h X d v) (g : Grow h h') : Rep prog w h' X d v := Rep.to (fun _ q => .inl q) (fun b o _ e => g b o e) d v x
theorem Rep.keep {h h' : Heap} {X : Addr → Prop} {d : PV} {v : Value} (x : Rep prog w h X d v) (g : Keep X h h') : Rep prog w h' X d v := Rep.to (fun _ q => .inl q) g d v x
theorem Rep.less {h : Heap} {X X' : Addr → Prop} {d : PV} {v : Value} (x : Rep prog w h X d v) (q : ∀ b, X' b → X b) : Rep prog w h X' d v := Rep.to (fun b e => .inl (q b e)) (fun _ _ _ e => e) d v x
theorem RepL.grow {h h' : Heap} {X : Addr → Prop} {d : List PV} {v : List Value} (x : RepL prog w h X d v) (g : Grow h h') : RepL prog w h' X d v := RepL.to (fun _ q => .inl q) (fun b o _ e => g b o e) d v x
theorem RepL.less {h : Heap} {X X' : Addr → Prop} {d : List PV} {v : List Value} (x : RepL prog w h X d v) (q : ∀ b, X' b → X b) : RepL prog w h X' d v := RepL.to (fun b e => .inl (q b e)) (fun _ _ _ e => e) d v x
theorem RepL.keep {h h' : Heap} {X : Addr → Prop} {d : List PV} {v : List Value} (x : RepL prog w h X d v) (g : Keep X h h') : RepL prog w h' X d v := RepL.to (fun _ q => .inl q) g d v x

theorem RepL.length {h : Heap} {X : Addr → Prop} : ∀ {l : List PV} {vs : List Value}, RepL prog w h X l vs → vs.length = l.length
  | [], vs, e => by simp only [RepL] at e; subst e; rfl
  | d :: l, vs, e => by
    simp only [RepL] at e
    obtain ⟨v, r, rfl, _, hl⟩ := e
    simp [RepL.length hl]
theorem RepL.get {h : Heap} {X : Addr → Prop} : ∀ {l : List PV} {vs : List Value} (i : Nat) {d : PV}, RepL prog w h X l vs → l[i]? = some d → ∃ v, vs[i]? = some v ∧ Rep prog w h X d v
  | [], _, _, _, _, e => by simp at e
  | d :: l, vs, i, d', e, q => by
    simp only [RepL] at e
    obtain ⟨v, r, rfl, hd, hl⟩ := e
    cases i with
    | zero => simp at q; subst q; exact ⟨v, rfl, hd⟩
    | succ i => simp at q ⊢; exact RepL.get i hl q
theorem RepL.append {h : Heap} {X : Addr → Prop} : ∀ {l l' : List PV} {vs vs' : List Value}, RepL prog w h X l vs → RepL prog w h X l' vs' → RepL prog w h X (l ++ l') (vs ++ vs')
  | [], _, vs, _, e, q => by simp only [RepL] at e; subst e; exact q
  | d :: l, l', vs, vs', e, q => by
    simp only [RepL] at e
    obtain ⟨v, r, rfl, hd, hl⟩ := e
    simp only [List.cons_append, RepL]
    exact ⟨v, r ++ vs', rfl, hd, RepL.append hl q⟩
theorem RepL.one {h : Heap} {X : Addr → Prop} {d : PV} {v : Value} (x : Rep prog w h X d v) : RepL prog w h X [d] [v] := by
  simp only [RepL]; exact ⟨v, [], rfl, x, rfl⟩
theorem RepL.nil {h : Heap} {X : Addr → Prop} : RepL prog w h X [] [] := by simp only [RepL]
theorem RepL.cons {h : Heap} {X : Addr → Prop} {d : PV} {v : Value} {l : List PV} {vs : List Value} (x : Rep prog w h X d v) (y : RepL prog w h X l vs) : RepL prog w h X (d :: l) (v :: vs) := by
  simp only [RepL]; exact ⟨v, vs, rfl, x, y⟩

theorem Cont.to {h h' : Heap} {X X' : Addr → Prop} (hX : ∀ b, X' b → X b ∨ h.get? b = none) (hk : ∀ b o, ¬ X b → h.get? b = some o → h'.get? b = some o)
    {d : PV} {a : Addr} (ha : ∀ o, h.get? a = some o → h'.get? a = some o) (x : Cont prog w h X d a) : Cont prog w h' X' d a := by
  cases d <;> simp only [Cont] at x ⊢
  case tup l => obtain ⟨vs, ht, hl⟩ := x; exact ⟨vs, IsTuple.at1 ht ha, RepL.to hX hk l vs hl⟩
  case lst l => obtain ⟨vs, ht, hl⟩ := x; exact ⟨vs, PlainList.at1 ht ha, RepL.to hX hk l vs hl⟩
  case dct l => obtain ⟨hm, kvs, ht, hl⟩ := x; exact ⟨hm, kvs, DictOf.at1 ht ha, hl⟩
  case barr b => exact ha _ x
theorem Cont.rep {h : Heap} {X : Addr → Prop} {d : PV} {a : Addr} (x : Cont prog w h X d a) (n : ¬ X a) : Rep prog w h X d (.ref a) := by
  cases d <;> simp only [Cont] at x <;> simp only [Rep] <;> first | exact ⟨a, rfl, n, x⟩ | exact x.elim
theorem Rep.cont_lst {h : Heap} {X : Addr → Prop} {l : List PV} {v : Value} (x : Rep prog w h X (.lst l) v) : ∃ a vs, v = .ref a ∧ ¬ X a ∧ h.IsList a vs.toArray ∧ RepL prog w h X l vs := by
  simp only [Rep] at x; obtain ⟨a, e, n, vs, r⟩ := x; exact ⟨a, vs, e, n, PlainList.isL r.1, r.2⟩
theorem Rep.plain_lst {h : Heap} {X : Addr → Prop} {l : List PV} {v : Value} (x : Rep prog w h X (.lst l) v) : ∃ a vs, v = .ref a ∧ ¬ X a ∧ h.PlainList a vs.toArray ∧ RepL prog w h X l vs := by
  simp only [Rep] at x; obtain ⟨a, e, n, vs, r⟩ := x; exact ⟨a, vs, e, n, r⟩
theorem Cont.some {h : Heap} {X : Addr → Prop} {d : PV} {a : Addr} (x : Cont prog w h X d a) : ∃ o, h.get? a = some o := by
  cases d <;> simp only [Cont] at x
  case tup l => obtain ⟨vs, ht, hl⟩ := x; exact isTuple_some ht
  case lst l => obtain ⟨vs, ht, hl⟩ := x; exact isList_some (PlainList.isL ht)
  case dct l => obtain ⟨hm, kvs, ht, hl⟩ := x; exact dictOf_some ht
  case barr b => exact ⟨_, x⟩
end
end Mine
end

section
open PySem PySem.W PyProof.Rows
namespace Mine

abbrev Muts := List (Addr × PV)
abbrev Vars := List (Str × PV)

def wrt (env : Env) (D : Muts) (b : Addr) : Prop := b = env.locals ∨ (env.func.isSome = true ∧ b ∈ env.cells.map (·.2)) ∨ b ∈ D.map (·.1)
def own (env : Env) (Xc : Addr → Prop) (D : Muts) (b : Addr) : Prop := Xc b ∨ b = env.locals ∨ b ∈ env.cells.map (·.2) ∨ b ∈ D.map (·.1)
theorem own_of_wrt {env : Env} {Xc : Addr → Prop} {D : Muts} {b : Addr} (h : wrt env D b) : own env Xc D b := by
  rcases h with h | ⟨_, h⟩ | h
  · exact .inr (.inl h)
  · exact .inr (.inr (.inl h))
  · exact .inr (.inr (.inr h))
def ins (J : List Addr) (X : Addr → Prop) (b : Addr) : Prop := b ∈ J ∨ X b

/-- where a name's value lies -/
def VarAt (prog : Program) (w : World) (h : Heap) (X : Addr → Prop) (env : Env) (x : Str) (d : PV) : Prop :=
  (env.kindOf x = some .local ∧ ∃ ml v, h.Ns env.locals ml ∧ ml x = some v ∧ Rep prog w h X d v) ∨
  ((env.kindOf x = some .cell ∨ env.kindOf x = some .free) ∧ ∃ c v, env.cells.lookup x = some c ∧ h.IsCell c (some v) ∧ Rep prog w h X d v)

structure At (prog : Program) (w : World) (G : Heap → Prop) (B : Heap) (W : Addr → Prop) (Z : Shared) (env : Env) (Xc : Addr → Prop) (D : Muts) (σ : Vars) (s : Shared) : Prop where
  same : ∃ h t, s = { Z with heap := h, toks := t }
  glob : G Z.heap
  grow : Grow Z.heap s.heap
  keep : Keep W B s.heap
  kind : env.scope.kind = .function
  ns : ∃ ml, s.heap.Ns env.locals ml
  cells : ∀ p ∈ env.cells, ∃ v, s.heap.IsCell p.2 v
  dist : (env.locals :: (env.cells.map (·.2) ++ D.map (·.1))).Nodup
  fresh : ∀ b, wrt env D b → Z.heap.get? b = none ∧ (W b ∨ B.get? b = none) ∧ ¬ Xc b
  ex : ∀ b, Xc b → ∃ o, s.heap.get? b = some o
  vars : ∀ x d, σ.lookup x = some d → VarAt prog w s.heap (own env Xc D) env x d
  muts : ∀ p ∈ D, Cont prog w s.heap (own env Xc D) p.2 p.1

section
variable {prog : Program} {w : World} {G : Heap → Prop} {B : Heap} {W : Addr → Prop} {Z : Shared} {env : Env} {Xc : Addr → Prop} {D : Muts} {σ : Vars} {s s' : Shared}

theorem VarAt.to {h h' : Heap} {X X' : Addr → Prop} {x : Str} {d : PV} (hX : ∀ b, X' b → X b ∨ h.get? b = none) (hk : ∀ b o, ¬ X b → h.get? b = some o → h'.get? b = some o)
    (hl : ∀ ml, h.Ns env.locals ml → h'.Ns env.locals ml) (hc : ∀ p ∈ env.cells, ∀ v, h.IsCell p.2 v → h'.IsCell p.2 v) (q : VarAt prog w h X env x d) : VarAt prog w h' X' env x d := by
  rcases q with ⟨k, ml, v, n, e, r⟩ | ⟨k, c, v, e, n, r⟩
  · exact .inl ⟨k, ml, v, hl ml n, e, Rep.to hX hk _ _ r⟩
  · have hm : ∃ p ∈ env.cells, p.2 = c := by
      clear k n r hc hl hk hX
      generalize env.cells = l at e
      induction l with
      | nil => simp at e
      | cons p l ih =>
        obtain ⟨y, b⟩ := p
        rw [List.lookup_cons] at e
        split at e
        · cases e; exact ⟨_, .head _, rfl⟩
        · obtain ⟨p, hp, q⟩ := ih e; exact ⟨p, .tail _ hp, q⟩
    obtain ⟨p, hp, rfl⟩ := hm
    exact .inr ⟨k, p.2, v, e, hc p hp _ n, Rep.to hX hk _ _ r⟩

/-- a step that changes nothing that stands -/
theorem At.grows (a : At prog w G B W Z env Xc D σ s) (hs : ∃ h t, s' = { s with heap := h, toks := t }) (g : Grow s.heap s'.heap) : At prog w G B W Z env Xc D σ s' where
  same := by obtain ⟨h, t, rfl⟩ := a.same; obtain ⟨h', t', rfl⟩ := hs; exact ⟨h', t', rfl⟩
  glob := a.glob
  grow := a.grow.trans g
  keep := a.keep.trans (g.keep _)
  kind := a.kind
  ns := let ⟨ml, n⟩ := a.ns; ⟨ml, n.keeps g⟩
  cells := fun p hp => let ⟨v, n⟩ := a.cells p hp; ⟨v, n.keeps g⟩
  dist := a.dist
  fresh := a.fresh
  ex := fun b hb => let ⟨o, e⟩ := a.ex b hb; ⟨o, g b o e⟩
  vars := fun x d e => (a.vars x d e).to (fun _ q => .inl q) (fun b o _ e => g b o e) (fun ml n => n.keeps g) (fun p _ v n => n.keeps g)
  muts := fun p hp => (a.muts p hp).to (fun _ q => .inl q) (fun b o _ e => g b o e) (fun o e => g _ o e)

theorem At.globNow (a : At prog w G B W Z env Xc D σ s) (hG : ∀ h h', G h → Grow h h' → G h') : G s.heap := hG _ _ a.glob a.grow

/-- fewer names -/
def SubV (σ' σ : Vars) : Prop := ∀ x d, σ'.lookup x = some d → σ.lookup x = some d
theorem At.forget {σ' : Vars} (a : At prog w G B W Z env Xc D σ s) (q : SubV σ' σ) : At prog w G B W Z env Xc D σ' s :=
  { a with vars := fun x d e => a.vars x d (q x d e) }
theorem SubV.nil {σ : Vars} : SubV [] σ := fun _ _ e => by simp at e
theorem SubV.cons {σ' σ : Vars} {x : Str} {d : PV} (h : σ.lookup x = some d) (q : SubV σ' σ) : SubV ((x, d) :: σ') σ := fun y d' e => by
  rw [List.lookup_cons] at e
  split at e
  · rename_i hb; cases e; rw [eq_of_beq hb]; exact h
  · exact q y d' e
theorem SubV.refl {σ : Vars} : SubV σ σ := fun _ _ e => e

/-- the heap changes at one address of a frame's own -/
theorem not_own_ne {b c : Addr} (h : ¬ own env Xc D b) (hc : own env Xc D c) : b ≠ c := fun e => h (e ▸ hc)

/-- a name is stored -/
theorem lookup_mem {l : List (Str × Addr)} {x : Str} {c : Addr} (e : l.lookup x = some c) : ∃ p ∈ l, p.2 = c ∧ p.1 = x := by
  induction l with
  | nil => simp at e
  | cons p l ih =>
    obtain ⟨y, b⟩ := p
    rw [List.lookup_cons] at e
    split at e
    · rename_i hb; cases e; exact ⟨_, .head _, rfl, (eq_of_beq hb).symm⟩
    · obtain ⟨p, hp, q⟩ := ih e; exact ⟨p, .tail _ hp, q⟩

theorem At.storeLocal {x : Str} {d : PV} {v : Value} {h' : Heap} {tk : Nat} {ml : Str → Option Value} (a : At prog w G B W Z env Xc D σ s) (hx : env.kindOf x = some .local)
    (r : Rep prog w s.heap (own env Xc D) d v) (hml : s.heap.Ns env.locals ml) (hn : h'.Ns env.locals (fun y => if y = x then some v else ml y)) (hs : Heap.SameBut env.locals s.heap h') :
    At prog w G B W Z env Xc D ((x, d) :: σ) { s with heap := h', toks := tk } := by
  have hw : wrt env D env.locals := .inl rfl
  have hL : own env Xc D env.locals := own_of_wrt hw
  have kp : ∀ b o, ¬ own env Xc D b → s.heap.get? b = some o → h'.get? b = some o := fun b o nb e => (hs.2 b (not_own_ne nb hL)).trans e
  have hcl : ∀ p ∈ env.cells, p.2 ≠ env.locals := fun p hp e => by
    have := (List.nodup_cons.mp a.dist).1
    exact this (List.mem_append.mpr (.inl (e ▸ List.mem_map_of_mem hp)))
  have hDl : ∀ p ∈ D, p.1 ≠ env.locals := fun p hp e => by
    have := (List.nodup_cons.mp a.dist).1
    exact this (List.mem_append.mpr (.inr (e ▸ List.mem_map_of_mem hp)))
  refine { same := ?_, glob := a.glob, grow := ?_, keep := ?_, kind := a.kind, ns := ⟨_, hn⟩, cells := ?_, dist := a.dist, fresh := a.fresh, ex := ?_, vars := ?_, muts := ?_ }
  · obtain ⟨h, t, rfl⟩ := a.same; exact ⟨h', tk, rfl⟩
  · intro b o e
    exact (hs.2 b fun q => by rw [q, (a.fresh _ hw).1] at e; cases e).trans (a.grow b o e)
  · intro b o nb e
    refine (hs.2 b fun q => ?_).trans (a.keep b o nb e)
    subst q
    rcases (a.fresh _ hw).2.1 with k | k
    · exact nb k
    · rw [k] at e; cases e
  · exact fun p hp => let ⟨v, n⟩ := a.cells p hp; ⟨v, n.sameBut hs (hcl p hp)⟩
  · intro b hb
    obtain ⟨o, e⟩ := a.ex b hb
    exact ⟨o, (hs.2 b fun q => (a.fresh _ hw).2.2 (q ▸ hb)).trans e⟩
  · intro y d' e
    rw [List.lookup_cons] at e
    split at e
    · rename_i hb
      cases e
      have hy := eq_of_beq hb
      subst hy
      exact .inl ⟨hx, _, v, hn, if_pos rfl, Rep.to (fun _ q => .inl q) kp _ _ r⟩
    · rename_i hb
      have hne : y ≠ x := fun q => by rw [q] at hb; simp at hb
      rcases a.vars y d' e with ⟨k, ml', v', n', e', r'⟩ | ⟨k, c, v', e', n', r'⟩
      · refine .inl ⟨k, _, v', hn, ?_, Rep.to (fun _ q => .inl q) kp _ _ r'⟩
        have : ml y = ml' y := by
          obtain ⟨o1, es1, ep1, g1, d1, _, f1⟩ := hml
          obtain ⟨o2, es2, ep2, g2, d2, _, f2⟩ := n'
          rw [g1] at g2; cases g2
          rw [d1] at d2; cases d2
          rw [← f1, ← f2]
        rw [if_neg hne, this]; exact e'
      · obtain ⟨p, hp, rfl, _⟩ := lookup_mem e'
        exact .inr ⟨k, p.2, v', e', n'.sameBut hs (hcl p hp), Rep.to (fun _ q => .inl q) kp _ _ r'⟩
  · exact fun p hp => (a.muts p hp).to (fun _ q => .inl q) kp (fun o e => (hs.2 _ (hDl p hp)).trans e)

theorem nodup_map_ne {l : List (Str × Addr)} (h : (l.map (·.2)).Nodup) {p q : Str × Addr} (hp : p ∈ l) (hq : q ∈ l) (e : p.2 = q.2) : p = q := by
  induction l with
  | nil => cases hp
  | cons x l ih =>
    rw [List.map_cons, List.nodup_cons] at h
    rcases List.mem_cons.mp hp with hp1 | hp1
    · rcases List.mem_cons.mp hq with hq1 | hq1
      · rw [hp1, hq1]
      · exact absurd (by rw [← hp1, e]; exact List.mem_map_of_mem hq1) h.1
    · rcases List.mem_cons.mp hq with hq1 | hq1
      · exact absurd (by rw [← hq1, ← e]; exact List.mem_map_of_mem hp1) h.1
      · exact ih h.2 hp1 hq1

theorem At.storeCell {x : Str} {d : PV} {v : Value} {h' : Heap} {c : Addr} {tk : Nat} (a : At prog w G B W Z env Xc D σ s) (hx : env.kindOf x = some .cell) (hf : env.func.isSome = true) (hc : env.cells.lookup x = some c)
    (r : Rep prog w s.heap (own env Xc D) d v) (hn : h'.IsCell c (some v)) (hs : Heap.SameBut c s.heap h') :
    At prog w G B W Z env Xc D ((x, d) :: σ) { s with heap := h', toks := tk } := by
  obtain ⟨pc, hpc, rfl, hpx⟩ := lookup_mem hc
  have hw : wrt env D pc.2 := .inr (.inl ⟨hf, List.mem_map_of_mem hpc⟩)
  have hL : own env Xc D pc.2 := own_of_wrt hw
  have kp : ∀ b o, ¬ own env Xc D b → s.heap.get? b = some o → h'.get? b = some o := fun b o nb e => (hs.2 b (not_own_ne nb hL)).trans e
  have hcl : pc.2 ≠ env.locals := fun e => by
    have := (List.nodup_cons.mp a.dist).1
    exact this (List.mem_append.mpr (.inl (e ▸ List.mem_map_of_mem hpc)))
  have hnd := List.nodup_append.mp (List.nodup_cons.mp a.dist).2
  have hDl : ∀ p ∈ D, p.1 ≠ pc.2 := fun p hp e => hnd.2.2 _ (List.mem_map_of_mem hpc) _ (List.mem_map_of_mem hp) e.symm
  obtain ⟨ml₀, hml₀⟩ := a.ns
  have nsk : ∀ ml, s.heap.Ns env.locals ml → h'.Ns env.locals ml := fun ml n => n.sameBut hs (Ne.symm hcl)
  refine { same := ?_, glob := a.glob, grow := ?_, keep := ?_, kind := a.kind, ns := ⟨_, nsk _ hml₀⟩, cells := ?_, dist := a.dist, fresh := a.fresh, ex := ?_, vars := ?_, muts := ?_ }
  · obtain ⟨h, t, rfl⟩ := a.same; exact ⟨h', tk, rfl⟩
  · intro b o e
    exact (hs.2 b fun q => by rw [q, (a.fresh _ hw).1] at e; cases e).trans (a.grow b o e)
  · intro b o nb e
    refine (hs.2 b fun q => ?_).trans (a.keep b o nb e)
    subst q
    rcases (a.fresh _ hw).2.1 with k | k
    · exact nb k
    · rw [k] at e; cases e
  · intro p hp
    by_cases e : p.2 = pc.2
    · rw [e]; exact ⟨_, hn⟩
    · exact let ⟨v, n⟩ := a.cells p hp; ⟨v, n.sameBut hs e⟩
  · intro b hb
    obtain ⟨o, e⟩ := a.ex b hb
    exact ⟨o, (hs.2 b fun q => (a.fresh _ hw).2.2 (q ▸ hb)).trans e⟩
  · intro y d' e
    rw [List.lookup_cons] at e
    split at e
    · rename_i hb
      cases e
      have hy := eq_of_beq hb
      subst hy
      exact .inr ⟨.inl hx, _, v, hc, hn, Rep.to (fun _ q => .inl q) kp _ _ r⟩
    · rename_i hb
      have hne : y ≠ x := fun q => by rw [q] at hb; simp at hb
      rcases a.vars y d' e with ⟨k, ml', v', n', e', r'⟩ | ⟨k, c', v', e', n', r'⟩
      · exact .inl ⟨k, _, v', nsk _ n', e', Rep.to (fun _ q => .inl q) kp _ _ r'⟩
      · obtain ⟨p, hp, rfl, hpy⟩ := lookup_mem e'
        refine .inr ⟨k, p.2, v', e', n'.sameBut hs fun q => ?_, Rep.to (fun _ q => .inl q) kp _ _ r'⟩
        exact hne (by rw [← hpy, ← hpx, nodup_map_ne hnd.1 hp hpc q])
  · exact fun p hp => (a.muts p hp).to (fun _ q => .inl q) kp (fun o e => (hs.2 _ (hDl p hp)).trans e)
end
end Mine
end

section
open PySem PySem.W PyProof.Rows
namespace Mine
section
variable {prog : Program} {w : World} {G : Heap → Prop} {B : Heap} {W : Addr → Prop} {Z : Shared} {env : Env} {Xc : Addr → Prop} {D D' : Muts} {σ σ' : Vars} {s s' : Shared}

def Same (s s' : Shared) : Prop := ∃ h t, s' = { s with heap := h, toks := t }
theorem Same.refl (s : Shared) : Same s s := ⟨s.heap, s.toks, rfl⟩
theorem Same.trans {s s' s'' : Shared} (x : Same s s') (y : Same s' s'') : Same s s'' := by
  obtain ⟨h, t, rfl⟩ := x; obtain ⟨h', t', rfl⟩ := y; exact ⟨h', t', rfl⟩
theorem Same.mk {s : Shared} {h : Heap} {t : Nat} : Same s { s with heap := h, toks := t } := ⟨h, t, rfl⟩

theorem own_perm (p : D'.Perm D) : own env Xc D' = own env Xc D := by
  funext b
  have : b ∈ D'.map (·.1) ↔ b ∈ D.map (·.1) := (p.map _).mem_iff
  simp only [own, this]
theorem wrt_perm (p : D'.Perm D) (b : Addr) : wrt env D' b ↔ wrt env D b := by
  have : b ∈ D'.map (·.1) ↔ b ∈ D.map (·.1) := (p.map _).mem_iff
  simp only [wrt, this]
theorem At.permD (a : At prog w G B W Z env Xc D σ s) (p : D'.Perm D) : At prog w G B W Z env Xc D' σ s where
  same := a.same
  glob := a.glob
  grow := a.grow
  keep := a.keep
  kind := a.kind
  ns := a.ns
  cells := a.cells
  dist := ((List.Perm.append_left _ (p.map _)).cons _).nodup_iff.mpr a.dist
  fresh := fun b hb => a.fresh b ((wrt_perm p b).mp hb)
  ex := a.ex
  vars := fun x d e => by rw [own_perm p]; exact a.vars x d e
  muts := fun q hq => by rw [own_perm p]; exact a.muts q (p.mem_iff.mp hq)
theorem At.swap {p q : Addr × PV} (a : At prog w G B W Z env Xc (p :: q :: D) σ s) : At prog w G B W Z env Xc (q :: p :: D) σ s := a.permD (List.Perm.swap _ _ _)

theorem own_tail {p : Addr × PV} {b : Addr} (h : own env Xc D b) : own env Xc (p :: D) b := by
  rcases h with h | h | h | h
  · exact .inl h
  · exact .inr (.inl h)
  · exact .inr (.inr (.inl h))
  · exact .inr (.inr (.inr (.tail _ h)))
theorem own_head {p : Addr × PV} : own env Xc (p :: D) p.1 := .inr (.inr (.inr (.head _)))
theorem own_cons {p : Addr × PV} {b : Addr} (h : own env Xc (p :: D) b) : b = p.1 ∨ own env Xc D b := by
  rcases h with h | h | h | h
  · exact .inr (.inl h)
  · exact .inr (.inr (.inl h))
  · exact .inr (.inr (.inr (.inl h)))
  · rw [List.map_cons] at h
    rcases List.mem_cons.mp h with h | h
    · exact .inl h
    · exact .inr (.inr (.inr (.inr h)))
theorem wrt_tail {p : Addr × PV} {b : Addr} (h : wrt env D b) : wrt env (p :: D) b := by
  rcases h with h | h | h
  · exact .inl h
  · exact .inr (.inl h)
  · exact .inr (.inr (.tail _ h))
theorem wrt_cons {p : Addr × PV} {b : Addr} (h : wrt env (p :: D) b) : b = p.1 ∨ wrt env D b := by
  rcases h with h | h | h
  · exact .inr (.inl h)
  · exact .inr (.inr (.inl h))
  · rw [List.map_cons] at h
    rcases List.mem_cons.mp h with h | h
    · exact .inl h
    · exact .inr (.inr (.inr h))
theorem own_set {c : Addr} {d d' : PV} : own env Xc ((c, d') :: D) = own env Xc ((c, d) :: D) := rfl

theorem At.own_some (a : At prog w G B W Z env Xc D σ s) {b : Addr} (hb : own env Xc D b) : ∃ o, s.heap.get? b = some o := by
  rcases hb with h | h | h | h
  · exact a.ex b h
  · obtain ⟨ml, o, es, ep, q, _⟩ := a.ns; exact ⟨o, h ▸ q⟩
  · obtain ⟨p, hp, e⟩ := List.mem_map.mp h
    obtain ⟨v, o, q, _⟩ := a.cells p hp; exact ⟨o, e ▸ q⟩
  · obtain ⟨p, hp, e⟩ := List.mem_map.mp h
    obtain ⟨o, q⟩ := (a.muts p hp).some; exact ⟨o, e ▸ q⟩

/-- the content of the first of the frame's own things changes -/
theorem At.setMut {c : Addr} {d d' : PV} (a : At prog w G B W Z env Xc ((c, d) :: D) σ s) (hm : Same s s')
    (hk : ∀ b o, b ≠ c → s.heap.get? b = some o → s'.heap.get? b = some o) (hc : Cont prog w s'.heap (own env Xc ((c, d) :: D)) d' c) :
    At prog w G B W Z env Xc ((c, d') :: D) σ s' := by
  have hw : wrt env ((c, d) :: D) c := .inr (.inr (.head _))
  have hL : own env Xc ((c, d) :: D) c := own_of_wrt hw
  have kp : ∀ b o, ¬ own env Xc ((c, d) :: D) b → s.heap.get? b = some o → s'.heap.get? b = some o := fun b o nb e => hk b o (not_own_ne nb hL) e
  have hnd := List.nodup_cons.mp a.dist
  have hnd2 := List.nodup_append.mp hnd.2
  have hcl : env.locals ≠ c := fun e => hnd.1 (List.mem_append.mpr (.inr (by rw [e]; exact .head _)))
  have hcc : ∀ p ∈ env.cells, p.2 ≠ c := fun p hp e => hnd2.2.2 _ (List.mem_map_of_mem hp) _ (.head _) e
  have hDc : ∀ p ∈ D, p.1 ≠ c := fun p hp e => (List.nodup_cons.mp hnd2.2.1).1 (by show c ∈ D.map (·.1); rw [← e]; exact List.mem_map_of_mem (f := (·.1)) hp)
  have nsk : ∀ ml, s.heap.Ns env.locals ml → s'.heap.Ns env.locals ml := fun ml n => n.at' fun o e => hk _ o hcl e
  have clk : ∀ p ∈ env.cells, ∀ v, s.heap.IsCell p.2 v → s'.heap.IsCell p.2 v := fun p hp v ⟨o, e, r⟩ => ⟨o, hk _ o (hcc p hp) e, r⟩
  refine { same := ?_, glob := a.glob, grow := ?_, keep := ?_, kind := a.kind, ns := let ⟨ml, n⟩ := a.ns; ⟨ml, nsk ml n⟩, cells := ?_, dist := a.dist, fresh := a.fresh, ex := ?_, vars := ?_, muts := ?_ }
  · obtain ⟨h, t, rfl⟩ := a.same; obtain ⟨h', t', rfl⟩ := hm; exact ⟨h', t', rfl⟩
  · exact fun b o e => hk b o (fun q => by rw [q, (a.fresh _ hw).1] at e; cases e) (a.grow b o e)
  · intro b o nb e
    refine hk b o (fun q => ?_) (a.keep b o nb e)
    subst q
    rcases (a.fresh _ hw).2.1 with k | k
    · exact nb k
    · rw [k] at e; cases e
  · exact fun p hp => let ⟨v, n⟩ := a.cells p hp; ⟨v, clk p hp v n⟩
  · intro b hb
    obtain ⟨o, e⟩ := a.ex b hb
    exact ⟨o, hk b o (fun q => (a.fresh _ hw).2.2 (q ▸ hb)) e⟩
  · exact fun x e q => (a.vars x e q).to (fun _ q => .inl q) kp nsk clk
  · intro p hp
    rcases List.mem_cons.mp hp with e | hp
    · rw [e]; exact hc
    · exact (a.muts p (.tail _ hp)).to (fun _ q => .inl q) kp fun o e => hk _ o (hDc p hp) e

/-- a new thing of the frame's own -/
theorem At.newMut {c : Addr} {d : PV} (a : At prog w G B W Z env Xc D σ s) (hm : Same s s') (hg : Grow s.heap s'.heap) (hn : s.heap.get? c = none)
    (hc : Cont prog w s'.heap (own env Xc ((c, d) :: D)) d c) : At prog w G B W Z env Xc ((c, d) :: D) σ s' := by
  have hX : ∀ b, own env Xc ((c, d) :: D) b → own env Xc D b ∨ s.heap.get? b = none := fun b hb => (own_cons hb).elim (fun e => .inr (e ▸ hn)) .inl
  have ne : ∀ b, own env Xc D b → b ≠ c := fun b hb e => by
    obtain ⟨o, q⟩ := a.own_some hb
    rw [e, hn] at q; cases q
  have a' := a.grows hm hg
  refine { a' with dist := ?_, fresh := ?_, vars := ?_, muts := ?_ }
  · have h1 := List.nodup_cons.mp a.dist
    have h2 := List.nodup_append.mp h1.2
    refine List.nodup_cons.mpr ⟨fun h => ?_, List.nodup_append.mpr ⟨h2.1, List.nodup_cons.mpr ⟨fun h => ?_, h2.2.1⟩, ?_⟩⟩
    · rcases List.mem_append.mp h with h | h
      · exact h1.1 (List.mem_append.mpr (.inl h))
      · rcases List.mem_cons.mp h with h | h
        · exact ne _ (.inr (.inl rfl)) h
        · exact h1.1 (List.mem_append.mpr (.inr h))
    · exact ne c (.inr (.inr (.inr h))) rfl
    · intro x hx y hy e
      rcases List.mem_cons.mp hy with h | h
      · exact ne x (.inr (.inr (.inl hx))) (e.trans h)
      · exact h2.2.2 x hx y h e
  · intro b hb
    rcases wrt_cons hb with e | hb
    · rw [e]
      refine ⟨?_, ?_, fun h => ne _ (.inl h) rfl⟩
      · cases q : Z.heap.get? c with
        | none => rfl
        | some o => have := a.grow c o q; rw [hn] at this; cases this
      · by_cases hW : W c
        · exact .inl hW
        · cases q : B.get? c with
          | none => exact .inr rfl
          | some o => have := a.keep c o hW q; rw [hn] at this; cases this
    · exact a.fresh b hb
  · exact fun x e q => (a.vars x e q).to hX (fun b o _ e => hg b o e) (fun ml n => n.keeps hg) (fun p _ v n => n.keeps hg)
  · intro p hp
    rcases List.mem_cons.mp hp with e | hp
    · rw [e]; exact hc
    · exact (a.muts p hp).to hX (fun b o _ e => hg b o e) (fun o e => hg _ o e)

/-- a thing of the frame's own is no more changed -/
theorem At.freeze {c : Addr} {d : PV} (a : At prog w G B W Z env Xc ((c, d) :: D) σ s) (hv : ∀ x e, σ'.lookup x = some e → σ.lookup x = some e ∨ (σ.lookup x = some (.raw (.ref c)) ∧ e = d)) :
    At prog w G B W Z env Xc D σ' s ∧ Rep prog w s.heap (own env Xc D) d (.ref c) := by
  have hw : wrt env ((c, d) :: D) c := .inr (.inr (.head _))
  have hnd := List.nodup_cons.mp a.dist
  have hnd2 := List.nodup_append.mp hnd.2
  have hnc : ¬ own env Xc D c := by
    rintro (h | h | h | h)
    · exact (a.fresh _ hw).2.2 h
    · exact hnd.1 (List.mem_append.mpr (.inr (by rw [← h]; exact .head _)))
    · exact hnd2.2.2 _ h _ (.head _) rfl
    · exact (List.nodup_cons.mp hnd2.2.1).1 h
  have less : ∀ b, own env Xc D b → own env Xc ((c, d) :: D) b := fun b h => own_tail h
  have hr : Rep prog w s.heap (own env Xc D) d (.ref c) := ((a.muts _ (.head _)).to (fun b q => .inl (less b q)) (fun _ _ _ e => e) (fun _ e => e)).rep hnc
  refine ⟨{ a with dist := ?_, fresh := fun b hb => a.fresh b (wrt_tail hb), vars := ?_, muts := ?_ }, hr⟩
  · exact List.nodup_cons.mpr ⟨fun h => hnd.1 ((List.mem_append.mp h).elim (fun q => List.mem_append.mpr (.inl q)) fun q => List.mem_append.mpr (.inr (.tail _ q))), List.nodup_append.mpr ⟨hnd2.1, (List.nodup_cons.mp hnd2.2.1).2, fun x hx y hy => hnd2.2.2 x hx y (.tail _ hy)⟩⟩
  · intro x e q
    rcases hv x e q with h | ⟨h, rfl⟩
    · exact (a.vars x e h).to (fun b q => .inl (less b q)) (fun _ _ _ e => e) (fun _ n => n) (fun _ _ _ n => n)
    · rcases a.vars x _ h with ⟨k, ml, v, n, e, r⟩ | ⟨k, c', v, e, n, r⟩
      · simp only [Rep] at r; subst r; exact .inl ⟨k, ml, _, n, e, hr⟩
      · simp only [Rep] at r; subst r; exact .inr ⟨k, c', _, e, n, hr⟩
  · exact fun p hp => (a.muts p (.tail _ hp)).to (fun b q => .inl (less b q)) (fun _ _ _ e => e) (fun _ e => e)
theorem At.dropMut {p : Addr × PV} (a : At prog w G B W Z env Xc (p :: D) σ s) : At prog w G B W Z env Xc D σ s := (a.freeze fun _ _ e => .inl e).1

/-- a turn of a loop: the heap at its start is the new base -/
theorem At.rebase (a : At prog w G B W Z env Xc D σ s) : At prog w G s.heap (wrt env D) Z env Xc D σ s :=
  { a with keep := fun _ _ _ e => e, fresh := fun b hb => ⟨(a.fresh b hb).1, .inl hb, (a.fresh b hb).2.2⟩ }
theorem At.back (a : At prog w G B W Z env Xc D σ s) (a' : At prog w G s.heap (wrt env D) Z env Xc D' σ' s') : At prog w G B W Z env Xc D' σ' s' := by
  refine { a' with keep := ?_, fresh := ?_ }
  · intro b o nb e
    refine a'.keep b o (fun hb => ?_) (a.keep b o nb e)
    rcases (a.fresh b hb).2.1 with k | k
    · exact nb k
    · rw [k] at e; cases e
  · intro b hb
    refine ⟨(a'.fresh b hb).1, ?_, (a'.fresh b hb).2.2⟩
    rcases (a'.fresh b hb).2.1 with k | k
    · exact (a.fresh b k).2.1
    · by_cases hW : W b
      · exact .inl hW
      · cases q : B.get? b with
        | none => exact .inr rfl
        | some o => have := a.keep b o hW q; rw [k] at this; cases this

theorem own_ins {J : List Addr} {b : Addr} (h : own env (ins J Xc) D b) : b ∈ J ∨ own env Xc D b := by
  rcases h with (h | h) | h | h | h
  · exact .inl h
  · exact .inr (.inl h)
  · exact .inr (.inr (.inl h))
  · exact .inr (.inr (.inr (.inl h)))
  · exact .inr (.inr (.inr (.inr h)))
theorem own_ins' {J : List Addr} {b : Addr} (h : own env Xc D b) : own env (ins J Xc) D b := by
  rcases h with h | h | h | h
  · exact .inl (.inr h)
  · exact .inr (.inl h)
  · exact .inr (.inr (.inl h))
  · exact .inr (.inr (.inr h))
theorem own_insJ {J : List Addr} {b : Addr} (h : b ∈ J) : own env (ins J Xc) D b := .inl (.inl h)

/-- what is known of addresses that somebody else changes -/
structure Apart (Z : Shared) (B : Heap) (W : Addr → Prop) (env : Env) (Xc : Addr → Prop) (J : List Addr) : Prop where
  z : ∀ I ∈ J, Z.heap.get? I = none
  b : ∀ I ∈ J, W I ∨ B.get? I = none
  l : ∀ I ∈ J, I ≠ env.locals
  c : ∀ I ∈ J, ∀ p ∈ env.cells, p.2 ≠ I
  x : ∀ I ∈ J, ¬ Xc I

theorem At.newXc {J : List Addr} (a : At prog w G B W Z env Xc D σ s) (hm : Same s s') (hg : Grow s.heap s'.heap) (hn : ∀ I ∈ J, s.heap.get? I = none) (hi : ∀ I ∈ J, ∃ o, s'.heap.get? I = some o) :
    At prog w G B W Z env (ins J Xc) D σ s' ∧ Apart Z B W env Xc J := by
  have ne : ∀ b, own env Xc D b → ∀ I ∈ J, b ≠ I := fun b hb I hI e => by
    obtain ⟨o, q⟩ := a.own_some hb
    rw [e, hn I hI] at q; cases q
  have hX : ∀ b, own env (ins J Xc) D b → own env Xc D b ∨ s.heap.get? b = none := fun b hb => (own_ins hb).elim (fun e => .inr (hn b e)) .inl
  have a' := a.grows hm hg
  refine ⟨{ a' with fresh := ?_, ex := ?_, vars := ?_, muts := ?_ }, ?_⟩
  · intro b hb
    refine ⟨(a.fresh b hb).1, (a.fresh b hb).2.1, fun h => h.elim (fun e => ne b (own_of_wrt hb) b e rfl) (a.fresh b hb).2.2⟩
  · intro b hb
    rcases hb with e | hb
    · exact hi b e
    · exact a'.ex b hb
  · exact fun x e q => (a.vars x e q).to hX (fun b o _ e => hg b o e) (fun ml n => n.keeps hg) (fun p _ v n => n.keeps hg)
  · exact fun p hp => (a.muts p hp).to hX (fun b o _ e => hg b o e) (fun o e => hg _ o e)
  · refine ⟨fun I hI => ?_, fun I hI => ?_, fun I hI e => ne _ (.inr (.inl rfl)) I hI e.symm, fun I hI p hp => ne _ (.inr (.inr (.inl (List.mem_map_of_mem hp)))) I hI, fun I hI h => ne I (.inl h) I hI rfl⟩
    · cases q : Z.heap.get? I with
      | none => rfl
      | some o => have := a.grow I o q; rw [hn I hI] at this; cases this
    · by_cases hW : W I
      · exact .inl hW
      · cases q : B.get? I with
        | none => exact .inr rfl
        | some o => have := a.keep I o hW q; rw [hn I hI] at this; cases this

theorem At.doneXc {J : List Addr} (a : At prog w G B W Z env (ins J Xc) D σ s) (p : Apart Z B W env Xc J) (hm : Same s s') (hk : ∀ b o, b ∉ J → s.heap.get? b = some o → s'.heap.get? b = some o) :
    At prog w G B W Z env Xc D σ s' := by
  have less : ∀ b, own env Xc D b → own env (ins J Xc) D b := fun b h => own_ins' h
  have kp : ∀ b o, ¬ own env (ins J Xc) D b → s.heap.get? b = some o → s'.heap.get? b = some o := fun b o nb e => hk b o (fun h => nb (own_insJ h)) e
  have hDI : ∀ q ∈ D, q.1 ∉ J := fun q hq e => (a.fresh q.1 (.inr (.inr (List.mem_map_of_mem hq)))).2.2 (.inl e)
  have nsk : ∀ ml, s.heap.Ns env.locals ml → s'.heap.Ns env.locals ml := fun ml n => n.at' fun o e => hk _ o (fun h => p.l _ h rfl) e
  have clk : ∀ q ∈ env.cells, ∀ v, s.heap.IsCell q.2 v → s'.heap.IsCell q.2 v := fun q hq v ⟨o, e, r⟩ => ⟨o, hk _ o (fun h => p.c _ h q hq rfl) e, r⟩
  refine { same := ?_, glob := a.glob, grow := ?_, keep := ?_, kind := a.kind, ns := let ⟨ml, n⟩ := a.ns; ⟨ml, nsk ml n⟩, cells := ?_, dist := a.dist, fresh := ?_, ex := ?_, vars := ?_, muts := ?_ }
  · obtain ⟨h, t, rfl⟩ := a.same; obtain ⟨h', t', rfl⟩ := hm; exact ⟨h', t', rfl⟩
  · exact fun b o e => hk b o (fun q => by rw [p.z b q] at e; cases e) (a.grow b o e)
  · intro b o nb e
    refine hk b o (fun q => ?_) (a.keep b o nb e)
    rcases p.b b q with k | k
    · exact nb k
    · rw [k] at e; cases e
  · exact fun q hq => let ⟨v, n⟩ := a.cells q hq; ⟨v, clk q hq v n⟩
  · exact fun b hb => ⟨(a.fresh b hb).1, (a.fresh b hb).2.1, fun h => (a.fresh b hb).2.2 (.inr h)⟩
  · intro b hb
    obtain ⟨o, q⟩ := a.ex b (.inr hb)
    exact ⟨o, hk b o (fun e => p.x b e hb) q⟩
  · exact fun x e q => (a.vars x e q).to (fun b q => .inl (less b q)) kp nsk clk
  · exact fun q hq => (a.muts q hq).to (fun b q => .inl (less b q)) kp (fun o e => hk _ o (hDI q hq) e)

theorem At.stepXc {J : List Addr} (a : At prog w G B W Z env (ins J Xc) D σ s) (p : Apart Z B W env Xc J) (hm : Same s s') (hk : ∀ b o, b ∉ J → s.heap.get? b = some o → s'.heap.get? b = some o) (hi : ∀ I ∈ J, ∃ o, s'.heap.get? I = some o) :
    At prog w G B W Z env (ins J Xc) D σ s' := by
  have a' := a.doneXc p hm hk
  have kp : ∀ b o, ¬ own env (ins J Xc) D b → s.heap.get? b = some o → s'.heap.get? b = some o := fun b o nb e => hk b o (fun h => nb (own_insJ h)) e
  have hDI : ∀ q ∈ D, q.1 ∉ J := fun q hq e => (a.fresh q.1 (.inr (.inr (List.mem_map_of_mem hq)))).2.2 (.inl e)
  have nsk : ∀ ml, s.heap.Ns env.locals ml → s'.heap.Ns env.locals ml := fun ml n => n.at' fun o e => hk _ o (fun h => p.l _ h rfl) e
  have clk : ∀ q ∈ env.cells, ∀ v, s.heap.IsCell q.2 v → s'.heap.IsCell q.2 v := fun q hq v ⟨o, e, r⟩ => ⟨o, hk _ o (fun h => p.c _ h q hq rfl) e, r⟩
  refine { a' with fresh := a.fresh, ex := ?_, vars := ?_, muts := ?_ }
  · intro b hb
    rcases hb with e | hb
    · exact hi b e
    · exact a'.ex b hb
  · exact fun x e q => (a.vars x e q).to (fun _ q => .inl q) kp nsk clk
  · exact fun q hq => (a.muts q hq).to (fun _ q => .inl q) kp (fun o e => hk _ o (hDI q hq) e)
end
end Mine
end

section
open PySem PySem.W PyProof.Rows
namespace Mine

structure Cx where
  prog : Program
  w : World
  A : Around
  G : Heap → Prop
  B : Heap
  W : Addr → Prop
  Z : Shared
  env : Env
  Xc : Addr → Prop

abbrev AtC (C : Cx) (D : Muts) (σ : Vars) (s : Shared) : Prop := At C.prog C.w C.G C.B C.W C.Z C.env C.Xc D σ s
abbrev RepC (C : Cx) (D : Muts) (s : Shared) (d : PV) (v : Value) : Prop := Rep C.prog C.w s.heap (own C.env C.Xc D) d v
abbrev RepLC (C : Cx) (D : Muts) (s : Shared) (d : List PV) (v : List Value) : Prop := RepL C.prog C.w s.heap (own C.env C.Xc D) d v
abbrev Go {α : Type} (C : Cx) (t : Sem α) (Q : α → Shared → Prop) (s : Shared) : Prop := wpAny (model C.prog C.w) C.A t Q (fun _ _ => False) s

/-- from s to s' nothing that stood was changed -/
structure Ext (s s' : Shared) : Prop where
  same : Same s s'
  grow : Grow s.heap s'.heap
theorem Ext.refl (s : Shared) : Ext s s := ⟨Same.refl s, Grow.refl _⟩
theorem Ext.trans {s s' s'' : Shared} (x : Ext s s') (y : Ext s' s'') : Ext s s'' := ⟨x.same.trans y.same, x.grow.trans y.grow⟩
theorem Ext.tok {s : Shared} {t : Nat} : Ext s { s with toks := t } := ⟨⟨s.heap, t, rfl⟩, Grow.refl _⟩
theorem Ext.mk' {s : Shared} {h : Heap} {t : Nat} (g : Grow s.heap h) : Ext s { s with heap := h, toks := t } := ⟨⟨h, t, rfl⟩, g⟩
theorem Ext.heap {s : Shared} {h : Heap} (g : Grow s.heap h) : Ext s { s with heap := h } := ⟨⟨h, s.toks, rfl⟩, g⟩
theorem Ext.push {s : Shared} (o : Obj) : Ext s { s with heap := s.heap.push o } := Ext.heap (Grow.push _ _)

/-- the tree ends with a value that stands for d; nothing that stood is changed -/
def Tv (C : Cx) (D : Muts) (t : Sem Value) (d : PV) (s : Shared) : Prop :=
  ∀ Q : Value → Shared → Prop, (∀ v s', Ext s s' → RepC C D s' d v → Q v s') → Go C t Q s
def Tb (C : Cx) (t : Sem Bool) (b : Bool) (s : Shared) : Prop :=
  ∀ Q : Bool → Shared → Prop, (∀ s', Ext s s' → Q b s') → Go C t Q s
def Ev (C : Cx) (D : Muts) (σ : Vars) (e : Expr) (d : PV) : Prop := ∀ s, AtC C D σ s → Tv C D (eval e C.env) d s
def EvB (C : Cx) (D : Muts) (σ : Vars) (e : Expr) (b : Bool) : Prop := ∀ s, AtC C D σ s → Tb C (isTrue e C.env (eval e C.env)) b s
def EvL (C : Cx) (D : Muts) (σ : Vars) (es : List Expr) (ds : List PV) : Prop := ∀ pos s, AtC C D σ s →
  ∀ Q : List Value → Shared → Prop, (∀ vs s', Ext s s' → RepLC C D s' ds vs → Q vs s') → Go C (spliced (backTo pos (starEach es C.env))) Q s

section
variable {C : Cx} {D : Muts} {σ : Vars} {s : Shared}
theorem AtC.ext {s' : Shared} (a : AtC C D σ s) (x : Ext s s') : AtC C D σ s' := a.grows x.same x.grow

theorem Tv.bind {α : Type} {t : Sem Value} {f : Value → Sem α} {d : PV} {Q : α → Shared → Prop} (h : Tv C D t d s) (k : ∀ v s', Ext s s' → RepC C D s' d v → Go C (f v) Q s') : Go C (t >>= f) Q s :=
  wpAny_bind (h _ k)
theorem Tv.pure {v : Value} {d : PV} (r : RepC C D s d v) : Tv C D (pure v) d s := fun _ k => wpAny_pure (k _ _ (Ext.refl s) r)
theorem Tv.toks {t : Sem Value} {v : Value} {d : PV} (h : ∀ Q : Value → Shared → Prop, (∀ n, Q v { s with toks := n }) → Go C t Q s) (r : RepC C D s d v) : Tv C D t d s :=
  fun Q k => h Q fun n => k _ _ Ext.tok r

theorem ev_name {x : Str} {pos : Pos} {d : PV} (h : σ.lookup x = some d) (hd : (x == ("__debug__" : Str)) = false := by decide) (hn : (x == ("__classdict__" : Str)) = false := by decide) : Ev C D σ (.Name x pos) d := by
  intro s a Q k
  refine wpAny_Name ?_ hd
  rcases a.vars x d h with ⟨hk, ml, v, n, e, r⟩ | ⟨hk, c, v, e, n, r⟩
  · exact wpAny_loadName_local a.kind hk n e (k v s (Ext.refl s) r)
  · rcases hk with hk | hk
    · exact wpAny_loadName_cell a.kind hk e n (k v s (Ext.refl s) r)
    · exact wpAny_loadName_free a.kind hk e n (k v s (Ext.refl s) r) hn

/-- what the calculus asks of the module's names -/
structure GOk (G : Heap → Prop) (mg mb : Str → Option Value) : Prop where
  mono : ∀ h h', G h → Grow h h' → G h'
  g : ∀ h, G h → h.Ns mainGlobals mg
  b : ∀ h, G h → h.Ns builtinsNs mb
  lim : ∀ h, G h → h.NoLimit

theorem ev_global {mg mb : Str → Option Value} {x : Str} {pos : Pos} {v : Value} (g : GOk C.G mg mb) (hx : C.env.kindOf x = some .globalImplicit) (hv : ∀ h, C.G h → mg x = some v) (hg : C.env.globals = mainGlobals := by rfl)
    (hd : (x == ("__debug__" : Str)) = false := by decide) : Ev C D σ (.Name x pos) (.raw v) := by
  intro s a Q k
  refine Calls.Name_function_global a.kind hx (Calls.loadGlobal_global (mg := mg) ?_ (hv _ (a.globNow g.mono)) (k v s (Ext.refl s) ?_)) hd
  · rw [hg]; exact g.g _ (a.globNow g.mono)
  · simp only [RepC, Rep]
theorem ev_builtin {mg mb : Str → Option Value} {x : Str} {pos : Pos} {v : Value} (g : GOk C.G mg mb) (hx : C.env.kindOf x = some .globalImplicit) (hm : ∀ h, C.G h → mg x = none) (hv : ∀ h, C.G h → mb x = some v) (hg : C.env.globals = mainGlobals := by rfl) (hb : C.env.builtins = builtinsNs := by rfl)
    (hd : (x == ("__debug__" : Str)) = false := by decide) : Ev C D σ (.Name x pos) (.raw v) := by
  intro s a Q k
  refine Calls.Name_function_global a.kind hx (Calls.loadGlobal_builtin (mg := mg) (mb := mb) ?_ (hm _ (a.globNow g.mono)) ?_ (hv _ (a.globNow g.mono)) (k v s (Ext.refl s) ?_)) hd
  · rw [hg]; exact g.g _ (a.globNow g.mono)
  · rw [hb]; exact g.b _ (a.globNow g.mono)
  · simp only [RepC, Rep]

theorem ev_int {i : Int} {k : Nat} {pos : Pos} : Ev C D σ (.Constant (.int i) k pos) (.int i) := fun s _ Q q => wpAny_Constant_int (q _ _ Ext.tok (by simp only [RepC, Rep]; exact ⟨_, rfl⟩))
theorem ev_str {x : Str} {k : Nat} {pos : Pos} : Ev C D σ (.Constant (.str x) k pos) (.str x) := fun s _ Q q => wpAny_Constant_str (q _ _ Ext.tok (by simp only [RepC, Rep]; exact ⟨_, rfl⟩))
theorem ev_none {k : Nat} {pos : Pos} : Ev C D σ (.Constant .none k pos) .none := fun s _ Q q => wpAny_Constant_none (q _ _ (Ext.refl s) (by simp only [RepC, Rep]))
theorem ev_bool {b : Bool} {k : Nat} {pos : Pos} : Ev C D σ (.Constant (.bool b) k pos) (.bool b) := fun s _ Q q => wpAny_Constant_bool (q _ _ (Ext.refl s) (by simp only [RepC, Rep]))

/-- an operation of two values -/
def Op2 (C : Cx) (D : Muts) (σ : Vars) (f : Value → Value → Sem Value) (a b d : PV) : Prop := ∀ s u v, AtC C D σ s → RepC C D s a u → RepC C D s b v → Tv C D (f u v) d s
def Op1 (C : Cx) (D : Muts) (σ : Vars) (f : Value → Sem Value) (a d : PV) : Prop := ∀ s u, AtC C D σ s → RepC C D s a u → Tv C D (f u) d s

theorem ev_binop {l r : Expr} {op : Operator} {pos : Pos} {a b d : PV} (el : Ev C D σ l a) (er : Ev C D σ r b) (o : Op2 C D σ (binaryOp op) a b d) : Ev C D σ (.BinOp l op r pos) d := by
  intro s h Q k
  refine wpAny_BinOp (el s h _ fun u s₁ x₁ r₁ => er s₁ (h.ext x₁) _ fun v s₂ x₂ r₂ => o s₂ u v (h.ext (x₁.trans x₂)) (r₁.grow x₂.grow) r₂ _ fun z s₃ x₃ r₃ => k z s₃ ((x₁.trans x₂).trans x₃) r₃)
theorem ev_compare {l r : Expr} {op : CmpOp} {pos : Pos} {a b d : PV} (el : Ev C D σ l a) (er : Ev C D σ r b) (o : Op2 C D σ (compareOp op) a b d) (hm : behindInMarks op r = false := by with_unfolding_all rfl) : Ev C D σ (.Compare l [op] [r] pos) d := by
  intro s h Q k
  refine wpAny_Compare1 (el s h _ fun u s₁ x₁ r₁ => er s₁ (h.ext x₁) _ fun v s₂ x₂ r₂ => o s₂ u v (h.ext (x₁.trans x₂)) (r₁.grow x₂.grow) r₂ _ fun z s₃ x₃ r₃ => k z s₃ ((x₁.trans x₂).trans x₃) r₃) hm
theorem evb_compare {l r : Expr} {op : CmpOp} {pos : Pos} {a b : PV} {c : Bool} (el : Ev C D σ l a) (er : Ev C D σ r b) (o : Op2 C D σ (compareOp op) a b (.bool c)) (hm : behindInMarks op r = false := by with_unfolding_all rfl) : EvB C D σ (.Compare l [op] [r] pos) c := by
  intro s h Q k
  refine wpAny_isTrue_Compare1 (el s h _ fun u s₁ x₁ r₁ => er s₁ (h.ext x₁) _ fun v s₂ x₂ r₂ => o s₂ u v (h.ext (x₁.trans x₂)) (r₁.grow x₂.grow) r₂ _ fun z s₃ x₃ r₃ => ?_) hm
  simp only [RepC, Rep] at r₃
  subst r₃
  exact wpAny_truthy_bool (k s₃ ((x₁.trans x₂).trans x₃))
theorem ev_unary {x : Expr} {op : UnaryOp} {pos : Pos} {a d : PV} (el : Ev C D σ x a) (o : Op1 C D σ (unaryOp op) a d) : Ev C D σ (.UnaryOp op x pos) d := by
  intro s h Q k
  exact wpAny_UnaryOp (el s h _ fun u s₁ x₁ r₁ => o s₁ u (h.ext x₁) r₁ _ fun z s₃ x₃ r₃ => k z s₃ (x₁.trans x₃) r₃)
theorem ev_ifexp {t b o : Expr} {pos : Pos} {c : Bool} {d : PV} (et : EvB C D σ t c) (eb : c = true → Ev C D σ b d) (eo : c = false → Ev C D σ o d) : Ev C D σ (.IfExp t b o pos) d := by
  intro s h Q k
  refine wpAny_IfExp (et s h _ fun s₁ x₁ => ?_)
  cases hc : c with
  | true => exact eb hc s₁ (h.ext x₁) _ fun v s₂ x₂ r => k v s₂ (x₁.trans x₂) r
  | false => exact eo hc s₁ (h.ext x₁) _ fun v s₂ x₂ r => k v s₂ (x₁.trans x₂) r

theorem int_of {s : Shared} {i : Int} {v : Value} (r : RepC C D s (.int i) v) : ∃ t, v = .int i t := by simpa only [RepC, Rep] using r
theorem str_of {s : Shared} {i : Str} {v : Value} (r : RepC C D s (.str i) v) : ∃ t, v = .str i t := by simpa only [RepC, Rep] using r
theorem bool_of {s : Shared} {i : Bool} {v : Value} (r : RepC C D s (.bool i) v) : v = .bool i := by simpa only [RepC, Rep] using r
theorem bytes_of {s : Shared} {i : Array UInt8} {v : Value} (r : RepC C D s (.bytes i) v) : ∃ t, v = .bytes i t := by simpa only [RepC, Rep] using r
theorem raw_of {s : Shared} {i : Value} {v : Value} (r : RepC C D s (.raw i) v) : v = i := by simpa only [RepC, Rep] using r
theorem of_int {s : Shared} {i : Int} {t : Tok} : RepC C D s (.int i) (.int i t) := by simp only [RepC, Rep]; exact ⟨_, rfl⟩
theorem of_str {s : Shared} {i : Str} {t : Tok} : RepC C D s (.str i) (.str i t) := by simp only [RepC, Rep]; exact ⟨_, rfl⟩
theorem of_bool {s : Shared} {i : Bool} : RepC C D s (.bool i) (.bool i) := by simp only [RepC, Rep]
theorem of_bytes {s : Shared} {i : Array UInt8} {t : Tok} : RepC C D s (.bytes i) (.bytes i t) := by simp only [RepC, Rep]; exact ⟨_, rfl⟩

theorem op_add {a b : Int} : Op2 C D σ (binaryOp .Add) (.int a) (.int b) (.int (a + b)) := by
  intro s u v _ ru rv Q k
  obtain ⟨t, rfl⟩ := int_of ru; obtain ⟨t', rfl⟩ := int_of rv
  exact PyProof.Rows.add_int (k _ _ Ext.tok of_int)
theorem op_sub {a b : Int} : Op2 C D σ (binaryOp .Sub) (.int a) (.int b) (.int (a - b)) := by
  intro s u v _ ru rv Q k
  obtain ⟨t, rfl⟩ := int_of ru; obtain ⟨t', rfl⟩ := int_of rv
  exact PyProof.Rows.sub_int (k _ _ Ext.tok of_int)
theorem op_mul {a b : Int} (h : IntMulOk a b) : Op2 C D σ (binaryOp .Mult) (.int a) (.int b) (.int (a * b)) := by
  intro s u v _ ru rv Q k
  obtain ⟨t, rfl⟩ := int_of ru; obtain ⟨t', rfl⟩ := int_of rv
  exact PyProof.Rows.mul_int (k _ _ Ext.tok of_int) h
theorem op_mod {a b : Int} (hb : b ≠ 0) : Op2 C D σ (binaryOp .Mod) (.int a) (.int b) (.int (a.fmod b)) := by
  intro s u v _ ru rv Q k
  obtain ⟨t, rfl⟩ := int_of ru; obtain ⟨t', rfl⟩ := int_of rv
  exact PyProof.Rows.mod_int hb (k _ _ Ext.tok of_int)
theorem op_floordiv {a b : Int} (hb : b ≠ 0) (hp : Builtin.divisionGoesByPylong a b = false) : Op2 C D σ (binaryOp .FloorDiv) (.int a) (.int b) (.int (a.fdiv b)) := by
  intro s u v _ ru rv Q k
  obtain ⟨t, rfl⟩ := int_of ru; obtain ⟨t', rfl⟩ := int_of rv
  exact PyProof.Rows.floordiv_int hb (k _ _ Ext.tok of_int) (.inl hp)
theorem op_pow {a b : Int} (h0 : 0 ≤ b) (h1 : b ≤ 1000000) (ha : a.natAbs < 2 ^ 64) : Op2 C D σ (binaryOp .Pow) (.int a) (.int b) (.int (a ^ b.toNat)) := by
  intro s u v _ ru rv Q k
  obtain ⟨t, rfl⟩ := int_of ru; obtain ⟨t', rfl⟩ := int_of rv
  exact PyProof.Rows.pow_int_small h0 h1 ha (k _ _ Ext.tok of_int)
theorem op_lt {a b : Int} : Op2 C D σ (compareOp .Lt) (.int a) (.int b) (.bool (decide (a < b))) := by
  intro s u v _ ru rv Q k
  obtain ⟨t, rfl⟩ := int_of ru; obtain ⟨t', rfl⟩ := int_of rv
  exact PyProof.Rows.lt_int (k _ _ (Ext.refl _) of_bool)
theorem op_gt {a b : Int} : Op2 C D σ (compareOp .Gt) (.int a) (.int b) (.bool (decide (b < a))) := by
  intro s u v _ ru rv Q k
  obtain ⟨t, rfl⟩ := int_of ru; obtain ⟨t', rfl⟩ := int_of rv
  exact PyProof.Rows.gt_int (k _ _ (Ext.refl _) of_bool)
theorem op_ge {a b : Int} : Op2 C D σ (compareOp .GtE) (.int a) (.int b) (.bool (decide (b ≤ a))) := by
  intro s u v _ ru rv Q k
  obtain ⟨t, rfl⟩ := int_of ru; obtain ⟨t', rfl⟩ := int_of rv
  exact PyProof.Rows.ge_int (k _ _ (Ext.refl _) of_bool)
theorem op_eq {a b : Int} : Op2 C D σ (compareOp .Eq) (.int a) (.int b) (.bool (a == b)) := by
  intro s u v _ ru rv Q k
  obtain ⟨t, rfl⟩ := int_of ru; obtain ⟨t', rfl⟩ := int_of rv
  exact PyProof.Rows.eq_int (k _ _ (Ext.refl _) of_bool)
theorem op_ne {a b : Int} : Op2 C D σ (compareOp .NotEq) (.int a) (.int b) (.bool (a != b)) := by
  intro s u v _ ru rv Q k
  obtain ⟨t, rfl⟩ := int_of ru; obtain ⟨t', rfl⟩ := int_of rv
  exact PyProof.Rows.ne_int (k _ _ (Ext.refl _) of_bool)
theorem op_neg {a : Int} : Op1 C D σ (unaryOp .USub) (.int a) (.int (-a)) := by
  intro s u _ ru Q k
  obtain ⟨t, rfl⟩ := int_of ru
  exact PyProof.Rows.neg_int (k _ _ Ext.tok of_int)
theorem op_strEq {a b : Str} : Op2 C D σ (compareOp .Eq) (.str a) (.str b) (.bool (a == b)) := by
  intro s u v _ ru rv Q k
  obtain ⟨t, rfl⟩ := str_of ru; obtain ⟨t', rfl⟩ := str_of rv
  exact PyProof.Rows.eq_str (k _ _ (Ext.refl _) of_bool)
theorem op_strNe {a b : Str} : Op2 C D σ (compareOp .NotEq) (.str a) (.str b) (.bool (a != b)) := by
  intro s u v _ ru rv Q k
  obtain ⟨t, rfl⟩ := str_of ru; obtain ⟨t', rfl⟩ := str_of rv
  exact PyProof.Rows.ne_str (k _ _ (Ext.refl _) of_bool)
theorem op_strLt {a b : Str} : Op2 C D σ (compareOp .Lt) (.str a) (.str b) (.bool (decide (a.cps.toList < b.cps.toList))) := by
  intro s u v _ ru rv Q k
  obtain ⟨t, rfl⟩ := str_of ru; obtain ⟨t', rfl⟩ := str_of rv
  exact PyProof.Rows.lt_str (k _ _ (Ext.refl _) of_bool)
theorem op_strGt {a b : Str} : Op2 C D σ (compareOp .Gt) (.str a) (.str b) (.bool (decide (b.cps.toList < a.cps.toList))) := by
  intro s u v _ ru rv Q k
  obtain ⟨t, rfl⟩ := str_of ru; obtain ⟨t', rfl⟩ := str_of rv
  exact PySem.P.gt_str (k _ _ (Ext.refl _) of_bool)

theorem evl_nil : EvL C D σ [] [] := fun pos s _ Q k => wpAny_items_nil (k [] s (Ext.refl s) RepL.nil)
theorem evl_cons {e : Expr} {es : List Expr} {d : PV} {ds : List PV} (h : Ev C D σ e d) (hs : EvL C D σ es ds) (he : starEach (e :: es) C.env = (false, eval e C.env) :: starEach es C.env := by rfl) : EvL C D σ (e :: es) (d :: ds) :=
  fun pos s a Q k => wpAny_items_cons (h s a _ fun v s₁ x₁ r₁ => hs pos s₁ (a.ext x₁) _ fun vs s₂ x₂ r₂ => k _ _ (x₁.trans x₂) (RepL.cons (r₁.grow x₂.grow) r₂)) he

theorem fresh_none (h : Heap) : h.get? h.objs.size = none := by
  cases e : h.get? h.objs.size with
  | none => rfl
  | some o => exact absurd (Heap.lt_size e) (Nat.lt_irrefl _)
theorem not_own_fresh (a : AtC C D σ s) : ¬ own C.env C.Xc D s.heap.objs.size := fun h => by
  obtain ⟨o, e⟩ := a.own_some h
  rw [fresh_none] at e; cases e

theorem tv_tuple {vs : List Value} {ds : List PV} (a : AtC C D σ s) (r : RepLC C D s ds vs) (hsz : vs.length ≤ sizeLine) : Tv C D (newTuple vs) (.tup ds) s := by
  intro Q k
  refine wpAny_newObj_type (k _ _ (Ext.push _) ?_) (by show vs.toArray.size ≤ sizeLine; rw [List.size_toArray]; exact hsz)
  simp only [RepC, Rep]
  exact ⟨_, rfl, not_own_fresh a, vs, ⟨_, Heap.get?_push_size _ rfl, rfl, _, rfl⟩, r.grow (Grow.push _ _)⟩
theorem tv_list {vs : List Value} {ds : List PV} (a : AtC C D σ s) (r : RepLC C D s ds vs) (hsz : vs.length ≤ sizeLine) : Tv C D (newList vs) (.lst ds) s := by
  intro Q k
  refine wpAny_newObj_type (k _ _ (Ext.push _) ?_) (by show vs.toArray.size ≤ sizeLine; rw [List.size_toArray]; exact hsz)
  simp only [RepC, Rep]
  exact ⟨_, rfl, not_own_fresh a, vs, ⟨_, Heap.get?_push_size _ rfl⟩, r.grow (Grow.push _ _)⟩
theorem ev_tuple {es : List Expr} {k : Nat} {pos : Pos} {ds : List PV} (h : EvL C D σ es ds) (hsz : ds.length ≤ sizeLine) : Ev C D σ (.Tuple es k pos) (.tup ds) := by
  intro s a Q q
  exact Tuple_ (h pos s a _ fun vs s₁ x₁ r₁ => tv_tuple (a.ext x₁) r₁ (by rw [RepL.length r₁]; exact hsz) _ fun v s₂ x₂ r₂ => q v s₂ (x₁.trans x₂) r₂)
theorem ev_list {es : List Expr} {pos : Pos} {ds : List PV} (h : EvL C D σ es ds) (hsz : ds.length ≤ sizeLine) : Ev C D σ (.List es pos) (.lst ds) := by
  intro s a Q q
  exact List_ (h pos s a _ fun vs s₁ x₁ r₁ => tv_list (a.ext x₁) r₁ (by rw [RepL.length r₁]; exact hsz) _ fun v s₂ x₂ r₂ => q v s₂ (x₁.trans x₂) r₂)
end
end Mine
end

section
open PySem PySem.W PyProof.Rows
namespace Mine

def Room (A : Around) (n : Nat) : Prop := A.handled = none ∧ A.depth + n < 900 ∧ A.units + 8 * n < 9000
theorem Room.less {A : Around} {n m : Nat} (r : Room A n) (h : m ≤ n) : Room A m := ⟨r.1, by have := r.2.1; omega, by have := r.2.2; omega⟩
theorem Room.deeper {A : Around} {n : Nat} (r : Room A (n + 1)) (env : Env) : Room (A.deeper env) n := ⟨r.1, by show A.depth + 1 + n < 900; have := r.2.1; omega, by show A.units + 3 + 8 * n < 9000; have := r.2.2; omega⟩

/-- the contract of a def: arguments that stand for ds, an answer that stands for d -/
def FnOk (prog : Program) (w : World) (G : Heap → Prop) (f : Addr) (n : Nat) (ds : List PV) (d : PV) : Prop :=
  ∀ (A : Around) (s : Shared) (vs : List Value) (X : Addr → Prop) (Q : Value → Shared → Prop), Room A n → G s.heap → (∀ b, X b → ∃ o, s.heap.get? b = some o) → RepL prog w s.heap X ds vs →
    (∀ v s', Ext s s' → Rep prog w s'.heap X d v → Q v s') → wpAny (model prog w) A (call (.ref f) vs) Q (fun _ _ => False) s
theorem FnOk.more {prog : Program} {w : World} {G : Heap → Prop} {f : Addr} {n m : Nat} {ds : List PV} {d : PV} (h : FnOk prog w G f n ds d) (le : n ≤ m) : FnOk prog w G f m ds d :=
  fun A s vs X Q r => h A s vs X Q (r.less le)

/-- how a body ends -/
def RetOk (C : Cx) (d : PV) (fl : Flow) (s' : Shared) : Prop := ∃ v, (fl = .ret v) ∧ Ext C.Z s' ∧ Rep C.prog C.w s'.heap C.Xc d v

theorem bindL_off {kindOf : Str → Option NameKind} {x : Str} : ∀ (bs : List (Str × Value)) (m : Str → Option Value), x ∉ bs.map (·.1) → bindL kindOf bs m x = m x
  | [], m, _ => rfl
  | (n, v) :: r, m, h => by
    rw [List.map_cons, List.mem_cons, not_or] at h
    unfold bindL
    rw [bindL_off r _ h.2]
    split
    · exact if_neg h.1
    · rfl
theorem bindC_off {kindOf : Str → Option NameKind} {x : Str} : ∀ (bs : List (Str × Value)) (m : Str → Option Value), x ∉ bs.map (·.1) → bindC kindOf bs m x = m x
  | [], m, _ => rfl
  | (n, v) :: r, m, h => by
    rw [List.map_cons, List.mem_cons, not_or] at h
    unfold bindC
    rw [bindC_off r _ h.2]
    split
    · rfl
    · exact if_neg h.1
theorem bindL_at {kindOf : Str → Option NameKind} {x : Str} {v : Value} (hk : kindOf x = some .local) : ∀ (bs : List (Str × Value)) (m : Str → Option Value), (bs.map (·.1)).Nodup → (x, v) ∈ bs → bindL kindOf bs m x = some v
  | (n, u) :: r, m, hn, h => by
    rw [List.map_cons, List.nodup_cons] at hn
    unfold bindL
    rcases List.mem_cons.mp h with e | h
    · cases e
      rw [bindL_off r _ hn.1, if_pos hk]; exact if_pos rfl
    · exact bindL_at hk r _ hn.2 h
theorem bindC_at {kindOf : Str → Option NameKind} {x : Str} {v : Value} (hk : kindOf x ≠ some .local) : ∀ (bs : List (Str × Value)) (m : Str → Option Value), (bs.map (·.1)).Nodup → (x, v) ∈ bs → bindC kindOf bs m x = some v
  | (n, u) :: r, m, hn, h => by
    rw [List.map_cons, List.nodup_cons] at hn
    unfold bindC
    rcases List.mem_cons.mp h with e | h
    · cases e
      rw [bindC_off r _ hn.1, if_neg hk]; exact if_pos rfl
    · exact bindC_at hk r _ hn.2 h
theorem zip_names : ∀ {ns : List Str} {vs : List Value}, vs.length = ns.length → (ns.zip vs).map (·.1) = ns
  | [], vs, _ => by simp
  | n :: ns, [], h => by simp at h
  | n :: ns, v :: vs, h => by simp [zip_names (ns := ns) (vs := vs) (by simpa using h)]
theorem zip_lookup {prog : Program} {w : World} {h : Heap} {X : Addr → Prop} {x : Str} {d : PV} : ∀ {ns : List Str} {ds : List PV} {vs : List Value}, RepL prog w h X ds vs → (ns.zip ds).lookup x = some d → ∃ v, (x, v) ∈ ns.zip vs ∧ Rep prog w h X d v
  | [], _, _, _, e => by simp at e
  | n :: ns, [], _, _, e => by simp at e
  | n :: ns, d' :: ds, vs, r, e => by
    simp only [RepL] at r
    obtain ⟨v, q, rfl, hd, hl⟩ := r
    rw [List.zip_cons_cons, List.lookup_cons] at e
    split at e
    · rename_i hb; cases e; rw [eq_of_beq hb]; exact ⟨v, .head _, hd⟩
    · obtain ⟨v', hm, hr⟩ := zip_lookup hl e; exact ⟨v', .tail _ hm, hr⟩

theorem fn_intro {prog : Program} {w : World} {G : Heap → Prop} {mg mb : Str → Option Value} {f : Addr} {n : Nat} {fd : FuncData} {body : List Stmt} (names : List Str) {ds : List PV} {d : PV} (g : GOk G mg mb)
    (hf : ∀ h, G h → ∃ o, h.get? f = some o ∧ o.data = .func fd ∧ h.CodeRec fd.code fd.qualname)
    (hbody : fd.body = .stmts body) (hcl : fd.closure = []) (hk : fd.scope.kind = .function) (hco : fd.scope.isCoroutine = false) (hgen : fd.scope.isGenerator = false)
    (hlen : ds.length = names.length) (hbind : ∀ vs : List Value, vs.length = names.length → bindArgs fd ⟨vs, []⟩ = pure (names.zip vs))
    (hkind : (names.all fun x => fd.scope.names.lookup x == some .local || fd.scope.names.lookup x == some .cell) = true)
    (hnd : names.Nodup) (hcn : ((cellsFrom 0 fd.scope.names []).map (·.1)).Nodup)
    (h : ∀ (A : Around) (Z : Shared) (X : Addr → Prop) (L : Addr) (s : Shared), Room A n → AtC ⟨prog, w, A, G, Z.heap, fun _ => False, Z, callEnvC fd L f, X⟩ [] (names.zip ds) s →
      Go ⟨prog, w, A, G, Z.heap, fun _ => False, Z, callEnvC fd L f, X⟩ (execs body (callEnvC fd L f)) (RetOk ⟨prog, w, A, G, Z.heap, fun _ => False, Z, callEnvC fd L f, X⟩ d) s) :
    FnOk prog w G f (n + 1) ds d := by
  intro A s vs X Q room hG hX hr hQ
  obtain ⟨o, ho, hd, hc⟩ := hf _ hG
  have hvl : vs.length = names.length := (RepL.length hr).trans hlen
  refine wpAny_call (codeAny_call_function (by have := room.2.1; show A.depth < 1000; omega) ho hd hco hgen hbody hc ?_)
  rw [hbind vs hvl, hcl]
  refine wpAny_pure ?_
  have hkx : ∀ n', ∀ x ∈ names.zip vs, fd.scope.names.lookup x.1 = some .local ∨ (fd.scope.names.lookup x.1 = some .cell ∧ ((cellsFrom n' fd.scope.names []).lookup x.1).isSome = true) := by
    refine kindsX ?_
    rw [List.all_eq_true] at hkind ⊢
    intro y hy
    have : y.1 ∈ names := by rw [← zip_names hvl]; exact List.mem_map_of_mem hy
    exact hkind y.1 this
  refine wpAny_newFunctionEnv_cells hk (hkx _) fun env he s' x => ?_
  obtain ⟨⟨hsm, hns, hkeep, _⟩, hcell, hap, hab⟩ := x
  have hel : env.locals = s.heap.objs.size := by rw [he]; rfl
  have hec : env.cells = cellsFrom (s.heap.objs.size + 1) fd.scope.names [] := by rw [he]; rfl
  have hee : env = callEnvC fd s.heap.objs.size f := he
  have hcn' : (env.cells.map (·.1)).Nodup := by rw [hec, cellsFrom_names fd.scope.names _ 0 [] [] rfl]; exact hcn
  have fresh : ∀ a, s.heap.objs.size ≤ a → s.heap.get? a = none := fun a ha => by
    cases e : s.heap.get? a with
    | none => rfl
    | some o' => exact absurd (Heap.lt_size e) (Nat.not_lt.mpr ha)
  refine ⟨(g.lim _ hG).keeps hkeep, codeAny_func ?_⟩
  have hcell' : ∀ p ∈ env.cells, s'.heap.IsCell p.2 (bindC env.kindOf (names.zip vs) (fun _ => none) p.1) := fun p hp => hcell p.1 p.2 (lookup_of_mem_nodup hcn' hp)
  have habove : ∀ p ∈ env.cells, s.heap.objs.size < p.2 := fun p hp => hel ▸ hab p.1 p.2 hp
  have hwfresh : ∀ b, own env (fun _ => False) ([] : Muts) b → s.heap.get? b = none := by
    intro b hb
    rcases hb with hb | hb | hb | hb
    · exact hb.elim
    · rw [hb, hel]; exact fresh _ (Nat.le_refl _)
    · obtain ⟨p, hp, e⟩ := List.mem_map.mp hb
      rw [← e]; exact fresh _ (Nat.le_of_lt (habove p hp))
    · cases hb
  have hXown : ∀ b, own env X ([] : Muts) b → X b ∨ s.heap.get? b = none := by
    intro b hb
    rcases hb with hb | hb
    · exact .inl hb
    · exact .inr (hwfresh b (.inr hb))
  have hat : AtC ⟨prog, w, A.deeper env, G, s.heap, fun _ => False, s, env, X⟩ [] (names.zip ds) s' := by
    refine { same := ?_, glob := hG, grow := hkeep, keep := fun b o _ e => hkeep b o e, kind := by rw [hee]; exact hk, ns := ⟨_, hns⟩, cells := fun p hp => ⟨_, hcell' p hp⟩, dist := ?_, fresh := ?_, ex := ?_, vars := ?_, muts := fun p hp => nomatch hp }
    · obtain ⟨h', tk, e⟩ := hsm; exact ⟨h', tk, e⟩
    · refine List.nodup_cons.mpr ⟨?_, ?_⟩
      · intro hm
        rw [List.map_nil, List.append_nil] at hm
        obtain ⟨p, hp, e⟩ := List.mem_map.mp hm
        have := habove p hp
        rw [e, hel] at this
        exact Nat.lt_irrefl _ this
      · rw [List.map_nil, List.append_nil]
        exact List.Pairwise.map _ (fun _ _ h => h) hap
    · intro b hb
      have hn := hwfresh b (by
        rcases hb with h | ⟨_, h⟩ | h
        · exact .inr (.inl h)
        · exact .inr (.inr (.inl h))
        · cases h)
      exact ⟨hn, .inr hn, fun hx => by obtain ⟨o, e⟩ := hX b hx; rw [hn] at e; cases e⟩
    · exact fun b hb => let ⟨o, e⟩ := hX b hb; ⟨o, hkeep b o e⟩
    · intro y d' e
      obtain ⟨v, hm, hrv⟩ := zip_lookup (hr) e
      have hrv' : Rep prog w s'.heap (own env X []) d' v := Rep.to hXown (fun b o _ e => hkeep b o e) _ _ hrv
      have hnz : ((names.zip vs).map (·.1)).Nodup := by rw [zip_names hvl]; exact hnd
      have hko : env.kindOf y = fd.scope.names.lookup y := by rw [hee]; rfl
      rcases hkx (s.heap.objs.size + 1) _ hm with hl | ⟨hl, hci⟩
      · exact .inl ⟨hko.trans hl, _, v, hns, bindL_at (hko.trans hl) _ _ hnz hm, hrv'⟩
      · obtain ⟨c, hc⟩ := Option.isSome_iff_exists.mp hci
        rw [← hec] at hc
        have := hcell _ _ hc
        rw [bindC_at (by rw [hko, hl]; decide) _ _ hnz hm] at this
        exact .inr ⟨.inl (hko.trans hl), c, v, hc, this, hrv'⟩
  subst hee
  refine wpAny_mono (h _ _ _ _ _ (room.deeper _) hat) (fun fl s'' hq => ?_) fun _ _ e => e.elim
  obtain ⟨v, rfl, x, r⟩ := hq
  exact hQ v s'' x r

section
variable {C : Cx} {D : Muts} {σ : Vars} {s : Shared}

/-- a call of a def of the text -/
theorem tv_fn {f : Addr} {n : Nat} {ds : List PV} {d : PV} {vs : List Value} (F : FnOk C.prog C.w C.G f n ds d) (rm : Room C.A n) {mg mb : Str → Option Value} (g : GOk C.G mg mb) (a : AtC C D σ s) (r : RepLC C D s ds vs) : Tv C D (call (.ref f) vs) d s :=
  fun Q k => F C.A s vs _ Q rm (a.globNow g.mono) (fun b hb => a.own_some hb) r k

theorem ev_call_fn {fx : Str} {np : Pos} {f : Addr} {n : Nat} {fd : FuncData} {e : Expr} {es : List Expr} {pos : Pos} {ds : List PV} {d : PV} {mg mb : Str → Option Value} (g : GOk C.G mg mb) (hf : Ev C D σ (.Name fx np) (.raw (.ref f)))
    (hfd : ∀ h, C.G h → ∃ o, h.get? f = some o ∧ o.data = .func fd ∧ h.CodeRec fd.code fd.qualname) (F : FnOk C.prog C.w C.G f n ds d) (rm : Room C.A n) (h : EvL C D σ (e :: es) ds)
    (he : starEach (e :: es) C.env = (false, eval e C.env) :: starEach es C.env := by rfl) : Ev C D σ (.Call (.Name fx np) (e :: es) [] pos) d := by
  intro s a Q k
  refine wpAny_Call_NameR (hf s a _ fun v s₁ x₁ r₁ => ?_)
  have := raw_of r₁
  subst this
  obtain ⟨o, ho, hdat, _⟩ := hfd _ ((a.ext x₁).globNow g.mono)
  refine Calls.callWith_function (o := o) (fd := fd) ?_
  rw [he]
  refine Calls.evalArgs_plain ?_
  have hl := h pos s₁ (a.ext x₁)
  rw [he] at hl
  refine hl _ fun vs s₂ x₂ r₂ => ⟨⟨x₂.grow _ _ ho, hdat⟩, ?_⟩
  exact tv_fn F rm g (a.ext (x₁.trans x₂)) r₂ Q fun v s₃ x₃ r₃ => k v s₃ ((x₁.trans x₂).trans x₃) r₃

/-- a call of a builtin function -/
theorem ev_call_builtin {fx : Str} {np : Pos} {id : String} {e : Expr} {es : List Expr} {pos : Pos} {ds : List PV} {d : PV} (hf : Ev C D σ (.Name fx np) (.raw (.builtin id))) (h : EvL C D σ (e :: es) ds)
    (hc : ∀ s vs, AtC C D σ s → RepLC C D s ds vs → Tv C D (call (.builtin id) vs) d s)
    (he : starEach (e :: es) C.env = (false, eval e C.env) :: starEach es C.env := by rfl) (hplain : (backTo pos (starEach es C.env)).any (·.1) = false := by rfl) : Ev C D σ (.Call (.Name fx np) (e :: es) [] pos) d := by
  intro s a Q k
  refine wpAny_Call_NameR (hf s a _ fun v s₁ x₁ r₁ => ?_)
  have := raw_of r₁
  subst this
  rw [he]
  refine Calls.callWith_builtin (by show (false || (backTo pos (starEach es C.env)).any (·.1)) = false; rw [hplain]; rfl) ?_
  refine Calls.evalArgs_plain ?_
  have hl := h pos s₁ (a.ext x₁)
  rw [he] at hl
  refine hl _ fun vs s₂ x₂ r₂ => ?_
  exact hc s₂ vs (a.ext (x₁.trans x₂)) r₂ Q fun v s₃ x₃ r₃ => k v s₃ ((x₁.trans x₂).trans x₃) r₃
/-- a call of a built-in class -/
theorem ev_call_type {fx : Str} {np : Pos} {id : String} {e : Expr} {es : List Expr} {pos : Pos} {ds : List PV} {d : PV} (hf : Ev C D σ (.Name fx np) (.raw (.type id))) (h : EvL C D σ (e :: es) ds)
    (hc : ∀ s vs, AtC C D σ s → RepLC C D s ds vs → Tv C D (call (.type id) vs) d s)
    (he : starEach (e :: es) C.env = (false, eval e C.env) :: starEach es C.env := by rfl) (hplain : (backTo pos (starEach es C.env)).any (·.1) = false := by rfl) : Ev C D σ (.Call (.Name fx np) (e :: es) [] pos) d := by
  intro s a Q k
  refine wpAny_Call_NameR (hf s a _ fun v s₁ x₁ r₁ => ?_)
  have := raw_of r₁
  subst this
  rw [he]
  refine PyProof.Rows.callWith_type (by show (false || (backTo pos (starEach es C.env)).any (·.1)) = false; rw [hplain]; rfl) ?_
  refine Calls.evalArgs_plain ?_
  have hl := h pos s₁ (a.ext x₁)
  rw [he] at hl
  refine hl _ fun vs s₂ x₂ r₂ => ?_
  exact hc s₂ vs (a.ext (x₁.trans x₂)) r₂ Q fun v s₃ x₃ r₃ => k v s₃ ((x₁.trans x₂).trans x₃) r₃
end
end Mine
end

section
open PySem PySem.W PyProof.Rows
namespace Mine

def tgtOk : Expr → Bool
  | .Name .. | .Tuple .. => true
  | _ => false

/-- an iterator I that hands on things that stand for items; J: what it changes; Y: what others may change -/
structure It (prog : Program) (w : World) (A : Around) (M : Nat) (T : Expr → Bool) (J : List Addr) (I : Addr) (Y : Addr → Prop) (items : List PV) (St : Nat → Heap → Prop) : Prop where
  here : ∀ i h, St i h → ∀ b ∈ J, ∃ o, h.get? b = some o
  frame : ∀ i h h', St i h → (∀ b o, ¬ Y b → h.get? b = some o → h'.get? b = some o) → St i h'
  item : ∀ i d (s : Shared) (tgt : Expr) (Q : Value → Shared → Prop), items[i]? = some d → St i s.heap → M ≤ s.toks → T tgt = true → (∀ b, Y b → ∃ o, s.heap.get? b = some o) →
    (∀ v s', Same s s' → (∀ b o, b ∉ J → s.heap.get? b = some o → s'.heap.get? b = some o) → St (i + 1) s'.heap → Rep prog w s'.heap (ins J Y) d v → Q v s') →
    wpAny (model prog w) A (pyNext (.ref I)) (fun r s₁ => match r with | none => False | some v => wpAny (model prog w) A (letOwnedTupleGo tgt (.ref I) v) (fun _ s₂ => Q v s₂) (fun _ _ => False) s₁) (fun _ _ => False) s
  done : ∀ (s : Shared) (Q : Option Value → Shared → Prop), St items.length s.heap → (∀ s', Same s s' → (∀ b o, b ∉ J → s.heap.get? b = some o → s'.heap.get? b = some o) → Q none s') → wpAny (model prog w) A (pyNext (.ref I)) Q (fun _ _ => False) s
  self : ∀ i (s : Shared) (Q : Value → Shared → Prop), St i s.heap → Q (.ref I) s → wpAny (model prog w) A (pyIter (.ref I)) Q (fun _ _ => False) s

theorem letGo_plain {M : Model} {A : Around} {tgt : Expr} {I : Addr} {v : Value} {s : Shared} {Q : Unit → Shared → Prop} (hv : ∀ a, v ≠ .ref a) (h : Q () s) : wpAny M A (letOwnedTupleGo tgt (.ref I) v) Q (fun _ _ => False) s := by
  unfold letOwnedTupleGo
  split <;> try exact wpAny_pure h
  all_goals (cases v <;> first | exact wpAny_pure h | exact absurd rfl (hv _))
theorem letGo_name {M : Model} {A : Around} {x : Str} {p : Pos} {I v : Value} {s : Shared} {Q : Unit → Shared → Prop} (h : Q () s) : wpAny M A (letOwnedTupleGo (.Name x p) I v) Q (fun _ _ => False) s := wpAny_pure h

section
variable {prog : Program} {w : World} {A : Around} {M : Nat} {I : Addr} {Y : Addr → Prop}

/-- iterators of plain values -/
theorem It.plain {fp : List Addr} {n : Nat} {P : Nat → Value → Prop} {St : Nat → Heap → Prop} {items : List PV} (W : Walks prog w A I fp [I] n P St) (hn : items.length = n) (hY : ∀ b ∈ fp, ¬ Y b) (hI : ∀ i h, St i h → ∃ o, h.get? I = some o)
    (hP : ∀ i v d, P i v → items[i]? = some d → (∀ a, v ≠ .ref a) ∧ ∀ (h : Heap) X, Rep prog w h X d v) : It prog w A M tgtOk [I] I Y items St where
  here := fun i h st b hb => by rw [List.mem_singleton.mp hb]; exact hI i h st
  frame := fun i h h' st k => W.frame i h h' st fun b hb o e => k b o (hY b hb) e
  item := fun i d s tgt Q hx st _ _ _ hQ => by
    have hlt : i < n := by rw [← hn]; exact (List.getElem?_eq_some_iff.mp hx).1
    refine W.item i s _ _ hlt st fun v h' tk hp st' hk => ?_
    obtain ⟨h1, h2⟩ := hP i v d hp hx
    exact letGo_plain h1 (hQ v _ ⟨h', tk, rfl⟩ hk st' (h2 _ _))
  done := fun s Q st hQ => W.done s Q _ (hn ▸ st) fun h' tk hk => hQ _ ⟨h', tk, rfl⟩ hk
  self := fun i s Q st hQ => W.self i s Q _ st hQ

theorem It.list {ax : Addr} {items : List PV} {vs : List Value} (hh : A.handled = none) (hne : ax ≠ I) (hI : ¬ Y I) (ha : ¬ Y ax) (hl : vs.length = items.length) :
    It prog w A M tgtOk [I] I Y items (fun i h => h.IsListIter I ax i ∧ h.IsList ax vs.toArray ∧ RepL prog w h (ins [I] Y) items vs) where
  here := fun i h st b hb => by rw [List.mem_singleton.mp hb]; obtain ⟨⟨o, e, _⟩, _⟩ := st; exact ⟨o, e⟩
  frame := fun i h h' st k => ⟨st.1.at fun o e => k _ o hI e, IsList.at1 st.2.1 fun o e => k _ o ha e, st.2.2.keep fun b o nb e => k b o (fun h => nb (.inr h)) e⟩
  item := fun i d s tgt Q hx st _ ht _ hQ => by
    obtain ⟨v, hv, hr⟩ := st.2.2.get i hx
    refine wpAny_pyNext_list_item st.1 st.2.1 (x := v) (by simpa using hv) fun h' hit' hs' => ?_
    have hk : ∀ b o, b ∉ [I] → s.heap.get? b = some o → h'.get? b = some o := fun b o hb e => (hs'.2 b (fun q => hb (by simp [q]))).trans e
    have kp : Keep (ins [I] Y) s.heap h' := fun b o nb e => hk b o (fun q => nb (.inl q)) e
    have q := hQ v { s with heap := h' } ⟨h', s.toks, rfl⟩ hk ⟨hit', IsList.at1 st.2.1 fun o e => hk _ o (by simpa using hne) e, st.2.2.keep kp⟩ (hr.keep kp)
    cases tgt <;> simp only [tgtOk] at ht <;> try contradiction
    · exact letGo_name q
    · cases v with
      | ref T => exact wpAny_letOwnedTupleGo_listiter hit' q
      | _ => exact letGo_plain (fun _ => by intro e; cases e) q
  done := fun s Q st hQ => wpAny_pyNext_list_end hh st.1 st.2.1 (by simp [hl]) fun h' he' => hQ _ ⟨h', s.toks, rfl⟩ fun b o hb e => he' b o (fun q => hb (by simp [q])) e
  self := fun i s Q st hQ => wpAny_pyIter_listiter st.1 hQ

theorem RepD.get : ∀ {l : List (Int × Int)} {kvs : List (Int × Value)} (i : Nat) {k x : Int}, RepD l kvs → l[i]? = some (k, x) → ∃ t, kvs[i]? = some (k, .int x t)
  | [], _, _, _, _, _, e => by simp at e
  | (k', x') :: l, kvs, i, k, x, r, e => by
    simp only [RepD] at r
    obtain ⟨t, q, rfl, r⟩ := r
    cases i with
    | zero => simp at e; obtain ⟨rfl, rfl⟩ := e; exact ⟨t, rfl⟩
    | succ i => simp at e ⊢; exact RepD.get i r e
theorem RepD.length : ∀ {l : List (Int × Int)} {kvs : List (Int × Value)}, RepD l kvs → kvs.length = l.length
  | [], _, r => by simp only [RepD] at r; subst r; rfl
  | (k', x') :: l, kvs, r => by
    simp only [RepD] at r
    obtain ⟨t, q, rfl, r⟩ := r
    simp [RepD.length r]
theorem intKey {k : Int} {v : Value} (h : (PySem.intKind prog w).is k v = true) : ∃ t, v = .int k t := by
  cases v <;> simp [PySem.intKind, Value.isInt] at h
  exact ⟨_, by rw [h]⟩

theorem entry_itemiter : entryFor table "dict_itemiterator.__iter__" = some Builtin.«dict_keyiterator.__iter__» :=
  entryFor_alias (id' := "dict_keyiterator.__iter__") (by kernel_rfl) rfl (by decide +kernel) (by kernel_rfl)
theorem pyIter_itemiter {s : Shared} {it dd : Addr} {i n ep : Nat} {ok ov : Value} {E : Value → Shared → Prop} {Q : Value → Shared → Prop} (hit : IsItemIter s.heap it dd i n ep ok ov) (h : Q (.ref it) s) : wpAny (model prog w) A (pyIter (.ref it)) Q E s := by
  have hT : s.TypeIs (.ref it) "dict_itemiterator" := ⟨_, hit, rfl⟩
  refine wpAny_pyIter_slot hT F.slot_dict_itemiterator_iter (wpAny_call_entry F.slot_dict_itemiterator_iter hT entry_itemiter ?_ (F.args_dict_itemiterator_iter_1 _))
  show wpAny _ _ (ret (.ref it)) _ _ s
  exact wpAny_pure ⟨_, rfl, "dict_itemiterator", _, hT, F.slot_dict_itemiterator_next.lookup, h⟩

def tgtTuple : Expr → Bool
  | .Tuple .. => true
  | _ => false
def pairItems (l : List (Int × Int)) : List PV := l.map fun p => .tup [.int p.1, .int p.2]

theorem It.items {dd : Addr} {kvs : List (Int × Value)} {l : List (Int × Int)} {ep : Nat} (hh : A.handled = none) (hne : dd ≠ I) (hI : ¬ Y I) (ha : ¬ Y dd) (hr : RepD l kvs) :
    It prog w A M tgtTuple [I] I Y (pairItems l) (fun i h => ∃ ok ov, IsItemIter h I dd i kvs.length ep ok ov ∧ h.DictAt (PySem.intKind prog w) dd kvs ep) where
  here := fun i h st b hb => by rw [List.mem_singleton.mp hb]; obtain ⟨ok, ov, e, _⟩ := st; exact ⟨_, e⟩
  frame := fun i h h' st k => let ⟨ok, ov, e, d⟩ := st; ⟨ok, ov, k _ _ hI e, d.at fun o e => k _ o ha e⟩
  item := fun i d s tgt Q hx st _ ht hYe hQ => by
    obtain ⟨ok, ov, hit, hd⟩ := st
    simp only [pairItems, List.getElem?_map, Option.map_eq_some_iff] at hx
    obtain ⟨⟨k, x⟩, hx, rfl⟩ := hx
    obtain ⟨t, hkv⟩ := hr.get i hx
    refine wpAny_pyNext_items_item hit hd hkv fun key h₁ hkey heo ht₁ hz₁ hk₁ => ?_
    obtain ⟨t', rfl⟩ := intKey hkey
    cases tgt <;> simp only [tgtTuple] at ht <;> try contradiction
    refine wpAny_letOwnedTupleGo_items heo fun h₂ he₂ hs₂ => ?_
    replace hs₂ : Heap.SameBut I h₁ h₂ := hs₂
    have hTI : s.heap.objs.size ≠ I := fun e => by have := Heap.lt_size hit; rw [e] at this; exact Nat.lt_irrefl _ this
    have hk : ∀ b o, b ∉ [I] → s.heap.get? b = some o → h₂.get? b = some o := fun b o hb e => (hs₂.2 b (fun q => hb (by simp [q]))).trans (hk₁ b o (fun q => hb (by simp [q])) e)
    refine hQ _ { s with heap := h₂ } ⟨h₂, s.toks, rfl⟩ hk ⟨_, _, he₂, hd.at fun o e => hk _ o (by simpa using hne) e⟩ ?_
    simp only [Rep]
    refine ⟨_, rfl, ?_, [.int k t', .int x t], ⟨_, (hs₂.2 _ hTI).trans ht₁, rfl, _, rfl⟩, RepL.cons (by simp only [Rep]; exact ⟨_, rfl⟩) (RepL.one (by simp only [Rep]; exact ⟨_, rfl⟩))⟩
    rintro (h | h)
    · exact hTI (by simpa using h)
    · obtain ⟨o, e⟩ := hYe _ h
      exact Nat.lt_irrefl _ (Heap.lt_size e)
  done := fun s Q st hQ => by
    obtain ⟨ok, ov, hit, hd⟩ := st
    have hl : (pairItems l).length = kvs.length := by simp [pairItems, hr.length]
    rw [hl] at hit
    exact wpAny_pyNext_items_end hh hit hd (by simp) fun h' he' => hQ _ ⟨h', s.toks, rfl⟩ fun b o hb e => he' b o (fun q => hb (by simp [q])) e
  self := fun i s Q st hQ => by
    obtain ⟨ok, ov, hit, hd⟩ := st
    exact pyIter_itemiter hit hQ

theorem It.enum {e it ax : Addr} {items : List PV} {vs : List Value} (hh : A.handled = none) (hei : e ≠ it) (hle : ax ≠ e) (hli : ax ≠ it) (hIe : ¬ Y e) (hIi : ¬ Y it) (ha : ¬ Y ax) (hl : vs.length = items.length) :
    It prog w A M tgtTuple [e, it] e Y (items.mapIdx fun n d => .tup [.int n, d]) (fun i h => ∃ old, IsEnum h e it i old ∧ h.IsListIter it ax i ∧ h.IsList ax vs.toArray ∧ RepL prog w h (ins [e, it] Y) items vs) where
  here := fun i h st b hb => by
    obtain ⟨old, he, ⟨o, hi, _⟩, _⟩ := st
    rcases List.mem_cons.mp hb with rfl | hb
    · exact ⟨_, he⟩
    · rw [List.mem_singleton.mp hb]; exact ⟨_, hi⟩
  frame := fun i h h' st k => let ⟨old, he, hi, hL, hr⟩ := st; ⟨old, k _ _ hIe he, hi.at fun o e => k _ o hIi e, IsList.at1 hL fun o e => k _ o ha e, hr.keep fun b o nb e => k b o (fun h => nb (.inr h)) e⟩
  item := fun i d s tgt Q hx st _ ht hYe hQ => by
    obtain ⟨old, he, hi, hL, hr⟩ := st
    simp only [List.getElem?_mapIdx, Option.map_eq_some_iff] at hx
    obtain ⟨d, hx, rfl⟩ := hx
    obtain ⟨v, hv, hrv⟩ := hr.get i hx
    refine wpAny_pyNext_enum_item he hi hL (x := v) (by simpa using hv) hei fun h₁ heo hi₁ ht₁ hz₁ hk₁ => ?_
    cases tgt <;> simp only [tgtTuple] at ht <;> try contradiction
    refine wpAny_letOwnedTupleGo_enum heo fun h₂ he₂ hs₂ => ?_
    replace hs₂ : Heap.SameBut e h₁ h₂ := hs₂
    have hTe : s.heap.objs.size ≠ e := fun q => by have := Heap.lt_size he; rw [q] at this; exact Nat.lt_irrefl _ this
    have hTi : s.heap.objs.size ≠ it := fun q => by obtain ⟨o, hi, _⟩ := hi; have := Heap.lt_size hi; rw [q] at this; exact Nat.lt_irrefl _ this
    have hk : ∀ b o, b ∉ [e, it] → s.heap.get? b = some o → h₂.get? b = some o := fun b o hb q => (hs₂.2 b (fun q => hb (by simp [q]))).trans (hk₁ b o (fun q => hb (by simp [q])) (fun q => hb (by simp [q])) q)
    have kp : Keep (ins [e, it] Y) s.heap h₂ := fun b o nb e => hk b o (fun q => nb (.inl q)) e
    have he₂' : IsEnum h₂ e it ((i + 1 : Nat) : Int) v := by push_cast; exact he₂
    refine hQ _ { s with heap := h₂, toks := s.toks + 1 } ⟨h₂, s.toks + 1, rfl⟩ hk ⟨_, he₂', hi₁.at fun o q => (hs₂.2 it (Ne.symm hei)).trans q, IsList.at1 hL fun o q => hk _ o (by simp [hle, hli]) q, hr.keep kp⟩ ?_
    simp only [Rep]
    refine ⟨_, rfl, ?_, [.int i s.toks, v], ⟨_, (hs₂.2 _ hTe).trans ht₁, rfl, _, rfl⟩, RepL.cons (by simp only [Rep]; exact ⟨_, rfl⟩) (RepL.one (hrv.keep kp))⟩
    rintro (h | h)
    · rcases List.mem_cons.mp h with h | h
      · exact hTe h
      · exact hTi (List.mem_singleton.mp h)
    · obtain ⟨o, q⟩ := hYe _ h
      exact Nat.lt_irrefl _ (Heap.lt_size q)
  done := fun s Q st hQ => by
    obtain ⟨old, he, hi, hL, hr⟩ := st
    have hl' : (items.mapIdx fun n d => PV.tup [.int n, d]).length = vs.length := by simp [hl]
    rw [hl'] at he hi
    exact wpAny_pyNext_enum_end hh he hi hL (by simp) fun h' he' => hQ _ ⟨h', s.toks, rfl⟩ fun b o hb e => he' b o (fun q => hb (by simp [q])) e
  self := fun i s Q st hQ => by
    obtain ⟨old, he, hi, hL, hr⟩ := st
    exact wpAny_pyIter_enum he hQ

theorem It.range {a c : Int} {n : Nat} (hh : A.handled = none) (hI : ¬ Y I) :
    It prog w A M tgtOk [I] I Y ((List.range n).map fun i : Nat => PV.int (a + (i : Int) * c)) (fun i h => IsRangeIter h I (a + (i : Nat) * c) ((n : Int) - (i : Nat)) c) :=
  It.plain (Walks.range hh I a c n) (by simp) (fun b hb => by rw [List.mem_singleton.mp hb]; exact hI) (fun i h st => ⟨_, st⟩) fun i v d hp hx => by
    obtain ⟨t, rfl⟩ := hp
    simp only [List.getElem?_map, Option.map_eq_some_iff] at hx
    obtain ⟨j, hj, rfl⟩ := hx
    have : j = i := by
      rw [List.getElem?_range] at hj
      · exact (Option.some.inj hj).symm
      · have := (List.getElem?_eq_some_iff.mp hj).1; simpa using this
    subst this
    exact ⟨fun _ e => (nomatch e), fun _ _ => by show Rep prog w _ _ (PV.int _) _; simp only [Rep]; exact ⟨_, rfl⟩⟩
theorem It.bytes {b : Array UInt8} {t : Tok} (hh : A.handled = none) (hI : ¬ Y I) :
    It prog w A M tgtOk [I] I Y (b.toList.map fun c => PV.int (c.toNat : Int)) (fun i h => PySem.W.KBw.IsBytesIter h I b t i) :=
  It.plain (PySem.W.KBw.walks hh I b t) (by simp) (fun b hb => by rw [List.mem_singleton.mp hb]; exact hI) (fun i h st => let ⟨o, e, _⟩ := st; ⟨o, e⟩) fun i v d hp hx => by
    obtain ⟨c, u, hc, rfl⟩ := hp
    simp only [List.getElem?_map, Option.map_eq_some_iff] at hx
    obtain ⟨c', hc', rfl⟩ := hx
    have : c' = c := by
      rw [Array.getElem?_toList] at hc'; rw [hc] at hc'; exact (Option.some.inj hc').symm
    subst this
    exact ⟨fun _ e => (nomatch e), fun _ _ => by show Rep prog w _ _ (PV.int _) _; simp only [Rep]; exact ⟨_, rfl⟩⟩
theorem It.values {dd : Addr} {kvs : List (Int × Value)} {l : List (Int × Int)} {ep : Nat} (hh : A.handled = none) (hne : dd ≠ I) (hI : ¬ Y I) (ha : ¬ Y dd) (hr : RepD l kvs) :
    It prog w A M tgtOk [I] I Y (l.map fun p => PV.int p.2) (fun i h => h.IsValIter I dd i kvs.length ep ∧ h.DictAt (PySem.intKind prog w) dd kvs ep) where
  here := fun i h st b hb => by rw [List.mem_singleton.mp hb]; obtain ⟨⟨o, e, _⟩, _⟩ := st; exact ⟨_, e⟩
  frame := fun i h h' st k => let ⟨⟨o, e, r⟩, d⟩ := st; ⟨⟨o, k _ _ hI e, r⟩, d.at fun o e => k _ o ha e⟩
  item := fun i d s tgt Q hx st _ ht hYe hQ => by
    obtain ⟨hit, hd⟩ := st
    simp only [List.getElem?_map, Option.map_eq_some_iff] at hx
    obtain ⟨⟨k, x⟩, hx, rfl⟩ := hx
    obtain ⟨t, hkv⟩ := hr.get i hx
    refine wpAny_pyNext_values_item hit hd hkv fun h₁ hit₁ hs₁ => ?_
    have hk : ∀ b o, b ∉ [I] → s.heap.get? b = some o → h₁.get? b = some o := fun b o hb e => (hs₁.2 b (fun q => hb (by simp [q]))).trans e
    exact letGo_plain (fun _ e => by cases e) (hQ _ { s with heap := h₁ } ⟨h₁, s.toks, rfl⟩ hk ⟨hit₁, hd.at fun o e => hk _ o (by simpa using hne) e⟩ (by simp only [Rep]; exact ⟨_, rfl⟩))
  done := fun s Q st hQ => by
    obtain ⟨hit, hd⟩ := st
    have hl : (l.map fun p => PV.int p.2).length = kvs.length := by simp [hr.length]
    rw [hl] at hit
    exact wpAny_pyNext_values_end hh hit hd (by simp) fun h' he' => hQ _ ⟨h', s.toks, rfl⟩ fun b o hb e => he' b o (fun q => hb (by simp [q])) e
  self := fun i s Q st hQ => wpAny_pyIter_valiter st.1 hQ
end
end Mine
end

section
open PySem PySem.W PyProof.Rows
namespace Mine

def stOk (env : Env) (x : Str) : Bool := env.kindOf x == some .local || (env.kindOf x == some .cell && env.func.isSome && (env.cells.lookup x).isSome)

/-- behind a statement that goes on -/
def Then (C : Cx) (rest : List Stmt) (Q : Flow → Shared → Prop) : Flow → Shared → Prop := fun f s' => match f with
  | .next => Go C (execs rest C.env) Q s'
  | f => Q f s'

section
variable {C : Cx} {D : Muts} {σ : Vars} {s : Shared}

theorem go_mono {α : Type} {t : Sem α} {Q Q' : α → Shared → Prop} (h : Go C t Q s) (q : ∀ a s', Q a s' → Q' a s') : Go C t Q' s := wpAny_mono h q fun _ _ e => e
theorem go_any {α : Type} {t : Sem α} {Q : α → Shared → Prop} {E : Value → Shared → Prop} (h : Go C t Q s) : wpAny (model C.prog C.w) C.A t Q E s := wpAny_mono h (fun _ _ q => q) fun _ _ e => e.elim

theorem go_store {x : Str} {d : PV} {v : Value} {Q : Unit → Shared → Prop} (a : AtC C D σ s) (r : RepC C D s d v) (hx : stOk C.env x = true) (k : ∀ s', AtC C D ((x, d) :: σ) s' → Keep (wrt C.env D) s.heap s'.heap → Q () s') : Go C (storeName C.env x v) Q s := by
  unfold stOk at hx
  rcases Bool.or_eq_true_iff.mp hx with h | h
  · have hl : C.env.kindOf x = some .local := by simpa using h
    obtain ⟨ml, hml⟩ := a.ns
    exact wpAny_storeName_local hl hml (fun h' hn hs => k _ (a.storeLocal hl r hml hn hs) fun b o nb e => (hs.2 b (fun q => nb (.inl q))).trans e) (by rw [a.kind]; rfl)
  · simp only [Bool.and_eq_true, beq_iff_eq] at h
    obtain ⟨c, hc⟩ := Option.isSome_iff_exists.mp h.2
    obtain ⟨p, hp, rfl, _⟩ := lookup_mem hc
    obtain ⟨v₀, hv₀⟩ := a.cells p hp
    exact wpAny_storeName_cell a.kind h.1.1 hc hv₀ fun h' hn hs => k _ (a.storeCell h.1.1 h.1.2 hc r hn hs) fun b o nb e => (hs.2 b (fun q => nb (.inr (.inl ⟨h.1.2, by rw [q]; exact List.mem_map_of_mem hp⟩)))).trans e

theorem x_nil {Q : Flow → Shared → Prop} (h : Q .next s) : Go C (execs [] C.env) Q s := wpAny_execs_nil h
theorem x_cons {st : Stmt} {rest : List Stmt} {Q : Flow → Shared → Prop} (h : Go C (exec st C.env) (Then C rest Q) s) : Go C (execs (st :: rest) C.env) Q s :=
  wpAny_execs_cons (wpAny_mono h (fun f s' q => by cases f <;> exact q) fun _ _ e => e)

theorem x_assign {x : Str} {xp pos : Pos} {e : Expr} {d : PV} {rest : List Stmt} {Q : Flow → Shared → Prop} (a : AtC C D σ s) (he : Ev C D σ e d) (k : ∀ s', AtC C D ((x, d) :: σ) s' → Go C (execs rest C.env) Q s')
    (hx : stOk C.env x = true := by rfl) (hs : swapsWith e (some (.Name x xp)) pos.line C.env = pure false := by rfl) : Go C (execs (.Assign [.Name x xp] e pos :: rest) C.env) Q s :=
  x_cons (wpAny_Assign_Name (he s a _ fun v s₁ x₁ r₁ => go_store (a.ext x₁) r₁ hx fun s' a' _ => k s' a') hs)
theorem x_return {e : Expr} {pos : Pos} {d : PV} {rest : List Stmt} {Q : Flow → Shared → Prop} (a : AtC C D σ s) (he : Ev C D σ e d) (k : ∀ v s', Ext s s' → AtC C D σ s' → RepC C D s' d v → Q (.ret v) s') : Go C (execs (.Return (some e) pos :: rest) C.env) Q s :=
  x_cons (wpAny_Return_some (he s a _ fun v s₁ x₁ r₁ => k v s₁ x₁ (a.ext x₁) r₁))
/-- the value that a body hands back -/
theorem ret_ok {d : PV} {v : Value} (a : AtC C D σ s) (r : RepC C D s d v) : RetOk C d (.ret v) s := ⟨v, rfl, ⟨a.same, a.grow⟩, Rep.less r fun b hb => .inl hb⟩
theorem x_if {t : Expr} {body orelse rest : List Stmt} {pos : Pos} {b : Bool} {Q : Flow → Shared → Prop} (a : AtC C D σ s) (ht : EvB C D σ t b)
    (k : ∀ s', AtC C D σ s' → if b then Go C (execs body C.env) (Then C rest Q) s' else Go C (execs orelse C.env) (Then C rest Q) s') : Go C (execs (.If t body orelse pos :: rest) C.env) Q s :=
  x_cons (wpAny_If (ht s a _ fun s₁ x₁ => k s₁ (a.ext x₁)))

/-- what a target binds -/
def Binds (C : Cx) (tgt : Expr) (d : PV) (ns : Vars) : Prop := ∀ (D : Muts) (σ : Vars) (s : Shared) (v : Value) (Q : Unit → Shared → Prop), AtC C D σ s → RepC C D s d v → (∀ s', AtC C D (ns ++ σ) s' → Q () s') → Go C (assign tgt C.env v) Q s
theorem binds_name {x : Str} {p : Pos} {d : PV} (hx : stOk C.env x = true) : Binds C (.Name x p) d [(x, d)] := fun D σ s v Q a r k => wpAny_assign_Name (go_store a r hx fun s' a' _ => k s' a')
theorem binds_pair {x y : Str} {px py p : Pos} {n : Nat} {d e : PV} (hh : C.A.handled = none) (hx : stOk C.env x = true) (hy : stOk C.env y = true) : Binds C (.Tuple [.Name x px, .Name y py] n p) (.tup [d, e]) [(y, e), (x, d)] := by
  intro D σ s v Q a r k
  simp only [RepC, Rep, RepL] at r
  obtain ⟨t, rfl, hn, vs, ht, v1, r1, rfl, hd, v2, r2, rfl, he, rfl⟩ := r
  refine wpAny_assign_Tuple hh ht rfl rfl fun h₁ hx₁ => ?_
  replace hx₁ : Heap.ExtBut s.heap.objs.size s.heap h₁ := hx₁
  have g : Grow s.heap h₁ := fun b o q => hx₁ b o (Nat.ne_of_lt (Heap.lt_size q)) q
  have a₁ : AtC C D σ { s with heap := h₁ } := a.ext (Ext.heap g)
  show wpAny _ _ (do holding [v2] (assign (.Name x px) C.env v1); do holding [] (assign (.Name y py) C.env v2); pure ()) _ _ _
  refine wpAny_bind (wpAny_holding (wpAny_assign_Name (go_store a₁ (hd.grow g) hx fun s₂ a₂ k₂ => ?_)))
  exact wpAny_bind (wpAny_holding (wpAny_assign_Name (go_store a₂ ((he.grow g).keep fun b o nb e => k₂ b o (fun h => nb (own_of_wrt h)) e) hy fun s₃ a₃ _ => wpAny_pure (k s₃ a₃))))

/-- the context of a loop's turn -/
abbrev Cx.turn (C : Cx) (J : List Addr) (h : Heap) (D : Muts) : Cx := { C with B := h, W := wrt C.env D, Xc := ins J C.Xc }

/-- an expression that is walked -/
def EvI (C : Cx) (D : Muts) (σ : Vars) (M : Nat) (T : Expr → Bool) (e : Expr) (items : List PV) : Prop := ∀ s, AtC C D σ s → M ≤ s.toks → ∀ Q : Value → Shared → Prop,
  (∀ J I s', Ext s s' → (∀ b ∈ J, s.heap.get? b = none) → (∀ Y : Addr → Prop, (∀ b, Y b → own C.env C.Xc D b ∨ s'.heap.get? b = none) → ∃ St, It C.prog C.w C.A M T J I Y items St ∧ St 0 s'.heap) → Q (.ref I) s') → Go C (eval e C.env) (fun x s₁ => Go C (pyIter x) Q s₁) s

/-- a loop's sum: a state turned by each item; .inr: it hands back a value there -/
def foldE {S α : Type} (f : S → α → Option (S ⊕ PV)) : S → List α → Option (S ⊕ PV)
  | st, [] => some (.inl st)
  | st, d :: r => match f st d with
    | none => none
    | some (.inr v) => some (.inr v)
    | some (.inl st') => foldE f st' r

theorem addr_eq {D D' : Muts} (h : D'.map (·.1) = D.map (·.1)) : own C.env C.Xc D' = own C.env C.Xc D := by funext b; simp only [own, h]
theorem wrt_eq {env : Env} {D D' : Muts} (h : D'.map (·.1) = D.map (·.1)) : wrt env D' = wrt env D := by funext b; simp only [wrt, h]

theorem x_for {S α : Type} {T : Expr → Bool} {l : List α} {emb : α → PV} {tgt iter : Expr} {body orelse rest : List Stmt} {pos : Pos} {Q : Flow → Shared → Prop} (f : S → α → Option (S ⊕ PV)) (Dm : S → Muts) (Vs : S → Vars) (ns : α → Vars) (s0 : S)
    (a : AtC C D σ s) (hi : EvI C D σ 0 T iter (l.map emb)) (hT : T tgt = true) (hD : D = Dm s0) (hV : SubV (Vs s0) σ) (hA : ∀ st, (Dm st).map (·.1) = (Dm s0).map (·.1))
    (hb : ∀ J h st d, d ∈ l → Binds (C.turn J h (Dm st)) tgt (emb d) (ns d))
    (turn : ∀ J h st d (s : Shared) (K : Flow → Shared → Prop), d ∈ l → AtC (C.turn J h (Dm st)) (Dm st) (ns d ++ Vs st) s →
      (∀ st' s', f st d = some (.inl st') → AtC (C.turn J h (Dm st)) (Dm st') (Vs st') s' → K .next s' ∧ K .cont s') →
      (∀ r v s' D' σ', f st d = some (.inr r) → AtC (C.turn J h (Dm st)) D' σ' s' → RepC (C.turn J h (Dm st)) D' s' r v → K (.ret v) s') →
      f st d ≠ none → Go (C.turn J h (Dm st)) (execs body C.env) K s)
    {res : S ⊕ PV} (hf : foldE f s0 l = some res)
    (k : ∀ sN s', res = .inl sN → AtC C (Dm sN) (Vs sN) s' → Go C (execs orelse C.env) (Then C rest Q) s')
    (kr : ∀ r v s' D' σ', res = .inr r → AtC C D' σ' s' → RepC C D' s' r v → Q (.ret v) s')
    (hs : ∀ x, foldedSetIterable iter C.env x = pure x := by intro _; rfl) : Go C (execs (.For tgt iter body orelse pos :: rest) C.env) Q s := by
  subst hD
  refine x_cons (wpAny_For ?_ hs)
  refine hi s a (Nat.zero_le _) _ fun J I s₁ x₁ hJ hIt => ?_
  obtain ⟨St, it, st₁⟩ := hIt (own C.env C.Xc (Dm s0)) fun b hb => .inl hb
  obtain ⟨a₁, ap⟩ := At.newXc (J := J) a x₁.same x₁.grow hJ (it.here _ _ st₁)
  have a₁ := At.forget a₁ hV
  clear hV
  refine codeAny_forLoop_any (fun n s' => ∃ i st, n = l.length + 1 - i ∧ i ≤ l.length ∧ foldE f st (l.drop i) = some res ∧ At C.prog C.w C.G C.B C.W C.Z C.env (ins J C.Xc) (Dm st) (Vs st) s' ∧ St i s'.heap) ?_ (l.length + 1)
    ⟨0, s0, rfl, Nat.zero_le _, hf, a₁, st₁⟩
  rintro n s' ⟨i, st, rfl, hin, hfi, a', st'⟩
  have hJo : ∀ b ∈ J, ¬ own C.env C.Xc (Dm s0) b := fun b hb h => by
    obtain ⟨o, e⟩ := a.own_some h
    rw [hJ b hb] at e; cases e
  rcases Nat.lt_or_ge i l.length with hlt | hge
  · -- a turn
    obtain ⟨d, hd⟩ : ∃ d, l[i]? = some d := ⟨l[i], by simp [hlt]⟩
    have hdm : d ∈ l := List.mem_of_getElem? hd
    rw [List.drop_eq_getElem_cons hlt] at hfi
    have hdi : l[i] = d := by rw [List.getElem?_eq_getElem hlt] at hd; exact Option.some.inj hd
    rw [hdi] at hfi
    have eo : own C.env (ins J C.Xc) (Dm st) = own C.env (ins J C.Xc) (Dm s0) := by funext b; simp only [own, hA st]
    have ew : wrt C.env (Dm st) = wrt C.env (Dm s0) := wrt_eq (hA st)
    refine wpAny_mono (it.item i (emb d) s' tgt (fun v s₂ => Go C (assign tgt C.env v) (fun _ s₃ => wpAny (model C.prog C.w) C.A (execs body C.env) (fun f' s₃ => match f' with
            | .next | .cont => ∃ m, m < l.length + 1 - i ∧ ∃ i' st, m = l.length + 1 - i' ∧ i' ≤ l.length ∧ foldE f st (l.drop i') = some res ∧ At C.prog C.w C.G C.B C.W C.Z C.env (ins J C.Xc) (Dm st) (Vs st) s₃ ∧ St i' s₃.heap
            | .brk => Then C rest Q .next s₃
            | .ret v => Q (.ret v) s₃) (fun _ _ => False) s₃) s₂) (by rw [List.getElem?_map, hd]; rfl) st' (Nat.zero_le _) hT ?_ ?_) ?_ (fun _ _ e => e.elim)
    · exact fun b hb => a'.own_some (by rw [eo]; exact own_ins' hb)
    · intro v s₂ hm₂ hk₂ st₂ hr₂
      have a₂ := At.stepXc a' ap hm₂ hk₂ (it.here _ _ st₂)
      have a₂' := a₂.rebase
      have hr₂' : Rep C.prog C.w s₂.heap (own C.env (ins J C.Xc) (Dm st)) (emb d) v := by
        rw [eo]
        refine hr₂.less fun b hb => ?_
        rcases own_ins hb with h | h
        · exact .inl h
        · exact .inr h
      refine hb J s₂.heap st d hdm (Dm st) (Vs st) s₂ v _ a₂' hr₂' fun s₃ a₃ => ?_
      refine turn J s₂.heap st d s₃ _ hdm a₃ ?_ ?_ ?_
      · intro stn s₄ hfn a₄
        have a₄' := At.back a₂ a₄
        have stn₄ : St (i + 1) s₄.heap := it.frame _ _ _ st₂ fun b o nb e => a₄.keep b o (fun h => nb (own_of_wrt (by have h' : wrt C.env (Dm st) b := h; rw [ew] at h'; exact h'))) e
        simp only [foldE, hfn] at hfi
        exact ⟨⟨l.length + 1 - (i + 1), by omega, i + 1, stn, rfl, hlt, hfi, a₄', stn₄⟩, ⟨l.length + 1 - (i + 1), by omega, i + 1, stn, rfl, hlt, hfi, a₄', stn₄⟩⟩
      · intro r v' s₄ D' σ' hfn a₄ hr₄
        have a₄' := At.back a₂ a₄
        simp only [foldE, hfn] at hfi
        exact kr r v' s₄ D' σ' (Option.some.inj hfi).symm (a₄'.doneXc ap (Same.refl _) fun _ _ _ e => e) (hr₄.less fun b hb => own_ins' hb)
      · intro hn; simp only [foldE, hn] at hfi; cases hfi
    · rintro (_ | v) s₂ hq
      · exact hq.elim
      · refine wpAny_mono hq (fun _ s₃ h₃ => wpAny_mono h₃ (fun _ s₄ h₄ => wpAny_mono h₄ (fun f' s₅ h₅ => ?_) fun _ _ e => e.elim) fun _ _ e => e.elim) fun _ _ e => e.elim
        cases f' <;> exact h₅
  · have hi' : i = l.length := Nat.le_antisymm hin hge
    subst hi'
    rw [List.drop_length] at hfi
    simp only [foldE] at hfi
    refine wpAny_mono (it.done s' (fun r s₂ => r = none ∧ Go C (execs orelse C.env) (Then C rest Q) s₂) (by rw [List.length_map]; exact st') fun s₂ hm₂ hk₂ => ⟨rfl, ?_⟩) ?_ fun _ _ e => e.elim
    · exact k st s₂ (Option.some.inj hfi).symm (a'.doneXc ap hm₂ hk₂)
    · rintro r s₂ ⟨rfl, hq⟩
      exact wpAny_mono hq (fun f' s₃ h₃ => h₃) fun _ _ e => e.elim
end
end Mine
end

section
open PySem PySem.W PyProof.Rows
namespace Mine
section
variable {C : Cx} {D : Muts} {σ : Vars} {s : Shared} {M : Nat}

theorem fresh_ge {h : Heap} {a : Addr} (ha : h.objs.size ≤ a) : h.get? a = none := by
  cases e : h.get? a with
  | none => rfl
  | some o' => exact absurd (Heap.lt_size e) (Nat.not_lt.mpr ha)
theorem not_own_new (a : AtC C D σ s) {b : Addr} (h : s.heap.get? b = none) : ¬ own C.env C.Xc D b := fun q => by
  obtain ⟨o, e⟩ := a.own_some q
  rw [h] at e; cases e

theorem new_ones {s₁ : Shared} (x₁ : Ext s s₁) {J : List Addr} (h : ∀ b ∈ J, s₁.heap.get? b = none) : ∀ b ∈ J, s.heap.get? b = none := fun b hb => by
  cases q : s.heap.get? b with
  | none => rfl
  | some o => have := x₁.grow _ _ q; rw [h b hb] at this; cases this
theorem back_none {h h' : Heap} (g : Grow h h') {b : Addr} (e : h'.get? b = none) : h.get? b = none := by
  cases q : h.get? b with
  | none => rfl
  | some o => have := g _ _ q; rw [e] at this; cases this
theorem notY {X Y : Addr → Prop} {h : Heap} (hY : ∀ b, Y b → X b ∨ h.get? b = none) {b : Addr} {o : Obj} (hn : ¬ X b) (e : h.get? b = some o) : ¬ Y b := fun q => (hY b q).elim hn fun r => by rw [r] at e; cases e

theorem evi_list {e : Expr} {items : List PV} (hh : C.A.handled = none) (he : Ev C D σ e (.lst items)) : EvI C D σ M tgtOk e items := by
  intro s a hM Q k
  refine he s a _ fun v s₁ x₁ r₁ => ?_
  obtain ⟨ax, vs, rfl, hn, hl, hr⟩ := r₁.cont_lst
  have a₁ := a.ext x₁
  have hI : s₁.heap.get? s₁.heap.objs.size = none := fresh_ge (Nat.le_refl _)
  have hne : ax ≠ s₁.heap.objs.size := fun q => by obtain ⟨o, e⟩ := isList_some hl; rw [q, hI] at e; cases e
  refine wpAny_pyIter_list hl ?_
  refine k [s₁.heap.objs.size] _ _ (x₁.trans (Ext.push _)) (new_ones x₁ (by simpa using hI)) fun Y hY => ⟨_, It.list (ax := ax) (vs := vs) hh hne (notY hY (not_own_new a₁ hI) (Heap.get?_push_size _ rfl)) (by obtain ⟨o, e⟩ := isList_some hl; exact notY hY hn (Heap.get?_push_of_some _ e)) hr.length, ⟨_, Heap.get?_push_size _ rfl, rfl, rfl⟩, IsList.at1 hl fun o e => Heap.get?_push_of_some _ e, ?_⟩
  refine RepL.to (fun b hb => ?_) (fun b o _ e => Heap.get?_push_of_some _ e) _ _ hr
  rcases hb with h | h
  · rw [List.mem_singleton.mp h]; exact .inr hI
  · exact (hY b h).imp id (back_none (Grow.push _ _))

theorem evi_bytes {e : Expr} {b : Array UInt8} (hh : C.A.handled = none) (he : Ev C D σ e (.bytes b)) : EvI C D σ M tgtOk e (b.toList.map fun c => PV.int (c.toNat : Int)) := by
  intro s a hM Q k
  refine he s a _ fun v s₁ x₁ r₁ => ?_
  obtain ⟨t, rfl⟩ := bytes_of r₁
  have a₁ := a.ext x₁
  have hI : s₁.heap.get? s₁.heap.objs.size = none := fresh_ge (Nat.le_refl _)
  refine PySem.W.KBw.pyIter_bytes ?_
  exact k [s₁.heap.objs.size] _ _ (x₁.trans (Ext.push _)) (new_ones x₁ (by simpa using hI)) fun Y hY => ⟨_, It.bytes (t := t) hh (notY hY (not_own_new a₁ hI) (Heap.get?_push_size _ rfl)), _, Heap.get?_push_size _ rfl, rfl, rfl⟩

theorem evi_items {o : Expr} {apos pos : Pos} {l : List (Int × Int)} (hh : C.A.handled = none) (he : Ev C D σ o (.dct l))
    (hbase : attributeBase o "items" C.env (eval o C.env) = eval o C.env := by rfl) (hline : (apos.endLine == pos.line) = true := by rfl) : EvI C D σ M tgtTuple (.Call (.Attribute o "items" apos) [] [] pos) (pairItems l) := by
  intro s a hM Q k
  refine wpAny_Call_method (T := "dict") (id := "dict.items") hbase rfl hline F.plainAttrs_dict F.slot_dict_items F.type_dict_items (he s a _ fun v s₁ x₁ r₁ => ?_)
  simp only [RepC, Rep] at r₁
  obtain ⟨dd, rfl, hn, hsm, kvs, hd, hr⟩ := r₁
  have a₁ := a.ext x₁
  refine ⟨hd.typeIs, hd.mapOf.noDict, ?_⟩
  show wpAny _ _ (callWith pos (.builtin "dict.items") [.ref dd] [] []) _ _ s₁
  refine method_meetsIn F.slot_dict_items F.entry_dict_items rfl (PySem.evalArgs_none ⟨rfl, hd.typeIs, F.args_dict_items_1 _, _, meets_dict_items (PySem.intKind C.prog C.w) dd hsm, ⟨kvs, hd⟩, ?_⟩)
  obtain ⟨od, es, ep, hod, hrest⟩ := id hd
  have hat : s₁.heap.DictAt (PySem.intKind C.prog C.w) dd kvs ep := ⟨od, es, hod, hrest⟩
  have hdlt : dd < s₁.heap.objs.size := Heap.lt_size hod
  refine wpAny_pyIter_items (knd := PySem.intKind C.prog C.w) (d := dd) (kvs := kvs) (ep := ep) ⟨_, Heap.get?_push_size _ rfl, rfl, rfl⟩ (hat.push _) ?_
  have hsz : (s₁.heap.push { cls := .type "dict_items", data := .fields #[.ref dd] }).objs.size = s₁.heap.objs.size + 1 := Heap.size_push ..
  have hI : s₁.heap.get? (s₁.heap.objs.size + 1) = none := fresh_ge (Nat.le_succ _)
  rw [hsz]
  have hIt := Heap.get?_push_size (s₁.heap.push { cls := .type "dict_items", data := .fields #[.ref dd] }) (o := { cls := .type "dict_itemiterator", data := .fields #[.none, .bool false, .ref dd, .int 0 0, .int kvs.length 0, .int ep 0, .none, .none] }) rfl
  rw [hsz] at hIt
  exact k [s₁.heap.objs.size + 1] _ _ (x₁.trans (Ext.heap ((Grow.push _ _).trans (Grow.push _ _)))) (new_ones x₁ (by simpa using hI)) fun Y hY => ⟨_, It.items (dd := dd) (kvs := kvs) (l := l) (ep := ep) hh (Nat.ne_of_lt (Nat.lt_succ_of_lt hdlt)) (notY hY (not_own_new a₁ hI) hIt) (notY hY hn (((Grow.push _ _).trans (Grow.push _ _)) _ _ hod)) hr, .none, .none, hIt, (hat.push _).push _⟩

theorem evi_values {o : Expr} {apos pos : Pos} {l : List (Int × Int)} (hh : C.A.handled = none) (he : Ev C D σ o (.dct l))
    (hbase : attributeBase o "values" C.env (eval o C.env) = eval o C.env := by rfl) (hline : (apos.endLine == pos.line) = true := by rfl) : EvI C D σ M tgtOk (.Call (.Attribute o "values" apos) [] [] pos) (l.map fun p => PV.int p.2) := by
  intro s a hM Q k
  refine wpAny_Call_method (T := "dict") (id := "dict.values") hbase rfl hline F.plainAttrs_dict F.slot_dict_values F.type_dict_values (he s a _ fun v s₁ x₁ r₁ => ?_)
  simp only [RepC, Rep] at r₁
  obtain ⟨dd, rfl, hn, hsm, kvs, hd, hr⟩ := r₁
  have a₁ := a.ext x₁
  refine ⟨hd.typeIs, hd.mapOf.noDict, ?_⟩
  show wpAny _ _ (callWith pos (.builtin "dict.values") [.ref dd] [] []) _ _ s₁
  refine method_meetsIn F.slot_dict_values F.entry_dict_values rfl (PySem.evalArgs_none ⟨rfl, hd.typeIs, F.args_dict_values_1 _, _, meets_dict_values (PySem.intKind C.prog C.w) dd hsm, ⟨kvs, hd⟩, ?_⟩)
  obtain ⟨od, es, ep, hod, hrest⟩ := id hd
  have hat : s₁.heap.DictAt (PySem.intKind C.prog C.w) dd kvs ep := ⟨od, es, hod, hrest⟩
  have hdlt : dd < s₁.heap.objs.size := Heap.lt_size hod
  refine wpAny_pyIter_values (knd := PySem.intKind C.prog C.w) (d := dd) (kvs := kvs) (ep := ep) ⟨_, Heap.get?_push_size _ rfl, rfl, rfl⟩ (hat.push _) ?_
  have hsz : (s₁.heap.push { cls := .type "dict_values", data := .fields #[.ref dd] }).objs.size = s₁.heap.objs.size + 1 := Heap.size_push ..
  have hI : s₁.heap.get? (s₁.heap.objs.size + 1) = none := fresh_ge (Nat.le_succ _)
  rw [hsz]
  have hIt := Heap.get?_push_size (s₁.heap.push { cls := .type "dict_values", data := .fields #[.ref dd] }) (o := { cls := .type "dict_valueiterator", data := .fields #[.ref dd, .int 0 0, .int kvs.length 0, .int ep 0] }) rfl
  rw [hsz] at hIt
  exact k [s₁.heap.objs.size + 1] _ _ (x₁.trans (Ext.heap ((Grow.push _ _).trans (Grow.push _ _)))) (new_ones x₁ (by simpa using hI)) fun Y hY => ⟨_, It.values (dd := dd) (kvs := kvs) (l := l) (ep := ep) hh (Nat.ne_of_lt (Nat.lt_succ_of_lt hdlt)) (notY hY (not_own_new a₁ hI) hIt) (notY hY hn (((Grow.push _ _).trans (Grow.push _ _)) _ _ hod)) hr, ⟨_, hIt, rfl, rfl⟩, (hat.push _).push _⟩

/-- a call of a built-in class, its answer as it comes -/
theorem go_call_type {fx : Str} {np : Pos} {id : String} {e : Expr} {es : List Expr} {pos : Pos} {ds : List PV} {Q : Value → Shared → Prop} (a : AtC C D σ s) (hf : Ev C D σ (.Name fx np) (.raw (.type id))) (h : EvL C D σ (e :: es) ds)
    (hc : ∀ s₁ vs, Ext s s₁ → AtC C D σ s₁ → RepLC C D s₁ ds vs → Go C (call (.type id) vs) Q s₁)
    (he : starEach (e :: es) C.env = (false, eval e C.env) :: starEach es C.env := by rfl) (hplain : (backTo pos (starEach es C.env)).any (·.1) = false := by rfl) : Go C (eval (.Call (.Name fx np) (e :: es) [] pos) C.env) Q s := by
  refine wpAny_Call_NameR (hf s a _ fun v s₁ x₁ r₁ => ?_)
  have := raw_of r₁
  subst this
  rw [he]
  refine PyProof.Rows.callWith_type (by show (false || (backTo pos (starEach es C.env)).any (·.1)) = false; rw [hplain]; rfl) ?_
  refine Calls.evalArgs_plain ?_
  have hl := h pos s₁ (a.ext x₁)
  rw [he] at hl
  exact hl _ fun vs s₂ x₂ r₂ => hc s₂ vs (x₁.trans x₂) (a.ext (x₁.trans x₂)) r₂

def rangeInts (a c : Int) (n : Nat) : List Int := (List.range n).map fun i : Nat => a + (i : Int) * c
def rangeItems (a c : Int) (n : Nat) : List PV := (rangeInts a c n).map .int
theorem rangeItems_eq (a c : Int) (n : Nat) : rangeItems a c n = (List.range n).map fun i : Nat => PV.int (a + (i : Int) * c) := by simp [rangeItems, rangeInts, List.map_map, Function.comp_def]
theorem go_rangeIter {r : Addr} {a b c : Int} {t u v : Tok} {s₁ : Shared} {Q : Value → Shared → Prop} (hh : C.A.handled = none) (at₁ : AtC C D σ s) (x₁ : Ext s s₁) (hr : IsRange s₁.heap r a b c t u v) (hs : Builtin.Range.small a b c = true)
    (k : ∀ J I s', Ext s s' → (∀ b ∈ J, s.heap.get? b = none) → (∀ Y : Addr → Prop, (∀ b, Y b → own C.env C.Xc D b ∨ s'.heap.get? b = none) → ∃ St, It C.prog C.w C.A M tgtOk J I Y (rangeItems a c (Builtin.Range.rangeSize a b c).toNat) St ∧ St 0 s'.heap) → Q (.ref I) s') (h0 : 0 ≤ Builtin.Range.rangeSize a b c) : Go C (pyIter (.ref r)) Q s₁ := by
  have hI : s₁.heap.get? s₁.heap.objs.size = none := fresh_ge (Nat.le_refl _)
  rw [rangeItems_eq] at k
  refine wpAny_pyIter_range hr hs ?_
  refine k [s₁.heap.objs.size] _ _ (x₁.trans (Ext.push _)) (new_ones x₁ (by simpa using hI)) fun Y hY => ⟨_, It.range (a := a) (c := c) (n := (Builtin.Range.rangeSize a b c).toNat) hh (notY hY (not_own_new (at₁.ext x₁) hI) (Heap.get?_push_size _ rfl)), ?_⟩
  · have e1 : a + ((0 : Nat) : Int) * c = a := by simp
    have e2 : (((Builtin.Range.rangeSize a b c).toNat : Nat) : Int) - ((0 : Nat) : Int) = Builtin.Range.rangeSize a b c := by rw [Int.toNat_of_nonneg h0]; simp
    show IsRangeIter _ _ _ _ _
    rw [e1, e2]
    exact Heap.get?_push_size _ rfl

def lenR (a b : Int) : Nat := (b - a).toNat
theorem rangeSize_lenR (a b : Int) : (Builtin.Range.rangeSize a b 1).toNat = lenR a b ∧ 0 ≤ Builtin.Range.rangeSize a b 1 := by
  rw [rangeSize_one]; unfold lenR
  split <;> constructor <;> omega
theorem evi_range1 {fx : Str} {np pos : Pos} {e : Expr} {b : Int} (hh : C.A.handled = none) (hf : Ev C D σ (.Name fx np) (.raw (.type "range"))) (he : Ev C D σ e (.int b)) (hb : -(2 ^ 62) ≤ b ∧ b < 2 ^ 62)
    (hst : starEach [e] C.env = (false, eval e C.env) :: starEach [] C.env := by rfl) : EvI C D σ M tgtOk (.Call (.Name fx np) [e] [] pos) (rangeItems 0 1 (lenR 0 b)) := by
  intro s a hM Q k
  refine go_call_type a hf (evl_cons he evl_nil hst) (fun s₁ vs x₁ a₁ r₁ => ?_) hst
  simp only [RepLC, RepL, Rep] at r₁
  obtain ⟨v, r, rfl, ⟨t, rfl⟩, rfl⟩ := r₁
  refine call_range_1 ?_
  refine go_rangeIter (M := M) (a := 0) (b := b) (c := 1) hh a (x₁.trans (Ext.mk' (Grow.push _ _))) (Heap.get?_push_size _ rfl) (small_one (by decide) (by decide) hb.1 hb.2) ?_ (rangeSize_lenR 0 b).2
  rw [(rangeSize_lenR 0 b).1]
  exact k
theorem evi_range2 {fx : Str} {np pos : Pos} {e e' : Expr} {b c : Int} (hh : C.A.handled = none) (hf : Ev C D σ (.Name fx np) (.raw (.type "range"))) (he : Ev C D σ e (.int b)) (he' : Ev C D σ e' (.int c)) (hb : -(2 ^ 62) ≤ b ∧ b < 2 ^ 62) (hc : -(2 ^ 62) ≤ c ∧ c < 2 ^ 62)
    (hst : starEach [e, e'] C.env = (false, eval e C.env) :: starEach [e'] C.env := by rfl) (hst' : starEach [e'] C.env = (false, eval e' C.env) :: starEach [] C.env := by rfl) (hplain : (backTo pos (starEach [e'] C.env)).any (·.1) = false := by rfl) : EvI C D σ M tgtOk (.Call (.Name fx np) [e, e'] [] pos) (rangeItems b 1 (lenR b c)) := by
  intro s a hM Q k
  refine go_call_type a hf (evl_cons he (evl_cons he' evl_nil hst') hst) (fun s₁ vs x₁ a₁ r₁ => ?_) hst hplain
  simp only [RepLC, RepL, Rep] at r₁
  obtain ⟨v, r, rfl, ⟨t, rfl⟩, v', r', rfl, ⟨t', rfl⟩, rfl⟩ := r₁
  refine call_range_2 ?_
  refine go_rangeIter (M := M) (a := b) (b := c) (c := 1) hh a (x₁.trans (Ext.mk' (Grow.push _ _))) (Heap.get?_push_size _ rfl) (small_one hb.1 hb.2 hc.1 hc.2) ?_ (rangeSize_lenR b c).2
  rw [(rangeSize_lenR b c).1]
  exact k
theorem evi_range3 {fx : Str} {np pos : Pos} {e e' e'' : Expr} {b c d : Int} (hh : C.A.handled = none) (hf : Ev C D σ (.Name fx np) (.raw (.type "range"))) (he : Ev C D σ e (.int b)) (he' : Ev C D σ e' (.int c)) (he'' : Ev C D σ e'' (.int d)) (hs : Builtin.Range.small b c d = true) (hd : d ≠ 0) (h0 : 0 ≤ Builtin.Range.rangeSize b c d)
    (hp : Builtin.divisionGoesByPylong (c - b) d = false)
    (hst : starEach [e, e', e''] C.env = (false, eval e C.env) :: starEach [e', e''] C.env := by rfl) (hst' : starEach [e', e''] C.env = (false, eval e' C.env) :: starEach [e''] C.env := by rfl) (hst'' : starEach [e''] C.env = (false, eval e'' C.env) :: starEach [] C.env := by rfl)
    (hplain : (backTo pos (starEach [e', e''] C.env)).any (·.1) = false := by rfl) : EvI C D σ M tgtOk (.Call (.Name fx np) [e, e', e''] [] pos) (rangeItems b d (Builtin.Range.rangeSize b c d).toNat) := by
  intro s a hM Q k
  refine go_call_type a hf (evl_cons he (evl_cons he' (evl_cons he'' evl_nil hst'') hst') hst) (fun s₁ vs x₁ a₁ r₁ => ?_) hst hplain
  simp only [RepLC, RepL, Rep] at r₁
  obtain ⟨v, r, rfl, ⟨t, rfl⟩, v', r', rfl, ⟨t', rfl⟩, v'', r'', rfl, ⟨t'', rfl⟩, rfl⟩ := r₁
  refine call_range_3 hd ?_ (.inl hp)
  exact go_rangeIter (M := M) (a := b) (b := c) (c := d) hh a (x₁.trans (Ext.mk' (Grow.push _ _))) (Heap.get?_push_size _ rfl) hs k h0

theorem evi_enum {fx : Str} {np pos : Pos} {e : Expr} {items : List PV} (hh : C.A.handled = none) (hf : Ev C D σ (.Name fx np) (.raw (.type "enumerate"))) (he : Ev C D σ e (.lst items))
    (hst : starEach [e] C.env = (false, eval e C.env) :: starEach [] C.env := by rfl) : EvI C D σ M tgtTuple (.Call (.Name fx np) [e] [] pos) (items.mapIdx fun n d => .tup [.int n, d]) := by
  intro s a hM Q k
  refine go_call_type a hf (evl_cons he evl_nil hst) (fun s₁ vs x₁ a₁ r₁ => ?_) hst
  simp only [RepLC, RepL] at r₁
  obtain ⟨v, r, rfl, r₁, rfl⟩ := r₁
  obtain ⟨ax, vs, rfl, hn, hl, hr⟩ := Rep.cont_lst r₁
  obtain ⟨oa, hoa⟩ := isList_some hl
  have hax := Heap.lt_size hoa
  refine call_enumerate_list hl fun h' he' hi' hz hk => ?_
  refine wpAny_pyIter_enum he' ?_
  have h1 : s₁.heap.get? s₁.heap.objs.size = none := fresh_ge (Nat.le_refl _)
  have h2 : s₁.heap.get? (s₁.heap.objs.size + 1) = none := fresh_ge (Nat.le_succ _)
  refine k [s₁.heap.objs.size + 1, s₁.heap.objs.size] _ { s₁ with heap := h' } (x₁.trans (Ext.heap hk)) (new_ones x₁ ?_) fun Y hY =>
    ⟨_, It.enum (e := s₁.heap.objs.size + 1) (it := s₁.heap.objs.size) (ax := ax) (vs := vs) (items := items) hh (Nat.succ_ne_self _) (Nat.ne_of_lt (Nat.lt_succ_of_lt hax)) (Nat.ne_of_lt hax) (notY hY (not_own_new a₁ h2) he') (by obtain ⟨o, e, _⟩ := hi'; exact notY hY (not_own_new a₁ h1) e) (notY hY hn (hk _ _ hoa)) hr.length, .none, he', hi', IsList.at1 hl fun o e => hk _ o e, ?_⟩
  · intro b hb
    rcases List.mem_cons.mp hb with h | h
    · rw [h]; exact h2
    · rw [List.mem_singleton.mp h]; exact h1
  · refine RepL.to (fun b hb => ?_) (fun b o _ e => hk b o e) _ _ hr
    rcases hb with h | h
    · rcases List.mem_cons.mp h with h | h
      · rw [h]; exact .inr h2
      · rw [List.mem_singleton.mp h]; exact .inr h1
    · exact (hY b h).imp id (back_none (fun b o e => hk b o e))
end
end Mine
end

section
open PySem PySem.W PyProof.Rows
namespace Mine

/-! dicts of ints -/
def dget (l : List (Int × Int)) (k : Int) : Option Int := (l.find? fun p => decide (p.1 = k)).map (·.2)
def dset (l : List (Int × Int)) (k x : Int) : List (Int × Int) := if l.any (fun p => decide (p.1 = k)) then l.map (fun p => if p.1 = k then (p.1, x) else p) else l ++ [(k, x)]

theorem RepD.at : ∀ {l : List (Int × Int)} {kvs : List (Int × Value)} (k : Int), RepD l kvs → (dget l k = none ∧ valueAt kvs k = none) ∨ ∃ x t, dget l k = some x ∧ valueAt kvs k = some (.int x t)
  | [], kvs, k, r => by simp only [RepD] at r; subst r; exact .inl ⟨rfl, rfl⟩
  | (k', x) :: l, kvs, k, r => by
    simp only [RepD] at r
    obtain ⟨t, q, rfl, r⟩ := r
    by_cases h : k' = k
    · refine .inr ⟨x, t, ?_, ?_⟩ <;> simp [dget, valueAt, h]
    · have := RepD.at k r
      simpa [dget, valueAt, List.find?_cons, h] using this
theorem RepD.any : ∀ {l : List (Int × Int)} {kvs : List (Int × Value)} (k : Int), RepD l kvs → (kvs.any fun kv => decide (kv.1 = k)) = l.any fun p => decide (p.1 = k)
  | [], kvs, k, r => by simp only [RepD] at r; subst r; rfl
  | (k', x) :: l, kvs, k, r => by
    simp only [RepD] at r
    obtain ⟨t, q, rfl, r⟩ := r
    simp only [List.any_cons, RepD.any k r]
theorem RepD.map : ∀ {l : List (Int × Int)} {kvs : List (Int × Value)} (k x : Int) (t : Tok), RepD l kvs → RepD (l.map fun p => if p.1 = k then (p.1, x) else p) (kvs.map fun kv => if kv.1 = k then (kv.1, .int x t) else kv)
  | [], kvs, k, x, t, r => by simp only [RepD] at r; subst r; simp [RepD]
  | (k', x') :: l, kvs, k, x, t, r => by
    simp only [RepD] at r
    obtain ⟨t', q, rfl, r⟩ := r
    simp only [List.map_cons]
    by_cases h : k' = k
    · rw [if_pos h, if_pos h]; exact ⟨t, _, rfl, RepD.map k x t r⟩
    · rw [if_neg h, if_neg h]; exact ⟨t', _, rfl, RepD.map k x t r⟩
theorem RepD.snoc : ∀ {l : List (Int × Int)} {kvs : List (Int × Value)} (k x : Int) (t : Tok), RepD l kvs → RepD (l ++ [(k, x)]) (kvs ++ [(k, .int x t)])
  | [], kvs, k, x, t, r => by simp only [RepD] at r; subst r; exact ⟨t, [], rfl, rfl⟩
  | (k', x') :: l, kvs, k, x, t, r => by
    simp only [RepD] at r
    obtain ⟨t', q, rfl, r⟩ := r
    exact ⟨t', _, rfl, RepD.snoc k x t r⟩
theorem RepD.set {l : List (Int × Int)} {kvs : List (Int × Value)} (k x : Int) (t : Tok) (r : RepD l kvs) : RepD (dset l k x) (stored kvs k (.int x t)) := by
  unfold dset stored
  rw [RepD.any k r]
  split
  · exact RepD.map k x t r
  · exact RepD.snoc k x t r

section
variable {C : Cx} {D : Muts} {σ : Vars} {s : Shared}

/-- an expression whose value is an object with content d, whoever may change it -/
def EvC (C : Cx) (D : Muts) (σ : Vars) (e : Expr) (d : PV) : Prop := ∀ s, AtC C D σ s → ∀ Q : Value → Shared → Prop, (∀ a s', Ext s s' → Cont C.prog C.w s'.heap (own C.env C.Xc D) d a → Q (.ref a) s') → Go C (eval e C.env) Q s
theorem evc_dct {e : Expr} {l : List (Int × Int)} (h : Ev C D σ e (.dct l)) : EvC C D σ e (.dct l) := fun s a Q k => h s a _ fun v s₁ x r => by
  simp only [RepC, Rep] at r
  obtain ⟨dd, rfl, _, hm, kvs, hd, hr⟩ := r
  exact k dd s₁ x ⟨hm, kvs, hd, hr⟩
theorem evc_lst {e : Expr} {l : List PV} (h : Ev C D σ e (.lst l)) : EvC C D σ e (.lst l) := fun s a Q k => h s a _ fun v s₁ x r => by
  obtain ⟨dd, vs, rfl, _, hd, hr⟩ := Rep.plain_lst r
  exact k dd s₁ x ⟨vs, hd, hr⟩
theorem evc_tup {e : Expr} {l : List PV} (h : Ev C D σ e (.tup l)) : EvC C D σ e (.tup l) := fun s a Q k => h s a _ fun v s₁ x r => by
  simp only [RepC, Rep] at r
  obtain ⟨dd, rfl, _, vs, hd, hr⟩ := r
  exact k dd s₁ x ⟨vs, hd, hr⟩
theorem evc_mut {e : Expr} {c : Addr} {d : PV} (h : Ev C D σ e (.raw (.ref c))) (hm : (c, d) ∈ D) : EvC C D σ e d := fun s a Q k => h s a _ fun v s₁ x r => by
  have := raw_of r
  subst this
  exact k c s₁ x ((a.ext x).muts _ hm)

theorem dct_of {s : Shared} {l : List (Int × Int)} {a : Addr} (r : Cont C.prog C.w s.heap (own C.env C.Xc D) (.dct l) a) : (a == sysModules) = false ∧ ∃ kvs, s.heap.DictOf (PySem.intKind C.prog C.w) a kvs ∧ RepD l kvs := by simpa only [Cont] using r
theorem Cont.growth {s s' : Shared} {d : PV} {a : Addr} (r : Cont C.prog C.w s.heap (own C.env C.Xc D) d a) (x : Ext s s') : Cont C.prog C.w s'.heap (own C.env C.Xc D) d a :=
  r.to (fun _ q => .inl q) (fun b o _ e => x.grow b o e) (fun o e => x.grow _ o e)

/-- key in dict -/
theorem evb_in {k e : Expr} {pos : Pos} {i : Int} {l : List (Int × Int)} (hk : Ev C D σ k (.int i)) (he : EvC C D σ e (.dct l)) (hm : behindInMarks .In e = false := by with_unfolding_all rfl) : EvB C D σ (.Compare k [.In] [e] pos) (dget l i).isSome := by
  intro s a Q q
  refine wpAny_isTrue_Compare1 (hk s a _ fun v s₁ x₁ r₁ => he s₁ (a.ext x₁) _ fun dd s₂ x₂ r₂ => ?_) hm
  obtain ⟨t, rfl⟩ := int_of r₁
  obtain ⟨hsm, kvs, hd, hr⟩ := dct_of r₂
  refine wpAny_in_of (knd := PySem.intKind C.prog C.w) (intKind_is _ _ _ _) hsm hd.mapOf ?_
  refine wpAny_truthy_bool ?_
  have e : (valueAt kvs i).isSome = (dget l i).isSome := by
    rcases RepD.at i hr with ⟨h1, h2⟩ | ⟨x, t, h1, h2⟩ <;> rw [h1, h2] <;> rfl
  rw [e]
  exact q _ ((x₁.trans x₂).trans Ext.tok)

/-- a new dict that the frame goes on to fill -/
theorem x_newDict {mg mb : Str → Option Value} (g : GOk C.G mg mb) {x : Str} {xp dpos pos : Pos} {rest : List Stmt} {Q : Flow → Shared → Prop} (a : AtC C D σ s)
    (k : ∀ c s', AtC C ((c, .dct []) :: D) ((x, .raw (.ref c)) :: σ) s' → Go C (execs rest C.env) Q s') (hx : stOk C.env x = true := by rfl) : Go C (execs (.Assign [.Name x xp] (.Dict [] [] dpos) pos :: rest) C.env) Q s := by
  refine x_cons (wpAny_Assign_Name (wpAny_Dict_empty ?_) rfl)
  have hn := fresh_none s.heap
  have a₁ : AtC C ((s.heap.objs.size, .dct []) :: D) σ { s with heap := s.heap.push { cls := .type "dict", data := .dict #[] } } := by
    refine At.newMut a ⟨_, s.toks, rfl⟩ (Grow.push _ _) hn ?_
    refine ⟨?_, [], Heap.DictOf.new _, rfl⟩
    have h1 := modules_low (g.lim _ (a.globNow g.mono))
    exact beq_eq_false_iff_ne.mpr (Nat.ne_of_gt h1)
  exact go_store a₁ (by simp only [RepC, Rep]) hx fun s' a' _ => k _ s' a'

theorem x_setDict {c : Addr} {l : List (Int × Int)} {ke de ve : Expr} {i x : Int} {spos pos : Pos} {rest : List Stmt} {Q : Flow → Shared → Prop} (a : AtC C ((c, .dct l) :: D) σ s) (hd : Ev C ((c, .dct l) :: D) σ de (.raw (.ref c)))
    (hk : Ev C ((c, .dct l) :: D) σ ke (.int i)) (hv : Ev C ((c, .dct l) :: D) σ ve (.int x)) (hsz : l.length ≤ sizeLine)
    (k : ∀ s', AtC C ((c, .dct (dset l i x)) :: D) σ s' → Go C (execs rest C.env) Q s') (hs : swapsWith ve (some (.Subscript de ke spos)) pos.line C.env = pure false := by rfl) : Go C (execs (.Assign [.Subscript de ke spos] ve pos :: rest) C.env) Q s := by
  refine x_cons (wpAny_Assign_Subscript (hv s a _ fun v s₁ x₁ r₁ => hd s₁ (a.ext x₁) _ fun dv s₂ x₂ r₂ => hk s₂ (a.ext (x₁.trans x₂)) _ fun kv s₃ x₃ r₃ => ?_) hs)
  have a₃ := a.ext ((x₁.trans x₂).trans x₃)
  have := raw_of r₂; subst this
  obtain ⟨t, rfl⟩ := int_of r₃
  obtain ⟨u, rfl⟩ := int_of r₁
  obtain ⟨hsm, kvs, hdd, hr⟩ := dct_of (a₃.muts _ (.head _))
  refine wpAny_setItem_pairs (knd := PySem.intKind C.prog C.w) (intKind_is _ _ _ _) hdd (fun h' hd' hs' => ?_) (by rw [hr.length]; exact hsz)
  refine k _ (At.setMut a₃ ⟨h', _, rfl⟩ (fun b o hb e => (hs'.2 b hb).trans e) ⟨hsm, _, hd', hr.set i x u⟩)

/-- d[k] op= v -/
theorem x_augDict {c : Addr} {l : List (Int × Int)} {ke de ve : Expr} {op : Operator} {i x y z : Int} {spos pos : Pos} {rest : List Stmt} {Q : Flow → Shared → Prop} (a : AtC C ((c, .dct l) :: D) σ s) (hd : Ev C ((c, .dct l) :: D) σ de (.raw (.ref c)))
    (hk : Ev C ((c, .dct l) :: D) σ ke (.int i)) (hv : Ev C ((c, .dct l) :: D) σ ve (.int x)) (hg : dget l i = some y) (ho : Op2 C ((c, .dct l) :: D) σ (inplaceOp op) (.int y) (.int x) (.int z)) (hsz : l.length ≤ sizeLine)
    (k : ∀ s', AtC C ((c, .dct (dset l i z)) :: D) σ s' → Go C (execs rest C.env) Q s')
    (hi : ∀ ov iv new, augStore ke ov iv new = (do holding [new, ov, iv] (setItem ov iv new); release [new, ov, iv] []; pure .next) := by intros; rfl) : Go C (execs (.AugAssign (.Subscript de ke spos) op ve pos :: rest) C.env) Q s := by
  refine x_cons (wpAny_AugAssign_SubscriptAny (hd s a _ fun dv s₁ x₁ r₁ => hk s₁ (a.ext x₁) _ fun kv s₂ x₂ r₂ => ?_) hi)
  have a₂ := a.ext (x₁.trans x₂)
  have := raw_of r₁; subst this
  obtain ⟨t, rfl⟩ := int_of r₂
  obtain ⟨hsm, kvs, hdd, hr⟩ := dct_of (a₂.muts _ (.head _))
  obtain ⟨u, hu⟩ : ∃ u, valueAt kvs i = some (.int y u) := by
    rcases RepD.at i hr with ⟨h1, h2⟩ | ⟨x, t, h1, h2⟩
    · rw [hg] at h1; cases h1
    · rw [hg] at h1; cases h1; exact ⟨t, h2⟩
  refine wpAny_getItem_of (knd := PySem.intKind C.prog C.w) (intKind_is _ _ _ _) hdd.mapOf hu ?_
  refine hv _ (a₂.ext Ext.tok) _ fun v s₄ x₄ r₄ => ho s₄ _ _ (a₂.ext (Ext.tok.trans x₄)) of_int r₄ _ fun nv s₅ x₅ r₅ => ?_
  have a₅ := a₂.ext ((Ext.tok.trans x₄).trans x₅)
  obtain ⟨u', rfl⟩ := int_of r₅
  obtain ⟨hsm', kvs', hdd', hr'⟩ := dct_of (a₅.muts _ (.head _))
  refine wpAny_setItem_pairs (knd := PySem.intKind C.prog C.w) (intKind_is _ _ _ _) hdd' (fun h' hd' hs' => ?_) (by rw [hr'.length]; exact hsz)
  refine k _ (At.setMut a₅ ⟨h', _, rfl⟩ (fun b o hb e => (hs'.2 b hb).trans e) ⟨hsm, _, hd', hr'.set i z u'⟩)

theorem op_iadd {a b : Int} : Op2 C D σ (inplaceOp .Add) (.int a) (.int b) (.int (a + b)) := by
  intro s u v _ ru rv Q k
  obtain ⟨t, rfl⟩ := int_of ru; obtain ⟨t', rfl⟩ := int_of rv
  exact PyProof.Rows.iadd_int (k _ _ Ext.tok of_int)
theorem op_imul {a b : Int} (h : IntMulOk a b) : Op2 C D σ (inplaceOp .Mult) (.int a) (.int b) (.int (a * b)) := by
  intro s u v _ ru rv Q k
  obtain ⟨t, rfl⟩ := int_of ru; obtain ⟨t', rfl⟩ := int_of rv
  exact PyProof.Rows.imul_int (k _ _ Ext.tok of_int) h

/-- x op= v -/
theorem x_augName {x : Str} {xp pos : Pos} {op : Operator} {ve : Expr} {d e z : PV} {rest : List Stmt} {Q : Flow → Shared → Prop} (a : AtC C D σ s) (hd : σ.lookup x = some d) (hv : Ev C D σ ve e) (ho : Op2 C D σ (inplaceOp op) d e z)
    (k : ∀ s', AtC C D ((x, z) :: σ) s' → Go C (execs rest C.env) Q s') (hx : stOk C.env x = true := by rfl) (hn : (x == ("__classdict__" : Str)) = false := by decide) : Go C (execs (.AugAssign (.Name x xp) op ve pos :: rest) C.env) Q s := by
  refine x_cons (wpAny_AugAssign_Name ?_)
  have ld : ∀ Q : Value → Shared → Prop, (∀ v, RepC C D s d v → Q v s) → Go C (loadName C.env x) Q s := by
    intro Q q
    rcases a.vars x d hd with ⟨hk, ml, v, n, e, r⟩ | ⟨hk, c, v, e, n, r⟩
    · exact wpAny_loadName_local a.kind hk n e (q v r)
    · rcases hk with hk | hk
      · exact wpAny_loadName_cell a.kind hk e n (q v r)
      · exact wpAny_loadName_free a.kind hk e n (q v r) hn
  refine ld _ fun u ru => hv s a _ fun v s₁ x₁ r₁ => ho s₁ u v (a.ext x₁) (ru.grow x₁.grow) r₁ _ fun nv s₂ x₂ r₂ => ?_
  exact go_store (a.ext (x₁.trans x₂)) r₂ hx fun s' a' _ => k s' a'

/-- isinstance(an int, tuple) -/
theorem evb_value {e : Expr} {b : Bool} (he : Ev C D σ e (.bool b)) (hp : ∀ s Q, wpAny (model C.prog C.w) C.A (eval e C.env) (fun v s₁ => wpAny (model C.prog C.w) C.A (truthy v) Q (fun _ _ => False) s₁) (fun _ _ => False) s → Go C (isTrue e C.env (eval e C.env)) Q s := by exact fun s Q h => wpAny_isTrue_value h) : EvB C D σ e b := by
  intro s a Q k
  refine hp s Q (he s a _ fun v s₁ x₁ r₁ => ?_)
  have := bool_of r₁; subst this
  exact wpAny_truthy_bool (k _ x₁)
theorem tv_isTuple_int {i : Int} {vs : List Value} (r : RepLC C D s [.int i, .raw (.type "tuple")] vs) : Tv C D (call (.builtin "isinstance") vs) (.bool false) s := by
  simp only [RepLC, RepL, Rep] at r
  obtain ⟨v, q, rfl, ⟨t, rfl⟩, v', q', rfl, rfl, rfl⟩ := r
  intro Q k
  exact call_isinstance (isinstance_false_int (by decide +kernel) F.isi_meta_tuple F.sub_int_tuple) (k _ _ Ext.tok of_bool)
end
end Mine
end

section
open PySem PySem.W PyProof.Rows
namespace Mine

def foldO {S α : Type} (f : S → α → Option S) : S → List α → Option S
  | st, [] => some st
  | st, d :: r => match f st d with
    | none => none
    | some st' => foldO f st' r

/-- the context of a comprehension's block -/
abbrev Cx.cmp (C : Cx) (scope : Scope) (cl : List (Str × Addr)) (Cc : Addr) (B : Heap) (W : Addr → Prop) (X : Addr → Prop) : Cx := { C with env := compEnvC scope cl Cc C.env, B := B, W := W, Xc := X }

/-- the tests of a comprehension -/
abbrev testsOf (ifs : List Expr) (env : Env) : Sem Bool := forIn ifs true fun c r => if r = true then do let ok ← isTrue c env (eval c env); pure (ForInStep.yield ok) else pure (ForInStep.yield r)

section
variable {C : Cx} {D : Muts} {σ : Vars} {s : Shared}

theorem comp_loop {M : Nat} {e tgt : Expr} {depth : Nat} {ifs : List Expr} {p : Pos} {I : Addr} {acc : Value} {inner : Sem Unit} {R : Result → Shared → Prop} {S α : Type} {T : Expr → Bool} {l : List α} {emb : α → PV} {J : List Addr} {St : Nat → Heap → Prop}
    (hshape : compTurn e depth (.ref I) acc C.env = (do
      standAt p
      match ← pyNext (.ref I) with
      | none => pure (.done .next)
      | some v =>
        letOwnedTupleGo tgt (.ref I) v
        assign tgt C.env v
        let mut ok := true
        for c in ifs do
          if ok then ok ← isTrue c C.env (eval c C.env)
        if ok then inner
        again (.compLoop e depth (.ref I) acc C.env)))
    (hq : (Code.compLoop e depth (.ref I) acc C.env).quiet = true)
    (hden : ∀ (Q : Fin → Shared → Prop) (E : Value → Shared → Prop) s, wpAny (model C.prog C.w) C.A ((compTurn e depth (.ref I) acc C.env).onRaise (fun x => do noteFrame x C.env; theTreesLotGoes x)) Q E s →
      wpAny (model C.prog C.w) (C.A.under (.compLoop e depth (.ref I) acc C.env)) ((model C.prog C.w).den (.compLoop e depth (.ref I) acc C.env)) Q E s)
    (f : S → α → Option S) (Dm : S → Muts) (V : Vars) (ns : α → Vars) (s0 : S) {sN : S}
    (a : At C.prog C.w C.G C.B C.W C.Z C.env (ins J C.Xc) (Dm s0) V s) (hM : M ≤ s.toks) (ap : Apart C.Z C.B C.W C.env C.Xc J) (it : It C.prog C.w C.A M T J I (own C.env C.Xc (Dm s0)) (l.map emb) St) (st0 : St 0 s.heap) (hT : T tgt = true) (hA : ∀ st, (Dm st).map (·.1) = (Dm s0).map (·.1))
    (hb : ∀ h st d, d ∈ l → Binds (C.turn J h (Dm st)) tgt (emb d) (ns d))
    (turn : ∀ h st d (s : Shared) (K : Shared → Prop), d ∈ l → f st d ≠ none → AtC (C.turn J h (Dm st)) (Dm st) (ns d ++ V) s →
      (∀ st' s', f st d = some st' → AtC (C.turn J h (Dm st)) (Dm st') V s' → K s') →
      Go (C.turn J h (Dm st)) (testsOf ifs C.env) (fun ok s₁ => if ok = true then Go (C.turn J h (Dm st)) inner (fun _ s₂ => K s₂) s₁ else K s₁) s)
    (hf : foldO f s0 l = some sN) (k : ∀ s', AtC C (Dm sN) V s' → R (.ok .next) s') :
    codeAny (model C.prog C.w) C.A (.compLoop e depth (.ref I) acc C.env) R s := by
  refine codeAny_loop hq (fun n s' => M ≤ s'.toks ∧ ∃ i st, n = l.length + 1 - i ∧ i ≤ l.length ∧ foldO f st (l.drop i) = some sN ∧ At C.prog C.w C.G C.B C.W C.Z C.env (ins J C.Xc) (Dm st) V s' ∧ St i s'.heap) ?_ (l.length + 1)
    ⟨hM, 0, s0, rfl, Nat.zero_le _, hf, a, st0⟩
  rintro n s' ⟨hM', i, st, rfl, hin, hfi, a', st'⟩
  refine hden _ _ _ (wpAny_noted (wpAny_with_toks hM' (go_any ?_)))
  rw [hshape]
  refine wpAny_bind (wpAny_standAt (wpAny_bind ?_))
  rcases Nat.lt_or_ge i l.length with hlt | hge
  · obtain ⟨d, hd⟩ : ∃ d, l[i]? = some d := ⟨l[i], by simp [hlt]⟩
    have hdm : d ∈ l := List.mem_of_getElem? hd
    rw [List.drop_eq_getElem_cons hlt] at hfi
    have hdi : l[i] = d := by rw [List.getElem?_eq_getElem hlt] at hd; exact Option.some.inj hd
    rw [hdi] at hfi
    have eo : own C.env (ins J C.Xc) (Dm st) = own C.env (ins J C.Xc) (Dm s0) := by funext b; simp only [own, hA st]
    have ew : wrt C.env (Dm st) = wrt C.env (Dm s0) := wrt_eq (hA st)
    refine wpAny_mono (it.item i (emb d) s' tgt (fun v s₂ => Go C (assign tgt C.env v) (fun _ s₃ => Go C (testsOf ifs C.env) (fun ok s₄ => if ok = true then Go C inner (fun _ s₅ => ∃ i' st, l.length + 1 - i' < l.length + 1 - i ∧ i' ≤ l.length ∧ foldO f st (l.drop i') = some sN ∧ At C.prog C.w C.G C.B C.W C.Z C.env (ins J C.Xc) (Dm st) V s₅ ∧ St i' s₅.heap) s₄ else ∃ i' st, l.length + 1 - i' < l.length + 1 - i ∧ i' ≤ l.length ∧ foldO f st (l.drop i') = some sN ∧ At C.prog C.w C.G C.B C.W C.Z C.env (ins J C.Xc) (Dm st) V s₄ ∧ St i' s₄.heap) s₃) s₂) (by rw [List.getElem?_map, hd]; rfl) st' hM' hT ?_ ?_) ?_ (fun _ _ e => e)
    · exact fun b hb => a'.own_some (by rw [eo]; exact own_ins' hb)
    · intro v s₂ hm₂ hk₂ st₂ hr₂
      have a₂ := At.stepXc a' ap hm₂ hk₂ (it.here _ _ st₂)
      have a₂' := a₂.rebase
      have hr₂' : Rep C.prog C.w s₂.heap (own C.env (ins J C.Xc) (Dm st)) (emb d) v := by
        rw [eo]
        refine hr₂.less fun b hb => ?_
        rcases own_ins hb with h | h
        · exact .inl h
        · exact .inr h
      refine hb s₂.heap st d hdm (Dm st) V s₂ v _ a₂' hr₂' fun s₃ a₃ => ?_
      refine turn s₂.heap st d s₃ _ hdm (fun hn => by simp only [foldO, hn] at hfi; cases hfi) a₃ ?_
      intro stn s₄ hfn a₄
      simp only [foldO, hfn] at hfi
      exact ⟨i + 1, stn, by omega, hlt, hfi, At.back a₂ a₄, it.frame _ _ _ st₂ fun b o nb e => a₄.keep b o (fun h => nb (own_of_wrt (by have h' : wrt C.env (Dm st) b := h; rw [ew] at h'; exact h'))) e⟩
    · rintro (_ | v) s₂ hq
      · exact hq.elim
      · refine wpAny_bind (wpAny_mono hq (fun _ s₃ h₃ => wpAny_bind (wpAny_mono h₃ (fun _ s₄ h₄ => wpAny_bind (wpAny_mono h₄ (fun ok s₅ h₅ => ?_) fun _ _ e => e)) fun _ _ e => e)) fun _ _ e => e)
        cases ok with
        | false =>
          simp only [Bool.false_eq_true, if_false] at h₅ ⊢
          obtain ⟨i', st₁, h1, h2, h3, h4, h5⟩ := h₅
          exact wpAny_pure fun hM'' => ⟨rfl, _, h1, hM'', i', st₁, rfl, h2, h3, h4, h5⟩
        | true =>
          simp only [if_true] at h₅ ⊢
          refine wpAny_bind (wpAny_mono h₅ (fun _ s₆ h₆ => ?_) fun _ _ e => e)
          obtain ⟨i', st₁, h1, h2, h3, h4, h5⟩ := h₆
          exact wpAny_pure fun hM'' => ⟨rfl, _, h1, hM'', i', st₁, rfl, h2, h3, h4, h5⟩
  · have hi' : i = l.length := Nat.le_antisymm hin hge
    subst hi'
    rw [List.drop_length] at hfi
    simp only [foldO] at hfi
    refine wpAny_mono (it.done s' (fun r s₂ => r = none ∧ R (.ok .next) s₂) (by rw [List.length_map]; exact st') fun s₂ hm₂ hk₂ => ⟨rfl, ?_⟩) ?_ fun _ _ e => e
    · cases hfi; exact k s₂ (a'.doneXc ap hm₂ hk₂)
    · rintro r s₂ ⟨rfl, hq⟩
      exact wpAny_pure fun _ => hq

/-- emission -/
theorem emit_list {c : Addr} {l : List PV} {elt : Expr} {d : PV} {K : Shared → Prop} (a : AtC C ((c, .lst l) :: D) σ s) (he : Ev C ((c, .lst l) :: D) σ elt d) (hsz : l.length ≤ sizeLine) (k : ∀ s', AtC C ((c, .lst (l ++ [d])) :: D) σ s' → K s') :
    Go C (do let _ ← call (.builtin "list.append") [.ref c, ← eval elt C.env]) (fun _ s' => K s') s := by
  show Go C (eval elt C.env >>= fun x => call (.builtin "list.append") [.ref c, x] >>= fun _ => pure ()) _ s
  refine wpAny_bind (he s a _ fun v s₁ x₁ r₁ => wpAny_bind ?_)
  have a₁ := a.ext x₁
  have hc := a₁.muts _ (.head _)
  simp only [Cont] at hc
  obtain ⟨vs, hl, hr⟩ := hc
  refine wpAny_list_append_plain hl (fun h' hl' hs' => wpAny_pure (k _ ?_)) (by rw [List.size_toArray, hr.length]; exact hsz)
  refine At.setMut a₁ ⟨h', s₁.toks, rfl⟩ (fun b o hb e => (hs'.2 b hb).trans e) ⟨vs ++ [v], ?_, ?_⟩
  · rw [List.push_toArray] at hl'; exact hl'
  · have kp : Keep (own C.env C.Xc ((c, .lst l) :: D)) s₁.heap h' := fun b o nb e => (hs'.2 b (not_own_ne nb own_head)).trans e
    exact RepL.append (hr.keep kp) (RepL.one (r₁.keep kp))
end
end Mine
end

section
open PySem PySem.W PyProof.Rows
namespace Mine

def ClOk (env : Env) : List (Str × Addr) → Prop
  | [] => True
  | p :: r => env.cells.lookup p.1 = some p.2 ∧ ClOk env r
theorem ClOk.mem {env : Env} : ∀ {cl : List (Str × Addr)}, ClOk env cl → ∀ p ∈ cl, env.cells.lookup p.1 = some p.2
  | p :: r, h, q, hq => by
    rcases List.mem_cons.mp hq with e | hq
    · rw [e]; exact h.1
    · exact ClOk.mem h.2 q hq

/-- the names that a comprehension's block sees of the frame around it -/
def freeOk (env : Env) (scope : Scope) (cl : List (Str × Addr)) (x : Str) : Bool :=
  ((relabel scope env).names.lookup x == some .cell || (relabel scope env).names.lookup x == some .free) && env.kindOf x != some .local && (cl.lookup x).isSome

theorem lookupV_mem {σ : Vars} {x : Str} {d : PV} (h : σ.lookup x = some d) : (x, d) ∈ σ := by
  induction σ with
  | nil => simp at h
  | cons q r ih =>
    obtain ⟨y, e⟩ := q
    rw [List.lookup_cons] at h
    split at h
    · rename_i hb; cases h; rw [eq_of_beq hb]; exact .head _
    · exact .tail _ (ih h)
theorem cl_nodup {env : Env} {cl : List (Str × Addr)} (h : ClOk env cl) (hn : (cl.map (·.1)).Nodup) (hc : (env.cells.map (·.2)).Nodup) : (cl.map (·.2)).Nodup := by
  induction cl with
  | nil => exact List.nodup_nil
  | cons p r ih =>
    rw [List.map_cons, List.nodup_cons] at hn ⊢
    refine ⟨fun hm => ?_, ih h.2 hn.2⟩
    obtain ⟨q, hq, e⟩ := List.mem_map.mp hm
    obtain ⟨p', hp', e1, e2⟩ := lookup_mem h.1
    obtain ⟨q', hq', e3, e4⟩ := lookup_mem (h.2.mem q hq)
    have : p' = q' := nodup_map_ne hc hp' hq' (by rw [e1, e3, e])
    exact hn.1 (by rw [← e2, this, e4]; exact List.mem_map_of_mem hq)

section
variable {C : Cx} {D : Muts} {σ : Vars} {s : Shared}

theorem EvI.toks {M : Nat} {T : Expr → Bool} {e : Expr} {items : List PV} (h : EvI C D σ M T e items) : ∀ s, AtC C D σ s → M ≤ s.toks → ∀ Q : Value → Shared → Prop,
    (∀ J I s', Ext s s' → s.toks ≤ s'.toks → (∀ b ∈ J, s.heap.get? b = none) → (∀ Y : Addr → Prop, (∀ b, Y b → own C.env C.Xc D b ∨ s'.heap.get? b = none) → ∃ St, It C.prog C.w C.A M T J I Y items St ∧ St 0 s'.heap) → Q (.ref I) s') → Go C (eval e C.env) (fun x s₁ => Go C (pyIter x) Q s₁) s := by
  intro s a hM Q k
  refine wpAny_with_toks (Nat.le_refl s.toks) (wpAny_mono (h s a hM (fun v s' => s.toks ≤ s'.toks → Q v s') fun J I s' x hJ hIt hle => k J I s' x hle hJ hIt) (fun x s₁ h₁ hle => ?_) fun _ _ e _ => e)
  exact wpAny_with_toks hle (wpAny_mono h₁ (fun _ _ q => q) fun _ _ e _ => e)

/-- a comprehension: its block is entered with an empty accumulator -/
theorem go_enter {M : Nat} {e : Expr} {scope : Scope} {pos : Pos} {newAcc : Sem Value} {g : Comprehension} {gs : List Comprehension} {cl : List (Str × Addr)} {use : Option (Value → Sem Unit)} {Q : Value → Shared → Prop} {T : Expr → Bool} {items : List PV} {oAcc : Obj} {d0 dN : PV} {σ' : Vars}
    (a : AtC C D σ s) (hM : M ≤ s.toks) (hcl : clausesOf e = g :: gs) (hs : ∀ x, foldedSetIterable g.iter C.env x = pure x) (hclos : closureFor scope C.env = pure cl) (hclok : ClOk C.env cl) (hcln : (cl.map (·.1)).Nodup)
    (hkind : scope.kind = .function) (hnames : (scope.names.all fun x => x.2 != .local || scope.names.lookup x.1 == some .local) = true) (hcell : (scope.names.all fun x => x.2 != .cell) = true)
    (hi : EvI C D σ M T g.iter items) (hacc : ∀ (s : Shared) (Q : Value → Shared → Prop), Q (.ref s.heap.objs.size) { s with heap := s.heap.push oAcc } → Go C newAcc Q s)
    (hfree : oAcc.isFreed = false) (h0 : ∀ (h : Heap) X, sysModules < h.objs.size → Cont C.prog C.w (h.push oAcc) X d0 h.objs.size) (hmod : ∀ h, C.G h → sysModules < h.objs.size) (hG : ∀ h h', C.G h → Grow h h' → C.G h')
    (hV : SubV σ' σ) (hfr : (σ'.all fun p => freeOk C.env scope cl p.1) = true)
    (loop : ∀ Cc J I St B acc (s' : Shared) (R : Result → Shared → Prop), At C.prog C.w C.G B (fun _ => False) C.Z (compEnvC scope cl Cc C.env) (ins J (own C.env C.Xc D)) [(acc, d0)] σ' s' → M ≤ s'.toks → Apart C.Z B (fun _ => False) (compEnvC scope cl Cc C.env) (own C.env C.Xc D) J →
      It C.prog C.w C.A M T J I (own (compEnvC scope cl Cc C.env) (own C.env C.Xc D) [(acc, d0)]) items St → St 0 s'.heap →
      (∀ s'', AtC (C.cmp scope cl Cc B (fun _ => False) (own C.env C.Xc D)) [(acc, dN)] σ' s'' → R (.ok .next) s'') → codeAny (model C.prog C.w) C.A (.compStart e 0 (.ref I) (.ref acc) (compEnvC scope cl Cc C.env)) R s')
    (k : ∀ Cc acc s₅ m, Ext s s₅ → s.heap.get? Cc = none → s₅.heap.Ns Cc m → At C.prog C.w C.G C.B C.W C.Z C.env (ins [Cc] C.Xc) D σ s₅ → Apart C.Z C.B C.W C.env C.Xc [Cc] → Rep C.prog C.w s₅.heap (own C.env (ins [Cc] C.Xc) D) dN (.ref acc) →
      compPost (model C.prog C.w) C.A (fun _ _ => False) use Q (.ref acc) Cc (.ok .next) s₅) :
    Go C (comprehension e scope C.env pos newAcc false (eval g.iter C.env) use) Q s := by
  refine wpAny_comprehension_free hcl hs hclos hkind (fun x hx hl => ?_) ?_
  · have := List.all_eq_true.mp hnames x hx
    rw [hl] at this
    simpa using this
  refine EvI.toks hi s a hM _ fun J I s₁ x₁ hM₁ hJ hIt => ?_
  refine hacc s₁ _ ?_
  have hcell' : ∀ x ∈ scope.names, x.2 ≠ .cell := fun x hx => by have := List.all_eq_true.mp hcell x hx; simpa using this
  refine wpAny_newFunctionEnv hcell' (by intro y hy; simp at hy) (fun h₁ hns₁ hsb₁ => ?_) hkind
  dsimp only at hns₁ hsb₁ ⊢
  have hsz : (s₁.heap.push oAcc).objs.size = s₁.heap.objs.size + 1 := Heap.size_push ..
  rw [hsz] at hns₁ hsb₁ ⊢
  have hCc1 : s₁.heap.get? (s₁.heap.objs.size + 1) = none := fresh_ge (Nat.le_succ _)
  have hAc1 : s₁.heap.get? s₁.heap.objs.size = none := fresh_none _
  have hne : s₁.heap.objs.size ≠ s₁.heap.objs.size + 1 := (Nat.succ_ne_self _).symm
  have g₁ : Grow s₁.heap h₁ := fun b o e => hsb₁.extBut b o (Nat.ne_of_lt (Nat.lt_succ_of_lt (Heap.lt_size e))) (Heap.get?_push_of_some _ (Heap.get?_push_of_some _ e))
  have hAcc : h₁.get? s₁.heap.objs.size = some oAcc := hsb₁.extBut _ _ hne (Heap.get?_push_of_some _ (Heap.get?_push_size _ hfree))
  have gA : ∀ o, (s₁.heap.push oAcc).get? s₁.heap.objs.size = some o → h₁.get? s₁.heap.objs.size = some o := fun o e => hsb₁.extBut _ _ hne (Heap.get?_push_of_some _ e)
  have h0' := fun X => h0 s₁.heap X (hmod _ ((a.ext x₁).globNow hG))
  have a0 := a.ext x₁
  generalize hCcd : s₁.heap.objs.size + 1 = Cc at hns₁ hsb₁ hCc1 hne
  generalize hacd : s₁.heap.objs.size = acc at hAc1 hne hAcc gA h0'
  have nOf : ∀ b, s₁.heap.get? b = none → s.heap.get? b = none := fun b hb => back_none x₁.grow hb
  have zOf : ∀ b, s₁.heap.get? b = none → C.Z.heap.get? b = none := fun b hb => back_none a0.grow hb
  -- the walker
  have ownY : ∀ b, own (compEnvC scope cl Cc C.env) (own C.env C.Xc D) [(acc, d0)] b → own C.env C.Xc D b ∨ s₁.heap.get? b = none := by
    intro b hb
    rcases hb with h | h | h | h
    · exact .inl h
    · exact .inr (by rw [h]; exact hCc1)
    · refine .inl ?_
      obtain ⟨p, hp, e⟩ := List.mem_map.mp h
      obtain ⟨q, hq, e', _⟩ := lookup_mem (hclok.mem p hp)
      exact .inr (.inr (.inl (by rw [← e, ← e']; exact List.mem_map_of_mem hq)))
    · exact .inr (by rw [List.mem_singleton.mp h]; exact hAc1)
  obtain ⟨St, it, st₁⟩ := hIt _ ownY
  have hJs : ∀ b ∈ J, ∃ o, s₁.heap.get? b = some o := it.here _ _ st₁
  obtain ⟨a₁, ap⟩ := At.newXc (J := J) a x₁.same x₁.grow hJ hJs
  have ownS : ∀ b, own C.env (ins J C.Xc) D b → ∃ o, s₁.heap.get? b = some o := fun b hb => a₁.own_some hb
  have clOwn : ∀ b, b ∈ cl.map (·.2) → b ∈ C.env.cells.map (·.2) := fun b hb => by
    obtain ⟨p, hp, e⟩ := List.mem_map.mp hb
    obtain ⟨q, hq, e', _⟩ := lookup_mem (hclok.mem p hp)
    rw [← e, ← e']; exact List.mem_map_of_mem hq
  have eX : own C.env (ins J C.Xc) D = ins J (own C.env C.Xc D) := by
    funext b
    exact propext ⟨fun h => (own_ins h).elim .inl .inr, fun h => h.elim (fun q => own_insJ q) own_ins'⟩
  have ownX : ∀ b, own (compEnvC scope cl Cc C.env) (own C.env (ins J C.Xc) D) [(acc, d0)] b → own C.env (ins J C.Xc) D b ∨ s₁.heap.get? b = none := by
    intro b hb
    rcases hb with h | h | h | h
    · exact .inl h
    · exact .inr (by rw [h]; exact hCc1)
    · exact .inl (.inr (.inr (.inl (clOwn b h))))
    · exact .inr (by rw [List.mem_singleton.mp h]; exact hAc1)
  have wr : ∀ b, wrt (compEnvC scope cl Cc C.env) [(acc, d0)] b → b = Cc ∨ b = acc := by
    intro b hb
    rcases hb with h | ⟨h, _⟩ | h
    · exact .inl h
    · cases h
    · exact .inr (List.mem_singleton.mp h)
  have at2 : At C.prog C.w C.G s.heap (fun _ => False) C.Z (compEnvC scope cl Cc C.env) (ins J (own C.env C.Xc D)) [(acc, d0)] σ' { s₁ with heap := h₁, toks := s₁.toks + ([] : List (Str × Value)).length } := by
    rw [← eX]
    refine { same := ?_, glob := a.glob, grow := fun b o e => g₁ b o (a₁.grow b o e), keep := fun b o _ e => g₁ b o (x₁.grow b o e), kind := hkind, ns := ⟨_, hns₁⟩, cells := ?_, dist := ?_, fresh := ?_, ex := fun b hb => let ⟨o, e⟩ := ownS b hb; ⟨o, g₁ b o e⟩, vars := ?_, muts := ?_ }
    · obtain ⟨h, t, e⟩ := a₁.same; exact ⟨h₁, _, by rw [e]⟩
    · intro p hp
      obtain ⟨q, hq, e, _⟩ := lookup_mem (hclok.mem p hp)
      obtain ⟨v, hv⟩ := a₁.cells q hq
      exact ⟨v, e ▸ hv.keeps g₁⟩
    · have hcn : (C.env.cells.map (·.2)).Nodup := (List.nodup_append.mp (List.nodup_cons.mp a.dist).2).1
      refine List.nodup_cons.mpr ⟨fun hm => ?_, List.nodup_append.mpr ⟨cl_nodup hclok hcln hcn, List.pairwise_singleton _ _, fun x hx y hy e => ?_⟩⟩
      · rcases List.mem_append.mp hm with h | h
        · obtain ⟨o, e⟩ := ownS _ (.inr (.inr (.inl (clOwn _ h))))
          rw [show (compEnvC scope cl Cc C.env).locals = Cc from rfl, hCc1] at e; cases e
        · exact hne (List.mem_singleton.mp h).symm
      · rw [List.mem_singleton.mp hy] at e
        obtain ⟨o, q⟩ := ownS _ (.inr (.inr (.inl (clOwn _ hx))))
        rw [e, hAc1] at q; cases q
    · intro b hb
      have hb1 : s₁.heap.get? b = none := by
        rcases wr b hb with h | h <;> rw [h]
        · exact hCc1
        · exact hAc1
      refine ⟨zOf b hb1, .inr (nOf b hb1), fun h => ?_⟩
      obtain ⟨o, e⟩ := ownS b h
      rw [hb1] at e; cases e
    · intro x d hx
      have hx' := hV x d hx
      have hfx : freeOk C.env scope cl x = true := List.all_eq_true.mp hfr _ (lookupV_mem hx)
      unfold freeOk at hfx
      simp only [Bool.and_eq_true, Bool.or_eq_true, beq_iff_eq, bne_iff_ne, ne_eq] at hfx
      obtain ⟨⟨hk, hnl⟩, hc⟩ := hfx
      rcases a₁.vars x d hx' with ⟨h, _⟩ | ⟨_, c, v, e, n, r⟩
      · exact absurd h hnl
      · obtain ⟨c', hc'⟩ := Option.isSome_iff_exists.mp hc
        obtain ⟨p, hp, e1, e2⟩ := lookup_mem hc'
        have := hclok.mem p hp
        rw [e2, e] at this
        rw [← e1, ← Option.some.inj this] at hc'
        exact .inr ⟨hk, c, v, hc', n.keeps g₁, Rep.to ownX (fun b o _ e => g₁ b o e) _ _ r⟩
    · intro p hp
      rw [List.mem_singleton.mp hp]
      have := h0' (own (compEnvC scope cl Cc C.env) (own C.env (ins J C.Xc) D) [(acc, d0)])
      refine this.to (fun _ q => .inl q) (fun b o hb e => ?_) gA
      refine hsb₁.extBut b o (fun h => hb ?_) (Heap.get?_push_of_some _ e)
      rw [h]; exact .inr (.inl rfl)
  have apc : Apart C.Z s.heap (fun _ => False) (compEnvC scope cl Cc C.env) (own C.env C.Xc D) J := by
    refine ⟨ap.z, fun I hI => .inr (hJ I hI), fun I hI e => ?_, fun I hI p hp e => ?_, fun I hI h => ?_⟩
    · obtain ⟨o, q⟩ := hJs I hI
      rw [e, show (compEnvC scope cl Cc C.env).locals = Cc from rfl, hCc1] at q; cases q
    · obtain ⟨q, hq, e', _⟩ := lookup_mem (hclok.mem p hp)
      exact ap.c I hI q hq (e'.trans e)
    · obtain ⟨o, q⟩ := a.own_some h
      rw [hJ I hI] at q; cases q
  refine loop Cc J I St s.heap acc _ _ at2 (Nat.le_trans hM (Nat.le_trans hM₁ (Nat.le_add_right _ _))) apc it (it.frame _ _ _ st₁ fun b o _ e => g₁ b o e) fun s₅ a₅ => ?_
  have g5 : Grow s.heap s₅.heap := fun b o e => a₅.keep b o (fun h => h) e
  have hsame : Same s s₅ := by
    obtain ⟨h, t, e⟩ := a.same; obtain ⟨h', t', e'⟩ := a₅.same
    exact ⟨h', t', by rw [e', e]⟩
  obtain ⟨m, hm⟩ := a₅.ns
  have hCs : s.heap.get? Cc = none := nOf _ hCc1
  obtain ⟨a6, ap6⟩ := At.newXc (J := [Cc]) a hsame g5 (by simpa using hCs) (fun b hb => by
    rw [List.mem_singleton.mp hb]; obtain ⟨o, _, _, q, _⟩ := hm; exact ⟨o, q⟩)
  refine k Cc acc s₅ m ⟨hsame, g5⟩ hCs hm a6 ap6 ?_
  have hc := a₅.muts _ (.head _)
  have hacS : s.heap.get? acc = none := nOf _ hAc1
  have hno : ¬ own C.env (ins [Cc] C.Xc) D acc := fun h => by
    rcases own_ins h with h | h
    · exact hne (List.mem_singleton.mp h)
    · obtain ⟨o, q⟩ := a.own_some h
      rw [hacS] at q; cases q
  refine Cont.rep (hc.to (fun b hb => .inl ?_) (fun _ _ _ e => e) (fun _ e => e)) hno
  rcases own_ins hb with h | h
  · exact .inr (.inl (List.mem_singleton.mp h))
  · exact .inl h
end
end Mine
end

section
open PySem PySem.W PyProof.Rows
namespace Mine

/-- a comprehension ends with dN, whoever takes it -/
def CompOk (C : Cx) (D : Muts) (σ : Vars) (M : Nat) (t : Option (Value → Sem Unit) → Sem Value) (dN : PV) : Prop := ∀ use (Q : Value → Shared → Prop) s, AtC C D σ s → M ≤ s.toks →
  (∀ Cc acc s₅ m, Ext s s₅ → s.heap.get? Cc = none → s₅.heap.Ns Cc m → At C.prog C.w C.G C.B C.W C.Z C.env (ins [Cc] C.Xc) D σ s₅ → Apart C.Z C.B C.W C.env C.Xc [Cc] → Rep C.prog C.w s₅.heap (own C.env (ins [Cc] C.Xc) D) dN (.ref acc) →
      compPost (model C.prog C.w) C.A (fun _ _ => False) use Q (.ref acc) Cc (.ok .next) s₅) → Go C (t use) Q s

def TestsOk (C : Cx) (D : Muts) (σ : Vars) (ifs : List Expr) (b : Bool) : Prop := ∀ s, AtC C D σ s → ∀ Q : Bool → Shared → Prop, (∀ s', Ext s s' → Q b s') → Go C (testsOf ifs C.env) Q s

section
variable {C : Cx} {D : Muts} {σ : Vars} {s : Shared}
theorem tests_nil : TestsOk C D σ [] true := fun s a Q k => wpAny_tests_nil (k s (Ext.refl s))
theorem tests_one {c : Expr} {b : Bool} (h : EvB C D σ c b) : TestsOk C D σ [c] b := fun s a Q k => wpAny_tests_one (h s a _ k)

theorem ev_of_comp {e : Expr} {t : Option (Value → Sem Unit) → Sem Value} {dN : PV} (h : CompOk C D σ 0 t dN) (he : eval e C.env = t none) : Ev C D σ e dN := by
  intro s a Q k
  rw [he]
  refine h none Q s a (Nat.zero_le _) fun Cc acc s₅ m x hn hm a5 ap r => ⟨m, hm, fun h' hs' => ?_⟩
  have g : Grow s.heap h' := fun b o e => (hs'.2 b (fun q => by rw [q, hn] at e; cases e)).trans (x.grow b o e)
  obtain ⟨hh, tt, rfl⟩ := x.same
  refine k _ _ ⟨⟨h', tt, rfl⟩, g⟩ ?_
  refine Rep.to (fun b hb => .inl (own_ins' hb)) (fun b o nb e => ?_) _ _ r
  exact (hs'.2 b (fun q => nb (own_insJ (by rw [q]; exact .head _)))).trans e

theorem x_assign_comp {M : Nat} {e : Expr} {t : Option (Value → Sem Unit) → Sem Value} {dN : PV} {y : Str} {yp pos : Pos} {rest : List Stmt} {Q : Flow → Shared → Prop} (a : AtC C D σ s) (hM : M ≤ s.toks) (h : CompOk C D σ M t dN) (he : ∀ u, evalThenUse e C.env u = (t (some u) >>= fun _ => pure ()))
    (hsw : swapsWith e (some (.Name y yp)) pos.line C.env = pure true) (k : ∀ s', AtC C D ((y, dN) :: σ) s' → Go C (execs rest C.env) Q s') (hx : stOk C.env y = true := by rfl) : Go C (execs (.Assign [.Name y yp] e pos :: rest) C.env) Q s := by
  refine x_cons ?_
  rw [exec_Assign_Name_used _ _ _ _ hsw, he]
  refine wpAny_bind (wpAny_standAt (wpAny_bind (wpAny_bind ?_)))
  refine h (some (assign (.Name y yp) C.env)) _ s a hM fun Cc acc s₅ m x hn hm a5 ap r => ?_
  show wpAny _ C.A (assign (.Name y yp) C.env (.ref acc)) _ _ _
  have a5' : AtC { C with Xc := ins [Cc] C.Xc } D σ s₅ := a5
  refine wpAny_assign_Name (go_store (C := { C with Xc := ins [Cc] C.Xc }) a5' r hx fun s₆ a₆ k₆ => ?_)
  have hw : ¬ wrt C.env D Cc := fun h => (a5.fresh Cc h).2.2 (.inl (.head _))
  refine ⟨m, hm.at' fun o e => k₆ _ o hw e, fun h' hs' => wpAny_pure (wpAny_pure ?_)⟩
  exact k _ (At.doneXc a₆ ap ⟨h', s₆.toks, rfl⟩ fun b o nb e => (hs'.2 b (fun q => nb (by rw [q]; exact .head _))).trans e)

theorem foldO_filterMap {α : Type} {q : α → Option PV} : ∀ (l : List α) (acc : List PV), acc.length + l.length ≤ 1000000 →
    foldO (fun (acc : List PV) d => match q d with | none => some acc | some d' => if acc.length ≤ 1000000 then some (acc ++ [d']) else none) acc l = some (acc ++ l.filterMap q)
  | [], acc, _ => by simp [foldO]
  | d :: l, acc, h => by
    simp only [List.length_cons] at h
    simp only [foldO, List.filterMap_cons]
    cases hq : q d with
    | none => exact foldO_filterMap l acc (by omega)
    | some d' =>
      simp only [if_pos (show acc.length ≤ 1000000 by omega)]
      rw [foldO_filterMap l (acc ++ [d']) (by rw [List.length_append, List.length_singleton]; omega)]
      simp
theorem sizeOk_of {n : Nat} (h : n ≤ 1000000) : n ≤ sizeLine := by rw [sizeLine_eq]; omega

/-- [elt for tgt in iter if ..] -/
theorem comp_list {M : Nat} {elt tgt iter : Expr} {ifs : List Expr} {scope : Scope} {pos : Pos} {cl : List (Str × Addr)} {T : Expr → Bool} {α : Type} {items : List α} {emb : α → PV} {σ' : Vars} (q : α → Option PV) (ns : α → Vars) {mg mb : Str → Option Value} (g : GOk C.G mg mb)
    (hi : EvI C D σ M T iter (items.map emb)) (hT : T tgt = true) (hsz : items.length ≤ 1000000) (hV : SubV σ' σ)
    (hb : ∀ Cc B W X d, d ∈ items → Binds (C.cmp scope cl Cc B W X) tgt (emb d) (ns d))
    (turn : ∀ Cc B W X D' d, d ∈ items → TestsOk (C.cmp scope cl Cc B W X) D' (ns d ++ σ') ifs (q d).isSome ∧ ∀ d', q d = some d' → Ev (C.cmp scope cl Cc B W X) D' (ns d ++ σ') elt d')
    (hsub : ∀ d ∈ items, SubV σ' (ns d ++ σ'))
    (hclos : closureFor scope C.env = pure cl := by rfl) (hclok : ClOk C.env cl := by repeat (first | exact trivial | refine ⟨rfl, ?_⟩)) (hcln : (cl.map (·.1)).Nodup := by first | decide | (simp only [List.map_cons, List.map_nil]; decide)) (hkind : scope.kind = .function := by rfl)
    (hnames : (scope.names.all fun x => x.2 != .local || scope.names.lookup x.1 == some .local) = true := by rfl) (hcell : (scope.names.all fun x => x.2 != .cell) = true := by rfl) (hfr : (σ'.all fun p => freeOk C.env scope cl p.1) = true := by rfl)
    (hs : ∀ x, foldedSetIterable iter C.env x = pure x := by intro _; rfl) :
    CompOk C D σ M (fun use => comprehension (.ListComp elt [⟨tgt, iter, ifs, 0⟩] scope pos) scope C.env iter.pos (newList []) false (eval iter C.env) use) (.lst (items.filterMap q)) := by
  intro use Q s a hM k
  refine go_enter (e := .ListComp elt [⟨tgt, iter, ifs, 0⟩] scope pos) (g := ⟨tgt, iter, ifs, 0⟩) (gs := []) (oAcc := { cls := .type "list", data := .seq ([] : List Value).toArray }) (d0 := .lst []) a hM rfl hs hclos hclok hcln hkind hnames hcell hi
    (fun s Q h => wpAny_newObj_type h (Nat.zero_le _)) rfl (fun h X _ => ⟨[], ⟨_, Heap.get?_push_size _ rfl⟩, RepL.nil⟩) (fun h x => modules_low (g.lim _ x)) g.mono hV hfr ?_ k
  intro Cc J I St B acc s' R at' hM' ap it st kR
  have go : codeAny (model C.prog C.w) C.A (.compLoop (.ListComp elt [⟨tgt, iter, ifs, 0⟩] scope pos) 0 (.ref I) (.ref acc) (compEnvC scope cl Cc C.env)) R s' := by
    refine comp_loop (C := C.cmp scope cl Cc B (fun _ => False) (own C.env C.Xc D)) (inner := do let _ ← call (.builtin "list.append") [.ref acc, ← eval elt (compEnvC scope cl Cc C.env)]) (compTurn_list elt tgt iter ifs scope pos (.ref I) (.ref acc) _) rfl (fun _ _ _ h => h)
      (fun (l : List PV) d => match q d with | none => some l | some d' => if l.length ≤ 1000000 then some (l ++ [d']) else none) (fun l => [(acc, .lst l)]) σ' ns [] (sN := items.filterMap q) at' hM' ap it st hT (fun _ => rfl) (fun h st d hd => hb _ _ _ _ d hd) ?_ (by simpa using foldO_filterMap (q := q) items [] (by simpa using hsz)) kR
    intro h l d s₂ K hd hne a₂ hk
    obtain ⟨ht, he⟩ := turn Cc h (wrt (compEnvC scope cl Cc C.env) [(acc, .lst l)]) (ins J (own C.env C.Xc D)) [(acc, .lst l)] d hd
    refine ht s₂ a₂ _ fun s₃ x₃ => ?_
    cases hq : q d with
    | none =>
      simp only [hq, Option.isSome_none, Bool.false_eq_true, if_false] at hk ⊢
      exact hk l s₃ rfl ((AtC.ext a₂ x₃).forget (hsub d hd))
    | some d' =>
      simp only [hq, Option.isSome_some, if_true] at hk hne ⊢
      split at hne
      · rename_i hl
        exact emit_list (AtC.ext a₂ x₃) (he d' hq) (sizeOk_of hl) fun s₄ a₄ => hk _ s₄ (if_pos hl) (At.forget a₄ (hsub d hd))
      · exact absurd rfl hne
  exact codeAny_compStart_list go (go_any (it.self 0 s' _ st go))

theorem dset_length (l : List (Int × Int)) (k x : Int) : (dset l k x).length ≤ l.length + 1 := by
  unfold dset; split
  · rw [List.length_map]; omega
  · rw [List.length_append, List.length_singleton]; exact Nat.le_refl _
def dcompF {α : Type} (q : α → Option (Int × Int)) (l : List (Int × Int)) (d : α) : List (Int × Int) := match q d with | none => l | some p => dset l p.1 p.2
theorem foldO_dcomp {α : Type} {q : α → Option (Int × Int)} : ∀ (l : List α) (acc : List (Int × Int)), acc.length + l.length ≤ 1000000 →
    foldO (fun (acc : List (Int × Int)) d => if acc.length ≤ 1000000 then some (dcompF q acc d) else none) acc l = some (l.foldl (dcompF q) acc)
  | [], acc, _ => rfl
  | d :: l, acc, h => by
    simp only [List.length_cons] at h
    simp only [foldO, List.foldl_cons, if_pos (show acc.length ≤ 1000000 by omega)]
    refine foldO_dcomp l _ ?_
    have : (dcompF q acc d).length ≤ acc.length + 1 := by
      unfold dcompF; split
      · omega
      · exact dset_length _ _ _
    omega

theorem emit_dict {c : Addr} {l : List (Int × Int)} {kx vx : Expr} {i x : Int} {p : Pos} {K : Shared → Prop} (a : AtC C ((c, .dct l) :: D) σ s) (hk : Ev C ((c, .dct l) :: D) σ kx (.int i)) (hv : Ev C ((c, .dct l) :: D) σ vx (.int x)) (hsz : l.length ≤ sizeLine) (k : ∀ s', AtC C ((c, .dct (dset l i x)) :: D) σ s' → K s') :
    Go C (do
            let kv ← eval kx C.env
            let vv ← holding [kv] (eval vx C.env)
            standAt p
            holding [kv, vv] (dictSet c kv vv)) (fun _ s' => K s') s := by
  refine wpAny_bind (hk s a _ fun kv s₁ x₁ r₁ => wpAny_bind (wpAny_holding (hv s₁ (a.ext x₁) _ fun vv s₂ x₂ r₂ => wpAny_bind (wpAny_standAt (wpAny_holding ?_)))))
  have a₂ := a.ext (x₁.trans x₂)
  obtain ⟨t, rfl⟩ := int_of r₁
  obtain ⟨u, rfl⟩ := int_of r₂
  obtain ⟨hsm, kvs, hd, hr⟩ := dct_of (a₂.muts _ (.head _))
  refine wpAny_dictSet_pairs (knd := PySem.intKind C.prog C.w) (intKind_is _ _ _ _) hd (fun h' hd' hs' => k _ ?_) (by rw [hr.length]; exact hsz)
  exact At.setMut a₂ ⟨h', _, rfl⟩ (fun b o hb e => (hs'.2 b hb).trans e) ⟨hsm, _, hd', hr.set i x u⟩

/-- {kx: vx for tgt in iter if ..} -/
theorem comp_dict {M : Nat} {kx vx tgt iter : Expr} {ifs : List Expr} {scope : Scope} {pos : Pos} {cl : List (Str × Addr)} {T : Expr → Bool} {α : Type} {items : List α} {emb : α → PV} {σ' : Vars} (q : α → Option (Int × Int)) (ns : α → Vars) {mg mb : Str → Option Value} (g : GOk C.G mg mb)
    (hi : EvI C D σ M T iter (items.map emb)) (hT : T tgt = true) (hsz : items.length ≤ 1000000) (hV : SubV σ' σ)
    (hb : ∀ Cc B W X d, d ∈ items → Binds (C.cmp scope cl Cc B W X) tgt (emb d) (ns d))
    (turn : ∀ Cc B W X D' d, d ∈ items → TestsOk (C.cmp scope cl Cc B W X) D' (ns d ++ σ') ifs (q d).isSome ∧ ∀ p, q d = some p → Ev (C.cmp scope cl Cc B W X) D' (ns d ++ σ') kx (.int p.1) ∧ Ev (C.cmp scope cl Cc B W X) D' (ns d ++ σ') vx (.int p.2))
    (hsub : ∀ d ∈ items, SubV σ' (ns d ++ σ'))
    (hclos : closureFor scope C.env = pure cl := by rfl) (hclok : ClOk C.env cl := by repeat (first | exact trivial | refine ⟨rfl, ?_⟩)) (hcln : (cl.map (·.1)).Nodup := by first | decide | (simp only [List.map_cons, List.map_nil]; decide)) (hkind : scope.kind = .function := by rfl)
    (hnames : (scope.names.all fun x => x.2 != .local || scope.names.lookup x.1 == some .local) = true := by rfl) (hcell : (scope.names.all fun x => x.2 != .cell) = true := by rfl) (hfr : (σ'.all fun p => freeOk C.env scope cl p.1) = true := by rfl)
    (hs : ∀ x, foldedSetIterable iter C.env x = pure x := by intro _; rfl) :
    CompOk C D σ M (fun use => comprehension (.DictComp kx vx [⟨tgt, iter, ifs, 0⟩] scope pos) scope C.env iter.pos newDict false (eval iter C.env) use) (.dct (items.foldl (dcompF q) [])) := by
  intro use Q s a hM k
  refine go_enter (e := .DictComp kx vx [⟨tgt, iter, ifs, 0⟩] scope pos) (g := ⟨tgt, iter, ifs, 0⟩) (gs := []) (oAcc := { cls := .type "dict", data := .dict #[] }) (d0 := .dct []) a hM rfl hs hclos hclok hcln hkind hnames hcell hi
    (fun s Q h => by simp only [newDict, newObj]; exact wpAny_bind (wpAny_alloc (wpAny_pure h))) rfl (fun h X hm => ⟨beq_eq_false_iff_ne.mpr (Nat.ne_of_gt hm), [], Heap.DictOf.new _, rfl⟩) (fun h x => modules_low (g.lim _ x)) g.mono hV hfr ?_ k
  intro Cc J I St B acc s' R at' hM' ap it st kR
  have go : codeAny (model C.prog C.w) C.A (.compLoop (.DictComp kx vx [⟨tgt, iter, ifs, 0⟩] scope pos) 0 (.ref I) (.ref acc) (compEnvC scope cl Cc C.env)) R s' := by
    refine comp_loop (C := C.cmp scope cl Cc B (fun _ => False) (own C.env C.Xc D)) (inner := do
            let kv ← eval kx (compEnvC scope cl Cc C.env)
            let vv ← holding [kv] (eval vx (compEnvC scope cl Cc C.env))
            standAt { kx.pos with endLine := vx.pos.endLine, endCol := vx.pos.endCol }
            holding [kv, vv] (dictSet acc kv vv)) (compTurn_dict kx vx tgt iter ifs scope pos (.ref I) acc _) rfl (fun _ _ _ h => h)
      (fun (l : List (Int × Int)) d => if l.length ≤ 1000000 then some (dcompF q l d) else none) (fun l => [(acc, .dct l)]) σ' ns [] (sN := items.foldl (dcompF q) []) at' hM' ap it st hT (fun _ => rfl) (fun h st d hd => hb _ _ _ _ d hd) ?_ (foldO_dcomp (q := q) items [] (by simpa using hsz)) kR
    intro h l d s₂ K hd hne a₂ hk
    split at hne
    · rename_i hl
      obtain ⟨ht, he⟩ := turn Cc h (wrt (compEnvC scope cl Cc C.env) [(acc, .dct l)]) (ins J (own C.env C.Xc D)) [(acc, .dct l)] d hd
      refine ht s₂ a₂ _ fun s₃ x₃ => ?_
      cases hq : q d with
      | none =>
        simp only [Option.isSome_none, Bool.false_eq_true, if_false]
        exact hk l s₃ (by rw [if_pos hl]; unfold dcompF; rw [hq]) ((AtC.ext a₂ x₃).forget (hsub d hd))
      | some p =>
        simp only [Option.isSome_some, if_true]
        obtain ⟨h1, h2⟩ := he p hq
        exact emit_dict (AtC.ext a₂ x₃) h1 h2 (sizeOk_of hl) fun s₄ a₄ => hk _ s₄ (by rw [if_pos hl]; unfold dcompF; rw [hq]) (At.forget a₄ (hsub d hd))
    · exact absurd rfl hne
  exact codeAny_compStart_dict go (go_any (it.self 0 s' _ st go))

theorem compTurn_list2a (elt t1 i1 t2 i2 : Expr) (ifs1 ifs2 : List Expr) (scope : Scope) (pos : Pos) (it acc : Value) (env : Env) :
    compTurn (.ListComp elt [⟨t1, i1, ifs1, 0⟩, ⟨t2, i2, ifs2, 0⟩] scope pos) 0 it acc env = (do
      standAt i1.pos
      match ← pyNext it with
      | none => pure (.done .next)
      | some v =>
        letOwnedTupleGo t1 it v
        assign t1 env v
        let mut ok := true
        for c in ifs1 do
          if ok then ok ← isTrue c env (eval c env)
        if ok then
          let x ← eval i2 env
          standAt i2.pos
          let x ← foldedSetIterable i2 env x
          let _ ← runOwn (.compStart (.ListComp elt [⟨t1, i1, ifs1, 0⟩, ⟨t2, i2, ifs2, 0⟩] scope pos) 1 (← holding [x] (pyIter x)) acc env) env
        again (.compLoop (.ListComp elt [⟨t1, i1, ifs1, 0⟩, ⟨t2, i2, ifs2, 0⟩] scope pos) 0 it acc env)) := by rfl
theorem compTurn_list2b (elt t1 i1 t2 i2 : Expr) (ifs1 ifs2 : List Expr) (scope : Scope) (pos : Pos) (it acc : Value) (env : Env) :
    compTurn (.ListComp elt [⟨t1, i1, ifs1, 0⟩, ⟨t2, i2, ifs2, 0⟩] scope pos) 1 it acc env = (do
      standAt i2.pos
      match ← pyNext it with
      | none => pure (.done .next)
      | some v =>
        letOwnedTupleGo t2 it v
        assign t2 env v
        let mut ok := true
        for c in ifs2 do
          if ok then ok ← isTrue c env (eval c env)
        if ok then
          (do let _ ← call (.builtin "list.append") [acc, ← eval elt env])
        again (.compLoop (.ListComp elt [⟨t1, i1, ifs1, 0⟩, ⟨t2, i2, ifs2, 0⟩] scope pos) 1 it acc env)) := by rfl
theorem compTurn_list2c (elt t1 i1 t2 i2 : Expr) (ifs1 ifs2 : List Expr) (scope : Scope) (pos : Pos) (it acc : Value) (env : Env) :
    compTurn (.ListComp elt [⟨t1, i1, ifs1, 0⟩, ⟨t2, i2, ifs2, 0⟩] scope pos) 0 it acc env = (do
      standAt i1.pos
      match ← pyNext it with
      | none => pure (.done .next)
      | some v =>
        letOwnedTupleGo t1 it v
        assign t1 env v
        let mut ok := true
        for c in ifs1 do
          if ok then ok ← isTrue c env (eval c env)
        if ok then
          (do
            let x ← eval i2 env
            standAt i2.pos
            let x ← foldedSetIterable i2 env x
            let _ ← runOwn (.compStart (.ListComp elt [⟨t1, i1, ifs1, 0⟩, ⟨t2, i2, ifs2, 0⟩] scope pos) 1 (← holding [x] (pyIter x)) acc env) env)
        again (.compLoop (.ListComp elt [⟨t1, i1, ifs1, 0⟩, ⟨t2, i2, ifs2, 0⟩] scope pos) 0 it acc env)) := by
  rw [compTurn_list2a]
  refine congrArg (standAt i1.pos >>= ·) (funext fun _ => congrArg (pyNext it >>= ·) (funext fun r => ?_))
  cases r with
  | none => rfl
  | some v =>
    refine congrArg (letOwnedTupleGo t1 it v >>= ·) (funext fun _ => congrArg (assign t1 env v >>= ·) (funext fun _ => ?_))
    refine congrArg (forIn ifs1 true _ >>= ·) (funext fun ok => ?_)
    cases ok with
    | false => rfl
    | true =>
      simp only [if_true, bind_assoc, pure_bind]

theorem codeAny_compStart1 {elt t1 i1 t2 i2 : Expr} {ifs1 ifs2 : List Expr} {scope : Scope} {pos : Pos} {it acc : Value} {env : Env} {prog : Program} {w : World} {A : Around} {R : Result → Shared → Prop}
    (h0 : codeAny (model prog w) A (.compLoop (.ListComp elt [⟨t1, i1, ifs1, 0⟩, ⟨t2, i2, ifs2, 0⟩] scope pos) 1 it acc env) R s)
    (h : wpAny (model prog w) A (pyIter it) (fun it' s' => codeAny (model prog w) A (.compLoop (.ListComp elt [⟨t1, i1, ifs1, 0⟩, ⟨t2, i2, ifs2, 0⟩] scope pos) 1 it' acc env) R s')
      (notedBy (model prog w) A env fun x s' => R (.error x) s') s) :
    codeAny (model prog w) A (.compStart (.ListComp elt [⟨t1, i1, ifs1, 0⟩, ⟨t2, i2, ifs2, 0⟩] scope pos) 1 it acc env) R s := by
  refine codeAny_of_tree ?_
  show wpAny _ _ ((compStart (.ListComp elt [⟨t1, i1, ifs1, 0⟩, ⟨t2, i2, ifs2, 0⟩] scope pos) 1 it acc env).onRaise (fun x => do noteFrame x env; standAt theWindowsPlace)) _ _ s
  refine wpAny_notedAt ?_
  unfold compStart
  show wpAny _ _ (ask >>= _) _ _ s
  refine wpAny_bind (wpAny_askSetting (wpAny_ite ?_))
  split
  · first
      | exact wpAny_bind (wpAny_pure (wpAny_pure (And.intro rfl h0)))
      | exact wpAny_pure (And.intro rfl h0)
  · first
      | exact wpAny_bind (wpAny_rule (wpAny_bind (wpAny_standAt (wpAny_bind (wpAny_mono h (fun it' s' h' => wpAny_pure (And.intro rfl h')) fun _ _ x => x)))))
      | (refine wpAny_bind (wpAny_rule ?_); show wpAny _ _ (standAt i2.pos >>= _) _ _ s; exact wpAny_bind (wpAny_standAt (wpAny_bind (wpAny_mono h (fun it' s' h' => wpAny_pure (And.intro rfl h')) fun _ _ x => x))))

theorem foldO_map {α : Type} {f : α → PV} : ∀ (l : List α) (acc : List PV), acc.length + l.length ≤ 1000000 →
    foldO (fun (acc : List PV) d => if acc.length ≤ 1000000 then some (acc ++ [f d]) else none) acc l = some (acc ++ l.map f)
  | [], acc, _ => by simp [foldO]
  | d :: l, acc, h => by
    simp only [List.length_cons] at h
    simp only [foldO, if_pos (show acc.length ≤ 1000000 by omega)]
    rw [foldO_map l (acc ++ [f d]) (by rw [List.length_append, List.length_singleton]; omega)]
    simp
theorem foldO_flat {α β : Type} {i2 : α → List β} {f : α → β → PV} : ∀ (l : List α) (acc : List PV), acc.length + (l.flatMap fun d => (i2 d).map (f d)).length ≤ 1000000 →
    foldO (fun (acc : List PV) d => if acc.length + (i2 d).length ≤ 1000000 then some (acc ++ (i2 d).map (f d)) else none) acc l = some (acc ++ l.flatMap fun d => (i2 d).map (f d))
  | [], acc, _ => by simp [foldO]
  | d :: l, acc, h => by
    simp only [List.flatMap_cons, List.length_append, List.length_map] at h
    simp only [foldO, if_pos (show acc.length + (i2 d).length ≤ 1000000 by omega)]
    rw [foldO_flat l _ (by rw [List.length_append, List.length_map]; omega)]
    simp

/-- [elt for t1 in i1 for t2 in i2] -/
theorem comp_list2 {M : Nat} {elt t1 i1 t2 i2 : Expr} {scope : Scope} {pos : Pos} {cl : List (Str × Addr)} {T T2 : Expr → Bool} {α β : Type} {items : List α} {emb : α → PV} {emb2 : β → PV} {σ' : Vars} (it2 : α → List β) (f : α → β → PV) (ns : α → Vars) (ns2 : β → Vars) {mg mb : Str → Option Value} (g : GOk C.G mg mb)
    (hi : EvI C D σ M T i1 (items.map emb)) (hT : T t1 = true) (hT2 : T2 t2 = true) (hsz : (items.flatMap fun d => (it2 d).map (f d)).length ≤ 1000000) (hV : SubV σ' σ)
    (hb : ∀ Cc B W X d, d ∈ items → Binds (C.cmp scope cl Cc B W X) t1 (emb d) (ns d)) (hb2 : ∀ Cc B W X d d2, d ∈ items → d2 ∈ it2 d → Binds (C.cmp scope cl Cc B W X) t2 (emb2 d2) (ns2 d2))
    (hi2 : ∀ Cc B W X D' d, d ∈ items → EvI (C.cmp scope cl Cc B W X) D' (ns d ++ σ') 0 T2 i2 ((it2 d).map emb2))
    (turn : ∀ Cc B W X D' d d2, d ∈ items → d2 ∈ it2 d → Ev (C.cmp scope cl Cc B W X) D' (ns2 d2 ++ (ns d ++ σ')) elt (f d d2))
    (hsub : ∀ d ∈ items, SubV σ' (ns d ++ σ')) (hsub2 : ∀ d ∈ items, ∀ d2 ∈ it2 d, SubV (ns d ++ σ') (ns2 d2 ++ (ns d ++ σ')))
    (hclos : closureFor scope C.env = pure cl := by rfl) (hclok : ClOk C.env cl := by repeat (first | exact trivial | refine ⟨rfl, ?_⟩)) (hcln : (cl.map (·.1)).Nodup := by first | decide | (simp only [List.map_cons, List.map_nil]; decide)) (hkind : scope.kind = .function := by rfl)
    (hnames : (scope.names.all fun x => x.2 != .local || scope.names.lookup x.1 == some .local) = true := by rfl) (hcell : (scope.names.all fun x => x.2 != .cell) = true := by rfl) (hfr : (σ'.all fun p => freeOk C.env scope cl p.1) = true := by rfl)
    (hs : ∀ x, foldedSetIterable i1 C.env x = pure x := by intro _; rfl) (hs2 : ∀ env x, foldedSetIterable i2 env x = pure x := by intro _ _; rfl) :
    CompOk C D σ M (fun use => comprehension (.ListComp elt [⟨t1, i1, [], 0⟩, ⟨t2, i2, [], 0⟩] scope pos) scope C.env i1.pos (newList []) false (eval i1 C.env) use) (.lst (items.flatMap fun d => (it2 d).map (f d))) := by
  intro use Q s a hM k
  refine go_enter (e := .ListComp elt [⟨t1, i1, [], 0⟩, ⟨t2, i2, [], 0⟩] scope pos) (g := ⟨t1, i1, [], 0⟩) (gs := [⟨t2, i2, [], 0⟩]) (oAcc := { cls := .type "list", data := .seq ([] : List Value).toArray }) (d0 := .lst []) a hM rfl hs hclos hclok hcln hkind hnames hcell hi
    (fun s Q h => wpAny_newObj_type h (Nat.zero_le _)) rfl (fun h X _ => ⟨[], ⟨_, Heap.get?_push_size _ rfl⟩, RepL.nil⟩) (fun h x => modules_low (g.lim _ x)) g.mono hV hfr ?_ k
  intro Cc J I St B acc s' R at' hM' ap it st kR
  have go : codeAny (model C.prog C.w) C.A (.compLoop (.ListComp elt [⟨t1, i1, [], 0⟩, ⟨t2, i2, [], 0⟩] scope pos) 0 (.ref I) (.ref acc) (compEnvC scope cl Cc C.env)) R s' := by
    refine comp_loop (C := C.cmp scope cl Cc B (fun _ => False) (own C.env C.Xc D)) (inner := do
            let x ← eval i2 (compEnvC scope cl Cc C.env)
            standAt i2.pos
            let x ← foldedSetIterable i2 (compEnvC scope cl Cc C.env) x
            let _ ← runOwn (.compStart (.ListComp elt [⟨t1, i1, [], 0⟩, ⟨t2, i2, [], 0⟩] scope pos) 1 (← holding [x] (pyIter x)) (.ref acc) (compEnvC scope cl Cc C.env)) (compEnvC scope cl Cc C.env))
      (compTurn_list2c elt t1 i1 t2 i2 [] [] scope pos (.ref I) (.ref acc) _) rfl (fun _ _ _ h => h)
      (fun (l : List PV) d => if l.length + (it2 d).length ≤ 1000000 then some (l ++ (it2 d).map (f d)) else none) (fun l => [(acc, .lst l)]) σ' ns [] (sN := items.flatMap fun d => (it2 d).map (f d)) at' hM' ap it st hT (fun _ => rfl) (fun h st d hd => hb _ _ _ _ d hd) ?_
      (by simpa using foldO_flat (i2 := it2) (f := f) items [] (by simpa using hsz)) kR
    intro h l d s₂ K hd hne a₂ hk
    split at hne
    · rename_i hl
      refine wpAny_tests_nil ?_
      rw [if_pos rfl]
      refine wpAny_bind ?_
      refine wpAny_mono (hi2 Cc h (wrt (compEnvC scope cl Cc C.env) [(acc, .lst l)]) (ins J (own C.env C.Xc D)) [(acc, .lst l)] d hd s₂ a₂ (Nat.zero_le _) (fun it' s₄ => Go (C.cmp scope cl Cc h (wrt (compEnvC scope cl Cc C.env) [(acc, .lst l)]) (ins J (own C.env C.Xc D)))
          (do
            let _ ← runOwn (.compStart (.ListComp elt [⟨t1, i1, [], 0⟩, ⟨t2, i2, [], 0⟩] scope pos) 1 it' (.ref acc) (compEnvC scope cl Cc C.env)) (compEnvC scope cl Cc C.env)) (fun _ s₅ => K s₅) s₄) ?_)
        (fun x s₃ h₃ => wpAny_bind (wpAny_standAt (wpAny_bind (wpAny_of_eq (hs2 _ x) (wpAny_bind (wpAny_holding h₃)))))) (fun _ _ e => e)
      intro J' I' s₃ x₃ hJ' hIt'
      obtain ⟨St', it', st'⟩ := hIt' (own (compEnvC scope cl Cc C.env) (ins J (own C.env C.Xc D)) [(acc, .lst l)]) fun b hb => .inl hb
      obtain ⟨a₃, ap₃⟩ := At.newXc (J := J') a₂ x₃.same x₃.grow hJ' (it'.here _ _ st')
      refine wpAny_bind (wpAny_runOwn ?_)
      have go2 : codeAny (model C.prog C.w) C.A (.compLoop (.ListComp elt [⟨t1, i1, [], 0⟩, ⟨t2, i2, [], 0⟩] scope pos) 1 (.ref I') (.ref acc) (compEnvC scope cl Cc C.env))
          (fun r s' => match r with | .ok f => wpAny (model C.prog C.w) C.A (pure ()) (fun _ s₂ => K s₂) (fun _ _ => False) s' | .error e => cameBackBy (model C.prog C.w) C.A (compEnvC scope cl Cc C.env) (fun _ _ => False) e s') s₃ := by
        refine comp_loop (C := C.cmp scope cl Cc h (wrt (compEnvC scope cl Cc C.env) [(acc, .lst l)]) (ins J (own C.env C.Xc D))) (inner := do let _ ← call (.builtin "list.append") [.ref acc, ← eval elt (compEnvC scope cl Cc C.env)])
          (compTurn_list2b elt t1 i1 t2 i2 [] [] scope pos (.ref I') (.ref acc) _) rfl (fun _ _ _ h => h)
          (fun (l : List PV) d2 => if l.length ≤ 1000000 then some (l ++ [f d d2]) else none) (fun l => [(acc, .lst l)]) (ns d ++ σ') ns2 l (sN := l ++ (it2 d).map (f d)) a₃ (Nat.zero_le _) ap₃ it' st' hT2 (fun _ => rfl) (fun h' l' d2 hd2 => hb2 _ _ _ _ d d2 hd hd2) ?_
          (foldO_map (f := f d) (it2 d) l hl) fun s₅ a₅ => ?_
        · intro h' l' d2 s₄ K' hd2 hne2 a₄ hk'
          split at hne2
          · rename_i hl'
            refine wpAny_tests_nil ?_
            rw [if_pos rfl]
            exact emit_list a₄ (turn Cc h' _ _ [(acc, .lst l')] d d2 hd hd2) (sizeOk_of hl') fun s₅ a₅ => hk' _ s₅ (if_pos hl') (At.forget a₅ (hsub2 d hd d2 hd2))
          · exact absurd rfl hne2
        · exact wpAny_pure (hk _ s₅ (if_pos hl) (At.forget a₅ (hsub d hd)))
      exact codeAny_compStart1 go2 (go_any (it'.self 0 s₃ _ st' go2))
    · exact absurd rfl hne
  exact codeAny_compStart_list go (go_any (it.self 0 s' _ st go))

abbrev treeL (C : Cx) (e : Expr) (scope : Scope) (iter : Expr) (use : Option (Value → Sem Unit)) : Sem Value := comprehension e scope C.env iter.pos (newList []) false (eval iter C.env) use
abbrev treeD (C : Cx) (e : Expr) (scope : Scope) (iter : Expr) (use : Option (Value → Sem Unit)) : Sem Value := comprehension e scope C.env iter.pos newDict false (eval iter C.env) use
theorem ev_lc1 {elt tgt iter : Expr} {ifs : List Expr} {scope : Scope} {pos : Pos} {dN : PV} (h : CompOk C D σ 0 (treeL C (.ListComp elt [⟨tgt, iter, ifs, 0⟩] scope pos) scope iter) dN) : Ev C D σ (.ListComp elt [⟨tgt, iter, ifs, 0⟩] scope pos) dN := ev_of_comp h rfl
theorem ev_lc2 {elt t1 i1 t2 i2 : Expr} {f1 f2 : List Expr} {scope : Scope} {pos : Pos} {dN : PV} (h : CompOk C D σ 0 (treeL C (.ListComp elt [⟨t1, i1, f1, 0⟩, ⟨t2, i2, f2, 0⟩] scope pos) scope i1) dN) : Ev C D σ (.ListComp elt [⟨t1, i1, f1, 0⟩, ⟨t2, i2, f2, 0⟩] scope pos) dN := ev_of_comp h rfl
theorem ev_dc {kx vx tgt iter : Expr} {ifs : List Expr} {scope : Scope} {pos : Pos} {dN : PV} (h : CompOk C D σ 0 (treeD C (.DictComp kx vx [⟨tgt, iter, ifs, 0⟩] scope pos) scope iter) dN) : Ev C D σ (.DictComp kx vx [⟨tgt, iter, ifs, 0⟩] scope pos) dN := ev_of_comp h rfl
theorem x_assign_lc1 {M : Nat} {elt tgt iter : Expr} {ifs : List Expr} {scope : Scope} {cpos : Pos} {dN : PV} {y : Str} {yp pos : Pos} {rest : List Stmt} {Q : Flow → Shared → Prop} (a : AtC C D σ s) (hM : M ≤ s.toks)
    (h : CompOk C D σ M (treeL C (.ListComp elt [⟨tgt, iter, ifs, 0⟩] scope cpos) scope iter) dN) (k : ∀ s', AtC C D ((y, dN) :: σ) s' → Go C (execs rest C.env) Q s')
    (hsw : swapsWith (.ListComp elt [⟨tgt, iter, ifs, 0⟩] scope cpos) (some (.Name y yp)) pos.line C.env = pure true := by rfl) (hx : stOk C.env y = true := by rfl) : Go C (execs (.Assign [.Name y yp] (.ListComp elt [⟨tgt, iter, ifs, 0⟩] scope cpos) pos :: rest) C.env) Q s :=
  x_assign_comp a hM h (fun _ => rfl) hsw k hx
theorem x_assign_lc2 {M : Nat} {elt t1 i1 t2 i2 : Expr} {f1 f2 : List Expr} {scope : Scope} {cpos : Pos} {dN : PV} {y : Str} {yp pos : Pos} {rest : List Stmt} {Q : Flow → Shared → Prop} (a : AtC C D σ s) (hM : M ≤ s.toks)
    (h : CompOk C D σ M (treeL C (.ListComp elt [⟨t1, i1, f1, 0⟩, ⟨t2, i2, f2, 0⟩] scope cpos) scope i1) dN) (k : ∀ s', AtC C D ((y, dN) :: σ) s' → Go C (execs rest C.env) Q s')
    (hsw : swapsWith (.ListComp elt [⟨t1, i1, f1, 0⟩, ⟨t2, i2, f2, 0⟩] scope cpos) (some (.Name y yp)) pos.line C.env = pure true := by rfl) (hx : stOk C.env y = true := by rfl) : Go C (execs (.Assign [.Name y yp] (.ListComp elt [⟨t1, i1, f1, 0⟩, ⟨t2, i2, f2, 0⟩] scope cpos) pos :: rest) C.env) Q s :=
  x_assign_comp a hM h (fun _ => rfl) hsw k hx
theorem x_assign_dc {M : Nat} {kx vx tgt iter : Expr} {ifs : List Expr} {scope : Scope} {cpos : Pos} {dN : PV} {y : Str} {yp pos : Pos} {rest : List Stmt} {Q : Flow → Shared → Prop} (a : AtC C D σ s) (hM : M ≤ s.toks)
    (h : CompOk C D σ M (treeD C (.DictComp kx vx [⟨tgt, iter, ifs, 0⟩] scope cpos) scope iter) dN) (k : ∀ s', AtC C D ((y, dN) :: σ) s' → Go C (execs rest C.env) Q s')
    (hsw : swapsWith (.DictComp kx vx [⟨tgt, iter, ifs, 0⟩] scope cpos) (some (.Name y yp)) pos.line C.env = pure true := by rfl) (hx : stOk C.env y = true := by rfl) : Go C (execs (.Assign [.Name y yp] (.DictComp kx vx [⟨tgt, iter, ifs, 0⟩] scope cpos) pos :: rest) C.env) Q s :=
  x_assign_comp a hM h (fun _ => rfl) hsw k hx
end
end Mine
end

section
open PySem PySem.W PyProof.Rows
namespace Mine
section
variable {C : Cx} {D : Muts} {σ : Vars} {s : Shared}

/-- o[i], i no slice -/
theorem ev_sub {value slice : Expr} {pos : Pos} {d : PV} {T id : String} (hl : typeLookup (.type T) "__getitem__" = pure (some (.builtin id)))
    (h : ∀ s, AtC C D σ s → ∀ Q : Value → Shared → Prop, (∀ v s', Ext s s' → RepC C D s' d v → Q v s') → Go C (eval value C.env) (fun o s₁ => Go C (eval slice C.env) (fun i s₂ => s₂.TypeIs o T ∧ Go C (getItem o i) Q s₂) s₁) s)
    (hs : ∀ o i, subscripted slice false o i = operate [o, i] (getItem o i) := by intro _ _; rfl) : Ev C D σ (.Subscript value slice pos) d := by
  intro s a Q k
  rw [eval_Subscript]
  refine wpAny_bind (wpAny_mono (h s a Q k) (fun o s₁ h₁ => wpAny_bind (wpAny_holding (wpAny_mono h₁ (fun i s₂ h₂ => wpAny_bind (wpAny_standAt ?_)) fun _ _ x => x))) fun _ _ x => x)
  obtain ⟨hT, hg⟩ := h₂
  refine wpAny_bind ?_
  rw [getitemInPython_of_ne hT.not_modules]
  refine wpAny_bind (wpAny_specialOf hT hl ?_)
  have fin : wpAny (model C.prog C.w) C.A (subscripted slice false o i) (fun r s₃ => wpAny (model C.prog C.w) C.A (letTemporaryGo value o r >>= fun _ => pure r) Q (fun _ _ => False) s₃) (fun _ _ => False) s₂ := by
    rw [hs]
    exact wpAny_operating (wpAny_mono hg (fun r s₃ h₃ => wpAny_bind (wpAny_letTemporaryGo (wpAny_pure h₃))) fun _ _ x => x)
  first
    | exact wpAny_pure (wpAny_bind fin)
    | exact wpAny_bind (wpAny_pure (wpAny_bind fin))
    | exact wpAny_bind fin

theorem lst_of {s : Shared} {l : List PV} {a : Addr} (r : Cont C.prog C.w s.heap (own C.env C.Xc D) (.lst l) a) : ∃ vs, s.heap.IsList a vs.toArray ∧ RepL C.prog C.w s.heap (own C.env C.Xc D) l vs := by simp only [Cont] at r; obtain ⟨vs, h, q⟩ := r; exact ⟨vs, PlainList.isL h, q⟩
theorem plst_of {s : Shared} {l : List PV} {a : Addr} (r : Cont C.prog C.w s.heap (own C.env C.Xc D) (.lst l) a) : ∃ vs, s.heap.PlainList a vs.toArray ∧ RepL C.prog C.w s.heap (own C.env C.Xc D) l vs := by simpa only [Cont] using r
theorem tup_of {s : Shared} {l : List PV} {a : Addr} (r : Cont C.prog C.w s.heap (own C.env C.Xc D) (.tup l) a) : ∃ vs, s.heap.IsTuple a vs.toArray ∧ RepL C.prog C.w s.heap (own C.env C.Xc D) l vs := by simpa only [Cont] using r

theorem ev_item_list {value slice : Expr} {pos : Pos} {l : List PV} {i : Int} {d : PV} (hv : EvC C D σ value (.lst l)) (hi : Ev C D σ slice (.int i)) (h0 : 0 ≤ i) (h1 : i < 2 ^ 63) (hx : l[i.toNat]? = some d)
    (hs : ∀ o i, subscripted slice false o i = operate [o, i] (getItem o i) := by intro _ _; rfl) : Ev C D σ (.Subscript value slice pos) d := by
  refine ev_sub (T := "list") list_getitem_lookup (fun s a Q k => hv s a _ fun ad s₁ x₁ c₁ => hi s₁ (a.ext x₁) _ fun iv s₂ x₂ r₂ => ?_) hs
  obtain ⟨t, rfl⟩ := int_of r₂
  obtain ⟨vs, hl, hr⟩ := lst_of (c₁.growth x₂)
  obtain ⟨v, hv, hrv⟩ := hr.get _ hx
  exact ⟨hl.typeIs, wpAny_getItem_list hl h0 h1 (by simpa using hv) (k v s₂ (x₁.trans x₂) hrv)⟩
theorem ev_item_tup {value slice : Expr} {pos : Pos} {l : List PV} {i : Int} {d : PV} (hv : EvC C D σ value (.tup l)) (hi : Ev C D σ slice (.int i)) (h0 : 0 ≤ i) (h1 : i < 2 ^ 63) (hx : l[i.toNat]? = some d)
    (hs : ∀ o i, subscripted slice false o i = operate [o, i] (getItem o i) := by intro _ _; rfl) : Ev C D σ (.Subscript value slice pos) d := by
  refine ev_sub (T := "tuple") PySem.F.slot_tuple_getitem.lookup (fun s a Q k => hv s a _ fun ad s₁ x₁ c₁ => hi s₁ (a.ext x₁) _ fun iv s₂ x₂ r₂ => ?_) hs
  obtain ⟨t, rfl⟩ := int_of r₂
  obtain ⟨vs, hl, hr⟩ := tup_of (c₁.growth x₂)
  obtain ⟨v, hv, hrv⟩ := hr.get _ hx
  have hlt : i.toNat < vs.length := (List.getElem?_eq_some_iff.mp hv).1
  have hj : seqIndex? i vs.toArray.size = some i.toNat := by
    have hn : ¬ i < 0 := by omega
    have : i < (vs.length : Int) := by omega
    simp [seqIndex?, hn, h0, this]
  exact ⟨hl.typeIs, PyProof.Rows.getItem_tuple (by exact hl) (by omega) h1 hj (by simpa using hv) (k v s₂ (x₁.trans x₂) hrv)⟩
theorem ev_item_bytes {value slice : Expr} {pos : Pos} {b : List UInt8} {i : Int} (hv : Ev C D σ value (.bytes b.toArray)) (hi : Ev C D σ slice (.int i)) (hsz : b.length ≤ 1000000) (h0 : 0 ≤ i) (h1 : i < b.length)
    (hs : ∀ o i, subscripted slice false o i = operate [o, i] (getItem o i) := by intro _ _; rfl) : Ev C D σ (.Subscript value slice pos) (.int ((b.getD i.toNat 0).toNat)) := by
  refine ev_sub (T := "bytes") FB.slot_bytes_getitem.lookup (fun s a Q k => hv s a _ fun bv s₁ x₁ r₁ => hi s₁ (a.ext x₁) _ fun iv s₂ x₂ r₂ => ?_) hs
  obtain ⟨t, rfl⟩ := int_of r₂
  obtain ⟨u, rfl⟩ := bytes_of r₁
  exact ⟨typeIs_bytes _ _ _, PySem.W.getItem_bytes (by omega) h0 h1 (k _ _ ((x₁.trans x₂).trans Ext.tok) of_int)⟩

/-- len -/
theorem tv_len_lst {l : List PV} {a : Addr} (at' : AtC C D σ s) (c : Cont C.prog C.w s.heap (own C.env C.Xc D) (.lst l) a) (hsz : l.length ≤ 1000000) : Tv C D (call (.builtin "len") [.ref a]) (.int l.length) s := by
  intro Q k
  obtain ⟨vs, hl, hr⟩ := lst_of c
  have e : vs.toArray.size = l.length := by rw [List.size_toArray]; exact hr.length
  refine Calls.call_len_list hl (by rw [e]; omega) ?_
  rw [e]
  exact k _ _ Ext.tok of_int
theorem tv_len_bytes {b : Array UInt8} {t : Tok} (hsz : b.size ≤ 1000000) : Tv C D (call (.builtin "len") [.bytes b t]) (.int b.size) s := fun Q k => PySem.W.len_bytes (by omega) (k _ _ Ext.tok of_int)

/-- a call of a builtin function, its one argument an object that may be the frame's own -/
theorem ev_call1C {fx : Str} {np : Pos} {id : String} {e : Expr} {pos : Pos} {c d : PV} (hf : Ev C D σ (.Name fx np) (.raw (.builtin id))) (h : EvC C D σ e c) (hc : ∀ s ad, AtC C D σ s → Cont C.prog C.w s.heap (own C.env C.Xc D) c ad → Tv C D (call (.builtin id) [.ref ad]) d s)
    (he : starEach [e] C.env = (false, eval e C.env) :: starEach [] C.env := by rfl) : Ev C D σ (.Call (.Name fx np) [e] [] pos) d := by
  intro s a Q k
  refine wpAny_Call_NameR (hf s a _ fun v s₁ x₁ r₁ => ?_)
  have := raw_of r₁
  subst this
  rw [he]
  refine Calls.callWith_builtin rfl ?_
  refine Calls.evalArgs_plain (Calls.spliced_cons ?_)
  refine h s₁ (a.ext x₁) _ fun ad s₂ x₂ c₂ => ?_
  refine Calls.spliced_nil ?_
  exact hc s₂ ad (a.ext (x₁.trans x₂)) c₂ Q fun v s₃ x₃ r₃ => k v s₃ ((x₁.trans x₂).trans x₃) r₃
theorem ev_len {fx : Str} {np pos : Pos} {e : Expr} {l : List PV} (hf : Ev C D σ (.Name fx np) (.raw (.builtin "len"))) (h : EvC C D σ e (.lst l)) (hsz : l.length ≤ 1000000)
    (he : starEach [e] C.env = (false, eval e C.env) :: starEach [] C.env := by rfl) : Ev C D σ (.Call (.Name fx np) [e] [] pos) (.int l.length) := ev_call1C hf h (fun s ad a c => tv_len_lst a c hsz) he
theorem ev_len_bytes {fx : Str} {np pos : Pos} {e : Expr} {b : Array UInt8} (hf : Ev C D σ (.Name fx np) (.raw (.builtin "len"))) (h : Ev C D σ e (.bytes b)) (hsz : b.size ≤ 1000000)
    (he : starEach [e] C.env = (false, eval e C.env) :: starEach [] C.env := by rfl) : Ev C D σ (.Call (.Name fx np) [e] [] pos) (.int b.size) :=
  ev_call_builtin hf (evl_cons h evl_nil he) (fun s vs a r => by
    simp only [RepLC, RepL, Rep] at r
    obtain ⟨v, q, rfl, ⟨t, rfl⟩, rfl⟩ := r
    exact tv_len_bytes hsz) he

/-- abs, max, min of ints -/
theorem ev_abs {fx : Str} {np pos : Pos} {e : Expr} {i : Int} (hf : Ev C D σ (.Name fx np) (.raw (.builtin "abs"))) (h : Ev C D σ e (.int i))
    (he : starEach [e] C.env = (false, eval e C.env) :: starEach [] C.env := by rfl) : Ev C D σ (.Call (.Name fx np) [e] [] pos) (.int (if i < 0 then -i else i)) :=
  ev_call_builtin hf (evl_cons h evl_nil he) (fun s vs a r => by
    simp only [RepLC, RepL, Rep] at r
    obtain ⟨v, q, rfl, ⟨t, rfl⟩, rfl⟩ := r
    exact fun Q k => PyProof.Rows.call_abs_int fun u tk => k _ _ Ext.tok of_int) he
theorem ev_max {fx : Str} {np pos : Pos} {e e' : Expr} {i j : Int} (hh : C.A.handled = none) (hf : Ev C D σ (.Name fx np) (.raw (.builtin "max"))) (h : Ev C D σ e (.int i)) (h' : Ev C D σ e' (.int j))
    (he : starEach [e, e'] C.env = (false, eval e C.env) :: starEach [e'] C.env := by rfl) (he' : starEach [e'] C.env = (false, eval e' C.env) :: starEach [] C.env := by rfl) (hplain : (backTo pos (starEach [e'] C.env)).any (·.1) = false := by rfl) : Ev C D σ (.Call (.Name fx np) [e, e'] [] pos) (.int (if j > i then j else i)) :=
  ev_call_builtin hf (evl_cons h (evl_cons h' evl_nil he') he) (fun s vs a r => by
    simp only [RepLC, RepL, Rep] at r
    obtain ⟨v, q, rfl, ⟨t, rfl⟩, v', q', rfl, ⟨t', rfl⟩, rfl⟩ := r
    refine fun Q k => PySem.max_two_ints hh fun h' tk hk => ?_
    have := fun u => k (.int (if j > i then j else i) u) { s with heap := h', toks := tk } (Ext.mk' hk) of_int
    split
    · rename_i c; simpa only [if_pos c] using this t'
    · rename_i c; simpa only [if_neg c] using this t) he hplain
theorem ev_min {fx : Str} {np pos : Pos} {e e' : Expr} {i j : Int} (hh : C.A.handled = none) (hf : Ev C D σ (.Name fx np) (.raw (.builtin "min"))) (h : Ev C D σ e (.int i)) (h' : Ev C D σ e' (.int j))
    (he : starEach [e, e'] C.env = (false, eval e C.env) :: starEach [e'] C.env := by rfl) (he' : starEach [e'] C.env = (false, eval e' C.env) :: starEach [] C.env := by rfl) (hplain : (backTo pos (starEach [e'] C.env)).any (·.1) = false := by rfl) : Ev C D σ (.Call (.Name fx np) [e, e'] [] pos) (.int (if j < i then j else i)) :=
  ev_call_builtin hf (evl_cons h (evl_cons h' evl_nil he') he) (fun s vs a r => by
    simp only [RepLC, RepL, Rep] at r
    obtain ⟨v, q, rfl, ⟨t, rfl⟩, v', q', rfl, ⟨t', rfl⟩, rfl⟩ := r
    refine fun Q k => PySem.min_two_ints hh fun h' tk hk => ?_
    have := fun u => k (.int (if j < i then j else i) u) { s with heap := h', toks := tk } (Ext.mk' hk) of_int
    split
    · rename_i c; simpa only [if_pos c] using this t'
    · rename_i c; simpa only [if_neg c] using this t) he hplain

/-- list + list -/
theorem op_concat {l r : List PV} (hsz : l.length + r.length ≤ sizeLine) : Op2 C D σ (binaryOp .Add) (.lst l) (.lst r) (.lst (l ++ r)) := by
  intro s u v a ru rv Q k
  obtain ⟨a1, vs, rfl, _, hl, hr⟩ := ru.cont_lst
  obtain ⟨a2, ws, rfl, _, hl2, hr2⟩ := rv.cont_lst
  obtain ⟨⟨cls, dd, data, sl⟩, ho, hc, n, hd⟩ := id hl
  obtain ⟨⟨cls2, dd2, data2, sl2⟩, ho2, hc2, n2, hd2⟩ := id hl2
  simp only at hc hd hc2 hd2
  subst hc hd hc2 hd2
  have e : vs.toArray ++ ws.toArray = (vs ++ ws).toArray := by simp
  refine concat_meets ⟨_, ho, rfl⟩ ⟨_, ho2, rfl⟩ noFill_list_add seq_list_add PySem.F.slot_list_add PySem.F.entry_list_add (PySem.F.args_list_add_2 _ _) (list_addW a1 a2 vs.toArray ws.toArray n n2 dd dd2 sl sl2 (by simp only [List.size_toArray]; rw [hr.length, hr2.length]; exact hsz)) ⟨ho, ho2, ?_⟩
  rw [e]
  refine k _ _ (Ext.mk' (Grow.push _ _)) ?_
  simp only [RepC, Rep]
  exact ⟨_, rfl, not_own_fresh a, vs ++ ws, ⟨_, Heap.get?_push_size _ rfl⟩, (RepL.append hr hr2).grow (Grow.push _ _)⟩

/-- sum of a list of ints -/
theorem RepL.ints {h : Heap} {X : Addr → Prop} {l : List Int} {vs : List Value} (r : RepL C.prog C.w h X (l.map .int) vs) (i : Nat) (v : Value) (hv : vs[i]? = some v) : ∃ t, v = .int (l.getD i 0) t := by
  have hlt : i < l.length := by have := (List.getElem?_eq_some_iff.mp hv).1; rw [RepL.length r, List.length_map] at this; exact this
  obtain ⟨v', hv', hr⟩ := r.get i (d := .int l[i]) (by simp [hlt])
  rw [hv] at hv'; cases hv'
  simp only [Rep] at hr
  simpa [List.getD, hlt] using hr
theorem preSum_list (l : List Int) : ∀ n, n ≤ l.length → preSum (fun i => l.getD i 0) n = (l.take n).sum
  | 0, _ => by simp [preSum]
  | n + 1, h => by
    have hlt : n < l.length := by omega
    rw [preSum, preSum_list l n (by omega), List.take_add_one, List.getElem?_eq_getElem hlt]
    simp only [Option.toList, List.sum_append, List.sum_cons, List.sum_nil, List.getD, List.getElem?_eq_getElem hlt, Option.getD_some]
    omega
theorem ev_sum {fx : Str} {np pos : Pos} {e : Expr} {l : List Int} (hh : C.A.handled = none) (hf : Ev C D σ (.Name fx np) (.raw (.builtin "sum"))) (h : EvC C D σ e (.lst (l.map .int)))
    (he : starEach [e] C.env = (false, eval e C.env) :: starEach [] C.env := by rfl) : Ev C D σ (.Call (.Name fx np) [e] [] pos) (.int l.sum) := by
  refine ev_call1C hf h (fun s ad a c Q k => ?_) he
  obtain ⟨vs, hl, hr⟩ := lst_of c
  have hI : s.heap.get? s.heap.objs.size = none := fresh_none _
  obtain ⟨oa, hoa⟩ := isList_some hl
  have hlt := Heap.lt_size hoa
  have hlen : vs.length = l.length := by rw [RepL.length hr, List.length_map]
  refine call_sum_walkAnyS (wpAny_pyIter_list hl ?_)
  refine ⟨s.heap.objs.size, _, _, _, _, _, _, fun i => l.getD i 0, rfl, Walks.toS (Walks.list (A := C.A.in1) hh s.heap.objs.size ad (Nat.ne_of_lt hlt) vs.toArray), ⟨⟨_, Heap.get?_push_size _ rfl, rfl, rfl⟩, IsList.at1 hl fun o e => Heap.get?_push_of_some _ e⟩, ?_, fun i v hv => RepL.ints hr i v (by simpa using hv), fun s' t' hm => ?_⟩
  · intro b hb
    show b < (s.heap.push _).objs.size
    rw [Heap.size_push]
    rcases List.mem_cons.mp hb with h | h
    · rw [h]; exact Nat.lt_succ_self _
    · rw [List.mem_singleton.mp h]; exact Nat.lt_succ_of_lt hlt
  · have e : preSum (fun i => l.getD i 0) vs.toArray.size = l.sum := by
      rw [List.size_toArray, hlen, preSum_list l _ (Nat.le_refl _), List.take_length]
    rw [e]
    have gr : Grow s.heap s'.heap := fun b o q => hm.heap b o (fun hb => by rw [List.mem_singleton.mp hb, hI] at q; cases q) (Heap.get?_push_of_some _ q)
    have hg := hm.gens; have hdr := hm.drawn; have hos := hm.os
    obtain ⟨hp', g', d', t'', os'⟩ := s'
    simp only at hg hdr hos
    refine k _ _ ⟨⟨hp', t'', ?_⟩, gr⟩ of_int
    rw [hg, hdr, hos]
end
end Mine
end

section
open PySem PySem.W PyProof.Rows
namespace Mine
section
variable {C : Cx} {D : Muts} {σ : Vars} {s : Shared}

theorem own_notMod {mg mb : Str → Option Value} (g : GOk C.G mg mb) (a : AtC C D σ s) : (s.heap.objs.size == sysModules) = false :=
  beq_eq_false_iff_ne.mpr (Nat.ne_of_gt (modules_low (g.lim _ (a.globNow g.mono))))

theorem ev_dict0 {mg mb : Str → Option Value} (g : GOk C.G mg mb) {pos : Pos} : Ev C D σ (.Dict [] [] pos) (.dct []) := by
  intro s a Q k
  refine wpAny_Dict_empty (k _ _ (Ext.push _) ?_)
  simp only [RepC, Rep]
  exact ⟨_, rfl, not_own_fresh a, own_notMod g a, [], Heap.DictOf.new _, rfl⟩

theorem ev_dict1 {mg mb : Str → Option Value} (g : GOk C.G mg mb) {ke ve : Expr} {pos : Pos} {i x : Int} (hk : Ev C D σ ke (.int i)) (hv : Ev C D σ ve (.int x)) : Ev C D σ (.Dict [some ke] [ve] pos) (.dct [(i, x)]) := by
  intro s a Q k
  refine wpAny_Dict_pairs (knd := PySem.intKind C.prog C.w) (pairs := [(eval ke C.env, do let x ← eval ve C.env; standAt pos; pure x)]) rfl (by simp) (Nat.le_of_ble_eq_true rfl) ?_
  have x0 : Ext s { s with heap := s.heap.push { cls := .type "dict", data := .dict #[] } } := Ext.push _
  have hnm := own_notMod g a
  have hno := not_own_fresh a
  have hf := fresh_none s.heap
  show Go C (do
    let kv ← eval ke C.env
    let vv ← holding [kv] (do let x ← eval ve C.env; standAt pos; pure x)
    return (kv, vv) :: (← holding [kv, vv] (evalPairs []))) _ _
  refine wpAny_bind (hk _ (a.ext x0) _ fun kv s₁ x₁ r₁ => wpAny_bind (wpAny_holding (wpAny_bind (hv s₁ (a.ext (x0.trans x₁)) _ fun vv s₂ x₂ r₂ => wpAny_bind (wpAny_standAt (wpAny_pure (wpAny_bind (wpAny_holding (wpAny_pure ?_)))))))))
  refine wpAny_pure ?_
  obtain ⟨t, rfl⟩ := int_of r₁
  obtain ⟨u, rfl⟩ := int_of r₂
  have hd0 : s₂.heap.DictOf (PySem.intKind C.prog C.w) s.heap.objs.size [] := (Heap.DictOf.new s.heap).keep fun b o e => x₂.grow _ _ (x₁.grow _ _ e)
  refine ⟨[(i, .int x u)], ⟨intKind_is _ _ _ _, rfl, trivial⟩, hd0, fun h' hd' hs' => ?_⟩
  have gr : Grow s.heap h' := fun b o e => (hs'.2 b (fun q => by rw [q, hf] at e; cases e)).trans (((x0.trans x₁).trans x₂).grow _ _ e)
  refine k _ _ ⟨?_, gr⟩ ?_
  · obtain ⟨h1, t1, e1⟩ := ((x0.trans x₁).trans x₂).same
    exact ⟨h', _, by rw [e1]⟩
  · simp only [RepC, Rep]
    refine ⟨_, rfl, hno, hnm, [(i, .int x u)], ?_, ⟨u, [], rfl, rfl⟩⟩
    have : merged ([] : List (Int × Value)) [(i, .int x u)] = [(i, .int x u)] := by simp [merged, stored]
    rw [this] at hd'; exact hd'

theorem ev_get2 {o ke de : Expr} {apos pos : Pos} {l : List (Int × Int)} {i y : Int} (ho : EvC C D σ o (.dct l)) (hk : Ev C D σ ke (.int i)) (hd : Ev C D σ de (.int y))
    (hbase : attributeBase o "get" C.env (eval o C.env) = eval o C.env := by rfl) (hline : (apos.endLine == pos.line) = true := by rfl)
    (htrees : backTo pos (starEach [ke, de] C.env) = [(false, eval ke C.env), (false, eval de C.env)] := by rfl) : Ev C D σ (.Call (.Attribute o "get" apos) [ke, de] [] pos) (.int ((dget l i).getD y)) := by
  intro s a Q k
  refine wpAny_Call_method2_late hbase hline htrees (ho s a _ fun ad s₁ x₁ c₁ => ?_)
  obtain ⟨hsm, kvs, hdd, hr⟩ := dct_of c₁
  refine ⟨"dict", "dict.get", F.plainAttrs_dict, F.slot_dict_get, F.type_dict_get, hdd.typeIs, hdd.mapOf.noDict, ?_⟩
  refine wpAny_dict_get2 (knd := PySem.intKind C.prog C.w) hsm (hk s₁ (a.ext x₁) _ fun kv s₂ x₂ r₂ => hd s₂ (a.ext (x₁.trans x₂)) _ fun dv s₃ x₃ r₃ => ?_)
  obtain ⟨t, rfl⟩ := int_of r₂
  obtain ⟨u, rfl⟩ := int_of r₃
  refine ⟨i, valueAt kvs, intKind_is _ _ _ _, (hdd.keep fun b o e => x₃.grow _ _ (x₂.grow _ _ e)).mapOf, ?_⟩
  have x := ((x₁.trans x₂).trans x₃).trans (Ext.tok (t := s₃.toks + 1))
  rcases RepD.at i hr with ⟨h1, h2⟩ | ⟨z, t', h1, h2⟩
  · rw [h1] at k; rw [h2]; exact k _ _ x of_int
  · rw [h1] at k; rw [h2]; exact k _ _ x of_int
end
end Mine
end

section
open PySem PySem.W PyProof.Rows
namespace Mine
theorem len1 {α : Type} {vs : List α} (h : vs.length = 1) : ∃ a, vs = [a] := by
  match vs, h with
  | [a], _ => exact ⟨a, rfl⟩
theorem len2 {α : Type} {vs : List α} (h : vs.length = 2) : ∃ a b, vs = [a, b] := by
  match vs, h with
  | [a, b], _ => exact ⟨a, b, rfl⟩
theorem len3 {α : Type} {vs : List α} (h : vs.length = 3) : ∃ a b c, vs = [a, b, c] := by
  match vs, h with
  | [a, b, c], _ => exact ⟨a, b, c, rfl⟩

theorem foldE_of {S α : Type} {f : S → α → Option S} : ∀ (l : List α) (st : S) {sN : S}, foldO f st l = some sN → foldE (fun st x => (f st x).map Sum.inl) st l = some (.inl sN)
  | [], st, sN, h => by simp only [foldO] at h; cases h; rfl
  | d :: l, st, sN, h => by
    simp only [foldO] at h
    cases e : f st d with
    | none => rw [e] at h; cases h
    | some st' =>
      rw [e] at h
      simp only [foldE, e, Option.map_some]
      exact foldE_of l st' h

section
variable {C : Cx} {D : Muts} {σ : Vars} {s : Shared}
/-- a loop whose turns sum up plain data -/
theorem x_forF {S α : Type} {T : Expr → Bool} {l : List α} {emb : α → PV} {tgt iter : Expr} {body orelse rest : List Stmt} {pos : Pos} {Q : Flow → Shared → Prop} (f : S → α → Option S) (Dm : S → Muts) (Vs : S → Vars) (ns : α → Vars) (s0 : S)
    (a : AtC C D σ s) (hi : EvI C D σ 0 T iter (l.map emb)) (hT : T tgt = true) (hD : D = Dm s0) (hV : SubV (Vs s0) σ) (hA : ∀ st, (Dm st).map (·.1) = (Dm s0).map (·.1))
    (hb : ∀ J h st x, x ∈ l → Binds (C.turn J h (Dm st)) tgt (emb x) (ns x)) {sN : S} (hf : foldO f s0 l = some sN)
    (turn : ∀ J h st x st' (s : Shared) (K : Flow → Shared → Prop), x ∈ l → f st x = some st' → AtC (C.turn J h (Dm st)) (Dm st) (ns x ++ Vs st) s →
      (∀ s', AtC (C.turn J h (Dm st)) (Dm st') (Vs st') s' → K .next s') → Go (C.turn J h (Dm st)) (execs body C.env) K s)
    (k : ∀ s', AtC C (Dm sN) (Vs sN) s' → Go C (execs orelse C.env) (Then C rest Q) s')
    (hs : ∀ x, foldedSetIterable iter C.env x = pure x := by intro _; rfl) : Go C (execs (.For tgt iter body orelse pos :: rest) C.env) Q s := by
  refine x_for (fun st x => (f st x).map Sum.inl) Dm Vs ns s0 a hi hT hD hV hA hb ?_ (foldE_of l s0 hf) ?_ ?_ hs
  · intro J h st x s K hx a hk _ hne
    cases hfx : f st x with
    | none => rw [hfx] at hne; exact absurd rfl hne
    | some st' => exact turn J h st x st' s K hx hfx a fun s' a' => (hk st' s' (by rw [hfx]; rfl) a').1
  · intro sM s' e a'; cases e; exact k s' a'
  · intro r v s' D' σ' e; cases e
end
end Mine
end

section
open PySem PySem.W PyProof.Rows
namespace Mine
section
variable {C : Cx} {D : Muts} {σ : Vars} {s : Shared}

/-! slices -/
def EvP (C : Cx) (D : Muts) (σ : Vars) (e : Option Expr) (lo : Option Int) : Prop := ∀ s, AtC C D σ s → ∀ Q : Value → Shared → Prop, (∀ v s', Ext s s' → IsPart v lo → Q v s') → Go C (evalPart e C.env) Q s
theorem evp_none : EvP C D σ none none := fun s a Q k => by rw [evalPart_none]; exact wpAny_pure (k _ _ (Ext.refl s) .none)
theorem evp_int {e : Expr} {i : Int} (h : Ev C D σ e (.int i)) : EvP C D σ (some e) (some i) := fun s a Q k => by
  rw [evalPart_some]
  refine h s a _ fun v s₁ x r => ?_
  obtain ⟨t, rfl⟩ := int_of r
  exact k _ _ x (.int i t)
def pickL {α : Type} (l : List α) (lo hi : Option Int) : List α := (l.drop (kms_lo lo l.length)).take (kms_hi hi l.length - kms_lo lo l.length)
theorem RepL.drop {prog : Program} {w : World} {h : Heap} {X : Addr → Prop} : ∀ (n : Nat) {l : List PV} {vs : List Value}, RepL prog w h X l vs → RepL prog w h X (l.drop n) (vs.drop n)
  | 0, l, vs, r => r
  | n + 1, [], vs, r => by simp only [RepL] at r; subst r; exact RepL.nil
  | n + 1, d :: l, vs, r => by simp only [RepL] at r; obtain ⟨v, q, rfl, _, r⟩ := r; exact RepL.drop n r
theorem RepL.take {prog : Program} {w : World} {h : Heap} {X : Addr → Prop} : ∀ (n : Nat) {l : List PV} {vs : List Value}, RepL prog w h X l vs → RepL prog w h X (l.take n) (vs.take n)
  | 0, l, vs, r => RepL.nil
  | n + 1, [], vs, r => by simp only [RepL] at r; subst r; exact RepL.nil
  | n + 1, d :: l, vs, r => by
    simp only [RepL] at r; obtain ⟨v, q, rfl, hd, r⟩ := r
    exact RepL.cons hd (RepL.take n r)
theorem RepL.pick {prog : Program} {w : World} {h : Heap} {X : Addr → Prop} {l : List PV} {vs : List Value} (lo hi : Option Int) (r : RepL prog w h X l vs) : RepL prog w h X (pickL l lo hi) (pickL vs lo hi) := by
  unfold pickL
  rw [RepL.length r]
  exact RepL.take _ (RepL.drop _ r)
theorem pick_eq (vs : List Value) (lo hi : Option Int) : slicePick vs.toArray lo hi none = (pickL vs lo hi).toArray := by
  rw [kms_pick_eq]; rfl
theorem pickL_map {α β : Type} (f : α → β) (l : List α) (lo hi : Option Int) : pickL (l.map f) lo hi = (pickL l lo hi).map f := by
  unfold pickL; simp [List.map_take, List.map_drop]

theorem ev_slice_list {value : Expr} {lower upper : Option Expr} {p pos : Pos} {l : List PV} {lo hi : Option Int} (hv : EvC C D σ value (.lst l)) (hl : EvP C D σ lower lo) (hu : EvP C D σ upper hi) (hsz : l.length ≤ 1000000)
    (ht : ∀ o r, letTemporaryGo value o r = pure () := by intro _ _; rfl) : Ev C D σ (.Subscript value (.Slice lower upper none p) pos) (.lst (pickL l lo hi)) := by
  intro s a Q k
  refine wpAny_Subscript_list_slice (hv s a _ fun ad s₁ x₁ c₁ => hl s₁ (a.ext x₁) _ fun vl s₂ x₂ pl => hu s₂ (a.ext (x₁.trans x₂)) _ fun vu s₃ x₃ pu => ?_) ht
  obtain ⟨vs, hls, hr⟩ := plst_of (c₁.growth (x₂.trans x₃))
  refine ⟨ad, vs.toArray, lo, hi, rfl, PlainList.isL hls, by rw [List.size_toArray, hr.length, sizeLine_eq]; omega, pl, pu, ?_⟩
  have x := ((x₁.trans x₂).trans x₃)
  have g : Grow s₃.heap ((s₃.heap.push { cls := .type "slice", data := .fields #[vl, vu, .none] }).push { cls := .type "list", data := .seq (slicePick vs.toArray lo hi none) }) := (Grow.push _ _).trans (Grow.push _ _)
  refine k _ _ (x.trans (Ext.heap g)) ?_
  simp only [RepC, Rep]
  have hn : s₃.heap.get? (s₃.heap.objs.size + 1) = none := fresh_ge (Nat.le_succ _)
  refine ⟨_, rfl, not_own_new (a.ext x) hn, pickL vs lo hi, ⟨0, ?_⟩, (hr.pick lo hi).grow g⟩
  rw [← pick_eq]
  have hIt := Heap.get?_push_size (s₃.heap.push { cls := .type "slice", data := .fields #[vl, vu, .none] }) (o := { cls := .type "list", data := .seq (slicePick vs.toArray lo hi none) }) rfl
  rw [Heap.size_push] at hIt
  exact hIt

/-! and, or -/
theorem evb_and {e e' : Expr} {pos : Pos} {b c : Bool} (h : EvB C D σ e b) (h' : b = true → EvB C D σ e' c) : EvB C D σ (.BoolOp .And [e, e'] pos) (b && c) := by
  intro s a Q k
  refine isTrue_and (h s a _ fun s₁ x₁ => ?_)
  cases b with
  | false => exact k _ x₁
  | true =>
    refine isTrue_and (h' rfl s₁ (a.ext x₁) _ fun s₂ x₂ => ?_)
    cases c with
    | false => exact k _ (x₁.trans x₂)
    | true => exact isTrue_and_nil (k _ (x₁.trans x₂))
theorem evb_or {e e' : Expr} {pos : Pos} {b c : Bool} (h : EvB C D σ e b) (h' : b = false → EvB C D σ e' c) : EvB C D σ (.BoolOp .Or [e, e'] pos) (b || c) := by
  intro s a Q k
  refine isTrue_or (h s a _ fun s₁ x₁ => ?_)
  cases b with
  | true => exact k _ x₁
  | false =>
    refine isTrue_or (h' rfl s₁ (a.ext x₁) _ fun s₂ x₂ => ?_)
    cases c with
    | true => exact k _ (x₁.trans x₂)
    | false => exact isTrue_or_nil (k _ (x₁.trans x₂))
/-- not e -/
theorem evb_not {e : Expr} {pos : Pos} {b : Bool} (h : EvB C D σ e b) : EvB C D σ (.UnaryOp .Not e pos) (!b) := by
  intro s a Q k
  refine isTrue_not (h s a _ fun s₁ x₁ => ?_)
  exact k _ x₁

/-! list.index -/
theorem ints_are {h : Heap} {X : Addr → Prop} : ∀ {l : List Int} {vs : List Value}, RepL C.prog C.w h X (l.map .int) vs → IntsAre vs l
  | [], vs, r => by simp only [List.map_nil, RepL] at r; subst r; exact .nil
  | n :: l, vs, r => by
    simp only [List.map_cons, RepL, Rep] at r
    obtain ⟨v, q, rfl, ⟨t, rfl⟩, r⟩ := r
    exact .cons n t (ints_are r)
theorem ev_index {o ke : Expr} {apos pos : Pos} {l : List Int} {i : Int} (ho : EvC C D σ o (.lst (l.map .int))) (hk : Ev C D σ ke (.int i)) (hm : i ∈ l) (hsz : l.length ≤ 1000000)
    (hbase : attributeBase o "index" C.env (eval o C.env) = eval o C.env := by rfl) (hline : (apos.endLine == pos.line) = true := by rfl)
    (htrees : backTo pos (starEach [ke] C.env) = [(false, eval ke C.env)] := by rfl) : Ev C D σ (.Call (.Attribute o "index" apos) [ke] [] pos) (.int (l.idxOf i : Nat)) := by
  intro s a Q k
  refine wpAny_Call_method1_late hbase hline htrees (ho s a _ fun ad s₁ x₁ c₁ => ?_)
  obtain ⟨vs, ⟨n, hl⟩, hr⟩ := plst_of c₁
  refine ⟨"list", "list.index", F.plainAttrs_list, F.slot_list_index, F.type_list_index, ⟨_, hl, rfl⟩, fun a e => by cases e; exact ⟨_, hl, rfl⟩, ?_⟩
  refine P.index_list (hk s₁ (a.ext x₁) _ fun kv s₂ x₂ r₂ => ?_)
  obtain ⟨t, rfl⟩ := int_of r₂
  have hi : IntsAre vs l := ints_are hr
  have hlen := hi.length
  have hj : l.idxOf i < l.length := List.idxOf_lt_length_iff.mpr hm
  refine ⟨vs.toArray, n, isInt i, l.idxOf i, by simpa [hlen] using hj, x₂.grow _ _ hl, fun y hy => eq_isInt i t hi y (by simpa using hy), by omega, ?_, ?_, ?_⟩
  · show isInt i vs[l.idxOf i] = true
    rw [isInt_at i hi _ (by omega) hj]
    simp
  · intro j hjs hlt
    show isInt i vs[j] = false
    rw [isInt_at i hi j (by simpa using hjs) (by omega)]
    exact ne_of_lt_idxOf hlt _
  · exact k _ _ ((x₁.trans x₂).trans Ext.tok) of_int

/-! two names at once -/
theorem x_assign_pair {x y : Str} {px py tp pos : Pos} {n : Nat} {e : Expr} {d d' : PV} {rest : List Stmt} {Q : Flow → Shared → Prop} (hh : C.A.handled = none) (a : AtC C D σ s) (he : Ev C D σ e (.tup [d, d']))
    (k : ∀ s', AtC C D ((x, d) :: (y, d') :: σ) s' → Go C (execs rest C.env) Q s') (hx : stOk C.env x = true := by rfl) (hy : stOk C.env y = true := by rfl)
    (hs : swapsWithSole [.Tuple [.Name x px, .Name y py] n tp] e pos.line C.env = pure false := by rfl) (hw : swappedStores [.Tuple [.Name x px, .Name y py] n tp] e C.env = pure (some [x, y]) := by rfl) :
    Go C (execs (.Assign [.Tuple [.Name x px, .Name y py] n tp] e pos :: rest) C.env) Q s := by
  refine x_cons ?_
  refine Assign_Tuple_swapped (names := [x, y]) ?_ hs hw
  refine he s a _ fun v s₁ x₁ r₁ => ?_
  simp only [RepC, Rep, RepL] at r₁
  obtain ⟨t, rfl, hn, vs, ht, v1, r1, rfl, hd, v2, r2, rfl, hd', rfl⟩ := r₁
  show wpAny _ _ (unpackItems (.ref t) [v1, v2].toArray.size none) _ _ _
  refine unpackItems_tuple hh ht fun h₁ hx₁ => ?_
  replace hx₁ : Heap.ExtBut s₁.heap.objs.size s₁.heap h₁ := hx₁
  have g : Grow s₁.heap h₁ := fun b o q => hx₁ b o (Nat.ne_of_lt (Heap.lt_size q)) q
  have a₁ : AtC C D σ { s₁ with heap := h₁ } := (a.ext x₁).ext (Ext.heap g)
  show wpAny _ _ (do holding [v1] (bindName C.env y v2); do holding [] (bindName C.env x v1); pure ()) _ _ _
  refine wpAny_bind (wpAny_holding (bindName_ (go_store a₁ (hd'.grow g) hy fun s₂ a₂ k₂ => ?_)))
  exact wpAny_bind (wpAny_holding (bindName_ (go_store a₂ ((hd.grow g).keep fun b o nb e => k₂ b o (fun h => nb (own_of_wrt h)) e) hx fun s₃ a₃ _ => wpAny_pure (k s₃ a₃))))

/-! while -/
def whileO {S : Type} (tb : S → Option Bool) (f : S → Option S) : Nat → S → Option S
  | 0, _ => none
  | n + 1, st => match tb st with
    | none => none
    | some false => some st
    | some true => match f st with
      | none => none
      | some st' => whileO tb f n st'
theorem x_while {S : Type} {test : Expr} {body orelse rest : List Stmt} {pos : Pos} {Q : Flow → Shared → Prop} (tb : S → Option Bool) (f : S → Option S) (Dm : S → Muts) (Vs : S → Vars) (s0 : S)
    (a : AtC C D σ s) (hD : D = Dm s0) (hV : SubV (Vs s0) σ) (ht : ∀ st b, tb st = some b → EvB C (Dm st) (Vs st) test b)
    (turn : ∀ st st' (s : Shared) (K : Flow → Shared → Prop), f st = some st' → AtC C (Dm st) (Vs st) s → (∀ s', AtC C (Dm st') (Vs st') s' → K .next s') → Go C (execs body C.env) K s)
    {N : Nat} {sN : S} (hf : whileO tb f N s0 = some sN) (k : ∀ s', AtC C (Dm sN) (Vs sN) s' → Go C (execs orelse C.env) (Then C rest Q) s') :
    Go C (execs (.While test body orelse pos :: rest) C.env) Q s := by
  subst hD
  refine x_cons (wpAny_While ?_)
  refine codeAny_whileLoop (fun n s' => ∃ st, whileO tb f n st = some sN ∧ AtC C (Dm st) (Vs st) s') ?_ N ⟨s0, hf, a.forget hV⟩
  rintro n s' ⟨st, hw, a'⟩
  cases n with
  | zero => simp [whileO] at hw
  | succ n =>
    simp only [whileO] at hw
    cases hb : tb st with
    | none => rw [hb] at hw; cases hw
    | some b =>
      rw [hb] at hw
      refine go_any (ht st b hb s' a' _ fun s₁ x₁ => ?_)
      cases b with
      | false =>
        simp only at hw
        cases hw
        rw [if_neg (by decide)]
        exact wpAny_mono (k s₁ (a'.ext x₁)) (fun _ _ q => q) fun _ _ e => e.elim
      | true =>
        simp only at hw
        cases hst : f st with
        | none => rw [hst] at hw; cases hw
        | some st' =>
          rw [hst] at hw
          simp only at hw
          rw [if_pos rfl]
          exact wpAny_mono (turn st st' s₁ _ hst (a'.ext x₁) fun s₂ a₂ => ⟨n, Nat.lt_succ_self n, st', hw, a₂⟩) (fun _ _ q => q) fun _ _ e => e.elim
end
end Mine
end

section
open PySem PySem.W PyProof.Rows
namespace Mine

/-- codes that may lend a bytearray while they run -/
def lenders : List String := ["bytearray.__contains__", "bytearray.__mod__", "bytearray.__rmod__", "_struct.pack_into.held", "bytearray.find.held"] ++ Builtin.Bytes.decodersThatHold
def fine : Code → Bool
  | .builtin id _ => !lenders.contains id
  | _ => true
def CleanB (Γ : Ctx) : Prop := ∀ x ∈ Γ.below, fine x.1 = true
def Clean (Γ : Ctx) : Prop := fine Γ.code = true ∧ CleanB Γ

def wpC {α : Type} (M : Model) (A : Around) (t : Sem α) (Q : α → Shared → Prop) (E : Value → Shared → Prop) (s : Shared) : Prop :=
  ∀ Γ p, Γ.In A → Clean Γ → Sem.wp M Γ t (fun a _ s' => Q a s') (fun e _ s' => E e s') p s
def codeC (M : Model) (A : Around) (c : Code) (R : Result → Shared → Prop) (s : Shared) : Prop :=
  ∀ Γ p, Γ.code = c → Γ.Below A → CleanB Γ → wpCode M Γ R p s

section
variable {α β : Type} {M : Model} {A : Around} {E : Value → Shared → Prop} {s : Shared}
theorem wpC_any {t : Sem α} {Q : α → Shared → Prop} (h : wpAny M A t Q E s) : wpC M A t Q E s := fun Γ p hΓ _ => h Γ p hΓ
theorem codeC_any {c : Code} {R : Result → Shared → Prop} (h : codeAny M A c R s) : codeC M A c R s := fun Γ p hc hΓ _ => h Γ p hc hΓ
theorem wpC_pure {a : α} {Q : α → Shared → Prop} (h : Q a s) : wpC M A (pure a) Q E s := fun _ _ _ _ => h
theorem wpC_mono {t : Sem α} {Q Q' : α → Shared → Prop} {E' : Value → Shared → Prop} (h : wpC M A t Q E s) (hQ : ∀ a s, Q a s → Q' a s) (hE : ∀ e s, E e s → E' e s) : wpC M A t Q' E' s :=
  fun Γ p hΓ hc => Sem.wp_mono M Γ t (fun a _ s => hQ a s) (fun e _ s => hE e s) p s (h Γ p hΓ hc)
theorem wpC_bind {m : Sem α} {f : α → Sem β} {Q : β → Shared → Prop} (h : wpC M A m (fun a s' => wpC M A (f a) Q E s') E s) : wpC M A (m >>= f) Q E s := fun Γ p hΓ hc => by
  rw [Sem.wp_bind']
  exact Sem.wp_mono M Γ m (fun a p' s' h' => h' Γ p' hΓ hc) (fun _ _ _ h' => h') p s (h Γ p hΓ hc)
theorem wpC_step {m : Sem α} {f : α → Sem β} {Q : β → Shared → Prop} (h : wpAny M A m (fun a s' => wpC M A (f a) Q E s') E s) : wpC M A (m >>= f) Q E s := wpC_bind (wpC_any h)
theorem wpC_holding {vs : List Value} {m : Sem α} {Q : α → Shared → Prop} (h : wpC M A m Q E s) : wpC M A (holding vs m) Q E s :=
  fun Γ p hΓ hc => by rw [Sem.wp_holding]; exact h Γ p hΓ hc
theorem wpC_onRaise {m : Sem α} {k : Value → Sem Unit} {Q : α → Shared → Prop} (h : wpC M A m Q (fun e s' => wpC M A (k e) (fun _ s'' => E e s'') E s') s) : wpC M A (m.onRaise k) Q E s := fun Γ p hΓ hc => by
  rw [Sem.wp_onRaise]
  exact Sem.wp_mono M Γ m (fun _ _ _ h' => h') (fun e p' s' h' => h' Γ p' hΓ hc) p s (h Γ p hΓ hc)
theorem wpC_eq {t : Sem α} {a : α} {Q : α → Shared → Prop} (e : t = pure a) (h : Q a s) : wpC M A t Q E s := by subst e; exact wpC_pure h

theorem wpC_runValue {c : Code} {Q : Value → Shared → Prop} (hc : codeC M A c (fun r s' => match r with | .ok (.ret v) => Q v s' | .ok _ => False | .error e => E e s') s) : wpC M A (runValue c) Q E s := fun Γ p hΓ hcl => by
  rw [Sem.wp_runValue]
  refine hc _ p rfl (hΓ.enter c none p (by intro x; cases x)) fun x hx => ?_
  rcases List.mem_cons.mp hx with e | hx
  · rw [e]; exact hcl.1
  · exact hcl.2 x hx
theorem wpC_call {f : Value} {pos : List Value} {kw : List (Str × Value)} {Q : Value → Shared → Prop} (hc : codeC M A (.call f ⟨pos, kw⟩) (fun r s' => match r with | .ok (.ret v) => Q v s' | .ok _ => False | .error e => E e s') s) :
    wpC M A (call f pos kw) Q E s := wpC_runValue hc

theorem codeC_of_tree {c : Code} {R : Result → Shared → Prop} (hf : fine c = true)
    (h : wpC M (A.under c) (M.den c) (fun fin s' => match fin with | .done f => R (.ok f) s' | .again c' => c'.quiet = true ∧ codeC M A c' R s') (fun e s' => R (.error e) s') s) : codeC M A c R s := fun Γ p hc hΓ hb => by
  rw [wpCode_iff_wp, hc]
  refine Sem.wp_mono M Γ _ (fun fin p' s' h' => ?_) (fun _ _ _ h' => h') p s (h Γ p (hc ▸ hΓ.in) ⟨by rw [hc]; exact hf, hb⟩)
  cases fin with
  | done f => exact h'
  | again c' => exact ⟨h'.1, h'.2 (Γ.goto c') p' rfl (hΓ.goto c') hb⟩
theorem codeC_mono {c : Code} {R R' : Result → Shared → Prop} (h : codeC M A c R s) (hR : ∀ r s, R r s → R' r s) : codeC M A c R' s :=
  fun Γ p hc hΓ hb => wpCode_mono hR (h Γ p hc hΓ hb)

theorem wpC_stack {Q : List (Code × Pos) → Shared → Prop} (h : ∀ st : List (Code × Pos), (∀ x ∈ st, fine x.1 = true) → Q st s) : wpC M A stack Q E s := fun Γ p hΓ hc => by
  show Q ((Γ.code, p) :: Γ.below) s
  refine h _ fun x hx => ?_
  rcases List.mem_cons.mp hx with e | hx
  · rw [e]; exact hc.1
  · exact hc.2 x hx

def lends (self : Value) : Code × Pos → Bool
    | (.builtin "bytearray.__contains__" ⟨v :: _, _⟩, _) | (.builtin "bytearray.__mod__" ⟨v :: _, _⟩, _)
    | (.builtin "bytearray.__rmod__" ⟨_ :: v :: _, _⟩, _) | (.builtin "_struct.pack_into.held" ⟨v :: _, _⟩, _) => Builtin.Bytes.sameRef v self
    | (.builtin "bytearray.find.held" ⟨_ :: _ :: held, _⟩, _) => held.any (Builtin.Bytes.sameRef self)
    | (.builtin id ⟨v :: _, _⟩, _) => Builtin.Bytes.sameRef v self && Builtin.Bytes.decodersThatHold.contains id
    | _ => false
theorem not_lent (self : Value) (x : Code × Pos) (h : fine x.1 = true) : lends self x = false := by
  obtain ⟨c, p⟩ := x
  cases c with
  | builtin id args =>
    obtain ⟨pos, kw⟩ := args
    have h : lenders.contains id = false := by simpa only [fine, Bool.not_eq_true'] using h
    have hn : ∀ l, lenders.contains l = true → ¬ id = l := fun l hl e => by rw [← e, h] at hl; cases hl
    have hd : Builtin.Bytes.decodersThatHold.contains id = false := by
      cases e : Builtin.Bytes.decodersThatHold.contains id with
      | false => rfl
      | true =>
        have hm : id ∈ lenders := List.mem_append_right _ (List.contains_iff_mem.mp e)
        rw [List.contains_iff_mem.mpr hm] at h; cases h
    delta lends lends.match_1
    show dite (id = "bytearray.__contains__") _ _ = false
    refine (dif_neg (hn _ (by decide +kernel))).trans ?_
    refine (dif_neg (hn "bytearray.__mod__" (by decide +kernel))).trans ?_
    refine (dif_neg (hn "bytearray.__rmod__" (by decide +kernel))).trans ?_
    refine (dif_neg (hn "_struct.pack_into.held" (by decide +kernel))).trans ?_
    refine (dif_neg (hn "bytearray.find.held" (by decide +kernel))).trans ?_
    cases pos with
    | nil => rfl
    | cons v tl => show (Builtin.Bytes.sameRef v self && Builtin.Bytes.decodersThatHold.contains id) = false; rw [hd, Bool.and_false]
  | _ => rfl
theorem none_lent (self : Value) (l : List (Code × Pos)) (hl : ∀ x ∈ l, fine x.1 = true) : l.any (lends self) = false := by
  rw [List.any_eq_false]
  intro x hx hq
  rw [not_lent self x (hl x hx)] at hq; cases hq
theorem wpC_exported {self : Value} {Q : Bool → Shared → Prop} (h : Q false s) : wpC M A (Builtin.Bytes.exported self) Q E s := by
  unfold Builtin.Bytes.exported
  refine wpC_bind (wpC_stack fun st hst => ?_)
  show wpC M A (pure (st.any (lends self))) Q E s
  rw [none_lent self st hst]
  exact wpC_pure h
end
end Mine
end

section
open PySem PySem.W PySem.Calls PyProof.Rows
namespace Mine

theorem clean_caller : Clean (⟨.builtin "claim.caller" {}, none, none, [], none⟩ : Ctx) :=
  ⟨by decide +kernel, fun _ h => nomatch h⟩
theorem thread_endsC {prog : Program} {w : World} {t : Sem Fin} {s : Shared} {R : Result → Shared → Prop} (hreg : s.asleep)
    (h : wpC (model prog w) callerA t (fun fin s' => ∃ f, fin = .done f ∧ (R (.ok f) s' ∧ leftWithCleanup s'.gens = false)) (fun e s' => R (.error e) s' ∧ leftWithCleanup s'.gens = false) s) :
    ∃ n r s' s'', runN (denote table) prog w n s ⟨t, .builtin "claim.caller" {}, default, []⟩ = .halted (outcomeOf r) s' ∧
      schedN (denote table) prog w n (.single s ⟨t, .builtin "claim.caller" {}, default, []⟩) = .halted (outcomeOf r) s' ∧ s'.forget = s''.forget ∧ R r s'' := by
  obtain ⟨n, r, s₁, s₂, hs, hn, hfo, hR⟩ := wp_halts_full (M := model prog w) (R := R) hreg
    (Sem.wp_mono (model prog w) ⟨.builtin "claim.caller" {}, none, none, [], none⟩ t (fun fin p' s' h' => by
      obtain ⟨f, rfl, hf⟩ := h'
      exact hf) (fun _ _ _ h' => h') default s (h _ default caller_in clean_caller))
  exact ⟨n, r, s₂, s₁, hn, hs, hfo, hR⟩
theorem callFromC {c : ClaimW} {tree : List Value → Sem Fin} {w : World} {s : Shared} {free : Addr → Prop} {gens : Prop} {kept : Heap → Prop} (hz : s.asleep) (hgens : s.gens = #[])
    (hspec : ∀ args, c.pre args = true → WData.layableAll args = true →
      ∀ ord : List DictEntry → List DictEntry, (∀ l, (ord l).Perm l) →
      ∃ vs s₁, layAllW c.records (classAt s.heap) w.params ord args s = some (vs, s₁) ∧
        wpC (model c.prog w) callerA (tree vs) (fun fin s' => ∃ f, fin = .done f ∧ (c.Ends s args vs s₁ (.ok f) s' ∧ s'.os = s.os ∧ AllBare s'.gens ∧ kept s'.heap))
          (fun e s' => c.Ends s args vs s₁ (.error e) s' ∧ s'.os = s.os ∧ AllBare s'.gens ∧ kept s'.heap) s₁) :
    c.CallFrom (fun vs => ⟨tree vs, .builtin "claim.caller" {}, default, []⟩) w free gens kept s := by
  intro args hpre hlay ord hord
  obtain ⟨vs, s₁, hlaid, hcode⟩ := hspec args hpre hlay ord hord
  have hal := layAllW_rest _ _ _ hlaid
  obtain ⟨k, r, s', s'', hrun, hsched, hfo, hcase, hos, hkp⟩ := thread_endsC (prog := c.prog) (w := w) (t := tree vs) (s := s₁)
    (R := fun r s' => c.Ends s args vs s₁ r s' ∧ s'.os = s.os ∧ kept s'.heap)
    (Shared.asleep_of_life hal.2.2.2 hz)
    (wpC_mono hcode (by
      rintro fin s' ⟨f, e, h1, h2, h3, h4⟩
      exact ⟨f, e, ⟨h1, h2, h4⟩, leftWithCleanup_false_of_bare h3⟩) (by
      rintro e s' ⟨h1, h2, h3, h4⟩
      exact ⟨⟨h1, h2, h4⟩, leftWithCleanup_false_of_bare h3⟩))
  obtain ⟨eh, _, _, eo, _⟩ := Shared.forget_eq hfo
  have hcase := hcase.congr eh
  have hkp : kept s'.heap := by rw [eh]; exact hkp
  rw [← eo] at hos
  have hlife : s'.heap.life = s.heap.life := (runN_life _ _ _ hrun).trans hal.2.2.2
  refine ⟨vs, s₁, hlaid, k, _, s', hsched, ?_, (fun _ i x hx => by rw [hgens] at hx; simp at hx), hkp, by rw [hlife], Shared.rest_eq hos⟩
  rcases hcase with ⟨v, rfl, d1, d2, d3, d4, d5⟩ | ⟨e, ob, cls, rfl, d1, d2, d3, d4, d5⟩
  · exact .inl ⟨v, rfl, d1, d2, d3, fun b o y _ => d4 b o y, d5⟩
  · exact .inr ⟨e, ob, cls, rfl, d1, d2, d3, d4, fun b o y _ => d5 b o y⟩

abbrev WalkC (q : Program) (loose : List Str) (XP : (Str → Option Value) → Heap → Prop) (YP : World → Heap → Prop) (r : RowW) (d : DefRec) (kwd : List (Str × Expr)) (run : Value → List Value → Sem Value) : Prop :=
  ∀ (w : World) (s₀ s₁ : Shared) (mg mb : Str → Option Value), Ground q loose r.records XP w s₀ mg mb s₁.heap → YP w s₁.heap → ∀ (a : Addr) (o : Obj) (pm cd doc dV kV : Value), s₁.heap.get? a = some o →
    o.data = .func { docDef d.name d.params d.body d.scope pm cd doc with defaults := dV, kwdefaults := kV } → s₁.heap.CodeRec cd d.name → Dflts mg s₁.heap d.params kwd dV kV → mg d.name = some (.ref a) → s₁.gens = #[] →
    ∀ (args : List WData) (vals : List Value) (as : List Addr), r.claim.pre args = true → WData.layableAll args = true → ReadsAllW r.records (classAt s₀.heap) s₁.heap vals args as → WellAll w.params s₁.heap vals args → (∀ a ∈ as, (a == sysModules) = false) →
      wpC (model r.prog w) callerA (run (.ref a) vals) (fun v s' => GoodWG r.claim (classAt s₀.heap) (ExcName.means s₀.heap) args s₁ (.ok (.ret v)) s')
        (fun e s' => GoodWG r.claim (classAt s₀.heap) (ExcName.means s₀.heap) args s₁ (.error e) s') s₁

theorem openC {r : RowW} {q : Program} {loose defs kps : List Str} {writes : Bool} {Xt : Shared → Bool} {XP : (Str → Option Value) → Heap → Prop} {α : Type} {Yf : Shared → α} {Ya : World → α} {YP : World → Heap → Prop} {N : Nat} {d : DefRec} {kwd : List (Str × Expr)}
    (left : LeftO r.prog q loose Xt Yf Ya N) (hY : ∀ w s, Yf s = Ya w → YP w s.heap) (hYk : ∀ w h h', YP w h → (∀ b o, h.get? b = some o → h'.get? b = some o) → YP w h') (hX : ∀ s, Xt s = true → XP (s.heap.nsMap mainGlobals) s.heap) (hXk : ∀ mg h h', XP mg h → (∀ b o, h.get? b = some o → h'.get? b = some o) → XP mg h')
    (hRf : ∀ s, Xt s = true → RecFacts r.records s.heap) (hwr : (!writes || r.records.isEmpty) = true) (ok : (chainsOk q && opensWell r.prog && (frees r && r.within.isEmpty)) = true) (hb : r.prog.bare) (hw : r.promised)
    (hdef : defOf q r.name = some (d, kwd))
    (pin : ∀ w s, s.heap.isNs mainGlobals = true → Ground q loose [] XP w s (s.heap.nsMap mainGlobals) (s.heap.nsMap builtinsNs) s.heap → ∀ n ∈ defs, isTheDefsW r.prog s.heap n)
    (call : WalkC q loose XP YP r d kwd fun f vs => PySem.call f vs) :
    r.claim.HoldsOpenBy (fun vs => ⟨(do match ← nsGet mainNs r.name with
      | some f => do ret (← PySem.call f vs)
      | none => unsupported "claim.caller:no-such-global"), .builtin "claim.caller" {}, default, []⟩) defs kps writes := by
  obtain ⟨ok, k5⟩ := Bool.and_eq_true_iff.mp ok
  obtain ⟨hch, o1⟩ := Bool.and_eq_true_iff.mp ok
  obtain ⟨k5, k6⟩ := Bool.and_eq_true_iff.mp k5
  obtain ⟨hsame, hu, ha, hap, hm⟩ := frees_parts k5
  refine ⟨⟨hb, o1, by show r.makers.map _ = []; rw [hm]; rfl⟩, hw.witness, fun w => ⟨(left.behind hX hch w).1, fun s' hs' => ?_⟩⟩
  obtain ⟨s₀, hf, hg0, s, hT, hz, hgens, hg, G00, y⟩ := (left.behind (XP := fun mg h => XP mg h ∧ RecFacts r.records h) (fun s hs => ⟨hX s hs, hRf s hs⟩) hch w).2 s' hs'
  have G0 : Ground q loose [] XP w s (s.heap.nsMap mainGlobals) (s.heap.nsMap builtinsNs) s.heap := ⟨G00.T, G00.B, G00.D, G00.TE, G00.TD, G00.W, G00.X.1, G00.cls, G00.has, G00.apart, G00.once, G00.K⟩
  have RF := G00.X.2
  have hT' := hT
  refine ⟨s₀, hf, hg0, s, hT, pin w s hg G0, RF.1, RF.2.1, ?_⟩
  have hgens : s.gens = #[] := Array.eq_empty_of_size_eq_zero (beq_iff_eq.mp hgens)
  have G : Ground q loose r.records XP w s _ _ s.heap := RF.ground G0
  refine callFromC (c := r.claim) hz hgens fun args hpre hlay ord hord => ?_
  obtain ⟨⟨vs, s₁⟩, hlaid⟩ := Option.isSome_iff_exists.mp (layAllW_isSome (P := w.params) (ord := ord) G.has args r.args s (pre_splitW hpre).1)
  have keeps := layAllW_keeps _ _ _ hlaid
  have hal := layAllW_rest _ _ _ hlaid
  obtain ⟨as, hrd, hin, hold⟩ := reads_layAllW hord _ _ _ hlaid hlay s₁.heap (fun _ _ e => e)
  have L : Laid r.records w s s₁ args vs as := ⟨⟨ord, hord, hlaid⟩, hrd, hin, hold, keeps, hal.1.trans hgens, hal.2.2.1⟩
  have G₁ := G.keeps hXk keeps
  obtain ⟨a, o, pm, cd, doc, dV, kV, h1, h2, h3, h4, h5⟩ := G₁.fn hdef
  have h := call w s s₁ _ _ G₁ (hYk _ _ _ (hY w s y) keeps) a o pm cd doc dV kV h2 h3 h4 h5 (defOf_name hdef ▸ h1) L.gens args vs as hpre hlay L.reads L.well (L.low G.low)
  have hi := ident_freeW hu ha hap
  have hwi : r.claim.within = [] := List.isEmpty_iff.mp k6
  have fin : ∀ {x s'}, GoodWG r.claim (classAt s.heap) (ExcName.means s.heap) args s₁ x s' →
      r.claim.Ends s args vs s₁ x s' ∧ s'.os = s.os ∧ AllBare s'.gens ∧ (writes = true → namesKept r.prog kps s.heap s'.heap ∧ ∀ x ∈ r.records, ∀ a, classAt s.heap x.1 = some a → recordClass s'.heap a x.1 (x.2.map (·.1)) = true) := fun g =>
    have z := g.laid (c := r.claim) hsame hwi hi L
    ⟨z.1, z.2.1, z.2.2, fun q => ⟨namesKept_of hT' hg kps keeps g.2.1.old, noTable hwr q⟩⟩
  refine ⟨vs, s₁, hlaid, wpC_step (wpAny_nsGet G₁.T.g ?_)⟩
  rw [h1]
  exact wpC_bind (wpC_mono h (fun v s' g => wpC_pure ⟨_, rfl, fin g⟩) fun e s' g => fin g)

/-- what the view keeps -/
def keeps : List Nat := [1, 2, 3, 5, 6, 7, 8, 10, 11, 12, 13, 15, 17, 18, 19, 20, 21, 22, 23, 24, 25, 26]
theorem PySem.W.holds_open {r : OpenRow} {q : Program} {loose : List Str} {Xt : Shared → Bool} {XP : (Str → Option Value) → Heap → Prop} {α : Type} {Yf : Shared → α} {Ya : World → α} {YP : World → Heap → Prop} {d : DefRec} {kwd : List (Str × Expr)} {N : Nat}
    (left : LeftO r.prog (view r.prog keeps) loose (fun s => xlAt (view r.prog keeps) [] s && recOk r.records s) Yf Ya N) (hY : ∀ w s, Yf s = Ya w → YP w s.heap) (hYk : ∀ w h h', YP w h → (∀ b o, h.get? b = some o → h'.get? b = some o) → YP w h')
    (hX : ∀ s, Xt s = true → XP (s.heap.nsMap mainGlobals) s.heap) (hXk : ∀ mg h h', XP mg h → (∀ b o, h.get? b = some o → h'.get? b = some o) → XP mg h')
    (hdef : defOf q r.name = some (d, kwd)) (hp : r.prog.theDef r.name = some (d.params, d.body, d.scope)) (hk : kwWritten? d.params.kwonlyargs d.params.kw_defaults = some kwd) (hRf : ∀ s, Xt s = true → RecFacts r.records s.heap) (hwr : (!r.writes || r.records.isEmpty) = true)
    (k1 : r.wellSaid = true) (ok : (chainsOk q && opensWell r.prog && (frees r.toRowW && r.within.isEmpty)) = true) (hb : r.prog.bare) (hw : r.toRowW.promised)
    (call : (q = view r.prog keeps ∧ Xt = fun s => xlAt (view r.prog keeps) [] s && recOk r.records s) ∧ WalkC q loose XP YP r.toRowW d kwd fun f vs => PySem.call f vs) : r.Holds := by
  obtain ⟨⟨rfl, rfl⟩, walk⟩ := call
  refine ⟨k1, hw, openC (r := r.toRowW) left hY hYk hX hXk hRf hwr ok hb hw hdef (fun w s hg G n hn => ?_) walk⟩
  obtain rfl : n = r.name := by split at hn <;> simp_all
  exact pinned_of_view hg G hdef hp hk
end Mine
end

section
open PySem PySem.W PyProof.Rows
namespace Mine
section
local macro_rules | `(tactic| o_head $_) => `(tactic| assumption)
/-- the heap behind the top, written out by the kit's own head; the claim itself is not made here -/
theorem kk (h : PySem.Challenge.rw_xp0007_01.row.Holds) : PySem.Challenge.rw_xp0007_01.row.Holds := by k_head
end
/-- the addresses that the law reaches -/
def kas : List Addr := [2, 3, 22, 24, 25, 27, 28, 29, 31, 32, 34, 35, 36, 37, 38, 39, 40, 43, 45, 46, 48, 49, 50, 52, 53, 55, 56, 57, 59, 60, 62, 63, 64, 66, 67, 69, 70, 71, 73, 74, 76, 77, 78, 80, 81, 83, 84, 85, 92, 93, 94, 95, 98, 105, 107, 108, 110, 111, 112, 113, 114, 117, 124, 126, 127, 129, 130, 131, 132, 133, 136, 143, 144, 145, 148, 150, 151, 153, 154, 155, 157, 158, 160, 161, 162, 164, 165, 167, 168, 169, 172, 173, 174, 177, 178, 179, 182, 183, 184, 187, 188, 189, 191, 192, 194, 195, 196, 199, 200, 201, 203, 204, 206, 207, 208, 211, 212]
theorem kas_ok (P : Params) : kas = (kk.heap_1 P).map (·.1) := by kernel_rfl
noncomputable abbrev QV : Program := view PySem.Challenge.rw_xp0007_01.row.prog keeps
noncomputable abbrev KF (w : World) : Frag := kk.heap_1 w.params
def Gx (w : World) (mean : ExcName → Option Value) (mg mb : Str → Option Value) (h : Heap) : Prop :=
  (KF w).In h ∧ Top QV (looseW QV []) mean mg mb h
theorem gx_ok (w : World) (mean : ExcName → Option Value) (mg mb : Str → Option Value) : GOk (Gx w mean mg mb) mg mb where
  mono := fun h h' x g => ⟨x.1.keeps g, x.2.keeps g⟩
  g := fun h x => x.2.g
  b := fun h x => x.2.b
  lim := fun h x => x.2.nolimit
section
variable {w : World} {mean : ExcName → Option Value} {mg mb : Str → Option Value}
theorem gv {x : Str} {v : Value} (e : nsIn (KF w) mainGlobals x = some (some v)) : ∀ h, Gx w mean mg mb h → mg x = some v := fun h g => mg_of g.1 g.2.g e
theorem gn {x : Str} (e : nsIn (KF w) mainGlobals x = some none) : ∀ h, Gx w mean mg mb h → mg x = none := fun h g => mg_none_of g.1 g.2.g e
theorem bv {x : Str} {v : Value} (hn : x ≠ "__name__") (e : bootBuiltins x = some v) : ∀ h, Gx w mean mg mb h → mb x = some v := fun h g => (g.2.builtins x hn).trans e
abbrev CxG (C : Cx) (w : World) (mean : ExcName → Option Value) (mg mb : Str → Option Value) : Prop := C.G = Gx w mean mg mb
theorem evG {C : Cx} {D : Muts} {σ : Vars} {x : Str} {pos : Pos} {v : Value} (hG : C.G = Gx w mean mg mb) (e : nsIn (KF w) mainGlobals x = some (some v)) (hx : C.env.kindOf x = some .globalImplicit := by rfl) (hg : C.env.globals = mainGlobals := by rfl)
    (hd : (x == ("__debug__" : Str)) = false := by decide) : Ev C D σ (.Name x pos) (.raw v) :=
  ev_global (mg := mg) (mb := mb) (hG ▸ gx_ok w mean mg mb) hx (hG ▸ gv e) hg hd
theorem evB {C : Cx} {D : Muts} {σ : Vars} {x : Str} {pos : Pos} {v : Value} (hG : C.G = Gx w mean mg mb) (e : nsIn (KF w) mainGlobals x = some none) (hb : bootBuiltins x = some v) (hn : x ≠ "__name__" := by decide) (hx : C.env.kindOf x = some .globalImplicit := by rfl) (hg : C.env.globals = mainGlobals := by rfl) (hb' : C.env.builtins = builtinsNs := by rfl)
    (hd : (x == ("__debug__" : Str)) = false := by decide) : Ev C D σ (.Name x pos) (.raw v) :=
  ev_builtin (mg := mg) (mb := mb) (hG ▸ gx_ok w mean mg mb) hx (hG ▸ gn e) (hG ▸ bv hn hb) hg hb' hd
theorem bo_isinstance : bootBuiltins "isinstance" = some (.builtin "isinstance") := by decide +kernel
theorem bo_tuple : bootBuiltins "tuple" = some (.type "tuple") := by decide +kernel
theorem bo_len : bootBuiltins "len" = some (.builtin "len") := by decide +kernel
theorem bo_range : bootBuiltins "range" = some (.type "range") := by decide +kernel
theorem bo_enumerate : bootBuiltins "enumerate" = some (.type "enumerate") := by decide +kernel
theorem bo_sum : bootBuiltins "sum" = some (.builtin "sum") := by decide +kernel
theorem bo_sorted : bootBuiltins "sorted" = some (.builtin "sorted") := by decide +kernel
theorem bo_abs : bootBuiltins "abs" = some (.builtin "abs") := by decide +kernel
theorem bo_max : bootBuiltins "max" = some (.builtin "max") := by decide +kernel
theorem bo_min : bootBuiltins "min" = some (.builtin "min") := by decide +kernel
theorem bo_bytes : bootBuiltins "bytes" = some (.type "bytes") := by decide +kernel
theorem bo_bytearray : bootBuiltins "bytearray" = some (.type "bytearray") := by decide +kernel
end
end Mine
end

section
open PySem PySem.W PyProof.Rows
namespace Mine
variable {w : World} {mean : ExcName → Option Value} {mg mb : Str → Option Value}
set_option maxHeartbeats 2000000

noncomputable abbrev PG : Program := PySem.Challenge.rw_xp0007_01.prog

def countCalls (l : List (Int × Int)) : Int := l.foldl (fun n p => n + p.2) 0
theorem foldO_sum (l : List (Int × Int)) (n : Int) : foldO (fun n (p : Int × Int) => some (n + p.2)) n l = some (l.foldl (fun n p => n + p.2) n) := by
  induction l generalizing n with
  | nil => rfl
  | cons p l ih => exact ih (n + p.2)

theorem fn_count (l : List (Int × Int)) : FnOk PG w (Gx w mean mg mb) 56 1 [.dct l] (.int (countCalls l)) := by
  refine fn_intro ["callers"] (gx_ok w mean mg mb) (fun h x => ⟨_, x.1 56 _ rfl, rfl, codeRec_of x.1 rfl⟩) rfl rfl rfl rfl rfl rfl (fun vs hv => by obtain ⟨v, rfl⟩ := len1 hv; rfl) (by decide) (by decide) (by decide) ?_
  intro A Z X L s rm a
  refine x_assign a ev_int fun s₁ a₁ => ?_
  refine x_forF (fun (n : Int) (p : Int × Int) => some (n + p.2)) (fun _ => []) (fun n => [("nc", .int n), ("callers", .dct l)]) (fun p => [("calls", .int p.2)]) 0 a₁ (evi_values rm.1 (ev_name rfl)) rfl rfl (SubV.cons rfl (SubV.cons rfl SubV.nil)) (fun _ => rfl)
    (fun J h st x hx => binds_name rfl) (foldO_sum l 0) ?_ ?_
  · intro J h st x st' s K _ hf a hk
    cases hf
    refine x_augName a rfl (ev_name rfl) op_iadd fun s' a' => ?_
    exact x_nil (hk s' (a'.forget (SubV.cons rfl (SubV.cons rfl SubV.nil))))
  · intro s' a'
    refine x_nil ?_
    exact x_return a' (ev_name rfl) fun v s'' x a'' r => ret_ok a'' r

def copyF (acc : List (Int × Int)) (p : Int × Int) : Option (List (Int × Int)) := if acc.length ≤ 1000000 then some (dset acc p.1 p.2) else none
def addF (acc : List (Int × Int)) (p : Int × Int) : Option (List (Int × Int)) := if acc.length ≤ 1000000 then (match dget acc p.1 with | some y => some (dset acc p.1 (y + p.2)) | none => some (dset acc p.1 p.2)) else none
def addCallers (t s : List (Int × Int)) : Option (List (Int × Int)) := match foldO copyF [] t with
  | none => none
  | some a => foldO addF a s
theorem sz_ok {n : Nat} (h : n ≤ 1000000) : n ≤ sizeLine := by rw [sizeLine_eq]; omega

theorem fn_add (t s : List (Int × Int)) {r : List (Int × Int)} (hr : addCallers t s = some r) : FnOk PG w (Gx w mean mg mb) 49 1 [.dct t, .dct s] (.dct r) := by
  unfold addCallers at hr
  cases ht : foldO copyF [] t with
  | none => rw [ht] at hr; cases hr
  | some a₀ =>
  rw [ht] at hr
  simp only at hr
  refine fn_intro ["target", "source"] (gx_ok w mean mg mb) (fun h x => ⟨_, x.1 49 _ rfl, rfl, codeRec_of x.1 rfl⟩) rfl rfl rfl rfl rfl rfl (fun vs hv => by obtain ⟨v, u, rfl⟩ := len2 hv; rfl) (by decide) (by decide) (by decide) ?_
  intro A Z X L st rm a
  refine x_newDict (gx_ok w mean mg mb) a fun c s₁ a₁ => ?_
  refine x_forF copyF (fun l => [(c, .dct l)]) (fun _ => [("new_callers", .raw (.ref c)), ("source", .dct s)]) (fun x => [("caller", .int x.2), ("func", .int x.1)]) [] a₁ (evi_items rm.1 (ev_name rfl)) rfl rfl (SubV.cons rfl (SubV.cons rfl SubV.nil)) (fun _ => rfl)
    (fun J h st x hx => binds_pair rm.1 rfl rfl) ht ?_ ?_
  · intro J h st x st' s K _ hf a hk
    unfold copyF at hf
    split at hf <;> cases hf
    rename_i hl
    refine x_setDict a (ev_name rfl) (ev_name rfl) (ev_name rfl) (sz_ok hl) fun s' a' => ?_
    exact x_nil (hk s' (a'.forget (SubV.cons rfl (SubV.cons rfl SubV.nil))))
  · intro s' a'
    refine x_nil ?_
    refine x_forF addF (fun l => [(c, .dct l)]) (fun _ => [("new_callers", .raw (.ref c))]) (fun x => [("caller", .int x.2), ("func", .int x.1)]) a₀ a' (evi_items rm.1 (ev_name rfl)) rfl rfl (SubV.cons rfl SubV.nil) (fun _ => rfl)
      (fun J h st x hx => binds_pair rm.1 rfl rfl) hr ?_ ?_
    · intro J h st x st' s K _ hf a hk
      unfold addF at hf
      split at hf <;> try cases hf
      rename_i hl
      refine x_if a (evb_in (ev_name rfl) (evc_mut (ev_name rfl) (.head _))) fun s₁ a₁ => ?_
      cases hg : dget st x.1 with
      | none =>
        rw [hg] at hf; cases hf
        refine x_setDict a₁ (ev_name rfl) (ev_name rfl) (ev_name rfl) (sz_ok hl) fun s' a' => ?_
        exact x_nil (x_nil (hk s' (a'.forget (SubV.cons rfl SubV.nil))))
      | some y =>
        rw [hg] at hf; cases hf
        refine x_if a₁ (evb_value (ev_call_builtin (evB rfl rfl bo_isinstance) (evl_cons (ev_name rfl) (evl_cons (evB rfl rfl bo_tuple) evl_nil)) (fun s vs _ r => tv_isTuple_int r))) fun s₂ a₂ => ?_
        refine x_augDict a₂ (ev_name rfl) (ev_name rfl) (ev_name rfl) hg op_iadd (sz_ok hl) fun s' a' => ?_
        exact x_nil (x_nil (x_nil (hk s' (a'.forget (SubV.cons rfl SubV.nil)))))
    · intro s' a'
      refine x_nil ?_
      refine x_return a' (ev_name rfl) fun v s'' x a'' r => ?_
      have := raw_of r; subst this
      obtain ⟨a3, r3⟩ := At.freeze a'' (σ' := []) (fun x e h => by simp at h)
      exact ret_ok a3 r3
end Mine
end

section
open PySem PySem.W PyProof.Rows
set_option linter.deprecated false
namespace Mine
namespace FA
theorem ba_mro : mroOf (.type "bytearray") = pure [.type "bytearray", .type "object"] := by rw [mroOf_type]; kernel_rfl
theorem ba_lookup_new : typeLookup (.type "bytearray") "__new__" = pure (some (.builtin "bytearray.__new__")) := by rw [typeLookup_type, builtinLookup_eq_fast]; kernel_rfl
theorem ba_lookup_init : typeLookup (.type "bytearray") "__init__" = pure (some (.builtin "bytearray.__init__")) := by rw [typeLookup_type, builtinLookup_eq_fast]; kernel_rfl
theorem ba_slot_init : Slot "bytearray" "__init__" "bytearray.__init__" :=
  .of (owner := "bytearray") (n := "__init__") (by rw [typeLookup_type, builtinLookup_eq_fast]; kernel_rfl) (by decide +kernel) (by decide +kernel) (by decide +kernel)
    (by first | exact .inl (by decide +kernel) | exact .inr (by decide +kernel)) (by rw [isSubtype_type]; kernel_rfl)
theorem ba_sub : isSubtype (.type "bytearray") (.type "bytearray") = pure true := by rw [isSubtype_type]; kernel_rfl
theorem ba_called : TypeCalled "bytearray" "bytearray.__new__" "bytearray.__init__" :=
  ⟨by decide +kernel, by decide +kernel, ⟨_, _, ba_mro⟩, madeBy_type ba_mro ba_lookup_new (by decide +kernel), by decide +kernel, ba_sub, ba_slot_init⟩
theorem ba_typeCall (a : Value) : checkTypeCall "bytearray" ⟨[a], []⟩ = pure () := by kernel_rfl
theorem ba_newCall (a : Value) : checkBuiltinCall "bytearray.__new__" ⟨[.type "bytearray", a], []⟩ = pure () := by kernel_rfl
theorem ba_entry_new : entryFor table "bytearray.__new__" = some Builtin.«list.__new__» :=
  entryFor_alias (id' := "list.__new__") (by rw [fastTable_eq_tree]; kernel_rfl) (by first | rfl | decide +kernel) (by decide +kernel) (by rw [fastTable_eq_tree]; kernel_rfl)
theorem ba_entry_init : entryFor table "bytearray.__init__" = some Builtin.«bytearray.__init__» := by first | exact entryFor_of_tree (by kernel_rfl) | exact entryFor_of_fast (by kernel_rfl)
theorem ba_owner : Manifest.owners.lookup (String.ofList ['y', 'a', 'r', 'r', 'a', 'e', 't', 'y', 'b'].reverse) = some Manifest.sig_bytearray := by kernel_rfl
theorem ba_args_init (a b : Value) : argsOk "bytearray.__init__" ⟨[a, b], []⟩ := by
  unfold argsOk; rw [signature?_of (id := "bytearray.__init__") (n := ['_', '_', 't', 'i', 'n', 'i', '_', '_']) (o := ['y', 'a', 'r', 'r', 'a', 'e', 't', 'y', 'b']) (by kernel_rfl) ba_owner]; kernel_rfl
theorem ba_plain_new : plainId "bytearray.__new__" = true := by decide +kernel
theorem ba_plain_init : plainId "bytearray.__init__" = true := by decide +kernel
theorem ba_release : typeLookup (.type "bytearray") "__release_buffer__" = pure (some (.builtin "bytearray.__release_buffer__")) := by rw [typeLookup_type, builtinLookup_eq_fast]; kernel_rfl
theorem ba_bind (v : Value) : Builtin.Bytes.bindOptional "bytearray.__init__" "bytearray" ["source", "encoding", "errors"] [v] [] = pure [some v, none, none] := by kernel_rfl
theorem int_index : typeLookup (.type "int") "__index__" = pure (some (.builtin "int.__index__")) := by rw [typeLookup_type, builtinLookup_eq_fast]; kernel_rfl
end FA
section
variable {prog : Program} {w : World} {A : Around} {E : Value → Shared → Prop} {s : Shared}
theorem ba_new (v : Value) {Q₁ : Value → Shared → Prop} (h : Q₁ (.ref s.heap.objs.size) { s with heap := s.heap.push { cls := .type "bytearray", data := .bytearray #[] } }) :
    codeAny (model prog w) A (.call (.builtin "bytearray.__new__") ⟨[.type "bytearray", v], []⟩) (wants Q₁ E) s := by
  refine codeAny_of_tree ?_
  show wpAny _ A.in1 (do checkBuiltinCall "bytearray.__new__" ⟨[.type "bytearray", v], []⟩; again (.builtin "bytearray.__new__" ⟨[.type "bytearray", v], []⟩)) _ _ s
  refine wpAny_bind (wpAny_of_eq (FA.ba_newCall v) (wpAny_pure ⟨plainId_quiet FA.ba_plain_new _, codeAny_builtin_stack FA.ba_entry_new rfl fun p st => ?_⟩))
  rw [Around.under_plainId FA.ba_plain_new _]
  have hsub := FA.ba_sub
  have hown : ("bytearray.__new__".splitOn ".__new__").headD "" = "bytearray" := by rw [PySem.W.split_bytearray]; rfl
  obtain ⟨hp, g, d, tk, os⟩ := s
  simp only [hown]
  wp_walk
  exact h

theorem wpC_if_false {α : Type} {M : Model} {c : Bool} {a b : Sem α} {Q : α → Shared → Prop} (hc : c = false) (h : wpC M A b Q E s) : wpC M A (if c = true then a else b) Q E s := by subst hc; exact h
theorem wpC_if_true {α : Type} {M : Model} {c : Bool} {a b : Sem α} {Q : α → Shared → Prop} (hc : c = true) (h : wpC M A a Q E s) : wpC M A (if c = true then a else b) Q E s := by subst hc; exact h
theorem ba_typeIs {a : Addr} {b : Array UInt8} (h : s.heap.get? a = some { cls := .type "bytearray", data := .bytearray b }) : s.TypeIs (.ref a) "bytearray" := ⟨_, h, rfl⟩
theorem ba_own {a : Addr} {b : Array UInt8} {M : Model} {Q : Bool → Shared → Prop} (h : s.heap.get? a = some { cls := .type "bytearray", data := .bytearray b }) (k : Q false s) : wpAny M A (Builtin.Bytes.ownRelease (.ref a)) Q E s := by
  unfold Builtin.Bytes.ownRelease Builtin.Bytes.slotIsOwn
  refine wpAny_bind (wpAny_bind (wpAny_specialOf (ba_typeIs h) FA.ba_release ?_))
  dsimp only
  refine bm_if_false (by decide +kernel) ?_
  refine wpAny_isInstance (T := "bytearray") (ba_typeIs h) (by have e : (Value.type ("bytearray.__release_buffer__".dropRight ("__release_buffer__".length + 1))) = .type "bytearray" := by decide +kernel
                                                               rw [e]; exact FA.ba_sub) ?_
  exact wpAny_pure k
theorem ba_write {a : Addr} {b : Array UInt8} {f : Array UInt8 → Array UInt8} {M : Model} {Q : Unit → Shared → Prop} (h : s.heap.get? a = some { cls := .type "bytearray", data := .bytearray b }) (hsz : (f b).size ≤ 1000000)
    (k : ∀ h', h'.get? a = some { cls := .type "bytearray", data := .bytearray (f b) } → Heap.SameBut a s.heap h' → Q () { s with heap := h' }) : wpAny M A (Builtin.Bytes.write (.ref a) f) Q E s := by
  show wpAny _ _ (updateBytearray a f) _ _ _
  unfold updateBytearray
  refine wpAny_bind (wpAny_load h ?_)
  show wpAny _ _ (update a (Obj.mapBytearray f) >>= fun _ => lookBehind a) _ _ _
  refine wpAny_bind (wpAny_update h ?_)
  have h2 : (s.heap.update a (Obj.mapBytearray f)).get? a = some { cls := .type "bytearray", data := .bytearray (f b) } := Heap.get?_update_self (Obj.mapBytearray f) h rfl
  refine wpAny_lookBehind h2 ?_ ?_
  · show (if (f b).size > sizeLine then some "bytearray:memory" else none) = none
    rw [if_neg]
    rw [sizeLine_eq]; omega
  · exact k _ h2 (Heap.SameBut.update ..)
theorem codeC_builtin {id : String} {args : Args} {b : Builtin} {R : Result → Shared → Prop} (hf : fine (.builtin id args) = true) (hb : entryFor table id = some b)
    (h : wpC (model prog w) (A.under (.builtin id args)) (b args) (fun fin s' => match fin with | .done f => R (.ok f) s' | .again c' => c'.quiet = true ∧ codeC (model prog w) A c' R s') (fun e s' => R (.error e) s') s) :
    codeC (model prog w) A (.builtin id args) R s := by
  refine codeC_of_tree hf ?_
  show wpC _ _ (match entryFor table id with | some b => b args | none => unsupported ((withoutEnding? id "#data").getD id)) _ _ s
  rw [hb]; exact h
theorem ba_init {a : Addr} {n : Int} {t : Tok} {R : Result → Shared → Prop} (h : s.heap.get? a = some { cls := .type "bytearray", data := .bytearray #[] }) (h0 : 0 ≤ n) (h1 : n ≤ 1000000)
    (k : ∀ h' t', h'.get? a = some { cls := .type "bytearray", data := .bytearray (Array.replicate n.toNat 0) } → Heap.SameBut a s.heap h' → R (.ok (.ret .none)) { s with heap := h', toks := t' }) :
    codeC (model prog w) A (.builtin "bytearray.__init__" ⟨[.ref a, .int n t], []⟩) R s := by
  refine codeC_builtin (by simp only [fine]; decide +kernel) FA.ba_entry_init ?_
  rw [Around.under_plainId FA.ba_plain_init _]
  unfold Builtin.«bytearray.__init__»
  refine wpC_step (ba_own h ?_)
  refine wpC_if_false rfl ?_
  refine wpC_step (wpAny_of_eq (FA.ba_bind _) ?_)
  refine wpC_step (wpAny_of_eq (a := ()) rfl ?_)
  refine wpC_step (wpAny_of_eq (a := ()) rfl ?_)
  refine wpC_bind (wpC_bind (wpC_exported ?_))
  show wpC _ _ (Builtin.Bytes.exportsOf (.ref a) >>= fun n => pure (decide (n > 0))) _ _ _
  refine wpC_bind (wpC_any ?_)
  show wpAny _ _ (load a >>= _) _ _ _
  refine wpAny_bind (wpAny_load h (wpAny_pure ?_))
  refine wpC_pure ?_
  refine wpC_if_false rfl ?_
  refine wpC_any ?_
  refine wpAny_bind (ba_write h (Nat.zero_le _) fun h₁ e₁ b₁ => ?_)
  dsimp only
  refine wpAny_bind (wpAny_of_eq (a := none) rfl ?_)
  refine bm_if_false rfl ?_
  refine wpAny_bind ?_
  refine bm_if_false rfl ?_
  refine bm_if_false rfl ?_
  refine wpAny_pure ?_
  refine wpAny_bind (wpAny_specialOf (typeIs_int _ _ _) FA.int_index ?_)
  refine bm_if_true rfl ?_
  refine wpAny_bind (wpAny_attempt (wpAny_of_eq (rfl : asIndex (.int n t) = pure n) ?_))
  dsimp only
  refine bm_if_false (by
    have : Builtin.Bytes.fitsIndex n = true := by simp only [Builtin.Bytes.fitsIndex, Bool.and_eq_true, decide_eq_true_eq]; omega
    rw [this]; rfl) ?_
  rw [if_neg (by omega : ¬ n < 0)]
  refine bm_if_false (beq_eq_false_iff_ne.mpr (by omega)) ?_
  refine bm_if_false (by
    unfold Builtin.Bytes.tooLong
    rw [sizeLine_eq]; exact decide_eq_false (by omega)) ?_
  refine wpAny_bind (wpAny_rule ?_)
  by_cases hp : n > 0
  · rw [if_pos hp]
    refine wpAny_bind (ba_write e₁ (by rw [Array.size_replicate]; omega) fun h₂ e₂ b₂ => ?_)
    exact wpAny_pure (k h₂ s.toks e₂ (b₁.trans b₂))
  · rw [if_neg hp]
    obtain rfl : n = 0 := by omega
    exact wpAny_pure (k h₁ s.toks e₁ b₁)
end
end Mine
end

section
open PySem PySem.W PyProof.Rows
namespace Mine
section
variable {prog : Program} {w : World} {A : Around} {E : Value → Shared → Prop} {s : Shared}
theorem ba_call {n : Int} {t : Tok} {Q : Value → Shared → Prop} (h0 : 0 ≤ n) (h1 : n ≤ 1000000)
    (k : ∀ a h' t', s.heap.get? a = none → a = s.heap.objs.size → h'.get? a = some { cls := .type "bytearray", data := .bytearray (Array.replicate n.toNat 0) } → (∀ b o, s.heap.get? b = some o → h'.get? b = some o) → Q (.ref a) { s with heap := h', toks := t' }) :
    wpC (model prog w) A (call (.type "bytearray") [.int n t]) Q E s := by
  have hmro := FA.ba_mro
  have hmade := FA.ba_called.made
  refine wpC_call (codeC_of_tree rfl ?_)
  show wpC _ _ (callAny (.type "bytearray") ⟨[.int n t], []⟩) _ _ _
  have hq : (Code.builtin "type.__call__" ⟨[.type "bytearray", .int n t], []⟩).quiet = true := Code.quiet_builtin _ (by decide +kernel)
  have hfi : fine (Code.builtin "type.__call__" ⟨[.type "bytearray", .int n t], []⟩) = true := by simp only [fine]; decide +kernel
  refine wpC_any (wpAny_pure ⟨hq, ?_⟩)
  refine codeC_builtin hfi F.entry_type_call ?_
  rw [Around.under_plain (weight_type_call_type "bytearray" [.int n t] []) rfl]
  unfold Builtin.«type.__call__»
  have h1' := FA.ba_called.notType
  have h2 := FA.ba_called.canCreate
  dsimp only
  rw [h1', h2]
  refine wpC_if_false rfl ?_
  refine wpC_if_false rfl ?_
  refine wpC_step (wpAny_of_eq (FA.ba_typeCall _) ?_)
  refine wpC_step (wpAny_of_eq hmro ?_)
  refine wpC_if_false rfl ?_
  refine wpC_step (wpAny_of_eq hmade ?_)
  refine wpC_bind (wpC_pure ?_)
  refine wpC_bind (wpC_holding (wpC_any (wpAny_call ?_)))
  refine codeAny_mono (ba_new (E := fun _ _ => False) (Q₁ := fun v s' => v = .ref s.heap.objs.size ∧ s' = { s with heap := s.heap.push { cls := .type "bytearray", data := .bytearray #[] } }) (.int n t) ⟨rfl, rfl⟩) fun r s₁ hr => ?_
  cases r with
  | error e => exact hr.elim
  | ok fl =>
  cases fl with
  | ret obj =>
    obtain ⟨rfl, rfl⟩ := hr
    have ho := Heap.get?_push_size s.heap (o := { cls := .type "bytearray", data := .bytearray #[] }) rfl
    have hT := ba_typeIs (s := { s with heap := s.heap.push { cls := .type "bytearray", data := .bytearray #[] } }) ho
    refine wpC_step (wpAny_isInstance hT FA.ba_sub ?_)
    refine wpC_if_false rfl ?_
    refine wpC_bind (wpC_holding ?_)
    unfold callSpecial?
    refine wpC_step (wpAny_specialOf hT FA.ba_lookup_init ?_)
    dsimp only
    refine wpC_holding ?_
    refine wpC_step (wpAny_of_eq (FA.ba_slot_init.bind _) ?_)
    dsimp only
    refine wpC_bind (wpC_call (codeC_of_tree rfl ?_))
    show wpC _ _ (do checkBuiltinCall "bytearray.__init__" ⟨[.ref s.heap.objs.size, .int n t], []⟩; again (.builtin "bytearray.__init__" ⟨[.ref s.heap.objs.size, .int n t], []⟩)) _ _ _
    refine wpC_step (FA.ba_slot_init.check _ _ _ _ _ _ _ _ hT (FA.ba_args_init _ _) ?_)
    refine wpC_pure ⟨plainId_quiet FA.ba_plain_init _, ?_⟩
    refine ba_init ho h0 h1 fun h' t' e' b' => ?_
    have hgr : ∀ b o, s.heap.get? b = some o → h'.get? b = some o := fun b o e => (b'.2 b (Nat.ne_of_lt (Heap.lt_size e))).trans (Heap.get?_push_of_some _ e)
    refine wpC_pure ?_
    dsimp only
    refine wpC_if_false rfl ?_
    exact wpC_pure (k _ h' t' (fresh_none _) rfl e' hgr)
  | _ => exact hr.elim
end
end Mine
end

section
open PySem PySem.W PyProof.Rows
set_option linter.deprecated false
namespace Mine
namespace FA
theorem ba_slot_setitem : Slot "bytearray" "__setitem__" "bytearray.__setitem__" :=
  .of (owner := "bytearray") (n := "__setitem__") (by rw [typeLookup_type, builtinLookup_eq_fast]; kernel_rfl) (by decide +kernel) (by decide +kernel) (by decide +kernel)
    (by first | exact .inl (by decide +kernel) | exact .inr (by decide +kernel)) (by rw [isSubtype_type]; kernel_rfl)
theorem ba_entry_setitem : entryFor table "bytearray.__setitem__" = some Builtin.«bytearray.__setitem__» := by first | exact entryFor_of_tree (by kernel_rfl) | exact entryFor_of_fast (by kernel_rfl)
theorem ba_args_setitem (a b c : Value) : argsOk "bytearray.__setitem__" ⟨[a, b, c], []⟩ := by
  unfold argsOk; rw [signature?_of (id := "bytearray.__setitem__") (n := ['_', '_', 'm', 'e', 't', 'i', 't', 'e', 's', '_', '_']) (o := ['y', 'a', 'r', 'r', 'a', 'e', 't', 'y', 'b']) (by kernel_rfl) ba_owner]; kernel_rfl
theorem ba_no_bytes : typeLookup (.type "bytearray") "__bytes__" = pure none := by rw [typeLookup_type, builtinLookup_eq_fast]; kernel_rfl
theorem ba_no_index : typeLookup (.type "bytearray") "__index__" = pure none := by rw [typeLookup_type, builtinLookup_eq_fast]; kernel_rfl
theorem ba_buffer : typeLookup (.type "bytearray") "__buffer__" = pure (some (.builtin "bytearray.__buffer__")) := by rw [typeLookup_type, builtinLookup_eq_fast]; kernel_rfl
end FA
section
variable {prog : Program} {w : World} {A : Around} {E : Value → Shared → Prop} {s : Shared}
theorem ba_payload {a : Addr} {b : Array UInt8} {M : Model} {Q : Array UInt8 → Shared → Prop} (h : s.heap.get? a = some { cls := .type "bytearray", data := .bytearray b }) (k : Q b s) : wpAny M A (Builtin.Bytes.payload (.ref a)) Q E s := by
  unfold Builtin.Bytes.payload Builtin.Bytes.payload?
  exact wpAny_bind (wpAny_bind (wpAny_load h (wpAny_pure (wpAny_pure k))))
theorem ba_setItem {a : Addr} {b : Array UInt8} {i x : Int} {t u : Tok} {Q : Unit → Shared → Prop} (h : s.heap.get? a = some { cls := .type "bytearray", data := .bytearray b }) (hsz : b.size ≤ 1000000) (h0 : 0 ≤ i) (h1 : i < b.size) (hx : 0 ≤ x ∧ x < 256)
    (k : ∀ h', h'.get? a = some { cls := .type "bytearray", data := .bytearray (b.setIfInBounds i.toNat x.toNat.toUInt8) } → Heap.SameBut a s.heap h' → Q () { s with heap := h' }) :
    wpAny (model prog w) A (setItem (.ref a) (.int i t) (.int x u)) Q E s := by
  have hT := ba_typeIs h
  unfold setItem
  try with_reducible refine wpAny_holding ?_
  first | refine wpAny_bind (wpAny_pure ?_) | skip
  refine wpAny_bind (wpAny_sequenceKey hT (by decide) ?_)
  refine wpAny_bind (wpAny_callSpecial?_slot (name := Str.ofString "__setitem__") hT FA.ba_slot_setitem
    (wpAny_call_entry FA.ba_slot_setitem hT FA.ba_entry_setitem ?_ (FA.ba_args_setitem _ _ _)))
  show wpAny _ _ (Builtin.Bytes.subscript? (.int i t) >>= _) _ _ s
  have hsub : ∀ {Q : Option Int → Shared → Prop} {E : Value → Shared → Prop} {A : Around}, Q (some i) s → wpAny (model prog w) A (Builtin.Bytes.subscript? (.int i t)) Q E s := fun hq => by
    unfold Builtin.Bytes.subscript?
    refine wpAny_bind (wpAny_specialOf (typeIs_int _ _ _) FA.int_index ?_)
    refine bm_if_false rfl ?_
    refine wpAny_bind (wpAny_of_eq (rfl : asIndex (.int i t) = pure i) ?_)
    refine bm_if_false (by
      have : Builtin.Bytes.fitsIndex i = true := by simp only [Builtin.Bytes.fitsIndex, Bool.and_eq_true, decide_eq_true_eq]; omega
      rw [this]; rfl) ?_
    exact wpAny_pure hq
  refine wpAny_bind (hsub ?_)
  dsimp only
  have hbv : ∀ {Q : UInt8 → Shared → Prop} {E : Value → Shared → Prop} {A : Around}, Q x.toNat.toUInt8 s → wpAny (model prog w) A (Builtin.Bytes.byteValue (.int x u)) Q E s := fun hq => by
    unfold Builtin.Bytes.byteValue
    refine wpAny_bind (wpAny_of_eq (rfl : asIndex (.int x u) = pure x) ?_)
    refine bm_if_false (by simp only [Bool.or_eq_false_iff, decide_eq_false_iff_not]; omega) ?_
    exact wpAny_pure hq
  refine wpAny_bind (hbv ?_)
  refine wpAny_bind (ba_payload h ?_)
  have hj : seqIndex? i b.size = some i.toNat := by
    have hn : ¬ i < 0 := by omega
    simp [seqIndex?, hn, h0, h1]
  rw [hj]
  dsimp only
  refine wpAny_bind (ba_write h (by rw [Array.size_setIfInBounds]; exact hsz) fun h' e' b' => ?_)
  first
    | exact wpAny_bind (wpAny_pure (wpAny_pure ⟨.none, rfl, wpAny_pure (k h' e' b')⟩))
    | exact wpAny_pure ⟨.none, rfl, wpAny_pure (k h' e' b')⟩

theorem bytes_of_barr {a : Addr} {b : Array UInt8} {Q : Value → Shared → Prop} (h : s.heap.get? a = some { cls := .type "bytearray", data := .bytearray b }) (hsz : b.size ≤ 1000000) (k : ∀ t n, Q (.bytes b t) { s with toks := n }) :
    wpAny (model prog w) A (call (.type "bytes") [.ref a]) Q E s := by
  refine callType_codes (Q₁ := fun obj s₁ => s₁.TypeIs obj "bytes" ∧ Q obj s₁) F.bm_called (F.bm_typeCall _) F.entry_object_init ?_ fun obj s₁ h₁ => ?_
  · refine codeAny_of_tree ?_
    show wpAny _ A.in1.in1 (do checkBuiltinCall "bytes.__new__" ⟨[.type "bytes", .ref a], []⟩; again (.builtin "bytes.__new__" ⟨[.type "bytes", .ref a], []⟩)) _ _ s
    refine wpAny_bind (wpAny_of_eq (F.bm_newCall _) (wpAny_pure ⟨plainId_quiet F.bm_plain _, codeAny_builtin F.bm_entry ?_⟩))
    rw [Around.under_plainId F.bm_plain _]
    have hT := ba_typeIs h
    unfold Builtin.«bytes.__new__»
    refine wpAny_bind (wpAny_of_eq (a := true) rfl ?_)
    refine bm_if_false rfl ?_
    refine wpAny_bind (wpAny_of_eq F.bm_sub ?_)
    refine bm_if_false rfl ?_
    refine wpAny_bind (wpAny_of_eq (F.bm_bind _) ?_)
    refine wpAny_bind (wpAny_of_eq (a := ()) rfl ?_)
    refine wpAny_bind (wpAny_of_eq (a := ()) rfl ?_)
    refine bm_if_false rfl ?_
    refine wpAny_bind (wpAny_specialOf hT FA.ba_no_bytes ?_)
    refine wpAny_bind (wpAny_bind ?_)
    show wpAny _ _ (load a >>= _) _ _ _
    refine wpAny_bind (wpAny_load h ?_)
    refine wpAny_pure (wpAny_pure ?_)
    refine bm_if_false rfl ?_
    refine wpAny_bind (wpAny_specialOf hT FA.ba_no_index ?_)
    refine bm_if_true rfl ?_
    refine wpAny_bind ?_
    unfold Builtin.Bytes.buffer?
    refine wpAny_bind (wpAny_specialOf hT FA.ba_buffer ?_)
    dsimp only
    have hown : ∀ {Q : Bool → Shared → Prop} {E : Value → Shared → Prop} {A : Around}, Q true s → wpAny (model prog w) A (Builtin.Bytes.slotIsOwn (.ref a) "__buffer__") Q E s := fun hq => by
      unfold Builtin.Bytes.slotIsOwn
      refine wpAny_bind (wpAny_specialOf hT FA.ba_buffer ?_)
      dsimp only
      refine bm_if_false (by decide +kernel) ?_
      exact wpAny_isInstance (T := "bytearray") hT (by
        have e : (Value.type ("bytearray.__buffer__".dropRight ("__buffer__".length + 1))) = .type "bytearray" := by decide +kernel
        rw [e]; exact FA.ba_sub) hq
    refine wpAny_bind (hown ?_)
    refine bm_if_false rfl ?_
    refine wpAny_bind (wpAny_specialOf hT FA.ba_buffer ?_)
    refine wpAny_bind (ba_own h ?_)
    refine bm_if_false rfl ?_
    refine wpAny_bind (ba_payload h (wpAny_pure ?_))
    dsimp only
    refine wpAny_bind (wpAny_rule ?_)
    refine wpAny_bind (wpAny_mkBytes ?_ (by rw [sizeLine_eq]; omega))
    show wpAny _ _ (if (Value.type "bytes" == Value.type "bytes") = true then _ else _) _ _ _
    refine bm_if_true (by decide) ?_
    have fin := k s.toks (s.toks + 1)
    first
      | exact wpAny_pure ⟨PySem.W.typeIs_bytes _ _ _, fin⟩
      | exact wpAny_bind (wpAny_pure (wpAny_pure ⟨PySem.W.typeIs_bytes _ _ _, fin⟩))
  · exact ⟨h₁.1, F.args_object_init_2 obj _, object_init_meets F.bm_called.init.lookup F.bm_called.made (by decide) prog w A.in1 _ s₁ ⟨h₁.1, rfl, h₁.2⟩⟩
end
end Mine
end

section
open PySem PySem.W PyProof.Rows
namespace Mine
section
variable {prog : Program} {w : World} {A : Around} {E : Value → Shared → Prop} {s : Shared} {R : Result → Shared → Prop}
theorem wpC_keep {α : Type} {M : Model} {vs : List Value} {m : Sem α} {Q : α → Shared → Prop} (h : wpC M A m Q E s) : wpC M A (m.keep vs) Q E s :=
  fun Γ p hΓ hc => by rw [Sem.wp_keep]; exact h Γ p hΓ hc
theorem codeC_function {a : Addr} {args : Args} {o : Obj} {fd : FuncData} {body : List Stmt} (hroom : A.depth < recursionLimit)
    (ho : s.heap.get? a = some o) (hd' : o.data = .func fd) (hco : fd.scope.isCoroutine = false) (hgen : fd.scope.isGenerator = false) (hbody : fd.body = .stmts body) (hcd : s.heap.CodeRec fd.code fd.qualname)
    (h : wpAny (model prog w) A.in1 (bindArgs fd args) (fun binds s₁ =>
      wpAny (model prog w) A.in1 (newFunctionEnv fd.scope fd.globals fd.closure binds (fd.qualname ++ ".<locals>.") (some a) fd.code none fd.builtins)
        (fun env s₂ => s₂.heap.NoLimit ∧ codeC (model prog w) A (.func body env) R s₂) (fun e s' => R (.error e) s') s₁) (fun e s' => R (.error e) s') s) :
    codeC (model prog w) A (.call (.ref a) args) R s := by
  refine codeC_of_tree rfl ?_
  show wpC _ A.in1 (callAny (.ref a) args) _ _ s
  simp only [callAny]
  refine wpC_step (wpAny_load ho ?_)
  obtain ⟨c, oc, vs, tq, hc, hoc, hdc, hq⟩ := hcd
  simp only [hd', callFunction, hco, hgen, hbody, hc]
  rw [hc] at h
  refine wpC_step (m := field (.ref c) 1) (wpAny_field hoc hdc hq ?_)
  refine wpC_bind (wpC_pure ?_)
  refine wpC_step (wpAny_mono h (fun binds s₁ h₁ => ?_) fun _ _ h' => h')
  refine wpC_step (wpAny_mono h₁ (fun env s₂ h₂ => ?_) fun _ _ h' => h')
  refine wpC_step (wpAny_enterFrame h₂.1 hroom ?_)
  exact wpC_pure (And.intro rfl h₂.2)
theorem codeC_func {body : List Stmt} {env : Env} (h : wpC (model prog w) (A.deeper env) (execs body env) (fun f s' => R (.ok (.ret (match f with | .ret v => v | _ => .none))) s') (fun _ _ => False) s) :
    codeC (model prog w) A (.func body env) R s := by
  refine codeC_of_tree rfl ?_
  show wpC _ (A.deeper env) (do point; match ← (execs body env).onRaise (leaving env) with | .ret v => ret v | _ => ret .none) _ _ s
  refine wpC_step (wpAny_point ?_)
  refine wpC_bind (wpC_onRaise (wpC_mono h (fun f s' h' => ?_) fun _ _ h' => h'.elim))
  cases f <;> exact wpC_pure h'
end

def FnOkC (prog : Program) (w : World) (G : Heap → Prop) (f : Addr) (n : Nat) (ds : List PV) (d : PV) : Prop :=
  ∀ (A : Around) (s : Shared) (vs : List Value) (X : Addr → Prop) (Q : Value → Shared → Prop), Room A n → G s.heap → (∀ b, X b → ∃ o, s.heap.get? b = some o) → RepL prog w s.heap X ds vs →
    (∀ v s', Ext s s' → Rep prog w s'.heap X d v → Q v s') → wpC (model prog w) A (call (.ref f) vs) Q (fun _ _ => False) s

abbrev GoC {α : Type} (C : Cx) (t : Sem α) (Q : α → Shared → Prop) (s : Shared) : Prop := wpC (model C.prog C.w) C.A t Q (fun _ _ => False) s

theorem enter_at {prog : Program} {w : World} {A : Around} {G : Heap → Prop} {f : Addr} {fd : FuncData} {names : List Str} {ds : List PV} {vs : List Value} {X : Addr → Prop} {s s' : Shared} {env : Env}
    (hG : G s.heap) (hX : ∀ b, X b → ∃ o, s.heap.get? b = some o) (hr : RepL prog w s.heap X ds vs) (hvl : vs.length = names.length)
    (hkx : ∀ n', ∀ x ∈ names.zip vs, fd.scope.names.lookup x.1 = some .local ∨ (fd.scope.names.lookup x.1 = some .cell ∧ ((cellsFrom n' fd.scope.names []).lookup x.1).isSome = true))
    (hk : fd.scope.kind = .function) (hcn : ((cellsFrom 0 fd.scope.names []).map (·.1)).Nodup) (hnd : names.Nodup)
    (he : env = newEnv fd.scope s.heap.objs.size fd.globals (cellsFrom (s.heap.objs.size + 1) fd.scope.names []) (fd.qualname ++ ".<locals>.") (some f) fd.code none fd.builtins)
    (x : InCallC s env.locals (bindL env.kindOf (names.zip vs) fun _ => none) env.cells (bindC env.kindOf (names.zip vs) fun _ => none) s') :
    AtC ⟨prog, w, A, G, s.heap, fun _ => False, s, env, X⟩ [] (names.zip ds) s' := by
  obtain ⟨⟨hsm, hns, hkeep, _⟩, hcell, hap, hab⟩ := x
  have hel : env.locals = s.heap.objs.size := by rw [he]; rfl
  have hec : env.cells = cellsFrom (s.heap.objs.size + 1) fd.scope.names [] := by rw [he]; rfl
  have hee : env = callEnvC fd s.heap.objs.size f := he
  have hcn' : (env.cells.map (·.1)).Nodup := by rw [hec, cellsFrom_names fd.scope.names _ 0 [] [] rfl]; exact hcn
  have fresh : ∀ a, s.heap.objs.size ≤ a → s.heap.get? a = none := fun a ha => by
    cases e : s.heap.get? a with
    | none => rfl
    | some o' => exact absurd (Heap.lt_size e) (Nat.not_lt.mpr ha)
  have hcell' : ∀ p ∈ env.cells, s'.heap.IsCell p.2 (bindC env.kindOf (names.zip vs) (fun _ => none) p.1) := fun p hp => hcell p.1 p.2 (lookup_of_mem_nodup hcn' hp)
  have habove : ∀ p ∈ env.cells, s.heap.objs.size < p.2 := fun p hp => hel ▸ hab p.1 p.2 hp
  have hwfresh : ∀ b, own env (fun _ => False) ([] : Muts) b → s.heap.get? b = none := by
    intro b hb
    rcases hb with hb | hb | hb | hb
    · exact hb.elim
    · rw [hb, hel]; exact fresh _ (Nat.le_refl _)
    · obtain ⟨p, hp, e⟩ := List.mem_map.mp hb
      rw [← e]; exact fresh _ (Nat.le_of_lt (habove p hp))
    · cases hb
  have hXown : ∀ b, own env X ([] : Muts) b → X b ∨ s.heap.get? b = none := by
    intro b hb
    rcases hb with hb | hb
    · exact .inl hb
    · exact .inr (hwfresh b (.inr hb))
  refine { same := ?_, glob := hG, grow := hkeep, keep := fun b o _ e => hkeep b o e, kind := by rw [hee]; exact hk, ns := ⟨_, hns⟩, cells := fun p hp => ⟨_, hcell' p hp⟩, dist := ?_, fresh := ?_, ex := ?_, vars := ?_, muts := fun p hp => nomatch hp }
  · obtain ⟨h', tk, e⟩ := hsm; exact ⟨h', tk, e⟩
  · refine List.nodup_cons.mpr ⟨?_, ?_⟩
    · intro hm
      rw [List.map_nil, List.append_nil] at hm
      obtain ⟨p, hp, e⟩ := List.mem_map.mp hm
      have := habove p hp
      rw [e, hel] at this
      exact Nat.lt_irrefl _ this
    · rw [List.map_nil, List.append_nil]
      exact List.Pairwise.map _ (fun _ _ h => h) hap
  · intro b hb
    have hn := hwfresh b (by
      rcases hb with h | ⟨_, h⟩ | h
      · exact .inr (.inl h)
      · exact .inr (.inr (.inl h))
      · cases h)
    exact ⟨hn, .inr hn, fun hx => by obtain ⟨o, e⟩ := hX b hx; rw [hn] at e; cases e⟩
  · exact fun b hb => let ⟨o, e⟩ := hX b hb; ⟨o, hkeep b o e⟩
  · intro y d' e
    obtain ⟨v, hm, hrv⟩ := zip_lookup (hr) e
    have hrv' : Rep prog w s'.heap (own env X []) d' v := Rep.to hXown (fun b o _ e => hkeep b o e) _ _ hrv
    have hnz : ((names.zip vs).map (·.1)).Nodup := by rw [zip_names hvl]; exact hnd
    have hko : env.kindOf y = fd.scope.names.lookup y := by rw [hee]; rfl
    rcases hkx (s.heap.objs.size + 1) _ hm with hl | ⟨hl, hci⟩
    · exact .inl ⟨hko.trans hl, _, v, hns, bindL_at (hko.trans hl) _ _ hnz hm, hrv'⟩
    · obtain ⟨c, hc⟩ := Option.isSome_iff_exists.mp hci
      rw [← hec] at hc
      have := hcell _ _ hc
      rw [bindC_at (by rw [hko, hl]; decide) _ _ hnz hm] at this
      exact .inr ⟨.inl (hko.trans hl), c, v, hc, this, hrv'⟩

theorem fn_introC {prog : Program} {w : World} {G : Heap → Prop} {mg mb : Str → Option Value} {f : Addr} {n : Nat} {fd : FuncData} {body : List Stmt} (names : List Str) {ds : List PV} {d : PV} (g : GOk G mg mb)
    (hf : ∀ h, G h → ∃ o, h.get? f = some o ∧ o.data = .func fd ∧ h.CodeRec fd.code fd.qualname)
    (hbody : fd.body = .stmts body) (hcl : fd.closure = []) (hk : fd.scope.kind = .function) (hco : fd.scope.isCoroutine = false) (hgen : fd.scope.isGenerator = false)
    (hlen : ds.length = names.length) (hbind : ∀ vs : List Value, vs.length = names.length → bindArgs fd ⟨vs, []⟩ = pure (names.zip vs))
    (hkind : (names.all fun x => fd.scope.names.lookup x == some .local || fd.scope.names.lookup x == some .cell) = true)
    (hnd : names.Nodup) (hcn : ((cellsFrom 0 fd.scope.names []).map (·.1)).Nodup)
    (h : ∀ (A : Around) (Z : Shared) (X : Addr → Prop) (L : Addr) (s : Shared), Room A n → AtC ⟨prog, w, A, G, Z.heap, fun _ => False, Z, callEnvC fd L f, X⟩ [] (names.zip ds) s →
      GoC ⟨prog, w, A, G, Z.heap, fun _ => False, Z, callEnvC fd L f, X⟩ (execs body (callEnvC fd L f)) (RetOk ⟨prog, w, A, G, Z.heap, fun _ => False, Z, callEnvC fd L f, X⟩ d) s) :
    FnOkC prog w G f (n + 1) ds d := by
  intro A s vs X Q room hG hX hr hQ
  obtain ⟨o, ho, hd, hc⟩ := hf _ hG
  have hvl : vs.length = names.length := (RepL.length hr).trans hlen
  refine wpC_call (codeC_function (by have := room.2.1; show A.depth < 1000; omega) ho hd hco hgen hbody hc ?_)
  rw [hbind vs hvl, hcl]
  refine wpAny_pure ?_
  have hkx : ∀ n', ∀ x ∈ names.zip vs, fd.scope.names.lookup x.1 = some .local ∨ (fd.scope.names.lookup x.1 = some .cell ∧ ((cellsFrom n' fd.scope.names []).lookup x.1).isSome = true) := by
    refine kindsX ?_
    rw [List.all_eq_true] at hkind ⊢
    intro y hy
    have : y.1 ∈ names := by rw [← zip_names hvl]; exact List.mem_map_of_mem hy
    exact hkind y.1 this
  refine wpAny_newFunctionEnv_cells hk (hkx _) fun env he s' x => ?_
  have hkeep := x.1.keep
  refine ⟨(g.lim _ hG).keeps hkeep, codeC_func ?_⟩
  have hat := enter_at (prog := prog) (w := w) (G := G) (ds := ds) (X := X) (A := A.deeper env) hG hX hr hvl hkx hk hcn hnd he x
  subst he
  refine wpC_mono (h _ _ _ _ _ (room.deeper _) hat) (fun fl s'' hq => ?_) fun _ _ e => e.elim
  obtain ⟨v, rfl, x, r⟩ := hq
  exact hQ v s'' x r
end Mine
end

section
open PySem PySem.W PyProof.Rows
namespace Mine
section
variable {M : Model} {A : Around} {E : Value → Shared → Prop} {s : Shared}
theorem callWith_typeC {pos : Pos} {T : String} {first : List Value} {args : List (Bool × Sem Value)} {Q : Value → Shared → Prop} (hplain : args.any (·.1) = false)
    (h : wpAny M A (evalArgs (.type T) true args []) (fun a s₁ => wpC M A (call (.type T) (first ++ a.pos) a.kw) Q E s₁) E s) : wpC M A (callWith pos (.type T) first args []) Q E s := by
  unfold callWith
  refine wpC_bind (wpC_holding (wpC_any (wpAny_mono h (fun a s₁ h₁ => wpC_step (wpAny_standAt ?_)) fun _ _ x => x)))
  simp only [hplain, List.any_nil, Bool.or_false]
  refine wpC_bind (wpC_pure ?_)
  exact wpC_bind (wpC_mono h₁ (fun r s₂ hr => wpC_bind (wpC_holding (wpC_any (wpAny_point (wpC_pure hr))))) fun _ _ x => x)
theorem callWith_functionC {pos : Pos} {a : Addr} {o : Obj} {fd : FuncData} {first : List Value} {args : List (Bool × Sem Value)} {Q : Value → Shared → Prop} (hplain : args.any (·.1) = false) (hlen : args.length ≤ 30)
    (h : wpAny M A (evalArgs (.ref a) true args []) (fun x s₁ => (s₁.heap.get? a = some o ∧ o.data = .func fd) ∧ wpC M A (call (.ref a) (first ++ x.pos) x.kw) Q E s₁) E s) : wpC M A (callWith pos (.ref a) first args []) Q E s := by
  unfold callWith
  refine wpC_bind (wpC_holding (wpC_any (wpAny_mono h (fun x s₁ h₁ => wpC_step (wpAny_standAt ?_)) fun _ _ x => x)))
  have tail : ∀ {t : Sem Value}, wpC M A t Q E s₁ → wpC M A (t >>= fun r => holding [r] point >>= fun _ => pure r) Q E s₁ :=
    fun ht => wpC_bind (wpC_mono ht (fun r s₂ hr => wpC_bind (wpC_holding (wpC_any (wpAny_point (wpC_pure hr))))) fun _ _ x => x)
  simp only [hplain, List.any_nil, Bool.or_false]
  refine wpC_bind (m := keeperOf (.ref a)) ?_
  unfold keeperOf
  refine wpC_step (wpAny_load h₁.1.1 ?_)
  rw [h₁.1.2]
  refine wpC_pure ?_
  show wpC M A (if args.length + 2 * ([] : List (Option Str × Sem Value)).length > 30 then _ else _) Q E s₁
  rw [if_neg (by rw [List.length_nil]; omega)]
  refine tail ?_
  unfold callMarked
  exact wpC_keep h₁.2
end

section
variable {C : Cx} {D : Muts} {σ : Vars} {s : Shared}
def ThenC (C : Cx) (rest : List Stmt) (Q : Flow → Shared → Prop) : Flow → Shared → Prop := fun f s' => match f with
  | .next => GoC C (execs rest C.env) Q s'
  | f => Q f s'
theorem xC_cons {st : Stmt} {rest : List Stmt} {Q : Flow → Shared → Prop} (h : GoC C (exec st C.env) (ThenC C rest Q) s) : GoC C (execs (st :: rest) C.env) Q s := fun Γ p hΓ hc => by
  rw [execs_cons, Sem.wp_bind']
  refine Sem.wp_mono _ Γ _ (fun f p' s' h' => ?_) (fun _ _ _ h' => h') _ _ (h Γ p hΓ hc)
  cases f <;> first | exact h' Γ p' hΓ hc | exact h'
/-- statements ahead of one that needs a clean stack -/
theorem xC_pre {pre rest : List Stmt} {Q : Flow → Shared → Prop} (h : Go C (execs pre C.env) (fun f s' => match f with | .next => GoC C (execs rest C.env) Q s' | f => Q f s') s) : GoC C (execs (pre ++ rest) C.env) Q s := fun Γ p hΓ hc => by
  have h0 := h Γ p hΓ
  clear h
  revert h0
  induction pre generalizing p s with
  | nil =>
    intro h0
    have h1 : GoC C (execs rest C.env) Q s := h0
    exact h1 Γ p hΓ hc
  | cons st pre ih =>
    intro h0
    rw [List.cons_append, execs_cons, Sem.wp_bind']
    rw [execs_cons, Sem.wp_bind'] at h0
    refine Sem.wp_mono _ Γ _ (fun f p' s' h' => ?_) (fun _ _ _ h' => h') _ _ h0
    cases f with
    | next => exact ih p' h'
    | _ => exact h'
theorem xC_assign_name {x : Str} {xp pos : Pos} {e : Expr} {rest : List Stmt} {Q : Flow → Shared → Prop} (h : GoC C (eval e C.env) (fun v s₁ => Go C (storeName C.env x v) (fun _ s₂ => GoC C (execs rest C.env) Q s₂) s₁) s)
    (hs : swapsWith e (some (.Name x xp)) pos.line C.env = pure false := by rfl) : GoC C (execs (.Assign [.Name x xp] e pos :: rest) C.env) Q s := by
  refine xC_cons ?_
  rw [exec_Assign_Name (env := C.env) x xp e pos hs]
  refine wpC_step (wpAny_standAt ?_)
  refine wpC_bind (wpC_mono h (fun v s₁ h₁ => ?_) fun _ _ q => q)
  refine wpC_step (wpAny_standAt ?_)
  exact wpC_step (wpAny_bindName (wpAny_mono h₁ (fun _ s₂ h₂ => wpC_pure h₂) fun _ _ q => q))

theorem xC_newBarr {x fx : Str} {xp np cpos pos : Pos} {e : Expr} {n : Int} {rest : List Stmt} {Q : Flow → Shared → Prop} (a : AtC C D σ s) (hf : Ev C D σ (.Name fx np) (.raw (.type "bytearray"))) (he : Ev C D σ e (.int n)) (h0 : 0 ≤ n) (h1 : n ≤ 1000000)
    (k : ∀ c s', AtC C ((c, .barr (Array.replicate n.toNat 0)) :: D) ((x, .raw (.ref c)) :: σ) s' → GoC C (execs rest C.env) Q s') (hx : stOk C.env x = true := by rfl)
    (hst : starEach [e] C.env = (false, eval e C.env) :: starEach [] C.env := by rfl) (hs : swapsWith (.Call (.Name fx np) [e] [] cpos) (some (.Name x xp)) pos.line C.env = pure false := by rfl) :
    GoC C (execs (.Assign [.Name x xp] (.Call (.Name fx np) [e] [] cpos) pos :: rest) C.env) Q s := by
  refine xC_assign_name ?_ hs
  show wpC _ _ (do callWith cpos (← eval (.Name fx np) C.env) [] (backTo cpos (starEach [e] C.env)) (backToKw cpos (keywordEach [] C.env))) _ _ _
  refine wpC_step (hf s a _ fun v s₁ x₁ r₁ => ?_)
  have := raw_of r₁; subst this
  rw [hst]
  refine callWith_typeC rfl ?_
  refine Calls.evalArgs_plain ?_
  have hl := evl_cons he evl_nil hst cpos s₁ (a.ext x₁)
  rw [hst] at hl
  refine hl _ fun vs s₂ x₂ r₂ => ?_
  simp only [RepLC, RepL, Rep] at r₂
  obtain ⟨v, q, rfl, ⟨t, rfl⟩, rfl⟩ := r₂
  have a₂ := a.ext (x₁.trans x₂)
  refine ba_call h0 h1 fun c h' t' hn hc ho hg => ?_
  have a₃ : AtC C ((c, .barr (Array.replicate n.toNat 0)) :: D) σ { s₂ with heap := h', toks := t' } := At.newMut a₂ ⟨h', t', rfl⟩ (fun b o e => hg b o e) hn ho
  exact go_store a₃ (by simp only [RepC, Rep]) hx fun s' a' _ => k _ s' a'

theorem xC_assign_call {x fx : Str} {xp np cpos pos : Pos} {f : Addr} {n : Nat} {fd : FuncData} {e : Expr} {es : List Expr} {ds : List PV} {d : PV} {rest : List Stmt} {Q : Flow → Shared → Prop} {mg mb : Str → Option Value} (g : GOk C.G mg mb) (a : AtC C D σ s)
    (hf : Ev C D σ (.Name fx np) (.raw (.ref f))) (hfd : ∀ h, C.G h → ∃ o, h.get? f = some o ∧ o.data = .func fd ∧ h.CodeRec fd.code fd.qualname) (F : FnOkC C.prog C.w C.G f n ds d) (rm : Room C.A n) (h : EvL C D σ (e :: es) ds)
    (k : ∀ s', AtC C D ((x, d) :: σ) s' → GoC C (execs rest C.env) Q s') (hx : stOk C.env x = true := by rfl)
    (hst : starEach (e :: es) C.env = (false, eval e C.env) :: starEach es C.env := by rfl) (hplain : (backTo cpos (starEach es C.env)).any (·.1) = false := by rfl) (hlen : (backTo cpos (starEach (e :: es) C.env)).length ≤ 30 := by decide)
    (hs : swapsWith (.Call (.Name fx np) (e :: es) [] cpos) (some (.Name x xp)) pos.line C.env = pure false := by rfl) :
    GoC C (execs (.Assign [.Name x xp] (.Call (.Name fx np) (e :: es) [] cpos) pos :: rest) C.env) Q s := by
  refine xC_assign_name ?_ hs
  show wpC _ _ (do callWith cpos (← eval (.Name fx np) C.env) [] (backTo cpos (starEach (e :: es) C.env)) (backToKw cpos (keywordEach [] C.env))) _ _ _
  refine wpC_step (hf s a _ fun v s₁ x₁ r₁ => ?_)
  have := raw_of r₁; subst this
  obtain ⟨o, ho, hdat, _⟩ := hfd _ ((a.ext x₁).globNow g.mono)
  rw [hst] at hlen ⊢
  refine callWith_functionC (o := o) (fd := fd) (by show (false || (backTo cpos (starEach es C.env)).any (·.1)) = false; rw [hplain]; rfl) hlen ?_
  refine Calls.evalArgs_plain ?_
  have hl := h cpos s₁ (a.ext x₁)
  rw [hst] at hl
  refine hl _ fun vs s₂ x₂ r₂ => ⟨⟨x₂.grow _ _ ho, hdat⟩, ?_⟩
  have a₂ := a.ext (x₁.trans x₂)
  refine F C.A s₂ vs (own C.env C.Xc D) _ rm (a₂.globNow g.mono) (fun b hb => a₂.own_some hb) r₂ fun v s₃ x₃ r₃ => ?_
  exact go_store (a₂.ext x₃) r₃ hx fun s' a' _ => k s' a'
end
end Mine
end

section
open PySem PySem.W PyProof.Rows
namespace Mine
theorem seq_list_iadd : seqSlot? (.type "list") (dunderI "add") = pure (some (.builtin "list.__iadd__")) := PySem.seqSlot_of PySem.F.slot_list_iadd.lookup (by decide +kernel)
theorem noFill_list_iadd : fillsInplaceSlot (.type "list") "add" true = pure false := by
  unfold fillsInplaceSlot
  show (typeLookup (.type "list") (dunderI "add") >>= fun fi => pure (fi.isSome && !isSeqSlot fi)) = pure false
  rw [PySem.F.slot_list_iadd.lookup]
  show (pure (true && !isSeqSlot (some (.builtin "list.__iadd__"))) : Sem Bool) = pure false
  rw [show isSeqSlot (some (.builtin "list.__iadd__")) = true by decide +kernel]; rfl
section
variable {prog : Program} {w : World} {A : Around} {E : Value → Shared → Prop} {s : Shared}
theorem iadd_list {l b : Addr} {vs ws : List Value} {Q : Value → Shared → Prop} (hl : s.heap.PlainList l vs.toArray) (hb : s.heap.PlainList b ws.toArray) (hsz : vs.length + ws.length ≤ 1000000)
    (k : ∀ h', h'.PlainList l (vs ++ ws).toArray → Heap.SameBut l s.heap h' → Q (.ref l) { s with heap := h' }) : wpAny (model prog w) A (inplaceOp .Add (.ref l) (.ref b)) Q E s := by
  obtain ⟨n, ho⟩ := hl
  obtain ⟨n2, ho2⟩ := hb
  unfold inplaceOp
  refine wpAny_holding ?_
  refine wpAny_bind (wpAny_typeOf (T := "list") ⟨_, ho, rfl⟩ (wpAny_bind (wpAny_of_eq noFill_list_iadd ?_)))
  show wpAny _ A (if false = true then _ else _) Q E s
  rw [if_neg Bool.false_ne_true]
  refine wpAny_bind (wpAny_binaryOp1_none (T := "list") (nm := "add") ⟨_, ho, rfl⟩ ⟨_, ho2, rfl⟩ noFill_list_add ?_)
  refine wpAny_bind (wpAny_of_eq seq_list_iadd ?_)
  refine wpAny_bind (wpAny_rule ?_)
  have hz : ¬(!vs.toArray.isEmpty && Builtin.List.listTooLong (vs.toArray.size + ws.toArray.size)) = true := by
    have : Builtin.List.listTooLong (vs.toArray.size + ws.toArray.size) = false := by
      unfold Builtin.List.listTooLong
      rw [sizeLine_eq, List.size_toArray, List.size_toArray]; exact decide_eq_false (by omega)
    rw [this, Bool.and_false]; exact Bool.false_ne_true
  refine call_meets PySem.F.slot_list_iadd ⟨_, ho, rfl⟩ PySem.F.entry_list_iadd (PySem.F.args_list_iadd_2 _ _) (AutoSeq1.list___iadd___list_list_0 l vs.toArray n b ws.toArray n2 hz (by rw [List.size_toArray, sizeLine_eq]; omega) (by rw [List.size_toArray, List.size_toArray, sizeLine_eq]; omega)) ⟨ho, ho2, ?_⟩
  have hu := PySem.IsL.update (n := n) ho (fun x => x ++ ws.toArray)
  have e : vs.toArray ++ ws.toArray = (vs ++ ws).toArray := by simp
  rw [e] at hu
  exact k _ ⟨_, hu⟩ (Heap.SameBut.update ..)
end

section
variable {C : Cx} {D : Muts} {σ : Vars} {s : Shared}
theorem x_newList {x : Str} {xp lpos pos : Pos} {es : List Expr} {ds : List PV} {rest : List Stmt} {Q : Flow → Shared → Prop} (a : AtC C D σ s) (h : EvL C D σ es ds) (hsz : ds.length ≤ sizeLine)
    (k : ∀ c s', AtC C ((c, .lst ds) :: D) ((x, .raw (.ref c)) :: σ) s' → Go C (execs rest C.env) Q s') (hx : stOk C.env x = true := by rfl)
    (hs : swapsWith (.List es lpos) (some (.Name x xp)) pos.line C.env = pure false := by rfl) : Go C (execs (.Assign [.Name x xp] (.List es lpos) pos :: rest) C.env) Q s := by
  refine x_cons (wpAny_Assign_Name (List_ (h lpos s a _ fun vs s₁ x₁ r₁ => ?_)) hs)
  refine wpAny_newObj_type ?_ (by show vs.toArray.size ≤ sizeLine; rw [List.size_toArray, RepL.length r₁]; exact hsz)
  have hn := fresh_none s₁.heap
  have a₁ := a.ext x₁
  have a₂ : AtC C ((s₁.heap.objs.size, .lst ds) :: D) σ { s₁ with heap := s₁.heap.push { cls := .type "list", data := .seq vs.toArray } } := by
    refine At.newMut a₁ ⟨_, s₁.toks, rfl⟩ (Grow.push _ _) hn ⟨vs, ⟨0, Heap.get?_push_size _ rfl⟩, ?_⟩
    refine RepL.to (fun b hb => ?_) (fun b o _ e => Heap.get?_push_of_some _ e) _ _ r₁
    rcases own_cons hb with e | hb
    · exact .inr (e ▸ hn)
    · exact .inl hb
  exact go_store a₂ (by simp only [RepC, Rep]) hx fun s' a' _ => k _ s' a'

theorem x_iaddMut {c : Addr} {l l' : List PV} {x : Str} {xp pos : Pos} {ve : Expr} {rest : List Stmt} {Q : Flow → Shared → Prop} (a : AtC C ((c, .lst l) :: D) σ s) (hd : σ.lookup x = some (.raw (.ref c))) (hv : Ev C ((c, .lst l) :: D) σ ve (.lst l')) (hsz : l.length + l'.length ≤ 1000000)
    (k : ∀ s', AtC C ((c, .lst (l ++ l')) :: D) ((x, .raw (.ref c)) :: σ) s' → Go C (execs rest C.env) Q s') (hx : stOk C.env x = true := by rfl) (hn : (x == ("__classdict__" : Str)) = false := by decide) : Go C (execs (.AugAssign (.Name x xp) .Add ve pos :: rest) C.env) Q s := by
  refine x_cons (wpAny_AugAssign_Name ?_)
  have ld : ∀ Q : Value → Shared → Prop, Q (.ref c) s → Go C (loadName C.env x) Q s := by
    intro Q q
    rcases a.vars x _ hd with ⟨hk, ml, v, n, e, r⟩ | ⟨hk, c, v, e, n, r⟩
    · simp only [Rep] at r; subst r; exact wpAny_loadName_local a.kind hk n e q
    · simp only [Rep] at r; subst r
      rcases hk with hk | hk
      · exact wpAny_loadName_cell a.kind hk e n q
      · exact wpAny_loadName_free a.kind hk e n q hn
  refine ld _ (hv s a _ fun v s₁ x₁ r₁ => ?_)
  have a₁ := a.ext x₁
  obtain ⟨b, ws, rfl, hnb, hlb, hrb⟩ := r₁.plain_lst
  obtain ⟨vs, hl, hr⟩ := plst_of (a₁.muts _ (.head _))
  refine iadd_list hl hlb (by rw [RepL.length hr, RepL.length hrb]; exact hsz) fun h' hl' hs' => ?_
  have kp : Keep (own C.env C.Xc ((c, .lst l) :: D)) s₁.heap h' := fun b o nb e => (hs'.2 b (not_own_ne nb own_head)).trans e
  have a₂ : AtC C ((c, .lst (l ++ l')) :: D) σ { s₁ with heap := h' } := At.setMut a₁ ⟨h', s₁.toks, rfl⟩ (fun b o hb e => (hs'.2 b hb).trans e) ⟨vs ++ ws, hl', RepL.append (hr.keep kp) (hrb.keep kp)⟩
  exact go_store a₂ (by simp only [RepC, Rep]) hx fun s' a' _ => k s' a'

theorem x_append {c : Addr} {l : List PV} {d : PV} {o ve : Expr} {apos cpos pos : Pos} {rest : List Stmt} {Q : Flow → Shared → Prop} (a : AtC C ((c, .lst l) :: D) σ s) (hd : Ev C ((c, .lst l) :: D) σ o (.raw (.ref c))) (hv : Ev C ((c, .lst l) :: D) σ ve d) (hsz : l.length ≤ 1000000)
    (k : ∀ s', AtC C ((c, .lst (l ++ [d])) :: D) σ s' → Go C (execs rest C.env) Q s')
    (hbase : attributeBase o "append" C.env (eval o C.env) = eval o C.env := by rfl) (hline : (apos.endLine == cpos.line) = true := by rfl)
    (htrees : backTo cpos (starEach [ve] C.env) = [(false, eval ve C.env)] := by rfl) (hi : interactive C.env = false := by rfl) (hs : swapsWith (.Call (.Attribute o "append" apos) [ve] [] cpos) none pos.line C.env = pure false := by rfl) :
    Go C (execs (.Expr (.Call (.Attribute o "append" apos) [ve] [] cpos) pos :: rest) C.env) Q s := by
  refine x_cons (wpAny_Expr_any ?_ hi hs)
  refine wpAny_Call_method1_late hbase hline htrees (hd s a _ fun ov s₁ x₁ r₁ => ?_)
  have := raw_of r₁; subst this
  have a₁ := a.ext x₁
  obtain ⟨vs, ⟨n, hl⟩, hr⟩ := plst_of (a₁.muts _ (.head _))
  refine ⟨"list", "list.append", F.plainAttrs_list, F.slot_list_append, F.type_list_append, ⟨_, hl, rfl⟩, fun a e => by cases e; exact ⟨_, hl, rfl⟩, ?_⟩
  refine P.append_list (hv s₁ a₁ _ fun v s₂ x₂ r₂ => ?_)
  have a₂ := a₁.ext x₂
  have hl2 := x₂.grow _ _ hl
  have hr2 := hr.grow x₂.grow
  refine ⟨vs.toArray, n, by rw [List.size_toArray, RepL.length hr, sizeLine_eq]; omega, hl2, ?_⟩
  have hu := PySem.IsL.update (n := n) hl2 (fun x => x.push v)
  rw [List.push_toArray] at hu
  have hsame : Heap.SameBut c s₂.heap (s₂.heap.update c (Obj.mapSeq fun xs => xs.push v)) := Heap.SameBut.update ..
  have kp : Keep (own C.env C.Xc ((c, .lst l) :: D)) s₂.heap (s₂.heap.update c (Obj.mapSeq fun xs => xs.push v)) := fun b o nb e => (hsame.2 b (not_own_ne nb own_head)).trans e
  exact k _ (At.setMut a₂ ⟨_, s₂.toks, rfl⟩ (fun b o hb e => (hsame.2 b hb).trans e) ⟨vs ++ [v], ⟨_, hu⟩, RepL.append (hr2.keep kp) (RepL.one (r₂.keep kp))⟩)
end
end Mine
end

section
open PySem PySem.W PyProof.Rows
namespace Mine
def dataI (l : List Int) : PyData := .list (l.map .int)
def dataLL (l : List (List Int)) : PyData := .list (l.map dataI)
def intLists (ws : List (List Int)) : List PV := ws.map fun l => .lst (l.map .int)
theorem ints_are' {prog : Program} {w : World} {h : Heap} {X : Addr → Prop} : ∀ {l : List Int} {vs : List Value}, RepL prog w h X (l.map .int) vs → IntsAre vs l
  | [], vs, r => by simp only [List.map_nil, RepL] at r; subst r; exact .nil
  | n :: l, vs, r => by
    simp only [List.map_cons, RepL, Rep] at r
    obtain ⟨v, q, rfl, ⟨t, rfl⟩, r⟩ := r
    exact .cons n t (ints_are' r)
theorem reads_ints {prog : Program} {w : World} {h : Heap} {X : Addr → Prop} : ∀ {l : List Int} {vs : List Value}, RepL prog w h X (l.map .int) vs → ReadsAll h vs (l.map .int) []
  | [], vs, r => by simp only [List.map_nil, RepL] at r; subst r; exact .nil
  | n :: l, vs, r => by
    simp only [List.map_cons, RepL, Rep] at r
    obtain ⟨v, q, rfl, ⟨t, rfl⟩, r⟩ := r
    exact .cons (as := []) (bs := []) (.int n t) (reads_ints r)
theorem reads_lists {prog : Program} {w : World} {h : Heap} {X : Addr → Prop} : ∀ {l : List (List Int)} {vs : List Value}, RepL prog w h X (intLists l) vs → ∃ as, ReadsAll h vs (l.map dataI) as
  | [], vs, r => by simp only [intLists, List.map_nil, RepL] at r; subst r; exact ⟨_, .nil⟩
  | n :: l, vs, r => by
    simp only [intLists, List.map_cons, RepL] at r
    obtain ⟨v, q, rfl, hd, r⟩ := r
    obtain ⟨a, us, rfl, _, ⟨m, ho⟩, hu⟩ := hd.plain_lst
    obtain ⟨as, ha⟩ := reads_lists (l := l) r
    exact ⟨_, .cons (.list ho rfl rfl (by show ReadsAll h us.toArray.toList _ _; exact reads_ints hu)) ha⟩
theorem canLay_LL : ∀ l : List (List Int), PyData.canLayAll0 (l.map dataI) = true
  | [] => rfl
  | x :: r => by
    rw [List.map_cons]
    show (PyData.canLayAll0 (x.map PyData.int) && PyData.canLayAll0 (r.map dataI)) = true
    rw [ke_canLayAll0, canLay_LL r]; rfl
theorem depth_LL : ∀ l : List (List Int), PyData.depthAll (l.map dataI) ≤ 1
  | [] => Nat.zero_le _
  | x :: r => by
    rw [List.map_cons]
    have := depth_LL r
    show max (PyData.depth (dataI x)) (PyData.depthAll (r.map dataI)) ≤ 1
    have h : PyData.depth (dataI x) ≤ 1 := by simp only [dataI, PyData.depth, ke_depthAll]; omega
    omega
theorem shaped_LL (l : List (List Int)) : SeqAt.shaped (dataLL l) = true := by
  unfold SeqAt.shaped dataLL
  have h1 : PyData.canLay0 (.list (l.map dataI)) = true := canLay_LL l
  have h2 := depth_LL l
  have h3 : PyData.depth (.list (l.map dataI)) ≤ 64 := by simp only [PyData.depth]; omega
  rw [h1, decide_eq_true h3]; rfl
theorem eqv_LL : ∀ l m : List (List Int), PyData.eqvAll (l.map dataI) (m.map dataI) = decide (l = m)
  | [], [] => by simp [PyData.eqvAll]
  | [], _ :: _ => by simp [PyData.eqvAll]
  | _ :: _, [] => by simp [PyData.eqvAll]
  | a :: r, b :: t => by
    rw [List.map_cons, List.map_cons]
    show (PyData.eqvAll (a.map PyData.int) (b.map PyData.int) && PyData.eqvAll (r.map dataI) (t.map dataI)) = _
    rw [ked_eqvAll, eqv_LL r t]
    by_cases h : a = b <;> by_cases h' : r = t <;> simp [h, h']

def hitsB (lb : List (Int × Int)) : List (Int × Int) → Bool
  | [] => true
  | (k, v) :: r => match dget lb k with
    | none => false
    | some y => (v == y) && hitsB lb r
def dictEq (la lb : List (Int × Int)) : Bool := la.length == lb.length && hitsB lb la

section
variable {C : Cx} {D : Muts} {σ : Vars} {s : Shared}
theorem op_neInts {l l' : List Int} (hu : C.A.units < 9000) : Op2 C D σ (compareOp .NotEq) (.lst (l.map .int)) (.lst (l'.map .int)) (.bool (!decide (l = l'))) := by
  intro s u v _ ru rv Q k
  obtain ⟨a1, vs, rfl, _, hl, hr⟩ := ru.cont_lst
  obtain ⟨a2, ws, rfl, _, hl2, hr2⟩ := rv.cont_lst
  exact ke_ne_ints hl hl2 (ints_are hr) (ints_are hr2) (by show C.A.units + 64 < 9900; omega) (k _ _ (Ext.refl _) of_bool)
theorem op_neLL {l l' : List (List Int)} (hu : C.A.units < 9000) : Op2 C D σ (compareOp .NotEq) (.lst (intLists l)) (.lst (intLists l')) (.bool (!decide (l = l'))) := by
  intro s u v _ ru rv Q k
  obtain ⟨a1, vs, rfl, _, ⟨n, hl⟩, hr⟩ := ru.plain_lst
  obtain ⟨a2, ws, rfl, _, ⟨n2, hl2⟩, hr2⟩ := rv.plain_lst
  obtain ⟨as, ha⟩ := reads_lists hr
  obtain ⟨bs, hb⟩ := reads_lists hr2
  refine ne_dataH (da := dataLL l) (db := dataLL l') (.list hl rfl rfl (by show ReadsAll s.heap vs.toArray.toList _ _; exact ha)) (.list hl2 rfl rfl (by show ReadsAll s.heap ws.toArray.toList _ _; exact hb)) (shaped_LL l) (shaped_LL l') (by show C.A.units + 64 < 9900; omega) ?_
  have e : PyData.eqv (dataLL l) (dataLL l') = decide (l = l') := eqv_LL l l'
  rw [e]
  exact k _ _ (Ext.refl _) of_bool

theorem eqAt_int (A : Around) (s : Shared) (x y : Int) (t u : Tok) : SeqAt.EqAt A s (.int x t) (.int y u) (x == y) := SeqAt.EqAt.int_int x t y u
theorem hits_of {A : Around} {s : Shared} {lb : List (Int × Int)} {kb : List (Int × Value)} (hb : RepD lb kb) : ∀ {la : List (Int × Int)} {ka : List (Int × Value)}, RepD la ka → KeqHits A s kb ka (hitsB lb la)
  | [], ka, r => by simp only [RepD] at r; subst r; exact .nil
  | (k, v) :: la, ka, r => by
    simp only [RepD] at r
    obtain ⟨t, q, rfl, r⟩ := r
    simp only [hitsB]
    rcases RepD.at k hb with ⟨h1, h2⟩ | ⟨y, u, h1, h2⟩
    · rw [h1]; exact .miss h2
    · rw [h1]; exact .hit h2 (eqAt_int A s v y t u) (hits_of hb r)
theorem op_neDct {l l' : List (Int × Int)} (hu : C.A.units < 9000) : Op2 C D σ (compareOp .NotEq) (.dct l) (.dct l') (.bool (!dictEq l l')) := by
  intro s u v _ ru rv Q k
  simp only [RepC, Rep] at ru rv
  obtain ⟨a1, rfl, _, hm1, ka, hd1, hr1⟩ := ru
  obtain ⟨a2, rfl, _, hm2, kb, hd2, hr2⟩ := rv
  refine keq_ne (knd := PySem.intKind C.prog C.w) hm1 hm2 hd1 hd2 (by show C.A.units < 9900; omega) (fun _ => hits_of hr2 hr1) ?_
  rw [hr1.length, hr2.length]
  exact k _ _ (Ext.refl _) of_bool
end
end Mine
end

section
open PySem PySem.W PyProof.Rows
namespace Mine
variable {w : World} {mean : ExcName → Option Value} {mg mb : Str → Option Value}
set_option maxHeartbeats 2000000

/-- facts of a def of the text at an address -/
abbrev FnAt (w : World) (mean : ExcName → Option Value) (mg mb : Str → Option Value) (f : Addr) (fd : FuncData) : Prop := ∀ h, Gx w mean mg mb h → ∃ o, h.get? f = some o ∧ o.data = .func fd ∧ h.CodeRec fd.code fd.qualname

theorem fn_gt (a b : Int) : FnOk PG w (Gx w mean mg mb) 63 1 [.int a, .int b] (.bool (decide (b < a))) := by
  refine fn_intro ["a", "b"] (gx_ok w mean mg mb) (fun h x => ⟨_, x.1 63 _ rfl, rfl, codeRec_of x.1 rfl⟩) rfl rfl rfl rfl rfl rfl (fun vs hv => by obtain ⟨v, u, rfl⟩ := len2 hv; rfl) (by decide) (by decide) (by decide) ?_
  intro A Z X L st rm a
  exact x_return a (ev_compare (ev_name rfl) (ev_name rfl) op_gt) fun v s x a' r => ret_ok a' r
theorem fn_iadd (a b : Int) : FnOk PG w (Gx w mean mg mb) 77 1 [.int a, .int b] (.int (a + b)) := by
  refine fn_intro ["a", "b"] (gx_ok w mean mg mb) (fun h x => ⟨_, x.1 77 _ rfl, rfl, codeRec_of x.1 rfl⟩) rfl rfl rfl rfl rfl rfl (fun vs hv => by obtain ⟨v, u, rfl⟩ := len2 hv; rfl) (by decide) (by decide) (by decide) ?_
  intro A Z X L st rm a
  refine x_augName a rfl (ev_name rfl) op_iadd fun s' a' => ?_
  exact x_return a' (ev_name rfl) fun v s x a' r => ret_ok a' r
theorem fn_imul (a b : Int) (h : IntMulOk a b) : FnOk PG w (Gx w mean mg mb) 84 1 [.int a, .int b] (.int (a * b)) := by
  refine fn_intro ["a", "b"] (gx_ok w mean mg mb) (fun h x => ⟨_, x.1 84 _ rfl, rfl, codeRec_of x.1 rfl⟩) rfl rfl rfl rfl rfl rfl (fun vs hv => by obtain ⟨v, u, rfl⟩ := len2 hv; rfl) (by decide) (by decide) (by decide) ?_
  intro A Z X L st rm a
  refine x_augName a rfl (ev_name rfl) (op_imul h) fun s' a' => ?_
  exact x_return a' (ev_name rfl) fun v s x a' r => ret_ok a' r

/-! seats -/
def seatRow (step letter : Int) (p : Int × Int) : List Int := rangeInts (p.1 + step) 1 (lenR (p.1 + step) (letter + 1))
def seatAll (step letter : Int) (seats : List (Int × Int)) : List (Int × Int) := seats.flatMap fun p => (seatRow step letter p).map fun seat => (seat, p.2 + 8 ^ seat.toNat)
def seatF (st : Int × List (Int × Int)) (letter : Int) : Option (Int × List (Int × Int)) :=
  if (st.2.all fun p => decide (0 ≤ p.1 ∧ p.1 ≤ 1000)) = true ∧ (-1000 ≤ letter ∧ letter ≤ 1000) ∧ (seatAll (if st.1 < letter then 1 else 0) letter st.2).length ≤ 1000000 ∧ st.2.length ≤ 1000000 then
    some (letter, seatAll (if st.1 < letter then 1 else 0) letter st.2) else none
def wordF (table : List (Int × Int)) (word : List Int) : Option (List (Int × Int)) := match foldO seatF (9, [(1, 0)]) word with
  | none => none
  | some st => foldO (fun t (p : Int × Int) => addCallers t [(p.2, 1)]) table st.2
def seated (words : List (List Int)) : Option (List (Int × Int)) := foldO wordF [] words

theorem seat_mem {step letter : Int} {p : Int × Int} {x : Int} (h : x ∈ seatRow step letter p) : p.1 + step ≤ x ∧ x ≤ letter := by
  unfold seatRow rangeInts lenR at h
  obtain ⟨i, hi, rfl⟩ := List.mem_map.mp h
  rw [List.mem_range] at hi
  omega

theorem fn_seated (words : List (List Int)) {r : List (Int × Int)} (hr : seated words = some r) : FnOk PG w (Gx w mean mg mb) 183 2 [.lst (intLists words)] (.dct r) := by
  refine fn_intro ["words"] (gx_ok w mean mg mb) (fun h x => ⟨_, x.1 183 _ rfl, rfl, codeRec_of x.1 rfl⟩) rfl rfl rfl rfl rfl rfl (fun vs hv => by obtain ⟨v, rfl⟩ := len1 hv; rfl) (by decide) (by decide) (by decide) ?_
  intro A Z X L st rm a
  refine x_assign a (ev_dict0 (gx_ok w mean mg mb)) fun s₁ a₁ => ?_
  refine x_forF (l := words) (emb := fun l => .lst (l.map .int)) wordF (fun _ => []) (fun t => [("table", .dct t)]) (fun x => [("word", .lst (x.map .int))]) [] a₁ (evi_list rm.1 (ev_name rfl)) rfl rfl (SubV.cons rfl SubV.nil) (fun _ => rfl)
    (fun J h st x hx => binds_name rfl) hr ?_ ?_
  · intro J h t word t' s K _ hf a hk
    unfold wordF at hf
    cases hs : foldO seatF (9, [(1, 0)]) word with
    | none => rw [hs] at hf; cases hf
    | some st =>
    rw [hs] at hf
    simp only at hf
    refine x_assign a (ev_list (evl_cons (ev_tuple (evl_cons ev_int (evl_cons ev_int evl_nil)) (by decide)) evl_nil) (by decide)) fun s₁ a₁ => ?_
    refine x_assign a₁ ev_int fun s₂ a₂ => ?_
    refine x_forF (l := word) (emb := .int) seatF (fun _ => []) (fun st => [("last", .int st.1), ("seats", .lst (pairItems st.2)), ("table", .dct t)]) (fun x => [("letter", .int x)]) (9, [(1, 0)]) a₂ (evi_list rm.1 (ev_name rfl)) rfl rfl
      (SubV.cons rfl (SubV.cons rfl (SubV.cons rfl SubV.nil))) (fun _ => rfl) (fun J h st x hx => binds_name rfl) hs ?_ ?_
    · intro J h st letter st' s K _ hf a hk
      rw [seatF, Option.ite_none_right_eq_some] at hf
      obtain ⟨⟨h1, h2, h3, h4⟩, hf⟩ := hf
      cases hf
      generalize hst : (if st.1 < letter then (1 : Int) else 0) = step at h3 ⊢
      have hstep : 0 ≤ step ∧ step ≤ 1 := by rw [← hst]; split <;> decide
      refine x_assign (d := .int step) a (ev_ifexp (evb_compare (ev_name rfl) (ev_name rfl) op_lt) (fun h => by rw [← hst, if_pos (by simpa using h)]; exact ev_int) (fun h => by rw [← hst, if_neg (by simpa using h)]; exact ev_int)) fun s₁ a₁ => ?_
      have hmem : ∀ p ∈ st.2, 0 ≤ p.1 ∧ p.1 ≤ 1000 := fun p hp => by simpa using List.all_eq_true.mp h1 p hp
      refine x_assign_lc2 a₁ (Nat.zero_le _) (comp_list2 (T2 := tgtOk) (items := st.2) (emb := fun p => .tup [.int p.1, .int p.2]) (emb2 := .int) (σ' := [("step", .int step), ("letter", .int letter)]) (fun p => seatRow step letter p) (fun p seat => .tup [.int seat, .int (p.2 + 8 ^ seat.toNat)])
        (fun p => [("key", .int p.2), ("least", .int p.1)]) (fun x => [("seat", .int x)]) (gx_ok w mean mg mb) (evi_list rm.1 (ev_name rfl)) rfl rfl ?_ (SubV.cons rfl (SubV.cons rfl SubV.nil)) (fun _ _ _ _ p hp => binds_pair rm.1 rfl rfl) (fun _ _ _ _ p x hp hx => binds_name rfl) ?_ ?_
        (fun p hp => SubV.cons rfl (SubV.cons rfl SubV.nil)) (fun p hp x hx => SubV.cons rfl (SubV.cons rfl (SubV.cons rfl (SubV.cons rfl SubV.nil))))) fun s₂ a₂ => ?_
      · simpa only [seatAll, List.length_flatMap, List.length_map] using h3
      · intro Cc B W X' D' p hp
        have hm := hmem p hp
        exact evi_range2 rm.1 (evB rfl rfl bo_range) (ev_binop (ev_name rfl) (ev_name rfl) op_add) (ev_binop (ev_name rfl) ev_int op_add) (by constructor <;> omega) (by constructor <;> omega)
      · intro Cc B W X' D' p x hp hx
        have hm := hmem p hp
        have hs := seat_mem hx
        exact ev_tuple (evl_cons (ev_name rfl) (evl_cons (ev_binop (ev_name rfl) (ev_binop ev_int (ev_name rfl) (op_pow (by omega) (by omega) (by decide))) op_add) evl_nil)) (Nat.le_of_ble_eq_true rfl)
      · refine x_assign a₂ (ev_name rfl) fun s₃ a₃ => ?_
        refine x_nil (hk s₃ (a₃.forget (SubV.cons rfl (SubV.cons ?_ (SubV.cons rfl SubV.nil)))))
        show some _ = some _
        simp only [seatAll, pairItems, List.map_flatMap, List.map_map, Function.comp_def, hst]
    · intro s₃ a₃
      refine x_nil ?_
      refine x_forF (l := st.2) (emb := fun p => .tup [.int p.1, .int p.2]) (fun t (p : Int × Int) => addCallers t [(p.2, 1)]) (fun _ => []) (fun t => [("table", .dct t)]) (fun p => [("key", .int p.2), ("least", .int p.1)]) t a₃ (evi_list rm.1 (ev_name rfl)) rfl rfl (SubV.cons rfl SubV.nil) (fun _ => rfl)
        (fun J h st x hx => binds_pair rm.1 rfl rfl) hf ?_ ?_
      · intro J h t p t' s K _ hf a hk
        refine x_assign a (ev_call_fn (gx_ok w mean mg mb) (evG rfl rfl) (fun h x => ⟨_, x.1 49 _ rfl, rfl, codeRec_of x.1 rfl⟩) (fn_add _ _ hf) rm (evl_cons (ev_name rfl) (evl_cons (ev_dict1 (gx_ok w mean mg mb) (ev_name rfl) ev_int) evl_nil))) fun s' a' => ?_
        exact x_nil (hk s' (a'.forget (SubV.cons rfl SubV.nil)))
      · intro s' a'
        exact x_nil (x_nil (hk s' (a'.forget (SubV.cons rfl SubV.nil))))
  · intro s' a'
    refine x_nil ?_
    exact x_return a' (ev_name rfl) fun v s'' x a'' r => ret_ok a'' r
end Mine
end

section
open PySem PySem.W PyProof.Rows
namespace Mine
variable {w : World} {mean : ExcName → Option Value} {mg mb : Str → Option Value}
namespace TC
theorem init : findIn (KF w) (.ref 38) "__init__" = some (some (.ref 28)) := by first | rfl | kernel_rfl
theorem compare : findIn (KF w) (.ref 38) "compare" = some (some (.ref 35)) := by first | rfl | kernel_rfl
theorem setattr : findIn (KF w) (.ref 38) "__setattr__" = some (some (.builtin "object.__setattr__")) := by first | rfl | kernel_rfl
theorem getattribute : findIn (KF w) (.ref 38) "__getattribute__" = some (some (.builtin "object.__getattribute__")) := by first | rfl | kernel_rfl
theorem getattr : findIn (KF w) (.ref 38) "__getattr__" = some none := by first | rfl | kernel_rfl
theorem makes : makesIn (KF w) 38 = true := by first | rfl | kernel_rfl
theorem over : plainOver (KF w) 38 = true := by first | rfl | kernel_rfl
theorem taker : takerIn (KF w) 38 "comp_select_list" = some none := by first | rfl | kernel_rfl
theorem hasDict : hasDictIn (KF w) 38 = true := by first | rfl | kernel_rfl
theorem none : findIn (KF w) (.ref 38) "comp_select_list" = some Option.none := by first | rfl | kernel_rfl
theorem fcompare : typeIn (KF w) (.ref 35) = some (.type "function") := by first | rfl | kernel_rfl
theorem finit : typeIn (KF w) (.ref 28) = some (.type "function") := by first | rfl | kernel_rfl
end TC

/-- an object of TupleComp with its columns -/
def judgeS (w : World) (cols : List (Int × Int)) : Stb where
  p := fun h X v => ∃ x dx od v0, v = .ref x ∧ ¬ X x ∧ ¬ X dx ∧ h.get? x = some (instObj 38 dx) ∧ h.get? dx = some od ∧ lookIn "comp_select_list" od = some (some v0) ∧ shadowIn (some od) "compare" = some false ∧ Rep PG w h X (.lst (pairItems cols)) v0
  mono := by
    rintro h h' X X' v hX hk ⟨x, dx, od, v0, e, n1, n2, g1, g2, l1, l2, r⟩
    refine ⟨x, dx, od, v0, e, fun q => ?_, fun q => ?_, hk _ _ n1 g1, hk _ _ n2 g2, l1, l2, Rep.to hX hk _ _ r⟩
    · rcases hX x q with z | z
      · exact n1 z
      · rw [g1] at z; cases z
    · rcases hX dx q with z | z
      · exact n2 z
      · rw [g2] at z; cases z

theorem tv_judge {A : Around} {B : Heap} {W : Addr → Prop} {Z : Shared} {env : Env} {Xc : Addr → Prop} {D : Muts} {σ : Vars} {s : Shared} {v : Value} {cols : List (Int × Int)} (rm : Room A 2)
    (a : AtC ⟨PG, w, A, Gx w mean mg mb, B, W, Z, env, Xc⟩ D σ s) (r : RepC ⟨PG, w, A, Gx w mean mg mb, B, W, Z, env, Xc⟩ D s (.lst (pairItems cols)) v) :
    Tv ⟨PG, w, A, Gx w mean mg mb, B, W, Z, env, Xc⟩ D (call (.ref 38) [v]) (.any (judgeS w cols)) s := by
  intro Q k
  have G := a.globNow (gx_ok w mean mg mb).mono
  have X : (KF w).In s.heap := G.1
  obtain ⟨hh, g, d, t, os⟩ := s
  refine wpAny_call ?_
  refine make_core (makes_of X TC.makes) (looks_findIn X TC.init) (fun self => bind_fn X self TC.finit) (.inl rfl) ?_
  have gr : Grow hh ((hh.push emptyDict).push (instObj 38 hh.objs.size)) := (Grow.push _ _).trans (Grow.push _ _)
  have X1 : (KF w).In ((hh.push emptyDict).push (instObj 38 hh.objs.size)) := X.keeps gr
  have hd := rm.2.1
  refine codeAny_call_function (o := _) ?_ (X1 28 _ rfl) rfl rfl rfl rfl (codeRec_of X1 rfl) ?_
  · show A.depth + _ < 1000
    have : (Code.builtin "type.__call__" ⟨[.ref 38, v], []⟩).weight = 1 := rfl
    rw [this]; omega
  refine wpAny_of_eq (a := ([("self", .ref (hh.objs.size + 1)), ("comp_select_list", v)] : List (Str × Value))) rfl ?_
  refine wpAny_newFunctionEnv_cells rfl ?_ fun env' he s' x => ?_
  · intro y hy
    rcases List.mem_cons.mp hy with rfl | hy
    · exact .inl rfl
    · rcases List.mem_cons.mp hy with rfl | hy
      · exact .inl rfl
      · cases hy
  have hkeep := x.1.keep
  have kp : Grow hh s'.heap := fun b o e => hkeep _ _ (gr _ _ e)
  refine ⟨((gx_ok w mean mg mb).lim _ G).keeps kp, codeAny_func ?_⟩
  have hx1 : ((hh.push emptyDict).push (instObj 38 hh.objs.size)).get? (hh.objs.size + 1) = some (instObj 38 hh.objs.size) := by heap_get
  have hd1 : ((hh.push emptyDict).push (instObj 38 hh.objs.size)).get? hh.objs.size = some emptyDict := Heap.get?_push_of_some _ (Heap.get?_push_at rfl rfl)
  have hL : env'.locals = hh.objs.size + 2 := by rw [he]; show ((hh.push emptyDict).push (instObj 38 hh.objs.size)).objs.size = _; rw [Heap.size_push, Heap.size_push]
  have F : Fr hh env'.locals s'.heap _ := ⟨x.1.ns, kp, by rw [hL]; omega⟩
  have N : News hh env'.locals s'.heap [(hh.objs.size + 1, instObj 38 hh.objs.size), (hh.objs.size, emptyDict)] := by
    intro p hp
    rcases List.mem_cons.mp hp with rfl | hp
    · exact ⟨hkeep _ _ hx1, by rw [hL]; exact Nat.ne_of_lt (Nat.lt_succ_self _), fresh_ge (Nat.le_succ _)⟩
    · rcases List.mem_cons.mp hp with rfl | hp
      · exact ⟨hkeep _ _ hd1, by rw [hL]; exact Nat.ne_of_lt (by omega), fresh_ge (Nat.le_refl _)⟩
      · cases hp
  have hk1 : env'.kindOf "self" = some .local := by rw [he]; rfl
  have hk2 : env'.kindOf "comp_select_list" = some .local := by rw [he]; rfl
  have hkind : env'.scope.kind = .function := by rw [he]; rfl
  have m1 : (bindL env'.kindOf ([("self", .ref (hh.objs.size + 1)), ("comp_select_list", v)] : List (Str × Value)) fun _ => Option.none) "self" = some (.ref (hh.objs.size + 1)) := bindL_at hk1 _ _ (show (["self", "comp_select_list"] : List Str).Nodup by decide) (.head _)
  have m2 : (bindL env'.kindOf ([("self", .ref (hh.objs.size + 1)), ("comp_select_list", v)] : List (Str × Value)) fun _ => Option.none) "comp_select_list" = some v := bindL_at hk2 _ _ (show (["self", "comp_select_list"] : List Str).Nodup by decide) (.tail _ (.head _))
  refine wpAny_execs_cons ?_
  refine plainObj_wpAny_Assign_Attribute ?_ rfl
  refine wpAny_Name (wpAny_loadName_local hkind hk2 x.1.ns m2 ?_) (by decide)
  refine wpAny_Name (wpAny_loadName_local hkind hk1 x.1.ns m1 ?_) (by decide)
  have I : InstAt s'.heap (hh.objs.size + 1) (instObj 38 hh.objs.size) 38 (some (dictOf [] 0)) := ⟨hkeep _ _ hx1, rfl, rfl, hkeep _ _ hd1⟩
  refine set_dict (K := KF w) (es := []) (n := 0) F X N I rfl TC.setattr TC.over TC.taker TC.hasDict rfl rfl (.tail (by show hh.objs.size + 1 ≠ hh.objs.size; omega) (.head (fun p hp => nomatch hp))) (Nat.le_of_ble_eq_true rfl) fun h' F' N' => ?_
  refine wpAny_execs_nil ?_
  obtain ⟨ph, pt, ps⟩ := x.1.same
  have n1 := N' _ (.head _)
  have n2 := N' _ (.tail _ (.head _))
  have a' := not_own_new a (b := hh.objs.size + 1) (fresh_ge (Nat.le_succ _))
  have a'' := not_own_new a (b := hh.objs.size) (fresh_ge (Nat.le_refl _))
  refine ⟨rfl, k _ _ ⟨⟨h', s'.toks + 2, by rw [ps]⟩, fun b o e => F'.keep b o e⟩ ?_⟩
  simp only [RepC, Rep]
  exact ⟨_, _, _, v, rfl, a', a'', n1.1, n2.1, rfl, rfl, Rep.grow r fun b o e => F'.keep b o e⟩
end Mine
end

section
open PySem PySem.W PyProof.Rows
namespace Mine
variable {w : World}
/-- classes whose instances are made by OSError.__new__ and filled by an own __init__ -/
def makesE (K : Frag) (C : Addr) : Bool := match K.lookup C with
  | some ⟨_, _, .cls cd, sl⟩ => !cd.abstract && !cd.hasDel && (sl.toList[4]?).join == some (.builtin "OSError.__new__") && !cd.mro.isEmpty && cd.mro.contains (.ref C) && cd.mro.contains (.type "OSError") &&
      specialIn K (.ref C) "__call__" == some (some (.builtin "type.__call__")) && instIn K (.ref C) (.type "type") == some true
  | _ => false
theorem m145 : makesE (KF w) 145 = true := by first | rfl | kernel_rfl
theorem m133 : makesE (KF w) 133 = true := by first | rfl | kernel_rfl
theorem i145 : findIn (KF w) (.ref 145) "__init__" = some (some (.ref 111)) := by first | rfl | kernel_rfl
theorem i133 : findIn (KF w) (.ref 133) "__init__" = some (some (.ref 130)) := by first | rfl | kernel_rfl
theorem f111 : typeIn (KF w) (.ref 111) = some (.type "function") := by first | rfl | kernel_rfl
theorem f130 : typeIn (KF w) (.ref 130) = some (.type "function") := by first | rfl | kernel_rfl
theorem s145 : findIn (KF w) (.ref 145) "__setattr__" = some (some (.builtin "object.__setattr__")) := by first | rfl | kernel_rfl

structure MadeE (M : Model) (h : Heap) (C : Addr) : Prop where
  obj : ∃ oc od cd sl, h.get? C = some ⟨oc, od, .cls cd, sl⟩ ∧ cd.abstract = false ∧ cd.hasDel = false ∧ cd.mro.isEmpty = false
  made : Looks M h (Bind.madeBy (.ref C)) (some "OSError.__new__")
  base : Looks M h (Bind.staticBase (.ref C)) (.ref C)
  self : Looks M h (isSubtype (.ref C) (.ref C)) true
  os : Looks M h (isSubtype (.ref C) (.type "OSError")) true
  call : Looks M h (specialOf (.ref C) "__call__") (some (.builtin "type.__call__"))
  typ : Looks M h (isInstance (.ref C) (.type "type")) true
theorem madeE_of {K : Frag} {M : Model} {h : Heap} (X : K.In h) {C : Addr} (e : makesE K C = true) : MadeE M h C := by
  unfold makesE at e
  split at e
  case h_2 => cases e
  rename_i oc od cd sl ho
  simp only [Bool.and_eq_true, Bool.not_eq_true', beq_iff_eq] at e
  obtain ⟨⟨⟨⟨⟨⟨⟨e1, e2⟩, e3⟩, e4⟩, e5⟩, e6⟩, e7⟩, e8⟩ := e
  have hc : clsIn K C = some cd := by unfold clsIn; rw [ho]
  have hm : Looks M h (mroOf (.ref C)) cd.mro := (looks_clsIn X hc).andThen .now
  have sub : ∀ {b : Value}, cd.mro.contains b = true → Looks M h (isSubtype (.ref C) b) true := fun hb => looks_mroIn X (by unfold mroIn; rw [hc, Option.bind_some, if_neg (by rw [e4]; decide), hb])
  cases q : cd.mro with
  | nil => rw [q] at e4; cases e4
  | cons c l =>
  have made : Looks M h (Bind.madeBy (.ref C)) (some "OSError.__new__") := fun A Q E s k hq => by
    unfold Bind.madeBy
    refine wpAny_bind (hm A _ E s k ?_)
    rw [q, List.forIn_cons]
    refine wpAny_bind (wpAny_bind (wpAny_bind (wpAny_bind (wpAny_loadPart (k _ _ (X _ _ ho)) (wpAny_pure ?_)))))
    dsimp only
    rw [← Array.getElem?_toList, e3]
    exact wpAny_pure (wpAny_pure (wpAny_pure hq))
  refine ⟨⟨oc, od, cd, sl, X _ _ ho, e1, e2, e4⟩, made, fun A Q E s k hq => ?_, sub e5, sub e6, looks_specialIn X e7, looks_instIn X e8⟩
  unfold Bind.staticBase
  refine wpAny_bind (hm A _ E s k ?_)
  rw [q, List.forIn_cons]
  exact wpAny_bind (wpAny_bind (wpAny_bind (made A _ E s k (wpAny_pure (wpAny_pure (wpAny_pure hq))))))
end Mine
end

section
open PySem PySem.W PyProof.Rows
namespace Mine
namespace FE
theorem split : splitId "OSError.__new__" = some ("OSError", "__new__") := by decide +kernel
theorem kind : builtinKind "OSError.__new__" = some .builtinFn := by decide +kernel
theorem entry : entryFor table "OSError.__new__" = some Builtin.«OSError.__new__» := by first | exact entryFor_of_tree (by kernel_rfl) | exact entryFor_of_fast (by kernel_rfl)
theorem quiet : "OSError.__new__".startsWith "lifetime." = false := by decide +kernel
theorem row : Manifest.signature? "OSError.__new__" = some ⟨.constructor, "*", "OSError", .cls, [⟨"args", .varPos, false⟩]⟩ := by kernel_rfl
end FE
abbrev emptyTup : Obj := { cls := .type "tuple", data := .seq #[] }
abbrev excObj (C t : Addr) : Obj := { cls := .ref C, data := .fields (#[.ref t, .none, .none, .none, .bool false, .none] ++ Builtin.OSError.osNothingGiven) }
section
variable {prog : Program} {w : World} {A : Around} {C : Addr} {R : Result → Shared → Prop} {h : Heap} {g : Array GenState} {d : Drawn} {t : Nat} {os : OsState}
theorem new_E {rest : List Value} {fI : Addr} (Y : MadeE (model prog w) h C) (hi : Looks (model prog w) h (typeLookup (.ref C) "__init__") (some (.ref fI)))
    (hq : R (.ok (.ret (.ref (h.objs.size + 1)))) ⟨(h.push emptyTup).push (excObj C h.objs.size), g, d, t, os⟩) :
    codeAny (model prog w) A (.call (.builtin "OSError.__new__") ⟨.ref C :: rest, []⟩) R ⟨h, g, d, t, os⟩ := by
  obtain ⟨⟨oc, od, cd, sl, hC, e1, e2, e4⟩, made, base, self, top, call, typ⟩ := Y
  refine codeAny_call_builtin_code (Code.quiet_builtin _ FE.quiet) ?_
  simp only [checkBuiltinCall, FE.kind, FE.split, FE.row]
  have here : Looks (model prog w) h (Bind.madeHere "OSError.__new__" (.ref C)) () := base.andThen (made.andThen (Looks.of_pure (by simp only [Option.map_some, bne_self_eq_false, Bool.false_eq_true, if_false])))
  repeat (first | simp only [bne_self_eq_false, Bool.false_eq_true, if_false] | lk)
  refine bm_if_false (by rw [Bool.and_eq_false_iff]; right; decide) (wpAny_pure ?_)
  refine codeAny_builtin FE.entry ?_
  unfold Builtin.«OSError.__new__» Builtin.OSError.osReadsInInit
  repeat (first | simp only [Bool.false_eq_true, if_false, Bool.not_true] | lk)
  refine nd_load (Heap.get?_push_of_some _ (Heap.get?_push_of_some _ hC)) (wpAny_pure ?_)
  dsimp only
  refine wpAny_pure ?_
  refine bm_if_false e2 (wpAny_pure (wpAny_pure ?_))
  show R _ _
  rw [Heap.size_push]
  exact hq
end
end Mine
end

section
open PySem PySem.W PyProof.Rows
namespace Mine
section
variable {prog : Program} {w : World} {A : Around} {C : Addr} {R : Result → Shared → Prop} {h : Heap} {g : Array GenState} {d : Drawn} {t : Nat} {os : OsState}
theorem make_E {rest : List Value} {fI : Addr} (Y : MadeE (model prog w) h C) (hi : Looks (model prog w) h (typeLookup (.ref C) "__init__") (some (.ref fI)))
    (hb : ∀ self, Looks (model prog w) h (bindSpecial (.ref fI) self) (.ref fI, [self]))
    (hq : codeAny (model prog w) (A.under (.builtin "type.__call__" ⟨.ref C :: rest, []⟩)) (.call (.ref fI) ⟨.ref (h.objs.size + 1) :: rest, []⟩) (InitBack (h.objs.size + 1) R) ⟨(h.push emptyTup).push (excObj C h.objs.size), g, d, t, os⟩) :
    codeAny (model prog w) A (.call (.ref C) ⟨rest, []⟩) R ⟨h, g, d, t, os⟩ := by
  have Y' := Y
  obtain ⟨⟨oc, od, cd, sl, hC, e1, e2, e4⟩, made, base, self, top, call, typ⟩ := Y
  refine codeAny_of_tree ?_
  show wpAny _ _ (callAny (.ref C) _) _ _ _
  refine nd_load hC ?_
  show wpAny _ _ (callAny.viaDunder (.ref C) _) _ _ _
  unfold callAny.viaDunder
  refine wpAny_bind (call.at ?_)
  dsimp only
  rw [tc_bind]
  refine wpAny_bind (wpAny_pure (wpAny_bind (wpAny_pure ?_)))
  refine wpAny_pure (a := Fin.again (.call (.builtin "type.__call__") ⟨.ref C :: rest, []⟩)) (And.intro rfl ?_)
  refine codeAny_call_builtin_at (Code.quiet_builtin _ (by decide +kernel)) entry_typeCall (check_slot tc_kind tc_split typ (tc_args _ _ _) ?_)
  unfold Builtin.«type.__call__»
  have hm : Looks (model prog w) h (mroOf (.ref C)) cd.mro := ((Looks.ld (part := none) hC).andThen .now).andThen .now
  repeat (first | simp only [e4, Bool.false_eq_true, if_false] | with_reducible refine wpAny_call ?_ | lk)
  refine new_E (fI := fI) Y' hi ?_
  have k : ∀ b o, h.get? b = some o → ((h.push emptyTup).push (excObj C h.objs.size)).get? b = some o := fun b o e => Heap.get?_push_of_some _ (Heap.get?_push_of_some _ e)
  have hx : ((h.push emptyTup).push (excObj C h.objs.size)).get? (h.objs.size + 1) = some (excObj C h.objs.size) := by heap_get
  have t1 : Looks (model prog w) ((h.push emptyTup).push (excObj C h.objs.size)) (typeOf (.ref (h.objs.size + 1))) (.ref C) := (Looks.ld hx).andThen .now
  have s1 := self.keeps k
  have i1 := hi.keeps k
  have b1 := (hb (.ref (h.objs.size + 1))).keeps k
  unfold isInstance callSpecial? specialOf
  repeat (first | with_reducible refine wpAny_call ?_ | lk)
  refine codeAny_mono hq fun r s' z => ?_
  rcases r with e | (v | _ | _ | _) <;> first | exact z | exact z.elim | skip
  obtain ⟨rfl, z⟩ := z
  exact wpAny_pure (wpAny_pure z)
end
end Mine
end

section
open PySem PySem.W PyProof.Rows
namespace Mine
variable {w : World}
/-- the ancestors of an exception class -/
def mroE (K : Frag) (C : Addr) : Option (List Value) := (clsIn K C).map (·.mro)
theorem mro145 : mroE (KF w) 145 = some [.ref 145, .ref 114, .ref 94, .type "OSError", .type "Exception", .type "BaseException", .type "object"] := by first | rfl | kernel_rfl
theorem mro133 : mroE (KF w) 133 = some [.ref 133, .ref 114, .ref 94, .type "OSError", .type "Exception", .type "BaseException", .type "object"] := by first | rfl | kernel_rfl
theorem refuse_E (self : Value) : refuseLoop self "__setattr__" [.type "OSError", .type "Exception", .type "BaseException", .type "object"] = pure () := by kernel_rfl
theorem taker_code : takerIn (KF w) 145 "smtp_code" = some none ∧ takerIn (KF w) 145 "smtp_error" = some none ∧ takerIn (KF w) 133 "smtp_code" = some none ∧ takerIn (KF w) 133 "smtp_error" = some none ∧ takerIn (KF w) 133 "sender" = some none := by
  refine ⟨?_, ?_, ?_, ?_, ?_⟩ <;> first | rfl | kernel_rfl
theorem taker_args : takerIn (KF w) 145 "args" = some (some (.builtin "BaseException.args")) ∧ takerIn (KF w) 133 "args" = some (some (.builtin "BaseException.args")) := by
  refine ⟨?_, ?_⟩ <;> first | rfl | kernel_rfl
theorem hasDictE : hasDictIn (KF w) 145 = true ∧ hasDictIn (KF w) 133 = true := by
  refine ⟨?_, ?_⟩ <;> first | rfl | kernel_rfl
end Mine
end

section
open PySem PySem.W PyProof.Rows PySem.Builtin PySem.Builtin.ObjectAttr
namespace Mine
section
variable {prog : Program} {w : World} {A : Around} {K : Frag} {C x : Addr} {s : Shared} {R : Result → Shared → Prop}
def builtinTail : List Value := [.type "OSError", .type "Exception", .type "BaseException", .type "object"]
theorem refuse_tail (self : Value) : ∀ l : List Addr, refuseLoop self "__setattr__" (l.map Value.ref ++ builtinTail) = pure ()
  | [] => refuse_E self
  | c :: l => by rw [List.map_cons, List.cons_append, refuseLoop_ref]; exact refuse_tail self l
theorem osaE_open {ox : Obj} {od : Option Obj} {name : Str} {tk : Tok} {v : Value} {r : Option Value} {refs : List Addr} (X : K.In s.heap) (I : InstAt s.heap x ox C od) (hm : mroE K C = some (refs.map Value.ref ++ builtinTail)) (ht : takerIn K C name = some r)
    (h : ∀ b, wpAny (model prog w) A.in1 (match r with | some a => setByDescriptor a (.ref x) v | none => storeInOwnDict (.ref x) (.ref C) (.str name tk) name v b)
      (fun fin s' => match fin with | .done f => R (.ok f) s' | .again c' => c'.quiet = true ∧ codeAny (model prog w) A c' R s') (fun e s' => R (.error e) s') s) :
    codeAny (model prog w) A (.call (.builtin "object.__setattr__") ⟨[.ref x, .str name tk, v], []⟩) R s := by
  have SF := PySem.F.store_object
  obtain ⟨cd, hc, hmro⟩ := Option.map_eq_some_iff.mp hm
  have ne : cd.mro.isEmpty = false := by rw [hmro]; cases refs <;> rfl
  have hobj : cd.mro.contains (.type "object") = true := by
    rw [hmro, List.contains_eq_mem]
    exact decide_eq_true (List.mem_append_right _ (by simp [builtinTail]))
  have sub : Looks (model prog w) s.heap (isInstance (.ref x) (.type "object")) true := I.type.andThen (looks_mroIn X (by unfold mroIn; rw [hc, Option.bind_some, if_neg (by rw [ne]; decide), hobj]))
  refine codeAny_call_builtin SF.slot.plain SF.entry (@check_slot (model prog w) _ _ s "object.__setattr__" "object" "__setattr__" (.ref x) [.str name tk, v] [] _ SF.kind SF.split sub (SF.args (.ref x) (.str name tk) v) ?_)
  obtain ⟨attr, ha, hr⟩ := Option.bind_eq_some_iff.mp ht
  have hmL : Looks (model prog w) s.heap (mroOf (.ref C)) cd.mro := (looks_clsIn X hc).andThen .now
  have L3 : Looks (model prog w) s.heap (storeTaker? attr) r := by
    cases attr with
    | none => cases hr; exact .now
    | some a =>
      obtain ⟨b, hb, rfl⟩ := Option.map_eq_some_iff.mp hr
      refine (looks_takesIn X hb).andThen ?_
      cases b <;> exact .now
  rw [osa_eq, refuse_eq]
  refine wpAny_bind (wpAny_bind (I.type.here (wpAny_bind (hmL.here ?_))))
  rw [hmro, refuse_tail]
  refine wpAny_pure (wpAny_bind (I.type.here (wpAny_bind ((looks_findIn X ha).here (wpAny_bind (L3.here ?_))))))
  exact h _
end
end Mine
end

section
open PySem PySem.W PyProof.Rows PySem.Builtin PySem.Builtin.ObjectAttr
namespace Mine
section
variable {prog : Program} {w : World} {A : Around} {E : Value → Shared → Prop} {K : Frag} {C x : Addr} {s : Shared}
/-- the dict of an object, made at the first store -/
theorem dictNew {ox : Obj} {cd : ClassData} {Q : Option Addr → Shared → Prop} (X : K.In s.heap) (hx : s.heap.get? x = some ox) (hc : ox.cls = .ref C) (hd : ox.dict = none) (hn : notCls ox = true) (hcd : clsIn K C = some cd) (hh : cd.hasDict = true)
    (hf : ∀ d, ({ ox with dict := d } : Obj).isFreed = false)
    (k : ∀ h', h'.get? x = some { ox with dict := some s.heap.objs.size } → h'.get? s.heap.objs.size = some { cls := .type "dict", data := .dict #[] } → (∀ b o, b ≠ x → s.heap.get? b = some o → h'.get? b = some o) → Q (some s.heap.objs.size) { s with heap := h' }) :
    wpAny (model prog w) A (instanceDict x true) Q E s := by
  unfold instanceDict
  refine wpAny_bind (wpAny_loadPart hx ?_)
  rw [hc]
  dsimp only
  refine wpAny_bind ((looks_clsIn X hcd).here ?_)
  rw [hh]
  refine bm_if_false rfl ?_
  rw [hd]
  dsimp only
  refine bm_if_false rfl ?_
  have hx2 := Heap.get?_push_of_some { cls := .type "dict", data := .dict #[] } hx
  have hne : s.heap.objs.size ≠ x := fun q => by have := Heap.lt_size hx; rw [q] at this; exact Nat.lt_irrefl _ this
  have tail : wpAny (model prog w) A (do
      let d ← alloc { cls := .type "dict", data := .dict #[] }
      update x fun o => { o with dict := some d }
      dictMade (.ref C) x d) Q E s := by
    refine wpAny_bind (wpAny_alloc (wpAny_bind (wpAny_update hx2 ?_)))
    refine wpAny_pure (k _ (Heap.get?_update_self _ hx2 (hf _)) ?_ fun b o hb e => ?_)
    · exact (Heap.get?_update_other _ _ (Ne.symm hne)).trans (Heap.get?_push_size _ rfl)
    · exact (Heap.get?_update_other _ _ (Ne.symm hb)).trans (Heap.get?_push_of_some _ e)
  cases q : ox.data with
  | cls c => unfold notCls at hn; rw [q] at hn; cases hn
  | _ => exact tail
end
end Mine
end

section
open PySem PySem.W PyProof.Rows PySem.Builtin PySem.Builtin.ObjectAttr
namespace Mine
section
variable {prog : Program} {w : World} {A : Around} {E : Value → Shared → Prop} {K : Frag} {C x d : Addr} {s : Shared}
/-- a store into the dict of an object -/
theorem storeD {es : List DictEntry} {n : Nat} {name : Str} {tk : Tok} {v : Value} {Q : Fin → Shared → Prop} (hd : s.heap.get? d = some (dictOf es n)) (hl : (getL name es).isSome = true) (hz : es.length ≤ 1000)
    (k : ∀ h', h'.get? d = some (dictOf (putL name (PyData.keyHash w.params name) (.str name s.toks) v es) (putN name es n)) → Heap.SameBut d s.heap h' → Q (.done (.ret .none)) { s with heap := h', toks := s.toks + 1 }) :
    wpAny (model prog w) A (storeInDict d (.str name tk) name v) Q E s := by
  unfold storeInDict
  refine wpAny_bind (wpAny_pure ?_)
  unfold nsSet
  refine wpAny_bind (wpAny_bind (wpAny_bind (wpAny_askSetting (wpAny_pure (wpAny_bind (wpAny_mkText (wpAny_bind (wpAny_loadPart hd ?_))))))))
  dsimp only
  have c : (!es.toArray.any (·.key.isStr name) && es.toArray.any (·.refKey)) = false := by
    rw [← Array.any_toList, ← Array.any_toList]
    unfold getL at hl
    split at hl
    · rename_i en he
      rw [List.any_eq_true.mpr ⟨en, List.mem_of_find?_eq_some he, List.find?_some he⟩]; rfl
    · split at hl
      · cases hl
      · rename_i z; rw [Bool.not_eq_true] at z
        show (!_ && List.any es _) = false
        rw [z, Bool.and_false]
  rw [aRefKeyMayBeTheName_at, c]
  have hput := putName_dict name (PyData.keyHash w.params name) (.str name s.toks) v es n
  have hlen : (putL name (PyData.keyHash w.params name) (.str name s.toks) v es).length ≤ es.length + 1 := by
    clear hput c hd k hl hz
    induction es with
    | nil => simp [putL]
    | cons e r ih =>
      unfold putL
      split
      · simp
      · simp only [List.length_cons]; omega
  have h2 : (s.heap.update d (Obj.putName name (PyData.keyHash w.params name) (.str name s.toks) v)).get? d = some (dictOf (putL name (PyData.keyHash w.params name) (.str name s.toks) v es) (putN name es n)) := by
    have := Heap.get?_update_self (Obj.putName name (PyData.keyHash w.params name) (.str name s.toks) v) hd (by rw [hput]; rfl)
    rw [hput] at this; exact this
  refine wpAny_updatePart hd ?_
  refine wpAny_bind (wpAny_lookBehind h2 (by exact pastItsLine_dict (by rw [List.size_toArray, sizeLine_eq]; omega)) ?_)
  exact wpAny_pure (k _ h2 (Heap.SameBut.update ..))
end
end Mine
end

section
open PySem PySem.W PyProof.Rows PySem.Builtin PySem.Builtin.ObjectAttr
namespace Mine
abbrev excObjD (C t d : Addr) : Obj := { cls := .ref C, dict := some d, data := .fields (#[.ref t, .none, .none, .none, .bool false, .none] ++ Builtin.OSError.osNothingGiven) }
section
variable {prog : Program} {w : World} {A : Around} {E : Value → Shared → Prop} {K : Frag} {C x d t : Addr} {s : Shared}
/-- the first store on a new exception -/
theorem setE_first {name : Str} {v : Value} {refs : List Addr} {cd : ClassData} {Q : Unit → Shared → Prop} (X : K.In s.heap) (hx : s.heap.get? x = some (excObj C t)) (hm : mroE K C = some (refs.map Value.ref ++ builtinTail)) (ht : takerIn K C name = some none)
    (hs : findIn K (.ref C) "__setattr__" = some (some (.builtin "object.__setattr__"))) (hcd : clsIn K C = some cd) (hh : cd.hasDict = true)
    (k : ∀ h' tk, h'.get? x = some (excObjD C t s.heap.objs.size) → h'.get? s.heap.objs.size = some (dictOf (putL name (PyData.keyHash w.params name) (.str name tk) v []) 1) → (∀ b o, b ≠ x → s.heap.get? b = some o → h'.get? b = some o) → Q () { s with heap := h', toks := tk + 1 }) :
    wpAny (model prog w) A (setAttr (.ref x) name v) Q E s := by
  have I : InstAt s.heap x (excObj C t) C none := ⟨hx, rfl, rfl, trivial⟩
  refine set_plain X I hs ?_
  refine osaE_open (s := { s with toks := s.toks + 1 }) X I hm ht fun b => ?_
  dsimp only
  unfold storeInOwnDict
  refine wpAny_bind (wpAny_pure ?_)
  refine bm_if_false rfl ?_
  refine wpAny_bind ?_
  show wpAny _ _ (instanceDict x true) _ _ _
  refine dictNew (s := { s with toks := s.toks + 1 }) X hx rfl rfl rfl hcd hh (fun _ => rfl) fun h' e1 e2 e3 => ?_
  dsimp only
  refine storeD (es := []) (n := 0) e2 rfl (by decide) fun h'' e4 b4 => ?_
  have hne : x ≠ s.heap.objs.size := Nat.ne_of_lt (Heap.lt_size hx)
  exact k h'' _ ((b4.2 x hne).trans e1) e4 fun b o hb e => (b4.2 b (Nat.ne_of_lt (Heap.lt_size e))).trans (e3 b o hb e)
/-- a later store -/
theorem setE_more {name : Str} {v : Value} {refs : List Addr} {es : List DictEntry} {n : Nat} {cd : ClassData} {Q : Unit → Shared → Prop} (X : K.In s.heap) (hx : s.heap.get? x = some (excObjD C t d)) (hd : s.heap.get? d = some (dictOf es n)) (hm : mroE K C = some (refs.map Value.ref ++ builtinTail)) (ht : takerIn K C name = some none)
    (hs : findIn K (.ref C) "__setattr__" = some (some (.builtin "object.__setattr__"))) (hcd : clsIn K C = some cd) (hh : cd.hasDict = true) (hl : (getL name es).isSome = true) (hz : es.length ≤ 1000)
    (k : ∀ h' tk, h'.get? d = some (dictOf (putL name (PyData.keyHash w.params name) (.str name tk) v es) (putN name es n)) → (∀ b o, b ≠ d → s.heap.get? b = some o → h'.get? b = some o) → Q () { s with heap := h', toks := tk + 1 }) :
    wpAny (model prog w) A (setAttr (.ref x) name v) Q E s := by
  have I : InstAt s.heap x (excObjD C t d) C (some (dictOf es n)) := ⟨hx, rfl, rfl, hd⟩
  refine set_plain X I hs ?_
  refine osaE_open (s := { s with toks := s.toks + 1 }) X I hm ht fun b => ?_
  dsimp only
  unfold storeInOwnDict
  refine wpAny_bind (wpAny_pure ?_)
  refine bm_if_false rfl ?_
  refine wpAny_bind ?_
  show wpAny _ _ (instanceDict x true) _ _ _
  unfold instanceDict
  refine wpAny_bind (wpAny_loadPart hx ?_)
  dsimp only
  have Xt : K.In ({ s with toks := s.toks + 1 } : Shared).heap := X
  refine wpAny_bind ((looks_clsIn (M := model prog w) Xt hcd).here ?_)
  rw [hh]
  refine bm_if_false rfl ?_
  refine wpAny_pure ?_
  dsimp only
  refine storeD (s := { s with toks := s.toks + 1 }) hd hl hz fun h'' e4 b4 => ?_
  exact k h'' _ e4 fun b o hb e => (b4.2 b hb).trans e
end
end Mine
end

section
open PySem PySem.W PyProof.Rows PySem.Builtin PySem.Builtin.ObjectAttr
namespace Mine
namespace FE
theorem entry_gs_set : entryFor table "getset_descriptor.__set__" = some Builtin.«getset_descriptor.__set__» := by first | exact entryFor_of_tree (by kernel_rfl) | exact entryFor_of_fast (by kernel_rfl)
theorem args_gs_set (a b c : Value) : argsOk "getset_descriptor.__set__" ⟨[a, b, c], []⟩ := by unfold argsOk; kernel_rfl
theorem type_args : typeOf (.builtin "BaseException.args") = pure (.type "getset_descriptor") := by kernel_rfl
theorem entry_args_set : entryFor table "BaseException.args#set" = some Builtin.«BaseException.args#set» := by first | exact entryFor_of_tree (by kernel_rfl) | exact entryFor_of_fast (by kernel_rfl)
end FE
end Mine
end

section
open PySem PySem.W PyProof.Rows PySem.Builtin PySem.Builtin.ObjectAttr
namespace Mine
section
variable {prog : Program} {w : World} {A : Around} {E : Value → Shared → Prop} {K : Frag} {C x d t tup : Addr} {s : Shared}
theorem nameArgs : Getset_descriptor.descrNameAndClass (.builtin "BaseException.args") = pure ((Str.ofString "args"), (Value.type "BaseException")) := by kernel_rfl
theorem argsSet {Q : PySem.Fin → Shared → Prop} {items : Array Value} {ox : Obj} {vs : Array Value} (hb : ∀ M : Model, Looks M s.heap (isInstance (.ref x) (.type "BaseException")) true) (hx : s.heap.get? x = some ox) (hd : ox.data = .fields vs) (hv : 0 < vs.size) (ht : s.heap.IsTuple tup items)
    (k : Q (.done (.ret .none)) { s with heap := s.heap.update x (Obj.mapFields (·.setIfInBounds 0 (.ref tup))) }) :
    wpAny (model prog w) A (setByDescriptor (.builtin "BaseException.args") (.ref x) (.ref tup)) Q E s := by
  unfold setByDescriptor
  refine wpAny_bind (wpAny_rule (wpAny_bind (wpAny_holding ?_)))
  refine wpAny_callSpecial?_slot (name := Str.ofString "__set__") (T := "getset_descriptor") F.typeOf_bexc_args F.slot_gs_set ?_
  refine wpAny_call (codeAny_call_builtin F.slot_gs_set.plain FE.entry_gs_set (F.slot_gs_set.check _ _ _ _ _ _ _ _ F.typeOf_bexc_args (FE.args_gs_set _ _ _) ?_))
  unfold Builtin.«getset_descriptor.__set__» Builtin.Getset_descriptor.descrSet Builtin.Getset_descriptor.descrStoreThrough
  refine bm_if_false rfl ?_
  dsimp only
  unfold Getset_descriptor.descrCheckInstance
  rw [nameArgs]
  refine wpAny_bind (wpAny_bind (wpAny_pure ?_))
  dsimp only
  refine wpAny_bind ((hb _).here ?_)
  refine bm_if_false rfl ?_
  refine wpAny_pure (wpAny_bind (wpAny_pure ?_))
  refine wpAny_pure ⟨Code.quiet_builtin _ (by decide +kernel), codeAny_builtin FE.entry_args_set ?_⟩
  unfold Builtin.«BaseException.args#set»
  refine wpAny_bind (call_tuple_same ht ?_)
  unfold BaseException.bexcPut
  refine wpAny_bind (wpAny_bind (wpAny_field hx hd (x := vs[0]) (Array.getElem?_eq_getElem hv) ?_))
  refine wpAny_bind (wpAny_setField hx hd hv ?_)
  have fin := k
  split
  · exact wpAny_letGo (wpAny_pure (wpAny_pure fin))
  · exact wpAny_pure (wpAny_pure (wpAny_pure fin))
end
end Mine
end

section
open PySem PySem.W PyProof.Rows PySem.Builtin PySem.Builtin.ObjectAttr
namespace Mine
/-- a def's frame with plain locals, its arguments as they come -/
theorem call_raw {prog : Program} {w : World} {A : Around} {s : Shared} {R : Result → Shared → Prop} {f : Addr} {o : Obj} {fd : FuncData} {body : List Stmt} (names : List Str) {vs : List Value} (hroom : A.depth < 1000)
    (ho : s.heap.get? f = some o) (hd : o.data = .func fd) (hc : s.heap.CodeRec fd.code fd.qualname) (hlim : s.heap.NoLimit)
    (hbody : fd.body = .stmts body) (hcl : fd.closure = []) (hk : fd.scope.kind = .function) (hco : fd.scope.isCoroutine = false) (hgen : fd.scope.isGenerator = false)
    (hlen : vs.length = names.length) (hbind : bindArgs fd ⟨vs, []⟩ = pure (names.zip vs)) (hkind : (names.all fun x => fd.scope.names.lookup x == some .local) = true) (hnd : names.Nodup)
    (h : ∀ (L : Addr) (s' : Shared), L = s.heap.objs.size → Ext s s' → (∃ m, s'.heap.Ns L m ∧ ∀ x v, (x, v) ∈ names.zip vs → m x = some v) →
      wpAny (model prog w) (A.deeper (callEnvC fd L f)) (execs body (callEnvC fd L f)) (fun fl s'' => R (.ok (.ret (match fl with | .ret v => v | _ => .none))) s'')
        (fun e s'' => wpAny (model prog w) (A.deeper (callEnvC fd L f)) (leaving (callEnvC fd L f) e) (fun _ s3 => R (.error e) s3) (fun e' s3 => R (.error e') s3) s'') s') :
    codeAny (model prog w) A (.call (.ref f) ⟨vs, []⟩) R s := by
  refine codeAny_call_function hroom ho hd hco hgen hbody hc ?_
  rw [hbind, hcl]
  refine wpAny_pure ?_
  have hkx : ∀ n', ∀ x ∈ names.zip vs, fd.scope.names.lookup x.1 = some .local ∨ (fd.scope.names.lookup x.1 = some .cell ∧ ((cellsFrom n' fd.scope.names []).lookup x.1).isSome = true) := by
    intro n' y hy
    have : y.1 ∈ names := by rw [← zip_names hlen]; exact List.mem_map_of_mem hy
    exact .inl (by simpa using List.all_eq_true.mp hkind y.1 this)
  refine wpAny_newFunctionEnv_cells hk (hkx _) fun env he s' x => ?_
  have hkeep := x.1.keep
  refine ⟨hlim.keeps hkeep, codeAny_func ?_⟩
  have hel : env.locals = s.heap.objs.size := by rw [he]; rfl
  have hee : env = callEnvC fd s.heap.objs.size f := he
  have hns := x.1.ns
  have hko : ∀ y, env.kindOf y = fd.scope.names.lookup y := by intro y; rw [hee]; rfl
  have hz : ((names.zip vs).map (·.1)).Nodup := by rw [zip_names hlen]; exact hnd
  have hm : ∀ y v, (y, v) ∈ names.zip vs → bindL env.kindOf (names.zip vs) (fun _ => none) y = some v := fun y v hy => by
    have : y ∈ names := by rw [← zip_names hlen]; exact List.mem_map_of_mem (f := (·.1)) hy
    exact bindL_at ((hko y).trans (by simpa using List.all_eq_true.mp hkind y this)) _ _ hz hy
  obtain ⟨h1, tk, es⟩ := x.1.same
  rw [hel] at hns
  have := h s.heap.objs.size s' rfl ⟨⟨h1, tk, es⟩, hkeep⟩ ⟨_, hns, hm⟩
  rw [hee]
  exact this
end Mine
end

section
open PySem PySem.W PyProof.Rows PySem.Builtin PySem.Builtin.ObjectAttr
namespace Mine
section
variable {w : World}
theorem s133 : findIn (KF w) (.ref 133) "__setattr__" = some (some (.builtin "object.__setattr__")) := by first | rfl | kernel_rfl
theorem g145 : findIn (KF w) (.ref 145) "__getattribute__" = some (some (.builtin "BaseException.__getattribute__")) := by first | rfl | kernel_rfl
theorem g133 : findIn (KF w) (.ref 133) "__getattribute__" = some (some (.builtin "BaseException.__getattribute__")) := by first | rfl | kernel_rfl
theorem h145 : findIn (KF w) (.ref 145) "__getattr__" = some none := by first | rfl | kernel_rfl
theorem h133 : findIn (KF w) (.ref 133) "__getattr__" = some none := by first | rfl | kernel_rfl
theorem c145 : findIn (KF w) (.ref 145) "__class__" = some (some (.builtin "object.__class__")) := by first | rfl | kernel_rfl
theorem c133 : findIn (KF w) (.ref 133) "__class__" = some (some (.builtin "object.__class__")) := by first | rfl | kernel_rfl
theorem spc : specialIn (KF w) (.builtin "object.__class__") "__get__" = some (some (.builtin "getset_descriptor.__get__")) := by first | rfl | kernel_rfl
theorem tkc : takesIn (KF w) (.builtin "object.__class__") = some true := by first | rfl | kernel_rfl
theorem o145 : mroIn (KF w) 145 (.type "object") = some true := by first | rfl | kernel_rfl
theorem o133 : mroIn (KF w) 133 (.type "object") = some true := by first | rfl | kernel_rfl
theorem b145 : mroIn (KF w) 145 (.type "BaseException") = some true := by first | rfl | kernel_rfl
theorem b133 : mroIn (KF w) 133 (.type "BaseException") = some true := by first | rfl | kernel_rfl
theorem r145 : mroIn (KF w) 145 (.ref 114) = some true := by first | rfl | kernel_rfl
theorem r133 : mroIn (KF w) 133 (.ref 114) = some true := by first | rfl | kernel_rfl
theorem nn145 : findIn (KF w) (.ref 145) "smtp_code" = some none ∧ findIn (KF w) (.ref 145) "smtp_error" = some none := by constructor <;> first | rfl | kernel_rfl
theorem nn133 : findIn (KF w) (.ref 133) "smtp_code" = some none ∧ findIn (KF w) (.ref 133) "smtp_error" = some none ∧ findIn (KF w) (.ref 133) "sender" = some none := by refine ⟨?_, ?_, ?_⟩ <;> first | rfl | kernel_rfl
theorem q145 : kitOne (KF w) (.ref 145) (.ref 145) = some true ∧ kitOne (KF w) (.ref 145) (.ref 133) = some false := by constructor <;> first | rfl | kernel_rfl
theorem q133 : kitOne (KF w) (.ref 133) (.ref 145) = some false ∧ kitOne (KF w) (.ref 133) (.ref 133) = some true := by constructor <;> first | rfl | kernel_rfl
end
section
variable {prog : Program} {w : World} {A : Around} {E : Value → Shared → Prop} {K : Frag} {C x d t tup : Addr} {s : Shared}
theorem setE_args {v : Value} {refs : List Addr} {items : Array Value} {es : List DictEntry} {n : Nat} {Q : Unit → Shared → Prop} (X : K.In s.heap) (hx : s.heap.get? x = some (excObjD C t d)) (hd : s.heap.get? d = some (dictOf es n)) (hm : mroE K C = some (refs.map Value.ref ++ builtinTail))
    (ht : takerIn K C "args" = some (some (.builtin "BaseException.args"))) (hs : findIn K (.ref C) "__setattr__" = some (some (.builtin "object.__setattr__"))) (hb : mroIn K C (.type "BaseException") = some true) (htup : s.heap.IsTuple tup items)
    (k : ∀ h' tk, h'.get? x = some (excObjD C tup d) → (∀ b o, b ≠ x → s.heap.get? b = some o → h'.get? b = some o) → Q () { s with heap := h', toks := tk }) :
    wpAny (model prog w) A (setAttr (.ref x) "args" (.ref tup)) Q E s := by
  have I : InstAt s.heap x (excObjD C t d) C (some (dictOf es n)) := ⟨hx, rfl, rfl, hd⟩
  refine set_plain X I hs ?_
  refine osaE_open (s := { s with toks := s.toks + 1 }) X I hm ht fun b => ?_
  dsimp only
  refine argsSet (s := { s with toks := s.toks + 1 }) (fun M => I.type.andThen (looks_mroIn X hb)) hx rfl (by show 0 < (#[_, _, _, _, _, _] ++ Builtin.OSError.osNothingGiven : Array Value).size; rw [Array.size_append]; exact Nat.lt_of_lt_of_le (by decide : 0 < 6) (Nat.le_add_right _ _)) htup ?_
  dsimp only
  refine k _ _ ?_ fun b o hb e => (Heap.get?_update_other _ _ (Ne.symm hb)).trans e
  exact Heap.get?_update_self _ hx rfl

/-! reads -/
theorem getE_run {ox : Obj} {od : Option Obj} {name : Str} {tk : Tok} {fill expr : Bool} {Q : Value → Shared → Prop} (X : K.In s.heap) (I : InstAt s.heap x ox C od) (hga : findIn K (.ref C) "__getattribute__" = some (some (.builtin "BaseException.__getattribute__"))) (hgh : findIn K (.ref C) "__getattr__" = some none)
    (hb : mroIn K C (.type "BaseException") = some true) (h : wpAny (model prog w) A.in1 (Builtin.«object.__getattribute__» ⟨[.ref x, .str name tk], []⟩) (fun fin s' => match fin with | .done (.ret v) => wpAny (model prog w) A (handedOut v) Q E s' | _ => False) (fun _ _ => False) s) :
    wpAny (model prog w) A (getAttrBy (.ref x) (.str name tk) fill expr) Q E s := by
  obtain ⟨hh, g, d, t, os⟩ := s
  have L0 := I.type (M := model prog w)
  have L1 := looks_findIn (M := model prog w) X hga
  have L2 := looks_findIn (M := model prog w) X hgh
  have LB : Looks (model prog w) hh (isInstance (.ref x) (.type "BaseException")) true := I.type.andThen (looks_mroIn X hb)
  unfold getAttrBy
  refine wpAny_holding (wpAny_bind (L0.at (wpAny_bind (L1.at ?_))))
  show wpAny _ _ (getAttrByItsOwn (.ref x) (.str name tk) (.ref C) (.builtin "BaseException.__getattribute__") fill expr) _ _ _
  unfold getAttrByItsOwn
  refine wpAny_bind ?_
  show wpAny _ _ (typeLookup (.ref C) "__getattr__") _ _ _
  refine L2.at ?_
  refine wpAny_bind (wpAny_attempt (wpAny_holding ?_))
  have e1 : callGetattribute (.ref x) (.str name tk) (.builtin "BaseException.__getattribute__") expr = boundAndCalled (.builtin "BaseException.__getattribute__") (.ref x) (.str name tk) := by
    unfold callGetattribute; cases expr <;> rfl
  rw [e1]
  unfold boundAndCalled
  rw [F.attr_Exception.ga.bind]
  refine wpAny_bind (wpAny_pure ?_)
  refine wpAny_call ?_
  refine codeAny_call_builtin F.attr_Exception.ga.plain F.entry_bexc_ga (@check_slot (model prog w) _ _ _ "BaseException.__getattribute__" "BaseException" "__getattribute__" (.ref x) [.str name tk] [] _ (by decide +kernel) (by decide +kernel) LB (F.args_bexc_ga _ _) ?_)
  refine wpAny_mono h (fun fin s' z => ?_) fun _ _ z => z.elim
  rcases fin with (_ | _ | _ | _) | _ <;> first | exact z | exact z.elim
theorem getE_value {ox : Obj} {od : Option Obj} {name : Str} {expr : Bool} {v : Value} {Q : Value → Shared → Prop} (X : K.In s.heap) (I : InstAt s.heap x ox C od) (hga : findIn K (.ref C) "__getattribute__" = some (some (.builtin "BaseException.__getattribute__"))) (hgh : findIn K (.ref C) "__getattr__" = some none)
    (hb : mroIn K C (.type "BaseException") = some true) (hf : findObj K C od name = some (.value v)) (hh : handedIn v = true) (h : Q v { s with toks := s.toks + 1 }) : wpAny (model prog w) A (getAttr (.ref x) name expr) Q E s := by
  unfold getAttr
  refine wpAny_bind (wpAny_mkText ?_)
  refine getE_run (s := { s with toks := s.toks + 1 }) X I hga hgh hb ?_
  obtain ⟨h', g, d, t, os⟩ := s
  have L0 := I.type (M := model prog w)
  have L1 := looks_find (M := model prog w) X I hf
  unfold Builtin.«object.__getattribute__»
  refine wpAny_bind (wpAny_of_eq (a := (Value.ref x, [Value.str name t])) rfl ?_)
  refine wpAny_bind (wpAny_of_eq (a := name) rfl ?_)
  refine wpAny_bind (L0.at (wpAny_bind (L1.at ?_)))
  refine wpAny_pure ?_
  show wpAny _ _ (handedOut v) _ _ _
  rw [handedOut_of hh]; exact wpAny_pure h
theorem getE_class {ox : Obj} {od : Obj} {Q : Option Value → Shared → Prop} (X : K.In s.heap) (I : InstAt s.heap x ox C (some od)) (hga : findIn K (.ref C) "__getattribute__" = some (some (.builtin "BaseException.__getattribute__"))) (hgh : findIn K (.ref C) "__getattr__" = some none)
    (hb : mroIn K C (.type "BaseException") = some true) (hc : (clsIn K C).isSome = true) (ha : findIn K (.ref C) "__class__" = some (some (.builtin "object.__class__")))
    (hn : specialIn K (.builtin "object.__class__") "__get__" = some (some (.builtin "getset_descriptor.__get__"))) (htk : takesIn K (.builtin "object.__class__") = some true) (hm : mroIn K C (.type "object") = some true)
    (h : Q (some (.ref C)) { s with toks := s.toks + 1 }) : wpAny (model prog w) A (getAttr? (.ref x) "__class__") Q E s := by
  unfold getAttr? getAttrBy?
  refine wpAny_bind (wpAny_mkText (wpAny_bind (wpAny_attempt ?_)))
  refine getE_run (s := { s with toks := s.toks + 1 }) X I hga hgh hb ?_
  obtain ⟨h', g, d, t, os⟩ := s
  have hf : findObj K C (some od) "__class__" = some (.bind (.builtin "getset_descriptor.__get__") (.builtin "object.__class__")) := findObj_data hc ha hn htk
  have L0 := I.type (M := model prog w)
  have L1 := looks_find (M := model prog w) X I hf
  unfold Builtin.«object.__getattribute__»
  refine wpAny_bind (wpAny_of_eq (a := (Value.ref x, [Value.str "__class__" t])) rfl ?_)
  refine wpAny_bind (wpAny_of_eq (a := ("__class__" : Str)) rfl ?_)
  refine wpAny_bind (L0.at (wpAny_bind (L1.at ?_)))
  show wpAny _ _ (holding [_] (call (.builtin "getset_descriptor.__get__") [.builtin "object.__class__", .ref x, .ref C]) >>= ret) _ _ _
  refine wpAny_bind (wpAny_holding (wpAny_call (class_get (ox := ox) (od := some od) X I hm ?_)))
  refine wpAny_pure ?_
  show wpAny _ _ (handedOut _) _ _ _
  rw [handedOut_of rfl]
  exact wpAny_pure (wpAny_pure h)
theorem kitx_E {ox od : Obj} (hga : findIn K (.ref C) "__getattribute__" = some (some (.builtin "BaseException.__getattribute__"))) (hgh : findIn K (.ref C) "__getattr__" = some none)
    (hb : mroIn K C (.type "BaseException") = some true) (hdct : hasDictIn K C = true) (ha : findIn K (.ref C) "__class__" = some (some (.builtin "object.__class__")))
    (hn : specialIn K (.builtin "object.__class__") "__get__" = some (some (.builtin "getset_descriptor.__get__"))) (htk : takesIn K (.builtin "object.__class__") = some true) (hm : mroIn K C (.type "object") = some true) :
    KitX K (.ref x) (.ref C) (fun h => InstAt h x ox C (some od)) where
  ty := fun _ _ _ I => I.type
  it := fun _ _ X _ => by
    obtain ⟨cdD, hcD, _⟩ := any_some hdct
    unfold clsIn at hcD
    split at hcD
    · rename_i c' d' cd' sl' ho
      intro A' Q' E' s' k q
      unfold isType loadHead
      exact wpAny_bind (wpAny_loadPart (k _ _ (X _ _ ho)) (wpAny_pure q))
    · cases hcD
  ne := fun h tp dd its n sl X htp => by
    obtain ⟨cdD, hcD, _⟩ := any_some hdct
    refine Bool.eq_false_iff.mpr fun q => ?_
    have e : C = tp := Value.ref.inj (beq_iff_eq.mp q)
    subst e
    unfold clsIn at hcD
    split at hcD
    · rename_i ho
      have := X _ _ ho
      rw [htp] at this; cases this
    · cases hcD
  ca := fun X I k => getE_class X I hga hgh hb (by obtain ⟨cd, hc, _⟩ := any_some hdct; rw [hc]; rfl) ha hn htk hm k
end
end Mine
end

section
open PySem PySem.W PyProof.Rows PySem.Builtin PySem.Builtin.ObjectAttr
namespace Mine
section
variable {prog : Program} {w : World} {A : Around} {E : Value → Shared → Prop} {K : Frag} {C x d t tup : Addr} {s : Shared} {env : Env} {m : Str → Option Value} {rest : List Stmt} {Q : Flow → Shared → Prop}
theorem ld_local {y : Str} {v : Value} {p : Pos} {Q : Value → Shared → Prop} (hk : env.scope.kind = .function) (hl : env.kindOf y = some .local) (hn : s.heap.Ns env.locals m) (hm : m y = some v) (hd : (y == ("__debug__" : Str)) = false) (h : Q v s) : wpAny (model prog w) A (eval (.Name y p) env) Q E s :=
  wpAny_Name (wpAny_loadName_local hk hl hn hm h) hd
/-- self.name = y, the first store -/
theorem ini_first {y name : Str} {p1 p2 p3 pos : Pos} {v : Value} {refs : List Addr} {cd : ClassData} (hk : env.scope.kind = .function) (hself : env.kindOf "self" = some .local) (hy : env.kindOf y = some .local) (hyd : (y == ("__debug__" : Str)) = false)
    (hn : s.heap.Ns env.locals m) (ms : m "self" = some (.ref x)) (my : m y = some v) (hLx : env.locals ≠ x)
    (X : K.In s.heap) (hx : s.heap.get? x = some (excObj C t)) (hm : mroE K C = some (refs.map Value.ref ++ builtinTail)) (ht : takerIn K C name = some none)
    (hs : findIn K (.ref C) "__setattr__" = some (some (.builtin "object.__setattr__"))) (hcd : clsIn K C = some cd) (hh : cd.hasDict = true)
    (k : ∀ h' tk, h'.get? x = some (excObjD C t s.heap.objs.size) → h'.get? s.heap.objs.size = some (dictOf (putL name (PyData.keyHash w.params name) (.str name tk) v []) 1) → (∀ b o, b ≠ x → s.heap.get? b = some o → h'.get? b = some o) → h'.Ns env.locals m →
      wpAny (model prog w) A (execs rest env) Q E { s with heap := h', toks := tk + 1 }) :
    wpAny (model prog w) A (execs (.Assign [.Attribute (.Name "self" p1) name p2] (.Name y p3) pos :: rest) env) Q E s := by
  refine wpAny_execs_cons ?_
  refine plainObj_wpAny_Assign_Attribute ?_ rfl
  refine ld_local hk hy hn my hyd ?_
  refine ld_local hk hself hn ms (by decide) ?_
  refine setE_first X hx hm ht hs hcd hh fun h' tk e1 e2 e3 => ?_
  exact k h' tk e1 e2 e3 (hn.at' fun o e => e3 _ o hLx e)
theorem ini_more {y name : Str} {p1 p2 p3 pos : Pos} {v : Value} {refs : List Addr} {es : List DictEntry} {n : Nat} {cd : ClassData} (hk : env.scope.kind = .function) (hself : env.kindOf "self" = some .local) (hy : env.kindOf y = some .local) (hyd : (y == ("__debug__" : Str)) = false)
    (hn : s.heap.Ns env.locals m) (ms : m "self" = some (.ref x)) (my : m y = some v) (hLd : env.locals ≠ d) (hxd : x ≠ d)
    (X : K.In s.heap) (hx : s.heap.get? x = some (excObjD C t d)) (hd : s.heap.get? d = some (dictOf es n)) (hm : mroE K C = some (refs.map Value.ref ++ builtinTail)) (ht : takerIn K C name = some none)
    (hs : findIn K (.ref C) "__setattr__" = some (some (.builtin "object.__setattr__"))) (hcd : clsIn K C = some cd) (hh : cd.hasDict = true) (hl : (getL name es).isSome = true) (hz : es.length ≤ 1000)
    (k : ∀ h' tk, h'.get? x = some (excObjD C t d) → h'.get? d = some (dictOf (putL name (PyData.keyHash w.params name) (.str name tk) v es) (putN name es n)) → (∀ b o, b ≠ d → s.heap.get? b = some o → h'.get? b = some o) → h'.Ns env.locals m →
      wpAny (model prog w) A (execs rest env) Q E { s with heap := h', toks := tk + 1 }) :
    wpAny (model prog w) A (execs (.Assign [.Attribute (.Name "self" p1) name p2] (.Name y p3) pos :: rest) env) Q E s := by
  refine wpAny_execs_cons ?_
  refine plainObj_wpAny_Assign_Attribute ?_ rfl
  refine ld_local hk hy hn my hyd ?_
  refine ld_local hk hself hn ms (by decide) ?_
  refine setE_more X hx hd hm ht hs hcd hh hl hz fun h' tk e1 e2 => ?_
  exact k h' tk (e2 _ _ hxd hx) e1 e2 (hn.at' fun o e => e2 _ o hLd e)
/-- the tuple's names -/
inductive LdAll (env : Env) (m : Str → Option Value) : List Expr → List Value → Prop
  | nil : LdAll env m [] []
  | cons {y : Str} {p : Pos} {v : Value} {es : List Expr} {vs : List Value} (hl : env.kindOf y = some .local) (hm : m y = some v) (hd : (y == ("__debug__" : Str)) = false) (r : LdAll env m es vs) : LdAll env m (.Name y p :: es) (v :: vs)
theorem ld_all {pos : Pos} (hk : env.scope.kind = .function) (hn : s.heap.Ns env.locals m) {es : List Expr} {vs : List Value} (hl : LdAll env m es vs) : ∀ (Q : List Value → Shared → Prop), Q vs s → wpAny (model prog w) A (spliced (backTo pos (starEach es env))) Q E s := by
  induction hl with
  | nil => exact fun Q h => wpAny_items_nil h
  | cons hl hm hd r ih => exact fun Q h => wpAny_items_cons (ld_local hk hl hn hm hd (ih _ h)) rfl
theorem ini_args {es' : List Expr} {vs : List Value} {k : Nat} {p1 p2 p3 pos : Pos} {refs : List Addr} {es : List DictEntry} {n : Nat} (hk : env.scope.kind = .function) (hself : env.kindOf "self" = some .local)
    (hn : s.heap.Ns env.locals m) (ms : m "self" = some (.ref x)) (hvs : LdAll env m es' vs) (hz : vs.length ≤ 1000) (hLx : env.locals ≠ x) (hdx : d ≠ x)
    (X : K.In s.heap) (hx : s.heap.get? x = some (excObjD C t d)) (hd : s.heap.get? d = some (dictOf es n)) (hm : mroE K C = some (refs.map Value.ref ++ builtinTail)) (ht : takerIn K C "args" = some (some (.builtin "BaseException.args")))
    (hs : findIn K (.ref C) "__setattr__" = some (some (.builtin "object.__setattr__"))) (hb : mroIn K C (.type "BaseException") = some true)
    (q : ∀ h' tk tup, h'.get? x = some (excObjD C tup d) → h'.get? d = some (dictOf es n) → (∀ b o, b ≠ x → s.heap.get? b = some o → h'.get? b = some o) → wpAny (model prog w) A (execs rest env) Q E { s with heap := h', toks := tk })
    (hsw : swapsWith (.Tuple es' k p3) (some (.Attribute (.Name "self" p1) "args" p2)) pos.line env = pure false := by rfl) :
    wpAny (model prog w) A (execs (.Assign [.Attribute (.Name "self" p1) "args" p2] (.Tuple es' k p3) pos :: rest) env) Q E s := by
  refine wpAny_execs_cons ?_
  refine plainObj_wpAny_Assign_Attribute ?_ hsw
  refine Tuple_ (ld_all hk hn hvs _ ?_)
  refine wpAny_newObj_type ?_ (by show vs.toArray.size ≤ sizeLine; rw [List.size_toArray, sizeLine_eq]; omega)
  have gr := Grow.push s.heap { cls := .type "tuple", data := .seq vs.toArray }
  have hn' : (s.heap.push { cls := .type "tuple", data := .seq vs.toArray }).Ns env.locals m := hn.keeps gr
  refine ld_local (s := { s with heap := s.heap.push { cls := .type "tuple", data := .seq vs.toArray } }) hk hself hn' ms (by decide) ?_
  refine setE_args (s := { s with heap := s.heap.push { cls := .type "tuple", data := .seq vs.toArray } }) (v := .none) (items := vs.toArray) (X.keeps gr) (gr _ _ hx) (gr _ _ hd) hm ht hs hb ⟨_, Heap.get?_push_size _ rfl, rfl, _, rfl⟩ fun h' tk e1 e2 => ?_
  exact q h' tk _ e1 (e2 _ _ hdx (gr _ _ hd)) fun b o hb e => e2 _ _ hb (gr _ _ e)
end
end Mine
end

section
open PySem PySem.W PyProof.Rows PySem.Builtin PySem.Builtin.ObjectAttr
namespace Mine
variable {w : World} {mean : ExcName → Option Value} {mg mb : Str → Option Value}
set_option maxHeartbeats 2000000
theorem mk145 {A : Around} {E : Value → Shared → Prop} {s : Shared} {vc vm : Value} {Q : Value → Shared → Prop} (hA : A.depth < 990) (G : Gx w mean mg mb s.heap)
    (k : ∀ x d tup es n h' tk, s.heap.get? x = none → s.heap.get? d = none → x ≠ d → h'.get? x = some (excObjD 145 tup d) → h'.get? d = some (dictOf es n) → lookIn "smtp_code" (dictOf es n) = some (some vc) → lookIn "smtp_error" (dictOf es n) = some (some vm) →
      Grow s.heap h' → Q (.ref x) { s with heap := h', toks := tk }) :
    wpAny (model PG w) A (call (.ref 145) [vc, vm]) Q E s := by
  have X : (KF w).In s.heap := G.1
  obtain ⟨cd, hcd, hh⟩ := any_some (hasDictE (w := w)).1
  obtain ⟨hp, g, dr, t, os⟩ := s
  refine wpAny_call ?_
  refine make_E (madeE_of X m145) (looks_findIn X i145) (fun self => bind_fn X self f111) ?_
  have gr : Grow hp ((hp.push emptyTup).push (excObj 145 hp.objs.size)) := (Grow.push _ _).trans (Grow.push _ _)
  have X1 : (KF w).In ((hp.push emptyTup).push (excObj 145 hp.objs.size)) := X.keeps gr
  have hx1 : ((hp.push emptyTup).push (excObj 145 hp.objs.size)).get? (hp.objs.size + 1) = some (excObj 145 hp.objs.size) := by heap_get
  have hsz1 : ((hp.push emptyTup).push (excObj 145 hp.objs.size)).objs.size = hp.objs.size + 2 := by rw [Heap.size_push, Heap.size_push]
  refine call_raw (o := _) ["self", "code", "msg"] ?_ (X1 111 _ rfl) rfl (codeRec_of X1 rfl) (((gx_ok w mean mg mb).lim _ G).keeps gr) rfl rfl rfl rfl rfl rfl rfl (by decide) (by decide) ?_
  · show A.depth + _ < 1000
    have : (Code.builtin "type.__call__" ⟨[.ref 145, vc, vm], []⟩).weight = 1 := rfl
    rw [this]; omega
  intro L s' hL ext ⟨m, hns, hm⟩
  dsimp only at hL ext
  rw [hsz1] at hL
  have hx2 := ext.grow _ _ hx1
  have hxf : hp.get? (hp.objs.size + 1) = none := fresh_ge (Nat.le_succ _)
  have g2 : Grow hp s'.heap := gr.trans ext.grow
  have X2 := X.keeps g2
  have ms := hm "self" _ (.head _)
  have mc := hm "code" _ (.tail _ (.head _))
  have mm := hm "msg" _ (.tail _ (.tail _ (.head _)))
  have hLs : ∃ o, s'.heap.get? L = some o := by obtain ⟨o, _, _, e, _⟩ := hns; exact ⟨o, e⟩
  have hLx : L ≠ hp.objs.size + 1 := by rw [hL]; exact Nat.succ_ne_self _
  refine ini_first (cd := cd) (refs := [145, 114, 94]) (m := m) rfl rfl rfl (by decide) hns ms mc hLx X2 hx2 mro145 taker_code.1 s145 hcd hh fun h3 tk3 e3 d3 b3 n3 => ?_
  have hdf : s'.heap.get? s'.heap.objs.size = none := fresh_none _
  generalize hdd : s'.heap.objs.size = d at e3 d3 hdf
  have g3 : Grow hp h3 := fun b o e => b3 b o (fun q => by rw [q, hxf] at e; cases e) (g2 b o e)
  have hdp : hp.get? d = none := back_none g2 hdf
  have hLd : L ≠ d := fun q => by obtain ⟨o, e⟩ := hLs; rw [q, hdf] at e; cases e
  have hxd : hp.objs.size + 1 ≠ d := fun q => by rw [q, hdf] at hx2; cases hx2
  refine ini_more (cd := cd) (refs := [145, 114, 94]) (m := m) rfl rfl rfl (by decide) n3 ms mm hLd hxd (X.keeps g3) e3 d3 mro145 taker_code.2.1 s145 hcd hh rfl (Nat.le_of_ble_eq_true rfl) fun h4 tk4 e4 d4 b4 n4 => ?_
  have g4 : Grow hp h4 := fun b o e => b4 b o (fun q => by rw [q, hdp] at e; cases e) (g3 b o e)
  refine ini_args (vs := [vc, vm]) (refs := [145, 114, 94]) (m := m) rfl rfl n4 ms (.cons rfl mc (by decide) (.cons rfl mm (by decide) .nil)) (Nat.le_of_ble_eq_true rfl) hLx (Ne.symm hxd) (X.keeps g4) e4 d4 mro145 taker_args.1 s145 b145 fun h5 tk5 tup e5 d5 b5 => ?_
  have g5 : Grow hp h5 := fun b o e => b5 b o (fun q => by rw [q, hxf] at e; cases e) (g4 b o e)
  refine wpAny_execs_nil ⟨rfl, ?_⟩
  obtain ⟨h6, t6, rfl⟩ := ext.same
  exact k _ d tup _ _ h5 _ hxf hdp hxd e5 d5 rfl rfl g5
theorem mk133 {A : Around} {E : Value → Shared → Prop} {s : Shared} {vc vm vs : Value} {Q : Value → Shared → Prop} (hA : A.depth < 990) (G : Gx w mean mg mb s.heap)
    (k : ∀ x d tup es n h' tk, s.heap.get? x = none → s.heap.get? d = none → x ≠ d → h'.get? x = some (excObjD 133 tup d) → h'.get? d = some (dictOf es n) → lookIn "smtp_code" (dictOf es n) = some (some vc) → lookIn "smtp_error" (dictOf es n) = some (some vm) → lookIn "sender" (dictOf es n) = some (some vs) →
      Grow s.heap h' → Q (.ref x) { s with heap := h', toks := tk }) :
    wpAny (model PG w) A (call (.ref 133) [vc, vm, vs]) Q E s := by
  have X : (KF w).In s.heap := G.1
  obtain ⟨cd, hcd, hh⟩ := any_some (hasDictE (w := w)).2
  obtain ⟨hp, g, dr, t, os⟩ := s
  refine wpAny_call ?_
  refine make_E (madeE_of X m133) (looks_findIn X i133) (fun self => bind_fn X self f130) ?_
  have gr : Grow hp ((hp.push emptyTup).push (excObj 133 hp.objs.size)) := (Grow.push _ _).trans (Grow.push _ _)
  have X1 : (KF w).In ((hp.push emptyTup).push (excObj 133 hp.objs.size)) := X.keeps gr
  have hx1 : ((hp.push emptyTup).push (excObj 133 hp.objs.size)).get? (hp.objs.size + 1) = some (excObj 133 hp.objs.size) := by heap_get
  have hsz1 : ((hp.push emptyTup).push (excObj 133 hp.objs.size)).objs.size = hp.objs.size + 2 := by rw [Heap.size_push, Heap.size_push]
  refine call_raw (o := _) ["self", "code", "msg", "sender"] ?_ (X1 130 _ rfl) rfl (codeRec_of X1 rfl) (((gx_ok w mean mg mb).lim _ G).keeps gr) rfl rfl rfl rfl rfl rfl rfl (by decide) (by decide) ?_
  · show A.depth + _ < 1000
    have : (Code.builtin "type.__call__" ⟨[.ref 133, vc, vm, vs], []⟩).weight = 1 := rfl
    rw [this]; omega
  intro L s' hL ext ⟨m, hns, hm⟩
  dsimp only at hL ext
  rw [hsz1] at hL
  have hx2 := ext.grow _ _ hx1
  have hxf : hp.get? (hp.objs.size + 1) = none := fresh_ge (Nat.le_succ _)
  have g2 : Grow hp s'.heap := gr.trans ext.grow
  have X2 := X.keeps g2
  have ms := hm "self" _ (.head _)
  have mc := hm "code" _ (.tail _ (.head _))
  have mm := hm "msg" _ (.tail _ (.tail _ (.head _)))
  have mv := hm "sender" _ (.tail _ (.tail _ (.tail _ (.head _))))
  have hLs : ∃ o, s'.heap.get? L = some o := by obtain ⟨o, _, _, e, _⟩ := hns; exact ⟨o, e⟩
  have hLx : L ≠ hp.objs.size + 1 := by rw [hL]; exact Nat.succ_ne_self _
  refine ini_first (cd := cd) (refs := [133, 114, 94]) (m := m) rfl rfl rfl (by decide) hns ms mc hLx X2 hx2 mro133 taker_code.2.2.1 s133 hcd hh fun h3 tk3 e3 d3 b3 n3 => ?_
  have hdf : s'.heap.get? s'.heap.objs.size = none := fresh_none _
  generalize hdd : s'.heap.objs.size = d at e3 d3 hdf
  have g3 : Grow hp h3 := fun b o e => b3 b o (fun q => by rw [q, hxf] at e; cases e) (g2 b o e)
  have hdp : hp.get? d = none := back_none g2 hdf
  have hLd : L ≠ d := fun q => by obtain ⟨o, e⟩ := hLs; rw [q, hdf] at e; cases e
  have hxd : hp.objs.size + 1 ≠ d := fun q => by rw [q, hdf] at hx2; cases hx2
  refine ini_more (cd := cd) (refs := [133, 114, 94]) (m := m) rfl rfl rfl (by decide) n3 ms mm hLd hxd (X.keeps g3) e3 d3 mro133 taker_code.2.2.2.1 s133 hcd hh rfl (Nat.le_of_ble_eq_true rfl) fun h4 tk4 e4 d4 b4 n4 => ?_
  have g4 : Grow hp h4 := fun b o e => b4 b o (fun q => by rw [q, hdp] at e; cases e) (g3 b o e)
  refine ini_more (cd := cd) (refs := [133, 114, 94]) (m := m) rfl rfl rfl (by decide) n4 ms mv hLd hxd (X.keeps g4) e4 d4 mro133 taker_code.2.2.2.2 s133 hcd hh rfl (Nat.le_of_ble_eq_true rfl) fun h4' tk4' e4' d4' b4' n4' => ?_
  have g4' : Grow hp h4' := fun b o e => b4' b o (fun q => by rw [q, hdp] at e; cases e) (g4 b o e)
  refine ini_args (vs := [vc, vm, vs]) (refs := [133, 114, 94]) (m := m) rfl rfl n4' ms (.cons rfl mc (by decide) (.cons rfl mm (by decide) (.cons rfl mv (by decide) .nil))) (Nat.le_of_ble_eq_true rfl) hLx (Ne.symm hxd) (X.keeps g4') e4' d4' mro133 taker_args.2 s133 b133 fun h5 tk5 tup e5 d5 b5 => ?_
  have g5 : Grow hp h5 := fun b o e => b5 b o (fun q => by rw [q, hxf] at e; cases e) (g4' b o e)
  refine wpAny_execs_nil ⟨rfl, ?_⟩
  obtain ⟨h6, t6, rfl⟩ := ext.same
  exact k _ d tup _ _ h5 _ hxf hdp hxd e5 d5 rfl rfl rfl g5
end Mine
end

section
open PySem PySem.W PyProof.Rows PySem.Builtin PySem.Builtin.ObjectAttr
namespace Mine
section
variable {prog : Program} {w : World} {A : Around} {E : Value → Shared → Prop} {K : Frag} {C x d t tup : Addr} {s : Shared} {env : Env}
/-- raise of an exception that is at hand -/
theorem raise_inst {e : Expr} {pos : Pos} {Q : Flow → Shared → Prop} (hh : A.handled = none)
    (h : wpAny (model prog w) A (eval e env) (fun v s₁ => ∃ x C ox od vs, v = .ref x ∧ K.In s₁.heap ∧ InstAt s₁.heap x ox C od ∧ mroIn K C (.type "BaseException") = some true ∧ typeIn K (.ref C) = some (.type "type") ∧ ox.data = .fields vs ∧ vs[1]? = some .none ∧ E (.ref x) s₁) E s) :
    wpAny (model prog w) A (exec (.Raise (some e) none pos) env) Q E s := by
  have core : ∀ {t : Sem Value} {s : Shared}, wpAny (model prog w) A t (fun v s₁ => ∃ x C ox od vs, v = .ref x ∧ K.In s₁.heap ∧ InstAt s₁.heap x ox C od ∧ mroIn K C (.type "BaseException") = some true ∧ typeIn K (.ref C) = some (.type "type") ∧ ox.data = .fields vs ∧ vs[1]? = some .none ∧ E (.ref x) s₁) E s →
      wpAny (model prog w) A (raiseStmt env (some t) none) Q E s := by
    intro t s h
    unfold raiseStmt
    refine wpAny_bind (wpAny_mono h (fun v s₁ h₁ => ?_) fun _ _ x => x)
    obtain ⟨x, C, ox, od, vs, rfl, X, I, hb, ht, hd, h1, hE⟩ := h₁
    obtain ⟨hp, g, dr, tk, os⟩ := s₁
    have LT := I.type (M := model prog w)
    have LI : Looks (model prog w) hp (isInstance (.ref x) (.type "BaseException")) true := I.type.andThen (looks_mroIn X hb)
    have LTT := looks_typeIn (M := model prog w) X ht
    have hx := I.at_
    have LIT : Looks (model prog w) hp (isType (.ref x)) false := by
      intro A' Q' E' s' k q
      unfold isType loadHead
      refine wpAny_bind (wpAny_loadPart (k _ _ hx) ?_)
      rw [hd]
      exact wpAny_pure q
    have LF : Looks (model prog w) hp (field (.ref x) 1) .none := fun A' Q' E' s' k q => wpAny_field (k _ _ hx) hd h1 q
    refine wpAny_bind (wpAny_pure ?_)
    refine wpAny_bind (wpAny_holding ?_)
    unfold excFromValue isExcClass
    refine wpAny_bind (wpAny_bind (LIT.at (wpAny_pure ?_)))
    refine bm_if_false rfl ?_
    refine wpAny_bind (LI.at ?_)
    refine bm_if_true rfl (wpAny_pure ?_)
    refine wpAny_bind (LIT.at ?_)
    refine bm_if_false rfl ?_
    refine wpAny_bind ?_
    unfold raisedInstance
    refine wpAny_bind (LT.at (wpAny_bind (LTT.at ?_)))
    refine bm_if_true (by decide) (wpAny_pure ?_)
    refine wpAny_bind ?_
    unfold setFlight
    refine wpAny_bind (LF.at ?_)
    rw [if_neg (by decide)]
    refine wpAny_pure ?_
    exact wpAny_raiseNew_none hh hE
  rw [arm_exec_Raise]
  first
    | exact wpAny_bind (wpAny_standAt (core (wpAny_bind (wpAny_mono h (fun v s₁ h₁ => wpAny_bind (wpAny_standAt (wpAny_pure h₁))) fun _ _ x => x))))
    | (simp only [evalOpt, Option.map]; exact wpAny_bind (wpAny_standAt (core (wpAny_bind (wpAny_mono h (fun v s₁ h₁ => wpAny_bind (wpAny_standAt (wpAny_pure h₁))) fun _ _ x => x)))))
    | (show wpAny _ A (do standAt pos; raiseStmt env (some (do let v ← eval e env; standAt pos; pure v)) none) Q E s; exact wpAny_bind (wpAny_standAt (core (wpAny_bind (wpAny_mono h (fun v s₁ h₁ => wpAny_bind (wpAny_standAt (wpAny_pure h₁))) fun _ _ x => x)))))

/-- how the frames' objects change: their slots alone -/
def FrOnly (fr : List Addr) (h h' : Heap) : Prop := ∀ b ∈ fr, ∀ o, h.get? b = some o → ∃ sl, h'.get? b = some { o with slots := sl }
structure Slid (fr : List Addr) (h h' : Heap) : Prop where
  keep : ∀ b o, b ∉ fr → h.get? b = some o → h'.get? b = some o
  slot : FrOnly fr h h'
/-- a traceback's head, new -/
theorem entry_own {base : Heap} {outer : List Env} {L e : Addr} {oe : Obj} {vs : Array Value} {head : Value} {hadNext : Bool} {Q : Unit → Shared → Prop} {M : Model}
    (hfr : A.frames = some (env :: outer)) (hl : s.heap.FunFrames base (env :: outer)) (hf : env.frame = some L) (he : s.heap.get? e = some oe) (hd : oe.data = .fields vs)
    (h : ∀ h' T ts, (∀ b o, b ∉ (env :: outer).filterMap (·.frame) → b ≠ e → s.heap.get? b = some o → h'.get? b = some o) → FrOnly ((env :: outer).filterMap (·.frame)) s.heap h' → s.heap.get? T = none → h'.get? T = some { cls := .type "traceback", data := .fields ts } → ts[3]? = some (rawInt L) →
      h'.get? e = some (oe.mapFields (·.setIfInBounds 1 (.ref T))) → Q () { s with heap := h' }) (hsz : 1 < vs.size) :
    wpAny M A (do let a ← frameOf env; let pl ← entryPlaceOf L hadNext; let b ← EntryCells.newEntry head a .none (rawInt L) .none pl; setField (.ref e) 1 b) Q E s := by
  have hene : e ∉ (env :: outer).filterMap (·.frame) := fun hm => by
    obtain ⟨_, o, ho, hnf⟩ := hl.mem hm
    rw [he] at ho; cases ho; exact hnf vs hd
  refine wpAny_bind (wpAny_frameOf_fun hfr hl hf fun h₁ hs₁ => ?_)
  refine wpAny_bind (wpAny_entryPlaceOf fun pl hpl => ?_)
  unfold EntryCells.newEntry newFields
  refine wpAny_bind (wpAny_newObj_type ?_ (hpl.sizeOk5 _ _ _ _ _))
  have he₁ : h₁.get? e = some oe := (hs₁.2.1 e hene).trans he
  have he₂ := Heap.get?_push_of_some (h := h₁) { cls := .type "traceback", dict := none, data := .fields ([head, .ref L, .none, rawInt L, .none] ++ (if pl.isEmpty then List.replicate 6 Value.none else pl)).toArray } he₁
  refine wpAny_setField he₂ hd hsz (h _ h₁.objs.size ([head, .ref L, .none, rawInt L, .none] ++ (if pl.isEmpty then List.replicate 6 Value.none else pl)).toArray (fun b o hb hbe hg => ?_) (fun b hb o hg => ?_) ?_ ?_ rfl ?_)
  · rw [Heap.get?_update_other _ _ (Ne.symm hbe)]
    exact Heap.get?_push_of_some _ ((hs₁.2.1 b hb).trans hg)
  · obtain ⟨sl, hsl⟩ := hs₁.2.2 b o hg
    refine ⟨sl, ?_⟩
    rw [Heap.get?_update_other _ _ (fun q : e = b => hene (by rw [q]; exact hb))]
    exact Heap.get?_push_of_some _ hsl
  · rw [hs₁.1]; exact fresh_none _
  · rw [Heap.get?_update_other _ _ (Nat.ne_of_lt (Heap.lt_size he₁))]
    exact Heap.get?_push_size h₁ rfl
  · exact Heap.get?_update_self _ he₂ (Obj.isFreed_of_fields (Obj.data_mapFields hd _))
end
end Mine
end

section
open PySem PySem.W PyProof.Rows PySem.Builtin PySem.Builtin.ObjectAttr
namespace Mine
/-- an exception on its way: the heap h since the heap h₀ -/
structure Flown (fr : List Addr) (x d C : Addr) (od : Obj) (fl : Value) (h₀ h : Heap) : Prop where
  slid : Slid fr h₀ h
  exc : ∃ ox vs T ts, h.get? x = some ox ∧ ox.cls = .ref C ∧ ox.dict = some d ∧ ox.data = .fields vs ∧ vs[1]? = some (.ref T) ∧ h₀.get? T = none ∧ T ≠ x ∧ T ≠ d ∧ h.get? T = some { cls := .type "traceback", data := .fields ts } ∧ ts[3]? = some fl
  dict : h.get? d = some od
  xd : x ≠ d
  nx : h₀.get? x = none
  nd : h₀.get? d = none
theorem Slid.of_grow {fr : List Addr} {h h' : Heap} (g : Grow h h') : Slid fr h h' := ⟨fun b o _ e => g b o e, fun b _ o e => ⟨o.slots, g b o e⟩⟩
theorem Slid.trans {fr : List Addr} {h h' h'' : Heap} (x : Slid fr h h') (y : Slid fr h' h'') : Slid fr h h'' := ⟨fun b o n e => y.keep b o n (x.keep b o n e), fun b hb o e => by
  obtain ⟨sl, e1⟩ := x.slot b hb o e
  obtain ⟨sl', e2⟩ := y.slot b hb _ e1
  exact ⟨sl', e2⟩⟩
theorem Slid.off {fr : List Addr} {h h' : Heap} {b : Addr} (x : Slid fr h h') (e : h'.get? b = none) : h.get? b = none := by
  cases q : h.get? b with
  | none => rfl
  | some o =>
    by_cases hb : b ∈ fr
    · obtain ⟨sl, e1⟩ := x.slot b hb o q; rw [e] at e1; cases e1
    · have := x.keep b o hb q; rw [e] at this; cases this
theorem FunFrames.ok {env : Env} {rest : List Env} {L : Addr} {h base : Heap} {m : Str → Option Value} (hb : base.get? L = none) (hk : env.scope.kind = .function) (hf : env.frame = some L) (n : h.Ns L m) (r : h.FunFrames base rest) : h.FunFrames base (env :: rest) := by
  obtain ⟨o, es, ep, ho, hd, _⟩ := n
  exact ⟨by rw [hk]; decide, ⟨L, o, hf, hb, ho, fun vs q => by rw [hd] at q; cases q⟩, r⟩
theorem no_base (b : Addr) : (default : Heap).get? b = none := by
  cases e : (default : Heap).get? b with
  | none => rfl
  | some o => have := Heap.lt_size e; exact absurd this (Nat.not_lt_zero _)
section
variable {A : Around} {E : Value → Shared → Prop} {s : Shared} {env : Env} {M : Model}
/-- leaving the frame in which the exception was raised -/
theorem leave_first {env0 : Env} {L L0 x d C : Addr} {ox od : Obj} {vs : Array Value} {h₀ : Heap} {m m0 : Str → Option Value} {Q : Unit → Shared → Prop} (hfr : A.frames = some [env, env0])
    (hk : env.scope.kind = .function) (hk0 : env0.scope.kind = .function) (hf : env.frame = some L) (hf0 : env0.frame = some L0) (n : s.heap.Ns L m) (n0 : s.heap.Ns L0 m0)
    (hx : s.heap.get? x = some ox) (hc : ox.cls = .ref C) (hdi : ox.dict = some d) (hd : ox.data = .fields vs) (h1 : vs[1]? = some .none) (hod : s.heap.get? d = some od) (hdn : ∀ ts, od.data ≠ .fields ts) (hdL : d ≠ L) (hdL0 : d ≠ L0)
    (hL : h₀.get? L = none) (nx : h₀.get? x = none) (nd : h₀.get? d = none) (hxd : x ≠ d) (g : Grow h₀ s.heap)
    (k : ∀ h', Flown [L0] x d C od .none h₀ h' → Q () { s with heap := h' }) : wpAny M A (leaving env (.ref x)) Q E s := by
  have hsz : 1 < vs.size := (Array.getElem?_eq_some_iff.mp h1).1
  have hl : s.heap.FunFrames default [env, env0] := FunFrames.ok (no_base _) hk hf n (FunFrames.ok (no_base _) hk0 hf0 n0 trivial)
  have hfrs : ([env, env0] : List Env).filterMap (·.frame) = [L, L0] := by simp [hf, hf0]
  unfold leaving noteFrame
  simp only [hf]
  refine wpAny_bind (wpAny_bind (wpAny_field hx hd h1 ?_))
  rw [if_neg (by decide)]
  refine entry_own hfr hl hf hx hd (fun h' T ts k1 k2 k3 k4 k5 k6 => ?_) hsz
  rw [hfrs] at k1 k2
  have hTx : T ≠ x := fun q => by rw [q, hx] at k3; cases k3
  have hTd : T ≠ d := fun q => by rw [q, hod] at k3; cases k3
  have hd' : (ox.mapFields (·.setIfInBounds 1 (Value.ref T))).data = .fields (vs.setIfInBounds 1 (.ref T)) := Obj.data_mapFields hd _
  have h1' : (vs.setIfInBounds 1 (Value.ref T))[1]? = some (.ref T) := by simp [hsz]
  have hsz3 : 3 < ts.size := (Array.getElem?_eq_some_iff.mp k5).1
  unfold setFlight
  refine wpAny_bind (wpAny_field (s := { s with heap := h' }) k6 hd' h1' ?_)
  rw [if_pos (show (Value.ref T != Value.none) = true from by simp)]
  refine wpAny_setField (s := { s with heap := h' }) k4 rfl hsz3 (k _ ⟨⟨fun b o hb e => ?_, fun b hb o e => ?_⟩, ⟨_, _, T, ts.setIfInBounds 3 .none, ?_, ?_, ?_, hd', h1', back_none g k3, hTx, hTd, ?_, by simp [hsz3]⟩, ?_, hxd, nx, nd⟩)
  · have hbT : b ≠ T := fun q => by have := g b o e; rw [q, k3] at this; cases this
    refine (Heap.get?_update_other _ _ (Ne.symm hbT)).trans (k1 b o ?_ ?_ (g b o e))
    · intro hm
      rcases List.mem_cons.mp hm with q | q
      · rw [q, hL] at e; cases e
      · exact hb q
    · intro q; rw [q, nx] at e; cases e
  · have hbT : b ≠ T := fun q => by have := g b o e; rw [q, k3] at this; cases this
    obtain ⟨sl, hsl⟩ := k2 b (.tail _ hb) o (g b o e)
    exact ⟨sl, (Heap.get?_update_other _ _ (Ne.symm hbT)).trans hsl⟩
  · exact (Heap.get?_update_other _ _ hTx).trans k6
  · rw [Obj.cls_mapFields]; exact hc
  · cases ox; simp only at hd hdi; subst hd hdi; rfl
  · exact Heap.get?_update_self _ k4 rfl
  · refine (Heap.get?_update_other _ _ hTd).trans (k1 d od ?_ (Ne.symm hxd) hod)
    intro hm
    rcases List.mem_cons.mp hm with q | q
    · exact hdL q
    · exact hdL0 (List.mem_singleton.mp q)
/-- the frame that catches looks at the exception -/
theorem note_next {L x d C : Addr} {od : Obj} {h₀ : Heap} {m : Str → Option Value} {Q : Unit → Shared → Prop} (hfr : A.frames = some [env])
    (hk : env.scope.kind = .function) (hf : env.frame = some L) (n : s.heap.Ns L m) (hdL : d ≠ L) (hxL : x ≠ L) (F : Flown [L] x d C od .none h₀ s.heap)
    (k : ∀ h', Flown [L] x d C od (rawInt L) h₀ h' → Q () { s with heap := h' }) : wpAny M A (noteFrame (.ref x) env) Q E s := by
  obtain ⟨sl, ⟨ox, vs, T, ts, hx, hc, hdi, hd, h1, hTn, hTx, hTd, hT, h3⟩, hod, hxd, nx, nd⟩ := F
  have hsz : 1 < vs.size := (Array.getElem?_eq_some_iff.mp h1).1
  have hsz3 : 3 < ts.size := (Array.getElem?_eq_some_iff.mp h3).1
  have hTL : T ≠ L := fun q => by
    obtain ⟨o, es, ep, ho, hdd, _⟩ := n
    rw [← q, hT] at ho; cases ho; cases hdd
  have hfrs : ([env] : List Env).filterMap (·.frame) = [L] := by simp [hf]
  unfold noteFrame
  simp only [hf]
  refine wpAny_bind (wpAny_field hx hd h1 ?_)
  rw [if_pos (show (Value.ref T != Value.none) = true from by simp)]
  refine wpAny_bind (wpAny_field hT rfl h3 ?_)
  rw [if_neg (show ¬ ((Value.none == rawInt L) = true) from by simp [rawInt])]
  refine wpAny_bind (wpAny_setField hT rfl hsz3 ?_)
  have other : ∀ b, b ≠ T → (s.heap.update T (Obj.mapFields (·.setIfInBounds 3 Value.none))).get? b = s.heap.get? b := fun b hb => Heap.get?_update_other _ _ (Ne.symm hb)
  have n' : (s.heap.update T (Obj.mapFields (·.setIfInBounds 3 Value.none))).Ns L m := n.at' fun o e => (other _ (Ne.symm hTL)).trans e
  have hl : (s.heap.update T (Obj.mapFields (·.setIfInBounds 3 Value.none))).FunFrames default [env] := FunFrames.ok (no_base _) hk hf n' trivial
  refine entry_own (s := { s with heap := s.heap.update T (Obj.mapFields (·.setIfInBounds 3 Value.none)) }) hfr hl hf ((other _ (Ne.symm hTx)).trans hx) hd (fun h' T' ts' k1 k2 k3 k4 k5 k6 => ?_) hsz
  rw [hfrs] at k1 k2
  have hT'0 : s.heap.get? T' = none := by
    by_cases q : T' = T
    · exfalso
      have : (s.heap.update T (Obj.mapFields (·.setIfInBounds 3 Value.none))).get? T = some _ := Heap.get?_update_self _ hT rfl
      rw [q] at k3
      rw [k3] at this; cases this
    · rw [← other T' q]; exact k3
  have hTx' : T' ≠ x := fun q => by rw [q, hx] at hT'0; cases hT'0
  have hTd' : T' ≠ d := fun q => by rw [q, hod] at hT'0; cases hT'0
  have hd' : (ox.mapFields (·.setIfInBounds 1 (Value.ref T'))).data = .fields (vs.setIfInBounds 1 (.ref T')) := Obj.data_mapFields hd _
  have h1' : (vs.setIfInBounds 1 (Value.ref T'))[1]? = some (.ref T') := by simp [hsz]
  have noT : ∀ b o, h₀.get? b = some o → b ≠ T := fun b o e q => by rw [q, hTn] at e; cases e
  refine k _ ⟨⟨fun b o hb e => ?_, fun b hb o e => ?_⟩, ⟨_, _, T', ts', k6, by rw [Obj.cls_mapFields]; exact hc, by cases ox; simp only at hd hdi; subst hd hdi; rfl, hd', h1', sl.off hT'0, hTx', hTd', k4, k5⟩, ?_, hxd, nx, nd⟩
  · refine k1 b o hb (fun q => by rw [q, nx] at e; cases e) ((other b (noT b o e)).trans (sl.keep b o hb e))
  · obtain ⟨s1, e1⟩ := sl.slot b hb o e
    obtain ⟨s2, e2⟩ := k2 b hb _ ((other b (noT b o e)).trans e1)
    exact ⟨s2, e2⟩
  · exact k1 d od (fun hm => hdL (List.mem_singleton.mp hm)) (Ne.symm hxd) ((other d (Ne.symm hTd)).trans hod)
/-- it lands -/
theorem lands {fr : List Addr} {x d C : Addr} {od : Obj} {fl : Value} {h₀ : Heap} {Q : Unit → Shared → Prop} (F : Flown fr x d C od fl h₀ s.heap)
    (k : ∀ h', Flown fr x d C od .none h₀ h' → Q () { s with heap := h' }) : wpAny M A (setFlight (.ref x) none) Q E s := by
  obtain ⟨sl, ⟨ox, vs, T, ts, hx, hc, hdi, hd, h1, hTn, hTx, hTd, hT, h3⟩, hod, hxd, nx, nd⟩ := F
  have hsz3 : 3 < ts.size := (Array.getElem?_eq_some_iff.mp h3).1
  have noT : ∀ b o, h₀.get? b = some o → T ≠ b := fun b o e q => by rw [← q, hTn] at e; cases e
  unfold setFlight
  refine wpAny_bind (wpAny_field hx hd h1 ?_)
  rw [if_pos (show (Value.ref T != Value.none) = true from by simp)]
  refine wpAny_setField hT rfl hsz3 (k _ ⟨⟨fun b o hb e => (Heap.get?_update_other _ _ (noT b o e)).trans (sl.keep b o hb e), fun b hb o e => ?_⟩,
    ⟨ox, vs, T, ts.setIfInBounds 3 .none, (Heap.get?_update_other _ _ hTx).trans hx, hc, hdi, hd, h1, hTn, hTx, hTd, Heap.get?_update_self _ hT rfl, by simp [hsz3]⟩, (Heap.get?_update_other _ _ hTd).trans hod, hxd, nx, nd⟩)
  obtain ⟨s1, e1⟩ := sl.slot b hb o e
  exact ⟨s1, (Heap.get?_update_other _ _ (noT b o e)).trans e1⟩
end
end Mine
end

section
open PySem PySem.W PyProof.Rows PySem.Builtin PySem.Builtin.ObjectAttr
namespace Mine
theorem fn_introE {prog : Program} {w : World} {G : Heap → Prop} {mg mb : Str → Option Value} {f : Addr} {n : Nat} {fd : FuncData} {body : List Stmt} (names : List Str) {ds : List PV} (g : GOk G mg mb)
    (hf : ∀ h, G h → ∃ o, h.get? f = some o ∧ o.data = .func fd ∧ h.CodeRec fd.code fd.qualname)
    (hbody : fd.body = .stmts body) (hcl : fd.closure = []) (hk : fd.scope.kind = .function) (hco : fd.scope.isCoroutine = false) (hgen : fd.scope.isGenerator = false)
    (hlen : ds.length = names.length) (hbind : ∀ vs : List Value, vs.length = names.length → bindArgs fd ⟨vs, []⟩ = pure (names.zip vs))
    (hkind : (names.all fun x => fd.scope.names.lookup x == some .local || fd.scope.names.lookup x == some .cell) = true)
    (hnd : names.Nodup) (hcn : ((cellsFrom 0 fd.scope.names []).map (·.1)).Nodup)
    {A : Around} {s : Shared} {vs : List Value} {X : Addr → Prop} {P : Value → Shared → Prop} (room : Room A (n + 1)) (hG : G s.heap) (hX : ∀ b, X b → ∃ o, s.heap.get? b = some o) (hr : RepL prog w s.heap X ds vs)
    (h : ∀ (L : Addr) (s1 : Shared), L = s.heap.objs.size → AtC ⟨prog, w, A.deeper (callEnvC fd L f), G, s.heap, fun _ => False, s, callEnvC fd L f, X⟩ [] (names.zip ds) s1 →
      wpAny (model prog w) (A.deeper (callEnvC fd L f)) (execs body (callEnvC fd L f)) (fun _ _ => False) (fun e s' => wpAny (model prog w) (A.deeper (callEnvC fd L f)) (leaving (callEnvC fd L f) e) (fun _ s'' => P e s'') (fun _ _ => False) s') s1) :
    wpAny (model prog w) A (call (.ref f) vs) (fun _ _ => False) P s := by
  obtain ⟨o, ho, hd, hc⟩ := hf _ hG
  have hvl : vs.length = names.length := (RepL.length hr).trans hlen
  refine wpAny_call (codeAny_call_function (by have := room.2.1; show A.depth < 1000; omega) ho hd hco hgen hbody hc ?_)
  rw [hbind vs hvl, hcl]
  refine wpAny_pure ?_
  have hkx : ∀ n', ∀ x ∈ names.zip vs, fd.scope.names.lookup x.1 = some .local ∨ (fd.scope.names.lookup x.1 = some .cell ∧ ((cellsFrom n' fd.scope.names []).lookup x.1).isSome = true) := by
    refine kindsX ?_
    rw [List.all_eq_true] at hkind ⊢
    intro y hy
    have : y.1 ∈ names := by rw [← zip_names hvl]; exact List.mem_map_of_mem hy
    exact hkind y.1 this
  refine wpAny_newFunctionEnv_cells hk (hkx _) fun env he s' x => ?_
  have hkeep := x.1.keep
  refine ⟨(g.lim _ hG).keeps hkeep, codeAny_func ?_⟩
  have hat := enter_at (prog := prog) (w := w) (G := G) (ds := ds) (X := X) (A := A.deeper env) hG hX hr hvl hkx hk hcn hnd he x
  subst he
  refine wpAny_mono (h _ _ rfl hat) (fun fl s'' hq => hq.elim) fun e s'' hq => ?_
  exact wpAny_mono hq (fun _ _ q => q) fun _ _ q => q.elim
variable {w : World} {mean : ExcName → Option Value} {mg mb : Str → Option Value}
set_option maxHeartbeats 2000000
theorem ty145 : typeIn (KF w) (.ref 145) = some (.type "type") := by first | rfl | kernel_rfl
theorem ty133 : typeIn (KF w) (.ref 133) = some (.type "type") := by first | rfl | kernel_rfl
/-- what an exception of _law_raised tells -/
structure ExcA (od : Obj) (code : Int) (word sender : Str) : Prop where
  code : ∃ t, lookIn "smtp_code" od = some (some (.int code t))
  word : ∃ t, lookIn "smtp_error" od = some (some (.str word t))
  sender : (sender == "") = false → ∃ t, lookIn "sender" od = some (some (.str sender t))
  dict : ∃ es n, od = dictOf es n
def clsOf (sender : Str) : Addr := if (sender == "") = true then 145 else 133

/-- a class of the text called -/
theorem callWith_cls {prog : Program} {w : World} {K : Frag} {A : Around} {E : Value → Shared → Prop} {s : Shared} {pos : Pos} {C : Addr} {args : List (Bool × Sem Value)} {Q : Value → Shared → Prop} (hk : keepIn K (.ref C) = true) (hplain : args.any (·.1) = false)
    (h : wpAny (model prog w) A (evalArgs (.ref C) true args []) (fun a s₁ => K.In s₁.heap ∧ wpAny (model prog w) A (call (.ref C) a.pos a.kw) Q E s₁) E s) : wpAny (model prog w) A (callWith pos (.ref C) [] args []) Q E s :=
  callWith_of (by rw [hplain]; rfl) (keeps_K hk) h
theorem kc145 : keepIn (KF w) (.ref 145) = true := by first | rfl | kernel_rfl
theorem kc133 : keepIn (KF w) (.ref 133) = true := by first | rfl | kernel_rfl
section
variable {C : Cx} {D : Muts} {σ : Vars} {s : Shared}
/-- a call C(..) of a class of the text, its answer as it comes -/
theorem go_call_cls {K : Frag} {E : Value → Shared → Prop} {fx : Str} {np : Pos} {Cl : Addr} {e : Expr} {es : List Expr} {pos : Pos} {ds : List PV} {Q : Value → Shared → Prop} (a : AtC C D σ s) (hK : ∀ h, C.G h → K.In h) (hG : ∀ h h', C.G h → Grow h h' → C.G h') (hk : keepIn K (.ref Cl) = true)
    (hf : Ev C D σ (.Name fx np) (.raw (.ref Cl))) (h : EvL C D σ (e :: es) ds)
    (hc : ∀ s₁ vs, Ext s s₁ → AtC C D σ s₁ → RepLC C D s₁ ds vs → wpAny (model C.prog C.w) C.A (call (.ref Cl) vs) Q E s₁)
    (he : starEach (e :: es) C.env = (false, eval e C.env) :: starEach es C.env := by rfl) (hplain : (backTo pos (starEach es C.env)).any (·.1) = false := by rfl) : wpAny (model C.prog C.w) C.A (eval (.Call (.Name fx np) (e :: es) [] pos) C.env) Q E s := by
  refine wpAny_Call_NameR (go_any (hf s a _ fun v s₁ x₁ r₁ => ?_))
  have := raw_of r₁
  subst this
  rw [he]
  refine callWith_cls hk (by show (false || (backTo pos (starEach es C.env)).any (·.1)) = false; rw [hplain]; rfl) ?_
  refine Calls.evalArgs_plain ?_
  have hl := h pos s₁ (a.ext x₁)
  rw [he] at hl
  refine go_any (hl _ fun vs s₂ x₂ r₂ => ⟨hK _ ((a.ext (x₁.trans x₂)).globNow hG), ?_⟩)
  exact hc s₂ vs (x₁.trans x₂) (a.ext (x₁.trans x₂)) r₂
end
theorem x_ifE {C : Cx} {D : Muts} {σ : Vars} {s : Shared} {t : Expr} {body orelse rest : List Stmt} {pos : Pos} {b : Bool} {Q : Flow → Shared → Prop} {E : Value → Shared → Prop} (a : AtC C D σ s) (ht : EvB C D σ t b)
    (k : ∀ s', Ext s s' → AtC C D σ s' → if b then wpAny (model C.prog C.w) C.A (execs body C.env) (fun f s' => match f with | .next => wpAny (model C.prog C.w) C.A (execs rest C.env) Q E s' | f => Q f s') E s'
      else wpAny (model C.prog C.w) C.A (execs orelse C.env) (fun f s' => match f with | .next => wpAny (model C.prog C.w) C.A (execs rest C.env) Q E s' | f => Q f s') E s') :
    wpAny (model C.prog C.w) C.A (execs (.If t body orelse pos :: rest) C.env) Q E s :=
  wpAny_execs_cons (wpAny_If (go_any (ht s a _ fun s₁ x₁ => k s₁ x₁ (a.ext x₁))))
theorem leave_made {A : Around} {s0 s1 s2 : Shared} {env env0 : Env} {L L0 x d tup Cl : Addr} {m m0 : Str → Option Value} {es : List DictEntry} {n : Nat} {h' : Heap} {tk : Nat} {Q : Unit → Shared → Prop} {E : Value → Shared → Prop} {M : Model} (hfr : A.frames = some [env, env0]) (hk : env.scope.kind = .function) (hk0 : env0.scope.kind = .function) (hf : env.frame = some L) (hf0 : env0.frame = some L0)
    (hs : Same s0 s1) (g01 : Grow s0.heap s1.heap) (n1 : s1.heap.Ns L m) (n0 : s0.heap.Ns L0 m0) (hL0 : s0.heap.get? L = none) (x12 : Ext s1 s2) (nx : s2.heap.get? x = none) (nd : s2.heap.get? d = none) (xd : x ≠ d) (hx : h'.get? x = some (excObjD Cl tup d)) (hd : h'.get? d = some (dictOf es n)) (g2 : Grow s2.heap h')
    (k : ∀ s'', Same s0 s'' → Flown [L0] x d Cl (dictOf es n) .none s0.heap s''.heap → Q () s'') : wpAny M A (leaving env (.ref x)) Q E { s2 with heap := h', toks := tk } := by
  have g12 := x12.grow
  have gA : Grow s1.heap h' := g12.trans g2
  have g0 : Grow s0.heap h' := g01.trans gA
  have nsL := n1.keeps gA
  have nsL0 := n0.keeps g0
  have lx : ∀ {b : Addr} {mm : Str → Option Value} {q : Addr}, s1.heap.Ns b mm → s2.heap.get? q = none → q ≠ b := fun hn e q' => by
    obtain ⟨o, _, _, ho, _⟩ := hn
    have := g12 _ _ ho
    rw [← q', e] at this; cases this
  refine leave_first (s := { s2 with heap := h', toks := tk }) (h₀ := s0.heap) hfr hk hk0 hf hf0 nsL nsL0 hx rfl rfl rfl rfl hd (fun ts e => by cases e) (lx n1 nd) (lx (n0.keeps g01) nd) hL0 (back_none (g01.trans g12) nx) (back_none (g01.trans g12) nd) xd g0 fun h3 F => ?_
  refine k _ ?_ F
  obtain ⟨h5, t5, rfl⟩ := hs
  obtain ⟨h6, t6, rfl⟩ := x12.same
  exact ⟨h3, tk, rfl⟩
theorem raised_call {A : Around} {s : Shared} {env0 : Env} {L0 : Addr} {m0 : Str → Option Value} {code : Int} {word sender : Str} {vs : List Value} {X : Addr → Prop} (hfr : A.frames = some [env0]) (hk0 : env0.scope.kind = .function) (hf0 : env0.frame = some L0) (n0 : s.heap.Ns L0 m0)
    (rm : Room A 3) (hG : Gx w mean mg mb s.heap) (hX : ∀ b, X b → ∃ o, s.heap.get? b = some o) (hr : RepL PG w s.heap X [.int code, .str word, .str sender] vs) :
    wpAny (model PG w) A (call (.ref 168) vs) (fun _ _ => False) (fun e s' => ∃ x d od, e = .ref x ∧ Same s s' ∧ Flown [L0] x d (clsOf sender) od .none s.heap s'.heap ∧ ExcA od code word sender) s := by
  refine fn_introE (n := 2) ["code", "word", "sender"] (gx_ok w mean mg mb) (fun h x => ⟨_, x.1 168 _ rfl, rfl, codeRec_of x.1 rfl⟩) rfl rfl rfl rfl rfl rfl (fun vs hv => by obtain ⟨v, u, z, rfl⟩ := len3 hv; rfl) (by decide) (by decide) (by decide) rm hG hX hr ?_
  intro L s1 hL a
  have hL0 : s.heap.get? L = none := by rw [hL]; exact fresh_none _
  obtain ⟨m, nm⟩ := a.ns
  have kG : ∀ h h', Gx w mean mg mb h → Grow h h' → Gx w mean mg mb h' := (gx_ok w mean mg mb).mono
  refine x_ifE a (evb_compare (ev_name rfl) ev_str op_strEq) fun s2 x2 a2 => ?_
  cases hs : (sender == "") with
  | true =>
    rw [if_pos rfl]
    refine wpAny_execs_cons (raise_inst (K := KF w) rm.1 ?_)
    refine go_call_cls (K := KF w) a2 (fun h x => x.1) kG kc145 (evG rfl rfl) (evl_cons (ev_name rfl) (evl_cons (ev_name rfl) evl_nil)) fun s3 vs x3 a3 r3 => ?_
    simp only [RepLC, RepL, Rep] at r3
    obtain ⟨v1, q1, rfl, ⟨t1, rfl⟩, v2, q2, rfl, ⟨t2, rfl⟩, rfl⟩ := r3
    refine mk145 (mean := mean) (mg := mg) (mb := mb) ?_ (a3.globNow kG) fun x d tup es n h' tk nx nd xd hx hd l1 l2 g => ?_
    · have := rm.2.1; show A.depth + 1 < 990; omega
    refine ⟨x, 145, _, some (dictOf es n), _, rfl, (kG _ _ (a3.globNow kG) g).1, ⟨hx, rfl, rfl, hd⟩, b145, ty145, rfl, rfl, ?_⟩
    have ec : clsOf sender = 145 := by unfold clsOf; rw [if_pos hs]
    refine leave_made (A := A.deeper _) (Around.frames_deeper hfr) (by rfl) hk0 (by rfl) hf0 a.same a.grow nm n0 hL0 (x2.trans x3) nx nd xd hx hd g fun s'' hsm F => ?_
    exact ⟨x, d, dictOf es n, rfl, hsm, ec ▸ F, ⟨⟨_, l1⟩, ⟨_, l2⟩, (fun q => by rw [hs] at q; cases q), es, n, rfl⟩⟩
  | false =>
    rw [if_neg (by decide)]
    refine wpAny_execs_nil ?_
    refine wpAny_execs_cons (raise_inst (K := KF w) rm.1 ?_)
    refine go_call_cls (K := KF w) a2 (fun h x => x.1) kG kc133 (evG rfl rfl) (evl_cons (ev_name rfl) (evl_cons (ev_name rfl) (evl_cons (ev_name rfl) evl_nil))) fun s3 vs x3 a3 r3 => ?_
    simp only [RepLC, RepL, Rep] at r3
    obtain ⟨v1, q1, rfl, ⟨t1, rfl⟩, v2, q2, rfl, ⟨t2, rfl⟩, v3, q3, rfl, ⟨t3, rfl⟩, rfl⟩ := r3
    refine mk133 (mean := mean) (mg := mg) (mb := mb) ?_ (a3.globNow kG) fun x d tup es n h' tk nx nd xd hx hd l1 l2 l3 g => ?_
    · have := rm.2.1; show A.depth + 1 < 990; omega
    refine ⟨x, 133, _, some (dictOf es n), _, rfl, (kG _ _ (a3.globNow kG) g).1, ⟨hx, rfl, rfl, hd⟩, b133, ty133, rfl, rfl, ?_⟩
    have ec : clsOf sender = 133 := by unfold clsOf; rw [if_neg (by rw [hs]; decide)]
    refine leave_made (A := A.deeper _) (Around.frames_deeper hfr) (by rfl) hk0 (by rfl) hf0 a.same a.grow nm n0 hL0 (x2.trans x3) nx nd xd hx hd g fun s'' hsm F => ?_
    exact ⟨x, d, dictOf es n, rfl, hsm, ec ▸ F, ⟨⟨_, l1⟩, ⟨_, l2⟩, (fun _ => ⟨_, l3⟩), es, n, rfl⟩⟩
end Mine
end

section
open PySem PySem.W PyProof.Rows PySem.Builtin PySem.Builtin.ObjectAttr
namespace Mine
theorem Slid.ns {fr : List Addr} {h h' : Heap} {L : Addr} {m : Str → Option Value} (x : Slid fr h h') (n : h.Ns L m) : h'.Ns L m := by
  obtain ⟨o, es, ep, ho, hd, r⟩ := n
  by_cases hb : L ∈ fr
  · obtain ⟨sl, e⟩ := x.slot L hb o ho
    exact ⟨_, es, ep, e, hd, r⟩
  · exact ⟨o, es, ep, x.keep L o hb ho, hd, r⟩
section
variable {C : Cx} {D : Muts} {σ : Vars} {s s' : Shared}
/-- the frame's own object has changed its slots -/
theorem At.slide (a : AtC C D σ s) (hm : Same s s') (sl : Slid [C.env.locals] s.heap s'.heap) : AtC C D σ s' := by
  have hw : wrt C.env D C.env.locals := .inl rfl
  have hL : own C.env C.Xc D C.env.locals := own_of_wrt hw
  have kb : ∀ b o, b ≠ C.env.locals → s.heap.get? b = some o → s'.heap.get? b = some o := fun b o hb e => sl.keep b o (fun q => hb (List.mem_singleton.mp q)) e
  have kp : ∀ b o, ¬ own C.env C.Xc D b → s.heap.get? b = some o → s'.heap.get? b = some o := fun b o nb e => kb b o (not_own_ne nb hL) e
  have hcl : ∀ p ∈ C.env.cells, p.2 ≠ C.env.locals := fun p hp e => (List.nodup_cons.mp a.dist).1 (List.mem_append.mpr (.inl (e ▸ List.mem_map_of_mem hp)))
  have hDl : ∀ p ∈ D, p.1 ≠ C.env.locals := fun p hp e => (List.nodup_cons.mp a.dist).1 (List.mem_append.mpr (.inr (e ▸ List.mem_map_of_mem hp)))
  have nsk : ∀ ml, s.heap.Ns C.env.locals ml → s'.heap.Ns C.env.locals ml := fun ml n => sl.ns n
  have clk : ∀ p ∈ C.env.cells, ∀ v, s.heap.IsCell p.2 v → s'.heap.IsCell p.2 v := fun p hp v ⟨o, e, r⟩ => ⟨o, kb _ o (hcl p hp) e, r⟩
  refine { same := ?_, glob := a.glob, grow := ?_, keep := ?_, kind := a.kind, ns := let ⟨ml, n⟩ := a.ns; ⟨ml, nsk ml n⟩, cells := ?_, dist := a.dist, fresh := a.fresh, ex := ?_, vars := ?_, muts := ?_ }
  · obtain ⟨h, t, rfl⟩ := a.same; obtain ⟨h', t', rfl⟩ := hm; exact ⟨h', t', rfl⟩
  · exact fun b o e => kb b o (fun q => by rw [q, (a.fresh _ hw).1] at e; cases e) (a.grow b o e)
  · intro b o nb e
    refine kb b o (fun q => ?_) (a.keep b o nb e)
    subst q
    rcases (a.fresh _ hw).2.1 with k | k
    · exact nb k
    · rw [k] at e; cases e
  · exact fun p hp => let ⟨v, n⟩ := a.cells p hp; ⟨v, clk p hp v n⟩
  · intro b hb
    obtain ⟨o, e⟩ := a.ex b hb
    exact ⟨o, kb b o (fun q => (a.fresh _ hw).2.2 (q ▸ hb)) e⟩
  · exact fun x e q => (a.vars x e q).to (fun _ q => .inl q) kp nsk clk
  · exact fun p hp => (a.muts p hp).to (fun _ q => .inl q) kp fun o e => kb _ o (hDl p hp) e
/-- a name is gone -/
theorem At.gone {n : Str} {v : Option Value} {h' : Heap} {tk : Nat} {ml : Str → Option Value} {σ' : Vars} (a : AtC C D σ s) (hx : C.env.kindOf n = some .local) (hml : s.heap.Ns C.env.locals ml) (hn : h'.Ns C.env.locals (fun y => if y = n then v else ml y)) (hs : Heap.SameBut C.env.locals s.heap h')
    (hσ : SubV σ' σ) (hne : ∀ x d, σ'.lookup x = some d → x ≠ n) : AtC C D σ' { s with heap := h', toks := tk } := by
  have hw : wrt C.env D C.env.locals := .inl rfl
  have hL : own C.env C.Xc D C.env.locals := own_of_wrt hw
  have kb : ∀ b o, b ≠ C.env.locals → s.heap.get? b = some o → h'.get? b = some o := fun b o hb e => (hs.2 b hb).trans e
  have kp : ∀ b o, ¬ own C.env C.Xc D b → s.heap.get? b = some o → h'.get? b = some o := fun b o nb e => kb b o (not_own_ne nb hL) e
  have hcl : ∀ p ∈ C.env.cells, p.2 ≠ C.env.locals := fun p hp e => (List.nodup_cons.mp a.dist).1 (List.mem_append.mpr (.inl (e ▸ List.mem_map_of_mem hp)))
  have hDl : ∀ p ∈ D, p.1 ≠ C.env.locals := fun p hp e => (List.nodup_cons.mp a.dist).1 (List.mem_append.mpr (.inr (e ▸ List.mem_map_of_mem hp)))
  have clk : ∀ p ∈ C.env.cells, ∀ v, s.heap.IsCell p.2 v → h'.IsCell p.2 v := fun p hp v ⟨o, e, r⟩ => ⟨o, kb _ o (hcl p hp) e, r⟩
  refine { same := ?_, glob := a.glob, grow := ?_, keep := ?_, kind := a.kind, ns := ⟨_, hn⟩, cells := ?_, dist := a.dist, fresh := a.fresh, ex := ?_, vars := ?_, muts := ?_ }
  · obtain ⟨h, t, rfl⟩ := a.same; exact ⟨h', tk, rfl⟩
  · exact fun b o e => kb b o (fun q => by rw [q, (a.fresh _ hw).1] at e; cases e) (a.grow b o e)
  · intro b o nb e
    refine kb b o (fun q => ?_) (a.keep b o nb e)
    subst q
    rcases (a.fresh _ hw).2.1 with k | k
    · exact nb k
    · rw [k] at e; cases e
  · exact fun p hp => let ⟨v, n⟩ := a.cells p hp; ⟨v, clk p hp v n⟩
  · intro b hb
    obtain ⟨o, e⟩ := a.ex b hb
    exact ⟨o, kb b o (fun q => (a.fresh _ hw).2.2 (q ▸ hb)) e⟩
  · intro y d' e
    rcases a.vars y d' (hσ y d' e) with ⟨k, ml', v', n', e', r'⟩ | ⟨k, c, v', e', n', r'⟩
    · refine .inl ⟨k, _, v', hn, ?_, Rep.to (fun _ q => .inl q) kp _ _ r'⟩
      have : ml y = ml' y := by
        obtain ⟨o1, es1, ep1, g1, d1, _, f1⟩ := hml
        obtain ⟨o2, es2, ep2, g2, d2, _, f2⟩ := n'
        rw [g1] at g2; cases g2
        rw [d1] at d2; cases d2
        rw [← f1, ← f2]
      rw [if_neg (hne y d' e), this]; exact e'
    · obtain ⟨p, hp, rfl, _⟩ := lookup_mem e'
      exact .inr ⟨k, p.2, v', e', clk p hp _ n', Rep.to (fun _ q => .inl q) kp _ _ r'⟩
  · exact fun p hp => (a.muts p hp).to (fun _ q => .inl q) kp fun o e => kb _ o (hDl p hp) e
end

/-- a caught exception of _law_raised -/
def excS (code : Int) (word sender : Str) : Stb where
  p := fun h X v => ∃ x d ox od vs, v = .ref x ∧ ¬ X x ∧ ¬ X d ∧ h.get? x = some ox ∧ ox.cls = .ref (clsOf sender) ∧ ox.dict = some d ∧ ox.data = .fields vs ∧ h.get? d = some od ∧ ExcA od code word sender
  mono := by
    rintro h h' X X' v hX hk ⟨x, d, ox, od, vs, e, n1, n2, g1, c, di, da, g2, q⟩
    refine ⟨x, d, ox, od, vs, e, fun z => ?_, fun z => ?_, hk _ _ n1 g1, c, di, da, hk _ _ n2 g2, q⟩
    · rcases hX x z with y | y
      · exact n1 y
      · rw [g1] at y; cases y
    · rcases hX d z with y | y
      · exact n2 y
      · rw [g2] at y; cases y
section
variable {w : World} {M : Model} {A : Around} {E : Value → Shared → Prop} {s : Shared} {K : Frag}
theorem isType_cls {K : Frag} {M : Model} {h : Heap} {C : Addr} (X : K.In h) (e : (clsIn K C).isSome = true) : Looks M h (isType (.ref C)) true := by
  unfold clsIn at e
  split at e
  · rename_i c' d' cd' sl' ho
    intro A' Q' E' s' k q
    unfold isType loadHead
    exact wpAny_bind (wpAny_loadPart (k _ _ (X _ _ ho)) (wpAny_pure q))
  · cases e
/-- does the clause's class match -/
theorem excMatches_own {x C B : Addr} {ox : Obj} {od : Option Obj} {Q : Bool → Shared → Prop} (X : K.In s.heap) (I : InstAt s.heap x ox C od) (h1 : instIn K (.ref B) (.type "tuple") = some false) (h2 : (clsIn K B).isSome = true) (h3 : mroIn K B (.type "BaseException") = some true) (h4 : mroIn K C (.ref B) = some true)
    (h : Q true s) : wpAny M A (excMatches (.ref x) (.ref B)) Q E s := by
  obtain ⟨hp, g, d, t, os⟩ := s
  have L1 := looks_instIn (M := M) X h1
  have L2 := isType_cls (M := M) X h2
  have L3 := looks_mroIn (M := M) X h3
  have L4 := looks_mroIn (M := M) X h4
  have LT := I.type (M := M)
  unfold excMatches
  refine wpAny_bind (L1.at ?_)
  refine bm_if_false rfl ?_
  refine wpAny_bind (wpAny_pure ?_)
  dsimp only
  refine wpAny_bind ?_
  rw [List.forIn_cons]
  unfold isExcClass
  refine wpAny_bind (wpAny_bind (wpAny_bind (L2.at ?_)))
  refine bm_if_true rfl (L3.at ?_)
  refine bm_if_false rfl (wpAny_pure ?_)
  refine wpAny_pure ?_
  refine wpAny_bind (LT.at ?_)
  refine wpAny_bind ?_
  rw [List.forIn_cons]
  refine wpAny_bind (wpAny_bind (L4.at ?_))
  refine bm_if_true rfl (wpAny_pure ?_)
  refine wpAny_pure ?_
  exact wpAny_pure h
end
end Mine
end

section
open PySem PySem.W PyProof.Rows PySem.Builtin PySem.Builtin.ObjectAttr
namespace Mine
variable {w : World} {mean : ExcName → Option Value} {mg mb : Str → Option Value}
set_option maxHeartbeats 2000000
theorem e114a : instIn (KF w) (.ref 114) (.type "tuple") = some false := by first | rfl | kernel_rfl
theorem e114b : (clsIn (KF w) 114).isSome = true := by first | rfl | kernel_rfl
theorem e114c : mroIn (KF w) 114 (.type "BaseException") = some true := by first | rfl | kernel_rfl
theorem e114d (sender : Str) : mroIn (KF w) (clsOf sender) (.ref 114) = some true := by
  unfold clsOf; split
  · exact r145
  · exact r133
section
variable {A : Around} {B : Heap} {W : Addr → Prop} {Z : Shared} {env : Env} {Xc : Addr → Prop} {D D' : Muts} {σ σ' : Vars} {s : Shared}
theorem x_tryRaised {code : Int} {word sender : Str} {fx cx n : Str} {fp cp cpos epos hpos pos : Pos} {e1 : Expr} {es : List Expr} {b0 : Stmt} {body rest : List Stmt} {d4 : PV} {Q : Flow → Shared → Prop}
    (a : AtC ⟨PG, w, A, Gx w mean mg mb, B, W, Z, env, Xc⟩ D σ s) (hfr : A.frames = some [env]) (hfe : env.frame = some env.locals) (rm : Room A 3)
    (hf : Ev ⟨PG, w, A, Gx w mean mg mb, B, W, Z, env, Xc⟩ D σ (.Name fx fp) (.raw (.ref 168))) (h : EvL ⟨PG, w, A, Gx w mean mg mb, B, W, Z, env, Xc⟩ D σ (e1 :: es) [.int code, .str word, .str sender])
    (hc : ∀ A' σ, Ev ⟨PG, w, A', Gx w mean mg mb, B, W, Z, env, Xc⟩ D σ (.Name cx cp) (.raw (.ref 114))) (hn : env.kindOf n = some .local) (hne : ∀ x d, σ'.lookup x = some d → x ≠ n)
    (suite : ∀ x s' (K : Flow → Shared → Prop), AtC ⟨PG, w, A, Gx w mean mg mb, B, W, Z, env, Xc⟩ D ((n, .any (excS code word sender)) :: σ) s' → (∀ s4, AtC ⟨PG, w, A, Gx w mean mg mb, B, W, Z, env, Xc⟩ D' ((n, d4) :: σ') s4 → K .next s4) →
      Go ⟨PG, w, A.mark (some (.ref x)), Gx w mean mg mb, B, W, Z, env, Xc⟩ (execs (b0 :: body) env) K s')
    (k : ∀ s', AtC ⟨PG, w, A, Gx w mean mg mb, B, W, Z, env, Xc⟩ D' σ' s' → Go ⟨PG, w, A, Gx w mean mg mb, B, W, Z, env, Xc⟩ (execs rest env) Q s')
    (he : starEach (e1 :: es) env = (false, eval e1 env) :: starEach es env := by rfl)
    (hi : interactive env = false := by rfl) (hs : swapsWith (.Call (.Name fx fp) (e1 :: es) [] cpos) none epos.line env = pure false := by rfl) :
    Go ⟨PG, w, A, Gx w mean mg mb, B, W, Z, env, Xc⟩ (execs (.Try [.Expr (.Call (.Name fx fp) (e1 :: es) [] cpos) epos] [.ExceptHandler (some (.Name cx cp)) (some n) (b0 :: body) hpos] [] [] pos :: rest) env) Q s := by
  have kG : ∀ h h', Gx w mean mg mb h → Grow h h' → Gx w mean mg mb h' := (gx_ok w mean mg mb).mono
  refine x_cons (C := ⟨PG, w, A, Gx w mean mg mb, B, W, Z, env, Xc⟩) (wpAny_Try_except ?_)
  refine wpAny_execs_cons (wpAny_Expr_any ?_ hi hs)
  refine wpAny_Call_NameR (go_any (C := ⟨PG, w, A, Gx w mean mg mb, B, W, Z, env, Xc⟩) (hf s a _ fun v s₁ x₁ r₁ => ?_))
  have := raw_of r₁; subst this
  obtain ⟨o, fd, ho, hdat⟩ : ∃ o fd, s₁.heap.get? 168 = some o ∧ o.data = .func fd := ⟨_, _, (AtC.ext a x₁ |>.globNow kG).1 168 _ rfl, rfl⟩
  refine Calls.callWith_function (o := o) (fd := fd) ?_
  rw [he]
  refine Calls.evalArgs_plain ?_
  have hl := h cpos s₁ (AtC.ext a x₁)
  rw [he] at hl
  refine go_any (C := ⟨PG, w, A, Gx w mean mg mb, B, W, Z, env, Xc⟩) (hl _ fun vs s₂ x₂ r₂ => ⟨⟨x₂.grow _ _ ho, hdat⟩, ?_⟩)
  have a₂ := AtC.ext a (x₁.trans x₂)
  obtain ⟨m, nm⟩ := a₂.ns
  have hk : env.scope.kind = .function := a.kind
  refine wpAny_mono (raised_call (mean := mean) (mg := mg) (mb := mb) (X := own env Xc D) hfr hk hfe nm rm (a₂.globNow kG) (fun b hb => a₂.own_some hb) r₂) (fun _ _ q => q.elim) fun e s₃ q => ?_
  obtain ⟨x, d, od, rfl, hsm, F, hA⟩ := q
  have fresh_ne : ∀ q, s₂.heap.get? q = none → q ≠ env.locals := fun q e z => by
    obtain ⟨o, _, _, ho, _⟩ := nm
    rw [← z, e] at ho; cases ho
  refine note_next hfr hk hfe (F.slid.ns nm) (fresh_ne _ F.nd) (fresh_ne _ F.nx) F fun h₄ F₄ => ?_
  refine lands (s := { s₃ with heap := h₄ }) F₄ fun h₅ F₅ => ?_
  -- the handler
  have hsm5 : Same s₂ { s₃ with heap := h₅ } := by obtain ⟨h', t', rfl⟩ := hsm; exact ⟨h₅, t', rfl⟩
  have a₅ : AtC ⟨PG, w, A, Gx w mean mg mb, B, W, Z, env, Xc⟩ D σ { s₃ with heap := h₅ } := At.slide a₂ hsm5 F₅.slid
  refine wpAny_handleBy_cons (codeAny_handlers_test ?_) (by intro q; cases q)
  refine go_any (C := ⟨PG, w, A.mark (some (.ref x)), Gx w mean mg mb, B, W, Z, env, Xc⟩) (hc (A.mark (some (.ref x))) σ _ a₅ _ fun c s₆ x₆ r₆ => ?_)
  have := raw_of r₆; subst this
  obtain ⟨ox, vs', T, ts, hx, hcl, hdi, hd, h1, hTn, hTx, hTd, hT, h3⟩ := F₅.exc
  have I : InstAt s₆.heap x ox (clsOf sender) (some od) := by
    refine ⟨x₆.grow _ _ hx, hcl, ?_, ?_⟩
    · unfold notCls; rw [hd]
    · rw [hdi]; exact x₆.grow _ _ F₅.dict
  refine excMatches_own (K := KF w) ((AtC.ext a₅ x₆).globNow kG).1 I e114a e114b e114c (e114d sender) ?_
  dsimp only
  refine codeAny_handlers_suite_as ?_
  have F₆ : Flown [env.locals] x d (clsOf sender) od .none s₂.heap s₆.heap :=
    ⟨F₅.slid.trans (Slid.of_grow x₆.grow), ⟨ox, vs', T, ts, x₆.grow _ _ hx, hcl, hdi, hd, h1, hTn, hTx, hTd, x₆.grow _ _ hT, h3⟩, x₆.grow _ _ F₅.dict, F₅.xd, F₅.nx, F₅.nd⟩
  refine lands F₆ fun h₇ F₇ => ?_
  have hsm7 : Same s₂ { s₆ with heap := h₇ } := by
    obtain ⟨h', t', e'⟩ := hsm5.trans x₆.same
    exact ⟨h₇, t', by rw [e']⟩
  have a₇ : AtC ⟨PG, w, A, Gx w mean mg mb, B, W, Z, env, Xc⟩ D σ { s₆ with heap := h₇ } := At.slide a₂ hsm7 F₇.slid
  have hr : RepC ⟨PG, w, A, Gx w mean mg mb, B, W, Z, env, Xc⟩ D { s₆ with heap := h₇ } (.any (excS code word sender)) (.ref x) := by
    simp only [RepC, Rep]
    obtain ⟨ox, vs', T, ts, hx, hcl, hdi, hd, h1, hTn, hTx, hTd, hT, h3⟩ := F₇.exc
    exact ⟨x, d, ox, od, vs', rfl, not_own_new a₂ F.nx, not_own_new a₂ F.nd, hx, hcl, hdi, hd, F₇.dict, hA⟩
  have hst : stOk env n = true := by unfold stOk; rw [hn]; rfl
  refine go_any (C := ⟨PG, w, A.mark (some (.ref x)), Gx w mean mg mb, B, W, Z, env, Xc⟩) (go_store (C := ⟨PG, w, A.mark (some (.ref x)), Gx w mean mg mb, B, W, Z, env, Xc⟩) a₇ hr hst fun s₈ a₈ _ => ?_)
  refine go_any (C := ⟨PG, w, A.mark (some (.ref x)), Gx w mean mg mb, B, W, Z, env, Xc⟩) (suite x s₈ _ a₈ fun s₉ a₉ => ?_)
  obtain ⟨m9, n9⟩ := a₉.ns
  refine wpAny_nameGoes_keeps hn n9 (by rw [hk]; rfl) fun h10 v n10 b10 => ?_
  exact k _ (At.gone a₉ hn n9 n10 b10 (fun x d e => by
    have hb : (x == n) = false := beq_eq_false_iff_ne.mpr (hne x d e)
    rw [List.lookup_cons, hb]; exact e) hne)
end
end Mine
end

section
open PySem PySem.W PyProof.Rows PySem.Builtin PySem.Builtin.ObjectAttr
namespace Mine
variable {w : World} {mean : ExcName → Option Value} {mg mb : Str → Option Value}
set_option maxHeartbeats 2000000
theorem hd_cls (sender : Str) : hasDictIn (KF w) (clsOf sender) = true := by
  unfold clsOf; split
  · exact hasDictE.1
  · exact hasDictE.2
theorem ga_cls (sender : Str) : findIn (KF w) (.ref (clsOf sender)) "__getattribute__" = some (some (.builtin "BaseException.__getattribute__")) := by
  unfold clsOf; split
  · exact g145
  · exact g133
theorem gh_cls (sender : Str) : findIn (KF w) (.ref (clsOf sender)) "__getattr__" = some none := by
  unfold clsOf; split
  · exact h145
  · exact h133
theorem bb_cls (sender : Str) : mroIn (KF w) (clsOf sender) (.type "BaseException") = some true := by
  unfold clsOf; split
  · exact b145
  · exact b133
theorem oo_cls (sender : Str) : mroIn (KF w) (clsOf sender) (.type "object") = some true := by
  unfold clsOf; split
  · exact o145
  · exact o133
theorem cl_cls (sender : Str) : findIn (KF w) (.ref (clsOf sender)) "__class__" = some (some (.builtin "object.__class__")) := by
  unfold clsOf; split
  · exact c145
  · exact c133
theorem nc_cls (sender : Str) : findIn (KF w) (.ref (clsOf sender)) "smtp_code" = some none := by
  unfold clsOf; split
  · exact nn145.1
  · exact nn133.1
theorem ne_cls (sender : Str) : findIn (KF w) (.ref (clsOf sender)) "smtp_error" = some none := by
  unfold clsOf; split
  · exact nn145.2
  · exact nn133.2.1
theorem isi_cls (sender : Str) : kitOne (KF w) (.ref (clsOf sender)) (.ref 145) = some (sender == "") ∧ kitOne (KF w) (.ref (clsOf sender)) (.ref 133) = some (sender != "") := by
  unfold clsOf
  cases h : (sender == "") with
  | true => rw [if_pos rfl]; exact ⟨q145.1, by rw [q145.2, bne, h]; rfl⟩
  | false => rw [if_neg (by decide)]; exact ⟨q133.1, by rw [q133.2, bne, h]; rfl⟩
section
variable {A : Around} {B : Heap} {W : Addr → Prop} {Z : Shared} {env : Env} {Xc : Addr → Prop} {D : Muts} {σ : Vars} {s : Shared} {code : Int} {word sender : Str}
theorem ev_caught {o : Expr} {pos : Pos} {name : Str} {d : PV}
    (ho : Ev ⟨PG, w, A, Gx w mean mg mb, B, W, Z, env, Xc⟩ D σ o (.any (excS code word sender)))
    (hv : ∀ od, ExcA od code word sender → ∃ v, lookIn name od = some (some v) ∧ handedIn v = true ∧ ∀ h X, Rep PG w h X d v) (hn : findIn (KF w) (.ref (clsOf sender)) name = some none)
    (he : eval (.Attribute o name pos) env = (do
      let x ← eval o env
      standAt pos.atName
      let r ← holding [x] (getAttr x name true)
      letTemporaryGo o x r
      pure r) := by with_unfolding_all rfl) :
    Ev ⟨PG, w, A, Gx w mean mg mb, B, W, Z, env, Xc⟩ D σ (.Attribute o name pos) d := by
  intro s a Q k
  refine Attribute_any_ (ho s a _ fun v s₁ x₁ r₁ => ?_) he
  simp only [RepC, Rep] at r₁
  obtain ⟨x, dx, ox, od, vs, rfl, n1, n2, g1, hc, hdi, hd, g2, hA⟩ := r₁
  have X : (KF w).In s₁.heap := ((AtC.ext a x₁).globNow (gx_ok w mean mg mb).mono).1
  have I : InstAt s₁.heap x ox (clsOf sender) (some od) := by
    refine ⟨g1, hc, ?_, ?_⟩
    · unfold notCls; rw [hd]
    · rw [hdi]; exact g2
  obtain ⟨v, l1, hh, hr⟩ := hv od hA
  exact getE_value X I (ga_cls _) (gh_cls _) (bb_cls _) (findObj_own (hd_cls _) hn rfl l1) hh (k _ _ (x₁.trans Ext.tok) (hr _ _))
theorem ev_code {o : Expr} {pos : Pos} (ho : Ev ⟨PG, w, A, Gx w mean mg mb, B, W, Z, env, Xc⟩ D σ o (.any (excS code word sender)))
    (he : eval (.Attribute o "smtp_code" pos) env = (do
      let x ← eval o env
      standAt pos.atName
      let r ← holding [x] (getAttr x "smtp_code" true)
      letTemporaryGo o x r
      pure r) := by with_unfolding_all rfl) : Ev ⟨PG, w, A, Gx w mean mg mb, B, W, Z, env, Xc⟩ D σ (.Attribute o "smtp_code" pos) (.int code) :=
  ev_caught ho (fun od h => by obtain ⟨t, e⟩ := h.code; exact ⟨_, e, rfl, fun _ _ => by simp only [Rep]; exact ⟨t, rfl⟩⟩) (nc_cls _) he
theorem ev_error {o : Expr} {pos : Pos} (ho : Ev ⟨PG, w, A, Gx w mean mg mb, B, W, Z, env, Xc⟩ D σ o (.any (excS code word sender)))
    (he : eval (.Attribute o "smtp_error" pos) env = (do
      let x ← eval o env
      standAt pos.atName
      let r ← holding [x] (getAttr x "smtp_error" true)
      letTemporaryGo o x r
      pure r) := by with_unfolding_all rfl) : Ev ⟨PG, w, A, Gx w mean mg mb, B, W, Z, env, Xc⟩ D σ (.Attribute o "smtp_error" pos) (.str word) :=
  ev_caught ho (fun od h => by obtain ⟨t, e⟩ := h.word; exact ⟨_, e, rfl, fun _ _ => by simp only [Rep]; exact ⟨t, rfl⟩⟩) (ne_cls _) he
theorem ev_sender {o : Expr} {pos : Pos} (hs : (sender == "") = false) (ho : Ev ⟨PG, w, A, Gx w mean mg mb, B, W, Z, env, Xc⟩ D σ o (.any (excS code word sender)))
    (he : eval (.Attribute o "sender" pos) env = (do
      let x ← eval o env
      standAt pos.atName
      let r ← holding [x] (getAttr x "sender" true)
      letTemporaryGo o x r
      pure r) := by with_unfolding_all rfl) : Ev ⟨PG, w, A, Gx w mean mg mb, B, W, Z, env, Xc⟩ D σ (.Attribute o "sender" pos) (.str sender) :=
  ev_caught ho (fun od h => by obtain ⟨t, e⟩ := h.sender hs; exact ⟨_, e, rfl, fun _ _ => by simp only [Rep]; exact ⟨t, rfl⟩⟩) (by unfold clsOf; rw [hs, if_neg (by decide)]; exact nn133.2.2) he
theorem ev_isExc {e1 e2 : Expr} {fx : Str} {np pos : Pos} {Cl : Addr} {b : Bool} (hf : Ev ⟨PG, w, A, Gx w mean mg mb, B, W, Z, env, Xc⟩ D σ (.Name fx np) (.raw (.builtin "isinstance"))) (h1 : Ev ⟨PG, w, A, Gx w mean mg mb, B, W, Z, env, Xc⟩ D σ e1 (.any (excS code word sender)))
    (h2 : Ev ⟨PG, w, A, Gx w mean mg mb, B, W, Z, env, Xc⟩ D σ e2 (.raw (.ref Cl))) (hb : kitOne (KF w) (.ref (clsOf sender)) (.ref Cl) = some b)
    (he : starEach [e1, e2] env = (false, eval e1 env) :: starEach [e2] env := by rfl) (he' : starEach [e2] env = (false, eval e2 env) :: starEach [] env := by rfl) (hplain : (backTo pos (starEach [e2] env)).any (·.1) = false := by rfl) :
    Ev ⟨PG, w, A, Gx w mean mg mb, B, W, Z, env, Xc⟩ D σ (.Call (.Name fx np) [e1, e2] [] pos) (.bool b) := by
  refine ev_call_builtin hf (evl_cons h1 (evl_cons h2 evl_nil he') he) (fun s vs a r Q k => ?_) he hplain
  simp only [RepLC, RepL, Rep] at r
  obtain ⟨v1, q1, rfl, ⟨x, dx, ox, od, vs', rfl, n1, n2, g1, hc, hdi, hd, g2, hA⟩, v2, q2, rfl, rfl, rfl⟩ := r
  have X : (KF w).In s.heap := (a.globNow (gx_ok w mean mg mb).mono).1
  have I : InstAt s.heap x ox (clsOf sender) (some od) := by
    refine ⟨g1, hc, ?_, ?_⟩
    · unfold notCls; rw [hd]
    · rw [hdi]; exact g2
  exact kia_one (kitx_E (ga_cls _) (gh_cls _) (bb_cls _) (hd_cls _) (cl_cls _) spc tkc (oo_cls _)) X I hb (by intro e; cases e) fun tk => k _ _ Ext.tok of_bool
end
section
variable {C : Cx} {D : Muts} {σ : Vars}
theorem op_neBool {a b : Bool} : Op2 C D σ (compareOp .NotEq) (.bool a) (.bool b) (.bool (a != b)) := by
  intro s u v _ ru rv Q k
  have := bool_of ru; subst this
  have := bool_of rv; subst this
  exact PyProof.Rows.ne_bool (k _ _ (Ext.refl _) of_bool)
end
end Mine
end

section
open PySem PySem.W PyProof.Rows
namespace Mine
variable {w : World} {mean : ExcName → Option Value} {mg mb : Str → Option Value}
set_option maxHeartbeats 2000000

theorem ev_cols {A : Around} {B : Heap} {W : Addr → Prop} {Z : Shared} {env : Env} {Xc : Addr → Prop} {D : Muts} {σ : Vars} {o : Expr} {pos : Pos} {cols : List (Int × Int)}
    (ho : Ev ⟨PG, w, A, Gx w mean mg mb, B, W, Z, env, Xc⟩ D σ o (.any (judgeS w cols)))
    (he : eval (.Attribute o "comp_select_list" pos) env = (do
      let x ← eval o env
      standAt pos.atName
      let r ← holding [x] (getAttr x "comp_select_list" true)
      letTemporaryGo o x r
      pure r) := by with_unfolding_all rfl) :
    Ev ⟨PG, w, A, Gx w mean mg mb, B, W, Z, env, Xc⟩ D σ (.Attribute o "comp_select_list" pos) (.lst (pairItems cols)) := by
  intro s a Q k
  refine Attribute_any_ (ho s a _ fun v s₁ x₁ r₁ => ?_) he
  simp only [RepC, Rep] at r₁
  obtain ⟨x, dx, od, v0, rfl, n1, n2, g1, g2, l1, l2, r⟩ := r₁
  have X : (KF w).In s₁.heap := ((a.ext x₁).globNow (gx_ok w mean mg mb).mono).1
  have I : InstAt s₁.heap x (instObj 38 dx) 38 (some od) := ⟨g1, rfl, rfl, g2⟩
  obtain ⟨ad, vs, rfl, _⟩ := Rep.cont_lst r
  exact get_value X I TC.getattribute (findObj_own TC.hasDict TC.none rfl l1) rfl (k _ _ (x₁.trans Ext.tok) (Rep.grow r (Grow.refl _)))

structure Row where
  m : Str
  c : Int
  p : Int
def Row.pv (r : Row) : PV := .tup [.str r.m, .int r.c, .int r.p]
def Row.at (r : Row) (k : Int) : PV := if k = 0 then .str r.m else if k = 1 then .int r.c else .int r.p
def rLt (r o : Row) (k : Int) : Bool := if k = 0 then decide (r.m.cps.toList < o.m.cps.toList) else if k = 1 then decide (r.c < o.c) else decide (r.p < o.p)
def rNe (r o : Row) (k : Int) : Bool := if k = 0 then r.m != o.m else if k = 1 then r.c != o.c else r.p != o.p
abbrev Key (k : Int) : Prop := k = 0 ∨ k = 1 ∨ k = 2
theorem row_at {r : Row} {k : Int} (h : Key k) : ([PV.str r.m, .int r.c, .int r.p] : List PV)[k.toNat]? = some (r.at k) := by
  rcases h with rfl | rfl | rfl <;> rfl
theorem key_b {k : Int} (h : Key k) : 0 ≤ k ∧ k < 2 ^ 63 := by rcases h with rfl | rfl | rfl <;> decide
section
variable {C : Cx} {D : Muts} {σ : Vars} {s : Shared}
theorem op_rowLt {r o : Row} {k : Int} (h : Key k) : Op2 C D σ (compareOp .Lt) (r.at k) (o.at k) (.bool (rLt r o k)) := by
  rcases h with rfl | rfl | rfl
  · exact op_strLt
  · exact op_lt
  · exact op_lt
theorem op_rowGt {r o : Row} {k : Int} (h : Key k) : Op2 C D σ (compareOp .Gt) (r.at k) (o.at k) (.bool (rLt o r k)) := by
  rcases h with rfl | rfl | rfl
  · exact op_strGt
  · exact op_gt
  · exact op_gt
theorem op_rowNe {r o : Row} {k : Int} (h : Key k) : Op2 C D σ (compareOp .NotEq) (r.at k) (o.at k) (.bool (rNe r o k)) := by
  rcases h with rfl | rfl | rfl
  · exact op_strNe
  · exact op_ne
  · exact op_ne
end

def cmpStep (r o : Row) (_ : Unit) (q : Int × Int) : Option (Unit ⊕ PV) := if Key q.1 then (if rLt r o q.1 = true then some (.inr (.int (-q.2))) else if rLt o r q.1 = true then some (.inr (.int q.2)) else some (.inl ())) else none
def cmpV (r o : Row) : List (Int × Int) → Int
  | [] => 0
  | (k, d) :: l => if rLt r o k = true then -d else if rLt o r k = true then d else cmpV r o l
theorem foldE_cmp (r o : Row) : ∀ (cols : List (Int × Int)), (∀ q ∈ cols, Key q.1) → (foldE (cmpStep r o) () cols = some (.inl ()) ∧ cmpV r o cols = 0) ∨ foldE (cmpStep r o) () cols = some (.inr (.int (cmpV r o cols)))
  | [], _ => .inl ⟨rfl, rfl⟩
  | (k, d) :: l, h => by
    have hk := h _ (.head _)
    have ih := foldE_cmp r o l fun q hq => h q (.tail _ hq)
    have hk : Key k := hk
    have e : cmpStep r o () (k, d) = if rLt r o k = true then some (.inr (.int (-d))) else if rLt o r k = true then some (.inr (.int d)) else some (.inl ()) := if_pos hk
    simp only [foldE, e, cmpV]
    cases e1 : rLt r o k with
    | true => exact .inr rfl
    | false =>
      cases e2 : rLt o r k with
      | true => exact .inr rfl
      | false => exact ih

theorem fn_compare (cols : List (Int × Int)) (hc : ∀ q ∈ cols, Key q.1) (r o : Row) : FnOk PG w (Gx w mean mg mb) 35 1 [.any (judgeS w cols), r.pv, o.pv] (.int (cmpV r o cols)) := by
  refine fn_intro ["self", "left", "right"] (gx_ok w mean mg mb) (fun h x => ⟨_, x.1 35 _ rfl, rfl, codeRec_of x.1 rfl⟩) rfl rfl rfl rfl rfl rfl (fun vs hv => by obtain ⟨v, u, z, rfl⟩ := len3 hv; rfl) (by decide) (by decide) (by decide) ?_
  intro A Z X L st rm a
  have hex : ∃ res, foldE (cmpStep r o) () cols = some res ∧ ((res = .inl () ∧ cmpV r o cols = 0) ∨ res = .inr (.int (cmpV r o cols))) := by
    rcases foldE_cmp r o cols hc with ⟨h1, h2⟩ | h
    · exact ⟨_, h1, .inl ⟨rfl, h2⟩⟩
    · exact ⟨_, h, .inr rfl⟩
  obtain ⟨res, hres, hcase⟩ := hex
  refine x_for (l := cols) (emb := fun p => .tup [.int p.1, .int p.2]) (cmpStep r o) (fun _ => []) (fun _ => [("left", r.pv), ("right", o.pv)]) (fun q => [("direction", .int q.2), ("index", .int q.1)]) () a (evi_list rm.1 (ev_cols (ev_name rfl))) rfl rfl
    (SubV.cons rfl (SubV.cons rfl SubV.nil)) (fun _ => rfl) (fun J h st x hx => binds_pair rm.1 rfl rfl) ?_ hres ?_ ?_
  · intro J h _ q s K hq a hk hr hne
    have hk1 := hc q hq
    have hb := key_b hk1
    refine x_assign (d := r.at q.1) a (ev_item_tup (evc_tup (ev_name rfl)) (ev_name rfl) hb.1 hb.2 (row_at hk1)) fun s₁ a₁ => ?_
    refine x_assign (d := o.at q.1) a₁ (ev_item_tup (evc_tup (ev_name rfl)) (ev_name rfl) hb.1 hb.2 (row_at hk1)) fun s₂ a₂ => ?_
    refine x_if a₂ (evb_compare (ev_name rfl) (ev_name rfl) (op_rowLt hk1)) fun s₃ a₃ => ?_
    simp only [cmpStep, if_pos hk1] at hk hr
    cases e1 : rLt r o q.1 with
    | true =>
      rw [if_pos rfl]
      refine x_return a₃ (ev_unary (ev_name rfl) op_neg) fun v s' x a' rr => hr _ v s' _ _ (by rw [if_pos e1]) a' rr
    | false =>
      rw [if_neg (by decide)]
      refine x_nil ?_
      refine x_if a₃ (evb_compare (ev_name rfl) (ev_name rfl) (op_rowGt hk1)) fun s₄ a₄ => ?_
      cases e2 : rLt o r q.1 with
      | true =>
        rw [if_pos rfl]
        refine x_return a₄ (ev_name rfl) fun v s' x a' rr => hr _ v s' _ _ (by rw [if_neg (by rw [e1]; decide), if_pos e2]) a' rr
      | false =>
        rw [if_neg (by decide)]
        exact x_nil (x_nil (hk () s₄ (by rw [if_neg (by rw [e1]; decide), if_neg (by rw [e2]; decide)]) (a₄.forget (SubV.cons rfl (SubV.cons rfl SubV.nil)))).1)
  · intro sN s' e a'
    refine x_nil ?_
    rcases hcase with ⟨_, h0⟩ | h
    · refine x_return a' ev_int fun v s'' x a'' rr => ?_
      rw [h0]; exact ret_ok a'' rr
    · rw [h] at e; cases e
  · intro rr v s' D' σ' e a' hr
    rcases hcase with ⟨h, _⟩ | h
    · rw [h] at e; cases e
    · rw [h] at e; cases e; exact ret_ok a' hr
end Mine
end

section
open PySem PySem.W PyProof.Rows
namespace Mine
variable {w : World} {mean : ExcName → Option Value} {mg mb : Str → Option Value}
set_option maxHeartbeats 2000000
theorem Room.units' {A : Around} {n : Nat} (r : Room A n) : A.units < 9000 := by have := r.2.2; omega

def judgedQ (r o : Row) (q : Int × Int) : Option Int := if rNe r o q.1 = true then some (if rLt o r q.1 = true then q.2 else -q.2) else none
def judgedL (r o : Row) (cols : List (Int × Int)) : List Int := cols.filterMap (judgedQ r o)
def judgedV (r o : Row) (cols : List (Int × Int)) : Int := (judgedL r o cols).headD 0
theorem judgedL_map (r o : Row) (cols : List (Int × Int)) : (judgedL r o cols).map PV.int = cols.filterMap fun q => (judgedQ r o q).map PV.int := by
  unfold judgedL
  rw [List.map_filterMap]

theorem ev_rowAt {C : Cx} {D : Muts} {σ : Vars} {e i : Expr} {pos : Pos} {t : Row} {k : Int} (hk : Key k) (he : Ev C D σ e t.pv) (hi : Ev C D σ i (.int k))
    (hs : ∀ o j, subscripted i false o j = operate [o, j] (getItem o j) := by intro _ _; rfl) : Ev C D σ (.Subscript e i pos) (t.at k) := ev_item_tup (evc_tup he) hi (key_b hk).1 (key_b hk).2 (row_at hk) hs
theorem fn_judged (cols : List (Int × Int)) (hc : ∀ q ∈ cols, Key q.1) (hlen : cols.length ≤ 1000) (r o : Row) : FnOk PG w (Gx w mean mg mb) 173 1 [.lst (pairItems cols), r.pv, o.pv] (.int (judgedV r o cols)) := by
  refine fn_intro ["keys", "row", "other"] (gx_ok w mean mg mb) (fun h x => ⟨_, x.1 173 _ rfl, rfl, codeRec_of x.1 rfl⟩) rfl rfl rfl rfl rfl rfl (fun vs hv => by obtain ⟨v, u, z, rfl⟩ := len3 hv; rfl) (by decide) (by decide) (by decide) ?_
  intro A Z X L s rm a
  refine x_assign_lc1 (dN := .lst ((judgedL r o cols).map .int)) a (Nat.zero_le _) ?_ fun s₁ a₁ => ?_
  · rw [judgedL_map]
    refine comp_list (items := cols) (emb := fun p => .tup [.int p.1, .int p.2]) (σ' := [("row", r.pv), ("other", o.pv)]) _ (fun q => [("turn", .int q.2), ("k", .int q.1)]) (gx_ok w mean mg mb) (evi_list rm.1 (ev_name rfl)) rfl (by omega) (SubV.cons rfl (SubV.cons rfl SubV.nil))
      (fun _ _ _ _ q hq => binds_pair rm.1 rfl rfl) ?_ (fun q hq => SubV.cons rfl (SubV.cons rfl SubV.nil))
    intro Cc B W X' D' q hq
    have hk1 := hc q hq
    have hb := key_b hk1
    refine ⟨?_, fun d hd => ?_⟩
    · have : ((judgedQ r o q).map PV.int).isSome = rNe r o q.1 := by unfold judgedQ; cases rNe r o q.1 <;> rfl
      rw [this]
      exact tests_one (evb_compare (ev_rowAt hk1 (ev_name rfl) (ev_name rfl)) (ev_rowAt hk1 (ev_name rfl) (ev_name rfl)) (op_rowNe hk1))
    · unfold judgedQ at hd
      cases hn : rNe r o q.1 with
      | false => rw [hn] at hd; cases hd
      | true =>
        rw [hn] at hd
        cases hd
        refine ev_ifexp (evb_compare (ev_rowAt hk1 (ev_name rfl) (ev_name rfl)) (ev_rowAt hk1 (ev_name rfl) (ev_name rfl)) (op_rowGt hk1)) (fun h => ?_) (fun h => ?_)
        · rw [if_pos h]; exact ev_name rfl
        · rw [if_neg (by rw [h]; decide)]; exact ev_unary (ev_name rfl) op_neg
  · refine x_return a₁ (ev_ifexp (evb_compare (ev_name rfl) (ev_list evl_nil (by decide)) (op_neInts (l' := []) rm.units')) (fun h => ?_) (fun h => ?_)) fun v s'' x a'' rr => ret_ok a'' rr
    · have hl : judgedL r o cols ≠ [] := by simpa using h
      refine ev_item_list (evc_lst (ev_name rfl)) ev_int (by decide) (by decide) ?_
      unfold judgedV
      cases e : judgedL r o cols with
      | nil => exact absurd e hl
      | cons x l => rfl
    · have hl : judgedL r o cols = [] := by simpa using h
      unfold judgedV
      rw [hl]; exact ev_int
end Mine
end

section
open PySem PySem.W PyProof.Rows
namespace Mine
variable {w : World} {mean : ExcName → Option Value} {mg mb : Str → Option Value}
set_option maxHeartbeats 2000000

def climbs (word : List Int) : List Int := (rangeInts 1 1 (lenR 1 word.length)).filter fun n => decide (word.getD (n - 1).toNat 0 < word.getD n.toNat 0)
def shifted (share : List (Int × Int)) (step : Int) : List (Int × Int) := share.foldl (dcompF fun p : Int × Int => some (p.1 + step, p.2)) []
def moveF (share moved : List (Int × Int)) (step : Int) : Option (List (Int × Int)) := if share.length ≤ 1000000 then addCallers moved (shifted share step) else none
def letterF (share : List (Int × Int)) (letter : Int) : Option (List (Int × Int)) := if -1000 ≤ letter ∧ letter ≤ 1000 then foldO (moveF share) [] (rangeInts 0 1 (lenR 0 letter)) else none
def weighF (table : List (Int × Int)) (word : List Int) : Option (List (Int × Int)) := if word.length ≤ 1000 then (match foldO letterF [((climbs word).sum, 1)] word with
  | none => none
  | some share => addCallers table share) else none
def weighed (words : List (List Int)) : Option (List (Int × Int)) := foldO weighF [] words

theorem filterMap_int (p : Int → Bool) (l : List Int) : l.filterMap (fun n => if p n then some (PV.int n) else none) = (l.filter p).map .int := by
  induction l with
  | nil => rfl
  | cons a l ih => by_cases h : p a <;> simp [List.filter_cons, h, ih]
theorem mem_rangeInts1 {a x : Int} {n : Nat} (h : x ∈ rangeInts a 1 n) : a ≤ x ∧ x < a + n := by
  unfold rangeInts at h
  obtain ⟨i, hi, rfl⟩ := List.mem_map.mp h
  rw [List.mem_range] at hi
  omega
theorem int_at {l : List Int} {i : Int} (h0 : 0 ≤ i) (h1 : i < l.length) : (l.map PV.int)[i.toNat]? = some (.int (l.getD i.toNat 0)) := by
  have : i.toNat < l.length := by omega
  simp [List.getD, this]

theorem fn_weighed (words : List (List Int)) {r : List (Int × Int)} (hr : weighed words = some r) : FnOk PG w (Gx w mean mg mb) 188 2 [.lst (intLists words)] (.dct r) := by
  refine fn_intro ["words"] (gx_ok w mean mg mb) (fun h x => ⟨_, x.1 188 _ rfl, rfl, codeRec_of x.1 rfl⟩) rfl rfl rfl rfl rfl rfl (fun vs hv => by obtain ⟨v, rfl⟩ := len1 hv; rfl) (by decide) (by decide) (by decide) ?_
  intro A Z X L st rm a
  refine x_assign a (ev_dict0 (gx_ok w mean mg mb)) fun s₁ a₁ => ?_
  refine x_forF (l := words) (emb := fun l => .lst (l.map .int)) weighF (fun _ => []) (fun t => [("table", .dct t)]) (fun x => [("word", .lst (x.map .int))]) [] a₁ (evi_list rm.1 (ev_name rfl)) rfl rfl (SubV.cons rfl SubV.nil) (fun _ => rfl)
    (fun J h st x hx => binds_name rfl) hr ?_ ?_
  · intro J h t word t' s K _ hf a hk
    rw [weighF, Option.ite_none_right_eq_some] at hf
    obtain ⟨hwl, hf⟩ := hf
    cases hs : foldO letterF [((climbs word).sum, 1)] word with
    | none => rw [hs] at hf; cases hf
    | some share =>
    rw [hs] at hf
    simp only at hf
    refine x_assign (d := .dct [((climbs word).sum, 1)]) a (ev_dict1 (gx_ok w mean mg mb) (ev_sum rm.1 (evB rfl rfl bo_sum) (evc_lst ?_)) ev_int) fun s₁ a₁ => ?_
    · rw [show (climbs word).map PV.int = (rangeInts 1 1 (lenR 1 word.length)).filterMap (fun n => if decide (word.getD (n - 1).toNat 0 < word.getD n.toNat 0) = true then some (PV.int n) else none) from (filterMap_int (fun n => decide (word.getD (n - 1).toNat 0 < word.getD n.toNat 0)) _).symm]
      have hml : (word.map PV.int).length = word.length := by simp
      refine ev_lc1 (comp_list (items := rangeInts 1 1 (lenR 1 word.length)) (emb := .int) (σ' := [("word", .lst (word.map .int))]) _ (fun n => [("n", .int n)]) (gx_ok w mean mg mb)
        (evi_range2 rm.1 (evB rfl rfl bo_range) ev_int (hml ▸ ev_len (evB rfl rfl bo_len) (evc_lst (ev_name rfl)) (by omega)) (by decide) (by constructor <;> omega)) rfl ?_ (SubV.cons rfl SubV.nil) (fun _ _ _ _ n hn => binds_name rfl) ?_ (fun n hn => SubV.cons rfl SubV.nil))
      · simp [rangeInts, lenR]; omega
      · intro Cc B W X' D' n hn
        have hb := mem_rangeInts1 hn
        unfold lenR at hb
        have h1 : (n - 1).toNat < word.length := by omega
        have e1 := int_at (l := word) (i := n - 1) (by omega) (by omega)
        have e2 := int_at (l := word) (i := n) (by omega) (by omega)
        refine ⟨?_, fun d' hd' => ?_⟩
        · have : (if decide (word.getD (n - 1).toNat 0 < word.getD n.toNat 0) = true then some (PV.int n) else none).isSome = decide (word.getD (n - 1).toNat 0 < word.getD n.toNat 0) := by
            by_cases hc : word.getD (n - 1).toNat 0 < word.getD n.toNat 0
            · rw [decide_eq_true hc]; rfl
            · rw [decide_eq_false hc]; rfl
          rw [this]
          exact tests_one (evb_compare (ev_item_list (evc_lst (ev_name rfl)) (ev_binop (ev_name rfl) ev_int op_sub) (by omega) (by omega) e1) (ev_item_list (evc_lst (ev_name rfl)) (ev_name rfl) (by omega) (by omega) e2) op_lt)
        · split at hd' <;> cases hd'
          exact ev_name rfl
    refine x_forF (l := word) (emb := .int) letterF (fun _ => []) (fun share => [("share", .dct share), ("table", .dct t)]) (fun x => [("letter", .int x)]) [((climbs word).sum, 1)] a₁ (evi_list rm.1 (ev_name rfl)) rfl rfl
      (SubV.cons rfl (SubV.cons rfl SubV.nil)) (fun _ => rfl) (fun J h st x hx => binds_name rfl) hs ?_ ?_
    · intro J h share letter share' s K _ hf a hk
      rw [letterF, Option.ite_none_right_eq_some] at hf
      obtain ⟨hl, hf⟩ := hf
      refine x_assign a (ev_dict0 (gx_ok w mean mg mb)) fun s₁ a₁ => ?_
      refine x_forF (l := rangeInts 0 1 (lenR 0 letter)) (emb := .int) (moveF share) (fun _ => []) (fun moved => [("moved", .dct moved), ("share", .dct share), ("table", .dct t)]) (fun x => [("step", .int x)]) [] a₁ (evi_range1 rm.1 (evB rfl rfl bo_range) (ev_name rfl) (by constructor <;> omega)) rfl rfl
        (SubV.cons rfl (SubV.cons rfl (SubV.cons rfl SubV.nil))) (fun _ => rfl) (fun J h st x hx => binds_name rfl) hf ?_ ?_
      · intro J h moved step moved' s K _ hf a hk
        rw [moveF, Option.ite_none_right_eq_some] at hf
        obtain ⟨hl, hf⟩ := hf
        refine x_assign a (ev_call_fn (gx_ok w mean mg mb) (evG rfl rfl) (fun h x => ⟨_, x.1 49 _ rfl, rfl, codeRec_of x.1 rfl⟩) (fn_add _ _ hf) rm (evl_cons (ev_name rfl) (evl_cons ?_ evl_nil))) fun s' a' => ?_
        · refine ev_dc (comp_dict (items := share) (emb := fun p => .tup [.int p.1, .int p.2]) (σ' := [("step", .int step)]) (fun p => some (p.1 + step, p.2)) (fun p => [("calls", .int p.2), ("power", .int p.1)]) (gx_ok w mean mg mb) (evi_items rm.1 (ev_name rfl)) rfl hl (SubV.cons rfl SubV.nil)
            (fun _ _ _ _ p hp => binds_pair rm.1 rfl rfl) ?_ (fun p hp => SubV.cons rfl SubV.nil))
          intro Cc B W X' D' p hp
          exact ⟨tests_nil, fun q hq => by cases hq; exact ⟨ev_binop (ev_name rfl) (ev_name rfl) op_add, ev_name rfl⟩⟩
        · exact x_nil (hk s' (a'.forget (SubV.cons rfl (SubV.cons rfl (SubV.cons rfl SubV.nil)))))
      · intro s₂ a₂
        refine x_nil ?_
        refine x_assign a₂ (ev_name rfl) fun s₃ a₃ => ?_
        exact x_nil (hk s₃ (a₃.forget (SubV.cons rfl (SubV.cons rfl SubV.nil))))
    · intro s₂ a₂
      refine x_nil ?_
      refine x_assign a₂ (ev_call_fn (gx_ok w mean mg mb) (evG rfl rfl) (fun h x => ⟨_, x.1 49 _ rfl, rfl, codeRec_of x.1 rfl⟩) (fn_add _ _ hf) rm (evl_cons (ev_name rfl) (evl_cons (ev_name rfl) evl_nil))) fun s' a' => ?_
      exact x_nil (hk s' (a'.forget (SubV.cons rfl SubV.nil)))
  · intro s' a'
    refine x_nil ?_
    exact x_return a' (ev_name rfl) fun v s'' x a'' r => ret_ok a'' r
end Mine
end

section
open PySem PySem.W PyProof.Rows
namespace Mine
variable {w : World} {mean : ExcName → Option Value} {mg mb : Str → Option Value}
set_option maxHeartbeats 2000000

theorem mulOk_l {a b : Int} (h : -(2 ^ 64) < a ∧ a < 2 ^ 64) : IntMulOk a b := .of_left (intBits_le_64 h.1 h.2)

def divG (unit m n rest value : Int) (out : List (Int × Int)) (t : Int) : Option (List (Int × Int)) :=
  if out.length ≤ 1000000 then some (dset out (rest + ((if n > m then n else m) - 1 - t) * unit + ((if n < m then n else m) + t) * 8 * unit)
    ((dget out (rest + ((if n > m then n else m) - 1 - t) * unit + ((if n < m then n else m) + t) * 8 * unit)).getD 0 + (if n < m then value else -value))) else none
def divF (unit : Int) (out : List (Int × Int)) (p : Int × Int) : Option (List (Int × Int)) :=
  foldO (divG unit ((p.1.fdiv unit).fmod 8) ((p.1.fdiv (8 * unit)).fmod 8) (p.1 - (p.1.fdiv unit).fmod 8 * unit - (p.1.fdiv (8 * unit)).fmod 8 * 8 * unit) p.2) out
    (rangeInts 0 1 (lenR 0 (if (p.1.fdiv unit).fmod 8 - (p.1.fdiv (8 * unit)).fmod 8 < 0 then -((p.1.fdiv unit).fmod 8 - (p.1.fdiv (8 * unit)).fmod 8) else (p.1.fdiv unit).fmod 8 - (p.1.fdiv (8 * unit)).fmod 8)))
def divided (table : List (Int × Int)) (unit : Int) : Option (List (Int × Int)) := if 0 < unit ∧ unit ≤ 100000 then foldO (divF unit) [] table else none

theorem fmod8 (a : Int) : 0 ≤ a.fmod 8 ∧ a.fmod 8 < 8 := ⟨Int.fmod_nonneg_of_pos _ (by decide), Int.fmod_lt_of_pos _ (by decide)⟩

theorem fn_divided (table : List (Int × Int)) (unit : Int) {r : List (Int × Int)} (hr : divided table unit = some r) : FnOk PG w (Gx w mean mg mb) 195 1 [.dct table, .int unit] (.dct r) := by
  rw [divided, Option.ite_none_right_eq_some] at hr
  obtain ⟨hu, hr⟩ := hr
  refine fn_intro ["table", "unit"] (gx_ok w mean mg mb) (fun h x => ⟨_, x.1 195 _ rfl, rfl, codeRec_of x.1 rfl⟩) rfl rfl rfl rfl rfl rfl (fun vs hv => by obtain ⟨v, u, rfl⟩ := len2 hv; rfl) (by decide) (by decide) (by decide) ?_
  intro A Z X L st rm a
  refine x_newDict (gx_ok w mean mg mb) a fun c s₁ a₁ => ?_
  refine x_forF (divF unit) (fun l => [(c, .dct l)]) (fun _ => [("out", .raw (.ref c)), ("unit", .int unit)]) (fun x => [("value", .int x.2), ("key", .int x.1)]) [] a₁ (evi_items rm.1 (ev_name rfl)) rfl rfl (SubV.cons rfl (SubV.cons rfl SubV.nil)) (fun _ => rfl)
    (fun J h st x hx => binds_pair rm.1 rfl rfl) hr ?_ ?_
  · intro J h l p l' s K _ hf a hk
    unfold divF at hf
    have hm := fmod8 (p.1.fdiv unit)
    have hn := fmod8 (p.1.fdiv (8 * unit))
    generalize em : (p.1.fdiv unit).fmod 8 = m at hf hm
    generalize en : (p.1.fdiv (8 * unit)).fmod 8 = n at hf hn
    refine x_assign (d := .int m) a (em ▸ ev_binop (ev_binop (ev_name rfl) (ev_name rfl) (op_floordiv (by omega) (PyProof.noPylong_small (by omega)))) ev_int (op_mod (by decide))) fun s₁ a₁ => ?_
    refine x_assign (d := .int n) a₁ (en ▸ ev_binop (ev_binop (ev_name rfl) (ev_binop ev_int (ev_name rfl) (op_mul (mulOk_l (by decide)))) (op_floordiv (by omega) (PyProof.noPylong_small (by omega)))) ev_int (op_mod (by decide))) fun s₂ a₂ => ?_
    refine x_assign (d := .int (p.1 - m * unit - n * 8 * unit)) a₂ (ev_binop (ev_binop (ev_name rfl) (ev_binop (ev_name rfl) (ev_name rfl) (op_mul (mulOk_l (by omega)))) op_sub) (ev_binop (ev_binop (ev_name rfl) ev_int (op_mul (mulOk_l (by omega)))) (ev_name rfl) (op_mul (mulOk_l (by omega)))) op_sub) fun s₃ a₃ => ?_
    generalize (p.1 - m * unit - n * 8 * unit) = rest at hf a₃
    refine x_forF (l := rangeInts 0 1 (lenR 0 (if m - n < 0 then -(m - n) else m - n))) (emb := .int) (divG unit m n rest p.2) (fun l => [(c, .dct l)]) (fun _ => [("rest", .int rest), ("n", .int n), ("m", .int m), ("value", .int p.2), ("out", .raw (.ref c)), ("unit", .int unit)]) (fun x => [("t", .int x)]) l a₃
      (evi_range1 rm.1 (evB rfl rfl bo_range) (ev_abs (evB rfl rfl bo_abs) (ev_binop (ev_name rfl) (ev_name rfl) op_sub)) (by split <;> constructor <;> omega)) rfl rfl
      (SubV.cons rfl (SubV.cons rfl (SubV.cons rfl (SubV.cons rfl (SubV.cons rfl (SubV.cons rfl SubV.nil)))))) (fun _ => rfl) (fun J h st x hx => binds_name rfl) hf ?_ ?_
    · intro J h l t l' s K ht hf a hk
      rw [divG, Option.ite_none_right_eq_some] at hf
      obtain ⟨hl, hf⟩ := hf
      cases hf
      have hb := mem_rangeInts1 ht
      have hbb : 0 ≤ t ∧ t < 8 := by unfold lenR at hb; split at hb <;> omega
      refine x_assign (d := .int (rest + ((if n > m then n else m) - 1 - t) * unit + ((if n < m then n else m) + t) * 8 * unit)) a
        (ev_binop (ev_binop (ev_name rfl) (ev_binop (ev_binop (ev_binop (ev_max rm.1 (evB rfl rfl bo_max) (ev_name rfl) (ev_name rfl)) ev_int op_sub) (ev_name rfl) op_sub) (ev_name rfl) (op_mul (mulOk_l (by split <;> omega)))) op_add)
          (ev_binop (ev_binop (ev_binop (ev_min rm.1 (evB rfl rfl bo_min) (ev_name rfl) (ev_name rfl)) (ev_name rfl) op_add) ev_int (op_mul (mulOk_l (by split <;> omega)))) (ev_name rfl) (op_mul (mulOk_l (by split <;> omega)))) op_add) fun s₁ a₁ => ?_
      generalize (rest + ((if n > m then n else m) - 1 - t) * unit + ((if n < m then n else m) + t) * 8 * unit) = spot at a₁ hk
      refine x_setDict (x := (dget l spot).getD 0 + (if n < m then p.2 else -p.2)) a₁ (ev_name rfl) (ev_name rfl) (ev_binop (ev_get2 (evc_mut (ev_name rfl) (.head _)) (ev_name rfl) ev_int)
        (ev_ifexp (evb_compare (ev_name rfl) (ev_name rfl) op_gt) (fun h => by rw [if_pos (by simpa using h)]; exact ev_name rfl) (fun h => by rw [if_neg (by simpa using h)]; exact ev_unary (ev_name rfl) op_neg)) op_add) (sz_ok hl) fun s' a' => ?_
      exact x_nil (hk s' (a'.forget (SubV.cons rfl (SubV.cons rfl (SubV.cons rfl (SubV.cons rfl (SubV.cons rfl (SubV.cons rfl SubV.nil))))))))
    · intro s' a'
      exact x_nil (x_nil (hk s' (a'.forget (SubV.cons rfl (SubV.cons rfl SubV.nil)))))
  · intro s' a'
    refine x_nil ?_
    refine x_return a' (ev_name rfl) fun v s'' x a'' r => ?_
    have := raw_of r; subst this
    obtain ⟨a3, r3⟩ := At.freeze a'' (σ' := []) (fun x e h => by simp at h)
    exact ret_ok a3 r3
end Mine
end

section
open PySem PySem.W PyProof.Rows
namespace Mine
variable {w : World} {mean : ExcName → Option Value} {mg mb : Str → Option Value}
set_option maxHeartbeats 2000000

/-- names whose value is frozen -/
def FrzV (c : Addr) (d : PV) (σ' σ : Vars) : Prop := ∀ x e, σ'.lookup x = some e → σ.lookup x = some e ∨ (σ.lookup x = some (.raw (.ref c)) ∧ e = d)
theorem FrzV.nil {c : Addr} {d : PV} {σ : Vars} : FrzV c d [] σ := fun _ _ e => by simp at e
theorem FrzV.keep {c : Addr} {d : PV} {σ' σ : Vars} {x : Str} {e : PV} (h : σ.lookup x = some e) (q : FrzV c d σ' σ) : FrzV c d ((x, e) :: σ') σ := fun y e' h' => by
  rw [List.lookup_cons] at h'
  split at h'
  · rename_i hb; cases h'; rw [eq_of_beq hb]; exact .inl h
  · exact q y e' h'
theorem FrzV.turn {c : Addr} {d : PV} {σ' σ : Vars} {x : Str} (h : σ.lookup x = some (.raw (.ref c))) (q : FrzV c d σ' σ) : FrzV c d ((x, d) :: σ') σ := fun y e' h' => by
  rw [List.lookup_cons] at h'
  split at h'
  · rename_i hb; cases h'; rw [eq_of_beq hb]; exact .inr ⟨h, rfl⟩
  · exact q y e' h'

def powerOf (key : Int) : Int := (key.fdiv 64).fmod 8 + 2 * (key.fdiv 512).fmod 8
def dueF (due : List (Int × Int)) (p : Int × Int) : Option (List (Int × Int)) := if due.length ≤ 1000000 then some (dset due (powerOf p.1) ((dget due (powerOf p.1)).getD 0 + p.2)) else none
def stepF (power value : Int) (out : List (Int × Int)) (step : Int) : Option (List (Int × Int)) := if out.length ≤ 1000000 then some (dset out (power + step) ((dget out (power + step)).getD 0 + value)) else none
def spreadF (terms : Int) (out : List (Int × Int)) (p : Int × Int) : Option (List (Int × Int)) := foldO (stepF p.1 p.2) out (rangeInts 0 1 (lenR 0 terms))
def termF (due : List (Int × Int)) (terms : Int) : Option (List (Int × Int)) := if terms ≤ 1000 then foldO (spreadF terms) [] due else none
def spread (polynomial : List (Int × Int)) (many : Int) : Option (List (Int × Int)) := if 0 ≤ many ∧ many ≤ 1000 then (match foldO dueF [] polynomial with
  | none => none
  | some due => foldO termF due (rangeInts 2 1 (lenR 2 (many + 1)))) else none

theorem fn_spread (polynomial : List (Int × Int)) (many : Int) {r : List (Int × Int)} (hr : spread polynomial many = some r) : FnOk PG w (Gx w mean mg mb) 207 1 [.dct polynomial, .int many] (.dct r) := by
  rw [spread, Option.ite_none_right_eq_some] at hr
  obtain ⟨hm, hr⟩ := hr
  cases hd : foldO dueF [] polynomial with
  | none => rw [hd] at hr; cases hr
  | some due =>
  rw [hd] at hr
  simp only at hr
  refine fn_intro ["polynomial", "many"] (gx_ok w mean mg mb) (fun h x => ⟨_, x.1 207 _ rfl, rfl, codeRec_of x.1 rfl⟩) rfl rfl rfl rfl rfl rfl (fun vs hv => by obtain ⟨v, u, rfl⟩ := len2 hv; rfl) (by decide) (by decide) (by decide) ?_
  intro A Z X L st rm a
  refine x_newDict (gx_ok w mean mg mb) a fun c s₁ a₁ => ?_
  refine x_forF dueF (fun l => [(c, .dct l)]) (fun _ => [("due", .raw (.ref c)), ("many", .int many)]) (fun x => [("value", .int x.2), ("key", .int x.1)]) [] a₁ (evi_items rm.1 (ev_name rfl)) rfl rfl (SubV.cons rfl (SubV.cons rfl SubV.nil)) (fun _ => rfl)
    (fun J h st x hx => binds_pair rm.1 rfl rfl) hd ?_ ?_
  · intro J h l p l' s K _ hf a hk
    rw [dueF, Option.ite_none_right_eq_some] at hf
    obtain ⟨hl, hf⟩ := hf
    cases hf
    refine x_assign (d := .int (powerOf p.1)) a (ev_binop (ev_binop (ev_binop (ev_name rfl) ev_int (op_floordiv (by decide) (PyProof.noPylong_small (by decide)))) ev_int (op_mod (by decide)))
      (ev_binop ev_int (ev_binop (ev_binop (ev_name rfl) ev_int (op_floordiv (by decide) (PyProof.noPylong_small (by decide)))) ev_int (op_mod (by decide))) (op_mul (mulOk_l (by decide)))) op_add) fun s₁ a₁ => ?_
    refine x_setDict a₁ (ev_name rfl) (ev_name rfl) (ev_binop (ev_get2 (evc_mut (ev_name rfl) (.head _)) (ev_name rfl) ev_int) (ev_name rfl) op_add) (sz_ok hl) fun s' a' => ?_
    exact x_nil (hk s' (a'.forget (SubV.cons rfl (SubV.cons rfl SubV.nil))))
  · intro s' a'
    refine x_nil ?_
    have a2 := (At.freeze a' (σ' := [("due", .dct due), ("many", .int many)]) (FrzV.turn rfl (FrzV.keep rfl FrzV.nil))).1
    refine x_forF (l := rangeInts 2 1 (lenR 2 (many + 1))) (emb := .int) termF (fun _ => []) (fun due => [("due", .dct due)]) (fun x => [("terms", .int x)]) due a2
      (evi_range2 rm.1 (evB rfl rfl bo_range) ev_int (ev_binop (ev_name rfl) ev_int op_add) (by decide) (by constructor <;> omega)) rfl rfl (SubV.cons rfl SubV.nil) (fun _ => rfl) (fun J h st x hx => binds_name rfl) hr ?_ ?_
    · intro J h due terms due' s K ht hf a hk
      rw [termF, Option.ite_none_right_eq_some] at hf
      obtain ⟨hl, hf⟩ := hf
      have hb := mem_rangeInts1 ht
      refine x_newDict (gx_ok w mean mg mb) a fun c s₁ a₁ => ?_
      refine x_forF (spreadF terms) (fun l => [(c, .dct l)]) (fun _ => [("out", .raw (.ref c)), ("terms", .int terms)]) (fun x => [("value", .int x.2), ("power", .int x.1)]) [] a₁ (evi_items rm.1 (ev_name rfl)) rfl rfl (SubV.cons rfl (SubV.cons rfl SubV.nil)) (fun _ => rfl)
        (fun J h st x hx => binds_pair rm.1 rfl rfl) hf ?_ ?_
      · intro J h l p l' s K _ hf a hk
        refine x_forF (l := rangeInts 0 1 (lenR 0 terms)) (emb := .int) (stepF p.1 p.2) (fun l => [(c, .dct l)]) (fun _ => [("value", .int p.2), ("power", .int p.1), ("out", .raw (.ref c)), ("terms", .int terms)]) (fun x => [("step", .int x)]) l a (evi_range1 rm.1 (evB rfl rfl bo_range) (ev_name rfl) (by constructor <;> omega)) rfl rfl
          (SubV.cons rfl (SubV.cons rfl (SubV.cons rfl (SubV.cons rfl SubV.nil)))) (fun _ => rfl) (fun J h st x hx => binds_name rfl) hf ?_ ?_
        · intro J h l step l' s K _ hf a hk
          rw [stepF, Option.ite_none_right_eq_some] at hf
          obtain ⟨hl, hf⟩ := hf
          cases hf
          refine x_setDict a (ev_name rfl) (ev_binop (ev_name rfl) (ev_name rfl) op_add) (ev_binop (ev_get2 (evc_mut (ev_name rfl) (.head _)) (ev_binop (ev_name rfl) (ev_name rfl) op_add) ev_int) (ev_name rfl) op_add) (sz_ok hl) fun s' a' => ?_
          exact x_nil (hk s' (a'.forget (SubV.cons rfl (SubV.cons rfl (SubV.cons rfl (SubV.cons rfl SubV.nil))))))
        · intro s' a'
          exact x_nil (x_nil (hk s' (a'.forget (SubV.cons rfl (SubV.cons rfl SubV.nil)))))
      · intro s' a'
        refine x_nil ?_
        refine x_assign a' (ev_name rfl) fun s' a' => ?_
        exact x_nil (hk s' (At.freeze a' (FrzV.turn rfl FrzV.nil)).1)
    · intro s' a'
      refine x_nil ?_
      exact x_return a' (ev_name rfl) fun v s'' x a'' r => ret_ok a'' r
end Mine
end

section
open PySem PySem.W PyProof.Rows
namespace Mine
variable {w : World} {mean : ExcName → Option Value} {mg mb : Str → Option Value}
set_option maxHeartbeats 2000000
theorem Room.units {A : Around} {n : Nat} (r : Room A n) : A.units < 9000 := by have := r.2.2; omega

def polySwap (now : List Int) (place : Int) : List Int := pickL now none (some place) ++ [now.getD (place + 1).toNat 0, now.getD place.toNat 0] ++ pickL now (some (place + 2)) none
def polyStep (line : List Int) (st : List (Int × Int) × List Int) (place : Int) : Option (List (Int × Int) × List Int) :=
  if st.2.length = 4 ∧ (0 ≤ place ∧ place < 3) ∧ (st.2.getD place.toNat 0) ∈ line ∧ (st.2.getD (place + 1).toNat 0) ∈ line then
    (if st.2.getD (place + 1).toNat 0 < st.2.getD place.toNat 0 ∧ line.idxOf (st.2.getD (place + 1).toNat 0) < line.idxOf (st.2.getD place.toNat 0) then
      (match divided st.1 (8 ^ (place + 1).toNat) with
      | none => none
      | some t => some (t, polySwap st.2 place)) else some st) else none
def polyTurn (line : List Int) (st : List (Int × Int) × List Int) : Option (List (Int × Int) × List Int) := foldO (polyStep line) st (rangeInts 0 1 (lenR 0 3))
def nonZero (t : List (Int × Int)) : List (Int × Int) := t.foldl (dcompF fun p : Int × Int => if (p.2 != 0) = true then some (p.1, p.2) else none) []
def polynomial (line : List Int) : Option (List (Int × Int)) := if line.length ≤ 1000 then
    (match whileO (fun st : List (Int × Int) × List Int => some (!decide (st.2 = line))) (polyTurn line) 30 ([(3 * 8 + 2 * 64 + 512, 1)], [3, 2, 1, 0]) with
    | none => none
    | some st => if st.1.length ≤ 1000000 then some (nonZero st.1) else none) else none

theorem use_ev {C : Cx} {D : Muts} {σ : Vars} {e : Expr} {d : PV} {s : Shared} {Q : Value → Shared → Prop} (he : Ev C D σ e d) (a : AtC C D σ s) (k : ∀ v s₁, Ext s s₁ → RepC C D s₁ d v → Q v s₁) : Go C (eval e C.env) Q s := he s a Q k
theorem fn_polynomial (line : List Int) {r : List (Int × Int)} (hr : polynomial line = some r) : FnOk PG w (Gx w mean mg mb) 200 2 [.lst (line.map .int)] (.dct r) := by
  rw [polynomial, Option.ite_none_right_eq_some] at hr
  obtain ⟨hlen, hr⟩ := hr
  cases hw : whileO (fun st : List (Int × Int) × List Int => some (!decide (st.2 = line))) (polyTurn line) 30 ([(3 * 8 + 2 * 64 + 512, 1)], [3, 2, 1, 0]) with
  | none => rw [hw] at hr; cases hr
  | some st =>
  rw [hw] at hr
  simp only [Option.ite_none_right_eq_some] at hr
  obtain ⟨hsz, hr⟩ := hr
  cases hr
  refine fn_intro ["line"] (gx_ok w mean mg mb) (fun h x => ⟨_, x.1 200 _ rfl, rfl, codeRec_of x.1 rfl⟩) rfl rfl rfl rfl rfl rfl (fun vs hv => by obtain ⟨v, rfl⟩ := len1 hv; rfl) (by decide) (by decide) (by decide) ?_
  intro A Z X L s rm a
  refine x_cons ?_
  refine wpAny_Assign_Name ?_ ?hs
  case hs => rfl
  generalize hgt : (Expr.Dict _ _ _) = tabE
  refine use_ev (d := .dct [(3 * 8 + 2 * 64 + 512, 1)]) ?he a ?k
  case he =>
    subst hgt
    refine ev_dict1 (gx_ok w mean mg mb) ?_ ?_
    · refine ev_binop (a := .int (3 * 8 + 2 * 64)) (b := .int 512) ?_ ev_int op_add
      refine ev_binop (a := .int (3 * 8)) (b := .int (2 * 64)) ?_ ?_ op_add
      · exact ev_binop (a := .int 3) (b := .int 8) ev_int ev_int (op_mul (mulOk_l (by decide)))
      · exact ev_binop (a := .int 2) (b := .int 64) ev_int ev_int (op_mul (mulOk_l (by decide)))
    · exact ev_int
  intro v s₁ x₁ r₁
  refine go_store (a.ext x₁) r₁ ?hx fun s₁ a₁ _ => ?_
  case hx => rfl
  refine x_assign (d := .lst ([3, 2, 1, 0].map .int)) a₁ (ev_list (evl_cons ev_int (evl_cons ev_int (evl_cons ev_int (evl_cons ev_int evl_nil)))) (Nat.le_of_ble_eq_true rfl)) fun s₂ a₂ => ?_
  refine x_while (fun st : List (Int × Int) × List Int => some (!decide (st.2 = line))) (polyTurn line) (fun _ => []) (fun st => [("now", .lst (st.2.map .int)), ("table", .dct st.1), ("line", .lst (line.map .int))]) ([(3 * 8 + 2 * 64 + 512, 1)], [3, 2, 1, 0]) a₂ rfl
    (SubV.cons rfl (SubV.cons rfl (SubV.cons rfl SubV.nil))) ?_ ?_ hw ?_
  · intro st b hb
    cases hb
    exact evb_compare (ev_name rfl) (ev_name rfl) (op_neInts rm.units)
  · intro st st' s K hf a hk
    refine x_forF (l := rangeInts 0 1 (lenR 0 3)) (emb := .int) (polyStep line) (fun _ => []) (fun st => [("now", .lst (st.2.map .int)), ("table", .dct st.1), ("line", .lst (line.map .int))]) (fun x => [("place", .int x)]) st a
      (evi_range1 rm.1 (evB rfl rfl bo_range) ev_int (by decide)) rfl rfl (SubV.cons rfl (SubV.cons rfl (SubV.cons rfl SubV.nil))) (fun _ => rfl) (fun J h st x hx => binds_name rfl) hf ?_ ?_
    · intro J h st place st' s K _ hf a hk
      rw [polyStep, Option.ite_none_right_eq_some] at hf
      obtain ⟨⟨h4, hp, hhi, hlo⟩, hf⟩ := hf
      have e1 := int_at (l := st.2) (i := place) (by omega) (by omega)
      have e2 := int_at (l := st.2) (i := place + 1) (by omega) (by omega)
      have h4' : (st.2.map PV.int).length = 4 := by simpa using h4
      generalize ehi : st.2.getD place.toNat 0 = high at hf hhi e1
      generalize elo : st.2.getD (place + 1).toNat 0 = low at hf hlo e2
      refine x_assign_pair (d := .int high) (d' := .int low) rm.1 a (ev_tuple (evl_cons (ev_item_list (evc_lst (ev_name rfl)) (ev_name rfl) (by omega) (by omega) e1)
        (evl_cons (ev_item_list (evc_lst (ev_name rfl)) (ev_binop (ev_name rfl) ev_int op_add) (by omega) (by omega) e2) evl_nil)) (Nat.le_of_ble_eq_true rfl)) fun s₁ a₁ => ?_
      refine x_if a₁ (evb_and (evb_compare (ev_name rfl) (ev_name rfl) op_gt) fun _ => evb_compare (ev_index (evc_lst (ev_name rfl)) (ev_name rfl) hhi (by omega)) (ev_index (evc_lst (ev_name rfl)) (ev_name rfl) hlo (by omega)) op_gt) fun s₂ a₂ => ?_
      by_cases hc : low < high ∧ line.idxOf low < line.idxOf high
      · rw [if_pos hc] at hf
        rw [if_pos (by simp [hc])]
        cases hd : divided st.1 (8 ^ (place + 1).toNat) with
        | none => rw [hd] at hf; cases hf
        | some t =>
        rw [hd] at hf
        cases hf
        refine x_assign (d := .lst ((polySwap st.2 place).map .int)) a₂ ?_ fun s₃ a₃ => ?_
        · have e : (polySwap st.2 place).map PV.int = pickL (st.2.map PV.int) none (some place) ++ [.int low, .int high] ++ pickL (st.2.map PV.int) (some (place + 2)) none := by
            unfold polySwap
            rw [pickL_map, pickL_map, ehi, elo]; simp
          rw [e]
          have z1 : (pickL (st.2.map PV.int) none (some place)).length ≤ 4 := by unfold pickL; rw [List.length_take, List.length_drop]; omega
          have z2 : (pickL (st.2.map PV.int) (some (place + 2)) none).length ≤ 4 := by unfold pickL; rw [List.length_take, List.length_drop]; omega
          refine ev_binop (ev_binop (ev_slice_list (evc_lst (ev_name rfl)) evp_none (evp_int (ev_name rfl)) (by omega)) (ev_list (evl_cons (ev_name rfl) (evl_cons (ev_name rfl) evl_nil)) (Nat.le_of_ble_eq_true rfl)) (op_concat ?_))
            (ev_slice_list (evc_lst (ev_name rfl)) (evp_int (ev_binop (ev_name rfl) ev_int op_add)) evp_none (by omega)) (op_concat ?_)
          · rw [sizeLine_eq, List.length_cons, List.length_singleton]; omega
          · rw [sizeLine_eq, List.length_append, List.length_cons, List.length_singleton]; omega
        · refine x_assign a₃ (ev_call_fn (gx_ok w mean mg mb) (evG rfl rfl) (fun h x => ⟨_, x.1 195 _ rfl, rfl, codeRec_of x.1 rfl⟩) (fn_divided _ _ hd) rm (evl_cons (ev_name rfl) (evl_cons (ev_binop ev_int (ev_binop (ev_name rfl) ev_int op_add) (op_pow (by omega) (by omega) (by decide))) evl_nil))) fun s' a' => ?_
          exact x_nil (x_nil (hk s' (a'.forget (SubV.cons rfl (SubV.cons rfl (SubV.cons rfl SubV.nil))))))
      · rw [if_neg hc] at hf
        cases hf
        rw [if_neg (by simpa using hc)]
        exact x_nil (x_nil (hk s₂ (a₂.forget (SubV.cons rfl (SubV.cons rfl (SubV.cons rfl SubV.nil))))))
    · intro s' a'
      exact x_nil (x_nil (hk s' (a'.forget (SubV.cons rfl (SubV.cons rfl (SubV.cons rfl SubV.nil))))))
  · intro s' a'
    refine x_nil ?_
    refine x_return a' (ev_dc (comp_dict (items := st.1) (emb := fun p => .tup [.int p.1, .int p.2]) (σ' := []) (fun p => if (p.2 != 0) = true then some (p.1, p.2) else none) (fun p => [("value", .int p.2), ("key", .int p.1)]) (gx_ok w mean mg mb) (evi_items rm.1 (ev_name rfl)) rfl hsz SubV.nil
            (fun _ _ _ _ p hp => binds_pair rm.1 rfl rfl) ?_ (fun p hp => SubV.nil))) fun v s'' x a'' r => ret_ok a'' r
    intro Cc B W X' D' p hp
    refine ⟨?_, fun q hq => ?_⟩
    · have : (if (p.2 != 0) = true then some (p.1, p.2) else none).isSome = (p.2 != 0) := by cases (p.2 != 0) <;> rfl
      rw [this]
      exact tests_one (evb_compare (ev_name rfl) ev_int op_ne)
    · split at hq <;> cases hq
      exact ⟨ev_name rfl, ev_name rfl⟩
end Mine
end

section
open PySem PySem.W PyProof.Rows
namespace Mine
section
variable {C : Cx} {D : Muts} {σ : Vars} {s : Shared}
theorem barr_of {s : Shared} {b : Array UInt8} {a : Addr} (r : Cont C.prog C.w s.heap (own C.env C.Xc D) (.barr b) a) : s.heap.get? a = some { cls := .type "bytearray", data := .bytearray b } := by simpa only [Cont] using r
theorem x_setBarr {c : Addr} {b : Array UInt8} {ke de ve : Expr} {i x : Int} {spos pos : Pos} {rest : List Stmt} {Q : Flow → Shared → Prop} (a : AtC C ((c, .barr b) :: D) σ s) (hd : Ev C ((c, .barr b) :: D) σ de (.raw (.ref c)))
    (hk : Ev C ((c, .barr b) :: D) σ ke (.int i)) (hv : Ev C ((c, .barr b) :: D) σ ve (.int x)) (hsz : b.size ≤ 1000000) (h0 : 0 ≤ i) (h1 : i < b.size) (hx : 0 ≤ x ∧ x < 256)
    (k : ∀ s', AtC C ((c, .barr (b.setIfInBounds i.toNat x.toNat.toUInt8)) :: D) σ s' → Go C (execs rest C.env) Q s') (hs : swapsWith ve (some (.Subscript de ke spos)) pos.line C.env = pure false := by rfl) : Go C (execs (.Assign [.Subscript de ke spos] ve pos :: rest) C.env) Q s := by
  refine x_cons (wpAny_Assign_Subscript (hv s a _ fun v s₁ x₁ r₁ => hd s₁ (a.ext x₁) _ fun dv s₂ x₂ r₂ => hk s₂ (a.ext (x₁.trans x₂)) _ fun kv s₃ x₃ r₃ => ?_) hs)
  have a₃ := a.ext ((x₁.trans x₂).trans x₃)
  have := raw_of r₂; subst this
  obtain ⟨t, rfl⟩ := int_of r₃
  obtain ⟨u, rfl⟩ := int_of r₁
  have ho := barr_of (a₃.muts _ (.head _))
  refine ba_setItem ho hsz h0 h1 hx fun h' e' b' => ?_
  exact k _ (At.setMut a₃ ⟨h', s₃.toks, rfl⟩ (fun b o hb e => (b'.2 b hb).trans e) e')
end
variable {w : World} {mean : ExcName → Option Value} {mg mb : Str → Option Value}
set_option maxHeartbeats 2000000

def swapJ (data : List UInt8) (width i : Int) (acc : Array UInt8) (j : Int) : Option (Array UInt8) :=
  if acc.size ≤ 1000000 ∧ (0 ≤ i + width - 1 - j ∧ i + width - 1 - j < acc.size) ∧ (0 ≤ i + j ∧ i + j < data.length) then some (acc.setIfInBounds (i + width - 1 - j).toNat (data.getD (i + j).toNat 0)) else none
def swapI (data : List UInt8) (width : Int) (acc : Array UInt8) (i : Int) : Option (Array UInt8) := foldO (swapJ data width i) acc (rangeInts 0 1 (lenR 0 width))
def swapped (data : List UInt8) (width : Int) : Option (Array UInt8) := if (1 ≤ width ∧ width ≤ 1000) ∧ data.length ≤ 1000000 ∧ Builtin.Range.small 0 data.length width = true ∧ 0 ≤ Builtin.Range.rangeSize 0 data.length width then
  foldO (swapI data width) (Array.replicate data.length 0) (rangeInts 0 width (Builtin.Range.rangeSize 0 data.length width).toNat) else none
theorem byte_back (x : UInt8) : ((x.toNat : Int)).toNat.toUInt8 = x := by simp

theorem fn_byteswap (data : List UInt8) (width : Int) {r : Array UInt8} (hr : swapped data width = some r) : FnOkC PG w (Gx w mean mg mb) 154 1 [.bytes data.toArray, .int width] (.bytes r) := by
  rw [swapped, Option.ite_none_right_eq_some] at hr
  obtain ⟨⟨hw, hlen, hsm, hnn⟩, hr⟩ := hr
  refine fn_introC ["data", "width"] (gx_ok w mean mg mb) (fun h x => ⟨_, x.1 154 _ rfl, rfl, codeRec_of x.1 rfl⟩) rfl rfl rfl rfl rfl rfl (fun vs hv => by obtain ⟨v, u, rfl⟩ := len2 hv; rfl) (by decide) (by decide) (by decide) ?_
  intro A Z X L st rm a
  have hsz : data.toArray.size = data.length := by simp
  have hl : ∀ {D : Muts} {σ : Vars} {C : Cx} {e : Expr} {np : Pos} (pos : Pos), Ev C D σ e (.bytes data.toArray) → Ev C D σ (.Name "len" np) (.raw (.builtin "len")) → (starEach [e] C.env = (false, eval e C.env) :: starEach [] C.env) → Ev C D σ (.Call (.Name "len" np) [e] [] pos) (.int data.length) := fun pos he hf hst => by
    have := ev_len_bytes (pos := pos) hf he (by rw [hsz]; exact hlen) hst
    rw [hsz] at this; exact this
  refine xC_newBarr a (evB rfl rfl bo_bytearray) (hl _ (ev_name rfl) (evB rfl rfl bo_len) rfl) (by omega) (by omega) fun c s₁ a₁ => ?_
  refine wpC_any ?_
  have hrep : Array.replicate ((data.length : Int)).toNat (0 : UInt8) = Array.replicate data.length 0 := by simp
  rw [hrep] at a₁
  refine x_forF (l := rangeInts 0 width (Builtin.Range.rangeSize 0 data.length width).toNat) (emb := .int) (swapI data width) (fun b => [(c, .barr b)]) (fun _ => [("swapped_data", .raw (.ref c)), ("data", .bytes data.toArray), ("width", .int width)]) (fun x => [("i", .int x)]) (Array.replicate data.length 0) a₁
    (evi_range3 rm.1 (evB rfl rfl bo_range) ev_int (hl _ (ev_name rfl) (evB rfl rfl bo_len) rfl) (ev_name rfl) hsm (by omega) hnn (PyProof.noPylong_small (by omega))) rfl rfl
    (SubV.cons rfl (SubV.cons rfl (SubV.cons rfl SubV.nil))) (fun _ => rfl) (fun J h st x hx => binds_name rfl) hr ?_ ?_
  · intro J h b i b' s K _ hf a hk
    refine x_forF (l := rangeInts 0 1 (lenR 0 width)) (emb := .int) (swapJ data width i) (fun b => [(c, .barr b)]) (fun _ => [("i", .int i), ("swapped_data", .raw (.ref c)), ("data", .bytes data.toArray), ("width", .int width)]) (fun x => [("j", .int x)]) b a
      (evi_range1 rm.1 (evB rfl rfl bo_range) (ev_name rfl) (by constructor <;> omega)) rfl rfl
      (SubV.cons rfl (SubV.cons rfl (SubV.cons rfl (SubV.cons rfl SubV.nil)))) (fun _ => rfl) (fun J h st x hx => binds_name rfl) hf ?_ ?_
    · intro J h b j b' s K _ hf a hk
      rw [swapJ, Option.ite_none_right_eq_some] at hf
      obtain ⟨⟨h1, h2, h3⟩, hf⟩ := hf
      cases hf
      have hb := (data.getD (i + j).toNat 0).toNat_lt
      refine x_setBarr (x := ((data.getD (i + j).toNat 0).toNat : Int)) a (ev_name rfl) (ev_binop (ev_binop (ev_binop (ev_name rfl) (ev_name rfl) op_add) ev_int op_sub) (ev_name rfl) op_sub)
        (ev_item_bytes (ev_name rfl) (ev_binop (ev_name rfl) (ev_name rfl) op_add) hlen h3.1 h3.2) h1 h2.1 h2.2 (by omega) fun s' a' => ?_
      rw [byte_back] at a'
      exact x_nil (hk s' (a'.forget (SubV.cons rfl (SubV.cons rfl (SubV.cons rfl (SubV.cons rfl SubV.nil))))))
    · intro s' a'
      exact x_nil (x_nil (hk s' (a'.forget (SubV.cons rfl (SubV.cons rfl (SubV.cons rfl SubV.nil))))))
  · intro s' a'
    refine x_nil ?_
    have hrs : r.size ≤ 1000000 := by
      have inv : ∀ (l : List Int) (b b' : Array UInt8) (i : Int), foldO (swapJ data width i) b l = some b' → b'.size = b.size := by
        intro l
        induction l with
        | nil => intro b b' i h; simp only [foldO] at h; cases h; rfl
        | cons j l ih =>
          intro b b' i h
          simp only [foldO] at h
          cases e : swapJ data width i b j with
          | none => rw [e] at h; cases h
          | some b2 =>
            rw [e] at h
            rw [ih _ _ _ h]
            rw [swapJ, Option.ite_none_right_eq_some] at e
            cases e.2; exact Array.size_setIfInBounds
      have inv2 : ∀ (l : List Int) (b b' : Array UInt8), foldO (swapI data width) b l = some b' → b'.size = b.size := by
        intro l
        induction l with
        | nil => intro b b' h; simp only [foldO] at h; cases h; rfl
        | cons j l ih =>
          intro b b' h
          simp only [foldO] at h
          cases e : swapI data width b j with
          | none => rw [e] at h; cases h
          | some b2 =>
            rw [e] at h
            rw [ih _ _ h]
            exact inv _ _ _ _ e
      rw [inv2 _ _ _ hr, Array.size_replicate]; exact hlen
    refine x_return a' (ev_call_type (evB rfl rfl bo_bytes) (evl_cons (ev_name rfl) evl_nil) (fun s vs a r Q k => ?_)) fun v s'' x a'' r => ret_ok a'' r
    simp only [RepLC, RepL, Rep] at r
    obtain ⟨v, q, rfl, rfl, rfl⟩ := r
    exact bytes_of_barr (barr_of (a.muts _ (.head _))) hrs fun t n => k _ _ Ext.tok of_bytes
end Mine
end

section
open PySem PySem.W PyProof.Rows
namespace Mine
variable {w : World} {mean : ExcName → Option Value} {mg mb : Str → Option Value}
set_option maxHeartbeats 2000000

def wayStep (rec : List Int → Option (List (List Int))) (line : List Int) (acc : List (List Int)) (place : Int) : Option (List (List Int)) :=
  if line.length = 4 ∧ (0 ≤ place ∧ place < 3) then
    (if line.getD (place + 1).toNat 0 < line.getD place.toNat 0 then
      (match rec (polySwap line place) with
       | none => none
       | some ws => if acc.length + ws.length ≤ 1000000 ∧ (ws.all fun l => decide (l.length ≤ 1000)) = true then some (acc ++ ws.map fun l => (place + 1) :: l) else none)
     else some acc) else none
def ways : Nat → List Int → Option (List (List Int))
  | 0, _ => none
  | n + 1, line => match foldO (wayStep (ways n) line) [] (rangeInts 0 1 (lenR 0 3)) with
    | none => none
    | some l => some (if l = [] then [[]] else l)

theorem filterMap_all {α β : Type} (f : α → β) (l : List α) : l.filterMap (fun x => some (f x)) = l.map f := by
  induction l with
  | nil => rfl
  | cons a l ih => simp
theorem fn_ways : ∀ (n : Nat) (line : List Int) {r : List (List Int)}, ways n line = some r → FnOk PG w (Gx w mean mg mb) 178 n [.lst (line.map .int)] (.lst (intLists r)) := by
  intro n
  induction n with
  | zero => intro line r h; simp [ways] at h
  | succ n ih =>
  intro line r hr
  simp only [ways] at hr
  cases hw : foldO (wayStep (ways n) line) [] (rangeInts 0 1 (lenR 0 3)) with
  | none => rw [hw] at hr; cases hr
  | some l =>
  rw [hw] at hr
  simp only at hr
  cases hr
  refine fn_intro ["line"] (gx_ok w mean mg mb) (fun h x => ⟨_, x.1 178 _ rfl, rfl, codeRec_of x.1 rfl⟩) rfl rfl rfl rfl rfl rfl (fun vs hv => by obtain ⟨v, rfl⟩ := len1 hv; rfl) (by decide) (by decide) (by decide) ?_
  intro A Z X L s rm a
  refine x_newList a evl_nil (by decide) fun c s₁ a₁ => ?_
  refine x_forF (l := rangeInts 0 1 (lenR 0 3)) (emb := .int) (wayStep (ways n) line) (fun l => [(c, .lst (intLists l))]) (fun _ => [("ways", .raw (.ref c)), ("line", .lst (line.map .int))]) (fun x => [("place", .int x)]) [] a₁
      (evi_range1 rm.1 (evB rfl rfl bo_range) ev_int (by decide)) rfl rfl (SubV.cons rfl (SubV.cons rfl SubV.nil)) (fun _ => rfl) (fun J h st x hx => binds_name rfl) hw ?_ ?_
  · intro J h acc place acc' s K _ hf a hk
    rw [wayStep, Option.ite_none_right_eq_some] at hf
    obtain ⟨⟨h4, hp⟩, hf⟩ := hf
    have e1 := int_at (l := line) (i := place) (by omega) (by omega)
    have e2 := int_at (l := line) (i := place + 1) (by omega) (by omega)
    have h4' : (line.map PV.int).length = 4 := by simpa using h4
    refine x_if a (evb_compare (ev_item_list (evc_lst (ev_name rfl)) (ev_name rfl) (by omega) (by omega) e1) (ev_item_list (evc_lst (ev_name rfl)) (ev_binop (ev_name rfl) ev_int op_add) (by omega) (by omega) e2) op_gt) fun s₁ a₁ => ?_
    by_cases hc : line.getD (place + 1).toNat 0 < line.getD place.toNat 0
    · rw [if_pos hc] at hf
      rw [if_pos (by simpa using hc)]
      cases hd : ways n (polySwap line place) with
      | none => rw [hd] at hf; cases hf
      | some ws =>
      rw [hd] at hf
      simp only [Option.ite_none_right_eq_some] at hf
      obtain ⟨⟨hsz, hall⟩, hf⟩ := hf
      cases hf
      refine x_assign (d := .lst ((polySwap line place).map .int)) a₁ ?_ fun s₃ a₃ => ?_
      · have e : (polySwap line place).map PV.int = pickL (line.map PV.int) none (some place) ++ [.int (line.getD (place + 1).toNat 0), .int (line.getD place.toNat 0)] ++ pickL (line.map PV.int) (some (place + 2)) none := by
          unfold polySwap
          rw [pickL_map, pickL_map]; simp
        rw [e]
        have z1 : (pickL (line.map PV.int) none (some place)).length ≤ 4 := by unfold pickL; rw [List.length_take, List.length_drop]; omega
        have z2 : (pickL (line.map PV.int) (some (place + 2)) none).length ≤ 4 := by unfold pickL; rw [List.length_take, List.length_drop]; omega
        refine ev_binop (ev_binop (ev_slice_list (evc_lst (ev_name rfl)) evp_none (evp_int (ev_name rfl)) (by omega))
          (ev_list (evl_cons (ev_item_list (evc_lst (ev_name rfl)) (ev_binop (ev_name rfl) ev_int op_add) (by omega) (by omega) e2) (evl_cons (ev_item_list (evc_lst (ev_name rfl)) (ev_name rfl) (by omega) (by omega) e1) evl_nil)) (Nat.le_of_ble_eq_true rfl)) (op_concat ?_))
          (ev_slice_list (evc_lst (ev_name rfl)) (evp_int (ev_binop (ev_name rfl) ev_int op_add)) evp_none (by omega)) (op_concat ?_)
        · rw [sizeLine_eq, List.length_cons, List.length_singleton]; omega
        · rw [sizeLine_eq, List.length_append, List.length_cons, List.length_singleton]; omega
      · have hlen : (intLists acc).length = acc.length := by simp [intLists]
        refine x_iaddMut (l' := intLists (ws.map fun l => (place + 1) :: l)) a₃ rfl ?_ (by rw [hlen]; simp only [intLists, List.length_map]; exact hsz) fun s₄ a₄ => ?_
        · have e : intLists (ws.map fun l => (place + 1) :: l) = ws.filterMap fun l => some (.lst (((place + 1) :: l).map .int)) := by
            rw [filterMap_all]; simp [intLists]
          rw [e]
          refine ev_lc1 (comp_list (items := ws) (emb := fun l => .lst (l.map .int)) (σ' := [("place", .int place)]) _ (fun l => [("way", .lst (l.map .int))]) (gx_ok w mean mg mb)
            (evi_list rm.1 (ev_call_fn (gx_ok w mean mg mb) (evG rfl rfl) (fun h x => ⟨_, x.1 178 _ rfl, rfl, codeRec_of x.1 rfl⟩) (ih _ hd) rm (evl_cons (ev_name rfl) evl_nil))) rfl (by omega) (SubV.cons rfl SubV.nil) (fun _ _ _ _ n hn => binds_name rfl) ?_ (fun n hn => SubV.cons rfl SubV.nil))
          intro Cc B W X' D' l hl
          refine ⟨tests_nil, fun d' hd' => ?_⟩
          cases hd'
          have hll : l.length ≤ 1000 := by simpa using List.all_eq_true.mp hall l hl
          exact ev_binop (ev_list (evl_cons (ev_binop (ev_name rfl) ev_int op_add) evl_nil) (Nat.le_of_ble_eq_true rfl)) (ev_name rfl) (op_concat (by rw [sizeLine_eq, List.length_singleton, List.length_map]; omega))
        · have e : intLists acc ++ intLists (ws.map fun l => (place + 1) :: l) = intLists (acc ++ ws.map fun l => (place + 1) :: l) := by simp [intLists]
          rw [e] at a₄
          exact x_nil (x_nil (hk s₄ (a₄.forget (SubV.cons rfl (SubV.cons rfl SubV.nil)))))
    · rw [if_neg hc] at hf
      cases hf
      rw [if_neg (by simpa using hc)]
      exact x_nil (x_nil (hk s₁ (a₁.forget (SubV.cons rfl (SubV.cons rfl SubV.nil)))))
  · intro s' a'
    refine x_nil ?_
    have a2 := (At.freeze a' (σ' := [("ways", .lst (intLists l))]) (FrzV.turn rfl FrzV.nil)).1
    refine x_return a2 (ev_ifexp (evb_compare (ev_name rfl) (ev_list evl_nil (by decide)) (op_neLL (l' := []) rm.units)) (fun h => ?_) (fun h => ?_)) fun v s'' x a'' r => ret_ok a'' r
    · have hl : l ≠ [] := by simpa using h
      rw [if_neg hl]; exact ev_name rfl
    · have hl : l = [] := by simpa using h
      rw [if_pos hl]; exact ev_list (evl_cons (ev_list evl_nil (by decide)) evl_nil) (Nat.le_of_ble_eq_true rfl)
end Mine
end

section
open PySem PySem.W PyProof.Rows
namespace Mine
set_option maxHeartbeats 2000000
/-- a list of ints that somebody else laid -/
def scriptS (l : List Int) : Stb where
  p := fun h X v => ∃ a vs, v = .ref a ∧ ¬ X a ∧ h.IsList a (List.toArray vs) ∧ IntsAre vs l
  mono := by
    rintro h h' X X' v hX hk ⟨a, vs, e, n, hl, hi⟩
    obtain ⟨o, ho⟩ := isList_some hl
    refine ⟨a, vs, e, fun q => ?_, IsList.at1 hl fun o e => hk a o n e, hi⟩
    rcases hX a q with z | z
    · exact n z
    · rw [ho] at z; cases z
theorem rep_ints {prog : Program} {w : World} {h : Heap} {X : Addr → Prop} : ∀ {vs : List Value} {l : List Int}, IntsAre vs l → RepL prog w h X (l.map .int) vs
  | _, _, .nil => RepL.nil
  | _, _, .cons n t r => RepL.cons (by simp only [Rep]; exact ⟨t, rfl⟩) (rep_ints r)
theorem RepL.set {prog : Program} {w : World} {h : Heap} {X : Addr → Prop} {d : PV} {v : Value} (q : Rep prog w h X d v) : ∀ {l : List PV} {vs : List Value} (n : Nat), RepL prog w h X l vs → RepL prog w h X (l.set n d) (vs.set n v)
  | [], vs, n, r => by simp only [RepL] at r; subst r; exact RepL.nil
  | e :: l, vs, n, r => by
    simp only [RepL] at r
    obtain ⟨u, us, rfl, h1, h2⟩ := r
    cases n with
    | zero => exact RepL.cons q h2
    | succ n => exact RepL.cons h1 (RepL.set q n h2)
section
variable {C : Cx} {D : Muts} {σ : Vars} {s : Shared}
theorem ev_slice_script {value : Expr} {lower upper : Option Expr} {p pos : Pos} {l : List Int} {lo hi : Option Int} (hv : Ev C D σ value (.any (scriptS l))) (hl : EvP C D σ lower lo) (hu : EvP C D σ upper hi) (hsz : l.length ≤ 1000000)
    (ht : ∀ o r, letTemporaryGo value o r = pure () := by intro _ _; rfl) : Ev C D σ (.Subscript value (.Slice lower upper none p) pos) (.lst ((pickL l lo hi).map .int)) := by
  intro s a Q k
  refine wpAny_Subscript_list_slice (hv s a _ fun v s₁ x₁ r₁ => hl s₁ (a.ext x₁) _ fun vl s₂ x₂ pl => hu s₂ (a.ext (x₁.trans x₂)) _ fun vu s₃ x₃ pu => ?_) ht
  simp only [RepC, Rep] at r₁
  obtain ⟨ad, vs, rfl, nX, hls, hi'⟩ := r₁
  have hls' := IsList.at1 hls fun o e => x₃.grow _ _ (x₂.grow _ _ e)
  refine ⟨ad, vs.toArray, lo, hi, rfl, hls', by rw [List.size_toArray, hi'.length, sizeLine_eq]; omega, pl, pu, ?_⟩
  have x := ((x₁.trans x₂).trans x₃)
  have g : Grow s₃.heap ((s₃.heap.push { cls := .type "slice", data := .fields #[vl, vu, .none] }).push { cls := .type "list", data := .seq (slicePick vs.toArray lo hi none) }) := (Grow.push _ _).trans (Grow.push _ _)
  refine k _ _ (x.trans (Ext.heap g)) ?_
  simp only [RepC, Rep]
  have hn : s₃.heap.get? (s₃.heap.objs.size + 1) = none := fresh_ge (Nat.le_succ _)
  refine ⟨_, rfl, not_own_new (a.ext x) hn, pickL vs lo hi, ⟨0, ?_⟩, ?_⟩
  · rw [← pick_eq]
    have hIt := Heap.get?_push_size (s₃.heap.push { cls := .type "slice", data := .fields #[vl, vu, .none] }) (o := { cls := .type "list", data := .seq (slicePick vs.toArray lo hi none) }) rfl
    rw [Heap.size_push] at hIt
    exact hIt
  · rw [← pickL_map]
    exact RepL.pick lo hi (rep_ints hi')

theorem x_augItem {c : Addr} {l : List PV} {ke de ve : Expr} {op : Operator} {i : Int} {x y z : PV} {spos pos : Pos} {rest : List Stmt} {Q : Flow → Shared → Prop} (a : AtC C ((c, .lst l) :: D) σ s) (hd : Ev C ((c, .lst l) :: D) σ de (.raw (.ref c)))
    (hk : Ev C ((c, .lst l) :: D) σ ke (.int i)) (hv : Ev C ((c, .lst l) :: D) σ ve x) (h0 : 0 ≤ i) (h1 : i < 2 ^ 63) (hg : l[i.toNat]? = some y) (ho : Op2 C ((c, .lst l) :: D) σ (inplaceOp op) y x z)
    (k : ∀ s', AtC C ((c, .lst (l.set i.toNat z)) :: D) σ s' → Go C (execs rest C.env) Q s')
    (hi : ∀ ov iv new, augStore ke ov iv new = (do holding [new, ov, iv] (setItem ov iv new); release [new, ov, iv] []; pure .next) := by intros; rfl) : Go C (execs (.AugAssign (.Subscript de ke spos) op ve pos :: rest) C.env) Q s := by
  refine x_cons (wpAny_AugAssign_SubscriptAny (hd s a _ fun dv s₁ x₁ r₁ => hk s₁ (a.ext x₁) _ fun kv s₂ x₂ r₂ => ?_) hi)
  have a₂ := a.ext (x₁.trans x₂)
  have := raw_of r₁; subst this
  obtain ⟨t, rfl⟩ := int_of r₂
  obtain ⟨vs, hl, hr⟩ := plst_of (a₂.muts _ (.head _))
  obtain ⟨u, hu, hru⟩ := hr.get _ hg
  refine wpAny_getItem_list (PlainList.isL hl) h0 h1 (by simpa using hu) ?_
  refine hv s₂ a₂ _ fun v s₄ x₄ r₄ => ho s₄ _ _ (a₂.ext x₄) (Rep.grow hru x₄.grow) r₄ _ fun nv s₅ x₅ r₅ => ?_
  have a₅ := a₂.ext (x₄.trans x₅)
  obtain ⟨vs', ⟨n, hl'⟩, hr'⟩ := plst_of (a₅.muts _ (.head _))
  have hlt : i.toNat < l.length := (List.getElem?_eq_some_iff.mp hg).1
  refine ki_setAt (n := n) (items := vs'.toArray) hl' h0 h1 (by rw [List.size_toArray, RepL.length hr']; omega) ?_
  have hup := PySem.IsL.update (n := n) hl' (fun x => x.setIfInBounds i.toNat nv)
  have e : vs'.toArray.setIfInBounds i.toNat nv = (vs'.set i.toNat nv).toArray := by simp
  rw [e] at hup
  have hsame : Heap.SameBut c s₅.heap (s₅.heap.update c (Obj.mapSeq fun xs => xs.setIfInBounds i.toNat nv)) := Heap.SameBut.update ..
  have kp : Keep (own C.env C.Xc ((c, .lst l) :: D)) s₅.heap (s₅.heap.update c (Obj.mapSeq fun xs => xs.setIfInBounds i.toNat nv)) := fun b o nb e => (hsame.2 b (not_own_ne nb own_head)).trans e
  exact k _ (At.setMut a₅ ⟨_, s₅.toks, rfl⟩ (fun b o hb e => (hsame.2 b hb).trans e) ⟨vs'.set i.toNat nv, ⟨_, hup⟩, RepL.set (r₅.keep kp) _ (hr'.keep kp)⟩)
end

variable {w : World} {mean : ExcName → Option Value} {mg mb : Str → Option Value}
def drawE (x : Int) : Int := if 0 ≤ x then x.fmod (10 ^ 40) else -((-x).fmod (10 ^ 40))
def drawF (d : List Int) (p : Int × Int) : Option (List Int) := if d.length = 4 ∧ 0 ≤ p.1 then some (d.set (p.1.fmod 4).toNat (d.getD (p.1.fmod 4).toNat 0 + drawE p.2)) else none
def numbered (l : List Int) : List (Int × Int) := l.mapIdx fun n x => ((n : Int), x)
def drawn (script : List Int) : Option (List Int) := foldO drawF [6642, 5401, 6610, 5056] (numbered (pickL script none (some 20)))

theorem fn_draws (script : List Int) (hsz : script.length ≤ 1000) {r : List Int} (hr : drawn script = some r) : FnOk PG w (Gx w mean mg mb) 161 1 [.any (scriptS script)] (.lst (r.map .int)) := by
  refine fn_intro ["script"] (gx_ok w mean mg mb) (fun h x => ⟨_, x.1 161 _ rfl, rfl, codeRec_of x.1 rfl⟩) rfl rfl rfl rfl rfl rfl (fun vs hv => by obtain ⟨v, rfl⟩ := len1 hv; rfl) (by decide) (by decide) (by decide) ?_
  intro A Z X L s rm a
  refine x_newList (ds := ([6642, 5401, 6610, 5056] : List Int).map .int) a (evl_cons ev_int (evl_cons ev_int (evl_cons ev_int (evl_cons ev_int evl_nil)))) (Nat.le_of_ble_eq_true rfl) fun c s₁ a₁ => ?_
  have hsl : ∀ {C : Cx} {D : Muts} {σ : Vars} {e : Expr}, EvI C D σ 0 tgtTuple e ((((pickL script none (some 20)).map PV.int)).mapIdx fun n d => .tup [.int n, d]) → EvI C D σ 0 tgtTuple e ((numbered (pickL script none (some 20))).map fun p => .tup [.int p.1, .int p.2]) := fun h => by
    have e : (numbered (pickL script none (some 20))).map (fun p => PV.tup [.int p.1, .int p.2]) = ((pickL script none (some 20)).map PV.int).mapIdx fun n d => .tup [.int n, d] := by
      unfold numbered
      refine List.ext_getElem? fun i => ?_
      simp only [List.getElem?_map, List.getElem?_mapIdx, Option.map_map, Function.comp_def]
    rw [e]; exact h
  refine x_forF (l := numbered (pickL script none (some 20))) (emb := fun p => .tup [.int p.1, .int p.2]) drawF (fun d => [(c, .lst (d.map .int))]) (fun _ => [("draws", .raw (.ref c))]) (fun p => [("x", .int p.2), ("place", .int p.1)]) [6642, 5401, 6610, 5056] a₁
    (hsl (evi_enum rm.1 (evB rfl rfl bo_enumerate) (ev_slice_script (ev_name rfl) evp_none (evp_int ev_int) (by omega)))) rfl rfl (SubV.cons rfl SubV.nil) (fun _ => rfl) (fun J h st x hx => binds_pair rm.1 rfl rfl) hr ?_ ?_
  · intro J h d p d' s K _ hf a hk
    rw [drawF, Option.ite_none_right_eq_some] at hf
    obtain ⟨⟨h4, hp⟩, hf⟩ := hf
    cases hf
    have b0 : 0 ≤ p.1.fmod 4 := Int.fmod_nonneg_of_pos _ (by decide)
    have b1 : p.1.fmod 4 < 4 := Int.fmod_lt_of_pos _ (by decide)
    refine x_augItem (x := .int (drawE p.2)) (y := .int (d.getD (p.1.fmod 4).toNat 0)) (z := .int (d.getD (p.1.fmod 4).toNat 0 + drawE p.2)) a (ev_name rfl) (ev_binop (ev_name rfl) ev_int (op_mod (by decide)))
      (ev_ifexp (evb_compare (ev_name rfl) ev_int op_ge) (fun h => ?_) (fun h => ?_)) b0 (by omega) (int_at b0 (by omega)) op_iadd fun s' a' => ?_
    · have h : 0 ≤ p.2 := by simpa using h
      unfold drawE
      rw [if_pos h]
      exact ev_binop (ev_name rfl) (ev_binop ev_int ev_int (op_pow (by decide) (by decide) (by decide))) (op_mod (by decide))
    · have h : ¬ 0 ≤ p.2 := by simpa using h
      unfold drawE
      rw [if_neg h]
      exact ev_unary (ev_binop (ev_unary (ev_name rfl) op_neg) (ev_binop ev_int ev_int (op_pow (by decide) (by decide) (by decide))) (op_mod (by decide))) op_neg
    · rw [← List.map_set] at a'
      exact x_nil (hk s' (a'.forget (SubV.cons rfl SubV.nil)))
  · intro s' a'
    refine x_nil ?_
    refine x_return a' (ev_name rfl) fun v s'' x a'' rr => ?_
    have := raw_of rr; subst this
    obtain ⟨a3, r3⟩ := At.freeze a'' (σ' := []) (fun x e h => by simp at h)
    exact ret_ok a3 r3
end Mine
end

section
open PySem PySem.W PyProof.Rows
namespace Mine
set_option maxHeartbeats 2000000
/-- an int made before M -/
def lowS (i : Int) (M : Nat) : Stb where
  p := fun h X v => ∃ t : Nat, v = .int i t ∧ 0 < t ∧ t < M
  mono := fun _ _ _ _ _ _ _ x => x
/-- an int made from M on -/
def highS (i : Int) (M : Nat) : Stb where
  p := fun h X v => ∃ t : Nat, v = .int i t ∧ M ≤ t
  mono := fun _ _ _ _ _ _ _ x => x
def lows (l : List Int) (M : Nat) : List PV := l.map fun i => .any (lowS i M)

section
variable {prog : Program} {w : World} {A : Around} {M : Nat} {I : Addr} {Y : Addr → Prop}
theorem It.rangeM {a c : Int} {n : Nat} (hh : A.handled = none) (hI : ¬ Y I) :
    It prog w A M tgtOk [I] I Y ((List.range n).map fun i : Nat => PV.any (highS (a + (i : Int) * c) M)) (fun i h => IsRangeIter h I (a + (i : Nat) * c) ((n : Int) - (i : Nat)) c) where
  here := fun i h st b hb => by rw [List.mem_singleton.mp hb]; exact ⟨_, st⟩
  frame := fun i h h' st k => k _ _ hI st
  item := fun i d s tgt Q hx st hM _ _ hQ => by
    have hlt : i < n := by have := (List.getElem?_eq_some_iff.mp hx).1; simpa using this
    have hd : d = PV.any (highS (a + (i : Int) * c) M) := by
      simp only [List.getElem?_map, List.getElem?_range hlt, Option.map_some, Option.some.injEq] at hx
      exact hx.symm
    refine wpAny_pyNext_range_item st (by omega) fun h' hit hs => ?_
    refine letGo_plain (fun _ e => by cases e) (hQ _ _ ⟨h', _, rfl⟩ (fun b o hb e => (hs.2 b (fun q => hb (by simp [q]))).trans e) ?_ ?_)
    · have e1 : a + (((i + 1 : Nat)) : Int) * c = a + (i : Int) * c + c := by push_cast; rw [Int.add_mul, Int.one_mul, Int.add_assoc]
      have e2 : (n : Int) - ((i + 1 : Nat) : Int) = (n : Int) - (i : Int) - 1 := by push_cast; omega
      rw [e1, e2]; exact hit
    · rw [hd]
      simp only [Rep]
      exact ⟨_, rfl, hM⟩
  done := fun s Q st hQ => by
    have hl : ((List.range n).map fun i : Nat => PV.any (highS (a + (i : Int) * c) M)).length = n := by simp
    rw [hl] at st
    exact wpAny_pyNext_range_end hh st (by omega) fun h' he => hQ _ ⟨h', _, rfl⟩ fun b o hb e => he b o (fun q => hb (by simp [q])) e
  self := fun i s Q st hQ => (It.range (prog := prog) (w := w) (M := M) (Y := Y) (a := a) (c := c) (n := n) hh hI).self i s Q st hQ
end

section
variable {C : Cx} {D : Muts} {σ : Vars} {s : Shared} {M : Nat}
theorem go_rangeIterM {r : Addr} {n : Nat} {t u v : Tok} {s₁ : Shared} {Q : Value → Shared → Prop} (hh : C.A.handled = none) (at₁ : AtC C D σ s) (x₁ : Ext s s₁) (hr : IsRange s₁.heap r 0 n 1 t u v) (hb : n ≤ 1000000)
    (k : ∀ J I s', Ext s s' → (∀ b ∈ J, s.heap.get? b = none) → (∀ Y : Addr → Prop, (∀ b, Y b → own C.env C.Xc D b ∨ s'.heap.get? b = none) → ∃ St, It C.prog C.w C.A M tgtOk J I Y ((List.range n).map fun i : Nat => PV.any (highS i M)) St ∧ St 0 s'.heap) → Q (.ref I) s') : Go C (pyIter (.ref r)) Q s₁ := by
  have hI : s₁.heap.get? s₁.heap.objs.size = none := fresh_ge (Nat.le_refl _)
  have e0 : ((List.range n).map fun i : Nat => PV.any (highS i M)) = (List.range n).map fun i : Nat => PV.any (highS (0 + (i : Int) * 1) M) := by simp
  rw [e0] at k
  refine wpAny_pyIter_range hr (small_one (by decide) (by decide) (by omega) (by omega)) ?_
  refine k [s₁.heap.objs.size] _ _ (x₁.trans (Ext.push _)) (new_ones x₁ (by simpa using hI)) fun Y hY => ⟨_, It.rangeM (a := 0) (c := 1) (n := n) hh (notY hY (not_own_new (at₁.ext x₁) hI) (Heap.get?_push_size _ rfl)), ?_⟩
  have e1 : (0 : Int) + ((0 : Nat) : Int) * 1 = 0 := by simp
  have e2 : ((n : Nat) : Int) - ((0 : Nat) : Int) = Builtin.Range.rangeSize 0 n 1 := by rw [rangeSize_one]; split <;> omega
  show IsRangeIter _ _ _ _ _
  rw [e1, e2]
  exact Heap.get?_push_size _ rfl
theorem evi_range1M {fx : Str} {np pos : Pos} {e : Expr} {n : Nat} (hh : C.A.handled = none) (hf : Ev C D σ (.Name fx np) (.raw (.type "range"))) (he : Ev C D σ e (.int n)) (hb : n ≤ 1000000)
    (hst : starEach [e] C.env = (false, eval e C.env) :: starEach [] C.env := by rfl) : EvI C D σ M tgtOk (.Call (.Name fx np) [e] [] pos) ((List.range n).map fun i : Nat => PV.any (highS i M)) := by
  intro s a hM Q k
  refine go_call_type a hf (evl_cons he evl_nil hst) (fun s₁ vs x₁ a₁ r₁ => ?_) hst
  simp only [RepLC, RepL, Rep] at r₁
  obtain ⟨v, r, rfl, ⟨t, rfl⟩, rfl⟩ := r₁
  refine call_range_1 ?_
  exact go_rangeIterM hh a (x₁.trans (Ext.mk' (Grow.push _ _))) (Heap.get?_push_size _ rfl) hb k

/-! is, == of such ints -/
theorem op_isTok {x y : Int} (hx : smallInt x = true) (hM : 0 < M) : Op2 C D σ (compareOp .Is) (.any (lowS x M)) (.any (highS y M)) (.bool (x == y)) := by
  intro s u v _ ru rv Q k
  simp only [RepC, Rep] at ru rv
  obtain ⟨t, rfl, t0, t1⟩ := ru
  obtain ⟨t', rfl, t2⟩ := rv
  have e1 : (t == 0) = false := by simp; omega
  have e2 : (t' == 0) = false := by simp; omega
  have e3 : (t == t') = false := by simp; omega
  show Go C (isSame (.int x t) (.int y t') >>= fun b => pure (.bool b)) Q s
  have e : isSame (.int x t) (.int y t') = (if (x == y && smallInt x) = true then isSame.cachedInt t t' else isSame.created (x == y) t t') := rfl
  rw [e]
  refine wpAny_bind ?_
  cases h : (x == y) with
  | true =>
    rw [hx]
    refine bm_if_true rfl ?_
    unfold isSame.cachedInt
    refine bm_if_false (by rw [e1, e2]; rfl) ?_
    refine wpAny_bind (wpAny_rule (wpAny_pure (wpAny_pure ?_)))
    exact k _ _ (Ext.refl s) (h ▸ of_bool)
  | false =>
    refine bm_if_false rfl ?_
    unfold isSame.created
    refine bm_if_false (by rw [e1, e2]; rfl) ?_
    refine bm_if_false e3 ?_
    refine bm_if_true rfl ?_
    exact wpAny_pure (wpAny_pure (k _ _ (Ext.refl s) (h ▸ of_bool)))
theorem op_eqTok {x y : Int} : Op2 C D σ (compareOp .Eq) (.any (lowS x M)) (.any (highS y M)) (.bool (x == y)) := by
  intro s u v _ ru rv Q k
  simp only [RepC, Rep] at ru rv
  obtain ⟨t, rfl, t0, t1⟩ := ru
  obtain ⟨t', rfl, t2⟩ := rv
  exact PyProof.Rows.eq_int (k _ _ (Ext.refl _) of_bool)
theorem lows_weak {prog : Program} {w : World} {h : Heap} {X : Addr → Prop} : ∀ {l : List Int} {vs : List Value}, RepL prog w h X (lows l M) vs → RepL prog w h X (l.map .int) vs
  | [], vs, r => r
  | i :: l, vs, r => by
    simp only [lows, List.map_cons, RepL, Rep] at r
    obtain ⟨v, q, rfl, ⟨t, rfl, _⟩, r⟩ := r
    exact RepL.cons (by simp only [Rep]; exact ⟨t, rfl⟩) (lows_weak (l := l) r)
theorem ev_weak {e : Expr} {l : List Int} (h : Ev C D σ e (.lst (lows l M))) : Ev C D σ e (.lst (l.map .int)) := by
  intro s a Q k
  refine h s a _ fun v s₁ x₁ r₁ => k v s₁ x₁ ?_
  obtain ⟨b, vs, rfl, n, hl, hr⟩ := r₁.plain_lst
  simp only [RepC, Rep]
  exact ⟨b, rfl, n, vs, hl, lows_weak hr⟩
end
end Mine
end

section
open PySem PySem.W PyProof.Rows
namespace Mine
set_option maxHeartbeats 2000000
variable {w : World} {mean : ExcName → Option Value} {mg mb : Str → Option Value}
def idxStep (y : Int) (_ : Unit) (p : Int × Int) : Option (Unit ⊕ PV) := if (p.2 == y) = true then some (.inr (.int p.1)) else some (.inl ())
theorem foldE_idx (y : Int) : ∀ (l : List Int) (n : Nat), y ∈ l → foldE (idxStep y) () (l.mapIdx fun m x => (((m + n : Nat) : Int), x)) = some (.inr (.int ((l.idxOf y + n : Nat) : Int)))
  | [], _, h => by cases h
  | x :: l, n, h => by
    rw [List.mapIdx_cons]
    by_cases e : x = y
    · subst e
      simp [foldE, idxStep]
    · have hm : y ∈ l := by
        rcases List.mem_cons.mp h with h | h
        · exact absurd h.symm e
        · exact h
      have ih := foldE_idx y l (n + 1) hm
      have e2 : idxStep y () (((0 + n : Nat) : Int), x) = some (.inl ()) := by
        unfold idxStep
        rw [if_neg]
        simpa using e
      simp only [foldE, e2]
      have e3 : (fun (m : Nat) (x : Int) => (((m + 1 + n : Nat) : Int), x)) = fun m x => (((m + (n + 1) : Nat) : Int), x) := by
        funext m x
        rw [Nat.add_assoc, Nat.add_comm 1 n]
      rw [e3, ih]
      have e4 : (x :: l).idxOf y = l.idxOf y + 1 := by
        rw [List.idxOf_cons, show (x == y) = false by simpa using e]
        rfl
      rw [e4, Nat.add_assoc, Nat.add_comm 1 n]

theorem fn_indexOf (l : List Int) (y : Int) (M : Nat) (hM : 0 < M) (hl : ∀ x ∈ l, smallInt x = true) (hy : y ∈ l) : FnOk PG w (Gx w mean mg mb) 70 1 [.lst (lows l M), .any (highS y M)] (.int (l.idxOf y : Nat)) := by
  refine fn_intro ["a", "b"] (gx_ok w mean mg mb) (fun h x => ⟨_, x.1 70 _ rfl, rfl, codeRec_of x.1 rfl⟩) rfl rfl rfl rfl rfl rfl (fun vs hv => by obtain ⟨v, u, rfl⟩ := len2 hv; rfl) (by decide) (by decide) (by decide) ?_
  intro A Z X L st rm a
  have hsl : ∀ {C : Cx} {D : Muts} {σ : Vars} {e : Expr}, EvI C D σ 0 tgtTuple e ((lows l M).mapIdx fun n d => .tup [.int n, d]) → EvI C D σ 0 tgtTuple e ((numbered l).map fun p => .tup [.int p.1, .any (lowS p.2 M)]) := fun h => by
    have e : (numbered l).map (fun p => PV.tup [.int p.1, .any (lowS p.2 M)]) = (lows l M).mapIdx fun n d => .tup [.int n, d] := by
      unfold numbered lows
      refine List.ext_getElem? fun i => ?_
      simp only [List.getElem?_map, List.getElem?_mapIdx, Option.map_map, Function.comp_def]
    rw [e]; exact h
  have hf : foldE (idxStep y) () (numbered l) = some (.inr (.int (l.idxOf y : Nat))) := by
    have := foldE_idx y l 0 hy
    simpa [numbered] using this
  refine x_for (l := numbered l) (emb := fun p => .tup [.int p.1, .any (lowS p.2 M)]) (idxStep y) (fun _ => []) (fun _ => [("b", .any (highS y M))]) (fun p => [("j", .any (lowS p.2 M)), ("i", .int p.1)]) () a (hsl (evi_enum rm.1 (evB rfl rfl bo_enumerate) (ev_name rfl))) rfl rfl
    (SubV.cons rfl SubV.nil) (fun _ => rfl) (fun J h st x hx => binds_pair rm.1 rfl rfl) ?_ hf ?_ ?_
  · intro J h _ p s K hp a hk hr hne
    have hx : smallInt p.2 = true := by
      unfold numbered at hp
      rw [List.mem_mapIdx] at hp
      obtain ⟨i, hi, rfl⟩ := hp
      exact hl _ (List.getElem_mem hi)
    refine x_if a (evb_or (evb_compare (ev_name rfl) (ev_name rfl) (op_isTok hx hM)) fun _ => evb_compare (ev_name rfl) (ev_name rfl) op_eqTok) fun s₁ a₁ => ?_
    rw [Bool.or_self]
    cases e : (p.2 == y) with
    | true =>
      rw [if_pos rfl]
      exact x_return a₁ (ev_name rfl) fun v s' x a' rr => hr _ v s' _ _ (by unfold idxStep; rw [if_pos e]) a' rr
    | false =>
      rw [if_neg (by decide)]
      exact x_nil (x_nil (hk () s₁ (by unfold idxStep; rw [if_neg (by rw [e]; decide)]) (a₁.forget (SubV.cons rfl SubV.nil))).1)
  · intro sN s' e; cases e
  · intro rr v s' D' σ' e a' hr
    cases e; exact ret_ok a' hr
end Mine
end

section
open PySem PySem.W PyProof.Rows
namespace Mine
variable {w : World} {mean : ExcName → Option Value} {mg mb : Str → Option Value}
set_option maxHeartbeats 2000000

theorem go_method {prog : Program} {w : World} {A : Around} {E : Value → Shared → Prop} {s : Shared} {env : Env} {o : Expr} {name : Str} {apos pos : Pos} {args : List Expr} {trees : List (Bool × Sem Value)} {Q : Value → Shared → Prop}
    (hbase : attributeBase o name env (eval o env) = eval o env)
    (hfew : ((backTo pos (starEach args env)).all (fun x => !x.1) && (backToKw pos (keywordEach [] env)).all (fun x => x.1.isSome)
      && decide (args.length + ([] : List Keyword).length + (if ([] : List Keyword).isEmpty then 0 else 1) < 30)) = true)
    (hline : (apos.endLine == pos.line) = true) (htrees : backTo pos (starEach args env) = trees)
    (h : wpAny (model prog w) A (eval o env) (fun ov s₁ => ∀ pl, wpAny (model prog w) A (getMethod ov name pl) (fun m s₂ => wpAny (model prog w) A (callWith pos m.1 m.2 trees []) Q E s₂) E s₁) E s) :
    wpAny (model prog w) A (eval (.Call (.Attribute o name apos) args [] pos) env) Q E s := by
  subst htrees
  rw [arm_eval_Call, hbase]
  refine wpAny_bind (wpAny_mono h (fun ov s₁ h₁ => ?_) fun _ _ e => e)
  refine wpAny_bind (wpAny_standAt ?_)
  have hform : methodCallForm (args.length + ([] : List Keyword).length) (backTo pos (starEach args env)) (backToKw pos (keywordEach [] env)) = true := hfew
  have hpos : methodCallPos true o env apos pos = pure pos := by unfold methodCallPos; simp [hline]
  unfold methodCall
  rw [hform]
  refine wpAny_bind (wpAny_holding (wpAny_mono (h₁ _) (fun m s₂ h₂ => ?_) fun _ _ e => e))
  exact wpAny_bind (wpAny_of_eq hpos h₂)

theorem ev_compareCall {A : Around} {B : Heap} {W : Addr → Prop} {Z : Shared} {env : Env} {Xc : Addr → Prop} {D : Muts} {σ : Vars} {o e1 e2 : Expr} {apos pos : Pos} {cols : List (Int × Int)} {r q : Row} (hc : ∀ q ∈ cols, Key q.1) (rm : Room A 1)
    (ho : Ev ⟨PG, w, A, Gx w mean mg mb, B, W, Z, env, Xc⟩ D σ o (.any (judgeS w cols))) (h1 : Ev ⟨PG, w, A, Gx w mean mg mb, B, W, Z, env, Xc⟩ D σ e1 r.pv) (h2 : Ev ⟨PG, w, A, Gx w mean mg mb, B, W, Z, env, Xc⟩ D σ e2 q.pv)
    (hbase : attributeBase o "compare" env (eval o env) = eval o env := by rfl) (hline : (apos.endLine == pos.line) = true := by rfl)
    (htrees : backTo pos (starEach [e1, e2] env) = [(false, eval e1 env), (false, eval e2 env)] := by rfl) :
    Ev ⟨PG, w, A, Gx w mean mg mb, B, W, Z, env, Xc⟩ D σ (.Call (.Attribute o "compare" apos) [e1, e2] [] pos) (.int (cmpV r q cols)) := by
  intro s a Q k
  refine go_method hbase (by rw [htrees]; rfl) hline htrees (ho s a _ fun ov s₁ x₁ r₁ => ?_)
  intro pl
  have a₁ := a.ext x₁
  have X : (KF w).In s₁.heap := (a₁.globNow (gx_ok w mean mg mb).mono).1
  have r₁' := r₁
  simp only [RepC, Rep] at r₁
  obtain ⟨x, dx, od, v0, rfl, n1, n2, g1, g2, l1, l2, rc⟩ := r₁
  have I : InstAt s₁.heap x (instObj 38 dx) 38 (some od) := ⟨g1, rfl, rfl, g2⟩
  refine method_fn X I TC.getattribute TC.getattr TC.compare TC.fcompare l2 ?_
  obtain ⟨o35, fd35, h35, d35⟩ : ∃ o fd, s₁.heap.get? 35 = some o ∧ o.data = .func fd := ⟨_, _, X 35 _ rfl, rfl⟩
  refine Calls.callWith_function (o := o35) (fd := fd35) ?_
  refine Calls.evalArgs_plain ?_
  refine Calls.spliced_cons (h1 s₁ a₁ _ fun v1 s₂ x₂ r₂ => Calls.spliced_cons (h2 s₂ (a₁.ext x₂) _ fun v2 s₃ x₃ r₃ => Calls.spliced_nil ?_))
  have a₃ := a₁.ext (x₂.trans x₃)
  refine ⟨⟨x₃.grow _ _ (x₂.grow _ _ h35), d35⟩, ?_⟩
  refine tv_fn (fn_compare cols hc r q) rm (gx_ok w mean mg mb) a₃ (RepL.cons (Rep.grow r₁' (x₂.trans x₃).grow) (RepL.cons (Rep.grow r₂ x₃.grow) (RepL.one r₃))) Q fun v s₄ x₄ r₄ => k v s₄ (((x₁.trans x₂).trans x₃).trans x₄) r₄
end Mine
end

section
open PySem PySem.W PyProof.Rows
namespace Mine
set_option maxHeartbeats 2000000
/-- the words of a row -/
def wordAt (k : Int) : Str := if k = 0 then "" else if k = 1 then "b" else if k = 2 then "a" else "ab"
def rankAt (k : Int) : Int := if k = 0 then 0 else if k = 1 then 3 else if k = 2 then 1 else 2
theorem word_lt : ∀ a ∈ ([0, 1, 2, 3] : List Int), ∀ b ∈ ([0, 1, 2, 3] : List Int), decide ((wordAt a).cps.toList < (wordAt b).cps.toList) = decide (rankAt a < rankAt b) ∧ (wordAt a != wordAt b) = (rankAt a != rankAt b) := by decide +kernel
theorem mem4 {k : Int} (h0 : 0 ≤ k) (h1 : k < 4) : k ∈ ([0, 1, 2, 3] : List Int) := by
  have : k = 0 ∨ k = 1 ∨ k = 2 ∨ k = 3 := by omega
  rcases this with rfl | rfl | rfl | rfl <;> decide

/-- a row by numbers -/
def rowOf (k c p : Int) : Row := ⟨wordAt k, c, p⟩
def key3 (k c p : Int) (i : Int) : Int := if i = 0 then rankAt k else if i = 1 then c else p
theorem rLt_key {k c p k' c' p' : Int} (h : 0 ≤ k ∧ k < 4) (h' : 0 ≤ k' ∧ k' < 4) (i : Int) : rLt (rowOf k c p) (rowOf k' c' p') i = decide (key3 k c p i < key3 k' c' p' i) := by
  unfold rLt key3 rowOf
  split
  · exact (word_lt k (mem4 h.1 h.2) k' (mem4 h'.1 h'.2)).1
  · split <;> rfl
theorem rNe_key {k c p k' c' p' : Int} (h : 0 ≤ k ∧ k < 4) (h' : 0 ≤ k' ∧ k' < 4) (i : Int) : rNe (rowOf k c p) (rowOf k' c' p') i = (key3 k c p i != key3 k' c' p' i) := by
  unfold rNe key3 rowOf
  split
  · exact (word_lt k (mem4 h.1 h.2) k' (mem4 h'.1 h'.2)).2
  · split <;> rfl

/-- compare tells the first unlike column's direction -/
theorem cmp_judged {k c p k' c' p' : Int} (h : 0 ≤ k ∧ k < 4) (h' : 0 ≤ k' ∧ k' < 4) : ∀ cols : List (Int × Int), cmpV (rowOf k c p) (rowOf k' c' p') cols = judgedV (rowOf k c p) (rowOf k' c' p') cols
  | [] => rfl
  | (i, d) :: l => by
    have ih := cmp_judged (c := c) (p := p) (c' := c') (p' := p') h h' l
    unfold judgedV judgedL at ih ⊢
    rw [List.filterMap_cons]
    simp only [cmpV, judgedQ, rLt_key h h', rLt_key h' h, rNe_key h h']
    rcases Int.lt_trichotomy (key3 k c p i) (key3 k' c' p' i) with q | q | q
    · have e1 : decide (key3 k c p i < key3 k' c' p' i) = true := by simpa using q
      have e2 : decide (key3 k' c' p' i < key3 k c p i) = false := by simp; omega
      have e3 : (key3 k c p i != key3 k' c' p' i) = true := by simp; omega
      rw [e1, e2, e3]; rfl
    · have e1 : decide (key3 k c p i < key3 k' c' p' i) = false := by simp; omega
      have e2 : decide (key3 k' c' p' i < key3 k c p i) = false := by simp; omega
      have e3 : (key3 k c p i != key3 k' c' p' i) = false := by simp; omega
      rw [e1, e2, e3]
      exact ih
    · have e1 : decide (key3 k c p i < key3 k' c' p' i) = false := by simp; omega
      have e2 : decide (key3 k' c' p' i < key3 k c p i) = true := by simpa using q
      have e3 : (key3 k c p i != key3 k' c' p' i) = true := by simp; omega
      rw [e1, e2, e3]; rfl

/-! the line -/
/-- the three columns' turns -/
def TurnOk (t : Int) : Prop := t ≠ 0
structure T3 where
  k : Int
  c : Int
  p : Int
def T3.row (x : T3) : Row := rowOf x.k x.c x.p
def T3.ok (x : T3) : Prop := 0 ≤ x.k ∧ x.k < 4
def sgt (d a b : Int) : Prop := (0 < d ∧ b < a) ∨ (d < 0 ∧ a < b)
/-- behind -/
def behind (t0 t1 : Int) (x y : T3) : Prop := sgt t0 (rankAt x.k) (rankAt y.k) ∨ (rankAt x.k = rankAt y.k ∧ (sgt t1 x.c y.c ∨ (x.c = y.c ∧ y.p < x.p)))
theorem sgt_irr {d a : Int} : ¬ sgt d a a := by
  rintro (⟨_, q⟩ | ⟨_, q⟩) <;> exact Int.lt_irrefl _ q
theorem sgt_trans {d a b c : Int} : sgt d a b → sgt d b c → sgt d a c := by
  rintro (⟨h, q⟩ | ⟨h, q⟩) (⟨h', q'⟩ | ⟨h', q'⟩)
  · exact .inl ⟨h, Int.lt_trans q' q⟩
  · exact absurd h' (Int.lt_asymm h)
  · exact absurd h (Int.lt_asymm h')
  · exact .inr ⟨h, Int.lt_trans q q'⟩
theorem sgt_tot {d a b : Int} (hd : d ≠ 0) (hn : a ≠ b) : sgt d a b ∨ sgt d b a := by
  rcases Int.lt_or_gt_of_ne hd with h | h <;> rcases Int.lt_or_gt_of_ne hn with q | q
  · exact .inl (.inr ⟨h, q⟩)
  · exact .inr (.inr ⟨h, q⟩)
  · exact .inr (.inl ⟨h, q⟩)
  · exact .inl (.inl ⟨h, q⟩)
/-- one order behind another -/
def lex (d a b : Int) (r : Prop) : Prop := sgt d a b ∨ (a = b ∧ r)
theorem lex_step {d a a' x : Int} {r : Prop} (h : 0 < x ↔ r) : 0 < (if a < a' then -d else if a' < a then d else x) ↔ lex d a a' r := by
  split
  · rename_i q
    refine ⟨fun z => .inl (.inr ⟨by omega, q⟩), ?_⟩
    rintro ((⟨_, y⟩ | ⟨y, _⟩) | ⟨rfl, _⟩)
    · exact absurd q (Int.lt_asymm y)
    · omega
    · exact absurd q (Int.lt_irrefl _)
  · rename_i q
    split
    · rename_i q'
      refine ⟨fun z => .inl (.inl ⟨z, q'⟩), ?_⟩
      rintro ((⟨y, _⟩ | ⟨_, y⟩) | ⟨rfl, _⟩)
      · exact y
      · exact absurd y q
      · exact absurd q' (Int.lt_irrefl _)
    · rename_i q'
      have e : a = a' := Int.le_antisymm (Int.not_lt.mp q') (Int.not_lt.mp q)
      refine h.trans ⟨fun z => .inr ⟨e, z⟩, ?_⟩
      rintro ((⟨_, y⟩ | ⟨_, y⟩) | ⟨_, y⟩)
      · exact absurd y q'
      · exact absurd y q
      · exact y
theorem lex_last {a b : Int} : lex 1 a b False ↔ b < a := by
  refine ⟨?_, fun q => .inl (.inl ⟨by decide, q⟩)⟩
  rintro ((⟨_, y⟩ | ⟨y, _⟩) | ⟨_, y⟩)
  · exact y
  · exact absurd y (by decide)
  · exact y.elim
theorem cmp_pos {t0 t1 : Int} (h0 : t0 ≠ 0) (h1 : t1 ≠ 0) {x y : T3} (hx : x.ok) (hy : y.ok) : 0 < cmpV x.row y.row [(0, t0), (1, t1), (2, 1)] ↔ behind t0 t1 x y := by
  obtain ⟨k, c, p⟩ := x
  obtain ⟨k', c', p'⟩ := y
  simp only [T3.row, cmpV, rLt_key hx hy, rLt_key hy hx, decide_eq_true_eq]
  exact lex_step (lex_step ((lex_step (by decide)).trans lex_last))
theorem lex_irr {d a : Int} {r : Prop} (h : ¬ r) : ¬ lex d a a r := by
  rintro (q | ⟨_, q⟩)
  · exact sgt_irr q
  · exact h q
theorem lex_trans {d a b c : Int} {r s t : Prop} (h : r → s → t) : lex d a b r → lex d b c s → lex d a c t := by
  rintro (q | ⟨rfl, q⟩) (q' | ⟨rfl, q'⟩)
  · exact .inl (sgt_trans q q')
  · exact .inl q
  · exact .inl q'
  · exact .inr ⟨rfl, h q q'⟩
theorem lex_tot {d a b : Int} {r s : Prop} (hd : d ≠ 0) (h : r ∨ s) : lex d a b r ∨ lex d b a s := by
  by_cases e : a = b
  · subst e
    exact h.imp (fun q => .inr ⟨rfl, q⟩) fun q => .inr ⟨rfl, q⟩
  · exact (sgt_tot hd e).imp .inl .inl
theorem behind_irr {t0 t1 : Int} {x : T3} : ¬ behind t0 t1 x x :=
  lex_irr (lex_irr (Int.lt_irrefl _))
theorem behind_tot {t0 t1 : Int} (h0 : t0 ≠ 0) (h1 : t1 ≠ 0) {x y : T3} (hp : x.p ≠ y.p) : behind t0 t1 x y ∨ behind t0 t1 y x :=
  lex_tot h0 (lex_tot h1 (Int.lt_or_gt_of_ne hp.symm))
theorem behind_trans {t0 t1 : Int} {x y z : T3} : behind t0 t1 x y → behind t0 t1 y z → behind t0 t1 x z :=
  lex_trans (lex_trans fun a b => Int.lt_trans b a)
theorem behind_asym {t0 t1 : Int} {x y : T3} (a : behind t0 t1 x y) : ¬ behind t0 t1 y x := fun b => behind_irr (behind_trans a b)
end Mine
end

section
open PySem PySem.W PyProof.Rows
namespace Mine
set_option maxHeartbeats 2000000
def perms4 : List (List Int) := [[0, 1, 2, 3], [0, 1, 3, 2], [0, 2, 1, 3], [0, 2, 3, 1], [0, 3, 1, 2], [0, 3, 2, 1], [1, 0, 2, 3], [1, 0, 3, 2], [1, 2, 0, 3], [1, 2, 3, 0], [1, 3, 0, 2], [1, 3, 2, 0],
  [2, 0, 1, 3], [2, 0, 3, 1], [2, 1, 0, 3], [2, 1, 3, 0], [2, 3, 0, 1], [2, 3, 1, 0], [3, 0, 1, 2], [3, 0, 2, 1], [3, 1, 0, 2], [3, 1, 2, 0], [3, 2, 0, 1], [3, 2, 1, 0]]
def n2 (b : Bool) : Int := if b then 1 else 0
theorem tourn : ∀ a b c d e f : Bool, (!(a && d && !b) && !(!a && !d && b) && !(a && e && !c) && !(!a && !e && c) && !(b && f && !c) && !(!b && !f && c) && !(d && f && !e) && !(!d && !f && e)) = true →
    [n2 a + n2 b + n2 c, n2 (!a) + n2 d + n2 e, n2 (!b) + n2 (!d) + n2 f, n2 (!c) + n2 (!e) + n2 (!f)] ∈ perms4 := by decide
/-- of each row: how many it is put behind -/
def lineV (rs : List Row) (cols : List (Int × Int)) : List Int := rs.map fun r => (((rs.map fun o => cmpV r o cols).filter fun x => decide (0 < x)).length : Int)
theorem filter_len (a b c d : Int) : ((([a, b, c, d] : List Int).filter fun x => decide (0 < x)).length : Int) = n2 (decide (0 < a)) + n2 (decide (0 < b)) + n2 (decide (0 < c)) + n2 (decide (0 < d)) := by
  simp only [List.filter_cons, List.filter_nil]
  cases decide (0 < a) <;> cases decide (0 < b) <;> cases decide (0 < c) <;> cases decide (0 < d) <;> rfl

theorem line_perm {t0 t1 : Int} (h0 : t0 ≠ 0) (h1 : t1 ≠ 0) (x0 x1 x2 x3 : T3) (o0 : x0.ok) (o1 : x1.ok) (o2 : x2.ok) (o3 : x3.ok) (p0 : x0.p = 0) (p1 : x1.p = 1) (p2 : x2.p = 2) (p3 : x3.p = 3) :
    lineV [x0.row, x1.row, x2.row, x3.row] [(0, t0), (1, t1), (2, 1)] ∈ perms4 := by
  open Classical in
  have g : ∀ (x y : T3), x.ok → y.ok → decide (0 < cmpV x.row y.row [(0, t0), (1, t1), (2, 1)]) = decide (behind t0 t1 x y) := fun x y hx hy => by
    rw [decide_eq_decide]; exact cmp_pos h0 h1 hx hy
  open Classical in
  have gs : ∀ (x : T3), decide (behind t0 t1 x x) = false := fun x => decide_eq_false behind_irr
  open Classical in
  have gn : ∀ (x y : T3), x.p ≠ y.p → decide (behind t0 t1 y x) = !decide (behind t0 t1 x y) := fun x y hp => by
    by_cases q : behind t0 t1 x y
    · rw [decide_eq_true q, decide_eq_false (behind_asym q)]; rfl
    · rw [decide_eq_false q, decide_eq_true ((behind_tot h0 h1 hp).resolve_left q)]; rfl
  have tr : ∀ (x y z : T3), behind t0 t1 x y → behind t0 t1 y z → behind t0 t1 x z := fun x y z => behind_trans
  unfold lineV
  simp only [List.map_cons, List.map_nil, filter_len]
  rw [g x0 x0 o0 o0, g x0 x1 o0 o1, g x0 x2 o0 o2, g x0 x3 o0 o3, g x1 x0 o1 o0, g x1 x1 o1 o1, g x1 x2 o1 o2, g x1 x3 o1 o3, g x2 x0 o2 o0, g x2 x1 o2 o1, g x2 x2 o2 o2, g x2 x3 o2 o3, g x3 x0 o3 o0, g x3 x1 o3 o1, g x3 x2 o3 o2, g x3 x3 o3 o3]
  rw [gs, gs, gs, gs, gn x0 x1 (by omega), gn x0 x2 (by omega), gn x0 x3 (by omega), gn x1 x2 (by omega), gn x1 x3 (by omega), gn x2 x3 (by omega)]
  have key := tourn (decide (behind t0 t1 x0 x1)) (decide (behind t0 t1 x0 x2)) (decide (behind t0 t1 x0 x3)) (decide (behind t0 t1 x1 x2)) (decide (behind t0 t1 x1 x3)) (decide (behind t0 t1 x2 x3)) ?_
  · have z : n2 false = 0 := rfl
    simp only [z, Int.zero_add, Int.add_zero]
    exact key
  · have t1' := tr x0 x1 x2
    have t2' := tr x0 x1 x3
    have t3' := tr x0 x2 x3
    have t4' := tr x1 x2 x3
    have u : ∀ {x y z : T3}, x.p ≠ y.p → y.p ≠ z.p → x.p ≠ z.p → ¬ behind t0 t1 x y → ¬ behind t0 t1 y z → ¬ behind t0 t1 x z := fun hxy hyz hxz a b c =>
      behind_asym c (behind_trans ((behind_tot h0 h1 hyz).resolve_left b) ((behind_tot h0 h1 hxy).resolve_left a))
    have u1 := u (x := x0) (y := x1) (z := x2) (by omega) (by omega) (by omega)
    have u2 := u (x := x0) (y := x1) (z := x3) (by omega) (by omega) (by omega)
    have u3 := u (x := x0) (y := x2) (z := x3) (by omega) (by omega) (by omega)
    have u4 := u (x := x1) (y := x2) (z := x3) (by omega) (by omega) (by omega)
    clear u tr g gs gn
    generalize behind t0 t1 x0 x1 = A at *
    generalize behind t0 t1 x0 x2 = B at *
    generalize behind t0 t1 x0 x3 = C at *
    generalize behind t0 t1 x1 x2 = D at *
    generalize behind t0 t1 x1 x3 = E at *
    generalize behind t0 t1 x2 x3 = F at *
    by_cases A <;> by_cases B <;> by_cases C <;> by_cases D <;> by_cases E <;> by_cases F <;> simp_all
end Mine
end

section
open PySem PySem.W PyProof.Rows
namespace Mine
set_option maxHeartbeats 2000000
def many (ws : List (List Int)) : Int := ((ws.headD []).length : Int)
def flat (ws : List (List Int)) : List Int := ws.flatMap fun l => l
def octets (l : List Int) : List UInt8 := l.map fun n => n.toNat.toUInt8
def wordsOf (r : Array UInt8) (m : Int) (n : Nat) : List (List Int) := (List.range n).map fun i : Nat => (pickL r.toList (some (m * (i : Int))) (some (m * (i : Int) + m))).map fun c => (c.toNat : Int)
def backOf (line : List Int) : List Int := [((line.idxOf 0 : Nat) : Int), ((line.idxOf 1 : Nat) : Int), ((line.idxOf 2 : Nat) : Int), ((line.idxOf 3 : Nat) : Int)]
def wholeOf (ws : List (List Int)) : Int := ws.foldl (fun s l => s + l.foldl (fun a b => a * b) 1) 0
def fact (m : Int) : Int := (rangeInts 2 1 (lenR 2 (m + 1))).foldl (fun a b => a * b) 1
def part (some' : List (List Int)) (order : List Int) (m whole : Int) : Bool :=
  match seated some', polynomial order, weighed some' with
  | some t, some p, some g => (match spread p m with
    | some d => dictEq t p && dictEq g d && (countCalls g == whole) && (fact m * countCalls t == whole)
    | none => false)
  | _, _, _ => false
def good (line : List Int) : Bool :=
  match ways 7 line with
  | none => false
  | some ws => (match swapped (octets (flat ws)) (max (many ws) 1) with
    | none => false
    | some r => decide ((r.size : Int) = many ws * ws.length) && (match ways 7 (backOf line) with
      | none => false
      | some vs => part (wordsOf r (many ws) ws.length) line (many ws) (wholeOf ws) && part ws (backOf line) (many ws) (wholeOf ws)))
theorem good_all : ∀ l ∈ perms4, good l = true := by decide +kernel
end Mine
end

section
open PySem PySem.W PyProof.Rows
namespace Mine
structure FdAt (w : World) where
  fd : FuncData
  body : List Stmt
  at' : ∃ o, (KF w).lookup 212 = some o ∧ o.data = .func fd
  b : fd.body = .stmts body
noncomputable def lawX (w : World) : FdAt w := { fd := _, body := _, at' := ⟨_, rfl, rfl⟩, b := rfl }
noncomputable abbrev lawEnv (w : World) (L : Addr) : Env := callEnvC (lawX w).fd L 212
noncomputable abbrev lawB (w : World) (n : Nat) : List Stmt := ((lawX w).body.take 11).drop n
noncomputable abbrev lawD (w : World) (n : Nat) : List Stmt := (lawX w).body.drop n
theorem lawLen (w : World) : (lawX w).body.length = 22 := rfl
section
variable {C : Cx} {D : Muts} {σ : Vars} {s : Shared}
theorem x_ifF {t : Expr} {body orelse rest : List Stmt} {pos : Pos} {b : Bool} {Q : Flow → Shared → Prop} (a : AtC C D σ s) (ht : EvB C D σ t b) (hb : b = false)
    (k : ∀ s', AtC C D σ s' → Go C (execs orelse C.env) (Then C rest Q) s') : Go C (execs (.If t body orelse pos :: rest) C.env) Q s :=
  x_if a ht fun s' a' => by rw [hb, if_neg (by decide)]; exact k s' a'
end
def senderAt (k : Int) : Str := if k = 0 then "" else if k = 1 then "x" else "y@z"
/-- a row of a draw -/
def drawRow (p : Int × Int) : Row := rowOf (p.2.fmod 4) (p.2.fdiv 12) p.1
def drawSender (p : Int × Int) : Str := senderAt ((p.2.fdiv 4).fmod 3)
theorem word_item (x : Int) : ([.str "", .str "b", .str "a", .str "ab"] : List PV)[(x.fmod 4).toNat]? = some (.str (wordAt (x.fmod 4))) := by
  have h0 : 0 ≤ x.fmod 4 := Int.fmod_nonneg_of_pos _ (by decide)
  have h1 : x.fmod 4 < 4 := Int.fmod_lt_of_pos _ (by decide)
  generalize x.fmod 4 = k at *
  have : k = 0 ∨ k = 1 ∨ k = 2 ∨ k = 3 := by omega
  rcases this with rfl | rfl | rfl | rfl <;> rfl
theorem sender_item (x : Int) : ([.str "", .str "x", .str "y@z"] : List PV)[(x.fmod 3).toNat]? = some (.str (senderAt (x.fmod 3))) := by
  have h0 : 0 ≤ x.fmod 3 := Int.fmod_nonneg_of_pos _ (by decide)
  have h1 : x.fmod 3 < 3 := Int.fmod_lt_of_pos _ (by decide)
  generalize x.fmod 3 = k at *
  have : k = 0 ∨ k = 1 ∨ k = 2 := by omega
  rcases this with rfl | rfl | rfl <;> rfl
def rowF (acc : List Row) (p : Int × Int) : Option (List Row) := if acc.length ≤ 1000 then some (acc ++ [drawRow p]) else none
theorem rowF_all (d0 d1 d2 d3 : Int) : foldO rowF [] (numbered [d0, d1, d2, d3]) = some [drawRow (0, d0), drawRow (1, d1), drawRow (2, d2), drawRow (3, d3)] := rfl

variable {w : World} {mean : ExcName → Option Value} {mg mb : Str → Option Value}
set_option maxHeartbeats 4000000
section
variable {A : Around} {B : Heap} {W : Addr → Prop} {Z : Shared} {L : Addr} {Xc : Addr → Prop} {s : Shared}
theorem numbered_ev {C : Cx} {D : Muts} {σ : Vars} {e : Expr} (l : List Int) (h : EvI C D σ 0 tgtTuple e ((l.map PV.int).mapIdx fun n d => .tup [.int n, d])) : EvI C D σ 0 tgtTuple e ((numbered l).map fun p => .tup [.int p.1, .int p.2]) := by
  have e : (numbered l).map (fun p => PV.tup [.int p.1, .int p.2]) = (l.map PV.int).mapIdx fun n d => .tup [.int n, d] := by
    unfold numbered
    refine List.ext_getElem? fun i => ?_
    simp only [List.getElem?_map, List.getElem?_mapIdx, Option.map_map, Function.comp_def]
  rw [e]; exact h
theorem seg1 {script : List Int} {d0 d1 d2 d3 : Int} {Q : Flow → Shared → Prop} (rm : Room A 8) (hfr : A.frames = some [lawEnv w L]) (hsz : script.length ≤ 1000) (hd : drawn script = some [d0, d1, d2, d3])
    (a : AtC ⟨PG, w, A, Gx w mean mg mb, B, W, Z, lawEnv w L, Xc⟩ [] [("script", .any (scriptS script))] s)
    (k : ∀ s', AtC ⟨PG, w, A, Gx w mean mg mb, B, W, Z, lawEnv w L, Xc⟩ [] [("rows", .lst ([drawRow (0, d0), drawRow (1, d1), drawRow (2, d2), drawRow (3, d3)].map Row.pv)), ("draws", .lst ([d0, d1, d2, d3].map .int))] s' →
      Go ⟨PG, w, A, Gx w mean mg mb, B, W, Z, lawEnv w L, Xc⟩ (execs (lawB w 3) (lawEnv w L)) Q s') :
    Go ⟨PG, w, A, Gx w mean mg mb, B, W, Z, lawEnv w L, Xc⟩ (execs (lawB w 0) (lawEnv w L)) Q s := by
  refine x_assign a (ev_call_fn (gx_ok w mean mg mb) (evG rfl rfl) (fun h x => ⟨_, x.1 161 _ rfl, rfl, codeRec_of x.1 rfl⟩) (fn_draws script hsz hd) (rm.less (by decide)) (evl_cons (ev_name rfl) evl_nil)) fun s₁ a₁ => ?_
  refine x_newList (ds := []) a₁ evl_nil (Nat.zero_le _) fun c s₂ a₂ => ?_
  refine x_forF (l := numbered [d0, d1, d2, d3]) (emb := fun p => .tup [.int p.1, .int p.2]) rowF (fun acc => [(c, .lst (acc.map Row.pv))]) (fun _ => [("rows", .raw (.ref c)), ("draws", .lst ([d0, d1, d2, d3].map .int))]) (fun p => [("draw", .int p.2), ("place", .int p.1)]) [] a₂
    (numbered_ev [d0, d1, d2, d3] (evi_enum rm.1 (evB rfl rfl bo_enumerate) (ev_name rfl))) rfl rfl (SubV.cons rfl (SubV.cons rfl SubV.nil)) (fun _ => rfl) (fun J h st x hx => binds_pair rm.1 rfl rfl) (rowF_all d0 d1 d2 d3) ?_ ?_
  · intro J h acc p acc' s K _ hf a hk
    rw [rowF, Option.ite_none_right_eq_some] at hf
    obtain ⟨hl, hf⟩ := hf
    cases hf
    have b0 : 0 ≤ p.2.fmod 4 := Int.fmod_nonneg_of_pos _ (by decide)
    have b1 : p.2.fmod 4 < 4 := Int.fmod_lt_of_pos _ (by decide)
    have c0 : 0 ≤ (p.2.fdiv 4).fmod 3 := Int.fmod_nonneg_of_pos _ (by decide)
    have c1 : (p.2.fdiv 4).fmod 3 < 3 := Int.fmod_lt_of_pos _ (by decide)
    refine x_assign (d := .int (p.2.fdiv 12)) a (ev_binop (ev_name rfl) ev_int (op_floordiv (by decide) (PyProof.noPylong_small (by decide)))) fun s₁ a₁ => ?_
    refine x_assign (d := .str (wordAt (p.2.fmod 4))) a₁ (ev_item_tup (evc_tup (ev_tuple (evl_cons ev_str (evl_cons ev_str (evl_cons ev_str (evl_cons ev_str evl_nil)))) (Nat.le_of_ble_eq_true rfl))) (ev_binop (ev_name rfl) ev_int (op_mod (by decide))) b0 (by omega) (word_item p.2)) fun s₂ a₂ => ?_
    refine x_assign (d := .str (drawSender p)) a₂ (ev_item_tup (evc_tup (ev_tuple (evl_cons ev_str (evl_cons ev_str (evl_cons ev_str evl_nil))) (Nat.le_of_ble_eq_true rfl))) (ev_binop (ev_binop (ev_name rfl) ev_int (op_floordiv (by decide) (PyProof.noPylong_small (by decide)))) ev_int (op_mod (by decide))) c0 (by omega) (sender_item (p.2.fdiv 4))) fun s₃ a₃ => ?_
    generalize drawSender p = sender at a₃
    refine x_tryRaised (D' := [(c, .lst ((acc ++ [drawRow p]).map Row.pv))]) (σ' := [("rows", .raw (.ref c)), ("draws", .lst ([d0, d1, d2, d3].map .int))]) (d4 := .any (excS (p.2.fdiv 12) (wordAt (p.2.fmod 4)) sender)) a₃ hfr rfl (rm.less (by decide)) (evG rfl rfl)
      (evl_cons (ev_name rfl) (evl_cons (ev_name rfl) (evl_cons (ev_name rfl) evl_nil))) (fun A' σ => evG rfl rfl) rfl ?_ ?_ ?_
    · intro x d h
      have : (x, d) ∈ _ := lookupV_mem h
      rcases List.mem_cons.mp this with q | q
      · cases q; decide
      · rw [List.mem_singleton] at q; cases q; decide
    · intro x s₄ K' a₄ hk'
      refine x_ifF a₄ (evb_compare (ev_isExc (evB rfl rfl bo_isinstance) (ev_name rfl) (evG rfl rfl) (isi_cls sender).1) (ev_compare (ev_name rfl) ev_str op_strEq) op_neBool) (bne_self_eq_false _) fun s₅ a₅ => ?_
      refine x_nil ?_
      refine x_ifF a₅ (evb_compare (ev_isExc (evB rfl rfl bo_isinstance) (ev_name rfl) (evG rfl rfl) (isi_cls sender).2) (ev_compare (ev_name rfl) ev_str op_strNe) op_neBool) (bne_self_eq_false _) fun s₆ a₆ => ?_
      refine x_nil ?_
      refine x_ifF (b := (sender != "") && (sender != sender)) a₆ (evb_and (evb_compare (ev_name rfl) ev_str op_strNe) fun hne => evb_compare (ev_sender (by simpa [bne] using hne) (ev_name rfl)) (ev_name rfl) op_strNe) (by rw [bne_self_eq_false, Bool.and_false]) fun s₇ a₇ => ?_
      refine x_nil ?_
      refine x_ifF a₇ (evb_or (evb_compare (ev_code (ev_name rfl)) (ev_name rfl) op_ne) fun _ => evb_compare (ev_error (ev_name rfl)) (ev_name rfl) op_strNe) (by rw [bne_self_eq_false, bne_self_eq_false]; rfl) fun s₈ a₈ => ?_
      refine x_nil ?_
      refine x_append a₈ (ev_name rfl) (ev_tuple (evl_cons (ev_error (ev_name rfl)) (evl_cons (ev_code (ev_name rfl)) (evl_cons (ev_name rfl) evl_nil))) (Nat.le_of_ble_eq_true rfl)) (by rw [List.length_map]; omega) fun s₉ a₉ => ?_
      refine x_nil (hk' s₉ ?_)
      rw [List.map_append]
      exact At.forget a₉ (SubV.cons rfl (SubV.cons rfl (SubV.cons rfl SubV.nil)))
    · intro s₄ a₄
      exact x_nil (hk s₄ a₄)
  · intro s' a'
    refine x_nil (k s' ?_)
    exact (At.freeze a' (σ' := [("rows", .lst ([drawRow (0, d0), drawRow (1, d1), drawRow (2, d2), drawRow (3, d3)].map Row.pv)), ("draws", .lst ([d0, d1, d2, d3].map .int))]) (FrzV.turn rfl (FrzV.keep rfl FrzV.nil))).1
end
end Mine
end

section
open PySem PySem.W PyProof.Rows
namespace Mine
theorem wpC_with_toks {α : Type} {M : Model} {A : Around} {s : Shared} {t : Sem α} {Q : α → Shared → Prop} {E : Value → Shared → Prop} {n : Nat} (hn : n ≤ s.toks)
    (h : wpC M A t (fun a s' => n ≤ s'.toks → Q a s') (fun e s' => n ≤ s'.toks → E e s') s) : wpC M A t Q E s := fun Γ p hΓ hc =>
  Sem.wp_mono M Γ t (fun _ _ _ x => x.2 x.1) (fun _ _ _ x => x.2 x.1) p s (Sem.wp_toks M Γ n t _ _ p s hn (h Γ p hΓ hc))
section
variable {C : Cx} {D : Muts} {σ : Vars} {s : Shared} {M : Nat}
theorem go_toks {α : Type} {t : Sem α} {Q : α → Shared → Prop} (hM : M ≤ s.toks) (h : Go C t (fun a s' => M ≤ s'.toks → Q a s') s) : Go C t Q s :=
  wpAny_with_toks hM (wpAny_mono h (fun _ _ q => q) fun _ _ e => e.elim)
/-- one statement, the tokens counted -/
theorem x_seqT {st : Stmt} {rest : List Stmt} {Q : Flow → Shared → Prop} {P : Shared → Prop} (hM : M ≤ s.toks) (h : Go C (execs [st] C.env) (fun f s' => f = .next ∧ P s') s) (k : ∀ s', P s' → M ≤ s'.toks → Go C (execs rest C.env) Q s') : Go C (execs (st :: rest) C.env) Q s := by
  intro Γ p hΓ
  have h0 := h Γ p hΓ
  rw [execs_cons, Sem.wp_bind'] at h0 ⊢
  refine Sem.wp_mono _ Γ _ (fun f p' s' h' => ?_) (fun _ _ _ h' => h'.2) _ _ (Sem.wp_toks _ Γ M _ _ _ _ s hM h0)
  obtain ⟨hM', h'⟩ := h'
  cases f with
  | next =>
    have h2 : Flow.next = Flow.next ∧ P s' := h'
    exact k s' h2.2 hM' Γ p' hΓ
  | _ => exact absurd h'.1 (by intro e; cases e)
/-- an int of which the token is told -/
def EvTok (C : Cx) (D : Muts) (σ : Vars) (M : Nat) (e : Expr) (i : Int) : Prop := ∀ s, AtC C D σ s → M ≤ s.toks → ∀ Q : Value → Shared → Prop, (∀ (t : Nat) s', Ext s s' → M ≤ t → t < s'.toks → Q (.int i t) s') → Go C (eval e C.env) Q s
theorem evTok_len {fx : Str} {np pos : Pos} {e : Expr} {l : List PV} (hf : Ev C D σ (.Name fx np) (.raw (.builtin "len"))) (h : EvC C D σ e (.lst l)) (hsz : l.length ≤ 1000000)
    (he : starEach [e] C.env = (false, eval e C.env) :: starEach [] C.env := by rfl) : EvTok C D σ M (.Call (.Name fx np) [e] [] pos) l.length := by
  intro s a hM Q k
  refine wpAny_Call_NameR (go_toks hM (hf s a _ fun v s₁ x₁ r₁ hM₁ => ?_))
  have := raw_of r₁
  subst this
  rw [he]
  refine Calls.callWith_builtin rfl ?_
  refine Calls.evalArgs_plain (Calls.spliced_cons ?_)
  refine go_toks hM₁ (h s₁ (a.ext x₁) _ fun ad s₂ x₂ c₂ hM₂ => ?_)
  refine Calls.spliced_nil ?_
  obtain ⟨vs, hl, hr⟩ := lst_of c₂
  have e : vs.toArray.size = l.length := by rw [List.size_toArray]; exact hr.length
  refine Calls.call_len_list hl (by rw [e]; omega) ?_
  rw [e]
  exact k (s₂.toks + 1) _ ((x₁.trans x₂).trans Ext.tok) (Nat.le_succ_of_le hM₂) (Nat.lt_succ_self _)
theorem x_appendTok {c : Addr} {l : List PV} {i : Int} {o ve : Expr} {apos cpos pos : Pos} {rest : List Stmt} {Q : Flow → Shared → Prop} (a : AtC C ((c, .lst l) :: D) σ s) (hM : M ≤ s.toks) (hd : Ev C ((c, .lst l) :: D) σ o (.raw (.ref c))) (hv : EvTok C ((c, .lst l) :: D) σ M ve i) (hsz : l.length ≤ 1000000)
    (k : ∀ (t : Nat) s', M ≤ t → t < s'.toks → AtC C ((c, .lst (l ++ [.raw (.int i t)])) :: D) σ s' → Go C (execs rest C.env) Q s')
    (hbase : attributeBase o "append" C.env (eval o C.env) = eval o C.env := by rfl) (hline : (apos.endLine == cpos.line) = true := by rfl)
    (htrees : backTo cpos (starEach [ve] C.env) = [(false, eval ve C.env)] := by rfl) (hi : interactive C.env = false := by rfl) (hs : swapsWith (.Call (.Attribute o "append" apos) [ve] [] cpos) none pos.line C.env = pure false := by rfl) :
    Go C (execs (.Expr (.Call (.Attribute o "append" apos) [ve] [] cpos) pos :: rest) C.env) Q s := by
  refine x_cons (wpAny_Expr_any ?_ hi hs)
  refine wpAny_Call_method1_late hbase hline htrees (go_toks hM (hd s a _ fun ov s₁ x₁ r₁ hM₁ => ?_))
  have := raw_of r₁; subst this
  have a₁ := a.ext x₁
  obtain ⟨vs, ⟨n, hl⟩, hr⟩ := plst_of (a₁.muts _ (.head _))
  refine ⟨"list", "list.append", F.plainAttrs_list, F.slot_list_append, F.type_list_append, ⟨_, hl, rfl⟩, fun a e => by cases e; exact ⟨_, hl, rfl⟩, ?_⟩
  refine P.append_list (hv s₁ a₁ hM₁ _ fun t s₂ x₂ t1 t2 => ?_)
  have a₂ := a₁.ext x₂
  have hl2 := x₂.grow _ _ hl
  have hr2 := hr.grow x₂.grow
  refine ⟨vs.toArray, n, by rw [List.size_toArray, RepL.length hr, sizeLine_eq]; omega, hl2, ?_⟩
  have hu := PySem.IsL.update (n := n) hl2 (fun x => x.push (Value.int i t))
  rw [List.push_toArray] at hu
  have hsame : Heap.SameBut c s₂.heap (s₂.heap.update c (Obj.mapSeq fun xs => xs.push (Value.int i t))) := Heap.SameBut.update ..
  have kp : Keep (own C.env C.Xc ((c, .lst l) :: D)) s₂.heap (s₂.heap.update c (Obj.mapSeq fun xs => xs.push (Value.int i t))) := fun b o nb e => (hsame.2 b (not_own_ne nb own_head)).trans e
  exact k t _ t1 t2 (At.setMut a₂ ⟨_, s₂.toks, rfl⟩ (fun b o hb e => (hsame.2 b hb).trans e) ⟨vs ++ [.int i t], ⟨_, hu⟩, RepL.append (hr2.keep kp) (RepL.one (by simp only [Rep]))⟩)

/-- a loop, its state told by what holds of it -/
theorem x_forN {S α : Type} {T : Expr → Bool} {l : List α} {emb : α → PV} {tgt iter : Expr} {body orelse rest : List Stmt} {pos : Pos} {Q : Flow → Shared → Prop} (P : Nat → S → Prop) (Mt : S → Nat) (Dm : S → Muts) (Vs : S → Vars) (ns : α → Vars) (s0 : S)
    (a : AtC C D σ s) (hM0 : Mt s0 ≤ s.toks) (h0 : P 0 s0) (hi : EvI C D σ 0 T iter (l.map emb)) (hT : T tgt = true) (hD : D = Dm s0) (hV : SubV (Vs s0) σ) (hA : ∀ st, (Dm st).map (·.1) = (Dm s0).map (·.1))
    (hb : ∀ J h st d, d ∈ l → Binds (C.turn J h (Dm st)) tgt (emb d) (ns d))
    (turn : ∀ J h i st d (s : Shared) (K : Flow → Shared → Prop), l[i]? = some d → P i st → Mt st ≤ s.toks → AtC (C.turn J h (Dm st)) (Dm st) (ns d ++ Vs st) s →
      (∀ st' s', P (i + 1) st' → Mt st' ≤ s'.toks → AtC (C.turn J h (Dm st)) (Dm st') (Vs st') s' → K .next s') → Go (C.turn J h (Dm st)) (execs body C.env) K s)
    (k : ∀ sN s', P l.length sN → Mt sN ≤ s'.toks → AtC C (Dm sN) (Vs sN) s' → Go C (execs orelse C.env) (Then C rest Q) s')
    (hs : ∀ x, foldedSetIterable iter C.env x = pure x := by intro _; rfl) : Go C (execs (.For tgt iter body orelse pos :: rest) C.env) Q s := by
  subst hD
  refine x_cons (wpAny_For ?_ hs)
  refine EvI.toks hi s a (Nat.zero_le _) _ fun J I s₁ x₁ hM₁ hJ hIt => ?_
  obtain ⟨St, it, st₁⟩ := hIt (own C.env C.Xc (Dm s0)) fun b hb => .inl hb
  obtain ⟨a₁, ap⟩ := At.newXc (J := J) a x₁.same x₁.grow hJ (it.here _ _ st₁)
  have a₁ := At.forget a₁ hV
  clear hV
  refine codeAny_forLoop_any (fun n s' => ∃ i st, n = l.length + 1 - i ∧ i ≤ l.length ∧ P i st ∧ Mt st ≤ s'.toks ∧ At C.prog C.w C.G C.B C.W C.Z C.env (ins J C.Xc) (Dm st) (Vs st) s' ∧ St i s'.heap) ?_ (l.length + 1)
    ⟨0, s0, rfl, Nat.zero_le _, h0, Nat.le_trans hM0 hM₁, a₁, st₁⟩
  rintro n s' ⟨i, st, rfl, hin, hP, hMt, a', st'⟩
  rcases Nat.lt_or_ge i l.length with hlt | hge
  · obtain ⟨d, hd⟩ : ∃ d, l[i]? = some d := ⟨l[i], by simp [hlt]⟩
    have hdm : d ∈ l := List.mem_of_getElem? hd
    have eo : own C.env (ins J C.Xc) (Dm st) = own C.env (ins J C.Xc) (Dm s0) := by funext b; simp only [own, hA st]
    have ew : wrt C.env (Dm st) = wrt C.env (Dm s0) := wrt_eq (hA st)
    refine wpAny_with_toks hMt ?_
    refine wpAny_mono (it.item i (emb d) s' tgt (fun v s₂ => Mt st ≤ s₂.toks → Go C (assign tgt C.env v) (fun _ s₃ => Mt st ≤ s₃.toks → wpAny (model C.prog C.w) C.A (execs body C.env) (fun f' s₃ => match f' with
            | .next | .cont => ∃ m, m < l.length + 1 - i ∧ ∃ i' st, m = l.length + 1 - i' ∧ i' ≤ l.length ∧ P i' st ∧ Mt st ≤ s₃.toks ∧ At C.prog C.w C.G C.B C.W C.Z C.env (ins J C.Xc) (Dm st) (Vs st) s₃ ∧ St i' s₃.heap
            | .brk => Then C rest Q .next s₃
            | .ret v => Q (.ret v) s₃) (fun _ _ => False) s₃) s₂) (by rw [List.getElem?_map, hd]; rfl) st' (Nat.zero_le _) hT ?_ ?_) ?_ (fun _ _ e => e.elim)
    · exact fun b hb => a'.own_some (by rw [eo]; exact own_ins' hb)
    · intro v s₂ hm₂ hk₂ st₂ hr₂ hM₂
      have a₂ := At.stepXc a' ap hm₂ hk₂ (it.here _ _ st₂)
      have a₂' := a₂.rebase
      have hr₂' : Rep C.prog C.w s₂.heap (own C.env (ins J C.Xc) (Dm st)) (emb d) v := by
        rw [eo]
        refine hr₂.less fun b hb => ?_
        rcases own_ins hb with h | h
        · exact .inl h
        · exact .inr h
      refine hb J s₂.heap st d hdm (Dm st) (Vs st) s₂ v _ a₂' hr₂' fun s₃ a₃ hM₃ => ?_
      refine turn J s₂.heap i st d s₃ _ hd hP hM₃ a₃ ?_
      intro stn s₄ hPn hMn a₄
      have a₄' := At.back a₂ a₄
      have stn₄ : St (i + 1) s₄.heap := it.frame _ _ _ st₂ fun b o nb e => a₄.keep b o (fun h => nb (own_of_wrt (by have h' : wrt C.env (Dm st) b := h; rw [ew] at h'; exact h'))) e
      exact ⟨l.length + 1 - (i + 1), by omega, i + 1, stn, rfl, hlt, hPn, hMn, a₄', stn₄⟩
    · rintro (_ | v) s₂ hq hM₂
      · exact hq.elim
      · refine wpAny_with_toks hM₂ (wpAny_mono hq (fun _ s₃ h₃ hM₃ => ?_) fun _ _ e => e.elim)
        refine wpAny_with_toks hM₃ (wpAny_mono (h₃ hM₃) (fun _ s₄ h₄ hM₄ => wpAny_mono (h₄ hM₄) (fun f' s₅ h₅ => ?_) fun _ _ e => e.elim) fun _ _ e => e.elim)
        cases f' <;> exact h₅
  · have hi' : i = l.length := Nat.le_antisymm hin hge
    subst hi'
    refine wpAny_with_toks hMt ?_
    refine wpAny_mono (it.done s' (fun r s₂ => r = none ∧ (Mt st ≤ s₂.toks → Go C (execs orelse C.env) (Then C rest Q) s₂)) (by rw [List.length_map]; exact st') fun s₂ hm₂ hk₂ => ⟨rfl, fun hM₂ => ?_⟩) ?_ fun _ _ e => e.elim
    · exact k st s₂ hP hM₂ (a'.doneXc ap hm₂ hk₂)
    · rintro r s₂ ⟨rfl, hq⟩ hM₂
      exact wpAny_mono (hq hM₂) (fun f' s₃ h₃ => h₃) fun _ _ e => e.elim
end
end Mine
end

section
open PySem PySem.W PyProof.Rows
namespace Mine
section
variable {C : Cx} {D : Muts} {σ : Vars} {s : Shared} {M : Nat}
def EvT (C : Cx) (D : Muts) (σ : Vars) (e : Expr) (d : PV) : Prop := ∀ s, AtC C D σ s → ∀ Q : Value → Shared → Prop, (∀ v s', Ext s s' → 1 ≤ s'.toks → RepC C D s' d v → Q v s') → Go C (eval e C.env) Q s
theorem evT_neg {i : Int} {k : Nat} {p pos : Pos} : EvT C D σ (.UnaryOp .USub (.Constant (.int i) k p) pos) (.int (-i)) := by
  intro s a Q q
  refine wpAny_UnaryOp (wpAny_Constant_int ?_)
  refine go_toks (M := 1) (Nat.succ_le_succ (Nat.zero_le _)) ?_
  exact op_neg _ _ (a.ext Ext.tok) of_int _ fun z s₃ x₃ r₃ t₃ => q z s₃ (Ext.tok.trans x₃) t₃ r₃
theorem evT_tuple {e : Expr} {es : List Expr} {k : Nat} {pos : Pos} {d : PV} {ds : List PV} (h1 : EvT C D σ e d) (hs : EvL C D σ es ds) (hsz : ds.length + 1 ≤ 1000) (he : starEach (e :: es) C.env = (false, eval e C.env) :: starEach es C.env := by rfl) : EvT C D σ (.Tuple (e :: es) k pos) (.tup (d :: ds)) := by
  intro s a Q q
  refine Tuple_ (wpAny_items_cons (h1 s a _ fun v s₁ x₁ t₁ r₁ => go_toks t₁ (hs pos s₁ (a.ext x₁) _ fun vs s₂ x₂ r₂ t₂ => ?_)) he)
  refine go_toks t₂ (tv_tuple (a.ext (x₁.trans x₂)) (RepL.cons (r₁.grow x₂.grow) r₂) (by rw [List.length_cons, RepL.length r₂, sizeLine_eq]; omega) _ fun v s₃ x₃ r₃ t₃ => ?_)
  exact q v s₃ ((x₁.trans x₂).trans x₃) t₃ r₃
theorem x_assignT {x : Str} {xp pos : Pos} {e : Expr} {d : PV} {rest : List Stmt} {Q : Flow → Shared → Prop} (a : AtC C D σ s) (he : EvT C D σ e d) (k : ∀ s', AtC C D ((x, d) :: σ) s' → 1 ≤ s'.toks → Go C (execs rest C.env) Q s')
    (hx : stOk C.env x = true := by rfl) (hs : swapsWith e (some (.Name x xp)) pos.line C.env = pure false := by rfl) : Go C (execs (.Assign [.Name x xp] e pos :: rest) C.env) Q s :=
  x_cons (wpAny_Assign_Name (he s a _ fun v s₁ x₁ t₁ r₁ => go_toks t₁ (go_store (a.ext x₁) r₁ hx fun s' a' _ t' => k s' a' t')) hs)
end
def turnAt (k : Int) : Int := if k = 0 then -1 else if k = 1 then 1 else if k = 2 then 2 else -3
theorem turnAt_ne (k : Int) : turnAt k ≠ 0 := by unfold turnAt; split; decide; split; decide; split <;> decide
theorem turn_item (x : Int) : ([.int (-1), .int 1, .int 2, .int (-3)] : List PV)[(x.fmod 4).toNat]? = some (.int (turnAt (x.fmod 4))) := by
  have h0 : 0 ≤ x.fmod 4 := Int.fmod_nonneg_of_pos _ (by decide)
  have h1 : x.fmod 4 < 4 := Int.fmod_lt_of_pos _ (by decide)
  generalize x.fmod 4 = k at *
  have : k = 0 ∨ k = 1 ∨ k = 2 ∨ k = 3 := by omega
  rcases this with rfl | rfl | rfl | rfl <;> rfl
/-- the columns of the judge -/
def colsOf (draws : List Int) : List (Int × Int) := [(0, turnAt (draws.sum.fmod 4)), (1, turnAt ((draws.sum.fdiv 4).fmod 4)), (2, 1)]
theorem cols_key (draws : List Int) : ∀ q ∈ colsOf draws, Key q.1 := by
  intro q hq
  simp only [colsOf, List.mem_cons, List.not_mem_nil, or_false] at hq
  rcases hq with rfl | rfl | rfl
  · exact .inl rfl
  · exact .inr (.inl rfl)
  · exact .inr (.inr rfl)
variable {w : World} {mean : ExcName → Option Value} {mg mb : Str → Option Value}
set_option maxHeartbeats 4000000
theorem kc38 : keepIn (KF w) (.ref 38) = true := by first | rfl | kernel_rfl
section
variable {A : Around} {B : Heap} {W : Addr → Prop} {Z : Shared} {env : Env} {L : Addr} {Xc : Addr → Prop} {D : Muts} {σ : Vars} {s : Shared}
theorem ev_newJudge {fx : Str} {np pos : Pos} {e : Expr} {cols : List (Int × Int)} (rm : Room A 2) (hf : Ev ⟨PG, w, A, Gx w mean mg mb, B, W, Z, env, Xc⟩ D σ (.Name fx np) (.raw (.ref 38))) (he : Ev ⟨PG, w, A, Gx w mean mg mb, B, W, Z, env, Xc⟩ D σ e (.lst (pairItems cols)))
    (hst : starEach [e] env = (false, eval e env) :: starEach [] env := by rfl) : Ev ⟨PG, w, A, Gx w mean mg mb, B, W, Z, env, Xc⟩ D σ (.Call (.Name fx np) [e] [] pos) (.any (judgeS w cols)) := by
  intro s a Q k
  refine go_call_cls (K := KF w) a (fun h x => x.1) (gx_ok w mean mg mb).mono kc38 hf (evl_cons he evl_nil hst) (fun s₁ vs x₁ a₁ r₁ => ?_) hst
  simp only [RepLC, RepL] at r₁
  obtain ⟨v, q, rfl, r, rfl⟩ := r₁
  exact tv_judge rm a₁ r Q fun v s₂ x₂ r₂ => k v s₂ (x₁.trans x₂) r₂
theorem seg2 {draws : List Int} {rows : PV} {Q : Flow → Shared → Prop} (rm : Room A 8)
    (a : AtC ⟨PG, w, A, Gx w mean mg mb, B, W, Z, lawEnv w L, Xc⟩ [] [("rows", rows), ("draws", .lst (draws.map .int))] s)
    (k : ∀ c s', AtC ⟨PG, w, A, Gx w mean mg mb, B, W, Z, lawEnv w L, Xc⟩ [(c, .lst [])] [("line", .raw (.ref c)), ("judge", .any (judgeS w (colsOf draws))), ("columns", .lst (pairItems (colsOf draws))), ("rows", rows)] s' → 1 ≤ s'.toks →
      Go ⟨PG, w, A, Gx w mean mg mb, B, W, Z, lawEnv w L, Xc⟩ (execs (lawB w 8) (lawEnv w L)) Q s') :
    Go ⟨PG, w, A, Gx w mean mg mb, B, W, Z, lawEnv w L, Xc⟩ (execs (lawB w 3) (lawEnv w L)) Q s := by
  refine x_assign a (ev_sum rm.1 (evB rfl rfl bo_sum) (evc_lst (ev_name rfl))) fun s₁ a₁ => ?_
  refine x_assignT a₁ (evT_tuple evT_neg (evl_cons ev_int (evl_cons ev_int (evl_cons (ev_unary ev_int op_neg) evl_nil))) (by decide)) fun s₂ a₂ t₂ => ?_
  have b0 : 0 ≤ draws.sum.fmod 4 := Int.fmod_nonneg_of_pos _ (by decide)
  have b1 : draws.sum.fmod 4 < 4 := Int.fmod_lt_of_pos _ (by decide)
  have c0 : 0 ≤ (draws.sum.fdiv 4).fmod 4 := Int.fmod_nonneg_of_pos _ (by decide)
  have c1 : (draws.sum.fdiv 4).fmod 4 < 4 := Int.fmod_lt_of_pos _ (by decide)
  refine x_seqT (P := fun s' => AtC ⟨PG, w, A, Gx w mean mg mb, B, W, Z, lawEnv w L, Xc⟩ [] [("columns", .lst (pairItems (colsOf draws))), ("rows", rows)] s') t₂ (x_assign (d := .lst (pairItems (colsOf draws))) a₂ ?_ fun s₃ a₃ => x_nil ⟨rfl, At.forget a₃ (SubV.cons rfl (SubV.cons rfl SubV.nil))⟩) fun s₃ a₃ t₃ => ?_
  · refine ev_list (evl_cons (ev_tuple (evl_cons ev_int (evl_cons (ev_item_tup (evc_tup (ev_name rfl)) (ev_binop (ev_name rfl) ev_int (op_mod (by decide))) b0 (by omega) (turn_item _)) evl_nil)) (Nat.le_of_ble_eq_true rfl))
      (evl_cons (ev_tuple (evl_cons ev_int (evl_cons (ev_item_tup (evc_tup (ev_name rfl)) (ev_binop (ev_binop (ev_name rfl) ev_int (op_floordiv (by decide) (PyProof.noPylong_small (by decide)))) ev_int (op_mod (by decide))) c0 (by omega) (turn_item _)) evl_nil)) (Nat.le_of_ble_eq_true rfl))
      (evl_cons (ev_tuple (evl_cons ev_int (evl_cons ev_int evl_nil)) (Nat.le_of_ble_eq_true rfl)) evl_nil))) (Nat.le_of_ble_eq_true rfl)
  refine x_seqT (P := fun s' => AtC ⟨PG, w, A, Gx w mean mg mb, B, W, Z, lawEnv w L, Xc⟩ [] [("judge", .any (judgeS w (colsOf draws))), ("columns", .lst (pairItems (colsOf draws))), ("rows", rows)] s') t₃ (x_assign a₃ (ev_newJudge (rm.less (by decide)) (evG rfl rfl) (ev_name rfl)) fun s₄ a₄ => x_nil ⟨rfl, a₄⟩) fun s₄ a₄ t₄ => ?_
  refine x_seqT (P := fun s' => ∃ c, AtC ⟨PG, w, A, Gx w mean mg mb, B, W, Z, lawEnv w L, Xc⟩ [(c, .lst [])] [("line", .raw (.ref c)), ("judge", .any (judgeS w (colsOf draws))), ("columns", .lst (pairItems (colsOf draws))), ("rows", rows)] s') t₄ (x_newList (ds := []) a₄ evl_nil (Nat.zero_le _) fun c s₅ a₅ => x_nil ⟨rfl, c, a₅⟩) fun s₅ ⟨c, a₅⟩ t₅ => ?_
  exact k c s₅ a₅ t₅
end
end Mine
end

section
open PySem PySem.W PyProof.Rows
namespace Mine
/-- a bound of the tokens -/
def bnd : List (Int × Nat) → Nat
  | [] => 1
  | p :: r => max (p.2 + 1) (bnd r)
theorem bnd_snoc (l : List (Int × Nat)) (i : Int) (t T : Nat) (h : bnd l ≤ t) (h' : t < T) : bnd (l ++ [(i, t)]) ≤ T := by
  induction l with
  | nil => simp only [List.nil_append, bnd] at h ⊢; omega
  | cons p l ih =>
    simp only [List.cons_append, bnd] at h ⊢
    have := ih (by omega)
    omega
theorem bnd_mem {l : List (Int × Nat)} {p : Int × Nat} (h : p ∈ l) : p.2 < bnd l := by
  induction l with
  | nil => cases h
  | cons q l ih =>
    simp only [bnd]
    rcases List.mem_cons.mp h with rfl | h
    · omega
    · have := ih h; omega
theorem bnd_pos (l : List (Int × Nat)) : 0 < bnd l := by cases l <;> simp only [bnd] <;> omega
def rawL (l : List (Int × Nat)) : List PV := l.map fun p => .raw (.int p.1 p.2)
theorem raw_low {prog : Program} {w : World} {h : Heap} {X : Addr → Prop} {M : Nat} : ∀ {l : List (Int × Nat)} {vs : List Value}, (∀ p ∈ l, 0 < p.2 ∧ p.2 < M) → RepL prog w h X (rawL l) vs → RepL prog w h X (lows (l.map (·.1)) M) vs
  | [], vs, _, r => r
  | p :: l, vs, hp, r => by
    simp only [rawL, List.map_cons, RepL, Rep] at r
    obtain ⟨v, q, rfl, rfl, r⟩ := r
    exact RepL.cons (by simp only [Rep]; exact ⟨p.2, rfl, hp p (.head _)⟩) (raw_low (l := l) (fun q hq => hp q (.tail _ hq)) r)
section
variable {C : Cx} {D : Muts} {σ : Vars} {s : Shared}
theorem At.weak {x : Str} {d d' : PV} (a : AtC C D ((x, d) :: σ) s) (h : ∀ v, Rep C.prog C.w s.heap (own C.env C.Xc D) d v → Rep C.prog C.w s.heap (own C.env C.Xc D) d' v) : AtC C D ((x, d') :: σ) s := by
  refine { a with vars := ?_ }
  intro y e q
  rw [List.lookup_cons] at q
  cases hb : (y == x) with
  | true =>
    rw [hb] at q
    cases q
    rcases a.vars y d (by rw [List.lookup_cons, hb]) with ⟨k, ml, v, n, e, r⟩ | ⟨k, c, v, e, n, r⟩
    · exact .inl ⟨k, ml, v, n, e, h _ r⟩
    · exact .inr ⟨k, c, v, e, n, h _ r⟩
  | false =>
    rw [hb] at q
    exact a.vars y e (by rw [List.lookup_cons, hb]; exact q)
end
variable {w : World} {mean : ExcName → Option Value} {mg mb : Str → Option Value}
set_option maxHeartbeats 4000000
section
variable {A : Around} {B : Heap} {W : Addr → Prop} {Z : Shared} {L : Addr} {Xc : Addr → Prop} {s : Shared}
theorem filterMap_pos (l : List Int) : (l.filterMap fun x => if decide (0 < x) = true then some (PV.int x) else none).length = (l.filter fun x => decide (0 < x)).length := by
  rw [filterMap_int (fun x => decide (0 < x))]; simp
theorem seg3 {rs : List Row} {cols : List (Int × Int)} {c : Addr} {Q : Flow → Shared → Prop} (rm : Room A 8) (hc : ∀ q ∈ cols, Key q.1) (hcl : cols.length ≤ 1000) (hrs : rs.length ≤ 1000) (hcj : ∀ r ∈ rs, ∀ o ∈ rs, cmpV r o cols = judgedV r o cols)
    (a : AtC ⟨PG, w, A, Gx w mean mg mb, B, W, Z, lawEnv w L, Xc⟩ [(c, .lst [])] [("line", .raw (.ref c)), ("judge", .any (judgeS w cols)), ("columns", .lst (pairItems cols)), ("rows", .lst (rs.map Row.pv))] s) (ht : 1 ≤ s.toks)
    (k : ∀ M s', 0 < M → M ≤ s'.toks → AtC ⟨PG, w, A, Gx w mean mg mb, B, W, Z, lawEnv w L, Xc⟩ [] [("line", .lst (lows (lineV rs cols) M))] s' →
      Go ⟨PG, w, A, Gx w mean mg mb, B, W, Z, lawEnv w L, Xc⟩ (execs (lawB w 9) (lawEnv w L)) Q s') :
    Go ⟨PG, w, A, Gx w mean mg mb, B, W, Z, lawEnv w L, Xc⟩ (execs (lawB w 8) (lawEnv w L)) Q s := by
  refine x_forN (l := rs) (emb := Row.pv) (fun i (st : List (Int × Nat)) => st.map (·.1) = (lineV rs cols).take i ∧ ∀ p ∈ st, 0 < p.2) bnd (fun st => [(c, .lst (rawL st))]) (fun _ => [("line", .raw (.ref c)), ("judge", .any (judgeS w cols)), ("columns", .lst (pairItems cols)), ("rows", .lst (rs.map Row.pv))])
    (fun r => [("row", r.pv)]) [] a ht ⟨rfl, fun p hp => nomatch hp⟩ (evi_list rm.1 (ev_name rfl)) rfl rfl SubV.refl (fun _ => rfl) (fun J h st x hx => binds_name rfl) ?_ ?_
  · intro J h i st r s K hr ⟨hP1, hP2⟩ hM a hk
    have hrm : r ∈ rs := List.mem_of_getElem? hr
    have hilt : i < rs.length := (List.getElem?_eq_some_iff.mp hr).1
    -- told
    refine x_seqT (P := fun s' => AtC (Cx.turn ⟨PG, w, A, Gx w mean mg mb, B, W, Z, lawEnv w L, Xc⟩ J h [(c, .lst (rawL st))]) [(c, .lst (rawL st))] [("told", .lst ((rs.map fun o => cmpV r o cols).map .int)), ("row", r.pv), ("line", .raw (.ref c)), ("judge", .any (judgeS w cols)), ("columns", .lst (pairItems cols)), ("rows", .lst (rs.map Row.pv))] s') hM
      (x_assign_lc1 (dN := .lst ((rs.map fun o => cmpV r o cols).map .int)) a (Nat.zero_le _) ?_ fun s₁ a₁ => x_nil ⟨rfl, a₁⟩) fun s₁ a₁ t₁ => ?_
    · rw [show (rs.map fun o => cmpV r o cols).map PV.int = rs.filterMap fun o => some (.int (cmpV r o cols)) by rw [filterMap_all, List.map_map]; rfl]
      refine comp_list (items := rs) (emb := Row.pv) (σ' := [("judge", .any (judgeS w cols)), ("row", r.pv)]) _ (fun o => [("other", o.pv)]) (gx_ok w mean mg mb) (evi_list rm.1 (ev_name rfl)) rfl (by omega) (SubV.cons rfl (SubV.cons rfl SubV.nil))
        (fun _ _ _ _ o ho => binds_name rfl) ?_ (fun o ho => SubV.cons rfl (SubV.cons rfl SubV.nil))
      intro Cc B' W' X' D' o ho
      refine ⟨tests_nil, fun d' hd' => ?_⟩
      cases hd'
      exact ev_compareCall hc (rm.less (by decide)) (ev_name rfl) (ev_name rfl) (ev_name rfl)
    -- told != [..]
    refine x_seqT (P := fun s' => AtC (Cx.turn ⟨PG, w, A, Gx w mean mg mb, B, W, Z, lawEnv w L, Xc⟩ J h [(c, .lst (rawL st))]) [(c, .lst (rawL st))] [("told", .lst ((rs.map fun o => cmpV r o cols).map .int)), ("row", r.pv), ("line", .raw (.ref c)), ("judge", .any (judgeS w cols)), ("columns", .lst (pairItems cols)), ("rows", .lst (rs.map Row.pv))] s') t₁
      (x_ifF a₁ (evb_compare (a := .lst ((rs.map fun o => cmpV r o cols).map .int)) (b := .lst ((rs.map fun o => judgedV r o cols).map .int)) (ev_name rfl) (ev_lc1 ?_) (op_neInts rm.units)) ?_ fun s₂ a₂ => x_nil (x_nil ⟨rfl, a₂⟩)) fun s₂ a₂ t₂ => ?_
    · rw [show (rs.map fun o => judgedV r o cols).map PV.int = rs.filterMap fun o => some (.int (judgedV r o cols)) by rw [filterMap_all, List.map_map]; rfl]
      refine comp_list (items := rs) (emb := Row.pv) (σ' := [("columns", .lst (pairItems cols)), ("row", r.pv)]) _ (fun o => [("other", o.pv)]) (gx_ok w mean mg mb) (evi_list rm.1 (ev_name rfl)) rfl (by omega) (SubV.cons rfl (SubV.cons rfl SubV.nil))
        (fun _ _ _ _ o ho => binds_name rfl) ?_ (fun o ho => SubV.cons rfl (SubV.cons rfl SubV.nil))
      intro Cc B' W' X' D' o ho
      refine ⟨tests_nil, fun d' hd' => ?_⟩
      cases hd'
      exact ev_call_fn (gx_ok w mean mg mb) (evG rfl rfl) (fun h x => ⟨_, x.1 173 _ rfl, rfl, codeRec_of x.1 rfl⟩) (fn_judged cols hc hcl r o) (rm.less (by decide)) (evl_cons (ev_name rfl) (evl_cons (ev_name rfl) (evl_cons (ev_name rfl) evl_nil)))
    · have : (rs.map fun o => cmpV r o cols) = (rs.map fun o => judgedV r o cols) := List.map_congr_left fun o ho => hcj r hrm o ho
      rw [this]; simp
    -- line.append
    refine x_appendTok (l := rawL st) (i := (((rs.map fun o => cmpV r o cols).filter fun x => decide (0 < x)).length : Int)) a₂ t₂ (ev_name rfl) ?_ (by simp only [rawL, List.length_map]; have := congrArg List.length hP1; simp only [List.length_map, List.length_take] at this; omega) fun t s₃ t3 t4 a₃ => ?_
    · rw [← filterMap_pos]
      refine evTok_len (evB rfl rfl bo_len) (evc_lst (ev_lc1 ?_)) (Nat.le_trans (List.length_filterMap_le _ _) (by rw [List.length_map]; omega))
      refine comp_list (items := rs.map fun o => cmpV r o cols) (emb := .int) (σ' := []) _ (fun x => [("x", .int x)]) (gx_ok w mean mg mb) (evi_list rm.1 (ev_name rfl)) rfl (by rw [List.length_map]; omega) SubV.nil
        (fun _ _ _ _ o ho => binds_name rfl) ?_ (fun o ho => SubV.nil)
      intro Cc B' W' X' D' x hx
      refine ⟨?_, fun d' hd' => ?_⟩
      · have : (if decide (0 < x) = true then some (PV.int x) else none).isSome = decide (0 < x) := by
          cases decide (0 < x) <;> rfl
        rw [this]
        exact tests_one (evb_value (ev_call_fn (gx_ok w mean mg mb) (evG rfl rfl) (fun h x => ⟨_, x.1 63 _ rfl, rfl, codeRec_of x.1 rfl⟩) (fn_gt x 0) (rm.less (by decide)) (evl_cons (ev_name rfl) (evl_cons ev_int evl_nil))))
      · split at hd' <;> cases hd'
        exact ev_name rfl
    · have hline : (lineV rs cols)[i]? = some (((rs.map fun o => cmpV r o cols).filter fun x => decide (0 < x)).length : Int) := by
        unfold lineV; rw [List.getElem?_map, hr]; rfl
      refine x_nil (hk (st ++ [((((rs.map fun o => cmpV r o cols).filter fun x => decide (0 < x)).length : Int), t)]) s₃ ⟨?_, fun p hp => ?_⟩ (bnd_snoc st _ t _ t3 t4) ?_)
      · rw [List.map_append, hP1, List.take_add_one, hline]; rfl
      · rcases List.mem_append.mp hp with q | q
        · exact hP2 p q
        · rw [List.mem_singleton] at q; subst q
          exact Nat.lt_of_lt_of_le (bnd_pos st) t3
      · simp only [rawL, List.map_append] at a₃ ⊢
        exact At.forget a₃ (SubV.cons rfl (SubV.cons rfl (SubV.cons rfl (SubV.cons rfl SubV.nil))))
  · intro sN s' ⟨hP1, hP2⟩ hM a'
    refine x_nil (k (bnd sN) s' (bnd_pos sN) hM ?_)
    have a₁ := (At.freeze a' (σ' := [("line", .lst (rawL sN))]) (FrzV.turn rfl FrzV.nil)).1
    have hl : lineV rs cols = sN.map (·.1) := by
      rw [hP1, List.take_of_length_le]
      unfold lineV; rw [List.length_map]; exact Nat.le_refl _
    rw [hl]
    refine At.weak a₁ fun v r => ?_
    obtain ⟨b, vs, rfl, n, hl, hr⟩ := Rep.plain_lst r
    simp only [Rep]
    exact ⟨b, rfl, n, vs, hl, raw_low (fun p hp => ⟨hP2 p hp, bnd_mem hp⟩) hr⟩
end
end Mine
end

section
open PySem PySem.W PyProof.Rows
namespace Mine
theorem clipAt_lo (x : Int) (n : Nat) : clipAt n x = if x < 0 then n - (-x).toNat else min x.toNat n := by
  unfold clipAt
  split
  · rename_i h
    rw [Int.min_eq_left (by omega : x + n ≤ n)]
    rcases Int.le_total 0 (x + n) with q | q
    · rw [Int.max_eq_right q]; omega
    · rw [Int.max_eq_left q]; omega
  · rename_i h
    rcases Int.le_total x n with q | q
    · rw [Int.min_eq_left q, Int.max_eq_right (Int.not_lt.mp h), Nat.min_eq_left (by omega)]
    · rw [Int.min_eq_right q, Int.max_eq_right (Int.natCast_nonneg n), Nat.min_eq_right (by omega)]; rfl
theorem picked_pick (b : Array UInt8) (lo hi : Option Int) : (KBy.picked b lo hi).toList = pickL b.toList lo hi := by
  rw [KBc.picked_eq]
  unfold pickL
  have e : b.toList.length = b.size := by simp
  have e1 : lo.elim 0 (clipAt b.size) = kms_lo lo b.toList.length := by
    cases lo with
    | none => rfl
    | some x => show clipAt b.size x = _; rw [clipAt_lo, e]; rfl
  have e2 : hi.elim b.size (clipAt b.size) = kms_hi hi b.toList.length := by
    cases hi with
    | none => exact e.symm
    | some x => show clipAt b.size x = _; rw [clipAt_lo, e]; rfl
  rw [e1, e2]
section
variable {C : Cx} {D : Muts} {σ : Vars} {s : Shared} {M : Nat}
theorem ev_slice_bytes {value : Expr} {lower upper : Option Expr} {p pos : Pos} {b : Array UInt8} {lo hi : Option Int} (hv : Ev C D σ value (.bytes b)) (hl : EvP C D σ lower lo) (hu : EvP C D σ upper hi) (hsz : b.size ≤ 1000000)
    (ht : ∀ o r, letTemporaryGo value o r = pure () := by intro _ _; rfl) : Ev C D σ (.Subscript value (.Slice lower upper none p) pos) (.bytes (KBy.picked b lo hi)) := by
  intro s a Q k
  refine wpAny_Subscript_Slice (T := "bytes") FB.slot_bytes_getitem.lookup (hv s a _ fun o s₁ x₁ r₁ => wpAny_Slice (hl s₁ (a.ext x₁) _ fun vl s₂ x₂ pl => hu s₂ (a.ext (x₁.trans x₂)) _ fun vu s₃ x₃ pu => ?_)) ht
  obtain ⟨t, rfl⟩ := bytes_of r₁
  rw [evalPart_none]
  refine wpAny_pure ⟨typeIs_bytes _ _ _, ?_⟩
  refine getItem_meets (typeIs_bytes _ _ _) (by decide) FB.slot_bytes_getitem FB.entry_bytes_getitem (FB.args_bytes_getitem_2 _ _) (KBc.meets_slice2 b t _ pl pu)
    ⟨Heap.IsSliceOf.new _ _ _ _, Nat.le_trans (KBc.size_picked_le b lo hi) (by rw [sizeLine_eq]; omega), fun t' n => ?_⟩
  exact k _ _ (((x₁.trans x₂).trans x₃).trans (Ext.mk' (Grow.push _ _))) of_bytes
theorem ev_bytes_ints {fx : Str} {np pos : Pos} {e : Expr} {l : List Int} (hh : C.A.handled = none) (hf : Ev C D σ (.Name fx np) (.raw (.type "bytes"))) (he : Ev C D σ e (.lst (l.map .int))) (hr : ∀ n ∈ l, 0 ≤ n ∧ n < 256) (hsz : l.length ≤ 1000000)
    (hst : starEach [e] C.env = (false, eval e C.env) :: starEach [] C.env := by rfl) : Ev C D σ (.Call (.Name fx np) [e] [] pos) (.bytes (octets l).toArray) := by
  refine ev_call_type hf (evl_cons he evl_nil hst) (fun s vs a r Q k => ?_) hst
  simp only [RepLC, RepL] at r
  obtain ⟨v, q, rfl, r, rfl⟩ := r
  obtain ⟨a1, vs, rfl, _, hl, hr'⟩ := Rep.cont_lst r
  have hi := ints_are' hr'
  refine call_bytes_ints hl hi hr (by rw [hi.length, sizeLine_eq]; omega) hh fun h' t n hk => ?_
  have e : byteArr l = (octets l).toArray := by unfold byteArr octets; simp
  rw [e]
  exact k _ _ (Ext.mk' hk) of_bytes
end
section
variable {C : Cx} {s : Shared} {M : Nat}
theorem xC_seqT {st : Stmt} {rest : List Stmt} {Q : Flow → Shared → Prop} {P : Shared → Prop} (hM : M ≤ s.toks) (h : GoC C (execs [st] C.env) (fun f s' => f = .next ∧ P s') s) (k : ∀ s', P s' → M ≤ s'.toks → GoC C (execs rest C.env) Q s') : GoC C (execs (st :: rest) C.env) Q s := by
  intro Γ p hΓ hc
  have h0 := h Γ p hΓ hc
  rw [execs_cons, Sem.wp_bind'] at h0 ⊢
  refine Sem.wp_mono _ Γ _ (fun f p' s' h' => ?_) (fun _ _ _ h' => h'.2) _ _ (Sem.wp_toks _ Γ M _ _ _ _ s hM h0)
  obtain ⟨hM', h'⟩ := h'
  cases f with
  | next =>
    have h2 : Flow.next = Flow.next ∧ P s' := h'
    exact k s' h2.2 hM' Γ p' hΓ hc
  | _ => exact absurd h'.1 (by intro e; cases e)
end
variable {w : World} {mean : ExcName → Option Value} {mg mb : Str → Option Value}
set_option maxHeartbeats 4000000
section
variable {A : Around} {B : Heap} {W : Addr → Prop} {Z : Shared} {env : Env} {L : Addr} {Xc : Addr → Prop} {D : Muts} {σ : Vars} {s : Shared}
theorem ev_isBytes {e1 e2 : Expr} {fx : Str} {np pos : Pos} {b : Array UInt8} (hf : Ev ⟨PG, w, A, Gx w mean mg mb, B, W, Z, env, Xc⟩ D σ (.Name fx np) (.raw (.builtin "isinstance"))) (h1 : Ev ⟨PG, w, A, Gx w mean mg mb, B, W, Z, env, Xc⟩ D σ e1 (.bytes b))
    (h2 : Ev ⟨PG, w, A, Gx w mean mg mb, B, W, Z, env, Xc⟩ D σ e2 (.raw (.type "bytes")))
    (he : starEach [e1, e2] env = (false, eval e1 env) :: starEach [e2] env := by rfl) (he' : starEach [e2] env = (false, eval e2 env) :: starEach [] env := by rfl) (hplain : (backTo pos (starEach [e2] env)).any (·.1) = false := by rfl) :
    Ev ⟨PG, w, A, Gx w mean mg mb, B, W, Z, env, Xc⟩ D σ (.Call (.Name fx np) [e1, e2] [] pos) (.bool true) := by
  refine ev_call_builtin hf (evl_cons h1 (evl_cons h2 evl_nil he') he) (fun s vs a r Q k => ?_) he hplain
  simp only [RepLC, RepL, Rep] at r
  obtain ⟨v1, q1, rfl, ⟨t, rfl⟩, v2, q2, rfl, rfl, rfl⟩ := r
  have X : (KF w).In s.heap := (a.globNow (gx_ok w mean mg mb).mono).1
  exact kia_one kitx_bytes X trivial (by unfold kitOne; rw [if_pos (by decide)]) (by intro e; cases e) fun tk => k _ _ Ext.tok of_bool
theorem seg4 {l : List Int} {ws : List (List Int)} {M : Nat} {Q : Flow → Shared → Prop} (rm : Room A 8) (hw : ways 7 l = some ws) (hne : ws ≠ []) (hm : (ws.headD []).length ≤ 1000) (hM : M ≤ s.toks)
    (a : AtC ⟨PG, w, A, Gx w mean mg mb, B, W, Z, lawEnv w L, Xc⟩ [] [("line", .lst (lows l M))] s)
    (k : ∀ s', M ≤ s'.toks → AtC ⟨PG, w, A, Gx w mean mg mb, B, W, Z, lawEnv w L, Xc⟩ [] [("many", .int (many ws)), ("ways", .lst (intLists ws)), ("line", .lst (lows l M))] s' →
      Go ⟨PG, w, A, Gx w mean mg mb, B, W, Z, lawEnv w L, Xc⟩ (execs (lawB w 11) (lawEnv w L)) Q s') :
    Go ⟨PG, w, A, Gx w mean mg mb, B, W, Z, lawEnv w L, Xc⟩ (execs (lawB w 9) (lawEnv w L)) Q s := by
  refine x_seqT (P := fun s' => AtC ⟨PG, w, A, Gx w mean mg mb, B, W, Z, lawEnv w L, Xc⟩ [] [("ways", .lst (intLists ws)), ("line", .lst (lows l M))] s') hM
    (x_assign a (ev_call_fn (gx_ok w mean mg mb) (evG rfl rfl) (fun h x => ⟨_, x.1 178 _ rfl, rfl, codeRec_of x.1 rfl⟩) (fn_ways 7 l hw) (rm.less (by decide)) (evl_cons (ev_weak (ev_name rfl)) evl_nil)) fun s₁ a₁ => x_nil ⟨rfl, a₁⟩) fun s₁ a₁ t₁ => ?_
  refine x_seqT (P := fun s' => AtC ⟨PG, w, A, Gx w mean mg mb, B, W, Z, lawEnv w L, Xc⟩ [] [("many", .int (many ws)), ("ways", .lst (intLists ws)), ("line", .lst (lows l M))] s') t₁ (x_assign (d := .int (many ws)) a₁ ?_ fun s₂ a₂ => x_nil ⟨rfl, a₂⟩) fun s₂ a₂ t₂ => k s₂ t₂ a₂
  have e : many ws = (((ws.headD []).map PV.int).length : Int) := by rw [List.length_map]; rfl
  rw [e]
  refine ev_len (evB rfl rfl bo_len) (evc_lst (ev_item_list (evc_lst (ev_name rfl)) ev_int (by decide) (by decide) ?_)) (by rw [List.length_map]; omega)
  cases ws with
  | nil => exact absurd rfl hne
  | cons x r => rfl
/-- the call of _byteswap -/
theorem segC {l : List Int} {ws : List (List Int)} {r : Array UInt8} {M : Nat} {Q : Flow → Shared → Prop} (rm : Room A 8) (hr : swapped (octets (flat ws)) (max (many ws) 1) = some r) (hin : ∀ n ∈ flat ws, 0 ≤ n ∧ n < 256) (hsz : (flat ws).length ≤ 1000000) (hwl : ws.length ≤ 1000000) (hM : M ≤ s.toks)
    (a : AtC ⟨PG, w, A, Gx w mean mg mb, B, W, Z, lawEnv w L, Xc⟩ [] [("many", .int (many ws)), ("ways", .lst (intLists ws)), ("line", .lst (lows l M))] s)
    (k : ∀ s', M ≤ s'.toks → AtC ⟨PG, w, A, Gx w mean mg mb, B, W, Z, lawEnv w L, Xc⟩ [] [("turned", .bytes r), ("many", .int (many ws)), ("ways", .lst (intLists ws)), ("line", .lst (lows l M))] s' →
      Go ⟨PG, w, A, Gx w mean mg mb, B, W, Z, lawEnv w L, Xc⟩ (execs (lawD w 12) (lawEnv w L)) Q s') :
    GoC ⟨PG, w, A, Gx w mean mg mb, B, W, Z, lawEnv w L, Xc⟩ (execs (lawD w 11) (lawEnv w L)) Q s := by
  have hmax : (if (1 : Int) > many ws then 1 else many ws) = max (many ws) 1 := by split <;> omega
  refine xC_seqT (P := fun s' => AtC ⟨PG, w, A, Gx w mean mg mb, B, W, Z, lawEnv w L, Xc⟩ [] [("turned", .bytes r), ("many", .int (many ws)), ("ways", .lst (intLists ws)), ("line", .lst (lows l M))] s') hM
    (xC_assign_call (gx_ok w mean mg mb) a (evG rfl rfl) (fun h x => ⟨_, x.1 154 _ rfl, rfl, codeRec_of x.1 rfl⟩) (fn_byteswap (octets (flat ws)) (max (many ws) 1) hr) (rm.less (by decide)) (evl_cons (ev_bytes_ints rm.1 (evB rfl rfl bo_bytes) ?_ hin hsz) (evl_cons ?_ evl_nil)) (fun s₁ a₁ => wpC_any (x_nil ⟨rfl, a₁⟩)) (hlen := Nat.le_of_ble_eq_true rfl))
    fun s₁ a₁ t₁ => wpC_any (k s₁ t₁ a₁)
  · have e : PV.lst ((flat ws).map .int) = .lst (ws.flatMap fun x => (x.map fun i => PV.int i)) := by
      unfold flat; rw [List.map_flatMap]
    rw [e]
    refine ev_lc2 (comp_list2 (T2 := tgtOk) (items := ws) (emb := fun x => .lst (x.map .int)) (emb2 := .int) (σ' := []) (fun x => x) (fun x i => .int i) (fun x => [("way", .lst (x.map .int))]) (fun i => [("letter", .int i)]) (gx_ok w mean mg mb) (evi_list rm.1 (ev_name rfl)) rfl rfl ?_ SubV.nil
      (fun _ _ _ _ x hx => binds_name rfl) (fun _ _ _ _ x i hx hi => binds_name rfl) (fun _ _ _ _ _ x hx => evi_list rm.1 (ev_name rfl)) (fun _ _ _ _ _ x i hx hi => ev_name rfl) (fun x hx => SubV.nil) (fun x hx i hi => SubV.cons rfl SubV.nil))
    have : (ws.flatMap fun x => (x.map fun i => PV.int i)).length = (flat ws).length := by
      unfold flat; simp [List.length_flatMap]
    rw [this]; exact hsz
  · rw [← hmax]
    exact ev_max rm.1 (evB rfl rfl bo_max) (ev_name rfl) ev_int
end
end Mine
end

section
open PySem PySem.W PyProof.Rows
namespace Mine
theorem range_ints (n : Nat) : rangeInts 0 1 (lenR 0 (n : Int)) = (List.range n).map fun i : Nat => (i : Int) := by
  unfold rangeInts lenR
  have : ((n : Int) - 0).toNat = n := by omega
  rw [this]
  simp
variable {w : World} {mean : ExcName → Option Value} {mg mb : Str → Option Value}
set_option maxHeartbeats 4000000
section
variable {A : Around} {B : Heap} {W : Addr → Prop} {Z : Shared} {env : Env} {L : Addr} {Xc : Addr → Prop} {D : Muts} {σ : Vars} {s : Shared}
theorem seg5 {l : List Int} {ws : List (List Int)} {r : Array UInt8} {M : Nat} {Q : Flow → Shared → Prop} (rm : Room A 8) (hm : 0 ≤ many ws ∧ many ws ≤ 1000) (hr : (r.size : Int) = many ws * ws.length) (hrs : r.size ≤ 1000000) (hwl : ws.length ≤ 1000000)
    (hM0 : 0 < M) (hM : M ≤ s.toks) (hls : ∀ x ∈ l, smallInt x = true) (hlm : (0 : Int) ∈ l ∧ (1 : Int) ∈ l ∧ (2 : Int) ∈ l ∧ (3 : Int) ∈ l)
    (a : AtC ⟨PG, w, A, Gx w mean mg mb, B, W, Z, lawEnv w L, Xc⟩ [] [("turned", .bytes r), ("many", .int (many ws)), ("ways", .lst (intLists ws)), ("line", .lst (lows l M))] s)
    (k : ∀ s', AtC ⟨PG, w, A, Gx w mean mg mb, B, W, Z, lawEnv w L, Xc⟩ [] [("back", .lst ((backOf l).map .int)), ("words", .lst (intLists (wordsOf r (many ws) ws.length))), ("many", .int (many ws)), ("ways", .lst (intLists ws)), ("line", .lst (l.map .int))] s' →
      Go ⟨PG, w, A, Gx w mean mg mb, B, W, Z, lawEnv w L, Xc⟩ (execs (lawD w 15) (lawEnv w L)) Q s') :
    Go ⟨PG, w, A, Gx w mean mg mb, B, W, Z, lawEnv w L, Xc⟩ (execs (lawD w 12) (lawEnv w L)) Q s := by
  have hwl' : (intLists ws).length = ws.length := by unfold intLists; rw [List.length_map]
  have elen : ∀ {C : Cx} {D : Muts} {σ : Vars} {e : Expr} {np : Pos} (pos : Pos), Ev C D σ e (.lst (intLists ws)) → Ev C D σ (.Name "len" np) (.raw (.builtin "len")) → (starEach [e] C.env = (false, eval e C.env) :: starEach [] C.env) → Ev C D σ (.Call (.Name "len" np) [e] [] pos) (.int ws.length) := fun pos he hf hst => by
    have := ev_len (pos := pos) hf (evc_lst he) (by rw [hwl']; exact hwl) hst
    rw [hwl'] at this; exact this
  refine x_seqT (P := fun s' => AtC ⟨PG, w, A, Gx w mean mg mb, B, W, Z, lawEnv w L, Xc⟩ [] [("turned", .bytes r), ("many", .int (many ws)), ("ways", .lst (intLists ws)), ("line", .lst (lows l M))] s') hM
    (x_ifF (b := (!true) || ((r.size : Int) != many ws * ws.length)) a (evb_or (evb_not (evb_value (ev_isBytes (evB rfl rfl bo_isinstance) (ev_name rfl) (evB rfl rfl bo_bytes)))) fun _ => evb_compare (ev_len_bytes (evB rfl rfl bo_len) (ev_name rfl) hrs)
      (ev_binop (ev_name rfl) (elen _ (ev_name rfl) (evB rfl rfl bo_len) rfl) (op_mul (mulOk_l (by omega)))) op_ne) (by rw [hr]; simp) fun s₁ a₁ => x_nil (x_nil ⟨rfl, a₁⟩)) fun s₁ a₁ t₁ => ?_
  refine x_seqT (P := fun s' => AtC ⟨PG, w, A, Gx w mean mg mb, B, W, Z, lawEnv w L, Xc⟩ [] [("words", .lst (intLists (wordsOf r (many ws) ws.length))), ("turned", .bytes r), ("many", .int (many ws)), ("ways", .lst (intLists ws)), ("line", .lst (lows l M))] s') t₁
    (x_assign_lc1 (dN := .lst (intLists (wordsOf r (many ws) ws.length))) a₁ (Nat.zero_le _) ?_ fun s₂ a₂ => x_nil ⟨rfl, a₂⟩) fun s₂ a₂ t₂ => ?_
  · have e : intLists (wordsOf r (many ws) ws.length) = (rangeInts 0 1 (lenR 0 (ws.length : Int))).filterMap fun n => some (.lst (((pickL r.toList (some (many ws * n)) (some (many ws * n + many ws))).map fun c => (c.toNat : Int)).map .int)) := by
      rw [range_ints, filterMap_all]
      unfold intLists wordsOf
      rw [List.map_map, List.map_map]
      rfl
    rw [e]
    refine comp_list (items := rangeInts 0 1 (lenR 0 (ws.length : Int))) (emb := .int) (σ' := [("many", .int (many ws)), ("turned", .bytes r)]) _ (fun n => [("n", .int n)]) (gx_ok w mean mg mb)
      (evi_range1 rm.1 (evB rfl rfl bo_range) (elen _ (ev_name rfl) (evB rfl rfl bo_len) rfl) (by constructor <;> omega)) rfl (by rw [range_ints]; simp; omega) (SubV.cons rfl (SubV.cons rfl SubV.nil))
      (fun _ _ _ _ n hn => binds_name rfl) ?_ (fun n hn => SubV.cons rfl (SubV.cons rfl SubV.nil))
    intro Cc B' W' X' D' n hn
    refine ⟨tests_nil, fun d' hd' => ?_⟩
    cases hd'
    have e2 : ((pickL r.toList (some (many ws * n)) (some (many ws * n + many ws))).map fun c => (c.toNat : Int)).map PV.int = (KBy.picked r (some (many ws * n)) (some (many ws * n + many ws))).toList.filterMap fun c => some (.int (c.toNat : Int)) := by
      rw [filterMap_all, picked_pick, List.map_map]; rfl
    rw [e2]
    refine ev_lc1 (comp_list (items := (KBy.picked r (some (many ws * n)) (some (many ws * n + many ws))).toList) (emb := fun c => .int (c.toNat : Int)) (σ' := []) _ (fun c => [("octet", .int (c.toNat : Int))]) (gx_ok w mean mg mb)
      (evi_bytes rm.1 (ev_slice_bytes (ev_name rfl) (evp_int (ev_binop (ev_name rfl) (ev_name rfl) (op_mul (mulOk_l (by omega))))) (evp_int (ev_binop (ev_binop (ev_name rfl) (ev_name rfl) (op_mul (mulOk_l (by omega)))) (ev_name rfl) op_add)) hrs)) rfl ?_ SubV.nil
      (fun _ _ _ _ c hc => binds_name rfl) ?_ (fun c hc => SubV.nil))
    · have := KBc.size_picked_le r (some (many ws * n)) (some (many ws * n + many ws))
      rw [Array.length_toList]; omega
    · intro Cc B' W' X' D' c hc
      refine ⟨tests_nil, fun d' hd' => ?_⟩
      cases hd'
      exact ev_name rfl
  refine x_assign_lc1 (M := M) (dN := .lst ((backOf l).map .int)) a₂ t₂ ?_ fun s₃ a₃ => ?_
  · have e : (backOf l).map PV.int = (List.range 4).filterMap fun i : Nat => some (.int ((l.idxOf (i : Int) : Nat) : Int)) := rfl
    rw [e]
    refine comp_list (items := List.range 4) (emb := fun i : Nat => .any (highS i M)) (σ' := [("line", .lst (lows l M))]) _ (fun i => [("rank", .any (highS i M))]) (gx_ok w mean mg mb)
      (evi_range1M (n := 4) rm.1 (evB rfl rfl bo_range) ev_int (by decide)) rfl (by decide) (SubV.cons rfl SubV.nil)
      (fun _ _ _ _ n hn => binds_name rfl) ?_ (fun n hn => SubV.cons rfl SubV.nil)
    intro Cc B' W' X' D' n hn
    refine ⟨tests_nil, fun d' hd' => ?_⟩
    cases hd'
    have hnl : (n : Int) ∈ l := by
      rw [List.mem_range] at hn
      have : n = 0 ∨ n = 1 ∨ n = 2 ∨ n = 3 := by omega
      rcases this with rfl | rfl | rfl | rfl
      · exact hlm.1
      · exact hlm.2.1
      · exact hlm.2.2.1
      · exact hlm.2.2.2
    exact ev_call_fn (gx_ok w mean mg mb) (evG rfl rfl) (fun h x => ⟨_, x.1 70 _ rfl, rfl, codeRec_of x.1 rfl⟩) (fn_indexOf l n M hM0 hls hnl) (rm.less (by decide)) (evl_cons (ev_name rfl) (evl_cons (ev_name rfl) evl_nil))
  · refine k s₃ ?_
    have a4 := At.forget a₃ (σ' := [("line", .lst (lows l M)), ("back", .lst ((backOf l).map .int)), ("words", .lst (intLists (wordsOf r (many ws) ws.length))), ("many", .int (many ws)), ("ways", .lst (intLists ws))]) (SubV.cons rfl (SubV.cons rfl (SubV.cons rfl (SubV.cons rfl (SubV.cons rfl SubV.nil)))))
    have a5 := At.weak (d' := .lst (l.map .int)) a4 fun v r => by
      obtain ⟨b, vs, rfl, n, hl, hr⟩ := Rep.plain_lst r
      simp only [Rep]
      exact ⟨b, rfl, n, vs, hl, lows_weak hr⟩
    exact At.forget a5 (SubV.cons rfl (SubV.cons rfl (SubV.cons rfl (SubV.cons rfl (SubV.cons rfl SubV.nil)))))
end
end Mine
end

section
open PySem PySem.W PyProof.Rows
open PySem.SeqAt MeetsSeq MeetsSeq2 MeetsSeq3
open AutoSeq1 (wpAny_loadPart')
namespace Mine
def ltI : List Int → List Int → Bool
  | [], [] => false
  | [], _ :: _ => true
  | _ :: _, [] => false
  | a :: r, b :: t => if (a == b) = true then ltI r t else decide (a < b)
theorem ints_get {vs : List Value} {l : List Int} (h : IntsAre vs l) (i : Nat) (hi : i < l.length) : ∃ t, vs[i]? = some (.int l[i] t) := by
  induction h generalizing i with
  | nil => simp at hi
  | cons n t r ih =>
    cases i with
    | zero => exact ⟨t, rfl⟩
    | succ i => simpa using ih i (by simpa using hi)
theorem rc_lt_int {prog : Program} {w : World} {A : Around} {E : Value → Shared → Prop} {s : Shared} {x y : Int} {t u : Tok} {Q : Value → Shared → Prop} (h : Q (.bool (decide (x < y))) s) : wpAny (model prog w) A (richCompare .Lt (.int x t) (.int y u)) Q E s := by
  have := lt_int (prog := prog) (w := w) (A := A) (E := E) (a := x) (b := y) (t := t) (u := u) h
  exact this
theorem lt_loopI (l b : Addr) (items items2 : List Value) (n n2 : Nat) (la lb : List Int) (ha : IntsAre items la) (hb : IntsAre items2 lb) (k : Nat) :
    ∀ i : Nat, items.length - i = k → i ≤ items.length → i ≤ items2.length → Meets (Builtin.«list.__eq__.loop» ⟨[.ref l, .ref b, rawInt i, rawInt 0], []⟩)
      (fun A R s => s.heap.get? l = some { cls := .type "list", dict := none, data := .seq items.toArray n, slots := #[] } ∧ s.heap.get? b = some { cls := .type "list", dict := none, data := .seq items2.toArray n2, slots := #[] } ∧
        R (.ok (.ret (.bool (ltI (la.drop i) (lb.drop i))))) s) := by
  have hla := ha.length
  have hlb := hb.length
  induction k with
  | zero =>
    intro i hk hi hi' prog w A R s h
    obtain ⟨hp, g, d, tk, os⟩ := s; obtain ⟨hl, hb', h⟩ := h
    have hie : i = items.length := by omega
    wp_walk using wpAny_loadPart' hl, wpAny_loadPart' hb'
    have hi1 : items.toArray[((i : Nat) : Int).toNat]? = none := by simp; omega
    rw [hi1]
    wp_walk using wpAny_loadPart' hl, wpAny_loadPart' hb'
    show R (.ok (.ret (.bool (decide (items.toArray.size < items2.toArray.size))))) _
    have e1 : la.drop i = [] := by rw [List.drop_eq_nil_iff]; omega
    have e2 : ltI (la.drop i) (lb.drop i) = decide (items.toArray.size < items2.toArray.size) := by
      rw [e1, List.size_toArray, List.size_toArray]
      cases h' : lb.drop i with
      | nil =>
        have : lb.length ≤ i := by rw [← List.drop_eq_nil_iff]; exact h'
        exact (decide_eq_false (by omega)).symm
      | cons a r =>
        have : ¬ lb.length ≤ i := fun q => by rw [← List.drop_eq_nil_iff, h'] at q; cases q
        exact (decide_eq_true (by omega)).symm
    rw [← e2]; exact h
  | succ k ih =>
    intro i hk hi hi' prog w A R s h
    obtain ⟨hp, g, d, tk, os⟩ := s; obtain ⟨hl, hb', h⟩ := h
    wp_walk using wpAny_loadPart' hl, wpAny_loadPart' hb'
    have hlt : i < la.length := by omega
    obtain ⟨t, ht⟩ := ints_get ha i hlt
    have hi1 : items.toArray[((i : Nat) : Int).toNat]? = some (.int la[i] t) := by simpa using ht
    by_cases hlt2 : i < lb.length
    · obtain ⟨u, hu⟩ := ints_get hb i hlt2
      have hi2 : items2.toArray[((i : Nat) : Int).toNat]? = some (.int lb[i] u) := by simpa using hu
      have hc : ((i : Int) + 1) = ((i + 1 : Nat) : Int) := by push_cast; rfl
      have ed : ltI (la.drop i) (lb.drop i) = if (la[i] == lb[i]) = true then ltI (la.drop (i + 1)) (lb.drop (i + 1)) else decide (la[i] < lb[i]) := by
        rw [List.drop_eq_getElem_cons hlt, List.drop_eq_getElem_cons hlt2]; rfl
      rw [ed] at h
      rw [hi1, hi2]
      refine wpAny_bind (SeqAt.EqAt.int_int (la[i]) t (lb[i]) u prog w _ _ ?_)
      cases hb'' : (la[i] == lb[i]) with
      | true =>
        rw [hb'', if_pos rfl] at h
        wp_walk
        rw [hc]
        exact ⟨plainId_quiet plain_eq_loop _, codeAny_builtin entry_eq_loop (by
          rw [Around.under_plainId plain_eq_loop _]
          exact ih (i + 1) (by omega) (by omega) (by omega) prog w A R _ ⟨hl, hb', h⟩)⟩
      | false =>
        rw [hb'', if_neg (by decide)] at h
        wp_walk using wpAny_loadPart' hl, wpAny_loadPart' hb'
        rw [hi1, hi2]
        refine wpAny_bind (rc_lt_int ?_)
        exact wpAny_pure h
    · have hie : i = items2.length := by omega
      have hi2 : items2.toArray[((i : Nat) : Int).toNat]? = none := by simp; omega
      rw [hi1, hi2]
      wp_walk using wpAny_loadPart' hl, wpAny_loadPart' hb'
      show R (.ok (.ret (.bool (decide (items.toArray.size < items2.toArray.size))))) _
      have e1 : lb.drop i = [] := by rw [List.drop_eq_nil_iff]; omega
      have e2 : ltI (la.drop i) (lb.drop i) = decide (items.toArray.size < items2.toArray.size) := by
        rw [e1, List.drop_eq_getElem_cons hlt, List.size_toArray, List.size_toArray]
        exact (decide_eq_false (by omega)).symm
      rw [← e2]; exact h
theorem list_ltI (l b : Addr) (items items2 : List Value) (n n2 : Nat) (la lb : List Int) (ha : IntsAre items la) (hb : IntsAre items2 lb) :
    Meets (Builtin.«list.__lt__» ⟨[.ref l, .ref b], []⟩)
      (fun A R s => s.heap.get? l = some { cls := .type "list", dict := none, data := .seq items.toArray n, slots := #[] } ∧ s.heap.get? b = some { cls := .type "list", dict := none, data := .seq items2.toArray n2, slots := #[] } ∧
        R (.ok (.ret (.bool (ltI la lb)))) s) := by
  intro prog w A R s h
  obtain ⟨hp, g, d, tk, os⟩ := s; obtain ⟨hl, hb', h⟩ := h
  have f3 := AutoSeq1.sub_list_list
  wp_walk using wpAny_loadPart' hl, wpAny_loadPart' hb'
  exact ⟨plainId_quiet plain_eq_loop _, codeAny_builtin entry_eq_loop (by
    rw [Around.under_plainId plain_eq_loop _]
    exact lt_loopI l b items items2 n n2 la lb ha hb _ 0 rfl (Nat.zero_le _) (Nat.zero_le _) prog w A R _ ⟨hl, hb', by simpa using h⟩)⟩
/-- a comparison of the sort -/
theorem keyLt_lists {prog : Program} {w : World} {A : Around} {E : Value → Shared → Prop} {s : Shared} {l b : Addr} {items items2 : List Value} {n n2 : Nat} {la lb : List Int} {Q : Bool → Shared → Prop} (hu : A.units < cLine) (ha : IntsAre items la) (hb : IntsAre items2 lb)
    (hl : s.heap.get? l = some { cls := .type "list", dict := none, data := .seq items.toArray n, slots := #[] }) (hb' : s.heap.get? b = some { cls := .type "list", dict := none, data := .seq items2.toArray n2, slots := #[] }) (h : Q (ltI la lb) s) :
    wpAny (model prog w) A (keyLt' oneType' (.ref l) (.ref b)) Q E s := by
  rw [keyLt'_oneType, oneLt'_eq]
  simp only [if_true]
  refine wpAny_bind (wpAny_cRoomFor hu ?_)
  refine wpAny_bind (wpAny_callSpecialIfBound?_slot (T := "list") ⟨_, hl, rfl⟩ PySem.F.slot_list_lt ?_)
  refine call_meets PySem.F.slot_list_lt ⟨_, hl, rfl⟩ PySem.F.entry_list_lt (PySem.F.args_list_lt_2 _ _) (list_ltI l b items items2 n n2 la lb ha hb) ⟨hl, hb', ?_⟩
  exact wpAny_truthy_bool h
end Mine
end

section
open PySem PySem.W PySem.Calls PyProof.Rows
namespace Mine
/-- a sorting tree run on plain answers -/
def runO {α : Type} (lt : Nat → Nat → Bool) (n : Nat) : KasT α → Option α
  | .ret a => some a
  | .ask i j k => if i < n ∧ j < n then runO lt n (k (lt i j)) else none
theorem runO_wp {α : Type} {cmp : Nat → Nat → (Bool → Shared → Prop) → Shared → Prop} {lt : Nat → Nat → Bool} {n : Nat} {s : Shared} (hc : ∀ i j (C : Bool → Shared → Prop), i < n → j < n → C (lt i j) s → cmp i j C s) {Q : α → Shared → Prop} : ∀ (t : KasT α) {a : α}, runO lt n t = some a → Q a s → t.kasWp cmp Q s
  | .ret a, b, h, q => by simp only [runO] at h; cases h; exact q
  | .ask i j k, b, h, q => by
    rw [runO, Option.ite_none_right_eq_some] at h
    exact hc i j _ h.1.1 h.1.2 (runO_wp hc (k (lt i j)) h.2 q)
/-- the order in which the sort puts the lists -/
def sortP (ws : List (List Int)) : Option (List Nat) := if ws.length < 2 then some (List.range ws.length) else (if ws.length < 64 then
  (match runO (fun i j => ltI (ws.getD i []) (ws.getD j [])) ws.length (kas_sort ws.length) with
  | none => none
  | some p => if (p.toList.all fun i => decide (i < ws.length)) = true ∧ p.toList.length = ws.length then some p.toList else none) else none)
def sortV (ws : List (List Int)) : Option (List (List Int)) := (sortP ws).map fun p => p.map fun i => ws.getD i []

section
variable {prog : Program} {w : World} {A : Around} {E : Value → Shared → Prop} {s : Shared}
/-- lists of ints at hand, a itself not among them -/
def Laid (h : Heap) (a : Addr) (vs : List Value) (ws : List (List Int)) : Prop := vs.length = ws.length ∧ ∀ i, i < ws.length → ∃ b n items, vs.getD i .none = .ref b ∧ b ≠ a ∧ h.get? b = some { cls := .type "list", dict := none, data := .seq (List.toArray items) n, slots := #[] } ∧ IntsAre items (ws.getD i [])
theorem Laid.keep {h h' : Heap} {a : Addr} {vs : List Value} {ws : List (List Int)} (x : Laid h a vs ws) (k : ∀ b o, b ≠ a → h.get? b = some o → h'.get? b = some o) : Laid h' a vs ws :=
  ⟨x.1, fun i hi => let ⟨b, n, items, e, hb, ho, q⟩ := x.2 i hi; ⟨b, n, items, e, hb, k b _ hb ho, q⟩⟩
theorem list_sort_own {a : Addr} {vs : List Value} {ws : List (List Int)} {n : Nat} {p : List Nat} {P : PySem.Fin → Shared → Prop} (hu : A.units < cLine) (ho : s.heap.get? a = some (seqObj "list" vs.toArray n)) (hL : Laid s.heap a vs ws) (hp : sortP ws = some p)
    (k : ∀ h' c, h'.get? a = some (seqObj "list" (List.toArray (p.map fun i => vs.getD i Value.none)) c) → (∀ b o, b ≠ a → s.heap.get? b = some o → h'.get? b = some o) → P (.done (.ret .none)) { s with heap := h' }) :
    wpAny (model prog w) A (Builtin.«list.sort» ⟨[.ref a], []⟩) P E s := by
  have ha : a < s.heap.objs.size := Heap.lt_size ho
  have hlen := hL.1
  have h64 : vs.length < 64 := by
    unfold sortP at hp
    split at hp
    · omega
    · split at hp
      · omega
      · cases hp
  have s1 := Heap.SameBut.update s.heap a (Obj.mapSeq fun _ => (#[] : Array Value))
  obtain ⟨e1, ho1⟩ : ∃ e1, (s.heap.update a (Obj.mapSeq fun _ => (#[] : Array Value))).get? a = some (seqObj "list" #[] e1) := ⟨_, get?_update_seq ho fun _ => #[]⟩
  have keep3 : ∀ b o, b ≠ a → s.heap.get? b = some o → (((s.heap.update a (Obj.mapSeq fun _ => (#[] : Array Value))).push (seqObj "tuple" vs.toArray 0)).push (seqObj "list" #[] 0)).get? b = some o := fun b o hb e =>
    Heap.get?_push_of_some _ (Heap.get?_push_of_some _ ((s1.2 b hb).trans e))
  have na : (((s.heap.update a (Obj.mapSeq fun _ => (#[] : Array Value))).push (seqObj "tuple" vs.toArray 0)).push (seqObj "list" #[] 0)).get? a = some (seqObj "list" #[] e1) := Heap.get?_push_of_some _ (Heap.get?_push_of_some _ ho1)
  have hL3 := hL.keep keep3
  rw [list_sort_plain]
  refine wpAny_bind (listItems_at ho rfl ?_)
  refine wpAny_bind (listUpdate_at ho rfl ?_ (by rw [List.size_toArray, sizeLine_eq]; omega) (Nat.zero_le _))
  refine wpAny_bind (seqEpoch_at ho1 rfl ?_)
  refine wpAny_bind (wpAny_newTuple ?_ (by show vs.length ≤ _; rw [sizeLine_eq]; omega))
  refine wpAny_bind (wpAny_newList ?_ (Nat.zero_le _))
  refine wpAny_holding ?_
  show wpAny (model prog w) A _ P E { s with heap := ((s.heap.update a (Obj.mapSeq fun _ => (#[] : Array Value))).push (seqObj "tuple" vs.toArray 0)).push (seqObj "list" #[] 0) }
  dsimp only
  -- the end, whatever the runs gave
  have fin : ∀ (st' : SortSt), (arrOf st').map (·.2) = List.toArray (p.map fun i => vs.getD i Value.none) → failedOf st' = none → p.length ≤ 64 →
      wpAny (model prog w) A (do
        let sorted := (arrOf st').map (·.2)
        let touched := (← seqEpoch a) != e1
        Builtin.List.listUpdate (.ref a) fun _ => sorted
        if let some e := failedOf st' then rule "list.sort.comparison-raised"; throw e
        if touched then rule "list.sort.modified"; raiseError "ValueError" "list modified during sort"
        ret .none) P E { s with heap := ((s.heap.update a (Obj.mapSeq fun _ => (#[] : Array Value))).push (seqObj "tuple" vs.toArray 0)).push (seqObj "list" #[] 0) } := by
    intro st' har hf hpl
    rw [har, hf]
    dsimp only
    refine wpAny_bind (seqEpoch_at na rfl ?_)
    have s2 := Heap.SameBut.update (((s.heap.update a (Obj.mapSeq fun _ => (#[] : Array Value))).push (seqObj "tuple" vs.toArray 0)).push (seqObj "list" #[] 0)) a (Obj.mapSeq fun _ => List.toArray (p.map fun i => vs.getD i Value.none))
    refine wpAny_bind (listUpdate_at na rfl ?_ (Nat.zero_le _) (by rw [List.size_toArray, List.length_map, sizeLine_eq]; omega))
    simp only [bne_self_eq_false, Bool.false_eq_true, if_false]
    refine wpAny_pure (k _ _ (get?_update_seq na fun _ => List.toArray (p.map fun i => vs.getD i Value.none)) fun b o hb e => (s2.2 b hb).trans (keep3 b o hb e))
  unfold sortP at hp
  by_cases h2 : ws.length < 2
  · rw [if_pos h2] at hp
    cases hp
    have hn2 : vs.toArray.size < 2 := by rw [List.size_toArray]; omega
    rw [if_pos hn2, if_pos hn2]
    refine wpAny_bind (wpAny_pure ?_)
    refine wpAny_bind (wpAny_pure ?_)
    refine fin _ ?_ rfl (by rw [List.length_range]; omega)
    show (vs.toArray.zip vs.toArray).map (·.2) = _
    apply Array.toList_inj.mp
    simp only [Array.toList_map, Array.toList_zip, List.map_snd_zip (Nat.le_refl _)]
    refine List.ext_getElem? fun i => ?_
    rw [List.getElem?_map, ← hlen]
    by_cases hi : i < vs.length
    · rw [List.getElem?_range hi]; simp [List.getD, hi]
    · rw [List.getElem?_eq_none (by omega), List.getElem?_eq_none (by rw [List.length_range]; omega)]; rfl
  · rw [if_neg h2, if_pos (by omega)] at hp
    split at hp
    · cases hp
    rename_i pa hpa
    rw [Option.ite_none_right_eq_some] at hp
    obtain ⟨⟨hall, hpl⟩, hp⟩ := hp
    cases hp
    have hn2 : ¬ vs.toArray.size < 2 := by rw [List.size_toArray]; omega
    rw [if_neg hn2, if_neg hn2]
    refine wpAny_bind (kas_kind (T := .type "list") (by omega) (fun v hv => ?_) (by decide) (by decide) ?_)
    · obtain ⟨i, hi, rfl⟩ := List.getElem_of_mem hv
      obtain ⟨b, n, items, e, hb, ho, q⟩ := hL3.2 i (by omega)
      have e' : vs[i] = .ref b := by rw [← e]; simp [List.getD, hi]
      rw [e']
      exact (Looks.ld ho).andThen .now
    have est : SortSt.mk' oneType' (vs.toArray.zip vs.toArray) #[] 7 none = kas_st oneType' (pairsOf vs) (List.toArray (List.range vs.length)) := by
      have e := kas_range (pairsOf vs)
      rw [pairsOf_size] at e
      show SortSt.mk' oneType' (pairsOf vs) #[] 7 none = SortSt.mk' oneType' ((List.toArray (List.range vs.length)).map (kas_item (pairsOf vs))) #[] 7 none
      rw [e]
    have ask : (kas_sort vs.length).kasWp (kas_ask prog w A oneType' vs) (fun p' s' => p' = pa ∧ s' = { s with heap := ((s.heap.update a (Obj.mapSeq fun _ => (#[] : Array Value))).push (seqObj "tuple" vs.toArray 0)).push (seqObj "list" #[] 0) }) { s with heap := ((s.heap.update a (Obj.mapSeq fun _ => (#[] : Array Value))).push (seqObj "tuple" vs.toArray 0)).push (seqObj "list" #[] 0) } := by
      rw [hlen]
      refine runO_wp (fun i j C hi hj hC => ?_) (kas_sort ws.length) hpa ⟨rfl, rfl⟩
      obtain ⟨b, n, items, e, hb, ho, q⟩ := hL3.2 i hi
      obtain ⟨b2, n2, items2, e2, hb2, ho2, q2⟩ := hL3.2 j hj
      unfold kas_ask
      rw [e, e2]
      exact keyLt_lists hu q q2 ho ho2 hC
    rw [kas_ask_eq] at ask
    have run := kas_runs (E := E) (Q := fun _ st' s' => ∃ p : Array Nat, p.size = vs.length ∧ arrOf st' = p.map (kas_item (pairsOf vs)) ∧ failedOf st' = none ∧ p = pa ∧ s' = { s with heap := ((s.heap.update a (Obj.mapSeq fun _ => (#[] : Array Value))).push (seqObj "tuple" vs.toArray 0)).push (seqObj "list" #[] 0) })
      (by omega) h64 (fun p' st' s' a1 a2 a3 a4 => ⟨p', a1, a2, a3, a4.1, a4.2⟩) ask
    rw [← est] at run
    refine wpAny_bind (wpAny_mono run ?_ fun _ _ e => e)
    rintro ⟨⟨⟩, st'⟩ s' ⟨p, hp, har, hf, rfl, rfl⟩
    refine fin st' ?_ hf (by omega)
    apply Array.toList_inj.mp
    rw [har, Array.map_map, Array.toList_map]
    exact List.map_congr_left fun i _ => by show (kas_item (pairsOf vs) i).2 = _; rw [kas_item_eq]
end
end Mine
end

section
open PySem PySem.W PySem.Calls PyProof.Rows
namespace Mine
theorem repl_at {prog : Program} {w : World} {h : Heap} {X : Addr → Prop} {ws : List (List Int)} {vs : List Value} (r : RepL prog w h X (intLists ws) vs) (i : Nat) (hi : i < ws.length) : Rep prog w h X (.lst ((ws.getD i []).map .int)) (vs.getD i .none) := by
  have e : (intLists ws)[i]? = some (.lst ((ws.getD i []).map .int)) := by
    unfold intLists
    simp [List.getD, hi]
  obtain ⟨v, hv, hr⟩ := r.get i e
  have : vs.getD i .none = v := by simp [List.getD, hv]
  rw [this]; exact hr
theorem repl_laid {prog : Program} {w : World} {h : Heap} {X : Addr → Prop} {ws : List (List Int)} {vs : List Value} {a : Addr} (r : RepL prog w h X (intLists ws) vs) (ha : h.get? a = none) : Laid h a vs ws := by
  refine ⟨by rw [RepL.length r]; unfold intLists; rw [List.length_map], fun i hi => ?_⟩
  obtain ⟨b, us, e, _, ⟨n, ho⟩, hu⟩ := Rep.plain_lst (repl_at r i hi)
  exact ⟨b, n, us, e, fun q => (by rw [q, ha] at ho; cases ho), ho, ints_are' hu⟩
theorem repl_pick {prog : Program} {w : World} {h : Heap} {X : Addr → Prop} {ws : List (List Int)} {vs : List Value} (r : RepL prog w h X (intLists ws) vs) : ∀ (p : List Nat), (∀ i ∈ p, i < ws.length) → RepL prog w h X (intLists (p.map fun i => ws.getD i [])) (p.map fun i => vs.getD i .none)
  | [], _ => RepL.nil
  | i :: p, hp => RepL.cons (repl_at r i (hp i (.head _))) (repl_pick r p fun j hj => hp j (.tail _ hj))
theorem sortP_in {ws : List (List Int)} {p : List Nat} (h : sortP ws = some p) : (∀ i ∈ p, i < ws.length) ∧ ws.length < 64 := by
  unfold sortP at h
  split at h
  · cases h
    exact ⟨fun i hi => List.mem_range.mp hi, by omega⟩
  · split at h
    · split at h
      · cases h
      · rw [Option.ite_none_right_eq_some] at h
        obtain ⟨⟨h1, h2⟩, h3⟩ := h
        cases h3
        exact ⟨fun i hi => by simpa using List.all_eq_true.mp h1 i hi, by assumption⟩
    · cases h
section
variable {C : Cx} {D : Muts} {σ : Vars} {s : Shared}
theorem ev_sorted {fx : Str} {np pos : Pos} {e : Expr} {ws out : List (List Int)} (hu : C.A.units < 9000) (hf : Ev C D σ (.Name fx np) (.raw (.builtin "sorted"))) (he : Ev C D σ e (.lst (intLists ws))) (hs : sortV ws = some out)
    (hst : starEach [e] C.env = (false, eval e C.env) :: starEach [] C.env := by rfl) : Ev C D σ (.Call (.Name fx np) [e] [] pos) (.lst (intLists out)) := by
  obtain ⟨p, hp, rfl⟩ := Option.map_eq_some_iff.mp hs
  obtain ⟨hin, h64⟩ := sortP_in hp
  refine ev_call_builtin hf (evl_cons he evl_nil hst) (fun s vs a r Q k => ?_) hst
  simp only [RepLC, RepL] at r
  obtain ⟨v, q, rfl, r, rfl⟩ := r
  obtain ⟨l, vs, rfl, _, hl, hr⟩ := Rep.cont_lst r
  have hlen : vs.length = ws.length := by rw [RepL.length hr]; unfold intLists; rw [List.length_map]
  refine Calls.call_function_entry kind_sorted plain_sorted entry_sorted (args_sorted1 _) ?_
  unfold Builtin.«sorted»
  refine wpAny_bind (m := checkCount "sorted" 1 1 _) (wpAny_pure ?_)
  refine wpAny_bind (collect_list hl ?_ (by rw [sizeLine_eq]; omega))
  refine wpAny_bind (wpAny_newList ?_ (by rw [sizeLine_eq]; omega))
  have hsz : ((s.heap.push (seqObj "list" #[] 0)).update s.heap.objs.size (Obj.mapSeq (· ++ vs.toArray))).objs.size = s.heap.objs.size + 1 := by
    rw [Heap.size_update, size_push']
  have hoL : (((s.heap.push (seqObj "list" #[] 0)).update s.heap.objs.size (Obj.mapSeq (· ++ vs.toArray))).push (seqObj "list" vs.toArray 0)).get? (s.heap.objs.size + 1) = some (seqObj "list" vs.toArray 0) := by
    rw [← hsz]; exact Heap.get?_push_size _ rfl
  have keep : ∀ b o, s.heap.get? b = some o → (((s.heap.push (seqObj "list" #[] 0)).update s.heap.objs.size (Obj.mapSeq (· ++ vs.toArray))).push (seqObj "list" vs.toArray 0)).get? b = some o := fun b o q => by
    have hlt : b < s.heap.objs.size := Heap.lt_size q
    rw [Heap.get?_push_ne _ _ _ (by rw [hsz]; exact Nat.ne_of_lt (Nat.lt_succ_of_lt hlt)), Heap.get?_update_ne _ _ _ _ (Nat.ne_of_lt hlt), Heap.get?_push_ne _ _ _ (Nat.ne_of_lt hlt)]
    exact q
  have hfr : s.heap.get? (s.heap.objs.size + 1) = none := fresh_ge (Nat.le_succ _)
  show wpAny _ _ _ _ _ { s with heap := ((s.heap.push (seqObj "list" #[] 0)).update s.heap.objs.size (Obj.mapSeq (· ++ vs.toArray))).push (seqObj "list" vs.toArray 0) }
  rw [hsz]
  have hL0 : Laid s.heap (s.heap.objs.size + 1) vs ws := repl_laid hr hfr
  have hL : Laid (((s.heap.push (seqObj "list" #[] 0)).update s.heap.objs.size (Obj.mapSeq (· ++ vs.toArray))).push (seqObj "list" vs.toArray 0)) (s.heap.objs.size + 1) vs ws := hL0.keep fun b o _ e => keep b o e
  refine wpAny_bind (wpAny_holding (wpAny_call_entry slot_list_sort ⟨_, hoL, rfl⟩ entry_list_sort ?body (args_list_sort _)))
  case body =>
    refine list_sort_own (s := { s with heap := ((s.heap.push (seqObj "list" #[] 0)).update s.heap.objs.size (Obj.mapSeq (· ++ vs.toArray))).push (seqObj "list" vs.toArray 0) }) ?_ hoL hL hp fun h' c ho' hk' => ?_
    · show C.A.units + 1 + 1 < cLine
      have : cLine = 9900 := cLine_is
      omega
    · refine ⟨_, rfl, ?_⟩
      have gr : Grow s.heap h' := fun b o e => hk' b o (fun q => by rw [q, hfr] at e; cases e) (keep b o e)
      refine wpAny_pure ⟨_, rfl, k _ _ (Ext.heap gr) ?_⟩
      simp only [RepC, Rep]
      refine ⟨_, rfl, not_own_new a hfr, p.map fun i => vs.getD i Value.none, ⟨c, ho'⟩, repl_pick (hr.grow gr) p hin⟩
end
end Mine
end

section
open PySem PySem.W PyProof.Rows
namespace Mine
def shareF (share letter : Int) : Option Int := if -(2 ^ 60) < share ∧ share < 2 ^ 60 then some (share * letter) else none
def wholeF (whole : Int) (way : List Int) : Option Int := match foldO shareF 1 way with
  | none => none
  | some share => some (whole + share)
def wholeO (ws : List (List Int)) : Option Int := foldO wholeF 0 ws
def factO (m : Int) : Option Int := foldO shareF 1 (rangeInts 2 1 (lenR 2 (m + 1)))
def partO (orders m whole : Int) (_ : Unit) (p : List (List Int) × List Int) : Option Unit :=
  match seated p.1 with
  | none => none
  | some t => match polynomial p.2 with
    | none => none
    | some q => match weighed p.1 with
      | none => none
      | some g => match spread q m with
        | none => none
        | some d => if dictEq t q = true ∧ dictEq g d = true ∧ countCalls g = whole ∧ orders * countCalls t = whole then some () else none
variable {w : World} {mean : ExcName → Option Value} {mg mb : Str → Option Value}
set_option maxHeartbeats 4000000
section
variable {A : Around} {B : Heap} {W : Addr → Prop} {Z : Shared} {env : Env} {L : Addr} {Xc : Addr → Prop} {D : Muts} {σ : Vars} {s : Shared}
theorem seg6 {l : List Int} {ws words vs out : List (List Int)} {m whole orders : Int} {Q : Flow → Shared → Prop} (rm : Room A 8) (hm : -1000 ≤ m ∧ m ≤ 1000) (hv : ways 7 (backOf l) = some vs) (h1 : sortV words = some out) (h2 : sortV vs = some out) (hw : wholeO ws = some whole) (ho : factO m = some orders) (hob : -(2 ^ 60) < orders ∧ orders < 2 ^ 60)
    (hp : foldO (partO orders m whole) () [(words, l), (ws, backOf l)] = some ())
    (a : AtC ⟨PG, w, A, Gx w mean mg mb, B, W, Z, lawEnv w L, Xc⟩ [] [("back", .lst ((backOf l).map .int)), ("words", .lst (intLists words)), ("many", .int m), ("ways", .lst (intLists ws)), ("line", .lst (l.map .int))] s)
    (k : ∀ v s', AtC ⟨PG, w, A, Gx w mean mg mb, B, W, Z, lawEnv w L, Xc⟩ [] [] s' → RepC ⟨PG, w, A, Gx w mean mg mb, B, W, Z, lawEnv w L, Xc⟩ [] s' (.bool true) v → Q (.ret v) s') :
    Go ⟨PG, w, A, Gx w mean mg mb, B, W, Z, lawEnv w L, Xc⟩ (execs (lawD w 15) (lawEnv w L)) Q s := by
  refine x_ifF a (evb_compare (ev_sorted rm.units (evB rfl rfl bo_sorted) (ev_name rfl) h1) (ev_sorted rm.units (evB rfl rfl bo_sorted) (ev_call_fn (gx_ok w mean mg mb) (evG rfl rfl) (fun h x => ⟨_, x.1 178 _ rfl, rfl, codeRec_of x.1 rfl⟩) (fn_ways 7 (backOf l) hv) (rm.less (by decide)) (evl_cons (ev_name rfl) evl_nil)) h2) (op_neLL rm.units)) (by simp) fun s₁ a₁ => ?_
  refine x_nil ?_
  refine x_assign a₁ ev_int fun s₂ a₂ => ?_
  refine x_forF (l := ws) (emb := fun x => .lst (x.map .int)) wholeF (fun _ => []) (fun whole => [("whole", .int whole), ("back", .lst ((backOf l).map .int)), ("words", .lst (intLists words)), ("many", .int m), ("ways", .lst (intLists ws)), ("line", .lst (l.map .int))]) (fun x => [("way", .lst (x.map .int))]) 0 a₂ (evi_list rm.1 (ev_name rfl)) rfl rfl
    (SubV.cons rfl (SubV.cons rfl (SubV.cons rfl (SubV.cons rfl (SubV.cons rfl (SubV.cons rfl SubV.nil)))))) (fun _ => rfl) (fun J h st x hx => binds_name rfl) hw ?_ ?_
  · intro J h whole way whole' s K _ hf a hk
    unfold wholeF at hf
    cases hs : foldO shareF 1 way with
    | none => rw [hs] at hf; cases hf
    | some share =>
    rw [hs] at hf
    cases hf
    refine x_assign a ev_int fun s₁ a₁ => ?_
    refine x_forF (l := way) (emb := .int) shareF (fun _ => []) (fun share => [("share", .int share), ("whole", .int whole), ("back", .lst ((backOf l).map .int)), ("words", .lst (intLists words)), ("many", .int m), ("ways", .lst (intLists ws)), ("line", .lst (l.map .int))]) (fun x => [("letter", .int x)]) 1 a₁ (evi_list rm.1 (ev_name rfl)) rfl rfl
      (SubV.cons rfl (SubV.cons rfl (SubV.cons rfl (SubV.cons rfl (SubV.cons rfl (SubV.cons rfl (SubV.cons rfl SubV.nil))))))) (fun _ => rfl) (fun J h st x hx => binds_name rfl) hs ?_ ?_
    · intro J h share letter share' s K _ hf a hk
      rw [shareF, Option.ite_none_right_eq_some] at hf
      obtain ⟨hb, hf⟩ := hf
      cases hf
      refine x_assign a (ev_call_fn (gx_ok w mean mg mb) (evG rfl rfl) (fun h x => ⟨_, x.1 84 _ rfl, rfl, codeRec_of x.1 rfl⟩) (fn_imul share letter (mulOk_l (by omega))) (rm.less (by decide)) (evl_cons (ev_name rfl) (evl_cons (ev_name rfl) evl_nil))) fun s' a' => ?_
      exact x_nil (hk s' (At.forget a' (SubV.cons rfl (SubV.cons rfl (SubV.cons rfl (SubV.cons rfl (SubV.cons rfl (SubV.cons rfl (SubV.cons rfl SubV.nil)))))))))
    · intro s₂ a₂
      refine x_nil ?_
      refine x_assign a₂ (ev_call_fn (gx_ok w mean mg mb) (evG rfl rfl) (fun h x => ⟨_, x.1 77 _ rfl, rfl, codeRec_of x.1 rfl⟩) (fn_iadd whole share) (rm.less (by decide)) (evl_cons (ev_name rfl) (evl_cons (ev_name rfl) evl_nil))) fun s' a' => ?_
      exact x_nil (hk s' (At.forget a' (SubV.cons rfl (SubV.cons rfl (SubV.cons rfl (SubV.cons rfl (SubV.cons rfl (SubV.cons rfl SubV.nil))))))))
  · intro s₃ a₃
    refine x_nil ?_
    refine x_assign a₃ ev_int fun s₄ a₄ => ?_
    refine x_forF (l := rangeInts 2 1 (lenR 2 (m + 1))) (emb := .int) shareF (fun _ => []) (fun o => [("orders", .int o), ("whole", .int whole), ("back", .lst ((backOf l).map .int)), ("words", .lst (intLists words)), ("many", .int m), ("ways", .lst (intLists ws)), ("line", .lst (l.map .int))]) (fun x => [("n", .int x)]) 1 a₄
      (evi_range2 rm.1 (evB rfl rfl bo_range) ev_int (ev_binop (ev_name rfl) ev_int op_add) (by decide) (by constructor <;> omega)) rfl rfl
      (SubV.cons rfl (SubV.cons rfl (SubV.cons rfl (SubV.cons rfl (SubV.cons rfl (SubV.cons rfl (SubV.cons rfl SubV.nil))))))) (fun _ => rfl) (fun J h st x hx => binds_name rfl) ho ?_ ?_
    · intro J h o n o' s K _ hf a hk
      rw [shareF, Option.ite_none_right_eq_some] at hf
      obtain ⟨hb, hf⟩ := hf
      cases hf
      refine x_augName a rfl (ev_name rfl) (op_imul (mulOk_l (by omega))) fun s' a' => ?_
      exact x_nil (hk s' (At.forget a' (SubV.cons rfl (SubV.cons rfl (SubV.cons rfl (SubV.cons rfl (SubV.cons rfl (SubV.cons rfl (SubV.cons rfl SubV.nil)))))))))
    · intro s₅ a₅
      refine x_nil ?_
      refine x_forF (l := [(words, l), (ws, backOf l)]) (emb := fun p => .tup [.lst (intLists p.1), .lst (p.2.map .int)]) (partO orders m whole) (fun _ => []) (fun _ => [("orders", .int orders), ("whole", .int whole), ("many", .int m)]) (fun p => [("order", .lst (p.2.map .int)), ("some", .lst (intLists p.1))]) () a₅
        (evi_list rm.1 (ev_list (evl_cons (ev_tuple (evl_cons (ev_name rfl) (evl_cons (ev_name rfl) evl_nil)) (Nat.le_of_ble_eq_true rfl)) (evl_cons (ev_tuple (evl_cons (ev_name rfl) (evl_cons (ev_name rfl) evl_nil)) (Nat.le_of_ble_eq_true rfl)) evl_nil)) (Nat.le_of_ble_eq_true rfl))) rfl rfl
        (SubV.cons rfl (SubV.cons rfl (SubV.cons rfl SubV.nil))) (fun _ => rfl) (fun J h st x hx => binds_pair rm.1 rfl rfl) hp ?_ ?_
      · intro J h _ p _ s K _ hf a hk
        unfold partO at hf
        cases e1 : seated p.1 with
        | none => rw [e1] at hf; cases hf
        | some t =>
        cases e2 : polynomial p.2 with
        | none => rw [e1, e2] at hf; cases hf
        | some q =>
        cases e3 : weighed p.1 with
        | none => rw [e1, e2, e3] at hf; cases hf
        | some g =>
        cases e4 : spread q m with
        | none => rw [e1, e2, e3] at hf; simp only [e4] at hf; cases hf
        | some d =>
        rw [e1, e2, e3] at hf
        simp only [e4, Option.ite_none_right_eq_some] at hf
        obtain ⟨⟨c1, c2, c3, c4⟩, _⟩ := hf
        refine x_assign a (ev_call_fn (gx_ok w mean mg mb) (evG rfl rfl) (fun h x => ⟨_, x.1 183 _ rfl, rfl, codeRec_of x.1 rfl⟩) (fn_seated p.1 e1) (rm.less (by decide)) (evl_cons (ev_name rfl) evl_nil)) fun s₁ a₁ => ?_
        refine x_assign a₁ (ev_call_fn (gx_ok w mean mg mb) (evG rfl rfl) (fun h x => ⟨_, x.1 200 _ rfl, rfl, codeRec_of x.1 rfl⟩) (fn_polynomial p.2 e2) (rm.less (by decide)) (evl_cons (ev_name rfl) evl_nil)) fun s₂ a₂ => ?_
        refine x_ifF a₂ (evb_compare (ev_name rfl) (ev_name rfl) (op_neDct rm.units)) (by rw [c1]; rfl) fun s₃ a₃ => ?_
        refine x_nil ?_
        refine x_assign a₃ (ev_call_fn (gx_ok w mean mg mb) (evG rfl rfl) (fun h x => ⟨_, x.1 188 _ rfl, rfl, codeRec_of x.1 rfl⟩) (fn_weighed p.1 e3) (rm.less (by decide)) (evl_cons (ev_name rfl) evl_nil)) fun s₄ a₄ => ?_
        refine x_ifF a₄ (evb_compare (ev_name rfl) (ev_call_fn (gx_ok w mean mg mb) (evG rfl rfl) (fun h x => ⟨_, x.1 207 _ rfl, rfl, codeRec_of x.1 rfl⟩) (fn_spread q m e4) (rm.less (by decide)) (evl_cons (ev_name rfl) (evl_cons (ev_name rfl) evl_nil))) (op_neDct rm.units)) (by rw [c2]; rfl) fun s₅ a₅ => ?_
        refine x_nil ?_
        refine x_ifF (b := (countCalls g != whole) || (orders * countCalls t != whole)) a₅ (evb_or (evb_compare (ev_call_fn (gx_ok w mean mg mb) (evG rfl rfl) (fun h x => ⟨_, x.1 56 _ rfl, rfl, codeRec_of x.1 rfl⟩) (fn_count g) (rm.less (by decide)) (evl_cons (ev_name rfl) evl_nil)) (ev_name rfl) op_ne)
          fun _ => evb_compare (ev_binop (ev_name rfl) (ev_call_fn (gx_ok w mean mg mb) (evG rfl rfl) (fun h x => ⟨_, x.1 56 _ rfl, rfl, codeRec_of x.1 rfl⟩) (fn_count t) (rm.less (by decide)) (evl_cons (ev_name rfl) evl_nil)) (op_mul (mulOk_l (by omega)))) (ev_name rfl) op_ne) (by rw [c3, c4]; simp) fun s₆ a₆ => ?_
        exact x_nil (x_nil (hk s₆ (At.forget a₆ (SubV.cons rfl (SubV.cons rfl (SubV.cons rfl SubV.nil))))))
      · intro s₆ a₆
        refine x_nil ?_
        exact x_return a₆ ev_bool fun v s' x a' r => k v s' (At.forget a' SubV.nil) r
end
end Mine
end

section
open PySem PySem.W PyProof.Rows
namespace Mine
def goodR (l : List Int) (ws : List (List Int)) (r : Array UInt8) (vs out : List (List Int)) (whole orders : Int) : Bool :=
  decide (sortV vs = some out) && !ws.isEmpty && decide ((ws.headD []).length ≤ 1000) && (decide (0 ≤ many ws) && decide (many ws ≤ 1000)) && ((flat ws).all fun n => decide (0 ≤ n) && decide (n < 256)) && decide ((flat ws).length ≤ 1000000) && decide (ws.length ≤ 1000000) &&
    decide ((r.size : Int) = many ws * ws.length) && decide (r.size ≤ 1000000) && (l.all fun x => smallInt x) && (l.contains 0 && l.contains 1 && l.contains 2 && l.contains 3) && (decide (-(2 ^ 60) < orders) && decide (orders < 2 ^ 60)) &&
    (foldO (partO orders (many ws) whole) () [(wordsOf r (many ws) ws.length, l), (ws, backOf l)]).isSome
def goodB (l : List Int) : Bool :=
  match ways 7 l with
  | none => false
  | some ws => match swapped (octets (flat ws)) (max (many ws) 1) with
    | none => false
    | some r => match ways 7 (backOf l) with
      | none => false
      | some vs => match sortV (wordsOf r (many ws) ws.length) with
        | none => false
        | some out => match wholeO ws with
          | none => false
          | some whole => match factO (many ws) with
            | none => false
            | some orders => goodR l ws r vs out whole orders
theorem good0 : goodB [0, 1, 2, 3] = true := by decide +kernel
theorem good1 : goodB [0, 1, 3, 2] = true := by decide +kernel
theorem good2 : goodB [0, 2, 1, 3] = true := by decide +kernel
theorem good3 : goodB [0, 2, 3, 1] = true := by decide +kernel
theorem good4 : goodB [0, 3, 1, 2] = true := by decide +kernel
theorem good5 : goodB [0, 3, 2, 1] = true := by decide +kernel
theorem good6 : goodB [1, 0, 2, 3] = true := by decide +kernel
theorem good7 : goodB [1, 0, 3, 2] = true := by decide +kernel
theorem good8 : goodB [1, 2, 0, 3] = true := by decide +kernel
theorem good9 : goodB [1, 2, 3, 0] = true := by decide +kernel
theorem good10 : goodB [1, 3, 0, 2] = true := by decide +kernel
theorem good11 : goodB [1, 3, 2, 0] = true := by decide +kernel
theorem good12 : goodB [2, 0, 1, 3] = true := by decide +kernel
theorem good13 : goodB [2, 0, 3, 1] = true := by decide +kernel
theorem good14 : goodB [2, 1, 0, 3] = true := by decide +kernel
theorem good15 : goodB [2, 1, 3, 0] = true := by decide +kernel
theorem good16 : goodB [2, 3, 0, 1] = true := by decide +kernel
theorem good17 : goodB [2, 3, 1, 0] = true := by decide +kernel
theorem good18 : goodB [3, 0, 1, 2] = true := by decide +kernel
theorem good19 : goodB [3, 0, 2, 1] = true := by decide +kernel
theorem good20 : goodB [3, 1, 0, 2] = true := by decide +kernel
theorem good21 : goodB [3, 1, 2, 0] = true := by decide +kernel
theorem good22 : goodB [3, 2, 0, 1] = true := by decide +kernel
theorem good23 : goodB [3, 2, 1, 0] = true := by decide +kernel
theorem good_perms : ∀ l ∈ perms4, goodB l = true := by
  intro l hl
  simp only [perms4, List.mem_cons, List.not_mem_nil, or_false] at hl
  rcases hl with rfl | rfl | rfl | rfl | rfl | rfl | rfl | rfl | rfl | rfl | rfl | rfl | rfl | rfl | rfl | rfl | rfl | rfl | rfl | rfl | rfl | rfl | rfl | rfl
  · exact good0
  · exact good1
  · exact good2
  · exact good3
  · exact good4
  · exact good5
  · exact good6
  · exact good7
  · exact good8
  · exact good9
  · exact good10
  · exact good11
  · exact good12
  · exact good13
  · exact good14
  · exact good15
  · exact good16
  · exact good17
  · exact good18
  · exact good19
  · exact good20
  · exact good21
  · exact good22
  · exact good23
structure Good (l : List Int) (ws : List (List Int)) (r : Array UInt8) (vs out : List (List Int)) (whole orders : Int) : Prop where
  hw : ways 7 l = some ws
  hr : swapped (octets (flat ws)) (max (many ws) 1) = some r
  hv : ways 7 (backOf l) = some vs
  h1 : sortV (wordsOf r (many ws) ws.length) = some out
  h2 : sortV vs = some out
  hwh : wholeO ws = some whole
  ho : factO (many ws) = some orders
  hne : ws ≠ []
  hm1 : (ws.headD []).length ≤ 1000
  hm : 0 ≤ many ws ∧ many ws ≤ 1000
  hin : ∀ n ∈ flat ws, 0 ≤ n ∧ n < 256
  hsz : (flat ws).length ≤ 1000000
  hwl : ws.length ≤ 1000000
  hrs : (r.size : Int) = many ws * ws.length
  hrs2 : r.size ≤ 1000000
  hls : ∀ x ∈ l, smallInt x = true
  hlm : (0 : Int) ∈ l ∧ (1 : Int) ∈ l ∧ (2 : Int) ∈ l ∧ (3 : Int) ∈ l
  hob : -(2 ^ 60) < orders ∧ orders < 2 ^ 60
  hp : foldO (partO orders (many ws) whole) () [(wordsOf r (many ws) ws.length, l), (ws, backOf l)] = some ()
theorem goodB_spec {l : List Int} (h : goodB l = true) : ∃ ws r vs out whole orders, Good l ws r vs out whole orders := by
  unfold goodB at h
  split at h
  · cases h
  rename_i ws hw
  split at h
  · cases h
  rename_i r hr
  split at h
  · cases h
  rename_i vs hv
  split at h
  · cases h
  rename_i out h1
  split at h
  · cases h
  rename_i whole hwh
  split at h
  · cases h
  rename_i orders ho
  unfold goodR at h
  simp only [Bool.and_eq_true, decide_eq_true_eq, Bool.not_eq_true', List.all_eq_true, List.contains_iff_mem] at h
  obtain ⟨⟨⟨⟨⟨⟨⟨⟨⟨⟨⟨⟨h2, hne⟩, hm1⟩, hm⟩, hin⟩, hsz⟩, hwl⟩, hrs⟩, hrs2⟩, hls⟩, hlm⟩, hob⟩, hp⟩ := h
  refine ⟨ws, r, vs, out, whole, orders, ⟨hw, hr, hv, h1, h2, hwh, ho, ?_, hm1, hm, hin, hsz, hwl, hrs, hrs2, hls, ?_, hob, ?_⟩⟩
  · intro q; rw [q] at hne; cases hne
  · exact ⟨hlm.1.1.1, hlm.1.1.2, hlm.1.2, hlm.2⟩
  · obtain ⟨u, hu⟩ := Option.isSome_iff_exists.mp hp
    exact hu
/-! the draws -/
theorem drawF_len : ∀ (l : List (Int × Int)) (d : List Int), (∀ p ∈ l, 0 ≤ p.1) → d.length = 4 → ∃ d', foldO drawF d l = some d' ∧ d'.length = 4
  | [], d, _, hd => ⟨d, rfl, hd⟩
  | p :: l, d, hl, hd => by
    have hp := hl p (.head _)
    have e : drawF d p = some (d.set (p.1.fmod 4).toNat (d.getD (p.1.fmod 4).toNat 0 + drawE p.2)) := by unfold drawF; rw [if_pos ⟨hd, hp⟩]
    simp only [foldO, e]
    exact drawF_len l _ (fun q hq => hl q (.tail _ hq)) (by rw [List.length_set]; exact hd)
theorem drawn_some (script : List Int) : ∃ d0 d1 d2 d3, drawn script = some [d0, d1, d2, d3] := by
  obtain ⟨d, h, hl⟩ := drawF_len (numbered (pickL script none (some 20))) [6642, 5401, 6610, 5056] (fun p hp => by
    unfold numbered at hp
    obtain ⟨i, hi, rfl⟩ := List.mem_mapIdx.mp hp
    exact Int.natCast_nonneg i) rfl
  match d, hl with
  | [d0, d1, d2, d3], _ => exact ⟨d0, d1, d2, d3, h⟩
def drawT (p : Int × Int) : T3 := ⟨p.2.fmod 4, p.2.fdiv 12, p.1⟩
theorem drawT_ok (p : Int × Int) : (drawT p).ok := ⟨Int.fmod_nonneg_of_pos _ (by decide), Int.fmod_lt_of_pos _ (by decide)⟩
theorem draw_line (d0 d1 d2 d3 : Int) (cols : List (Int × Int)) (t0 t1 : Int) (h0 : t0 ≠ 0) (h1 : t1 ≠ 0) (hc : cols = [(0, t0), (1, t1), (2, 1)]) : lineV [drawRow (0, d0), drawRow (1, d1), drawRow (2, d2), drawRow (3, d3)] cols ∈ perms4 := by
  subst hc
  exact line_perm h0 h1 (drawT (0, d0)) (drawT (1, d1)) (drawT (2, d2)) (drawT (3, d3)) (drawT_ok _) (drawT_ok _) (drawT_ok _) (drawT_ok _) rfl rfl rfl rfl
theorem draw_judged (p q : Int × Int) (cols : List (Int × Int)) : cmpV (drawRow p) (drawRow q) cols = judgedV (drawRow p) (drawRow q) cols := cmp_judged (drawT_ok p) (drawT_ok q) cols
end Mine
end

section
open PySem PySem.W PyProof.Rows
namespace Mine
variable {w : World} {mean : ExcName → Option Value} {mg mb : Str → Option Value}
set_option maxHeartbeats 4000000
theorem law_body {A : Around} {B : Heap} {W : Addr → Prop} {Z : Shared} {L : Addr} {Xc : Addr → Prop} {s : Shared} {script : List Int} {Q : Flow → Shared → Prop} (rm : Room A 8) (hfr : A.frames = some [lawEnv w L]) (hsz : script.length ≤ 1000)
    (a : AtC ⟨PG, w, A, Gx w mean mg mb, B, W, Z, lawEnv w L, Xc⟩ [] [("script", .any (scriptS script))] s)
    (k : ∀ v s', AtC ⟨PG, w, A, Gx w mean mg mb, B, W, Z, lawEnv w L, Xc⟩ [] [] s' → RepC ⟨PG, w, A, Gx w mean mg mb, B, W, Z, lawEnv w L, Xc⟩ [] s' (.bool true) v → Q (.ret v) s') :
    GoC ⟨PG, w, A, Gx w mean mg mb, B, W, Z, lawEnv w L, Xc⟩ (execs (lawX w).body (lawEnv w L)) Q s := by
  obtain ⟨d0, d1, d2, d3, hd⟩ := drawn_some script
  rw [← List.take_append_drop 11 (lawX w).body]
  refine xC_pre (C := ⟨PG, w, A, Gx w mean mg mb, B, W, Z, lawEnv w L, Xc⟩) ?_
  have hcols : colsOf [d0, d1, d2, d3] = [(0, turnAt (([d0, d1, d2, d3] : List Int).sum.fmod 4)), (1, turnAt ((([d0, d1, d2, d3] : List Int).sum.fdiv 4).fmod 4)), (2, 1)] := rfl
  have hl := draw_line d0 d1 d2 d3 (colsOf [d0, d1, d2, d3]) _ _ (turnAt_ne _) (turnAt_ne _) hcols
  obtain ⟨ws, r, vs, out, whole, orders, g⟩ := goodB_spec (good_perms _ hl)
  refine seg1 (mean := mean) (mg := mg) (mb := mb) rm hfr hsz hd a fun s₁ a₁ => ?_
  refine seg2 rm a₁ fun c s₂ a₂ t₂ => ?_
  refine seg3 rm (cols_key _) (by rw [hcols]; exact Nat.le_of_ble_eq_true rfl) (Nat.le_of_ble_eq_true rfl) ?_ a₂ t₂ fun M s₃ hM0 hM a₃ => ?_
  · intro x hx y hy
    simp only [List.mem_cons, List.not_mem_nil, or_false] at hx hy
    rcases hx with rfl | rfl | rfl | rfl <;> rcases hy with rfl | rfl | rfl | rfl <;> exact draw_judged _ _ _
  refine seg4 rm g.hw g.hne g.hm1 hM a₃ fun s₄ t₄ a₄ => ?_
  refine x_nil ?_
  refine segC rm g.hr g.hin g.hsz g.hwl t₄ a₄ fun s₅ t₅ a₅ => ?_
  refine seg5 rm g.hm g.hrs g.hrs2 g.hwl hM0 t₅ g.hls g.hlm a₅ fun s₆ a₆ => ?_
  exact seg6 rm (by have := g.hm; omega) g.hv g.h1 g.h2 g.hwh g.ho g.hob g.hp a₆ k
end Mine
end

section
open PySem PySem.W PyProof.Rows
namespace Mine
variable {w : World} {mean : ExcName → Option Value} {mg mb : Str → Option Value}
set_option maxHeartbeats 4000000
theorem law_call {A : Around} {s : Shared} {script : List Int} {v : Value} {X : Addr → Prop} {Q : Value → Shared → Prop} (hfr : A.frames = some []) (hd : A.depth < 500) (hu : A.units < 5000) (hh : A.handled = none) (hsz : script.length ≤ 1000)
    (hG : Gx w mean mg mb s.heap) (hX : ∀ b, X b → ∃ o, s.heap.get? b = some o) (hr : RepL PG w s.heap X [.any (scriptS script)] [v])
    (hQ : ∀ s', Ext s s' → Q (.bool true) s') : wpC (model PG w) A (call (.ref 212) [v]) Q (fun _ _ => False) s := by
  obtain ⟨o, ho, hdt⟩ := (lawX w).at'
  have ho' : s.heap.get? 212 = some o := hG.1 212 _ ho
  have hcd : s.heap.CodeRec (lawX w).fd.code (lawX w).fd.qualname := codeRec_of hG.1 rfl
  refine wpC_call (codeC_function (by show A.depth < 1000; omega) ho' hdt rfl rfl (lawX w).b hcd ?_)
  have hb : bindArgs (lawX w).fd ⟨[v], []⟩ = pure ((["script"] : List Str).zip [v]) := rfl
  rw [hb, show (lawX w).fd.closure = [] from rfl]
  refine wpAny_pure ?_
  have hkx : ∀ n', ∀ x ∈ (["script"] : List Str).zip [v], (lawX w).fd.scope.names.lookup x.1 = some .local ∨ ((lawX w).fd.scope.names.lookup x.1 = some .cell ∧ ((cellsFrom n' (lawX w).fd.scope.names []).lookup x.1).isSome = true) := by
    intro n' x hx
    have : x = (("script" : Str), v) := by simpa using hx
    subst this
    exact .inl rfl
  refine wpAny_newFunctionEnv_cells rfl (hkx _) fun env he s' x => ?_
  have hkeep := x.1.keep
  refine ⟨((gx_ok w mean mg mb).lim _ hG).keeps hkeep, codeC_func ?_⟩
  have hat := enter_at (prog := PG) (w := w) (G := Gx w mean mg mb) (names := ["script"]) (ds := [.any (scriptS script)]) (X := X) (A := A.deeper env) hG hX hr rfl hkx rfl (show (["turned", "many", "row", "line", "judge", "columns"] : List Str).Nodup by decide) (by decide) he x
  have henv : env = lawEnv w s.heap.objs.size := he
  subst henv
  refine law_body (mean := mean) (mg := mg) (mb := mb) ⟨hh, by show A.depth + 1 + 8 < 900; omega, by show A.units + 3 + 8 * 8 < 9000; omega⟩ ?_ hsz hat fun v s' a r => ?_
  · show (A.frames.map fun l => _ :: l) = _
    rw [hfr]; rfl
  · obtain ⟨u, e, x, r⟩ := ret_ok a r
    cases e
    have hv : v = .bool true := by simpa only [Rep] using r
    subst hv
    exact hQ _ x

theorem xp_walk : ∀ d kwd, defOf QV PySem.Challenge.rw_xp0007_01.row.name = some (d, kwd) → WalkC QV [] (XL QV []) (InK kk.heap_1) PySem.Challenge.rw_xp0007_01.row.toRowW d kwd fun f vs => PySem.call f vs := by
  intro d kwd hdef w s₀ s₁ mg mb G Y fa o pm cd doc dV kV ho hdo hcd hD hmg hg args vals as hpre hlay hrd hwl hlo
  refine Ground.open G ?_
  intro T B D TE TW
  have hGx : Gx w (ExcName.means s₀.heap) mg mb s₁.heap := ⟨Y, T⟩
  have hm2 : mg "law" = some (.ref 212) := gv rfl _ hGx
  have hm1 : mg "law" = some (.ref fa) := by rw [defOf_name hdef] at hmg; exact hmg
  rw [hm2] at hm1
  cases hm1
  clear hdo ho hcd hD G Y T B D TE TW hmg hm2 hdef
  wrow_args hpre hlay hrd hwl hlo
  rename_i xs _ _ _ _ _ _ _ l vs _ hl _ _ _ hi _ hc _
  have hsz : xs.length ≤ 1000 := by omega
  refine wpC_mono (law_call (mean := ExcName.means s₀.heap) (mg := mg) (mb := mb) (X := fun _ => False) rfl (by decide) (by decide) rfl hsz hGx (fun b h => h.elim) (RepL.cons (by simp only [Rep]; exact ⟨l, vs, rfl, fun h => h, hl, hi⟩) RepL.nil)
    (Q := fun v s' => v = .bool true ∧ Ext s₁ s') fun s' x => ⟨rfl, x⟩) (fun v s' h => ?_) fun _ _ h => h.elim
  obtain ⟨rfl, x⟩ := h
  obtain ⟨h', tk, e⟩ := x.same
  have hos : s'.os = s₁.os := by rw [e]
  have hgn : s'.gens = #[] := by rw [e]; exact hg
  refine GoodW.toG ⟨.inl ⟨_, .bool true, [], rfl, fun cls => ?_, ReadsW.bool _, ?_, fun _ => ⟨.nil, nofun⟩⟩, x.grow, hos, hgn⟩
  · rfl
  · exact postW_of (X := same (.bool true) (.bool true)) rfl (by wtm_val) (same_self _)
/-! names that are held, so that the head lays no second form of its largest objects: the compiled file stays small -/
theorem hd.tw4164392290792248488 : True := trivial
theorem hd.tw15650184460060549375 : True := trivial
theorem hd.tw10090067676359358454 : True := trivial
theorem hd.tw3947710232987724695 : True := trivial
theorem hd.tw3452082135128663414 : True := trivial
theorem hd.tw9748044761591592747 : True := trivial
theorem hd.tw13353348626548451038 : True := trivial
theorem hd.tw8674980644004459391 : True := trivial
theorem hd.tw4233181963852624665 : True := trivial
theorem hd.tw9210833815706959935 : True := trivial
theorem hd.tw13169766461546643797 : True := trivial
theorem hd.tw13855881374063213867 : True := trivial
theorem hd.tw7752216883906862206 : True := trivial
theorem hd.tw5036846961687405229 : True := trivial
theorem hd.tw11054480109507316185 : True := trivial
theorem hd.tw12949589719889679912 : True := trivial
theorem hd.tw6394381022753523788 : True := trivial
theorem hd.tw5278057926702712004 : True := trivial
theorem hd.tw11319892378374348655 : True := trivial
theorem hd.tw14560493823538711346 : True := trivial
theorem hd.tw16868993833207775613 : True := trivial
theorem hd.tw10258999931320997221 : True := trivial
theorem hd.tw9741134391959003819 : True := trivial
theorem hd.tw978945382295711627 : True := trivial
theorem hd.tw18093812233618175256 : True := trivial
theorem hd.tw11917015161858427179 : True := trivial
theorem hd.tw17447410573909459338 : True := trivial
theorem hd.tw5343241284826551009 : True := trivial
theorem hd.tw15166520500009309586 : True := trivial
set_option Elab.async true
set_option maxHeartbeats 8000000 in
theorem hd : PySem.Challenge.rw_xp0007_01.Holds := by
  w_on
  o_law
  o_head (kHook kk.heap_1 kas kas_ok)
  case hw => w_witness2
  exact ⟨⟨by kernel_rfl, by kernel_rfl⟩, xp_walk _ _ rfl⟩
end Mine
end

open PySem PySem.W PyProof.Rows
theorem PySem.Challenge.cw_xp0007_01_holds : PySem.Challenge.rw_xp0007_01.Holds := by
  exact Mine.hd
