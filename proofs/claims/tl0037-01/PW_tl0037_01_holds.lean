import PyProof.Rows.All
import Wide.All
import OpenK.AllK
import Wide.FinOn
import KE.KSortTup
import PySem.Challenge.RW_tl0037_01
open PySem PySem.W PyProof.Rows PySem.Calls PySem.SeqAt
set_option Elab.async false
set_option maxRecDepth 100000
set_option linter.unusedVariables false
set_option linter.unusedSimpArgs false
namespace Mine

/-- pure data -/
inductive D where
  | none
  | bool (b : Bool)
  | int (i : Int)
  | flt (x : UInt64)
  | str (s : PySem.Str)
  | strT (s : PySem.Str)
  | list (xs : List D)
  | tup (xs : List D)
  | ws (C : Addr) (c : List Int) (b : Int)
  | mut (a : Addr)

/-- what is known to stand for good in the heap -/
structure Kn where
  m : Addr → Option Obj
  t : Nat
/-- what must stay as it is -/
noncomputable abbrev Pk := Addr → Option Obj
structure KLe (k k' : Kn) : Prop where
  «at» : ∀ b o, k.m b = some o → k'.m b = some o
  tk : k.t ≤ k'.t
/-- it is so at heap h, the next token being tk -/
structure KIn (k : Kn) (h : Heap) (tk : Nat) : Prop where
  «at» : ∀ b o, k.m b = some o → h.get? b = some o
  one : 1 ≤ k.t
  tk : k.t ≤ tk
noncomputable def PIn (k : Pk) (h : Heap) : Prop := ∀ b o, k b = some o → h.get? b = some o
noncomputable def Le (h h' : Heap) : Prop := ∀ b o, h.get? b = some o → h'.get? b = some o
theorem KLe.refl (k : Kn) : KLe k k := ⟨fun _ _ e => e, Nat.le_refl _⟩
theorem KLe.trans {a b c : Kn} (x : KLe a b) (y : KLe b c) : KLe a c := ⟨fun _ _ e => y.at _ _ (x.at _ _ e), Nat.le_trans x.tk y.tk⟩
theorem Le.refl (k : Heap) : Le k k := fun _ _ e => e
theorem Le.trans {a b c : Heap} (x : Le a b) (y : Le b c) : Le a c := fun _ _ e => y _ _ (x _ _ e)
theorem KIn.le {k : Kn} {h h' : Heap} {t t' : Nat} (x : KIn k h t) (y : Le h h') (z : t ≤ t') : KIn k h' t' := ⟨fun _ _ e => y _ _ (x.at _ _ e), x.one, Nat.le_trans x.tk z⟩
theorem PIn.le {k : Pk} {h h' : Heap} (x : PIn k h) (y : Le h h') : PIn k h' := fun _ _ e => y _ _ (x _ _ e)
theorem Le.push (h : Heap) (o : Obj) : Le h (h.push o) := fun _ _ e => Heap.get?_push_of_some o e

noncomputable def KList (k : Kn) (a : Addr) (vs : List Value) : Prop := ∃ o, k.m a = some o ∧ o.cls = .type "list" ∧ ∃ n, o.data = .seq vs.toArray n
noncomputable def KTup (k : Kn) (a : Addr) (vs : List Value) : Prop := ∃ o, k.m a = some o ∧ o.cls = .type "tuple" ∧ ∃ n, o.data = .seq vs.toArray n
theorem KList.le {k k' : Kn} {a vs} (x : KList k a vs) (y : KLe k k') : KList k' a vs := let ⟨o, e, r⟩ := x; ⟨o, y.at _ _ e, r⟩
theorem KTup.le {k k' : Kn} {a vs} (x : KTup k a vs) (y : KLe k k') : KTup k' a vs := let ⟨o, e, r⟩ := x; ⟨o, y.at _ _ e, r⟩
theorem KList.at {k : Kn} {h : Heap} {t a vs} (x : KList k a vs) (y : KIn k h t) : h.IsList a vs.toArray := let ⟨o, e, r⟩ := x; ⟨o, y.at _ _ e, r⟩
theorem KTup.at {k : Kn} {h : Heap} {t a vs} (x : KTup k a vs) (y : KIn k h t) : h.IsTuple a vs.toArray := let ⟨o, e, r⟩ := x; ⟨o, y.at _ _ e, r⟩

/-- an object of a class without slots, its dict -/
noncomputable def KInst (k : Kn) (a C : Addr) (es : List DictEntry) : Prop := ∃ dx n, k.m a = some (instObj C dx) ∧ k.m dx = some (dictOf es n)
theorem KInst.le {k k' : Kn} {a C es} (x : KInst k a C es) (y : KLe k k') : KInst k' a C es := let ⟨d, n, e, f⟩ := x; ⟨d, n, y.at _ _ e, y.at _ _ f⟩

noncomputable def intVals : List Value → List Int → Prop
  | [], ns => ns = []
  | v :: r, ns => ∃ n ms, ns = n :: ms ∧ (∃ t, v = .int n t) ∧ intVals r ms

mutual
noncomputable def Rd (k : Kn) : D → Value → Prop
  | .none, v => v = .none
  | .bool b, v => v = .bool b
  | .int i, v => ∃ t, v = .int i t
  | .flt x, v => ∃ t, v = .float x t
  | .str s, v => ∃ t, v = .str s t
  | .strT s, v => ∃ t, v = .str s t ∧ 1 ≤ t ∧ t < k.t
  | .list ds, v => ∃ a vs, v = .ref a ∧ KList k a vs ∧ RdL k ds vs
  | .tup ds, v => ∃ a vs, v = .ref a ∧ KTup k a vs ∧ RdL k ds vs
  | .ws C c b, v => ∃ a es tv t₁ t₂ cv tb, v = .ref a ∧ KInst k a C es ∧ getL "norm" es = some (some (.ref tv)) ∧ KTup k tv [.ref t₁, .int b tb] ∧ KTup k t₁ cv ∧ intVals cv c ∧ getL "equal" es = some Option.none ∧ t₂ = t₁
  | .mut a, v => v = .ref a
noncomputable def RdL (k : Kn) : List D → List Value → Prop
  | [], vs => vs = []
  | d :: ds, vs => ∃ v r, vs = v :: r ∧ Rd k d v ∧ RdL k ds r
end

mutual
theorem Rd.le {k k' : Kn} (y : KLe k k') : ∀ {d : D} {v : Value}, Rd k d v → Rd k' d v
  | .none, _, h => h
  | .bool _, _, h => h
  | .int _, _, h => h
  | .flt _, _, h => h
  | .str _, _, h => h
  | .strT _, v, h => by
    unfold Rd at h ⊢
    obtain ⟨t, e, a, b⟩ := h
    exact ⟨t, e, a, Nat.lt_of_lt_of_le b y.tk⟩
  | .list ds, v, h => by
    unfold Rd at h ⊢
    obtain ⟨a, vs, e, l, r⟩ := h
    exact ⟨a, vs, e, l.le y, RdL.le y r⟩
  | .tup ds, v, h => by
    unfold Rd at h ⊢
    obtain ⟨a, vs, e, l, r⟩ := h
    exact ⟨a, vs, e, l.le y, RdL.le y r⟩
  | .ws C c b, v, h => by
    unfold Rd at h ⊢
    obtain ⟨a, es, tv, t₁, t₂, cv, tb, e, i, g, x, z, u, p⟩ := h
    exact ⟨a, es, tv, t₁, t₂, cv, tb, e, i.le y, g, x.le y, z.le y, u, p⟩
  | .mut _, _, h => h
theorem RdL.le {k k' : Kn} (y : KLe k k') : ∀ {ds : List D} {vs : List Value}, RdL k ds vs → RdL k' ds vs
  | [], _, h => h
  | d :: ds, vs, h => by
    unfold RdL at h ⊢
    obtain ⟨v, r, e, a, b⟩ := h
    exact ⟨v, r, e, Rd.le y a, RdL.le y b⟩
end

theorem RdL.length {k : Kn} : ∀ {ds : List D} {vs : List Value}, RdL k ds vs → vs.length = ds.length
  | [], vs, h => by unfold RdL at h; subst h; rfl
  | d :: ds, vs, h => by
    unfold RdL at h
    obtain ⟨v, r, e, a, b⟩ := h
    subst e
    simp [RdL.length b]
theorem RdL.get {k : Kn} : ∀ {ds : List D} {vs : List Value} {i : Nat} {d : D}, RdL k ds vs → ds[i]? = some d → ∃ v, vs[i]? = some v ∧ Rd k d v
  | [], vs, i, d, h, e => by simp at e
  | d :: ds, vs, i, d', h, e => by
    unfold RdL at h
    obtain ⟨v, r, rfl, a, b⟩ := h
    cases i with
    | zero => simp at e; subst e; exact ⟨v, rfl, a⟩
    | succ i => simp at e; simpa using RdL.get b e
theorem RdL.append {k : Kn} : ∀ {ds es : List D} {vs us : List Value}, RdL k ds vs → RdL k es us → RdL k (ds ++ es) (vs ++ us)
  | [], es, vs, us, h, g => by unfold RdL at h; subst h; simpa using g
  | d :: ds, es, vs, us, h, g => by
    unfold RdL at h
    obtain ⟨v, r, rfl, a, b⟩ := h
    show RdL k (d :: (ds ++ es)) (v :: (r ++ us))
    unfold RdL
    exact ⟨v, _, rfl, a, RdL.append b g⟩
theorem RdL.nil {k : Kn} : RdL k [] [] := by unfold RdL; rfl
theorem RdL.cons {k : Kn} {d v ds vs} (a : Rd k d v) (b : RdL k ds vs) : RdL k (d :: ds) (v :: vs) := by unfold RdL; exact ⟨v, vs, rfl, a, b⟩
theorem RdL.one {k : Kn} {d v} (a : Rd k d v) : RdL k [d] [v] := .cons a .nil
theorem RdL.take {k : Kn} : ∀ {ds : List D} {vs : List Value} (n : Nat), RdL k ds vs → RdL k (ds.take n) (vs.take n)
  | [], vs, n, h => by unfold RdL at h; subst h; simpa using RdL.nil
  | d :: ds, vs, n, h => by
    unfold RdL at h
    obtain ⟨v, r, rfl, a, b⟩ := h
    cases n with
    | zero => exact RdL.nil
    | succ n => exact .cons a (RdL.take n b)
theorem RdL.drop {k : Kn} : ∀ {ds : List D} {vs : List Value} (n : Nat), RdL k ds vs → RdL k (ds.drop n) (vs.drop n)
  | [], vs, n, h => by unfold RdL at h; subst h; simpa using RdL.nil
  | d :: ds, vs, n, h => by
    unfold RdL at h
    obtain ⟨v, r, rfl, a, b⟩ := h
    cases n with
    | zero => exact .cons a b
    | succ n => exact RdL.drop n b

/-- what was done only adds: knowledge k at heap h becomes k' at h' -/
structure Up (k : Kn) (h : Heap) (k' : Kn) (h' : Heap) (tk : Nat) : Prop where
  kl : KLe k k'
  ki : KIn k' h' tk
  kn : ∀ b o, k'.m b = some o → k.m b = some o ∨ h.get? b = none
  le : Le h h'
theorem Up.refl {k : Kn} {h : Heap} {t : Nat} (i : KIn k h t) : Up k h k h t := ⟨KLe.refl k, i, fun _ _ e => .inl e, Le.refl h⟩
theorem Up.tok {k : Kn} {h : Heap} {t t' : Nat} (i : KIn k h t) (z : t ≤ t') : Up k h k h t' := ⟨KLe.refl k, i.le (Le.refl h) z, fun _ _ e => .inl e, Le.refl h⟩
/-- a new token is known -/
noncomputable def Kn.tok (k : Kn) (t : Nat) : Kn := ⟨k.m, t⟩
theorem Up.fresh {k : Kn} {h : Heap} {t : Nat} (i : KIn k h t) : Up k h (k.tok (t + 1)) h (t + 1) :=
  ⟨⟨fun _ _ e => e, Nat.le_succ_of_le i.tk⟩, ⟨i.at, by show 1 ≤ t + 1; omega, Nat.le_refl _⟩, fun _ _ e => .inl e, Le.refl h⟩
theorem Le.none {h h' : Heap} (x : Le h h') {b : Addr} (e : h'.get? b = none) : h.get? b = none := by
  cases q : h.get? b with
  | none => rfl
  | some o => rw [x _ _ q] at e; cases e
theorem Up.trans {k₁ k₂ k₃ : Kn} {h₁ h₂ h₃ : Heap} {t₂ t₃ : Nat} (x : Up k₁ h₁ k₂ h₂ t₂) (y : Up k₂ h₂ k₃ h₃ t₃) : Up k₁ h₁ k₃ h₃ t₃ :=
  ⟨x.kl.trans y.kl, y.ki, fun b o e => (y.kn b o e).elim (x.kn b o) fun e' => .inr (x.le.none e'), x.le.trans y.le⟩

open Classical in
/-- whatever only adds can be known whole -/
noncomputable def grown (k : Kn) (h h' : Heap) : Kn := ⟨fun b => if h.get? b = Option.none then h'.get? b else k.m b, k.t⟩
theorem Up.grow {k : Kn} {h h' : Heap} {t t' : Nat} (i : KIn k h t) (l : Le h h') (z : t ≤ t') : Up k h (grown k h h') h' t' where
  kl := ⟨fun b o e => by
    show (if _ then _ else _) = _
    rw [if_neg (by rw [i.at _ _ e]; exact fun q => nomatch q)]; exact e, Nat.le_refl _⟩
  ki := ⟨fun b o e => by
    have e' : (if h.get? b = Option.none then h'.get? b else k.m b) = some o := e
    split at e'
    · exact e'
    · exact l _ _ (i.at _ _ e'), i.one, Nat.le_trans i.tk z⟩
  kn := fun b o e => by
    have e' : (if h.get? b = Option.none then h'.get? b else k.m b) = some o := e
    split at e'
    · rename_i q; exact .inr q
    · exact .inl e'
  le := l
theorem grown_new {k : Kn} {h h' : Heap} {b : Addr} {o : Obj} (e : h'.get? b = some o) (n : h.get? b = Option.none) : (grown k h h').m b = some o := by
  show (if _ then _ else _) = _
  rw [if_pos n]; exact e
theorem get_size (h : Heap) : h.get? h.objs.size = Option.none := by
  cases q : h.get? h.objs.size with
  | none => rfl
  | some o => exact absurd (Heap.lt_size q) (Nat.lt_irrefl _)

noncomputable def soft : List D → Bool
  | .none :: _ => true
  | _ => false
noncomputable def hard : List D → List D
  | .none :: xs => xs
  | xs => xs
theorem hard_of {ds : List D} (h : soft ds = false) : hard ds = ds := by
  unfold hard; split
  · cases h
  · rfl
/-- a list under construction; with a mark ahead: only that it is a list -/
noncomputable def MuOk (k : Kn) (h : Heap) (a : Addr) (ds : List D) : Prop := ∃ vs : List Value, (if soft ds = true then h.IsList a vs.toArray else h.PlainList a vs.toArray) ∧ RdL k (hard ds) vs
theorem MuOk.plain {k h a ds} (x : MuOk k h a ds) (hp : soft ds = false) : ∃ vs : List Value, h.PlainList a vs.toArray ∧ RdL k ds vs := by
  obtain ⟨vs, l, r⟩ := x
  rw [if_neg (by rw [hp]; exact Bool.false_ne_true)] at l
  rw [hard_of hp] at r
  exact ⟨vs, l, r⟩
theorem MuOk.ofPlain {k : Kn} {h : Heap} {a : Addr} {ds : List D} {vs : List Value} (hp : soft ds = false) (l : h.PlainList a vs.toArray) (r : RdL k ds vs) : MuOk k h a ds :=
  ⟨vs, by rw [if_neg (by rw [hp]; exact Bool.false_ne_true)]; exact l, by rw [hard_of hp]; exact r⟩
theorem MuOk.list {k h a ds} (x : MuOk k h a ds) : ∃ vs : List Value, h.IsList a vs.toArray ∧ RdL k (hard ds) vs := by
  obtain ⟨vs, l, r⟩ := x
  refine ⟨vs, ?_, r⟩
  split at l
  · exact l
  · exact l.isList
theorem MuOk.obj {k h a ds} (x : MuOk k h a ds) : ∃ o, h.get? a = some o := by
  obtain ⟨vs, ⟨o, e, _⟩, r⟩ := x.list
  exact ⟨o, e⟩
theorem MuOk.keep {k k' h h' a ds} (x : MuOk k h a ds) (e : ∀ o, h.get? a = some o → h'.get? a = some o) (y : KLe k k') : MuOk k' h' a ds := by
  obtain ⟨vs, l, r⟩ := x
  refine ⟨vs, ?_, r.le y⟩
  split at l
  · rename_i q; rw [if_pos q]; obtain ⟨o, g, z⟩ := l; exact ⟨o, e _ g, z⟩
  · rename_i q; rw [if_neg q]; obtain ⟨n, g⟩ := l; exact ⟨n, e _ g⟩

/-- what the names hold -/
noncomputable abbrev Sg := List (PySem.Str × D)

/-- a frame of a def, or of a comprehension in it -/
structure EnvOk (env : Env) : Prop where
  fn : env.scope.kind = .function
  c1 : ∀ x, (env.kindOf x = some .cell ∨ env.kindOf x = some .free) → ∃ c, env.cells.lookup x = some c
  c2 : ∀ x c, env.cells.lookup x = some c → env.kindOf x = some .cell ∨ env.kindOf x = some .free
  gl : env.globals = mainGlobals
  bl : env.builtins = builtinsNs

/-- the state of a frame; pk: what must stay as it is -/
structure St (T : Heap → Prop) (pk : Pk) (k : Kn) (env : Env) (h : Heap) (tk : Nat) (σ : Sg) (μ : List (Addr × List D)) : Prop where
  ok : EnvOk env
  top : ∀ g, PIn pk g → T g
  kb : PIn pk h
  kh : KIn k h tk
  ns : ∃ m, h.Ns env.locals m ∧ ∀ x d, env.kindOf x = some .local → (x, d) ∈ σ → ∃ v, m x = some v ∧ Rd k d v
  cl : ∀ x c, env.cells.lookup x = some c → ∃ v, h.IsCell c v ∧ ∀ d, (x, d) ∈ σ → ∃ v', v = some v' ∧ Rd k d v'
  hL : k.m env.locals = Option.none ∧ pk env.locals = Option.none
  hC : ∀ x c, env.cells.lookup x = some c → k.m c = Option.none ∧ pk c = Option.none ∧ c ≠ env.locals
  dC : ∀ x y c, env.cells.lookup x = some c → env.cells.lookup y = some c → x = y
  mu : ∀ p ∈ μ, k.m p.1 = Option.none ∧ pk p.1 = Option.none ∧ p.1 ≠ env.locals ∧ (∀ x c, env.cells.lookup x = some c → p.1 ≠ c) ∧ MuOk k h p.1 p.2

theorem Heap.PlainList.le {h h' : Heap} {a items} (x : h.PlainList a items) (y : Le h h') : h'.PlainList a items := let ⟨n, e⟩ := x; ⟨n, y _ _ e⟩

theorem St.up {T pk k env h tk σ μ k' h' tk'} (S : St T pk k env h tk σ μ) (u : Up k h k' h' tk') : St T pk k' env h' tk' σ μ where
  ok := S.ok
  top := S.top
  kb := S.kb.le u.le
  kh := u.ki
  ns := let ⟨m, n, r⟩ := S.ns; ⟨m, n.keeps u.le, fun x d a b => let ⟨v, e, q⟩ := r x d a b; ⟨v, e, q.le u.kl⟩⟩
  cl := fun x c e => let ⟨v, i, r⟩ := S.cl x c e; ⟨v, i.keeps u.le, fun d b => let ⟨v', e', q⟩ := r d b; ⟨v', e', q.le u.kl⟩⟩
  hL := by
    refine ⟨?_, S.hL.2⟩
    cases q : k'.m env.locals with
    | none => rfl
    | some o =>
      rcases u.kn _ _ q with e | e
      · rw [S.hL.1] at e; cases e
      · obtain ⟨m, ⟨o', _, _, g, _⟩, _⟩ := S.ns
        rw [g] at e; cases e
  hC := fun x c e => by
    refine ⟨?_, (S.hC x c e).2⟩
    cases q : k'.m c with
    | none => rfl
    | some o =>
      rcases u.kn _ _ q with e' | e'
      · rw [(S.hC x c e).1] at e'; cases e'
      · obtain ⟨v, ⟨o', g, _⟩, _⟩ := S.cl x c e
        rw [g] at e'; cases e'
  dC := S.dC
  mu := fun p hp => by
    obtain ⟨a, b, c, d, l⟩ := S.mu p hp
    refine ⟨?_, b, c, d, l.keep (fun o e => u.le _ _ e) u.kl⟩
    cases q : k'.m p.1 with
    | none => rfl
    | some o =>
      rcases u.kn _ _ q with e' | e'
      · rw [a] at e'; cases e'
      · obtain ⟨n, g⟩ := l.obj
        rw [g] at e'; cases e'

/-- fewer claims -/
theorem St.less {T pk k env h tk σ μ σ'} (S : St T pk k env h tk σ μ) (l : ∀ p ∈ σ', p ∈ σ) : St T pk k env h tk σ' μ :=
  { S with
    ns := let ⟨m, n, r⟩ := S.ns; ⟨m, n, fun x d a b => r x d a (l _ b)⟩
    cl := fun x c e => let ⟨v, i, r⟩ := S.cl x c e; ⟨v, i, fun d b => r d (l _ b)⟩ }
noncomputable def TLe (T : Heap → Prop) : Prop := ∀ h h', Le h h' → T h → T h'
theorem St.topAt {T pk k env h tk σ μ} (S : St T pk k env h tk σ μ) : T h := S.top _ S.kb

noncomputable def Rm (n : Nat) (A : Around) : Prop := A.handled = Option.none ∧ A.depth + n < recursionLimit ∧ A.units + 10 * n + 50 < cLine
theorem Rm.deeper {n : Nat} {A : Around} {env : Env} (r : Rm (n + 1) A) : Rm n (A.deeper env) := ⟨r.1, by have := r.2.1; show A.depth + 1 + n < _; omega, by have := r.2.2; show A.units + 3 + 10 * n + 50 < _; omega⟩
theorem Rm.in1 {n : Nat} {A : Around} (r : Rm (n + 1) A) : Rm n A.in1 := ⟨r.1, by have := r.2.1; show A.depth + n < _; omega, by have := r.2.2; show A.units + 1 + 10 * n + 50 < _; omega⟩
theorem Rm.less {n m : Nat} {A : Around} (r : Rm n A) (h : m ≤ n) : Rm m A := ⟨r.1, by have := r.2.1; omega, by have := r.2.2; omega⟩

section
variable (prog : Program) (w : World) (T : Heap → Prop)
/-- an expression comes to d -/
noncomputable def EvE (n : Nat) (env : Env) (σ : Sg) (μ : List (Addr × List D)) (e : Expr) (d : D) : Prop :=
  ∀ (A : Around) (s : Shared) (pk : Pk) (k : Kn) (Q : Value → Shared → Prop) (E : Value → Shared → Prop), Rm n A → St T pk k env s.heap s.toks σ μ →
    (∀ v k' h' tk, Up k s.heap k' h' tk → Rd k' d v → Q v { s with heap := h', toks := tk }) → wpAny (model prog w) A (eval e env) Q E s
/-- a test comes to b -/
noncomputable def EvT (n : Nat) (env : Env) (σ : Sg) (μ : List (Addr × List D)) (e : Expr) (b : Bool) : Prop :=
  ∀ (A : Around) (s : Shared) (pk : Pk) (k : Kn) (Q : Bool → Shared → Prop) (E : Value → Shared → Prop), Rm n A → St T pk k env s.heap s.toks σ μ →
    (∀ k' h' tk, Up k s.heap k' h' tk → Q b { s with heap := h', toks := tk }) → wpAny (model prog w) A (isTrue e env (eval e env)) Q E s
/-- a list of expressions -/
noncomputable def EvL (n : Nat) (env : Env) (σ : Sg) (μ : List (Addr × List D)) (es : List Expr) (ds : List D) : Prop :=
  ∀ (A : Around) (s : Shared) (pk : Pk) (k : Kn) (pos : Pos) (Q : List Value → Shared → Prop) (E : Value → Shared → Prop), Rm n A → St T pk k env s.heap s.toks σ μ →
    (∀ vs k' h' tk, Up k s.heap k' h' tk → RdL k' ds vs → Q vs { s with heap := h', toks := tk }) → wpAny (model prog w) A (spliced (backTo pos (starEach es env))) Q E s

inductive Out where
  | next (σ : Sg) (μ : List (Addr × List D))
  | brk (σ : Sg) (μ : List (Addr × List D))
  | ret (d : D)
noncomputable def OutIs (pk : Pk) (env : Env) (k : Kn) (h : Heap) (tk : Nat) : Out → Flow → Prop
  | .next σ μ, f => f = .next ∧ St T pk k env h tk σ μ
  | .brk σ μ, f => f = .brk ∧ St T pk k env h tk σ μ
  | .ret d, f => ∃ v, f = .ret v ∧ Rd k d v ∧ KIn k h tk ∧ PIn pk h
/-- a statement (a list of statements) ends in o -/
noncomputable def ExTree (n : Nat) (env : Env) (σ : Sg) (μ : List (Addr × List D)) (t : Sem Flow) (o : Out) : Prop :=
  ∀ (A : Around) (s : Shared) (pk : Pk) (k : Kn) (Q : Flow → Shared → Prop) (E : Value → Shared → Prop), Rm n A → St T pk k env s.heap s.toks σ μ →
    (∀ f k' h' tk, KLe k k' → (∀ b ob, k'.m b = some ob → k.m b = some ob ∨ pk b = Option.none) → OutIs T pk env k' h' tk o f → Q f { s with heap := h', toks := tk }) →
    wpAny (model prog w) A t Q E s
noncomputable abbrev ExS (n : Nat) (env : Env) (σ : Sg) (μ : List (Addr × List D)) (st : Stmt) (o : Out) : Prop := ExTree prog w T n env σ μ (exec st env) o
noncomputable abbrev ExL (n : Nat) (env : Env) (σ : Sg) (μ : List (Addr × List D)) (sts : List Stmt) (o : Out) : Prop := ExTree prog w T n env σ μ (execs sts env) o
/-- a def, called with such arguments, gives d back -/
noncomputable def FnC (n : Nat) (f : Addr) (ds : List D) (d : D) : Prop :=
  ∀ (A : Around) (s : Shared) (k : Kn) (vs : List Value) (R : Result → Shared → Prop), Rm n A → T s.heap → KIn k s.heap s.toks → RdL k ds vs →
    (∀ v k' h' tk, Up k s.heap k' h' tk → Rd k' d v → R (.ok (.ret v)) { s with heap := h', toks := tk }) → codeAny (model prog w) A (.call (.ref f) ⟨vs, []⟩) R s
end
section
variable {prog : Program} {w : World} {T : Heap → Prop} {n : Nat} {env : Env} {σ : Sg} {μ : List (Addr × List D)}

noncomputable def nameOk (env : Env) (x : PySem.Str) : Bool :=
  (match env.kindOf x with | some .local => true | some .cell => true | some .free => true | _ => false) && !(x == ("__debug__" : PySem.Str)) && !(x == ("__classdict__" : PySem.Str))
theorem EvE.name {x pos d} (ho : nameOk env x = true) (hv : (x, d) ∈ σ) : EvE prog w T n env σ μ (.Name x pos) d := fun A s pk k Q E rm S h => by
  simp only [nameOk, Bool.and_eq_true, Bool.not_eq_true'] at ho
  obtain ⟨⟨ho, hd⟩, hb⟩ := ho
  have cellular : ∀ c, env.cells.lookup x = some c → ∃ v, s.heap.IsCell c (some v) ∧ Q v s := fun c hc => by
    obtain ⟨v, i, r⟩ := S.cl x c hc
    obtain ⟨v', rfl, r'⟩ := r d hv
    exact ⟨v', i, h v' k s.heap s.toks (Up.refl S.kh) r'⟩
  split at ho
  · rename_i hl
    obtain ⟨m, hn, hm⟩ := S.ns
    obtain ⟨v, e, r⟩ := hm x d hl hv
    exact wpAny_Name (wpAny_loadName_local S.ok.fn hl hn e (h v k s.heap s.toks (Up.refl S.kh) r)) hd
  · rename_i hl
    obtain ⟨c, hc⟩ := S.ok.c1 x (.inl hl)
    obtain ⟨v, i, q⟩ := cellular c hc
    exact wpAny_Name (wpAny_loadName_cell S.ok.fn hl hc i q) hd
  · rename_i hl
    obtain ⟨c, hc⟩ := S.ok.c1 x (.inr hl)
    obtain ⟨v, i, q⟩ := cellular c hc
    exact wpAny_Name (wpAny_loadName_free S.ok.fn hl hc i q hb) hd
  · cases ho

theorem EvE.cInt {i k pos} : EvE prog w T n env σ μ (.Constant (.int i) k pos) (.int i) := fun A s pk k Q E rm S h =>
  wpAny_Constant_int (h _ k s.heap _ (Up.tok S.kh (Nat.le_succ _)) (by unfold Rd; exact ⟨_, rfl⟩))
theorem EvE.cFlt {i k pos} : EvE prog w T n env σ μ (.Constant (.float i) k pos) (.flt i) := fun A s pk k Q E rm S h =>
  wpAny_Constant_float (h _ k s.heap _ (Up.tok S.kh (Nat.le_succ _)) (by unfold Rd; exact ⟨_, rfl⟩))
theorem EvE.cStrT {i k pos} : EvE prog w T n env σ μ (.Constant (.str i) k pos) (.strT i) := fun A s base k Q E rm S h =>
  wpAny_Constant_str (h _ _ s.heap _ (Up.fresh S.kh) (by unfold Rd; exact ⟨_, rfl, Nat.le_trans S.kh.one S.kh.tk, Nat.lt_succ_self _⟩))
theorem Rd.weak {k : Kn} {s : PySem.Str} {v : Value} (h : Rd k (.strT s) v) : Rd k (.str s) v := by unfold Rd at h ⊢; obtain ⟨t, e, _⟩ := h; exact ⟨t, e⟩
theorem EvE.weak {e s} (h : EvE prog w T n env σ μ e (.strT s)) : EvE prog w T n env σ μ e (.str s) := fun A s base k Q E rm S hq => h A s base k Q E rm S fun v k' h' tk u r => hq v k' h' tk u r.weak
theorem EvE.cStr {i k pos} : EvE prog w T n env σ μ (.Constant (.str i) k pos) (.str i) := EvE.cStrT.weak
theorem EvE.cNone {k pos} : EvE prog w T n env σ μ (.Constant .none k pos) .none := fun A s pk k Q E rm S h =>
  wpAny_Constant_none (h _ k s.heap s.toks (Up.refl S.kh) (by unfold Rd; rfl))
theorem EvE.cBool {b k pos} : EvE prog w T n env σ μ (.Constant (.bool b) k pos) (.bool b) := fun A s pk k Q E rm S h =>
  wpAny_Constant_bool (h _ k s.heap s.toks (Up.refl S.kh) (by unfold Rd; rfl))

/-- a binary operation on two data -/
noncomputable def BinR (prog : Program) (w : World) (T : Heap → Prop) (n : Nat) (op : Operator) (d₁ d₂ d : D) : Prop :=
  ∀ (A : Around) (s : Shared) (k : Kn) (v₁ v₂ : Value) (Q : Value → Shared → Prop) (E : Value → Shared → Prop), Rm n A → T s.heap → KIn k s.heap s.toks → Rd k d₁ v₁ → Rd k d₂ v₂ →
    (∀ v k' h' tk, Up k s.heap k' h' tk → Rd k' d v → Q v { s with heap := h', toks := tk }) → wpAny (model prog w) A (binaryOp op v₁ v₂) Q E s
noncomputable def CmpR (prog : Program) (w : World) (T : Heap → Prop) (n : Nat) (op : CmpOp) (d₁ d₂ : D) (b : Bool) : Prop :=
  ∀ (A : Around) (s : Shared) (k : Kn) (v₁ v₂ : Value) (Q : Value → Shared → Prop) (E : Value → Shared → Prop), Rm n A → T s.heap → KIn k s.heap s.toks → Rd k d₁ v₁ → Rd k d₂ v₂ →
    (∀ k' h' tk, Up k s.heap k' h' tk → Q (.bool b) { s with heap := h', toks := tk }) → wpAny (model prog w) A (compareOp op v₁ v₂) Q E s
noncomputable def UnR (prog : Program) (w : World) (T : Heap → Prop) (n : Nat) (op : UnaryOp) (d₁ d : D) : Prop :=
  ∀ (A : Around) (s : Shared) (k : Kn) (v₁ : Value) (Q : Value → Shared → Prop) (E : Value → Shared → Prop), Rm n A → T s.heap → KIn k s.heap s.toks → Rd k d₁ v₁ →
    (∀ v k' h' tk, Up k s.heap k' h' tk → Rd k' d v → Q v { s with heap := h', toks := tk }) → wpAny (model prog w) A (unaryOp op v₁) Q E s

theorem EvE.bin {l op r pos d₁ d₂ d} (hl : EvE prog w T n env σ μ l d₁) (hr : EvE prog w T n env σ μ r d₂) (ho : BinR prog w T n op d₁ d₂ d) : EvE prog w T n env σ μ (.BinOp l op r pos) d :=
  fun A s pk k Q E rm S h => wpAny_BinOp (hl A s pk k _ _ rm S fun v₁ k₁ h₁ t₁ u₁ r₁ => hr A _ pk k₁ _ _ rm (S.up u₁) fun v₂ k₂ h₂ t₂ u₂ r₂ =>
    ho A _ k₂ v₁ v₂ _ _ rm ((S.up u₁).up u₂).topAt u₂.ki (r₁.le u₂.kl) r₂ fun v k₃ h₃ t₃ u₃ r₃ => h v k₃ h₃ t₃ (u₁.trans (u₂.trans u₃)) r₃)
theorem EvE.un {op x pos d₁ d} (hl : EvE prog w T n env σ μ x d₁) (ho : UnR prog w T n op d₁ d) : EvE prog w T n env σ μ (.UnaryOp op x pos) d :=
  fun A s pk k Q E rm S h => wpAny_UnaryOp (hl A s pk k _ _ rm S fun v₁ k₁ h₁ t₁ u₁ r₁ =>
    ho A _ k₁ v₁ _ _ rm (S.up u₁).topAt u₁.ki r₁ fun v k₃ h₃ t₃ u₃ r₃ => h v k₃ h₃ t₃ (u₁.trans u₃) r₃)
theorem EvE.cmp {l op r pos d₁ d₂ b} (hm : behindInMarks op r = false) (hl : EvE prog w T n env σ μ l d₁) (hr : EvE prog w T n env σ μ r d₂) (ho : CmpR prog w T n op d₁ d₂ b) :
    EvE prog w T n env σ μ (.Compare l [op] [r] pos) (.bool b) :=
  fun A s pk k Q E rm S h => wpAny_Compare1 (hl A s pk k _ _ rm S fun v₁ k₁ h₁ t₁ u₁ r₁ => hr A _ pk k₁ _ _ rm (S.up u₁) fun v₂ k₂ h₂ t₂ u₂ r₂ =>
    ho A _ k₂ v₁ v₂ _ _ rm ((S.up u₁).up u₂).topAt u₂.ki (r₁.le u₂.kl) r₂ fun k₃ h₃ t₃ u₃ => h _ k₃ h₃ t₃ (u₁.trans (u₂.trans u₃)) (by unfold Rd; rfl)) hm
theorem EvT.cmp {l op r pos d₁ d₂ b} (hm : behindInMarks op r = false) (hl : EvE prog w T n env σ μ l d₁) (hr : EvE prog w T n env σ μ r d₂) (ho : CmpR prog w T n op d₁ d₂ b) :
    EvT prog w T n env σ μ (.Compare l [op] [r] pos) b :=
  fun A s pk k Q E rm S h => wpAny_isTrue_Compare1 (hl A s pk k _ _ rm S fun v₁ k₁ h₁ t₁ u₁ r₁ => hr A _ pk k₁ _ _ rm (S.up u₁) fun v₂ k₂ h₂ t₂ u₂ r₂ =>
    ho A _ k₂ v₁ v₂ _ _ rm ((S.up u₁).up u₂).topAt u₂.ki (r₁.le u₂.kl) r₂ fun k₃ h₃ t₃ u₃ => wpAny_truthy_bool (h k₃ h₃ t₃ (u₁.trans (u₂.trans u₃)))) hm
theorem EvT.not {x pos b} (h : EvT prog w T n env σ μ x b) : EvT prog w T n env σ μ (.UnaryOp .Not x pos) (!b) :=
  fun A s pk k Q E rm S hq => wpAny_isTrue_Not (h A s pk k _ _ rm S fun k' h' tk u => hq k' h' tk u)
/-- a name or a call that holds a bool -/
theorem EvT.val {e b} (hs : ∀ whole, isTrue e env whole = (do let v ← whole; standAt e.pos; holding [v] (truthy v))) (h : EvE prog w T n env σ μ e (.bool b)) : EvT prog w T n env σ μ e b :=
  fun A s pk k Q E rm S hq => by
    rw [hs]
    refine wpAny_bind (h A s pk k _ _ rm S fun v k' h' tk u r => wpAny_bind (wpAny_standAt (wpAny_holding ?_)))
    unfold Rd at r; subst r
    exact wpAny_truthy_bool (hq k' h' tk u)
theorem EvE.ife {t a b pos d c} (ht : EvT prog w T n env σ μ t c) (ha : c = true → EvE prog w T n env σ μ a d) (hb : c = false → EvE prog w T n env σ μ b d) : EvE prog w T n env σ μ (.IfExp t a b pos) d :=
  fun A s pk k Q E rm S h => wpAny_IfExp (ht A s pk k _ _ rm S fun k₁ h₁ t₁ u₁ => by
    cases c with
    | true => exact ha rfl A _ pk k₁ _ _ rm (S.up u₁) fun v k₂ h₂ t₂ u₂ r => h v k₂ h₂ t₂ (u₁.trans u₂) r
    | false => exact hb rfl A _ pk k₁ _ _ rm (S.up u₁) fun v k₂ h₂ t₂ u₂ r => h v k₂ h₂ t₂ (u₁.trans u₂) r)

theorem EvL.nil : EvL prog w T n env σ μ [] [] := fun A s pk k pos Q E rm S h => PyProof.Rows.spliced_none (h [] k s.heap s.toks (Up.refl S.kh) .nil)
theorem EvL.cons {e es d ds} (he : starEach (e :: es) env = (false, eval e env) :: starEach es env) (h₁ : EvE prog w T n env σ μ e d) (h₂ : EvL prog w T n env σ μ es ds) : EvL prog w T n env σ μ (e :: es) (d :: ds) :=
  fun A s pk k pos Q E rm S h => by
    rw [he]
    refine spliced_cons ?_
    refine h₁ A s pk k _ _ rm S fun v k₁ h₁' t₁ u₁ r₁ => ?_
    exact h₂ A _ pk k₁ pos _ _ rm (S.up u₁) fun vs k₂ h₂' t₂ u₂ r₂ => h (v :: vs) k₂ h₂' t₂ (u₁.trans u₂) (.cons (r₁.le u₂.kl) r₂)

theorem KIn.size {k : Kn} {h : Heap} {t : Nat} (i : KIn k h t) : k.m h.objs.size = Option.none := by
  cases q : k.m h.objs.size with
  | none => rfl
  | some o => have := i.at _ _ q; rw [get_size] at this; cases this
/-- a new object is known -/
theorem Up.new {k : Kn} {h : Heap} {t : Nat} {o : Obj} (i : KIn k h t) (hf : o.isFreed = false) : Up k h (grown k h (h.push o)) (h.push o) t ∧ (grown k h (h.push o)).m h.objs.size = some o :=
  ⟨Up.grow i (Le.push h o) (Nat.le_refl _), grown_new (Heap.get?_push_size h hf) (get_size h)⟩

theorem EvE.tup {es k pos ds} (hs : ds.length ≤ 100000) (h₁ : EvL prog w T n env σ μ es ds) : EvE prog w T n env σ μ (.Tuple es k pos) (.tup ds) :=
  fun A s pk k Q E rm S h => Tuple_ (h₁ A s pk k _ _ _ rm S fun vs k₁ h₁ t₁ u₁ r₁ => by
    have hl := r₁.length
    refine wpAny_newTuple (s := { s with heap := h₁, toks := t₁ }) ?_ (by rw [sizeLine_eq]; omega)
    obtain ⟨u₂, g⟩ := Up.new (o := { cls := .type "tuple", data := .seq vs.toArray }) u₁.ki rfl
    exact h _ _ _ _ (u₁.trans u₂) (by unfold Rd; exact ⟨_, vs, rfl, ⟨_, g, rfl, _, rfl⟩, r₁.le u₂.kl⟩))
theorem EvE.list {es pos ds} (hs : ds.length ≤ 100000) (h₁ : EvL prog w T n env σ μ es ds) : EvE prog w T n env σ μ (.List es pos) (.list ds) :=
  fun A s pk k Q E rm S h => List_ (h₁ A s pk k _ _ _ rm S fun vs k₁ h₁ t₁ u₁ r₁ => by
    have hl := r₁.length
    refine wpAny_newList (s := { s with heap := h₁, toks := t₁ }) ?_ (by rw [sizeLine_eq]; omega)
    obtain ⟨u₂, g⟩ := Up.new (o := { cls := .type "list", data := .seq vs.toArray }) u₁.ki rfl
    exact h _ _ _ _ (u₁.trans u₂) (by unfold Rd; exact ⟨_, vs, rfl, ⟨_, g, rfl, _, rfl⟩, r₁.le u₂.kl⟩))

/-- a name that stands for a def, a class or a built-in -/
noncomputable def EvF (prog : Program) (w : World) (T : Heap → Prop) (n : Nat) (env : Env) (σ : Sg) (μ : List (Addr × List D)) (e : Expr) (v : Value) : Prop :=
  ∀ (A : Around) (s : Shared) (pk : Pk) (k : Kn) (Q : Value → Shared → Prop) (E : Value → Shared → Prop), Rm n A → St T pk k env s.heap s.toks σ μ → Q v s → wpAny (model prog w) A (eval e env) Q E s
noncomputable def CallC (prog : Program) (w : World) (T : Heap → Prop) (n : Nat) (f : Value) (ds : List D) (d : D) : Prop :=
  ∀ (A : Around) (s : Shared) (k : Kn) (vs : List Value) (Q : Value → Shared → Prop) (E : Value → Shared → Prop), Rm n A → T s.heap → KIn k s.heap s.toks → RdL k ds vs →
    (∀ v k' h' tk, Up k s.heap k' h' tk → Rd k' d v → Q v { s with heap := h', toks := tk }) → wpAny (model prog w) A (call f vs) Q E s
theorem FnC.call {f ds d} (h : FnC prog w T n f ds d) : CallC prog w T n (.ref f) ds d := fun A s k vs Q E rm ht ki r hq =>
  wpAny_call (h A s k vs _ rm ht ki r hq)

/-- how the machine keeps what it calls: looked up without a change -/
noncomputable def Quick (prog : Program) (w : World) (T : Heap → Prop) (f : Value) : Prop :=
  ∀ h, T h → ∃ k, (k = Keeper.frame ∨ k = Keeper.machine ∨ k = Keeper.boundFrame) ∧ Looks (model prog w) h (keeperOf f) k

theorem backTo_plain {pos : Pos} {es : List Expr} (hp : (starEach es env).any (·.1) = false) : (backTo pos (starEach es env)).any (·.1) = false := by
  unfold backTo
  rw [List.any_map]
  exact hp
theorem evalArgs_any {f : Value} {pos : Pos} {es : List Expr} {A : Around} {s : Shared} {Q : Args → Shared → Prop} {E : Value → Shared → Prop} (hp : (starEach es env).any (·.1) = false)
    (h : wpAny (model prog w) A (spliced (backTo pos (starEach es env))) (fun vs s' => Q ⟨vs, []⟩ s') E s) : wpAny (model prog w) A (evalArgs f true (backTo pos (starEach es env)) []) Q E s := by
  cases q : starEach es env with
  | nil =>
    rw [q] at h
    unfold evalArgs
    show wpAny (model prog w) A (spliced (backTo pos []) >>= _) Q E s
    refine wpAny_bind (wpAny_mono h (fun vs s' h' => ?_) fun _ _ x => x)
    refine wpAny_holding ?_
    exact wpAny_bind (wpAny_pure (wpAny_bind (wpAny_pure (wpAny_pure h'))))
  | cons x r =>
    rw [q] at h hp
    obtain ⟨b, t⟩ := x
    simp only [List.any_cons, Bool.or_eq_false_iff] at hp
    obtain ⟨hb, _⟩ := hp
    subst hb
    exact evalArgs_plain h

theorem EvE.callF {x np es pos f ds d} (hf : EvF prog w T n env σ μ (.Name x np) f) (hq : Quick prog w T f) (hp : (starEach es env).any (·.1) = false) (ha : EvL prog w T n env σ μ es ds)
    (hc : CallC prog w T n f ds d) : EvE prog w T n env σ μ (.Call (.Name x np) es [] pos) d := fun A s pk k Q E rm S h => by
  refine wpAny_Call_ofName (hf A s pk k _ _ rm S ?_)
  refine callWith_of (P := T) (by show ((backTo pos (starEach es env)).any (·.1) || false) = false; rw [backTo_plain hp]; rfl) hq ?_
  refine evalArgs_any hp (ha A s pk k pos _ _ rm S fun vs k₁ h₁ t₁ u₁ r₁ => ?_)
  have ht := (S.up u₁).topAt
  exact ⟨ht, hc A _ k₁ vs _ _ rm ht u₁.ki r₁ fun v k₂ h₂ t₂ u₂ r₂ => h v k₂ h₂ t₂ (u₁.trans u₂) r₂⟩

theorem Quick.builtin {id : String} : Quick prog w T (.builtin id) := fun _ _ => ⟨.machine, .inr (.inl rfl), Looks.now⟩
theorem Quick.type {id : String} : Quick prog w T (.type id) := fun _ _ => ⟨.machine, .inr (.inl rfl), Looks.now⟩

noncomputable def globOk (env : Env) (x : PySem.Str) : Bool := env.kindOf x == some .globalImplicit && !(x == ("__debug__" : PySem.Str))
theorem globOk_of {env : Env} {x : PySem.Str} (h : globOk env x = true) : env.kindOf x = some .globalImplicit ∧ (x == ("__debug__" : PySem.Str)) = false := by
  simp only [globOk, Bool.and_eq_true, Bool.not_eq_true', beq_iff_eq] at h; exact h
theorem EvF.glob {x pos v} (hl : globOk env x = true)
    (ht : ∀ h, T h → ∃ mg, h.Ns mainGlobals mg ∧ mg x = some v) : EvF prog w T n env σ μ (.Name x pos) v := fun A s pk k Q E rm S h => by
  obtain ⟨mg, a, b⟩ := ht _ S.topAt
  obtain ⟨hl, hd⟩ := globOk_of hl
  exact Name_function_global S.ok.fn hl (loadGlobal_global (env := env) (by rw [S.ok.gl]; exact a) b h) hd
theorem EvF.built {x pos v} (hl : globOk env x = true)
    (ht : ∀ h, T h → ∃ mg mb, h.Ns mainGlobals mg ∧ mg x = Option.none ∧ h.Ns builtinsNs mb ∧ mb x = some v) : EvF prog w T n env σ μ (.Name x pos) v := fun A s pk k Q E rm S h => by
  obtain ⟨mg, mb, a, b, c, d⟩ := ht _ S.topAt
  obtain ⟨hl, hd⟩ := globOk_of hl
  exact Name_function_global S.ok.fn hl (loadGlobal_builtin (env := env) (by rw [S.ok.gl]; exact a) b (by rw [S.ok.bl]; exact c) d h) hd
end
noncomputable def drp (x : PySem.Str) (σ : Sg) : Sg := σ.filter fun p => !(p.1 == x)
theorem mem_drp {x y : PySem.Str} {d : D} {σ : Sg} : (y, d) ∈ drp x σ ↔ (y, d) ∈ σ ∧ y ≠ x := by
  unfold drp
  rw [List.mem_filter]
  simp
theorem drp_fresh {x : PySem.Str} {σ : Sg} (h : (σ.all fun p => !(p.1 == x)) = true) : drp x σ = σ := by
  unfold drp
  rw [List.filter_eq_self]
  exact List.all_eq_true.mp h

noncomputable def storeOkE (env : Env) (x : PySem.Str) : Bool := match env.kindOf x with | some .local => true | some .cell => true | _ => false

section
variable {prog : Program} {w : World} {T : Heap → Prop} {n : Nat} {env : Env} {σ : Sg} {μ : List (Addr × List D)}

theorem KIn.same {k : Kn} {h h' : Heap} {a : Addr} {t t' : Nat} (i : KIn k h t) (na : k.m a = Option.none) (s : Heap.SameBut a h h') (z : t ≤ t') : KIn k h' t' := ⟨fun b o e =>
  (s.2 b (fun q => by subst q; rw [na] at e; cases e)).trans (i.at b o e), i.one, Nat.le_trans i.tk z⟩
theorem PIn.same {k : Pk} {h h' : Heap} {a : Addr} (i : PIn k h) (na : k a = Option.none) (s : Heap.SameBut a h h') : PIn k h' := fun b o e =>
  (s.2 b (fun q => by subst q; rw [na] at e; cases e)).trans (i b o e)

theorem store_any2 {x : PySem.Str} {d : D} {v : Value} {pk : Pk} {k : Kn} {A : Around} {s : Shared} {Q : Unit → Shared → Prop} {E : Value → Shared → Prop} (hx : storeOkE env x = true) (S : St T pk k env s.heap s.toks σ μ) (r : Rd k d v)
    (h : ∀ h' tk, St T pk k env h' tk ((x, d) :: drp x σ) μ → (∀ C m, s.heap.Ns C m → (C ≠ env.locals ∧ ∀ y c, env.cells.lookup y = some c → c ≠ C) → h'.Ns C m) → Q () { s with heap := h', toks := tk }) : wpAny (model prog w) A (storeName env x v) Q E s := by
  obtain ⟨m, hn, hm⟩ := id S.ns
  unfold storeOkE at hx
  split at hx
  · rename_i hl
    refine wpAny_storeName_local hl hn (fun h' hn' hs => h h' _ ?_ (fun C m hm hC => hm.sameBut hs hC.1)) (by rw [S.ok.fn]; rfl)
    refine ⟨S.ok, S.top, S.kb.same S.hL.2 hs, S.kh.same S.hL.1 hs (Nat.le_succ _), ⟨_, hn', fun y d' hy hd => ?_⟩, fun y c hc => ?_, S.hL, S.hC, S.dC, fun p hp => ?_⟩
    · rcases List.mem_cons.mp hd with q | q
      · cases q
        exact ⟨v, by simp, r⟩
      · obtain ⟨q, ne⟩ := mem_drp.mp q
        obtain ⟨v', e, r'⟩ := hm y d' hy q
        exact ⟨v', by simpa [ne] using e, r'⟩
    · obtain ⟨v', i, r'⟩ := S.cl y c hc
      refine ⟨v', i.sameBut hs (S.hC y c hc).2.2, fun d' hd => ?_⟩
      rcases List.mem_cons.mp hd with q | q
      · cases q
        have := S.ok.c2 _ _ hc
        rw [hl] at this
        rcases this with q | q <;> cases q
      · exact r' d' (mem_drp.mp q).1
    · obtain ⟨a, b, c, d', l⟩ := S.mu p hp
      exact ⟨a, b, c, d', l.keep (fun o e => (hs.2 _ c).trans e) (KLe.refl _)⟩
  · rename_i hl
    obtain ⟨c, hc⟩ := S.ok.c1 x (.inl hl)
    obtain ⟨v₀, i₀, _⟩ := S.cl x c hc
    refine wpAny_storeName_cell S.ok.fn hl hc i₀ fun h' hi hs => h h' _ ?_ (fun C m hm hC => hm.sameBut hs (Ne.symm (hC.2 x c hc)))
    have hcc := S.hC x c hc
    refine ⟨S.ok, S.top, S.kb.same hcc.2.1 hs, S.kh.same hcc.1 hs (Nat.le_refl _), ⟨m, hn.sameBut hs (Ne.symm hcc.2.2), fun y d' hy hd => ?_⟩, fun y c' hc' => ?_, S.hL, S.hC, S.dC, fun p hp => ?_⟩
    · rcases List.mem_cons.mp hd with q | q
      · cases q
        rw [hl] at hy; cases hy
      · exact hm y d' hy (mem_drp.mp q).1
    · by_cases q : y = x
      · subst q
        rw [hc] at hc'; cases hc'
        refine ⟨_, hi, fun d' hd => ?_⟩
        rcases List.mem_cons.mp hd with q | q
        · cases q
          exact ⟨v, rfl, r⟩
        · exact absurd rfl (mem_drp.mp q).2
      · obtain ⟨v', i', r'⟩ := S.cl y c' hc'
        refine ⟨v', i'.sameBut hs (fun e => q (S.dC y x c' hc' (e ▸ hc))), fun d' hd => ?_⟩
        rcases List.mem_cons.mp hd with q' | q'
        · cases q'; exact absurd rfl q
        · exact r' d' (mem_drp.mp q').1
    · obtain ⟨a, b, c', d', l⟩ := S.mu p hp
      exact ⟨a, b, c', d', l.keep (fun o e => (hs.2 _ (d' x c hc)).trans e) (KLe.refl _)⟩
  · cases hx

theorem store_any {x : PySem.Str} {d : D} {v : Value} {pk : Pk} {k : Kn} {A : Around} {s : Shared} {Q : Unit → Shared → Prop} {E : Value → Shared → Prop} (hx : storeOkE env x = true) (S : St T pk k env s.heap s.toks σ μ) (r : Rd k d v)
    (h : ∀ h' tk, St T pk k env h' tk ((x, d) :: drp x σ) μ → Q () { s with heap := h', toks := tk }) : wpAny (model prog w) A (storeName env x v) Q E s := store_any2 hx S r fun h' tk S' _ => h h' tk S'

/-- the end of a piece -/
theorem endU {pk : Pk} {k k' : Kn} {h h' : Heap} {t t' : Nat} {σ' : Sg} {μ' : List (Addr × List D)} (S : St T pk k env h t σ μ) (u : Up k h k' h' t') : KLe k k' ∧ (∀ b ob, k'.m b = some ob → k.m b = some ob ∨ pk b = Option.none) :=
  ⟨u.kl, fun b ob e => (u.kn b ob e).imp_right fun q => by
    cases z : pk b with
    | none => rfl
    | some o => rw [S.kb _ _ z] at q; cases q⟩

theorem ExL.nil : ExL prog w T n env σ μ [] (.next σ μ) := fun A s pk k Q E rm S h =>
  wpAny_execs_nil (h .next k s.heap s.toks (KLe.refl k) (fun _ _ e => .inl e) ⟨rfl, S⟩)
theorem ExL.cons {st rest σ₁ μ₁ o} (h₁ : ExS prog w T n env σ μ st (.next σ₁ μ₁)) (h₂ : ExL prog w T n env σ₁ μ₁ rest o) : ExL prog w T n env σ μ (st :: rest) o :=
  fun A s pk k Q E rm S h => wpAny_execs_cons (h₁ A s pk k _ _ rm S fun f k₁ h₁ t₁ l₁ n₁ o₁ => by
    obtain ⟨rfl, S₁⟩ := o₁
    exact h₂ A _ pk k₁ _ _ rm S₁ fun f k₂ h₂ t₂ l₂ n₂ o₂ => h f k₂ h₂ t₂ (l₁.trans l₂) (fun b ob e => (n₂ b ob e).elim (n₁ b ob) .inr) o₂)
theorem ExL.consR {st rest d} (h₁ : ExS prog w T n env σ μ st (.ret d)) : ExL prog w T n env σ μ (st :: rest) (.ret d) :=
  fun A s pk k Q E rm S h => wpAny_execs_cons (h₁ A s pk k _ _ rm S fun f k₁ h₁ t₁ l₁ n₁ o₁ => by
    obtain ⟨v, rfl, o₁⟩ := o₁
    exact h _ k₁ h₁ t₁ l₁ n₁ ⟨v, rfl, o₁⟩)
theorem ExL.consB {st rest σ₁ μ₁} (h₁ : ExS prog w T n env σ μ st (.brk σ₁ μ₁)) : ExL prog w T n env σ μ (st :: rest) (.brk σ₁ μ₁) :=
  fun A s pk k Q E rm S h => wpAny_execs_cons (h₁ A s pk k _ _ rm S fun f k₁ h₁ t₁ l₁ n₁ o₁ => by
    obtain ⟨rfl, o₁⟩ := o₁
    exact h _ k₁ h₁ t₁ l₁ n₁ ⟨rfl, o₁⟩)
/-- fewer claims first -/
theorem ExTree.less {t σ' o} (l : ∀ p ∈ σ', p ∈ σ) (h₁ : ExTree prog w T n env σ' μ t o) : ExTree prog w T n env σ μ t o :=
  fun A s pk k Q E rm S h => h₁ A s pk k Q E rm (S.less l) h
theorem ExTree.post {t σ₁ σ₂ μ₁} (l : ∀ p ∈ σ₂, p ∈ σ₁) (h₁ : ExTree prog w T n env σ μ t (.next σ₁ μ₁)) : ExTree prog w T n env σ μ t (.next σ₂ μ₁) :=
  fun A s pk k Q E rm S h => h₁ A s pk k Q E rm S fun f k' h' tk a b o => h f k' h' tk a b ⟨o.1, o.2.less l⟩
theorem ExTree.eqO {t o o'} (h₁ : ExTree prog w T n env σ μ t o) (e : o = o') : ExTree prog w T n env σ μ t o' := e ▸ h₁

theorem ExS.asg {x p v pos d} (hx : storeOkE env x = true) (hs : swapsWith v (some (.Name x p)) pos.line env = pure false) (hv : EvE prog w T n env σ μ v d) :
    ExS prog w T n env σ μ (.Assign [.Name x p] v pos) (.next ((x, d) :: drp x σ) μ) := fun A s pk k Q E rm S h =>
  wpAny_Assign_Name (hv A s pk k _ _ rm S fun v k₁ h₁ t₁ u₁ r₁ => store_any hx (S.up u₁) r₁ fun h' tk S' => by
    obtain ⟨a, b⟩ := endU (σ' := σ) (μ' := μ) S u₁
    exact h .next k₁ h' tk a b ⟨rfl, S'⟩) hs
/-- a name that was not held -/
theorem ExS.asgN {x p v pos d} (hx : storeOkE env x = true) (hs : swapsWith v (some (.Name x p)) pos.line env = pure false) (hf : (σ.all fun p => !(p.1 == x)) = true) (hv : EvE prog w T n env σ μ v d) :
    ExS prog w T n env σ μ (.Assign [.Name x p] v pos) (.next ((x, d) :: σ) μ) := by
  have := ExS.asg hx hs hv
  rwa [drp_fresh hf] at this
theorem ExS.ret {e pos d} (hv : EvE prog w T n env σ μ e d) : ExS prog w T n env σ μ (.Return (some e) pos) (.ret d) := fun A s pk k Q E rm S h =>
  wpAny_Return_some (hv A s pk k _ _ rm S fun v k₁ h₁ t₁ u₁ r₁ => by
    obtain ⟨a, b⟩ := endU (σ' := σ) (μ' := μ) S u₁
    exact h (.ret v) k₁ h₁ t₁ a b ⟨v, rfl, r₁, u₁.ki, S.kb.le u₁.le⟩)
theorem ExS.brk {pos} : ExS prog w T n env σ μ (.Break pos) (.brk σ μ) := fun A s pk k Q E rm S h =>
  wpAny_Break (h .brk k s.heap s.toks (KLe.refl k) (fun _ _ e => .inl e) ⟨rfl, S⟩)
theorem outMono {pk : Pk} {k k₁ k₂ : Kn} {b : Addr} {ob : Obj} (n₁ : ∀ b ob, k₁.m b = some ob → k.m b = some ob ∨ pk b = Option.none) (n₂ : ∀ b ob, k₂.m b = some ob → k₁.m b = some ob ∨ pk b = Option.none)
    (e : k₂.m b = some ob) : k.m b = some ob ∨ pk b = Option.none := (n₂ b ob e).elim (n₁ b ob) .inr
theorem ExS.ifs {t a b pos c o} (ht : EvT prog w T n env σ μ t c) (ha : c = true → ExL prog w T n env σ μ a o) (hb : c = false → ExL prog w T n env σ μ b o) : ExS prog w T n env σ μ (.If t a b pos) o :=
  fun A s pk k Q E rm S h => wpAny_If (ht A s pk k _ _ rm S fun k₁ h₁ t₁ u₁ => by
    obtain ⟨l₁, n₁⟩ := endU (σ' := σ) (μ' := μ) S u₁
    cases c with
    | true => exact ha rfl A _ pk k₁ _ _ rm (S.up u₁) fun f k₂ h₂ t₂ l₂ n₂ o₂ => h f k₂ h₂ t₂ (l₁.trans l₂) (fun _ _ => outMono n₁ n₂) o₂
    | false => exact hb rfl A _ pk k₁ _ _ rm (S.up u₁) fun f k₂ h₂ t₂ l₂ n₂ o₂ => h f k₂ h₂ t₂ (l₁.trans l₂) (fun _ _ => outMono n₁ n₂) o₂)
theorem ExS.ifT {t a b pos o} (ht : EvT prog w T n env σ μ t true) (ha : ExL prog w T n env σ μ a o) : ExS prog w T n env σ μ (.If t a b pos) o := ExS.ifs ht (fun _ => ha) (fun e => nomatch e)
theorem ExS.ifF {t a b pos o} (ht : EvT prog w T n env σ μ t false) (hb : ExL prog w T n env σ μ b o) : ExS prog w T n env σ μ (.If t a b pos) o := ExS.ifs ht (fun e => nomatch e) (fun _ => hb)
end

-- entering a def
section
variable {prog : Program} {w : World} {T : Heap → Prop} {n : Nat}

theorem bindL_old {kindOf : PySem.Str → Option NameKind} {x : PySem.Str} : ∀ {binds : List (PySem.Str × Value)} {m : PySem.Str → Option Value}, x ∉ binds.map (·.1) → bindL kindOf binds m x = m x
  | [], _, _ => rfl
  | (y, v) :: r, m, h => by
    simp only [List.map_cons, List.mem_cons, not_or] at h
    unfold bindL
    rw [bindL_old h.2]
    split
    · simp [h.1]
    · rfl
theorem bindL_get {kindOf : PySem.Str → Option NameKind} {x : PySem.Str} {v : Value} (hk : kindOf x = some .local) : ∀ {binds : List (PySem.Str × Value)} {m : PySem.Str → Option Value}, (binds.map (·.1)).Nodup → (x, v) ∈ binds → bindL kindOf binds m x = some v
  | (y, u) :: r, m, hn, h => by
    simp only [List.map_cons, List.nodup_cons] at hn
    unfold bindL
    rcases List.mem_cons.mp h with e | e
    · cases e
      rw [bindL_old hn.1, if_pos hk]; simp
    · exact bindL_get hk hn.2 e
theorem bindC_old {kindOf : PySem.Str → Option NameKind} {x : PySem.Str} : ∀ {binds : List (PySem.Str × Value)} {m : PySem.Str → Option Value}, x ∉ binds.map (·.1) → bindC kindOf binds m x = m x
  | [], _, _ => rfl
  | (y, v) :: r, m, h => by
    simp only [List.map_cons, List.mem_cons, not_or] at h
    unfold bindC
    rw [bindC_old h.2]
    split
    · rfl
    · simp [h.1]
theorem bindC_get {kindOf : PySem.Str → Option NameKind} {x : PySem.Str} {v : Value} (hk : kindOf x ≠ some .local) : ∀ {binds : List (PySem.Str × Value)} {m : PySem.Str → Option Value}, (binds.map (·.1)).Nodup → (x, v) ∈ binds → bindC kindOf binds m x = some v
  | (y, u) :: r, m, hn, h => by
    simp only [List.map_cons, List.nodup_cons] at hn
    unfold bindC
    rcases List.mem_cons.mp h with e | e
    · cases e
      rw [bindC_old hn.1, if_neg hk]; simp
    · exact bindC_get hk hn.2 e
theorem RdL.zip {k : Kn} {x : PySem.Str} {d : D} : ∀ {ps : List PySem.Str} {ds : List D} {vs : List Value}, RdL k ds vs → (x, d) ∈ ps.zip ds → ∃ v, (x, v) ∈ ps.zip vs ∧ Rd k d v
  | [], _, _, _, h => by simp at h
  | p :: ps, [], _, _, h => by simp at h
  | p :: ps, d' :: ds, vs, hr, h => by
    unfold RdL at hr
    obtain ⟨v, r, rfl, a, b⟩ := hr
    simp only [List.zip_cons_cons, List.mem_cons] at h
    rcases h with e | e
    · cases e; exact ⟨v, by simp, a⟩
    · obtain ⟨v', q, z⟩ := RdL.zip b e
      exact ⟨v', by simp [q], z⟩

theorem cellsFrom_none {x : PySem.Str} : ∀ (names : List (PySem.Str × NameKind)) (n : Nat) (acc : List (PySem.Str × Addr)), (x, NameKind.cell) ∉ names → acc.lookup x = Option.none → (cellsFrom n names acc).lookup x = Option.none
  | [], _, _, _, h => h
  | (y, k) :: r, n, acc, hn, h => by
    simp only [List.mem_cons, not_or] at hn
    unfold cellsFrom
    by_cases hk : (k == .cell) = true
    · rw [if_pos hk]
      refine cellsFrom_none r (n + 1) _ hn.2 ?_
      rw [List.lookup_cons]
      have : (x == y) = false := by
        cases q : x == y with
        | false => rfl
        | true =>
          have q' := beq_iff_eq.mp q
          have k' : k = .cell := by cases k <;> first | rfl | cases hk
          exact absurd (by rw [q', k']) hn.1
      rw [this]; exact h
    · rw [if_neg hk]
      exact cellsFrom_none r n acc hn.2 h
theorem lookup_of_nodup {α : Type} {x : PySem.Str} {v : α} : ∀ {l : List (PySem.Str × α)}, (l.map (·.1)).Nodup → (x, v) ∈ l → l.lookup x = some v
  | (y, u) :: r, hn, h => by
    simp only [List.map_cons, List.nodup_cons] at hn
    rw [List.lookup_cons]
    rcases List.mem_cons.mp h with e | e
    · cases e; simp
    · have : (x == y) = false := by
        cases q : x == y with
        | false => rfl
        | true => exact absurd (by rw [← beq_iff_eq.mp q]; exact List.mem_map.mpr ⟨_, e, rfl⟩) hn.1
      rw [this]; exact lookup_of_nodup hn.2 e

/-- what is asked of a def's scope: closed facts -/
noncomputable def scopeOk (fd : FuncData) (ps : List PySem.Str) : Bool :=
  fd.scope.kind == .function && !fd.scope.isCoroutine && !fd.scope.isGenerator && decide ((fd.scope.names.map (·.1)).Nodup) && fd.scope.names.all (fun p => !(p.2 == .free)) &&
  fd.closure.isEmpty && fd.globals == mainGlobals && fd.builtins == builtinsNs && decide ps.Nodup && ps.all (fun x => fd.scope.names.lookup x == some .local || fd.scope.names.lookup x == some .cell)

theorem FnC.of {f : Addr} {oc : Value} {od : Option Addr} {osl : Array (Option Value)} {fd : FuncData} {body : List Stmt} {ds : List D} {d : D} (ps : List PySem.Str) (hTle : TLe T)
    (hT : ∀ h, T h → h.get? f = some ⟨oc, od, .func fd, osl⟩ ∧ h.NoLimit ∧ h.CodeRec fd.code fd.qualname) (hbody : fd.body = .stmts body) (hok : scopeOk fd ps = true) (hlen : ps.length = ds.length)
    (hb : ∀ vs, vs.length = ps.length → bindArgs fd ⟨vs, []⟩ = pure (ps.zip vs)) (hx : ∀ L, ExL prog w T n (callEnvC fd L f) (ps.zip ds) [] body (.ret d)) : FnC prog w T (n + 1) f ds d := by
  intro A s k vs R rm ht ki r hR
  simp only [scopeOk, Bool.and_eq_true, beq_iff_eq, decide_eq_true_eq, Bool.not_eq_true', List.isEmpty_iff] at hok
  obtain ⟨⟨⟨⟨⟨⟨⟨⟨⟨hk, hco⟩, hgen⟩, hnd⟩, hfree⟩, hclo⟩, hgl⟩, hbl⟩, hpn⟩, hpk⟩ := hok
  obtain ⟨ho, hlim, hcd⟩ := hT _ ht
  have hvs : vs.length = ps.length := by rw [r.length, hlen]
  have hfst : (ps.zip vs).map (·.1) = ps := by rw [List.map_fst_zip]; omega
  have hpk' := List.all_eq_true.mp hpk
  have kinds : ∀ x ∈ ps, fd.scope.names.lookup x = some .local ∨ fd.scope.names.lookup x = some .cell := fun x hx => by
    have := hpk' x hx
    simpa using this
  refine codeAny_call_function (by have := rm.2.1; omega) ho rfl hco hgen hbody hcd ?_
  rw [hb vs hvs, hclo]
  refine wpAny_pure (wpAny_with_toks (n := s.toks) (Nat.le_refl _) (wpAny_newFunctionEnv_cells hk (fun x hx => ?_) fun env' he s' x htk => ?_))
  · have hx' : x.1 ∈ ps := hfst ▸ List.mem_map.mpr ⟨x, hx, rfl⟩
    refine (kinds _ hx').imp_right fun e => ⟨e, ?_⟩
    exact cellsFrom_some _ _ _ (.inl e)
  · have henv : env' = callEnvC fd s.heap.objs.size f := he
    clear he
    subst henv
    refine ⟨hlim.keeps x.toInCall.keep, codeAny_func ?_⟩
    obtain ⟨h₁, tk, rfl, hk₁⟩ := x.done
    have cells_eq : ∀ y c, (callEnvC fd s.heap.objs.size f).cells.lookup y = some c → (callEnvC fd s.heap.objs.size f).kindOf y = some .cell := fun y c hc => by
      by_cases q : (y, NameKind.cell) ∈ fd.scope.names
      · exact lookup_of_nodup hnd q
      · have := cellsFrom_none fd.scope.names (s.heap.objs.size + 1) [] q rfl
        have hc' : (cellsFrom (s.heap.objs.size + 1) fd.scope.names []).lookup y = some c := hc
        rw [this] at hc'; cases hc'
    have okE : EnvOk (callEnvC fd s.heap.objs.size f) := by
      refine ⟨hk, fun y hy => ?_, fun y c hc => .inl (cells_eq y c hc), hgl, hbl⟩
      rcases hy with hy | hy
      · exact Option.isSome_iff_exists.mp (cellsFrom_some _ _ _ (.inl hy))
      · have hm := mem_of_lookup (hy : fd.scope.names.lookup y = some .free)
        have := List.all_eq_true.mp hfree _ hm
        simp at this
    have lt_of : ∀ y c, (callEnvC fd s.heap.objs.size f).cells.lookup y = some c → s.heap.objs.size < c := fun y c hc => x.above y c (mem_of_lookup hc)
    have nok : ∀ c, s.heap.objs.size ≤ c → s.heap.get? c = Option.none := fun c hc => by
      cases q : s.heap.get? c with
      | none => rfl
      | some o => exact absurd (Heap.lt_size q) (Nat.not_lt.mpr hc)
    have nokk : ∀ c, s.heap.objs.size ≤ c → k.m c = Option.none := fun c hc => by
      cases q : k.m c with
      | none => rfl
      | some o => have := nok c hc; rw [ki.at _ _ q] at this; cases this
    have S₀ : St T (fun b => s.heap.get? b) k (callEnvC fd s.heap.objs.size f) h₁ tk (ps.zip ds) [] := by
      refine ⟨okE, fun g hg => hTle _ _ hg ht, hk₁, ki.le hk₁ htk, ⟨_, x.toInCall.ns, fun y d' hy hd => ?_⟩, fun y c hc => ?_, ⟨nokk _ (Nat.le_refl _), nok _ (Nat.le_refl _)⟩, fun y c hc => ?_, fun y z c hy hz => ?_, fun p hp => nomatch hp⟩
      · obtain ⟨v, hv, rv⟩ := r.zip hd
        exact ⟨v, bindL_get hy (hfst.symm ▸ hpn) hv, rv⟩
      · refine ⟨_, x.cell y c hc, fun d' hd => ?_⟩
        obtain ⟨v, hv, rv⟩ := r.zip hd
        refine ⟨v, bindC_get ?_ (hfst.symm ▸ hpn) hv, rv⟩
        have := cells_eq y c hc
        rw [this]; decide
      · have := lt_of y c hc
        exact ⟨nokk c (Nat.le_of_lt this), nok c (Nat.le_of_lt this), Nat.ne_of_gt this⟩
      · exact name_of_addr x.apart (mem_of_lookup hy) (mem_of_lookup hz)
    refine hx _ _ _ _ k _ _ rm.deeper S₀ fun fl k' h' tk' kl kn ot => ?_
    obtain ⟨v, rfl, rv, ki', pi⟩ := ot
    exact hR v k' h' tk' ⟨kl, ki', kn, pi⟩ rv
end
section
variable {prog : Program} {w : World} {T : Heap → Prop} {n : Nat} {env : Env} {σ : Sg} {μ : List (Addr × List D)}

noncomputable def Own (env : Env) (μ : List (Addr × List D)) (b : Addr) : Prop := b = env.locals ∨ (∃ x, env.cells.lookup x = some b) ∨ ∃ p ∈ μ, p.1 = b
theorem St.own {pk k h tk b} (S : St T pk k env h tk σ μ) (o : Own env μ b) : pk b = Option.none ∧ k.m b = Option.none ∧ ∃ ob, h.get? b = some ob := by
  rcases o with rfl | ⟨x, hx⟩ | ⟨p, hp, rfl⟩
  · obtain ⟨m, ⟨o, _, _, g, _⟩, _⟩ := S.ns
    exact ⟨S.hL.2, S.hL.1, o, g⟩
  · obtain ⟨v, ⟨o, g, _⟩, _⟩ := S.cl x b hx
    exact ⟨(S.hC x b hx).2.1, (S.hC x b hx).1, o, g⟩
  · obtain ⟨a, b, c, d, l⟩ := S.mu p hp
    exact ⟨b, a, l.obj⟩
theorem St.change {pk₁ pk₂ k h h' t t'} (S : St T pk₁ k env h t σ μ) (top₂ : ∀ g, PIn pk₂ g → T g) (kb₂ : PIn pk₂ h') (hn : ∀ b, Own env μ b → pk₂ b = Option.none)
    (keep : ∀ b o, (Own env μ b ∨ k.m b = some o) → h.get? b = some o → h'.get? b = some o) (ht : t ≤ t') : St T pk₂ k env h' t' σ μ where
  ok := S.ok
  top := top₂
  kb := kb₂
  kh := ⟨fun b o e => keep b o (.inr e) (S.kh.at b o e), S.kh.one, Nat.le_trans S.kh.tk ht⟩
  ns := let ⟨m, a, r⟩ := S.ns; ⟨m, a.at' fun o e => keep _ o (.inl (.inl rfl)) e, r⟩
  cl := fun x c e => let ⟨v, ⟨o, a, b⟩, r⟩ := S.cl x c e; ⟨v, ⟨o, keep _ o (.inl (.inr (.inl ⟨x, e⟩))) a, b⟩, r⟩
  hL := ⟨S.hL.1, hn _ (.inl rfl)⟩
  hC := fun x c e => ⟨(S.hC x c e).1, hn _ (.inr (.inl ⟨x, e⟩)), (S.hC x c e).2.2⟩
  dC := S.dC
  mu := fun p hp => by
    obtain ⟨a, b, c, d, l⟩ := S.mu p hp
    exact ⟨a, hn _ (.inr (.inr ⟨p, hp, rfl⟩)), c, d, l.keep (fun o e => keep _ _ (.inl (.inr (.inr ⟨p, hp, rfl⟩))) e) (KLe.refl _)⟩

/-- an iterator that walks the items ds -/
noncomputable def ItOk (prog : Program) (w : World) (A : Around) (h₀ : Heap) (k : Kn) (h : Heap) (ds : List D) (it : Value) : Prop :=
  ∃ (I : Addr) (fp wr : List Addr) (P : Nat → Value → Prop) (Sx : Nat → Heap → Prop), it = .ref I ∧ Walks prog w A I fp wr ds.length P Sx ∧ Sx 0 h ∧ (∀ b ∈ wr, k.m b = Option.none ∧ h₀.get? b = Option.none) ∧
    (∀ b ∈ fp, (∃ o, k.m b = some o) ∨ h₀.get? b = Option.none) ∧ (∀ i g, Sx i g → ∀ b ∈ fp, ∃ o, g.get? b = some o) ∧ (∀ i d v, ds[i]? = some d → P i v → Rd k d v)
noncomputable def EvI (prog : Program) (w : World) (T : Heap → Prop) (n : Nat) (env : Env) (σ : Sg) (μ : List (Addr × List D)) (iter : Expr) (ds : List D) : Prop :=
  ∀ (A : Around) (s : Shared) (pk : Pk) (k : Kn) (Q : Value → Shared → Prop) (E : Value → Shared → Prop), Rm n A → St T pk k env s.heap s.toks σ μ →
    (∀ it k' h' tk, Up k s.heap k' h' tk → ItOk prog w A s.heap k' h' ds it → Q it { s with heap := h', toks := tk }) →
    wpAny (model prog w) A (eval iter env) (fun xv s₁ => wpAny (model prog w) A (pyIter xv) Q E s₁) E s

theorem EvI.list {iter ds} (h : EvE prog w T n env σ μ iter (.list ds)) : EvI prog w T n env σ μ iter ds := fun A s pk k Q E rm S hq =>
  h A s pk k _ _ rm S fun v k₁ h₁ t₁ u₁ r₁ => by
    unfold Rd at r₁
    obtain ⟨a, vs, rfl, l, r⟩ := r₁
    refine wpAny_pyIter_list (l.at u₁.ki) ?_
    obtain ⟨o, ka, _⟩ := id l
    have hne : a ≠ h₁.objs.size := fun e => by rw [e, u₁.ki.size] at ka; cases ka
    have hlen : vs.toArray.size = ds.length := by rw [List.size_toArray, r.length]
    refine hq _ k₁ _ _ ⟨u₁.kl, u₁.ki.le (Le.push _ _) (Nat.le_refl _), u₁.kn, u₁.le.trans (Le.push _ _)⟩
      ⟨h₁.objs.size, [h₁.objs.size, a], [h₁.objs.size], _, _, rfl, hlen ▸ Walks.list rm.1 h₁.objs.size a hne vs.toArray, ⟨⟨_, Heap.get?_push_size _ rfl, rfl, rfl⟩, (l.at u₁.ki).push _⟩, ?_, ?_, ?_, ?_⟩
    · intro b hb
      rw [List.mem_singleton.mp hb]
      exact ⟨u₁.ki.size, u₁.le.none (get_size h₁)⟩
    · intro b hb
      rcases List.mem_cons.mp hb with e | hb
      · rw [e]; exact .inr (u₁.le.none (get_size h₁))
      · rw [List.mem_singleton.mp hb]; exact .inl ⟨o, ka⟩
    · rintro i g ⟨⟨o₁, g₁, _⟩, ⟨o₂, g₂, _⟩⟩ b hb
      rcases List.mem_cons.mp hb with e | hb
      · rw [e]; exact ⟨o₁, g₁⟩
      · rw [List.mem_singleton.mp hb]; exact ⟨o₂, g₂⟩
    · intro i d v hd hP
      obtain ⟨v', e, q⟩ := r.get hd
      have hP' : vs[i]? = some v := by simpa using hP
      rw [e] at hP'; cases hP'
      exact q

open Classical in
noncomputable def plus (fp : List Addr) (h : Heap) (pk : Pk) : Pk := fun b => if b ∈ fp then h.get? b else pk b
theorem plus_in {fp h pk b} (hb : b ∈ fp) : plus fp h pk b = h.get? b := by unfold plus; rw [if_pos hb]
theorem plus_out {fp h pk b} (hb : b ∉ fp) : plus fp h pk b = pk b := by unfold plus; rw [if_neg hb]
theorem plus_kin {fp h pk} (i : PIn pk h) : PIn (plus fp h pk) h := fun b o e => by
  by_cases hb : b ∈ fp
  · rwa [plus_in hb] at e
  · rw [plus_out hb] at e; exact i _ _ e
theorem plus_top {fp h pk} (i : PIn pk h) (t : ∀ g, PIn pk g → T g) : ∀ g, PIn (plus fp h pk) g → T g := fun g hg => t g fun b o e => hg b o (by
  by_cases hb : b ∈ fp
  · rw [plus_in hb]; exact i _ _ e
  · rw [plus_out hb]; exact e)
theorem plus_same {fp : List Addr} {h h' : Heap} {pk : Pk} (e : ∀ b ∈ fp, h.get? b = h'.get? b) : plus fp h pk = plus fp h' pk := by
  funext b
  by_cases hb : b ∈ fp
  · rw [plus_in hb, plus_in hb, e b hb]
  · rw [plus_out hb, plus_out hb]

/-- what happens at the turns: go on, or break behind item j -/
theorem ExS.forG {x px iter body pos ds} (Sq : Nat → Sg) (Mq : Nat → List (Addr × List D)) (j : Nat) (bk : Bool) (hx : storeOkE env x = true) (hi : EvI prog w T n env σ μ iter ds) (h0 : Sq 0 = σ) (m0 : Mq 0 = μ)
    (hj : if bk = true then j < ds.length else j = ds.length)
    (hb : ∀ i d, i < j → ds[i]? = some d → ExL prog w T n env ((x, d) :: drp x (Sq i)) (Mq i) body (.next (Sq (i + 1)) (Mq (i + 1))))
    (hbk : bk = true → ∀ d, ds[j]? = some d → ExL prog w T n env ((x, d) :: drp x (Sq j)) (Mq j) body (.brk (Sq (j + 1)) (Mq (j + 1))))
    (hs : ∀ x, foldedSetIterable iter env x = pure x) :
    ExS prog w T n env σ μ (.For (.Name x px) iter body [] pos) (.next (Sq (if bk = true then j + 1 else j)) (Mq (if bk = true then j + 1 else j))) := fun A s pk k Q E rm S hq => by
  subst h0 m0
  refine wpAny_For (hi A s pk k _ _ rm S fun it k₀ h₀ t₀ u₀ io => ?_) hs
  obtain ⟨I, fp, wr, P, Sx, rfl, W, sx, hwr, hfp, alive, hP⟩ := io
  have S₀ := S.up u₀
  have own0 : ∀ b, Own env (Mq 0) b → b ∉ fp := fun b o hb => by
    obtain ⟨a, c, d⟩ := S.own o
    rcases hfp b hb with ⟨o', e⟩ | e
    · rw [(S₀.own o).2.1] at e; cases e
    · obtain ⟨ob, g⟩ := d; rw [e] at g; cases g
  have pkwr : ∀ b ∈ wr, pk b = Option.none := fun b hb => by
    cases q : pk b with
    | none => rfl
    | some o => have := S.kb _ _ q; rw [(hwr b hb).2] at this; cases this
  have SP : St T (plus fp h₀ pk) k₀ env h₀ t₀ (Sq 0) (Mq 0) := S₀.change (plus_top S₀.kb S₀.top) (plus_kin S₀.kb) (fun b o => by rw [plus_out (own0 b o)]; exact (S₀.own o).1) (fun _ _ _ e => e) (Nat.le_refl _)
  obtain ⟨ea, eb⟩ := endU (σ' := Sq 0) (μ' := Mq 0) S u₀
  refine codeAny_forLoop
    (fun f s' => ∃ i k' h' tk, s' = { s with heap := h', toks := tk } ∧ i ≤ j ∧ f = ds.length + 1 - i ∧ St T (plus fp h' pk) k' env h' tk (Sq i) (Mq i) ∧ PIn pk h' ∧ Sx i h' ∧ KLe k₀ k' ∧ (∀ b ∈ wr, k'.m b = Option.none) ∧
      (∀ b ob, k'.m b = some ob → k₀.m b = some ob ∨ pk b = Option.none)) ?_ (ds.length + 1)
    ⟨0, k₀, h₀, t₀, rfl, Nat.zero_le _, rfl, SP, S₀.kb, sx, KLe.refl _, fun b hb => (hwr b hb).1, fun _ _ e => .inl e⟩
  rintro f s' ⟨i, k', h', tk, rfl, hij, rfl, Si, pi, sxi, kl, kwr, kn⟩
  have ownI : ∀ b, Own env (Mq i) b → b ∉ fp ∧ pk b = Option.none := fun b o => by
    obtain ⟨a, _, _⟩ := Si.own o
    by_cases hb : b ∈ fp
    · rw [plus_in hb] at a
      obtain ⟨ob, g⟩ := alive _ _ sxi b hb
      rw [g] at a; cases a
    · rw [plus_out hb] at a; exact ⟨hb, a⟩
  by_cases hlt : i < ds.length
  · refine wpAny_with_toks (n := tk) (Nat.le_refl _) (W.item i _ _ _ hlt sxi fun v h₁ tk₁ hPv sx₁ keep htk => ?_)
    have pi₁ : PIn pk h₁ := fun b o e => keep b o (fun q => by rw [pkwr b q] at e; cases e) (pi _ _ e)
    have S₁ : St T (plus fp h₁ pk) k' env h₁ tk₁ (Sq i) (Mq i) := Si.change (plus_top pi₁ S.top) (plus_kin pi₁) (fun b o => by rw [plus_out (ownI b o).1]; exact (ownI b o).2)
      (fun b o ob e => keep b o (fun q => by
        rcases ob with ob | ob
        · exact (ownI b ob).1 (W.sub b q)
        · rw [kwr b q] at ob; cases ob) e) htk
    have rd : Rd k' ds[i] v := (hP i ds[i] v (by simp [hlt]) hPv).le kl
    have hget : ds[i]? = some ds[i] := by simp [hlt]
    have hex₁ := alive _ _ sx₁
    refine wpAny_assign_Name (store_any hx S₁ rd fun h₂ tk₂ S₂ => ?_)
    have fin : ∀ {k₂ : Kn} {h₃ : Heap} {t₃ : Nat} {σ' : Sg} {μ' : List (Addr × List D)}, (∀ b ob, k₂.m b = some ob → k'.m b = some ob ∨ plus fp h₁ pk b = Option.none) → St T (plus fp h₁ pk) k₂ env h₃ t₃ σ' μ' → KLe k' k₂ →
        plus fp h₃ pk = plus fp h₁ pk ∧ PIn pk h₃ ∧ Sx (i + 1) h₃ ∧ (∀ b ∈ wr, k₂.m b = Option.none) ∧ (∀ b ob, k₂.m b = some ob → k₀.m b = some ob ∨ pk b = Option.none) := fun {k₂ h₃ t₃ σ' μ'} n₂ S₃ l₂ => by
      have same : ∀ b ∈ fp, ∀ o, h₁.get? b = some o → h₃.get? b = some o := fun b hb o e => S₃.kb b o (by rw [plus_in hb]; exact e)
      refine ⟨plus_same fun b hb => ?_, fun b o e => S₃.kb b o ?_, W.frame _ _ _ sx₁ same, fun b hb => ?_, fun b ob e => ?_⟩
      · obtain ⟨o, e⟩ := hex₁ b hb
        rw [e, same b hb o e]
      · by_cases hb : b ∈ fp
        · rw [plus_in hb]; exact pi₁ _ _ e
        · rw [plus_out hb]; exact e
      · cases q : k₂.m b with
        | none => rfl
        | some o =>
          rcases n₂ b o q with e | e
          · rw [kwr b hb] at e; cases e
          · rw [plus_in (W.sub b hb)] at e
            obtain ⟨o', e'⟩ := hex₁ b (W.sub b hb)
            rw [e'] at e; cases e
      · rcases n₂ b ob e with e' | e'
        · exact kn b ob e'
        · by_cases hb : b ∈ fp
          · rw [plus_in hb] at e'
            obtain ⟨o', e''⟩ := hex₁ b hb
            rw [e''] at e'; cases e'
          · rw [plus_out hb] at e'; exact .inr e'
    by_cases hij' : i < j
    · refine hb i ds[i] hij' hget A _ _ k' _ _ rm S₂ fun fl k₂ h₃ tk₃ l₂ n₂ o₂ => ?_
      obtain ⟨rfl, S₃⟩ := o₂
      obtain ⟨e1, e2, e3, e4, e5⟩ := fin n₂ S₃ l₂
      exact ⟨ds.length + 1 - (i + 1), by omega, i + 1, k₂, h₃, tk₃, rfl, hij', rfl, e1 ▸ S₃, e2, e3, kl.trans l₂, e4, e5⟩
    · have hji : i = j := by omega
      subst hji
      cases bk with
      | false => simp only [Bool.false_eq_true, if_false] at hj; omega
      | true =>
        refine hbk rfl ds[i] hget A _ _ k' _ _ rm S₂ fun fl k₂ h₃ tk₃ l₂ n₂ o₂ => ?_
        obtain ⟨rfl, S₃⟩ := o₂
        obtain ⟨e1, e2, e3, e4, e5⟩ := fin n₂ S₃ l₂
        refine hq .next k₂ h₃ tk₃ (ea.trans (kl.trans l₂)) (fun b ob e => (e5 b ob e).elim (eb b ob) .inr) ⟨rfl, ?_⟩
        simp only [if_true]
        refine S₃.change S.top e2 (fun b o => ?_) (fun _ _ _ e => e) (Nat.le_refl _)
        have := (S₃.own o).1
        by_cases hb : b ∈ fp
        · rw [plus_in hb] at this
          obtain ⟨o', e'⟩ := hex₁ b hb
          rw [e'] at this; cases this
        · rwa [plus_out hb] at this
  · have hin : i = ds.length := by
      cases bk with
      | false => simp only [Bool.false_eq_true, if_false] at hj; omega
      | true => simp only [if_true] at hj; omega
    cases bk with
    | true => simp only [if_true] at hj; omega
    | false =>
      simp only [Bool.false_eq_true, if_false] at hj ⊢
      refine wpAny_with_toks (n := tk) (Nat.le_refl _) (W.done _ _ _ (hin ▸ sxi) fun h₁ tk₁ keep htk => wpAny_execs_nil ?_)
      have pi₁ : PIn pk h₁ := fun b o e => keep b o (fun q => by rw [pkwr b q] at e; cases e) (pi _ _ e)
      refine hq .next k' h₁ tk₁ (ea.trans kl) (fun b ob e => (kn b ob e).elim (eb b ob) .inr) ⟨rfl, ?_⟩
      have hji : i = j := by omega
      rw [← hji]
      exact Si.change S.top pi₁ (fun b o => (ownI b o).2) (fun b o ob e => keep b o (fun q => by
        rcases ob with ob | ob
        · exact (ownI b ob).1 (W.sub b q)
        · rw [kwr b q] at ob; cases ob) e) htk

theorem ExS.for {x px iter body pos ds} (Sq : Nat → Sg) (Mq : Nat → List (Addr × List D)) (hx : storeOkE env x = true) (hi : EvI prog w T n env σ μ iter ds) (h0 : Sq 0 = σ) (m0 : Mq 0 = μ)
    (hb : ∀ i d, i < ds.length → ds[i]? = some d → ExL prog w T n env ((x, d) :: drp x (Sq i)) (Mq i) body (.next (Sq (i + 1)) (Mq (i + 1))))
    (hs : ∀ x, foldedSetIterable iter env x = pure x) : ExS prog w T n env σ μ (.For (.Name x px) iter body [] pos) (.next (Sq ds.length) (Mq ds.length)) :=
  ExS.forG Sq Mq ds.length false hx hi h0 m0 rfl hb (fun e => nomatch e) hs
theorem ExS.forB {x px iter body pos ds} (Sq : Nat → Sg) (Mq : Nat → List (Addr × List D)) (j : Nat) (hx : storeOkE env x = true) (hi : EvI prog w T n env σ μ iter ds) (h0 : Sq 0 = σ) (m0 : Mq 0 = μ) (hj : j < ds.length)
    (hb : ∀ i d, i < j → ds[i]? = some d → ExL prog w T n env ((x, d) :: drp x (Sq i)) (Mq i) body (.next (Sq (i + 1)) (Mq (i + 1))))
    (hbk : ∀ d, ds[j]? = some d → ExL prog w T n env ((x, d) :: drp x (Sq j)) (Mq j) body (.brk (Sq (j + 1)) (Mq (j + 1))))
    (hs : ∀ x, foldedSetIterable iter env x = pure x) : ExS prog w T n env σ μ (.For (.Name x px) iter body [] pos) (.next (Sq (j + 1)) (Mq (j + 1))) :=
  ExS.forG Sq Mq j true hx hi h0 m0 (by simpa using hj) hb (fun _ => hbk) hs
end
noncomputable def clos (cells : List (PySem.Str × Addr)) : List (PySem.Str × NameKind) → List (PySem.Str × Addr) → List (PySem.Str × Addr)
  | [], acc => acc
  | (x, k) :: r, acc => if k == .free then clos cells r ((x, (cells.lookup x).getD 0) :: acc) else clos cells r acc

theorem closureFor_eq {scope : Scope} {env : Env} (h : ∀ x, (x, NameKind.free) ∈ scope.names → ∃ c, env.cells.lookup x = some c) : closureFor scope env = pure (clos env.cells scope.names []) := by
  have key : ∀ (l : List (PySem.Str × NameKind)) (acc : List (PySem.Str × Addr)), (∀ x, (x, NameKind.free) ∈ l → ∃ c, env.cells.lookup x = some c) →
      (forIn l acc fun p cs => (if p.2 == .free then do let a ← cellOf env p.1; pure (ForInStep.yield ((p.1, a) :: cs)) else pure (ForInStep.yield cs) : Sem (ForInStep (List (PySem.Str × Addr))))) = pure (clos env.cells l acc) := by
    intro l
    induction l with
    | nil => intro acc _; rfl
    | cons p r ih =>
      obtain ⟨x, k⟩ := p
      intro acc hr
      rw [List.forIn_cons]
      unfold clos
      by_cases hk : (k == .free) = true
      · have hk' : k = .free := by cases k <;> first | rfl | cases hk
        obtain ⟨c, hc⟩ := hr x (by rw [hk']; simp)
        simp only [hk, if_true, cellOf, hc, pure_bind, Option.getD_some]
        exact ih _ fun y hy => hr y (by simp [hy])
      · simp only [hk, if_false, pure_bind]
        exact ih _ fun y hy => hr y (by simp [hy])
  show (forIn scope.names ([] : List (PySem.Str × Addr)) _ >>= fun cs => pure cs) = _
  rw [bind_pure]
  refine Eq.trans ?_ (key scope.names [] h)
  congr 1

theorem clos_get {cells : List (PySem.Str × Addr)} {x : PySem.Str} : ∀ {l : List (PySem.Str × NameKind)} {acc : List (PySem.Str × Addr)} {c : Addr}, (clos cells l acc).lookup x = some c → acc.lookup x = some c ∨ ((x, NameKind.free) ∈ l ∧ (cells.lookup x).getD 0 = c)
  | [], acc, c, h => .inl h
  | (y, k) :: r, acc, c, h => by
    unfold clos at h
    by_cases hk : (k == .free) = true
    · have hk' : k = .free := by cases k <;> first | rfl | cases hk
      rw [if_pos hk] at h
      rcases clos_get h with e | ⟨e, q⟩
      · rw [List.lookup_cons] at e
        cases hx : x == y with
        | true =>
          rw [hx] at e
          cases e
          have := beq_iff_eq.mp hx
          subst this
          exact .inr ⟨by rw [hk']; simp, rfl⟩
        | false => rw [hx] at e; exact .inl e
      · exact .inr ⟨by simp [e], q⟩
    · rw [if_neg hk] at h
      rcases clos_get h with e | ⟨e, q⟩
      · exact .inl e
      · exact .inr ⟨by simp [e], q⟩
theorem clos_acc {cells : List (PySem.Str × Addr)} {x : PySem.Str} : ∀ {l : List (PySem.Str × NameKind)} {acc : List (PySem.Str × Addr)}, (acc.lookup x).isSome = true → ((clos cells l acc).lookup x).isSome = true
  | [], acc, h => h
  | (y, k) :: r, acc, h => by
    unfold clos
    split
    · refine clos_acc ?_
      rw [List.lookup_cons]
      cases x == y <;> first | rfl | exact h
    · exact clos_acc h
theorem clos_some {cells : List (PySem.Str × Addr)} {x : PySem.Str} : ∀ {l : List (PySem.Str × NameKind)} {acc : List (PySem.Str × Addr)}, (x, NameKind.free) ∈ l → ((clos cells l acc).lookup x).isSome = true
  | (y, k) :: r, acc, h => by
    unfold clos
    rcases List.mem_cons.mp h with e | e
    · cases e
      rw [if_pos (show (NameKind.free == NameKind.free) = true from rfl)]
      refine clos_acc ?_
      rw [List.lookup_cons]; simp
    · split <;> exact clos_some e

/-- the frame of a comprehension -/
noncomputable abbrev cenv (scope : Scope) (C : Addr) (env : Env) : Env := compEnvC scope (clos env.cells scope.names []) C env

/-- closed facts about a comprehension's scope with locals xs -/
noncomputable def compOk (scope : Scope) (env : Env) (xs : List PySem.Str) : Bool :=
  scope.kind == .function && decide ((scope.names.map (·.1)).Nodup) && scope.names.all (fun p => !(p.2 == .cell)) && xs.all (fun x => scope.names.lookup x == some .local) &&
  scope.names.all (fun p => !(p.2 == .local) || xs.contains p.1) && scope.names.all (fun p => !(p.2 == .free) || env.kindOf p.1 == some .cell || env.kindOf p.1 == some .free)

structure CompOk (scope : Scope) (env : Env) (xs : List PySem.Str) : Prop where
  kind : scope.kind = .function
  nd : (scope.names.map (·.1)).Nodup
  nocell : ∀ y ∈ scope.names, y.2 ≠ .cell
  xl : ∀ x ∈ xs, scope.names.lookup x = some .local
  lx : ∀ x, (x, NameKind.local) ∈ scope.names → x ∈ xs
  fr : ∀ x, (x, NameKind.free) ∈ scope.names → env.kindOf x = some .cell ∨ env.kindOf x = some .free
theorem CompOk.of {scope env xs} (h : compOk scope env xs = true) : CompOk scope env xs := by
  simp only [compOk, Bool.and_eq_true, decide_eq_true_eq, List.all_eq_true] at h
  obtain ⟨⟨⟨⟨⟨a, b⟩, c⟩, d⟩, e⟩, f⟩ := h
  refine ⟨beq_iff_eq.mp a, b, fun y hy q => ?_, fun x hx => beq_iff_eq.mp (d x hx), fun x hx => ?_, fun x hx => ?_⟩
  · have := c y hy; rw [q] at this; simp at this
  · have := e _ hx; simpa using this
  · have := f _ hx; simpa using this

theorem CompOk.lookup_free {scope env xs} (h : CompOk scope env xs) {x : PySem.Str} (hx : (x, NameKind.free) ∈ scope.names) : scope.names.lookup x = some .free := lookup_of_nodup h.nd hx
theorem lookup_map2 {x : PySem.Str} (g : PySem.Str → NameKind → NameKind) : ∀ l : List (PySem.Str × NameKind), (l.map fun p => (p.1, g p.1 p.2)).lookup x = (l.lookup x).map (g x)
  | [] => rfl
  | (y, k) :: r => by
    simp only [List.map_cons, List.lookup_cons]
    cases hx : x == y with
    | true => have := beq_iff_eq.mp hx; subst this; rfl
    | false => exact lookup_map2 g r
theorem cenv_kind {scope : Scope} {C : Addr} {env : Env} {x : PySem.Str} : (cenv scope C env).kindOf x = (scope.names.lookup x).map fun k => if (k == .free && env.scope.kind == .function && env.kindOf x == some .cell) = true then .cell else k :=
  Eq.trans (congrArg (fun l => List.lookup x l) (congrArg (fun g => scope.names.map g) (funext fun p => show (if (p.2 == .free && env.scope.kind == .function && env.kindOf p.1 == some .cell) = true then (p.1, NameKind.cell) else (p.1, p.2)) =
    (p.1, if (p.2 == .free && env.scope.kind == .function && env.kindOf p.1 == some .cell) = true then NameKind.cell else p.2) by split <;> rfl)))
    (lookup_map2 (fun y k => if (k == .free && env.scope.kind == .function && env.kindOf y == some .cell) = true then .cell else k) scope.names)

theorem CompOk.envOk {scope env xs C} (h : CompOk scope env xs) (ok : EnvOk env) : EnvOk (cenv scope C env) := by
  have isfree : ∀ x, ((cenv scope C env).kindOf x = some .cell ∨ (cenv scope C env).kindOf x = some .free) → (x, NameKind.free) ∈ scope.names := fun x hx => by
    rw [cenv_kind] at hx
    cases q : scope.names.lookup x with
    | none => rw [q] at hx; rcases hx with e | e <;> cases e
    | some k =>
      rw [q] at hx
      have hm := mem_of_lookup q
      cases k with
      | free => exact hm
      | cell => exact absurd rfl (h.nocell _ hm)
      | _ => rcases hx with e | e <;> simp at e
  refine ⟨h.kind, fun x hx => Option.isSome_iff_exists.mp (clos_some (isfree x hx)), fun x c hc => ?_, ok.gl, ok.bl⟩
  rcases clos_get hc with e | ⟨e, _⟩
  · cases e
  · rw [cenv_kind, h.lookup_free e]
    by_cases hk : (NameKind.free == NameKind.free && env.scope.kind == ScopeKind.function && env.kindOf x == some NameKind.cell) = true
    · left; rw [Option.map_some, if_pos hk]
    · right; rw [Option.map_some, if_neg hk]

section
variable {prog : Program} {w : World} {T : Heap → Prop} {n : Nat} {env : Env} {σ : Sg} {μ : List (Addr × List D)}

theorem cells_of {scope : Scope} {xs : List PySem.Str} (hc : CompOk scope env xs) (ok : EnvOk env) {C : Addr} {y : PySem.Str} {c : Addr} (h : (cenv scope C env).cells.lookup y = some c) : env.cells.lookup y = some c ∧ (y, NameKind.free) ∈ scope.names := by
  rcases clos_get h with e | ⟨e, q⟩
  · cases e
  · obtain ⟨c', hc'⟩ := ok.c1 y (hc.fr y e)
    rw [hc'] at q
    exact ⟨by rw [hc']; exact congrArg some q, e⟩

/-- into a comprehension's frame -/
theorem St.comp {scope : Scope} {xs : List PySem.Str} {C : Addr} {pk : Pk} {k k' : Kn} {h h' : Heap} {t t' : Nat} {m : PySem.Str → Option Value} {τ : Sg} (S : St T pk k env h t σ μ) (hc : CompOk scope env xs)
    (kl : KLe k k') (ki : KIn k' h' t') (pi : PIn pk h') (own : ∀ b o, Own env μ b → h.get? b = some o → h'.get? b = some o ∧ k'.m b = Option.none ∧ b ≠ C) (hC : k'.m C = Option.none ∧ pk C = Option.none) (hm : h'.Ns C m)
    (hx : ∀ x d, x ∈ xs → (x, d) ∈ τ → ∃ v, m x = some v ∧ Rd k' d v) (ht : ∀ x d, (x, NameKind.free) ∈ scope.names → (x, d) ∈ τ → (x, d) ∈ σ) :
    St T pk k' (cenv scope C env) h' t' τ μ where
  ok := hc.envOk S.ok
  top := S.top
  kb := pi
  kh := ki
  ns := ⟨m, hm, fun x d hk hd => by
    refine hx x d ?_ hd
    rw [cenv_kind] at hk
    cases q : scope.names.lookup x with
    | none => rw [q] at hk; cases hk
    | some k =>
      rw [q] at hk
      have hm := mem_of_lookup q
      cases k with
      | «local» => exact hc.lx x hm
      | free =>
        simp only [Option.map_some, Option.some.injEq] at hk
        split at hk <;> cases hk
      | _ => simp at hk⟩
  cl := fun x c e => by
    obtain ⟨e', hf⟩ := cells_of hc S.ok e
    obtain ⟨v, ⟨o, g, gd⟩, r⟩ := S.cl x c e'
    refine ⟨v, ⟨o, (own c o (.inr (.inl ⟨x, e'⟩)) g).1, gd⟩, fun d hd => ?_⟩
    obtain ⟨v', q, r'⟩ := r d (ht x d hf hd)
    exact ⟨v', q, r'.le kl⟩
  hL := hC
  hC := fun x c e => by
    obtain ⟨e', hf⟩ := cells_of hc S.ok e
    obtain ⟨a, b, o, g⟩ := S.own (.inr (.inl ⟨x, e'⟩) : Own env μ c)
    have z := own c o (.inr (.inl ⟨x, e'⟩)) g
    exact ⟨z.2.1, a, z.2.2⟩
  dC := fun x y c e f => S.dC x y c (cells_of hc S.ok e).1 (cells_of hc S.ok f).1
  mu := fun p hp => by
    obtain ⟨a, b, c, d, l⟩ := S.mu p hp
    obtain ⟨ob, e₀⟩ := l.obj
    have z := own p.1 _ (.inr (.inr ⟨p, hp, rfl⟩)) e₀
    exact ⟨z.2.1, b, z.2.2, fun x c e => d x c (cells_of hc S.ok e).1, l.keep (fun o e => (own p.1 o (.inr (.inr ⟨p, hp, rfl⟩)) e).1) kl⟩

/-- the tests of a comprehension's clause -/
noncomputable def EvIfs (prog : Program) (w : World) (T : Heap → Prop) (n : Nat) (env : Env) (σ : Sg) (μ : List (Addr × List D)) (ifs : List Expr) (b : Bool) : Prop :=
  ∀ (A : Around) (s : Shared) (pk : Pk) (k : Kn) (Q : Bool → Shared → Prop) (E : Value → Shared → Prop), Rm n A → St T pk k env s.heap s.toks σ μ →
    (∀ k' h' tk, Up k s.heap k' h' tk → Q b { s with heap := h', toks := tk }) →
    wpAny (model prog w) A (forIn ifs true fun c r => if r = true then do let ok ← isTrue c env (eval c env); pure (ForInStep.yield ok) else pure (ForInStep.yield r)) Q E s
theorem EvIfs.nil : EvIfs prog w T n env σ μ [] true := fun A s pk k Q E rm S h => wpAny_tests_nil (h k s.heap s.toks (Up.refl S.kh))
theorem EvIfs.one {c b} (h : EvT prog w T n env σ μ c b) : EvIfs prog w T n env σ μ [c] b := fun A s pk k Q E rm S hq => wpAny_tests_one (h A s pk k _ _ rm S hq)

open Classical in
/-- a new object beside what is known -/
noncomputable def addk (a : Addr) (o : Obj) (k : Kn) : Kn := ⟨fun b => if b = a then some o else k.m b, k.t⟩
theorem addk_at {a o k} : (addk a o k).m a = some o := by show (if _ then _ else _) = _; rw [if_pos rfl]
theorem addk_of {a o k b} (h : b ≠ a) : (addk a o k).m b = k.m b := by show (if _ then _ else _) = _; rw [if_neg h]
theorem addk_le {a o k} (h : k.m a = Option.none) : KLe k (addk a o k) := ⟨fun b ob e => by rw [addk_of (fun q => by subst q; rw [h] at e; cases e)]; exact e, Nat.le_refl _⟩
theorem addk_in {a o k h t} (i : KIn k h t) (g : h.get? a = some o) : KIn (addk a o k) h t := ⟨fun b ob e => by
  by_cases q : b = a
  · subst q; rw [addk_at] at e; cases e; exact g
  · rw [addk_of q] at e; exact i.at _ _ e, i.one, i.tk⟩

/-- a comprehension's run, from its iterator on; what follows is told of the list made -/
theorem comp_run {elt iter : Expr} {x : PySem.Str} {px : Pos} {ifs : List Expr} {scope : Scope} {pos : Pos} {ds : List D} {p : D → Bool} {f : D → D} {A : Around} {s₂ : Shared} {pk : Pk} {k₂ : Kn} {h₀ : Heap} {it : Value} {E : Value → Shared → Prop}
    {use : Option (Value → Sem Unit)} {Q : Value → Shared → Prop} (hc : CompOk scope env [x, ".0"]) (h0 : ∀ d, ((".0" : PySem.Str), d) ∉ σ) (rm : Rm n A) (S : St T pk k₂ env s₂.heap s₂.toks σ μ) (S₀ : ∀ b, Own env μ b → ∃ o, h₀.get? b = some o) (l₀ : Le h₀ s₂.heap) (pk₀ : ∀ b o, pk b = some o → h₀.get? b = some o)
    (io : ItOk prog w A h₀ k₂ s₂.heap ds it) (hsz : ds.length ≤ 100000)
    (ht : ∀ C d, d ∈ ds → EvIfs prog w T n (cenv scope C env) ((x, d) :: drp x σ) μ ifs (p d))
    (he : ∀ C d, d ∈ ds → p d = true → EvE prog w T n (cenv scope C env) ((x, d) :: drp x σ) μ elt (f d))
    (hQ : ∀ a C k' h' tk, KLe k₂ k' → KIn k' h' tk → (∀ b o, k'.m b = some o → k₂.m b = some o ∨ h₀.get? b = Option.none) → Le h₀ h' → Rd k' (.list ((ds.filter p).map f)) (.ref a) → (∃ m, h'.Ns C m) → k'.m C = Option.none → h₀.get? C = Option.none →
      compPost (model prog w) A E use Q (.ref a) C (.ok .next) { s₂ with heap := h', toks := tk }) :
    wpAny (model prog w) A (newList []) (fun acc s₃ => wpAny (model prog w) A (newFunctionEnv scope env.globals (clos env.cells scope.names []) [] env.qual none .none (some env)) (fun cenv s₄ =>
      codeAny (model prog w) A (.compStart (.ListComp elt [⟨.Name x px, iter, ifs, 0⟩] scope pos) 0 it acc { cenv with scope := relabel scope env }) (compPost (model prog w) A E use Q acc cenv.locals) s₄) E s₃) E s₂ := by
  obtain ⟨I, fp, wr, P, Sx, rfl, W, sx, hwr, hfp, alive, hP⟩ := io
  refine wpAny_newObj_type (wpAny_newFunctionEnv hc.nocell (by intro y hy; simp at hy) (fun h₁ hns₁ hsb₁ => ?_) hc.kind)
  dsimp only at hns₁ hsb₁ ⊢
  generalize hH2 : s₂.heap.push { cls := .type "list", dict := none, data := .seq ([] : List Value).toArray } = H2 at hns₁ hsb₁ ⊢
  have hC : H2.objs.size = s₂.heap.objs.size + 1 := by rw [← hH2, Heap.size_push]
  have hDC : s₂.heap.objs.size ≠ H2.objs.size := by rw [hC]; exact Nat.ne_of_lt (Nat.lt_succ_self _)
  have below : ∀ b o, s₂.heap.get? b = some o → b ≠ H2.objs.size ∧ b ≠ s₂.heap.objs.size := fun b o e => by
    have := Heap.lt_size e
    exact ⟨by rw [hC]; exact Nat.ne_of_lt (Nat.lt_succ_of_lt this), Nat.ne_of_lt this⟩
  have old : ∀ b o, s₂.heap.get? b = some o → h₁.get? b = some o := fun b o e => hsb₁.extBut b o (below b o e).1 (Heap.get?_push_of_some _ (hH2 ▸ Heap.get?_push_of_some _ e))
  have freshD : s₂.heap.get? s₂.heap.objs.size = Option.none := get_size _
  have freshC : s₂.heap.get? H2.objs.size = Option.none := by
    cases q : s₂.heap.get? H2.objs.size with
    | none => rfl
    | some o => exact absurd rfl (below _ o q).1
  generalize hD : s₂.heap.objs.size = Dd at *
  generalize hCc : H2.objs.size = Cc at *
  have hacc : h₁.PlainList Dd #[] := ⟨0, hsb₁.extBut _ _ hDC (Heap.get?_push_of_some _ (by rw [← hH2, ← hD]; exact Heap.get?_push_size _ rfl))⟩
  have hst₁ : Sx 0 h₁ := W.frame _ _ _ sx fun b _ o e => old b o e
  have kD : k₂.m Dd = Option.none := by
    cases q : k₂.m Dd with
    | none => rfl
    | some o => have := S.kh.at _ _ q; rw [freshD] at this; cases this
  have kC : k₂.m Cc = Option.none := by
    cases q : k₂.m Cc with
    | none => rfl
    | some o => have := S.kh.at _ _ q; rw [freshC] at this; cases this
  have pkC : pk Cc = Option.none := by
    cases q : pk Cc with
    | none => rfl
    | some o => have := S.kb _ _ q; rw [freshC] at this; cases this
  have pkwr : ∀ b ∈ wr, pk b = Option.none := fun b hb => by
    cases q : pk b with
    | none => rfl
    | some o => have := pk₀ _ _ q; rw [(hwr b hb).2] at this; cases this
  have ownwr : ∀ b, Own env μ b → b ∉ wr := fun b o hb => by
    obtain ⟨ob, e⟩ := S₀ b o
    rw [(hwr b hb).2] at e; cases e
  have fpOk : ∀ b ∈ fp, b ≠ Cc ∧ b ≠ Dd := fun b hb => by
    obtain ⟨o, e⟩ := alive _ _ sx b hb
    exact below b o e
  have loop : ∀ s₃ : Shared, s₃ = { s₂ with heap := h₁, toks := s₂.toks + ([] : List (PySem.Str × Value)).length } →
      codeAny (model prog w) A (.compLoop (.ListComp elt [⟨.Name x px, iter, ifs, 0⟩] scope pos) 0 (.ref I) (.ref Dd) (cenv scope Cc env)) (compPost (model prog w) A E use Q (.ref Dd) Cc) s₃ := by
    rintro s₃ rfl
    refine codeAny_compLoop_tests
      (fun fu s' => ∃ i k' h' tk m ys, s' = { s₂ with heap := h', toks := tk } ∧ i ≤ ds.length ∧ fu = ds.length + 1 - i ∧ Sx i h' ∧ h'.PlainList Dd ys ∧ h'.Ns Cc m ∧ KLe k₂ k' ∧ KIn k' h' tk ∧ k'.m Dd = Option.none ∧ k'.m Cc = Option.none ∧ (∀ b ∈ wr, k'.m b = Option.none) ∧
        (∀ b o, k'.m b = some o → k₂.m b = some o ∨ s₂.heap.get? b = Option.none) ∧ (∀ b o, b ∉ wr → s₂.heap.get? b = some o → h'.get? b = some o) ∧ RdL k' (((ds.take i).filter p).map f) ys.toList) ?_ (ds.length + 1)
      ⟨0, k₂, h₁, _, _, #[], rfl, Nat.zero_le _, rfl, hst₁, hacc, hns₁, KLe.refl _, S.kh.le old (Nat.le_refl _), kD, kC, fun b hb => (hwr b hb).1, fun _ _ e => .inl e, fun b o _ e => old b o e, by simpa using RdL.nil⟩
    rintro fu s' ⟨i, k', h', tk, m, ys, rfl, hi, rfl, sxi, hacc', hn', kl, ki, kD', kC', kwr, kn, keep, rl⟩
    have hCw : Cc ∉ wr := fun h => (fpOk _ (W.sub _ h)).1 rfl
    have hDw : Dd ∉ wr := fun h => (fpOk _ (W.sub _ h)).2 rfl
    by_cases hlt : i < ds.length
    · refine wpAny_with_toks (n := tk) (Nat.le_refl _) (W.item i _ _ _ hlt sxi fun v h₂ tk₂ hPv sx₂ keep₂ htk₂ => ?_)
      have hget : ds[i]? = some ds[i] := by simp [hlt]
      have hmem : ds[i] ∈ ds := List.getElem_mem hlt
      have rdv : Rd k' ds[i] v := (hP i ds[i] v hget hPv).le kl
      have lx : scope.names.lookup x = some .local := hc.xl x (by simp)
      refine wpAny_assign_Name (wpAny_storeName_local (env := cenv scope Cc env) (by rw [cenv_kind, lx]; rfl) (hn'.at' fun o e => keep₂ _ o hCw e) (fun h₃ hn₃ hs₃ => ?_) (by show (scope.kind == .class || (scope.kind == .module && _)) = false; rw [hc.kind]; rfl))
      have keep₃ : ∀ b o, b ∉ wr → b ≠ Cc → h'.get? b = some o → h₃.get? b = some o := fun b o hw hb e => hs₃.extBut b o hb (keep₂ b o hw e)
      have keepS : ∀ b o, b ∉ wr → s₂.heap.get? b = some o → h₃.get? b = some o := fun b o hw e => keep₃ b o hw (below b o e).1 (keep b o hw e)
      have ki₃ : KIn k' h₃ (tk₂ + 1) := ⟨fun b o e => keep₃ b o (fun q => by rw [kwr b q] at e; cases e) (fun q => by rw [q, kC'] at e; cases e) (ki.at b o e), ki.one, by have := ki.tk; have : tk ≤ tk₂ := htk₂; omega⟩
      have pi₃ : PIn pk h₃ := fun b o e => keepS b o (fun q => by rw [pkwr b q] at e; cases e) (S.kb b o e)
      have sx₃ : Sx (i + 1) h₃ := W.frame _ _ _ sx₂ fun b hb o e => hs₃.extBut b o (fpOk b hb).1 e
      have hD₃ : h₃.PlainList Dd ys := hacc'.at fun o e => keep₃ _ o hDw hDC e
      have S₃ : St T pk k' (cenv scope Cc env) h₃ (tk₂ + 1) ((x, ds[i]) :: drp x σ) μ := by
        refine S.comp hc kl ki₃ pi₃ (fun b o ow e => ⟨keepS b o (ownwr b ow) e, ?_, (below b o e).1⟩) ⟨kC', pkC⟩ hn₃ (fun y d hy hd => ?_) fun y d hf hd => ?_
        · cases q : k'.m b with
          | none => rfl
          | some o' =>
            rcases kn _ _ q with e' | e'
            · rw [(S.own ow).2.1] at e'; cases e'
            · rw [e] at e'; cases e'
        · rcases List.mem_cons.mp hd with q | q
          · cases q; exact ⟨v, by simp, rdv⟩
          · rcases List.mem_cons.mp hy with e | e
            · exact absurd e (mem_drp.mp q).2
            · rw [List.mem_singleton.mp e] at q
              exact absurd (mem_drp.mp q).1 (h0 d)
        · rcases List.mem_cons.mp hd with q | q
          · cases q
            have := hc.lookup_free hf
            rw [lx] at this; cases this
          · exact (mem_drp.mp q).1
      refine ht Cc ds[i] hmem A { s₂ with heap := h₃, toks := tk₂ + 1 } pk k' _ _ rm S₃ fun k₄ h₄ tk₄ u₄ => ?_
      have S₄ := S₃.up u₄
      have sx₄ : Sx (i + 1) h₄ := W.frame _ _ _ sx₃ fun b _ o e => u₄.le _ _ e
      have keep₄ : ∀ b o, b ∉ wr → s₂.heap.get? b = some o → h₄.get? b = some o := fun b o hw e => u₄.le _ _ (keepS b o hw e)
      have stay : ∀ {k₅ : Kn} {h₅ : Heap} {t₅ : Nat}, Up k' h₃ k₅ h₅ t₅ → k₅.m Dd = Option.none ∧ k₅.m Cc = Option.none ∧ (∀ b ∈ wr, k₅.m b = Option.none) ∧ (∀ b o, k₅.m b = some o → k₂.m b = some o ∨ s₂.heap.get? b = Option.none) := fun {k₅ h₅ t₅} u => by
        have off : ∀ b, k'.m b = Option.none → (∃ o, h₃.get? b = some o) → k₅.m b = Option.none := fun b hb ⟨o, e⟩ => by
          cases q : k₅.m b with
          | none => rfl
          | some o' =>
            rcases u.kn _ _ q with e' | e'
            · rw [hb] at e'; cases e'
            · rw [e] at e'; cases e'
        refine ⟨off _ kD' ?_, off _ kC' ?_, fun b hb => off b (kwr b hb) (alive _ _ sx₃ b (W.sub b hb)), fun b o e => ?_⟩
        · obtain ⟨nn, e⟩ := hD₃; exact ⟨_, e⟩
        · obtain ⟨o, _, _, e, _⟩ := hn₃; exact ⟨o, e⟩
        · rcases u.kn _ _ e with e' | e'
          · exact kn b o e'
          · right
            by_cases hw : b ∈ wr
            · obtain ⟨o', z⟩ := alive _ _ sx₃ b (W.sub b hw)
              rw [z] at e'; cases e'
            · cases q : s₂.heap.get? b with
              | none => rfl
              | some o' => rw [keepS b o' hw q] at e'; cases e'
      have htake : (ds.take (i + 1)).filter p = (ds.take i).filter p ++ (if p ds[i] then [ds[i]] else []) := by
        rw [List.take_add_one, hget, List.filter_append]
        cases hp : p ds[i] <;> simp [hp]
      cases hp : p ds[i] with
      | false =>
        simp only [Bool.false_eq_true, if_false]
        obtain ⟨z1, z2, z3, z4⟩ := stay u₄
        refine ⟨ds.length + 1 - (i + 1), by omega, i + 1, k₄, h₄, tk₄, _, ys, rfl, hlt, rfl, sx₄, Heap.PlainList.le hD₃ u₄.le, hn₃.keeps u₄.le, kl.trans u₄.kl, u₄.ki, z1, z2, z3, z4, keep₄, ?_⟩
        rw [htake, hp]; simpa using rl.le u₄.kl
      | true =>
        simp only [if_true]
        refine he Cc ds[i] hmem hp A { s₂ with heap := h₄, toks := tk₄ } pk k₄ _ _ rm S₄ fun y k₅ h₅ tk₅ u₅ r₅ => ?_
        have u := u₄.trans u₅
        obtain ⟨z1, z2, z3, z4⟩ := stay u
        have hys : ys.size ≤ sizeLine := by
          have e1 := rl.length
          have e2 : (((ds.take i).filter p).map f).length ≤ ds.length := by
            rw [List.length_map]
            exact Nat.le_trans (List.length_filter_le _ _) (by rw [List.length_take]; omega)
          have e4 : ys.toList.length = ys.size := by simp
          rw [sizeLine_eq]; omega
        refine wpAny_list_append_plain (hsz := hys) (Heap.PlainList.le hD₃ u.le) fun h₆ hl₆ hs₆ => ?_
        have ki₆ : KIn k₅ h₆ tk₅ := u₅.ki.same z1 hs₆ (Nat.le_refl _)
        refine ⟨ds.length + 1 - (i + 1), by omega, i + 1, k₅, h₆, _, _, ys.push y, rfl, hlt, rfl, ?_, hl₆, (hn₃.keeps u.le).sameBut hs₆ (Ne.symm hDC), kl.trans u.kl, ki₆, z1, z2, z3, z4, fun b o hw e => ?_, ?_⟩
        · exact W.frame _ _ _ sx₃ fun b hb o e => hs₆.extBut b o (fpOk b hb).2 (u.le _ _ e)
        · exact hs₆.extBut b o (below b o e).2 (u₅.le _ _ (keep₄ b o hw e))
        · rw [htake, hp]
          simp only [if_true, List.map_append, List.map_cons, List.map_nil, Array.toList_push]
          exact (rl.le u.kl).append (RdL.one r₅)
    · have hin : i = ds.length := by omega
      refine wpAny_with_toks (n := tk) (Nat.le_refl _) (W.done _ _ _ (hin ▸ sxi) fun h₂ tk₂ keep₂ htk₂ => ?_)
      obtain ⟨nn, hD₂⟩ := hacc'.at fun o e => keep₂ Dd o hDw e
      have ki₂ : KIn k' h₂ tk₂ := ⟨fun b o e => keep₂ b o (fun q => by rw [kwr b q] at e; cases e) (ki.at b o e), ki.one, Nat.le_trans ki.tk htk₂⟩
      have h0D : h₀.get? Dd = Option.none := l₀.none freshD
      refine hQ Dd Cc (addk Dd _ k') h₂ tk₂ (kl.trans (addk_le kD')) (addk_in ki₂ hD₂) (fun b o e => ?_) (fun b o e => ?_) ?_ ⟨_, hn'.at' fun o e => keep₂ _ o hCw e⟩ ?_ (l₀.none freshC)
      · by_cases hb : b = Dd
        · subst hb; exact .inr h0D
        · rw [addk_of hb] at e
          exact (kn b o e).imp_right fun q => l₀.none q
      · by_cases hw : b ∈ wr
        · rw [(hwr b hw).2] at e; cases e
        · exact keep₂ b o hw (keep b o hw (l₀ _ _ e))
      · unfold Rd
        rw [hin, List.take_length] at rl
        exact ⟨Dd, ys.toList, rfl, ⟨_, addk_at, rfl, nn, by simp⟩, rl.le (addk_le kD')⟩
      · rw [addk_of (Ne.symm hDC)]; exact kC'
  exact codeAny_compStart_list (loop _ rfl) (W.self 0 _ _ _ hst₁ (loop _ rfl))

theorem EvE.comp {elt iter : Expr} {x : PySem.Str} {px : Pos} {ifs : List Expr} {scope : Scope} {pos : Pos} {ds : List D} (p : D → Bool) (f : D → D) (hc : compOk scope env [x, ".0"] = true) (h0 : ∀ d, ((".0" : PySem.Str), d) ∉ σ) (hi : EvI prog w T n env σ μ iter ds) (hsz : ds.length ≤ 100000)
    (ht : ∀ C d, d ∈ ds → EvIfs prog w T n (cenv scope C env) ((x, d) :: drp x σ) μ ifs (p d))
    (he : ∀ C d, d ∈ ds → p d = true → EvE prog w T n (cenv scope C env) ((x, d) :: drp x σ) μ elt (f d))
    (hs : ∀ x, foldedSetIterable iter env x = pure x) : EvE prog w T n env σ μ (.ListComp elt [⟨.Name x px, iter, ifs, 0⟩] scope pos) (.list ((ds.filter p).map f)) := fun A s pk k Q E rm S hq => by
  have hc' := CompOk.of hc
  rw [eval_ListComp]
  refine wpAny_comprehension_free (use := none) rfl hs (closureFor_eq fun y hy => S.ok.c1 y (hc'.fr y hy)) hc'.kind (fun y hy hl => lookup_of_nodup hc'.nd (by rw [← hl]; exact hy)) ?_
  refine hi A s pk k _ _ rm S fun it k₂ h₂ tk₂ u₂ io => ?_
  refine comp_run (p := p) (f := f) (s₂ := { s with heap := h₂, toks := tk₂ }) hc' h0 rm (S.up u₂) (fun b o => (S.own o).2.2) u₂.le (fun b o e => S.kb b o e) io hsz ht he fun a C k' h' tk kl ki kn le rd hns kC hC => ?_
  obtain ⟨m, hm⟩ := hns
  refine ⟨m, hm, fun h'' hs'' => hq (.ref a) k' h'' tk ⟨u₂.kl.trans kl, ki.same kC hs'' (Nat.le_refl _), fun b o e => ?_, fun b o e => ?_⟩ rd⟩
  · rcases kn b o e with e' | e'
    · exact u₂.kn b o e'
    · exact .inr e'
  · exact hs''.extBut b o (fun q => by rw [q, hC] at e; cases e) (le b o e)

/-- a comprehension stored under a local name -/
theorem ExS.asgComp {elt iter : Expr} {x y : PySem.Str} {px py : Pos} {ifs : List Expr} {scope : Scope} {pos spos : Pos} {ds : List D} (p : D → Bool) (f : D → D) (hy : storeOkE env y = true)
    (hsw : swapsWith (.ListComp elt [⟨.Name x px, iter, ifs, 0⟩] scope pos) (some (.Name y py)) spos.line env = pure true) (hc : compOk scope env [x, ".0"] = true) (h0 : ∀ d, ((".0" : PySem.Str), d) ∉ σ) (hi : EvI prog w T n env σ μ iter ds) (hsz : ds.length ≤ 100000)
    (ht : ∀ C d, d ∈ ds → EvIfs prog w T n (cenv scope C env) ((x, d) :: drp x σ) μ ifs (p d))
    (he : ∀ C d, d ∈ ds → p d = true → EvE prog w T n (cenv scope C env) ((x, d) :: drp x σ) μ elt (f d))
    (hs : ∀ x, foldedSetIterable iter env x = pure x) : ExS prog w T n env σ μ (.Assign [.Name y py] (.ListComp elt [⟨.Name x px, iter, ifs, 0⟩] scope pos) spos) (.next ((y, .list ((ds.filter p).map f)) :: drp y σ) μ) := fun A s pk k Q E rm S hq => by
  have hc' := CompOk.of hc
  rw [exec_Assign_Name_used _ _ _ _ hsw]
  refine wpAny_bind (wpAny_standAt (wpAny_bind ?_))
  show wpAny _ A (do let _ ← comprehension (.ListComp elt [⟨.Name x px, iter, ifs, 0⟩] scope pos) scope env _ (newList []) false (eval iter env) (some (assign (.Name y py) env))) _ _ s
  refine wpAny_bind (wpAny_mono (wpAny_comprehension_free (use := some (assign (.Name y py) env)) (Q := fun _ s' => Q .next s') rfl hs (closureFor_eq fun z hz => S.ok.c1 z (hc'.fr z hz)) hc'.kind
    (fun z hz hl => lookup_of_nodup hc'.nd (by rw [← hl]; exact hz)) ?_) (fun _ s' hq => wpAny_pure (wpAny_pure hq)) fun _ _ e => e)
  refine hi A s pk k _ _ rm S fun it k₂ h₂ tk₂ u₂ io => ?_
  refine comp_run (p := p) (f := f) (s₂ := { s with heap := h₂, toks := tk₂ }) hc' h0 rm (S.up u₂) (fun b o => (S.own o).2.2) u₂.le (fun b o e => S.kb b o e) io hsz ht he fun a C k' h' tk kl ki kn le rd hns kC hC => ?_
  obtain ⟨m, hm⟩ := hns
  have u : Up k s.heap k' h' tk := ⟨u₂.kl.trans kl, ki, fun b o e => (kn b o e).elim (u₂.kn b o) .inr, le⟩
  obtain ⟨ea, eb⟩ := endU (σ' := σ) (μ' := μ) S u
  show wpAny _ A (assign (.Name y py) env (.ref a)) _ _ _
  refine wpAny_assign_Name ?_
  -- the block's own names are let go behind the store
  have S₁ := S.up u
  have hCo : ∀ b, Own env μ b → b ≠ C := fun b o q => by
    obtain ⟨_, _, ob, e⟩ := S.own o
    rw [q, hC] at e; cases e
  have pkC : pk C = Option.none := by
    cases q : pk C with
    | none => rfl
    | some o => have := S.kb _ _ q; rw [hC] at this; cases this
  refine store_any2 hy S₁ rd fun h₃ tk₃ S₃ hold => ?_
  refine ⟨m, hold C m hm ⟨fun q => hCo _ (.inl rfl) q.symm, fun y c hc => hCo _ (.inr (.inl ⟨y, hc⟩))⟩, fun h₄ hs₄ => hq .next k' h₄ tk₃ ea eb ⟨rfl, S₃.change S₃.top (S₃.kb.same pkC hs₄) (fun b o => (S₃.own o).1) (fun b o ow e => ?_) (Nat.le_refl _)⟩⟩
  refine hs₄.extBut b o (fun q => ?_) e
  subst q
  rcases ow with ow | ow
  · exact hCo _ ow rfl
  · rw [kC] at ow; cases ow
end
section
variable {prog : Program} {w : World} {T : Heap → Prop} {n : Nat} {env : Env} {σ : Sg} {μ : List (Addr × List D)}

theorem Rd.i {k : Kn} {i : Int} {v : Value} (h : Rd k (.int i) v) : ∃ t, v = .int i t := by unfold Rd at h; exact h
theorem Rd.fl {k : Kn} {i : UInt64} {v : Value} (h : Rd k (.flt i) v) : ∃ t, v = .float i t := by unfold Rd at h; exact h
theorem Rd.s {k : Kn} {i : PySem.Str} {v : Value} (h : Rd k (.str i) v) : ∃ t, v = .str i t := by unfold Rd at h; exact h
theorem Rd.st {k : Kn} {i : PySem.Str} {v : Value} (h : Rd k (.strT i) v) : ∃ t, v = .str i t ∧ 1 ≤ t ∧ t < k.t := by unfold Rd at h; exact h
theorem Rd.b {k : Kn} {b : Bool} {v : Value} (h : Rd k (.bool b) v) : v = .bool b := by unfold Rd at h; exact h
theorem Rd.no {k : Kn} {v : Value} (h : Rd k .none v) : v = .none := by unfold Rd at h; exact h
theorem Rd.l {k : Kn} {ds : List D} {v : Value} (h : Rd k (.list ds) v) : ∃ a vs, v = .ref a ∧ KList k a vs ∧ RdL k ds vs := by unfold Rd at h; exact h
theorem Rd.t {k : Kn} {ds : List D} {v : Value} (h : Rd k (.tup ds) v) : ∃ a vs, v = .ref a ∧ KTup k a vs ∧ RdL k ds vs := by unfold Rd at h; exact h
theorem Rd.m {k : Kn} {a : Addr} {v : Value} (h : Rd k (.mut a) v) : v = .ref a := by unfold Rd at h; exact h
theorem Rd.int {k : Kn} {i : Int} {t : Tok} : Rd k (.int i) (.int i t) := by unfold Rd; exact ⟨t, rfl⟩
theorem Rd.flt {k : Kn} {i : UInt64} {t : Tok} : Rd k (.flt i) (.float i t) := by unfold Rd; exact ⟨t, rfl⟩
theorem Rd.str {k : Kn} {i : PySem.Str} {t : Tok} : Rd k (.str i) (.str i t) := by unfold Rd; exact ⟨t, rfl⟩
theorem Rd.bool {k : Kn} {b : Bool} : Rd k (.bool b) (.bool b) := by unfold Rd; rfl
theorem Rd.none {k : Kn} : Rd k .none .none := by unfold Rd; rfl
theorem Rd.list {k : Kn} {ds a vs} (h : KList k a vs) (r : RdL k ds vs) : Rd k (.list ds) (.ref a) := by unfold Rd; exact ⟨a, vs, rfl, h, r⟩
theorem Rd.tup {k : Kn} {ds a vs} (h : KTup k a vs) (r : RdL k ds vs) : Rd k (.tup ds) (.ref a) := by unfold Rd; exact ⟨a, vs, rfl, h, r⟩

-- ints
theorem BinR.add {a b : Int} : BinR prog w T n .Add (.int a) (.int b) (.int (a + b)) := fun A s k v₁ v₂ Q E rm ht ki r₁ r₂ h => by
  obtain ⟨t, rfl⟩ := r₁.i; obtain ⟨u, rfl⟩ := r₂.i
  exact add_int (h _ k s.heap _ (Up.tok ki (Nat.le_succ _)) Rd.int)
theorem BinR.sub {a b : Int} : BinR prog w T n .Sub (.int a) (.int b) (.int (a - b)) := fun A s k v₁ v₂ Q E rm ht ki r₁ r₂ h => by
  obtain ⟨t, rfl⟩ := r₁.i; obtain ⟨u, rfl⟩ := r₂.i
  exact sub_int (h _ k s.heap _ (Up.tok ki (Nat.le_succ _)) Rd.int)
theorem mulOk_of {a b : Int} (h : a.natAbs < 2 ^ 64 ∨ b.natAbs < 2 ^ 64) : IntMulOk a b := by
  have bits : ∀ {x : Int}, x.natAbs < 2 ^ 64 → Builtin.Int.intBits x ≤ 64 := fun {x} hx => intBits_le_64 (by omega) (by omega)
  rcases h with h | h
  · exact IntMulOk.of_left (bits h)
  · exact IntMulOk.of_right (bits h)
theorem BinR.mul {a b : Int} (hm : a.natAbs < 2 ^ 64 ∨ b.natAbs < 2 ^ 64) : BinR prog w T n .Mult (.int a) (.int b) (.int (a * b)) := fun A s k v₁ v₂ Q E rm ht ki r₁ r₂ h => by
  obtain ⟨t, rfl⟩ := r₁.i; obtain ⟨u, rfl⟩ := r₂.i
  exact mul_int (h _ k s.heap _ (Up.tok ki (Nat.le_succ _)) Rd.int) (mulOk_of hm)
theorem BinR.div {a b : Int} (hb : b ≠ 0) (hs : b.natAbs < 1073741824) : BinR prog w T n .FloorDiv (.int a) (.int b) (.int (a.fdiv b)) := fun A s k v₁ v₂ Q E rm ht ki r₁ r₂ h => by
  obtain ⟨t, rfl⟩ := r₁.i; obtain ⟨u, rfl⟩ := r₂.i
  exact floordiv_int hb (h _ k s.heap _ (Up.tok ki (Nat.le_succ _)) Rd.int) (.inl (PyProof.noPylong_small hs))
theorem BinR.mod {a b : Int} (hb : b ≠ 0) : BinR prog w T n .Mod (.int a) (.int b) (.int (a.fmod b)) := fun A s k v₁ v₂ Q E rm ht ki r₁ r₂ h => by
  obtain ⟨t, rfl⟩ := r₁.i; obtain ⟨u, rfl⟩ := r₂.i
  exact mod_int' hb (h _ k s.heap _ (Up.tok ki (Nat.le_succ _)) Rd.int)
theorem BinR.pow {a b : Int} (h0 : 0 ≤ b) (h1 : b ≤ 1000000) (ha : a.natAbs < 2 ^ 64) : BinR prog w T n .Pow (.int a) (.int b) (.int (a ^ b.toNat)) := fun A s k v₁ v₂ Q E rm ht ki r₁ r₂ h => by
  obtain ⟨t, rfl⟩ := r₁.i; obtain ⟨u, rfl⟩ := r₂.i
  exact pow_int_small h0 h1 ha (h _ k s.heap _ (Up.tok ki (Nat.le_succ _)) Rd.int)
theorem UnR.neg {a : Int} : UnR prog w T n .USub (.int a) (.int (-a)) := fun A s k v₁ Q E rm ht ki r₁ h => by
  obtain ⟨t, rfl⟩ := r₁.i
  exact neg_int (h _ k s.heap _ (Up.tok ki (Nat.le_succ _)) Rd.int)
theorem CmpR.eqI {a b : Int} : CmpR prog w T n .Eq (.int a) (.int b) (a == b) := fun A s k v₁ v₂ Q E rm ht ki r₁ r₂ h => by
  obtain ⟨t, rfl⟩ := r₁.i; obtain ⟨u, rfl⟩ := r₂.i
  exact eq_int (h k s.heap s.toks (Up.refl ki))
theorem CmpR.neI {a b : Int} : CmpR prog w T n .NotEq (.int a) (.int b) (a != b) := fun A s k v₁ v₂ Q E rm ht ki r₁ r₂ h => by
  obtain ⟨t, rfl⟩ := r₁.i; obtain ⟨u, rfl⟩ := r₂.i
  exact ne_int (h k s.heap s.toks (Up.refl ki))
theorem CmpR.ltI {a b : Int} : CmpR prog w T n .Lt (.int a) (.int b) (decide (a < b)) := fun A s k v₁ v₂ Q E rm ht ki r₁ r₂ h => by
  obtain ⟨t, rfl⟩ := r₁.i; obtain ⟨u, rfl⟩ := r₂.i
  exact lt_int (h k s.heap s.toks (Up.refl ki))
theorem CmpR.leI {a b : Int} : CmpR prog w T n .LtE (.int a) (.int b) (decide (a ≤ b)) := fun A s k v₁ v₂ Q E rm ht ki r₁ r₂ h => by
  obtain ⟨t, rfl⟩ := r₁.i; obtain ⟨u, rfl⟩ := r₂.i
  exact le_int (h k s.heap s.toks (Up.refl ki))
theorem CmpR.gtI {a b : Int} : CmpR prog w T n .Gt (.int a) (.int b) (decide (b < a)) := fun A s k v₁ v₂ Q E rm ht ki r₁ r₂ h => by
  obtain ⟨t, rfl⟩ := r₁.i; obtain ⟨u, rfl⟩ := r₂.i
  exact gt_int (h k s.heap s.toks (Up.refl ki))
theorem CmpR.geI {a b : Int} : CmpR prog w T n .GtE (.int a) (.int b) (decide (b ≤ a)) := fun A s k v₁ v₂ Q E rm ht ki r₁ r₂ h => by
  obtain ⟨t, rfl⟩ := r₁.i; obtain ⟨u, rfl⟩ := r₂.i
  exact ge_int (h k s.heap s.toks (Up.refl ki))

-- texts
theorem BinR.cat {x y : PySem.Str} (hs : x.length + y.length ≤ 1000000) : BinR prog w T n .Add (.str x) (.str y) (.str (x ++ y)) := fun A s k v₁ v₂ Q E rm ht ki r₁ r₂ h => by
  obtain ⟨t, rfl⟩ := r₁.s; obtain ⟨u, rfl⟩ := r₂.s
  exact wpAny_with_toks (n := s.toks) (Nat.le_refl _) (add_str (fun t' tk htk => h _ k s.heap tk (Up.tok ki htk) Rd.str) (by rw [sizeLine_eq]; omega))
/-- two texts that are not empty: a new one -/
theorem BinR.catT {x y : PySem.Str} (hs : x.length + y.length ≤ 1000000) (hx : x.length ≠ 0) (hy : y.length ≠ 0) : BinR prog w T n .Add (.str x) (.str y) (.strT (x ++ y)) := fun A s k v₁ v₂ Q E rm ht ki r₁ r₂ h => by
  obtain ⟨t, rfl⟩ := r₁.s; obtain ⟨u, rfl⟩ := r₂.s
  refine P.add_str ?_
  rw [if_neg (by simpa using hx), if_neg (by simpa using hy)]
  exact ⟨by rw [sizeLine_eq, Str.length_append]; omega, h _ _ s.heap _ (Up.fresh ki) (by unfold Rd; exact ⟨_, rfl, Nat.le_trans ki.one ki.tk, Nat.lt_succ_self _⟩)⟩
theorem CmpR.eqS {x y : PySem.Str} : CmpR prog w T n .Eq (.str x) (.str y) (x == y) := fun A s k v₁ v₂ Q E rm ht ki r₁ r₂ h => by
  obtain ⟨t, rfl⟩ := r₁.s; obtain ⟨u, rfl⟩ := r₂.s
  exact eq_str (h k s.heap s.toks (Up.refl ki))
theorem CmpR.neS {x y : PySem.Str} : CmpR prog w T n .NotEq (.str x) (.str y) (x != y) := fun A s k v₁ v₂ Q E rm ht ki r₁ r₂ h => by
  obtain ⟨t, rfl⟩ := r₁.s; obtain ⟨u, rfl⟩ := r₂.s
  exact ne_str (h k s.heap s.toks (Up.refl ki))
theorem CmpR.inS {x y : PySem.Str} : CmpR prog w T n .In (.str y) (.str x) (Txt.contains x y) := fun A s k v₁ v₂ Q E rm ht ki r₁ r₂ h => by
  obtain ⟨t, rfl⟩ := r₁.s; obtain ⟨u, rfl⟩ := r₂.s
  exact SB.contains (h k s.heap s.toks (Up.refl ki))
theorem CmpR.notInS {x y : PySem.Str} : CmpR prog w T n .NotIn (.str y) (.str x) (!Txt.contains x y) := fun A s k v₁ v₂ Q E rm ht ki r₁ r₂ h => by
  obtain ⟨t, rfl⟩ := r₁.s; obtain ⟨u, rfl⟩ := r₂.s
  exact SB.notContains (h k s.heap s.toks (Up.refl ki))
theorem BinR.mulS {x : PySem.Str} {i : Int} (hok : MulOk x i) : BinR prog w T n .Mult (.str x) (.int i) (.str (Txt.mul x i)) := fun A s k v₁ v₂ Q E rm ht ki r₁ r₂ h => by
  obtain ⟨t, rfl⟩ := r₁.s; obtain ⟨u, rfl⟩ := r₂.i
  exact wpAny_with_toks (n := s.toks) (Nat.le_refl _) (SB.mul hok fun t' tk htk => h _ k s.heap tk (Up.tok ki htk) Rd.str)

-- lists
structure TOk (T : Heap → Prop) : Prop where
  le : TLe T
  ns : ∀ h, T h → ∃ mg, h.Ns mainGlobals mg
theorem BinR.catL {xs ys : List D} (hs : xs.length + ys.length ≤ 100000) : BinR prog w T n .Add (.list xs) (.list ys) (.list (xs ++ ys)) := fun A s k v₁ v₂ Q E rm ht ki r₁ r₂ h => by
  obtain ⟨a, vs, rfl, l₁, m₁⟩ := r₁.l; obtain ⟨b, us, rfl, l₂, m₂⟩ := r₂.l
  have e1 := m₁.length
  have e2 := m₂.length
  obtain ⟨⟨cls, dd, data, sl⟩, ho, hc, n, hd⟩ := l₁.at ki
  obtain ⟨⟨cls2, dd2, data2, sl2⟩, ho2, hc2, n2, hd2⟩ := l₂.at ki
  simp only at hc hd hc2 hd2
  subst hc hd hc2 hd2
  have e : vs.toArray ++ us.toArray = (vs ++ us).toArray := by simp
  refine concat_meets ⟨_, ho, rfl⟩ ⟨_, ho2, rfl⟩ noFill_list_add seq_list_add PySem.F.slot_list_add PySem.F.entry_list_add (PySem.F.args_list_add_2 _ _) (list_addW a b vs.toArray us.toArray n n2 dd dd2 sl sl2 (by rw [sizeLine_eq]; simp; omega)) ⟨ho, ho2, ?_⟩
  rw [e]
  obtain ⟨u₂, g⟩ := Up.new (o := { cls := .type "list", data := .seq (vs ++ us).toArray }) ki rfl
  exact h _ _ _ _ u₂ (Rd.list ⟨_, g, rfl, _, rfl⟩ ((m₁.append m₂).le u₂.kl))

-- items and slices
theorem EvE.idx {v i p ds d j} (hv : EvE prog w T n env σ μ v (.list ds)) (hi : EvE prog w T n env σ μ i (.int j)) (h0 : 0 ≤ j) (h1 : j < 1000000) (hd : ds[j.toNat]? = some d)
    (hs : ∀ o iv, subscripted i false o iv = operate [o, iv] (getItem o iv)) : EvE prog w T n env σ μ (.Subscript v i p) d := fun A s pk k Q E rm S h => by
  refine Subscript_ (hv A s pk k _ _ rm S fun o k₁ h₁ t₁ u₁ r₁ => hi A _ pk k₁ _ _ rm (S.up u₁) fun iv k₂ h₂ t₂ u₂ r₂ => ?_)
  obtain ⟨a, vs, rfl, l, m⟩ := (r₁.le u₂.kl).l
  obtain ⟨t, rfl⟩ := r₂.i
  obtain ⟨x, e, r⟩ := m.get hd
  have hl := l.at u₂.ki
  exact tail_any hl.typeIs slot_list_getitem.lookup (wpAny_getItem_list hl h0 (by omega) (by simpa using e) (h x k₂ h₂ t₂ (u₁.trans u₂) r)) (hs _ _)
theorem EvE.idxNeg {v i p ds d j} (hv : EvE prog w T n env σ μ v (.list ds)) (hi : EvE prog w T n env σ μ i (.int j)) (h0 : j < 0) (h1 : -(ds.length : Int) ≤ j) (h2 : -1000000 < j) (hd : ds[(j + ds.length).toNat]? = some d)
    (hs : ∀ o iv, subscripted i false o iv = operate [o, iv] (getItem o iv)) : EvE prog w T n env σ μ (.Subscript v i p) d := fun A s pk k Q E rm S h => by
  refine Subscript_ (hv A s pk k _ _ rm S fun o k₁ h₁ t₁ u₁ r₁ => hi A _ pk k₁ _ _ rm (S.up u₁) fun iv k₂ h₂ t₂ u₂ r₂ => ?_)
  obtain ⟨a, vs, rfl, l, m⟩ := (r₁.le u₂.kl).l
  obtain ⟨t, rfl⟩ := r₂.i
  obtain ⟨x, e, r⟩ := m.get hd
  have hl := l.at u₂.ki
  have hsz : vs.toArray.size = ds.length := by rw [List.size_toArray, m.length]
  exact tail_any hl.typeIs slot_list_getitem.lookup (wpAny_getItem_list_neg hl h0 (by rw [hsz]; exact h1) (by omega) (by rw [hsz]; simpa using e) (h x k₂ h₂ t₂ (u₁.trans u₂) r)) (hs _ _)
/-- the last item of the list that is built -/
theorem EvE.idxMutNeg {v i p a ds d j} (ha : (a, ds) ∈ μ) (hp : soft ds = false) (hv : EvE prog w T n env σ μ v (.mut a)) (hi : EvE prog w T n env σ μ i (.int j)) (h0 : j < 0) (h1 : -(ds.length : Int) ≤ j) (h2 : -1000000 < j) (hd : ds[(j + ds.length).toNat]? = some d)
    (hs : ∀ o iv, subscripted i false o iv = operate [o, iv] (getItem o iv)) : EvE prog w T n env σ μ (.Subscript v i p) d := fun A s pk k Q E rm S h => by
  refine Subscript_ (hv A s pk k _ _ rm S fun o k₁ h₁ t₁ u₁ r₁ => hi A _ pk k₁ _ _ rm (S.up u₁) fun iv k₂ h₂ t₂ u₂ r₂ => ?_)
  have := r₁.m; subst this
  obtain ⟨t, rfl⟩ := r₂.i
  obtain ⟨_, _, _, _, l⟩ := ((S.up u₁).up u₂).mu _ ha
  obtain ⟨vs, l, m⟩ := l.plain hp
  obtain ⟨x, e, r⟩ := m.get hd
  have hl := l.isList
  have hsz : vs.toArray.size = ds.length := by rw [List.size_toArray, m.length]
  exact tail_any (s := { s with heap := h₂, toks := t₂ }) hl.typeIs slot_list_getitem.lookup (wpAny_getItem_list_neg hl h0 (by rw [hsz]; exact h1) (by omega) (by rw [hsz]; simpa using e) (h x k₂ h₂ t₂ (u₁.trans u₂) r)) (hs _ _)
/-- a sign of a text -/
theorem EvE.idxS {v i p x j c} (hv : EvE prog w T n env σ μ v (.str x)) (hi : EvE prog w T n env σ μ i (.int j)) (h0 : 0 ≤ j) (h1 : j < 1000000) (hc : x.cps[j.toNat]? = some c)
    (hs : ∀ o iv, subscripted i false o iv = operate [o, iv] (getItem o iv)) : EvE prog w T n env σ μ (.Subscript v i p) (.strT ⟨#[c]⟩) := fun A s pk k Q E rm S h => by
  refine Subscript_ (hv A s pk k _ _ rm S fun o k₁ h₁ t₁ u₁ r₁ => hi A _ pk k₁ _ _ rm (S.up u₁) fun iv k₂ h₂ t₂ u₂ r₂ => ?_)
  obtain ⟨t', rfl⟩ := r₁.s
  obtain ⟨t, rfl⟩ := r₂.i
  have hr : (decide (j < -(2 ^ 63 : Int)) || decide (j ≥ 2 ^ 63)) = false := by simp; omega
  refine tail_any (typeIs_str _ x t') F.slot_str_getitem.lookup (P.getItem_str (c := c) hr (StrLaws.at_nonneg h0 hc) ?_) (hs _ _)
  exact h _ _ h₂ _ ((u₁.trans u₂).trans (Up.fresh u₂.ki)) (by unfold Rd; exact ⟨_, rfl, Nat.le_trans u₂.ki.one u₂.ki.tk, Nat.lt_succ_self _⟩)

noncomputable def EvP (prog : Program) (w : World) (T : Heap → Prop) (n : Nat) (env : Env) (σ : Sg) (μ : List (Addr × List D)) (e : Option Expr) (i : Option Int) : Prop :=
  ∀ (A : Around) (s : Shared) (pk : Pk) (k : Kn) (Q : Value → Shared → Prop) (E : Value → Shared → Prop), Rm n A → St T pk k env s.heap s.toks σ μ →
    (∀ v k' h' tk, Up k s.heap k' h' tk → IsPart v i → Q v { s with heap := h', toks := tk }) → wpAny (model prog w) A (evalPart e env) Q E s
theorem EvP.none : EvP prog w T n env σ μ .none .none := fun A s pk k Q E rm S h => by
  rw [evalPart_none]; exact wpAny_pure (h .none k s.heap s.toks (Up.refl S.kh) .none)
theorem EvP.some {e i} (he : EvE prog w T n env σ μ e (.int i)) : EvP prog w T n env σ μ (.some e) (.some i) := fun A s pk k Q E rm S h => by
  rw [evalPart_some]
  exact he A s pk k _ _ rm S fun v k₁ h₁ t₁ u₁ r₁ => by
    obtain ⟨t, rfl⟩ := r₁.i
    exact h _ k₁ h₁ t₁ u₁ (.int _ _)

theorem RdL.slice {k : Kn} {ds : List D} {vs : List Value} {lo hi : Option Int} (r : RdL k ds vs) {es : List D} (he : ∀ us : List Value, us.length = ds.length → ∃ a b : Nat, slicePick us.toArray lo hi Option.none = ((us.drop a).take b).toArray ∧ es = (ds.drop a).take b) :
    RdL k es (slicePick vs.toArray lo hi Option.none).toList := by
  obtain ⟨a, b, e1, e2⟩ := he vs r.length
  rw [e1, e2]
  exact (r.drop a).take b
theorem EvE.slice {v lo hi p pos ds a b} (hv : EvE prog w T n env σ μ v (.list ds)) (hlo : EvP prog w T n env σ μ lo a) (hhi : EvP prog w T n env σ μ hi b) {es : List D} (hsz : ds.length ≤ 100000)
    (he : ∀ us : List Value, us.length = ds.length → ∃ a' b' : Nat, slicePick us.toArray a b Option.none = ((us.drop a').take b').toArray ∧ es = (ds.drop a').take b') :
    EvE prog w T n env σ μ (.Subscript v (.Slice lo hi .none p) pos) (.list es) := fun A s pk k Q E rm S h => by
  refine Subscript_ (hv A s pk k _ _ rm S fun o k₁ h₁ t₁ u₁ r₁ => wpAny_Slice (hlo A _ pk k₁ _ _ rm (S.up u₁) fun vl k₂ h₂ t₂ u₂ p₂ => hhi A _ pk k₂ _ _ rm ((S.up u₁).up u₂) fun vu k₃ h₃ t₃ u₃ p₃ => ?_))
  rw [evalPart_none]
  refine wpAny_pure ?_
  obtain ⟨l, vs, rfl, kl, m⟩ := (r₁.le (u₂.trans u₃).kl).l
  have hl := kl.at u₃.ki
  have hlen := m.length
  show wpAny (model prog w) A (subscriptTail _ _ _ _) _ _ _
  refine tail_any (hl.push _).typeIs slot_list_getitem.lookup (wpAny_getItem_list_slice (hl.push _) (Heap.IsSliceOf.new ..) p₂ p₃ .none (by simp) ?_ (by rw [sizeLine_eq, List.size_toArray]; omega)) rfl
  have u₄ := Up.grow u₃.ki ((Le.push h₃ { cls := .type "slice", data := .fields #[vl, vu, .none] }).trans (Le.push (h₃.push { cls := .type "slice", data := .fields #[vl, vu, .none] }) { cls := .type "list", data := .seq (slicePick vs.toArray a b Option.none) })) (Nat.le_refl t₃)
  refine h _ _ _ _ ((u₁.trans u₂).trans (u₃.trans u₄)) (Rd.list ⟨_, grown_new (Heap.get?_push_size _ rfl) ?_, rfl, 0, ?_⟩ ((m.le u₄.kl).slice he))
  · show h₃.get? (h₃.push _).objs.size = _
    rw [Heap.size_push]
    cases q : h₃.get? (h₃.objs.size + 1) with
    | none => rfl
    | some o => exact absurd (Heap.lt_size q) (Nat.not_lt.mpr (Nat.le_succ _))
  · simp
theorem slice_from {ds : List D} (a : Nat) (us : List Value) (h : us.length = ds.length) : ∃ a' b' : Nat, slicePick us.toArray (some (a : Int)) Option.none Option.none = ((us.drop a').take b').toArray ∧ ds.drop a = (ds.drop a').take b' :=
  ⟨a, ds.length, by rw [slicePick_from', List.take_of_length_le (by rw [List.length_drop]; omega)], by rw [List.take_of_length_le (by rw [List.length_drop]; omega)]⟩
theorem slice_upto {ds : List D} (b : Nat) (us : List Value) (h : us.length = ds.length) : ∃ a' b' : Nat, slicePick us.toArray Option.none (some (b : Int)) Option.none = ((us.drop a').take b').toArray ∧ ds.take b = (ds.drop a').take b' :=
  ⟨0, b, by rw [slicePick_upto']; simp, by simp⟩
theorem slice_run {ds : List D} (a b : Nat) (hab : a ≤ b) (hb : b ≤ ds.length) (us : List Value) (h : us.length = ds.length) :
    ∃ a' b' : Nat, slicePick us.toArray (some (a : Int)) (some (b : Int)) Option.none = ((us.drop a').take b').toArray ∧ (ds.drop a).take (b - a) = (ds.drop a').take b' :=
  ⟨a, b - a, by rw [slicePick_run _ a b (by rw [List.size_toArray]; omega) hab], rfl⟩

/-- a text from its second sign on: a new one -/
theorem EvE.tailS {v lo p pos x} (hv : EvE prog w T n env σ μ v (.str x)) (hlo : EvE prog w T n env σ μ lo (.int 1)) (hx : 1 ≤ x.length) (hsz : x.length ≤ 1000000) :
    EvE prog w T n env σ μ (.Subscript v (.Slice (.some lo) .none .none p) pos) (.strT ⟨(x.cps.toList.drop 1).toArray⟩) := fun A s pk k Q E rm S h => by
  refine Subscript_ (hv A s pk k _ _ rm S fun o k₁ h₁ t₁ u₁ r₁ => wpAny_Slice (by
    rw [evalPart_some]
    refine hlo A _ pk k₁ _ _ rm (S.up u₁) fun vl k₂ h₂ t₂ u₂ r₂ => ?_
    rw [evalPart_none]
    refine wpAny_pure ?_
    refine wpAny_pure ?_
    obtain ⟨t, rfl⟩ := r₁.s
    obtain ⟨t', rfl⟩ := r₂.i
    have hi := StrLaws.sliceIdx_none_hi (some 1) x.length
    have e1 : Builtin.Str.strSliceIndices (some 1) (some (x.length : Int)) 1 x.length = (List.range (x.length - 1)).map (1 + ·) := by
      have := StrLaws.strSliceIndices_plain (a := 1) (b := x.length) (len := x.length) hx (Nat.le_refl _)
      simpa using this
    show wpAny (model prog w) A (subscriptTail _ _ _ _) _ _ _
    refine tail_any (typeIs_str _ x t) F.slot_str_getitem.lookup (wpAny_getItem_str_slice (l := some (1, t')) (u := Option.none) (st := Option.none) ⟨_, Heap.get?_push_size _ rfl, rfl, rfl⟩ rfl ?_) rfl
    have e2 : slicePicked x (some (1, t')) Option.none Option.none = (List.range (x.length - 1)).map (1 + ·) := by
      show Builtin.Str.strSliceIndices (some 1) Option.none 1 x.length = _
      rw [hi, e1]
    have e3 : ((List.range (x.length - 1)).map (1 + ·)).filterMap (x.cps[·]?) = x.cps.toList.drop 1 := by
      have := StrLaws.picks x.cps.toList (x.length - 1) 1 (by show 1 + (x.cps.size - 1) ≤ x.cps.toList.length; have : x.cps.size = x.length := rfl; simp; omega)
      have e : ∀ l : List Nat, l.filterMap (x.cps[·]?) = l.filterMap (x.cps.toList[·]?) := fun l => by congr 1; funext i; simp
      rw [e, this, List.take_of_length_le]
      rw [List.length_drop]; show x.cps.toList.length - 1 ≤ x.cps.size - 1; simp
    unfold sliceMade
    rw [e2, e3]
    have hne : ((Option.map (fun (x : Int × Tok) => x.1) Option.none).getD 1 == 1 && ((List.range (x.length - 1)).map (1 + ·)).length == x.length) = false := by
      have : ((List.range (x.length - 1)).map (1 + ·)).length = x.length - 1 := by simp
      rw [this]
      have : (x.length - 1 == x.length) = false := by simp; omega
      rw [this]; simp
    rw [if_neg (by rw [hne]; exact Bool.false_ne_true)]
    have u₄ := Up.grow u₂.ki (Le.push h₂ { cls := .type "slice", data := .fields #[.int 1 t', .none, .none] }) (Nat.le_refl t₂)
    refine ⟨?_, h _ _ _ _ ((u₁.trans u₂).trans (u₄.trans (Up.fresh u₄.ki))) (by unfold Rd; exact ⟨_, rfl, Nat.le_trans u₂.ki.one u₂.ki.tk, Nat.lt_succ_self _⟩)⟩
    show ((x.cps.toList.drop 1).toArray).size ≤ sizeLine
    rw [sizeLine_eq]
    have : x.cps.toList.length = x.length := by simp; rfl
    simp only [List.size_toArray, List.length_drop]
    omega))
end
section
variable {prog : Program} {w : World} {T : Heap → Prop} {n : Nat} {env : Env} {σ : Sg} {μ : List (Addr × List D)}

/-- one fresh iterator object -/
theorem itOk_one {A : Around} {h₀ h : Heap} {k : Kn} {t : Nat} {ds : List D} {o : Obj} {P : Nat → Value → Prop} {Sx : Nat → Heap → Prop} (ki : KIn k h t) (le : Le h₀ h)
    (W : Walks prog w A h.objs.size [h.objs.size] [h.objs.size] ds.length P Sx) (s0 : Sx 0 (h.push o)) (al : ∀ i g, Sx i g → ∃ o, g.get? h.objs.size = some o) (hP : ∀ i d v, ds[i]? = some d → P i v → Rd k d v) :
    ItOk prog w A h₀ k (h.push o) ds (.ref h.objs.size) :=
  ⟨h.objs.size, [h.objs.size], [h.objs.size], P, Sx, rfl, W, s0, fun b hb => by rw [List.mem_singleton.mp hb]; exact ⟨ki.size, le.none (get_size h)⟩,
    fun b hb => by rw [List.mem_singleton.mp hb]; exact .inr (le.none (get_size h)), fun i g hs b hb => by rw [List.mem_singleton.mp hb]; exact al i g hs, hP⟩
theorem Up.push {k k₁ : Kn} {h h₁ : Heap} {t₁ : Nat} {o : Obj} (u : Up k h k₁ h₁ t₁) : Up k h k₁ (h₁.push o) t₁ :=
  ⟨u.kl, u.ki.le (Le.push _ _) (Nat.le_refl _), u.kn, u.le.trans (Le.push _ _)⟩

theorem EvI.str {iter x} (h : EvE prog w T n env σ μ iter (.str x)) : EvI prog w T n env σ μ iter (x.cps.toList.map fun c => .str ⟨#[c]⟩) := fun A s pk k Q E rm S hq =>
  h A s pk k _ _ rm S fun v k₁ h₁ t₁ u₁ r₁ => by
    obtain ⟨t, rfl⟩ := r₁.s
    have hlen : (x.cps.toList.map fun c => (D.str ⟨#[c]⟩)).length = x.cps.size := by simp
    have hP : ∀ i d v, (x.cps.toList.map fun c => (D.str ⟨#[c]⟩))[i]? = some d → SignAt x i v → Rd k₁ d v := fun i d v hd ⟨c, u, hc, e⟩ => by
      subst e
      have hc' : x.cps.toList[i]? = some c := by simpa using hc
      rw [List.getElem?_map, hc'] at hd
      cases hd
      exact Rd.str
    cases ha : x.cps.all (· < 128)
    · refine wpAny_pyIter_wide ha (hq _ k₁ _ _ u₁.push (itOk_one u₁.ki u₁.le (hlen ▸ Walks.strWide rm.1 _ x t) ⟨_, Heap.get?_push_size _ rfl, rfl, rfl⟩ (fun i g ⟨o, a, _⟩ => ⟨o, a⟩) hP))
    · refine wpAny_pyIter_ascii ha (hq _ k₁ _ _ u₁.push (itOk_one u₁.ki u₁.le (hlen ▸ Walks.strAscii rm.1 _ x t) ⟨_, Heap.get?_push_size _ rfl, rfl, rfl⟩ (fun i g ⟨o, a, _⟩ => ⟨o, a⟩) hP))
theorem EvI.tup {iter ds} (h : EvE prog w T n env σ μ iter (.tup ds)) : EvI prog w T n env σ μ iter ds := fun A s pk k Q E rm S hq =>
  h A s pk k _ _ rm S fun v k₁ h₁ t₁ u₁ r₁ => by
    obtain ⟨a, vs, rfl, l, r⟩ := r₁.t
    refine wpAny_pyIter_tuple (l.at u₁.ki) ?_
    obtain ⟨o, ka, _⟩ := id l
    have hne : a ≠ h₁.objs.size := fun e => by rw [e, u₁.ki.size] at ka; cases ka
    have hlen : vs.toArray.size = ds.length := by rw [List.size_toArray, r.length]
    refine hq _ k₁ _ _ u₁.push
      ⟨h₁.objs.size, [h₁.objs.size, a], [h₁.objs.size], _, _, rfl, hlen ▸ Walks.tuple rm.1 h₁.objs.size a hne vs.toArray, ⟨⟨_, Heap.get?_push_size _ rfl, rfl, rfl⟩, (l.at u₁.ki).push _⟩, ?_, ?_, ?_, ?_⟩
    · intro b hb
      rw [List.mem_singleton.mp hb]
      exact ⟨u₁.ki.size, u₁.le.none (get_size h₁)⟩
    · intro b hb
      rcases List.mem_cons.mp hb with e | hb
      · rw [e]; exact .inr (u₁.le.none (get_size h₁))
      · rw [List.mem_singleton.mp hb]; exact .inl ⟨o, ka⟩
    · rintro i g ⟨⟨o₁, g₁, _⟩, ⟨o₂, g₂, _⟩⟩ b hb
      rcases List.mem_cons.mp hb with e | hb
      · rw [e]; exact ⟨o₁, g₁⟩
      · rw [List.mem_singleton.mp hb]; exact ⟨o₂, g₂⟩
    · intro i d v hd hP
      obtain ⟨v', e, q⟩ := r.get hd
      have hP' : vs[i]? = some v := by simpa using hP
      rw [e] at hP'; cases hP'
      exact q

/-- range(a, b) as data -/
noncomputable def rng (a b : Int) : List D := (List.range (b - a).toNat).map fun (i : Nat) => .int (a + (i : Int))
theorem rng_len {a b : Int} : (rng a b).length = (b - a).toNat := by simp [rng]
theorem rng_get {a b : Int} {i : Nat} (h : (i : Int) < b - a) : (rng a b)[i]? = some (.int (a + i)) := by
  unfold rng
  rw [List.getElem?_map, List.getElem?_range (by omega)]; rfl
theorem range_small {a b : Int} (ha : -1000000 < a ∧ a < 1000000) (hb : -1000000 < b ∧ b < 1000000) : Builtin.Range.small a b 1 = true ∧ Builtin.Range.rangeSize a b 1 = ((b - a).toNat : Int) := by
  have e : Builtin.Range.rangeSize a b 1 = ((b - a).toNat : Int) := by
    unfold Builtin.Range.rangeSize
    simp only [show (1 : Int) > 0 by decide, if_true]
    split
    · rw [Int.toNat_of_nonneg (by omega)]
      have : (b - a + (1 - 1)) / 1 = b - a := by rw [Int.ediv_one]; omega
      first | omega | (rw [Int.ediv_one]; omega)
    · have : (b - a).toNat = 0 := by omega
      rw [this]; rfl
  refine ⟨?_, e⟩
  unfold Builtin.Range.small
  rw [e]
  unfold Builtin.Range.rangeFitsLong
  simp only [Bool.and_eq_true, Bool.or_eq_true, decide_eq_true_eq, beq_iff_eq]
  refine ⟨⟨⟨⟨?_, ?_⟩, ?_⟩, ?_⟩, .inr ?_⟩
  all_goals first | omega | (simp only [show (1 : Int) > 0 by decide, if_true, Bool.and_eq_true, decide_eq_true_eq]; omega) | decide
theorem itOk_range {A : Around} {h₀ h₁ : Heap} {k₁ : Kn} {t₁ : Nat} {a b : Int} {o : Obj} (hh : A.handled = none) (ki : KIn k₁ h₁ t₁) (le : Le h₀ h₁)
    (s0 : IsRangeIter (h₁.push o) h₁.objs.size a ((b - a).toNat : Int) 1) : ItOk prog w A h₀ k₁ (h₁.push o) (rng a b) (.ref h₁.objs.size) := by
  have W := Walks.range (prog := prog) (w := w) (A := A) hh h₁.objs.size a 1 (b - a).toNat
  rw [← rng_len (a := a) (b := b)] at W
  refine itOk_one ki le W ?_ (fun i g hs => ⟨_, hs⟩) fun i d v hd ⟨t, e⟩ => ?_
  · show IsRangeIter _ _ (a + ((0 : Nat) : Int) * 1) (_ - ((0 : Nat) : Int)) 1
    simpa [rng_len] using s0
  · subst e
    have hi : i < (rng a b).length := by
      by_cases q : i < (rng a b).length
      · exact q
      · rw [List.getElem?_eq_none (by omega)] at hd; cases hd
    rw [rng_len] at hi
    rw [rng_get (by omega)] at hd
    cases hd
    rw [Int.mul_one]
    exact Rd.int
theorem EvI.range1 {x np e pos b} (hf : EvF prog w T n env σ μ (.Name x np) (.type "range")) (he : starEach [e] env = [(false, eval e env)]) (ha : EvE prog w T n env σ μ e (.int b)) (hb : -1000000 < b ∧ b < 1000000) :
    EvI prog w T n env σ μ (.Call (.Name x np) [e] [] pos) (rng 0 b) := fun A s pk k Q E rm S hq => by
  refine wpAny_Call_ofName (hf A s pk k _ _ rm S ?_)
  have hp : (starEach [e] env).any (·.1) = false := by rw [he]; rfl
  refine callWith_of (P := T) (by show ((backTo pos (starEach [e] env)).any (·.1) || false) = false; rw [backTo_plain hp]; rfl) Quick.type ?_
  refine evalArgs_any hp (EvL.cons he ha EvL.nil A s pk k pos _ _ rm S fun vs k₁ h₁ t₁ u₁ r₁ => ⟨(S.up u₁).topAt, ?_⟩)
  unfold RdL at r₁
  obtain ⟨v, r, rfl, rv, rr⟩ := r₁
  unfold RdL at rr
  subst rr
  obtain ⟨t, rfl⟩ := rv.i
  obtain ⟨sm, sz⟩ := range_small (a := 0) (b := b) (by omega) hb
  refine call_range_1 (wpAny_pyIter_range (IsRange.new ..) sm ?_)
  rw [sz]
  have u₂ : Up k s.heap k₁ (h₁.push { cls := .type "range", data := .fields #[.int 0 t₁, .int b t, .int 1 (t₁ + 1)] }) (t₁ + 1 + 1) := u₁.push.trans (Up.tok u₁.push.ki (by omega))
  exact hq _ k₁ _ _ u₂.push (itOk_range rm.1 u₂.ki u₂.le (Heap.get?_push_size _ rfl))
theorem EvI.range2 {x np e f pos a b} (hf : EvF prog w T n env σ μ (.Name x np) (.type "range")) (he : starEach [e, f] env = [(false, eval e env), (false, eval f env)]) (ha : EvE prog w T n env σ μ e (.int a)) (hb' : EvE prog w T n env σ μ f (.int b))
    (ha1 : -1000000 < a ∧ a < 1000000) (hb : -1000000 < b ∧ b < 1000000) (he2 : starEach [f] env = [(false, eval f env)]) :
    EvI prog w T n env σ μ (.Call (.Name x np) [e, f] [] pos) (rng a b) := fun A s pk k Q E rm S hq => by
  refine wpAny_Call_ofName (hf A s pk k _ _ rm S ?_)
  have hp : (starEach [e, f] env).any (·.1) = false := by rw [he]; rfl
  refine callWith_of (P := T) (by show ((backTo pos (starEach [e, f] env)).any (·.1) || false) = false; rw [backTo_plain hp]; rfl) Quick.type ?_
  refine evalArgs_any hp (EvL.cons (by rw [he, he2]) ha (EvL.cons (by rw [he2]; rfl) hb' EvL.nil) A s pk k pos _ _ rm S fun vs k₁ h₁ t₁ u₁ r₁ => ⟨(S.up u₁).topAt, ?_⟩)
  unfold RdL at r₁
  obtain ⟨v, r, rfl, rv, rr⟩ := r₁
  unfold RdL at rr
  obtain ⟨v', r', rfl, rv', rr⟩ := rr
  unfold RdL at rr
  subst rr
  obtain ⟨t, rfl⟩ := rv.i
  obtain ⟨t', rfl⟩ := rv'.i
  obtain ⟨sm, sz⟩ := range_small (a := a) (b := b) ha1 hb
  refine call_range_2 (wpAny_pyIter_range (IsRange.new ..) sm ?_)
  rw [sz]
  have u₂ : Up k s.heap k₁ (h₁.push { cls := .type "range", data := .fields #[.int a t, .int b t', .int 1 t₁] }) (t₁ + 1) := u₁.push.trans (Up.tok u₁.push.ki (by omega))
  exact hq _ k₁ _ _ u₂.push (itOk_range rm.1 u₂.ki u₂.le (Heap.get?_push_size _ rfl))

-- built-in calls
theorem RdL.one1 {k : Kn} {d : D} {vs : List Value} (r : RdL k [d] vs) : ∃ v, vs = [v] ∧ Rd k d v := by
  unfold RdL at r
  obtain ⟨v, r', rfl, a, b⟩ := r
  unfold RdL at b; subst b
  exact ⟨v, rfl, a⟩
theorem RdL.two2 {k : Kn} {d e : D} {vs : List Value} (r : RdL k [d, e] vs) : ∃ v u, vs = [v, u] ∧ Rd k d v ∧ Rd k e u := by
  unfold RdL at r
  obtain ⟨v, r', rfl, a, b⟩ := r
  obtain ⟨u, rfl, c⟩ := b.one1
  exact ⟨v, u, rfl, a, c⟩
theorem RdL.three3 {k : Kn} {d e f : D} {vs : List Value} (r : RdL k [d, e, f] vs) : ∃ v u x, vs = [v, u, x] ∧ Rd k d v ∧ Rd k e u ∧ Rd k f x := by
  unfold RdL at r
  obtain ⟨v, r', rfl, a, b⟩ := r
  obtain ⟨u, x, rfl, c, d⟩ := b.two2
  exact ⟨v, u, x, rfl, a, c, d⟩

theorem CallC.len {ds : List D} (h : ds.length ≤ 1000000) : CallC prog w T n (.builtin "len") [.list ds] (.int ds.length) := fun A s k vs Q E rm ht ki r hq => by
  obtain ⟨v, rfl, rv⟩ := r.one1
  obtain ⟨a, us, rfl, l, m⟩ := rv.l
  have hl := m.length
  refine Calls.call_len_list (l.at ki) (by rw [List.size_toArray]; omega) (hq _ k s.heap _ (Up.tok ki (by omega)) ?_)
  rw [List.size_toArray, hl]; exact Rd.int
theorem CallC.lenS {x : PySem.Str} (h : x.length ≤ 1000000) : CallC prog w T n (.builtin "len") [.str x] (.int x.length) := fun A s k vs Q E rm ht ki r hq => by
  obtain ⟨v, rfl, rv⟩ := r.one1
  obtain ⟨t, rfl⟩ := rv.s
  exact P.len_str (by omega) (hq _ k s.heap _ (Up.tok ki (by omega)) Rd.int)
theorem CallC.intB {b : Bool} : CallC prog w T n (.type "int") [.bool b] (.int (if b = true then 1 else 0)) := fun A s k vs Q E rm ht ki r hq => by
  obtain ⟨v, rfl, rv⟩ := r.one1
  have := rv.b; subst this
  exact call_int_bool (hq _ k s.heap _ (Up.tok ki (by omega)) Rd.int)
theorem CallC.absI {a : Int} : CallC prog w T n (.builtin "abs") [.int a] (.int (if a < 0 then -a else a)) := fun A s k vs Q E rm ht ki r hq => by
  obtain ⟨v, rfl, rv⟩ := r.one1
  obtain ⟨t, rfl⟩ := rv.i
  exact wpAny_with_toks (n := s.toks) (Nat.le_refl _) (call_abs_int fun u tk htk => hq _ k s.heap tk (Up.tok ki htk) Rd.int)
theorem CallC.absF {a : UInt64} : CallC prog w T n (.builtin "abs") [.flt a] (.flt (Float64.abs a)) := fun A s k vs Q E rm ht ki r hq => by
  obtain ⟨v, rfl, rv⟩ := r.one1
  obtain ⟨t, rfl⟩ := rv.fl
  exact Flt.call_abs_float (hq _ k s.heap _ (Up.tok ki (by omega)) Rd.flt)

/-- the list's numbers, as the library's pairs -/
theorem ints_pairs {k : Kn} : ∀ {ns : List Int} {vs : List Value}, RdL k (ns.map .int) vs → ∃ ps : List (Int × Tok), vs = ps.map (fun p => .int p.1 p.2) ∧ ps.map (·.1) = ns
  | [], vs, h => by unfold List.map RdL at h; subst h; exact ⟨[], rfl, rfl⟩
  | n :: ns, vs, h => by
    unfold List.map RdL at h
    obtain ⟨v, r, rfl, a, b⟩ := h
    obtain ⟨t, rfl⟩ := a.i
    obtain ⟨ps, rfl, e⟩ := ints_pairs b
    exact ⟨(n, t) :: ps, rfl, by simp [e]⟩
end
section
variable {prog : Program} {w : World} {T : Heap → Prop} {n : Nat} {env : Env} {σ : Sg} {μ : List (Addr × List D)}

theorem preSum_eq (ps : List (Int × Tok)) : ∀ j, j ≤ ps.length → preSum (numAt ps.toArray) j = ((ps.take j).map (·.1)).sum
  | 0, _ => by simp [preSum]
  | j + 1, h => by
    unfold preSum
    rw [preSum_eq ps j (by omega)]
    have hj : j < ps.length := h
    have this : ps[j]? = some ps[j] := List.getElem?_eq_getElem hj
    have e : ps.take (j + 1) = ps.take j ++ [ps[j]] := by rw [List.take_add_one, this]; rfl
    rw [e, List.map_append, List.sum_append]
    simp [numAt, this]
theorem sum_bound : ∀ (ns : List Int) (B : Int), (∀ x ∈ ns, 0 ≤ x ∧ x ≤ B) → 0 ≤ ns.sum ∧ ns.sum ≤ ns.length * B
  | [], B, _ => by simp
  | x :: r, B, h => by
    have ih := sum_bound r B fun y hy => h y (by simp [hy])
    have := h x (by simp)
    simp only [List.sum_cons, List.length_cons]
    have e : ((r.length + 1 : Nat) : Int) * B = r.length * B + B := by push_cast; rw [Int.add_mul, Int.one_mul]
    omega
theorem CallC.sum {ns : List Int} (hn : ns.length ≤ 1000) (hb : ∀ x ∈ ns, 0 ≤ x ∧ x ≤ 1000000) : CallC prog w T n (.builtin "sum") [.list (ns.map .int)] (.int ns.sum) := fun A s k vs Q E rm ht ki r hq => by
  obtain ⟨v, rfl, rv⟩ := r.one1
  obtain ⟨a, us, rfl, l, m⟩ := rv.l
  obtain ⟨ps, rfl, e⟩ := ints_pairs m
  have hl : s.heap.IsList a (intItems ps.toArray) := by
    have := l.at ki
    simpa [intItems] using this
  have hlen : ps.length = ns.length := by rw [← e]; simp
  refine wpAny_with_toks (n := s.toks) (Nat.le_refl _) (sum_intList rm.1 hl (fun j hj => ?_) fun h' tk t' keep htk => ?_)
  · have hj' : j < ps.length := by simpa using hj
    have small : ∀ j, j ≤ ps.length → InLong (preSum (numAt ps.toArray) j) := fun j hj => by
      rw [preSum_eq ps j hj]
      have := sum_bound ((ps.take j).map (·.1)) 1000000 fun x hx => hb x (by
        rw [← e]
        obtain ⟨p, hp, rfl⟩ := List.mem_map.mp hx
        exact List.mem_map.mpr ⟨p, List.mem_of_mem_take hp, rfl⟩)
      have hl : ((ps.take j).map (·.1)).length ≤ 1000 := by simp; omega
      unfold InLong
      have : ((((ps.take j).map (·.1)).length : Nat) : Int) * 1000000 ≤ 1000 * 1000000 := by omega
      omega
    refine ⟨?_, small _ (by omega)⟩
    have hx : numAt ps.toArray j ∈ ns := by
      rw [← e]
      have : ps[j]? = some ps[j] := List.getElem?_eq_getElem hj'
      simp only [numAt, List.getElem?_toArray, this]
      exact List.mem_map.mpr ⟨ps[j], by simp, rfl⟩
    have := hb _ hx
    unfold InLong; omega
  · have u := Up.grow ki keep htk
    refine hq _ _ _ _ u ?_
    have : preSum (numAt ps.toArray) ps.toArray.size = ns.sum := by
      rw [List.size_toArray, preSum_eq ps _ (Nat.le_refl _), List.take_length, e]
    rw [this]
    exact Rd.int

/-- the greatest, the least of three -/
noncomputable def max3 (a b c : Int) : Int := if b > a then (if c > b then c else b) else (if c > a then c else a)
noncomputable def min3 (a b c : Int) : Int := if b < a then (if c < b then c else b) else (if c < a then c else a)
theorem CallC.maxL {a b c : Int} : CallC prog w T n (.builtin "max") [.list [.int a, .int b, .int c]] (.int (max3 a b c)) := fun A s k vs Q E rm ht ki r hq => by
  obtain ⟨v, rfl, rv⟩ := r.one1
  obtain ⟨l, us, rfl, kl, m⟩ := rv.l
  obtain ⟨x, y, z, rfl, rx, ry, rz⟩ := m.three3
  obtain ⟨t, rfl⟩ := rx.i; obtain ⟨u, rfl⟩ := ry.i; obtain ⟨t', rfl⟩ := rz.i
  have hl : s.heap.IsList l (intItems #[(a, t), (b, u), (c, t')]) := by
    have := kl.at ki
    simpa [intItems] using this
  refine wpAny_with_toks (n := s.toks) (Nat.le_refl _) (max_intList rm.1 hl (by simp) fun v h' tk hv keep htk => hq _ _ _ _ (Up.grow ki keep htk) ?_)
  have : (argBest (fun i j => decide (numAt #[(a, t), (b, u), (c, t')] i > numAt #[(a, t), (b, u), (c, t')] j)) 2) = (if b > a then (if c > b then 2 else 1) else (if c > a then 2 else 0)) := by
    simp only [argBest, numAt]
    by_cases h1 : b > a <;> by_cases h2 : c > b <;> by_cases h3 : c > a <;> simp [h1, h2, h3]
  have hv' : (intItems #[(a, t), (b, u), (c, t')])[argBest (fun i j => decide (numAt #[(a, t), (b, u), (c, t')] i > numAt #[(a, t), (b, u), (c, t')] j)) 2]? = some v := hv
  rw [this] at hv'
  unfold max3
  by_cases h1 : b > a <;> by_cases h2 : c > b <;> by_cases h3 : c > a <;> simp [h1, h2, h3, intItems] at hv' ⊢ <;> (subst hv'; exact Rd.int)
theorem CallC.minL {a b c : Int} : CallC prog w T n (.builtin "min") [.list [.int a, .int b, .int c]] (.int (min3 a b c)) := fun A s k vs Q E rm ht ki r hq => by
  obtain ⟨v, rfl, rv⟩ := r.one1
  obtain ⟨l, us, rfl, kl, m⟩ := rv.l
  obtain ⟨x, y, z, rfl, rx, ry, rz⟩ := m.three3
  obtain ⟨t, rfl⟩ := rx.i; obtain ⟨u, rfl⟩ := ry.i; obtain ⟨t', rfl⟩ := rz.i
  have hl : s.heap.IsList l (intItems #[(a, t), (b, u), (c, t')]) := by
    have := kl.at ki
    simpa [intItems] using this
  refine wpAny_with_toks (n := s.toks) (Nat.le_refl _) (min_intList rm.1 hl (by simp) fun v h' tk hv keep htk => hq _ _ _ _ (Up.grow ki keep htk) ?_)
  have : (argBest (fun i j => decide (numAt #[(a, t), (b, u), (c, t')] i < numAt #[(a, t), (b, u), (c, t')] j)) 2) = (if b < a then (if c < b then 2 else 1) else (if c < a then 2 else 0)) := by
    simp only [argBest, numAt]
    by_cases h1 : b < a <;> by_cases h2 : c < b <;> by_cases h3 : c < a <;> simp [h1, h2, h3]
  have hv' : (intItems #[(a, t), (b, u), (c, t')])[argBest (fun i j => decide (numAt #[(a, t), (b, u), (c, t')] i < numAt #[(a, t), (b, u), (c, t')] j)) 2]? = some v := hv
  rw [this] at hv'
  unfold min3
  by_cases h1 : b < a <;> by_cases h2 : c < b <;> by_cases h3 : c < a <;> simp [h1, h2, h3, intItems] at hv' ⊢ <;> (subst hv'; exact Rd.int)
theorem CallC.tupleL {ds : List D} (h : ds.length ≤ 100000) : CallC prog w T n (.type "tuple") [.list ds] (.tup ds) := fun A s k vs Q E rm ht ki r hq => by
  obtain ⟨v, rfl, rv⟩ := r.one1
  obtain ⟨l, us, rfl, kl, m⟩ := rv.l
  have hl := m.length
  refine call_tuple_list (kl.at ki) (fun h' keep => ?_) (by rw [sizeLine_eq, List.size_toArray]; omega)
  have u := Up.grow ki (Le.trans keep (Le.push h' { cls := .type "tuple", data := .seq us.toArray })) (Nat.le_refl s.toks)
  refine hq _ _ _ _ u (Rd.tup ⟨_, grown_new (Heap.get?_push_size _ rfl) ?_, rfl, 0, rfl⟩ (m.le u.kl))
  exact Le.none keep (get_size h')

-- floats: max, min of three, by the library's order
noncomputable def flt (a b : UInt64) : Bool := Float64.cmp a b == some Ordering.lt
noncomputable def fmax3 (a b c : UInt64) : UInt64 := if flt a b then (if flt b c then c else b) else (if flt a c then c else a)
noncomputable def fmin3 (a b c : UInt64) : UInt64 := if flt b a then (if flt c b then c else b) else (if flt c a then c else a)
theorem F_args_min3 (a b c : Value) : argsOk "min" ⟨[a, b, c], []⟩ := by unfold argsOk; kernel_rfl
theorem call_min_three {A : Around} {s : Shared} {E : Value → Shared → Prop} {a b c : Value} {Q : Value → Shared → Prop}
    (h : wpAny (model prog w) A.in1 (pyIter (.ref s.heap.objs.size)) (fun it s₂ => ∃ I fp wr n P St bt, it = .ref I ∧ Walks prog w A.in1 I fp wr n P St ∧ St 0 s₂.heap ∧ (∀ b ∈ fp, b < s₂.heap.objs.size) ∧ 0 < n ∧ CmpOf prog w A.in1 .Lt P bt ∧
      ∀ v h' tk, P (argBest bt (n - 1)) v → (∀ b o, b ∉ wr → s₂.heap.get? b = some o → h'.get? b = some o) → Q v { s₂ with heap := h', toks := tk }) E
      { s with heap := s.heap.push { cls := .type "tuple", data := .seq #[a, b, c] } }) :
    wpAny (model prog w) A (call (.builtin "min") [a, b, c]) Q E s := by
  have hname : (toString "min" ++ toString ".loop" : String) = "min.loop" := by decide
  refine call_function_tree F.kind_min F.plain_min F.entry_min (F_args_min3 _ _ _) ?_
  show wpAny _ A.in1 (Builtin.Builtins.bindParams "min" ["key", "default"] 0 ⟨[], []⟩ >>= _) _ _ s
  refine wpAny_bind (wpAny_of_eq (show Builtin.Builtins.bindParams "min" ["key", "default"] 0 ⟨[], []⟩ = pure [none, none] from rfl) ?_)
  show wpAny _ A.in1 (newTuple [a, b, c] >>= _) _ _ s
  refine wpAny_bind (wpAny_newObj_type ?_)
  refine wpAny_bind (wpAny_mono h (fun it s₂ h₂ => ?_) fun _ _ e => e)
  obtain ⟨I, fp, wr, n, P, St, bt, rfl, W, hst, hfp, hn, hcmp, hQ⟩ := h₂
  refine wpAny_bind (wpAny_newObj_type ?_)
  have hSf : s₂.heap.objs.size ∉ fp := fun hm => Nat.lt_irrefl _ (hfp _ hm)
  rw [hname]
  refine wpAny_pure ⟨plainId_quiet F.plain_min_loop _, codeAny_min_loop_first W bt hcmp s₂.heap.objs.size hSf hn (W.frame _ _ _ hst fun b _ o e => Heap.get?_push_of_some _ e) (Heap.get?_push_size _ rfl) fun v h' tk hP hk => ?_⟩
  exact hQ v h' tk hP fun b o hbw e => hk b o hbw (Nat.ne_of_lt (Heap.lt_size e)) (Heap.get?_push_of_some _ e)
theorem three_kept {h h' : Heap} {o₁ o₂ : Obj} (hk : ∀ b o, b ∉ [(h.push o₁).objs.size] → ((h.push o₁).push o₂).get? b = some o → h'.get? b = some o) : Le h h' := fun c o e => by
  have hsz : (h.push o₁).objs.size = h.objs.size + 1 := Heap.size_push ..
  refine hk c o (fun hm => ?_) (Heap.get?_push_of_some _ (Heap.get?_push_of_some _ e))
  rcases List.mem_cons.mp hm with e1 | hm
  · have := Heap.lt_size e; rw [e1, hsz] at this; exact Nat.lt_irrefl _ (Nat.lt_of_succ_lt this)
  · cases hm
theorem CallC.max3F {a b c : UInt64} : CallC prog w T n (.builtin "max") [.flt a, .flt b, .flt c] (.flt (fmax3 a b c)) := fun A s k vs Q E rm ht ki r hq => by
  obtain ⟨x, y, z, rfl, rx, ry, rz⟩ := r.three3
  obtain ⟨t, rfl⟩ := rx.fl; obtain ⟨u, rfl⟩ := ry.fl; obtain ⟨t', rfl⟩ := rz.fl
  have hT : (s.heap.push { cls := .type "tuple", data := .seq #[.float a t, .float b u, .float c t'] }).IsTuple s.heap.objs.size #[.float a t, .float b u, .float c t'] := ⟨_, Heap.get?_push_size _ rfl, rfl, 0, rfl⟩
  have hsz : (s.heap.push { cls := .type "tuple", data := .seq #[.float a t, .float b u, .float c t'] }).objs.size = s.heap.objs.size + 1 := Heap.size_push ..
  refine wpAny_with_toks (n := s.toks) (Nat.le_refl _) (call_max_three (wpAny_pyIter_tuple hT ⟨_, [_, s.heap.objs.size], [_], _, _, _, _, rfl, Walks.tuple (A := A.in1) rm.1 _ s.heap.objs.size (by rw [hsz]; exact Nat.ne_of_lt (Nat.lt_succ_self _)) #[.float a t, .float b u, .float c t'],
    ⟨⟨_, Heap.get?_push_size _ rfl, rfl, rfl⟩, hT.push _⟩, fun d hd => ?_, by simp, Flt.cmpOf_gt #[.float a t, .float b u, .float c t'] (by simp; exact ⟨.float _ _, .float _ _, .float _ _⟩), fun v h' tk hP hk => ?_⟩))
  · show d < ((s.heap.push _).push _).objs.size
    rw [Heap.size_push, hsz]
    rcases List.mem_cons.mp hd with rfl | hd
    · rw [hsz]; exact Nat.lt_succ_self _
    · rcases List.mem_cons.mp hd with rfl | hd
      · exact Nat.lt_succ_of_lt (Nat.lt_succ_self _)
      · cases hd
  · intro htk
    have keep : Le s.heap h' := three_kept hk
    refine hq _ _ _ _ (Up.grow ki keep htk) ?_
    have hv : v = (if flt a b then (if flt b c then .float c t' else .float b u) else (if flt a c then .float c t' else .float a t)) := by
      have e1 : Flt.ltV (.float a t) (.float b u) = flt a b := rfl
      have e2 : Flt.ltV (.float b u) (.float c t') = flt b c := rfl
      have e3 : Flt.ltV (.float a t) (.float c t') = flt a c := rfl
      cases h1 : flt a b <;> cases h2 : flt b c <;> cases h3 : flt a c <;> simp [argBest, e1, e2, e3, h1, h2, h3] at hP <;> simp [hP]
    rw [hv]
    unfold fmax3
    split <;> split <;> exact Rd.flt
theorem CallC.min3F {a b c : UInt64} : CallC prog w T n (.builtin "min") [.flt a, .flt b, .flt c] (.flt (fmin3 a b c)) := fun A s k vs Q E rm ht ki r hq => by
  obtain ⟨x, y, z, rfl, rx, ry, rz⟩ := r.three3
  obtain ⟨t, rfl⟩ := rx.fl; obtain ⟨u, rfl⟩ := ry.fl; obtain ⟨t', rfl⟩ := rz.fl
  have hT : (s.heap.push { cls := .type "tuple", data := .seq #[.float a t, .float b u, .float c t'] }).IsTuple s.heap.objs.size #[.float a t, .float b u, .float c t'] := ⟨_, Heap.get?_push_size _ rfl, rfl, 0, rfl⟩
  have hsz : (s.heap.push { cls := .type "tuple", data := .seq #[.float a t, .float b u, .float c t'] }).objs.size = s.heap.objs.size + 1 := Heap.size_push ..
  refine wpAny_with_toks (n := s.toks) (Nat.le_refl _) (call_min_three (wpAny_pyIter_tuple hT ⟨_, [_, s.heap.objs.size], [_], _, _, _, _, rfl, Walks.tuple (A := A.in1) rm.1 _ s.heap.objs.size (by rw [hsz]; exact Nat.ne_of_lt (Nat.lt_succ_self _)) #[.float a t, .float b u, .float c t'],
    ⟨⟨_, Heap.get?_push_size _ rfl, rfl, rfl⟩, hT.push _⟩, fun d hd => ?_, by simp, Flt.cmpOf_lt #[.float a t, .float b u, .float c t'] (by simp; exact ⟨.float _ _, .float _ _, .float _ _⟩), fun v h' tk hP hk => ?_⟩))
  · show d < ((s.heap.push _).push _).objs.size
    rw [Heap.size_push, hsz]
    rcases List.mem_cons.mp hd with rfl | hd
    · rw [hsz]; exact Nat.lt_succ_self _
    · rcases List.mem_cons.mp hd with rfl | hd
      · exact Nat.lt_succ_of_lt (Nat.lt_succ_self _)
      · cases hd
  · intro htk
    have keep : Le s.heap h' := three_kept hk
    refine hq _ _ _ _ (Up.grow ki keep htk) ?_
    have hv : v = (if flt b a then (if flt c b then .float c t' else .float b u) else (if flt c a then .float c t' else .float a t)) := by
      have e1 : Flt.ltV (.float b u) (.float a t) = flt b a := rfl
      have e2 : Flt.ltV (.float c t') (.float b u) = flt c b := rfl
      have e3 : Flt.ltV (.float c t') (.float a t) = flt c a := rfl
      cases h1 : flt b a <;> cases h2 : flt c b <;> cases h3 : flt c a <;> simp [argBest, e1, e2, e3, h1, h2, h3] at hP <;> simp [hP]
    rw [hv]
    unfold fmin3
    split <;> split <;> exact Rd.flt
end
section
variable {prog : Program} {w : World} {T : Heap → Prop} {n : Nat} {env : Env} {σ : Sg} {μ : List (Addr × List D)}

-- floats
theorem BinR.addF {a b : UInt64} : BinR prog w T n .Add (.flt a) (.flt b) (.flt (Float64.add a b)) := fun A s k v₁ v₂ Q E rm ht ki r₁ r₂ h => by
  obtain ⟨t, rfl⟩ := r₁.fl; obtain ⟨u, rfl⟩ := r₂.fl
  exact add_float (h _ k s.heap _ (Up.tok ki (Nat.le_succ _)) Rd.flt)
theorem BinR.subF {a b : UInt64} : BinR prog w T n .Sub (.flt a) (.flt b) (.flt (Float64.sub a b)) := fun A s k v₁ v₂ Q E rm ht ki r₁ r₂ h => by
  obtain ⟨t, rfl⟩ := r₁.fl; obtain ⟨u, rfl⟩ := r₂.fl
  exact sub_float (h _ k s.heap _ (Up.tok ki (Nat.le_succ _)) Rd.flt)
theorem BinR.mulF {a b : UInt64} : BinR prog w T n .Mult (.flt a) (.flt b) (.flt (Float64.mul a b)) := fun A s k v₁ v₂ Q E rm ht ki r₁ r₂ h => by
  obtain ⟨t, rfl⟩ := r₁.fl; obtain ⟨u, rfl⟩ := r₂.fl
  exact mul_float (h _ k s.heap _ (Up.tok ki (Nat.le_succ _)) Rd.flt)
theorem BinR.divF {a b : UInt64} (hb : Float64.isZero b = false) : BinR prog w T n .Div (.flt a) (.flt b) (.flt (Float64.div a b)) := fun A s k v₁ v₂ Q E rm ht ki r₁ r₂ h => by
  obtain ⟨t, rfl⟩ := r₁.fl; obtain ⟨u, rfl⟩ := r₂.fl
  exact AutoFloatOps.truediv_1 (by rw [hb]; exact Bool.false_ne_true) (h _ k s.heap _ (Up.tok ki (Nat.le_succ _)) Rd.flt)
theorem BinR.modF {a b : UInt64} (hb : Float64.isZero b = false) : BinR prog w T n .Mod (.flt a) (.flt b) (.flt (Float64.divmod a b).snd) := fun A s k v₁ v₂ Q E rm ht ki r₁ r₂ h => by
  obtain ⟨t, rfl⟩ := r₁.fl; obtain ⟨u, rfl⟩ := r₂.fl
  exact AutoFloatOps.mod_1 (by rw [hb]; exact Bool.false_ne_true) (h _ k s.heap _ (Up.tok ki (Nat.le_succ _)) Rd.flt)
theorem BinR.mulFI {a : UInt64} {b : Int} (hb : Float64.isInf (Float64.ofInt b) = false) : BinR prog w T n .Mult (.flt a) (.int b) (.flt (Float64.mul a (Float64.ofInt b))) := fun A s k v₁ v₂ Q E rm ht ki r₁ r₂ h => by
  obtain ⟨t, rfl⟩ := r₁.fl; obtain ⟨u, rfl⟩ := r₂.i
  exact AutoFloatOps.mul_fi_1 (by rw [hb]; exact Bool.false_ne_true) (h _ k s.heap _ (Up.tok ki (Nat.le_succ _)) Rd.flt)
theorem BinR.subFI {a : UInt64} {b : Int} (hb : Float64.isInf (Float64.ofInt b) = false) : BinR prog w T n .Sub (.flt a) (.int b) (.flt (Float64.sub a (Float64.ofInt b))) := fun A s k v₁ v₂ Q E rm ht ki r₁ r₂ h => by
  obtain ⟨t, rfl⟩ := r₁.fl; obtain ⟨u, rfl⟩ := r₂.i
  exact AutoFloatOps.sub_fi_1 (by rw [hb]; exact Bool.false_ne_true) (h _ k s.heap _ (Up.tok ki (Nat.le_succ _)) Rd.flt)
/-- the quotient of two ints -/
noncomputable def idiv (a b : Int) : UInt64 := Float64.ofFrac (decide (a < 0) != decide (b < 0)) a.natAbs b.natAbs
theorem BinR.divI {a b : Int} (hb : b ≠ 0) (hi : Float64.isInf (idiv a b) = false) : BinR prog w T n .Div (.int a) (.int b) (.flt (idiv a b)) := fun A s k v₁ v₂ Q E rm ht ki r₁ r₂ h => by
  obtain ⟨t, rfl⟩ := r₁.i; obtain ⟨u, rfl⟩ := r₂.i
  exact AutoIntOps.truediv_2 (by simpa using hb) (by unfold idiv at hi; rw [hi]; exact Bool.false_ne_true) (h _ k s.heap _ (Up.tok ki (Nat.le_succ _)) Rd.flt)
noncomputable def feq (a b : UInt64) : Bool := Float64.cmp a b == some Ordering.eq
noncomputable def fle (a b : UInt64) : Bool := Float64.cmp a b == some Ordering.lt || Float64.cmp a b == some Ordering.eq
theorem CmpR.eqF {a b : UInt64} : CmpR prog w T n .Eq (.flt a) (.flt b) (feq a b) := fun A s k v₁ v₂ Q E rm ht ki r₁ r₂ h => by
  obtain ⟨t, rfl⟩ := r₁.fl; obtain ⟨u, rfl⟩ := r₂.fl
  exact AutoFloatOps.eq_0 (h k s.heap s.toks (Up.refl ki))
theorem CmpR.neF {a b : UInt64} : CmpR prog w T n .NotEq (.flt a) (.flt b) (!feq a b) := fun A s k v₁ v₂ Q E rm ht ki r₁ r₂ h => by
  obtain ⟨t, rfl⟩ := r₁.fl; obtain ⟨u, rfl⟩ := r₂.fl
  exact AutoFloatOps.ne_0 (h k s.heap s.toks (Up.refl ki))
theorem CmpR.leF {a b : UInt64} : CmpR prog w T n .LtE (.flt a) (.flt b) (fle a b) := fun A s k v₁ v₂ Q E rm ht ki r₁ r₂ h => by
  obtain ⟨t, rfl⟩ := r₁.fl; obtain ⟨u, rfl⟩ := r₂.fl
  exact AutoFloatOps.le_0 (h k s.heap s.toks (Up.refl ki))
theorem CmpR.ltFI {a : UInt64} {b : Int} : CmpR prog w T n .Lt (.flt a) (.int b) (Float64.cmpInt a b == some Ordering.lt) := fun A s k v₁ v₂ Q E rm ht ki r₁ r₂ h => by
  obtain ⟨t, rfl⟩ := r₁.fl; obtain ⟨u, rfl⟩ := r₂.i
  exact lt_fi (h k s.heap s.toks (Up.refl ki))
theorem CallC.intF {x : UInt64} (hn : Float64.isNaN x = false) (hi : Float64.isInf x = false) : CallC prog w T n (.type "int") [.flt x] (.int (Flt.toInt Float64.truncOf x)) := fun A s k vs Q E rm ht ki r hq => by
  obtain ⟨v, rfl, rv⟩ := r.one1
  obtain ⟨t, rfl⟩ := rv.fl
  exact Flt.call_int_float3 rm.1 (fun e => by rw [hn] at e; cases e) (fun e => by rw [hi] at e; cases e) fun _ => hq _ k s.heap _ (Up.tok ki (Nat.le_succ _)) Rd.int

-- is, is not
theorem CmpR.isNone {a : UInt64} : CmpR prog w T n .Is (.flt a) .none false := fun A s k v₁ v₂ Q E rm ht ki r₁ r₂ h => by
  obtain ⟨t, rfl⟩ := r₁.fl; have := r₂.no; subst this
  exact wpAny_is_plain rfl (h k s.heap s.toks (Up.refl ki))
theorem CmpR.isNotB {a b : Bool} : CmpR prog w T n .IsNot (.bool a) (.bool b) (a != b) := fun A s k v₁ v₂ Q E rm ht ki r₁ r₂ h => by
  have := r₁.b; subst this; have := r₂.b; subst this
  refine wpAny_isNot_plain rfl ?_
  have : (!(Value.bool a == Value.bool b)) = (a != b) := by cases a <;> cases b <;> rfl
  rw [this]
  exact h k s.heap s.toks (Up.refl ki)

-- lists of ints, tuples of ints, lists of pairs
theorem intsAre_of {k : Kn} : ∀ {ns : List Int} {vs : List Value}, RdL k (ns.map .int) vs → IntsAre vs ns
  | [], vs, h => by unfold List.map RdL at h; subst h; exact .nil
  | n :: ns, vs, h => by
    unfold List.map RdL at h
    obtain ⟨v, r, rfl, a, b⟩ := h
    obtain ⟨t, rfl⟩ := a.i
    exact .cons n t (intsAre_of b)
theorem rdl_of_ints {k : Kn} : ∀ {ns : List Int} {vs : List Value}, IntsAre vs ns → RdL k (ns.map .int) vs
  | _, _, .nil => RdL.nil
  | _, _, .cons n t h => RdL.cons Rd.int (rdl_of_ints h)
theorem Rm.room {A : Around} (r : Rm n A) : A.units + 50 < cLine := by have := r.2.2; omega
theorem cRoom64 {A : Around} (r : Rm n A) (h : 2 ≤ n) : A.units + 64 < cLine := by have := r.2.2; omega
theorem CmpR.eqL {ns ms : List Int} (hn : 2 ≤ n) : CmpR prog w T n .Eq (.list (ns.map .int)) (.list (ms.map .int)) (decide (ns = ms)) := fun A s k v₁ v₂ Q E rm ht ki r₁ r₂ h => by
  obtain ⟨a, vs, rfl, l₁, m₁⟩ := r₁.l; obtain ⟨b, us, rfl, l₂, m₂⟩ := r₂.l
  exact eq_intsK (l₁.at ki) (intsAre_of m₁) (l₂.at ki) (intsAre_of m₂) (cRoom64 rm hn) (h k s.heap s.toks (Up.refl ki))
theorem CmpR.neL {ns ms : List Int} (hn : 2 ≤ n) : CmpR prog w T n .NotEq (.list (ns.map .int)) (.list (ms.map .int)) (!decide (ns = ms)) := fun A s k v₁ v₂ Q E rm ht ki r₁ r₂ h => by
  obtain ⟨a, vs, rfl, l₁, m₁⟩ := r₁.l; obtain ⟨b, us, rfl, l₂, m₂⟩ := r₂.l
  exact ne_intsK (l₁.at ki) (intsAre_of m₁) (l₂.at ki) (intsAre_of m₂) (cRoom64 rm hn) (h k s.heap s.toks (Up.refl ki))
theorem intsAre_get {vs : List Value} {ns : List Int} (h : IntsAre vs ns) : ∀ (j : Nat) (x : Int), ns[j]? = some x → ∃ t, vs[j]? = some (.int x t) := by
  induction h with
  | nil => intro j x e; simp at e
  | cons n t h ih =>
    intro j x e
    cases j with
    | zero => simp at e; subst e; exact ⟨t, rfl⟩
    | succ j => simp at e; simpa using ih j x e
theorem intsAre_len {vs : List Value} {ns : List Int} (h : IntsAre vs ns) : vs.length = ns.length := by
  induction h with
  | nil => rfl
  | cons n t h ih => simp [ih]
theorem CmpR.notInL {x : Int} {ns : List Int} : CmpR prog w T n .NotIn (.int x) (.list (ns.map .int)) (!ns.contains x) := fun A s k v₁ v₂ Q E rm ht ki r₁ r₂ h => by
  obtain ⟨t, rfl⟩ := r₁.i; obtain ⟨a, vs, rfl, l, m⟩ := r₂.l
  have hi := intsAre_of m
  refine notIn_listAt (fun v => match v with | .int i _ => i == x | _ => false) (l.at ki) (fun y hy => ?_) ?_
  · have hy' : y ∈ vs := by simpa using hy
    obtain ⟨j, hj, e⟩ := List.getElem_of_mem hy'
    have hj' : j < ns.length := by rw [← intsAre_len hi]; exact hj
    obtain ⟨u, q⟩ := intsAre_get hi j ns[j] (by simp [hj'])
    rw [List.getElem?_eq_getElem hj, e] at q
    cases q
    exact (MeetsSeq.EqGives.int _ _ _ _).at _ _
  · have : (vs.toArray.any fun v => match v with | .int i _ => i == x | _ => false) = ns.contains x := by
      rw [List.any_toArray]
      clear r₂ l m ki h
      induction hi with
      | nil => rfl
      | cons n t h ih =>
        rw [List.any_cons, ih, List.contains_cons]
        show (n == x || _) = (x == n || _)
        rw [Bool.beq_comm]
    rw [this]
    exact h k s.heap s.toks (Up.refl ki)

theorem eqAt_tup {A : Around} {s : Shared} {k : Kn} {ns ms : List Int} {v u : Value} (ki : KIn k s.heap s.toks) (hu : A.units < cLine) (r₁ : Rd k (.tup (ns.map .int)) v) (r₂ : Rd k (.tup (ms.map .int)) u) :
    EqAt A s v u (decide (ns = ms)) := by
  obtain ⟨a, vs, rfl, l₁, m₁⟩ := r₁.t; obtain ⟨b, us, rfl, l₂, m₂⟩ := r₂.t
  have h₁ := intsAre_of m₁
  have h₂ := intsAre_of m₂
  by_cases hab : a = b
  · subst hab
    have : vs = us := by
      obtain ⟨o, e, _, p, d⟩ := l₁; obtain ⟨o', e', _, p', d'⟩ := l₂
      rw [e] at e'; cases e'
      rw [d] at d'; cases d'; rfl
    subst this
    have : ns = ms := by
      clear r₁ r₂ l₁ l₂ m₁ m₂ ki hu
      induction h₁ generalizing ms with
      | nil => cases h₂; rfl
      | cons n t h ih => cases h₂ with | cons _ _ h' => rw [ih h']
    rw [decide_eq_true this]
    exact EqAt.same _
  · refine EqAt.of_refs hab ?_
    have R := RcAt.tuples (A := A) (s := s) (e := fun j => (ns.getD j 0 == ms.getD j 0)) (l₁.at ki) (l₂.at ki) hu fun j h1 h2 => by
      have h1' : j < ns.length := by rw [← intsAre_len h₁]; simpa using h1
      have h2' : j < ms.length := by rw [← intsAre_len h₂]; simpa using h2
      obtain ⟨t, q⟩ := intsAre_get h₁ j ns[j] (by simp [h1'])
      obtain ⟨t', q'⟩ := intsAre_get h₂ j ms[j] (by simp [h2'])
      have e1 : vs.toArray[j] = .int ns[j] t := by
        have := List.getElem?_eq_getElem (l := vs) (i := j) (by simpa using h1)
        rw [this] at q; simpa using q
      have e2 : us.toArray[j] = .int ms[j] t' := by
        have := List.getElem?_eq_getElem (l := us) (i := j) (by simpa using h2)
        rw [this] at q'; simpa using q'
      rw [e1, e2]
      have : (ns.getD j 0 == ms.getD j 0) = (ns[j] == ms[j]) := by simp [List.getD, h1', h2']
      rw [this]
      exact (MeetsSeq.EqGives.int _ _ _ _).at _ _
    have : ((List.range (min vs.toArray.size us.toArray.size)).all (fun j => (ns.getD j 0 == ms.getD j 0)) && vs.toArray.size == us.toArray.size) = decide (ns = ms) := by
      rw [List.size_toArray, List.size_toArray, intsAre_len h₁, intsAre_len h₂]
      by_cases he : ns = ms
      · subst he; simp
      · rw [decide_eq_false he]
        by_cases hl : ns.length = ms.length
        · rw [hl]
          simp only [Nat.min_self, beq_self_eq_true, Bool.and_true]
          rw [Bool.eq_false_iff]
          intro hall
          apply he
          rw [List.all_eq_true] at hall
          apply List.ext_getElem hl
          intro i h1 h2
          have := hall i (by simp [h2])
          simpa [List.getD, h1, h2] using this
        · have : (ns.length == ms.length) = false := by simpa using hl
          rw [this, Bool.and_false]
    rw [this] at R
    exact R
end
section
variable {prog : Program} {w : World} {T : Heap → Prop} {n : Nat} {env : Env} {σ : Sg} {μ : List (Addr × List D)}

/-- a new text -/
noncomputable def EvN (prog : Program) (w : World) (T : Heap → Prop) (n : Nat) (env : Env) (σ : Sg) (μ : List (Addr × List D)) (e : Expr) (z : PySem.Str) : Prop :=
  ∀ (A : Around) (s : Shared) (pk : Pk) (k : Kn) (Q : Value → Shared → Prop) (E : Value → Shared → Prop), Rm n A → St T pk k env s.heap s.toks σ μ →
    (∀ t k' h' tk, Up k s.heap k' h' tk → k.t ≤ t → t < k'.t → Q (.str z t) { s with heap := h', toks := tk }) → wpAny (model prog w) A (eval e env) Q E s
theorem EvN.cStr {i k pos} : EvN prog w T n env σ μ (.Constant (.str i) k pos) i := fun A s pk k Q E rm S h =>
  wpAny_Constant_str (h s.toks _ s.heap _ (Up.fresh S.kh) S.kh.tk (Nat.lt_succ_self _))
theorem EvN.cat {l r pos x y} (hl : EvE prog w T n env σ μ l (.str x)) (hr : EvE prog w T n env σ μ r (.str y)) (hs : x.length + y.length ≤ 1000000) (hx : x.length ≠ 0) (hy : y.length ≠ 0) :
    EvN prog w T n env σ μ (.BinOp l .Add r pos) (x ++ y) := fun A s pk k Q E rm S h => by
  refine wpAny_BinOp (hl A s pk k _ _ rm S fun v₁ k₁ h₁ t₁ u₁ r₁ => hr A _ pk k₁ _ _ rm (S.up u₁) fun v₂ k₂ h₂ t₂ u₂ r₂ => ?_)
  obtain ⟨t, rfl⟩ := r₁.s; obtain ⟨u, rfl⟩ := r₂.s
  refine P.add_str ?_
  rw [if_neg (by simpa using hx), if_neg (by simpa using hy)]
  exact ⟨by rw [sizeLine_eq, Str.length_append]; omega, h t₂ _ h₂ _ ((u₁.trans u₂).trans (Up.fresh u₂.ki)) (Nat.le_trans (u₁.trans u₂).kl.tk u₂.ki.tk) (Nat.lt_succ_self _)⟩

theorem EvE.replace {o a b apos pos x y z} (hbase : attributeBase o "replace" env (eval o env) = eval o env)
    (hfew : ((backTo pos (starEach [a, b] env)).all (fun x => !x.1) && (backToKw pos (keywordEach [] env)).all (fun x => x.1.isSome)
      && decide (([a, b] : List Expr).length + ([] : List Keyword).length + (if ([] : List Keyword).isEmpty then 0 else 1) < 30)) = true)
    (hline : (apos.endLine == pos.line) = true) (htrees : backTo pos (starEach [a, b] env) = [(false, eval a env), (false, eval b env)])
    (ho : EvE prog w T n env σ μ o (.str x)) (ha : EvE prog w T n env σ μ a (.strT y)) (hb : EvN prog w T n env σ μ b z) (hyz : (y == z) = false) (hx : x.length ≤ 1000) (hz : z.length ≤ 1000) :
    EvE prog w T n env σ μ (.Call (.Attribute o "replace" apos) [a, b] [] pos) (.str (Txt.replace x y z)) := fun A s pk k Q E rm S h => by
  refine wpAny_Call_method hbase hfew hline F.plainAttrs_str F.slot_str_replace F.type_str_replace (ho A s pk k _ _ rm S fun v k₁ h₁ t₁ u₁ r₁ => ?_)
  obtain ⟨t, rfl⟩ := r₁.s
  refine ⟨typeIs_str _ x t, (fun a e => nomatch e), callWith_builtin (by rw [htrees]; rfl) ?_⟩
  rw [htrees]
  refine evalArgs_plain (spliced_cons (ha A _ pk k₁ _ _ rm (S.up u₁) fun v₂ k₂ h₂ t₂ u₂ r₂ => spliced_cons (hb A _ pk k₂ _ _ rm ((S.up u₁).up u₂) fun v k₃ h₃ t₃ u₃ lo hi => spliced_nil ?_)))
  obtain ⟨u, rfl, hu1, hu2⟩ := r₂.st
  have u13 := (u₁.trans u₂).trans u₃
  have hone := u₂.ki.one
  refine wpAny_with_toks (n := t₃) (Nat.le_refl _) (SC.replace (Nat.ne_of_gt hu1) (Nat.ne_of_gt (Nat.lt_of_lt_of_le hone lo)) (Nat.ne_of_lt (Nat.lt_of_lt_of_le hu2 lo)) hyz ?_ fun t' tk htk => h _ k₃ h₃ tk (u13.trans (Up.tok u₃.ki htk)) Rd.str)
  have : (x.length + 1) * z.length ≤ 1001 * 1000 := Nat.mul_le_mul (by omega) hz
  omega
theorem Txt.replace_same {x y z : PySem.Str} (h : Txt.contains x y = false) : Txt.replace x y z = x := by
  unfold Txt.contains at h
  unfold Txt.replace
  have : (Builtin.Str.occurrences x y 0 x.length (x.length + 1)).isEmpty = true := by
    cases q : (Builtin.Str.occurrences x y 0 x.length (x.length + 1)).isEmpty with
    | true => rfl
    | false =>
      exfalso
      obtain ⟨f, hc⟩ := StrLaws.occ_chain x y (x.length + 1)
      cases ho : Builtin.Str.occurrences x y 0 x.length (x.length + 1) with
      | nil => rw [ho] at q; exact absurd q (by simp)
      | cons i r =>
        rw [ho] at hc
        have := (StrLaws.found_iff x y).mpr ⟨i, hc.2.1⟩
        rw [h] at this; cases this
  rw [this]; rfl

theorem strs_values {k : Kn} : ∀ {xs : List PySem.Str} {vs : List Value}, RdL k (xs.map .str) vs → ∃ l : List (PySem.Str × Tok), vs = strValues l ∧ l.map (·.1) = xs
  | [], vs, h => by unfold List.map RdL at h; subst h; exact ⟨[], rfl, rfl⟩
  | x :: xs, vs, h => by
    unfold List.map RdL at h
    obtain ⟨v, r, rfl, a, b⟩ := h
    obtain ⟨t, rfl⟩ := a.s
    obtain ⟨l, rfl, e⟩ := strs_values b
    exact ⟨(x, t) :: l, rfl, by simp [e]⟩
theorem EvE.join {o a apos pos x xs} (hbase : attributeBase o "join" env (eval o env) = eval o env)
    (hfew : ((backTo pos (starEach [a] env)).all (fun x => !x.1) && (backToKw pos (keywordEach [] env)).all (fun x => x.1.isSome)
      && decide (([a] : List Expr).length + ([] : List Keyword).length + (if ([] : List Keyword).isEmpty then 0 else 1) < 30)) = true)
    (hline : (apos.endLine == pos.line) = true) (htrees : backTo pos (starEach [a] env) = [(false, eval a env)])
    (ho : EvE prog w T n env σ μ o (.str x)) (ha : EvE prog w T n env σ μ a (.list (xs.map .str))) (hj : JoinOk x xs = true) :
    EvE prog w T n env σ μ (.Call (.Attribute o "join" apos) [a] [] pos) (.str (Txt.join x xs)) := fun A s pk k Q E rm S h => by
  refine wpAny_Call_method hbase hfew hline F.plainAttrs_str F.slot_str_join F.type_str_join (ho A s pk k _ _ rm S fun v k₁ h₁ t₁ u₁ r₁ => ?_)
  obtain ⟨t, rfl⟩ := r₁.s
  refine ⟨typeIs_str _ x t, (fun a e => nomatch e), callWith_builtin (by rw [htrees]; rfl) ?_⟩
  rw [htrees]
  refine evalArgs_plain (spliced_cons (ha A _ pk k₁ _ _ rm (S.up u₁) fun v₂ k₂ h₂ t₂ u₂ r₂ => spliced_nil ?_))
  obtain ⟨l, vs, rfl, kl, m⟩ := r₂.l
  obtain ⟨ps, rfl, e⟩ := strs_values m
  exact wpAny_with_toks (n := t₂) (Nat.le_refl _) (SC.join (kl.at u₂.ki) e hj fun t' tk htk => h _ k₂ h₂ tk ((u₁.trans u₂).trans (Up.tok u₂.ki htk)) Rd.str)

/-- a method of the text's own, or a class: how they are called is told apart -/
theorem ExS.append {o elt apos pos pos' a xs d} (hbase : attributeBase o "append" env (eval o env) = eval o env)
    (hfew : ((backTo pos (starEach [elt] env)).all (fun x => !x.1) && (backToKw pos (keywordEach [] env)).all (fun x => x.1.isSome)
      && decide (([elt] : List Expr).length + ([] : List Keyword).length + (if ([] : List Keyword).isEmpty then 0 else 1) < 30)) = true)
    (hline : (apos.endLine == pos.line) = true) (htrees : backTo pos (starEach [elt] env) = [(false, eval elt env)]) (hi : interactive env = false) (hs : swapsWith (.Call (.Attribute o "append" apos) [elt] [] pos) none pos'.line env = pure false)
    (ho : EvE prog w T n env σ ((a, xs) :: μ) o (.mut a)) (he : EvE prog w T n env σ ((a, xs) :: μ) elt d) (hne : ∀ p ∈ μ, p.1 ≠ a) (hsz : xs.length ≤ 100000) (hp₁ : soft xs = false) (hp₂ : soft (xs ++ [d]) = false) :
    ExS prog w T n env σ ((a, xs) :: μ) (.Expr (.Call (.Attribute o "append" apos) [elt] [] pos) pos') (.next σ ((a, xs ++ [d]) :: μ)) := fun A s pk k Q E rm S h => by
  refine wpAny_Expr_any (wpAny_Call_append hbase hfew hline htrees (ho A s pk k _ _ rm S fun v k₁ h₁ t₁ u₁ r₁ => ?_)) hi hs
  have := r₁.m; subst this
  have S₁ := S.up u₁
  obtain ⟨_, _, _, _, lm⟩ := S₁.mu _ (List.Mem.head _)
  obtain ⟨vs, ⟨nn, l⟩, m⟩ := lm.plain hp₁
  refine ⟨a, vs.toArray, rfl, ⟨_, nn, l, rfl, rfl, rfl⟩, ?_⟩
  refine he A _ pk k₁ _ _ rm S₁ fun v k₂ h₂ t₂ u₂ r₂ => ?_
  have S₂ := S₁.up u₂
  obtain ⟨ka, pa, nL, nc, lm'⟩ := S₂.mu _ (List.Mem.head _)
  obtain ⟨vs', l', m'⟩ := lm'.plain hp₁
  have hvl := m'.length
  refine wpAny_list_append_plain l' (fun h₃ l₃ s₃ => ?_) (by rw [sizeLine_eq, List.size_toArray, hvl]; show xs.length ≤ _; omega)
  obtain ⟨ea, eb⟩ := endU (σ' := σ) (μ' := μ) S (u₁.trans u₂)
  refine h .next k₂ h₃ t₂ ea eb ⟨rfl, ?_⟩
  refine ⟨S₂.ok, S₂.top, S₂.kb.same pa s₃, S₂.kh.same ka s₃ (Nat.le_refl _), ?_, fun x c e => ?_, S₂.hL, S₂.hC, S₂.dC, fun p hp => ?_⟩
  · obtain ⟨mm, hn, r⟩ := S₂.ns
    exact ⟨mm, hn.sameBut s₃ (Ne.symm nL), r⟩
  · obtain ⟨v', i, r⟩ := S₂.cl x c e
    exact ⟨v', i.sameBut s₃ (fun q => nc x c e q.symm), r⟩
  · rcases List.mem_cons.mp hp with q | q
    · subst q
      exact ⟨ka, pa, nL, nc, MuOk.ofPlain (vs := vs' ++ [v]) hp₂ (by simpa using l₃) (m'.append (RdL.one r₂))⟩
    · obtain ⟨a', b', c', d', l''⟩ := S₂.mu p (List.Mem.tail _ q)
      exact ⟨a', b', c', d', l''.keep (fun o e => (s₃.2 _ (hne p q)).trans e) (KLe.refl _)⟩

/-- a list that is to be built -/
theorem ExL.newMut {x p es pos pos' ds rest o} (hsf : soft ds = false) (hx : storeOkE env x = true) (hs : swapsWith (.List es pos) (some (.Name x p)) pos'.line env = pure false) (hsz : ds.length ≤ 100000) (hv : EvL prog w T n env σ μ es ds)
    (hr : ∀ a, (∀ q ∈ μ, q.1 ≠ a) → ExL prog w T n env ((x, .mut a) :: drp x σ) ((a, ds) :: μ) rest o) : ExL prog w T n env σ μ (.Assign [.Name x p] (.List es pos) pos' :: rest) o := fun A s pk k Q E rm S h => by
  refine wpAny_execs_cons (wpAny_Assign_Name (List_ (hv A s pk k _ _ _ rm S fun vs k₁ h₁ t₁ u₁ r₁ => ?_)) hs)
  have hl := r₁.length
  refine wpAny_newList (s := { s with heap := h₁, toks := t₁ }) ?_ (by rw [sizeLine_eq]; omega)
  have u₂ : Up k s.heap k₁ (h₁.push { cls := .type "list", data := .seq vs.toArray }) t₁ := u₁.push
  have S₂ := S.up u₂
  have ka := u₁.ki.size
  have pa : pk h₁.objs.size = Option.none := by
    cases q : pk h₁.objs.size with
    | none => rfl
    | some o => have := (S.up u₁).kb _ _ q; rw [get_size] at this; cases this
  have own : ∀ b, Own env μ b → b ≠ h₁.objs.size := fun b ob q => by
    obtain ⟨_, _, o', e⟩ := (S.up u₁).own ob
    rw [q, get_size] at e; cases e
  have S₃ : St T pk k₁ env (h₁.push { cls := .type "list", data := .seq vs.toArray }) t₁ σ ((h₁.objs.size, ds) :: μ) :=
    { S₂ with
      mu := fun p hp => by
        rcases List.mem_cons.mp hp with q | q
        · subst q
          exact ⟨ka, pa, Ne.symm (own _ (.inl rfl)), fun x c e => Ne.symm (own c (.inr (.inl ⟨x, e⟩))), MuOk.ofPlain hsf ⟨0, Heap.get?_push_size _ rfl⟩ r₁⟩
        · exact S₂.mu p q }
  refine store_any (s := { s with heap := h₁.push { cls := .type "list", data := .seq vs.toArray }, toks := t₁ }) hx S₃ (d := .mut h₁.objs.size) (by unfold Rd; rfl) fun h' tk S₄ => ?_
  obtain ⟨ea, eb⟩ := endU (σ' := σ) (μ' := μ) S u₂
  exact hr h₁.objs.size (fun q hq => own _ (.inr (.inr ⟨q, hq, rfl⟩))) A _ pk k₁ _ _ rm S₄ fun f k₂ h₂ t₂ l₂ n₂ o₂ => h f k₂ h₂ t₂ (ea.trans l₂) (fun _ _ => outMono eb n₂) o₂
/-- it is built: from now on it stays -/
theorem ExTree.freeze {x a xs t o} (hp : soft xs = false) (hm : (x, D.mut a) ∈ σ) (hne : ∀ p ∈ μ, p.1 ≠ a) (hr : ExTree prog w T n env ((x, .list xs) :: drp x σ) μ t o) : ExTree prog w T n env σ ((a, xs) :: μ) t o := fun A s pk k Q E rm S h => by
  obtain ⟨ka, pa, nL, nc, lm⟩ := S.mu _ (List.Mem.head _)
  obtain ⟨vs, ⟨nn, l⟩, m⟩ := lm.plain hp
  have kl : KLe k (addk a { cls := .type "list", data := .seq vs.toArray nn } k) := addk_le ka
  have rd : Rd (addk a { cls := .type "list", data := .seq vs.toArray nn } k) (.list xs) (.ref a) := Rd.list ⟨_, addk_at, rfl, nn, rfl⟩ (m.le kl)
  have lift : ∀ {y : PySem.Str} {d : D} {v : Value}, Rd k d v → Rd (addk a { cls := .type "list", data := .seq vs.toArray nn } k) d v := fun r => r.le kl
  have at_x : ∀ {v : Value}, Rd k (.mut a) v → Rd (addk a { cls := .type "list", data := .seq vs.toArray nn } k) (.list xs) v := fun r => by have := r.m; subst this; exact rd
  refine hr A s pk _ Q E rm ⟨S.ok, S.top, S.kb, addk_in S.kh l, ?_, fun y c e => ?_, ⟨by rw [addk_of (Ne.symm nL)]; exact S.hL.1, S.hL.2⟩, fun y c e => ⟨by rw [addk_of (fun q => nc y c e q.symm)]; exact (S.hC y c e).1, (S.hC y c e).2⟩, S.dC, fun p hp => ?_⟩ ?_
  · obtain ⟨mm, hn, r⟩ := S.ns
    refine ⟨mm, hn, fun y d hk hd => ?_⟩
    rcases List.mem_cons.mp hd with q | q
    · cases q
      obtain ⟨v, e, r'⟩ := r x _ hk hm
      exact ⟨v, e, at_x r'⟩
    · obtain ⟨v, e, r'⟩ := r y d hk (mem_drp.mp q).1
      exact ⟨v, e, r'.le kl⟩
  · obtain ⟨v, i, r⟩ := S.cl y c e
    refine ⟨v, i, fun d hd => ?_⟩
    rcases List.mem_cons.mp hd with q | q
    · cases q
      obtain ⟨v', e', r'⟩ := r _ hm
      exact ⟨v', e', at_x r'⟩
    · obtain ⟨v', e', r'⟩ := r d (mem_drp.mp q).1
      exact ⟨v', e', r'.le kl⟩
  · obtain ⟨a', b', c', d', l''⟩ := S.mu p (List.Mem.tail _ hp)
    exact ⟨by rw [addk_of (hne p hp)]; exact a', b', c', d', l''.keep (fun _ e => e) kl⟩
  · intro f k' h' tk kl' kn o'
    refine h f k' h' tk (kl.trans kl') (fun b ob e => ?_) o'
    rcases kn b ob e with q | q
    · by_cases hb : b = a
      · subst hb; exact .inr pa
      · rw [addk_of hb] at q; exact .inl q
    · exact .inr q
end
section
variable {prog : Program} {w : World} {T : Heap → Prop} {n : Nat} {env : Env} {σ : Sg} {μ : List (Addr × List D)}

theorem EvT.eq {e b b'} (h : EvT prog w T n env σ μ e b) (q : b = b') : EvT prog w T n env σ μ e b' := q ▸ h
theorem EvE.eq {e d d'} (h : EvE prog w T n env σ μ e d) (q : d = d') : EvE prog w T n env σ μ e d' := q ▸ h
theorem EvT.and2 {x y pos a b} (hx : EvT prog w T n env σ μ x a) (hy : a = true → EvT prog w T n env σ μ y b) : EvT prog w T n env σ μ (.BoolOp .And [x, y] pos) (a && b) :=
  fun A s pk k Q E rm S h => wpAny_isTrue_BoolOp (wpAny_allTrue_And_cons (hx A s pk k _ _ rm S fun k₁ h₁ t₁ u₁ => by
    cases a with
    | false => simp only [Bool.false_eq_true, if_false]; exact h k₁ h₁ t₁ u₁
    | true =>
      simp only [if_true]
      refine wpAny_allTrue_And_cons (hy rfl A _ pk k₁ _ _ rm (S.up u₁) fun k₂ h₂ t₂ u₂ => ?_)
      cases b with
      | false => simp only [Bool.false_eq_true, if_false]; exact h k₂ h₂ t₂ (u₁.trans u₂)
      | true => simp only [if_true]; exact wpAny_allTrue_And_nil (h k₂ h₂ t₂ (u₁.trans u₂))))
theorem EvT.or2 {x y pos a b} (hx : EvT prog w T n env σ μ x a) (hy : a = false → EvT prog w T n env σ μ y b) : EvT prog w T n env σ μ (.BoolOp .Or [x, y] pos) (a || b) :=
  fun A s pk k Q E rm S h => wpAny_isTrue_BoolOp (wpAny_allTrue_Or_cons (hx A s pk k _ _ rm S fun k₁ h₁ t₁ u₁ => by
    cases a with
    | true => simp only [if_true]; exact h k₁ h₁ t₁ u₁
    | false =>
      simp only [Bool.false_eq_true, if_false]
      refine wpAny_allTrue_Or_cons (hy rfl A _ pk k₁ _ _ rm (S.up u₁) fun k₂ h₂ t₂ u₂ => ?_)
      cases b with
      | true => simp only [if_true]; exact h k₂ h₂ t₂ (u₁.trans u₂)
      | false => simp only [Bool.false_eq_true, if_false]; exact wpAny_allTrue_Or_nil (h k₂ h₂ t₂ (u₁.trans u₂))))
theorem EvE.and2 {x y pos a b} (hx : EvE prog w T n env σ μ x (.bool a)) (hy : a = true → EvE prog w T n env σ μ y (.bool b)) : EvE prog w T n env σ μ (.BoolOp .And [x, y] pos) (.bool (a && b)) :=
  fun A s pk k Q E rm S h => wpAny_And2 (hx A s pk k _ _ rm S fun v k₁ h₁ t₁ u₁ r₁ => by
    have := r₁.b; subst this
    refine wpAny_truthy_bool ?_
    cases a with
    | false => simp only [Bool.false_eq_true, if_false]; exact h _ k₁ h₁ t₁ u₁ Rd.bool
    | true => simp only [if_true]; exact hy rfl A _ pk k₁ _ _ rm (S.up u₁) fun v k₂ h₂ t₂ u₂ r₂ => h v k₂ h₂ t₂ (u₁.trans u₂) r₂)

/-- a < b < c -/
theorem EvT.chain2 {l o₁ o₂ e₁ e₂ pos d₁ d₂ d₃ a b} (hm : ∀ t₁ t₂ : Sem Value, markedEach [o₁, o₂] [e₁, e₂] [t₁, t₂] = [t₁, t₂]) (hl : EvE prog w T n env σ μ l d₁) (h₁ : EvE prog w T n env σ μ e₁ d₂) (c₁ : CmpR prog w T n o₁ d₁ d₂ a)
    (h₂ : a = true → EvE prog w T n env σ μ e₂ d₃) (c₂ : CmpR prog w T n o₂ d₂ d₃ b) : EvT prog w T n env σ μ (.Compare l [o₁, o₂] [e₁, e₂] pos) (a && b) := fun A s pk k Q E rm S h => by
  rw [arm_isTrue_Compare]
  show wpAny _ A (eval l env >>= fun v => testChain pos v [o₁, o₂] (markedEach [o₁, o₂] [e₁, e₂] [eval e₁ env, eval e₂ env])) Q E s
  rw [hm]
  refine wpAny_bind (hl A s pk k _ _ rm S fun v₁ k₁ g₁ t₁ u₁ r₁ => ?_)
  unfold testChain
  refine wpAny_bind (wpAny_holding (h₁ A _ pk k₁ _ _ rm (S.up u₁) fun v₂ k₂ g₂ t₂ u₂ r₂ => ?_))
  have S₂ := (S.up u₁).up u₂
  refine wpAny_bind (wpAny_standAt (wpAny_bind (wpAny_holding (c₁ A _ k₂ v₁ v₂ _ _ rm S₂.topAt u₂.ki (r₁.le u₂.kl) r₂ fun k₃ g₃ t₃ u₃ => ?_))))
  have S₃ := S₂.up u₃
  refine wpAny_bind (wpAny_release (wpAny_bind (wpAny_holding (wpAny_truthy_bool ?_))))
  cases a with
  | false => exact wpAny_pure (h k₃ g₃ t₃ (u₁.trans (u₂.trans u₃)))
  | true =>
    show wpAny _ A (testChain pos v₂ [o₂] [eval e₂ env]) _ _ _
    unfold testChain
    refine wpAny_bind (wpAny_holding (h₂ rfl A _ pk k₃ _ _ rm S₃ fun v₃ k₄ g₄ t₄ u₄ r₄ => ?_))
    refine wpAny_bind (wpAny_standAt (wpAny_bind (wpAny_operateT (c₂ A _ k₄ v₂ v₃ _ _ rm (S₃.up u₄).topAt u₄.ki (r₂.le (u₃.trans u₄).kl) r₄ fun k₅ g₅ t₅ u₅ => wpAny_holding (wpAny_truthy_bool (h k₅ g₅ t₅ ((u₁.trans u₂).trans (u₃.trans (u₄.trans u₅)))))))))

/-- several names at once -/
noncomputable def storeAll : List PySem.Str → List D → Sg → Sg
  | x :: xs, d :: ds, σ => storeAll xs ds ((x, d) :: drp x σ)
  | _, _, σ => σ
theorem stores {A : Around} {pk : Pk} {Q : Unit → Shared → Prop} {E : Value → Shared → Prop} : ∀ (xs : List PySem.Str) (ds : List D) (vs : List Value) (σ : Sg) (s : Shared) (k : Kn), xs.all (storeOkE env ·) = true → xs.length = ds.length → St T pk k env s.heap s.toks σ μ → RdL k ds vs →
    (∀ h' tk, St T pk k env h' tk (storeAll xs ds σ) μ → Q () { s with heap := h', toks := tk }) → wpAny (model prog w) A (assignInOrder (xs.map fun n => bindName env n) vs) Q E s := by
  intro xs
  induction xs with
  | nil =>
    intro ds vs σ s k _ hl S r h
    cases ds with
    | nil =>
      unfold RdL at r; subst r
      exact wpAny_assignInOrder_none (h s.heap s.toks S)
    | cons _ _ => simp at hl
  | cons x xs ih =>
    intro ds vs σ s k hx hl S r h
    cases ds with
    | nil => simp at hl
    | cons d ds =>
      simp only [List.all_cons, Bool.and_eq_true] at hx
      unfold RdL at r
      obtain ⟨v, vs', rfl, rv, rr⟩ := r
      refine wpAny_assignInOrder_more (wpAny_bindName (store_any hx.1 S rv fun h' tk S' => ?_))
      exact ih ds vs' ((x, d) :: drp x σ) { s with heap := h', toks := tk } k hx.2 (by simpa using hl) S' rr h
/-- three names = a tuple that comes from somewhere -/
theorem ExS.unpack3 {x y z p q r kk tpos value pos d₁ d₂ d₃} (hx : storeOkE env x = true) (hy : storeOkE env y = true) (hz : storeOkE env z = true) (hv : EvE prog w T n env σ μ value (.tup [d₁, d₂, d₃]))
    (hs : swapsWithSole [.Tuple [.Name x p, .Name y q, .Name z r] kk tpos] value pos.line env = pure false) (hw : swappedStores [.Tuple [.Name x p, .Name y q, .Name z r] kk tpos] value env = pure Option.none) :
    ExS prog w T n env σ μ (.Assign [.Tuple [.Name x p, .Name y q, .Name z r] kk tpos] value pos) (.next (storeAll [x, y, z] [d₁, d₂, d₃] σ) μ) := fun A s pk k Q E rm S h => by
  refine Assign_Tuple (hv A s pk k _ _ rm S fun v k₁ h₁ t₁ u₁ r₁ => ?_) hs hw
  obtain ⟨a, vs, rfl, l, m⟩ := r₁.t
  obtain ⟨v₁, v₂, v₃, rfl, m₁, m₂, m₃⟩ := m.three3
  refine wpAny_assign_Tuple (s := { s with heap := h₁, toks := t₁ }) rm.1 (l.at u₁.ki) rfl rfl fun h₂ he => ?_
  have keep : Le h₁ h₂ := fun b o e => he b o (Nat.ne_of_lt (Heap.lt_size e)) e
  have u₂ := Up.grow u₁.ki keep (Nat.le_refl t₁)
  have u := u₁.trans u₂
  obtain ⟨ea, eb⟩ := endU (σ' := σ) (μ' := μ) S u
  refine wpAny_assignInOrder_more (wpAny_assign_Name (store_any (s := { s with heap := h₂, toks := t₁ }) hx (S.up u) (m₁.le u₂.kl) fun h₃ t₃ S₃ => ?_))
  refine wpAny_assignInOrder_more (wpAny_assign_Name (store_any (s := { s with heap := h₃, toks := t₃ }) hy S₃ (m₂.le u₂.kl) fun h₄ t₄ S₄ => ?_))
  refine wpAny_assignInOrder_more (wpAny_assign_Name (store_any (s := { s with heap := h₄, toks := t₄ }) hz S₄ (m₃.le u₂.kl) fun h₅ t₅ S₅ => ?_))
  exact wpAny_assignInOrder_none (h .next _ h₅ t₅ ea eb ⟨rfl, S₅⟩)
theorem ExS.swap {elts kk tpos value pos ds} (xs : List PySem.Str) (hx : xs.reverse.all (storeOkE env ·) = true) (hl : xs.length = ds.length) (hv : EvE prog w T n env σ μ value (.tup ds))
    (hs : swapsWithSole [.Tuple elts kk tpos] value pos.line env = pure false) (hw : swappedStores [.Tuple elts kk tpos] value env = pure (some xs)) :
    ExS prog w T n env σ μ (.Assign [.Tuple elts kk tpos] value pos) (.next (storeAll xs.reverse ds.reverse σ) μ) := fun A s pk k Q E rm S h => by
  refine Assign_Tuple_swapped (hv A s pk k _ _ rm S fun v k₁ h₁ t₁ u₁ r₁ => ?_) hs hw
  obtain ⟨a, vs, rfl, l, m⟩ := r₁.t
  have hlen : vs.toArray.size = xs.length := by rw [List.size_toArray, m.length, hl]
  rw [← hlen]
  refine wpAny_unpackItems_tuple (s := { s with heap := h₁, toks := t₁ }) rm.1 (l.at u₁.ki) fun h₂ he => ?_
  have keep : Le h₁ h₂ := fun b o e => he b o (Nat.ne_of_lt (Heap.lt_size e)) e
  have u₂ := Up.grow u₁.ki keep (Nat.le_refl t₁)
  have u := u₁.trans u₂
  obtain ⟨ea, eb⟩ := endU (σ' := σ) (μ' := μ) S u
  have rev : ∀ {ds : List D} {vs : List Value}, RdL (grown k₁ h₁ h₂) ds vs → RdL (grown k₁ h₁ h₂) ds.reverse vs.reverse := by
    intro ds
    induction ds with
    | nil => intro vs r; unfold RdL at r; subst r; exact RdL.nil
    | cons d ds ih =>
      intro vs r
      unfold RdL at r
      obtain ⟨v, r', rfl, a, b⟩ := r
      rw [List.reverse_cons, List.reverse_cons]
      exact (ih b).append (RdL.one a)
  refine stores xs.reverse ds.reverse _ σ { s with heap := h₂, toks := t₁ } _ hx (by simp [hl]) (S.up u) (rev (m.le u₂.kl)) fun h' tk S' => ?_
  exact h .next _ h' tk ea eb ⟨rfl, S'⟩

theorem ExS.tryRet {body h₀ hs pos d} (hb : ExL prog w T n env σ μ body (.ret d)) : ExS prog w T n env σ μ (.Try body (h₀ :: hs) [] [] pos) (.ret d) := fun A s pk k Q E rm S h =>
  wpAny_Try_except (hb A s pk k _ _ rm S fun f k₁ h₁ t₁ l₁ n₁ o₁ => by
    obtain ⟨v, rfl, r⟩ := o₁
    exact h _ k₁ h₁ t₁ l₁ n₁ ⟨v, rfl, r⟩)
end
/-- what of the program's top is used -/
structure TK (K : Frag) (h : Heap) : Prop where
  k : K.In h
  lim : h.NoLimit
  g : ∃ mg, h.Ns mainGlobals mg
  b : ∃ mb, h.Ns builtinsNs mb ∧ ∀ x : PySem.Str, x ≠ "__name__" → mb x = bootBuiltins x
theorem TK.le {K : Frag} : TLe (TK K) := fun h h' l t => ⟨fun a o e => l _ _ (t.k a o e), t.lim.keeps l, let ⟨m, x⟩ := t.g; ⟨m, x.keeps l⟩, let ⟨m, x, y⟩ := t.b; ⟨m, x.keeps l, y⟩⟩
theorem TK.tOk {K : Frag} : TOk (TK K) := ⟨TK.le, fun _ t => t.g⟩

/-- the env's scope, known by a closed constant -/
noncomputable def nameOkS (sc : Scope) (x : PySem.Str) : Bool :=
  (match sc.names.lookup x with | some .local => true | some .cell => true | some .free => true | _ => false) && !(x == ("__debug__" : PySem.Str)) && !(x == ("__classdict__" : PySem.Str))
noncomputable def storeOkS (sc : Scope) (x : PySem.Str) : Bool := match sc.names.lookup x with | some .local => true | some .cell => true | _ => false
noncomputable def globOkS (sc : Scope) (x : PySem.Str) : Bool := sc.names.lookup x == some .globalImplicit && !(x == ("__debug__" : PySem.Str))
section
variable {prog : Program} {w : World} {K : Frag} {n : Nat} {env : Env} {σ : Sg} {μ : List (Addr × List D)} {sc : Scope}
theorem nameOk_of (h : env.scope = sc) {x : PySem.Str} (e : nameOkS sc x = true) : nameOk env x = true := by subst h; exact e
theorem storeOk_of (h : env.scope = sc) {x : PySem.Str} (e : storeOkS sc x = true) : storeOkE env x = true := by subst h; exact e
theorem globOk_of' (h : env.scope = sc) {x : PySem.Str} (e : globOkS sc x = true) : globOk env x = true := by subst h; exact e
theorem EvF.gk {x pos v} (hl : globOk env x = true) (e : nsIn K mainGlobals x = some (some v)) : EvF prog w (TK K) n env σ μ (.Name x pos) v :=
  EvF.glob hl fun h t => let ⟨m, g⟩ := t.g; ⟨m, g, mg_of t.k g e⟩
theorem EvF.bk {x pos v} (hl : globOk env x = true) (e : nsIn K mainGlobals x = some none) (hv : bootBuiltins x = some v) (hn : x ≠ "__name__") : EvF prog w (TK K) n env σ μ (.Name x pos) v :=
  EvF.built hl fun h t => let ⟨m, g⟩ := t.g; let ⟨b, gb, hb⟩ := t.b; ⟨m, b, g, mg_none_of t.k g e, gb, (hb x hn).trans hv⟩
theorem FnC.ofK {f : Addr} {oc : Value} {od : Option Addr} {osl : Array (Option Value)} {fd : FuncData} {body : List Stmt} {ds : List D} {d : D} (ps : List PySem.Str)
    (hl : K.lookup f = some ⟨oc, od, .func fd, osl⟩) (hc : codeIn K fd.code fd.qualname = true) (hbody : fd.body = .stmts body) (hok : scopeOk fd ps = true) (hlen : ps.length = ds.length)
    (hb : ∀ vs, vs.length = ps.length → bindArgs fd ⟨vs, []⟩ = pure (ps.zip vs)) (hx : ∀ (env : Env) (σ : Sg), σ = ps.zip ds → env.scope = fd.scope → ExL prog w (TK K) n env σ [] body (.ret d)) : FnC prog w (TK K) (n + 1) f ds d :=
  FnC.of ps TK.le (fun h t => ⟨t.k _ _ hl, t.lim, codeRec_of t.k hc⟩) hbody hok hlen hb fun L => hx _ _ rfl rfl
end
section
variable {prog : Program} {w : World} {T : Heap → Prop} {K : Frag} {n : Nat} {env : Env} {σ : Sg} {μ : List (Addr × List D)} {sc : Scope}
noncomputable def max2 (a b : Int) : Int := if b > a then b else a
noncomputable def min2 (a b : Int) : Int := if b < a then b else a
theorem CallC.max2I {a b : Int} : CallC prog w T n (.builtin "max") [.int a, .int b] (.int (max2 a b)) := fun A s k vs Q E rm ht ki r hq => by
  obtain ⟨x, y, rfl, rx, ry⟩ := r.two2
  obtain ⟨t, rfl⟩ := rx.i; obtain ⟨u, rfl⟩ := ry.i
  refine wpAny_with_toks (n := s.toks) (Nat.le_refl _) (max_two_ints rm.1 fun h' tk keep htk => hq _ _ _ _ (Up.grow ki keep htk) ?_)
  unfold max2
  split <;> exact Rd.int
theorem CallC.min2I {a b : Int} : CallC prog w T n (.builtin "min") [.int a, .int b] (.int (min2 a b)) := fun A s k vs Q E rm ht ki r hq => by
  obtain ⟨x, y, rfl, rx, ry⟩ := r.two2
  obtain ⟨t, rfl⟩ := rx.i; obtain ⟨u, rfl⟩ := ry.i
  refine wpAny_with_toks (n := s.toks) (Nat.le_refl _) (min_two_ints rm.1 fun h' tk keep htk => hq _ _ _ _ (Up.grow ki keep htk) ?_)
  unfold min2
  split <;> exact Rd.int

theorem bMax : bootBuiltins "max" = some (.builtin "max") := by rfl
theorem bMin : bootBuiltins "min" = some (.builtin "min") := by rfl
theorem bAbs : bootBuiltins "abs" = some (.builtin "abs") := by rfl
theorem bInt : bootBuiltins "int" = some (.type "int") := by rfl
theorem bLen : bootBuiltins "len" = some (.builtin "len") := by rfl
theorem bSum : bootBuiltins "sum" = some (.builtin "sum") := by rfl
theorem bTuple : bootBuiltins "tuple" = some (.type "tuple") := by rfl
theorem bRange : bootBuiltins "range" = some (.type "range") := by rfl
theorem bSorted : bootBuiltins "sorted" = some (.builtin "sorted") := by rfl
/-- what the program's top holds is called -/
theorem Quick.k {f : Value} (hk : keepIn K f = true) : Quick prog w (TK K) f := fun h t => keeps_K hk h t.k
theorem EvE.callG {x np es pos f ds d} (hl : globOk env x = true) (e : nsIn K mainGlobals x = some (some (.ref f))) (hk : keepIn K (.ref f) = true) (hp : (starEach es env).any (·.1) = false) (ha : EvL prog w (TK K) n env σ μ es ds)
    (hc : FnC prog w (TK K) n f ds d) : EvE prog w (TK K) n env σ μ (.Call (.Name x np) es [] pos) d := EvE.callF (EvF.gk hl e) (Quick.k hk) hp ha hc.call
theorem EvE.callB {x np es pos f ds d} (hl : globOk env x = true) (e : nsIn K mainGlobals x = some none) (hv : bootBuiltins x = some f) (hn : x ≠ "__name__") (hq : Quick prog w (TK K) f) (hp : (starEach es env).any (·.1) = false) (ha : EvL prog w (TK K) n env σ μ es ds)
    (hc : CallC prog w (TK K) n f ds d) : EvE prog w (TK K) n env σ μ (.Call (.Name x np) es [] pos) d := EvE.callF (EvF.bk hl e hv hn) hq hp ha hc
theorem FnC.less {f ds d m} (h : FnC prog w T n f ds d) (l : n ≤ m) : FnC prog w T m f ds d := fun A s k vs R rm => h A s k vs R (rm.less l)

/-- a comprehension's scope in the frame whose scope is known -/
noncomputable def relabelS (scope sc : Scope) : Scope :=
  { scope with names := scope.names.map fun (n, k) => if (k == .free && sc.kind == .function && sc.names.lookup n == some .cell) then (n, .cell) else (n, k) }
theorem cenv_scope {scope : Scope} {C : Addr} (h : env.scope = sc) : (cenv scope C env).scope = relabelS scope sc := by subst h; rfl
noncomputable def compOkS (scope sc : Scope) (xs : List PySem.Str) : Bool :=
  scope.kind == .function && decide ((scope.names.map (·.1)).Nodup) && scope.names.all (fun p => !(p.2 == .cell)) && xs.all (fun x => scope.names.lookup x == some .local) &&
  scope.names.all (fun p => !(p.2 == .local) || xs.contains p.1) && scope.names.all (fun p => !(p.2 == .free) || sc.names.lookup p.1 == some .cell || sc.names.lookup p.1 == some .free)
theorem compOk_of {scope : Scope} {xs : List PySem.Str} (h : env.scope = sc) (e : compOkS scope sc xs = true) : compOk scope env xs = true := by subst h; exact e
noncomputable def swapOkS (scope sc : Scope) (t : PySem.Str) : Bool :=
  sc.kind == .function && sc.names.lookup t == some .local && !scope.names.any fun x => x.1 == t && (x.2 == .local || x.2 == .cell)
theorem swaps_yes {elt : Expr} {gs : List Comprehension} {scope : Scope} {pos spos py : Pos} {y : PySem.Str} (h : env.scope = sc) (e : swapOkS scope sc y = true) (hp : (py.line == pos.line) = true) :
    swapsWith (.ListComp elt gs scope pos) (some (.Name y py)) spos.line env = pure true := by
  subst h
  simp only [swapOkS, Bool.and_eq_true, beq_iff_eq, Bool.not_eq_true'] at e
  obtain ⟨⟨e1, e2⟩, e3⟩ := e
  have hb : env.blockKind = .function := by unfold Env.blockKind; rw [e1]; rfl
  have hk : env.kindOf y = some .local := e2
  unfold swapsWith
  simp only [hb, hk, beq_self_eq_true, Bool.true_and]
  show pure ((py.line == pos.line) && !scope.names.any fun x => x.1 == y && (x.2 == .local || x.2 == .cell)) = _
  rw [hp, e3]
  rfl
theorem swaps_no {v : Expr} {l : Nat} {py : Pos} {y : PySem.Str} (h : env.scope = sc) (e : (sc.names.lookup y == some .cell) = true) : swapsWith v (some (.Name y py)) l env = pure false := by
  subst h
  have hk : env.kindOf y = some .cell := beq_iff_eq.mp e
  unfold swapsWith
  split
  · simp only [hk]
    show pure ((env.blockKind == .function && false && _) && _) = _
    simp
  · rfl

/-- a new name: told by the names alone -/
theorem ExS.asgK {x p v pos d} {ns : List PySem.Str} (hv : EvE prog w T n env σ μ v d) (hx : storeOkE env x = true) (hs : swapsWith v (some (.Name x p)) pos.line env = pure false) (hn : σ.map (·.1) = ns) (hf : (ns.all fun p => !(p == x)) = true) :
    ExS prog w T n env σ μ (.Assign [.Name x p] v pos) (.next ((x, d) :: σ) μ) := ExS.asgN hx hs (by
  subst hn
  rw [List.all_map] at hf
  exact hf) hv
noncomputable def notStar : Expr → Bool
  | .Starred _ _ => false
  | _ => true
theorem starE {e : Expr} {es : List Expr} (h : notStar e = true) : starEach (e :: es) env = (false, eval e env) :: starEach es env := by
  cases e <;> first | rfl | cases h
theorem EvE.tupK {es k pos ds} (h₁ : EvL prog w T n env σ μ es ds) (hs : Nat.ble ds.length 100000 = true) : EvE prog w T n env σ μ (.Tuple es k pos) (.tup ds) := EvE.tup (Nat.le_of_ble_eq_true hs) h₁
theorem EvE.listK {es pos ds} (h₁ : EvL prog w T n env σ μ es ds) (hs : Nat.ble ds.length 100000 = true) : EvE prog w T n env σ μ (.List es pos) (.list ds) := EvE.list (Nat.le_of_ble_eq_true hs) h₁
theorem EvE.idxI {v i p ds d} {j : Nat} (hv : EvE prog w T n env σ μ v (.list ds)) (hi : EvE prog w T n env σ μ i (.int (j : Int))) (h1 : j < 1000000) (hd : ds[j]? = some d)
    (hs : ∀ o iv, subscripted i false o iv = operate [o, iv] (getItem o iv)) : EvE prog w T n env σ μ (.Subscript v i p) d := EvE.idx hv hi (Int.natCast_nonneg j) (by omega) (by simpa using hd) hs

theorem drp_names {ns : List PySem.Str} {x : PySem.Str} (hn : σ.map (·.1) = ns) (hf : (ns.all fun p => !(p == x)) = true) : drp x σ = σ := drp_fresh (by
  subst hn
  rw [List.all_map] at hf
  exact hf)
/-- a comprehension without tests, its name new -/
theorem no_dot0 {ns : List PySem.Str} (hn : σ.map (·.1) = ns) (hf : (ns.all fun p => !(p == ".0")) = true) : ∀ d, ((".0" : PySem.Str), d) ∉ σ := fun d h => by
  subst hn
  have := List.all_eq_true.mp hf ".0" (List.mem_map.mpr ⟨_, h, rfl⟩)
  simp at this
theorem EvE.compM {elt iter : Expr} {x : PySem.Str} {px : Pos} {scope : Scope} {pos : Pos} {ds : List D} {ns : List PySem.Str} (f : D → D) (hsc : env.scope = sc) (hc : compOkS scope sc [x, ".0"] = true) (hn : σ.map (·.1) = ns) (hf : (ns.all fun p => !(p == x)) = true) (h0 : (ns.all fun p => !(p == ".0")) = true)
    (hi : EvI prog w T n env σ μ iter ds) (hsz : ds.length ≤ 100000)
    (he : ∀ C d, d ∈ ds → EvE prog w T n (cenv scope C env) ((x, d) :: σ) μ elt (f d)) (hs : ∀ x, foldedSetIterable iter env x = pure x) :
    EvE prog w T n env σ μ (.ListComp elt [⟨.Name x px, iter, [], 0⟩] scope pos) (.list (ds.map f)) := by
  have h := EvE.comp (ifs := []) (pos := pos) (px := px) (fun _ => true) f (compOk_of hsc hc) (no_dot0 hn h0) hi hsz (fun C d hd => EvIfs.nil) (fun C d hd _ => by rw [drp_names hn hf]; exact he C d hd) hs
  rwa [List.filter_eq_self.mpr (fun _ _ => rfl)] at h
theorem ExS.asgM {elt iter : Expr} {x y : PySem.Str} {px py : Pos} {scope : Scope} {pos spos : Pos} {ds : List D} {ns : List PySem.Str} (f : D → D) (hsc : env.scope = sc) (hy : swapOkS scope sc y = true) (hp : (py.line == pos.line) = true) (hc : compOkS scope sc [x, ".0"] = true)
    (hn : σ.map (·.1) = ns) (hf : (ns.all fun p => !(p == x)) = true) (h0 : (ns.all fun p => !(p == ".0")) = true) (hg : (ns.all fun p => !(p == y)) = true)
    (hi : EvI prog w T n env σ μ iter ds) (hsz : ds.length ≤ 100000) (he : ∀ C d, d ∈ ds → EvE prog w T n (cenv scope C env) ((x, d) :: σ) μ elt (f d)) (hs : ∀ x, foldedSetIterable iter env x = pure x) :
    ExS prog w T n env σ μ (.Assign [.Name y py] (.ListComp elt [⟨.Name x px, iter, [], 0⟩] scope pos) spos) (.next ((y, .list (ds.map f)) :: σ) μ) := by
  have hst : storeOkE env y = true := by
    subst hsc
    simp only [swapOkS, Bool.and_eq_true, beq_iff_eq] at hy
    have hk : env.kindOf y = some .local := hy.1.2
    unfold storeOkE
    rw [hk]
  have h := ExS.asgComp (ifs := []) (pos := pos) (px := px) (py := py) (spos := spos) (fun _ => true) f hst (swaps_yes hsc hy hp) (compOk_of hsc hc) (no_dot0 hn h0) hi hsz (fun C d hd => EvIfs.nil) (fun C d hd _ => by rw [drp_names hn hf]; exact he C d hd) hs
  rwa [List.filter_eq_self.mpr (fun _ _ => rfl), drp_names hn hg] at h
theorem ExS.asgC {x p v pos d} {ns : List PySem.Str} (hv : EvE prog w T n env σ μ v d) (hsc : env.scope = sc) (hx : (sc.names.lookup x == some .cell) = true) (hn : σ.map (·.1) = ns) (hf : (ns.all fun p => !(p == x)) = true) :
    ExS prog w T n env σ μ (.Assign [.Name x p] v pos) (.next ((x, d) :: σ) μ) := by
  refine ExS.asgK hv ?_ (swaps_no hsc hx) hn hf
  subst hsc
  have hk : env.kindOf x = some .cell := beq_iff_eq.mp hx
  unfold storeOkE
  rw [hk]
theorem EvT.cmpK {l op r pos d₁ d₂ b} (hl : EvE prog w T n env σ μ l d₁) (hr : EvE prog w T n env σ μ r d₂) (ho : CmpR prog w T n op d₁ d₂ b) (hm : behindInMarks op r = false) :
    EvT prog w T n env σ μ (.Compare l [op] [r] pos) b := EvT.cmp hm hl hr ho
noncomputable def apart : List PySem.Str → List PySem.Str → Bool
  | [], _ => true
  | x :: xs, ns => (ns.all fun p => !(p == x)) && apart xs (x :: ns)
theorem storeAll_new : ∀ (xs : List PySem.Str) (ds : List D) (σ : Sg) (ns : List PySem.Str), σ.map (·.1) = ns → apart xs ns = true → xs.length = ds.length → storeAll xs ds σ = (xs.zip ds).reverse ++ σ
  | [], [], σ, ns, _, _, _ => rfl
  | x :: xs, d :: ds, σ, ns, hn, ha, hl => by
    unfold apart at ha
    rw [Bool.and_eq_true] at ha
    show storeAll xs ds ((x, d) :: drp x σ) = _
    rw [drp_names hn ha.1, storeAll_new xs ds ((x, d) :: σ) (x :: ns) (by rw [List.map_cons, hn]) ha.2 (by simpa using hl)]
    simp
theorem ExS.swap2 {elts kk tpos value pos d₁ d₂} {ns : List PySem.Str} (x y : PySem.Str) (hx : storeOkE env x = true) (hy : storeOkE env y = true) (hv : EvE prog w T n env σ μ value (.tup [d₁, d₂])) (hn : σ.map (·.1) = ns) (hf : apart [y, x] ns = true)
    (hs : swapsWithSole [.Tuple elts kk tpos] value pos.line env = pure false) (hw : swappedStores [.Tuple elts kk tpos] value env = pure (some [x, y])) :
    ExS prog w T n env σ μ (.Assign [.Tuple elts kk tpos] value pos) (.next ((x, d₁) :: (y, d₂) :: σ) μ) := by
  have h := ExS.swap [x, y] (by simp [hx, hy]) rfl hv hs hw
  have e : storeAll [x, y].reverse [d₁, d₂].reverse σ = (x, d₁) :: (y, d₂) :: σ := storeAll_new [y, x] [d₂, d₁] σ ns hn hf rfl
  rwa [e] at h
theorem ExS.unpackN {x y z p q r kk tpos value pos d₁ d₂ d₃} {ns : List PySem.Str} (hv : EvE prog w T n env σ μ value (.tup [d₁, d₂, d₃])) (hx : storeOkE env x = true) (hy : storeOkE env y = true) (hz : storeOkE env z = true) (hn : σ.map (·.1) = ns) (hf : apart [x, y, z] ns = true)
    (hs : swapsWithSole [.Tuple [.Name x p, .Name y q, .Name z r] kk tpos] value pos.line env = pure false) (hw : swappedStores [.Tuple [.Name x p, .Name y q, .Name z r] kk tpos] value env = pure Option.none) :
    ExS prog w T n env σ μ (.Assign [.Tuple [.Name x p, .Name y q, .Name z r] kk tpos] value pos) (.next ((z, d₃) :: (y, d₂) :: (x, d₁) :: σ) μ) := by
  have h := ExS.unpack3 hx hy hz hv hs hw
  have e : storeAll [x, y, z] [d₁, d₂, d₃] σ = (z, d₃) :: (y, d₂) :: (x, d₁) :: σ := storeAll_new [x, y, z] [d₁, d₂, d₃] σ ns hn hf rfl
  rwa [e] at h
mutual
/-- lists of constants as data -/
noncomputable def constD : Expr → Option D
  | .Constant (.str x) _ _ => some (.str x)
  | .Constant (.int x) _ _ => some (.int x)
  | .List es _ => match constDs es with | some ds => if ds.length ≤ 100000 then some (.list ds) else Option.none | Option.none => Option.none
  | _ => Option.none
noncomputable def constDs : List Expr → Option (List D)
  | [] => some []
  | e :: es => match constD e, constDs es with | some d, some ds => some (d :: ds) | _, _ => Option.none
end
mutual
theorem EvE.const : ∀ {e : Expr} {d : D}, constD e = some d → EvE prog w T n env σ μ e d
  | .Constant (.str x) _ _, d, h => by unfold constD at h; cases h; exact EvE.cStr
  | .Constant (.int x) _ _, d, h => by unfold constD at h; cases h; exact EvE.cInt
  | .List es _, d, h => by
    unfold constD at h
    split at h
    · rename_i ds q
      split at h
      · rename_i hl
        cases h; exact EvE.list hl (EvL.const q)
      · cases h
    · cases h
  | .Constant .none _ _, d, h | .Constant .ellipsis _ _, d, h | .Constant (.bool _) _ _, d, h | .Constant (.bytes _) _ _, d, h | .Constant (.float _) _ _, d, h | .Constant (.complex _ _) _ _, d, h => by unfold constD at h; cases h
  | .BoolOp .., d, h | .NamedExpr .., d, h | .BinOp .., d, h | .UnaryOp .., d, h | .Lambda .., d, h | .IfExp .., d, h | .Dict .., d, h | .Set .., d, h | .ListComp .., d, h | .SetComp .., d, h | .DictComp .., d, h | .GeneratorExp .., d, h
  | .Await .., d, h | .Yield .., d, h | .YieldFrom .., d, h | .Compare .., d, h | .Call .., d, h | .FormattedValue .., d, h | .JoinedStr .., d, h | .Attribute .., d, h | .Subscript .., d, h | .Starred .., d, h | .Name .., d, h | .Tuple .., d, h | .Slice .., d, h => by unfold constD at h; cases h
theorem EvL.const : ∀ {es : List Expr} {ds : List D}, constDs es = some ds → EvL prog w T n env σ μ es ds
  | [], ds, h => by unfold constDs at h; cases h; exact EvL.nil
  | e :: es, ds, h => by
    unfold constDs at h
    split at h
    · rename_i d ds' q₁ q₂
      cases h
      refine EvL.cons (starE ?_) (EvE.const q₁) (EvL.const q₂)
      cases e <;> first | rfl | (unfold constD at q₁; cases q₁)
    · cases h
end
end
section
variable {prog : Program} {w : World} {T : Heap → Prop} {K : Frag} {n : Nat} {env : Env} {σ : Sg} {μ : List (Addr × List D)} {sc : Scope}
theorem swapped_cell {x y : PySem.Str} {p q tp vp : Pos} {k k' : Nat} {v₁ v₂ : Expr} (hs : env.scope = sc) (hx : (sc.names.lookup x == some .cell) = true) : swappedStores [.Tuple [.Name x p, .Name y q] k tp] (.Tuple [v₁, v₂] k' vp) env = pure Option.none := by
  subst hs
  have hk : env.kindOf x = some .cell := beq_iff_eq.mp hx
  simp only [swappedStores, List.filterMap_cons, List.filterMap_nil, hk]
  cases h1 : (env.kindOf y == some NameKind.local && q.line == (Option.map (fun x => x.pos.line) [Expr.Name x p, Expr.Name y q].head?).getD 0)
  all_goals
    split
    · rfl
    · split
      · rfl
      · rfl
theorem ExS.unpack2 {x y p q kk tpos value pos d₁ d₂} {ns : List PySem.Str} (hv : EvE prog w T n env σ μ value (.tup [d₁, d₂])) (hx : storeOkE env x = true) (hy : storeOkE env y = true) (hn : σ.map (·.1) = ns) (hf : apart [x, y] ns = true)
    (hs : swapsWithSole [.Tuple [.Name x p, .Name y q] kk tpos] value pos.line env = pure false) (hw : swappedStores [.Tuple [.Name x p, .Name y q] kk tpos] value env = pure Option.none) :
    ExS prog w T n env σ μ (.Assign [.Tuple [.Name x p, .Name y q] kk tpos] value pos) (.next ((y, d₂) :: (x, d₁) :: σ) μ) := fun A s pk k Q E rm S h => by
  refine Assign_Tuple (hv A s pk k _ _ rm S fun v k₁ h₁ t₁ u₁ r₁ => ?_) hs hw
  obtain ⟨a, vs, rfl, l, m⟩ := r₁.t
  obtain ⟨v₁, v₂, rfl, m₁, m₂⟩ := m.two2
  refine wpAny_assign_Tuple (s := { s with heap := h₁, toks := t₁ }) rm.1 (l.at u₁.ki) rfl rfl fun h₂ he => ?_
  have keep : Le h₁ h₂ := fun b o e => he b o (Nat.ne_of_lt (Heap.lt_size e)) e
  have u₂ := Up.grow u₁.ki keep (Nat.le_refl t₁)
  have u := u₁.trans u₂
  obtain ⟨ea, eb⟩ := endU (σ' := σ) (μ' := μ) S u
  refine wpAny_assignInOrder_more (wpAny_assign_Name (store_any (s := { s with heap := h₂, toks := t₁ }) hx (S.up u) (m₁.le u₂.kl) fun h₃ t₃ S₃ => ?_))
  refine wpAny_assignInOrder_more (wpAny_assign_Name (store_any (s := { s with heap := h₃, toks := t₃ }) hy S₃ (m₂.le u₂.kl) fun h₄ t₄ S₄ => ?_))
  have e : (y, d₂) :: drp y ((x, d₁) :: drp x σ) = (y, d₂) :: (x, d₁) :: σ := storeAll_new [x, y] [d₁, d₂] σ ns hn hf rfl
  rw [e] at S₄
  have S₅ := S₄
  exact wpAny_assignInOrder_none (h .next _ h₄ t₄ ea eb ⟨rfl, S₅⟩)
end
theorem intVals_rdl {k : Kn} : ∀ {vs : List Value} {c : List Int}, intVals vs c → RdL k (c.map .int) vs
  | [], c, h => by unfold intVals at h; subst h; exact RdL.nil
  | v :: r, c, h => by
    unfold intVals at h
    obtain ⟨n, ms, rfl, ⟨t, rfl⟩, q⟩ := h
    exact RdL.cons Rd.int (intVals_rdl q)
theorem rdl_intVals {k : Kn} : ∀ {c : List Int} {vs : List Value}, RdL k (c.map .int) vs → intVals vs c
  | [], vs, h => by unfold List.map RdL at h; subst h; unfold intVals; rfl
  | n :: c, vs, h => by
    unfold List.map RdL at h
    obtain ⟨v, r, rfl, a, b⟩ := h
    unfold intVals
    exact ⟨n, c, rfl, a.i, rdl_intVals b⟩
section
variable {prog : Program} {w : World} {T : Heap → Prop} {K : Frag} {n : Nat} {env : Env} {σ : Sg} {μ : List (Addr × List D)} {sc : Scope}
/-- the normal form of a whitespace -/
noncomputable def normD (c : List Int) (b : Int) : D := .tup [.tup (c.map .int), .int b]
theorem EvE.attrNorm {e pos C c b} {attr : Option Value} (he : EvE prog w (TK K) n env σ μ e (.ws C c b)) (hg : plainGet K C "norm" = true) (hh : hasDictIn K C = true) (ha : findIn K (.ref C) "norm" = some attr) (hn : noGet K attr = true)
    (hnode : eval (.Attribute e "norm" pos) env = (do
      let o ← eval e env
      standAt pos.atName
      let r ← holding [o] (getAttr o "norm" true)
      letTemporaryGo e o r
      pure r) := by with_unfolding_all rfl) :
    EvE prog w (TK K) n env σ μ (.Attribute e "norm" pos) (normD c b) := fun A s pk k Q E rm S hq => by
  refine Attribute_any_ (he A s pk k _ _ rm S fun v k₁ h₁ t₁ u₁ r₁ => ?_) hnode
  unfold Rd at r₁
  obtain ⟨a, es, tv, v₁, _, cv, tb, rfl, ⟨dx, nn, i1, i2⟩, gl, kt, kt1, iv, _, _⟩ := r₁
  have X := (S.up u₁).topAt.k
  have I : InstAt h₁ a (instObj C dx) C (some (dictOf es nn)) := ⟨u₁.ki.at _ _ i1, rfl, rfl, u₁.ki.at _ _ i2⟩
  refine get_value (s := { s with heap := h₁, toks := t₁ }) X I (plainGet_of hg).1 (findObj_own hh ha hn (by rw [lookIn_dict]; exact gl)) ?_ (hq _ k₁ h₁ _ (u₁.trans (Up.tok u₁.ki (Nat.le_succ _))) ?_)
  · rfl
  · unfold normD
    exact Rd.tup kt (RdL.cons (Rd.tup kt1 (intVals_rdl iv)) (RdL.one Rd.int))
theorem CmpR.eqNorm {c c' : List Int} {b b' : Int} : CmpR prog w T n .Eq (normD c b) (normD c' b') (decide (c = c') && decide (b = b')) := fun A s k v₁ v₂ Q E rm ht ki r₁ r₂ h => by
  unfold normD at r₁ r₂
  obtain ⟨a, vs, rfl, l₁, m₁⟩ := r₁.t; obtain ⟨a', us, rfl, l₂, m₂⟩ := r₂.t
  obtain ⟨x, y, rfl, x1, y1⟩ := m₁.two2
  obtain ⟨x', y', rfl, x2, y2⟩ := m₂.two2
  obtain ⟨t, rfl⟩ := y1.i
  obtain ⟨t', rfl⟩ := y2.i
  have hu := rm.room
  refine eq_tupleAt (e := fun j => if j = 0 then decide (c = c') else (b == b')) (l₁.at ki) (l₂.at ki) (by omega) (fun j h1 h2 => ?_) ?_
  · have h1' : j < 2 := by simpa using h1
    match j, h1' with
    | 0, _ => exact eqAt_tup ki (by show A.units + 1 < cLine; omega) x1 x2
    | 1, _ => exact (MeetsSeq.EqGives.int _ _ _ _).at _ _
  · have e : ((List.range (min [x, Value.int b t].toArray.size [x', Value.int b' t'].toArray.size)).all (fun j => if j = 0 then decide (c = c') else (b == b')) && [x, Value.int b t].toArray.size == [x', Value.int b' t'].toArray.size) = (decide (c = c') && decide (b = b')) := by
      show ((List.range 2).all _ && true) = _
      rw [Bool.and_true]
      show (_ && (_ && true)) = _
      rw [Bool.and_true]
      rfl
    rw [e]
    exact h k s.heap s.toks (Up.refl ki)
noncomputable def pairD (p : Int × Int) : D := .tup [.int p.1, .int p.2]
theorem pairs_get {k : Kn} {ps : List (Int × Int)} {vs : List Value} (h : RdL k (ps.map pairD) vs) (j : Nat) (hj : j < ps.length) : ∃ v, vs[j]? = some v ∧ Rd k (.tup ([ps[j].1, ps[j].2].map .int)) v := by
  obtain ⟨v, e, r⟩ := h.get (i := j) (d := pairD ps[j]) (by simp [hj])
  exact ⟨v, e, r⟩
theorem CmpR.eqPairs {ps qs : List (Int × Int)} : CmpR prog w T n .Eq (.list (ps.map pairD)) (.list (qs.map pairD)) (decide (ps = qs)) := fun A s k v₁ v₂ Q E rm ht ki r₁ r₂ h => by
  obtain ⟨a, vs, rfl, l₁, m₁⟩ := r₁.l; obtain ⟨a', us, rfl, l₂, m₂⟩ := r₂.l
  have e1 : vs.length = ps.length := by rw [m₁.length]; simp
  have e2 : us.length = qs.length := by rw [m₂.length]; simp
  have hu := rm.room
  by_cases hl : ps.length = qs.length
  · refine eq_listAt (e := fun j => decide ([(ps.getD j (0, 0)).1, (ps.getD j (0, 0)).2] = [(qs.getD j (0, 0)).1, (qs.getD j (0, 0)).2])) (l₁.at ki) (l₂.at ki) (by simp [e1, e2, hl]) (by omega) (fun j h1 h2 => ?_) ?_
    · have h1' : j < ps.length := by rw [← e1]; simpa using h1
      have h2' : j < qs.length := by rw [← e2]; simpa using h2
      obtain ⟨v, q, r⟩ := pairs_get m₁ j h1'
      obtain ⟨u, q', r'⟩ := pairs_get m₂ j h2'
      have g1 : vs.toArray[j] = v := by
        have := List.getElem?_eq_getElem (l := vs) (i := j) (by simpa using h1)
        rw [this] at q; simpa using q
      have g2 : us.toArray[j] = u := by
        have := List.getElem?_eq_getElem (l := us) (i := j) (by simpa using h2)
        rw [this] at q'; simpa using q'
      rw [g1, g2]
      have p1 : ps.getD j (0, 0) = ps[j] := by simp [List.getD, h1']
      have p2 : qs.getD j (0, 0) = qs[j] := by simp [List.getD, h2']
      rw [p1, p2]
      exact eqAt_tup ki (by show A.units + 1 < cLine; omega) r r'
    · have : ((List.range vs.toArray.size).all fun j => decide ([(ps.getD j (0, 0)).1, (ps.getD j (0, 0)).2] = [(qs.getD j (0, 0)).1, (qs.getD j (0, 0)).2])) = decide (ps = qs) := by
        rw [List.size_toArray, e1]
        by_cases he : ps = qs
        · subst he; simp
        · rw [decide_eq_false he, Bool.eq_false_iff]
          intro hall
          apply he
          rw [List.all_eq_true] at hall
          apply List.ext_getElem hl
          intro i h1 h2
          have := hall i (by simp [h1])
          simp only [List.getD, List.getElem?_eq_getElem h1, List.getElem?_eq_getElem h2, Option.getD_some, decide_eq_true_eq, List.cons.injEq, and_true] at this
          exact Prod.ext this.1 this.2
      rw [this]
      exact h k s.heap s.toks (Up.refl ki)
  · refine eq_list_lengthsAt (l₁.at ki) (l₂.at ki) (by simpa [e1, e2] using hl) (by omega) ?_
    have : decide (ps = qs) = false := decide_eq_false fun e => hl (by rw [e])
    rw [this] at h
    exact h k s.heap s.toks (Up.refl ki)

/-- a method of a class, called on its object -/
theorem EvE.callM {o name apos es pos C f c b ds d} (hsh : ∀ es, getL "equal" es = some Option.none → getL name es = some Option.none) (ho : EvE prog w (TK K) n env σ μ o (.ws C c b)) (hg : plainGet K C name = true) (hf : findIn K (.ref C) name = some (some (.ref f))) (ht : typeIn K (.ref f) = some (.type "function")) (hk : keepIn K (.ref f) = true)
    (hp : (starEach es env).any (·.1) = false) (ha : EvL prog w (TK K) n env σ μ es ds) (hc : FnC prog w (TK K) n f (.ws C c b :: ds) d) (pl : Sem Bool)
    (he : eval (.Call (.Attribute o name apos) es [] pos) env = (do
      let ov ← eval o env
      standAt apos.atName
      let (f, first) ← holding [ov] (getMethod ov name pl)
      callWith pos f first (backTo pos (starEach es env)) [])) : EvE prog w (TK K) n env σ μ (.Call (.Attribute o name apos) es [] pos) d := fun A s pk k Q E rm S hq => by
  refine MethodCall_ (pl := pl) (ho A s pk k _ _ rm S fun v k₁ h₁ t₁ u₁ r₁ => ?_) he
  have r₁' := r₁
  unfold Rd at r₁
  obtain ⟨a, es', tv, v₁, _, cv, tb, rfl, ⟨dx, nn, i1, i2⟩, gl, kt, kt1, iv, sh, _⟩ := r₁
  have X := (S.up u₁).topAt.k
  have I : InstAt h₁ a (instObj C dx) C (some (dictOf es' nn)) := ⟨u₁.ki.at _ _ i1, rfl, rfl, u₁.ki.at _ _ i2⟩
  refine method_fn (s := { s with heap := h₁, toks := t₁ }) X I (plainGet_of hg).1 (plainGet_of hg).2 hf ht (by show (lookIn name (dictOf es' nn)).map _ = _; rw [lookIn_dict, hsh es' sh]; rfl) ?_
  refine callWith_of (P := TK K) (by show ((backTo pos (starEach es env)).any (·.1) || false) = false; rw [backTo_plain hp]; rfl) (Quick.k hk) ?_
  refine evalArgs_any hp (ha A _ pk k₁ pos _ _ rm (S.up u₁) fun vs k₂ h₂ t₂ u₂ r₂ => ?_)
  have ht := ((S.up u₁).up u₂).topAt
  exact ⟨ht, hc.call A _ k₂ (.ref a :: vs) _ _ rm ht u₂.ki (RdL.cons (r₁'.le u₂.kl) r₂) fun v k₃ h₃ t₃ u₃ r₃ => hq v k₃ h₃ t₃ ((u₁.trans u₂).trans u₃) r₃⟩
end
section
variable {prog : Program} {w : World} {T : Heap → Prop} {K : Frag} {n : Nat}
/-- into a def, its objects kept as told -/
theorem enterAny {f : Addr} {oc : Value} {od : Option Addr} {osl : Array (Option Value)} {fd : FuncData} {body : List Stmt} {ds : List D} {A : Around} {s : Shared} {k : Kn} {vs : List Value} {R : Result → Shared → Prop} {pk : Pk} (ps : List PySem.Str)
    (ho : s.heap.get? f = some ⟨oc, od, .func fd, osl⟩) (hlim : s.heap.NoLimit) (hcd : s.heap.CodeRec fd.code fd.qualname) (hbody : fd.body = .stmts body) (hok : scopeOk fd ps = true) (hlen : ps.length = ds.length)
    (hb : ∀ vs, vs.length = ps.length → bindArgs fd ⟨vs, []⟩ = pure (ps.zip vs)) (rm : Rm (n + 1) A) (ki : KIn k s.heap s.toks) (r : RdL k ds vs) (hpk : ∀ b o, pk b = some o → s.heap.get? b = some o) (top : ∀ g, PIn pk g → T g)
    (hx : ∀ L h₁ tk E, St T pk k (callEnvC fd L f) h₁ tk (ps.zip ds) [] → Le s.heap h₁ → (∀ b, Own (callEnvC fd L f) [] b → s.heap.get? b = Option.none) → s.toks ≤ tk →
      wpAny (model prog w) (A.deeper (callEnvC fd L f)) (execs body (callEnvC fd L f)) (fun fl s' => match fl with | .ret v => R (.ok (.ret v)) s' | _ => R (.ok (.ret .none)) s') E { s with heap := h₁, toks := tk }) :
    codeAny (model prog w) A (.call (.ref f) ⟨vs, []⟩) R s := by
  simp only [scopeOk, Bool.and_eq_true, beq_iff_eq, decide_eq_true_eq, Bool.not_eq_true', List.isEmpty_iff] at hok
  obtain ⟨⟨⟨⟨⟨⟨⟨⟨⟨hk, hco⟩, hgen⟩, hnd⟩, hfree⟩, hclo⟩, hgl⟩, hbl⟩, hpn⟩, hpk'⟩ := hok
  have hvs : vs.length = ps.length := by rw [r.length, hlen]
  have hfst : (ps.zip vs).map (·.1) = ps := by rw [List.map_fst_zip]; omega
  have hpk'' := List.all_eq_true.mp hpk'
  have kinds : ∀ x ∈ ps, fd.scope.names.lookup x = some .local ∨ fd.scope.names.lookup x = some .cell := fun x hx => by
    have := hpk'' x hx
    simpa using this
  refine codeAny_call_function (by have := rm.2.1; omega) ho rfl hco hgen hbody hcd ?_
  rw [hb vs hvs, hclo]
  refine wpAny_pure (wpAny_with_toks (n := s.toks) (Nat.le_refl _) (wpAny_newFunctionEnv_cells hk (fun x hx => ?_) fun env' he s' x htk => ?_))
  · have hx' : x.1 ∈ ps := hfst ▸ List.mem_map.mpr ⟨x, hx, rfl⟩
    refine (kinds _ hx').imp_right fun e => ⟨e, ?_⟩
    exact cellsFrom_some _ _ _ (.inl e)
  · have henv : env' = callEnvC fd s.heap.objs.size f := he
    clear he
    subst henv
    refine ⟨hlim.keeps x.toInCall.keep, codeAny_func ?_⟩
    obtain ⟨h₁, tk, rfl, hk₁⟩ := x.done
    have cells_eq : ∀ y c, (callEnvC fd s.heap.objs.size f).cells.lookup y = some c → (callEnvC fd s.heap.objs.size f).kindOf y = some .cell := fun y c hc => by
      by_cases q : (y, NameKind.cell) ∈ fd.scope.names
      · exact lookup_of_nodup hnd q
      · have := cellsFrom_none fd.scope.names (s.heap.objs.size + 1) [] q rfl
        have hc' : (cellsFrom (s.heap.objs.size + 1) fd.scope.names []).lookup y = some c := hc
        rw [this] at hc'; cases hc'
    have okE : EnvOk (callEnvC fd s.heap.objs.size f) := by
      refine ⟨hk, fun y hy => ?_, fun y c hc => .inl (cells_eq y c hc), hgl, hbl⟩
      rcases hy with hy | hy
      · exact Option.isSome_iff_exists.mp (cellsFrom_some _ _ _ (.inl hy))
      · have hm := mem_of_lookup (hy : fd.scope.names.lookup y = some .free)
        have := List.all_eq_true.mp hfree _ hm
        simp at this
    have lt_of : ∀ y c, (callEnvC fd s.heap.objs.size f).cells.lookup y = some c → s.heap.objs.size < c := fun y c hc => x.above y c (mem_of_lookup hc)
    have nok : ∀ c, s.heap.objs.size ≤ c → s.heap.get? c = Option.none := fun c hc => by
      cases q : s.heap.get? c with
      | none => rfl
      | some o => exact absurd (Heap.lt_size q) (Nat.not_lt.mpr hc)
    have nopk : ∀ c, s.heap.objs.size ≤ c → pk c = Option.none := fun c hc => by
      cases q : pk c with
      | none => rfl
      | some o => have := nok c hc; rw [hpk _ _ q] at this; cases this
    have nokk : ∀ c, s.heap.objs.size ≤ c → k.m c = Option.none := fun c hc => by
      cases q : k.m c with
      | none => rfl
      | some o => have := nok c hc; rw [ki.at _ _ q] at this; cases this
    have S₀ : St T pk k (callEnvC fd s.heap.objs.size f) h₁ tk (ps.zip ds) [] := by
      refine ⟨okE, top, fun b o e => hk₁ _ _ (hpk b o e), ki.le hk₁ htk, ⟨_, x.toInCall.ns, fun y d' hy hd => ?_⟩, fun y c hc => ?_, ⟨nokk _ (Nat.le_refl _), nopk _ (Nat.le_refl _)⟩, fun y c hc => ?_, fun y z c hy hz => ?_, fun p hp => nomatch hp⟩
      · obtain ⟨v, hv, rv⟩ := r.zip hd
        exact ⟨v, bindL_get hy (hfst.symm ▸ hpn) hv, rv⟩
      · refine ⟨_, x.cell y c hc, fun d' hd => ?_⟩
        obtain ⟨v, hv, rv⟩ := r.zip hd
        refine ⟨v, bindC_get ?_ (hfst.symm ▸ hpn) hv, rv⟩
        have := cells_eq y c hc
        rw [this]; decide
      · have := lt_of y c hc
        exact ⟨nokk c (Nat.le_of_lt this), nopk c (Nat.le_of_lt this), Nat.ne_of_gt this⟩
      · exact name_of_addr x.apart (mem_of_lookup hy) (mem_of_lookup hz)
    refine wpAny_mono (hx _ _ _ _ S₀ hk₁ (fun b ob => ?_) htk) (fun fl s' h => ?_) fun _ _ e => e
    · rcases ob with rfl | ⟨y, hy⟩ | ⟨p, hp, _⟩
      · exact nok _ (Nat.le_refl _)
      · exact nok _ (Nat.le_of_lt (lt_of y b hy))
      · cases hp
    · trace_state
      cases fl <;> exact h
end
/-- a tree that ends in o a, for an object a that the run finds -/
noncomputable def ExA (prog : Program) (w : World) (T : Heap → Prop) (n : Nat) (env : Env) (σ : Sg) (μ : List (Addr × List D)) (t : Sem Flow) (o : Addr → Out) : Prop :=
  ∀ (A : Around) (s : Shared) (pk : Pk) (k : Kn) (Q : Flow → Shared → Prop) (E : Value → Shared → Prop), Rm n A → St T pk k env s.heap s.toks σ μ →
    (∀ a f k' h' tk, KLe k k' → (∀ b ob, k'.m b = some ob → k.m b = some ob ∨ pk b = Option.none) → OutIs T pk env k' h' tk (o a) f → Q f { s with heap := h', toks := tk }) →
    wpAny (model prog w) A t Q E s
section
variable {prog : Program} {w : World} {T : Heap → Prop} {K : Frag} {n : Nat} {env : Env} {σ : Sg} {μ : List (Addr × List D)}
theorem ExA.of {t o o'} (a : Addr) (h₁ : ExTree prog w T n env σ μ t o') (e : o' = o a) : ExA prog w T n env σ μ t o := fun A s pk k Q E rm S h => by
  subst e; exact h₁ A s pk k Q E rm S fun f k' h' tk x y z => h a f k' h' tk x y z
theorem ExA.cons {st rest σ₁ μ₁ o} (h₁ : ExS prog w T n env σ μ st (.next σ₁ μ₁)) (h₂ : ExA prog w T n env σ₁ μ₁ (execs rest env) o) : ExA prog w T n env σ μ (execs (st :: rest) env) o :=
  fun A s pk k Q E rm S h => wpAny_execs_cons (h₁ A s pk k _ _ rm S fun f k₁ h₁ t₁ l₁ n₁ o₁ => by
    obtain ⟨rfl, S₁⟩ := o₁
    exact h₂ A _ pk k₁ _ _ rm S₁ fun a f k₂ h₂ t₂ l₂ n₂ o₂ => h a f k₂ h₂ t₂ (l₁.trans l₂) (fun b ob e => outMono n₁ n₂ e) o₂)
theorem ExA.consA {st rest o} {σ₁ : Addr → Sg} {μ₁ : Addr → List (Addr × List D)} (h₁ : ExA prog w T n env σ μ (exec st env) (fun a => .next (σ₁ a) (μ₁ a))) (h₂ : ∀ a, ExA prog w T n env (σ₁ a) (μ₁ a) (execs rest env) o) : ExA prog w T n env σ μ (execs (st :: rest) env) o :=
  fun A s pk k Q E rm S h => wpAny_execs_cons (h₁ A s pk k _ _ rm S fun a f k₁ h₁ t₁ l₁ n₁ o₁ => by
    obtain ⟨rfl, S₁⟩ := o₁
    exact h₂ a A _ pk k₁ _ _ rm S₁ fun a f k₂ h₂ t₂ l₂ n₂ o₂ => h a f k₂ h₂ t₂ (l₁.trans l₂) (fun b ob e => outMono n₁ n₂ e) o₂)
theorem ExA.consB {st rest o} (h₁ : ExA prog w T n env σ μ (exec st env) o) (hb : ∀ a, ∃ σ₁ μ₁, o a = .brk σ₁ μ₁) : ExA prog w T n env σ μ (execs (st :: rest) env) o :=
  fun A s pk k Q E rm S h => wpAny_execs_cons (h₁ A s pk k _ _ rm S fun a f k₁ h₁ t₁ l₁ n₁ o₁ => by
    obtain ⟨σ₁, μ₁, e⟩ := hb a
    have o₁' := o₁
    rw [e] at o₁
    obtain ⟨rfl, _⟩ := o₁
    exact h a _ k₁ h₁ t₁ l₁ n₁ o₁')
theorem ExA.ifs {t a b pos c o} (ht : EvT prog w T n env σ μ t c) (ha : c = true → ExA prog w T n env σ μ (execs a env) o) (hb : c = false → ExA prog w T n env σ μ (execs b env) o) : ExA prog w T n env σ μ (exec (.If t a b pos) env) o :=
  fun A s pk k Q E rm S h => wpAny_If (ht A s pk k _ _ rm S fun k₁ h₁ t₁ u₁ => by
    obtain ⟨l₁, n₁⟩ := endU (σ' := σ) (μ' := μ) S u₁
    cases c with
    | true => exact ha rfl A _ pk k₁ _ _ rm (S.up u₁) fun a f k₂ h₂ t₂ l₂ n₂ o₂ => h a f k₂ h₂ t₂ (l₁.trans l₂) (fun _ _ => outMono n₁ n₂) o₂
    | false => exact hb rfl A _ pk k₁ _ _ rm (S.up u₁) fun a f k₂ h₂ t₂ l₂ n₂ o₂ => h a f k₂ h₂ t₂ (l₁.trans l₂) (fun _ _ => outMono n₁ n₂) o₂)
theorem ExA.less {t σ' o} (l : ∀ p ∈ σ', p ∈ σ) (h₁ : ExA prog w T n env σ' μ t o) : ExA prog w T n env σ μ t o :=
  fun A s pk k Q E rm S h => h₁ A s pk k Q E rm (S.less l) h
/-- what happens at the turns: go on, or break behind item j -/
theorem ExA.forG {x px iter body pos ds} (Sq : Nat → Addr → Sg) (Mq : Nat → Addr → List (Addr × List D)) (a₀ : Addr) (j : Nat) (bk : Bool) (hx : storeOkE env x = true) (hi : EvI prog w T n env σ μ iter ds) (h0 : Sq 0 a₀ = σ) (m0 : Mq 0 a₀ = μ)
    (hj : if bk = true then j < ds.length else j = ds.length)
    (hb : ∀ i α d, i < j → ds[i]? = some d → ExA prog w T n env ((x, d) :: drp x (Sq i α)) (Mq i α) (execs body env) (fun α => .next (Sq (i + 1) α) (Mq (i + 1) α)))
    (hbk : bk = true → ∀ α d, ds[j]? = some d → ExA prog w T n env ((x, d) :: drp x (Sq j α)) (Mq j α) (execs body env) (fun α => .brk (Sq (j + 1) α) (Mq (j + 1) α)))
    (hs : ∀ x, foldedSetIterable iter env x = pure x) :
    ExA prog w T n env σ μ (exec (.For (.Name x px) iter body [] pos) env) (fun α => .next (Sq (if bk = true then j + 1 else j) α) (Mq (if bk = true then j + 1 else j) α)) := fun A s pk k Q E rm S hq => by
  subst h0 m0
  refine wpAny_For (hi A s pk k _ _ rm S fun it k₀ h₀ t₀ u₀ io => ?_) hs
  obtain ⟨I, fp, wr, P, Sx, rfl, W, sx, hwr, hfp, alive, hP⟩ := io
  have S₀ := S.up u₀
  have own0 : ∀ b, Own env (Mq 0 a₀) b → b ∉ fp := fun b o hb => by
    obtain ⟨a, c, d⟩ := S.own o
    rcases hfp b hb with ⟨o', e⟩ | e
    · rw [(S₀.own o).2.1] at e; cases e
    · obtain ⟨ob, g⟩ := d; rw [e] at g; cases g
  have pkwr : ∀ b ∈ wr, pk b = Option.none := fun b hb => by
    cases q : pk b with
    | none => rfl
    | some o => have := S.kb _ _ q; rw [(hwr b hb).2] at this; cases this
  have SP : St T (plus fp h₀ pk) k₀ env h₀ t₀ (Sq 0 a₀) (Mq 0 a₀) := S₀.change (plus_top S₀.kb S₀.top) (plus_kin S₀.kb) (fun b o => by rw [plus_out (own0 b o)]; exact (S₀.own o).1) (fun _ _ _ e => e) (Nat.le_refl _)
  obtain ⟨ea, eb⟩ := endU (σ' := Sq 0 a₀) (μ' := Mq 0 a₀) S u₀
  refine codeAny_forLoop
    (fun f s' => ∃ i α k' h' tk, s' = { s with heap := h', toks := tk } ∧ i ≤ j ∧ f = ds.length + 1 - i ∧ St T (plus fp h' pk) k' env h' tk (Sq i α) (Mq i α) ∧ PIn pk h' ∧ Sx i h' ∧ KLe k₀ k' ∧ (∀ b ∈ wr, k'.m b = Option.none) ∧
      (∀ b ob, k'.m b = some ob → k₀.m b = some ob ∨ pk b = Option.none)) ?_ (ds.length + 1)
    ⟨0, a₀, k₀, h₀, t₀, rfl, Nat.zero_le _, rfl, SP, S₀.kb, sx, KLe.refl _, fun b hb => (hwr b hb).1, fun _ _ e => .inl e⟩
  rintro f s' ⟨i, α, k', h', tk, rfl, hij, rfl, Si, pi, sxi, kl, kwr, kn⟩
  have ownI : ∀ b, Own env (Mq i α) b → b ∉ fp ∧ pk b = Option.none := fun b o => by
    obtain ⟨a, _, _⟩ := Si.own o
    by_cases hb : b ∈ fp
    · rw [plus_in hb] at a
      obtain ⟨ob, g⟩ := alive _ _ sxi b hb
      rw [g] at a; cases a
    · rw [plus_out hb] at a; exact ⟨hb, a⟩
  by_cases hlt : i < ds.length
  · refine wpAny_with_toks (n := tk) (Nat.le_refl _) (W.item i _ _ _ hlt sxi fun v h₁ tk₁ hPv sx₁ keep htk => ?_)
    have pi₁ : PIn pk h₁ := fun b o e => keep b o (fun q => by rw [pkwr b q] at e; cases e) (pi _ _ e)
    have S₁ : St T (plus fp h₁ pk) k' env h₁ tk₁ (Sq i α) (Mq i α) := Si.change (plus_top pi₁ S.top) (plus_kin pi₁) (fun b o => by rw [plus_out (ownI b o).1]; exact (ownI b o).2)
      (fun b o ob e => keep b o (fun q => by
        rcases ob with ob | ob
        · exact (ownI b ob).1 (W.sub b q)
        · rw [kwr b q] at ob; cases ob) e) htk
    have rd : Rd k' ds[i] v := (hP i ds[i] v (by simp [hlt]) hPv).le kl
    have hget : ds[i]? = some ds[i] := by simp [hlt]
    have hex₁ := alive _ _ sx₁
    refine wpAny_assign_Name (store_any hx S₁ rd fun h₂ tk₂ S₂ => ?_)
    have fin : ∀ {k₂ : Kn} {h₃ : Heap} {t₃ : Nat} {σ' : Sg} {μ' : List (Addr × List D)}, (∀ b ob, k₂.m b = some ob → k'.m b = some ob ∨ plus fp h₁ pk b = Option.none) → St T (plus fp h₁ pk) k₂ env h₃ t₃ σ' μ' → KLe k' k₂ →
        plus fp h₃ pk = plus fp h₁ pk ∧ PIn pk h₃ ∧ Sx (i + 1) h₃ ∧ (∀ b ∈ wr, k₂.m b = Option.none) ∧ (∀ b ob, k₂.m b = some ob → k₀.m b = some ob ∨ pk b = Option.none) := fun {k₂ h₃ t₃ σ' μ'} n₂ S₃ l₂ => by
      have same : ∀ b ∈ fp, ∀ o, h₁.get? b = some o → h₃.get? b = some o := fun b hb o e => S₃.kb b o (by rw [plus_in hb]; exact e)
      refine ⟨plus_same fun b hb => ?_, fun b o e => S₃.kb b o ?_, W.frame _ _ _ sx₁ same, fun b hb => ?_, fun b ob e => ?_⟩
      · obtain ⟨o, e⟩ := hex₁ b hb
        rw [e, same b hb o e]
      · by_cases hb : b ∈ fp
        · rw [plus_in hb]; exact pi₁ _ _ e
        · rw [plus_out hb]; exact e
      · cases q : k₂.m b with
        | none => rfl
        | some o =>
          rcases n₂ b o q with e | e
          · rw [kwr b hb] at e; cases e
          · rw [plus_in (W.sub b hb)] at e
            obtain ⟨o', e'⟩ := hex₁ b (W.sub b hb)
            rw [e'] at e; cases e
      · rcases n₂ b ob e with e' | e'
        · exact kn b ob e'
        · by_cases hb : b ∈ fp
          · rw [plus_in hb] at e'
            obtain ⟨o', e''⟩ := hex₁ b hb
            rw [e''] at e'; cases e'
          · rw [plus_out hb] at e'; exact .inr e'
    by_cases hij' : i < j
    · refine hb i α ds[i] hij' hget A _ _ k' _ _ rm S₂ fun α₂ fl k₂ h₃ tk₃ l₂ n₂ o₂ => ?_
      obtain ⟨rfl, S₃⟩ := o₂
      obtain ⟨e1, e2, e3, e4, e5⟩ := fin n₂ S₃ l₂
      exact ⟨ds.length + 1 - (i + 1), by omega, i + 1, α₂, k₂, h₃, tk₃, rfl, hij', rfl, e1 ▸ S₃, e2, e3, kl.trans l₂, e4, e5⟩
    · have hji : i = j := by omega
      subst hji
      cases bk with
      | false => simp only [Bool.false_eq_true, if_false] at hj; omega
      | true =>
        refine hbk rfl α ds[i] hget A _ _ k' _ _ rm S₂ fun α₂ fl k₂ h₃ tk₃ l₂ n₂ o₂ => ?_
        obtain ⟨rfl, S₃⟩ := o₂
        obtain ⟨e1, e2, e3, e4, e5⟩ := fin n₂ S₃ l₂
        refine hq α₂ .next k₂ h₃ tk₃ (ea.trans (kl.trans l₂)) (fun b ob e => (e5 b ob e).elim (eb b ob) .inr) ⟨rfl, ?_⟩
        simp only [if_true]
        refine S₃.change S.top e2 (fun b o => ?_) (fun _ _ _ e => e) (Nat.le_refl _)
        have := (S₃.own o).1
        by_cases hb : b ∈ fp
        · rw [plus_in hb] at this
          obtain ⟨o', e'⟩ := hex₁ b hb
          rw [e'] at this; cases this
        · rwa [plus_out hb] at this
  · have hin : i = ds.length := by
      cases bk with
      | false => simp only [Bool.false_eq_true, if_false] at hj; omega
      | true => simp only [if_true] at hj; omega
    cases bk with
    | true => simp only [if_true] at hj; omega
    | false =>
      simp only [Bool.false_eq_true, if_false] at hj ⊢
      refine wpAny_with_toks (n := tk) (Nat.le_refl _) (W.done _ _ _ (hin ▸ sxi) fun h₁ tk₁ keep htk => wpAny_execs_nil ?_)
      have pi₁ : PIn pk h₁ := fun b o e => keep b o (fun q => by rw [pkwr b q] at e; cases e) (pi _ _ e)
      refine hq α .next k' h₁ tk₁ (ea.trans kl) (fun b ob e => (kn b ob e).elim (eb b ob) .inr) ⟨rfl, ?_⟩
      have hji : i = j := by omega
      rw [← hji]
      exact Si.change S.top pi₁ (fun b o => (ownI b o).2) (fun b o ob e => keep b o (fun q => by
        rcases ob with ob | ob
        · exact (ownI b ob).1 (W.sub b q)
        · rw [kwr b q] at ob; cases ob) e) htk


end
section
variable {prog : Program} {w : World} {T : Heap → Prop} {K : Frag} {n : Nat} {env : Env} {σ : Sg} {μ : List (Addr × List D)}
/-- the list's mark: it may be changed in place -/
noncomputable abbrev sft (xs : List Int) : List D := .none :: xs.map .int
theorem MuOk.sft {k h a xs} (x : MuOk k h a (Mine.sft xs)) : ∃ vs : List Value, h.IsList a vs.toArray ∧ RdL k (xs.map .int) vs := x.list
theorem MuOk.ofSft {k : Kn} {h : Heap} {a : Addr} {xs : List Int} {vs : List Value} (l : h.IsList a vs.toArray) (r : RdL k (xs.map .int) vs) : MuOk k h a (Mine.sft xs) := ⟨vs, by rw [if_pos (show soft (Mine.sft xs) = true from rfl)]; exact l, r⟩

theorem EvE.lenMut {x np e pos a} {xs : List Int} (hm : (a, sft xs) ∈ μ) (hf : EvF prog w T n env σ μ (.Name x np) (.builtin "len")) (hp : (starEach [e] env).any (·.1) = false) (he : starEach [e] env = [(false, eval e env)])
    (ha : EvE prog w T n env σ μ e (.mut a)) (hz : xs.length ≤ 1000) : EvE prog w T n env σ μ (.Call (.Name x np) [e] [] pos) (.int xs.length) := fun A s pk k Q E rm S h => by
  refine wpAny_Call_ofName (hf A s pk k _ _ rm S ?_)
  refine callWith_of (P := T) (by show ((backTo pos (starEach [e] env)).any (·.1) || false) = false; rw [backTo_plain hp]; rfl) Quick.builtin ?_
  refine evalArgs_any hp (EvL.cons he ha EvL.nil A s pk k pos _ _ rm S fun vs k₁ h₁ t₁ u₁ r₁ => ⟨(S.up u₁).topAt, ?_⟩)
  obtain ⟨v, rfl, rv⟩ := r₁.one1
  have := rv.m; subst this
  obtain ⟨_, _, _, _, lm⟩ := (S.up u₁).mu _ hm
  obtain ⟨us, l, m⟩ := lm.sft
  have hl := m.length
  refine Calls.call_len_list (s := { s with heap := h₁, toks := t₁ }) l (by rw [List.size_toArray, hl, List.length_map]; omega) (h _ k₁ h₁ _ (u₁.trans (Up.tok u₁.ki (by show t₁ ≤ t₁ + 1 + 1; omega))) ?_)
  rw [List.size_toArray, hl, List.length_map]; exact Rd.int
theorem EvE.idxMut {v i p a} {xs : List Int} {j : Nat} {d : Int} (ha : (a, sft xs) ∈ μ) (hv : EvE prog w T n env σ μ v (.mut a)) (hi : EvE prog w T n env σ μ i (.int j)) (h1 : j < 1000000) (hd : xs[j]? = some d)
    (hs : ∀ o iv, subscripted i false o iv = operate [o, iv] (getItem o iv)) : EvE prog w T n env σ μ (.Subscript v i p) (.int d) := fun A s pk k Q E rm S h => by
  refine Subscript_ (hv A s pk k _ _ rm S fun o k₁ h₁ t₁ u₁ r₁ => hi A _ pk k₁ _ _ rm (S.up u₁) fun iv k₂ h₂ t₂ u₂ r₂ => ?_)
  have := r₁.m; subst this
  obtain ⟨t, rfl⟩ := r₂.i
  obtain ⟨_, _, _, _, l⟩ := ((S.up u₁).up u₂).mu _ ha
  obtain ⟨vs, l, m⟩ := l.sft
  obtain ⟨x, e, r⟩ := m.get (i := j) (d := .int d) (by simp [hd])
  exact tail_any (s := { s with heap := h₂, toks := t₂ }) l.typeIs slot_list_getitem.lookup (wpAny_getItem_list l (Int.natCast_nonneg j) (by omega) (by simpa using e) (h x k₂ h₂ t₂ (u₁.trans u₂) r)) (hs _ _)
theorem RdL.set {k : Kn} {d : D} {v : Value} : ∀ {ds : List D} {vs : List Value} (j : Nat), RdL k ds vs → Rd k d v → RdL k (ds.set j d) (vs.set j v)
  | [], vs, j, h, g => by unfold RdL at h; subst h; exact RdL.nil
  | e :: ds, vs, j, h, g => by
    unfold RdL at h
    obtain ⟨u, r, rfl, a, b⟩ := h
    cases j with
    | zero => exact RdL.cons g b
    | succ j => exact RdL.cons a (RdL.set j b g)
/-- x[i] = v, in place -/
theorem ExS.setItem {o i p v pos a} {xs : List Int} {j : Nat} {d : Int} (hv : EvE prog w T n env σ ((a, sft xs) :: μ) v (.int d)) (ho : EvE prog w T n env σ ((a, sft xs) :: μ) o (.mut a)) (hi : EvE prog w T n env σ ((a, sft xs) :: μ) i (.int j)) (hj : j < xs.length) (hz : xs.length ≤ 1000)
    (hne : ∀ p ∈ μ, p.1 ≠ a) (hs : swapsWith v (some (.Subscript o i p)) pos.line env = pure false := by rfl) :
    ExS prog w T n env σ ((a, sft xs) :: μ) (.Assign [.Subscript o i p] v pos) (.next σ ((a, sft (xs.set j d)) :: μ)) := fun A s pk k Q E rm S h => by
  refine wpAny_Assign_Subscript (hv A s pk k _ _ rm S fun vv k₁ h₁ t₁ u₁ r₁ => ho A _ pk k₁ _ _ rm (S.up u₁) fun ov k₂ h₂ t₂ u₂ r₂ => hi A _ pk k₂ _ _ rm ((S.up u₁).up u₂) fun iv k₃ h₃ t₃ u₃ r₃ => ?_) hs
  have := r₂.m; subst this
  obtain ⟨t, rfl⟩ := r₃.i
  have S₃ := ((S.up u₁).up u₂).up u₃
  obtain ⟨ka, pa, nL, nc, lm⟩ := S₃.mu _ (List.Mem.head _)
  obtain ⟨vs, l, m⟩ := lm.sft
  have hl := m.length
  rw [List.length_map] at hl
  refine wpAny_setItem_list (s := { s with heap := h₃, toks := t₃ }) l (Int.natCast_nonneg j) (by omega) (by rw [List.size_toArray, hl]; omega) fun h₄ l₄ s₄ => ?_
  obtain ⟨ea, eb⟩ := endU (σ' := σ) (μ' := μ) S ((u₁.trans u₂).trans u₃)
  refine h .next k₃ h₄ t₃ ea eb ⟨rfl, ?_⟩
  refine ⟨S₃.ok, S₃.top, S₃.kb.same pa s₄, S₃.kh.same ka s₄ (Nat.le_refl _), ?_, fun x c e => ?_, S₃.hL, S₃.hC, S₃.dC, fun p hp => ?_⟩
  · obtain ⟨mm, hn, r⟩ := S₃.ns
    exact ⟨mm, hn.sameBut s₄ (Ne.symm nL), r⟩
  · obtain ⟨v', i, r⟩ := S₃.cl x c e
    exact ⟨v', i.sameBut s₄ (fun q => nc x c e q.symm), r⟩
  · rcases List.mem_cons.mp hp with q | q
    · subst q
      refine ⟨ka, pa, nL, nc, MuOk.ofSft (vs := vs.set j vv) ?_ ?_⟩
      · have : (vs.toArray.setIfInBounds (j : Int).toNat vv) = (vs.set j vv).toArray := by simp
        rw [← this]; exact l₄
      · have := RdL.set j m (r₁.le (u₂.trans u₃).kl)
        rwa [show (D.int d) = (D.int d) from rfl, ← List.map_set] at this
    · obtain ⟨a', b', c', d', l''⟩ := S₃.mu p (List.Mem.tail _ q)
      exact ⟨a', b', c', d', l''.keep (fun o e => (s₄.2 _ (hne p q)).trans e) (KLe.refl _)⟩
end
section
variable {prog : Program} {w : World} {T : Heap → Prop} {K : Frag} {n : Nat} {env : Env} {σ : Sg} {μ : List (Addr × List D)}
/-- a new list is bound to a name, to be changed in place -/
theorem bindSoft {x : PySem.Str} {pk : Pk} {k : Kn} {A : Around} {s : Shared} {vs : List Value} {ns : List Int} {Q : Unit → Shared → Prop} {E : Value → Shared → Prop} (hx : storeOkE env x = true) (S : St T pk k env s.heap s.toks σ μ) (r : RdL k (ns.map .int) vs)
    (h : ∀ a h' tk, (∀ q ∈ μ, q.1 ≠ a) → St T pk k env h' tk ((x, .mut a) :: drp x σ) ((a, sft ns) :: μ) → Q () { s with heap := h', toks := tk }) :
    wpAny (model prog w) A (storeName env x (.ref s.heap.objs.size)) Q E { s with heap := s.heap.push { cls := .type "list", data := .seq vs.toArray } } := by
  have ka := S.kh.size
  have pa : pk s.heap.objs.size = Option.none := by
    cases q : pk s.heap.objs.size with
    | none => rfl
    | some o => have := S.kb _ _ q; rw [get_size] at this; cases this
  have own : ∀ b, Own env μ b → b ≠ s.heap.objs.size := fun b ob q => by
    obtain ⟨_, _, o', e⟩ := S.own ob
    rw [q, get_size] at e; cases e
  have u : Up k s.heap k (s.heap.push { cls := .type "list", data := .seq vs.toArray }) s.toks := ⟨KLe.refl _, S.kh.le (Le.push _ _) (Nat.le_refl _), fun _ _ e => .inl e, Le.push _ _⟩
  have S₂ := S.up u
  have S₃ : St T pk k env (s.heap.push { cls := .type "list", data := .seq vs.toArray }) s.toks σ ((s.heap.objs.size, sft ns) :: μ) :=
    { S₂ with
      mu := fun p hp => by
        rcases List.mem_cons.mp hp with q | q
        · subst q
          exact ⟨ka, pa, Ne.symm (own _ (.inl rfl)), fun y c e => Ne.symm (own c (.inr (.inl ⟨y, e⟩))), MuOk.ofSft (vs := vs) ⟨_, Heap.get?_push_size _ rfl, rfl, 0, rfl⟩ r⟩
        · exact S₂.mu p q }
  exact store_any (s := { s with heap := s.heap.push { cls := .type "list", data := .seq vs.toArray } }) hx S₃ (d := .mut s.heap.objs.size) (by unfold Rd; rfl) fun h' tk S₄ => h _ h' tk (fun q hq => own _ (.inr (.inr ⟨q, hq, rfl⟩))) S₄
theorem ExA.newSoft {x p es pos pos'} {ns : List Int} (hx : storeOkE env x = true) (hs : swapsWith (.List es pos) (some (.Name x p)) pos'.line env = pure false) (hsz : ns.length ≤ 1000) (hv : EvL prog w T n env σ μ es (ns.map .int)) :
    ExA prog w T n env σ μ (exec (.Assign [.Name x p] (.List es pos) pos') env) (fun a => .next ((x, .mut a) :: drp x σ) ((a, sft ns) :: μ)) := fun A s pk k Q E rm S h => by
  refine wpAny_Assign_Name (List_ (hv A s pk k _ _ _ rm S fun vs k₁ h₁ t₁ u₁ r₁ => ?_)) hs
  have hl := r₁.length
  rw [List.length_map] at hl
  refine wpAny_newList (s := { s with heap := h₁, toks := t₁ }) ?_ (by rw [sizeLine_eq]; omega)
  obtain ⟨ea, eb⟩ := endU (σ' := σ) (μ' := μ) S u₁
  exact bindSoft (s := { s with heap := h₁, toks := t₁ }) hx (S.up u₁) r₁ fun a h' tk _ S' => h a .next k₁ h' tk ea eb ⟨rfl, S'⟩
theorem ExA.catSoft {x p l r q pos' a} {xs ys : List Int} (hm : (a, sft xs) ∈ μ) (hx : storeOkE env x = true) (hs : swapsWith (.BinOp l .Add r q) (some (.Name x p)) pos'.line env = pure false) (hl : EvE prog w T n env σ μ l (.mut a)) (hr : EvE prog w T n env σ μ r (.list (ys.map .int))) (hsz : xs.length + ys.length ≤ 1000) :
    ExA prog w T n env σ μ (exec (.Assign [.Name x p] (.BinOp l .Add r q) pos') env) (fun b => .next ((x, .mut b) :: drp x σ) ((b, sft (xs ++ ys)) :: μ)) := fun A s pk k Q E rm S h => by
  refine wpAny_Assign_Name (wpAny_BinOp (hl A s pk k _ _ rm S fun v₁ k₁ h₁ t₁ u₁ r₁ => hr A _ pk k₁ _ _ rm (S.up u₁) fun v₂ k₂ h₂ t₂ u₂ r₂ => ?_)) hs
  have := r₁.m; subst this
  have S₂ := (S.up u₁).up u₂
  obtain ⟨_, _, _, _, lm⟩ := S₂.mu _ hm
  obtain ⟨vs, l₁, m₁⟩ := lm.sft
  obtain ⟨b, us, rfl, l₂, m₂⟩ := r₂.l
  have e1 := m₁.length
  have e2 := m₂.length
  rw [List.length_map] at e1 e2
  obtain ⟨⟨cls, dd, data, sl⟩, ho, hc, n₁, hd⟩ := l₁
  obtain ⟨⟨cls2, dd2, data2, sl2⟩, ho2, hc2, n2, hd2⟩ := l₂.at u₂.ki
  simp only at hc hd hc2 hd2
  subst hc hd hc2 hd2
  have e : vs.toArray ++ us.toArray = (vs ++ us).toArray := by simp
  refine concat_meets (s := { s with heap := h₂, toks := t₂ }) ⟨_, ho, rfl⟩ ⟨_, ho2, rfl⟩ noFill_list_add seq_list_add PySem.F.slot_list_add PySem.F.entry_list_add (PySem.F.args_list_add_2 _ _) (list_addW a b vs.toArray us.toArray n₁ n2 dd dd2 sl sl2 (by rw [sizeLine_eq]; simp; omega)) ⟨ho, ho2, ?_⟩
  rw [e]
  obtain ⟨ea, eb⟩ := endU (σ' := σ) (μ' := μ) S (u₁.trans u₂)
  have m := m₁.append m₂
  rw [← List.map_append] at m
  exact bindSoft (s := { s with heap := h₂, toks := t₂ }) (ns := xs ++ ys) hx S₂ m fun a h' tk _ S' => h a .next k₂ h' tk ea eb ⟨rfl, S'⟩
/-- it stays as it is from now on -/
theorem ExTree.freezeS {x a t o} {xs : List Int} (hm : (x, D.mut a) ∈ σ) (hne : ∀ p ∈ μ, p.1 ≠ a) (hr : ExTree prog w T n env ((x, .list (xs.map .int)) :: drp x σ) μ t o) : ExTree prog w T n env σ ((a, sft xs) :: μ) t o := fun A s pk k Q E rm S h => by
  obtain ⟨ka, pa, nL, nc, lm⟩ := S.mu _ (List.Mem.head _)
  obtain ⟨vs, ⟨ob, l, lc, ld⟩, m⟩ := lm.sft
  have kl : KLe k (addk a ob k) := addk_le ka
  have rd : Rd (addk a ob k) (.list (xs.map .int)) (.ref a) := Rd.list ⟨_, addk_at, lc, ld⟩ (m.le kl)
  have at_x : ∀ {v : Value}, Rd k (.mut a) v → Rd (addk a ob k) (.list (xs.map .int)) v := fun r => by have := r.m; subst this; exact rd
  refine hr A s pk _ Q E rm ⟨S.ok, S.top, S.kb, addk_in S.kh l, ?_, fun y c e => ?_, ⟨by rw [addk_of (Ne.symm nL)]; exact S.hL.1, S.hL.2⟩, fun y c e => ⟨by rw [addk_of (fun q => nc y c e q.symm)]; exact (S.hC y c e).1, (S.hC y c e).2⟩, S.dC, fun p hp => ?_⟩ ?_
  · obtain ⟨mm, hn, r⟩ := S.ns
    refine ⟨mm, hn, fun y d hk hd => ?_⟩
    rcases List.mem_cons.mp hd with q | q
    · cases q
      obtain ⟨v, e, r'⟩ := r x _ hk hm
      exact ⟨v, e, at_x r'⟩
    · obtain ⟨v, e, r'⟩ := r y d hk (mem_drp.mp q).1
      exact ⟨v, e, r'.le kl⟩
  · obtain ⟨v, i, r⟩ := S.cl y c e
    refine ⟨v, i, fun d hd => ?_⟩
    rcases List.mem_cons.mp hd with q | q
    · cases q
      obtain ⟨v', e', r'⟩ := r _ hm
      exact ⟨v', e', at_x r'⟩
    · obtain ⟨v', e', r'⟩ := r d (mem_drp.mp q).1
      exact ⟨v', e', r'.le kl⟩
  · obtain ⟨a', b', c', d', l''⟩ := S.mu p (List.Mem.tail _ hp)
    exact ⟨by rw [addk_of (hne p hp)]; exact a', b', c', d', l''.keep (fun _ e => e) kl⟩
  · intro f k' h' tk kl' kn o'
    refine h f k' h' tk (kl.trans kl') (fun b ob' e => ?_) o'
    rcases kn b ob' e with q | q
    · by_cases hb : b = a
      · subst hb; exact .inr pa
      · rw [addk_of hb] at q; exact .inl q
    · exact .inr q
end
/-- an object under construction -/
structure TI (K : Frag) (C x dx : Addr) (es : List DictEntry) (nn : Nat) (h : Heap) : Prop where
  tk : TK K h
  i : h.get? x = some (instObj C dx)
  d : h.get? dx = some (dictOf es nn)
open Classical in
noncomputable def pkd (dx : Addr) (o : Obj) (pk : Pk) : Pk := fun b => if b = dx then some o else pk b
theorem pkd_at {dx o pk} : pkd dx o pk dx = some o := by unfold pkd; rw [if_pos rfl]
theorem pkd_of {dx o pk b} (h : b ≠ dx) : pkd dx o pk b = pk b := by unfold pkd; rw [if_neg h]
/-- all objects but two -/
noncomputable def restOf (h : Heap) (dx L : Addr) : List (Addr × Obj) := (List.range h.objs.size).filterMap fun b => if b = dx ∨ b = L then Option.none else (h.get? b).map fun o => (b, o)
theorem mem_restOf {h : Heap} {dx L b : Addr} {o : Obj} : (b, o) ∈ restOf h dx L ↔ h.get? b = some o ∧ b ≠ dx ∧ b ≠ L := by
  unfold restOf
  rw [List.mem_filterMap]
  constructor
  · rintro ⟨c, hc, e⟩
    split at e
    · cases e
    · rename_i q
      cases g : h.get? c with
      | none => rw [g] at e; cases e
      | some o' =>
        rw [g] at e
        cases e
        exact ⟨g, fun z => q (.inl z), fun z => q (.inr z)⟩
  · rintro ⟨g, h1, h2⟩
    refine ⟨b, List.mem_range.mpr (Heap.lt_size g), ?_⟩
    rw [if_neg (fun z => z.elim h1 h2), g]; rfl
section
variable {prog : Program} {w : World} {T : Heap → Prop} {K : Frag} {n : Nat} {env : Env} {σ : Sg} {μ : List (Addr × List D)}
theorem setSelf {C x dx : Addr} {es : List DictEntry} {nn : Nat} {name : PySem.Str} {o v : Expr} {p pos : Pos} {d : D} {pk : Pk} {k : Kn} {A : Around} {s : Shared} {Q : Flow → Shared → Prop} {E : Value → Shared → Prop}
    (rm : Rm n A) (S : St (TI K C x dx es nn) pk k env s.heap s.toks σ μ) (hpd : pk dx = some (dictOf es nn)) (hpx : pk x = some (instObj C dx)) (hxd : x ≠ dx) (hkd : k.m dx = Option.none) (hT : ∀ g, (∀ b o, b ≠ dx → pk b = some o → g.get? b = some o) → TK K g)
    (ho : EvE prog w (TI K C x dx es nn) n env σ μ o (.mut x)) (hv : EvE prog w (TI K C x dx es nn) n env σ μ v d)
    (hset : findIn K (.ref C) "__setattr__" = some (some (.builtin "object.__setattr__"))) (hp : plainOver K C = true) (ht : takerIn K C name = some Option.none) (hh : hasDictIn K C = true) (hl : (getL name es).isSome = true) (hz : ∀ hsh key vv, (putL name hsh key vv es).length ≤ 1000)
    (hs : swapsWith v (some (.Attribute o name p)) pos.line env = pure false)
    (h : ∀ vv hsh key n' k' h' tk, KLe k k' → (∀ b ob, k'.m b = some ob → k.m b = some ob ∨ pk b = Option.none) → k'.m dx = Option.none → Rd k' d vv →
      St (TI K C x dx (putL name hsh (.str name key) vv es) n') (pkd dx (dictOf (putL name hsh (.str name key) vv es) n') pk) k' env h' tk σ μ → Q .next { s with heap := h', toks := tk }) :
    wpAny (model prog w) A (exec (.Assign [.Attribute o name p] v pos) env) Q E s := by
  rw [plainObj_exec_Assign_Attribute o name p v pos hs]
  refine wpAny_bind (wpAny_standAt (wpAny_bind (hv A s pk k _ _ rm S fun vv k₁ h₁ t₁ u₁ r₁ => wpAny_bind ?_)))
  rw [assign_Attribute]
  refine wpAny_bind (wpAny_holding (ho A _ pk k₁ _ _ rm (S.up u₁) fun ov k₂ h₂ t₂ u₂ r₂ => ?_))
  have := r₂.m; subst this
  have S₂ := (S.up u₁).up u₂
  have u := u₁.trans u₂
  have X := S₂.topAt
  refine wpAny_bind (wpAny_standAt (wpAny_bind (wpAny_holding ?_)))
  have I : InstAt h₂ x (instObj C dx) C (some (dictOf es nn)) := ⟨X.i, rfl, rfl, X.d⟩
  obtain ⟨m, hn, hm⟩ := id S₂.ns
  have F : Fr {} env.locals h₂ m := ⟨hn, fun b o e => by have := Heap.lt_size e; exact absurd this (Nat.not_lt_zero _), Nat.zero_le _⟩
  have neL : dx ≠ env.locals := fun e => by rw [e, S.hL.2] at hpd; cases hpd
  have N : News {} env.locals h₂ ([] ++ (dx, dictOf es nn) :: restOf h₂ dx env.locals) := fun q hq => by
    rcases List.mem_cons.mp hq with e | e
    · subst e; exact ⟨X.d, neL, by rfl⟩
    · obtain ⟨b, ob⟩ := q
      obtain ⟨e1, e2, e3⟩ := mem_restOf.mp e
      exact ⟨e1, e3, by cases z : Heap.get? {} b with | none => rfl | some o' => exact absurd (Heap.lt_size z) (Nat.not_lt_zero _)⟩
  refine set_plain (s := { s with heap := h₂, toks := t₂ }) X.tk.k I hset (osa_dict (s := { s with heap := h₂, toks := t₂ + 1 }) F N X.tk.k I rfl hp ht hh hl (fun q hq => nomatch hq) (fun q hq => by
    obtain ⟨b, ob⟩ := q
    exact (mem_restOf.mp hq).2.1) (putName_dict _ _ _ _ _ _) rfl (hz _ _ _) fun h₃ F₃ N₃ => ?_)
  have keep : ∀ b ob, b ≠ dx → b ≠ env.locals → h₂.get? b = some ob → h₃.get? b = some ob := fun b ob e1 e2 e => (N₃ (b, ob) (List.mem_cons_of_mem _ (mem_restOf.mpr ⟨e, e1, e2⟩))).1
  have hd₃ := (N₃ (dx, _) (List.mem_cons_self)).1
  have kd₂ : k₂.m dx = Option.none := by
    cases z : k₂.m dx with
    | none => rfl
    | some o' =>
      rcases u.kn _ _ z with e | e
      · rw [hkd] at e; cases e
      · have := S.kb _ _ hpd; rw [this] at e; cases e
  have own : ∀ b, Own env μ b → b ≠ dx := fun b ob e => by
    have := (S.own ob).1
    rw [e, hpd] at this; cases this
  obtain ⟨ea, eb⟩ := endU (σ' := σ) (μ' := μ) S u
  have S₃ : ∀ hsh key n', h₃.get? dx = some (dictOf (putL name hsh (.str name key) vv es) n') → St (TI K C x dx (putL name hsh (.str name key) vv es) n') (pkd dx (dictOf (putL name hsh (.str name key) vv es) n') pk) k₂ env h₃ (t₂ + 1 + 1) σ μ := fun hsh key n' hdx => by
    have kbn : ∀ b ob, pk b = some ob → b ≠ dx → h₃.get? b = some ob := fun b ob e1 e2 => keep b ob e2 (fun z => by rw [z, S.hL.2] at e1; cases e1) (S₂.kb _ _ e1)
    refine ⟨S₂.ok, fun g hg => ⟨hT g fun b ob e1 e2 => hg b ob (by rw [pkd_of e1]; exact e2), hg x _ (by rw [pkd_of hxd]; exact hpx), hg dx _ pkd_at⟩, fun b ob e => ?_, ⟨fun b ob e => keep b ob (fun z => by rw [z, kd₂] at e; cases e) (fun z => by rw [z, S₂.hL.1] at e; cases e) (S₂.kh.at _ _ e), S₂.kh.one, by have := S₂.kh.tk; omega⟩,
      ⟨m, F₃.ns, hm⟩, fun y c e => ?_, ⟨S₂.hL.1, by rw [pkd_of (Ne.symm neL)]; exact S₂.hL.2⟩, fun y c e => ?_, S₂.dC, fun q hq => ?_⟩
    · by_cases z : b = dx
      · subst z; rw [pkd_at] at e; cases e; exact hdx
      · rw [pkd_of z] at e; exact kbn b ob e z
    · obtain ⟨v', ⟨ob, g, z⟩, r'⟩ := S₂.cl y c e
      exact ⟨v', ⟨ob, keep c ob (own c (.inr (.inl ⟨y, e⟩))) (S₂.hC y c e).2.2 g, z⟩, r'⟩
    · obtain ⟨e1, e2, e3⟩ := S₂.hC y c e
      exact ⟨e1, by rw [pkd_of (own c (.inr (.inl ⟨y, e⟩)))]; exact e2, e3⟩
    · obtain ⟨e1, e2, e3, e4, l⟩ := S₂.mu q hq
      have z := own q.1 (.inr (.inr ⟨q, hq, rfl⟩))
      exact ⟨e1, by rw [pkd_of z]; exact e2, e3, e4, l.keep (fun ob e => keep _ _ z e3 e) (KLe.refl _)⟩
  refine wpAny_release (wpAny_pure ?_)
  exact h vv _ _ _ k₂ h₃ _ ea eb kd₂ (r₁.le u₂.kl) (S₃ _ _ _ hd₃)
end
section
variable {prog : Program} {w : World} {T : Heap → Prop} {K : Frag} {n : Nat} {env : Env} {σ : Sg} {μ : List (Addr × List D)} {sc : Scope}
theorem EvF.gkT {x pos v} (hT : ∀ h, T h → TK K h) (hl : globOk env x = true) (e : nsIn K mainGlobals x = some (some v)) : EvF prog w T n env σ μ (.Name x pos) v :=
  EvF.glob hl fun h t => let ⟨m, g⟩ := (hT h t).g; ⟨m, g, mg_of (hT h t).k g e⟩
theorem EvF.bkT {x pos v} (hT : ∀ h, T h → TK K h) (hl : globOk env x = true) (e : nsIn K mainGlobals x = some none) (hv : bootBuiltins x = some v) (hn : x ≠ "__name__") : EvF prog w T n env σ μ (.Name x pos) v :=
  EvF.built hl fun h t => let ⟨m, g⟩ := (hT h t).g; let ⟨b, gb, hb⟩ := (hT h t).b; ⟨m, b, g, mg_none_of (hT h t).k g e, gb, (hb x hn).trans hv⟩
/-- an attribute of a class, a text -/
theorem EvE.clsAttr {x np attr pos C mc} {z : PySem.Str} {t : Tok} (hT : ∀ h, T h → TK K h) (hl : globOk env x = true) (e : nsIn K mainGlobals x = some (some (.ref C))) (hr : readsIn K C mc = true) (ha : findCls K (.ref C) mc attr = some (.val (.str z t))) :
    EvE prog w T n env σ μ (.Attribute (.Name x np) attr pos) (.str z) := fun A s pk k Q E rm S hq =>
  Attribute_name ((EvF.gkT (w := w) hT hl e : EvF prog w T n env σ μ (.Name x np) (.ref C)) A s pk k _ _ rm S (cls_value (hT _ S.topAt).k hr ha rfl (hq _ k s.heap _ (Up.tok S.kh (Nat.le_succ _)) Rd.str)))
/-- an attribute of the object under construction, a text -/
theorem EvE.selfAttr {o np attr pos C x dx es nn at'} {z : PySem.Str} {t : Tok} (ho : EvE prog w (TI K C x dx es nn) n env σ μ (.Name o np) (.mut x)) (hg : plainGet K C attr = true) (hh : hasDictIn K C = true) (ha : findIn K (.ref C) attr = some at') (hn : noGet K at' = true) (hl : getL attr es = some (some (.str z t))) :
    EvE prog w (TI K C x dx es nn) n env σ μ (.Attribute (.Name o np) attr pos) (.str z) := fun A s pk k Q E rm S hq =>
  Attribute_name (ho A s pk k _ _ rm S fun v k₁ h₁ t₁ u₁ r₁ => by
    have := r₁.m; subst this
    have X := (S.up u₁).topAt
    have I : InstAt h₁ x (instObj C dx) C (some (dictOf es nn)) := ⟨X.i, rfl, rfl, X.d⟩
    exact get_value (s := { s with heap := h₁, toks := t₁ }) X.tk.k I (plainGet_of hg).1 (findObj_own hh ha hn (by rw [lookIn_dict]; exact hl)) rfl (hq _ k₁ h₁ _ (u₁.trans (Up.tok u₁.ki (Nat.le_succ _))) Rd.str))
theorem swapped_local {x y : PySem.Str} {p q tp vp : Pos} {k k' : Nat} {v₁ v₂ : Expr} (hs : env.scope = sc) (hk : (sc.kind == .function) = true) (hx : (sc.names.lookup x == some .local) = true) (hy : (sc.names.lookup y == some .local) = true) (hxy : (x == y) = false) (hpq : (q.line == p.line) = true)
    (hv : ([v₁, v₂].any fun | .Starred .. => true | _ => false) = false) (hf : [v₁, v₂].all (foldedForSure 8) = false) (hc : [v₁, v₂].all (constantsAlone 8) = false) :
    swappedStores [.Tuple [.Name x p, .Name y q] k tp] (.Tuple [v₁, v₂] k' vp) env = pure (some [x, y]) := by
  subst hs
  have h1 : env.kindOf x = some .local := beq_iff_eq.mp hx
  have h2 : env.kindOf y = some .local := beq_iff_eq.mp hy
  have hb : env.blockKind = .function := by unfold Env.blockKind; rw [beq_iff_eq.mp hk]; rfl
  have hq : q.line = p.line := beq_iff_eq.mp hpq
  have e1 : (some NameKind.local == some NameKind.local) = true := rfl
  simp only [swappedStores, List.filterMap_cons, List.filterMap_nil, h1, h2, hb]
  have e2 : (Option.map (fun x => x.pos.line) [Expr.Name x p, Expr.Name y q].head?).getD 0 = p.line := rfl
  rw [e2, hq]
  simp only [e1, beq_self_eq_true, Bool.and_self, if_true]
  have e3 : [x, y].eraseDups.length = 2 := by
    have : (y == x) = false := by rw [Bool.beq_comm]; exact hxy
    simp [List.eraseDups_cons, this]
  rw [hf, hc, e3]
  exact (if_neg (fun h => Bool.false_ne_true h)).trans ((if_neg (fun h => Bool.false_ne_true (hv.symm.trans h))).trans ((if_neg (fun h => Bool.false_ne_true h)).trans ((if_neg Bool.false_ne_true).trans (if_neg Bool.false_ne_true))))
theorem ExS.asg3 {x y z p q r v pos d} (hv : EvE prog w T n env σ μ v d) (hx : storeOkE env x = true) (hy : storeOkE env y = true) (hz : storeOkE env z = true) {ns : List PySem.Str} (hn : σ.map (·.1) = ns) (hf : apart [x, y, z] ns = true)
    (hw : swappedStores [.Name x p, .Name y q, .Name z r] v env = pure none := by rfl) :
    ExS prog w T n env σ μ (.Assign [.Name x p, .Name y q, .Name z r] v pos) (.next ((z, d) :: (y, d) :: (x, d) :: σ) μ) := fun A s pk k Q E rm S h => by
  refine wpAny_Assign_three (hv A s pk k _ _ rm S fun vv k₁ h₁ t₁ u₁ r₁ => ?_) rfl hw
  obtain ⟨ea, eb⟩ := endU (σ' := σ) (μ' := μ) S u₁
  refine wpAny_assign_Name (store_any (s := { s with heap := h₁, toks := t₁ }) hx (S.up u₁) r₁ fun h₃ t₃ S₃ => ?_)
  refine wpAny_assign_Name (store_any (s := { s with heap := h₃, toks := t₃ }) hy S₃ r₁ fun h₄ t₄ S₄ => ?_)
  refine wpAny_assign_Name (store_any (s := { s with heap := h₄, toks := t₄ }) hz S₄ r₁ fun h₅ t₅ S₅ => ?_)
  have e : (z, d) :: drp z ((y, d) :: drp y ((x, d) :: drp x σ)) = (z, d) :: (y, d) :: (x, d) :: σ := storeAll_new [x, y, z] [d, d, d] σ ns hn hf rfl
  rw [e] at S₅
  exact h .next _ h₅ t₅ ea eb ⟨rfl, S₅⟩
end
section
variable {prog : Program} {w : World} {T : Heap → Prop} {K : Frag} {n : Nat} {env : Env} {σ : Sg} {μ : List (Addr × List D)} {sc : Scope}
theorem RdL.rep {k : Kn} {ds : List D} {vs : List Value} (r : RdL k ds vs) : ∀ j : Nat, RdL k (List.replicate j ds).flatten (List.replicate j vs).flatten
  | 0 => RdL.nil
  | j + 1 => by
    rw [List.replicate_succ, List.replicate_succ, List.flatten_cons, List.flatten_cons]
    exact r.append (RdL.rep r j)
theorem BinR.mulL {ds : List D} {x : Int} (h0 : 0 ≤ x) (hx : x ≤ 1000) (hs : ds.length ≤ 1000) : BinR prog w T n .Mult (.list ds) (.int x) (.list (List.replicate x.toNat ds).flatten) := fun A s k v₁ v₂ Q E rm ht ki r₁ r₂ h => by
  obtain ⟨a, vs, rfl, l₁, m₁⟩ := r₁.l; obtain ⟨u, rfl⟩ := r₂.i
  have e1 := m₁.length
  obtain ⟨⟨cls, dd, data, sl⟩, ho, hc, nn, hd⟩ := l₁.at ki
  simp only at hc hd
  subst hc hd
  have hb : vs.toArray.size * x.toNat ≤ 1000 * 1000 := Nat.mul_le_mul (by rw [List.size_toArray, e1]; exact hs) (by omega)
  refine wpAny_binaryOp_repeat_ref (T := "list") (U := "int") (by decide) ⟨_, ho, rfl⟩ (fun s' => typeIs_int s' x u) noFill_list_mul F.fills_int_mul F.slot_int_rmul repeat_list F.slot_int_index.lookup
    (call_meets F.slot_int_rmul (typeIs_int s x u) F.entry_int_rmul (F.args_int_rmul_2 _ _) (lm_int_rmul_list_any x u a vs.toArray nn dd sl)
      ⟨ho, rfl, ⟨_, ho, rfl⟩, call_meets F.slot_list_mul ⟨_, ho, rfl⟩ F.entry_list_mul (F.args_list_mul_2 _ _)
        (lm_list_mul_any a vs.toArray nn dd sl x u (by simp [Builtin.List.listFitsIndex]; omega) (by omega) (by simp only [Builtin.List.listTooLong, sizeLine_eq, decide_eq_true_eq]; omega)) ⟨ho, ?_⟩⟩)
  rw [listMul_foldl_if]
  obtain ⟨u₂, g⟩ := Up.new (o := { cls := .type "list", data := .seq (List.replicate x.toNat vs.toArray.toList).flatten.toArray }) ki rfl
  exact h _ _ _ _ u₂ (Rd.list ⟨_, g, rfl, _, rfl⟩ ((m₁.rep x.toNat).le u₂.kl))
end
/-- what is known has grown, off h₀ -/
structure Gr (h₀ : Heap) (k k' : Kn) : Prop where
  kl : KLe k k'
  kn : ∀ b ob, k'.m b = some ob → k.m b = some ob ∨ h₀.get? b = Option.none
theorem Gr.refl (h₀ : Heap) (k : Kn) : Gr h₀ k k := ⟨KLe.refl k, fun _ _ e => .inl e⟩
theorem Gr.more {h₀ : Heap} {k k₁ k₂ : Kn} {pk : Pk} (g : Gr h₀ k k₁) (hp : ∀ b, pk b = Option.none → h₀.get? b = Option.none) (l : KLe k₁ k₂) (n : ∀ b ob, k₂.m b = some ob → k₁.m b = some ob ∨ pk b = Option.none) : Gr h₀ k k₂ :=
  ⟨g.kl.trans l, fun b ob e => (n b ob e).elim (g.kn b ob) fun z => .inr (hp b z)⟩
section
variable {prog : Program} {w : World} {T : Heap → Prop} {K : Frag} {n : Nat} {env : Env} {σ : Sg} {μ : List (Addr × List D)}
theorem goS {st : Stmt} {rest : List Stmt} {σ₁ : Sg} {μ₁ : List (Addr × List D)} {A : Around} {s : Shared} {pk : Pk} {k k₀ : Kn} {h₀ : Heap} {Q : Flow → Shared → Prop} {E : Value → Shared → Prop} (h₁ : ExS prog w T n env σ μ st (.next σ₁ μ₁)) (rm : Rm n A) (S : St T pk k env s.heap s.toks σ μ)
    (g : Gr h₀ k₀ k) (hp : ∀ b, pk b = Option.none → h₀.get? b = Option.none)
    (h : ∀ k' h' tk, Gr h₀ k₀ k' → KLe k k' → (∀ b ob, k'.m b = some ob → k.m b = some ob ∨ pk b = Option.none) → St T pk k' env h' tk σ₁ μ₁ → wpAny (model prog w) A (execs rest env) Q E { s with heap := h', toks := tk }) :
    wpAny (model prog w) A (execs (st :: rest) env) Q E s :=
  wpAny_execs_cons (h₁ A s pk k _ _ rm S fun f k₁ h₁ t₁ l₁ n₁ o₁ => by
    obtain ⟨rfl, S₁⟩ := o₁
    exact h k₁ h₁ t₁ (g.more hp l₁ n₁) l₁ n₁ S₁)
theorem goA {st : Stmt} {rest : List Stmt} {σ₁ : Addr → Sg} {μ₁ : Addr → List (Addr × List D)} {A : Around} {s : Shared} {pk : Pk} {k k₀ : Kn} {h₀ : Heap} {Q : Flow → Shared → Prop} {E : Value → Shared → Prop} (h₁ : ExA prog w T n env σ μ (exec st env) (fun a => .next (σ₁ a) (μ₁ a))) (rm : Rm n A) (S : St T pk k env s.heap s.toks σ μ)
    (g : Gr h₀ k₀ k) (hp : ∀ b, pk b = Option.none → h₀.get? b = Option.none)
    (h : ∀ a k' h' tk, Gr h₀ k₀ k' → KLe k k' → (∀ b ob, k'.m b = some ob → k.m b = some ob ∨ pk b = Option.none) → St T pk k' env h' tk (σ₁ a) (μ₁ a) → wpAny (model prog w) A (execs rest env) Q E { s with heap := h', toks := tk }) :
    wpAny (model prog w) A (execs (st :: rest) env) Q E s :=
  wpAny_execs_cons (h₁ A s pk k _ _ rm S fun a f k₁ h₁ t₁ l₁ n₁ o₁ => by
    obtain ⟨rfl, S₁⟩ := o₁
    exact h a k₁ h₁ t₁ (g.more hp l₁ n₁) l₁ n₁ S₁)
/-- what must hold while the object is built -/
structure Bld (K : Frag) (x dx : Addr) (h₀ : Heap) (k₀ : Kn) (C : Addr) (es : List DictEntry) (nn : Nat) (pk : Pk) (k : Kn) : Prop where
  pd : pk dx = some (dictOf es nn)
  px : pk x = some (instObj C dx)
  ne : x ≠ dx
  kd : k.m dx = Option.none
  hT : ∀ g, (∀ b o, b ≠ dx → pk b = some o → g.get? b = some o) → TK K g
  gr : Gr h₀ k₀ k
  hp : ∀ b, pk b = Option.none → h₀.get? b = Option.none
  n0 : h₀.get? dx = Option.none
  le : ∀ b o, h₀.get? b = some o → pk b = some o
theorem Bld.k' {K : Frag} {x dx : Addr} {h₀ : Heap} {k₀ : Kn} {C : Addr} {es nn pk k k'} (b : Bld K x dx h₀ k₀ C es nn pk k) (g : Gr h₀ k₀ k') (n : ∀ b ob, k'.m b = some ob → k.m b = some ob ∨ pk b = Option.none) : Bld K x dx h₀ k₀ C es nn pk k' :=
  { b with
    kd := by
      cases z : k'.m dx with
      | none => rfl
      | some o =>
        rcases n _ _ z with e | e
        · rw [b.kd] at e; cases e
        · rw [b.pd] at e; cases e
    gr := g }
theorem goF {C x dx : Addr} {h₀ : Heap} {k₀ : Kn} {es : List DictEntry} {nn : Nat} {name : PySem.Str} {o v : Expr} {p pos : Pos} {rest : List Stmt} {d : D} {pk : Pk} {k : Kn} {A : Around} {s : Shared} {Q : Flow → Shared → Prop} {E : Value → Shared → Prop}
    (rm : Rm n A) (S : St (TI K C x dx es nn) pk k env s.heap s.toks σ μ) (B : Bld K x dx h₀ k₀ C es nn pk k)
    (ho : EvE prog w (TI K C x dx es nn) n env σ μ o (.mut x)) (hv : EvE prog w (TI K C x dx es nn) n env σ μ v d)
    (hset : findIn K (.ref C) "__setattr__" = some (some (.builtin "object.__setattr__"))) (hp : plainOver K C = true) (ht : takerIn K C name = some Option.none) (hh : hasDictIn K C = true) (hl : (getL name es).isSome = true) (hz : ∀ hsh key vv, (putL name hsh key vv es).length ≤ 1000)
    (hs : swapsWith v (some (.Attribute o name p)) pos.line env = pure false)
    (h : ∀ vv hsh key n' pk' k' h' tk, KLe k k' → Rd k' d vv → Bld K x dx h₀ k₀ C (putL name hsh (.str name key) vv es) n' pk' k' → St (TI K C x dx (putL name hsh (.str name key) vv es) n') pk' k' env h' tk σ μ →
      wpAny (model prog w) A (execs rest env) Q E { s with heap := h', toks := tk }) :
    wpAny (model prog w) A (execs (.Assign [.Attribute o name p] v pos :: rest) env) Q E s :=
  wpAny_execs_cons (setSelf rm S B.pd B.px B.ne B.kd B.hT ho hv hset hp ht hh hl hz hs fun vv hsh key n' k' h' tk l n₁ kd r S' =>
    h vv hsh key n' _ k' h' tk l r ⟨pkd_at, by rw [pkd_of B.ne]; exact B.px, B.ne, kd, fun g hg => B.hT g fun b o e1 e2 => hg b o e1 (by rw [pkd_of e1]; exact e2), B.gr.more B.hp l n₁, fun b e => by
      by_cases z : b = dx
      · rw [z, pkd_at] at e; cases e
      · rw [pkd_of z] at e; exact B.hp b e, B.n0, fun b o e => by
      by_cases z : b = dx
      · rw [z, B.n0] at e; cases e
      · rw [pkd_of z]; exact B.le b o e⟩ S')
theorem ExA.forB {x px iter body pos ds} (Sq : Nat → Addr → Sg) (Mq : Nat → Addr → List (Addr × List D)) (a₀ : Addr) (j : Nat) (hx : storeOkE env x = true) (hi : EvI prog w T n env σ μ iter ds) (h0 : Sq 0 a₀ = σ) (m0 : Mq 0 a₀ = μ) (hj : j < ds.length)
    (hb : ∀ i α d, i < j → ds[i]? = some d → ExA prog w T n env ((x, d) :: drp x (Sq i α)) (Mq i α) (execs body env) (fun α => .next (Sq (i + 1) α) (Mq (i + 1) α)))
    (hbk : ∀ α d, ds[j]? = some d → ExA prog w T n env ((x, d) :: drp x (Sq j α)) (Mq j α) (execs body env) (fun α => .brk (Sq (j + 1) α) (Mq (j + 1) α)))
    (hs : ∀ x, foldedSetIterable iter env x = pure x) : ExA prog w T n env σ μ (exec (.For (.Name x px) iter body [] pos) env) (fun α => .next (Sq (j + 1) α) (Mq (j + 1) α)) := by
  have h := ExA.forG (px := px) (pos := pos) Sq Mq a₀ j true hx hi h0 m0 (by rw [if_pos rfl]; exact hj) hb (fun _ => hbk) hs
  simp only [if_true] at h
  exact h
end
/-- a name's data is replaced where it stands -/
noncomputable def upd (x : PySem.Str) (d : D) : Sg → Sg
  | [] => []
  | p :: σ => if p.1 == x then (x, d) :: upd x d σ else p :: upd x d σ
theorem upd_in {x : PySem.Str} {d : D} : ∀ {σ : Sg}, ∀ p ∈ upd x d σ, p ∈ (x, d) :: drp x σ
  | [], p, h => by cases h
  | q :: σ, p, h => by
    unfold upd at h
    by_cases e : (q.1 == x) = true
    · rw [if_pos e] at h
      rcases List.mem_cons.mp h with z | z
      · rw [z]; exact List.mem_cons_self
      · have := upd_in p z
        rcases List.mem_cons.mp this with z | z
        · rw [z]; exact List.mem_cons_self
        · obtain ⟨y, d'⟩ := p
          exact List.mem_cons_of_mem _ (mem_drp.mpr ⟨List.mem_cons_of_mem _ (mem_drp.mp z).1, (mem_drp.mp z).2⟩)
    · rw [if_neg e] at h
      rcases List.mem_cons.mp h with z | z
      · subst z
        obtain ⟨y, d'⟩ := p
        exact List.mem_cons_of_mem _ (mem_drp.mpr ⟨List.mem_cons_self, fun w => e (by subst w; simp)⟩)
      · have := upd_in p z
        rcases List.mem_cons.mp this with z | z
        · rw [z]; exact List.mem_cons_self
        · obtain ⟨y, d'⟩ := p
          exact List.mem_cons_of_mem _ (mem_drp.mpr ⟨List.mem_cons_of_mem _ (mem_drp.mp z).1, (mem_drp.mp z).2⟩)
/-- the two pieces of upd, by names -/
theorem upd_hit {x : PySem.Str} {d d' : D} {σ σ' : Sg} (h : upd x d σ = σ') : upd x d ((x, d') :: σ) = (x, d) :: σ' := by
  unfold upd; rw [if_pos (by simp), h]
theorem upd_off {x y : PySem.Str} {d d' : D} {σ σ' : Sg} (e : (y == x) = false) (h : upd x d σ = σ') : upd x d ((y, d') :: σ) = (y, d') :: σ' := by
  have : ¬ ((y, d').1 == x) = true := by rw [e]; exact Bool.false_ne_true
  rw [upd, if_neg this, h]
theorem upd_nil {x : PySem.Str} {d : D} : upd x d [] = [] := rfl
section
variable {prog : Program} {w : World} {T : Heap → Prop} {K : Frag} {n : Nat} {env : Env} {σ : Sg} {μ : List (Addr × List D)}
theorem ExS.asgU {x p v pos d σ'} (hv : EvE prog w T n env σ μ v d) (hx : storeOkE env x = true) (hs : swapsWith v (some (.Name x p)) pos.line env = pure false) (hu : upd x d σ = σ') :
    ExS prog w T n env σ μ (.Assign [.Name x p] v pos) (.next σ' μ) := by
  subst hu
  exact ExTree.post upd_in (ExS.asg hx hs hv)
end
section
variable {prog : Program} {w : World} {T : Heap → Prop} {K : Frag} {n : Nat} {env : Env} {σ : Sg} {μ : List (Addr × List D)}
/-- a list of ints stays as it is from now on -/
theorem St.freezeS {x : PySem.Str} {a : Addr} {xs : List Int} {pk : Pk} {k : Kn} {h : Heap} {tk : Nat} (S : St T pk k env h tk σ ((a, sft xs) :: μ)) (hm : (x, D.mut a) ∈ σ) (hne : ∀ p ∈ μ, p.1 ≠ a) :
    ∃ k', KLe k k' ∧ (∀ b ob, k'.m b = some ob → k.m b = some ob ∨ pk b = Option.none) ∧ St T pk k' env h tk ((x, .list (xs.map .int)) :: drp x σ) μ := by
  obtain ⟨ka, pa, nL, nc, lm⟩ := S.mu _ (List.Mem.head _)
  obtain ⟨vs, ⟨ob, l, lc, ld⟩, m⟩ := lm.sft
  have kl : KLe k (addk a ob k) := addk_le ka
  have rd : Rd (addk a ob k) (.list (xs.map .int)) (.ref a) := Rd.list ⟨_, addk_at, lc, ld⟩ (m.le kl)
  have at_x : ∀ {v : Value}, Rd k (.mut a) v → Rd (addk a ob k) (.list (xs.map .int)) v := fun r => by have := r.m; subst this; exact rd
  refine ⟨_, kl, fun b ob' e => ?_, ⟨S.ok, S.top, S.kb, addk_in S.kh l, ?_, fun y c e => ?_, ⟨by rw [addk_of (Ne.symm nL)]; exact S.hL.1, S.hL.2⟩, fun y c e => ⟨by rw [addk_of (fun q => nc y c e q.symm)]; exact (S.hC y c e).1, (S.hC y c e).2⟩, S.dC, fun p hp => ?_⟩⟩
  · by_cases hb : b = a
    · subst hb; exact .inr pa
    · rw [addk_of hb] at e; exact .inl e
  · obtain ⟨mm, hn, r⟩ := S.ns
    refine ⟨mm, hn, fun y d hk hd => ?_⟩
    rcases List.mem_cons.mp hd with q | q
    · cases q
      obtain ⟨v, e, r'⟩ := r x _ hk hm
      exact ⟨v, e, at_x r'⟩
    · obtain ⟨v, e, r'⟩ := r y d hk (mem_drp.mp q).1
      exact ⟨v, e, r'.le kl⟩
  · obtain ⟨v, i, r⟩ := S.cl y c e
    refine ⟨v, i, fun d hd => ?_⟩
    rcases List.mem_cons.mp hd with q | q
    · cases q
      obtain ⟨v', e', r'⟩ := r _ hm
      exact ⟨v', e', at_x r'⟩
    · obtain ⟨v', e', r'⟩ := r d (mem_drp.mp q).1
      exact ⟨v', e', r'.le kl⟩
  · obtain ⟨a', b', c', d', l''⟩ := S.mu p (List.Mem.tail _ hp)
    exact ⟨by rw [addk_of (hne p hp)]; exact a', b', c', d', l''.keep (fun _ e => e) kl⟩
end
/-- the list under construction, of texts -/
noncomputable abbrev sTs (xs : List PySem.Str) : List D := xs.map .str
theorem soft_sTs (xs : List PySem.Str) : soft (sTs xs) = false := by cases xs <;> rfl
/-- what a comprehension's turn may change: its own names, and the list that it makes -/
structure UpX (acc C : Addr) (wr : List Addr) (k : Kn) (h : Heap) (k' : Kn) (h' : Heap) : Prop where
  kl : KLe k k'
  kn : ∀ b o, k'.m b = some o → k.m b = some o ∨ h.get? b = Option.none
  keep : ∀ b o, b ≠ acc → b ≠ C → b ∉ wr → h.get? b = some o → h'.get? b = some o
section
variable {prog : Program} {w : World} {T : Heap → Prop} {K : Frag} {n : Nat} {env : Env} {σ : Sg} {μ : List (Addr × List D)}
/-- a store into a name of the frame's own -/
theorem store_local {x : PySem.Str} {d : D} {v : Value} {pk : Pk} {k : Kn} {A : Around} {s : Shared} {Q : Unit → Shared → Prop} {E : Value → Shared → Prop} (hl : env.kindOf x = some .local) (S : St T pk k env s.heap s.toks σ μ) (r : Rd k d v)
    (h : ∀ h' tk, St T pk k env h' tk ((x, d) :: drp x σ) μ → Heap.SameBut env.locals s.heap h' → Q () { s with heap := h', toks := tk }) : wpAny (model prog w) A (storeName env x v) Q E s := by
  obtain ⟨m, hn, hm⟩ := id S.ns
  refine wpAny_storeName_local hl hn (fun h' hn' hs => h h' _ ?_ hs) (by rw [S.ok.fn]; rfl)
  refine ⟨S.ok, S.top, S.kb.same S.hL.2 hs, S.kh.same S.hL.1 hs (Nat.le_succ _), ⟨_, hn', fun y d' hy hd => ?_⟩, fun y c hc => ?_, S.hL, S.hC, S.dC, fun p hp => ?_⟩
  · rcases List.mem_cons.mp hd with q | q
    · cases q
      exact ⟨v, by simp, r⟩
    · obtain ⟨q, ne⟩ := mem_drp.mp q
      obtain ⟨v', e, r'⟩ := hm y d' hy q
      exact ⟨v', by simpa [ne] using e, r'⟩
  · obtain ⟨v', i, r'⟩ := S.cl y c hc
    refine ⟨v', i.sameBut hs (S.hC y c hc).2.2, fun d' hd => ?_⟩
    rcases List.mem_cons.mp hd with q | q
    · cases q
      have := S.ok.c2 _ _ hc
      rw [hl] at this
      rcases this with q | q <;> cases q
    · exact r' d' (mem_drp.mp q).1
  · obtain ⟨a, b, c, d', l⟩ := S.mu p hp
    exact ⟨a, b, c, d', l.keep (fun o e => (hs.2 _ c).trans e) (KLe.refl _)⟩
/-- a piece of a comprehension's turn: it adds zs to the list -/
noncomputable def Emit (prog : Program) (w : World) (T : Heap → Prop) (n : Nat) (env : Env) (σ : Sg) (μ : List (Addr × List D)) (acc : Addr) (t : Sem Unit) (zs : List PySem.Str) : Prop :=
  ∀ (A : Around) (s : Shared) (pk : Pk) (k : Kn) (xs : List PySem.Str) (Q : Unit → Shared → Prop) (E : Value → Shared → Prop), Rm n A → St T pk k env s.heap s.toks σ ((acc, sTs xs) :: μ) → xs.length + zs.length ≤ 100000 →
    (∀ k' h' tk, UpX acc env.locals [] k s.heap k' h' → St T pk k' env h' tk σ ((acc, sTs (xs ++ zs)) :: μ) → Q () { s with heap := h', toks := tk }) → wpAny (model prog w) A t Q E s
theorem Emit.elt {elt : Expr} {acc : Addr} {z : PySem.Str} (hne : ∀ p ∈ μ, p.1 ≠ acc) (h : EvE prog w T n env σ μ elt (.str z)) :
    Emit prog w T n env σ μ acc (eval elt env >>= fun x => call (.builtin "list.append") [.ref acc, x] >>= fun _ => pure ()) [z] := fun A s pk k xs Q E rm S hz hq => by
  have S' : St T pk k env s.heap s.toks σ μ := { S with mu := fun p hp => S.mu p (List.Mem.tail _ hp) }
  refine wpAny_bind (h A s pk k _ _ rm S' fun v k₁ h₁ t₁ u₁ r₁ => ?_)
  have S₁ := S.up u₁
  obtain ⟨ka, pa, nL, nc, lm⟩ := S₁.mu _ (List.Mem.head _)
  obtain ⟨vs, ⟨nn, l⟩, m⟩ := lm.plain (soft_sTs _)
  have hvl := m.length
  rw [List.length_map] at hvl
  refine wpAny_bind (wpAny_list_append_plain (s := { s with heap := h₁, toks := t₁ }) ⟨nn, l⟩ (fun h₂ l₂ s₂ => wpAny_pure ?_) (by rw [sizeLine_eq, List.size_toArray, hvl]; simp at hz; omega))
  refine hq k₁ h₂ t₁ ⟨u₁.kl, u₁.kn, fun b o e1 _ _ e => s₂.extBut b o e1 (u₁.le _ _ e)⟩ ⟨S₁.ok, S₁.top, S₁.kb.same pa s₂, S₁.kh.same ka s₂ (Nat.le_refl _), ?_, fun x c e => ?_, S₁.hL, S₁.hC, S₁.dC, fun p hp => ?_⟩
  · obtain ⟨mm, hn, r⟩ := S₁.ns
    exact ⟨mm, hn.sameBut s₂ (Ne.symm nL), r⟩
  · obtain ⟨v', i, r⟩ := S₁.cl x c e
    exact ⟨v', i.sameBut s₂ (fun q => nc x c e q.symm), r⟩
  · rcases List.mem_cons.mp hp with q | q
    · subst q
      refine ⟨ka, pa, nL, nc, MuOk.ofPlain (vs := vs ++ [v]) (soft_sTs _) (by simpa using l₂) ?_⟩
      show RdL k₁ ((xs ++ [z]).map D.str) _
      rw [List.map_append]
      exact m.append (RdL.one r₁)
    · obtain ⟨a', b', c', d', l''⟩ := S₁.mu p (List.Mem.tail _ q)
      exact ⟨a', b', c', d', l''.keep (fun o e => (s₂.2 _ (hne p q)).trans e) (KLe.refl _)⟩
theorem Emit.nil {acc : Addr} : Emit prog w T n env σ μ acc (pure ()) [] := fun A s pk k xs Q E rm S hz hq =>
  wpAny_pure (hq k s.heap s.toks ⟨KLe.refl _, fun _ _ e => .inl e, fun _ _ _ _ _ e => e⟩ (by rw [List.append_nil]; exact S))
theorem Emit.tests {ifs : List Expr} {b : Bool} {acc : Addr} {t : Sem Unit} {zs : List PySem.Str} (hb : EvIfs prog w T n env σ μ ifs b) (ht : b = true → Emit prog w T n env σ μ acc t zs) :
    Emit prog w T n env σ μ acc ((forIn ifs true fun c r => if r = true then do let ok ← isTrue c env (eval c env); Pure.pure (ForInStep.yield ok) else Pure.pure (ForInStep.yield r)) >>= fun ok => if ok = true then t else Pure.pure ()) (if b = true then zs else []) := fun A s pk k xs Q E rm S hz hq => by
  have S' : St T pk k env s.heap s.toks σ μ := { S with mu := fun p hp => S.mu p (List.Mem.tail _ hp) }
  refine wpAny_bind (hb A s pk k _ _ rm S' fun k₁ h₁ t₁ u₁ => ?_)
  have S₁ := S.up u₁
  have ux : UpX acc env.locals [] k s.heap k₁ h₁ := ⟨u₁.kl, u₁.kn, fun b o _ _ _ e => u₁.le _ _ e⟩
  cases b with
  | false =>
    simp only [Bool.false_eq_true, if_false] at hq hz ⊢
    exact wpAny_pure (hq k₁ h₁ t₁ ux (by rw [List.append_nil]; exact S₁))
  | true =>
    simp only [if_true] at hq hz ⊢
    exact ht rfl A { s with heap := h₁, toks := t₁ } pk k₁ xs _ _ rm S₁ hz fun k₂ h₂ t₂ u₂ S₂ => hq k₂ h₂ t₂ ⟨u₁.kl.trans u₂.kl, fun b o e => (u₂.kn b o e).elim (u₁.kn b o) fun q => .inr (u₁.le.none q), fun b o e1 e2 e3 e => u₂.keep b o e1 e2 e3 (u₁.le _ _ e)⟩ S₂

/-- a comprehension's loop at some depth -/
theorem emit_loop {elt : Expr} {gens : List Comprehension} {scope : Scope} {pos p : Pos} {depth : Nat} {y : PySem.Str} {py : Pos} {acc : Addr} {ds : List D} {t : Sem Unit} {g : D → List PySem.Str} {A : Around} {s : Shared} {pk : Pk} {k : Kn} {xs : List PySem.Str} {R : Result → Shared → Prop}
    {I : Addr} {fp wr : List Addr} {P : Nat → Value → Prop} {Sx : Nat → Heap → Prop}
    (hturn : compTurn (.ListComp elt gens scope pos) depth (.ref I) (.ref acc) env = (standAt p >>= fun _ => pyNext (.ref I) >>= fun r => match r with
      | Option.none => Pure.pure (.done .next)
      | some v => letOwnedTupleGo (.Name y py) (.ref I) v >>= fun _ => assign (.Name y py) env v >>= fun _ => t >>= fun _ => again (.compLoop (.ListComp elt gens scope pos) depth (.ref I) (.ref acc) env)))
    (hy : env.kindOf y = some .local) (hf : drp y σ = σ) (rm : Rm n A) (S : St T pk k env s.heap s.toks σ ((acc, sTs xs) :: μ)) (hne : ∀ p ∈ μ, p.1 ≠ acc) (hz : xs.length + (ds.flatMap g).length ≤ 100000)
    (W : Walks prog w A I fp wr ds.length P Sx) (sx : Sx 0 s.heap) (hwr : ∀ b ∈ wr, k.m b = Option.none ∧ pk b = Option.none) (own : ∀ b, Own env ((acc, sTs xs) :: μ) b → b ∉ fp) (alive : ∀ i g, Sx i g → ∀ b ∈ fp, ∃ o, g.get? b = some o)
    (hP : ∀ i d v, ds[i]? = some d → P i v → Rd k d v) (ht : ∀ d, d ∈ ds → Emit prog w T n env ((y, d) :: σ) μ acc t (g d))
    (hq : ∀ k' h' tk, UpX acc env.locals wr k s.heap k' h' → St T pk k' env h' tk σ ((acc, sTs (xs ++ ds.flatMap g)) :: μ) → R (.ok .next) { s with heap := h', toks := tk }) :
    codeAny (model prog w) A (.compLoop (.ListComp elt gens scope pos) depth (.ref I) (.ref acc) env) R s := by
  have own' : ∀ (zs : List PySem.Str) b, Own env ((acc, sTs zs) :: μ) b → b ∉ fp := fun zs b o => own b (by
    rcases o with o | o | ⟨p, hp, e⟩
    · exact .inl o
    · exact .inr (.inl o)
    · rcases List.mem_cons.mp hp with q | q
      · subst q; exact .inr (.inr ⟨_, List.Mem.head _, e⟩)
      · exact .inr (.inr ⟨p, List.Mem.tail _ q, e⟩))
  have nacc : acc ∉ fp := own acc (.inr (.inr ⟨_, List.Mem.head _, rfl⟩))
  have nloc : env.locals ∉ fp := own _ (.inl rfl)
  refine codeAny_loop rfl
    (fun fu s' => ∃ i k' h' tk, s' = { s with heap := h', toks := tk } ∧ i ≤ ds.length ∧ fu = ds.length + 1 - i ∧ Sx i h' ∧ St T pk k' env h' tk σ ((acc, sTs (xs ++ (ds.take i).flatMap g)) :: μ) ∧ UpX acc env.locals wr k s.heap k' h' ∧ (∀ b ∈ wr, k'.m b = Option.none)) ?_ (ds.length + 1)
    ⟨0, k, s.heap, s.toks, rfl, Nat.zero_le _, rfl, sx, by simpa using S, ⟨KLe.refl _, fun _ _ e => .inl e, fun _ _ _ _ _ e => e⟩, fun b hb => (hwr b hb).1⟩
  rintro fu s' ⟨i, k', h', tk, rfl, hi, rfl, sxi, Si, ux, kwr⟩
  show wpAny _ A ((compTurn (.ListComp elt gens scope pos) depth (.ref I) (.ref acc) env).onRaise (fun x => do noteFrame x env; theTreesLotGoes x)) _ _ _
  refine wpAny_noted ?_
  rw [hturn]
  refine wpAny_bind (wpAny_standAt (wpAny_bind ?_))
  by_cases hlt : i < ds.length
  · refine wpAny_with_toks (n := tk) (Nat.le_refl _) (W.item i _ _ _ hlt sxi fun v h₁ tk₁ hPv sx₁ keep htk => ?_)
    have hget : ds[i]? = some ds[i] := by simp [hlt]
    have hmem : ds[i] ∈ ds := List.getElem_mem hlt
    have rd : Rd k' ds[i] v := (hP i ds[i] v hget hPv).le ux.kl
    have pkwr : ∀ b ∈ wr, pk b = Option.none := fun b hb => (hwr b hb).2
    have S₁ : St T pk k' env h₁ tk₁ σ ((acc, sTs (xs ++ (ds.take i).flatMap g)) :: μ) := Si.change Si.top (fun b o e => keep b o (fun q => by rw [pkwr b q] at e; cases e) (Si.kb _ _ e)) (fun b o => (Si.own o).1)
      (fun b o ob e => keep b o (fun q => by
        rcases ob with ob | ob
        · exact own' _ b ob (W.sub b q)
        · rw [kwr b q] at ob; cases ob) e) htk
    refine wpAny_bind (wpAny_of_eq (by rfl : letOwnedTupleGo (.Name y py) (.ref I) v = Pure.pure ()) (wpAny_bind (wpAny_assign_Name (store_local (s := { s with heap := h₁, toks := tk₁ }) hy S₁ rd fun h₂ tk₂ S₂ sb => ?_))))
    rw [hf] at S₂
    have sx₂ : Sx (i + 1) h₂ := W.frame _ _ _ sx₁ fun b hb o e => sb.extBut b o (fun q => nloc (q ▸ hb)) e
    have htake : ds.take (i + 1) = ds.take i ++ [ds[i]] := by rw [List.take_add_one, hget]; rfl
    have hlen : (xs ++ (ds.take i).flatMap g).length + (g ds[i]).length ≤ 100000 := by
      have e1 : ds.flatMap g = (ds.take (i + 1)).flatMap g ++ (ds.drop (i + 1)).flatMap g := by rw [← List.flatMap_append, List.take_append_drop]
      have e2 : (ds.flatMap g).length = ((ds.take i).flatMap g).length + (g ds[i]).length + ((ds.drop (i + 1)).flatMap g).length := by
        rw [e1, htake, List.flatMap_append, List.length_append, List.length_append]; simp
      rw [List.length_append]; omega
    refine wpAny_bind (ht ds[i] hmem A { s with heap := h₂, toks := tk₂ } pk k' _ _ _ rm S₂ hlen fun k₃ h₃ tk₃ u₃ S₃ => ?_)
    refine wpAny_pure ⟨rfl, ds.length + 1 - (i + 1), by omega, i + 1, k₃, h₃, tk₃, rfl, hlt, rfl, ?_, ?_, ⟨ux.kl.trans u₃.kl, fun b o e => ?_, fun b o e1 e2 e3 e => ?_⟩, fun b hb => ?_⟩
    · exact W.frame _ _ _ sx₂ fun b hb o e => u₃.keep b o (fun q => nacc (q ▸ hb)) (fun q => nloc (q ▸ hb)) (fun q => nomatch q) e
    · rw [htake, List.flatMap_append, List.flatMap_singleton, ← List.append_assoc]
      exact S₃.less fun p hp => List.mem_cons_of_mem _ hp
    · rcases u₃.kn b o e with e' | e'
      · exact ux.kn b o e'
      · right
        cases q : s.heap.get? b with
        | none => rfl
        | some o' =>
          exfalso
          have h2 : ∃ o'', h₂.get? b = some o'' := by
            by_cases hL : b = env.locals
            · subst hL; obtain ⟨mm, ⟨o'', _, _, e'', _⟩, _⟩ := S₂.ns; exact ⟨o'', e''⟩
            · have h1 : ∃ o'', h₁.get? b = some o'' := by
                by_cases hw : b ∈ wr
                · exact alive _ _ sx₁ b (W.sub b hw)
                · by_cases ha : b = acc
                  · subst ha; obtain ⟨_, _, _, _, lm⟩ := S₁.mu _ (List.Mem.head _); exact lm.obj
                  · exact ⟨_, keep b o' hw (ux.keep b o' ha hL hw q)⟩
              obtain ⟨o'', e''⟩ := h1
              exact ⟨o'', sb.extBut b o'' hL e''⟩
          obtain ⟨o'', e''⟩ := h2
          rw [e''] at e'; cases e'
    · exact u₃.keep b o e1 e2 (fun q => nomatch q) (sb.extBut b o e2 (keep b o e3 (ux.keep b o e1 e2 e3 e)))
    · cases q : k₃.m b with
      | none => rfl
      | some o =>
        rcases u₃.kn b o q with e' | e'
        · rw [kwr b hb] at e'; cases e'
        · obtain ⟨o', e''⟩ := alive _ _ sx₂ b (W.sub b hb)
          rw [e''] at e'; cases e'
  · have hin : i = ds.length := by omega
    refine wpAny_with_toks (n := tk) (Nat.le_refl _) (W.done _ _ _ (hin ▸ sxi) fun h₂ tk₂ keep htk => wpAny_pure ?_)
    have pkwr : ∀ b ∈ wr, pk b = Option.none := fun b hb => (hwr b hb).2
    rw [hin, List.take_length] at Si
    refine hq k' h₂ tk₂ ⟨ux.kl, ux.kn, fun b o e1 e2 e3 e => keep b o e3 (ux.keep b o e1 e2 e3 e)⟩ (Si.change Si.top (fun b o e => keep b o (fun q => by rw [pkwr b q] at e; cases e) (Si.kb _ _ e)) (fun b o => (Si.own o).1)
      (fun b o ob e => keep b o (fun q => by
        rcases ob with ob | ob
        · exact own' _ b ob (W.sub b q)
        · rw [kwr b q] at ob; cases ob) e) htk)
end
section
variable {prog : Program} {w : World} {T : Heap → Prop} {K : Frag} {n : Nat} {env : Env} {σ : Sg} {μ : List (Addr × List D)}
theorem compStart1 {elt t1 i1 t2 i2 : Expr} {ifs1 ifs2 : List Expr} {scope : Scope} {pos : Pos} {it acc : Value} {env : Env} {A : Around} {R : Result → Shared → Prop} {s : Shared}
    (h0 : codeAny (model prog w) A (.compLoop (.ListComp elt [⟨t1, i1, ifs1, 0⟩, ⟨t2, i2, ifs2, 0⟩] scope pos) 1 it acc env) R s)
    (h : wpAny (model prog w) A (pyIter it) (fun it' s' => codeAny (model prog w) A (.compLoop (.ListComp elt [⟨t1, i1, ifs1, 0⟩, ⟨t2, i2, ifs2, 0⟩] scope pos) 1 it' acc env) R s')
      (notedBy (model prog w) A env fun x s' => R (.error x) s') s) :
    codeAny (model prog w) A (.compStart (.ListComp elt [⟨t1, i1, ifs1, 0⟩, ⟨t2, i2, ifs2, 0⟩] scope pos) 1 it acc env) R s := by
  refine codeAny_of_tree ?_
  show wpAny _ _ ((compStart (.ListComp elt [⟨t1, i1, ifs1, 0⟩, ⟨t2, i2, ifs2, 0⟩] scope pos) 1 it acc env).onRaise (fun x => do noteFrame x env; standAt theWindowsPlace)) _ _ s
  refine wpAny_notedAt ?_
  unfold compStart
  show wpAny _ _ (ask >>= _) _ _ s
  refine wpAny_bind (wpAny_askSetting (wpAny_ite ?_))
  split
  · first
      | exact wpAny_bind (wpAny_pure (wpAny_pure (And.intro rfl h0)))
      | exact wpAny_pure (And.intro rfl h0)
  · first
      | exact wpAny_bind (wpAny_rule (wpAny_bind (wpAny_standAt (wpAny_bind (wpAny_mono h (fun it' s' h' => wpAny_pure (And.intro rfl h')) fun _ _ x => x)))))
      | (refine wpAny_bind (wpAny_rule ?_); show wpAny _ _ (standAt i2.pos >>= _) _ _ s; exact wpAny_bind (wpAny_standAt (wpAny_bind (wpAny_mono h (fun it' s' h' => wpAny_pure (And.intro rfl h')) fun _ _ x => x))))
theorem turn1' {elt t1 i1 t2 i2 : Expr} {ifs1 ifs2 : List Expr} {scope : Scope} {pos : Pos} {it acc : Value} {env : Env} :
    compTurn (.ListComp elt [⟨t1, i1, ifs1, 0⟩, ⟨t2, i2, ifs2, 0⟩] scope pos) 1 it acc env = (do
      standAt i2.pos
      match ← pyNext it with
      | none => pure (.done .next)
      | some v =>
        letOwnedTupleGo t2 it v
        assign t2 env v
        let mut ok := true
        for c in ifs2 do
          if ok then ok ← isTrue c env (eval c env)
        if ok then
          (do let _ ← call (.builtin "list.append") [acc, ← eval elt env])
        again (.compLoop (.ListComp elt [⟨t1, i1, ifs1, 0⟩, ⟨t2, i2, ifs2, 0⟩] scope pos) 1 it acc env)) := by rfl
theorem turn0' {elt t1 i1 t2 i2 : Expr} {ifs2 : List Expr} {scope : Scope} {pos : Pos} {it acc : Value} {env : Env} :
    compTurn (.ListComp elt [⟨t1, i1, [], 0⟩, ⟨t2, i2, ifs2, 0⟩] scope pos) 0 it acc env = (do
      standAt i1.pos
      match ← pyNext it with
      | none => pure (.done .next)
      | some v =>
        letOwnedTupleGo t1 it v
        assign t1 env v
        let x ← eval i2 env
        standAt i2.pos
        let x ← foldedSetIterable i2 env x
        let _ ← runOwn (.compStart (.ListComp elt [⟨t1, i1, [], 0⟩, ⟨t2, i2, ifs2, 0⟩] scope pos) 1 (← holding [x] (pyIter x)) acc env) env
        again (.compLoop (.ListComp elt [⟨t1, i1, [], 0⟩, ⟨t2, i2, ifs2, 0⟩] scope pos) 0 it acc env)) := by rfl
theorem turn1 {elt t1 i1 t2 i2 : Expr} {ifs1 ifs2 : List Expr} {scope : Scope} {pos : Pos} {it acc : Value} {env : Env} :
    compTurn (.ListComp elt [⟨t1, i1, ifs1, 0⟩, ⟨t2, i2, ifs2, 0⟩] scope pos) 1 it acc env = (standAt i2.pos >>= fun _ => pyNext it >>= fun r => match r with
      | Option.none => Pure.pure (.done .next)
      | some v => letOwnedTupleGo t2 it v >>= fun _ => assign t2 env v >>= fun _ =>
        ((forIn ifs2 true fun c r => if r = true then do let ok ← isTrue c env (eval c env); Pure.pure (ForInStep.yield ok) else Pure.pure (ForInStep.yield r)) >>= fun ok => if ok = true then (eval elt env >>= fun x => call (.builtin "list.append") [acc, x] >>= fun _ => Pure.pure ()) else Pure.pure ()) >>= fun _ =>
          again (.compLoop (.ListComp elt [⟨t1, i1, ifs1, 0⟩, ⟨t2, i2, ifs2, 0⟩] scope pos) 1 it acc env)) := by
  rw [turn1']
  congr 1; funext _; congr 1; funext r
  cases r with
  | none => rfl
  | some v =>
    dsimp only
    congr 1; funext _; congr 1; funext _
    conv => rhs; rw [bind_assoc]
    congr 1; funext ok
    cases ok with
    | false => simp only [Bool.false_eq_true, if_false, pure_bind]
    | true => simp only [if_true, bind_assoc, pure_bind]
theorem turn0 {elt t1 i1 t2 i2 : Expr} {ifs2 : List Expr} {scope : Scope} {pos : Pos} {it acc : Value} {env : Env} :
    compTurn (.ListComp elt [⟨t1, i1, [], 0⟩, ⟨t2, i2, ifs2, 0⟩] scope pos) 0 it acc env = (standAt i1.pos >>= fun _ => pyNext it >>= fun r => match r with
      | Option.none => Pure.pure (.done .next)
      | some v => letOwnedTupleGo t1 it v >>= fun _ => assign t1 env v >>= fun _ =>
        (eval i2 env >>= fun x => standAt i2.pos >>= fun _ => foldedSetIterable i2 env x >>= fun x => holding [x] (pyIter x) >>= fun it2 => runOwn (.compStart (.ListComp elt [⟨t1, i1, [], 0⟩, ⟨t2, i2, ifs2, 0⟩] scope pos) 1 it2 acc env) env >>= fun _ => Pure.pure ()) >>= fun _ =>
          again (.compLoop (.ListComp elt [⟨t1, i1, [], 0⟩, ⟨t2, i2, ifs2, 0⟩] scope pos) 0 it acc env)) := by
  rw [turn0']
  congr 1; funext _; congr 1; funext r
  cases r with
  | none => rfl
  | some v =>
    dsimp only
    simp only [bind_assoc, pure_bind]
theorem flat_if {α β : Type} (p : α → Bool) (f : α → β) : ∀ l : List α, (l.flatMap fun d => if p d = true then [f d] else []) = (l.filter p).map f
  | [] => rfl
  | a :: l => by
    rw [List.flatMap_cons, flat_if p f l, List.filter_cons]
    cases p a <;> rfl
/-- the inner loop of a comprehension of two -/
theorem Emit.loop {elt t1 i1 i2 : Expr} {ifs2 : List Expr} {scope : Scope} {pos py : Pos} {y : PySem.Str} {acc : Addr} {es : List D} (p : D → Bool) (f : D → PySem.Str) (hy : env.kindOf y = some .local) (hf : drp y σ = σ) (hne : ∀ p ∈ μ, p.1 ≠ acc)
    (hi : EvI prog w T n env σ μ i2 es) (ht : ∀ d, d ∈ es → EvIfs prog w T n env ((y, d) :: σ) μ ifs2 (p d)) (he : ∀ d, d ∈ es → p d = true → EvE prog w T n env ((y, d) :: σ) μ elt (.str (f d))) (hs : ∀ x, foldedSetIterable i2 env x = Pure.pure x) :
    Emit prog w T n env σ μ acc (eval i2 env >>= fun x => standAt i2.pos >>= fun _ => foldedSetIterable i2 env x >>= fun x => holding [x] (pyIter x) >>= fun it2 => runOwn (.compStart (.ListComp elt [⟨t1, i1, [], 0⟩, ⟨.Name y py, i2, ifs2, 0⟩] scope pos) 1 it2 (.ref acc) env) env >>= fun _ => Pure.pure ())
      ((es.filter p).map f) := fun A s pk k xs Q E rm S hz hq => by
  have S' : St T pk k env s.heap s.toks σ μ := { S with mu := fun p hp => S.mu p (List.Mem.tail _ hp) }
  rw [← flat_if] at hq hz
  refine wpAny_bind (wpAny_mono (hi A s pk k _ _ rm S' fun it k₁ h₁ t₁ u₁ io => ?_) (fun xv s₁ h₁ => wpAny_bind (wpAny_standAt (wpAny_bind (wpAny_of_eq (hs xv) (wpAny_bind (wpAny_holding h₁)))))) fun _ _ e => e)
  obtain ⟨I, fp, wr, P, Sx, rfl, W, sx, hwr, hfp, alive, hP⟩ := io
  have S₁ := S.up u₁
  have lp : ∀ R : Result → Shared → Prop, (∀ k' h' tk, UpX acc env.locals wr k₁ h₁ k' h' → St T pk k' env h' tk σ ((acc, sTs (xs ++ es.flatMap fun d => if p d = true then [f d] else [])) :: μ) → R (.ok .next) { s with heap := h', toks := tk }) →
      codeAny (model prog w) A (.compLoop (.ListComp elt [⟨t1, i1, [], 0⟩, ⟨.Name y py, i2, ifs2, 0⟩] scope pos) 1 (.ref I) (.ref acc) env) R { s with heap := h₁, toks := t₁ } := fun R hR =>
    emit_loop turn1 hy hf rm S₁ hne hz W sx (fun b hb => ⟨(hwr b hb).1, by
        cases q : pk b with
        | none => rfl
        | some o => have := S.kb _ _ q; rw [(hwr b hb).2] at this; cases this⟩)
      (fun b o hb => by
        obtain ⟨_, ka, ob, e⟩ := S.own o
        rcases hfp b hb with ⟨o', e'⟩ | e'
        · rw [(S₁.own o).2.1] at e'; cases e'
        · rw [e'] at e; cases e) alive hP
      (fun d hd => Emit.tests (ht d hd) fun hp => Emit.elt hne (he d hd hp)) hR
  have fin : ∀ k' h' tk, UpX acc env.locals wr k₁ h₁ k' h' → St T pk k' env h' tk σ ((acc, sTs (xs ++ es.flatMap fun d => if p d = true then [f d] else [])) :: μ) → Q () { s with heap := h', toks := tk } := fun k' h' tk ux S' =>
    hq k' h' tk ⟨u₁.kl.trans ux.kl, fun b o e => (ux.kn b o e).elim (u₁.kn b o) fun q => .inr (u₁.le.none q), fun b o e1 e2 _ e => ux.keep b o e1 e2 (fun hb => by rw [(hwr b hb).2] at e; cases e) (u₁.le _ _ e)⟩ S'
  refine wpAny_bind (wpAny_runOwn (compStart1 ?_ ?_) (by intro x; cases x))
  · exact lp _ fun k' h' tk ux S' => wpAny_pure (fin k' h' tk ux S')
  · exact W.self 0 _ _ _ sx (lp _ fun k' h' tk ux S' => wpAny_pure (fin k' h' tk ux S'))
end
section
variable {prog : Program} {w : World} {T : Heap → Prop} {K : Frag} {n : Nat} {env : Env} {σ : Sg} {μ : List (Addr × List D)} {sc : Scope}
theorem EvE.comp2 {elt i1 i2 : Expr} {x y : PySem.Str} {px py : Pos} {ifs2 : List Expr} {scope : Scope} {pos : Pos} {ds : List D} (es : D → List D) (p : D → D → Bool) (f : D → D → PySem.Str) (hc : compOk scope env [x, y, ".0"] = true) (h0 : ∀ d, ((".0" : PySem.Str), d) ∉ σ) (hx : drp x σ = σ) (hy : ∀ d, drp y ((x, d) :: σ) = (x, d) :: σ)
    (hi : EvI prog w T n env σ μ i1 ds) (h2 : ∀ C d, d ∈ ds → EvI prog w T n (cenv scope C env) ((x, d) :: σ) μ i2 (es d))
    (ht : ∀ C d e, d ∈ ds → e ∈ es d → EvIfs prog w T n (cenv scope C env) ((y, e) :: (x, d) :: σ) μ ifs2 (p d e))
    (he : ∀ C d e, d ∈ ds → e ∈ es d → p d e = true → EvE prog w T n (cenv scope C env) ((y, e) :: (x, d) :: σ) μ elt (.str (f d e)))
    (hsz : (ds.flatMap fun d => ((es d).filter (p d)).map (f d)).length ≤ 100000) (hs1 : ∀ x, foldedSetIterable i1 env x = Pure.pure x) (hs2 : ∀ C x, foldedSetIterable i2 (cenv scope C env) x = Pure.pure x) :
    EvE prog w T n env σ μ (.ListComp elt [⟨.Name x px, i1, [], 0⟩, ⟨.Name y py, i2, ifs2, 0⟩] scope pos) (.list ((ds.flatMap fun d => ((es d).filter (p d)).map (f d)).map .str)) := fun A s pk k Q E rm S hq => by
  have hc' := CompOk.of hc
  rw [eval_ListComp]
  refine wpAny_comprehension_free (use := none) rfl hs1 (closureFor_eq fun y hy => S.ok.c1 y (hc'.fr y hy)) hc'.kind (fun y hy hl => lookup_of_nodup hc'.nd (by rw [← hl]; exact hy)) ?_
  refine hi A s pk k _ _ rm S fun it k₂ h₂ tk₂ u₂ io => ?_
  obtain ⟨I, fp, wr, P, Sx, rfl, W, sx, hwr, hfp, alive, hP⟩ := io
  have S₂ := S.up u₂
  refine wpAny_newObj_type (wpAny_newFunctionEnv hc'.nocell (by intro y hy; simp at hy) (fun h₁ hns₁ hsb₁ => ?_) hc'.kind)
  dsimp only at hns₁ hsb₁ ⊢
  generalize hH2 : h₂.push { cls := .type "list", dict := none, data := .seq ([] : List Value).toArray } = H2 at hns₁ hsb₁ ⊢
  have hC : H2.objs.size = h₂.objs.size + 1 := by rw [← hH2, Heap.size_push]
  have hDC : h₂.objs.size ≠ H2.objs.size := by rw [hC]; exact Nat.ne_of_lt (Nat.lt_succ_self _)
  have below : ∀ b o, h₂.get? b = some o → b ≠ H2.objs.size ∧ b ≠ h₂.objs.size := fun b o e => by
    have := Heap.lt_size e
    exact ⟨by rw [hC]; exact Nat.ne_of_lt (Nat.lt_succ_of_lt this), Nat.ne_of_lt this⟩
  have old : ∀ b o, h₂.get? b = some o → h₁.get? b = some o := fun b o e => hsb₁.extBut b o (below b o e).1 (Heap.get?_push_of_some _ (hH2 ▸ Heap.get?_push_of_some _ e))
  have freshD : h₂.get? h₂.objs.size = Option.none := get_size _
  have freshC : h₂.get? H2.objs.size = Option.none := by
    cases q : h₂.get? H2.objs.size with
    | none => rfl
    | some o => exact absurd rfl (below _ o q).1
  generalize hD : h₂.objs.size = Dd at *
  generalize hCc : H2.objs.size = Cc at *
  have hacc : h₁.PlainList Dd #[] := ⟨0, hsb₁.extBut _ _ hDC (Heap.get?_push_of_some _ (by rw [← hH2, ← hD]; exact Heap.get?_push_size _ rfl))⟩
  have sx₁ : Sx 0 h₁ := W.frame _ _ _ sx fun b _ o e => old b o e
  have kfresh : ∀ b, h₂.get? b = none → k₂.m b = none := fun b e => by
    cases q : k₂.m b with
    | none => rfl
    | some o => have := u₂.ki.at _ _ q; rw [e] at this; cases this
  have pkfresh : ∀ b, h₂.get? b = none → pk b = none := fun b e => by
    cases q : pk b with
    | none => rfl
    | some o => have := S₂.kb _ _ q; rw [e] at this; cases this
  have fpOk : ∀ b ∈ fp, b ≠ Cc ∧ b ≠ Dd := fun b hb => by
    obtain ⟨o, e⟩ := alive _ _ sx b hb
    exact below b o e
  have ownfp : ∀ b, Own env μ b → b ∉ fp := fun b o hb => by
    obtain ⟨_, ka, ob, e⟩ := S.own o
    rcases hfp b hb with ⟨o', e'⟩ | e'
    · rw [(S₂.own o).2.1] at e'; cases e'
    · rw [e'] at e; cases e
  have noσ : ∀ z ∈ [x, y, (".0" : PySem.Str)], ∀ d, (z, d) ∉ σ := fun z hz d hm => by
    rcases List.mem_cons.mp hz with e | hz
    · subst e; rw [← hx] at hm; exact absurd rfl (mem_drp.mp hm).2
    · rcases List.mem_cons.mp hz with e | hz
      · subst e
        have : (z, d) ∈ drp z ((x, d) :: σ) := by rw [hy]; exact List.mem_cons_of_mem _ hm
        exact absurd rfl (mem_drp.mp this).2
      · rw [List.mem_singleton.mp hz] at hm; exact h0 d hm
  have Sc : St T pk k₂ (cenv scope Cc env) h₁ tk₂ σ μ := by
    refine S₂.comp hc' (KLe.refl _) (u₂.ki.le old (Nat.le_refl _)) (fun b o e => old b o (S₂.kb _ _ e)) (fun b o ow e => ⟨old b o e, (S₂.own ow).2.1, (below b o e).1⟩) ⟨kfresh _ freshC, pkfresh _ freshC⟩ hns₁ (fun z d hz hm => absurd hm (noσ z hz d)) (fun z d _ hm => hm)
  have neD : ∀ p ∈ μ, p.1 ≠ Dd := fun p hp => by
    obtain ⟨_, _, ob, e⟩ := S₂.own (.inr (.inr ⟨p, hp, rfl⟩) : Own env μ p.1)
    exact (below _ ob e).2
  have Sd : St T pk k₂ (cenv scope Cc env) h₁ tk₂ σ ((Dd, sTs []) :: μ) := { Sc with
    mu := fun p hp => by
      rcases List.mem_cons.mp hp with q | q
      · subst q
        refine ⟨kfresh _ freshD, pkfresh _ freshD, hDC, fun z c e => ?_, MuOk.ofPlain (vs := []) rfl hacc RdL.nil⟩
        obtain ⟨e', _⟩ := cells_of hc' S.ok e
        obtain ⟨_, _, ob, g⟩ := S₂.own (.inr (.inl ⟨z, e'⟩) : Own env μ c)
        exact fun q => (below _ ob g).2 q.symm
      · exact Sc.mu p q }
  have ownD : ∀ b, Own (cenv scope Cc env) ((Dd, sTs []) :: μ) b → b ∉ fp := fun b o hb => by
    rcases o with o | ⟨z, o⟩ | ⟨p, hp, e⟩
    · rw [o] at hb; exact (fpOk _ hb).1 rfl
    · obtain ⟨e', _⟩ := cells_of hc' S.ok o
      exact ownfp _ (.inr (.inl ⟨z, e'⟩)) hb
    · rcases List.mem_cons.mp hp with q | q
      · rw [q] at e; subst e; exact (fpOk _ hb).2 rfl
      · exact ownfp _ (.inr (.inr ⟨p, q, e⟩)) hb
  have klx : (cenv scope Cc env).kindOf x = some .local := by rw [cenv_kind, hc'.xl x (by simp)]; rfl
  have kly : (cenv scope Cc env).kindOf y = some .local := by rw [cenv_kind, hc'.xl y (by simp)]; rfl
  have hnew : (s.heap.get? Dd = none ∧ s.heap.get? Cc = none) ∧ ∀ b ∈ wr, s.heap.get? b = none := ⟨⟨u₂.le.none freshD, u₂.le.none freshC⟩, fun b hb => (hwr b hb).2⟩
  have lp : codeAny (model prog w) A (.compLoop (.ListComp elt [⟨.Name x px, i1, [], 0⟩, ⟨.Name y py, i2, ifs2, 0⟩] scope pos) 0 (.ref I) (.ref Dd) (cenv scope Cc env)) (compPost (model prog w) A E none Q (.ref Dd) Cc) { s with heap := h₁, toks := tk₂ } := by
    refine emit_loop (s := { s with heap := h₁, toks := tk₂ }) (g := fun d => ((es d).filter (p d)).map (f d)) (xs := []) turn0 klx hx rm Sd neD (by simpa using hsz) W sx₁ (fun b hb => ⟨(hwr b hb).1, by
        cases q : pk b with
        | none => rfl
        | some o => have := S.kb _ _ q; rw [(hwr b hb).2] at this; cases this⟩) ownD alive hP (fun d hd => Emit.loop (p d) (f d) kly (hy d) neD (h2 Cc d hd) (fun e hm => ht Cc d e hd hm) (fun e hm hp => he Cc d e hd hm hp) (hs2 Cc)) ?_
    intro k' h' tk ux S'
    obtain ⟨m', hm', _⟩ := S'.ns
    refine ⟨m', hm', fun h'' hs'' => ?_⟩
    obtain ⟨kD, _, _, _, lm⟩ := S'.mu _ (List.Mem.head _)
    obtain ⟨vs, ⟨nn, l⟩, r⟩ := lm.plain (soft_sTs _)
    have l'' : h''.get? Dd = some _ := hs''.extBut _ _ hDC l
    have ki'' : KIn k' h'' tk := S'.kh.same S'.hL.1 hs'' (Nat.le_refl _)
    refine hq (.ref Dd) (addk Dd _ k') h'' tk ⟨(u₂.kl.trans ux.kl).trans (addk_le kD), addk_in ki'' l'', fun b o e => ?_, fun b o e => ?_⟩ ?_
    · by_cases hb : b = Dd
      · subst hb; exact .inr hnew.1.1
      · rw [addk_of hb] at e
        rcases ux.kn b o e with e' | e'
        · exact u₂.kn b o e'
        · right
          cases q : s.heap.get? b with
          | none => rfl
          | some o' => have e' : h₁.get? b = none := e'; rw [old b o' (u₂.le _ _ q)] at e'; cases e'
    · have n1 : b ≠ Dd := fun q => by rw [q, hnew.1.1] at e; cases e
      have n2 : b ≠ Cc := fun q => by rw [q, hnew.1.2] at e; cases e
      have n3 : b ∉ wr := fun q => by rw [hnew.2 b q] at e; cases e
      exact hs''.extBut b o n2 (ux.keep b o n1 n2 n3 (old b o (u₂.le _ _ e)))
    · exact Rd.list ⟨_, addk_at, rfl, nn, rfl⟩ (r.le (addk_le kD))
  exact codeAny_compStart_list lp (W.self 0 _ _ _ sx₁ lp)
end
/-- the sort's questions, answered by a pure test; only places that are there are asked for -/
noncomputable def runB {α : Type} (n : Nat) (lt : Nat → Nat → Bool) : KasT α → Option α
  | .ret a => some a
  | .ask i j k => if Nat.blt i n && Nat.blt j n then runB n lt (k (lt i j)) else none
noncomputable def pairLt (p q : Int × Int) : Bool := if p.1 == q.1 then (if p.2 == q.2 then false else decide (p.2 < q.2)) else decide (p.1 < q.1)
noncomputable def sortP (ps : List (Int × Int)) : Option (List (Int × Int)) :=
  if ps.length < 2 then some ps else
    match runB ps.length (fun i j => pairLt (ps.getD i (0, 0)) (ps.getD j (0, 0))) (kas_sort ps.length) with
    | some p => if p.toList.all (Nat.blt · ps.length) then some (p.toList.map fun i => ps.getD i (0, 0)) else none
    | none => none
theorem runB_wp {α : Type} {cmp : Nat → Nat → (Bool → Shared → Prop) → Shared → Prop} {n : Nat} {lt : Nat → Nat → Bool} {s : Shared} (hc : ∀ i j C, i < n → j < n → C (lt i j) s → cmp i j C s) : ∀ (t : KasT α) {a : α} {Q : α → Shared → Prop}, runB n lt t = some a → Q a s → t.kasWp cmp Q s
  | .ret b, a, Q, e, h => by
    have : b = a := Option.some.inj e
    subst this; exact h
  | .ask i j k, a, Q, e, h => by
    unfold runB at e
    split at e
    · rename_i hb
      simp only [Bool.and_eq_true, Nat.blt_eq] at hb
      exact hc i j _ hb.1 hb.2 (runB_wp hc (k (lt i j)) e h)
    · cases e
section
variable {prog : Program} {w : World} {T : Heap → Prop} {K : Frag} {n : Nat} {env : Env} {σ : Sg} {μ : List (Addr × List D)} {A : Around} {E : Value → Shared → Prop} {s : Shared}
/-- fewer than two: nothing is compared -/
theorem sort_tree_short {a : Addr} {vs : List Value} {n : Nat} {P : PySem.Fin → Shared → Prop} (ho : s.heap.get? a = some (seqObj "list" vs.toArray n)) (h2 : vs.length < 2)
    (h : P (.done (.ret .none)) { s with heap := sortedHeap s.heap a vs vs.toArray }) : wpAny (model prog w) A (Builtin.«list.sort» ⟨[.ref a], []⟩) P E s := by
  rw [list_sort_plain]
  have ha : a < s.heap.objs.size := Heap.lt_size ho
  refine wpAny_bind (listItems_at ho rfl ?_)
  refine wpAny_bind (listUpdate_at ho rfl ?_ (by rw [List.size_toArray, sizeLine_eq]; omega) (Nat.zero_le _))
  obtain ⟨e1, ho1⟩ : ∃ e1, (s.heap.update a (Obj.mapSeq fun _ => #[])).get? a = some (seqObj "list" #[] e1) := ⟨_, get?_update_seq ho (fun _ => #[])⟩
  refine wpAny_bind (seqEpoch_at ho1 rfl ?_)
  refine wpAny_bind (wpAny_newTuple ?_ (by show vs.length ≤ _; rw [sizeLine_eq]; omega))
  refine wpAny_bind (wpAny_newList ?_ (Nat.zero_le _))
  refine wpAny_holding ?_
  have ho6 : (((s.heap.update a (Obj.mapSeq fun _ => #[])).push (seqObj "tuple" vs.toArray 0)).push (seqObj "list" #[] 0)).get? a = some (seqObj "list" #[] e1) := by
    rw [Heap.get?_push_ne _ _ _ (by rw [size_push', Heap.size_update]; exact Nat.ne_of_lt (Nat.lt_succ_of_lt ha)), Heap.get?_push_ne _ _ _ (by rw [Heap.size_update]; exact Nat.ne_of_lt ha)]
    exact ho1
  show wpAny (model prog w) A _ P E { s with heap := ((s.heap.update a (Obj.mapSeq fun _ => #[])).push (seqObj "tuple" vs.toArray 0)).push (seqObj "list" #[] 0) }
  dsimp only
  have h2' : vs.toArray.size < 2 := by rw [List.size_toArray]; exact h2
  rw [if_pos h2', if_pos h2']
  refine wpAny_bind (wpAny_pure ?_)
  rw [StateT.run_pure]
  refine wpAny_bind (wpAny_pure ?_)
  dsimp only
  refine wpAny_bind (seqEpoch_at ho6 rfl ?_)
  have e : (arrOf (SortSt.mk' general' (vs.toArray.zip vs.toArray) #[] 7 none)).map (·.2) = vs.toArray := by
    show (pairsOf vs).map (·.2) = vs.toArray
    apply Array.toList_inj.mp
    rw [Array.toList_map, pairsOf_toList]
    clear ho h ho6 h2'
    match vs, h2 with
    | [], _ => rfl
    | [v], _ => rfl
  refine wpAny_bind (listUpdate_at ho6 rfl ?_ (hsz2 := by rw [e, List.size_toArray, sizeLine_eq]; omega))
  simp only [bne_self_eq_false, Bool.false_eq_true, if_false]
  rw [e]
  exact wpAny_pure h
theorem sorted_short {l : Addr} {vs : List Value} {Q : Value → Shared → Prop} (hl : s.heap.IsList l vs.toArray) (h2 : vs.length < 2)
    (h : Q (.ref (s.heap.objs.size + 1)) { s with heap := sortedAll s.heap vs vs.toArray }) : wpAny (model prog w) A (call (.builtin "sorted") [.ref l]) Q E s := by
  refine Calls.call_function_entry kind_sorted plain_sorted entry_sorted (args_sorted1 _) ?_
  unfold Builtin.«sorted»
  refine wpAny_bind (m := checkCount "sorted" 1 1 _) (wpAny_pure ?_)
  refine wpAny_bind (collect_list hl ?_ (by rw [sizeLine_eq]; omega))
  refine wpAny_bind (wpAny_newList ?_ (by rw [sizeLine_eq]; omega))
  have hsz : ((s.heap.push (seqObj "list" #[] 0)).update s.heap.objs.size (Obj.mapSeq (· ++ vs.toArray))).objs.size = s.heap.objs.size + 1 := by
    rw [Heap.size_update, size_push']
  have hoL : (((s.heap.push (seqObj "list" #[] 0)).update s.heap.objs.size (Obj.mapSeq (· ++ vs.toArray))).push (seqObj "list" vs.toArray 0)).get? (s.heap.objs.size + 1) = some (seqObj "list" vs.toArray 0) := by
    rw [← hsz]; exact Heap.get?_push_size _ rfl
  show wpAny _ _ _ _ _ { s with heap := ((s.heap.push (seqObj "list" #[] 0)).update s.heap.objs.size (Obj.mapSeq (· ++ vs.toArray))).push (seqObj "list" vs.toArray 0) }
  rw [hsz]
  refine wpAny_bind (wpAny_holding (wpAny_call_entry slot_list_sort ⟨_, hoL, rfl⟩ entry_list_sort (sort_tree_short hoL h2 ⟨_, rfl, ?_⟩) (args_list_sort _)))
  exact wpAny_pure ⟨_, rfl, h⟩

/-- pairs known at a heap: their objects -/
noncomputable def PairAt (h : Heap) (v : Value) (p : Int × Int) : Prop := ∃ a o n t u, v = .ref a ∧ h.get? a = some o ∧ o.cls = .type "tuple" ∧ o.data = .seq #[.int p.1 t, .int p.2 u] n
theorem pair_lt {x y : Value} {p q : Int × Int} {C : Bool → Shared → Prop} {E' : Value → Shared → Prop} (hx : PairAt s.heap x p) (hy : PairAt s.heap y q) (hC : C (pairLt p q) s) : wpAny (model prog w) A (keyLt' (tuples' true) x y) C E' s := by
  obtain ⟨a, o, n, t, u, rfl, e1, _, d1⟩ := hx
  obtain ⟨b, o', n', t', u', rfl, e2, _, d2⟩ := hy
  refine kat_lt e1 d1 e2 d2 ?_
  refine kat_cons (wpAny_eqBool_int ?_)
  unfold pairLt at hC
  cases h1 : (p.1 == q.1) with
  | true =>
    rw [h1, if_pos rfl] at hC
    refine kat_yes (kat_cons (wpAny_eqBool_int ?_))
    cases h2 : (p.2 == q.2) with
    | true =>
      rw [h2, if_pos rfl] at hC
      exact kat_yes (kat_nil hC)
    | false =>
      rw [h2, if_neg (by simp)] at hC
      refine kat_no (kat_one _ _ (lt_int ?_))
      exact hC
  | false =>
    rw [h1, if_neg (by simp)] at hC
    exact kat_no (oneLt_int hC)
theorem katTups_of {h : Heap} : ∀ {vs : List Value} {ps : List (Int × Int)}, vs.length = ps.length → (∀ i, i < ps.length → PairAt h (vs.getD i Value.none) (ps.getD i (0, 0))) → ∃ fs, KatTups h vs fs ∧ fs.length = ps.length ∧ ∀ f ∈ fs, ∃ n t, f = .int n t
  | [], [], _, _ => ⟨[], KatTups.nil, rfl, fun f hf => nomatch hf⟩
  | v :: vs, p :: ps, hl, hp => by
    obtain ⟨fs, t, e, q⟩ := katTups_of (vs := vs) (ps := ps) (by simpa using hl) (fun i hi => hp (i + 1) (by simpa using hi))
    obtain ⟨a, o, n, t', u', rfl, g, c, d⟩ := hp 0 (by simp)
    refine ⟨.int p.1 t' :: fs, KatTups.cons g c d rfl t, by simp [e], fun f hf => ?_⟩
    rcases List.mem_cons.mp hf with rfl | hf
    · exact ⟨_, _, rfl⟩
    · exact q f hf
  | [], p :: ps, hl, _ => by simp at hl
  | v :: vs, [], hl, _ => by simp at hl
theorem pairAt_of {k : Kn} {h : Heap} {t : Nat} {p : Int × Int} {v : Value} (ki : KIn k h t) (r : Rd k (pairD p) v) : PairAt h v p := by
  obtain ⟨a, vs, rfl, l, m⟩ := Rd.t r
  obtain ⟨x, y, rfl, rx, ry⟩ := m.two2
  obtain ⟨t₁, rfl⟩ := rx.i
  obtain ⟨t₂, rfl⟩ := ry.i
  obtain ⟨o, e, c, n, d⟩ := l
  exact ⟨a, o, n, t₁, t₂, rfl, ki.at _ _ e, c, d⟩
/-- a list of pairs, sorted -/
theorem call_sorted_pairs {pk : Pk} {k : Kn} {v : Value} {ps qs : List (Int × Int)} {Q : Value → Shared → Prop} (S : St T pk k env s.heap s.toks σ μ) (r : Rd k (.list (ps.map pairD)) v) (hs : sortP ps = some qs) (h64 : ps.length < 64)
    (h : ∀ a k' h', KLe k k' → (∀ b o, k'.m b = some o → k.m b = some o ∨ pk b = Option.none) → St T pk k' env h' s.toks σ μ → Rd k' (.list (qs.map pairD)) (.ref a) → Q (.ref a) { s with heap := h' }) :
    wpAny (model prog w) A (call (.builtin "sorted") [v]) Q E s := by
  obtain ⟨a, vs, rfl, l, m⟩ := r.l
  have hl := l.at S.kh
  have e1 : vs.length = ps.length := by rw [m.length, List.length_map]
  unfold sortP at hs
  by_cases h2 : ps.length < 2
  · rw [if_pos h2] at hs
    cases hs
    refine sorted_short hl (by omega) ?_
    obtain ⟨e, he⟩ := sortedAll_at s.heap vs vs.toArray
    have le : Le s.heap (sortedAll s.heap vs vs.toArray) := fun b o e => sortedAll_old e
    have u := Up.grow S.kh le (Nat.le_refl s.toks)
    obtain ⟨x, y⟩ := endU (σ' := σ) (μ' := μ) S u
    refine h _ _ _ x y (S.up u) (Rd.list ⟨_, grown_new he ?_, rfl, e, rfl⟩ (m.le u.kl))
    cases q : s.heap.get? (s.heap.objs.size + 1) with
    | none => rfl
    | some o => exact absurd (Heap.lt_size q) (Nat.not_lt.mpr (Nat.le_succ _))
  · rw [if_neg h2] at hs
    split at hs
    · rename_i p hp
      split at hs
      · rename_i hall
        cases hs
        obtain ⟨mm, hn, hm⟩ := id S.ns
        have F : Fr {} env.locals s.heap mm := ⟨hn, fun b o e => absurd (Heap.lt_size e) (Nat.not_lt_zero _), Nat.zero_le _⟩
        have N : News {} env.locals s.heap (restOf s.heap env.locals env.locals) := fun q hq => by
          obtain ⟨b, ob⟩ := q
          obtain ⟨e1, e2, e3⟩ := mem_restOf.mp hq
          exact ⟨e1, e3, by cases z : Heap.get? {} b with | none => rfl | some o' => exact absurd (Heap.lt_size z) (Nat.not_lt_zero _)⟩
        have kept : ∀ {h' : Heap} {r : List (Addr × Obj)}, News {} env.locals h' r → (∀ q ∈ restOf s.heap env.locals env.locals, q ∈ r) → ∀ b o, b ≠ env.locals → s.heap.get? b = some o → h'.get? b = some o := fun N' hr b o e1 e => (N' (b, o) (hr _ (mem_restOf.mpr ⟨e, e1, e1⟩))).1
        have pat : ∀ {h' : Heap}, (∀ b o, b ≠ env.locals → s.heap.get? b = some o → h'.get? b = some o) → ∀ i, i < ps.length → PairAt h' (vs.getD i Value.none) (ps.getD i (0, 0)) := fun {h'} keep i hi => by
          obtain ⟨x, ex, rx⟩ := m.get (i := i) (d := pairD (ps.getD i (0, 0))) (by simp [hi, List.getD])
          have ex' : vs.getD i Value.none = x := by rw [List.getD, ex]; rfl
          rw [ex']
          obtain ⟨a', vs', rfl, l', m'⟩ := rx.t
          obtain ⟨y, z, rfl, ry, rz⟩ := m'.two2
          obtain ⟨t₁, rfl⟩ := ry.i
          obtain ⟨t₂, rfl⟩ := rz.i
          obtain ⟨o, ka, c, n', d⟩ := l'
          exact ⟨a', o, n', t₁, t₂, rfl, keep _ _ (fun q => by rw [q, S.hL.1] at ka; cases ka) (S.kh.at _ _ ka), c, d⟩
        have rdl : ∀ il : List Nat, (∀ i ∈ il, i < ps.length) → RdL k ((il.map fun i => ps.getD i (0, 0)).map pairD) (il.map fun i => vs.getD i Value.none) := fun il => by
          induction il with
          | nil => intro _; exact RdL.nil
          | cons i il ih =>
            intro hall'
            have hi := hall' i (List.mem_cons_self)
            obtain ⟨x, ex, rx⟩ := m.get (i := i) (d := pairD (ps.getD i (0, 0))) (by simp [hi, List.getD])
            have ex' : vs.getD i Value.none = x := by rw [List.getD, ex]; rfl
            refine RdL.cons ?_ (ih fun j hj => hall' j (List.mem_cons_of_mem _ hj))
            show Rd k _ (vs.getD i Value.none)
            rw [ex']
            exact rx
        refine kat_sorted F N hl (by omega) (by omega) fun D e1' h₁ F₁ N₁ lt => ?_
        have keep₁ := kept N₁ (fun q hq => List.mem_cons_of_mem _ hq)
        obtain ⟨fs, kt, fl, fi⟩ := katTups_of (h := h₁) e1 (pat keep₁)
        refine kat_kind (T := .type "int") kt (by omega) (fun f hf => ?_) rfl ?_
        · obtain ⟨x, t', rfl⟩ := fi f hf
          exact Looks.of_pure rfl
        · show KasT.kasWp (kas_ask prog w A.in1.in1 (tuples' true) vs) _ _ _
          rw [e1]
          refine runB_wp (fun i j C hi hj hC => ?_) _ hp ?_
          · exact pair_lt (pat keep₁ i hi) (pat keep₁ j hj) hC
          · refine KasFin.intro F₁ N₁ (UpdF.head fun q hq => Nat.ne_of_lt (lt q hq)) fun h₂ c F₂ N₂ => ?_
            have keep₂ := kept N₂ (fun q hq => List.mem_cons_of_mem _ hq)
            obtain ⟨gD, nD, _⟩ := N₂ _ (List.Mem.head _)
            have freshD : s.heap.get? D = none := by
              cases q : s.heap.get? D with
              | none => rfl
              | some o => exact absurd (lt (D, o) (mem_restOf.mpr ⟨q, nD, nD⟩)) (Nat.lt_irrefl _)
            have own : ∀ b, Own env μ b → b ≠ D := fun b o q => by
              obtain ⟨_, _, ob, e⟩ := S.own o
              rw [q, freshD] at e; cases e
            have kD : k.m D = none := by
              cases q : k.m D with
              | none => rfl
              | some o => have := S.kh.at _ _ q; rw [freshD] at this; cases this
            have pD : pk D = none := by
              cases q : pk D with
              | none => rfl
              | some o => have := S.kb _ _ q; rw [freshD] at this; cases this
            have kl := addk_le (o := listOf (List.toArray (p.toList.map fun i => vs.getD i Value.none)) c) kD
            refine h D (addk D _ k) h₂ kl (fun b o e => ?_) ⟨S.ok, S.top, fun b o e => keep₂ b o (fun q => by rw [q, S.hL.2] at e; cases e) (S.kb _ _ e),
              addk_in ⟨fun b o e => keep₂ b o (fun q => by rw [q, S.hL.1] at e; cases e) (S.kh.at _ _ e), S.kh.one, S.kh.tk⟩ gD, ⟨mm, F₂.ns, fun x d a b => let ⟨v, e, q⟩ := hm x d a b; ⟨v, e, q.le kl⟩⟩, fun x c' e => ?_, ⟨by rw [addk_of (Ne.symm nD)]; exact S.hL.1, S.hL.2⟩,
              fun x c' e => ?_, S.dC, fun q hq => ?_⟩ ?_
            · by_cases hb : b = D
              · subst hb; exact .inr pD
              · rw [addk_of hb] at e; exact .inl e
            · obtain ⟨v, ⟨o, g, gd⟩, q⟩ := S.cl x c' e
              exact ⟨v, ⟨o, keep₂ _ _ (S.hC x c' e).2.2 g, gd⟩, fun d b => let ⟨v', e', q'⟩ := q d b; ⟨v', e', q'.le kl⟩⟩
            · obtain ⟨x1, x2, x3⟩ := S.hC x c' e
              exact ⟨by rw [addk_of (own _ (.inr (.inl ⟨x, e⟩)))]; exact x1, x2, x3⟩
            · obtain ⟨x1, x2, x3, x4, lm⟩ := S.mu q hq
              exact ⟨by rw [addk_of (own _ (.inr (.inr ⟨q, hq, rfl⟩)))]; exact x1, x2, x3, x4, lm.keep (fun o e => keep₂ _ _ x3 e) kl⟩
            · refine Rd.list ⟨_, addk_at, rfl, c, rfl⟩ (RdL.le kl (rdl p.toList fun i hi => by
                have := List.all_eq_true.mp hall i hi
                simpa using this))
      · cases hs
    · cases hs
end
noncomputable def insI (a : Int) : List Int → List Int
  | [] => [a]
  | b :: l => if a ≤ b then a :: b :: l else b :: insI a l
noncomputable def sortI : List Int → List Int
  | [] => []
  | a :: l => insI a (sortI l)
theorem insI_perm (a : Int) : ∀ l, (insI a l).Perm (a :: l)
  | [] => List.Perm.refl _
  | b :: l => by
    unfold insI
    split
    · exact List.Perm.refl _
    · exact ((insI_perm a l).cons b).trans (List.Perm.swap a b l)
theorem sortI_perm : ∀ l, (sortI l).Perm l
  | [] => List.Perm.refl _
  | a :: l => (insI_perm a _).trans ((sortI_perm l).cons a)
theorem insI_sorted (a : Int) : ∀ l, l.Pairwise (· ≤ ·) → (insI a l).Pairwise (· ≤ ·)
  | [], _ => by simp [insI]
  | b :: l, h => by
    obtain ⟨h1, h2⟩ := List.pairwise_cons.mp h
    unfold insI
    split
    · rename_i q
      refine List.pairwise_cons.mpr ⟨fun x hx => ?_, h⟩
      rcases List.mem_cons.mp hx with rfl | hx
      · exact q
      · exact Int.le_trans q (h1 x hx)
    · rename_i q
      refine List.pairwise_cons.mpr ⟨fun x hx => ?_, insI_sorted a l h2⟩
      rcases List.mem_cons.mp ((insI_perm a l).mem_iff.mp hx) with rfl | hx
      · omega
      · exact h1 x hx
theorem sortI_sorted : ∀ l, (sortI l).Pairwise (· ≤ ·)
  | [] => List.Pairwise.nil
  | a :: l => insI_sorted a _ (sortI_sorted l)
theorem sorted_unique : ∀ {a b : List Int}, a.Perm b → a.Pairwise (· ≤ ·) → b.Pairwise (· ≤ ·) → a = b
  | [], b, p, _, _ => by have := p.length_eq; cases b with | nil => rfl | cons _ _ => simp at this
  | x :: a, [], p, _, _ => by have := p.length_eq; simp at this
  | x :: a, y :: b, p, ha, hb => by
    obtain ⟨a1, a2⟩ := List.pairwise_cons.mp ha
    obtain ⟨b1, b2⟩ := List.pairwise_cons.mp hb
    have e : x = y := by
      have hx : x ∈ y :: b := p.mem_iff.mp List.mem_cons_self
      have hy : y ∈ x :: a := p.mem_iff.mpr List.mem_cons_self
      rcases List.mem_cons.mp hx with e | hx
      · exact e
      · rcases List.mem_cons.mp hy with e | hy
        · exact e.symm
        · exact Int.le_antisymm (a1 y hy) (b1 x hx)
    subst e
    rw [sorted_unique (p.cons_inv) a2 b2]
section
variable {prog : Program} {w : World} {T : Heap → Prop} {K : Frag} {n : Nat} {env : Env} {σ : Sg} {μ : List (Addr × List D)}
theorem CallC.sortedI {ns : List Int} (h64 : ns.length < 64) : CallC prog w T n (.builtin "sorted") [.list (ns.map .int)] (.list ((sortI ns).map .int)) := fun A s k vs Q E rm ht ki r hq => by
  obtain ⟨v, rfl, rv⟩ := r.one1
  obtain ⟨a, us, rfl, l, m⟩ := rv.l
  have hI := intsAre_of m
  have hl : us.length = ns.length := by rw [m.length, List.length_map]
  refine sorted_ints (l.at ki) hI (by omega) fun out ns' i' p' o' => ?_
  have e : ns' = sortI ns := sorted_unique (p'.trans (sortI_perm ns).symm) o' (sortI_sorted ns)
  subst e
  obtain ⟨e, he⟩ := sortedAll_at s.heap us out
  have le : Le s.heap (sortedAll s.heap us out) := fun b o e => sortedAll_old e
  have u := Up.grow ki le (Nat.le_refl s.toks)
  refine hq _ _ _ _ u (Rd.list ⟨_, grown_new he ?_, rfl, e, ?_⟩ (rdl_of_ints i'))
  · cases q : s.heap.get? (s.heap.objs.size + 1) with
    | none => rfl
    | some o => exact absurd (Heap.lt_size q) (Nat.not_lt.mpr (Nat.le_succ _))
  · simp
/-- sorted(..) == .., given back -/
theorem ExS.retSorted {x np e r pos₁ pos₂ pos₃} {ps qs rs : List (Int × Int)} (hf : EvF prog w T n env σ μ (.Name x np) (.builtin "sorted")) (hp : (starEach [e] env).any (·.1) = false) (hs : starEach [e] env = [(false, eval e env)])
    (he : EvE prog w T n env σ μ e (.list (ps.map pairD))) (hr : EvE prog w T n env σ μ r (.list (rs.map pairD))) (hsort : sortP ps = some qs) (h64 : ps.length < 64) (hm : behindInMarks .Eq r = false) :
    ExS prog w T n env σ μ (.Return (some (.Compare (.Call (.Name x np) [e] [] pos₁) [.Eq] [r] pos₂)) pos₃) (.ret (.bool (decide (qs = rs)))) := fun A s pk k Q E rm S h => by
  refine wpAny_Return_some (wpAny_Compare1 ?_ hm)
  refine wpAny_Call_ofName (hf A s pk k _ _ rm S ?_)
  refine callWith_of (P := T) (by show ((backTo pos₁ (starEach [e] env)).any (·.1) || false) = false; rw [backTo_plain hp]; rfl) Quick.builtin ?_
  refine evalArgs_any hp (EvL.cons hs he EvL.nil A s pk k pos₁ _ _ rm S fun vs k₁ h₁ t₁ u₁ r₁ => ⟨(S.up u₁).topAt, ?_⟩)
  obtain ⟨v, rfl, rv⟩ := r₁.one1
  refine call_sorted_pairs (s := { s with heap := h₁, toks := t₁ }) (S.up u₁) rv hsort h64 fun a k₂ h₂ l₂ n₂ S₂ r₂ => ?_
  refine hr A { s with heap := h₂, toks := t₁ } pk k₂ _ _ rm S₂ fun v₃ k₃ h₃ t₃ u₃ r₃ => ?_
  refine CmpR.eqPairs A { s with heap := h₃, toks := t₃ } k₃ _ _ _ _ rm (S₂.up u₃).topAt u₃.ki (r₂.le u₃.kl) r₃ fun k₄ h₄ t₄ u₄ => ?_
  obtain ⟨a1, a2⟩ := endU (σ' := σ) (μ' := μ) S u₁
  obtain ⟨a3, a4⟩ := endU (σ' := σ) (μ' := μ) S₂ (u₃.trans u₄)
  refine h _ k₄ h₄ t₄ ((a1.trans l₂).trans a3) (fun b ob e => ?_) ⟨_, rfl, Rd.bool, u₄.ki, ((S₂.up u₃).kb.le u₄.le)⟩
  rcases a4 b ob e with e | e
  · rcases n₂ b ob e with e | e
    · exact a2 b ob e
    · exact .inr e
  · exact .inr e
end
/-- the frame of a call of one argument: a number was drawn for it -/
theorem newEnv1 {M : Model} {A : Around} {E : Value → Shared → Prop} {s : Shared} {scope : Scope} {globals : Addr} {p : PySem.Str} {v : Value} {qual : PySem.Str} {func : Option Addr} {code : Value} {builtins : Addr} {Q : Env → Shared → Prop}
    (hk : scope.kind = .function) (hl : scope.names.lookup p = some .local)
    (hQ : ∀ env, env = newEnv scope s.heap.objs.size globals (cellsFrom (s.heap.objs.size + 1) scope.names []) qual func code none builtins →
      ∀ s', InCallC s env.locals (bindL env.kindOf [(p, v)] fun _ => none) env.cells (bindC env.kindOf [(p, v)] fun _ => none) s' → s.toks + 1 ≤ s'.toks → Q env s') :
    wpAny M A (newFunctionEnv scope globals [] [(p, v)] qual func code none builtins) Q E s := by
  simp only [newFunctionEnv, Option.isSome_none, Bool.false_eq_true, if_false]
  refine wpAny_bind (wpAny_alloc ?_)
  refine wpAny_bind (wpAny_layCells _ (fun name kind cells => by cases hkc : kind == NameKind.cell <;> simp [hkc]) _ _ _ _ ?_)
  have ok := cellsFrom_ok scope.names (s.heap.push { cls := .type "frame", data := .dict #[] }) (s.heap.objs.size + 1) [] ⟨fun _ _ hm => (nomatch hm), List.Pairwise.nil⟩ (by rw [Heap.size_push]; exact Nat.le_refl _)
  rw [Heap.size_push] at ok
  rw [show ({ s with heap := s.heap.push { cls := .type "frame", data := .dict #[] } } : Shared).heap.objs.size = s.heap.objs.size + 1 from Heap.size_push ..]
  have hn := (Heap.Ns.new s.heap (.type "frame")).keeps (pushCells_keeps scope.names (s.heap.push { cls := .type "frame", data := .dict #[] }))
  have keep : ∀ b o, s.heap.get? b = some o → (pushCells (s.heap.push { cls := .type "frame", data := .dict #[] }) scope.names).get? b = some o := fun b o e => pushCells_keeps _ _ b o (Heap.get?_push_of_some _ e)
  have lk : (newEnv scope s.heap.objs.size globals (cellsFrom (s.heap.objs.size + 1) scope.names []) qual func code none builtins).kindOf p = some .local := hl
  have ke : (newEnv scope s.heap.objs.size globals (cellsFrom (s.heap.objs.size + 1) scope.names []) qual func code none builtins).scope.kind = .function := hk
  refine wpAny_bind ?_
  rw [List.forIn_cons]
  refine wpAny_bind (wpAny_bind ?_)
  refine wpAny_storeName_local (env := newEnv scope s.heap.objs.size globals (cellsFrom (s.heap.objs.size + 1) scope.names []) qual func code none builtins) lk hn (fun h' hn' hs' => ?_) (by rw [ke]; rfl)
  refine wpAny_pure ?_
  dsimp only
  rw [List.forIn_nil]
  refine wpAny_pure (wpAny_pure (hQ _ rfl _ ⟨⟨⟨h', _, rfl⟩, ?_, fun b o e => ?_, Nat.le_refl _⟩, fun y c hc => ?_, ok.apart, fun y c hm => (ok.empty y c hm).2⟩ (Nat.le_refl _)))
  · unfold bindL bindL
    rw [if_pos lk]
    exact hn'
  · exact hs'.extBut b o (Nat.ne_of_lt (Heap.lt_size e)) (keep b o e)
  · have h1 := (ok.empty y c (mem_of_lookup hc)).1
    have h2 := (ok.empty y c (mem_of_lookup hc)).2
    unfold bindC bindC
    rw [if_pos lk]
    exact h1.sameBut hs' (Nat.ne_of_gt h2)
section
variable {prog : Program} {w : World} {T : Heap → Prop} {n : Nat}
/-- a def of one argument, called from without: nothing is asked of the numbers drawn -/
theorem entry1 {f : Addr} {oc : Value} {od : Option Addr} {osl : Array (Option Value)} {fd : FuncData} {body : List Stmt} {dd d : D} {p : PySem.Str} {A : Around} {s : Shared} {v : Value} {R : Result → Shared → Prop} {k : Kn} (hTle : TLe T) (ht : T s.heap)
    (ho : s.heap.get? f = some ⟨oc, od, .func fd, osl⟩) (hlim : s.heap.NoLimit) (hcd : s.heap.CodeRec fd.code fd.qualname) (hbody : fd.body = .stmts body) (hok : scopeOk fd [p] = true) (hl : fd.scope.names.lookup p = some .local)
    (hb : bindArgs fd ⟨[v], []⟩ = pure [(p, v)]) (rm : Rm (n + 1) A) (ka : ∀ b o, k.m b = some o → s.heap.get? b = some o) (k1 : k.t = 1) (r : Rd k dd v)
    (hx : ∀ env : Env, env.scope = fd.scope → ExL prog w T n env [(p, dd)] [] body (.ret d))
    (hR : ∀ v' k' h' tk, Le s.heap h' → Rd k' d v' → R (.ok (.ret v')) { s with heap := h', toks := tk }) : codeAny (model prog w) A (.call (.ref f) ⟨[v], []⟩) R s := by
  simp only [scopeOk, Bool.and_eq_true, beq_iff_eq, decide_eq_true_eq, Bool.not_eq_true', List.isEmpty_iff] at hok
  obtain ⟨⟨⟨⟨⟨⟨⟨⟨⟨hk, hco⟩, hgen⟩, hnd⟩, hfree⟩, hclo⟩, hgl⟩, hbl⟩, hpn⟩, hpk⟩ := hok
  refine codeAny_call_function (by have := rm.2.1; omega) ho rfl hco hgen hbody hcd ?_
  rw [hb, hclo]
  refine wpAny_pure (newEnv1 hk hl fun env' he s' x htk => ?_)
  have henv : env' = callEnvC fd s.heap.objs.size f := he
  clear he
  subst henv
  refine ⟨hlim.keeps x.toInCall.keep, codeAny_func ?_⟩
  obtain ⟨h₁, tk, rfl, hk₁⟩ := x.done
  have cells_eq : ∀ y c, (callEnvC fd s.heap.objs.size f).cells.lookup y = some c → (callEnvC fd s.heap.objs.size f).kindOf y = some .cell := fun y c hc => by
    by_cases q : (y, NameKind.cell) ∈ fd.scope.names
    · exact lookup_of_nodup hnd q
    · have := cellsFrom_none fd.scope.names (s.heap.objs.size + 1) [] q rfl
      have hc' : (cellsFrom (s.heap.objs.size + 1) fd.scope.names []).lookup y = some c := hc
      rw [this] at hc'; cases hc'
  have okE : EnvOk (callEnvC fd s.heap.objs.size f) := by
    refine ⟨hk, fun y hy => ?_, fun y c hc => .inl (cells_eq y c hc), hgl, hbl⟩
    rcases hy with hy | hy
    · exact Option.isSome_iff_exists.mp (cellsFrom_some _ _ _ (.inl hy))
    · have hm := mem_of_lookup (hy : fd.scope.names.lookup y = some .free)
      have := List.all_eq_true.mp hfree _ hm
      simp at this
  have lt_of : ∀ y c, (callEnvC fd s.heap.objs.size f).cells.lookup y = some c → s.heap.objs.size < c := fun y c hc => x.above y c (mem_of_lookup hc)
  have nok : ∀ c, s.heap.objs.size ≤ c → s.heap.get? c = Option.none := fun c hc => by
    cases q : s.heap.get? c with
    | none => rfl
    | some o => exact absurd (Heap.lt_size q) (Nat.not_lt.mpr hc)
  have nokk : ∀ c, s.heap.objs.size ≤ c → k.m c = Option.none := fun c hc => by
    cases q : k.m c with
    | none => rfl
    | some o => have := nok c hc; rw [ka _ _ q] at this; cases this
  have S₀ : St T (fun b => s.heap.get? b) k (callEnvC fd s.heap.objs.size f) h₁ tk [(p, dd)] [] := by
    refine ⟨okE, fun g hg => hTle _ _ hg ht, hk₁, ⟨fun b o e => hk₁ _ _ (ka b o e), by rw [k1]; exact Nat.le_refl _, by rw [k1]; exact Nat.le_trans (Nat.le_add_left _ _) htk⟩, ⟨_, x.toInCall.ns, fun y d' hy hd => ?_⟩, fun y c hc => ?_, ⟨nokk _ (Nat.le_refl _), nok _ (Nat.le_refl _)⟩, fun y c hc => ?_, fun y z c hy hz => ?_, fun p hp => nomatch hp⟩
    · obtain ⟨rfl, rfl⟩ := Prod.mk.inj (List.mem_singleton.mp hd)
      exact ⟨v, bindL_get hy (by simp) (List.mem_singleton.mpr rfl), r⟩
    · refine ⟨_, x.cell y c hc, fun d' hd => ?_⟩
      obtain ⟨rfl, rfl⟩ := Prod.mk.inj (List.mem_singleton.mp hd)
      have h1 := cells_eq _ c hc
      have h2 : (callEnvC fd s.heap.objs.size f).kindOf y = some .local := hl
      rw [h2] at h1; cases h1
    · have := lt_of y c hc
      exact ⟨nokk c (Nat.le_of_lt this), nok c (Nat.le_of_lt this), Nat.ne_of_gt this⟩
    · exact name_of_addr x.apart (mem_of_lookup hy) (mem_of_lookup hz)
  refine hx _ rfl _ _ _ k _ _ rm.deeper S₀ fun fl k' h' tk' kl kn ot => ?_
  obtain ⟨v', rfl, rv, ki', pi⟩ := ot
  exact hR v' k' h' tk' pi rv
end
/-- z for y, from the left -/
inductive Rp (y z : List Nat) : List Nat → List Nat → Prop
  | nil : Rp y z [] []
  | hit {l r} : Rp y z l r → Rp y z (y ++ l) (z ++ r)
  | skip {c l r} : ¬ y <+: (c :: l) → Rp y z l r → Rp y z (c :: l) (c :: r)
theorem Rp.det {y z : List Nat} (hy : y ≠ []) : ∀ (n : Nat) {l r r' : List Nat}, l.length ≤ n → Rp y z l r → Rp y z l r' → r = r' := by
  intro n
  induction n with
  | zero =>
    intro l r r' hn h h'
    have : l = [] := List.length_eq_zero_iff.mp (by omega)
    subst this
    have one : ∀ {l r : List Nat}, l = [] → Rp y z l r → r = [] := fun {l r} e h => by
      cases h with
      | nil => rfl
      | hit h => exact absurd (List.append_eq_nil_iff.mp e).1 hy
      | skip _ _ => cases e
    rw [one rfl h, one rfl h']
  | succ n ih =>
    intro l r r' hn h h'
    cases h with
    | nil =>
      generalize e : ([] : List Nat) = l at h'
      cases h' with
      | nil => rfl
      | hit h => exact absurd (List.append_eq_nil_iff.mp e.symm).1 hy
      | skip _ _ => cases e
    | @hit l₁ r₁ h =>
      have hl : 0 < y.length := List.length_pos_iff.mpr hy
      rw [List.length_append] at hn
      generalize e : y ++ l₁ = l at h'
      cases h' with
      | nil => exact absurd (List.append_eq_nil_iff.mp e).1 hy
      | hit h' =>
        have := List.append_cancel_left e
        subst this
        rw [ih (by omega) h h']
      | skip q _ => exact absurd ⟨l₁, e⟩ q
    | @skip c l₁ r₁ q h =>
      generalize e : c :: l₁ = l at h'
      cases h' with
      | nil => cases e
      | @hit l₂ r₂ h' => exact absurd ⟨l₂, e.symm⟩ q
      | skip q' h' =>
        cases e
        simp only [List.length_cons] at hn
        rw [ih (by omega) h h']
/-- what stands behind is not reached -/
theorem Rp.app {y z : List Nat} (hy : y ≠ []) {d : Nat} (hd : d ∉ y) {a a' : List Nat} (h : Rp y z a a') {b b' : List Nat} (hb : b = [] ∨ ∃ t, b = d :: t) (g : Rp y z b b') : Rp y z (a ++ b) (a' ++ b') := by
  induction h with
  | nil => exact g
  | @hit l r h ih => rw [List.append_assoc, List.append_assoc]; exact .hit ih
  | @skip c l r q h ih =>
    refine .skip (fun p => q ?_) ih
    rcases hb with rfl | ⟨t, rfl⟩
    · simpa using p
    · have p' : y <+: (c :: l) ++ d :: t := p
      rcases List.prefix_or_prefix_of_prefix p' (List.prefix_append (c :: l) (d :: t)) with p'' | ⟨u, e⟩
      · exact p''
      · cases u with
        | nil => rw [← e]; simp
        | cons x u =>
          obtain ⟨v, e'⟩ := p'
          rw [← e, List.append_assoc] at e'
          have e2 := List.append_cancel_left e'
          rw [List.cons_append] at e2
          have e3 := (List.cons.inj e2).1
          subst e3
          exact absurd (by rw [← e]; simp) hd
/-- one sign -/
noncomputable def one (c : Nat) (z : List Nat) (d : Nat) : List Nat := if d = c then z else [d]
theorem Rp.one (c : Nat) (z : List Nat) : ∀ l : List Nat, Rp [c] z l (l.flatMap (Mine.one c z))
  | [] => .nil
  | d :: l => by
    rw [List.flatMap_cons]
    by_cases h : d = c
    · subst h
      unfold Mine.one
      rw [if_pos rfl]
      exact Rp.hit (y := [d]) (Rp.one d z l)
    · have : Mine.one c z d = [d] := if_neg h
      rw [this]
      refine Rp.skip (fun p => h ?_) (Rp.one c z l)
      obtain ⟨t, e⟩ := p
      rw [List.cons_append] at e
      exact (List.cons.inj e).1.symm
/-- it is what the text's method gives -/
theorem replace_rp (x y z : PySem.Str) (hy : 1 ≤ y.length) : Rp y.cps.toList z.cps.toList x.cps.toList (Txt.replace x y z).cps.toList := by
  have hyl : y.cps.toList.length = y.length := by simp [Str.length]
  have hxl : x.cps.toList.length = x.length := by simp [Str.length]
  have atp : ∀ k, StrLaws.At x y x.length k ↔ y.cps.toList <+: x.cps.toList.drop k := fun k => by
    unfold StrLaws.At
    rw [StrLaws.subAt_eq, List.prefix_iff_eq_take, hyl]
    constructor
    · rintro ⟨_, h⟩; exact (beq_iff_eq.mp h).symm
    · intro h
      refine ⟨?_, beq_iff_eq.mpr h.symm⟩
      have := congrArg List.length h
      rw [hyl, List.length_take, List.length_drop, hxl] at this
      omega
  have free : ∀ (m a b : Nat) (r : List Nat), b - a = m → a ≤ b → b ≤ x.length → (∀ k, a ≤ k → k < b → ¬ StrLaws.At x y x.length k) → Rp y.cps.toList z.cps.toList (x.cps.toList.drop b) r →
      Rp y.cps.toList z.cps.toList (x.cps.toList.drop a) ((Builtin.Str.strSub x a b).cps.toList ++ r) := by
    intro m
    induction m with
    | zero =>
      intro a b r hm hab hb hn h
      have : a = b := by omega
      subst this
      rw [StrLaws.strSub_toList]
      simpa using h
    | succ m ih =>
      intro a b r hm hab hb hn h
      have ha : a < x.cps.toList.length := by omega
      have e : x.cps.toList.drop a = x.cps.toList[a] :: x.cps.toList.drop (a + 1) := List.drop_eq_getElem_cons ha
      have e2 : (Builtin.Str.strSub x a b).cps.toList = x.cps.toList[a] :: (Builtin.Str.strSub x (a + 1) b).cps.toList := by
        rw [StrLaws.strSub_toList, StrLaws.strSub_toList, e]
        have : b - a = (b - (a + 1)) + 1 := by omega
        rw [this, List.take_succ_cons]
      have nn := hn a (Nat.le_refl _) (by omega)
      rw [atp, e] at nn
      rw [e, e2, List.cons_append]
      exact .skip nn (ih (a + 1) b r (by omega) (by omega) hb (fun k h1 h2 => hn k (by omega) h2) h)
  have last : ∀ a, (∀ k, a ≤ k → ¬ StrLaws.At x y x.length k) → a ≤ x.length → Rp y.cps.toList z.cps.toList (x.cps.toList.drop a) (Builtin.Str.strSub x a x.length).cps.toList := fun a hn ha => by
    have := free (x.length - a) a x.length [] rfl ha (Nat.le_refl _) (fun k h1 _ => hn k h1) (by
      rw [List.drop_of_length_le (by omega)]; exact .nil)
    simpa using this
  have run : ∀ (cuts : List Nat) (a f : Nat), a ≤ x.length → StrLaws.ChainG x y x.length a cuts f → (∀ k, f ≤ k → ¬ StrLaws.At x y x.length k) →
      Rp y.cps.toList z.cps.toList (x.cps.toList.drop a) (Str.join z (StrLaws.partsFrom x y.length a cuts)).cps.toList := by
    intro cuts
    induction cuts with
    | nil =>
      intro a f ha h hn
      have e : f = a := h
      subst e
      exact last f hn ha
    | cons c r ih =>
      intro a f ha h hn
      obtain ⟨hac, hat, hno, hrest⟩ := h
      have hc := hat.1
      have g := ih (c + y.length) f (by omega) hrest hn
      obtain ⟨p, q, e⟩ := StrLaws.partsFrom_ne x y.length (c + y.length) r
      show Rp _ _ _ (Str.join z (Builtin.Str.strSub x a c :: StrLaws.partsFrom x y.length (c + y.length) r)).cps.toList
      rw [e] at g ⊢
      show Rp _ _ _ (Builtin.Str.strSub x a c ++ z ++ Str.join z (p :: q)).cps.toList
      simp only [Str.cps_append, Array.toList_append, List.append_assoc]
      refine free (c - a) a c _ rfl hac (by omega) hno ?_
      have pr := (atp c).mp hat
      obtain ⟨t, ht⟩ := pr
      have et : t = x.cps.toList.drop (c + y.length) := by
        have := congrArg (List.drop y.length) ht
        rw [List.drop_drop, ← hyl, List.drop_left] at this
        rw [this, hyl]
      rw [← ht, et]
      exact .hit g
  obtain ⟨f, hch, hno⟩ := StrLaws.occ_tight x y hy
  have main := run _ 0 f (Nat.zero_le _) hch hno
  rw [List.drop_zero] at main
  unfold Txt.replace
  have h10 : (y.length == 0) = false := by simp; omega
  cases he : (Builtin.Str.occurrences x y 0 x.length (x.length + 1)).isEmpty
  · simp only [h10, Bool.false_and, Bool.or_false, Bool.false_eq_true, if_false]
    rw [StrLaws.glued_eq_join, StrLaws.partsBetween_eq]
    exact main
  · simp only [Bool.true_or, if_true]
    have e := List.isEmpty_iff.mp he
    rw [e] at main
    have : (Str.join z (StrLaws.partsFrom x y.length 0 [])).cps.toList = x.cps.toList := by
      show (Builtin.Str.strSub x 0 x.length).cps.toList = _
      rw [StrLaws.strSub_toList, Nat.sub_zero, List.drop_zero, ← hxl, List.take_length]
    rw [this] at main
    exact main
theorem replace_is {x y z : PySem.Str} {r : List Nat} (hy : y.cps.toList ≠ []) (h : Rp y.cps.toList z.cps.toList x.cps.toList r) : Txt.replace x y z = ⟨r.toArray⟩ := by
  have hl : 1 ≤ y.length := by
    have := List.length_pos_iff.mpr hy
    have e : y.cps.toList.length = y.length := by simp [Str.length]
    omega
  have := Rp.det hy _ (Nat.le_refl _) (replace_rp x y z hl) h
  apply Str.ext'
  apply Array.toList_inj.mp
  rw [this]
theorem str_ext {x y : PySem.Str} (h : x.cps.toList = y.cps.toList) : x = y := by
  obtain ⟨a⟩ := x; obtain ⟨b⟩ := y
  have : a = b := Array.toList_inj.mp h
  rw [this]
theorem cat_cps (x y : PySem.Str) : (x ++ y).cps.toList = x.cps.toList ++ y.cps.toList := by
  show (x.cps ++ y.cps).toList = _
  simp
theorem len_cps (x : PySem.Str) : x.length = x.cps.toList.length := by simp [Str.length]
theorem empty_cps : (Str.ofString "").cps.toList = [] := by decide +kernel
theorem strJoin_cps : ∀ xs : List PySem.Str, (Str.join (Str.ofString "") xs).cps.toList = xs.flatMap (·.cps.toList)
  | [] => rfl
  | [x] => by show x.cps.toList = _; simp
  | x :: y :: r => by
    show (x ++ (Str.ofString "") ++ Str.join _ (y :: r)).cps.toList = _
    rw [cat_cps, cat_cps, empty_cps, List.append_nil, strJoin_cps (y :: r)]
    rfl
theorem join_cps (xs : List PySem.Str) : (Txt.join (Str.ofString "") xs).cps.toList = xs.flatMap (·.cps.toList) := by
  unfold Txt.join
  rw [StrLaws.glued_eq_join]
  exact strJoin_cps xs
theorem joinOk_small {xs : List PySem.Str} {B : Nat} (hB : ∀ x ∈ xs, x.length ≤ B) (h : xs.length * B + xs.length ≤ 1000000) : JoinOk (Str.ofString "") xs = true := by
  refine joinOk_of_weight ?_ (by decide +kernel)
  have : (xs.map (·.length)).sum ≤ xs.length * B := by
    clear h
    induction xs with
    | nil => simp
    | cons x xs ih =>
      have h1 := hB x List.mem_cons_self
      have h2 := ih fun y hy => hB y (List.mem_cons_of_mem _ hy)
      rw [List.map_cons, List.sum_cons, List.length_cons, Nat.add_mul]
      omega
  omega
theorem mulSp {i : Nat} (h : i ≤ 2) : (Txt.mul (Str.ofString " ") (i : Int)).cps.toList = List.replicate i 32 := by
  have : i = 0 ∨ i = 1 ∨ i = 2 := by omega
  rcases this with rfl | rfl | rfl <;> decide +kernel
theorem mulSpOk {i : Nat} (h : i ≤ 2) : MulOk (Str.ofString " ") (i : Int) := by
  have : i = 0 ∨ i = 1 ∨ i = 2 := by omega
  rcases this with rfl | rfl | rfl
  · refine ⟨by decide +kernel, fun q => absurd (by decide) q, fun q => absurd (by decide) q⟩
  · refine ⟨by decide +kernel, fun _ q => absurd q (by decide +kernel), fun _ q => absurd q (by decide +kernel)⟩
  · refine ⟨by decide +kernel, fun _ _ => by decide +kernel, fun _ _ => by decide +kernel⟩
/-- the program's statements, by place -/
noncomputable def stAt (l : List Stmt) (i : Nat) : Stmt := match l.drop i with
  | st :: _ => st
  | [] => .Pass ⟨0, 0, 0, 0⟩
noncomputable def topSts : List Stmt := PySem.Challenge.pw_tl0037_01.main.body
noncomputable def clsSts : List Stmt := match stAt topSts 12 with
  | .ClassDef _ _ _ b .. => b
  | _ => []
noncomputable def fnD (st : Stmt) (q : PySem.Str) (md : Value) (c : Addr) : FuncData := match st with
  | .FunctionDef name args body _ _ _ scope _ _ _ => { name := name, qualname := q, params := args, body := .stmts body, scope := scope, globals := 3, closure := [], defaults := .none, kwdefaults := .none, pyModule := md, code := .ref c }
  | _ => default
noncomputable def KF (P : Params) : Frag := [
  (2, { cls := .none, data := .dict #[] }),
  (3, { cls := .type "dict", data := .dict #[{ hash := PyData.keyHash P (Str.ofString "__name__"), key := .str (Str.ofString "__name__") 165, val := .str (Str.ofString "law_tl0037_01") 371 }, { hash := PyData.keyHash P (Str.ofString "__doc__"), key := .str (Str.ofString "__doc__") 166, val := .none }, { hash := PyData.keyHash P (Str.ofString "__package__"), key := .str (Str.ofString "__package__") 167, val := .none }, { hash := PyData.keyHash P (Str.ofString "__loader__"), key := .str (Str.ofString "__loader__") 168, val := .builtin "__main__.__loader__#opaque" }, { hash := PyData.keyHash P (Str.ofString "__spec__"), key := .str (Str.ofString "__spec__") 169, val := .none }, { hash := PyData.keyHash P (Str.ofString "__annotations__"), key := .str (Str.ofString "__annotations__") 170, val := .ref 6 }, { hash := PyData.keyHash P (Str.ofString "__builtins__"), key := .str (Str.ofString "__builtins__") 171, val := .ref 4 }, { hash := PyData.keyHash P (Str.ofString "__file__"), key := .str (Str.ofString "__file__") 173, val := .str (Str.ofString "/claim/cut.py") 172 }, { hash := PyData.keyHash P (Str.ofString "__cached__"), key := .str (Str.ofString "__cached__") 174, val := .none }, { hash := PyData.keyHash P (Str.ofString "_wall"), key := .str (Str.ofString "_wall") 193, val := .ref 21 }, { hash := PyData.keyHash P (Str.ofString "_raise_serialization_error"), key := .str (Str.ofString "_raise_serialization_error") 202, val := .ref 28 }, { hash := PyData.keyHash P (Str.ofString "_escape_cdata"), key := .str (Str.ofString "_escape_cdata") 209, val := .ref 35 }, { hash := PyData.keyHash P (Str.ofString "_escape_attrib"), key := .str (Str.ofString "_escape_attrib") 216, val := .ref 42 }, { hash := PyData.keyHash P (Str.ofString "_escape_attrib_html"), key := .str (Str.ofString "_escape_attrib_html") 223, val := .ref 49 }, { hash := PyData.keyHash P (Str.ofString "_escape_cdata_c14n"), key := .str (Str.ofString "_escape_cdata_c14n") 230, val := .ref 56 }, { hash := PyData.keyHash P (Str.ofString "_escape_attrib_c14n"), key := .str (Str.ofString "_escape_attrib_c14n") 237, val := .ref 63 }, { hash := PyData.keyHash P (Str.ofString "rgb_to_hls"), key := .str (Str.ofString "rgb_to_hls") 258, val := .ref 70 }, { hash := PyData.keyHash P (Str.ofString "rgb_to_hsv"), key := .str (Str.ofString "rgb_to_hsv") 276, val := .ref 77 }, { hash := PyData.keyHash P (Str.ofString "Whitespace"), key := .str (Str.ofString "Whitespace") 370, val := .ref 139 }, { hash := PyData.keyHash P (Str.ofString "_law_written"), key := .str (Str.ofString "_law_written") 380, val := .ref 150 }, { hash := PyData.keyHash P (Str.ofString "_law_names"), key := .str (Str.ofString "_law_names") 388, val := .ref 157 }, { hash := PyData.keyHash P (Str.ofString "_law_fits"), key := .str (Str.ofString "_law_fits") 394, val := .ref 162 }, { hash := PyData.keyHash P (Str.ofString "_law_share"), key := .str (Str.ofString "_law_share") 400, val := .ref 167 }, { hash := PyData.keyHash P (Str.ofString "_law_lead"), key := .str (Str.ofString "_law_lead") 406, val := .ref 172 }, { hash := PyData.keyHash P (Str.ofString "law"), key := .str (Str.ofString "law") 412, val := .ref 177 }] 25 }),
  (34, { cls := .type "code", data := .fields #[.str (Str.ofString "_escape_cdata") 203, .str (Str.ofString "_escape_cdata") 204, .str (Str.ofString "/claim/cut.py") 205, .int 7 0, .int 1 0, .int 0 0, .int 0 0, .int 3 0, .ref 29, .bool true, .int 181 0, .ref 30, .none, .ref 31, .ref 32, .ref 33, .int 207 0, .int 7 0, .str (Str.ofString "/claim/cut.py") 208] }),
  (35, { cls := .type "function", data := .func (fnD (stAt topSts 3) (Str.ofString "_escape_cdata") (.str (Str.ofString "cpy313.xml.etree.ElementTree") 194) 34) }),
  (41, { cls := .type "code", data := .fields #[.str (Str.ofString "_escape_attrib") 210, .str (Str.ofString "_escape_attrib") 211, .str (Str.ofString "/claim/cut.py") 212, .int 18 0, .int 1 0, .int 0 0, .int 0 0, .int 3 0, .ref 36, .bool true, .int 181 0, .ref 37, .none, .ref 38, .ref 39, .ref 40, .int 214 0, .int 18 0, .str (Str.ofString "/claim/cut.py") 215] }),
  (42, { cls := .type "function", data := .func (fnD (stAt topSts 4) (Str.ofString "_escape_attrib") (.str (Str.ofString "cpy313.xml.etree.ElementTree") 194) 41) }),
  (48, { cls := .type "code", data := .fields #[.str (Str.ofString "_escape_attrib_html") 217, .str (Str.ofString "_escape_attrib_html") 218, .str (Str.ofString "/claim/cut.py") 219, .int 37 0, .int 1 0, .int 0 0, .int 0 0, .int 3 0, .ref 43, .bool true, .int 181 0, .ref 44, .none, .ref 45, .ref 46, .ref 47, .int 221 0, .int 37 0, .str (Str.ofString "/claim/cut.py") 222] }),
  (49, { cls := .type "function", data := .func (fnD (stAt topSts 5) (Str.ofString "_escape_attrib_html") (.str (Str.ofString "cpy313.xml.etree.ElementTree") 194) 48) }),
  (55, { cls := .type "code", data := .fields #[.str (Str.ofString "_escape_cdata_c14n") 224, .str (Str.ofString "_escape_cdata_c14n") 225, .str (Str.ofString "/claim/cut.py") 226, .int 48 0, .int 1 0, .int 0 0, .int 0 0, .int 3 0, .ref 50, .bool true, .int 181 0, .ref 51, .none, .ref 52, .ref 53, .ref 54, .int 228 0, .int 48 0, .str (Str.ofString "/claim/cut.py") 229] }),
  (56, { cls := .type "function", data := .func (fnD (stAt topSts 6) (Str.ofString "_escape_cdata_c14n") (.str (Str.ofString "cpy313.xml.etree.ElementTree") 194) 55) }),
  (62, { cls := .type "code", data := .fields #[.str (Str.ofString "_escape_attrib_c14n") 231, .str (Str.ofString "_escape_attrib_c14n") 232, .str (Str.ofString "/claim/cut.py") 233, .int 61 0, .int 1 0, .int 0 0, .int 0 0, .int 3 0, .ref 57, .bool true, .int 181 0, .ref 58, .none, .ref 59, .ref 60, .ref 61, .int 235 0, .int 61 0, .str (Str.ofString "/claim/cut.py") 236] }),
  (63, { cls := .type "function", data := .func (fnD (stAt topSts 7) (Str.ofString "_escape_attrib_c14n") (.str (Str.ofString "cpy313.xml.etree.ElementTree") 194) 62) }),
  (69, { cls := .type "code", data := .fields #[.str (Str.ofString "rgb_to_hls") 240, .str (Str.ofString "rgb_to_hls") 241, .str (Str.ofString "/claim/cut.py") 242, .int 79 0, .int 3 0, .int 0 0, .int 0 0, .int 3 0, .ref 64, .bool true, .int 181 0, .ref 65, .none, .ref 66, .ref 67, .ref 68, .int 256 0, .int 79 0, .str (Str.ofString "/claim/cut.py") 257] }),
  (70, { cls := .type "function", data := .func (fnD (stAt topSts 9) (Str.ofString "rgb_to_hls") (.str (Str.ofString "cpy313.colorsys") 238) 69) }),
  (76, { cls := .type "code", data := .fields #[.str (Str.ofString "rgb_to_hsv") 259, .str (Str.ofString "rgb_to_hsv") 260, .str (Str.ofString "/claim/cut.py") 261, .int 102 0, .int 3 0, .int 0 0, .int 0 0, .int 3 0, .ref 71, .bool true, .int 181 0, .ref 72, .none, .ref 73, .ref 74, .ref 75, .int 274 0, .int 102 0, .str (Str.ofString "/claim/cut.py") 275] }),
  (77, { cls := .type "function", data := .func (fnD (stAt topSts 10) (Str.ofString "rgb_to_hsv") (.str (Str.ofString "cpy313.colorsys") 238) 76) }),
  (93, { cls := .type "code", data := .fields #[.str (Str.ofString "__init__") 296, .str (Str.ofString "Whitespace.__init__") 297, .str (Str.ofString "/claim/cut.py") 298, .int 125 0, .int 2 0, .int 0 0, .int 0 0, .int 3 0, .ref 88, .bool true, .int 181 0, .ref 89, .none, .ref 90, .ref 91, .ref 92, .int 308 0, .int 125 0, .str (Str.ofString "/claim/cut.py") 309] }),
  (94, { cls := .type "function", data := .func (fnD (stAt clsSts 1) (Str.ofString "Whitespace.__init__") (.str (Str.ofString "cpy313.tabnanny") 277) 93) }),
  (114, { cls := .type "code", data := .fields #[.str (Str.ofString "equal") 326, .str (Str.ofString "Whitespace.equal") 327, .str (Str.ofString "/claim/cut.py") 328, .int 154 0, .int 2 0, .int 0 0, .int 0 0, .int 3 0, .ref 109, .bool true, .int 181 0, .ref 110, .none, .ref 111, .ref 112, .ref 113, .int 331 0, .int 154 0, .str (Str.ofString "/claim/cut.py") 332] }),
  (115, { cls := .type "function", data := .func (fnD (stAt clsSts 4) (Str.ofString "Whitespace.equal") (.str (Str.ofString "cpy313.tabnanny") 277) 114) }),
  (138, { cls := .type "dict", data := .dict #[{ hash := PyData.keyHash P (Str.ofString "__module__"), key := .str (Str.ofString "__module__") 286, val := .str (Str.ofString "cpy313.tabnanny") 277 }, { hash := PyData.keyHash P (Str.ofString "__firstlineno__"), key := .str (Str.ofString "__firstlineno__") 290, val := .int 122 289 }, { hash := PyData.keyHash P (Str.ofString "S"), key := .str (Str.ofString "S") 294, val := .str (Str.ofString " ") 292 }, { hash := PyData.keyHash P (Str.ofString "T"), key := .str (Str.ofString "T") 295, val := .str (Str.ofString "\t") 293 }, { hash := PyData.keyHash P (Str.ofString "__init__"), key := .str (Str.ofString "__init__") 310, val := .ref 94 }, { hash := PyData.keyHash P (Str.ofString "longest_run_of_spaces"), key := .str (Str.ofString "longest_run_of_spaces") 317, val := .ref 101 }, { hash := PyData.keyHash P (Str.ofString "indent_level"), key := .str (Str.ofString "indent_level") 325, val := .ref 108 }, { hash := PyData.keyHash P (Str.ofString "equal"), key := .str (Str.ofString "equal") 333, val := .ref 115 }, { hash := PyData.keyHash P (Str.ofString "not_equal_witness"), key := .str (Str.ofString "not_equal_witness") 341, val := .ref 122 }, { hash := PyData.keyHash P (Str.ofString "less"), key := .str (Str.ofString "less") 349, val := .ref 129 }, { hash := PyData.keyHash P (Str.ofString "not_less_witness"), key := .str (Str.ofString "not_less_witness") 357, val := .ref 136 }, { hash := PyData.keyHash P (Str.ofString "__static_attributes__"), key := .str (Str.ofString "__static_attributes__") 363, val := .ref 137 }, { hash := PyData.keyHash P (Str.ofString "__dict__"), key := .str (Str.ofString "__dict__") 365, val := .ref 140 }, { hash := PyData.keyHash P (Str.ofString "__weakref__"), key := .str (Str.ofString "__weakref__") 367, val := .ref 141 }, { hash := PyData.keyHash P (Str.ofString "__doc__"), key := .str (Str.ofString "__doc__") 368, val := .none }] 4 }),
  (139, { cls := .type "type", data := .cls { name := Str.ofString "Whitespace", bases := [.type "object"], mro := [.ref 139, .type "object"], ns := 138, qualname := Str.ofString "Whitespace" }, slots := #[none, none, some (.str (Str.ofString "Whitespace") 279), some (.str (Str.ofString "Whitespace") 287), some (.builtin "object.__new__"), some (.bool true)] }),
  (149, { cls := .type "code", data := .fields #[.str (Str.ofString "_law_written") 373, .str (Str.ofString "_law_written") 374, .str (Str.ofString "/claim/cut.py") 375, .int 166 0, .int 2 0, .int 0 0, .int 0 0, .int 3 0, .ref 144, .bool true, .int 181 0, .ref 145, .none, .ref 146, .ref 147, .ref 148, .int 378 0, .int 166 0, .str (Str.ofString "/claim/cut.py") 379] }),
  (150, { cls := .type "function", data := .func (fnD (stAt topSts 14) (Str.ofString "_law_written") (.str (Str.ofString "law_tl0037_01") 371) 149) }),
  (156, { cls := .type "code", data := .fields #[.str (Str.ofString "_law_names") 381, .str (Str.ofString "_law_names") 382, .str (Str.ofString "/claim/cut.py") 383, .int 176 0, .int 1 0, .int 0 0, .int 0 0, .int 3 0, .ref 151, .bool true, .int 181 0, .ref 152, .none, .ref 153, .ref 154, .ref 155, .int 386 0, .int 176 0, .str (Str.ofString "/claim/cut.py") 387] }),
  (157, { cls := .type "function", data := .func (fnD (stAt topSts 15) (Str.ofString "_law_names") (.str (Str.ofString "law_tl0037_01") 371) 156) }),
  (161, { cls := .type "code", data := .fields #[.str (Str.ofString "_law_fits") 389, .str (Str.ofString "_law_fits") 390, .str (Str.ofString "/claim/cut.py") 391, .int 179 0, .int 5 0, .int 0 0, .int 0 0, .int 3 0, .ref 158, .bool true, .int 181 0, .ref 159, .none, .none, .none, .ref 160, .int 392 0, .int 179 0, .str (Str.ofString "/claim/cut.py") 393] }),
  (162, { cls := .type "function", data := .func (fnD (stAt topSts 16) (Str.ofString "_law_fits") (.str (Str.ofString "law_tl0037_01") 371) 161) }),
  (166, { cls := .type "code", data := .fields #[.str (Str.ofString "_law_share") 395, .str (Str.ofString "_law_share") 396, .str (Str.ofString "/claim/cut.py") 397, .int 193 0, .int 3 0, .int 0 0, .int 0 0, .int 3 0, .ref 163, .bool true, .int 181 0, .ref 164, .none, .none, .none, .ref 165, .int 398 0, .int 193 0, .str (Str.ofString "/claim/cut.py") 399] }),
  (167, { cls := .type "function", data := .func (fnD (stAt topSts 17) (Str.ofString "_law_share") (.str (Str.ofString "law_tl0037_01") 371) 166) }),
  (171, { cls := .type "code", data := .fields #[.str (Str.ofString "_law_lead") 401, .str (Str.ofString "_law_lead") 402, .str (Str.ofString "/claim/cut.py") 403, .int 203 0, .int 4 0, .int 0 0, .int 0 0, .int 3 0, .ref 168, .bool true, .int 181 0, .ref 169, .none, .none, .none, .ref 170, .int 404 0, .int 203 0, .str (Str.ofString "/claim/cut.py") 405] }),
  (172, { cls := .type "function", data := .func (fnD (stAt topSts 18) (Str.ofString "_law_lead") (.str (Str.ofString "law_tl0037_01") 371) 171) }),
  (176, { cls := .type "code", data := .fields #[.str (Str.ofString "law") 407, .str (Str.ofString "law") 408, .str (Str.ofString "/claim/cut.py") 409, .int 205 0, .int 1 0, .int 0 0, .int 0 0, .int 3 0, .ref 173, .bool true, .int 181 0, .ref 174, .none, .none, .none, .ref 175, .int 410 0, .int 205 0, .str (Str.ofString "/claim/cut.py") 411] }),
  (177, { cls := .type "function", data := .func (fnD (stAt topSts 19) (Str.ofString "law") (.str (Str.ofString "law_tl0037_01") 371) 176) })]
/-- the run of the top on a tree of objects -/
noncomputable def topRunT (tb : String → Option Builtin) (p : Program) (w : World) (n₀ : Nat) (ann : Option Value) : Nat → SharedT → Thread → Option SharedT
  | 0, _, _ => none
  | n + 1, s, t => match through t with
    | true => some s
    | false => match stepOk n₀ ann t with
      | false => none
      | true => match stepT (denote tb) p w s t with
        | some (s', t') => topRunT tb p w n₀ ann n s' t'
        | none => none
theorem topRunT_spec {tb : String → Option Builtin} {p : Program} {w : World} {n₀ : Nat} {ann : Option Value} : ∀ {n : Nat} {s s' : SharedT} {t : Thread}, topRunT tb p w n₀ ann n s t = some s' → topRun tb p w n₀ ann n s.abs t = some s'.abs
  | 0, _, _, _, h => by cases h
  | n + 1, s, s', t, h => by
    unfold topRunT at h
    unfold topRun
    cases he : through t with
    | true => rw [he] at h; cases h; rfl
    | false =>
      rw [he] at h
      cases hk : stepOk n₀ ann t with
      | false => rw [hk] at h; cases h
      | true =>
        rw [hk] at h
        cases hs : stepT (denote tb) p w s t with
        | none => rw [hs] at h; cases h
        | some r => obtain ⟨s₂, t₂⟩ := r; rw [hs] at h; rw [stepT_spec hs]; exact topRunT_spec h
noncomputable def putAll : List Obj → Nat → BT → BT
  | [], _, t => t
  | o :: r, n, t => putAll r (n + 1) (t.ins n o)
noncomputable def s0T (P : Params) (os : OsState) : SharedT := ⟨putAll (boot_heap P).objs.toList 0 .nil, 11, {}, Array.mk [], boot_drawn, boot_toks, os⟩
/-- the head, from a run on a tree of objects and from what is looked at behind it -/
theorem left_of_tree {p q : Program} {loose : List PySem.Str} {Xt : Shared → Bool} {α : Type} {Yf : Shared → α} {Ya : World → α} {N : Nat} {g0 : Bool} {S : Params → OsState → SharedT} {H : Params → Heap} {gs : Array GenState} {d : Drawn} {k m : Nat} {ann : Option Value}
    (ho : ∀ w : World, (fencedOpening treeTable p w N).map (fun s => (s.heap, s.gens, s.drawn, s.toks)) = some (H w.params, gs, d, k))
    (hs : ∀ w : World, ((H w.params).isNs mainGlobals && gs.size == 0, (H w.params).objs.size, (H w.params).nsMap mainGlobals "__annotations__") = (true, m, ann))
    (ha : ∀ P os, (S P os).abs = ⟨H P, gs, d, k, os⟩)
    (hr : ∀ (w : World) (os : OsState), (topRunT treeTable p w m ann N (S w.params os) (topStub p)).map (fun s => ((staticsOk (importedModules p.main.body) (H w.params) s.abs.heap && namesBound p s.abs.heap && gensDone s.abs && laidKept (H w.params) s.abs.heap),
        openSeen q loose (importedModules p.main.body) Xt g0 s.abs, Yf s.abs)) = some (true, openGood q loose, Ya w)) : LeftO p q loose Xt Yf Ya N g0 := by
  intro w
  have h1 := ho w
  have h2 := hs w
  cases hf : fencedOpening treeTable p w N with
  | none => rw [hf] at h1; cases h1
  | some s =>
    obtain ⟨h, g, d', k', os⟩ := s
    rw [hf] at h1
    injection h1 with h1
    injection h1 with e1 h1
    injection h1 with e2 h1
    injection h1 with e3 e4
    dsimp only at e1 e2 e3 e4
    subst e1 e2 e3 e4
    injection h2 with z1 h2
    injection h2 with z2 z3
    have h3 := hr w os
    cases ht : topRunT treeTable p w m ann N (S w.params os) (topStub p) with
    | none => rw [ht] at h3; cases h3
    | some t =>
      rw [ht] at h3
      injection h3 with h3
      injection h3 with l1 h3
      injection h3 with l2 l3
      have e := topRunT_spec ht
      rw [ha] at e
      have tf : topFrom treeTable p w N ⟨H w.params, g, d', k', os⟩ = some t.abs := by
        simp only [topFrom, z1, z2, z3, e, Option.bind_some, l1]
      rw [openEnds, hf, Option.bind_some, tf, Option.map_some, l2, l3]
/-- the program with the statements that the view keeps -/
noncomputable def q0 : Program := view PySem.Challenge.pw_tl0037_01 [0, 2, 3, 4, 5, 6, 7, 9, 10, 12, 14, 15, 16, 17, 18, 19]
noncomputable def lo0 : List PySem.Str := [Str.ofString "Whitespace"]
noncomputable def X0 (s : Shared) : Bool := xlAt q0 [] s && recOk (RowW.records (OpenRow.toRowW PySem.Challenge.rw_tl0037_01.row)) s
noncomputable def as0 : List Addr := [2, 3, 34, 35, 41, 42, 48, 49, 55, 56, 62, 63, 69, 70, 76, 77, 93, 94, 114, 115, 138, 139, 149, 150, 156, 157, 161, 162, 166, 167, 171, 172, 176, 177]
noncomputable def Yf0 (s : Shared) : List (Option Obj) := as0.map s.heap.get?
noncomputable def Ya0 (w : World) : List (Option Obj) := (KF w.params).map fun p => some p.2
/-- the top's run on the tree, and what is looked at behind it -/
noncomputable def run0 (w : World) (os : OsState) := (topRunT treeTable PySem.Challenge.pw_tl0037_01 w 11 (some (.ref 6)) 2062 (s0T w.params os) (topStub PySem.Challenge.pw_tl0037_01)).map (fun s => ((staticsOk (importedModules PySem.Challenge.pw_tl0037_01.main.body) (boot_heap w.params) s.abs.heap && namesBound PySem.Challenge.pw_tl0037_01 s.abs.heap && gensDone s.abs && laidKept (boot_heap w.params) s.abs.heap),
        openSeen q0 lo0 (importedModules PySem.Challenge.pw_tl0037_01.main.body) X0 true s.abs, Yf0 s.abs))
noncomputable def good0 (w : World) := some (true, openGood q0 lo0, Ya0 w)
noncomputable def yes {α : Sort _} (_ : α) : Bool := true
/-- has the library's quick twins of run0 and good0 made -/
theorem prime0 : (yes run0 && yes good0) = true := by k_qdec
theorem runF : ∀ (w : World) (os : OsState), PySem.W.Fast.tw13864702844650992941 (w.withFollow "special-get-raises" false) os = PySem.W.Fast.tw10266625884009516012 (w.withFollow "special-get-raises" false) := by
  intro w os; kernel_rfl
theorem runT : ∀ (w : World) (os : OsState), PySem.W.Fast.tw13864702844650992941 (w.withFollow "special-get-raises" true) os = PySem.W.Fast.tw10266625884009516012 (w.withFollow "special-get-raises" true) := by
  intro w os; kernel_rfl
theorem runs (w : World) : ∀ os, run0 w os = good0 w :=
  byRow2 "special-get-raises" (P := fun w => ∀ os, run0 w os = good0 w)
    (fun w os => ((congrFun (congrFun PySem.W.Fast.te13864702844650992941 _) os).trans (runF w os)).trans (congrFun PySem.W.Fast.te10266625884009516012 _).symm)
    (fun w os => ((congrFun (congrFun PySem.W.Fast.te13864702844650992941 _) os).trans (runT w os)).trans (congrFun PySem.W.Fast.te10266625884009516012 _).symm) w
theorem left0 : LeftO PySem.Challenge.pw_tl0037_01 q0 lo0 X0 Yf0 Ya0 2062 true :=
  left_of_tree (S := s0T) (H := boot_heap) (gs := Array.mk []) (d := boot_drawn) (k := boot_toks) (m := 11) (ann := some (.ref 6))
    (boot_open (by kernel_rfl) (by kernel_rfl) (fun s => fenceModules_id _ (by kernel_rfl) s)) (fun w => by kernel_rfl) (fun P os => by kernel_rfl) runs
noncomputable def dLaw : DefRec := match stAt topSts 19 with
  | .FunctionDef name args body _ _ _ scope _ _ pos => ⟨name, args, body, scope, pos⟩
  | _ => ⟨⟨#[]⟩, default, [], default, default⟩
theorem ref_eq {mg : PySem.Str → Option Value} {x : PySem.Str} {a b : Addr} (h : mg x = some (.ref a)) (h' : mg x = some (.ref b)) : b = a := by
  rw [h] at h'; cases h'; rfl
/-- the steps of an escape -/
noncomputable def escL : List (Nat × PySem.Str) → PySem.Str → PySem.Str
  | [], x => x
  | p :: r, x => escL r (Txt.replace x ⟨#[p.1]⟩ p.2)
/-- what a sign becomes -/
noncomputable def escC : List (Nat × PySem.Str) → Nat → List Nat
  | [], c => [c]
  | p :: r, c => (one p.1 p.2.cps.toList c).flatMap (escC r)
theorem escL_is : ∀ (ps : List (Nat × PySem.Str)) (x : PySem.Str), (escL ps x).cps.toList = x.cps.toList.flatMap (escC ps)
  | [], x => by show x.cps.toList = x.cps.toList.flatMap fun c => [c]; simp
  | p :: r, x => by
    show (escL r _).cps.toList = _
    rw [escL_is r, replace_is (x := x) (y := ⟨#[p.1]⟩) (z := p.2) (by simp) (Rp.one p.1 p.2.cps.toList x.cps.toList)]
    show (List.flatMap (one p.1 p.2.cps.toList) x.cps.toList).flatMap (escC r) = _
    rw [List.flatMap_assoc]
    rfl

section
variable {prog : Program} {w : World} {T : Heap → Prop} {n : Nat} {env : Env}
theorem escStep {a a' b : PySem.Str} {c : Nat} {x : PySem.Str} {k₁ k₂ k₃ p₀ p₁ p₂ p₃ p₄ p₅ p₆ p₇ p₈ p₉ p₁₀} (hn : nameOk env "text" = true) (hs : storeOkE env "text" = true) (ha : a' = a) (he : a = ⟨#[c]⟩) (hab : (a == b) = false) (hx : x.length ≤ 1000) (hb : b.length ≤ 1000) (hl : (p₄.endLine == p₇.line) = true)
    (hst : starEach [Expr.Constant (.str a') k₂ p₅, .Constant (.str b) k₃ p₆] env = [(false, eval (.Constant (.str a') k₂ p₅) env), (false, eval (.Constant (.str b) k₃ p₆) env)] := by rfl)
    (hba : attributeBase (.Name "text" p₃) "replace" env (eval (.Name "text" p₃) env) = eval (.Name "text" p₃) env := by rfl) :
    ExS prog w T n env [("text", .str x)] [] (.If (.Compare (.Constant (.str a) k₁ p₀) [.In] [.Name "text" p₂] p₈) [.Assign [.Name "text" p₉] (.Call (.Attribute (.Name "text" p₃) "replace" p₄) [.Constant (.str a') k₂ p₅, .Constant (.str b) k₃ p₆] [] p₇) p₁₀] [] p₁)
      (.next [("text", .str (Txt.replace x ⟨#[c]⟩ b))] []) := by
  subst ha; rw [← he]
  refine ExS.ifs (c := Txt.contains x a') (EvT.cmp rfl EvE.cStr (EvE.name hn (List.Mem.head _)) CmpR.inS) (fun hc => ?_) (fun hc => ?_)
  · refine ExL.cons (ExTree.eqO (ExS.asg hs rfl (EvE.replace hba (by rw [hst]; rfl) hl (by rw [hst]; rfl) (EvE.name hn (List.Mem.head _)) EvE.cStrT EvN.cStr hab hx hb)) ?_) ExL.nil
    have : drp ("text" : PySem.Str) [(("text" : PySem.Str), D.str x)] = [] := by unfold drp; simp
    rw [this]
  · rw [Txt.replace_same hc]
    exact ExL.nil
end

theorem escC_other : ∀ (ps : List (Nat × PySem.Str)) (c : Nat), c ∉ ps.map (·.1) → escC ps c = [c]
  | [], c, _ => rfl
  | p :: r, c, h => by
    simp only [List.map_cons, List.mem_cons, not_or] at h
    show (one p.1 p.2.cps.toList c).flatMap (escC r) = [c]
    unfold one
    rw [if_neg h.1, List.flatMap_singleton, escC_other r c h.2]
noncomputable def escOk (ps : List (Nat × PySem.Str)) : Bool := ps.all fun p => (escC ps p.1).length ≤ 8
theorem escC_le {ps : List (Nat × PySem.Str)} (h : escOk ps = true) (c : Nat) : (escC ps c).length ≤ 8 := by
  by_cases hc : c ∈ ps.map (·.1)
  · obtain ⟨p, hp, rfl⟩ := List.mem_map.mp hc
    have := List.all_eq_true.mp h p hp
    simpa using this
  · rw [escC_other ps c hc]; simp
theorem flat_le {f : Nat → List Nat} {B : Nat} (h : ∀ c, (f c).length ≤ B) : ∀ l : List Nat, (l.flatMap f).length ≤ l.length * B
  | [] => by simp
  | c :: l => by
    have := flat_le h l
    have := h c
    rw [List.flatMap_cons, List.length_append, List.length_cons, Nat.add_mul, Nat.one_mul]
    omega
theorem escLen {x : PySem.Str} (ps : List (Nat × PySem.Str)) (hx : x.length ≤ 100) (h : escOk ps = true) : (escL ps x).length ≤ 1000 := by
  have e : ∀ y : PySem.Str, y.length = y.cps.toList.length := fun y => by simp [Str.length]
  rw [e, escL_is]
  have := flat_le (escC_le h) x.cps.toList
  rw [← e] at this
  omega

theorem bind1 {fd : FuncData} {p : PySem.Str} (h : ∀ v, bindArgs fd ⟨[v], []⟩ = pure [(p, v)]) : ∀ vs : List Value, vs.length = [p].length → bindArgs fd ⟨vs, []⟩ = pure ([p].zip vs)
  | [v], _ => h v
theorem bind2 {fd : FuncData} {p q : PySem.Str} (h : ∀ v u, bindArgs fd ⟨[v, u], []⟩ = pure [(p, v), (q, u)]) : ∀ vs : List Value, vs.length = [p, q].length → bindArgs fd ⟨vs, []⟩ = pure ([p, q].zip vs)
  | [v, u], _ => h v u
theorem bind3 {fd : FuncData} {p q r : PySem.Str} (h : ∀ v u x, bindArgs fd ⟨[v, u, x], []⟩ = pure [(p, v), (q, u), (r, x)]) : ∀ vs : List Value, vs.length = [p, q, r].length → bindArgs fd ⟨vs, []⟩ = pure ([p, q, r].zip vs)
  | [v, u, x], _ => h v u x
noncomputable def cdataP : List (Nat × PySem.Str) := [(38, "&amp;"), (60, "&lt;"), (62, "&gt;")]
noncomputable def attribP : List (Nat × PySem.Str) := [(38, "&amp;"), (60, "&lt;"), (62, "&gt;"), (34, "&quot;"), (13, "&#13;"), (10, "&#10;"), (9, "&#09;")]
noncomputable def htmlP : List (Nat × PySem.Str) := [(38, "&amp;"), (62, "&gt;"), (34, "&quot;")]
noncomputable def cdata14P : List (Nat × PySem.Str) := [(38, "&amp;"), (60, "&lt;"), (62, "&gt;"), (13, "&#xD;")]
noncomputable def attrib14P : List (Nat × PySem.Str) := [(38, "&amp;"), (60, "&lt;"), (34, "&quot;"), (9, "&#x9;"), (10, "&#xA;"), (13, "&#xD;")]
section
variable {prog : Program} {w : World} {P : Params}
theorem fn35 {x : PySem.Str} (hx : x.length ≤ 100) : FnC prog w (TK (KF P)) 9 35 [.str x] (.str (escL cdataP x)) := by
  refine FnC.ofK ["text"] (by rfl) (by rfl) (by rfl) (by decide +kernel) rfl (bind1 fun v => rfl) fun env σ hσ hs => ?_
  obtain rfl : σ = ([("text", .str x)] : Sg) := hσ
  have h1 := nameOk_of hs (x := "text") (by decide +kernel)
  have h2 := storeOk_of hs (x := "text") (by decide +kernel)
  clear hs
  refine ExL.consR (ExS.tryRet ?_)
  refine ExL.cons (escStep h1 h2 rfl (c := 38) (by decide +kernel) (by decide +kernel) (escLen [] hx (by decide +kernel)) (by decide +kernel) rfl) ?_
  refine ExL.cons (escStep h1 h2 rfl (c := 60) (by decide +kernel) (by decide +kernel) (escLen [(38, "&amp;")] hx (by decide +kernel)) (by decide +kernel) rfl) ?_
  refine ExL.cons (escStep h1 h2 rfl (c := 62) (by decide +kernel) (by decide +kernel) (escLen [(38, "&amp;"), (60, "&lt;")] hx (by decide +kernel)) (by decide +kernel) rfl) ?_
  exact ExL.consR (ExS.ret (EvE.name h1 (List.Mem.head _)))
theorem fn42 {x : PySem.Str} (hx : x.length ≤ 100) : FnC prog w (TK (KF P)) 9 42 [.str x] (.str (escL attribP x)) := by
  refine FnC.ofK ["text"] (by rfl) (by rfl) (by rfl) (by decide +kernel) rfl (bind1 fun v => rfl) fun env σ hσ hs => ?_
  obtain rfl : σ = ([("text", .str x)] : Sg) := hσ
  have h1 := nameOk_of hs (x := "text") (by decide +kernel)
  have h2 := storeOk_of hs (x := "text") (by decide +kernel)
  clear hs
  refine ExL.consR (ExS.tryRet ?_)
  refine ExL.cons (escStep h1 h2 rfl (c := 38) (by decide +kernel) (by decide +kernel) (escLen [] hx (by decide +kernel)) (by decide +kernel) rfl) ?_
  refine ExL.cons (escStep h1 h2 rfl (c := 60) (by decide +kernel) (by decide +kernel) (escLen [(38, "&amp;")] hx (by decide +kernel)) (by decide +kernel) rfl) ?_
  refine ExL.cons (escStep h1 h2 rfl (c := 62) (by decide +kernel) (by decide +kernel) (escLen [(38, "&amp;"), (60, "&lt;")] hx (by decide +kernel)) (by decide +kernel) rfl) ?_
  refine ExL.cons (escStep h1 h2 rfl (c := 34) (by decide +kernel) (by decide +kernel) (escLen [(38, "&amp;"), (60, "&lt;"), (62, "&gt;")] hx (by decide +kernel)) (by decide +kernel) rfl) ?_
  refine ExL.cons (escStep h1 h2 rfl (c := 13) (by decide +kernel) (by decide +kernel) (escLen [(38, "&amp;"), (60, "&lt;"), (62, "&gt;"), (34, "&quot;")] hx (by decide +kernel)) (by decide +kernel) rfl) ?_
  refine ExL.cons (escStep h1 h2 rfl (c := 10) (by decide +kernel) (by decide +kernel) (escLen [(38, "&amp;"), (60, "&lt;"), (62, "&gt;"), (34, "&quot;"), (13, "&#13;")] hx (by decide +kernel)) (by decide +kernel) rfl) ?_
  refine ExL.cons (escStep h1 h2 rfl (c := 9) (by decide +kernel) (by decide +kernel) (escLen [(38, "&amp;"), (60, "&lt;"), (62, "&gt;"), (34, "&quot;"), (13, "&#13;"), (10, "&#10;")] hx (by decide +kernel)) (by decide +kernel) rfl) ?_
  exact ExL.consR (ExS.ret (EvE.name h1 (List.Mem.head _)))
theorem fn49 {x : PySem.Str} (hx : x.length ≤ 100) : FnC prog w (TK (KF P)) 9 49 [.str x] (.str (escL htmlP x)) := by
  refine FnC.ofK ["text"] (by rfl) (by rfl) (by rfl) (by decide +kernel) rfl (bind1 fun v => rfl) fun env σ hσ hs => ?_
  obtain rfl : σ = ([("text", .str x)] : Sg) := hσ
  have h1 := nameOk_of hs (x := "text") (by decide +kernel)
  have h2 := storeOk_of hs (x := "text") (by decide +kernel)
  clear hs
  refine ExL.consR (ExS.tryRet ?_)
  refine ExL.cons (escStep h1 h2 rfl (c := 38) (by decide +kernel) (by decide +kernel) (escLen [] hx (by decide +kernel)) (by decide +kernel) rfl) ?_
  refine ExL.cons (escStep h1 h2 rfl (c := 62) (by decide +kernel) (by decide +kernel) (escLen [(38, "&amp;")] hx (by decide +kernel)) (by decide +kernel) rfl) ?_
  refine ExL.cons (escStep h1 h2 rfl (c := 34) (by decide +kernel) (by decide +kernel) (escLen [(38, "&amp;"), (62, "&gt;")] hx (by decide +kernel)) (by decide +kernel) rfl) ?_
  exact ExL.consR (ExS.ret (EvE.name h1 (List.Mem.head _)))
theorem fn56 {x : PySem.Str} (hx : x.length ≤ 100) : FnC prog w (TK (KF P)) 9 56 [.str x] (.str (escL cdata14P x)) := by
  refine FnC.ofK ["text"] (by rfl) (by rfl) (by rfl) (by decide +kernel) rfl (bind1 fun v => rfl) fun env σ hσ hs => ?_
  obtain rfl : σ = ([("text", .str x)] : Sg) := hσ
  have h1 := nameOk_of hs (x := "text") (by decide +kernel)
  have h2 := storeOk_of hs (x := "text") (by decide +kernel)
  clear hs
  refine ExL.consR (ExS.tryRet ?_)
  refine ExL.cons (escStep h1 h2 rfl (c := 38) (by decide +kernel) (by decide +kernel) (escLen [] hx (by decide +kernel)) (by decide +kernel) rfl) ?_
  refine ExL.cons (escStep h1 h2 rfl (c := 60) (by decide +kernel) (by decide +kernel) (escLen [(38, "&amp;")] hx (by decide +kernel)) (by decide +kernel) rfl) ?_
  refine ExL.cons (escStep h1 h2 rfl (c := 62) (by decide +kernel) (by decide +kernel) (escLen [(38, "&amp;"), (60, "&lt;")] hx (by decide +kernel)) (by decide +kernel) rfl) ?_
  refine ExL.cons (escStep h1 h2 rfl (c := 13) (by decide +kernel) (by decide +kernel) (escLen [(38, "&amp;"), (60, "&lt;"), (62, "&gt;")] hx (by decide +kernel)) (by decide +kernel) rfl) ?_
  exact ExL.consR (ExS.ret (EvE.name h1 (List.Mem.head _)))
theorem fn63 {x : PySem.Str} (hx : x.length ≤ 100) : FnC prog w (TK (KF P)) 9 63 [.str x] (.str (escL attrib14P x)) := by
  refine FnC.ofK ["text"] (by rfl) (by rfl) (by rfl) (by decide +kernel) rfl (bind1 fun v => rfl) fun env σ hσ hs => ?_
  obtain rfl : σ = ([("text", .str x)] : Sg) := hσ
  have h1 := nameOk_of hs (x := "text") (by decide +kernel)
  have h2 := storeOk_of hs (x := "text") (by decide +kernel)
  clear hs
  refine ExL.consR (ExS.tryRet ?_)
  refine ExL.cons (escStep h1 h2 rfl (c := 38) (by decide +kernel) (by decide +kernel) (escLen [] hx (by decide +kernel)) (by decide +kernel) rfl) ?_
  refine ExL.cons (escStep h1 h2 rfl (c := 60) (by decide +kernel) (by decide +kernel) (escLen [(38, "&amp;")] hx (by decide +kernel)) (by decide +kernel) rfl) ?_
  refine ExL.cons (escStep h1 h2 rfl (c := 34) (by decide +kernel) (by decide +kernel) (escLen [(38, "&amp;"), (60, "&lt;")] hx (by decide +kernel)) (by decide +kernel) rfl) ?_
  refine ExL.cons (escStep h1 h2 rfl (c := 9) (by decide +kernel) (by decide +kernel) (escLen [(38, "&amp;"), (60, "&lt;"), (34, "&quot;")] hx (by decide +kernel)) (by decide +kernel) rfl) ?_
  refine ExL.cons (escStep h1 h2 rfl (c := 10) (by decide +kernel) (by decide +kernel) (escLen [(38, "&amp;"), (60, "&lt;"), (34, "&quot;"), (9, "&#x9;")] hx (by decide +kernel)) (by decide +kernel) rfl) ?_
  refine ExL.cons (escStep h1 h2 rfl (c := 13) (by decide +kernel) (by decide +kernel) (escLen [(38, "&amp;"), (60, "&lt;"), (34, "&quot;"), (9, "&#x9;"), (10, "&#xA;")] hx (by decide +kernel)) (by decide +kernel) rfl) ?_
  exact ExL.consR (ExS.ret (EvE.name h1 (List.Mem.head _)))
end
-- the tactics' hooks
local macro_rules | `(tactic| array_mem_dec) => `(tactic| first | with_reducible exact List.mem_cons_self | ((with_reducible refine List.mem_cons_of_mem _ ?_); array_mem_dec))
local macro_rules | `(tactic| sizeOf_list_dec) => `(tactic| first
  | (refine nameOk_of (by assumption) ?_; decide +kernel)
  | (refine storeOk_of (by assumption) ?_; decide +kernel)
  | (refine globOk_of' (by assumption) ?_; decide +kernel)
  | (refine nameOk_of (cenv_scope (by assumption)) ?_; decide +kernel)
  | (refine globOk_of' (cenv_scope (by assumption)) ?_; decide +kernel))
-- expressions
local macro_rules | `(tactic| decreasing_trivial) => `(tactic| first
  | with_reducible exact EvE.cInt
  | with_reducible exact EvE.cStr
  | with_reducible exact EvE.cFlt
  | with_reducible exact EvE.cBool
  | with_reducible exact EvE.cNone
  | with_reducible exact EvE.cStrT
  | ((with_reducible apply EvE.name); (sizeOf_list_dec); (array_mem_dec))
  | ((with_reducible apply EvE.weak); (with_reducible apply EvE.name); (sizeOf_list_dec); (array_mem_dec))
  | ((with_reducible apply EvE.bin); (decreasing_trivial); (decreasing_trivial); (decreasing_trivial))
  | ((with_reducible apply EvE.un); (decreasing_trivial); (decreasing_trivial))
  | ((with_reducible apply EvT.cmp); (rfl); (decreasing_trivial); (decreasing_trivial); (decreasing_trivial))
  | ((with_reducible apply EvE.cmp); (rfl); (decreasing_trivial); (decreasing_trivial); (decreasing_trivial))
  | ((with_reducible apply EvE.callB); (sizeOf_list_dec); (rfl); (with_reducible first | exact bMax | exact bMin | exact bAbs | exact bInt | exact bLen | exact bSum | exact bTuple | exact bRange | exact bSorted); (decide); (first | exact Quick.builtin | exact Quick.type); (rfl); (decreasing_trivial); (decreasing_trivial))
  | ((with_reducible apply EvT.not); (decreasing_trivial))
  | with_reducible exact EvL.nil
  | ((with_reducible apply EvL.cons); (exact starE rfl); (decreasing_trivial); (decreasing_trivial))
  | ((with_reducible apply EvE.listK); (decreasing_trivial); (rfl))
  | ((with_reducible apply EvE.tupK); (decreasing_trivial); (rfl))
  | ((with_reducible apply EvT.val); (intro _; rfl); (decreasing_trivial))
  | with_reducible exact BinR.add | with_reducible exact BinR.sub | with_reducible exact UnR.neg | with_reducible exact CmpR.eqI | with_reducible exact CmpR.neI | with_reducible exact CmpR.ltI | with_reducible exact CmpR.leI | with_reducible exact CmpR.gtI | with_reducible exact CmpR.geI
  | with_reducible exact BinR.addF | with_reducible exact BinR.subF | with_reducible exact BinR.mulF | with_reducible exact CmpR.eqF | with_reducible exact CmpR.neF | with_reducible exact CmpR.leF | with_reducible exact CmpR.ltFI
  | with_reducible exact CmpR.eqS | with_reducible exact CmpR.neS | with_reducible exact CmpR.inS | with_reducible exact CmpR.notInS | with_reducible exact CmpR.isNone | with_reducible exact CmpR.isNotB | with_reducible exact CmpR.notInL
  | with_reducible exact CallC.max3F | with_reducible exact CallC.min3F | with_reducible exact CallC.maxL | with_reducible exact CallC.minL | with_reducible exact CallC.max2I | with_reducible exact CallC.min2I | with_reducible exact CallC.absI | with_reducible exact CallC.absF | with_reducible exact CallC.intB
  | ((with_reducible apply BinR.divF); (first | with_reducible assumption | assumption))
  | ((with_reducible apply BinR.modF); (first | with_reducible assumption | assumption))
  | ((with_reducible apply BinR.mul); first | decide | omega)
  | ((with_reducible apply BinR.divI); (first | with_reducible assumption | decide | assumption); (first | with_reducible assumption | assumption))
  | ((with_reducible apply BinR.mulFI); (first | with_reducible assumption | assumption))
  | ((with_reducible apply BinR.subFI); (first | with_reducible assumption | assumption))
  | ((with_reducible apply BinR.pow) <;> decide)
  | ((with_reducible apply CallC.intF) <;> assumption)
  | ((with_reducible apply BinR.mod); first | decide | omega)
  | ((with_reducible apply BinR.div) <;> first | decide | omega))
local macro_rules | `(tactic| array_get_dec) => `(tactic| first | exact upd_nil | ((with_reducible apply upd_hit); array_get_dec) | ((with_reducible apply upd_off); (decide +kernel); array_get_dec))
section
variable {prog : Program} {w : World} {P : Params}
noncomputable def escP : Nat → List (Nat × PySem.Str)
  | 0 => cdataP
  | 1 => attribP
  | 2 => htmlP
  | 3 => cdata14P
  | _ => attrib14P
theorem fn150 {x : PySem.Str} (hx : x.length ≤ 100) (h : Nat) (hh : h < 5) : FnC prog w (TK (KF P)) 10 150 [.int h, .str x] (.str (escL (escP h) x)) := by
  refine FnC.ofK ["hand", "text"] (by rfl) (by rfl) (by rfl) (by decide +kernel) rfl (bind2 fun v u => rfl) fun env σ hσ hs => ?_
  obtain rfl : σ = ([("hand", .int h), ("text", .str x)] : Sg) := hσ
  have step : ∀ {t a p c o rest}, EvT prog w (TK (KF P)) 9 env [("hand", D.int h), ("text", .str x)] [] t c → (c = true → ExL prog w (TK (KF P)) 9 env [("hand", D.int h), ("text", .str x)] [] a (.ret o)) →
      (c = false → ExL prog w (TK (KF P)) 9 env [("hand", D.int h), ("text", .str x)] [] rest (.ret o)) → ExL prog w (TK (KF P)) 9 env [("hand", D.int h), ("text", .str x)] [] (.If t a [] p :: rest) (.ret o) := fun {t a p c o rest} ht ha hb => by
    cases c with
    | true => exact ExL.consR (ExS.ifT ht (ha rfl))
    | false => exact ExL.cons (ExS.ifF ht ExL.nil) (hb rfl)
  have call : ∀ {f np xp pos}, globOk env f = true → ∀ {a : Addr} {y}, nsIn (KF P) mainGlobals f = some (some (.ref a)) → keepIn (KF P) (.ref a) = true → FnC prog w (TK (KF P)) 9 a [.str x] (.str y) →
      EvE prog w (TK (KF P)) 9 env [("hand", D.int h), ("text", .str x)] [] (.Call (.Name f np) [.Name "text" xp] [] pos) (.str y) := fun {f np xp pos} hg {a y} e hk hf =>
    EvE.callG hg e hk rfl (by decreasing_trivial) hf
  match h, hh with
  | 0, _ =>
    refine step (by decreasing_trivial) (fun _ => ?_) (fun e => ?_)
    · exact ExL.consR (ExS.ret (call (by sizeOf_list_dec) (by rfl) (by rfl) (fn35 hx)))
    · simp at e
  | 1, _ =>
    refine step (by decreasing_trivial) (fun e => ?_) (fun _ => ?_)
    · simp at e
    refine step (by decreasing_trivial) (fun _ => ?_) (fun e => ?_)
    · exact ExL.consR (ExS.ret (call (by sizeOf_list_dec) (by rfl) (by rfl) (fn42 hx)))
    · simp at e
  | 2, _ =>
    refine step (by decreasing_trivial) (fun e => ?_) (fun _ => ?_)
    · simp at e
    refine step (by decreasing_trivial) (fun e => ?_) (fun _ => ?_)
    · simp at e
    refine step (by decreasing_trivial) (fun _ => ?_) (fun e => ?_)
    · exact ExL.consR (ExS.ret (call (by sizeOf_list_dec) (by rfl) (by rfl) (fn49 hx)))
    · simp at e
  | 3, _ =>
    refine step (by decreasing_trivial) (fun e => ?_) (fun _ => ?_)
    · simp at e
    refine step (by decreasing_trivial) (fun e => ?_) (fun _ => ?_)
    · simp at e
    refine step (by decreasing_trivial) (fun e => ?_) (fun _ => ?_)
    · simp at e
    refine step (by decreasing_trivial) (fun _ => ?_) (fun e => ?_)
    · exact ExL.consR (ExS.ret (call (by sizeOf_list_dec) (by rfl) (by rfl) (fn56 hx)))
    · simp at e
  | 4, _ =>
    refine step (by decreasing_trivial) (fun e => ?_) (fun _ => ?_)
    · simp at e
    refine step (by decreasing_trivial) (fun e => ?_) (fun _ => ?_)
    · simp at e
    refine step (by decreasing_trivial) (fun e => ?_) (fun _ => ?_)
    · simp at e
    refine step (by decreasing_trivial) (fun e => ?_) (fun _ => ?_)
    · simp at e
    exact ExL.consR (ExS.ret (call (by sizeOf_list_dec) (by rfl) (by rfl) (fn63 hx)))
noncomputable def namesP : Nat → List PySem.Str
  | 0 => ["&amp;", "<lt;", ">gt;"]
  | 1 => ["&amp;", "<lt;", ">gt;", "\"quot;", "\r#13;", "\n#10;", "\t#09;"]
  | 2 => ["&amp;", ">gt;", "\"quot;"]
  | 3 => ["&amp;", "<lt;", ">gt;", "\r#xD;"]
  | _ => ["&amp;", "<lt;", "\"quot;", "\t#x9;", "\n#xA;", "\r#xD;"]
theorem body157 {T : Heap → Prop} {n : Nat} {env : Env} {es : List Expr} {ds : List D} {h : Nat} {d : D} {p₁ p₂ p₃ p₄ p₅ p₆ p₇} (h1 : nameOk env "hand" = true) (h2 : nameOk env "rows" = true) (h3 : storeOkE env "rows" = true) (he : constDs es = some ds) (hh : h < 5) (hl : ds.length = 5) (hd : ds[h]? = some d) :
    ExL prog w T n env [("hand", .int h)] [] [.Assign [.Name "rows" p₁] (.List es p₂) p₃, .Return (some (.Subscript (.Name "rows" p₄) (.Name "hand" p₅) p₆)) p₇] (.ret d) := by
  refine ExL.cons (ExS.asgK (EvE.list (by omega) (EvL.const he)) h3 rfl (ns := ["hand"]) rfl (by decide +kernel)) ?_
  exact ExL.consR (ExS.ret (EvE.idxI (j := h) (EvE.name h2 (List.Mem.head _)) (EvE.name h1 (List.Mem.tail _ (List.Mem.head _))) (by omega) hd fun _ _ => rfl))
theorem fn157 (h : Nat) (hh : h < 5) : FnC prog w (TK (KF P)) 10 157 [.int h] (.list ((namesP h).map .str)) := by
  refine FnC.ofK ["hand"] (by rfl) (by rfl) (by rfl) (by decide +kernel) rfl (bind1 fun v => rfl) fun env σ hσ hs => ?_
  obtain rfl : σ = ([("hand", .int h)] : Sg) := hσ
  have h1 := nameOk_of hs (x := "hand") (by decide +kernel)
  have h2 := nameOk_of hs (x := "rows") (by decide +kernel)
  have h3 := storeOk_of hs (x := "rows") (by decide +kernel)
  with_reducible refine body157 h1 h2 h3 (ds := [0, 1, 2, 3, 4].map fun i => .list ((namesP i).map .str)) ?_ hh ?_ ?_
  · with_unfolding_all rfl
  · rfl
  · match h, hh with
    | 0, _ => rfl
    | 1, _ => rfl
    | 2, _ => rfl
    | 3, _ => rfl
    | 4, _ => rfl
end
noncomputable def k0 : UInt64 := 0
noncomputable def k05 : UInt64 := 4602678819172646912
noncomputable def k1 : UInt64 := 4607182418800017408
noncomputable def k2 : UInt64 := 4611686018427387904
noncomputable def k4 : UInt64 := 4616189618054758400
noncomputable def k6 : UInt64 := 4618441417868443648
/-- the hue before it is folded -/
noncomputable def hueF (r g b mx mn : UInt64) : UInt64 :=
  let rg := Float64.sub mx mn
  let rc := Float64.div (Float64.sub mx r) rg
  let gc := Float64.div (Float64.sub mx g) rg
  let bc := Float64.div (Float64.sub mx b) rg
  if feq r mx = true then Float64.sub bc gc else if feq g mx = true then Float64.sub (Float64.add k2 rc) bc else Float64.sub (Float64.add k4 gc) rc
noncomputable def hueM (r g b mx mn : UInt64) : UInt64 := (Float64.divmod (Float64.div (hueF r g b mx mn) k6) k1).snd
/-- hue, level, share -/
noncomputable def hlsF (r g b : UInt64) : UInt64 × UInt64 × UInt64 :=
  let mx := fmax3 r g b
  let mn := fmin3 r g b
  let sm := Float64.add mx mn
  let l := Float64.div sm k2
  if feq mn mx = true then (k0, l, k0) else
    (hueM r g b mx mn, l, if fle l k05 = true then Float64.div (Float64.sub mx mn) sm else Float64.div (Float64.sub mx mn) (Float64.sub (Float64.sub k2 mx) mn))
noncomputable def hlsOk (r g b : UInt64) : Bool :=
  let mx := fmax3 r g b
  let mn := fmin3 r g b
  let sm := Float64.add mx mn
  feq mn mx || (!Float64.isZero sm && !Float64.isZero (Float64.sub (Float64.sub k2 mx) mn) && !Float64.isZero (Float64.sub mx mn))
/-- hue, share, level -/
noncomputable def hsvF (r g b : UInt64) : UInt64 × UInt64 × UInt64 :=
  let mx := fmax3 r g b
  let mn := fmin3 r g b
  if feq mn mx = true then (k0, k0, mx) else (hueM r g b mx mn, Float64.div (Float64.sub mx mn) mx, mx)
noncomputable def hsvOk (r g b : UInt64) : Bool :=
  let mx := fmax3 r g b
  let mn := fmin3 r g b
  feq mn mx || (!Float64.isZero mx && !Float64.isZero (Float64.sub mx mn))
section
variable {prog : Program} {w : World} {P : Params}
theorem fn77 {r g b : UInt64} (ok : hsvOk r g b = true) : FnC prog w (TK (KF P)) 9 77 [.flt r, .flt g, .flt b] (.tup [.flt (hsvF r g b).1, .flt (hsvF r g b).2.1, .flt (hsvF r g b).2.2]) := by
  refine FnC.ofK ["r", "g", "b"] (by rfl) (by rfl) (by rfl) (by decide +kernel) rfl (bind3 fun v u x => rfl) fun env σ hσ hs => ?_
  obtain rfl : σ = ([("r", .flt r), ("g", .flt g), ("b", .flt b)] : Sg) := hσ
  have hz1 : Float64.isZero k6 = false := by decide +kernel
  have hz2 : Float64.isZero k1 = false := by decide +kernel
  refine ExL.cons (ExS.asgK (by decreasing_trivial) (by sizeOf_list_dec) rfl (ns := ["r", "g", "b"]) rfl (by decide +kernel)) ?_
  refine ExL.cons (ExS.asgK (by decreasing_trivial) (by sizeOf_list_dec) rfl (ns := ["maxc", "r", "g", "b"]) rfl (by decide +kernel)) ?_
  unfold hsvOk at ok
  unfold hsvF
  generalize fmax3 r g b = mx at *
  generalize fmin3 r g b = mn at *
  dsimp only at ok ⊢
  refine ExL.cons (ExS.asgK (by decreasing_trivial) (by sizeOf_list_dec) rfl (ns := ["minc", "maxc", "r", "g", "b"]) rfl (by decide +kernel)) ?_
  refine ExL.cons (ExS.asgK (by decreasing_trivial) (by sizeOf_list_dec) rfl (ns := ["rangec", "minc", "maxc", "r", "g", "b"]) rfl (by decide +kernel)) ?_
  cases hc : feq mn mx with
  | true =>
    exact ExL.consR (ExS.ifT (EvT.eq (by decreasing_trivial) hc) (ExL.consR (ExS.ret (EvE.eq (by decreasing_trivial) (by rfl)))))
  | false =>
    rw [hc, Bool.false_or, Bool.and_eq_true, Bool.not_eq_true', Bool.not_eq_true'] at ok
    obtain ⟨o1, o2⟩ := ok
    refine ExL.cons (ExS.ifF (EvT.eq (by decreasing_trivial) hc) ExL.nil) ?_
    refine ExL.cons (ExS.asgK (by decreasing_trivial) (by sizeOf_list_dec) rfl (ns := ["v", "rangec", "minc", "maxc", "r", "g", "b"]) rfl (by decide +kernel)) ?_
    refine ExL.cons (ExS.asgK (by decreasing_trivial) (by sizeOf_list_dec) rfl (ns := ["s", "v", "rangec", "minc", "maxc", "r", "g", "b"]) rfl (by decide +kernel)) ?_
    refine ExL.cons (ExS.asgK (by decreasing_trivial) (by sizeOf_list_dec) rfl (ns := ["rc", "s", "v", "rangec", "minc", "maxc", "r", "g", "b"]) rfl (by decide +kernel)) ?_
    refine ExL.cons (ExS.asgK (by decreasing_trivial) (by sizeOf_list_dec) rfl (ns := ["gc", "rc", "s", "v", "rangec", "minc", "maxc", "r", "g", "b"]) rfl (by decide +kernel)) ?_
    refine ExL.cons (σ₁ := [("h", .flt (hueF r g b mx mn)), ("bc", .flt (Float64.div (Float64.sub mx b) (Float64.sub mx mn))), ("gc", .flt (Float64.div (Float64.sub mx g) (Float64.sub mx mn))), ("rc", .flt (Float64.div (Float64.sub mx r) (Float64.sub mx mn))), ("s", .flt (Float64.div (Float64.sub mx mn) mx)), ("v", .flt mx), ("rangec", .flt (Float64.sub mx mn)), ("minc", .flt mn), ("maxc", .flt mx), ("r", .flt r), ("g", .flt g), ("b", .flt b)]) (μ₁ := []) ?_ ?_
    · unfold hueF
      dsimp only
      refine ExS.ifs (c := feq r mx) (by decreasing_trivial) (fun h1 => ?_) (fun h1 => ?_)
      · rw [if_pos h1]
        refine ExL.cons (ExS.asgK (by decreasing_trivial) (by sizeOf_list_dec) rfl (ns := ["bc", "gc", "rc", "s", "v", "rangec", "minc", "maxc", "r", "g", "b"]) rfl (by decide +kernel)) ?_
        exact ExL.nil
      · rw [h1, if_neg Bool.false_ne_true]
        refine ExL.cons (ExS.ifs (c := feq g mx) (by decreasing_trivial) (fun h2 => ?_) (fun h2 => ?_)) ExL.nil
        · rw [if_pos h2]
          refine ExL.cons (ExS.asgK (by decreasing_trivial) (by sizeOf_list_dec) rfl (ns := ["bc", "gc", "rc", "s", "v", "rangec", "minc", "maxc", "r", "g", "b"]) rfl (by decide +kernel)) ?_
          exact ExL.nil
        · rw [h2, if_neg Bool.false_ne_true]
          refine ExL.cons (ExS.asgK (by decreasing_trivial) (by sizeOf_list_dec) rfl (ns := ["bc", "gc", "rc", "s", "v", "rangec", "minc", "maxc", "r", "g", "b"]) rfl (by decide +kernel)) ?_
          exact ExL.nil
    refine ExL.cons (ExTree.post (σ₂ := [("h", .flt (hueM r g b mx mn)), ("s", .flt (Float64.div (Float64.sub mx mn) mx)), ("v", .flt mx)]) ?_ (ExS.asg (by sizeOf_list_dec) rfl (by decreasing_trivial))) ?_
    · exact List.forall_mem_cons.mpr ⟨List.mem_cons_self, List.forall_mem_cons.mpr ⟨List.mem_cons_of_mem _ (mem_drp.mpr ⟨by array_mem_dec, by decide⟩), List.forall_mem_cons.mpr ⟨List.mem_cons_of_mem _ (mem_drp.mpr ⟨by array_mem_dec, by decide⟩), fun p hp => nomatch hp⟩⟩⟩
    exact ExL.consR (ExS.ret (EvE.eq (by decreasing_trivial) (by rfl)))
theorem fn70 {r g b : UInt64} (ok : hlsOk r g b = true) : FnC prog w (TK (KF P)) 9 70 [.flt r, .flt g, .flt b] (.tup [.flt (hlsF r g b).1, .flt (hlsF r g b).2.1, .flt (hlsF r g b).2.2]) := by
  refine FnC.ofK ["r", "g", "b"] (by rfl) (by rfl) (by rfl) (by decide +kernel) rfl (bind3 fun v u x => rfl) fun env σ hσ hs => ?_
  obtain rfl : σ = ([("r", .flt r), ("g", .flt g), ("b", .flt b)] : Sg) := hσ
  have hz1 : Float64.isZero k6 = false := by decide +kernel
  have hz2 : Float64.isZero k1 = false := by decide +kernel
  have hz3 : Float64.isZero k2 = false := by decide +kernel
  refine ExL.cons (ExS.asgK (by decreasing_trivial) (by sizeOf_list_dec) rfl (ns := ["r", "g", "b"]) rfl (by decide +kernel)) ?_
  refine ExL.cons (ExS.asgK (by decreasing_trivial) (by sizeOf_list_dec) rfl (ns := ["maxc", "r", "g", "b"]) rfl (by decide +kernel)) ?_
  unfold hlsOk at ok
  unfold hlsF
  generalize fmax3 r g b = mx at *
  generalize fmin3 r g b = mn at *
  dsimp only at ok ⊢
  refine ExL.cons (ExS.asgK (by decreasing_trivial) (by sizeOf_list_dec) rfl (ns := ["minc", "maxc", "r", "g", "b"]) rfl (by decide +kernel)) ?_
  refine ExL.cons (ExS.asgK (by decreasing_trivial) (by sizeOf_list_dec) rfl (ns := ["sumc", "minc", "maxc", "r", "g", "b"]) rfl (by decide +kernel)) ?_
  refine ExL.cons (ExS.asgK (by decreasing_trivial) (by sizeOf_list_dec) rfl (ns := ["rangec", "sumc", "minc", "maxc", "r", "g", "b"]) rfl (by decide +kernel)) ?_
  cases hc : feq mn mx with
  | true =>
    exact ExL.consR (ExS.ifT (EvT.eq (by decreasing_trivial) hc) (ExL.consR (ExS.ret (EvE.eq (by decreasing_trivial) (by rfl)))))
  | false =>
    rw [hc, Bool.false_or, Bool.and_eq_true, Bool.and_eq_true, Bool.not_eq_true', Bool.not_eq_true', Bool.not_eq_true'] at ok
    obtain ⟨⟨o1, o3⟩, o2⟩ := ok
    refine ExL.cons (ExS.ifF (EvT.eq (by decreasing_trivial) hc) ExL.nil) ?_
    refine ExL.cons (σ₁ := [("s", .flt (if fle (Float64.div (Float64.add mx mn) k2) k05 = true then Float64.div (Float64.sub mx mn) (Float64.add mx mn) else Float64.div (Float64.sub mx mn) (Float64.sub (Float64.sub k2 mx) mn))), ("l", .flt (Float64.div (Float64.add mx mn) k2)), ("rangec", .flt (Float64.sub mx mn)), ("sumc", .flt (Float64.add mx mn)), ("minc", .flt mn), ("maxc", .flt mx), ("r", .flt r), ("g", .flt g), ("b", .flt b)]) (μ₁ := []) ?_ ?_
    · refine ExS.ifs (c := fle (Float64.div (Float64.add mx mn) k2) k05) (EvT.eq (by decreasing_trivial) (by rfl)) (fun h1 => ?_) (fun h1 => ?_)
      · rw [if_pos h1]
        refine ExL.cons (ExS.asgK (by decreasing_trivial) (by sizeOf_list_dec) rfl (ns := ["l", "rangec", "sumc", "minc", "maxc", "r", "g", "b"]) rfl (by decide +kernel)) ?_
        exact ExL.nil
      · rw [h1, if_neg Bool.false_ne_true]
        refine ExL.cons (ExS.asgK (by decreasing_trivial) (by sizeOf_list_dec) rfl (ns := ["l", "rangec", "sumc", "minc", "maxc", "r", "g", "b"]) rfl (by decide +kernel)) ?_
        exact ExL.nil
    refine ExL.cons (ExS.asgK (by decreasing_trivial) (by sizeOf_list_dec) rfl (ns := ["s", "l", "rangec", "sumc", "minc", "maxc", "r", "g", "b"]) rfl (by decide +kernel)) ?_
    refine ExL.cons (ExS.asgK (by decreasing_trivial) (by sizeOf_list_dec) rfl (ns := ["rc", "s", "l", "rangec", "sumc", "minc", "maxc", "r", "g", "b"]) rfl (by decide +kernel)) ?_
    refine ExL.cons (ExS.asgK (by decreasing_trivial) (by sizeOf_list_dec) rfl (ns := ["gc", "rc", "s", "l", "rangec", "sumc", "minc", "maxc", "r", "g", "b"]) rfl (by decide +kernel)) ?_
    generalize (if fle (Float64.div (Float64.add mx mn) k2) k05 = true then Float64.div (Float64.sub mx mn) (Float64.add mx mn) else Float64.div (Float64.sub mx mn) (Float64.sub (Float64.sub k2 mx) mn)) = sh
    refine ExL.cons (σ₁ := [("h", .flt (hueF r g b mx mn)), ("bc", .flt (Float64.div (Float64.sub mx b) (Float64.sub mx mn))), ("gc", .flt (Float64.div (Float64.sub mx g) (Float64.sub mx mn))), ("rc", .flt (Float64.div (Float64.sub mx r) (Float64.sub mx mn))), ("s", .flt sh), ("l", .flt (Float64.div (Float64.add mx mn) k2)), ("rangec", .flt (Float64.sub mx mn)), ("sumc", .flt (Float64.add mx mn)), ("minc", .flt mn), ("maxc", .flt mx), ("r", .flt r), ("g", .flt g), ("b", .flt b)]) (μ₁ := []) ?_ ?_
    · unfold hueF
      dsimp only
      refine ExS.ifs (c := feq r mx) (by decreasing_trivial) (fun h1 => ?_) (fun h1 => ?_)
      · rw [if_pos h1]
        refine ExL.cons (ExS.asgK (by decreasing_trivial) (by sizeOf_list_dec) rfl (ns := ["bc", "gc", "rc", "s", "l", "rangec", "sumc", "minc", "maxc", "r", "g", "b"]) rfl (by decide +kernel)) ?_
        exact ExL.nil
      · rw [h1, if_neg Bool.false_ne_true]
        refine ExL.cons (ExS.ifs (c := feq g mx) (by decreasing_trivial) (fun h2 => ?_) (fun h2 => ?_)) ExL.nil
        · rw [if_pos h2]
          refine ExL.cons (ExS.asgK (by decreasing_trivial) (by sizeOf_list_dec) rfl (ns := ["bc", "gc", "rc", "s", "l", "rangec", "sumc", "minc", "maxc", "r", "g", "b"]) rfl (by decide +kernel)) ?_
          exact ExL.nil
        · rw [h2, if_neg Bool.false_ne_true]
          refine ExL.cons (ExS.asgK (by decreasing_trivial) (by sizeOf_list_dec) rfl (ns := ["bc", "gc", "rc", "s", "l", "rangec", "sumc", "minc", "maxc", "r", "g", "b"]) rfl (by decide +kernel)) ?_
          exact ExL.nil
    refine ExL.cons (ExTree.post (σ₂ := [("h", .flt (hueM r g b mx mn)), ("s", .flt sh), ("l", .flt (Float64.div (Float64.add mx mn) k2))]) ?_ (ExS.asg (by sizeOf_list_dec) rfl (by decreasing_trivial))) ?_
    · exact List.forall_mem_cons.mpr ⟨List.mem_cons_self, List.forall_mem_cons.mpr ⟨List.mem_cons_of_mem _ (mem_drp.mpr ⟨by array_mem_dec, by decide⟩), List.forall_mem_cons.mpr ⟨List.mem_cons_of_mem _ (mem_drp.mpr ⟨by array_mem_dec, by decide⟩), fun p hp => nomatch hp⟩⟩⟩
    exact ExL.consR (ExS.ret (EvE.eq (by decreasing_trivial) (by rfl)))
end
noncomputable def absI (a : Int) : Int := if a < 0 then -a else a
noncomputable def fallI (wd way : Int) : Int := min2 (max2 (min2 way (6 * wd - way) - wd) 0) wd
noncomputable def hueX (hue : UInt64) (wd : Int) : UInt64 := Float64.mul (Float64.mul hue (Float64.ofInt 6)) (Float64.ofInt wd)
noncomputable def placeI (hue : UInt64) (wd : Int) : Int := Flt.toInt Float64.truncOf (Float64.add (hueX hue wd) k05)
/-- all that the fit asks -/
noncomputable def fitsGood (a b c : Int) (light : Bool) (hue share level : UInt64) : Bool :=
  let hi := max3 a b c
  let lo := min3 a b c
  let wd := hi - lo
  (if light then !Float64.isInf (idiv (hi + lo) 128) && feq level (idiv (hi + lo) 128) else !Float64.isInf (idiv hi 64) && feq level (idiv hi 64)) &&
  (if wd == 0 then feq hue k0 && feq share k0 else
    let pl := placeI hue wd
    let full := if light then min2 (hi + lo) (128 - hi - lo) else hi
    !Float64.isInf (Float64.ofInt wd) && !Float64.isNaN (Float64.add (hueX hue wd) k05) && !Float64.isInf (Float64.add (hueX hue wd) k05) && !Float64.isInf (Float64.ofInt pl) &&
    decide (wd.natAbs < 100) && decide (pl.natAbs < 1000) &&
    (hi - fallI wd (absI (pl - 2 * 0 * wd)) == a && hi - fallI wd (absI (pl - 2 * 1 * wd)) == b && hi - fallI wd (absI (pl - 2 * 2 * wd)) == c) &&
    decide (0 ≤ pl) && decide (pl < 6 * wd) && full != 0 && !Float64.isInf (idiv wd full) && feq share (idiv wd full) &&
    (Float64.cmpInt (Float64.mul (Float64.abs (Float64.sub (hueX hue wd) (Float64.ofInt pl))) (Float64.ofInt 1073741824)) 1 == some Ordering.lt))
theorem bind5 {fd : FuncData} {p q r s t : PySem.Str} (h : ∀ v u x y z, bindArgs fd ⟨[v, u, x, y, z], []⟩ = pure [(p, v), (q, u), (r, x), (s, y), (t, z)]) : ∀ vs : List Value, vs.length = [p, q, r, s, t].length → bindArgs fd ⟨vs, []⟩ = pure ([p, q, r, s, t].zip vs)
  | [v, u, x, y, z], _ => h v u x y z
section
variable {prog : Program} {w : World} {P : Params}
theorem fn162 {a b c : Int} {light : Bool} {hue share level : UInt64} (ok : fitsGood a b c light hue share level = true) :
    FnC prog w (TK (KF P)) 9 162 [.list [.int a, .int b, .int c], .bool light, .flt hue, .flt share, .flt level] (.bool true) := by
  refine FnC.ofK ["parts", "light", "hue", "share", "level"] (by rfl) (by rfl) (by rfl) (by decide +kernel) rfl (bind5 fun v u x y z => rfl) fun env σ hσ hs => ?_
  obtain rfl : σ = ([("parts", .list [.int a, .int b, .int c]), ("light", .bool light), ("hue", .flt hue), ("share", .flt share), ("level", .flt level)] : Sg) := hσ
  have i6 : Float64.isInf (Float64.ofInt 6) = false := by decide +kernel
  have i30 : Float64.isInf (Float64.ofInt 1073741824) = false := by decide +kernel
  have i30' : Float64.isInf (Float64.ofInt (2 ^ Int.toNat 30)) = false := by decide +kernel
  unfold fitsGood at ok
  dsimp only at ok
  refine ExL.cons (ExS.unpack2 (by decreasing_trivial) (by sizeOf_list_dec) (by sizeOf_list_dec) (ns := ["parts", "light", "hue", "share", "level"]) rfl (by decide +kernel) rfl (swapped_cell hs (by decide +kernel))) ?_
  generalize max3 a b c = hi at *
  generalize min3 a b c = lo at *
  refine ExL.cons (ExS.asgC (by decreasing_trivial) hs (by decide +kernel) (ns := ["low", "high", "parts", "light", "hue", "share", "level"]) rfl (by decide +kernel)) ?_
  generalize hi - lo = wd at *
  have ok0 : (if light = true then !Float64.isInf (idiv (hi + lo) 128) && feq level (idiv (hi + lo) 128) else !Float64.isInf (idiv hi 64) && feq level (idiv hi 64)) = true := (Bool.and_eq_true _ _ ▸ ok).1
  have ok1 := (Bool.and_eq_true _ _ ▸ ok).2
  clear ok
  refine ExL.cons (ExS.ifF ?_ ExL.nil) ?_
  · refine EvT.eq (EvT.cmpK (d₂ := .flt (if light = true then idiv (hi + lo) 128 else idiv hi 64)) (by decreasing_trivial) (EvE.ife (c := light) (by decreasing_trivial) (fun q => ?_) (fun q => ?_)) CmpR.neF rfl) ?_
    · subst q
      simp only [if_true, Bool.and_eq_true, Bool.not_eq_true'] at ok0 ⊢
      have h1 := ok0.1
      decreasing_trivial
    · subst q
      simp only [Bool.false_eq_true, if_false, Bool.and_eq_true, Bool.not_eq_true'] at ok0 ⊢
      have h1 := ok0.1
      decreasing_trivial
    · cases light <;> simp_all
  cases hw : wd == 0 with
  | true =>
    rw [hw, if_pos rfl, Bool.and_eq_true] at ok1
    refine ExL.consR (ExS.ifT (EvT.eq (by decreasing_trivial) hw) (ExL.consR (ExS.ret (EvE.eq (EvE.and2 (a := feq hue 0) (b := feq share 0) (by decreasing_trivial) (fun _ => by decreasing_trivial)) ?_))))
    have e1 : feq hue 0 = true := ok1.1
    have e2 : feq share 0 = true := ok1.2
    rw [e1, e2]; rfl
  | false =>
    rw [hw, if_neg Bool.false_ne_true] at ok1
    refine ExL.cons (ExS.ifF (EvT.eq (by decreasing_trivial) hw) ExL.nil) ?_
    simp only [Bool.and_eq_true, Bool.not_eq_true', decide_eq_true_eq, beq_iff_eq, bne_iff_ne] at ok1
    obtain ⟨⟨⟨⟨⟨⟨⟨⟨⟨⟨⟨⟨g1, g2⟩, g3⟩, g4⟩, g5⟩, g6⟩, ⟨⟨g7, g8⟩, g9⟩⟩, g10⟩, g11⟩, g12⟩, g13⟩, g14⟩, g15⟩ := ok1
    have g2' : Float64.isNaN (Float64.add (Float64.mul (Float64.mul hue (Float64.ofInt 6)) (Float64.ofInt wd)) 4602678819172646912) = false := g2
    have g3' : Float64.isInf (Float64.add (Float64.mul (Float64.mul hue (Float64.ofInt 6)) (Float64.ofInt wd)) 4602678819172646912) = false := g3
    refine ExL.cons (ExS.asgC (by decreasing_trivial) hs (by decide +kernel) (ns := ["wide", "low", "high", "parts", "light", "hue", "share", "level"]) rfl (by decide +kernel)) ?_
    show ExL _ _ _ _ _ [("place", .int (placeI hue wd)), ("wide", .int wd), ("low", .int lo), ("high", .int hi), ("parts", .list [.int a, .int b, .int c]), ("light", .bool light), ("hue", .flt hue), ("share", .flt share), ("level", .flt level)] _ _ _
    generalize placeI hue wd = pl at *
    refine ExL.cons (ExS.asgM (ds := rng 0 3) (fun | .int k => .int (absI (pl - 2 * k * wd)) | _ => .none) hs (by decide +kernel) (by decide +kernel) (by decide +kernel) (ns := ["place", "wide", "low", "high", "parts", "light", "hue", "share", "level"]) rfl (by decide +kernel) (by decide +kernel) (by decide +kernel)
      (EvI.range1 (EvF.bk (by sizeOf_list_dec) (by rfl) bRange (by decide)) rfl (by decreasing_trivial) (by decide)) (by decide) (fun C d hd => ?_) (fun _ => rfl)) ?_
    · obtain ⟨i, hi', rfl⟩ := List.mem_map.mp hd
      have hi'' : i < 3 := by simpa using hi'
      exact EvE.eq (by decreasing_trivial) (by rfl)
    have e1 : (rng 0 3).map (fun | .int k => D.int (absI (pl - 2 * k * wd)) | _ => .none) = [.int (absI (pl - 2 * 0 * wd)), .int (absI (pl - 2 * 1 * wd)), .int (absI (pl - 2 * 2 * wd))] := rfl
    rw [e1]
    generalize absI (pl - 2 * 0 * wd) = w0 at *
    generalize absI (pl - 2 * 1 * wd) = w1 at *
    generalize absI (pl - 2 * 2 * wd) = w2 at *
    clear e1
    refine ExL.cons (ExS.asgM (ds := [.int w0, .int w1, .int w2]) (fun | .int k => .int (fallI wd k) | _ => .none) hs (by decide +kernel) (by decide +kernel) (by decide +kernel) (ns := ["ways", "place", "wide", "low", "high", "parts", "light", "hue", "share", "level"]) rfl (by decide +kernel) (by decide +kernel) (by decide +kernel)
      (EvI.list (by decreasing_trivial)) (by simp) (fun C d hd => ?_) (fun _ => rfl)) ?_
    · obtain ⟨k, rfl⟩ : ∃ k, d = .int k := by
        rcases List.mem_cons.mp hd with rfl | hd
        · exact ⟨_, rfl⟩
        · rcases List.mem_cons.mp hd with rfl | hd
          · exact ⟨_, rfl⟩
          · rcases List.mem_cons.mp hd with rfl | hd
            · exact ⟨_, rfl⟩
            · cases hd
      exact EvE.eq (by decreasing_trivial) (by rfl)
    show ExL _ _ _ _ _ [("falls", .list [.int (fallI wd w0), .int (fallI wd w1), .int (fallI wd w2)]), ("ways", .list [.int w0, .int w1, .int w2]), ("place", .int pl), ("wide", .int wd), ("low", .int lo), ("high", .int hi), ("parts", .list [.int a, .int b, .int c]), ("light", .bool light), ("hue", .flt hue), ("share", .flt share), ("level", .flt level)] _ _ _
    generalize fallI wd w0 = f0 at *
    generalize fallI wd w1 = f1 at *
    generalize fallI wd w2 = f2 at *
    refine ExL.cons (ExS.ifF (EvT.eq (EvT.or2 (a := false) (b := false) ?_ (fun _ => ?_)) rfl) ExL.nil) ?_
    · refine EvT.eq (EvT.cmpK (d₁ := .list [.int (hi - f0), .int (hi - f1), .int (hi - f2)]) (d₂ := .list [.int a, .int b, .int c]) ?_ (by decreasing_trivial) (CmpR.neL (ns := [hi - f0, hi - f1, hi - f2]) (ms := [a, b, c]) (by decide)) rfl) ?_
      · refine EvE.compM (ds := [.int f0, .int f1, .int f2]) (fun | .int k => .int (hi - k) | _ => .none) hs (by decide +kernel) (ns := ["falls", "ways", "place", "wide", "low", "high", "parts", "light", "hue", "share", "level"]) rfl (by decide +kernel) (by decide +kernel)
          (EvI.list (by decreasing_trivial)) (by simp) (fun C d hd => ?_) (fun _ => rfl)
        obtain ⟨k, rfl⟩ : ∃ k, d = .int k := by
          rcases List.mem_cons.mp hd with rfl | hd
          · exact ⟨_, rfl⟩
          · rcases List.mem_cons.mp hd with rfl | hd
            · exact ⟨_, rfl⟩
            · rcases List.mem_cons.mp hd with rfl | hd
              · exact ⟨_, rfl⟩
              · cases hd
        decreasing_trivial
      · rw [g7, g8, g9]; simp
    · refine EvT.eq (EvT.not (EvT.chain2 (fun _ _ => rfl) (by decreasing_trivial) (by decreasing_trivial) CmpR.leI (fun _ => by decreasing_trivial) CmpR.ltI)) ?_
      simp [g10, g11]
    refine ExL.cons (ExS.asgK (d := .int (if light = true then min2 (hi + lo) (128 - hi - lo) else hi)) (EvE.ife (c := light) (by decreasing_trivial) (fun q => ?_) (fun q => ?_)) (by sizeOf_list_dec) rfl (ns := ["falls", "ways", "place", "wide", "low", "high", "parts", "light", "hue", "share", "level"]) rfl (by decide +kernel)) ?_
    · subst q
      simp only [if_true]
      decreasing_trivial
    · subst q
      simp only [Bool.false_eq_true, if_false]
      decreasing_trivial
    generalize (if light = true then min2 (hi + lo) (128 - hi - lo) else hi) = full at *
    clear ok0 g2 g3 g7 g8 g9 g10 g11
    refine ExL.consR (ExS.ret ?_)
    have hb : (Float64.cmpInt (Float64.mul (Float64.abs (Float64.sub (Float64.mul (Float64.mul hue (Float64.ofInt 6)) (Float64.ofInt wd)) (Float64.ofInt pl))) (Float64.ofInt (2 ^ Int.toNat 30))) 1 == some Ordering.lt) = true := beq_iff_eq.mpr g15
    refine EvE.eq (d := .bool (feq share (idiv wd full) && (Float64.cmpInt (Float64.mul (Float64.abs (Float64.sub (Float64.mul (Float64.mul hue (Float64.ofInt 6)) (Float64.ofInt wd)) (Float64.ofInt pl))) (Float64.ofInt (2 ^ Int.toNat 30))) 1 == some Ordering.lt))) ?_ ?_
    · clear g14 g15 hb
      refine EvE.and2 ?_ (fun _ => ?_)
      · decreasing_trivial
      · clear g12 g13
        with_reducible apply EvE.cmp
        · rfl
        · with_reducible apply EvE.bin
          · decreasing_trivial
          · decreasing_trivial
          · with_reducible apply BinR.mulFI
            with_reducible assumption
        · decreasing_trivial
        · decreasing_trivial
    · rw [g14, hb]; rfl
end
noncomputable def shOk (a b c : Int) : Bool :=
  let x := idiv a 64; let y := idiv b 64; let z := idiv c 64
  !Float64.isInf x && !Float64.isInf y && !Float64.isInf z && hlsOk x y z && hsvOk x y z
noncomputable def shareV (a b c : Int) (light : Bool) : UInt64 := if light = true then (hlsF (idiv a 64) (idiv b 64) (idiv c 64)).2.2 else (hsvF (idiv a 64) (idiv b 64) (idiv c 64)).2.1
noncomputable def hueV (a b c : Int) (light : Bool) : UInt64 := if light = true then (hlsF (idiv a 64) (idiv b 64) (idiv c 64)).1 else (hsvF (idiv a 64) (idiv b 64) (idiv c 64)).1
noncomputable def levelV (a b c : Int) (light : Bool) : UInt64 := if light = true then (hlsF (idiv a 64) (idiv b 64) (idiv c 64)).2.1 else (hsvF (idiv a 64) (idiv b 64) (idiv c 64)).2.2
noncomputable def sel3 (x y z : Int) : Nat → Int
  | 0 => x
  | 1 => y
  | _ => z
noncomputable def row3 (x y z : Int) : D := .list [.int x, .int y, .int z]
section
variable {prog : Program} {w : World} {P : Params}
theorem fn167 {ds : List D} {s m : Nat} {a₀ a₁ a₂ b₀ b₁ b₂ c₀ c₁ c₂ x y z : Int} {light : Bool} (hs' : s < 100000) (hm : m < 100000) (h1 : ds[s]? = some (row3 a₀ a₁ a₂)) (h2 : ds[s + m]? = some (row3 b₀ b₁ b₂)) (h3 : ds[s + 2 * m]? = some (row3 c₀ c₁ c₂))
    (hl : light = ((((s : Int) + m).fmod 2) == 1)) (hx : x = 32 + 2 * b₀ - a₀ - c₀) (hy : y = 32 + 2 * b₁ - a₁ - c₁) (hz : z = 32 + 2 * b₂ - a₂ - c₂) (ok : shOk x y z = true) (hf : m = 3 → fitsGood x y z light (hueV x y z light) (shareV x y z light) (levelV x y z light) = true) :
    FnC prog w (TK (KF P)) 10 167 [.list ds, .int s, .int m] (.flt (shareV x y z light)) := by
  refine FnC.ofK ["ahead", "s", "m"] (by rfl) (by rfl) (by rfl) (by decide +kernel) rfl (bind3 fun v u x => rfl) fun env σ hσ hs => ?_
  obtain rfl : σ = ([("ahead", .list ds), ("s", .int s), ("m", .int m)] : Sg) := hσ
  refine ExL.cons (ExS.asgM (ds := rng 0 3) (fun | .int k => .int (sel3 x y z k.toNat) | _ => .none) hs (by decide +kernel) (by decide +kernel) (by decide +kernel) (ns := ["ahead", "s", "m"]) rfl (by decide +kernel) (by decide +kernel) (by decide +kernel)
      (EvI.range1 (EvF.bk (by sizeOf_list_dec) (by rfl) bRange (by decide)) rfl (by decreasing_trivial) (by decide)) (by decide) (fun C d hd => ?_) (fun _ => rfl)) ?_
  · obtain ⟨i, hi', rfl⟩ := List.mem_map.mp hd
    have hi : i < 3 := by simpa using hi'
    clear hd hi'
    generalize he' : cenv _ C env = env'
    have hs₂ := (congrArg Env.scope he').symm.trans (cenv_scope hs)
    have sub : ∀ {e : Expr} {kp p : Pos} {u v t : Int}, EvE prog w (TK (Mine.KF P)) 9 env' [("k", .int (0 + (i : Int))), ("ahead", .list ds), ("s", .int s), ("m", .int m)] [] e (row3 u v t) →
        EvE prog w (TK (Mine.KF P)) 9 env' [("k", .int (0 + (i : Int))), ("ahead", .list ds), ("s", .int s), ("m", .int m)] [] (.Subscript e (.Name "k" kp) p) (.int (sel3 u v t i)) := fun {e kp p u v t} h =>
      EvE.idx (j := 0 + (i : Int)) h (by decreasing_trivial) (by omega) (by omega) (by
        have : (0 + (i : Int)).toNat = i := by omega
        rw [this]
        match i, hi with
        | 0, _ => rfl
        | 1, _ => rfl
        | 2, _ => rfl) (fun _ _ => rfl)
    have e : sel3 x y z (0 + (i : Int)).toNat = 32 + 2 * sel3 b₀ b₁ b₂ i - sel3 a₀ a₁ a₂ i - sel3 c₀ c₁ c₂ i := by
      have : (0 + (i : Int)).toNat = i := by omega
      rw [this]
      match i, hi with
      | 0, _ => exact hx
      | 1, _ => exact hy
      | 2, _ => exact hz
    show EvE _ _ _ _ _ _ _ _ (.int (sel3 x y z (0 + (i : Int)).toNat))
    rw [e]
    refine EvE.bin (EvE.bin (EvE.bin (by decreasing_trivial) (EvE.bin (by decreasing_trivial) (sub (EvE.idx (j := (s : Int) + m) (by decreasing_trivial) (by decreasing_trivial) (by omega) (by omega) ?_ fun _ _ => rfl)) (BinR.mul (by omega))) BinR.add)
      (sub (EvE.idx (j := (s : Int)) (by decreasing_trivial) (by decreasing_trivial) (by omega) (by omega) ?_ fun _ _ => rfl)) BinR.sub) (sub (EvE.idx (j := (s : Int) + 2 * m) (by decreasing_trivial) (by decreasing_trivial) (by omega) (by omega) ?_ fun _ _ => rfl)) BinR.sub
    · have : ((s : Int) + m).toNat = s + m := by omega
      rw [this]; exact h2
    · have : (s : Int).toNat = s := by omega
      rw [this]; exact h1
    · have : ((s : Int) + 2 * m).toNat = s + 2 * m := by omega
      rw [this]; exact h3
  show ExL _ _ _ _ _ [("parts", row3 x y z), ("ahead", .list ds), ("s", .int s), ("m", .int m)] _ _ _
  clear h1 h2 h3 hx hy hz
  refine ExL.cons (ExS.asgK (by decreasing_trivial) (by sizeOf_list_dec) rfl (ns := ["parts", "ahead", "s", "m"]) rfl (by decide +kernel)) ?_
  rw [← hl]
  unfold shOk at ok
  simp only [Bool.and_eq_true, Bool.not_eq_true'] at ok
  obtain ⟨⟨⟨⟨i1, i2⟩, i3⟩, o1⟩, o2⟩ := ok
  have part : ∀ {σ : Sg} {p q p' : Pos} {kk : Nat} (i : Nat) (hi : i < 3), (("parts" : PySem.Str), row3 x y z) ∈ σ → EvE prog w (TK (Mine.KF P)) 9 env σ [] (.Subscript (.Name "parts" p) (.Constant (.int (i : Int)) kk q) p') (.int (sel3 x y z i)) := fun {σ p q p' kk} i hi hp =>
    EvE.idx (j := (i : Int)) (EvE.name (by sizeOf_list_dec) hp) EvE.cInt (by omega) (by omega) (by
      match i, hi with
      | 0, _ => rfl
      | 1, _ => rfl
      | 2, _ => rfl) (fun _ _ => rfl)
  have d64 : ∀ {σ : Sg} {e : Expr} {p q : Pos} {kk : Nat} {v : Int}, EvE prog w (TK (Mine.KF P)) 9 env σ [] e (.int v) → Float64.isInf (idiv v 64) = false → EvE prog w (TK (Mine.KF P)) 9 env σ [] (.BinOp e .Div (.Constant (.int 64) kk p) q) (.flt (idiv v 64)) := fun {σ e p q kk v} h1 h2 =>
    EvE.bin h1 EvE.cInt (BinR.divI (by decide) h2)
  refine ExL.cons (σ₁ := [("share", .flt (shareV x y z light)), ("level", .flt (levelV x y z light)), ("hue", .flt (hueV x y z light)), ("light", .bool light), ("parts", row3 x y z), ("m", .int m)]) (μ₁ := []) (ExS.ifs (c := light) (by decreasing_trivial) (fun q => ?_) (fun q => ?_)) ?_
  · subst q
    refine ExL.cons (ExTree.post ?_ (ExS.unpackN (EvE.callG (by sizeOf_list_dec) (by rfl) (by rfl) rfl (EvL.cons rfl (d64 (part 0 (by decide) (by array_mem_dec)) i1) (EvL.cons rfl (d64 (part 1 (by decide) (by array_mem_dec)) i2) (EvL.cons rfl (d64 (part 2 (by decide) (by array_mem_dec)) i3) EvL.nil))) (fn70 o1)) (by sizeOf_list_dec) (by sizeOf_list_dec) (by sizeOf_list_dec) (ns := ["light", "parts", "ahead", "s", "m"]) rfl (by decide +kernel) rfl rfl)) ExL.nil
    intro p hp
    simp only [List.mem_cons, List.not_mem_nil, or_false] at hp ⊢
    rcases hp with rfl | rfl | rfl | rfl | rfl | rfl <;> simp [shareV, levelV, hueV, sel3]
  · subst q
    refine ExL.cons (ExTree.post ?_ (ExS.unpackN (EvE.callG (by sizeOf_list_dec) (by rfl) (by rfl) rfl (EvL.cons rfl (d64 (part 0 (by decide) (by array_mem_dec)) i1) (EvL.cons rfl (d64 (part 1 (by decide) (by array_mem_dec)) i2) (EvL.cons rfl (d64 (part 2 (by decide) (by array_mem_dec)) i3) EvL.nil))) (fn77 o2)) (by sizeOf_list_dec) (by sizeOf_list_dec) (by sizeOf_list_dec) (ns := ["light", "parts", "ahead", "s", "m"]) rfl (by decide +kernel) rfl rfl)) ExL.nil
    intro p hp
    simp only [List.mem_cons, List.not_mem_nil, or_false] at hp ⊢
    rcases hp with rfl | rfl | rfl | rfl | rfl | rfl <;> simp [shareV, levelV, hueV, sel3]
  clear part d64 i1 i2 i3 o1 o2
  generalize shareV x y z light = sh at *
  generalize levelV x y z light = le at *
  generalize hueV x y z light = hu at *
  refine ExL.cons (ExS.ifF (EvT.eq (EvT.and2 (a := (m : Int) == 3) (b := false) (by decreasing_trivial) (fun q => ?_)) (by simp)) ExL.nil) ?_
  · have hm3 : m = 3 := by have := beq_iff_eq.mp q; omega
    have g := fn162 (prog := prog) (w := w) (P := P) (hf hm3)
    exact EvT.eq (b := !true) (EvT.not (EvT.val (fun _ => rfl) (EvE.callG (ds := [row3 x y z, .bool light, .flt hu, .flt sh, .flt le]) (by sizeOf_list_dec) (by rfl) (by rfl) rfl (by decreasing_trivial) g))) rfl
  exact ExL.consR (ExS.ret (by decreasing_trivial))
end
section
variable {prog : Program} {w : World} {P : Params}
theorem fn115 {c c' : List Int} {b b' : Int} : FnC prog w (TK (KF P)) 9 115 [.ws 139 c b, .ws 139 c' b'] (.bool (decide (c = c') && decide (b = b'))) := by
  refine FnC.ofK ["self", "other"] (by rfl) (by rfl) (by rfl) (by decide +kernel) rfl (bind2 fun v u => rfl) fun env σ hσ hs => ?_
  obtain rfl : σ = ([("self", .ws 139 c b), ("other", .ws 139 c' b')] : Sg) := hσ
  have h1 : plainGet (KF P) 139 "norm" = true := by rfl
  have h2 : hasDictIn (KF P) 139 = true := by rfl
  have h3 : findIn (KF P) (.ref 139) "norm" = some none := by rfl
  have h4 : noGet (KF P) none = true := by rfl
  exact ExL.consR (ExS.ret (EvE.cmp rfl (EvE.attrNorm (by decreasing_trivial) h1 h2 h3 h4) (EvE.attrNorm (by decreasing_trivial) h1 h2 h3 h4) CmpR.eqNorm))
end
/-- what the class counts: (tabs by the spaces ahead), spaces since, all, tabs -/
structure W4 where
  c : List Int
  b : Nat
  n : Nat
  nt : Nat
noncomputable def wsTab (s : W4) : W4 :=
  let c := if s.c.length ≤ s.b then s.c ++ List.replicate (s.b - s.c.length + 1) 0 else s.c
  ⟨c.set s.b (c.getD s.b 0 + 1), 0, s.n + 1, s.nt + 1⟩
noncomputable def wsAt (s : W4) (k : Nat) : W4 := if k = 32 then ⟨s.c, s.b + 1, s.n + 1, s.nt⟩ else wsTab s
noncomputable def wsRun (l : List Nat) : W4 := l.foldl wsAt ⟨[], 0, 0, 0⟩
section
variable {prog : Program} {w : World} {P : Params}
theorem ExA.dropM {T : Heap → Prop} {n : Nat} {env : Env} {σ : Sg} {μ μ' : List (Addr × List D)} {t : Sem Flow} {o : Addr → Out} (l : ∀ p ∈ μ', p ∈ μ) (h : ExA prog w T n env σ μ' t o) : ExA prog w T n env σ μ t o := fun A s pk k Q E rm S hq =>
  h A s pk k Q E rm { S with mu := fun p hp => S.mu p (l p hp) } hq
theorem wsRun_snoc (l : List Nat) (c : Nat) : wsRun (l ++ [c]) = wsAt (wsRun l) c := by unfold wsRun; rw [List.foldl_append]; rfl
theorem wsRun_le : ∀ l : List Nat, (wsRun l.reverse).b ≤ l.length ∧ (wsRun l.reverse).c.length ≤ l.length
  | [] => ⟨Nat.le_refl _, Nat.le_refl _⟩
  | c :: l => by
    obtain ⟨h1, h2⟩ := wsRun_le l
    rw [List.reverse_cons, wsRun_snoc, List.length_cons]
    generalize wsRun l.reverse = st at *
    unfold wsAt
    split
    · exact ⟨by show st.b + 1 ≤ _; omega, by show st.c.length ≤ _; omega⟩
    · unfold wsTab
      refine ⟨Nat.zero_le _, ?_⟩
      show (List.set _ _ _).length ≤ _
      rw [List.length_set]
      split
      · rw [List.length_append, List.length_replicate]; omega
      · omega
theorem wsRun_le' (l : List Nat) : (wsRun l).b ≤ l.length ∧ (wsRun l).c.length ≤ l.length := by
  have := wsRun_le l.reverse
  rwa [List.reverse_reverse, List.length_reverse] at this
set_option maxHeartbeats 8000000 in
theorem init_ws {A : Around} {s : Shared} {k : Kn} {raw : PySem.Str} {t : Tok} {R : Result → Shared → Prop} {h₀ : Heap} (rm : Rm 21 A) (tk₀ : TK (KF P) h₀) (hh : s.heap = (h₀.push emptyDict).push (instObj 139 h₀.objs.size)) (ki : KIn k h₀ s.toks)
    (j : Nat) (hj : j < raw.cps.toList.length) (hlen : raw.cps.toList.length ≤ 100) (hpre : ∀ (i c : Nat), i < j → raw.cps.toList[i]? = some c → c = 32 ∨ c = 9) (hstop : ∀ c : Nat, raw.cps.toList[j]? = some c → c ≠ 32 ∧ c ≠ 9)
    (hR : ∀ (es : List DictEntry) (nn : Nat) (vv : Value) (k' : Kn) (h' : Heap) (tk : Nat), h'.get? (h₀.objs.size + 1) = some (instObj 139 h₀.objs.size) → h'.get? h₀.objs.size = some (dictOf es nn) → getL "norm" es = some (some vv) → getL "equal" es = some none →
      Rd k' (normD (wsRun (raw.cps.toList.take j)).c (wsRun (raw.cps.toList.take j)).b) vv → Gr h₀ k k' → KIn k' h' tk → Le h₀ h' → R (.ok (.ret .none)) { s with heap := h', toks := tk }) :
    codeAny (model prog w) A (.call (.ref 94) ⟨[.ref (h₀.objs.size + 1), .str raw t], []⟩) R s := by
  have hx : s.heap.get? (h₀.objs.size + 1) = some (instObj 139 h₀.objs.size) := by rw [hh]; heap_get
  have hdx : s.heap.get? h₀.objs.size = some (dictOf [] 0) := by
    rw [hh]
    exact Heap.get?_push_of_some _ (Heap.get?_push_size _ rfl)
  have le₀ : Le h₀ s.heap := by rw [hh]; exact (Le.push _ _).trans (Le.push _ _)
  have tkS := TK.le _ _ le₀ tk₀
  have kS : KIn k s.heap s.toks := ki.le le₀ (Nat.le_refl _)
  have hT : ∀ g, (∀ b o, b ≠ h₀.objs.size → s.heap.get? b = some o → g.get? b = some o) → TK (KF P) g := fun g hg => TK.le _ _ (fun b o e => hg b o (fun z => by rw [z, get_size] at e; cases e) (le₀ _ _ e)) tk₀
  generalize h₀.objs.size + 1 = x at *
  have hne : x ≠ h₀.objs.size := fun e => by rw [e, hdx] at hx; cases hx
  have kd : k.m h₀.objs.size = none := ki.size
  have hn0 : h₀.get? h₀.objs.size = none := get_size h₀
  generalize h₀.objs.size = dx at *
  refine enterAny (T := TI (KF P) 139 x dx [] 0) (pk := fun b => s.heap.get? b) (ds := [.mut x, .str raw]) (k := k) (n := 20) ["self", "ws"] (tkS.k _ _ (by rfl)) tkS.lim (codeRec_of tkS.k (by rfl)) (by rfl) (by decide +kernel) rfl (bind2 fun v u => rfl) rm kS (RdL.cons (by unfold Rd; rfl) (RdL.one Rd.str)) (fun _ _ e => e)
    (fun g hg => ⟨hT g fun b o _ e => hg b o e, hg _ _ hx, hg _ _ hdx⟩) fun L h₁ tk E S le own htk => ?_
  generalize hE : callEnvC _ L 94 = env at *
  have hs := congrArg Env.scope hE.symm
  have hs : env.scope = _ := hs
  dsimp only [callEnvC, newEnv] at hs
  clear hE
  have q1 : findIn (KF P) (.ref 139) "__setattr__" = some (some (.builtin "object.__setattr__")) := by rfl
  have q2 : plainOver (KF P) 139 = true := by rfl
  have q3 : hasDictIn (KF P) 139 = true := by rfl
  have q4 : takerIn (KF P) 139 "raw" = some none := by rfl
  have q5 : takerIn (KF P) 139 "n" = some none := by rfl
  have q6 : takerIn (KF P) 139 "nt" = some none := by rfl
  have q7 : takerIn (KF P) 139 "norm" = some none := by rfl
  have q8 : takerIn (KF P) 139 "is_simple" = some none := by rfl
  have q9 : plainGet (KF P) 139 "raw" = true := by rfl
  have B : Bld (KF P) x dx h₀ k 139 [] 0 (fun b => s.heap.get? b) k := ⟨hdx, hx, hne, kd, hT, Gr.refl _ _, fun b e => le₀.none e, hn0, le₀⟩
  have S' : St (TI (KF P) 139 x dx [] 0) (fun b => s.heap.get? b) k env h₁ tk [("self", .mut x), ("ws", .str raw)] [] := S
  have rm' : Rm 20 (A.deeper env) := rm.deeper
  generalize A.deeper env = A' at *
  clear S rm
  refine goF rm' S' B (by decreasing_trivial) (by decreasing_trivial) q1 q2 q4 q3 rfl (fun _ _ _ => Nat.le_of_ble_eq_true rfl) rfl fun v₁ g₁ y₁ n₁ pk k₁ h₂ tk₂ _ r₁ B₁ S₁ => ?_
  obtain ⟨t₁, rfl⟩ := r₁.s
  have e₁ : putL "raw" g₁ (.str "raw" y₁) (.str raw t₁) [] = [⟨g₁, .str "raw" y₁, .str raw t₁⟩] := rfl
  rw [e₁] at B₁ S₁
  clear B S' e₁
  have hTK : ∀ es nn h, TI (KF P) 139 x dx es nn h → TK (KF P) h := fun _ _ _ t => t.tk
  refine goS (ExS.swap2 "S" "T" (by sizeOf_list_dec) (by sizeOf_list_dec) (EvE.tupK (EvL.cons (starE rfl) (EvE.clsAttr (hTK _ _) (by sizeOf_list_dec) (by rfl) (mc := .type "type") (by rfl) (by rfl)) (EvL.cons (starE rfl) (EvE.clsAttr (hTK _ _) (by sizeOf_list_dec) (by rfl) (mc := .type "type") (by rfl) (by rfl)) EvL.nil)) rfl)
    (ns := ["self", "ws"]) rfl (by decide +kernel) rfl (swapped_local hs (by decide +kernel) (by decide +kernel) (by decide +kernel) (by decide) (by decide) rfl rfl rfl)) rm' S₁ B₁.gr B₁.hp fun k₂ h₃ tk₃ g₂ l₂ nn₂ S₂ => ?_
  have B₂ := B₁.k' g₂ nn₂
  clear B₁ S₁ g₂ l₂ nn₂
  refine goA (ExA.newSoft (ns := []) (by sizeOf_list_dec) rfl (by decide) EvL.nil) rm' S₂ B₂.gr B₂.hp fun α k₃ h₄ tk₄ g₃ l₃ nn₃ S₃ => ?_
  have B₃ := B₂.k' g₃ nn₃
  clear B₂ S₂ g₃ l₃ nn₃
  rw [drp_names (ns := ["S", "T", "self", "ws"]) rfl (by decide +kernel)] at S₃
  refine goS (ExS.asg3 (by decreasing_trivial) (by sizeOf_list_dec) (by sizeOf_list_dec) (by sizeOf_list_dec) (ns := ["count", "S", "T", "self", "ws"]) rfl (by decide +kernel)) rm' S₃ B₃.gr B₃.hp fun k₄ h₅ tk₅ g₄ l₄ nn₄ S₄ => ?_
  have B₄ := B₃.k' g₄ nn₄
  clear B₃ S₃ g₄ l₄ nn₄
  let Sq : Nat → Addr → Sg := fun i α => [("nt", .int (wsRun (raw.cps.toList.take (min i j))).nt), ("n", .int (wsRun (raw.cps.toList.take (min i j))).n), ("b", .int (wsRun (raw.cps.toList.take (min i j))).b), ("count", .mut α), ("S", .str " "), ("T", .str "\t"), ("self", .mut x), ("ws", .str raw)]
  let Mq : Nat → Addr → List (Addr × List D) := fun i α => [(α, sft (wsRun (raw.cps.toList.take (min i j))).c)]
  have clen : (raw.cps.toList.map fun c => (D.str ⟨#[c]⟩)).length = raw.cps.toList.length := by simp
  refine goA (ExA.forB Sq Mq α j (by sizeOf_list_dec) (EvI.str (EvE.selfAttr (by decreasing_trivial) q9 q3 (by rfl) (by rfl) rfl)) rfl rfl (by rw [clen]; exact hj) (fun i α d hi hd => ?_) (fun α d hd => ?_) (fun _ => rfl)) rm' S₄ B₄.gr B₄.hp fun α k₅ h₆ tk₆ g₅ l₅ nn₅ S₅ => ?_
  · have hi' : i < raw.cps.toList.length := Nat.lt_trans hi hj
    obtain ⟨c, hc⟩ : ∃ c, raw.cps.toList[i]? = some c := ⟨_, List.getElem?_eq_getElem hi'⟩
    have hd' : d = .str ⟨#[c]⟩ := by
      rw [List.getElem?_map, hc] at hd
      exact (Option.some.inj hd).symm
    subst hd'
    have m1 : min i j = i := by omega
    have m2 : min (i + 1) j = i + 1 := by omega
    have tk1 : raw.cps.toList.take (i + 1) = raw.cps.toList.take i ++ [c] := by rw [List.take_add_one, hc]; rfl
    have bd := wsRun_le' (raw.cps.toList.take i)
    have bl : (raw.cps.toList.take i).length ≤ 100 := by rw [List.length_take]; omega
    show ExA _ _ _ _ _ (("ch", D.str ⟨#[c]⟩) :: drp "ch" (Sq i α)) _ _ _
    rw [drp_names (ns := ["nt", "n", "b", "count", "S", "T", "self", "ws"]) rfl (by decide +kernel)]
    dsimp only [Sq, Mq]
    rw [m1, m2, tk1, wsRun_snoc]
    generalize wsRun (raw.cps.toList.take i) = st at *
    have hcc := hpre i c hi hc
    clear Sq Mq
    rcases hcc with rfl | rfl
    · refine ExA.of α (ExL.cons (ExTree.post (σ₁ := ("ch", .str ⟨#[32]⟩) :: [("nt", .int st.nt), ("n", .int (st.n + 1)), ("b", .int (st.b + 1)), ("count", .mut α), ("S", .str " "), ("T", .str "\t"), ("self", .mut x), ("ws", .str raw)]) (σ₂ := [("nt", .int st.nt), ("n", .int (st.n + 1)), ("b", .int (st.b + 1)), ("count", .mut α), ("S", .str " "), ("T", .str "\t"), ("self", .mut x), ("ws", .str raw)]) (fun p hp => List.mem_cons_of_mem _ hp) (ExS.ifT (EvT.eq (by decreasing_trivial) (by decide +kernel)) ?_)) ExL.nil) rfl
      refine ExL.cons (ExS.asgU (by decreasing_trivial) (by sizeOf_list_dec) rfl (by array_get_dec)) ?_
      refine ExL.cons (ExS.asgU (by decreasing_trivial) (by sizeOf_list_dec) rfl (by array_get_dec)) ?_
      exact ExL.nil
    · have cl : ((st.c.length : Nat) : Int) ≤ (st.b : Int) ↔ st.c.length ≤ st.b := by omega
      refine ExA.consA (σ₁ := fun β => ("ch", .str ⟨#[9]⟩) :: [("nt", .int (st.nt + 1)), ("n", .int (st.n + 1)), ("b", .int 0), ("count", .mut β), ("S", .str " "), ("T", .str "\t"), ("self", .mut x), ("ws", .str raw)]) (μ₁ := fun β => [(β, sft (wsTab st).c)])
        (ExA.ifs (c := false) (EvT.eq (by decreasing_trivial) (by decide +kernel)) (fun q => nomatch q) (fun _ => ?_)) (fun β => ExA.less (fun p hp => List.mem_cons_of_mem _ hp) (ExA.of β ExL.nil rfl))
      refine ExA.consA (σ₁ := fun β => ("ch", .str ⟨#[9]⟩) :: [("nt", .int (st.nt + 1)), ("n", .int (st.n + 1)), ("b", .int 0), ("count", .mut β), ("S", .str " "), ("T", .str "\t"), ("self", .mut x), ("ws", .str raw)]) (μ₁ := fun β => [(β, sft (wsTab st).c)])
        (ExA.ifs (c := true) (EvT.eq (by decreasing_trivial) (by decide +kernel)) (fun _ => ?_) (fun q => nomatch q)) (fun β => ExA.of β ExL.nil rfl)
      refine ExA.cons (ExS.asgU (by decreasing_trivial) (by sizeOf_list_dec) rfl (by array_get_dec)) ?_
      refine ExA.cons (ExS.asgU (by decreasing_trivial) (by sizeOf_list_dec) rfl (by array_get_dec)) ?_
      refine ExA.consA (σ₁ := fun β => ("ch", .str ⟨#[9]⟩) :: [("nt", .int (st.nt + 1)), ("n", .int (st.n + 1)), ("b", .int st.b), ("count", .mut β), ("S", .str " "), ("T", .str "\t"), ("self", .mut x), ("ws", .str raw)])
        (μ₁ := fun β => [(β, sft (if st.c.length ≤ st.b then st.c ++ List.replicate (st.b - st.c.length + 1) 0 else st.c))])
        (ExA.ifs (c := decide ((st.c.length : Int) ≤ (st.b : Int))) (EvT.cmp rfl (by decreasing_trivial) (EvE.lenMut (a := α) List.mem_cons_self (EvF.bkT (hTK _ _) (by sizeOf_list_dec) (by rfl) bLen (by decide)) rfl rfl (by decreasing_trivial) (by omega)) CmpR.geI) (fun q => ?_) (fun q => ?_)) (fun β => ?_)
      · have q' : st.c.length ≤ st.b := cl.mp (of_decide_eq_true q)
        rw [if_pos q']
        refine ExA.consA (ExA.catSoft (a := α) (xs := st.c) (ys := List.replicate (st.b - st.c.length + 1) 0) List.mem_cons_self (by sizeOf_list_dec) rfl (by decreasing_trivial)
          (EvE.eq (EvE.bin (by decreasing_trivial) (EvE.bin (EvE.bin (by decreasing_trivial) (EvE.lenMut (a := α) List.mem_cons_self (EvF.bkT (hTK _ _) (by sizeOf_list_dec) (by rfl) bLen (by decide)) rfl rfl (by decreasing_trivial) (by omega)) BinR.sub) (by decreasing_trivial) BinR.add) (BinR.mulL (ds := [.int 0]) (x := (st.b : Int) - st.c.length + 1) (by omega) (by omega) (by decide))) ?_) (by rw [List.length_replicate]; omega)) (fun β => ?_)
        · have : ((st.b : Int) - st.c.length + 1).toNat = st.b - st.c.length + 1 := by omega
          rw [this]
          congr 1
          generalize st.b - st.c.length + 1 = mm
          induction mm with
          | zero => rfl
          | succ mm ih => rw [List.replicate_succ, List.replicate_succ, List.flatten_cons, List.map_cons, ih]; rfl
        · refine ExA.dropM (μ' := [(β, sft (st.c ++ List.replicate (st.b - st.c.length + 1) 0))]) (fun p hp => by rw [List.mem_singleton.mp hp]; exact List.mem_cons_self) ?_
          refine ExA.less (fun p hp => upd_in p ?_) (ExA.of β ExL.nil rfl)
          have hu : upd "count" (.mut β) [("ch", .str ⟨#[9]⟩), ("nt", .int (st.nt + 1)), ("n", .int (st.n + 1)), ("b", .int st.b), ("count", .mut α), ("S", .str " "), ("T", .str "\t"), ("self", .mut x), ("ws", .str raw)] = ([("ch", .str ⟨#[9]⟩), ("nt", .int (st.nt + 1)), ("n", .int (st.n + 1)), ("b", .int st.b), ("count", .mut β), ("S", .str " "), ("T", .str "\t"), ("self", .mut x), ("ws", .str raw)] : Sg) := by array_get_dec
          exact hu ▸ hp
      · have q' : ¬ st.c.length ≤ st.b := fun z => by rw [decide_eq_true (cl.mpr z)] at q; cases q
        rw [if_neg q']
        exact ExA.of α ExL.nil rfl
      · have hc' : (wsTab st).c = (if st.c.length ≤ st.b then st.c ++ List.replicate (st.b - st.c.length + 1) 0 else st.c).set st.b ((if st.c.length ≤ st.b then st.c ++ List.replicate (st.b - st.c.length + 1) 0 else st.c).getD st.b 0 + 1) := rfl
        have hl1 : st.b < (if st.c.length ≤ st.b then st.c ++ List.replicate (st.b - st.c.length + 1) 0 else st.c).length := by
          split
          · rw [List.length_append, List.length_replicate]; omega
          · omega
        have hl2 : (if st.c.length ≤ st.b then st.c ++ List.replicate (st.b - st.c.length + 1) 0 else st.c).length ≤ 1000 := by
          split
          · rw [List.length_append, List.length_replicate]; omega
          · omega
        rw [hc']
        generalize (if st.c.length ≤ st.b then st.c ++ List.replicate (st.b - st.c.length + 1) 0 else st.c) = cc at *
        refine ExA.of β (ExL.cons (ExS.setItem (a := β) (xs := cc) (j := st.b) (d := cc.getD st.b 0 + 1) (EvE.bin (EvE.idxMut (a := β) (j := st.b) List.mem_cons_self (by decreasing_trivial) (by decreasing_trivial) (by omega) (d := cc.getD st.b 0) (by rw [List.getD, List.getElem?_eq_getElem hl1]; rfl) fun _ _ => rfl) (by decreasing_trivial) BinR.add) (by decreasing_trivial) (by decreasing_trivial) hl1 hl2 (fun p hp => nomatch hp)) ?_) rfl
        refine ExL.cons (ExS.asgU (by decreasing_trivial) (by sizeOf_list_dec) rfl (by array_get_dec)) ?_
        exact ExL.nil
  · obtain ⟨c, hc⟩ : ∃ c, raw.cps.toList[j]? = some c := ⟨_, List.getElem?_eq_getElem hj⟩
    have hd' : d = .str ⟨#[c]⟩ := by
      rw [List.getElem?_map, hc] at hd
      exact (Option.some.inj hd).symm
    subst hd'
    have m2 : min (j + 1) j = j := by omega
    obtain ⟨z1, z2⟩ := hstop c hc
    have e32 : (" " : PySem.Str) = ⟨#[32]⟩ := by decide +kernel
    have e9 : ("\t" : PySem.Str) = ⟨#[9]⟩ := by decide +kernel
    have n1 : ((⟨#[c]⟩ : PySem.Str) == " ") = false := by
      rw [e32, beq_eq_false_iff_ne]; intro e; exact z1 (by injection e with e; injection e with e; injection e)
    have n2 : ((⟨#[c]⟩ : PySem.Str) == "\t") = false := by
      rw [e9, beq_eq_false_iff_ne]; intro e; exact z2 (by injection e with e; injection e with e; injection e)
    show ExA _ _ _ _ _ (("ch", D.str ⟨#[c]⟩) :: drp "ch" (Sq j α)) _ _ _
    rw [drp_names (ns := ["nt", "n", "b", "count", "S", "T", "self", "ws"]) rfl (by decide +kernel)]
    dsimp only [Sq, Mq]
    rw [m2, Nat.min_self]
    generalize wsRun (raw.cps.toList.take j) = st at *
    clear Sq Mq
    exact ExA.of α (ExL.consB (ExS.ifF (EvT.eq (by decreasing_trivial) n1) (ExL.consB (ExS.ifF (EvT.eq (by decreasing_trivial) n2) (ExTree.less (fun p hp => List.mem_cons_of_mem _ hp) (ExL.consB ExS.brk)))))) rfl
  · have B₅ := B₄.k' g₅ nn₅
    clear B₄ S₄ g₅ l₅ nn₅
    have m2 : min (j + 1) j = j := by omega
    dsimp only [Sq, Mq] at S₅
    rw [m2] at S₅
    clear Sq Mq
    have bd := wsRun_le' (raw.cps.toList.take j)
    have bl : (raw.cps.toList.take j).length ≤ 100 := by rw [List.length_take]; omega
    generalize wsRun (raw.cps.toList.take j) = st at *
    obtain ⟨k₆, l₆, nn₆, S₆⟩ := S₅.freezeS (x := "count") (by array_mem_dec) (fun p hp => nomatch hp)
    have B₆ := B₅.k' (B₅.gr.more B₅.hp l₆ nn₆) nn₆
    have hu : upd "count" (.list (st.c.map .int)) [("nt", .int st.nt), ("n", .int st.n), ("b", .int st.b), ("count", .mut α), ("S", .str " "), ("T", .str "\t"), ("self", .mut x), ("ws", .str raw)] = ([("nt", .int st.nt), ("n", .int st.n), ("b", .int st.b), ("count", .list (st.c.map .int)), ("S", .str " "), ("T", .str "\t"), ("self", .mut x), ("ws", .str raw)] : Sg) := by array_get_dec
    have S₇ := S₆.less (σ' := [("nt", .int st.nt), ("n", .int st.n), ("b", .int st.b), ("count", .list (st.c.map .int)), ("S", .str " "), ("T", .str "\t"), ("self", .mut x), ("ws", .str raw)]) (fun p hp => upd_in p (by rw [hu]; exact hp))
    clear S₅ S₆ B₅ l₆ nn₆ hu
    refine goF rm' S₇ B₆ (by decreasing_trivial) (by decreasing_trivial) q1 q2 q5 q3 rfl (fun _ _ _ => Nat.le_of_ble_eq_true rfl) rfl fun v₂ g₂ y₂ n₂ pk k₇ h₇ tk₇ _ r₇ B₇ S₇ => ?_
    have e₂ : putL "n" g₂ (.str "n" y₂) v₂ [⟨g₁, .str "raw" y₁, .str raw t₁⟩] = [⟨g₁, .str "raw" y₁, .str raw t₁⟩, ⟨g₂, .str "n" y₂, v₂⟩] := rfl
    rw [e₂] at B₇ S₇
    clear e₂ r₇
    refine goF rm' S₇ B₇ (by decreasing_trivial) (by decreasing_trivial) q1 q2 q6 q3 rfl (fun _ _ _ => Nat.le_of_ble_eq_true rfl) rfl fun v₃ g₃ y₃ n₃ pk k₈ h₈ tk₈ _ r₈ B₈ S₈ => ?_
    have e₃ : putL "nt" g₃ (.str "nt" y₃) v₃ [⟨g₁, .str "raw" y₁, .str raw t₁⟩, ⟨g₂, .str "n" y₂, v₂⟩] = [⟨g₁, .str "raw" y₁, .str raw t₁⟩, ⟨g₂, .str "n" y₂, v₂⟩, ⟨g₃, .str "nt" y₃, v₃⟩] := rfl
    rw [e₃] at B₈ S₈
    clear e₃ r₈ B₇ S₇
    refine goF (d := normD st.c st.b) rm' S₈ B₈ (by decreasing_trivial) (EvE.tupK (EvL.cons (starE rfl) (EvE.callF (EvF.bkT (hTK _ _) (by sizeOf_list_dec) (by rfl) bTuple (by decide)) Quick.type rfl (EvL.cons (starE rfl) (by decreasing_trivial) EvL.nil) (CallC.tupleL (by rw [List.length_map]; omega))) (EvL.cons (starE rfl) (by decreasing_trivial) EvL.nil)) rfl) q1 q2 q7 q3 rfl (fun _ _ _ => Nat.le_of_ble_eq_true rfl) rfl fun v₄ g₄ y₄ n₄ pk k₉ h₉ tk₉ _ r₉ B₉ S₉ => ?_
    have e₄ : putL "norm" g₄ (.str "norm" y₄) v₄ [⟨g₁, .str "raw" y₁, .str raw t₁⟩, ⟨g₂, .str "n" y₂, v₂⟩, ⟨g₃, .str "nt" y₃, v₃⟩] = [⟨g₁, .str "raw" y₁, .str raw t₁⟩, ⟨g₂, .str "n" y₂, v₂⟩, ⟨g₃, .str "nt" y₃, v₃⟩, ⟨g₄, .str "norm" y₄, v₄⟩] := rfl
    rw [e₄] at B₉ S₉
    clear e₄ B₈ S₈
    refine goF rm' S₉ B₉ (by decreasing_trivial) (EvE.cmp rfl (EvE.callF (EvF.bkT (hTK _ _) (by sizeOf_list_dec) (by rfl) bLen (by decide)) Quick.builtin rfl (EvL.cons (starE rfl) (by decreasing_trivial) EvL.nil) (CallC.len (by rw [List.length_map]; omega))) (by decreasing_trivial) CmpR.leI) q1 q2 q8 q3 rfl (fun _ _ _ => Nat.le_of_ble_eq_true rfl) rfl fun v₅ g₅ y₅ n₅ pk k₁₀ h₁₀ tk₁₀ l₁₀ r₁₀ B₁₀ S₁₀ => ?_
    have e₅ : putL "is_simple" g₅ (.str "is_simple" y₅) v₅ [⟨g₁, .str "raw" y₁, .str raw t₁⟩, ⟨g₂, .str "n" y₂, v₂⟩, ⟨g₃, .str "nt" y₃, v₃⟩, ⟨g₄, .str "norm" y₄, v₄⟩] = [⟨g₁, .str "raw" y₁, .str raw t₁⟩, ⟨g₂, .str "n" y₂, v₂⟩, ⟨g₃, .str "nt" y₃, v₃⟩, ⟨g₄, .str "norm" y₄, v₄⟩, ⟨g₅, .str "is_simple" y₅, v₅⟩] := rfl
    rw [e₅] at B₁₀ S₁₀
    clear e₅ B₉ S₉
    have X := S₁₀.topAt
    exact wpAny_execs_nil (hR _ _ v₄ k₁₀ h₁₀ tk₁₀ X.i X.d rfl rfl (r₉.le l₁₀) B₁₀.gr S₁₀.kh (fun b o e => S₁₀.kb _ _ (B₁₀.le b o e)))
end
section
variable {prog : Program} {w : World} {P : Params}
theorem Rm.under {n : Nat} {A : Around} {C : Addr} {rest kw} (r : Rm (n + 1) A) : Rm n (A.under (.builtin "type.__call__" ⟨.ref C :: rest, kw⟩)) := by
  have e : (Code.builtin "type.__call__" ⟨.ref C :: rest, kw⟩).weight = 1 := by kernel_rfl
  have e2 : (Code.builtin "type.__call__" ⟨.ref C :: rest, kw⟩).cUnits = 1 := by kernel_rfl
  exact ⟨r.1, by have := r.2.1; show A.depth + (Code.builtin "type.__call__" ⟨.ref C :: rest, kw⟩).weight + n < _; omega, by have := r.2.2; show A.units + (Code.builtin "type.__call__" ⟨.ref C :: rest, kw⟩).cUnits + 10 * n + 50 < _; omega⟩
/-- the class is called on a text -/
theorem make_ws {raw : PySem.Str} (j : Nat) (hj : j < raw.cps.toList.length) (hlen : raw.cps.toList.length ≤ 100) (hpre : ∀ (i c : Nat), i < j → raw.cps.toList[i]? = some c → c = 32 ∨ c = 9) (hstop : ∀ c : Nat, raw.cps.toList[j]? = some c → c ≠ 32 ∧ c ≠ 9) :
    CallC prog w (TK (KF P)) 22 (.ref 139) [.str raw] (.ws 139 (wsRun (raw.cps.toList.take j)).c (wsRun (raw.cps.toList.take j)).b) := fun A s k vs Q E rm ht ki r hq => by
  obtain ⟨v, rfl, rv⟩ := r.one1
  obtain ⟨t, rfl⟩ := rv.s
  refine wpAny_call ?_
  obtain ⟨h₀, g, d, tk, os⟩ := s
  have m1 : makesIn (KF P) 139 = true := by rfl
  have m2 : findIn (KF P) (.ref 139) "__init__" = some (some (.ref 94)) := by rfl
  have m3 : typeIn (KF P) (.ref 94) = some (.type "function") := by rfl
  refine make_core (makes_of ht.k m1) (looks_findIn ht.k m2) (fun self => bind_fn ht.k self m3) (.inl rfl) ?_
  refine init_ws (P := P) (h₀ := h₀) rm.under ht rfl ki j hj hlen hpre hstop fun es nn vv k' h' tk' hx hdx hn he r' gr ki' le => ?_
  refine ⟨rfl, ?_⟩
  have hx0 : h₀.get? (h₀.objs.size + 1) = none := by
    cases q : h₀.get? (h₀.objs.size + 1) with
    | none => rfl
    | some o => exact absurd (Heap.lt_size q) (Nat.not_lt.mpr (Nat.le_succ _))
  have hn0 : k'.m h₀.objs.size = none ∨ k'.m h₀.objs.size = some (dictOf es nn) := by
    cases q : k'.m h₀.objs.size with
    | none => exact .inl rfl
    | some o => have := ki'.at _ _ q; rw [hdx] at this; exact .inr this.symm
  have hn1 : k'.m (h₀.objs.size + 1) = none ∨ k'.m (h₀.objs.size + 1) = some (instObj 139 h₀.objs.size) := by
    cases q : k'.m (h₀.objs.size + 1) with
    | none => exact .inl rfl
    | some o => have := ki'.at _ _ q; rw [hx] at this; exact .inr this.symm
  generalize hX : h₀.objs.size + 1 = x at *
  have hne : x ≠ h₀.objs.size := by omega
  have hd0 : h₀.get? h₀.objs.size = none := get_size h₀
  generalize h₀.objs.size = dx at *
  obtain ⟨k₁, l₁, i₁, n₁, a₁⟩ : ∃ k₁, KLe k' k₁ ∧ KIn k₁ h' tk' ∧ (∀ b o, k₁.m b = some o → k'.m b = some o ∨ b = dx) ∧ k₁.m dx = some (dictOf es nn) := by
    rcases hn0 with q | q
    · exact ⟨addk dx _ k', addk_le q, addk_in ki' hdx, fun b o e => by
        by_cases z : b = dx
        · exact .inr z
        · rw [addk_of z] at e; exact .inl e, addk_at⟩
    · exact ⟨k', KLe.refl _, ki', fun b o e => .inl e, q⟩
  obtain ⟨k₂, l₂, i₂, n₂, a₂⟩ : ∃ k₂, KLe k₁ k₂ ∧ KIn k₂ h' tk' ∧ (∀ b o, k₂.m b = some o → k₁.m b = some o ∨ b = x) ∧ k₂.m x = some (instObj 139 dx) := by
    have q : k₁.m x = none ∨ k₁.m x = some (instObj 139 dx) := by
      cases q : k₁.m x with
      | none => exact .inl rfl
      | some o => have := i₁.at _ _ q; rw [hx] at this; exact .inr this.symm
    rcases q with q | q
    · exact ⟨addk x _ k₁, addk_le q, addk_in i₁ hx, fun b o e => by
        by_cases z : b = x
        · exact .inr z
        · rw [addk_of z] at e; exact .inl e, addk_at⟩
    · exact ⟨k₁, KLe.refl _, i₁, fun b o e => .inl e, q⟩
  have u : Up k h₀ k₂ h' tk' := ⟨(gr.kl.trans l₁).trans l₂, i₂, fun b o e => by
    rcases n₂ b o e with e | rfl
    · rcases n₁ b o e with e | rfl
      · exact gr.kn b o e
      · exact .inr hd0
    · exact .inr hx0, le⟩
  refine hq _ k₂ h' tk' u ?_
  have r₂ := r'.le (l₁.trans l₂)
  unfold normD at r₂
  obtain ⟨tv, vs, rfl, kt, m⟩ := r₂.t
  obtain ⟨y, z, rfl, ry, rz⟩ := m.two2
  obtain ⟨t₁, cv, rfl, kt1, mc⟩ := ry.t
  obtain ⟨tb, rfl⟩ := rz.i
  unfold Rd
  exact ⟨x, es, tv, t₁, t₁, cv, tb, rfl, ⟨dx, nn, a₂, l₂.at _ _ a₁⟩, hn, kt, kt1, rdl_intVals mc, he, rfl⟩
end
/-- the blanks and tabs of a lead -/
noncomputable def leadL (f : Nat) (r : Nat → Nat) (ks : List Nat) (b : Nat) : List Nat := List.replicate f 9 ++ (ks.flatMap fun k => List.replicate (r k) 32 ++ [9]) ++ List.replicate b 32
theorem bind4 {fd : FuncData} {p q r t : PySem.Str} (h : ∀ v u x y, bindArgs fd ⟨[v, u, x, y], []⟩ = pure [(p, v), (q, u), (r, x), (t, y)]) : ∀ vs : List Value, vs.length = [p, q, r, t].length → bindArgs fd ⟨vs, []⟩ = pure ([p, q, r, t].zip vs)
  | [v, u, x, y], _ => h v u x y
theorem leadL_ws {f b : Nat} {r : Nat → Nat} {ks : List Nat} : ∀ x ∈ leadL f r ks b, x = 32 ∨ x = 9 := fun x hx => by
  unfold leadL at hx
  simp only [List.mem_append, List.mem_flatMap, List.mem_replicate, List.mem_singleton] at hx
  rcases hx with (⟨_, rfl⟩ | ⟨k, _, ⟨_, rfl⟩ | rfl⟩) | ⟨_, rfl⟩
  · exact .inr rfl
  · exact .inl rfl
  · exact .inr rfl
  · exact .inl rfl
noncomputable def blk (r : Nat → Nat) (k : Nat) : PySem.Str := Txt.mul (Str.ofString " ") (r k : Int) ++ (Str.ofString "\t")
theorem blk_cps {r : Nat → Nat} {k : Nat} (h : r k ≤ 2) : (blk r k).cps.toList = List.replicate (r k) 32 ++ [9] := by
  unfold blk
  rw [cat_cps, mulSp h]
  congr 1
section
variable {prog : Program} {w : World} {P : Params}
theorem fn172 {f b : Nat} {r : Nat → Nat} {ks : List Nat} {front behind : PySem.Str} (hf : front.cps.toList = List.replicate f 9) (hb : behind.cps.toList = List.replicate b 32 ++ [120, 32, 9]) (hr : ∀ k, r k ≤ 2) (hk : ∀ k ∈ ks, k < 3) (hl : ks.length ≤ 2) (hf1 : f ≤ 1) (hb3 : b ≤ 3) :
    FnC prog w (TK (KF P)) 23 172 [.str front, .list [.int (r 0 : Nat), .int (r 1 : Nat), .int (r 2 : Nat)], .list (ks.map fun (k : Nat) => .int (k : Int)), .str behind] (.ws 139 (wsRun (leadL f r ks b)).c (wsRun (leadL f r ks b)).b) := by
  refine FnC.ofK ["front", "runs", "stretch", "behind"] (by rfl) (by rfl) (by rfl) (by decide +kernel) rfl (bind4 fun v u x y => rfl) fun env σ hσ hs => ?_
  obtain rfl : σ = ([("front", .str front), ("runs", .list [.int (r 0 : Nat), .int (r 1 : Nat), .int (r 2 : Nat)]), ("stretch", .list (ks.map fun (k : Nat) => .int (k : Int))), ("behind", .str behind)] : Sg) := hσ
  have hq : keepIn (KF P) (.ref 139) = true := by rfl
  have joined : ((ks.map (blk r)).flatMap (·.cps.toList)) = ks.flatMap fun k => List.replicate (r k) 32 ++ [9] := by
    rw [List.flatMap_map]
    congr 1
    funext k
    exact blk_cps (hr k)
  have jlen : (ks.flatMap fun k => List.replicate (r k) 32 ++ [9]).length ≤ 6 := by
    have := flat_le (f := fun k => List.replicate (r k) 32 ++ [9]) (B := 3) (fun k => by simp; exact hr k) ks
    omega
  have e1 : (front ++ Txt.join (Str.ofString "") (ks.map (blk r)) ++ behind).cps.toList = leadL f r ks b ++ [120, 32, 9] := by
    rw [cat_cps, cat_cps, join_cps, joined, hf, hb]
    unfold leadL
    simp only [List.append_assoc]
  have ll : (leadL f r ks b).length ≤ 10 := by
    unfold leadL
    simp only [List.length_append, List.length_replicate]
    omega
  have mk := make_ws (prog := prog) (w := w) (P := P) (raw := front ++ Txt.join (Str.ofString "") (ks.map (blk r)) ++ behind) (leadL f r ks b).length (by rw [e1, List.length_append]; simp) (by rw [e1, List.length_append]; simp; omega)
    (fun i c hi hc => by
      rw [e1, List.getElem?_append_left hi] at hc
      exact leadL_ws c (List.mem_of_getElem? hc))
    (fun c hc => by
      rw [e1, List.getElem?_append_right (Nat.le_refl _), Nat.sub_self] at hc
      cases hc
      exact ⟨by decide, by decide⟩)
  rw [e1, List.take_left] at mk
  have jl : (Txt.join (Str.ofString "") (ks.map (blk r))).length ≤ 6 := by rw [len_cps, join_cps, joined]; exact jlen
  have fl : front.length ≤ 1 := by rw [len_cps, hf]; simpa using hf1
  have bl : behind.length ≤ 6 := by rw [len_cps, hb]; simp; omega
  refine ExL.consR (ExS.ret (EvE.callF (EvF.gk (by sizeOf_list_dec) (by rfl)) (Quick.k hq) rfl (EvL.cons (starE rfl) (EvE.bin (EvE.bin (by decreasing_trivial) (EvE.join rfl rfl rfl rfl EvE.cStr (EvE.eq (EvE.compM (ns := ["front", "runs", "stretch", "behind"]) (ds := ks.map fun (k : Nat) => .int (k : Int)) (fun | .int k => .str (blk r k.toNat) | _ => .none) hs (by decide +kernel) rfl (by decide +kernel) (by decide +kernel) (EvI.list (by decreasing_trivial)) (by rw [List.length_map]; omega) (fun C d hd => ?_) (fun _ => rfl)) (d' := .list ((ks.map (blk r)).map .str)) ?_) ?_) (BinR.cat ?_)) (by decreasing_trivial) (BinR.cat ?_)) EvL.nil) mk))
  · obtain ⟨k, hk', rfl⟩ := List.mem_map.mp hd
    clear hd
    have hk3 := hk k hk'
    generalize he' : cenv _ C env = env'
    have hs₂ := (congrArg Env.scope he').symm.trans (cenv_scope hs)
    show EvE _ _ _ _ _ _ _ _ (.str (blk r k))
    unfold blk
    refine EvE.bin (EvE.bin EvE.cStr (EvE.idxI (j := k) (d := .int (r k : Nat)) (by decreasing_trivial) (by decreasing_trivial) (by omega) ?_ (fun _ _ => rfl)) (BinR.mulS (mulSpOk (hr k)))) EvE.cStr (BinR.cat ?_)
    · match k, hk3 with
      | 0, _ => rfl
      | 1, _ => rfl
      | 2, _ => rfl
    · have : (Txt.mul (Str.ofString " ") (r k : Int)).length ≤ 2 := by rw [len_cps, mulSp (hr k)]; simpa using hr k
      have h2 : (Str.ofString "\t").length = 1 := by decide +kernel
      omega
  · rw [List.map_map, List.map_map]
    rfl
  · refine joinOk_small (B := 3) (fun x hx => ?_) (by rw [List.length_map]; omega)
    obtain ⟨k, _, rfl⟩ := List.mem_map.mp hx
    rw [len_cps, blk_cps (hr k)]
    simp; exact hr k
  · omega
  · rw [len_cps, cat_cps, List.length_append, ← len_cps, ← len_cps]; omega
end
/-- the law's statements -/
noncomputable def fdOf (K : Frag) (f : Addr) : Option FuncData := match K.lookup f with
  | some ⟨_, _, .func fd, _⟩ => some fd
  | _ => none
noncomputable def lawSts (P : Params) : List Stmt := match fdOf (KF P) 177 with
  | some fd => match fd.body with
    | .stmts b => b
    | _ => []
  | none => []
noncomputable def P0 : Params := { strHash := fun _ => 0, shareClass := fun _ => 0, mergeTok := fun t => t, idOf := fun _ => 0, idOfShared := fun _ _ => 0, followText := fun _ => false, idOfImm := fun _ => 0 }
noncomputable def lawSc : Scope := match fdOf (KF P0) 177 with
  | some fd => fd.scope
  | none => { kind := .function, names := [], isGenerator := false, isCoroutine := false }
theorem t3 : nameOkS lawSc "word" = true := by decide +kernel
theorem fn177_of {prog : Program} {w : World} {P : Params} {ds : List D} {b : D} (h : ∀ (env : Env), env.scope = lawSc → ExL prog w (TK (KF P)) 23 env [("script", .list ds)] [] (lawSts P) (.ret b)) : FnC prog w (TK (KF P)) 24 177 [.list ds] b := by
  refine FnC.ofK ["script"] (by rfl) (by rfl) (by rfl) (by decide +kernel) rfl (bind1 fun v => rfl) fun env σ hσ hs => ?_
  obtain rfl : σ = ([("script", .list ds)] : Sg) := hσ
  exact h env hs
theorem toNats : ∀ l : List Int, (∀ x ∈ l, 0 ≤ x ∧ x < 3) → ∃ W : List Nat, (∀ k ∈ W, k < 3) ∧ (W.map fun (k : Nat) => (k : Int)) = l
  | [], _ => ⟨[], ⟨(fun k h => nomatch h), rfl⟩⟩
  | x :: l, h => by
    obtain ⟨W, h1, h2⟩ := toNats l fun y hy => h y (List.mem_cons_of_mem _ hy)
    have := h x List.mem_cons_self
    refine ⟨x.toNat :: W, fun k hk => ?_, by rw [List.map_cons, h2]; congr 1; omega⟩
    rcases List.mem_cons.mp hk with rfl | hk
    · omega
    · exact h1 k hk
/-- the table's names, by place -/
noncomputable def nm (h i : Nat) : PySem.Str := (namesP h).getD i (Str.ofString "")
noncomputable def cc (h i : Nat) : Nat := (nm h i).cps.toList.headD 0
noncomputable def tl (h i : Nat) : PySem.Str := ⟨((nm h i).cps.toList.drop 1).toArray⟩
noncomputable def nl (h : Nat) : Nat := (namesP h).length
noncomputable def iOf (t : Nat) : Nat := 1 + t / 5 % (nl (t % 5) - 1)
noncomputable def jOf (t : Nat) : Nat := 1 + (iOf t + t / 30 % (nl (t % 5) - 2)) % (nl (t % 5) - 1)
theorem nmOk : ∀ h, h < 5 → 3 ≤ nl h ∧ ∀ i, i < nl h → (1 ≤ (nm h i).length ∧ (nm h i).length ≤ 10) ∧ (nm h i).cps[0]? = some (cc h i) := by decide +kernel
theorem nm_get {h i : Nat} (hi : i < nl h) : ((namesP h).map D.str)[i]? = some (.str (nm h i)) := by
  unfold nm nl at *
  simp [hi]
theorem iOf_lt (t : Nat) : 1 ≤ iOf t ∧ iOf t < nl (t % 5) := by
  have := (nmOk (t % 5) (Nat.mod_lt _ (by decide))).1
  unfold iOf
  have := Nat.mod_lt (t / 5) (show 0 < nl (t % 5) - 1 by omega)
  omega
theorem jOf_lt (t : Nat) : 1 ≤ jOf t ∧ jOf t < nl (t % 5) := by
  have := (nmOk (t % 5) (Nat.mod_lt _ (by decide))).1
  unfold jOf
  have := Nat.mod_lt (iOf t + t / 30 % (nl (t % 5) - 2)) (show 0 < nl (t % 5) - 1 by omega)
  omega
theorem ij_ne (t : Nat) : iOf t ≠ jOf t := by
  have h3 := (nmOk (t % 5) (Nat.mod_lt _ (by decide))).1
  have hi := iOf_lt t
  have hm := Nat.mod_lt (t / 30) (show 0 < nl (t % 5) - 2 by omega)
  unfold jOf
  generalize t / 30 % (nl (t % 5) - 2) = a at *
  generalize iOf t = i at *
  generalize nl (t % 5) = n at *
  intro e
  by_cases q : i + a < n - 1
  · rw [Nat.mod_eq_of_lt q] at e; omega
  · rw [Nat.mod_eq_sub_mod (by omega), Nat.mod_eq_of_lt (by omega)] at e; omega
noncomputable abbrev natsD (W : List Nat) : D := .list (W.map fun (k : Nat) => .int (k : Int))
noncomputable def σA (W : List Nat) (t : Nat) : Sg := [("tails", .list [.strT (tl (t % 5) (iOf t)), .strT (tl (t % 5) (jOf t)), .strT (Str.ofString "amp;")]), ("signs", .str ⟨#[cc (t % 5) (iOf t), cc (t % 5) (jOf t), 38]⟩),
  ("names", .list ((namesP (t % 5)).map .str)), ("hand", .int (t % 5 : Nat)), ("word", natsD W), ("total", .int (t : Nat))]
section
variable {prog : Program} {w : World} {P : Params} {env : Env} {o : Out}
set_option maxHeartbeats 4000000 in
theorem lawA (hs : env.scope = lawSc) {ns : List Int} (hl : ns.length ≤ 63) (next : ∀ (W : List Nat) (t : Nat), W.length = 6 → (∀ k ∈ W, k < 3) → ExL prog w (TK (KF P)) 23 env (σA W t) [] ((lawSts P).drop 10) o) :
    ExL prog w (TK (KF P)) 23 env [("script", .list (ns.map .int))] [] (lawSts P) o := by
  have dOk : ∀ x ∈ (ns.take 8).map (·.fmod 1000000), 0 ≤ x ∧ x ≤ 1000000 := fun x hx => by
    obtain ⟨y, _, rfl⟩ := List.mem_map.mp hx
    have := Int.fmod_nonneg_of_pos y (show (0 : Int) < 1000000 by decide)
    have := Int.fmod_lt_of_pos y (show (0 : Int) < 1000000 by decide)
    omega
  have dLen : ((ns.take 8).map (·.fmod 1000000)).length ≤ 8 := by rw [List.length_map, List.length_take]; omega
  refine ExL.cons (ExTree.eqO (ExS.asgM (ds := (ns.map .int).take 8) (fun | .int k => .int (k.fmod 1000000) | _ => .none) hs (by decide +kernel) (by decide +kernel) (by decide +kernel) (ns := ["script"]) rfl (by decide +kernel) (by decide +kernel) (by decide +kernel)
      (EvI.list (EvE.slice (by decreasing_trivial) EvP.none (EvP.some EvE.cInt) (by rw [List.length_map]; omega) (slice_upto 8))) (by rw [List.length_take]; omega) (fun C d hd => ?_) (fun _ => rfl)) (o' := .next [("drawn", .list (((ns.take 8).map (·.fmod 1000000)).map .int)), ("script", .list (ns.map .int))] []) ?_) ?_
  · rw [← List.map_take] at hd
    obtain ⟨x, hx, rfl⟩ := List.mem_map.mp hd
    clear hd hx
    generalize he' : cenv _ C env = env'
    have hs₂ := (congrArg Env.scope he').symm.trans (cenv_scope hs)
    exact EvE.bin (by decreasing_trivial) (EvE.eq (EvE.bin (by decreasing_trivial) (by decreasing_trivial) (BinR.pow (by decide) (by decide) (by decide))) (by rfl)) (BinR.mod (by decide))
  · rw [← List.map_take, List.map_map, List.map_map]; rfl
  generalize (ns.take 8).map (·.fmod 1000000) = dr at *
  refine ExL.cons (ExS.asgC (EvE.callF (EvF.bk (by sizeOf_list_dec) (by rfl) bSum (by decide)) Quick.builtin rfl (EvL.cons (starE rfl) (by decreasing_trivial) EvL.nil) (CallC.sum (by omega) dOk)) hs (by decide +kernel) (ns := ["drawn", "script"]) rfl (by decide +kernel)) ?_
  obtain ⟨t, ht⟩ : ∃ t : Nat, dr.sum = (t : Int) := ⟨dr.sum.toNat, by have := (sum_bound dr 1000000 dOk).1; omega⟩
  rw [ht]
  refine ExL.cons (ExTree.eqO (ExS.asgM (ds := (dr.map .int).take 6) (fun | .int k => .int (k.fmod 3) | _ => .none) hs (by decide +kernel) (by decide +kernel) (by decide +kernel) (ns := ["total", "drawn", "script"]) rfl (by decide +kernel) (by decide +kernel) (by decide +kernel)
      (EvI.list (EvE.slice (by decreasing_trivial) EvP.none (EvP.some EvE.cInt) (by rw [List.length_map]; omega) (slice_upto 6))) (by rw [List.length_take]; omega) (fun C d hd => ?_) (fun _ => rfl)) (o' := .next [("letters", .list (((dr.take 6).map (·.fmod 3)).map .int)), ("total", .int t), ("drawn", .list (dr.map .int)), ("script", .list (ns.map .int))] []) ?_) ?_
  · rw [← List.map_take] at hd
    obtain ⟨x, hx, rfl⟩ := List.mem_map.mp hd
    clear hd hx
    generalize he' : cenv _ C env = env'
    have hs₂ := (congrArg Env.scope he').symm.trans (cenv_scope hs)
    exact EvE.bin (by decreasing_trivial) (by decreasing_trivial) (BinR.mod (by decide))
  · rw [← List.map_take, List.map_map, List.map_map]; rfl
  have lOk : ∀ x ∈ (dr.take 6).map (·.fmod 3), 0 ≤ x ∧ x < 3 := fun x hx => by
    obtain ⟨y, _, rfl⟩ := List.mem_map.mp hx
    exact ⟨Int.fmod_nonneg_of_pos y (show (0 : Int) < 3 by decide), Int.fmod_lt_of_pos y (show (0 : Int) < 3 by decide)⟩
  have lLen : ((dr.take 6).map (·.fmod 3)).length ≤ 6 := by rw [List.length_map, List.length_take]; omega
  generalize (dr.take 6).map (·.fmod 3) = L at *
  obtain ⟨W, hW, eW⟩ := toNats (L ++ ([0, 1, 1, 0, 0, 1] : List Int).drop L.length) (fun x hx => by
    rcases List.mem_append.mp hx with hx | hx
    · exact lOk x hx
    · have := List.mem_of_mem_drop hx
      simp at this
      omega)
  have wLen : W.length = 6 := by
    have := congrArg List.length eW
    simp only [List.length_map, List.length_append, List.length_drop, List.length_cons, List.length_nil] at this
    omega
  refine ExL.cons (ExTree.eqO (ExS.asgC (EvE.bin (by decreasing_trivial) (EvE.slice (ds := ([0, 1, 1, 0, 0, 1] : List Int).map .int) (EvE.eq (by decreasing_trivial) (by rfl)) (EvP.some (i := (L.length : Nat)) (EvE.eq (EvE.callF (EvF.bk (by sizeOf_list_dec) (by rfl) bLen (by decide)) Quick.builtin rfl (EvL.cons (starE rfl) (by decreasing_trivial) EvL.nil) (CallC.len (by rw [List.length_map]; omega))) (by rw [List.length_map]))) EvP.none (by decide) (slice_from L.length))
      (BinR.catL (by rw [List.length_map, List.length_drop]; simp; omega))) hs (by decide +kernel) (ns := ["letters", "total", "drawn", "script"]) rfl (by decide +kernel)) (o' := .next [("word", natsD W), ("letters", .list (L.map .int)), ("total", .int t), ("drawn", .list (dr.map .int)), ("script", .list (ns.map .int))] []) ?_) ?_
  · have : (W.map fun (k : Nat) => D.int (k : Int)) = (L ++ ([0, 1, 1, 0, 0, 1] : List Int).drop L.length).map .int := by rw [← eW, List.map_map]; rfl
    unfold natsD
    rw [this, List.map_append, List.map_drop]
  refine ExTree.less (σ' := [("word", natsD W), ("total", .int t)]) (fun p hp => by
    simp only [List.mem_cons, List.not_mem_nil, or_false] at hp ⊢
    rcases hp with rfl | rfl <;> simp) ?_
  clear lOk lLen eW dOk dLen ht hl
  have hh : t % 5 < 5 := Nat.mod_lt _ (by decide)
  refine ExL.cons (ExTree.eqO (ExS.asgK (EvE.bin (by decreasing_trivial) (by decreasing_trivial) (BinR.mod (by decide))) (by sizeOf_list_dec) rfl (ns := ["word", "total"]) rfl (by decide +kernel)) (o' := .next [("hand", .int (t % 5 : Nat)), ("word", natsD W), ("total", .int t)] []) ?_) ?_
  · have : ((t : Int).fmod 5) = ((t % 5 : Nat) : Int) := by rw [Int.fmod_eq_emod_of_nonneg _ (by decide)]; rfl
    rw [this]
  refine ExL.cons (ExS.asgK (EvE.callG (by sizeOf_list_dec) (by rfl) (by rfl) rfl (EvL.cons (starE rfl) (by decreasing_trivial) EvL.nil) ((fn157 (t % 5) hh).less (by decide))) (by sizeOf_list_dec) rfl (ns := ["hand", "word", "total"]) rfl (by decide +kernel)) ?_
  have n3 := (nmOk (t % 5) hh).1
  have n7 : nl (t % 5) ≤ 100 := by
    have : ∀ h, h < 5 → nl h ≤ 100 := by decide +kernel
    exact this _ hh
  have lenE : ∀ {σ : Sg} {p q p' : Pos}, ((Str.ofString "names", D.list ((namesP (t % 5)).map .str)) : PySem.Str × D) ∈ σ → EvE prog w (TK (KF P)) 23 env σ [] (.Call (.Name (Str.ofString "len") p) [.Name (Str.ofString "names") q] [] p') (.int (nl (t % 5) : Nat)) := fun {σ p q p'} hm =>
    EvE.eq (EvE.callF (EvF.bk (by sizeOf_list_dec) (by rfl) bLen (by decide)) Quick.builtin rfl (EvL.cons (starE rfl) (EvE.name (by sizeOf_list_dec) hm) EvL.nil) (CallC.len (by rw [List.length_map]; exact Nat.le_trans n7 (by decide)))) (by rw [List.length_map]; rfl)
  refine ExL.cons (ExTree.eqO (ExS.asgK (EvE.bin (by decreasing_trivial) (EvE.bin (EvE.bin (by decreasing_trivial) (by decreasing_trivial) (BinR.div (by decide) (by decide))) (EvE.bin (lenE List.mem_cons_self) (by decreasing_trivial) BinR.sub) (BinR.mod (by omega))) BinR.add) (by sizeOf_list_dec) rfl (ns := ["names", "hand", "word", "total"]) rfl (by decide +kernel)) (o' := .next [("first", .int (iOf t : Nat)), ("names", .list ((namesP (t % 5)).map .str)), ("hand", .int (t % 5 : Nat)), ("word", natsD W), ("total", .int t)] []) ?_) ?_
  · have : (1 + ((t : Int).fdiv 5).fmod (((nl (t % 5) : Nat) : Int) - 1)) = ((iOf t : Nat) : Int) := by
      unfold iOf
      rw [Int.fdiv_eq_ediv_of_nonneg _ (by decide), Int.fmod_eq_emod_of_nonneg _ (by omega)]
      have e1 : ((nl (t % 5) : Nat) : Int) - 1 = ((nl (t % 5) - 1 : Nat) : Int) := by omega
      rw [e1]
      norm_cast
    rw [this]
  refine ExL.cons (ExTree.eqO (ExS.asgK (EvE.bin (by decreasing_trivial) (EvE.bin (EvE.bin (by decreasing_trivial) (EvE.bin (EvE.bin (by decreasing_trivial) (by decreasing_trivial) (BinR.div (by decide) (by decide))) (EvE.bin (lenE (by array_mem_dec)) (by decreasing_trivial) BinR.sub) (BinR.mod (by omega))) BinR.add) (EvE.bin (lenE (by array_mem_dec)) (by decreasing_trivial) BinR.sub) (BinR.mod (by omega))) BinR.add) (by sizeOf_list_dec) rfl (ns := ["first", "names", "hand", "word", "total"]) rfl (by decide +kernel)) (o' := .next [("second", .int (jOf t : Nat)), ("first", .int (iOf t : Nat)), ("names", .list ((namesP (t % 5)).map .str)), ("hand", .int (t % 5 : Nat)), ("word", natsD W), ("total", .int t)] []) ?_) ?_
  · have : (1 + ((iOf t : Nat) + ((t : Int).fdiv 30).fmod (((nl (t % 5) : Nat) : Int) - 2)).fmod (((nl (t % 5) : Nat) : Int) - 1)) = ((jOf t : Nat) : Int) := by
      unfold jOf
      rw [Int.fdiv_eq_ediv_of_nonneg _ (by decide), Int.fmod_eq_emod_of_nonneg _ (by omega), Int.fmod_eq_emod_of_nonneg _ (by omega)]
      have e1 : ((nl (t % 5) : Nat) : Int) - 1 = ((nl (t % 5) - 1 : Nat) : Int) := by omega
      have e2 : ((nl (t % 5) : Nat) : Int) - 2 = ((nl (t % 5) - 2 : Nat) : Int) := by omega
      rw [e1, e2]
      norm_cast
    rw [this]
  have hi := iOf_lt t
  have hj := jOf_lt t
  have nmE : ∀ {σ : Sg} {p q p' : Pos} {x : PySem.Str} {i : Nat}, i < nl (t % 5) → nameOk env x = true → ((Str.ofString "names", D.list ((namesP (t % 5)).map .str)) : PySem.Str × D) ∈ σ → (x, D.int (i : Nat)) ∈ σ → EvE prog w (TK (KF P)) 23 env σ [] (.Subscript (.Name (Str.ofString "names") p) (.Name x q) p') (.str (nm (t % 5) i)) := fun {σ p q p' x i} hi hx hm hm' =>
    EvE.idxI (EvE.name (by sizeOf_list_dec) hm) (EvE.name hx hm') (by omega) (nm_get hi) fun _ _ => rfl
  have sgE : ∀ {σ : Sg} {e : Expr} {p q : Pos} {kk : Nat} {i : Nat}, i < nl (t % 5) → EvE prog w (TK (KF P)) 23 env σ [] e (.str (nm (t % 5) i)) → EvE prog w (TK (KF P)) 23 env σ [] (.Subscript e (.Constant (.int 0) kk p) q) (.str ⟨#[cc (t % 5) i]⟩) := fun {σ e p q kk i} hi he =>
    EvE.weak (EvE.idxS he EvE.cInt (by decide) (by decide) ((nmOk (t % 5) hh).2 i hi).2 fun _ _ => rfl)
  have tlE : ∀ {σ : Sg} {e : Expr} {p q r : Pos} {kk : Nat} {i : Nat}, i < nl (t % 5) → EvE prog w (TK (KF P)) 23 env σ [] e (.str (nm (t % 5) i)) → EvE prog w (TK (KF P)) 23 env σ [] (.Subscript e (.Slice (some (.Constant (.int 1) kk p)) none none r) q) (.strT (tl (t % 5) i)) := fun {σ e p q r kk i} hi he =>
    EvE.tailS he EvE.cInt ((nmOk (t % 5) hh).2 i hi).1.1 (by have := ((nmOk (t % 5) hh).2 i hi).1.2; omega)
  refine ExL.cons (ExTree.eqO (ExS.asgC (EvE.bin (EvE.bin (sgE hi.2 (nmE hi.2 (by sizeOf_list_dec) (by array_mem_dec) (by array_mem_dec))) (sgE hj.2 (nmE hj.2 (by sizeOf_list_dec) (by array_mem_dec) (by array_mem_dec))) (BinR.cat (by show 1 + 1 ≤ 1000000; decide))) (by decreasing_trivial) (BinR.cat (by rw [len_cps (_ ++ _), cat_cps]; show 2 + (Str.ofString "&").length ≤ 1000000; decide +kernel))) hs (by decide +kernel) (ns := ["second", "first", "names", "hand", "word", "total"]) rfl (by decide +kernel)) (o' := .next [("signs", .str ⟨#[cc (t % 5) (iOf t), cc (t % 5) (jOf t), 38]⟩), ("second", .int (jOf t : Nat)), ("first", .int (iOf t : Nat)), ("names", .list ((namesP (t % 5)).map .str)), ("hand", .int (t % 5 : Nat)), ("word", natsD W), ("total", .int t)] []) ?_) ?_
  · have : ((⟨#[cc (t % 5) (iOf t)]⟩ : PySem.Str) ++ ⟨#[cc (t % 5) (jOf t)]⟩ ++ Str.ofString "&") = ⟨#[cc (t % 5) (iOf t), cc (t % 5) (jOf t), 38]⟩ := str_ext (by
      rw [cat_cps, cat_cps]
      have : (Str.ofString "&").cps.toList = [38] := by decide +kernel
      rw [this]; rfl)
    rw [this]
  refine ExL.cons (ExS.asgC (EvE.listK (EvL.cons (starE rfl) (tlE hi.2 (nmE hi.2 (by sizeOf_list_dec) (by array_mem_dec) (by array_mem_dec))) (EvL.cons (starE rfl) (tlE hj.2 (nmE hj.2 (by sizeOf_list_dec) (by array_mem_dec) (by array_mem_dec))) (EvL.cons (starE rfl) EvE.cStrT EvL.nil))) rfl) hs (by decide +kernel) (ns := ["signs", "second", "first", "names", "hand", "word", "total"]) rfl (by decide +kernel)) ?_
  refine ExTree.less (σ' := σA W t) (fun p hp => ?_) (next W t wLen hW)
  unfold σA at hp
  simp only [List.mem_cons, List.not_mem_nil, or_false] at hp ⊢
  rcases hp with rfl | rfl | rfl | rfl | rfl | rfl <;> simp
end
noncomputable def sgn (h i j k : Nat) : Nat := [cc h i, cc h j, 38].getD k 0
noncomputable def tlk (h i j k : Nat) : PySem.Str := [tl h i, tl h j, Str.ofString "amp;"].getD k (Str.ofString "")
noncomputable def him (k : Nat) : List Nat := [[2, 0, 0, 1], [2, 1, 1], [2, 0, 2]].getD k []
noncomputable def ch (c : Nat) : PySem.Str := ⟨#[c]⟩
noncomputable def Xs (h i j : Nat) (W : List Nat) : PySem.Str := Txt.join (Str.ofString "") (W.map fun k => ch (sgn h i j k))
noncomputable def Wr (h i j : Nat) (W : List Nat) : PySem.Str := escL (escP h) (Xs h i j W)
noncomputable def knownS (h : Nat) : PySem.Str := Txt.join (Str.ofString "") ((namesP h).map fun x => ch (x.cps.toList.headD 0))
noncomputable def allS : PySem.Str := Str.ofString "&<>\"'\r\n\te"
noncomputable def bareX (h : Nat) : List PySem.Str := (allS.cps.toList.filter fun c => !Txt.contains (knownS h) (ch c)).map ch
noncomputable def bareS (h : Nat) : PySem.Str := Txt.join (Str.ofString "") (bareX h)
noncomputable def zz (h i j : Nat) : Nat → PySem.Str
  | 0 => ch (cc h i) ++ ch (cc h i) ++ ch (cc h j)
  | 1 => ch (cc h j) ++ ch (cc h j)
  | _ => ch (cc h i) ++ Str.ofString "&"
noncomputable def im1 (h i j : Nat) (W : List Nat) : PySem.Str := Txt.replace (Wr h i j W) (tl h i) (zz h i j 0)
noncomputable def im2 (h i j : Nat) (W : List Nat) : PySem.Str := Txt.replace (im1 h i j W) (tl h j) (zz h i j 1)
noncomputable def img (h i j : Nat) (W : List Nat) : PySem.Str := Txt.replace (im2 h i j W) (Str.ofString "amp;") (zz h i j 2)
noncomputable def plainL (h i j : Nat) : List PySem.Str := ([cc h i, cc h j, 38].map ch).flatMap fun s => ((namesP 1).filter fun x => ch (x.cps.toList.headD 0) == s).map fun x => Str.ofString "&" ++ ⟨(x.cps.toList.drop 1).toArray⟩
noncomputable def b0 (h i j k : Nat) : List Nat := 38 :: (tlk h i j k).cps.toList
noncomputable def bi (h i j k : Nat) : List Nat := (him k).map (sgn h i j)
noncomputable def bst (h i j s k : Nat) : List Nat := if k < s then bi h i j k else b0 h i j k
noncomputable def cmb (h i j : Nat) : Bool :=
  ((List.range 3).all fun k => escC (escP h) (sgn h i j k) == b0 h i j k) && ((bareS h).cps.toList.all fun c => escC (escP h) c == [c] && c != 38) &&
  ((List.range 3).all fun k => (tlk h i j k).cps.toList.all fun c => escC (escP h) c == [c] && c != 38) && (escC (escP h) 38 == (Str.ofString "&amp;").cps.toList) &&
  ((List.range 3).all fun k => (List.range 3).all fun s => (Txt.replace ⟨(bst h i j s k).toArray⟩ (tlk h i j s) (zz h i j s)).cps.toList == bst h i j (s + 1) k) &&
  ((List.range 3).all fun k => escC attribP (sgn h i j k) == ((plainL h i j).getD k (Str.ofString "")).cps.toList) && ((plainL h i j).length == 3) && ((plainL h i j).all fun x => Nat.ble x.length 8) &&
  (cc h i != cc h j && cc h i != 38 && cc h j != 38) && ((List.range 3).all fun k => Nat.blt 0 (tlk h i j k).length && Nat.ble (tlk h i j k).length 6) && Nat.ble (bareS h).length 9
theorem cmb_all' : ∀ h, h < 5 → ∀ i, i < nl h → ∀ j, j < nl h → (i == 0 || j == 0 || i == j || cmb h i j) = true := by decide +kernel
theorem cmb_all {h i j : Nat} (hh : h < 5) (hi : i < nl h) (hj : j < nl h) (h1 : 1 ≤ i) (h2 : 1 ≤ j) (hij : i ≠ j) : cmb h i j = true := by
  have := cmb_all' h hh i hi j hj
  have e1 : (i == 0) = false := by simp; omega
  have e2 : (j == 0) = false := by simp; omega
  have e3 : (i == j) = false := by simp [hij]
  rw [e1, e2, e3] at this
  simpa using this
structure Cmb (h i j : Nat) : Prop where
  a : ∀ k, k < 3 → escC (escP h) (sgn h i j k) = b0 h i j k
  b : ∀ c, c ∈ (bareS h).cps.toList → escC (escP h) c = [c] ∧ c ≠ 38
  c : ∀ k, k < 3 → ∀ c, c ∈ (tlk h i j k).cps.toList → escC (escP h) c = [c] ∧ c ≠ 38
  d : escC (escP h) 38 = (Str.ofString "&amp;").cps.toList
  e : ∀ k, k < 3 → ∀ s, s < 3 → (Txt.replace ⟨(bst h i j s k).toArray⟩ (tlk h i j s) (zz h i j s)).cps.toList = bst h i j (s + 1) k
  f : ∀ k, k < 3 → escC attribP (sgn h i j k) = ((plainL h i j).getD k (Str.ofString "")).cps.toList
  g : (plainL h i j).length = 3
  g8 : ∀ x, x ∈ plainL h i j → x.length ≤ 8
  n1 : cc h i ≠ cc h j
  n2 : cc h i ≠ 38
  n3 : cc h j ≠ 38
  l : ∀ k, k < 3 → 0 < (tlk h i j k).length ∧ (tlk h i j k).length ≤ 6
  bl : (bareS h).length ≤ 9
theorem cmb_of {h i j : Nat} (hh : h < 5) (hi : i < nl h) (hj : j < nl h) (h1 : 1 ≤ i) (h2 : 1 ≤ j) (hij : i ≠ j) : Cmb h i j := by
  have c := cmb_all hh hi hj h1 h2 hij
  unfold cmb at c
  simp only [Bool.and_eq_true, List.all_eq_true, List.mem_range, beq_iff_eq, bne_iff_ne, Nat.ble_eq, Nat.blt_eq] at c
  obtain ⟨⟨⟨⟨⟨⟨⟨⟨⟨⟨x1, x2⟩, x3⟩, x4⟩, x5⟩, x6⟩, x7⟩, x8⟩, ⟨⟨x9, x10⟩, x11⟩⟩, x12⟩, x13⟩ := c
  exact ⟨x1, x2, x3, x4, x5, x6, x7, x8, x9, x10, x11, x12, x13⟩
theorem flat_congr {f g : Nat → List Nat} : ∀ {l : List Nat}, (∀ k ∈ l, f k = g k) → l.flatMap f = l.flatMap g
  | [], _ => rfl
  | k :: l, h => by
    rw [List.flatMap_cons, List.flatMap_cons, h k List.mem_cons_self, flat_congr fun x hx => h x (List.mem_cons_of_mem _ hx)]
section
variable {h i j : Nat} {W : List Nat}
theorem xs_cps : (Xs h i j W).cps.toList = W.map (sgn h i j) := by
  unfold Xs
  rw [join_cps, List.flatMap_map]
  show W.flatMap (fun k => [sgn h i j k]) = _
  induction W with
  | nil => rfl
  | cons k W ih => rw [List.flatMap_cons, ih]; rfl
theorem wr_cps (C : Cmb h i j) (hW : ∀ k ∈ W, k < 3) : (Wr h i j W).cps.toList = W.flatMap (b0 h i j) := by
  unfold Wr
  rw [escL_is, xs_cps, List.flatMap_map]
  exact flat_congr fun k hk => C.a k (hW k hk)
theorem amp1 : (Str.ofString "&").cps.toList = [38] := by decide +kernel
theorem wr_eq (C : Cmb h i j) (hW : ∀ k ∈ W, k < 3) : Wr h i j W = Txt.join (Str.ofString "") (W.map fun k => Str.ofString "&" ++ tlk h i j k) := str_ext (by
  rw [wr_cps C hW, join_cps, List.flatMap_map]
  refine flat_congr fun k hk => ?_
  rw [cat_cps, amp1]; rfl)
theorem wr_mem (C : Cmb h i j) (hW : ∀ k ∈ W, k < 3) {c : Nat} (hc : c ∈ (Wr h i j W).cps.toList) : c = 38 ∨ (escC (escP h) c = [c] ∧ c ≠ 38) := by
  rw [wr_cps C hW] at hc
  obtain ⟨k, hk, hm⟩ := List.mem_flatMap.mp hc
  rcases List.mem_cons.mp hm with rfl | hm
  · exact .inl rfl
  · exact .inr (C.c k (hW k hk) c hm)
theorem flat_self {f : Nat → List Nat} : ∀ {l : List Nat}, (∀ c ∈ l, f c = [c]) → l.flatMap f = l
  | [], _ => rfl
  | c :: l, h => by rw [List.flatMap_cons, h c List.mem_cons_self, flat_self fun x hx => h x (List.mem_cons_of_mem _ hx)]; rfl
theorem bare_eq (C : Cmb h i j) (hW : ∀ k ∈ W, k < 3) : escL (escP h) (bareS h ++ Wr h i j W) = bareS h ++ Txt.replace (Wr h i j W) (Str.ofString "&") (Str.ofString "&amp;") := str_ext (by
  have r := replace_is (x := Wr h i j W) (y := Str.ofString "&") (z := Str.ofString "&amp;") (by rw [amp1]; simp) (by rw [amp1]; exact Rp.one 38 _ _)
  rw [escL_is, cat_cps, cat_cps, List.flatMap_append, flat_self fun c hc => (C.b c hc).1, r]
  show _ ++ _ = _ ++ List.flatMap _ _
  congr 1
  refine flat_congr fun c hc => ?_
  rcases wr_mem C hW hc with rfl | ⟨e1, e2⟩
  · rw [C.d]; rfl
  · rw [e1]; unfold one; rw [if_neg e2])
theorem bst_head {s k : Nat} (hk : k < 3) : ∃ t, bst h i j s k = 38 :: t := by
  unfold bst
  split
  · match k, hk with
    | 0, _ => exact ⟨_, rfl⟩
    | 1, _ => exact ⟨_, rfl⟩
    | 2, _ => exact ⟨_, rfl⟩
  · exact ⟨_, rfl⟩
theorem rp_stage (C : Cmb h i j) {s : Nat} (hs : s < 3) : ∀ {W : List Nat}, (∀ k ∈ W, k < 3) → Rp (tlk h i j s).cps.toList (zz h i j s).cps.toList (W.flatMap (bst h i j s)) (W.flatMap (bst h i j (s + 1)))
  | [], _ => .nil
  | k :: W, hW => by
    have hk := hW k List.mem_cons_self
    have ih := rp_stage C hs fun x hx => hW x (List.mem_cons_of_mem _ hx)
    rw [List.flatMap_cons, List.flatMap_cons]
    have hl := (C.l s hs).1
    have hne : (tlk h i j s).cps.toList ≠ [] := fun e => by rw [len_cps, e] at hl; cases hl
    have r := replace_rp ⟨(bst h i j s k).toArray⟩ (tlk h i j s) (zz h i j s) hl
    rw [C.e k hk s hs] at r
    refine Rp.app hne (d := 38) (fun hm => (C.c s hs 38 hm).2 rfl) r ?_ ih
    cases W with
    | nil => exact .inl rfl
    | cons k' W' =>
      obtain ⟨t, e⟩ := bst_head (h := h) (i := i) (j := j) (s := s) (hW k' (by simp))
      rw [List.flatMap_cons, e]
      exact .inr ⟨_, rfl⟩
theorem stage_eq (C : Cmb h i j) {s : Nat} (hs : s < 3) (hW : ∀ k ∈ W, k < 3) {x : PySem.Str} (hx : x.cps.toList = W.flatMap (bst h i j s)) : (Txt.replace x (tlk h i j s) (zz h i j s)).cps.toList = W.flatMap (bst h i j (s + 1)) := by
  have hl := (C.l s hs).1
  have hne : (tlk h i j s).cps.toList ≠ [] := fun e => by rw [len_cps, e] at hl; cases hl
  rw [replace_is hne (hx ▸ rp_stage C hs hW)]
theorem img_cps (C : Cmb h i j) (hW : ∀ k ∈ W, k < 3) : (img h i j W).cps.toList = (W.flatMap him).map (sgn h i j) := by
  have e0 : (Wr h i j W).cps.toList = W.flatMap (bst h i j 0) := wr_cps C hW
  have e1 : (im1 h i j W).cps.toList = W.flatMap (bst h i j 1) := stage_eq C (s := 0) (by decide) hW e0
  have e2 : (im2 h i j W).cps.toList = W.flatMap (bst h i j 2) := stage_eq C (s := 1) (by decide) hW e1
  have e3 : (img h i j W).cps.toList = W.flatMap (bst h i j 3) := stage_eq C (s := 2) (by decide) hW e2
  rw [e3, List.map_flatMap]
  refine flat_congr fun k hk => ?_
  unfold bst bi
  rw [if_pos (hW k hk)]
theorem him_lt {k : Nat} : ∀ m ∈ him k, m < 3 := by
  unfold him
  match k with
  | 0 => decide
  | 1 => decide
  | 2 => decide
  | k + 3 => intro m hm; simp at hm
theorem plain_eq (C : Cmb h i j) (hW : ∀ k ∈ W, k < 3) : escL attribP (img h i j W) = Txt.join (Str.ofString "") (W.flatMap fun k => (him k).map fun m => (plainL h i j).getD m (Str.ofString "")) := str_ext (by
  rw [escL_is, img_cps C hW, join_cps, List.flatMap_map, List.flatMap_assoc, List.flatMap_assoc]
  refine flat_congr fun k hk => ?_
  rw [List.flatMap_map]
  exact flat_congr fun m hm => C.f m (him_lt m hm))
theorem wr_len (C : Cmb h i j) (hW : ∀ k ∈ W, k < 3) (hl : W.length = 6) : (Wr h i j W).length ≤ 48 := by
  rw [len_cps, wr_cps C hW]
  have : ∀ l : List Nat, (∀ k ∈ l, k < 3) → (l.flatMap (b0 h i j)).length ≤ l.length * 8 := fun l => by
    induction l with
    | nil => simp
    | cons k l ih =>
      intro hk
      have h1 := (C.l k (hk k List.mem_cons_self)).2
      have h2 := ih fun x hx => hk x (List.mem_cons_of_mem _ hx)
      rw [List.flatMap_cons, List.length_append, List.length_cons]
      have : (b0 h i j k).length ≤ 7 := by unfold b0; rw [List.length_cons, ← len_cps]; omega
      omega
  have := this W hW
  omega
theorem him_len {k : Nat} : (him k).length ≤ 4 := by
  unfold him
  match k with
  | 0 => decide
  | 1 => decide
  | 2 => decide
  | k + 3 => simp
theorem V_len (hl : W.length = 6) : (W.flatMap him).length ≤ 24 := by
  have := flat_le (f := him) (B := 4) (fun k => him_len) W
  omega
theorem bst_len (C : Cmb h i j) {s k : Nat} (hk : k < 3) : (bst h i j s k).length ≤ 8 := by
  unfold bst
  split
  · unfold bi; rw [List.length_map]; exact Nat.le_trans him_len (by decide)
  · have := (C.l k hk).2
    unfold b0; rw [List.length_cons, ← len_cps]; omega
theorem flat_len {f : Nat → List Nat} {B : Nat} : ∀ l : List Nat, (∀ k ∈ l, (f k).length ≤ B) → (l.flatMap f).length ≤ l.length * B
  | [], _ => by simp
  | k :: l, h => by
    have h1 := h k List.mem_cons_self
    have h2 := flat_len l fun x hx => h x (List.mem_cons_of_mem _ hx)
    rw [List.flatMap_cons, List.length_append, List.length_cons, Nat.add_mul]
    omega
theorem im1_len (C : Cmb h i j) (hW : ∀ k ∈ W, k < 3) (hl : W.length = 6) : (im1 h i j W).length ≤ 48 := by
  have e0 : (Wr h i j W).cps.toList = W.flatMap (bst h i j 0) := wr_cps C hW
  have e1 : (im1 h i j W).cps.toList = W.flatMap (bst h i j 1) := stage_eq C (s := 0) (by decide) hW e0
  rw [len_cps, e1]
  have := flat_len (f := bst h i j 1) (B := 8) W fun k hk => bst_len C (hW k hk)
  omega
theorem im2_len (C : Cmb h i j) (hW : ∀ k ∈ W, k < 3) (hl : W.length = 6) : (im2 h i j W).length ≤ 48 := by
  have e0 : (Wr h i j W).cps.toList = W.flatMap (bst h i j 0) := wr_cps C hW
  have e1 : (im1 h i j W).cps.toList = W.flatMap (bst h i j 1) := stage_eq C (s := 0) (by decide) hW e0
  have e2 : (im2 h i j W).cps.toList = W.flatMap (bst h i j 2) := stage_eq C (s := 1) (by decide) hW e1
  rw [len_cps, e2]
  have := flat_len (f := bst h i j 2) (B := 8) W fun k hk => bst_len C (hW k hk)
  omega
theorem img_len (C : Cmb h i j) (hW : ∀ k ∈ W, k < 3) (hl : W.length = 6) : (img h i j W).length ≤ 24 := by
  rw [len_cps, img_cps C hW, List.length_map]
  exact V_len hl
theorem sg_not (C : Cmb h i j) {k s : Nat} (hk : k < 3) (hs : s < 3) : sgn h i j k ∉ (tlk h i j s).cps.toList := fun hm => by
  have h1 := (C.c s hs _ hm).1
  rw [C.a k hk] at h1
  have h2 := congrArg List.length h1
  have h3 := (C.l k hk).1
  unfold b0 at h2
  rw [List.length_cons, ← len_cps] at h2
  simp at h2
  omega
theorem tl_ne (C : Cmb h i j) {s : Nat} (hs : s < 3) : (tlk h i j s == zz h i j s) = false := by
  rw [beq_eq_false_iff_ne]
  intro e
  match s, hs with
  | 0, _ => exact sg_not C (k := 0) (s := 0) (by decide) (by decide) (by rw [e]; show _ ∈ (ch _ ++ ch _ ++ ch _).cps.toList; rw [cat_cps, cat_cps]; exact List.mem_cons_self)
  | 1, _ => exact sg_not C (k := 1) (s := 1) (by decide) (by decide) (by rw [e]; show _ ∈ (ch _ ++ ch _).cps.toList; rw [cat_cps]; exact List.mem_cons_self)
  | 2, _ => exact sg_not C (k := 0) (s := 2) (by decide) (by decide) (by rw [e]; show _ ∈ (ch _ ++ Str.ofString "&").cps.toList; rw [cat_cps]; exact List.mem_cons_self)
theorem rep_len (C : Cmb h i j) (hW : ∀ k ∈ W, k < 3) (hl : W.length = 6) : (Txt.replace (Wr h i j W) (Str.ofString "&") (Str.ofString "&amp;")).length ≤ 1000 := by
  have r := replace_is (x := Wr h i j W) (y := Str.ofString "&") (z := Str.ofString "&amp;") (by rw [amp1]; simp) (by rw [amp1]; exact Rp.one 38 _ _)
  rw [r, len_cps]
  show (List.flatMap _ _).length ≤ _
  have := flat_len (f := one 38 (Str.ofString "&amp;").cps.toList) (B := 5) (Wr h i j W).cps.toList fun c _ => by
    unfold one
    split
    · decide +kernel
    · simp
  have h2 := wr_len C hW hl
  rw [len_cps] at h2
  omega
end
noncomputable abbrev sgD (h i j : Nat) : D := .str ⟨#[cc h i, cc h j, 38]⟩
noncomputable abbrev tlD (h i j : Nat) : D := .list [.strT (tl h i), .strT (tl h j), .strT (Str.ofString "amp;")]
noncomputable abbrev nmD (h : Nat) : D := .list ((namesP h).map .str)
noncomputable def σB (h i j : Nat) (W : List Nat) (t : Nat) : Sg := [("image", .str (img h i j W)), ("signs", sgD h i j), ("word", natsD W), ("total", .int (t : Nat))]
theorem known_ok : ∀ h, h < 5 → ((namesP h).all fun x => Nat.blt 0 x.length && x.cps[0]? == some (x.cps.toList.headD 0)) = true := by decide +kernel
theorem first1 : ∀ x ∈ namesP 1, 0 < x.length ∧ x.length ≤ 10 ∧ x.cps[0]? = some (x.cps.toList.headD 0) := by
  have : ((namesP 1).all fun x => Nat.blt 0 x.length && Nat.ble x.length 10 && x.cps[0]? == some (x.cps.toList.headD 0)) = true := by decide +kernel
  intro x hx
  have := List.all_eq_true.mp this x hx
  simp only [Bool.and_eq_true, Nat.blt_eq, Nat.ble_eq, beq_iff_eq] at this
  exact ⟨this.1.1, this.1.2, this.2⟩
theorem flat_leG {α β : Type} {g : α → List β} {B : Nat} (h : ∀ a, (g a).length ≤ B) : ∀ l : List α, (l.flatMap g).length ≤ l.length * B
  | [] => by simp
  | a :: l => by
    have h1 := h a
    have h2 := flat_leG h l
    rw [List.flatMap_cons, List.length_append, List.length_cons, Nat.add_mul]
    omega
noncomputable def pN : D → D → Bool
  | .str s, .str x => ch (x.cps.toList.headD 0) == s
  | _, _ => false
noncomputable def fN : D → PySem.Str
  | .str x => Str.ofString "&" ++ ⟨(x.cps.toList.drop 1).toArray⟩
  | _ => Str.ofString ""
noncomputable def esW : D → List D
  | .int k => (him k.toNat).map fun (m : Nat) => .int (m : Int)
  | _ => []
noncomputable def fW (h i j : Nat) : D → PySem.Str
  | .int m => (plainL h i j).getD m.toNat (Str.ofString "")
  | _ => Str.ofString ""
theorem esW_len : ∀ d, (esW d).length ≤ 4
  | .int k => by show ((him k.toNat).map fun (m : Nat) => D.int (m : Int)).length ≤ 4; rw [List.length_map]; exact him_len
  | .none | .bool _ | .flt _ | .str _ | .strT _ | .list _ | .tup _ | .ws _ _ _ | .mut _ => Nat.zero_le _
theorem map_strs {α : Type} (f : α → PySem.Str) (l : List α) : (l.map fun a => D.str (f a)) = (l.map f).map .str := by rw [List.map_map]; rfl
section
variable {prog : Program} {w : World} {P : Params} {env : Env} {o : Out}
theorem EvE.sgK {n : Nat} {σ : Sg} {h i j k : Nat} {e x : Expr} {p : Pos} {T : Heap → Prop} {μ : List (Addr × List D)} (hk : k < 3) (he : EvE prog w T n env σ μ e (sgD h i j)) (hx : EvE prog w T n env σ μ x (.int (k : Nat)))
    (hs : ∀ o iv, subscripted x false o iv = operate [o, iv] (getItem o iv)) : EvE prog w T n env σ μ (.Subscript e x p) (.str (ch (sgn h i j k))) :=
  EvE.weak (EvE.idxS he hx (by omega) (by omega) (by
    match k, hk with
    | 0, _ => rfl
    | 1, _ => rfl
    | 2, _ => rfl) hs)
theorem EvE.tlK {n : Nat} {σ : Sg} {h i j k : Nat} {e x : Expr} {p : Pos} {T : Heap → Prop} {μ : List (Addr × List D)} (hk : k < 3) (he : EvE prog w T n env σ μ e (tlD h i j)) (hx : EvE prog w T n env σ μ x (.int (k : Nat)))
    (hs : ∀ o iv, subscripted x false o iv = operate [o, iv] (getItem o iv)) : EvE prog w T n env σ μ (.Subscript e x p) (.strT (tlk h i j k)) :=
  EvE.idxI he hx (by omega) (by
    match k, hk with
    | 0, _ => rfl
    | 1, _ => rfl
    | 2, _ => rfl) hs
/-- a joined comprehension over one list -/
theorem EvE.joinM {T : Heap → Prop} {n : Nat} {σ : Sg} {sc scope : Scope} {μ : List (Addr × List D)} {o elt iter : Expr} {x : PySem.Str} {px pos apos pos' : Pos} {ds : List D} {xs : List PySem.Str} {ns : List PySem.Str} (f : D → D) (hsc : env.scope = sc) (hc : compOkS scope sc [x, ".0"] = true) (hn : σ.map (·.1) = ns) (hf : (ns.all fun p => !(p == x)) = true) (h0 : (ns.all fun p => !(p == ".0")) = true)
    (hi : EvI prog w T n env σ μ iter ds) (hsz : ds.length ≤ 100000) (he : ∀ C d, d ∈ ds → EvE prog w T n (cenv scope C env) ((x, d) :: σ) μ elt (f d)) (hs : ∀ x, foldedSetIterable iter env x = pure x)
    (hx : ds.map f = xs.map .str) (hj : JoinOk (Str.ofString "") xs = true) (ho : EvE prog w T n env σ μ o (.str (Str.ofString "")))
    (hbase : attributeBase o "join" env (eval o env) = eval o env := by rfl)
    (hfew : ((backTo pos' (starEach [Expr.ListComp elt [⟨.Name x px, iter, [], 0⟩] scope pos] env)).all (fun x => !x.1) && (backToKw pos' (keywordEach [] env)).all (fun x => x.1.isSome)
      && decide (([Expr.ListComp elt [⟨.Name x px, iter, [], 0⟩] scope pos] : List Expr).length + ([] : List Keyword).length + (if ([] : List Keyword).isEmpty then 0 else 1) < 30)) = true := by rfl)
    (hline : (apos.endLine == pos'.line) = true := by rfl) (htrees : backTo pos' (starEach [Expr.ListComp elt [⟨.Name x px, iter, [], 0⟩] scope pos] env) = [(false, eval (.ListComp elt [⟨.Name x px, iter, [], 0⟩] scope pos) env)] := by rfl) :
    EvE prog w T n env σ μ (.Call (.Attribute o "join" apos) [.ListComp elt [⟨.Name x px, iter, [], 0⟩] scope pos] [] pos') (.str (Txt.join (Str.ofString "") xs)) :=
  EvE.join hbase hfew hline htrees ho (EvE.eq (EvE.compM f hsc hc hn hf h0 hi hsz he hs) (by rw [hx])) hj
set_option maxHeartbeats 4000000 in
theorem lawB (hs : env.scope = lawSc) {W : List Nat} {t h i j : Nat} (hh : h < 5) (C : Cmb h i j) (hl : W.length = 6) (hW : ∀ k ∈ W, k < 3) (next : ExL prog w (TK (KF P)) 23 env (σB h i j W t) [] ((lawSts P).drop 16) o) :
    ExL prog w (TK (KF P)) 23 env [("tails", tlD h i j), ("signs", sgD h i j), ("names", nmD h), ("hand", .int (h : Nat)), ("word", natsD W), ("total", .int (t : Nat))] [] ((lawSts P).drop 10) o := by
  have xlen : (Xs h i j W).length ≤ 100 := by rw [len_cps, xs_cps, List.length_map, hl]; decide
  have wlen := wr_len C hW hl
  have ampLen : (Str.ofString "&").length = 1 := by decide +kernel
  -- written
  refine ExL.cons (ExS.asgK (EvE.callG (by sizeOf_list_dec) (by rfl) (by rfl) rfl (EvL.cons (starE rfl) (by decreasing_trivial) (EvL.cons (starE rfl) (EvE.joinM (xs := W.map fun k => ch (sgn h i j k)) (fun | .int k => .str (ch (sgn h i j k.toNat)) | _ => .none) hs (by decide +kernel) (ns := ["tails", "signs", "names", "hand", "word", "total"]) rfl (by decide +kernel) (by decide +kernel)
    (EvI.list (by decreasing_trivial)) (by rw [List.length_map]; omega) (fun C' d hd => ?_) (fun _ => rfl) ?_ ?_ EvE.cStr) EvL.nil)) ((fn150 xlen h hh).less (by decide))) (by sizeOf_list_dec) rfl (ns := ["tails", "signs", "names", "hand", "word", "total"]) rfl (by decide +kernel)) ?_
  · obtain ⟨k, hk, rfl⟩ := List.mem_map.mp hd
    clear hd
    generalize he' : cenv _ C' env = env'
    have hs₂ := (congrArg Env.scope he').symm.trans (cenv_scope hs)
    show EvE _ _ _ _ _ _ _ _ (.str (ch (sgn h i j k)))
    exact EvE.sgK (hW k hk) (by decreasing_trivial) (by decreasing_trivial) (fun _ _ => rfl)
  · rw [List.map_map, List.map_map]; rfl
  · refine joinOk_small (B := 1) (fun x hx => ?_) (by rw [List.length_map]; omega)
    obtain ⟨k, _, rfl⟩ := List.mem_map.mp hx
    exact Nat.le_refl _
  show ExL _ _ _ _ _ [("written", .str (Wr h i j W)), ("tails", tlD h i j), ("signs", sgD h i j), ("names", nmD h), ("hand", .int (h : Nat)), ("word", natsD W), ("total", .int (t : Nat))] _ _ _
  refine ExL.cons (ExS.ifF (EvT.eq (EvT.cmp rfl (by decreasing_trivial) (EvE.joinM (xs := W.map fun k => Str.ofString "&" ++ tlk h i j k) (fun | .int k => .str (Str.ofString "&" ++ tlk h i j k.toNat) | _ => .none) hs (by decide +kernel) (ns := ["written", "tails", "signs", "names", "hand", "word", "total"]) rfl (by decide +kernel) (by decide +kernel)
    (EvI.list (by decreasing_trivial)) (by rw [List.length_map]; omega) (fun C' d hd => ?_) (fun _ => rfl) ?_ ?_ EvE.cStr) CmpR.neS) ?_) ExL.nil) ?_
  · obtain ⟨k, hk, rfl⟩ := List.mem_map.mp hd
    clear hd
    generalize he' : cenv _ C' env = env'
    have hs₂ := (congrArg Env.scope he').symm.trans (cenv_scope hs)
    have := (C.l k (hW k hk)).2
    show EvE _ _ _ _ _ _ _ _ (.str (Str.ofString "&" ++ tlk h i j k))
    exact EvE.bin EvE.cStr (EvE.weak (EvE.tlK (hW k hk) (by decreasing_trivial) (by decreasing_trivial) (fun _ _ => rfl))) (BinR.cat (by omega))
  · rw [List.map_map, List.map_map]; rfl
  · refine joinOk_small (B := 7) (fun x hx => ?_) (by rw [List.length_map]; omega)
    obtain ⟨k, hk, rfl⟩ := List.mem_map.mp hx
    have := (C.l k (hW k hk)).2
    rw [len_cps, cat_cps, amp1, List.length_append, ← len_cps]; simp; omega
  · rw [← wr_eq C hW]; simp
  -- known
  have kok : ∀ x ∈ namesP h, 0 < x.length ∧ x.cps[0]? = some (x.cps.toList.headD 0) := fun x hx => by
    have := List.all_eq_true.mp (known_ok h hh) x hx
    simpa using this
  have nlen : (namesP h).length ≤ 7 := by
    have : ∀ h, h < 5 → (namesP h).length ≤ 7 := by decide +kernel
    exact this h hh
  refine ExL.cons (ExS.asgC (EvE.joinM (xs := (namesP h).map fun x => ch (x.cps.toList.headD 0)) (fun | .str x => .str (ch (x.cps.toList.headD 0)) | _ => .none) hs (by decide +kernel) (ns := ["written", "tails", "signs", "names", "hand", "word", "total"]) rfl (by decide +kernel) (by decide +kernel)
    (EvI.list (by decreasing_trivial)) (by rw [List.length_map]; omega) (fun C' d hd => ?_) (fun _ => rfl) ?_ ?_ EvE.cStr) hs (by decide +kernel) (ns := ["written", "tails", "signs", "names", "hand", "word", "total"]) rfl (by decide +kernel)) ?_
  · obtain ⟨x, hx, rfl⟩ := List.mem_map.mp hd
    clear hd
    generalize he' : cenv _ C' env = env'
    have hs₂ := (congrArg Env.scope he').symm.trans (cenv_scope hs)
    show EvE _ _ _ _ _ _ _ _ (.str (ch (x.cps.toList.headD 0)))
    exact EvE.weak (EvE.idxS (by decreasing_trivial) EvE.cInt (by decide) (by decide) (kok x hx).2 fun _ _ => rfl)
  · rw [List.map_map, List.map_map]; rfl
  · refine joinOk_small (B := 1) (fun x hx => ?_) (by rw [List.length_map]; omega)
    obtain ⟨k, _, rfl⟩ := List.mem_map.mp hx
    exact Nat.le_refl _
  show ExL _ _ _ _ _ [("known", .str (knownS h)), ("written", .str (Wr h i j W)), ("tails", tlD h i j), ("signs", sgD h i j), ("names", nmD h), ("hand", .int (h : Nat)), ("word", natsD W), ("total", .int (t : Nat))] _ _ _
  -- bare
  refine ExL.cons (ExS.asgK (EvE.join (xs := bareX h) rfl rfl rfl rfl EvE.cStr (EvE.eq (EvE.comp (ds := allS.cps.toList.map fun c => .str (ch c)) (fun | .str x => !Txt.contains (knownS h) x | _ => false) id (compOk_of hs (by decide +kernel)) (no_dot0 (ns := ["known", "written", "tails", "signs", "names", "hand", "word", "total"]) rfl (by decide +kernel)) (EvI.str EvE.cStr) (by decide +kernel) (fun C' d hd => ?_) (fun C' d hd _ => ?_) (fun _ => rfl)) ?_) ?_) (by sizeOf_list_dec) rfl (ns := ["known", "written", "tails", "signs", "names", "hand", "word", "total"]) rfl (by decide +kernel)) ?_
  · rw [drp_names (ns := ["known", "written", "tails", "signs", "names", "hand", "word", "total"]) rfl (by decide +kernel)]
    obtain ⟨c, hc, rfl⟩ := List.mem_map.mp hd
    clear hd
    generalize he' : cenv _ C' env = env'
    have hs₂ := (congrArg Env.scope he').symm.trans (cenv_scope hs)
    exact EvIfs.one (by decreasing_trivial)
  · rw [drp_names (ns := ["known", "written", "tails", "signs", "names", "hand", "word", "total"]) rfl (by decide +kernel)]
    obtain ⟨c, hc, rfl⟩ := List.mem_map.mp hd
    clear hd
    generalize he' : cenv _ C' env = env'
    have hs₂ := (congrArg Env.scope he').symm.trans (cenv_scope hs)
    exact EvE.name (by sizeOf_list_dec) List.mem_cons_self
  · rw [List.map_id, List.filter_map]
    unfold bareX
    rw [List.map_map]; rfl
  · have e : (bareX h).length ≤ 9 := by unfold bareX; rw [List.length_map]; exact Nat.le_trans (List.length_filter_le _ _) (by decide +kernel)
    refine joinOk_small (B := 1) (fun x hx => ?_) (by omega)
    unfold bareX at hx
    obtain ⟨k, _, rfl⟩ := List.mem_map.mp hx
    exact Nat.le_refl _
  show ExL _ _ _ _ _ [("bare", .str (bareS h)), ("known", .str (knownS h)), ("written", .str (Wr h i j W)), ("tails", tlD h i j), ("signs", sgD h i j), ("names", nmD h), ("hand", .int (h : Nat)), ("word", natsD W), ("total", .int (t : Nat))] _ _ _
  clear kok nlen
  have bl := C.bl
  have rl := rep_len C hW hl
  have bw : (bareS h ++ Wr h i j W).length ≤ 100 := by rw [len_cps, cat_cps, List.length_append, ← len_cps, ← len_cps]; omega
  refine ExL.cons (ExS.ifF (EvT.eq (EvT.cmp rfl (EvE.callG (by sizeOf_list_dec) (by rfl) (by rfl) rfl (EvL.cons (starE rfl) (by decreasing_trivial) (EvL.cons (starE rfl) (EvE.bin (by decreasing_trivial) (by decreasing_trivial) (BinR.cat (by omega))) EvL.nil)) ((fn150 bw h hh).less (by decide)))
    (EvE.bin (by decreasing_trivial) (EvE.replace rfl rfl rfl rfl (by decreasing_trivial) EvE.cStrT EvN.cStr (by decide +kernel) (by omega) (by decide +kernel)) (BinR.cat (by omega))) CmpR.neS) ?_) ExL.nil) ?_
  · rw [← bare_eq C hW]; simp
  -- image
  have l1 := im1_len C hW hl
  have l2 := im2_len C hW hl
  have zl : ∀ s, (zz h i j s).length ≤ 4 := fun s => by
    match s with
    | 0 => exact Nat.le_of_ble_eq_true rfl
    | 1 => exact Nat.le_of_ble_eq_true rfl
    | s + 2 => show (ch _ ++ Str.ofString "&").length ≤ 4; rw [len_cps, cat_cps, List.length_append, ← len_cps, ← len_cps]; rw [ampLen]; exact Nat.le_of_ble_eq_true rfl
  have sg : ∀ {k : Nat} {p q r : Pos} {kk : Nat}, k < 3 → EvE prog w (TK (KF P)) 23 env [("bare", .str (bareS h)), ("known", .str (knownS h)), ("written", .str (Wr h i j W)), ("tails", tlD h i j), ("signs", sgD h i j), ("names", nmD h), ("hand", .int (h : Nat)), ("word", natsD W), ("total", .int (t : Nat))] [] (.Subscript (.Name (Str.ofString "signs") p) (.Constant (.int (k : Nat)) kk q) r) (.str (ch (sgn h i j k))) := fun {k p q r kk} hk =>
    EvE.sgK hk (by decreasing_trivial) EvE.cInt (fun _ _ => rfl)
  have tk : ∀ {k : Nat} {p q r : Pos} {kk : Nat}, k < 3 → EvE prog w (TK (KF P)) 23 env [("bare", .str (bareS h)), ("known", .str (knownS h)), ("written", .str (Wr h i j W)), ("tails", tlD h i j), ("signs", sgD h i j), ("names", nmD h), ("hand", .int (h : Nat)), ("word", natsD W), ("total", .int (t : Nat))] [] (.Subscript (.Name (Str.ofString "tails") p) (.Constant (.int (k : Nat)) kk q) r) (.strT (tlk h i j k)) := fun {k p q r kk} hk =>
    EvE.tlK hk (by decreasing_trivial) EvE.cInt (fun _ _ => rfl)
  have one1 : ∀ c, (ch c).length = 1 := fun c => rfl
  have two1 : ∀ c d, (ch c ++ ch d).length = 2 := fun c d => rfl
  refine ExL.cons (ExS.asgK (d := .str (img h i j W)) (EvE.replace (y := tlk h i j 2) (z := zz h i j 2) rfl rfl rfl rfl (EvE.replace (y := tlk h i j 1) (z := zz h i j 1) rfl rfl rfl rfl (EvE.replace (y := tlk h i j 0) (z := zz h i j 0) rfl rfl rfl rfl (by decreasing_trivial)
      (tk (k := 0) (by decide)) (EvN.cat (EvE.bin (sg (k := 0) (by decide)) (sg (k := 0) (by decide)) (BinR.cat (by rw [one1]; decide))) (sg (k := 1) (by decide)) (by rw [one1, two1]; decide) (by rw [two1]; decide) (by rw [one1]; decide)) (tl_ne C (by decide)) (by omega) (Nat.le_trans (zl _) (by decide)))
      (tk (k := 1) (by decide)) (EvN.cat (sg (k := 1) (by decide)) (sg (k := 1) (by decide)) (by rw [one1]; decide) (by rw [one1]; decide) (by rw [one1]; decide)) (tl_ne C (by decide)) (show (im1 h i j W).length ≤ 1000 by omega) (Nat.le_trans (zl _) (by decide)))
      EvE.cStrT (EvN.cat (sg (k := 0) (by decide)) EvE.cStr (by rw [one1, ampLen]; decide) (by rw [one1]; decide) (by rw [ampLen]; decide)) (tl_ne C (by decide)) (show (im2 h i j W).length ≤ 1000 by omega) (Nat.le_trans (zl _) (by decide))) (by sizeOf_list_dec) rfl (ns := ["bare", "known", "written", "tails", "signs", "names", "hand", "word", "total"]) rfl (by decide +kernel)) ?_
  refine ExTree.less (σ' := σB h i j W t) (fun p hp => by
    unfold σB at hp
    simp only [List.mem_cons, List.not_mem_nil, or_false] at hp ⊢
    rcases hp with rfl | rfl | rfl | rfl <;> simp) ?_
  exact next
end
section
variable {prog : Program} {w : World} {P : Params} {env : Env} {o : Out}
theorem idxConst {T : Heap → Prop} {n : Nat} {σ : Sg} {μ : List (Addr × List D)} {es : List Expr} {a p q : Pos} {x : PySem.Str} {ds xs : List D} {j : Nat} (he : constDs es = some ds) (hl : ds.length ≤ 100) (hx : EvE prog w T n env σ μ (.Name x a) (.int (j : Nat))) (hj : j < 1000) (hd : ds[j]? = some (.list xs)) :
    EvI prog w T n env σ μ (.Subscript (.List es p) (.Name x a) q) xs := EvI.list (EvE.idxI (EvE.list (by omega) (EvL.const he)) hx (by omega) hd fun _ _ => rfl)
set_option maxHeartbeats 4000000 in
theorem lawB2 (hs : env.scope = lawSc) {W : List Nat} {t h i j : Nat} (hh : h < 5) (C : Cmb h i j) (hl : W.length = 6) (hW : ∀ k ∈ W, k < 3) (next : ExL prog w (TK (KF P)) 23 env (σB h i j W t) [] ((lawSts P).drop 18) o) :
    ExL prog w (TK (KF P)) 23 env (σB h i j W t) [] ((lawSts P).drop 16) o := by
  have ampLen : (Str.ofString "&").length = 1 := by decide +kernel
  unfold σB at next ⊢
  have three : (⟨#[cc h i, cc h j, 38]⟩ : PySem.Str).cps.toList.map (fun c => D.str ⟨#[c]⟩) = ([cc h i, cc h j, 38].map ch).map .str := rfl
  have k1 : ∀ x ∈ namesP 1, 0 < x.length ∧ x.length ≤ 10 ∧ x.cps[0]? = some (x.cps.toList.headD 0) := first1
  have hI : ∀ {p : Pos}, EvI prog w (TK (KF P)) 23 env [("image", .str (img h i j W)), ("signs", sgD h i j), ("word", natsD W), ("total", .int (t : Nat))] [] (.Name (Str.ofString "signs") p) (([cc h i, cc h j, 38].map ch).map .str) := fun {p} => by
    rw [← three]; exact EvI.str (by decreasing_trivial)
  -- plain
  refine ExL.cons (ExS.asgC (d := .list ((plainL h i j).map .str)) (EvE.eq (EvE.comp2 (ds := ([cc h i, cc h j, 38].map ch).map .str) (fun _ => (namesP 1).map .str) pN (fun _ e => fN e) (compOk_of hs (by decide +kernel)) (no_dot0 (ns := ["image", "signs", "word", "total"]) rfl (by decide +kernel)) (drp_names (ns := ["image", "signs", "word", "total"]) rfl (by decide +kernel)) (fun d => drp_names (ns := ["sign", "image", "signs", "word", "total"]) rfl (by decide +kernel))
      hI (fun C' d hd => ?_) (fun C' d e hd he => ?_) (fun C' d e hd he _ => ?_) ?_ (fun _ => rfl) (fun _ _ => rfl)) ?_) hs (by decide +kernel) (ns := ["image", "signs", "word", "total"]) rfl (by decide +kernel)) ?_
  · generalize he' : cenv _ C' env = env'
    have hs₂ := (congrArg Env.scope he').symm.trans (cenv_scope hs)
    exact EvI.list (EvE.callG (by sizeOf_list_dec) (by rfl) (by rfl) rfl (EvL.cons (starE rfl) EvE.cInt EvL.nil) ((fn157 1 (by decide)).less (by decide)))
  · obtain ⟨s, hs', rfl⟩ := List.mem_map.mp hd
    obtain ⟨x, hx, rfl⟩ := List.mem_map.mp he
    clear hd he
    generalize he' : cenv _ C' env = env'
    have hs₂ := (congrArg Env.scope he').symm.trans (cenv_scope hs)
    exact EvIfs.one (EvT.cmp rfl (EvE.weak (EvE.idxS (by decreasing_trivial) EvE.cInt (by decide) (by decide) (k1 x hx).2.2 fun _ _ => rfl)) (by decreasing_trivial) CmpR.eqS)
  · obtain ⟨s, hs', rfl⟩ := List.mem_map.mp hd
    obtain ⟨x, hx, rfl⟩ := List.mem_map.mp he
    clear hd he
    generalize he' : cenv _ C' env = env'
    have hs₂ := (congrArg Env.scope he').symm.trans (cenv_scope hs)
    have h1 := k1 x hx
    refine EvE.bin EvE.cStr (EvE.weak (EvE.tailS (by decreasing_trivial) EvE.cInt (by omega) (by omega))) (BinR.cat ?_)
    have : (⟨(x.cps.toList.drop 1).toArray⟩ : PySem.Str).length ≤ 10 := by
      rw [len_cps]
      show (x.cps.toList.drop 1).length ≤ 10
      rw [List.length_drop, ← len_cps]; omega
    omega
  · refine Nat.le_trans (flat_leG (B := 7) (fun d => ?_) _) (show 3 * 7 ≤ 100000 by decide)
    rw [List.length_map]
    exact Nat.le_trans (List.length_filter_le _ _) (Nat.le_of_eq rfl)
  · congr 1
    congr 1
    unfold plainL
    rw [List.flatMap_map]
    congr 1
    funext s
    rw [List.filter_map, List.map_map]
    rfl
  have pl := C.g
  -- the image, written
  refine ExL.cons (ExS.ifF (EvT.eq (EvT.cmp rfl (EvE.callG (by sizeOf_list_dec) (by rfl) (by rfl) rfl (EvL.cons (starE rfl) (by decreasing_trivial) EvL.nil) ((fn42 (x := img h i j W) (by have := img_len C hW hl; omega)).less (by decide)))
    (EvE.join (xs := W.flatMap fun k => (him k).map fun m => (plainL h i j).getD m (Str.ofString "")) rfl rfl rfl rfl EvE.cStr (EvE.eq (EvE.comp2 (ds := W.map fun (k : Nat) => .int (k : Int)) esW (fun _ _ => true) (fun _ e => fW h i j e) (compOk_of hs (by decide +kernel)) (no_dot0 (ns := ["plain", "image", "signs", "word", "total"]) rfl (by decide +kernel)) (drp_names (ns := ["plain", "image", "signs", "word", "total"]) rfl (by decide +kernel)) (fun d => drp_names (ns := ["k", "plain", "image", "signs", "word", "total"]) rfl (by decide +kernel))
      (EvI.list (by decreasing_trivial)) (fun C' d hd => ?_) (fun C' d e hd he => EvIfs.nil) (fun C' d e hd he _ => ?_) ?_ (fun _ => rfl) (fun _ _ => rfl)) ?_) ?_) CmpR.neS) ?_) ExL.nil) ?_
  · obtain ⟨k, hk, rfl⟩ := List.mem_map.mp hd
    clear hd
    generalize he' : cenv _ C' env = env'
    have hs₂ := (congrArg Env.scope he').symm.trans (cenv_scope hs)
    show EvI _ _ _ _ _ _ _ _ ((him k).map fun (m : Nat) => .int (m : Int))
    with_reducible refine idxConst (j := k) (ds := [.list [.int 2, .int 0, .int 0, .int 1], .list [.int 2, .int 1, .int 1], .list [.int 2, .int 0, .int 2]]) ?_ ?_ ?_ ?_ ?_
    · with_unfolding_all rfl
    · decide
    · decreasing_trivial
    · have := hW k hk; omega
    match k, hW k hk with
    | 0, _ => rfl
    | 1, _ => rfl
    | 2, _ => rfl
  · obtain ⟨k, hk, rfl⟩ := List.mem_map.mp hd
    have he2 : e ∈ (him k).map fun (m : Nat) => D.int (m : Int) := he
    obtain ⟨m, hm, rfl⟩ := List.mem_map.mp he2
    clear hd he he2
    have hm3 := him_lt m hm
    generalize he' : cenv _ C' env = env'
    have hs₂ := (congrArg Env.scope he').symm.trans (cenv_scope hs)
    show EvE _ _ _ _ _ _ _ _ (.str ((plainL h i j).getD m (Str.ofString "")))
    refine EvE.idxI (j := m) (ds := (plainL h i j).map .str) (by decreasing_trivial) (by decreasing_trivial) (by omega) ?_ fun _ _ => rfl
    have : m < (plainL h i j).length := by omega
    simp [this]
  · refine Nat.le_trans (flat_leG (B := 4) (fun d => ?_) _) (by rw [List.length_map, hl]; decide)
    rw [List.length_map]
    exact Nat.le_trans (List.length_filter_le _ _) (esW_len d)
  · congr 1
    congr 1
    rw [List.flatMap_map]
    congr 1
    funext k
    show (((him k).map fun (m : Nat) => D.int (m : Int)).filter fun _ => true).map _ = _
    rw [List.filter_eq_self.mpr (fun _ _ => rfl), List.map_map]
    rfl
  · have h1 := flat_leG (g := fun k => (him k).map fun m => (plainL h i j).getD m (Str.ofString "")) (B := 4) (fun k => by rw [List.length_map]; exact him_len) W
    refine joinOk_small (B := 8) (fun x hx => ?_) (by omega)
    obtain ⟨k, _, hx⟩ := List.mem_flatMap.mp hx
    obtain ⟨m, hm, rfl⟩ := List.mem_map.mp hx
    have hm3 : m < (plainL h i j).length := by have := him_lt m hm; omega
    have : (plainL h i j).getD m (Str.ofString "") = (plainL h i j)[m] := by simp [hm3]
    rw [this]
    exact C.g8 _ (List.getElem_mem hm3)
  · rw [← plain_eq C hW]; simp
  exact ExTree.less (fun p hp => List.mem_cons_of_mem _ hp) next
end
/-- how often a letter stands among the first ones -/
noncomputable def cnt (V : List Nat) (s k : Nat) : Nat := (V.take s).count k
noncomputable def rowD (V : List Nat) (s : Nat) : D := .list [.int (cnt V s 0 : Nat), .int (cnt V s 1 : Nat), .int (cnt V s 2 : Nat)]
noncomputable def rowsD (V : List Nat) (n : Nat) : List D := (List.range n).map (rowD V)
theorem soft_rows (V : List Nat) : ∀ n, soft (rowsD V n) = false
  | 0 => rfl
  | n + 1 => by unfold rowsD; rw [List.range_succ_eq_map]; rfl
theorem rows_len (V : List Nat) (n : Nat) : (rowsD V n).length = n := by unfold rowsD; simp
theorem rows_get {V : List Nat} {n s : Nat} (h : s < n) : (rowsD V n)[s]? = some (rowD V s) := by unfold rowsD; simp [h]
theorem rows_snoc (V : List Nat) (n : Nat) : rowsD V (n + 1) = rowsD V n ++ [rowD V n] := by unfold rowsD; rw [List.range_succ, List.map_append]; rfl
theorem cnt_zero (V : List Nat) (k : Nat) : cnt V 0 k = 0 := by unfold cnt; simp
theorem cnt_succ {V : List Nat} {s v : Nat} (h : V[s]? = some v) (k : Nat) : cnt V (s + 1) k = cnt V s k + (if v = k then 1 else 0) := by
  unfold cnt
  rw [List.take_add_one, h, List.count_append]
  congr 1
  by_cases q : v = k
  · subst q; simp
  · simp [q]
theorem ch_ne {a b : Nat} (h : a ≠ b) : (ch a == ch b) = false := by
  rw [beq_eq_false_iff_ne]; intro e; apply h; injection e with e; injection e with e; injection e
theorem sg_eq {h i j v k : Nat} (C : Cmb h i j) (hv : v < 3) (hk : k < 3) : (ch (sgn h i j v) == ch (sgn h i j k)) = decide (v = k) := by
  have refl : ∀ c, (ch c == ch c) = true := fun c => by simp
  have n1 := C.n1
  have n2 := C.n2
  have n3 := C.n3
  match v, hv, k, hk with
  | 0, _, 0, _ => exact refl _
  | 1, _, 1, _ => exact refl _
  | 2, _, 2, _ => exact refl _
  | 0, _, 1, _ => exact ch_ne n1
  | 0, _, 2, _ => exact ch_ne n2
  | 1, _, 0, _ => exact ch_ne (Ne.symm n1)
  | 1, _, 2, _ => exact ch_ne n3
  | 2, _, 0, _ => exact ch_ne (Ne.symm n2)
  | 2, _, 1, _ => exact ch_ne (Ne.symm n3)
theorem notInter {env : Env} (hs : env.scope = lawSc) : interactive env = false := by
  unfold interactive
  rw [hs]
  decide +kernel
noncomputable def σC (V : List Nat) (x : PySem.Str) (W : List Nat) (t : Nat) : Sg := [("ahead", .list (rowsD V (V.length + 1))), ("image", .str x), ("word", natsD W), ("total", .int (t : Nat))]
section
variable {prog : Program} {w : World} {P : Params} {env : Env} {o : Out}
set_option maxHeartbeats 4000000 in
theorem lawC (hs : env.scope = lawSc) {W : List Nat} {t h i j : Nat} (C : Cmb h i j) (hl : W.length = 6) (hW : ∀ k ∈ W, k < 3) (next : ExL prog w (TK (KF P)) 23 env (σC (W.flatMap him) (img h i j W) W t) [] ((lawSts P).drop 20) o) :
    ExL prog w (TK (KF P)) 23 env (σB h i j W t) [] ((lawSts P).drop 18) o := by
  have ic := img_cps C hW
  have hV : ∀ v ∈ W.flatMap him, v < 3 := fun v hv => by
    obtain ⟨k, _, hm⟩ := List.mem_flatMap.mp hv
    exact him_lt v hm
  have vl := V_len hl
  unfold σB
  generalize W.flatMap him = V at *
  generalize img h i j W = x at *
  refine ExL.newMut (ds := [.list [.int 0, .int 0, .int 0]]) rfl (by sizeOf_list_dec) rfl (by decide) (by decreasing_trivial) fun a _ => ?_
  rw [drp_names (ns := ["image", "signs", "word", "total"]) rfl (by decide +kernel)]
  have e0 : rowsD V 1 = [.list [.int 0, .int 0, .int 0]] := by
    show [rowD V 0] = _
    unfold rowD
    rw [cnt_zero, cnt_zero, cnt_zero]; rfl
  rw [← e0]
  have xl : (x.cps.toList.map fun c => D.str ⟨#[c]⟩).length = V.length := by rw [List.length_map, ic, List.length_map]
  refine ExL.cons (ExS.for (fun _ => [("ahead", .mut a), ("image", .str x), ("signs", sgD h i j), ("word", natsD W), ("total", .int (t : Nat))]) (fun i => [(a, rowsD V (i + 1))]) (by sizeOf_list_dec) (EvI.str (x := x) (by decreasing_trivial)) rfl rfl (fun n d hn hd => ?_) (fun _ => rfl)) ?_
  · rw [drp_names (ns := ["ahead", "image", "signs", "word", "total"]) rfl (by decide +kernel)]
    rw [xl] at hn
    obtain ⟨v, hv⟩ : ∃ v, V[n]? = some v := ⟨_, List.getElem?_eq_getElem hn⟩
    have hv3 : v < 3 := hV v (List.mem_of_getElem? hv)
    have hd' : d = .str (ch (sgn h i j v)) := by
      rw [List.getElem?_map, ic, List.getElem?_map, hv] at hd
      exact (Option.some.inj hd).symm
    subst hd'
    clear hd
    refine ExTree.post (σ₁ := [("sign", .str (ch (sgn h i j v))), ("ahead", .mut a), ("image", .str x), ("signs", sgD h i j), ("word", natsD W), ("total", .int (t : Nat))]) (fun p hp => List.mem_cons_of_mem _ hp) ?_
    refine ExL.cons (ExTree.eqO (ExS.append (xs := rowsD V (n + 1)) (d := rowD V (n + 1)) rfl rfl rfl rfl (notInter hs) rfl (by decreasing_trivial) (EvE.eq (EvE.compM (ds := rng 0 3) (ns := ["sign", "ahead", "image", "signs", "word", "total"]) (fun | .int k => .int (cnt V (n + 1) k.toNat : Nat) | _ => .none) hs (by decide +kernel) rfl (by decide +kernel) (by decide +kernel)
      (EvI.range1 (EvF.bk (by sizeOf_list_dec) (by rfl) bRange (by decide)) rfl (by decreasing_trivial) (by decide)) (by decide) (fun C' d hd => ?_) (fun _ => rfl)) ?_) (fun p hp => nomatch hp) (by rw [rows_len]; omega) (soft_rows _ _) (by rw [← rows_snoc]; exact soft_rows _ _)) ?_) ExL.nil
    · obtain ⟨k, hk', rfl⟩ := List.mem_map.mp hd
      have hk : k < 3 := by simpa using hk'
      clear hd hk'
      generalize he' : cenv _ C' env = env'
      have hs₂ := (congrArg Env.scope he').symm.trans (cenv_scope hs)
      have kk : (0 + (k : Int)) = (k : Int) := by omega
      rw [kk]
      show EvE _ _ _ _ _ _ _ _ (.int (cnt V (n + 1) k : Nat))
      have ce := cnt_succ hv k
      refine EvE.eq (EvE.bin (d₁ := .int (cnt V n k : Nat)) (EvE.idxI (j := k) (ds := [.int (cnt V n 0 : Nat), .int (cnt V n 1 : Nat), .int (cnt V n 2 : Nat)]) (EvE.idxMutNeg (a := a) (ds := rowsD V (n + 1)) (j := -1) List.mem_cons_self (soft_rows _ _) (by decreasing_trivial) (EvE.un EvE.cInt UnR.neg) (by decide) (by rw [rows_len]; omega) (by decide) ?_ fun _ _ => rfl) (by decreasing_trivial) (by omega) ?_ fun _ _ => rfl)
        (EvE.callF (EvF.bk (by sizeOf_list_dec) (by rfl) bInt (by decide)) Quick.type rfl (EvL.cons (starE rfl) (EvE.cmp rfl (by decreasing_trivial) (EvE.sgK hk (by decreasing_trivial) (by decreasing_trivial) (fun _ _ => rfl)) CmpR.eqS) EvL.nil) CallC.intB) BinR.add) ?_
      · rw [rows_len]
        have : ((-1 : Int) + ((n + 1 : Nat) : Int)).toNat = n := by omega
        rw [this]
        exact rows_get (Nat.lt_succ_self n)
      · match k, hk with
        | 0, _ => rfl
        | 1, _ => rfl
        | 2, _ => rfl
      · rw [sg_eq C hv3 hk, ce]
        by_cases q : v = k
        · subst q; simp
        · simp [q]
    · rfl
    · rw [← rows_snoc]
  rw [xl]
  refine ExTree.freeze (x := "ahead") (a := a) (soft_rows _ _) List.mem_cons_self (fun p hp => nomatch hp) ?_
  refine ExTree.less (σ' := σC V x W t) (fun p hp => ?_) next
  unfold σC at hp
  rcases List.mem_cons.mp hp with rfl | hp
  · exact List.mem_cons_self
  · refine List.mem_cons_of_mem _ ?_
    rw [show drp "ahead" [("ahead", D.mut a), ("image", .str x), ("signs", sgD h i j), ("word", natsD W), ("total", .int (t : Nat))] = drp "ahead" [("image", .str x), ("signs", sgD h i j), ("word", natsD W), ("total", .int (t : Nat))] from rfl, drp_names (ns := ["image", "signs", "word", "total"]) rfl (by decide +kernel)]
    simp only [List.mem_cons, List.not_mem_nil, or_false] at hp ⊢
    rcases hp with rfl | rfl | rfl <;> simp
end
noncomputable def shChk (a b : Nat) : Bool :=
  let x : Int := 24 + a
  let y : Int := 24 + b
  let z : Int := 96 - x - y
  if z < 24 || z > 40 then true else
    shOk x y z && (feq (shareV x y z true) 0 == (a == 8 && b == 8)) && (feq (shareV x y z false) 0 == (a == 8 && b == 8))
noncomputable def ftChk (a b : Nat) : Bool :=
  let x : Int := 29 + a
  let y : Int := 29 + b
  let z : Int := 96 - x - y
  if z < 29 || z > 35 then true else
    fitsGood x y z true (hueV x y z true) (shareV x y z true) (levelV x y z true) && fitsGood x y z false (hueV x y z false) (shareV x y z false) (levelV x y z false)
theorem sh1 : ∀ a, a < 4 → ∀ b, b < 17 → shChk a b = true := by decide +kernel
theorem sh2 : ∀ a, a < 4 → ∀ b, b < 17 → shChk (4 + a) b = true := by decide +kernel
theorem sh3 : ∀ a, a < 4 → ∀ b, b < 17 → shChk (8 + a) b = true := by decide +kernel
theorem sh4 : ∀ a, a < 5 → ∀ b, b < 17 → shChk (12 + a) b = true := by decide +kernel
theorem ft1 : ∀ a, a < 4 → ∀ b, b < 7 → ftChk a b = true := by decide +kernel
theorem ft2 : ∀ a, a < 3 → ∀ b, b < 7 → ftChk (4 + a) b = true := by decide +kernel
theorem shAll {a b : Nat} (ha : a < 17) (hb : b < 17) : shChk a b = true := by
  by_cases h1 : a < 4
  · exact sh1 a h1 b hb
  · by_cases h2 : a < 8
    · have := sh2 (a - 4) (by omega) b hb
      rwa [show 4 + (a - 4) = a by omega] at this
    · by_cases h3 : a < 12
      · have := sh3 (a - 8) (by omega) b hb
        rwa [show 8 + (a - 8) = a by omega] at this
      · have := sh4 (a - 12) (by omega) b hb
        rwa [show 12 + (a - 12) = a by omega] at this
theorem ftAll {a b : Nat} (ha : a < 7) (hb : b < 7) : ftChk a b = true := by
  by_cases h1 : a < 4
  · exact ft1 a h1 b hb
  · have := ft2 (a - 4) (by omega) b hb
    rwa [show 4 + (a - 4) = a by omega] at this
theorem shOk_all {x y z : Int} (h : x + y + z = 96) (hx : 24 ≤ x ∧ x ≤ 40) (hy : 24 ≤ y ∧ y ≤ 40) (hz : 24 ≤ z ∧ z ≤ 40) : shOk x y z = true ∧ ∀ l, feq (shareV x y z l) 0 = (x == 32 && y == 32) := by
  obtain ⟨a, rfl⟩ : ∃ a : Nat, x = 24 + a := ⟨(x - 24).toNat, by omega⟩
  obtain ⟨b, rfl⟩ : ∃ b : Nat, y = 24 + b := ⟨(y - 24).toNat, by omega⟩
  have := shAll (a := a) (b := b) (by omega) (by omega)
  unfold shChk at this
  have ez : z = 96 - (24 + (a : Int)) - (24 + b) := by omega
  subst ez
  simp only at this
  rw [if_neg (by simp; omega)] at this
  simp only [Bool.and_eq_true, beq_iff_eq] at this
  obtain ⟨⟨h1, h2⟩, h3⟩ := this
  have e1 : ((24 + (a : Int)) == 32) = (a == 8) := by
    by_cases q : a = 8
    · subst q; rfl
    · have h1 : ¬ (24 + (a : Int)) = 32 := by omega
      rw [beq_eq_false_iff_ne.mpr h1, beq_eq_false_iff_ne.mpr q]
  have e2 : ((24 + (b : Int)) == 32) = (b == 8) := by
    by_cases q : b = 8
    · subst q; rfl
    · have h1 : ¬ (24 + (b : Int)) = 32 := by omega
      rw [beq_eq_false_iff_ne.mpr h1, beq_eq_false_iff_ne.mpr q]
  refine ⟨h1, fun l => ?_⟩
  rw [e1, e2]
  cases l with
  | true => exact h2
  | false => exact h3
theorem fits_all {x y z : Int} (h : x + y + z = 96) (hx : 29 ≤ x ∧ x ≤ 35) (hy : 29 ≤ y ∧ y ≤ 35) (hz : 29 ≤ z ∧ z ≤ 35) (l : Bool) : fitsGood x y z l (hueV x y z l) (shareV x y z l) (levelV x y z l) = true := by
  obtain ⟨a, rfl⟩ : ∃ a : Nat, x = 29 + a := ⟨(x - 29).toNat, by omega⟩
  obtain ⟨b, rfl⟩ : ∃ b : Nat, y = 29 + b := ⟨(y - 29).toNat, by omega⟩
  have := ftAll (a := a) (b := b) (by omega) (by omega)
  unfold ftChk at this
  have ez : z = 96 - (29 + (a : Int)) - (29 + b) := by omega
  subst ez
  simp only at this
  rw [if_neg (by simp; omega)] at this
  simp only [Bool.and_eq_true] at this
  cases l with
  | true => exact this.1
  | false => exact this.2
noncomputable def par (V : List Nat) (s m k : Nat) : Int := 32 + 2 * (cnt V (s + m) k : Nat) - (cnt V s k : Nat) - (cnt V (s + 2 * m) k : Nat)
noncomputable def sq (V : List Nat) (s m : Nat) : Bool := par V s m 0 == 32 && par V s m 1 == 32
noncomputable def hitP (V : List Nat) (m s : Nat) : Bool := sq V s m && sq V (s + m) m
noncomputable def rowP (V : List Nat) (m n : Nat) : List (Int × Int) := ((List.range n).filter (hitP V m)).map fun (s : Nat) => ((m : Int), (s : Int))
noncomputable def fnd (V : List Nat) (n : Nat) : List (Int × Int) := (List.range n).flatMap fun i => rowP V (i + 1) (V.length - 3 * (i + 1) + 1)
noncomputable def foundP (V : List Nat) : List (Int × Int) := fnd V (V.length / 3)
theorem rowP_succ (V : List Nat) (m n : Nat) : rowP V m (n + 1) = rowP V m n ++ (if hitP V m n = true then [((m : Int), (n : Int))] else []) := by
  unfold rowP
  rw [List.range_succ, List.filter_append, List.map_append]
  congr 1
  rw [List.filter_cons]
  cases hitP V m n <;> rfl
theorem fnd_succ (V : List Nat) (n : Nat) : fnd V (n + 1) = fnd V n ++ rowP V (n + 1) (V.length - 3 * (n + 1) + 1) := by
  unfold fnd
  rw [List.range_succ, List.flatMap_append, List.flatMap_singleton]
theorem cnt_add (V : List Nat) (s m k : Nat) : cnt V (s + m) k = cnt V s k + ((V.drop s).take m).count k := by
  unfold cnt
  rw [← List.count_append, List.take_add]
theorem count3 : ∀ l : List Nat, (∀ v ∈ l, v < 3) → l.count 0 + l.count 1 + l.count 2 = l.length
  | [], _ => rfl
  | v :: l, h => by
    have ih := count3 l fun x hx => h x (List.mem_cons_of_mem _ hx)
    have hv := h v List.mem_cons_self
    rw [List.length_cons]
    match v, hv with
    | 0, _ => rw [List.count_cons_self, List.count_cons_of_ne (by decide), List.count_cons_of_ne (by decide)]; omega
    | 1, _ => rw [List.count_cons_self, List.count_cons_of_ne (by decide), List.count_cons_of_ne (by decide)]; omega
    | 2, _ => rw [List.count_cons_self, List.count_cons_of_ne (by decide), List.count_cons_of_ne (by decide)]; omega
theorem par_bd (V : List Nat) (s m k : Nat) : 32 - (m : Int) ≤ par V s m k ∧ par V s m k ≤ 32 + (m : Int) := by
  have e1 := cnt_add V s m k
  have e2 := cnt_add V (s + m) m k
  have l1 : ((V.drop s).take m).count k ≤ m := Nat.le_trans List.count_le_length (by rw [List.length_take]; omega)
  have l2 : ((V.drop (s + m)).take m).count k ≤ m := Nat.le_trans List.count_le_length (by rw [List.length_take]; omega)
  unfold par
  rw [show s + 2 * m = s + m + m by omega, e2, e1]
  omega
theorem par_sum {V : List Nat} (hV : ∀ v ∈ V, v < 3) {s m : Nat} (h : s + 2 * m ≤ V.length) : par V s m 0 + par V s m 1 + par V s m 2 = 96 := by
  have c : ∀ n, n ≤ V.length → cnt V n 0 + cnt V n 1 + cnt V n 2 = n := fun n hn => by
    have := count3 (V.take n) fun v hv => hV v (List.mem_of_mem_take hv)
    rw [List.length_take, Nat.min_eq_left hn] at this
    exact this
  have h1 := c s (by omega)
  have h2 := c (s + m) (by omega)
  have h3 := c (s + 2 * m) h
  unfold par
  omega
theorem soft_pairs (ps : List (Int × Int)) : soft (ps.map pairD) = false := by cases ps <;> rfl
theorem rowP_len (V : List Nat) (m n : Nat) : (rowP V m n).length ≤ n := by
  unfold rowP
  rw [List.length_map]
  exact Nat.le_trans (List.length_filter_le _ _) (by simp)
theorem flat_leN {α : Type} {g : Nat → List α} {B : Nat} : ∀ n, (∀ a, a < n → (g a).length ≤ B) → ((List.range n).flatMap g).length ≤ n * B
  | 0, _ => by simp
  | n + 1, h => by
    have h1 := h n (Nat.lt_succ_self n)
    have h2 := flat_leN n fun a ha => h a (Nat.lt_succ_of_lt ha)
    rw [List.range_succ, List.flatMap_append, List.length_append, List.flatMap_singleton, Nat.add_mul]
    omega
theorem fnd_len {V : List Nat} (hv : V.length ≤ 24) {n : Nat} (hn : n ≤ 8) : (fnd V n).length ≤ 200 := by
  have := flat_leN (g := fun i => rowP V (i + 1) (V.length - 3 * (i + 1) + 1)) (B := 25) n fun i _ => Nat.le_trans (rowP_len _ _ _) (by omega)
  unfold fnd
  omega
section
variable {prog : Program} {w : World} {P : Params}
/-- the share, of a place in the image -/
theorem fn_share {V : List Nat} (hV : ∀ v ∈ V, v < 3) (hv : V.length ≤ 24) {s m : Nat} (hm : m ≤ 8) (h : s + 2 * m ≤ V.length) : ∃ x : UInt64, feq x 0 = sq V s m ∧ FnC prog w (TK (KF P)) 10 167 [.list (rowsD V (V.length + 1)), .int (s : Nat), .int (m : Nat)] (.flt x) := by
  have b0 := par_bd V s m 0
  have b1 := par_bd V s m 1
  have b2 := par_bd V s m 2
  have sm := par_sum hV h
  obtain ⟨ok, eq⟩ := shOk_all sm (by omega) (by omega) (by omega)
  refine ⟨shareV (par V s m 0) (par V s m 1) (par V s m 2) ((((s : Int) + m).fmod 2) == 1), eq _, ?_⟩
  exact fn167 (by omega) (by omega) (rows_get (by omega)) (rows_get (by omega)) (rows_get (by omega)) rfl rfl rfl rfl ok (fun q => by subst q; exact fits_all sm (by omega) (by omega) (by omega) _)
end
noncomputable def σD (V : List Nat) (W : List Nat) (t : Nat) : Sg := [("found", .list ((foundP V).map pairD)), ("word", natsD W), ("total", .int (t : Nat))]
section
variable {prog : Program} {w : World} {P : Params} {env : Env} {o : Out}
set_option maxHeartbeats 4000000 in
theorem lawD (hs : env.scope = lawSc) {W V : List Nat} {x : PySem.Str} {t : Nat} (hV : ∀ v ∈ V, v < 3) (vl : V.length ≤ 24) (xl : x.length = V.length) (next : ExL prog w (TK (KF P)) 23 env (σD V W t) [] ((lawSts P).drop 22) o) :
    ExL prog w (TK (KF P)) 23 env (σC V x W t) [] ((lawSts P).drop 20) o := by
  unfold σC
  have rl := rows_len V (V.length + 1)
  generalize hR : rowsD V (V.length + 1) = R at *
  refine ExL.newMut (ds := []) rfl (by sizeOf_list_dec) rfl (by decide) EvL.nil fun a _ => ?_
  rw [drp_names (ns := ["ahead", "image", "word", "total"]) rfl (by decide +kernel)]
  have rg : (rng 1 ((V.length : Int) / 3 + 1)).length = V.length / 3 := by rw [rng_len]; omega
  refine ExL.cons (ExS.for (ds := rng 1 ((V.length : Int) / 3 + 1)) (fun _ => [("found", .mut a), ("ahead", .list R), ("image", .str x), ("word", natsD W), ("total", .int (t : Nat))]) (fun i => [(a, (fnd V i).map pairD)]) (by sizeOf_list_dec)
    (EvI.range2 (EvF.bk (by sizeOf_list_dec) (by rfl) bRange (by decide)) rfl (by decreasing_trivial) (EvE.eq (EvE.bin (EvE.bin (EvE.callF (EvF.bk (by sizeOf_list_dec) (by rfl) bLen (by decide)) Quick.builtin rfl (EvL.cons (starE rfl) (by decreasing_trivial) EvL.nil) (CallC.lenS (by omega))) (by decreasing_trivial) (BinR.div (by decide) (by decide))) (by decreasing_trivial) BinR.add) (by rw [xl, Int.fdiv_eq_ediv_of_nonneg _ (by decide)])) (by decide) (by omega) rfl) rfl rfl (fun i d hn hd => ?_) (fun _ => rfl)) ?_
  · rw [drp_names (ns := ["found", "ahead", "image", "word", "total"]) rfl (by decide +kernel)]
    rw [rg] at hn
    rw [rng_get (by omega)] at hd
    have hd' := Option.some.inj hd
    have em : ((1 : Int) + (i : Nat)) = ((i + 1 : Nat) : Int) := by omega
    rw [em] at hd'
    subst hd'
    clear hd em
    rw [fnd_succ]
    have fl := fnd_len vl (n := i) (by omega)
    have hm8 : i + 1 ≤ 8 := by omega
    have hN : 3 * (i + 1) ≤ V.length := by omega
    generalize fnd V i = F at *
    generalize hm : i + 1 = m at *
    generalize hNN : V.length - 3 * m + 1 = N at *
    refine ExTree.post (σ₁ := [("m", .int (m : Nat)), ("found", .mut a), ("ahead", .list R), ("image", .str x), ("word", natsD W), ("total", .int (t : Nat))]) (fun p hp => List.mem_cons_of_mem _ hp) ?_
    have rg2 : (rng 0 (N : Nat)).length = N := by rw [rng_len]; omega
    refine ExL.cons (ExTree.eqO (ExS.for (ds := rng 0 (N : Nat)) (fun _ => [("m", .int (m : Nat)), ("found", .mut a), ("ahead", .list R), ("image", .str x), ("word", natsD W), ("total", .int (t : Nat))]) (fun s => [(a, (F ++ rowP V m s).map pairD)]) (by sizeOf_list_dec)
      (EvI.range1 (EvF.bk (by sizeOf_list_dec) (by rfl) bRange (by decide)) rfl (EvE.eq (EvE.bin (EvE.bin (EvE.callF (EvF.bk (by sizeOf_list_dec) (by rfl) bLen (by decide)) Quick.builtin rfl (EvL.cons (starE rfl) (by decreasing_trivial) EvL.nil) (CallC.lenS (by omega))) (EvE.bin (by decreasing_trivial) (by decreasing_trivial) (BinR.mul (.inl (by decide)))) BinR.sub) (by decreasing_trivial) BinR.add) (by rw [xl]; congr 1; omega)) (by omega)) rfl ?_ (fun s d hn hd => ?_) (fun _ => rfl)) ?_) ExL.nil
    · show [(a, (F ++ []).map pairD)] = _
      rw [List.append_nil]
    · rw [drp_names (ns := ["m", "found", "ahead", "image", "word", "total"]) rfl (by decide +kernel)]
      rw [rg2] at hn
      rw [rng_get (by omega)] at hd
      have hd' := Option.some.inj hd
      have em : ((0 : Int) + (s : Nat)) = ((s : Nat) : Int) := by omega
      rw [em] at hd'
      subst hd'
      clear hd em
      have rr := rowP_len V m s
      rw [rowP_succ]
      have hs3 : s + 3 * m ≤ V.length := by omega
      obtain ⟨y, ey, cy⟩ := fn_share (prog := prog) (w := w) (P := P) hV vl (s := s) (m := m) hm8 (by omega)
      obtain ⟨z, ez, cz⟩ := fn_share (prog := prog) (w := w) (P := P) hV vl (s := s + m) (m := m) hm8 (by omega)
      rw [hR] at cy cz
      have hh : hitP V m s = (feq y 0 && feq z 0) := by unfold hitP; rw [ey, ez]
      rw [hh]
      rw [← List.append_assoc]
      generalize hG : F ++ rowP V m s = G at *
      have gl' : G.length ≤ 100000 := by have := congrArg List.length hG; rw [List.length_append] at this; omega
      refine ExTree.post (σ₁ := [("share", .flt y), ("s", .int (s : Nat)), ("m", .int (m : Nat)), ("found", .mut a), ("ahead", .list R), ("image", .str x), ("word", natsD W), ("total", .int (t : Nat))]) (fun p hp => List.mem_cons_of_mem _ (List.mem_cons_of_mem _ hp)) ?_
      refine ExL.cons (ExS.asgK (EvE.callG (by sizeOf_list_dec) (by rfl) (by rfl) rfl (EvL.cons (starE rfl) (by decreasing_trivial) (EvL.cons (starE rfl) (by decreasing_trivial) (EvL.cons (starE rfl) (by decreasing_trivial) EvL.nil))) (cy.less (by decide))) (by sizeOf_list_dec) rfl (ns := ["s", "m", "found", "ahead", "image", "word", "total"]) rfl (by decide +kernel)) ?_
      refine ExL.cons (ExS.ifF (EvT.cmp rfl (by decreasing_trivial) (by decreasing_trivial) CmpR.isNone) ExL.nil) ?_
      refine ExL.cons (ExS.ifs (c := feq y 0 && feq z 0) (EvT.and2 (EvT.cmp rfl (by decreasing_trivial) (by decreasing_trivial) CmpR.eqF) (fun _ => EvT.cmp rfl (EvE.callG (ds := [.list R, .int ((s + m : Nat) : Int), .int (m : Nat)]) (by sizeOf_list_dec) (by rfl) (by rfl) rfl (EvL.cons (starE rfl) (by decreasing_trivial) (EvL.cons (starE rfl) (EvE.eq (EvE.bin (by decreasing_trivial) (by decreasing_trivial) BinR.add) (by rw [Int.natCast_add])) (EvL.cons (starE rfl) (by decreasing_trivial) EvL.nil))) (cz.less (by decide))) (by decreasing_trivial) CmpR.eqF)) (fun q => ?_) (fun q => ?_)) ExL.nil
      · rw [q, if_pos rfl, List.map_append]
        exact ExL.cons (ExS.append (d := pairD ((m : Int), (s : Int))) rfl rfl rfl rfl (notInter hs) rfl (by decreasing_trivial) (EvE.tupK (EvL.cons (starE rfl) (by decreasing_trivial) (EvL.cons (starE rfl) (by decreasing_trivial) EvL.nil)) rfl) (fun p hp => nomatch hp) (by rw [List.length_map]; exact gl') (soft_pairs _) (by rw [show G.map pairD ++ [pairD ((m : Int), (s : Int))] = (G ++ [((m : Int), (s : Int))]).map pairD by rw [List.map_append]; rfl]; exact soft_pairs _)) ExL.nil
      · rw [q, if_neg (by simp), List.append_nil]
        exact ExL.nil
    · rw [rg2]
  rw [rg]
  refine ExTree.freeze (x := "found") (a := a) (soft_pairs _) List.mem_cons_self (fun p hp => nomatch hp) ?_
  refine ExTree.less (σ' := σD V W t) (fun p hp => ?_) next
  unfold σD at hp
  rcases List.mem_cons.mp hp with rfl | hp
  · exact List.mem_cons_self
  · refine List.mem_cons_of_mem _ ?_
    rw [show drp "found" [("found", D.mut a), ("ahead", .list R), ("image", .str x), ("word", natsD W), ("total", .int (t : Nat))] = drp "found" [("ahead", .list R), ("image", .str x), ("word", natsD W), ("total", .int (t : Nat))] from rfl, drp_names (ns := ["ahead", "image", "word", "total"]) rfl (by decide +kernel)]
    simp only [List.mem_cons, List.not_mem_nil, or_false] at hp ⊢
    rcases hp with rfl | rfl <;> simp
end
noncomputable def len3 (k : Nat) : Nat := [4, 3, 3].getD k 0
noncomputable def bg (W : List Nat) (s : Nat) : Nat := ((W.take s).map len3).sum
noncomputable def bgD (W : List Nat) (n : Nat) : List D := (List.range n).map fun s => .int (bg W s : Nat)
theorem soft_bg (W : List Nat) : ∀ n, soft (bgD W n) = false
  | 0 => rfl
  | n + 1 => by unfold bgD; rw [List.range_succ_eq_map]; rfl
theorem bg_len (W : List Nat) (n : Nat) : (bgD W n).length = n := by unfold bgD; simp
theorem bg_get {W : List Nat} {n s : Nat} (h : s < n) : (bgD W n)[s]? = some (.int (bg W s : Nat)) := by unfold bgD; simp [h]
theorem bg_snoc (W : List Nat) (n : Nat) : bgD W (n + 1) = bgD W n ++ [.int (bg W n : Nat)] := by unfold bgD; rw [List.range_succ, List.map_append]; rfl
theorem bg_succ {W : List Nat} {s k : Nat} (h : W[s]? = some k) : bg W (s + 1) = bg W s + len3 k := by
  unfold bg
  rw [List.take_add_one, h]
  simp
noncomputable def rr (t k : Nat) : Nat := (t + k * (1 + t / 3 % 2)) % 3
noncomputable def bh (t : Nat) : PySem.Str := Txt.mul (Str.ofString " ") ((t / 7 % 3 : Nat) : Int) ++ Str.ofString "x \t"
theorem bh_cps (t : Nat) : (bh t).cps.toList = List.replicate (t / 7 % 3) 32 ++ [120, 32, 9] := by
  unfold bh
  rw [cat_cps, mulSp (by have := Nat.mod_lt (t / 7) (show 0 < 3 by decide); omega)]
  congr 1
noncomputable abbrev runsD (t : Nat) : D := .list [.int (rr t 0 : Nat), .int (rr t 1 : Nat), .int (rr t 2 : Nat)]
noncomputable def σE (V : List Nat) (W : List Nat) (t : Nat) : Sg := [("behind", .str (bh t)), ("runs", runsD t), ("begins", .list (bgD W 7)), ("found", .list ((foundP V).map pairD)), ("word", natsD W)]
section
variable {prog : Program} {w : World} {P : Params} {env : Env} {o : Out}
set_option maxHeartbeats 4000000 in
theorem lawE (hs : env.scope = lawSc) {W V : List Nat} {t : Nat} (hl : W.length = 6) (hW : ∀ k ∈ W, k < 3) (next : ExL prog w (TK (KF P)) 23 env (σE V W t) [] ((lawSts P).drop 26) o) :
    ExL prog w (TK (KF P)) 23 env (σD V W t) [] ((lawSts P).drop 22) o := by
  unfold σD
  refine ExL.newMut (ds := [.int 0]) rfl (by sizeOf_list_dec) rfl (by decide) (by decreasing_trivial) fun a _ => ?_
  rw [drp_names (ns := ["found", "word", "total"]) rfl (by decide +kernel)]
  have e0 : ([.int 0] : List D) = bgD W 1 := rfl
  rw [e0]
  have wl : (W.map fun (k : Nat) => D.int (k : Int)).length = 6 := by rw [List.length_map, hl]
  refine ExL.cons (ExS.for (ds := W.map fun (k : Nat) => D.int (k : Int)) (fun _ => [("begins", .mut a), ("found", .list ((foundP V).map pairD)), ("word", natsD W), ("total", .int (t : Nat))]) (fun i => [(a, bgD W (i + 1))]) (by sizeOf_list_dec) (EvI.list (by decreasing_trivial)) rfl rfl (fun i d hn hd => ?_) (fun _ => rfl)) ?_
  · rw [drp_names (ns := ["begins", "found", "word", "total"]) rfl (by decide +kernel)]
    rw [wl] at hn
    obtain ⟨k, hk⟩ : ∃ k, W[i]? = some k := ⟨_, List.getElem?_eq_getElem (by omega)⟩
    have hk3 := hW k (List.mem_of_getElem? hk)
    rw [List.getElem?_map, hk] at hd
    have hd' := Option.some.inj hd
    subst hd'
    clear hd
    refine ExTree.post (σ₁ := [("k", .int (k : Nat)), ("begins", .mut a), ("found", .list ((foundP V).map pairD)), ("word", natsD W), ("total", .int (t : Nat))]) (fun p hp => List.mem_cons_of_mem _ hp) ?_
    have be := bg_succ hk
    rw [bg_snoc W (i + 1), be]
    refine ExL.cons (ExS.append (d := .int ((bg W i + len3 k : Nat) : Int)) rfl rfl rfl rfl (notInter hs) rfl (by decreasing_trivial) (EvE.eq (EvE.bin (d₁ := .int (bg W i : Nat)) (d₂ := .int (len3 k : Nat)) (EvE.idxMutNeg (a := a) (ds := bgD W (i + 1)) (j := -1) List.mem_cons_self (soft_bg _ _) (by decreasing_trivial) (EvE.un EvE.cInt UnR.neg) (by decide) (by rw [bg_len]; omega) (by decide) ?_ fun _ _ => rfl)
      (EvE.idxI (j := k) (ds := [.int 4, .int 3, .int 3]) (by decreasing_trivial) (by decreasing_trivial) (by omega) ?_ fun _ _ => rfl) BinR.add) ?_) (fun p hp => nomatch hp) (by rw [bg_len]; omega) (soft_bg _ _) ?_) ExL.nil
    · rw [bg_len]
      have : ((-1 : Int) + ((i + 1 : Nat) : Int)).toNat = i := by omega
      rw [this]
      exact bg_get (Nat.lt_succ_self i)
    · match k, hk3 with
      | 0, _ => rfl
      | 1, _ => rfl
      | 2, _ => rfl
    · rw [Int.natCast_add]
    · rw [← be, ← bg_snoc]; exact soft_bg _ _
  rw [wl]
  refine ExTree.freeze (x := "begins") (a := a) (soft_bg _ _) List.mem_cons_self (fun p hp => nomatch hp) ?_
  rw [show drp "begins" [("begins", D.mut a), ("found", .list ((foundP V).map pairD)), ("word", natsD W), ("total", .int (t : Nat))] = drp "begins" [("found", .list ((foundP V).map pairD)), ("word", natsD W), ("total", .int (t : Nat))] from rfl, drp_names (ns := ["found", "word", "total"]) rfl (by decide +kernel)]
  -- runs
  refine ExL.cons (ExS.asgC (d := runsD t) (EvE.eq (EvE.compM (ds := rng 0 3) (ns := ["begins", "found", "word", "total"]) (fun | .int k => .int (rr t k.toNat : Nat) | _ => .none) hs (by decide +kernel) rfl (by decide +kernel) (by decide +kernel)
      (EvI.range1 (EvF.bk (by sizeOf_list_dec) (by rfl) bRange (by decide)) rfl (by decreasing_trivial) (by decide)) (by decide) (fun C' d hd => ?_) (fun _ => rfl)) ?_) hs (by decide +kernel) (ns := ["begins", "found", "word", "total"]) rfl (by decide +kernel)) ?_
  · obtain ⟨k, hk', rfl⟩ := List.mem_map.mp hd
    have hk : k < 3 := by simpa using hk'
    clear hd hk'
    generalize he' : cenv _ C' env = env'
    have hs₂ := (congrArg Env.scope he').symm.trans (cenv_scope hs)
    have kk : (0 + (k : Int)) = (k : Int) := by omega
    rw [kk]
    show EvE _ _ _ _ _ _ _ _ (.int (rr t k : Nat))
    refine EvE.eq (EvE.bin (EvE.bin (by decreasing_trivial) (EvE.bin (by decreasing_trivial) (EvE.bin (by decreasing_trivial) (EvE.bin (EvE.bin (by decreasing_trivial) (by decreasing_trivial) (BinR.div (by decide) (by decide))) (by decreasing_trivial) (BinR.mod (by decide))) BinR.add) (BinR.mul (.inl (by omega)))) BinR.add) (by decreasing_trivial) (BinR.mod (by decide))) ?_
    unfold rr
    rw [Int.fdiv_eq_ediv_of_nonneg _ (by decide), Int.fmod_eq_emod_of_nonneg _ (by decide), Int.fmod_eq_emod_of_nonneg _ (by decide)]
    norm_cast
  · rfl
  -- behind
  have b3 := Nat.mod_lt (t / 7) (show 0 < 3 by decide)
  have el : (Txt.mul (Str.ofString " ") ((t / 7 % 3 : Nat) : Int)).length ≤ 2 := by rw [len_cps, mulSp (by omega), List.length_replicate]; omega
  have xl : (Str.ofString "x \t").length = 3 := by decide +kernel
  refine ExL.cons (ExS.asgC (d := .str (bh t)) (EvE.bin (EvE.bin (d₂ := .int ((t / 7 % 3 : Nat) : Int)) EvE.cStr (EvE.eq (EvE.bin (EvE.bin (by decreasing_trivial) (by decreasing_trivial) (BinR.div (by decide) (by decide))) (by decreasing_trivial) (BinR.mod (by decide))) ?_) (BinR.mulS (mulSpOk (by omega)))) EvE.cStr (BinR.cat (by omega))) hs (by decide +kernel) (ns := ["runs", "begins", "found", "word", "total"]) rfl (by decide +kernel)) ?_
  · rw [Int.fdiv_eq_ediv_of_nonneg _ (by decide), Int.fmod_eq_emod_of_nonneg _ (by decide)]
    rfl
  refine ExTree.less (σ' := σE V W t) (fun p hp => ?_) next
  unfold σE at hp
  simp only [List.mem_cons, List.not_mem_nil, or_false] at hp ⊢
  rcases hp with rfl | rfl | rfl | rfl | rfl <;> simp
end
noncomputable def sub (W : List Nat) (s m : Nat) : List Nat := (W.drop s).take m
noncomputable def iNts (l : List Nat) : List Int := l.map fun (k : Nat) => (k : Int)
noncomputable def an (W : List Nat) (s m : Nat) : Bool := decide (sortI (iNts (sub W s m)) = sortI (iNts (sub W (s + m) m)))
/-- two leads, by what the class keeps of them -/
noncomputable def eqW (r : Nat → Nat) (f : Nat) (ks : List Nat) (b f' : Nat) (ks' : List Nat) (b' : Nat) : Bool :=
  decide ((wsRun (leadL f r ks b)).c = (wsRun (leadL f' r ks' b')).c) && decide (((wsRun (leadL f r ks b)).b : Int) = ((wsRun (leadL f' r ks' b')).b : Int))
noncomputable def chk1 (u b : Nat) (ks : List Nat) : Bool := !eqW (rr u) 0 ks b 1 ks b && !eqW (rr u) 0 ks b 0 ks (b + 1)
noncomputable def chk2 (u b : Nat) (ks ks' : List Nat) : Bool := eqW (rr u) 0 ks b 0 ks' b == decide (sortI (iNts ks) = sortI (iNts ks'))
theorem c11 : ∀ u, u < 6 → ∀ b, b < 3 → ∀ x, x < 3 → chk1 u b [x] = true := by decide +kernel
theorem c12 : ∀ u, u < 6 → ∀ b, b < 3 → ∀ x, x < 3 → ∀ y, y < 3 → chk1 u b [x, y] = true := by decide +kernel
theorem c21 : ∀ u, u < 6 → ∀ b, b < 3 → ∀ x, x < 3 → ∀ y, y < 3 → chk2 u b [x] [y] = true := by decide +kernel
theorem c22 : ∀ u, u < 6 → ∀ b, b < 3 → ∀ x, x < 3 → ∀ y, y < 3 → ∀ z, z < 3 → ∀ v, v < 3 → chk2 u b [x, y] [z, v] = true := by decide +kernel
theorem rr_mod (t : Nat) : rr t = rr (t % 6) := by
  funext k
  unfold rr
  have e : t % 6 / 3 % 2 = t / 3 % 2 := by omega
  rw [e]
  generalize k * (1 + t / 3 % 2) = z
  omega
theorem leads1 (t : Nat) {ks : List Nat} (h : ks.length = 1 ∨ ks.length = 2) (hk : ∀ k ∈ ks, k < 3) : chk1 (t % 6) (t / 7 % 3) ks = true := by
  have hu := Nat.mod_lt t (show 0 < 6 by decide)
  have hb := Nat.mod_lt (t / 7) (show 0 < 3 by decide)
  match ks, h with
  | [x], _ => exact c11 _ hu _ hb x (hk x (by simp))
  | [x, y], _ => exact c12 _ hu _ hb x (hk x (by simp)) y (hk y (by simp))
  | [], h => simp at h
  | _ :: _ :: _ :: _, h => simp at h
theorem leads2 (t : Nat) {ks ks' : List Nat} (h : ks.length = 1 ∨ ks.length = 2) (h' : ks'.length = ks.length) (hk : ∀ k ∈ ks, k < 3) (hk' : ∀ k ∈ ks', k < 3) : chk2 (t % 6) (t / 7 % 3) ks ks' = true := by
  have hu := Nat.mod_lt t (show 0 < 6 by decide)
  have hb := Nat.mod_lt (t / 7) (show 0 < 3 by decide)
  match ks, h, ks', h' with
  | [x], _, [y], _ => exact c21 _ hu _ hb x (hk x (by simp)) y (hk' y (by simp))
  | [x, y], _, [z, v], _ => exact c22 _ hu _ hb x (hk x (by simp)) y (hk y (by simp)) z (hk' z (by simp)) v (hk' v (by simp))
  | [], h, _, _ => simp at h
  | _ :: _ :: _ :: _, h, _, _ => simp at h
  | [_], _, [], h' => simp at h'
  | [_], _, _ :: _ :: _, h' => simp at h'
  | [_, _], _, [], h' => simp at h'
  | [_, _], _, [_], h' => simp at h'
  | [_, _], _, _ :: _ :: _ :: _, h' => simp at h'
theorem sub_len {W : List Nat} (hl : W.length = 6) {s m : Nat} (h : s + m ≤ 6) : (sub W s m).length = m := by
  unfold sub
  rw [List.length_take, List.length_drop]; omega
theorem sub_lt {W : List Nat} (hW : ∀ k ∈ W, k < 3) {s m : Nat} : ∀ k ∈ sub W s m, k < 3 := fun k hk => hW k (List.mem_of_mem_drop (List.mem_of_mem_take hk))
noncomputable def brd (s m : Nat) : List Nat := (List.range 4).map fun j => s + j * m
noncomputable def n1 (W : List Nat) (s m : Nat) : Bool := !(iNts ((brd s m).map fun j => W.getD j 0)).contains 1
noncomputable def n2 (W : List Nat) (s m : Nat) : Bool := !(iNts ((brd s m).map fun j => W.getD (j - 1) 0)).contains 2
noncomputable def dueT (W : List Nat) (m s : Nat) : List (Int × Int) :=
  let place : Int := (bg W s : Nat)
  let size : Int := (bg W (s + m) : Nat) - place
  if an W s m && an W (s + m) m then
    ((size, place) :: (if s + 3 * m < 6 then (size, place + 1) :: (if n1 W s m then [(size, place + 2)] else []) else [])) ++ (if Nat.blt 0 s && n2 W s m then [(size, place - 1)] else [])
  else []
noncomputable def dueM (W : List Nat) (m n : Nat) : List (Int × Int) := (List.range n).flatMap (dueT W m)
noncomputable def dueW (W : List Nat) : List (Int × Int) := dueM W 1 4 ++ dueM W 2 1
theorem dueT_len (W : List Nat) (m s : Nat) : (dueT W m s).length ≤ 4 := by
  unfold dueT
  simp only
  split
  · rw [List.length_append, List.length_cons]
    have h1 : (if s + 3 * m < 6 then (((bg W (s + m) : Nat) : Int) - (bg W s : Nat), ((bg W s : Nat) : Int) + 1) :: (if n1 W s m = true then [(((bg W (s + m) : Nat) : Int) - (bg W s : Nat), ((bg W s : Nat) : Int) + 2)] else []) else []).length ≤ 2 := by
      split
      · split <;> simp
      · simp
    have h2 : (if (Nat.blt 0 s && n2 W s m) = true then [(((bg W (s + m) : Nat) : Int) - (bg W s : Nat), ((bg W s : Nat) : Int) - 1)] else []).length ≤ 1 := by
      split <;> simp
    omega
  · simp
theorem dueM_succ (W : List Nat) (m n : Nat) : dueM W m (n + 1) = dueM W m n ++ dueT W m n := by
  unfold dueM
  rw [List.range_succ, List.flatMap_append, List.flatMap_singleton]
theorem dueM_len (W : List Nat) (m n : Nat) : (dueM W m n).length ≤ n * 4 := flat_leN n fun s _ => dueT_len W m s
theorem dueW_len (W : List Nat) : (dueW W).length ≤ 20 := by
  have h1 := dueM_len W 1 4
  have h2 := dueM_len W 2 1
  unfold dueW
  rw [List.length_append]; omega
noncomputable def wordsOk (a b c : Nat) : Bool := (List.range 3).all fun d => (List.range 3).all fun e => (List.range 3).all fun f => sortP (dueW [a, b, c, d, e, f]) == some (foundP ([a, b, c, d, e, f].flatMap him))
/-- both counts in one number -/
noncomputable def w1 : Nat → Nat
  | 0 => 1
  | 1 => 1024
  | _ => 0
noncomputable def pre : Nat → List Nat → List Nat
  | acc, [] => [acc]
  | acc, v :: V => acc :: pre (acc + w1 v) V
noncomputable def enc : List Nat → Nat
  | [] => 0
  | x :: l => x + 65536 * enc l
noncomputable def gt (B s : Nat) : Nat := Nat.mod (Nat.div B (Nat.pow 65536 s)) 65536
noncomputable def frow (m B : Nat) : Nat → Nat → List (Int × Int)
  | 0, _ => []
  | k + 1, s => bif Nat.beq (Nat.mul 2 (gt B (Nat.add s m))) (Nat.add (gt B s) (gt B (Nat.add s (Nat.mul 2 m)))) && Nat.beq (Nat.mul 2 (gt B (Nat.add s (Nat.mul 2 m)))) (Nat.add (gt B (Nat.add s m)) (gt B (Nat.add s (Nat.mul 3 m)))) then ((m : Int), (s : Int)) :: frow m B k (Nat.succ s) else frow m B k (Nat.succ s)
noncomputable def ffnd (B L : Nat) : Nat → Nat → List (Int × Int)
  | 0, _ => []
  | k + 1, i => frow (Nat.succ i) B (Nat.succ (Nat.sub L (Nat.mul 3 (Nat.succ i)))) 0 ++ ffnd B L k (Nat.succ i)
noncomputable def PP (V : List Nat) (s : Nat) : Nat := cnt V s 0 + 1024 * cnt V s 1
theorem pre_get : ∀ (V : List Nat) (acc n : Nat), n ≤ V.length → (pre acc V)[n]? = some (acc + PP V n)
  | [], acc, n, h => by
    have : n = 0 := by simpa using h
    subst this
    unfold PP
    rw [cnt_zero, cnt_zero]; rfl
  | v :: V, acc, 0, h => by
    unfold PP
    rw [cnt_zero, cnt_zero]; rfl
  | v :: V, acc, n + 1, h => by
    show (pre (acc + w1 v) V)[n]? = _
    rw [pre_get V _ n (by simpa using h)]
    congr 1
    unfold PP cnt
    rw [List.take_succ_cons]
    match v with
    | 0 => rw [List.count_cons_self, List.count_cons_of_ne (by decide), show w1 0 = 1 from rfl]; omega
    | 1 => rw [List.count_cons_self, List.count_cons_of_ne (by decide), show w1 1 = 1024 from rfl]; omega
    | v + 2 => rw [List.count_cons_of_ne (by omega), List.count_cons_of_ne (by omega), show w1 (v + 2) = 0 from rfl]; omega
theorem pre_len : ∀ (V : List Nat) (acc : Nat), (pre acc V).length = V.length + 1
  | [], _ => rfl
  | v :: V, acc => by
    show (pre (acc + w1 v) V).length + 1 = _
    rw [pre_len V]; rfl
theorem sq_fast {V : List Nat} (hv : V.length ≤ 24) (s m : Nat) : sq V s m = Nat.beq (2 * PP V (s + m)) (PP V s + PP V (s + 2 * m)) := by
  have b : ∀ n k, cnt V n k ≤ 24 := fun n k => Nat.le_trans List.count_le_length (by rw [List.length_take]; omega)
  have h0 := b s 0
  have h1 := b s 1
  have h2 := b (s + m) 0
  have h3 := b (s + m) 1
  have h4 := b (s + 2 * m) 0
  have h5 := b (s + 2 * m) 1
  rw [Bool.eq_iff_iff]
  unfold sq par PP
  simp only [Bool.and_eq_true, beq_iff_eq, Nat.beq_eq]
  omega
theorem gt_enc : ∀ (l : List Nat) (s x : Nat), (∀ y ∈ l, y < 65536) → l[s]? = some x → gt (enc l) s = x
  | [], s, x, _, h => by simp at h
  | y :: l, 0, x, hl, h => by
    have e : y = x := by simpa using h
    subst e
    have := hl y List.mem_cons_self
    show (y + 65536 * enc l) / 65536 ^ 0 % 65536 = y
    rw [Nat.pow_zero, Nat.div_one]
    omega
  | y :: l, s + 1, x, hl, h => by
    have ih := gt_enc l s x (fun z hz => hl z (List.mem_cons_of_mem _ hz)) (by simpa using h)
    have := hl y List.mem_cons_self
    show (y + 65536 * enc l) / 65536 ^ (s + 1) % 65536 = x
    have ih : enc l / 65536 ^ s % 65536 = x := ih
    rw [Nat.pow_succ, Nat.mul_comm (65536 ^ s), ← Nat.div_div_eq_div_mul]
    have : (y + 65536 * enc l) / 65536 = enc l := by omega
    rw [this]
    exact ih
theorem PP_lt {V : List Nat} (hv : V.length ≤ 24) (n : Nat) : PP V n < 65536 := by
  have b : ∀ n k, cnt V n k ≤ 24 := fun n k => Nat.le_trans List.count_le_length (by rw [List.length_take]; omega)
  have h0 := b n 0
  have h1 := b n 1
  unfold PP
  omega
theorem gt_pre {V : List Nat} (hv : V.length ≤ 24) {n : Nat} (hn : n ≤ V.length) : gt (enc (pre 0 V)) n = PP V n := by
  refine gt_enc _ _ _ (fun y hy => ?_) (by rw [pre_get V 0 n hn, Nat.zero_add])
  obtain ⟨i, hi, rfl⟩ := List.mem_iff_getElem.mp hy
  have hi' := hi
  rw [pre_len] at hi'
  have := pre_get V 0 i (by omega)
  rw [List.getElem?_eq_getElem hi, Nat.zero_add] at this
  rw [Option.some.inj this]
  exact PP_lt hv i
theorem frow_eq {V : List Nat} (hv : V.length ≤ 24) {m : Nat} : ∀ (k s : Nat), s + k + 3 * m ≤ V.length + 1 →
    frow m (enc (pre 0 V)) k s = ((List.range' s k).filter (hitP V m)).map fun (i : Nat) => ((m : Int), (i : Int))
  | 0, s, h => rfl
  | k + 1, s, h => by
    have ih := frow_eq hv (m := m) k (s + 1) (by omega)
    show (bif Nat.beq (2 * gt (enc (pre 0 V)) (s + m)) (gt (enc (pre 0 V)) s + gt (enc (pre 0 V)) (s + 2 * m)) && Nat.beq (2 * gt (enc (pre 0 V)) (s + 2 * m)) (gt (enc (pre 0 V)) (s + m) + gt (enc (pre 0 V)) (s + 3 * m)) then ((m : Int), (s : Int)) :: frow m (enc (pre 0 V)) k (s + 1) else frow m (enc (pre 0 V)) k (s + 1)) = _
    rw [ih, List.range'_succ, List.filter_cons, gt_pre hv (by omega), gt_pre hv (by omega), gt_pre hv (by omega), gt_pre hv (by omega)]
    have e : (Nat.beq (2 * PP V (s + m)) (PP V s + PP V (s + 2 * m)) && Nat.beq (2 * PP V (s + 2 * m)) (PP V (s + m) + PP V (s + 3 * m))) = hitP V m s := by
      unfold hitP
      rw [sq_fast hv, sq_fast hv, show s + m + m = s + 2 * m by omega, show s + m + 2 * m = s + 3 * m by omega]
    rw [e]
    cases hitP V m s <;> rfl
theorem ffnd_eq {V : List Nat} (hv : V.length ≤ 24) : ∀ k i, i + k ≤ V.length / 3 → ffnd (enc (pre 0 V)) V.length k i = (List.range' i k).flatMap fun i => rowP V (i + 1) (V.length - 3 * (i + 1) + 1)
  | 0, _, _ => rfl
  | k + 1, i, h => by
    have ih := ffnd_eq hv k (i + 1) (by omega)
    show frow (i + 1) (enc (pre 0 V)) (V.length - 3 * (i + 1) + 1) 0 ++ ffnd (enc (pre 0 V)) V.length k (i + 1) = _
    rw [ih, List.range'_succ, List.flatMap_cons, frow_eq hv _ _ (by omega)]
    congr 1
    unfold rowP
    rw [List.range_eq_range']
theorem found_fast {V : List Nat} (hv : V.length ≤ 24) : foundP V = ffnd (enc (pre 0 V)) V.length (V.length / 3) 0 := by
  rw [ffnd_eq hv _ _ (by omega)]
  unfold foundP fnd
  rw [List.range_eq_range']
/-- two stretches, letter by letter counted -/
noncomputable def w2 : Nat → Nat
  | 0 => 1
  | 1 => 8
  | _ => 64
noncomputable def wsum : List Nat → Nat
  | [] => 0
  | x :: l => w2 x + wsum l
noncomputable def chk3 (ks ks' : List Nat) : Bool := Nat.beq (wsum ks) (wsum ks') == decide (sortI (iNts ks) = sortI (iNts ks'))
theorem c31 : ∀ x, x < 3 → ∀ y, y < 3 → chk3 [x] [y] = true := by decide +kernel
theorem c32 : ∀ x, x < 3 → ∀ y, y < 3 → ∀ z, z < 3 → ∀ v, v < 3 → chk3 [x, y] [z, v] = true := by decide +kernel
theorem wsum_eq {ks ks' : List Nat} (h : ks.length = 1 ∨ ks.length = 2) (h' : ks'.length = ks.length) (hk : ∀ k ∈ ks, k < 3) (hk' : ∀ k ∈ ks', k < 3) : decide (sortI (iNts ks) = sortI (iNts ks')) = Nat.beq (wsum ks) (wsum ks') := by
  have : chk3 ks ks' = true := by
    match ks, h, ks', h' with
    | [x], _, [y], _ => exact c31 x (hk x (by simp)) y (hk' y (by simp))
    | [x, y], _, [z, v], _ => exact c32 x (hk x (by simp)) y (hk y (by simp)) z (hk' z (by simp)) v (hk' v (by simp))
    | [], h, _, _ => simp at h
    | _ :: _ :: _ :: _, h, _, _ => simp at h
    | [_], _, [], h' => simp at h'
    | [_], _, _ :: _ :: _, h' => simp at h'
    | [_, _], _, [], h' => simp at h'
    | [_, _], _, [_], h' => simp at h'
    | [_, _], _, _ :: _ :: _ :: _, h' => simp at h'
  unfold chk3 at this
  exact (beq_iff_eq.mp this).symm
noncomputable def fan (W : List Nat) (s m : Nat) : Bool := Nat.beq (wsum (sub W s m)) (wsum (sub W (s + m) m))
noncomputable def fdueT (W : List Nat) (m s : Nat) : List (Int × Int) := bif fan W s m && fan W (s + m) m then dueT W m s else []
noncomputable def fdue (W : List Nat) : List (Int × Int) := (fdueT W 1 0 ++ (fdueT W 1 1 ++ (fdueT W 1 2 ++ fdueT W 1 3))) ++ fdueT W 2 0
theorem an_fast {W : List Nat} (hl : W.length = 6) (hW : ∀ k ∈ W, k < 3) {s m : Nat} (hm : m = 1 ∨ m = 2) (h : s + 2 * m ≤ 6) : an W s m = fan W s m := by
  unfold an fan
  have l1 : (sub W s m).length = m := sub_len hl (by omega)
  have l2 : (sub W (s + m) m).length = m := sub_len hl (by omega)
  exact wsum_eq (by rw [l1]; exact hm) (by rw [l1, l2]) (sub_lt hW) (sub_lt hW)
theorem dueT_fast {W : List Nat} (hl : W.length = 6) (hW : ∀ k ∈ W, k < 3) {s m : Nat} (hm : m = 1 ∨ m = 2) (h : s + 3 * m ≤ 6) : dueT W m s = fdueT W m s := by
  unfold fdueT
  rw [← an_fast hl hW hm (by omega), ← an_fast hl hW hm (by omega)]
  cases q : (an W s m && an W (s + m) m) with
  | true => rfl
  | false =>
    unfold dueT
    simp only [q, Bool.false_eq_true, if_false, cond_false]
theorem due_fast {W : List Nat} (hl : W.length = 6) (hW : ∀ k ∈ W, k < 3) : dueW W = fdue W := by
  unfold dueW dueM fdue
  rw [show List.range 4 = [0, 1, 2, 3] from rfl, show List.range 1 = [0] from rfl]
  simp only [List.flatMap_cons, List.flatMap_nil, List.append_nil]
  rw [dueT_fast hl hW (.inl rfl) (by omega), dueT_fast hl hW (.inl rfl) (by omega), dueT_fast hl hW (.inl rfl) (by omega), dueT_fast hl hW (.inl rfl) (by omega), dueT_fast hl hW (.inr rfl) (by omega)]
noncomputable def wordOk (W : List Nat) : Bool := sortP (fdue W) == some (ffnd (enc (pre 0 (W.flatMap him))) (W.flatMap him).length ((W.flatMap him).length / 3) 0)
noncomputable def wOk3 (a b c : Nat) : Bool := (List.range 3).all fun d => (List.range 3).all fun e => (List.range 3).all fun f => wordOk [a, b, c, d, e, f]
theorem wd00 : ∀ c, c < 3 → wOk3 0 0 c = true := by decide +kernel
theorem wd01 : ∀ c, c < 3 → wOk3 0 1 c = true := by decide +kernel
theorem wd02 : ∀ c, c < 3 → wOk3 0 2 c = true := by decide +kernel
theorem wd10 : ∀ c, c < 3 → wOk3 1 0 c = true := by decide +kernel
theorem wd11 : ∀ c, c < 3 → wOk3 1 1 c = true := by decide +kernel
theorem wd12 : ∀ c, c < 3 → wOk3 1 2 c = true := by decide +kernel
theorem wd20 : ∀ c, c < 3 → wOk3 2 0 c = true := by decide +kernel
theorem wd21 : ∀ c, c < 3 → wOk3 2 1 c = true := by decide +kernel
theorem wd22 : ∀ c, c < 3 → wOk3 2 2 c = true := by decide +kernel
theorem wd {a b c : Nat} (ha : a < 3) (hb : b < 3) (hc : c < 3) : wOk3 a b c = true := by
  match a, ha, b, hb with
  | 0, _, 0, _ => exact wd00 c hc
  | 0, _, 1, _ => exact wd01 c hc
  | 0, _, 2, _ => exact wd02 c hc
  | 1, _, 0, _ => exact wd10 c hc
  | 1, _, 1, _ => exact wd11 c hc
  | 1, _, 2, _ => exact wd12 c hc
  | 2, _, 0, _ => exact wd20 c hc
  | 2, _, 1, _ => exact wd21 c hc
  | 2, _, 2, _ => exact wd22 c hc
theorem due_found {W : List Nat} (hl : W.length = 6) (hW : ∀ k ∈ W, k < 3) : sortP (dueW W) = some (foundP (W.flatMap him)) := by
  rw [due_fast hl hW, found_fast (V_len hl)]
  match W, hl with
  | [a, b, c, d, e, f], _ =>
    have h := wd (hW a (by simp)) (hW b (by simp)) (hW c (by simp))
    unfold wOk3 at h
    simp only [List.all_eq_true, List.mem_range] at h
    have := h d (hW d (by simp)) e (hW e (by simp)) f (hW f (by simp))
    exact beq_iff_eq.mp this
/-- the body of the loop over the sizes -/
noncomputable def turnSts (P : Params) : List Stmt := match (lawSts P).drop 27 with
  | Stmt.For _ _ b _ _ :: _ => b
  | _ => []
noncomputable abbrev wsD (t f : Nat) (ks : List Nat) (b : Nat) : D := .ws 139 (wsRun (leadL f (rr t) ks b)).c (wsRun (leadL f (rr t) ks b)).b
noncomputable def ldD (t : Nat) (W : List Nat) (m : Nat) : List D := (List.range (7 - m)).map fun s => wsD t 0 (sub W s m) (t / 7 % 3)
theorem ld_get {t : Nat} {W : List Nat} {m s : Nat} (h : s < 7 - m) : (ldD t W m)[s]? = some (wsD t 0 (sub W s m) (t / 7 % 3)) := by unfold ldD; simp [h]
noncomputable def tdD (W : List Nat) (m : Nat) : List D := (List.range (7 - 2 * m)).map fun s => .bool (an W s m)
theorem td_get {W : List Nat} {m s : Nat} (h : s < 7 - 2 * m) : (tdD W m)[s]? = some (.bool (an W s m)) := by unfold tdD; simp [h]
theorem natsD_sub (W : List Nat) (s m : Nat) : (((W.map fun (k : Nat) => D.int (k : Int)).drop s).take m) = (sub W s m).map fun (k : Nat) => D.int (k : Int) := by
  unfold sub
  rw [List.map_take, List.map_drop]
noncomputable def σT (a : Addr) (V W : List Nat) (t m : Nat) : Sg := [("m", .int (m : Nat)), ("due", .mut a), ("behind", .str (bh t)), ("runs", runsD t), ("begins", .list (bgD W 7)), ("found", .list ((foundP V).map pairD)), ("word", natsD W)]
theorem lead_a (t : Nat) {ks : List Nat} (h : ks.length = 1 ∨ ks.length = 2) (hk : ∀ k ∈ ks, k < 3) : eqW (rr t) 0 ks (t / 7 % 3) 1 ks (t / 7 % 3) = false ∧ eqW (rr t) 0 ks (t / 7 % 3) 0 ks (t / 7 % 3 + 1) = false := by
  have := leads1 t h hk
  unfold chk1 at this
  rw [← rr_mod] at this
  simpa using this
theorem lead_b (t : Nat) {ks ks' : List Nat} (h : ks.length = 1 ∨ ks.length = 2) (h' : ks'.length = ks.length) (hk : ∀ k ∈ ks, k < 3) (hk' : ∀ k ∈ ks', k < 3) : eqW (rr t) 0 ks (t / 7 % 3) 0 ks' (t / 7 % 3) = decide (sortI (iNts ks) = sortI (iNts ks')) := by
  have := leads2 t h h' hk hk'
  unfold chk2 at this
  rw [← rr_mod] at this
  exact beq_iff_eq.mp this
theorem iNts_D (l : List Nat) : (l.map fun (k : Nat) => D.int (k : Int)) = (iNts l).map .int := by unfold iNts; rw [List.map_map]; rfl
section
variable {prog : Program} {w : World} {P : Params} {env : Env} {o : Out}
theorem eqLead {n : Nat} {σ : Sg} {μ : List (Addr × List D)} {o e : Expr} {apos pos : Pos} {t f f' b b' : Nat} {ks ks' : List Nat} (hn : 9 ≤ n) (ho : EvE prog w (TK (KF P)) n env σ μ o (wsD t f ks b)) (he : EvE prog w (TK (KF P)) n env σ μ e (wsD t f' ks' b'))
    (hp : (starEach [e] env).any (·.1) = false) (hs : starEach [e] env = [(false, eval e env)]) (pl : Sem Bool)
    (hv : eval (.Call (.Attribute o "equal" apos) [e] [] pos) env = (do
      let ov ← eval o env
      standAt apos.atName
      let (f, first) ← holding [ov] (getMethod ov "equal" pl)
      callWith pos f first (backTo pos (starEach [e] env)) [])) : EvE prog w (TK (KF P)) n env σ μ (.Call (.Attribute o "equal" apos) [e] [] pos) (.bool (eqW (rr t) f ks b f' ks' b')) := by
  have h1 : plainGet (KF P) 139 "equal" = true := by rfl
  have h2 : findIn (KF P) (.ref 139) "equal" = some (some (.ref 115)) := by rfl
  have h3 : typeIn (KF P) (.ref 115) = some (.type "function") := by rfl
  have h4 : keepIn (KF P) (.ref 115) = true := by rfl
  exact EvE.callM (fun _ h => h) ho h1 h2 h3 h4 hp (EvL.cons hs he EvL.nil) (fn115.less hn) pl hv
theorem appP {n : Nat} {T : Heap → Prop} {σ : Sg} {o elt : Expr} {apos pos pos' : Pos} {a : Addr} {xs : List (Int × Int)} {u v : Int} (hs : env.scope = lawSc) (ho : EvE prog w T n env σ [(a, xs.map pairD)] o (.mut a)) (he : EvE prog w T n env σ [(a, xs.map pairD)] elt (pairD (u, v))) (hlen : xs.length ≤ 1000)
    (hbase : attributeBase o "append" env (eval o env) = eval o env := by rfl)
    (hfew : ((backTo pos (starEach [elt] env)).all (fun x => !x.1) && (backToKw pos (keywordEach [] env)).all (fun x => x.1.isSome)
      && decide (([elt] : List Expr).length + ([] : List Keyword).length + (if ([] : List Keyword).isEmpty then 0 else 1) < 30)) = true := by rfl)
    (hline : (apos.endLine == pos.line) = true := by rfl) (htrees : backTo pos (starEach [elt] env) = [(false, eval elt env)] := by rfl) (hsw : swapsWith (.Call (.Attribute o "append" apos) [elt] [] pos) none pos'.line env = pure false := by rfl) :
    ExS prog w T n env σ [(a, xs.map pairD)] (.Expr (.Call (.Attribute o "append" apos) [elt] [] pos) pos') (.next σ [(a, (xs ++ [(u, v)]).map pairD)]) := by
  have e : xs.map pairD ++ [pairD (u, v)] = (xs ++ [(u, v)]).map pairD := by rw [List.map_append]; rfl
  refine ExTree.eqO (ExS.append hbase hfew hline htrees (notInter hs) hsw ho he (fun p hp => nomatch hp) (by rw [List.length_map]; omega) (soft_pairs _) (by rw [e]; exact soft_pairs _)) (by rw [e])
theorem wordAt {W : List Nat} {j : Nat} (h : j < W.length) : (W.map fun (k : Nat) => D.int (k : Int))[j]? = some (.int (W.getD j 0 : Nat)) := by simp [h]
theorem rr_le (t k : Nat) : rr t k ≤ 2 := by
  have := Nat.mod_lt (t + k * (1 + t / 3 % 2)) (show 0 < 3 by decide)
  unfold rr; omega
theorem fnLead {t f : Nat} {ks : List Nat} {front behind : PySem.Str} {b : Nat} (hf : front.cps.toList = List.replicate f 9) (hb : behind.cps.toList = List.replicate b 32 ++ [120, 32, 9]) (hk : ∀ k ∈ ks, k < 3) (hl : ks.length ≤ 2) (hf1 : f ≤ 1) (hb3 : b ≤ 3) :
    FnC prog w (TK (KF P)) 23 172 [.str front, runsD t, .list (ks.map fun (k : Nat) => .int (k : Int)), .str behind] (wsD t f ks b) :=
  fn172 (r := rr t) hf hb (rr_le t) hk hl hf1 hb3
/-- a slice of the word -/
theorem EvE.subW {n : Nat} {T : Heap → Prop} {σ : Sg} {μ : List (Addr × List D)} {v x y : Expr} {p pos : Pos} {W : List Nat} {s m : Nat} (hl : W.length = 6) (h : s + m ≤ 6) (hv : EvE prog w T n env σ μ v (natsD W)) (hx : EvE prog w T n env σ μ x (.int (s : Nat))) (hy : EvE prog w T n env σ μ y (.int ((s + m : Nat) : Int))) :
    EvE prog w T n env σ μ (.Subscript v (.Slice (some x) (some y) .none p) pos) (.list ((sub W s m).map fun (k : Nat) => .int (k : Int))) := by
  have e := EvE.slice (pos := pos) (p := p) hv (EvP.some hx) (EvP.some hy) (by rw [List.length_map]; omega) (slice_run s (s + m) (Nat.le_add_right _ _) (by rw [List.length_map]; omega))
  rw [Nat.add_sub_cancel_left, natsD_sub] at e
  exact e
theorem EvE.subW0 {n : Nat} {T : Heap → Prop} {σ : Sg} {μ : List (Addr × List D)} {v y : Expr} {p pos : Pos} {W : List Nat} {m : Nat} (hl : W.length = 6) (hv : EvE prog w T n env σ μ v (natsD W)) (hy : EvE prog w T n env σ μ y (.int (m : Nat))) :
    EvE prog w T n env σ μ (.Subscript v (.Slice .none (some y) .none p) pos) (.list ((sub W 0 m).map fun (k : Nat) => .int (k : Int))) := by
  have e := EvE.slice (pos := pos) (p := p) hv EvP.none (EvP.some hy) (by rw [List.length_map]; omega) (slice_upto m)
  rw [← natsD_sub, List.drop_zero]
  exact e
set_option maxHeartbeats 8000000 in
theorem lawTurn (hs : env.scope = lawSc) {a : Addr} {V W : List Nat} {t m : Nat} {F : List (Int × Int)} (hl : W.length = 6) (hW : ∀ k ∈ W, k < 3) (hm : m = 1 ∨ m = 2) (hF : F.length ≤ 100) :
    ExL prog w (TK (KF P)) 23 env (σT a V W t m) [(a, F.map pairD)] (turnSts P) (.next (σT a V W t m) [(a, (F ++ dueM W m (7 - 3 * m)).map pairD)]) := by
  have hm2 : 1 ≤ m ∧ m ≤ 2 := by omega
  have b3 := Nat.mod_lt (t / 7) (show 0 < 3 by decide)
  have bc := bh_cps t
  unfold σT
  have mI : (m : Int) < 3 := by omega
  have rg : rng 0 (7 - (m : Int)) = (List.range (7 - m)).map fun (s : Nat) => .int (0 + (s : Int)) := by unfold rng; rw [show ((7 : Int) - m - 0).toNat = 7 - m by omega]
  -- leads
  refine ExL.cons (ExS.asgC (d := .list (ldD t W m)) (EvE.eq (EvE.compM (ds := (List.range (7 - m)).map fun (s : Nat) => .int (0 + (s : Int))) (ns := ["m", "due", "behind", "runs", "begins", "found", "word"]) (fun | .int s => wsD t 0 (sub W s.toNat m) (t / 7 % 3) | _ => .none) hs (by decide +kernel) rfl (by decide +kernel) (by decide +kernel)
      (by rw [← rg]; exact EvI.range1 (EvF.bk (by sizeOf_list_dec) (by rfl) bRange (by decide)) rfl (EvE.bin (by decreasing_trivial) (by decreasing_trivial) BinR.sub) (by omega)) (by rw [List.length_map, List.length_range]; omega) (fun C' d hd => ?_) (fun _ => rfl)) ?_) hs (by decide +kernel) (ns := ["m", "due", "behind", "runs", "begins", "found", "word"]) rfl (by decide +kernel)) ?_
  · obtain ⟨s, hs', rfl⟩ := List.mem_map.mp hd
    have hsm : s < 7 - m := List.mem_range.mp hs'
    clear hd hs'
    generalize he' : cenv _ C' env = env'
    have hs₂ := (congrArg Env.scope he').symm.trans (cenv_scope hs)
    have kk : (0 + (s : Int)) = (s : Int) := by omega
    rw [kk]
    show EvE _ _ _ _ _ _ _ _ (wsD t 0 (sub W s m) (t / 7 % 3))
    exact EvE.callG (by sizeOf_list_dec) (by rfl) (by rfl) rfl (EvL.cons (starE rfl) EvE.cStr (EvL.cons (starE rfl) (by decreasing_trivial) (EvL.cons (starE rfl) (EvE.subW hl (by omega) (by decreasing_trivial) (by decreasing_trivial) (EvE.eq (EvE.bin (by decreasing_trivial) (by decreasing_trivial) BinR.add) (by rw [Int.natCast_add]))) (EvL.cons (starE rfl) (by decreasing_trivial) EvL.nil))))
      (fnLead (f := 0) empty_cps bc (sub_lt hW) (by rw [sub_len hl (by omega)]; omega) (by decide) (by omega))
  · unfold ldD
    rw [List.map_map]
    congr 1
    refine List.map_congr_left fun s _ => ?_
    show wsD t 0 (sub W (0 + (s : Int)).toNat m) (t / 7 % 3) = _
    rw [show (0 + (s : Int)).toNat = s by omega]
  have l0 : (sub W 0 m).length = 1 ∨ (sub W 0 m).length = 2 := by rw [sub_len hl (by omega)]; exact hm
  have g0 : ∀ {μ : List (Addr × List D)} {σ : Sg} {p q r : Pos} {kk : Nat}, ((Str.ofString "leads", .list (ldD t W m)) : PySem.Str × D) ∈ σ → EvE prog w (TK (KF P)) 23 env σ μ (.Subscript (.Name (Str.ofString "leads") p) (.Constant (.int 0) kk q) r) (wsD t 0 (sub W 0 m) (t / 7 % 3)) := fun {μ σ p q r kk} h =>
    EvE.idxI (j := 0) (EvE.name (by sizeOf_list_dec) h) EvE.cInt (by decide) (ld_get (by omega)) fun _ _ => rfl
  have tab : (Str.ofString "\t").cps.toList = List.replicate 1 9 := by decide +kernel
  have spc : (Str.ofString " " ++ bh t).cps.toList = List.replicate (t / 7 % 3 + 1) 32 ++ [120, 32, 9] := by
    rw [cat_cps, bc, List.replicate_succ]
    rfl
  have sl : (Str.ofString " ").length = 1 := by decide +kernel
  have bl : (bh t).length ≤ 6 := by rw [len_cps, bc]; simp; omega
  refine ExL.cons (ExS.ifF (EvT.eq (EvT.cmp rfl (eqLead (by decide) (g0 (by array_mem_dec)) (EvE.callG (by sizeOf_list_dec) (by rfl) (by rfl) rfl (EvL.cons (starE rfl) EvE.cStr (EvL.cons (starE rfl) (by decreasing_trivial) (EvL.cons (starE rfl) (EvE.subW0 hl (by decreasing_trivial) (by decreasing_trivial)) (EvL.cons (starE rfl) (by decreasing_trivial) EvL.nil))))
      (fnLead (f := 1) tab bc (sub_lt hW) (by omega) (by decide) (by omega))) rfl rfl _ rfl) (by decreasing_trivial) CmpR.isNotB) (by rw [(lead_a t l0 (sub_lt hW)).1]; rfl)) ExL.nil) ?_
  refine ExL.cons (ExS.ifF (EvT.eq (EvT.cmp rfl (eqLead (by decide) (g0 (by array_mem_dec)) (EvE.callG (by sizeOf_list_dec) (by rfl) (by rfl) rfl (EvL.cons (starE rfl) EvE.cStr (EvL.cons (starE rfl) (by decreasing_trivial) (EvL.cons (starE rfl) (EvE.subW0 hl (by decreasing_trivial) (by decreasing_trivial)) (EvL.cons (starE rfl) (EvE.bin EvE.cStr (by decreasing_trivial) (BinR.cat (by omega))) EvL.nil))))
      (fnLead (f := 0) empty_cps spc (sub_lt hW) (by omega) (by decide) (by omega))) rfl rfl _ rfl) (by decreasing_trivial) CmpR.isNotB) (by rw [(lead_a t l0 (sub_lt hW)).2]; rfl)) ExL.nil) ?_
  clear g0 tab spc bl bc sl
  -- told
  have rg2 : rng 0 (7 - 2 * (m : Int)) = (List.range (7 - 2 * m)).map fun (s : Nat) => .int (0 + (s : Int)) := by unfold rng; rw [show ((7 : Int) - 2 * m - 0).toNat = 7 - 2 * m by omega]
  refine ExL.cons (ExTree.eqO (ExS.asgM (ds := (List.range (7 - 2 * m)).map fun (s : Nat) => .int (0 + (s : Int))) (fun | .int s => .bool (an W s.toNat m) | _ => .none) hs (by decide +kernel) (by decide +kernel) (by decide +kernel) (ns := ["leads", "m", "due", "behind", "runs", "begins", "found", "word"]) rfl (by decide +kernel) (by decide +kernel) (by decide +kernel)
      (by rw [← rg2]; exact EvI.range1 (EvF.bk (by sizeOf_list_dec) (by rfl) bRange (by decide)) rfl (EvE.bin (by decreasing_trivial) (EvE.bin (by decreasing_trivial) (by decreasing_trivial) (BinR.mul (.inl (by decide)))) BinR.sub) (by omega)) (by rw [List.length_map, List.length_range]; omega) (fun C' d hd => ?_) (fun _ => rfl))
      (o' := .next [("told", .list (tdD W m)), ("leads", .list (ldD t W m)), ("m", .int (m : Nat)), ("due", .mut a), ("behind", .str (bh t)), ("runs", runsD t), ("begins", .list (bgD W 7)), ("found", .list ((foundP V).map pairD)), ("word", natsD W)] [(a, F.map pairD)]) ?_) ?_
  · obtain ⟨s, hs', rfl⟩ := List.mem_map.mp hd
    have hsm : s < 7 - 2 * m := List.mem_range.mp hs'
    clear hd hs'
    generalize he' : cenv _ C' env = env'
    have hs₂ := (congrArg Env.scope he').symm.trans (cenv_scope hs)
    have kk : (0 + (s : Int)) = (s : Int) := by omega
    rw [kk]
    show EvE _ _ _ _ _ _ _ _ (.bool (an W s m))
    have l1 : (sub W s m).length = m := sub_len hl (by omega)
    have l2 : (sub W (s + m) m).length = m := sub_len hl (by omega)
    unfold an
    rw [← lead_b t (by rw [l1]; exact hm) (by rw [l1, l2]) (sub_lt hW) (sub_lt hW)]
    exact eqLead (by decide) (EvE.idxI (j := s) (ds := ldD t W m) (by decreasing_trivial) (by decreasing_trivial) (by omega) (ld_get (by omega)) fun _ _ => rfl) (EvE.idxI (j := s + m) (ds := ldD t W m) (by decreasing_trivial) (EvE.eq (EvE.bin (by decreasing_trivial) (by decreasing_trivial) BinR.add) (by rw [Int.natCast_add])) (by omega) (ld_get (by omega)) fun _ _ => rfl) rfl rfl _ rfl
  · have e : (((List.range (7 - 2 * m)).map fun (s : Nat) => D.int (0 + (s : Int))).map (fun | .int s => .bool (an W s.toNat m) | _ => .none)) = tdD W m := by
      unfold tdD
      rw [List.map_map]
      refine List.map_congr_left fun s _ => ?_
      show D.bool (an W (0 + (s : Int)).toNat m) = _
      rw [show (0 + (s : Int)).toNat = s by omega]
    rw [e]
  -- told is true
  have rl2 : (rng 0 (7 - 2 * (m : Int))).length = 7 - 2 * m := by rw [rng_len]; omega
  refine ExL.cons (ExTree.eqO (ExS.for (ds := rng 0 (7 - 2 * (m : Int))) (fun _ => [("told", .list (tdD W m)), ("leads", .list (ldD t W m)), ("m", .int (m : Nat)), ("due", .mut a), ("behind", .str (bh t)), ("runs", runsD t), ("begins", .list (bgD W 7)), ("found", .list ((foundP V).map pairD)), ("word", natsD W)]) (fun _ => [(a, F.map pairD)]) (by sizeOf_list_dec)
      (EvI.range1 (EvF.bk (by sizeOf_list_dec) (by rfl) bRange (by decide)) rfl (EvE.bin (by decreasing_trivial) (EvE.bin (by decreasing_trivial) (by decreasing_trivial) (BinR.mul (.inl (by decide)))) BinR.sub) (by omega)) rfl rfl (fun s d hn hd => ?_) (fun _ => rfl)) rfl) ?_
  · rw [drp_names (ns := ["told", "leads", "m", "due", "behind", "runs", "begins", "found", "word"]) rfl (by decide +kernel)]
    rw [rl2] at hn
    rw [rng_get (by omega)] at hd
    have hd' := Option.some.inj hd
    have kk : (0 + (s : Int)) = (s : Int) := by omega
    rw [kk] at hd'
    subst hd'
    clear hd kk
    refine ExTree.post (σ₁ := [("s", .int (s : Nat)), ("told", .list (tdD W m)), ("leads", .list (ldD t W m)), ("m", .int (m : Nat)), ("due", .mut a), ("behind", .str (bh t)), ("runs", runsD t), ("begins", .list (bgD W 7)), ("found", .list ((foundP V).map pairD)), ("word", natsD W)]) (fun p hp => List.mem_cons_of_mem _ hp) ?_
    have l1 : (iNts (sub W s m)).length < 64 := by unfold iNts; rw [List.length_map, sub_len hl (by omega)]; omega
    have l2 : (iNts (sub W (s + m) m)).length < 64 := by unfold iNts; rw [List.length_map, sub_len hl (by omega)]; omega
    refine ExL.cons (ExS.ifF (EvT.eq (EvT.cmp rfl (EvE.idxI (j := s) (ds := tdD W m) (by decreasing_trivial) (by decreasing_trivial) (by omega) (td_get hn) fun _ _ => rfl) (EvE.cmp rfl
      (EvE.callF (EvF.bk (by sizeOf_list_dec) (by rfl) bSorted (by decide)) Quick.builtin rfl (EvL.cons (starE rfl) (EvE.eq (EvE.subW hl (s := s) (m := m) (by omega) (by decreasing_trivial) (by decreasing_trivial) (EvE.eq (EvE.bin (by decreasing_trivial) (by decreasing_trivial) BinR.add) (by rw [Int.natCast_add]))) (by rw [iNts_D])) EvL.nil) (CallC.sortedI l1))
      (EvE.callF (EvF.bk (by sizeOf_list_dec) (by rfl) bSorted (by decide)) Quick.builtin rfl (EvL.cons (starE rfl) (EvE.eq (EvE.subW hl (s := s + m) (m := m) (by omega) (by decreasing_trivial) (EvE.eq (EvE.bin (by decreasing_trivial) (by decreasing_trivial) BinR.add) (by rw [Int.natCast_add])) (EvE.eq (EvE.bin (by decreasing_trivial) (EvE.bin (by decreasing_trivial) (by decreasing_trivial) (BinR.mul (.inl (by decide)))) BinR.add) (by congr 1; omega))) (by rw [iNts_D])) EvL.nil) (CallC.sortedI l2))
      (CmpR.eqL (by decide))) CmpR.isNotB) (by unfold an; simp)) ExL.nil) ExL.nil
  have rl3 : (rng 0 (7 - 3 * (m : Int))).length = 7 - 3 * m := by rw [rng_len]; omega
  have e0 : F = F ++ dueM W m 0 := by unfold dueM; simp
  refine ExL.cons (ExTree.post (σ₁ := [("told", .list (tdD W m)), ("leads", .list (ldD t W m)), ("m", .int (m : Nat)), ("due", .mut a), ("behind", .str (bh t)), ("runs", runsD t), ("begins", .list (bgD W 7)), ("found", .list ((foundP V).map pairD)), ("word", natsD W)]) (fun p hp => List.mem_cons_of_mem _ (List.mem_cons_of_mem _ hp)) (ExTree.eqO (ExS.for (ds := rng 0 (7 - 3 * (m : Int))) (fun _ => [("told", .list (tdD W m)), ("leads", .list (ldD t W m)), ("m", .int (m : Nat)), ("due", .mut a), ("behind", .str (bh t)), ("runs", runsD t), ("begins", .list (bgD W 7)), ("found", .list ((foundP V).map pairD)), ("word", natsD W)]) (fun s => [(a, (F ++ dueM W m s).map pairD)]) (by sizeOf_list_dec)
      (EvI.range1 (EvF.bk (by sizeOf_list_dec) (by rfl) bRange (by decide)) rfl (EvE.bin (by decreasing_trivial) (EvE.bin (by decreasing_trivial) (by decreasing_trivial) (BinR.mul (.inl (by decide)))) BinR.sub) (by omega)) rfl (by rw [← e0]) (fun s d hn hd => ?_) (fun _ => rfl)) (by rw [rl3]))) ExL.nil
  rw [drp_names (ns := ["told", "leads", "m", "due", "behind", "runs", "begins", "found", "word"]) rfl (by decide +kernel)]
  rw [rl3] at hn
  rw [rng_get (by omega)] at hd
  have hd' := Option.some.inj hd
  have kk : (0 + (s : Int)) = (s : Int) := by omega
  rw [kk] at hd'
  subst hd'
  have s6 : s + 3 * m ≤ 6 := by omega
  have gl : (F ++ dueM W m s).length ≤ 200 := by have := dueM_len W m s; rw [List.length_append]; omega
  clear hd kk rl3 e0 rl2 rg rg2
  rw [dueM_succ, ← List.append_assoc]
  generalize F ++ dueM W m s = G at *
  refine ExTree.post (σ₁ := [("s", .int (s : Nat)), ("told", .list (tdD W m)), ("leads", .list (ldD t W m)), ("m", .int (m : Nat)), ("due", .mut a), ("behind", .str (bh t)), ("runs", runsD t), ("begins", .list (bgD W 7)), ("found", .list ((foundP V).map pairD)), ("word", natsD W)]) (fun p hp => List.mem_cons_of_mem _ hp) ?_
  refine ExL.cons (ExS.ifs (c := an W s m && an W (s + m) m) (EvT.and2 (EvT.val (fun _ => rfl) (EvE.idxI (j := s) (ds := tdD W m) (by decreasing_trivial) (by decreasing_trivial) (by omega) (td_get (by omega)) fun _ _ => rfl)) (fun _ => EvT.val (fun _ => rfl) (EvE.idxI (j := s + m) (ds := tdD W m) (by decreasing_trivial) (EvE.eq (EvE.bin (by decreasing_trivial) (by decreasing_trivial) BinR.add) (by rw [Int.natCast_add])) (by omega) (td_get (by omega)) fun _ _ => rfl))) (fun q => ?_) (fun q => ?_)) ExL.nil
  · have dT : dueT W m s = [(((bg W (s + m) : Nat) : Int) - (bg W s : Nat), ((bg W s : Nat) : Int))] ++ (if s + 3 * m < 6 then [(((bg W (s + m) : Nat) : Int) - (bg W s : Nat), ((bg W s : Nat) : Int) + 1)] ++ (if n1 W s m = true then [(((bg W (s + m) : Nat) : Int) - (bg W s : Nat), ((bg W s : Nat) : Int) + 2)] else []) else []) ++ (if (Nat.blt 0 s && n2 W s m) = true then [(((bg W (s + m) : Nat) : Int) - (bg W s : Nat), ((bg W s : Nat) : Int) - 1)] else []) := by
      unfold dueT
      simp only
      rw [q, if_pos rfl]
      rfl
    rw [dT, ← List.append_assoc, ← List.append_assoc]
    clear dT q
    have b1 : s < 7 := by omega
    have b2 : s + m < 7 := by omega
    generalize hp : ((bg W s : Nat) : Int) = pl at *
    generalize hz : ((bg W (s + m) : Nat) : Int) - pl = sz at *
    -- borders
    refine ExTree.post (σ₁ := [("size", .int sz), ("place", .int pl), ("borders", .list ((iNts (brd s m)).map .int)), ("s", .int (s : Nat)), ("told", .list (tdD W m)), ("leads", .list (ldD t W m)), ("m", .int (m : Nat)), ("due", .mut a), ("behind", .str (bh t)), ("runs", runsD t), ("begins", .list (bgD W 7)), ("found", .list ((foundP V).map pairD)), ("word", natsD W)]) (fun p hp => List.mem_cons_of_mem _ (List.mem_cons_of_mem _ (List.mem_cons_of_mem _ hp))) ?_
    refine ExL.cons (ExTree.eqO (ExS.asgM (ds := rng 0 4) (fun | .int j => .int ((s + j.toNat * m : Nat) : Int) | _ => .none) hs (by decide +kernel) (by decide +kernel) (by decide +kernel) (ns := ["s", "told", "leads", "m", "due", "behind", "runs", "begins", "found", "word"]) rfl (by decide +kernel) (by decide +kernel) (by decide +kernel)
      (EvI.range1 (EvF.bk (by sizeOf_list_dec) (by rfl) bRange (by decide)) rfl (by decreasing_trivial) (by decide)) (by decide) (fun C' d hd => ?_) (fun _ => rfl))
      (o' := .next [("borders", .list ((iNts (brd s m)).map .int)), ("s", .int (s : Nat)), ("told", .list (tdD W m)), ("leads", .list (ldD t W m)), ("m", .int (m : Nat)), ("due", .mut a), ("behind", .str (bh t)), ("runs", runsD t), ("begins", .list (bgD W 7)), ("found", .list ((foundP V).map pairD)), ("word", natsD W)] [(a, G.map pairD)]) rfl) ?_
    · obtain ⟨j, hj', rfl⟩ := List.mem_map.mp hd
      have hj : j < 4 := by simpa using hj'
      clear hd hj'
      generalize he' : cenv _ C' env = env'
      have hs₂ := (congrArg Env.scope he').symm.trans (cenv_scope hs)
      have kk : (0 + (j : Int)) = (j : Int) := by omega
      rw [kk]
      show EvE _ _ _ _ _ _ _ _ (.int ((s + j * m : Nat) : Int))
      exact EvE.eq (EvE.bin (by decreasing_trivial) (EvE.bin (by decreasing_trivial) (by decreasing_trivial) (BinR.mul (.inl (by omega)))) BinR.add) (by rw [Int.natCast_add, Int.natCast_mul])
    refine ExL.cons (ExS.asgK (d := .int pl) (EvE.eq (EvE.idxI (j := s) (ds := bgD W 7) (by decreasing_trivial) (by decreasing_trivial) (by omega) (bg_get b1) fun _ _ => rfl) (by rw [hp])) (by sizeOf_list_dec) rfl (ns := ["borders", "s", "told", "leads", "m", "due", "behind", "runs", "begins", "found", "word"]) rfl (by decide +kernel)) ?_
    refine ExL.cons (ExS.asgK (d := .int sz) (EvE.eq (EvE.bin (EvE.idxI (j := s + m) (ds := bgD W 7) (by decreasing_trivial) (EvE.eq (EvE.bin (by decreasing_trivial) (by decreasing_trivial) BinR.add) (by rw [Int.natCast_add])) (by omega) (bg_get b2) fun _ _ => rfl) (by decreasing_trivial) BinR.sub) (by rw [hz])) (by sizeOf_list_dec) rfl (ns := ["place", "borders", "s", "told", "leads", "m", "due", "behind", "runs", "begins", "found", "word"]) rfl (by decide +kernel)) ?_
    clear hp hz b1 b2
    refine ExL.cons (appP (u := sz) (v := pl) hs (by decreasing_trivial) (EvE.tupK (EvL.cons (starE rfl) (by decreasing_trivial) (EvL.cons (starE rfl) (by decreasing_trivial) EvL.nil)) rfl) (by omega)) ?_
    have gl1 : (G ++ [(sz, pl)]).length ≤ 201 := by rw [List.length_append]; simp; omega
    generalize G ++ [(sz, pl)] = G1 at *
    have b6 : decide (((s + 3 * m : Nat) : Int) < 6) = decide (s + 3 * m < 6) := by congr 1; simp only [eq_iff_iff]; omega
    refine ExL.cons (σ₁ := [("size", .int sz), ("place", .int pl), ("borders", .list ((iNts (brd s m)).map .int)), ("s", .int (s : Nat)), ("told", .list (tdD W m)), ("leads", .list (ldD t W m)), ("m", .int (m : Nat)), ("due", .mut a), ("behind", .str (bh t)), ("runs", runsD t), ("begins", .list (bgD W 7)), ("found", .list ((foundP V).map pairD)), ("word", natsD W)])
      (μ₁ := [(a, (G1 ++ (if s + 3 * m < 6 then [(sz, pl + 1)] ++ (if n1 W s m = true then [(sz, pl + 2)] else []) else [])).map pairD)]) (ExS.ifs (c := decide (s + 3 * m < 6)) (EvT.eq (EvT.cmp rfl (EvE.idxI (j := 3) (ds := (iNts (brd s m)).map .int) (d := .int ((s + 3 * m : Nat) : Int)) (by decreasing_trivial) EvE.cInt (by decide) rfl fun _ _ => rfl) (by decreasing_trivial) CmpR.ltI) b6) (fun q => ?_) (fun q => ?_)) ?_
    · have q' : s + 3 * m < 6 := of_decide_eq_true q
      rw [if_pos q', ← List.append_assoc]
      refine ExL.cons (appP (u := sz) (v := pl + 1) hs (by decreasing_trivial) (EvE.tupK (EvL.cons (starE rfl) (by decreasing_trivial) (EvL.cons (starE rfl) (by decreasing_trivial) EvL.nil)) rfl) (by omega)) ?_
      have gl2 : (G1 ++ [(sz, pl + 1)]).length ≤ 202 := by rw [List.length_append]; simp; omega
      generalize G1 ++ [(sz, pl + 1)] = G2 at *
      refine ExL.cons (ExS.ifs (c := n1 W s m) (EvT.cmp rfl EvE.cInt (EvE.eq (EvE.compM (ds := (iNts (brd s m)).map .int) (ns := ["size", "place", "borders", "s", "told", "leads", "m", "due", "behind", "runs", "begins", "found", "word"]) (fun | .int j => .int (W.getD j.toNat 0 : Nat) | _ => .none) hs (by decide +kernel) rfl (by decide +kernel) (by decide +kernel)
        (EvI.list (by decreasing_trivial)) (Nat.le_of_ble_eq_true rfl) (fun C' d hd => ?_) (fun _ => rfl)) (d' := .list ((iNts ((brd s m).map fun j => W.getD j 0)).map .int)) rfl) CmpR.notInL) (fun q => ?_) (fun q => ?_)) ExL.nil
      · obtain ⟨z, hz, rfl⟩ := List.mem_map.mp hd
        obtain ⟨j, hj, rfl⟩ := List.mem_map.mp hz
        have hj6 : j < 6 := by
          obtain ⟨i, hi, rfl⟩ := List.mem_map.mp hj
          have : i < 4 := List.mem_range.mp hi
          have : i * m ≤ 3 * m := Nat.mul_le_mul_right m (by omega)
          omega
        clear hd hz hj
        generalize he' : cenv _ C' env = env'
        have hs₂ := (congrArg Env.scope he').symm.trans (cenv_scope hs)
        show EvE _ _ _ _ _ _ _ _ (.int (W.getD j 0 : Nat))
        exact EvE.idxI (j := j) (ds := W.map fun (k : Nat) => .int (k : Int)) (by decreasing_trivial) (by decreasing_trivial) (by omega) (wordAt (by omega)) fun _ _ => rfl
      · rw [q, if_pos rfl]
        exact ExL.cons (appP (u := sz) (v := pl + 2) hs (by decreasing_trivial) (EvE.tupK (EvL.cons (starE rfl) (by decreasing_trivial) (EvL.cons (starE rfl) (by decreasing_trivial) EvL.nil)) rfl) (by omega)) ExL.nil
      · rw [q, if_neg (by simp), List.append_nil]
        exact ExL.nil
    · have q' : ¬ s + 3 * m < 6 := of_decide_eq_false q
      rw [if_neg q', List.append_nil]
      exact ExL.nil
    have gl3 : (G1 ++ (if s + 3 * m < 6 then [(sz, pl + 1)] ++ (if n1 W s m = true then [(sz, pl + 2)] else []) else [])).length ≤ 210 := by
      have : (if s + 3 * m < 6 then [(sz, pl + 1)] ++ (if n1 W s m = true then [(sz, pl + 2)] else []) else []).length ≤ 2 := by
        split
        · split <;> simp
        · simp
      rw [List.length_append]; omega
    generalize G1 ++ (if s + 3 * m < 6 then [(sz, pl + 1)] ++ (if n1 W s m = true then [(sz, pl + 2)] else []) else []) = G3 at *
    have b0 : decide ((0 : Int) < (s : Nat)) = Nat.blt 0 s := by
      rw [Bool.eq_iff_iff, decide_eq_true_eq, Nat.blt_eq]; omega
    refine ExL.cons (ExS.ifs (c := Nat.blt 0 s && n2 W s m) (EvT.and2 (EvT.eq (EvT.cmp rfl (by decreasing_trivial) (by decreasing_trivial) CmpR.gtI) b0) (fun q => EvT.cmp rfl EvE.cInt (EvE.eq (EvE.compM (ds := (iNts (brd s m)).map .int) (ns := ["size", "place", "borders", "s", "told", "leads", "m", "due", "behind", "runs", "begins", "found", "word"]) (fun | .int j => .int (W.getD (j.toNat - 1) 0 : Nat) | _ => .none) hs (by decide +kernel) rfl (by decide +kernel) (by decide +kernel)
        (EvI.list (by decreasing_trivial)) (Nat.le_of_ble_eq_true rfl) (fun C' d hd => ?_) (fun _ => rfl)) (d' := .list ((iNts ((brd s m).map fun j => W.getD (j - 1) 0)).map .int)) rfl) CmpR.notInL)) (fun q => ?_) (fun q => ?_)) ExL.nil
    · have s1 : 0 < s := by simpa using q
      obtain ⟨z, hz, rfl⟩ := List.mem_map.mp hd
      obtain ⟨j, hj, rfl⟩ := List.mem_map.mp hz
      have hj6 : 1 ≤ j ∧ j < 7 := by
        obtain ⟨i, hi, rfl⟩ := List.mem_map.mp hj
        have : i < 4 := List.mem_range.mp hi
        have : i * m ≤ 3 * m := Nat.mul_le_mul_right m (by omega)
        omega
      clear hd hz hj
      generalize he' : cenv _ C' env = env'
      have hs₂ := (congrArg Env.scope he').symm.trans (cenv_scope hs)
      show EvE _ _ _ _ _ _ _ _ (.int (W.getD (j - 1) 0 : Nat))
      exact EvE.idxI (j := j - 1) (ds := W.map fun (k : Nat) => .int (k : Int)) (by decreasing_trivial) (EvE.eq (EvE.bin (by decreasing_trivial) (by decreasing_trivial) BinR.sub) (by congr 1; omega)) (by omega) (wordAt (by omega)) fun _ _ => rfl
    · rw [q, if_pos rfl]
      exact ExL.cons (appP (u := sz) (v := pl - 1) hs (by decreasing_trivial) (EvE.tupK (EvL.cons (starE rfl) (by decreasing_trivial) (EvL.cons (starE rfl) (by decreasing_trivial) EvL.nil)) rfl) (by omega)) ExL.nil
    · rw [q, if_neg (by simp), List.append_nil]
      exact ExL.nil
  · have dT : dueT W m s = [] := by
      unfold dueT
      simp only
      rw [q]
      rfl
    rw [dT, List.append_nil]
    exact ExL.nil
end
noncomputable def Fq (W : List Nat) : Nat → List (Int × Int)
  | 0 => []
  | 1 => dueM W 1 4
  | _ => dueW W
section
variable {prog : Program} {w : World} {P : Params} {env : Env} {o : Out}
set_option maxHeartbeats 4000000 in
theorem lawF (hs : env.scope = lawSc) {W V : List Nat} {t : Nat} (hl : W.length = 6) (hW : ∀ k ∈ W, k < 3) (hV : V = W.flatMap him) :
    ExL prog w (TK (KF P)) 23 env (σE V W t) [] ((lawSts P).drop 26) (.ret (.bool true)) := by
  have df := due_found hl hW
  rw [← hV] at df
  unfold σE
  refine ExL.newMut (ds := []) rfl (by sizeOf_list_dec) rfl (by decide) EvL.nil fun a _ => ?_
  rw [drp_names (ns := ["behind", "runs", "begins", "found", "word"]) rfl (by decide +kernel)]
  refine ExL.cons (ExS.for (ds := [.int 1, .int 2]) (fun _ => [("due", .mut a), ("behind", .str (bh t)), ("runs", runsD t), ("begins", .list (bgD W 7)), ("found", .list ((foundP V).map pairD)), ("word", natsD W)]) (fun i => [(a, (Fq W i).map pairD)]) (by sizeOf_list_dec)
    (EvI.tup (by decreasing_trivial)) rfl rfl (fun i d hn hd₀ => ?_) (fun _ => rfl)) ?_
  · rw [drp_names (ns := ["due", "behind", "runs", "begins", "found", "word"]) rfl (by decide +kernel)]
    have body : ∀ (m : Nat) (F : List (Int × Int)), (m = 1 ∨ m = 2) → F.length ≤ 100 → ExL prog w (TK (KF P)) 23 env (("m", .int (m : Nat)) :: [("due", .mut a), ("behind", .str (bh t)), ("runs", runsD t), ("begins", .list (bgD W 7)), ("found", .list ((foundP V).map pairD)), ("word", natsD W)]) [(a, F.map pairD)] (turnSts P)
        (.next [("due", .mut a), ("behind", .str (bh t)), ("runs", runsD t), ("begins", .list (bgD W 7)), ("found", .list ((foundP V).map pairD)), ("word", natsD W)] [(a, (F ++ dueM W m (7 - 3 * m)).map pairD)]) := fun m F hm hF =>
      ExTree.post (fun p hp => List.mem_cons_of_mem _ hp) (lawTurn hs hl hW hm hF)
    match i, hn with
    | 0, _ =>
      have hd' := Option.some.inj hd₀
      subst hd'
      exact body 1 [] (.inl rfl) (Nat.zero_le _)
    | 1, _ =>
      have hd' := Option.some.inj hd₀
      subst hd'
      exact body 2 (dueM W 1 4) (.inr rfl) (Nat.le_trans (dueM_len W 1 4) (by decide))
  refine ExTree.freeze (x := "due") (a := a) (soft_pairs _) List.mem_cons_self (fun p hp => nomatch hp) ?_
  show ExL _ _ _ _ _ (("due", .list ((dueW W).map pairD)) :: drp "due" [("behind", .str (bh t)), ("runs", runsD t), ("begins", .list (bgD W 7)), ("found", .list ((foundP V).map pairD)), ("word", natsD W)]) [] _ _
  rw [drp_names (ns := ["behind", "runs", "begins", "found", "word"]) rfl (by decide +kernel)]
  have dl := dueW_len W
  refine ExL.consR (ExTree.eqO (ExS.retSorted (EvF.bk (by sizeOf_list_dec) (by rfl) bSorted (by decide)) rfl rfl (by decreasing_trivial) (by decreasing_trivial) df (by omega) rfl) ?_)
  simp
theorem lawAll {ns : List Int} (hl : ns.length ≤ 63) (hs : env.scope = lawSc) : ExL prog w (TK (KF P)) 23 env [("script", .list (ns.map .int))] [] (lawSts P) (.ret (.bool true)) :=
  lawA hs hl fun W t wl hW => by
    have hh : t % 5 < 5 := Nat.mod_lt _ (by decide)
    have hi := iOf_lt t
    have hj := jOf_lt t
    have C := cmb_of hh hi.2 hj.2 hi.1 hj.1 (ij_ne t)
    have hV : ∀ v ∈ W.flatMap him, v < 3 := fun v hv => by
      obtain ⟨k, _, hm⟩ := List.mem_flatMap.mp hv
      exact him_lt v hm
    refine lawB hs hh C wl hW (lawB2 hs hh C wl hW (lawC hs C wl hW (lawD hs hV (V_len wl) ?_ (lawE hs wl hW (lawF hs wl hW rfl)))))
    rw [len_cps, img_cps C hW, List.length_map]
open Classical in
/-- the law, called on a list of ints -/
theorem law_run {A : Around} {s : Shared} {R : Result → Shared → Prop} {l : Addr} {vs : List Value} {ns : List Int} (rm : Rm 24 A) (ht : TK (KF P) s.heap) (hL : s.heap.IsList l vs.toArray) (hI : IntsAre vs ns) (hlen : ns.length ≤ 63)
    (hR : ∀ h' tk, Le s.heap h' → R (.ok (.ret (.bool true))) { s with heap := h', toks := tk }) : codeAny (model prog w) A (.call (.ref 177) ⟨[.ref l], []⟩) R s := by
  obtain ⟨ob, ho, hc, n, hdt⟩ := id hL
  refine entry1 (T := TK (KF P)) (k := ⟨fun b => if b = l then some ob else none, 1⟩) (dd := .list (ns.map .int)) (d := .bool true) (p := "script") (n := 23) (body := lawSts P) TK.le ht (ht.k _ _ (by rfl)) ht.lim (codeRec_of ht.k (by rfl)) (by rfl) (by decide +kernel) (by rfl) (by rfl) rm (fun b o e => ?_) rfl (Rd.list ⟨ob, if_pos rfl, hc, n, hdt⟩ (rdl_of_ints hI)) (fun env hs => lawAll hlen hs) (fun v' k' h' tk le r => ?_)
  · have e' : (if b = l then some ob else none) = some o := e
    split at e'
    · rename_i q; subst q; cases e'; exact ho
    · cases e'
  · have := r.b
    subst this
    exact hR h' tk le
end
end Mine
open Mine
set_option maxHeartbeats 8000000 in
theorem PySem.Challenge.cw_tl0037_01_holds : PySem.Challenge.rw_tl0037_01.Holds := by
  w_on
  o_law
  refine holds_open (q := Mine.q0) (loose := Mine.lo0) (Xt := Mine.X0) (XP := XL Mine.q0 []) (Yf := Mine.Yf0) (Ya := Mine.Ya0) (YP := InK Mine.KF) (d := Mine.dLaw) (kwd := []) (N := 2062) Mine.left0 (fun w s e => InK.of (as := Mine.as0) (fun _ => by kernel_rfl) w s e) InK.keeps
    (fun s e => xl_of s (Bool.and_eq_true_iff.mp e).1) XL.keeps (by kernel_rfl) (by kernel_rfl) (by kernel_rfl) (fun s e => recFacts_of (Bool.and_eq_true_iff.mp e).2) (by rfl) (by assumption) (by k_qdec) ⟨rfl, rfl, rfl, rfl, rfl, by decide +kernel⟩ ?hw ?hc
  case hw => w_witness2
  intro w s₀ s₁ mg mb G Y fa o pm cd doc dV kV ho hd hcd hD hmg hg args vals as hpre hlay hrd hwl hlo
  have hmg' : mg (Str.ofString "law") = some (.ref fa) := by
    have e : Mine.dLaw.name = Str.ofString "law" := by kernel_rfl
    rw [← e]; exact hmg
  clear hmg ho hd hcd hD
  have KX : (Mine.KF w.params).In s₁.heap := Y
  refine Ground.open G ?_
  intro T B D TE TW
  clear B D TE TW
  wrow_args hpre hlay hrd hwl hlo
  refine enter_call ?_
  have tk : TK (Mine.KF w.params) s₁.heap := ⟨KX, T.nolimit, ⟨_, T.g⟩, ⟨_, T.b, T.builtins⟩⟩
  have e177 : mg (Str.ofString "law") = some (.ref 177) := mg_of KX T.g (by rfl)
  have hfa : fa = 177 := Mine.ref_eq e177 hmg'
  clear hmg' e177
  subst hfa
  refine Mine.law_run ⟨rfl, by decide +kernel, by decide +kernel⟩ tk (by assumption) (by assumption) (by omega) (fun h' tk' le => ?_)
  refine ⟨.inl ⟨_, .bool true, [], rfl, fun cls => by rfl, ReadsW.bool true, by first | rfl | wrow_post, fun q => ⟨List.nodup_nil, fun a ha => nomatch ha⟩⟩, .of_keep le, rfl, AllBare.of_eq hg⟩
