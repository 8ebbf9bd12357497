import PyProof.Rows.All
import Wide.All
import OpenK.AllK
import Wide.FinOn
import PySem.Challenge.RW_dn0036_01
set_option Elab.async false
set_option linter.unusedVariables false
set_option linter.unusedSimpArgs false
set_option maxRecDepth 100000
set_option maxHeartbeats 4000000

section
open PySem PySem.Calls PyProof.Rows
namespace Mine

/-! ## Heaps: a frozen part B within the heap -/
def Le (B h : Heap) : Prop := ∀ b o, B.get? b = some o → h.get? b = some o
theorem Le.refl (h : Heap) : Le h h := fun _ _ e => e
theorem Le.trans {a b c : Heap} (x : Le a b) (y : Le b c) : Le a c := fun i o e => y i o (x i o e)

def restrict (h : Heap) (p : Addr → Bool) : Heap := ⟨h.objs.mapIdx fun i o => if p i then o else { o with data := .freed }, h.life⟩
theorem restrict_get (h : Heap) (p : Addr → Bool) (a : Addr) : (restrict h p).get? a = if p a then h.get? a else none := by
  unfold restrict Heap.get?
  simp only [Array.getElem?_mapIdx]
  cases hp : p a with
  | true => cases h.objs[a]? <;> simp
  | false => cases h.objs[a]? <;> simp

/-! ## Abstract data -/
inductive PV where
  | none | bool (b : Bool) | int (i : Int) | str (x : Str) | raw (v : Value)
  | tuple (ds : List PV) | list (ds : List PV) | range (a b c : Int)

mutual
def Val (B : Heap) : PV → Value → Prop
  | .none, v => v = .none
  | .bool b, v => v = .bool b
  | .int i, v => ∃ t, v = .int i t
  | .str x, v => ∃ t, v = .str x t
  | .raw x, v => v = x
  | .range x y z, v => ∃ r t u q, v = .ref r ∧ IsRange B r x y z t u q
  | .tuple ds, v => ∃ a vs, v = .ref a ∧ B.IsTuple a (List.toArray vs) ∧ Vals B ds vs
  | .list ds, v => ∃ a vs, v = .ref a ∧ B.IsList a (List.toArray vs) ∧ Vals B ds vs
def Vals (B : Heap) : List PV → List Value → Prop
  | [], vs => vs = []
  | d :: ds, vs => ∃ v r, vs = v :: r ∧ Val B d v ∧ Vals B ds r
end

theorem IsList.le {B h : Heap} (k : Le B h) {a xs} (x : B.IsList a xs) : h.IsList a xs := let ⟨o, e, r⟩ := x; ⟨o, k _ _ e, r⟩
theorem IsTuple.le {B h : Heap} (k : Le B h) {a xs} (x : B.IsTuple a xs) : h.IsTuple a xs := let ⟨o, e, r⟩ := x; ⟨o, k _ _ e, r⟩

mutual
theorem Val.le {B h : Heap} (k : Le B h) : ∀ {d : PV} {v : Value}, Val B d v → Val h d v
  | .none, _, x => x
  | .bool _, _, x => x
  | .int _, _, x => x
  | .str _, _, x => x
  | .raw _, _, x => x
  | .range _ _ _, _, ⟨r, t, u, q, e, h⟩ => ⟨r, t, u, q, e, k _ _ h⟩
  | .tuple _, _, ⟨a, vs, e, t, r⟩ => ⟨a, vs, e, IsTuple.le k t, Vals.le k r⟩
  | .list _, _, ⟨a, vs, e, t, r⟩ => ⟨a, vs, e, IsList.le k t, Vals.le k r⟩
theorem Vals.le {B h : Heap} (k : Le B h) : ∀ {ds : List PV} {vs : List Value}, Vals B ds vs → Vals h ds vs
  | [], _, x => x
  | _ :: _, _, ⟨v, r, e, a, b⟩ => ⟨v, r, e, Val.le k a, Vals.le k b⟩
end

theorem Vals.length {B : Heap} : ∀ {ds : List PV} {vs : List Value}, Vals B ds vs → vs.length = ds.length
  | [], _, e => by subst e; rfl
  | _ :: _, _, ⟨_, _, e, _, h⟩ => by subst e; simp [Vals.length h]
theorem Vals.get {B : Heap} : ∀ {ds : List PV} {vs : List Value}, Vals B ds vs → ∀ {i : Nat} {d : PV}, ds[i]? = some d → ∃ v, vs[i]? = some v ∧ Val B d v
  | [], _, _, i, d, h => by simp at h
  | d :: ds, _, ⟨v, r, e, a, b⟩, 0, d', h => by subst e; simp at h; subst h; exact ⟨v, rfl, a⟩
  | d :: ds, _, ⟨v, r, e, a, b⟩, i + 1, d', h => by subst e; simp at h; simpa using Vals.get b h
theorem Vals.get' {B : Heap} {ds : List PV} {vs : List Value} (x : Vals B ds vs) {i : Nat} {v : Value} (h : vs[i]? = some v) : ∃ d, ds[i]? = some d ∧ Val B d v := by
  have hl := x.length
  have hi : i < ds.length := by rw [← hl]; exact (List.getElem?_eq_some_iff.mp h).1
  obtain ⟨v', h', hv⟩ := x.get (List.getElem?_eq_getElem hi)
  rw [h] at h'; cases h'
  exact ⟨_, List.getElem?_eq_getElem hi, hv⟩
theorem Vals.nil {B : Heap} : Vals B [] [] := rfl
theorem Vals.cons {B : Heap} {d : PV} {ds : List PV} {v : Value} {vs : List Value} (a : Val B d v) (b : Vals B ds vs) : Vals B (d :: ds) (v :: vs) := ⟨v, vs, rfl, a, b⟩
theorem Vals.append {B : Heap} : ∀ {ds : List PV} {vs : List Value} {es : List PV} {us : List Value}, Vals B ds vs → Vals B es us → Vals B (ds ++ es) (vs ++ us)
  | [], _, _, _, e, y => by subst e; exact y
  | _ :: _, _, _, _, ⟨v, r, e, a, b⟩, y => by subst e; exact ⟨v, r ++ _, rfl, a, b.append y⟩
theorem Vals.take {B : Heap} : ∀ {ds : List PV} {vs : List Value}, Vals B ds vs → ∀ n, Vals B (ds.take n) (vs.take n)
  | [], _, e, n => by subst e; simp [Vals]
  | _ :: _, _, _, 0 => by simp [Vals]
  | _ :: _, _, ⟨v, r, e, a, b⟩, n + 1 => by subst e; exact ⟨v, _, rfl, a, b.take n⟩
theorem Vals.drop {B : Heap} : ∀ {ds : List PV} {vs : List Value}, Vals B ds vs → ∀ n, Vals B (ds.drop n) (vs.drop n)
  | [], _, e, n => by subst e; simp [Vals]
  | _ :: _, _, x, 0 => x
  | _ :: _, _, ⟨v, r, e, a, b⟩, n + 1 => by subst e; exact b.drop n
theorem Vals.reverse {B : Heap} : ∀ {ds : List PV} {vs : List Value}, Vals B ds vs → Vals B ds.reverse vs.reverse
  | [], _, e => by subst e; rfl
  | _ :: _, _, ⟨v, r, e, a, b⟩ => by subst e; rw [List.reverse_cons, List.reverse_cons]; exact b.reverse.append ⟨v, [], rfl, a, rfl⟩

/-! ## Mutable things: their addresses, and what they hold now -/
inductive MV where
  | list (ds : List PV)
  | dict (kvs : List (Int × PV))
abbrev Mu := List (Addr × MV)
abbrev Sg := List (Str × PV)

variable {prog : Program} {w : World}

def MVal (prog : Program) (w : World) (B h : Heap) (a : Addr) : MV → Prop
  | .list ds => ∃ vs n, h.get? a = some { cls := .type "list", data := .seq (List.toArray vs) n } ∧ Vals B ds vs
  | .dict kvs => ∃ us : List (Int × Value), h.DictOf (intKind prog w) a us ∧ us.map (·.1) = kvs.map (·.1) ∧ Vals B (kvs.map (·.2)) (us.map (·.2))

theorem MVal.keep {B B' h h' : Heap} {a : Addr} {mv : MV} (x : MVal prog w B h a mv) (k : Le B B') (ka : ∀ o, h.get? a = some o → h'.get? a = some o) : MVal prog w B' h' a mv := by
  cases mv with
  | list ds => obtain ⟨vs, n, e, r⟩ := x; exact ⟨vs, n, ka _ e, r.le k⟩
  | dict kvs => obtain ⟨us, d, e, r⟩ := x; exact ⟨us, d.at ka, e, r.le k⟩
theorem MVal.lt {B h : Heap} {a : Addr} {mv : MV} (x : MVal prog w B h a mv) : a < h.objs.size := by
  cases mv with
  | list ds => obtain ⟨vs, n, e, r⟩ := x; exact Heap.lt_size e
  | dict kvs => obtain ⟨us, ⟨o, _, _, e, _⟩, _⟩ := x; exact Heap.lt_size e

structure MU (prog : Program) (w : World) (B h : Heap) (μ : Mu) : Prop where
  val : ∀ a mv, (a, mv) ∈ μ → B.get? a = none ∧ MVal prog w B h a mv
  nodup : (μ.map (·.1)).Nodup

/-! ## How a state grows: M may be touched -/
structure Ext (M : Addr → Prop) (B : Heap) (s : Shared) (B' : Heap) (s' : Shared) : Prop where
  le : Le B B'
  new : ∀ b o, B'.get? b = some o → B.get? b = some o ∨ M b ∨ s.heap.get? b = none
  inn : Le B' s'.heap
  keep : ∀ b o, ¬ M b → s.heap.get? b = some o → s'.heap.get? b = some o
  rest : ∃ h t, s' = { s with heap := h, toks := t }

abbrev ExtE (B : Heap) (s : Shared) (B' : Heap) (s' : Shared) : Prop := Ext (fun _ => False) B s B' s'

namespace Ext
variable {M M' : Addr → Prop} {B B' B'' h : Heap} {s s' s'' : Shared}
theorem refl (h : Le B s.heap) : Ext M B s B s := ⟨Le.refl _, fun _ _ e => .inl e, h, fun _ _ _ e => e, ⟨s.heap, s.toks, rfl⟩⟩
/-- what is not there behind was not there ahead, or may be touched -/
theorem gone (x : Ext M B s B' s') {b : Addr} (h : s'.heap.get? b = .none) : M b ∨ s.heap.get? b = .none := by
  by_cases hm : M b
  · exact .inl hm
  · cases q : s.heap.get? b with
    | none => exact .inr rfl
    | some o => rw [x.keep b o hm q] at h; cases h
theorem trans (x : Ext M B s B' s') (y : Ext M' B' s' B'' s'') (hM : ∀ b, M' b → M b ∨ s.heap.get? b = .none) : Ext M B s B'' s'' :=
  ⟨x.le.trans y.le, fun b o e => (y.new b o e).elim (fun e => x.new b o e) fun z => z.elim (fun z => .inr (hM b z)) fun z => .inr (x.gone z), y.inn,
    fun b o h1 e => y.keep b o (fun z => (hM b z).elim h1 fun z => by rw [z] at e; cases e) (x.keep b o h1 e),
    by obtain ⟨h, t, rfl⟩ := x.rest; obtain ⟨h', t', rfl⟩ := y.rest; exact ⟨h', t', rfl⟩⟩
theorem wide (x : Ext M B s B' s') (h : ∀ b, M b → M' b) : Ext M' B s B' s' :=
  ⟨x.le, fun b o e => (x.new b o e).elim .inl fun z => z.elim (fun z => .inr (.inl (h b z))) fun z => .inr (.inr z), x.inn, fun b o h1 e => x.keep b o (fun z => h1 (h b z)) e, x.rest⟩
theorem ofE (x : ExtE B s B' s') : Ext M B s B' s' := x.wide fun _ h => h.elim
theorem keepE (x : ExtE B s B' s') : Le s.heap s'.heap := fun b o e => x.keep b o (fun h => h) e
theorem transE (x : ExtE B s B' s') (y : ExtE B' s' B'' s'') : ExtE B s B'' s'' := x.trans y fun _ h => h.elim
theorem gens (x : Ext M B s B' s') : s'.gens = s.gens := by obtain ⟨h, t, rfl⟩ := x.rest; rfl
theorem os (x : Ext M B s B' s') : s'.os = s.os := by obtain ⟨h, t, rfl⟩ := x.rest; rfl
/-- a token more -/
theorem tok (h : Le B s.heap) (t : Nat) : Ext M B s B { s with toks := t } := ⟨Le.refl _, fun _ _ e => .inl e, h, fun _ _ _ e => e, ⟨s.heap, t, rfl⟩⟩
/-- what B has not, and was there, B' has not -/
theorem none' (x : Ext M B s B' s') {a : Addr} {o : Obj} (hm : ¬ M a) (ha : s.heap.get? a = some o) (hb : B.get? a = .none) : B'.get? a = .none := by
  cases q : B'.get? a with
  | none => rfl
  | some o' =>
    rcases x.new a o' q with z | z | z
    · rw [hb] at z; cases z
    · exact absurd z hm
    · rw [ha] at z; cases z
theorem none (x : ExtE B s B' s') {a : Addr} {o : Obj} (ha : s.heap.get? a = some o) (hb : B.get? a = .none) : B'.get? a = .none := x.none' (fun h => h) ha hb
/-- only the heap has changed, and B is in it -/
theorem heap (hl : Le B h) (hk : ∀ b o, ¬ M b → s.heap.get? b = some o → h.get? b = some o) (t : Nat) : Ext M B s B { s with heap := h, toks := t } :=
  ⟨Le.refl _, fun _ _ e => .inl e, hl, hk, ⟨h, t, rfl⟩⟩
end Ext

theorem get_size (h : Heap) : h.get? h.objs.size = none := by
  cases e : h.get? h.objs.size with
  | none => rfl
  | some o => exact absurd (Heap.lt_size e) (Nat.lt_irrefl _)

/-- a new frozen object -/
theorem ext_push {B : Heap} {s : Shared} (h : Le B s.heap) (o : Obj) (hf : o.isFreed = false := by rfl) :
    ∃ B', ExtE B s B' { s with heap := s.heap.push o } ∧ B'.get? s.heap.objs.size = some o := by
  have hn : B.get? s.heap.objs.size = none := by
    cases e : B.get? s.heap.objs.size with
    | none => rfl
    | some o' => exact absurd (Heap.lt_size (h _ _ e)) (Nat.lt_irrefl _)
  have hg := fun a => restrict_get (s.heap.push o) (fun a => (B.get? a).isSome || a == s.heap.objs.size) a
  refine ⟨restrict (s.heap.push o) (fun a => (B.get? a).isSome || a == s.heap.objs.size), ⟨fun b ob e => ?_, fun b ob e => ?_, fun b ob e => ?_, fun b ob _ e => Heap.get?_push_of_some _ e, ⟨_, _, rfl⟩⟩, ?_⟩
  · rw [hg, e]; simp only [Option.isSome_some, Bool.true_or, if_true]; exact Heap.get?_push_of_some _ (h _ _ e)
  · rw [hg] at e
    cases q : B.get? b with
    | some x =>
      rw [q] at e; simp only [Option.isSome_some, Bool.true_or, if_true] at e
      rw [Heap.get?_push_of_some _ (h _ _ q)] at e; exact .inl e
    | none =>
      rw [q] at e
      by_cases z : b = s.heap.objs.size
      · subst z; exact .inr (.inr (get_size _))
      · simp [z] at e
  · rw [hg] at e
    split at e
    · exact e
    · cases e
  · rw [hg]; simp only [beq_self_eq_true, Bool.or_true, if_true]; exact Heap.get?_push_size _ hf

/-! ## A frame -/
structure En (H₀ B₀ B : Heap) (sto : Str → Bool) (env : Env) (h : Heap) (σ : Sg) : Prop where
  stat : Le B₀ B
  le : Le B h
  kind : env.scope.kind = .function
  glob : env.globals = mainGlobals
  blt : env.builtins = builtinsNs
  loc : ∃ m, h.Ns env.locals m ∧ ∀ x d, env.kindOf x = some .local → σ.lookup x = some d → ∃ v, m x = some v ∧ Val B d v
  cel : ∀ x c, (x, c) ∈ env.cells → ∃ ov, h.IsCell c ov ∧ ∀ d, env.cells.lookup x = some c → σ.lookup x = some d → ∃ v, ov = some v ∧ Val B d v
  bound : ∀ x, (env.kindOf x = some .cell ∨ env.kindOf x = some .free) → ∃ c, env.cells.lookup x = some c
  inj : ∀ x y c, (x, c) ∈ env.cells → (y, c) ∈ env.cells → x = y
  celK : ∀ x c, (x, c) ∈ env.cells → env.kindOf x ≠ some .local
  celL : ∀ x c, (x, c) ∈ env.cells → c ≠ env.locals
  frL : B.get? env.locals = none
  frC : ∀ x c, (x, c) ∈ env.cells → B.get? c = none
  loL : H₀.get? env.locals = none
  loC : ∀ x c, (x, c) ∈ env.cells → sto x = true → H₀.get? c = none
  pres : ∀ b o, H₀.get? b = some o → ∃ o', h.get? b = some o'

structure Sn (prog : Program) (w : World) (H₀ B₀ B : Heap) (sto : Str → Bool) (env : Env) (h : Heap) (σ : Sg) (μ : Mu) : Prop where
  en : En H₀ B₀ B sto env h σ
  mu : MU prog w B h μ
  apL : ∀ a mv, (a, mv) ∈ μ → a ≠ env.locals
  apC : ∀ a mv, (a, mv) ∈ μ → ∀ x c, (x, c) ∈ env.cells → a ≠ c

theorem Sn.ext {H₀ B₀ B B' : Heap} {sto : Str → Bool} {env : Env} {s s' : Shared} {σ : Sg} {μ : Mu} (x : Sn prog w H₀ B₀ B sto env s.heap σ μ) (e : ExtE B s B' s') : Sn prog w H₀ B₀ B' sto env s'.heap σ μ := by
  have k := e.keepE
  have fresh : ∀ a o, s.heap.get? a = some o → B.get? a = none → B'.get? a = none := fun a o ha hb => e.none ha hb
  obtain ⟨m, hm, hv⟩ := x.en.loc
  refine ⟨⟨x.en.stat.trans e.le, e.inn, x.en.kind, x.en.glob, x.en.blt, ⟨m, hm.keeps k, fun y d h1 h2 => ?_⟩, fun y c hc => ?_, x.en.bound, x.en.inj, x.en.celK, x.en.celL, ?_, fun y c hc => ?_, x.en.loL, x.en.loC, fun b o hb => let ⟨o', ho'⟩ := x.en.pres b o hb; ⟨o', k b o' ho'⟩⟩, ⟨fun a mv hm => ?_, x.mu.nodup⟩, x.apL, x.apC⟩
  · obtain ⟨v, h3, h4⟩ := hv y d h1 h2; exact ⟨v, h3, h4.le e.le⟩
  · obtain ⟨ov, h1, h2⟩ := x.en.cel y c hc
    exact ⟨ov, h1.keeps k, fun d h0 h4 => let ⟨v, h5, h6⟩ := h2 d h0 h4; ⟨v, h5, h6.le e.le⟩⟩
  · obtain ⟨o, _, _, ho, _⟩ := hm; exact fresh _ o ho x.en.frL
  · obtain ⟨_, ⟨oc, hoc, _⟩, _⟩ := x.en.cel y c hc
    exact fresh _ oc hoc (x.en.frC y c hc)
  · obtain ⟨h1, h2⟩ := x.mu.val a mv hm
    have hlt : ∃ o, s.heap.get? a = some o := by
      cases mv with
      | list ds => obtain ⟨vs, n, e, r⟩ := h2; exact ⟨_, e⟩
      | dict kvs => obtain ⟨us, ⟨o, _, _, e, _⟩, _⟩ := h2; exact ⟨_, e⟩
    obtain ⟨o, ho⟩ := hlt
    exact ⟨fresh _ o ho h1, h2.keep e.le fun o' => k a o'⟩

/-! ## Storing a name -/
def put (x : Str) (d : PV) : Sg → Sg
  | [] => [(x, d)]
  | (y, e) :: r => if x == y then (x, d) :: r else (y, e) :: put x d r
theorem lookup_put (x : Str) (d : PV) (y : Str) : ∀ σ : Sg, (put x d σ).lookup y = if y = x then some d else σ.lookup y
  | [] => by
    by_cases h : y = x
    · simp [put, List.lookup, h]
    · have : (y == x) = false := by simpa using h
      simp [put, List.lookup, h, this]
  | (z, e) :: r => by
    unfold put
    by_cases hz : x = z
    · subst hz
      simp only [beq_self_eq_true, if_true, List.lookup_cons]
      by_cases h : y = x
      · simp [h]
      · have : (y == x) = false := by simpa using h
        simp [h, this]
    · have hz' : (x == z) = false := by simpa using hz
      simp only [hz', Bool.false_eq_true, if_false, List.lookup_cons]
      by_cases h : y = z
      · subst h
        have : ¬ y = x := fun q => hz q.symm
        simp [this]
      · have h' : (y == z) = false := by simpa using h
        simp only [h', lookup_put x d y r]

def isName (k : Option NameKind) : Bool := match k with
  | some .local | some .cell => true
  | _ => false

theorem Sn.sameBut {H₀ B₀ B : Heap} {sto : Str → Bool} {env : Env} {h h' : Heap} {σ : Sg} {μ : Mu} {b : Addr} (x : Sn prog w H₀ B₀ B sto env h σ μ) (hs : Heap.SameBut b h h') (hb : B.get? b = none) : Le B h' := fun a o e => by
  have : a ≠ b := fun q => by subst q; rw [hb] at e; cases e
  exact (hs.2 a this).trans (x.en.le a o e)

theorem MU.sameBut {B h h' : Heap} {μ : Mu} {b : Addr} (x : MU prog w B h μ) (hs : Heap.SameBut b h h') (hb : ∀ a mv, (a, mv) ∈ μ → a ≠ b) : MU prog w B h' μ :=
  ⟨fun a mv hm => ⟨(x.val a mv hm).1, (x.val a mv hm).2.keep (Le.refl _) fun o e => (hs.2 a (hb a mv hm)).trans e⟩, x.nodup⟩

theorem Ext.sameBut {M : Addr → Prop} {B : Heap} {s : Shared} {h' : Heap} {t : Nat} {b : Addr} (hs : Heap.SameBut b s.heap h') (hn : M b) (hl : Le B h') : Ext M B s B { s with heap := h', toks := t } :=
  ⟨Le.refl _, fun _ _ e => .inl e, hl, fun a o h1 e => (hs.2 a (fun q => h1 (q ▸ hn))).trans e, ⟨_, _, rfl⟩⟩

/-- the frame's own things -/
def Own (sto : Str → Bool) (env : Env) (b : Addr) : Prop := b = env.locals ∨ ∃ x, (x, b) ∈ env.cells ∧ sto x = true

theorem Sn.store {A : Around} {H₀ B₀ B : Heap} {sto : Str → Bool} {env : Env} {s : Shared} {σ : Sg} {μ : Mu} {y : Str} {d : PV} {v : Value} {Q : Unit → Shared → Prop} {E : Value → Shared → Prop}
    (x : Sn prog w H₀ B₀ B sto env s.heap σ μ) (hk : isName (env.kindOf y) = true) (hsto : sto y = true) (hv : Val B d v)
    (h : ∀ s', Ext (Own sto env) B s B s' → Sn prog w H₀ B₀ B sto env s'.heap (put y d σ) μ → Q () s') : wpAny (model prog w) A (storeName env y v) Q E s := by
  obtain ⟨m, hm, hmv⟩ := x.en.loc
  cases hkk : env.kindOf y with
  | none => rw [hkk] at hk; cases hk
  | some k =>
    cases k with
    | «local» =>
      refine wpAny_storeName_local hkk hm (fun h' hn hs => h _ (Ext.sameBut hs (.inl rfl) (x.sameBut hs x.en.frL)) ⟨⟨x.en.stat, x.sameBut hs x.en.frL, x.en.kind, x.en.glob, x.en.blt, ⟨_, hn, fun z d' h1 h2 => ?_⟩, fun z c hc => ?_, x.en.bound, x.en.inj, x.en.celK, x.en.celL, x.en.frL, x.en.frC, x.en.loL, x.en.loC, fun b o hb => let ⟨o', ho'⟩ := x.en.pres b o hb; ⟨o', (hs.2 b (fun z => by rw [z, x.en.loL] at hb; cases hb)).trans ho'⟩⟩, x.mu.sameBut hs fun a mv hm => x.apL a mv hm, x.apL, x.apC⟩) (by rw [x.en.kind]; rfl)
      · rw [lookup_put] at h2
        by_cases hz : z = y
        · rw [if_pos hz] at h2; cases h2; exact ⟨v, by simp [hz], hv⟩
        · rw [if_neg hz] at h2; obtain ⟨u, h3, h4⟩ := hmv z d' h1 h2; exact ⟨u, by simp [hz, h3], h4⟩
      · obtain ⟨ov, h1, h2⟩ := x.en.cel z c hc
        refine ⟨ov, h1.sameBut hs (x.en.celL z c hc), fun d' h3 h5 => h2 d' h3 ?_⟩
        rw [lookup_put] at h5
        by_cases hz : z = y
        · subst hz; exact absurd hkk (x.en.celK z c hc)
        · rwa [if_neg hz] at h5
    | cell =>
      obtain ⟨c, hc⟩ := x.en.bound y (.inl hkk)
      have hcm := PySem.mem_of_lookup hc
      obtain ⟨ov, h1, _⟩ := x.en.cel y c hcm
      refine wpAny_storeName_cell x.en.kind hkk hc h1 fun h' hn hs => h _ (Ext.sameBut hs (.inr ⟨y, hcm, hsto⟩) (x.sameBut hs (x.en.frC y c hcm))) ⟨⟨x.en.stat, x.sameBut hs (x.en.frC y c hcm), x.en.kind, x.en.glob, x.en.blt, ⟨m, hm.sameBut hs (Ne.symm (x.en.celL y c hcm)), fun z d' h1 h2 => ?_⟩, fun z c' hc' => ?_, x.en.bound, x.en.inj, x.en.celK, x.en.celL, x.en.frL, x.en.frC, x.en.loL, x.en.loC, fun b o hb => let ⟨o', ho'⟩ := x.en.pres b o hb; ⟨o', (hs.2 b (fun z => by rw [z, x.en.loC y c hcm hsto] at hb; cases hb)).trans ho'⟩⟩, x.mu.sameBut hs fun a mv hm => x.apC a mv hm y c hcm, x.apL, x.apC⟩
      · rw [lookup_put] at h2
        by_cases hz : z = y
        · subst hz; rw [hkk] at h1; cases h1
        · rw [if_neg hz] at h2; exact hmv z d' h1 h2
      · by_cases hcc : c' = c
        · subst hcc
          have hzy : z = y := x.en.inj _ _ _ hc' hcm
          subst hzy
          exact ⟨some v, hn, fun d' _ h5 => by rw [lookup_put, if_pos rfl] at h5; cases h5; exact ⟨v, rfl, hv⟩⟩
        · obtain ⟨ov', h1', h2'⟩ := x.en.cel z c' hc'
          refine ⟨ov', h1'.sameBut hs hcc, fun d' h3 h5 => h2' d' h3 ?_⟩
          rw [lookup_put] at h5
          by_cases hz : z = y
          · subst hz; rw [hc] at h3; cases h3; exact absurd rfl hcc
          · rwa [if_neg hz] at h5
    | _ => rw [hkk] at hk; cases hk
end Mine

end

section
open PySem PySem.Calls PyProof.Rows
namespace Mine
variable {prog : Program} {w : World}

/-! ## Judgements -/
def Gives (prog : Program) (w : World) (A : Around) (B : Heap) (s : Shared) (t : Sem Value) (d : PV) : Prop :=
  ∀ (Q : Value → Shared → Prop) (E : Value → Shared → Prop), (∀ v B' s', ExtE B s B' s' → Val B' d v → Q v s') → wpAny (model prog w) A t Q E s
def GivesB (prog : Program) (w : World) (A : Around) (B : Heap) (s : Shared) (t : Sem Bool) (b : Bool) : Prop :=
  ∀ (Q : Bool → Shared → Prop) (E : Value → Shared → Prop), (∀ B' s', ExtE B s B' s' → Q b s') → wpAny (model prog w) A t Q E s

structure Ct where
  prog : Program
  w : World
  B₀ : Heap
  H₀ : Heap
  W : List Addr
  A : Around
  sto : Str → Bool
  env : Env
abbrev Ct.St (c : Ct) (B h : Heap) (σ : Sg) (μ : Mu) : Prop := Sn c.prog c.w c.H₀ c.B₀ B c.sto c.env h σ μ

def Ev (c : Ct) (σ : Sg) (μ : Mu) (e : Expr) (d : PV) : Prop := ∀ B s, c.St B s.heap σ μ → Gives c.prog c.w c.A B s (eval e c.env) d
def Tr (c : Ct) (σ : Sg) (μ : Mu) (e : Expr) (b : Bool) : Prop := ∀ B s, c.St B s.heap σ μ → GivesB c.prog c.w c.A B s (isTrue e c.env (eval e c.env)) b
def Evs (c : Ct) (σ : Sg) (μ : Mu) (pos : Pos) (es : List Expr) (ds : List PV) : Prop := ∀ B s, c.St B s.heap σ μ → ∀ (Q : List Value → Shared → Prop) (E : Value → Shared → Prop),
  (∀ vs B' s', ExtE B s B' s' → Vals B' ds vs → Q vs s') → wpAny (model c.prog c.w) c.A (spliced (backTo pos (starEach es c.env))) Q E s

/-- what stands in B and the mutable things are there -/
structure At (prog : Program) (w : World) (B : Heap) (s : Shared) (μ : Mu) : Prop where
  le : Le B s.heap
  mu : MU prog w B s.heap μ
theorem Sn.at {H₀ B₀ B : Heap} {sto : Str → Bool} {env : Env} {s : Shared} {σ : Sg} {μ : Mu} (x : Sn prog w H₀ B₀ B sto env s.heap σ μ) : At prog w B s μ := ⟨x.en.le, x.mu⟩

def Op2 (prog : Program) (w : World) (A : Around) (μ : Mu) (t : Value → Value → Sem Value) (d₁ d₂ d : PV) : Prop :=
  ∀ B s v₁ v₂, At prog w B s μ → Val B d₁ v₁ → Val B d₂ v₂ → Gives prog w A B s (t v₁ v₂) d
def Op1 (prog : Program) (w : World) (A : Around) (μ : Mu) (t : Value → Sem Value) (d₁ d : PV) : Prop :=
  ∀ B s v₁, At prog w B s μ → Val B d₁ v₁ → Gives prog w A B s (t v₁) d
def Th (prog : Program) (w : World) (A : Around) (μ : Mu) (d : PV) (b : Bool) : Prop :=
  ∀ B s v, At prog w B s μ → Val B d v → GivesB prog w A B s (truthy v) b
/-- what a call gives -/
def Sp (prog : Program) (w : World) (B₀ : Heap) (A : Around) (μ : Mu) (f : Value) (ds : List PV) (d : PV) : Prop :=
  ∀ B s vs, Le B₀ B → At prog w B s μ → Vals B ds vs → Gives prog w A B s (call f vs) d

section
variable {A : Around} {B B' : Heap} {s s' : Shared}
theorem Gives.of {d : PV} {v : Value} {t : Sem Value} (h : Le B s.heap) (hv : Val B d v) (k : ∀ (Q : Value → Shared → Prop) (E : Value → Shared → Prop), Q v s → wpAny (model prog w) A t Q E s) : Gives prog w A B s t d :=
  fun Q E q => k Q E (q v B s (Ext.refl h) hv)
theorem Gives.ofTok {d : PV} {v : Value} {n : Nat} {t : Sem Value} (h : Le B s.heap) (hv : Val B d v) (k : ∀ (Q : Value → Shared → Prop) (E : Value → Shared → Prop), Q v { s with toks := n } → wpAny (model prog w) A t Q E s) : Gives prog w A B s t d :=
  fun Q E q => k Q E (q v B _ (Ext.tok h n) hv)
theorem Gives.mono {d : PV} {t : Sem Value} (g : Gives prog w A B' s' t d) (e : ExtE B s B' s') {Q : Value → Shared → Prop} {E : Value → Shared → Prop} (q : ∀ v B' s', ExtE B s B' s' → Val B' d v → Q v s') :
    wpAny (model prog w) A t Q E s' := g Q E fun v B'' s'' e' hv => q v B'' s'' (e.transE e') hv
theorem At.ext {μ : Mu} (x : At prog w B s μ) (e : ExtE B s B' s') : At prog w B' s' μ := by
  refine ⟨e.inn, ⟨fun a mv hm => ?_, x.mu.nodup⟩⟩
  obtain ⟨h1, h2⟩ := x.mu.val a mv hm
  refine ⟨?_, h2.keep e.le fun o => e.keepE a o⟩
  have : ∃ o, s.heap.get? a = some o := by
    cases mv with
    | list ds => obtain ⟨vs, n, e, r⟩ := h2; exact ⟨_, e⟩
    | dict kvs => obtain ⟨us, ⟨o, _, _, e, _⟩, _⟩ := h2; exact ⟨_, e⟩
  obtain ⟨o, ho⟩ := this
  exact e.none ho h1
end

/-! ## Names and constants -/
section
variable {c : Ct} {σ : Sg} {μ : Mu}

def readable (k : Option NameKind) : Bool := match k with
  | some .local | some .cell | some .free => true
  | _ => false
theorem Ev.name {x : Str} {pos : Pos} {d : PV} (hσ : σ.lookup x = some d) (hk : readable (c.env.kindOf x) = true := by rfl) (hd : (x == ("__debug__" : Str)) = false := by decide) (hn : (x == ("__classdict__" : Str)) = false := by decide) :
    Ev c σ μ (.Name x pos) d := by
  intro B s S Q E q
  refine wpAny_Name ?_ hd
  cases hkk : c.env.kindOf x with
  | none => rw [hkk] at hk; cases hk
  | some k =>
    cases k with
    | «local» =>
      obtain ⟨m, hm, hmv⟩ := S.en.loc
      obtain ⟨v, h1, h2⟩ := hmv x d hkk hσ
      exact wpAny_loadName_local S.en.kind hkk hm h1 (q v B s (Ext.refl S.en.le) h2)
    | cell =>
      obtain ⟨a, ha⟩ := S.en.bound x (.inl hkk)
      obtain ⟨ov, h1, h2⟩ := S.en.cel x a (PySem.mem_of_lookup ha)
      obtain ⟨v, rfl, h3⟩ := h2 d ha hσ
      exact wpAny_loadName_cell S.en.kind hkk ha h1 (q v B s (Ext.refl S.en.le) h3)
    | free =>
      obtain ⟨a, ha⟩ := S.en.bound x (.inr hkk)
      obtain ⟨ov, h1, h2⟩ := S.en.cel x a (PySem.mem_of_lookup ha)
      obtain ⟨v, rfl, h3⟩ := h2 d ha hσ
      exact wpAny_loadName_free S.en.kind hkk ha h1 (q v B s (Ext.refl S.en.le) h3) hn
    | _ => rw [hkk] at hk; cases hk

structure Gl (B₀ : Heap) (mg mb : Str → Option Value) : Prop where
  g : B₀.Ns mainGlobals mg
  b : B₀.Ns builtinsNs mb
  nolimit : B₀.NoLimit
theorem Ev.glob {mg mb : Str → Option Value} {x : Str} {pos : Pos} {v : Value} (G : Gl c.B₀ mg mb) (hv : mg x = some v) (hk : c.env.kindOf x = some .globalImplicit := by rfl) (hd : (x == ("__debug__" : Str)) = false := by decide) :
    Ev c σ μ (.Name x pos) (.raw v) := by
  intro B s S Q E q
  refine Name_function_global S.en.kind hk (loadGlobal_global (mg := mg) (v := v) ?_ hv (q v B s (Ext.refl S.en.le) rfl)) hd
  rw [S.en.glob]; exact G.g.keeps (S.en.stat.trans S.en.le)
theorem Ev.blt {mg mb : Str → Option Value} {x : Str} {pos : Pos} {v : Value} (G : Gl c.B₀ mg mb) (hm : mg x = none) (hv : mb x = some v) (hk : c.env.kindOf x = some .globalImplicit := by rfl) (hd : (x == ("__debug__" : Str)) = false := by decide) :
    Ev c σ μ (.Name x pos) (.raw v) := by
  intro B s S Q E q
  refine Name_function_global S.en.kind hk (loadGlobal_builtin (mg := mg) (mb := mb) (v := v) ?_ hm ?_ hv (q v B s (Ext.refl S.en.le) rfl)) hd
  · rw [S.en.glob]; exact G.g.keeps (S.en.stat.trans S.en.le)
  · rw [S.en.blt]; exact G.b.keeps (S.en.stat.trans S.en.le)

theorem Ev.int {i : Int} {k : Nat} {pos : Pos} : Ev c σ μ (.Constant (.int i) k pos) (.int i) := fun B s S => Gives.ofTok S.en.le ⟨_, rfl⟩ fun Q E q => wpAny_Constant_int q
theorem Ev.str {x : Str} {k : Nat} {pos : Pos} : Ev c σ μ (.Constant (.str x) k pos) (.str x) := fun B s S => Gives.ofTok S.en.le ⟨_, rfl⟩ fun Q E q => Constant_str q
theorem Ev.bool {b : Bool} {k : Nat} {pos : Pos} : Ev c σ μ (.Constant (.bool b) k pos) (.bool b) := fun B s S => Gives.of S.en.le rfl fun Q E q => Constant_bool q
theorem Ev.none {k : Nat} {pos : Pos} : Ev c σ μ (.Constant .none k pos) .none := fun B s S => Gives.of S.en.le rfl fun Q E q => Constant_none q

/-! ## Operators -/
theorem Ev.bin {l r : Expr} {op : Operator} {pos : Pos} {d₁ d₂ d : PV} (hl : Ev c σ μ l d₁) (hr : Ev c σ μ r d₂) (ho : Op2 c.prog c.w c.A μ (binaryOp op) d₁ d₂ d) : Ev c σ μ (.BinOp l op r pos) d := by
  intro B s S Q E q
  refine wpAny_BinOp (hl B s S _ _ fun v₁ B₁ s₁ e₁ h₁ => hr B₁ s₁ (S.ext e₁) _ _ fun v₂ B₂ s₂ e₂ h₂ => ?_)
  exact (ho B₂ s₂ v₁ v₂ ((S.ext e₁).ext e₂).at (h₁.le e₂.le) h₂).mono (e₁.transE e₂) q
theorem Ev.un {x : Expr} {op : UnaryOp} {pos : Pos} {d₁ d : PV} (hx : Ev c σ μ x d₁) (ho : Op1 c.prog c.w c.A μ (unaryOp op) d₁ d) : Ev c σ μ (.UnaryOp op x pos) d := by
  intro B s S Q E q
  refine UnaryOp_ (hx B s S _ _ fun v₁ B₁ s₁ e₁ h₁ => ?_)
  exact (ho B₁ s₁ v₁ (S.ext e₁).at h₁).mono e₁ q
theorem Ev.cmp {l r : Expr} {op : CmpOp} {pos : Pos} {d₁ d₂ d : PV} (hl : Ev c σ μ l d₁) (hr : Ev c σ μ r d₂) (ho : Op2 c.prog c.w c.A μ (compareOp op) d₁ d₂ d)
    (hm : behindInMarks op r = false := by with_unfolding_all rfl) : Ev c σ μ (.Compare l [op] [r] pos) d := by
  intro B s S Q E q
  refine wpAny_Compare1 (hl B s S _ _ fun v₁ B₁ s₁ e₁ h₁ => hr B₁ s₁ (S.ext e₁) _ _ fun v₂ B₂ s₂ e₂ h₂ => ?_) hm
  exact (ho B₂ s₂ v₁ v₂ ((S.ext e₁).ext e₂).at (h₁.le e₂.le) h₂).mono (e₁.transE e₂) q

theorem GivesB.bool {A : Around} {B : Heap} {s : Shared} {b : Bool} (h : Le B s.heap) : GivesB prog w A B s (truthy (.bool b)) b := fun Q E q => wpAny_truthy_bool (q B s (Ext.refl h))

theorem Tr.cmp {l r : Expr} {op : CmpOp} {pos : Pos} {d₁ d₂ : PV} {b : Bool} (hl : Ev c σ μ l d₁) (hr : Ev c σ μ r d₂) (ho : Op2 c.prog c.w c.A μ (compareOp op) d₁ d₂ (.bool b))
    (hm : behindInMarks op r = false := by with_unfolding_all rfl) : Tr c σ μ (.Compare l [op] [r] pos) b := by
  intro B s S Q E q
  refine wpAny_isTrue_Compare1 (hl B s S _ _ fun v₁ B₁ s₁ e₁ h₁ => hr B₁ s₁ (S.ext e₁) _ _ fun v₂ B₂ s₂ e₂ h₂ => ?_) hm
  refine ho B₂ s₂ v₁ v₂ ((S.ext e₁).ext e₂).at (h₁.le e₂.le) h₂ _ _ fun v B₃ s₃ e₃ h₃ => ?_
  cases h₃
  exact wpAny_truthy_bool (q B₃ s₃ ((e₁.transE e₂).transE e₃))
theorem Tr.cmp2 {l r r' : Expr} {op op' : CmpOp} {pos : Pos} {d₁ d₂ d₃ : PV} {b b' : Bool} (hl : Ev c σ μ l d₁) (hr : Ev c σ μ r d₂) (ho : Op2 c.prog c.w c.A μ (compareOp op) d₁ d₂ (.bool b))
    (hr' : Ev c σ μ r' d₃) (ho' : Op2 c.prog c.w c.A μ (compareOp op') d₂ d₃ (.bool b'))
    (hm : lastMarks [op, op'] [r, r'] = false := by with_unfolding_all rfl) : Tr c σ μ (.Compare l [op, op'] [r, r'] pos) (b && b') := by
  intro B s S Q E q
  refine isTrue_chain (rs := []) (hl B s S _ _ fun v₁ B₁ s₁ e₁ h₁ => test_link (hr B₁ s₁ (S.ext e₁) _ _ fun v₂ B₂ s₂ e₂ h₂ => ?_)) hm
  refine ho B₂ s₂ v₁ v₂ ((S.ext e₁).ext e₂).at (h₁.le e₂.le) h₂ _ _ fun v B₃ s₃ e₃ h₃ => ?_
  cases h₃
  refine wpAny_truthy_bool ?_
  cases b with
  | false => exact q B₃ s₃ ((e₁.transE e₂).transE e₃)
  | true =>
    refine test_last (hr' B₃ s₃ (((S.ext e₁).ext e₂).ext e₃) _ _ fun v₄ B₄ s₄ e₄ h₄ => ?_)
    refine ho' B₄ s₄ v₂ v₄ ((((S.ext e₁).ext e₂).ext e₃).ext e₄).at ((h₂.le e₃.le).le e₄.le) h₄ _ _ fun v B₅ s₅ e₅ h₅ => ?_
    cases h₅
    exact wpAny_truthy_bool (q B₅ s₅ ((((e₁.transE e₂).transE e₃).transE e₄).transE e₅))
theorem Tr.not {x : Expr} {pos : Pos} {b : Bool} (h : Tr c σ μ x b) : Tr c σ μ (.UnaryOp .Not x pos) (!b) :=
  fun B s S Q E q => isTrue_not (h B s S _ _ fun B' s' e => q B' s' e)
theorem Tr.and_nil {pos : Pos} : Tr c σ μ (.BoolOp .And [] pos) true := fun B s S Q E q => isTrue_and_nil (q B s (Ext.refl S.en.le))
theorem Tr.or_nil {pos : Pos} : Tr c σ μ (.BoolOp .Or [] pos) false := fun B s S Q E q => isTrue_or_nil (q B s (Ext.refl S.en.le))
theorem isTrue_boolOp_whole (op : BoolOp) (es : List Expr) (pos : Pos) (env : Env) (w1 w2 : Sem Value) : isTrue (.BoolOp op es pos) env w1 = isTrue (.BoolOp op es pos) env w2 := rfl
theorem Tr.and {x : Expr} {rest : List Expr} {pos : Pos} {b b' : Bool} (h : Tr c σ μ x b) (h' : b = true → Tr c σ μ (.BoolOp .And rest pos) b') : Tr c σ μ (.BoolOp .And (x :: rest) pos) (b && b') := by
  intro B s S Q E q
  refine isTrue_and (h B s S _ _ fun B₁ s₁ e₁ => ?_)
  cases b with
  | false => exact q B₁ s₁ e₁
  | true => exact h' rfl B₁ s₁ (S.ext e₁) _ _ fun B₂ s₂ e₂ => q B₂ s₂ (e₁.transE e₂)
theorem Tr.or {x : Expr} {rest : List Expr} {pos : Pos} {b b' : Bool} (h : Tr c σ μ x b) (h' : b = false → Tr c σ μ (.BoolOp .Or rest pos) b') : Tr c σ μ (.BoolOp .Or (x :: rest) pos) (b || b') := by
  intro B s S Q E q
  refine isTrue_or (h B s S _ _ fun B₁ s₁ e₁ => ?_)
  cases b with
  | true => exact q B₁ s₁ e₁
  | false => exact h' rfl B₁ s₁ (S.ext e₁) _ _ fun B₂ s₂ e₂ => q B₂ s₂ (e₁.transE e₂)
theorem Tr.plain {e : Expr} {d : PV} {b : Bool} (h : Ev c σ μ e d) (ht : Th c.prog c.w c.A μ d b)
    (he : isTrue e c.env (eval e c.env) = (do let v ← eval e c.env; standAt e.pos; holding [v] (truthy v)) := by rfl) : Tr c σ μ e b := by
  intro B s S Q E q
  exact isTrue_plain (h B s S _ _ fun v B₁ s₁ e₁ h₁ => ht B₁ s₁ v (S.ext e₁).at h₁ _ _ fun B₂ s₂ e₂ => q B₂ s₂ (e₁.transE e₂)) he
theorem Ev.ite {test body orelse : Expr} {pos : Pos} {b : Bool} {d : PV} (h : Tr c σ μ test b) (h1 : b = true → Ev c σ μ body d) (h2 : b = false → Ev c σ μ orelse d) : Ev c σ μ (.IfExp test body orelse pos) d := by
  intro B s S Q E q
  refine IfExp_ (h B s S _ _ fun B₁ s₁ e₁ => ?_)
  cases b with
  | true => exact (h1 rfl B₁ s₁ (S.ext e₁)).mono e₁ q
  | false => exact (h2 rfl B₁ s₁ (S.ext e₁)).mono e₁ q
/-- a and b, both bools -/
theorem Ev.and2 {x y : Expr} {pos : Pos} {b : Bool} {d : PV} (h : Ev c σ μ x (.bool b)) (h1 : b = true → Ev c σ μ y d) (h2 : b = false → d = .bool false) : Ev c σ μ (.BoolOp .And [x, y] pos) d := by
  intro B s S Q E q
  refine BoolOp_and (h B s S _ _ fun v B₁ s₁ e₁ h₁ => ?_)
  cases h₁
  refine wpAny_truthy_bool ?_
  cases b with
  | true => exact BoolOp_one ((h1 rfl B₁ s₁ (S.ext e₁)).mono e₁ q)
  | false => exact q _ B₁ s₁ e₁ (by rw [h2 rfl]; rfl)

/-! ## Displays, arguments, calls -/
theorem Evs.nil {pos : Pos} : Evs c σ μ pos [] [] := fun B s S Q E q => args_nil (q [] B s (Ext.refl S.en.le) rfl)
theorem Evs.cons {pos : Pos} {e : Expr} {rest : List Expr} {d : PV} {ds : List PV} (h : Ev c σ μ e d) (hr : Evs c σ μ pos rest ds) (he : starEach (e :: rest) c.env = (false, eval e c.env) :: starEach rest c.env := by rfl) : Evs c σ μ pos (e :: rest) (d :: ds) := by
  intro B s S Q E q
  refine args_cons (h B s S _ _ fun v B₁ s₁ e₁ h₁ => hr B₁ s₁ (S.ext e₁) _ _ fun vs B₂ s₂ e₂ h₂ => ?_) he
  exact q _ B₂ s₂ (e₁.transE e₂) (.cons (h₁.le e₂.le) h₂)

theorem gives_newTuple {A : Around} {B : Heap} {s : Shared} {ds : List PV} {vs : List Value} (hl : Le B s.heap) (hv : Vals B ds vs) (hz : ds.length ≤ sizeLine) : Gives prog w A B s (newTuple vs) (.tuple ds) := by
  intro Q E q
  refine wpAny_newTuple ?_ (by rw [hv.length]; exact hz)
  obtain ⟨B', e, hg⟩ := ext_push hl { cls := .type "tuple", data := .seq vs.toArray }
  exact q _ B' _ e ⟨_, vs, rfl, ⟨_, hg, rfl, _, rfl⟩, hv.le e.le⟩
theorem gives_newList {A : Around} {B : Heap} {s : Shared} {ds : List PV} {vs : List Value} (hl : Le B s.heap) (hv : Vals B ds vs) (hz : ds.length ≤ sizeLine) : Gives prog w A B s (newList vs) (.list ds) := by
  intro Q E q
  refine wpAny_newList ?_ (by rw [hv.length]; exact hz)
  obtain ⟨B', e, hg⟩ := ext_push hl { cls := .type "list", data := .seq vs.toArray }
  exact q _ B' _ e ⟨_, vs, rfl, ⟨_, hg, rfl, _, rfl⟩, hv.le e.le⟩
theorem Ev.tuple {es : List Expr} {k : Nat} {pos : Pos} {ds : List PV} (h : Evs c σ μ pos es ds) (hz : ds.length ≤ sizeLine := by first | decide | simp [sizeLine]) : Ev c σ μ (.Tuple es k pos) (.tuple ds) := by
  intro B s S Q E q
  exact Tuple_ (h B s S _ _ fun vs B₁ s₁ e₁ h₁ => (gives_newTuple e₁.inn h₁ hz).mono e₁ q)
theorem Ev.list {es : List Expr} {pos : Pos} {ds : List PV} (h : Evs c σ μ pos es ds) (hz : ds.length ≤ sizeLine := by first | decide | simp [sizeLine]) : Ev c σ μ (.List es pos) (.list ds) := by
  intro B s S Q E q
  exact List_ (h B s S _ _ fun vs B₁ s₁ e₁ h₁ => (gives_newList e₁.inn h₁ hz).mono e₁ q)

def IsFn (B₀ : Heap) (a : Addr) : Prop := ∃ o fd, B₀.get? a = some o ∧ o.data = .func fd
theorem Ev.call {f : Expr} {e : Expr} {es : List Expr} {pos : Pos} {a : Addr} {ds : List PV} {d : PV} (hf : Ev c σ μ f (.raw (.ref a))) (hfn : IsFn c.B₀ a) (ha : Evs c σ μ pos (e :: es) ds)
    (sp : Sp c.prog c.w c.B₀ c.A μ (.ref a) ds d)
    (he : eval (.Call f (e :: es) [] pos) c.env = (do callWith pos (← eval f c.env) [] (backTo pos (starEach (e :: es) c.env)) (backToKw pos (keywordEach [] c.env))) := by rfl)
    (hs : starEach (e :: es) c.env = (false, eval e c.env) :: starEach es c.env := by rfl) : Ev c σ μ (.Call f (e :: es) [] pos) d := by
  intro B s S Q E q
  obtain ⟨o, fd, ho, hd⟩ := hfn
  refine Call_ (hf B s S _ _ fun v B₁ s₁ e₁ h₁ => ?_) he
  cases h₁
  refine callWith_def (o := o) hd (ha B₁ s₁ (S.ext e₁) _ _ fun vs B₂ s₂ e₂ h₂ => ?_) hs
  have S2 := (S.ext e₁).ext e₂
  exact ⟨S2.en.le _ _ (S2.en.stat _ _ ho), (sp B₂ s₂ vs S2.en.stat S2.at h₂).mono (e₁.transE e₂) q⟩
theorem Ev.callB {f : Expr} {e : Expr} {es : List Expr} {pos : Pos} {id : String} {ds : List PV} {d : PV} (hf : Ev c σ μ f (.raw (.builtin id))) (ha : Evs c σ μ pos (e :: es) ds)
    (sp : Sp c.prog c.w c.B₀ c.A μ (.builtin id) ds d)
    (he : eval (.Call f (e :: es) [] pos) c.env = (do callWith pos (← eval f c.env) [] (backTo pos (starEach (e :: es) c.env)) (backToKw pos (keywordEach [] c.env))) := by rfl)
    (hs : starEach (e :: es) c.env = (false, eval e c.env) :: starEach es c.env := by rfl) (hp : (backTo pos (starEach es c.env)).any (·.1) = false := by rfl) : Ev c σ μ (.Call f (e :: es) [] pos) d := by
  intro B s S Q E q
  refine Call_ (hf B s S _ _ fun v B₁ s₁ e₁ h₁ => ?_) he
  cases h₁
  refine callWith_builtin1 (ha B₁ s₁ (S.ext e₁) _ _ fun vs B₂ s₂ e₂ h₂ => ?_) hs hp
  have S2 := (S.ext e₁).ext e₂
  exact (sp B₂ s₂ vs S2.en.stat S2.at h₂).mono (e₁.transE e₂) q
theorem Ev.callT {f : Expr} {e : Expr} {es : List Expr} {pos : Pos} {T : String} {ds : List PV} {d : PV} (hf : Ev c σ μ f (.raw (.type T))) (ha : Evs c σ μ pos (e :: es) ds)
    (sp : Sp c.prog c.w c.B₀ c.A μ (.type T) ds d)
    (he : eval (.Call f (e :: es) [] pos) c.env = (do callWith pos (← eval f c.env) [] (backTo pos (starEach (e :: es) c.env)) (backToKw pos (keywordEach [] c.env))) := by rfl)
    (hs : starEach (e :: es) c.env = (false, eval e c.env) :: starEach es c.env := by rfl) (hp : (backTo pos (starEach es c.env)).any (·.1) = false := by rfl) : Ev c σ μ (.Call f (e :: es) [] pos) d := by
  intro B s S Q E q
  refine Call_ (hf B s S _ _ fun v B₁ s₁ e₁ h₁ => ?_) he
  cases h₁
  rw [hs]
  refine PyProof.Rows.callWith_type ?_ (evalArgs_plain ?_)
  · show (false || (backTo pos (starEach es c.env)).any (·.1)) = false; rw [hp]; rfl
  have := ha B₁ s₁ (S.ext e₁) 
  rw [hs] at this
  refine this _ _ fun vs B₂ s₂ e₂ h₂ => ?_
  have S2 := (S.ext e₁).ext e₂
  exact (sp B₂ s₂ vs S2.en.stat S2.at h₂).mono (e₁.transE e₂) q
end
end Mine

end

section
open PySem PySem.Calls PyProof.Rows
namespace Mine
variable {prog : Program} {w : World}

/-! ## Statements -/
inductive Fl where
  | next | brk | cont | ret (d : PV)
def FlowIs (B : Heap) : Fl → Flow → Prop
  | .next, f => f = .next
  | .brk, f => f = .brk
  | .cont, f => f = .cont
  | .ret d, f => ∃ v, f = .ret v ∧ Val B d v
abbrev Post := Fl → Sg → Mu → Prop

def Tch (c : Ct) (μ : Mu) (b : Addr) : Prop := Own c.sto c.env b ∨ ((∃ mv, (b, mv) ∈ μ) ∧ (c.H₀.get? b = none ∨ b ∈ c.W))
def Dom (μ μ' : Mu) (h : Heap) : Prop := ∀ a mv, (a, mv) ∈ μ' → (∃ mv', (a, mv') ∈ μ) ∨ h.get? a = none
def Done (c : Ct) (μ : Mu) (B : Heap) (s : Shared) (Φ : Post) (Q : Flow → Shared → Prop) : Prop :=
  ∀ fl flow B' s' σ' μ', Φ fl σ' μ' → FlowIs B' fl flow → Ext (Tch c μ) B s B' s' → Dom μ μ' s.heap → c.St B' s'.heap σ' μ' → Q flow s'

def Ex (c : Ct) (σ : Sg) (μ : Mu) (st : Stmt) (Φ : Post) : Prop := ∀ B s, c.St B s.heap σ μ → ∀ Q E, Done c μ B s Φ Q → wpAny (model c.prog c.w) c.A (exec st c.env) Q E s
def Exs (c : Ct) (σ : Sg) (μ : Mu) (sts : List Stmt) (Φ : Post) : Prop := ∀ B s, c.St B s.heap σ μ → ∀ Q E, Done c μ B s Φ Q → wpAny (model c.prog c.w) c.A (execs sts c.env) Q E s

theorem Dom.refl (μ : Mu) (h : Heap) : Dom μ μ h := fun a mv hm => .inl ⟨mv, hm⟩
theorem Tch.back {c : Ct} {μ μ' : Mu} {h : Heap} (d : Dom μ μ' h) (b : Addr) (x : Tch c μ' b) : Tch c μ b ∨ h.get? b = none := by
  rcases x with x | ⟨⟨mv, hm⟩, x⟩
  · exact .inl (.inl x)
  · exact (d b mv hm).elim (fun q => .inl (.inr ⟨q, x⟩)) .inr
theorem Dom.trans {c : Ct} {μ μ' μ'' : Mu} {B B' : Heap} {s s' : Shared} (d : Dom μ μ' s.heap) (e : Ext (Tch c μ) B s B' s') (d' : Dom μ' μ'' s'.heap) (ho : ∀ a mv, (a, mv) ∈ μ'' → ¬ Own c.sto c.env a) : Dom μ μ'' s.heap := fun a mv hm => by
  rcases d' a mv hm with ⟨mv', h⟩ | h
  · exact d a mv' h
  · rcases e.gone h with q | q
    · rcases q with q | q
      · exact absurd q (ho a mv hm)
      · exact .inl q.1
    · exact .inr q
theorem Sn.notOwn {H₀ B₀ B : Heap} {sto : Str → Bool} {env : Env} {h : Heap} {σ : Sg} {μ : Mu} (x : Sn prog w H₀ B₀ B sto env h σ μ) : ∀ a mv, (a, mv) ∈ μ → ¬ Own sto env a := fun a mv hm ho => by
  rcases ho with rfl | ⟨y, hy, _⟩
  · exact x.apL _ mv hm rfl
  · exact x.apC a mv hm y a hy rfl
/-- go on from a later state -/
theorem Done.from {c : Ct} {μ μ' : Mu} {B B' : Heap} {s s' : Shared} {Φ : Post} {Q : Flow → Shared → Prop} (q : Done c μ B s Φ Q) (e : Ext (Tch c μ) B s B' s') (d : Dom μ μ' s.heap) : Done c μ' B' s' Φ Q :=
  fun fl flow B'' s'' σ'' μ'' hΦ hf e' d' S => q fl flow B'' s'' σ'' μ'' hΦ hf (e.trans e' (Tch.back d)) (d.trans e d' S.notOwn) S
theorem Done.fromE {c : Ct} {μ : Mu} {B B' : Heap} {s s' : Shared} {Φ : Post} {Q : Flow → Shared → Prop} (q : Done c μ B s Φ Q) (e : ExtE B s B' s') : Done c μ B' s' Φ Q := q.from e.ofE (Dom.refl _ _)

section
variable {c : Ct} {σ : Sg} {μ : Mu} {Φ Ψ : Post}

theorem Ex.mono {st : Stmt} (h : Ex c σ μ st Φ) (k : ∀ fl σ' μ', Φ fl σ' μ' → Ψ fl σ' μ') : Ex c σ μ st Ψ := fun B s S Q E q => h B s S Q E fun fl flow B' s' σ' μ' hΦ => q fl flow B' s' σ' μ' (k _ _ _ hΦ)
theorem Exs.mono {sts : List Stmt} (h : Exs c σ μ sts Φ) (k : ∀ fl σ' μ', Φ fl σ' μ' → Ψ fl σ' μ') : Exs c σ μ sts Ψ := fun B s S Q E q => h B s S Q E fun fl flow B' s' σ' μ' hΦ => q fl flow B' s' σ' μ' (k _ _ _ hΦ)

theorem Exs.nil (h : Φ .next σ μ) : Exs c σ μ [] Φ := fun B s S Q E q => wpAny_execs_nil (q .next .next B s σ μ h rfl (Ext.refl S.en.le) (Dom.refl _ _) S)

def Then (c : Ct) (rest : List Stmt) (Φ : Post) : Post := fun fl σ μ => match fl with
  | .next => Exs c σ μ rest Φ
  | fl => Φ fl σ μ
theorem Exs.cons {st : Stmt} {rest : List Stmt} (h : Ex c σ μ st (Then c rest Φ)) : Exs c σ μ (st :: rest) Φ := by
  intro B s S Q E q
  refine wpAny_execs_cons (h B s S _ _ fun fl flow B' s' σ' μ' hΦ hf e d S' => ?_)
  cases fl with
  | next => cases hf; exact hΦ B' s' S' Q E (q.from e d)
  | brk => cases hf; exact q _ _ B' s' σ' μ' hΦ rfl e d S'
  | cont => cases hf; exact q _ _ B' s' σ' μ' hΦ rfl e d S'
  | ret x => obtain ⟨v, rfl, hv⟩ := hf; exact q (.ret x) _ B' s' σ' μ' hΦ ⟨v, rfl, hv⟩ e d S'

theorem Ex.ret {e : Expr} {pos : Pos} {d : PV} (h : Ev c σ μ e d) (k : Φ (.ret d) σ μ) : Ex c σ μ (.Return (some e) pos) Φ :=
  fun B s S Q E q => wpAny_Return_some (h B s S _ _ fun v B' s' x hv => q (.ret d) _ B' s' σ μ k ⟨v, rfl, hv⟩ x.ofE (Dom.refl _ _) (S.ext x))
theorem Ex.ite {test : Expr} {body orelse : List Stmt} {pos : Pos} {b : Bool} (h : Tr c σ μ test b) (h1 : b = true → Exs c σ μ body Φ) (h2 : b = false → Exs c σ μ orelse Φ) : Ex c σ μ (.If test body orelse pos) Φ := by
  intro B s S Q E q
  refine wpAny_If (h B s S _ _ fun B' s' e => ?_)
  cases b with
  | true => exact h1 rfl B' s' (S.ext e) Q E (q.fromE e)
  | false => exact h2 rfl B' s' (S.ext e) Q E (q.fromE e)
theorem Ex.pass {pos : Pos} (k : Φ .next σ μ) : Ex c σ μ (.Pass pos) Φ := fun B s S Q E q => wpAny_Pass (q .next _ B s σ μ k rfl (Ext.refl S.en.le) (Dom.refl _ _) S)
theorem Ex.cont {pos : Pos} (k : Φ .cont σ μ) : Ex c σ μ (.Continue pos) Φ := fun B s S Q E q => wpAny_Continue (q .cont _ B s σ μ k rfl (Ext.refl S.en.le) (Dom.refl _ _) S)

/-! ## Assignments -/
def Asg (c : Ct) (σ : Sg) (μ : Mu) (target : Expr) (d : PV) (σ' : Sg) : Prop := ∀ B s v, c.St B s.heap σ μ → Val B d v → ∀ (Q : Unit → Shared → Prop) (E : Value → Shared → Prop),
  (∀ B' s', Ext (Own c.sto c.env) B s B' s' → c.St B' s'.heap σ' μ → Q () s') → wpAny (model c.prog c.w) c.A (assign target c.env v) Q E s
theorem Asg.name {x : Str} {px : Pos} {d : PV} (hk : (isName (c.env.kindOf x) && c.sto x) = true := by rfl) : Asg c σ μ (.Name x px) d (put x d σ) :=
  fun B s v S hv Q E q => wpAny_assign_Name (S.store (Bool.and_eq_true_iff.mp hk).1 (Bool.and_eq_true_iff.mp hk).2 hv fun s' e S' => q B s' e S')
theorem own_tch {b : Addr} (h : Own c.sto c.env b) : Tch c μ b := .inl h

inductive AsgAll (c : Ct) (μ : Mu) : Sg → List Expr → List PV → Sg → Prop where
  | nil {σ : Sg} : AsgAll c μ σ [] [] σ
  | cons {σ σ' σ'' : Sg} {t : Expr} {ts : List Expr} {d : PV} {ds : List PV} : Asg c σ μ t d σ' → AsgAll c μ σ' ts ds σ'' → (assignEach (t :: ts) c.env = (false, assign t c.env) :: assignEach ts c.env) → AsgAll c μ σ (t :: ts) (d :: ds) σ''

theorem AsgAll.each {σ σ' : Sg} {ts : List Expr} {ds : List PV} (h : AsgAll c μ σ ts ds σ') : (assignEach ts c.env).length = ds.length ∧ (assignEach ts c.env).findIdx? (·.1) = none := by
  induction h with
  | nil => exact ⟨rfl, rfl⟩
  | cons _ _ he ih => rw [he]; refine ⟨by simp [ih.1], ?_⟩; rw [List.findIdx?_cons, ih.2]; simp
theorem AsgAll.run {σ σ' : Sg} {ts : List Expr} {ds : List PV} (h : AsgAll c μ σ ts ds σ') : ∀ B s vs, c.St B s.heap σ μ → Vals B ds vs → ∀ (Q : Unit → Shared → Prop) (E : Value → Shared → Prop),
    (∀ B' s', Ext (Own c.sto c.env) B s B' s' → c.St B' s'.heap σ' μ → Q () s') → wpAny (model c.prog c.w) c.A (assignInOrder ((assignEach ts c.env).map (·.2)) vs) Q E s := by
  induction h with
  | nil => intro B s vs S hv Q E q; cases hv; exact wpAny_pure (q B s (Ext.refl S.en.le) S)
  | @cons σ σ' σ'' t ts d ds ha _ he ih =>
    intro B s vs S hv Q E q
    obtain ⟨v, r, rfl, h1, h2⟩ := hv
    rw [he]
    show wpAny _ _ (do holding r (assign t c.env v); assignInOrder ((assignEach ts c.env).map (·.2)) r) Q E s
    refine wpAny_bind (wpAny_holding (ha B s v S h1 _ _ fun B' s' e S' => ?_))
    exact ih B' s' r S' (h2.le e.le) Q E fun B'' s'' e' S'' => q B'' s'' (e.trans e' fun b h => .inl h) S''

theorem Asg.tuple {ts : List Expr} {k : Nat} {pos : Pos} {ds : List PV} {σ' : Sg} (hh : c.A.handled = none) (h : AsgAll c μ σ ts ds σ') : Asg c σ μ (.Tuple ts k pos) (.tuple ds) σ' := by
  intro B s v S hv Q E q
  obtain ⟨a, vs, rfl, ht, hvs⟩ := hv
  obtain ⟨e1, e2⟩ := h.each
  have ht' : IsTup s.heap a vs.toArray := IsTuple.le S.en.le ht
  refine assign_Tuple_tuple hh ht' (by rw [e1, List.size_toArray, hvs.length]) e2 fun h' he => ?_
  have k : Le s.heap h' := fun b o e => he b o (Nat.ne_of_lt (Heap.lt_size e)) e
  have x : ExtE B s B { s with heap := h' } := Ext.heap (S.en.le.trans k) (fun b o _ e => k b o e) s.toks
  exact h.run B _ vs (S.ext x) hvs Q E fun B' s' e' S' => q B' s' (Ext.trans (M := Own c.sto c.env) x.ofE e' fun b h => .inl h) S'

theorem Ex.assign {x : Str} {px : Pos} {e : Expr} {pos : Pos} {d : PV} (h : Ev c σ μ e d) (k : Φ .next (put x d σ) μ) (hk : (isName (c.env.kindOf x) && c.sto x) = true := by rfl)
    (hs : swapsWith e (some (.Name x px)) pos.line c.env = pure false := by rfl) : Ex c σ μ (.Assign [.Name x px] e pos) Φ := by
  intro B s S Q E q
  refine wpAny_Assign_Name (h B s S _ _ fun v B₁ s₁ e₁ h₁ => (S.ext e₁).store (Bool.and_eq_true_iff.mp hk).1 (Bool.and_eq_true_iff.mp hk).2 h₁ fun s' e' S' => ?_) hs
  exact q .next _ B₁ s' _ μ k rfl (Ext.trans (M := Tch c μ) e₁.ofE e' fun b h => .inl (.inl h)) (Dom.refl _ _) S'
theorem Ex.assignT {ts : List Expr} {k : Nat} {tpos : Pos} {e : Expr} {pos : Pos} {d : PV} {σ' : Sg} (h : Ev c σ μ e d) (ha : Asg c σ μ (.Tuple ts k tpos) d σ') (k' : Φ .next σ' μ)
    (hs : swapsWithSole [.Tuple ts k tpos] e pos.line c.env = pure false := by rfl) (hw : swappedStores [.Tuple ts k tpos] e c.env = pure none := by rfl) : Ex c σ μ (.Assign [.Tuple ts k tpos] e pos) Φ := by
  intro B s S Q E q
  refine Assign_Tuple (h B s S _ _ fun v B₁ s₁ e₁ h₁ => ha B₁ s₁ v (S.ext e₁) h₁ _ _ fun B' s' e' S' => ?_) hs hw
  exact q .next _ B' s' σ' μ k' rfl (Ext.trans (M := Tch c μ) e₁.ofE e' fun b h => .inl (.inl h)) (Dom.refl _ _) S'

/-- names in order -/
def puts : List Str → List PV → Sg → Sg
  | x :: xs, d :: ds, σ => puts xs ds (put x d σ)
  | _, _, σ => σ
theorem bindAll_run {names : List Str} : ∀ {ds : List PV} {σ : Sg} {B : Heap} {s : Shared} {vs : List Value}, c.St B s.heap σ μ → Vals B ds vs → names.length = ds.length → (∀ x ∈ names, (isName (c.env.kindOf x) && c.sto x) = true) →
    ∀ (Q : Unit → Shared → Prop) (E : Value → Shared → Prop), (∀ s', Ext (Own c.sto c.env) B s B s' → c.St B s'.heap (puts names ds σ) μ → Q () s') → wpAny (model c.prog c.w) c.A (assignInOrder (names.map fun n => bindName c.env n) vs) Q E s := by
  induction names with
  | nil => intro ds σ B s vs S hv hl hn Q E q; cases ds with
    | nil => cases hv; exact wpAny_pure (q s (Ext.refl S.en.le) S)
    | cons => simp at hl
  | cons x xs ih => intro ds σ B s vs S hv hl hn Q E q; cases ds with
    | nil => simp at hl
    | cons d ds =>
      obtain ⟨v, r, rfl, h1, h2⟩ := hv
      show wpAny _ _ (do holding r (bindName c.env x v); assignInOrder (xs.map fun n => bindName c.env n) r) Q E s
      refine wpAny_bind (wpAny_holding (wpAny_bindName (S.store (Bool.and_eq_true_iff.mp (hn x (by simp))).1 (Bool.and_eq_true_iff.mp (hn x (by simp))).2 h1 fun s' e S' => ?_)))
      exact ih S' h2 (by simpa using hl) (fun y hy => hn y (by simp [hy])) Q E fun s'' e' S'' => q s'' (e.trans e' fun b h => .inl h) S''
theorem Ex.assignSw {ts : List Expr} {k : Nat} {tpos : Pos} {e : Expr} {pos : Pos} {ds : List PV} {names : List Str} (hh : c.A.handled = none) (h : Ev c σ μ e (.tuple ds)) (hl : names.length = ds.length)
    (k' : Φ .next (puts names.reverse ds.reverse σ) μ) (hn : ∀ x ∈ names, (isName (c.env.kindOf x) && c.sto x) = true)
    (hs : swapsWithSole [.Tuple ts k tpos] e pos.line c.env = pure false := by rfl) (hw : swappedStores [.Tuple ts k tpos] e c.env = pure (some names) := by rfl) : Ex c σ μ (.Assign [.Tuple ts k tpos] e pos) Φ := by
  intro B s S Q E q
  refine Assign_Tuple_swapped (h B s S _ _ fun v B₁ s₁ e₁ h₁ => ?_) hs hw
  obtain ⟨a, vs, rfl, ht, hvs⟩ := h₁
  have ht' : IsTup s₁.heap a vs.toArray := IsTuple.le e₁.inn ht
  have hsz : names.length = vs.toArray.size := by rw [List.size_toArray, hvs.length, hl]
  rw [hsz]
  refine unpackItems_tuple hh ht' fun h' he => ?_
  have k : Le s₁.heap h' := fun b o e => he b o (Nat.ne_of_lt (Heap.lt_size e)) e
  have x : ExtE B₁ s₁ B₁ { s₁ with heap := h' } := Ext.heap (e₁.inn.trans k) (fun b o _ e => k b o e) s₁.toks
  refine bindAll_run (names := names.reverse) ((S.ext e₁).ext x) hvs.reverse (by simpa using hl) (fun y hy => hn y (by simpa using hy)) _ _ fun s' e' S' => ?_
  exact q .next _ B₁ s' _ μ k' rfl (Ext.trans (M := Tch c μ) (e₁.transE x).ofE e' fun b h => .inl (.inl h)) (Dom.refl _ _) S'
end

/-! ## Iteration -/
structure Itr (prog : Program) (w : World) (A : Around) (target : Expr) (I : Addr) (wr : List Addr) (B : Heap) (Km : Mu → Prop) (ds : List PV) (St : Nat → Heap → Prop) : Prop where
  frame : ∀ i h h', St i h → (∀ b ∈ wr, ∀ o, h.get? b = some o → h'.get? b = some o) → St i h'
  there : ∀ i h, St i h → ∀ b ∈ wr, ∃ o, h.get? b = some o
  next : ∀ i d B' s μ' (Q : Option Value → Shared → Prop) (E : Value → Shared → Prop), ds[i]? = some d → St i s.heap → Le B B' → At prog w B' s μ' → Km μ' → (∀ b ∈ wr, B'.get? b = none) →
    (∀ v B'' s', Ext (· ∈ wr) B' s B'' s' → (∀ b ∈ wr, B''.get? b = none) → Val B'' d v →
      (∀ (Q' : Unit → Shared → Prop) (E' : Value → Shared → Prop), (∀ s'', Ext (· ∈ wr) B'' s' B'' s'' → St (i + 1) s''.heap → Q' () s'') → wpAny (model prog w) A (letOwnedTupleGo target (.ref I) v) Q' E' s') → Q (some v) s') →
    wpAny (model prog w) A (pyNext (.ref I)) Q E s
  done : ∀ B' s μ' (Q : Option Value → Shared → Prop) (E : Value → Shared → Prop), St ds.length s.heap → Le B B' → At prog w B' s μ' → Km μ' → (∀ b ∈ wr, B'.get? b = none) →
    (∀ s', Ext (· ∈ wr) B' s B' s' → Q none s') → wpAny (model prog w) A (pyNext (.ref I)) Q E s
  self : ∀ i s (Q : Value → Shared → Prop) (E : Value → Shared → Prop), St i s.heap → Q (.ref I) s → wpAny (model prog w) A (pyIter (.ref I)) Q E s

def ItE (c : Ct) (σ : Sg) (μ : Mu) (iter target : Expr) (ds : List PV) (Km : Mu → Prop) : Prop := ∀ B s, c.St B s.heap σ μ → ∀ (Q : Value → Shared → Prop) (E : Value → Shared → Prop),
  (∀ I wr St B' s', ExtE B s B' s' → Itr c.prog c.w c.A target I wr B' Km ds St → St 0 s'.heap → (∀ b ∈ wr, s.heap.get? b = none ∧ B'.get? b = none ∧ ∃ o, s'.heap.get? b = some o) → Q (.ref I) s') →
  wpAny (model c.prog c.w) c.A (eval iter c.env) (fun x s₁ => wpAny (model c.prog c.w) c.A (pyIter x) Q E s₁) E s

theorem forLoop_gen {A : Around} {s : Shared} {R : Result → Shared → Prop} {target : Expr} {it : Value} {body : List Stmt} {env : Env} (I : Nat → Shared → Prop)
    (turn : ∀ n s, I n s → ∀ E', wpAny (model prog w) A (pyNext it) (fun r s₁ => match r with
      | none => R (.ok .next) s₁
      | some v => wpAny (model prog w) A (letOwnedTupleGo target it v) (fun _ s₁' => wpAny (model prog w) A (assign target env v) (fun _ s₂ => wpAny (model prog w) A (execs body env) (fun f s₃ => match f with
          | .next | .cont => ∃ m, m < n ∧ I m s₃
          | .brk => R (.ok .next) s₃
          | .ret v => R (.ok (.ret v)) s₃) E' s₂) E' s₁') E' s₁) E' s)
    (n : Nat) (h : I n s) : codeAny (model prog w) A (.forLoop target it body [] env) R s := by
  refine codeAny_loop' rfl I (fun n s hI => ?_) n h
  show wpAny _ _ ((forTurn target it body [] env).onRaise (fun x => do noteFrame x env; theTreesLotGoes x)) _ _ s
  refine wpAny_noted ?_
  simp only [forTurn]
  refine wpAny_bind (wpAny_standAt (wpAny_bind (wpAny_onRaise (wpAny_mono (turn n s hI _) (fun r s₁ h₁ => ?_) fun _ _ h' => wpAny_standAt h'))))
  cases r with
  | none => exact wpAny_pure (.inr ⟨rfl, codeAny_block (wpAny_execs_nil h₁)⟩)
  | some v =>
    refine wpAny_bind (wpAny_mono h₁ (fun _ s₁' h₁' => ?_) fun _ _ h' => h')
    refine wpAny_bind (wpAny_mono h₁' (fun _ s₂ h₂ => wpAny_bind (wpAny_mono h₂ (fun f s₃ h₃ => ?_) fun _ _ h' => h')) fun _ _ h' => h')
    cases f with
    | next => exact wpAny_pure (.inl ⟨rfl, h₃⟩)
    | cont => exact wpAny_pure (.inl ⟨rfl, h₃⟩)
    | brk => exact wpAny_pure h₃
    | ret v => exact wpAny_pure h₃

section
variable {c : Ct} {σ : Sg} {μ : Mu} {Φ Ψ : Post}
/-- behind a turn -/
def Turn (J : Sg → Mu → Prop) (Φ : Post) : Post := fun fl σ μ => match fl with
  | .next | .cont => J σ μ
  | .brk => Φ .next σ μ
  | .ret d => Φ (.ret d) σ μ

theorem Ext.wr {wr : List Addr} {B B' : Heap} {s s' : Shared} (x : Ext (· ∈ wr) B s B' s') : ∀ b o, b ∉ wr → s.heap.get? b = some o → s'.heap.get? b = some o := fun b o h e => x.keep b o h e

/-- the iterator's own things lie apart from all else -/
theorem Sn.wr {wr : List Addr} {H₀ B₀ B B' : Heap} {sto : Str → Bool} {env : Env} {s s' : Shared} {σ : Sg} {μ : Mu} (x : Sn prog w H₀ B₀ B sto env s.heap σ μ) (e : Ext (· ∈ wr) B s B' s') (h1 : ¬ env.locals ∈ wr) (h2 : ∀ y a, (y, a) ∈ env.cells → a ∉ wr) (h3 : ∀ a mv, (a, mv) ∈ μ → a ∉ wr) (h4 : ∀ b ∈ wr, H₀.get? b = none) :
    Sn prog w H₀ B₀ B' sto env s'.heap σ μ := by
  obtain ⟨m, ⟨o, es, ep, ho, r⟩, hv⟩ := x.en.loc
  refine ⟨⟨x.en.stat.trans e.le, e.inn, x.en.kind, x.en.glob, x.en.blt, ⟨m, ⟨o, es, ep, e.keep _ _ h1 ho, r⟩, fun y d k1 k2 => ?_⟩, fun y a hc => ?_, x.en.bound, x.en.inj, x.en.celK, x.en.celL, e.none' h1 ho x.en.frL, fun y a hc => ?_, x.en.loL, x.en.loC, fun b o hb => let ⟨o', ho'⟩ := x.en.pres b o hb; ⟨o', e.keep b o' (fun z => by rw [h4 b z] at hb; cases hb) ho'⟩⟩, ⟨fun a mv hm => ?_, x.mu.nodup⟩, x.apL, x.apC⟩
  · obtain ⟨v, h3, h4⟩ := hv y d k1 k2; exact ⟨v, h3, h4.le e.le⟩
  · obtain ⟨ov, ⟨o', k1, k1'⟩, k2⟩ := x.en.cel y a hc
    exact ⟨ov, ⟨o', e.keep _ _ (h2 y a hc) k1, k1'⟩, fun d k0 k4 => let ⟨v, k5, k6⟩ := k2 d k0 k4; ⟨v, k5, k6.le e.le⟩⟩
  · obtain ⟨_, ⟨o', k1, _⟩, _⟩ := x.en.cel y a hc
    exact e.none' (h2 y a hc) k1 (x.en.frC y a hc)
  · obtain ⟨k1, k2⟩ := x.mu.val a mv hm
    have : ∃ o, s.heap.get? a = some o := by
      cases mv with
      | list ds => obtain ⟨vs, n, e, r⟩ := k2; exact ⟨_, e⟩
      | dict kvs => obtain ⟨us, ⟨o, _, _, e, _⟩, _⟩ := k2; exact ⟨_, e⟩
    obtain ⟨o', ho'⟩ := this
    exact ⟨e.none' (h3 a mv hm) ho' k1, k2.keep e.le fun o'' q => e.keep a o'' (h3 a mv hm) q⟩

theorem Ex.forI {target iter : Expr} {body : List Stmt} {pos : Pos} {ds : List PV} {Km : Mu → Prop} (hi : ItE c σ μ iter target ds Km) (I : Nat → Sg → Mu → Prop) (h0 : I 0 σ μ)
    (hK : ∀ i σ' μ', I i σ' μ' → Km μ')
    (step : ∀ i σ' μ' d, i < ds.length → ds[i]? = some d → I i σ' μ' → ∃ σ'', Asg c σ' μ' target d σ'' ∧ Exs c σ'' μ' body (Turn (I (i + 1)) Φ))
    (fin : ∀ σ' μ', I ds.length σ' μ' → Φ .next σ' μ')
    (hs : ∀ x, foldedSetIterable iter c.env x = pure x := by intro _; rfl) : Ex c σ μ (.For target iter body [] pos) Φ := by
  intro B s S Q E q
  refine wpAny_For (hi B s S _ _ fun it wr St B₁ s₁ e₁ hit st hw => ?_) hs
  refine forLoop_gen (fun k s' => ∃ i B' σ' μ', k = ds.length - i ∧ i ≤ ds.length ∧ I i σ' μ' ∧ Ext (fun b => Tch c μ b ∨ b ∈ wr) B₁ s₁ B' s' ∧ Dom μ μ' s₁.heap ∧ c.St B' s'.heap σ' μ' ∧ St i s'.heap ∧
    (∀ b ∈ wr, B'.get? b = none ∧ (∃ o, s'.heap.get? b = some o) ∧ (∀ mv, (b, mv) ∉ μ'))) ?_ ds.length ⟨0, B₁, σ, μ, rfl, Nat.zero_le _, h0, Ext.refl e₁.inn, Dom.refl _ _, S.ext e₁, st, fun b hb => ⟨(hw b hb).2.1, (hw b hb).2.2, fun mv hm => ?_⟩⟩
  · rintro n s' ⟨i, B', σ', μ', rfl, hil, hI, x, dm, S', st', hwr⟩ E'
    -- what the iterator owns is no one else's
    have wfresh : ∀ b ∈ wr, s.heap.get? b = none := fun b hb => (hw b hb).1
    have nL : c.env.locals ∉ wr := fun h => by
      obtain ⟨m, ⟨o, _, _, ho, _⟩, _⟩ := S.en.loc
      rw [wfresh _ h] at ho; cases ho
    have nC : ∀ y a, (y, a) ∈ c.env.cells → a ∉ wr := fun y a hc h => by
      obtain ⟨_, ⟨o, ho, _⟩, _⟩ := S.en.cel y a hc
      rw [wfresh _ h] at ho; cases ho
    have nH : ∀ b ∈ wr, c.H₀.get? b = none := fun b hb => by
      cases q : c.H₀.get? b with
      | none => rfl
      | some o => obtain ⟨o', ho'⟩ := S.en.pres b o q; rw [wfresh b hb] at ho'; cases ho'
    have nM : ∀ a mv, (a, mv) ∈ μ' → a ∉ wr := fun a mv hm h => (hwr a h).2.2 mv hm
    have nT : ∀ b ∈ wr, ¬ Tch c μ' b := fun b hb h => by
      rcases h with (rfl | ⟨y, hy, _⟩) | ⟨⟨mv, hm⟩, _⟩
      · exact nL hb
      · exact nC y b hy hb
      · exact nM b mv hm hb
    have hend : ∀ (fl : Fl) (flow : Flow) B'' s'' σ'' μ'', Φ fl σ'' μ'' → FlowIs B'' fl flow → Ext (fun b => Tch c μ b ∨ b ∈ wr) B₁ s₁ B'' s'' → Dom μ μ'' s₁.heap → c.St B'' s''.heap σ'' μ'' → Q flow s'' := fun fl flow B'' s'' σ'' μ'' h1 h2 h3 h4 h5 => by
      refine q fl flow B'' s'' σ'' μ'' h1 h2 (Ext.trans (M := Tch c μ) e₁.ofE h3 fun b hb => hb.elim .inl fun hb => .inr (wfresh b hb)) (fun a mv hm => ?_) h5
      rcases h4 a mv hm with h | h
      · exact .inl h
      · rcases e₁.gone h with z | z
        · exact z.elim
        · exact .inr z
    by_cases hlt : i < ds.length
    · obtain ⟨d, hd⟩ : ∃ d, ds[i]? = some d := ⟨_, List.getElem?_eq_getElem hlt⟩
      obtain ⟨σ'', ha, hb⟩ := step i σ' μ' d hlt hd hI
      refine hit.next i d B' s' μ' _ _ hd st' x.le S'.at (hK i σ' μ' hI) (fun b hb => (hwr b hb).1) fun v B₂ s₂ e₂ w2 hv hgo => ?_
      refine hgo _ _ fun s₃ e₃ st₃ => ?_
      have S₂ := S'.wr e₂ nL nC nM nH
      have S₃ := S₂.wr e₃ nL nC nM nH
      refine ha B₂ s₃ v S₃ (hv.le e₃.le) _ _ fun B₄ s₄ e₄ S₄ => ?_
      -- the iterator's things, still there
      have nO : ∀ b ∈ wr, ¬ Own c.sto c.env b := fun b hb h => by
        rcases h with rfl | ⟨y, hy, _⟩
        · exact nL hb
        · exact nC y b hy hb
      have hB4 : ∀ b ∈ wr, B₄.get? b = none ∧ ∃ o, s₄.heap.get? b = some o := fun b hb => by
        obtain ⟨o, ho⟩ := hit.there _ _ st₃ b hb
        exact ⟨e₄.none' (nO b hb) ho (w2 b hb), o, e₄.keep b o (nO b hb) ho⟩
      have x4 : Ext (fun b => Tch c μ b ∨ b ∈ wr) B₁ s₁ B₄ s₄ := ((x.trans e₂ fun b h => .inl (.inr h)).trans e₃ fun b h => .inl (.inr h)).trans e₄ fun b h => .inl (.inl (.inl h))
      refine hb B₄ s₄ S₄ _ _ fun fl flow B₅ s₅ σ₅ μ₅ hΦ hf e₅ d₅ S₅ => ?_
      have x5 : Ext (fun b => Tch c μ b ∨ b ∈ wr) B₁ s₁ B₅ s₅ := x4.trans e₅ fun b h => (Tch.back dm b h).elim (fun h => .inl (.inl h)) .inr
      have nM5 : ∀ b ∈ wr, ∀ mv, (b, mv) ∉ μ₅ := fun b hb mv hm => by
        rcases d₅ b mv hm with ⟨mv', h⟩ | h
        · exact nM b mv' h hb
        · obtain ⟨o, ho⟩ := (hB4 b hb).2; rw [h] at ho; cases ho
      have d5 : Dom μ μ₅ s₁.heap := fun a mv hm => by
        rcases d₅ a mv hm with ⟨mv', h⟩ | h
        · exact dm a mv' h
        · rcases x4.gone h with (h | h) | h
          · rcases h with h | h
            · exact absurd h (S₅.notOwn a mv hm)
            · exact .inl h.1
          · exact absurd hm (nM5 a h mv)
          · exact .inr h
      have again : I (i + 1) σ₅ μ₅ → ∃ m, m < ds.length - i ∧ ∃ i B' σ' μ', m = ds.length - i ∧ i ≤ ds.length ∧ I i σ' μ' ∧ Ext (fun b => Tch c μ b ∨ b ∈ wr) B₁ s₁ B' s₅ ∧ Dom μ μ' s₁.heap ∧ c.St B' s₅.heap σ' μ' ∧ St i s₅.heap ∧
          (∀ b ∈ wr, B'.get? b = none ∧ (∃ o, s₅.heap.get? b = some o) ∧ (∀ mv, (b, mv) ∉ μ')) := fun hJ => by
        refine ⟨ds.length - (i + 1), by omega, i + 1, B₅, σ₅, μ₅, rfl, hlt, hJ, x5, d5, S₅, hit.frame _ _ _ st₃ fun b hb o ho => e₅.keep b o (nT b hb) (e₄.keep b o (nO b hb) ho), fun b hb => ?_⟩
        obtain ⟨k1, o, k2⟩ := hB4 b hb
        exact ⟨e₅.none' (nT b hb) k2 k1, ⟨o, e₅.keep b o (nT b hb) k2⟩, nM5 b hb⟩
      cases fl with
      | next => cases hf; exact again hΦ
      | cont => cases hf; exact again hΦ
      | brk => cases hf; exact hend .next .next B₅ s₅ σ₅ μ₅ hΦ rfl x5 d5 S₅
      | ret r => obtain ⟨u, rfl, hu⟩ := hf; exact hend (.ret r) _ B₅ s₅ σ₅ μ₅ hΦ ⟨u, rfl, hu⟩ x5 d5 S₅
    · have hi' : i = ds.length := by omega
      subst hi'
      refine hit.done B' s' μ' _ _ st' x.le S'.at (hK _ σ' μ' hI) (fun b hb => (hwr b hb).1) fun s₂ e₂ => ?_
      exact hend .next .next B' s₂ σ' μ' (fin σ' μ' hI) rfl (x.trans e₂ fun b h => .inl (.inr h)) dm (S'.wr e₂ nL nC nM nH)
  · have := S.mu.val b mv hm
    have hlt : ∃ o, s.heap.get? b = some o := by
      cases mv with
      | list ds => obtain ⟨vs, n, e, r⟩ := this.2; exact ⟨_, e⟩
      | dict kvs => obtain ⟨us, ⟨o, _, _, e, _⟩, _⟩ := this.2; exact ⟨_, e⟩
    obtain ⟨o, ho⟩ := hlt
    rw [(hw b hb).1] at ho; cases ho
end
end Mine

end

section
open PySem PySem.Calls PyProof.Rows
namespace Mine
variable {prog : Program} {w : World}

/-! ## Calls of the text's own functions -/
def SpM (prog : Program) (w : World) (B₀ : Heap) (A : Around) (W : List Addr) (μ : Mu) (f : Value) (ds : List PV) (Φ : PV → Mu → Prop) : Prop :=
  ∀ B s vs, Le B₀ B → At prog w B s μ → Vals B ds vs → ∀ (Q : Value → Shared → Prop) (E : Value → Shared → Prop),
    (∀ v d B' s' μ', Φ d μ' → Ext (· ∈ W) B s B' s' → Dom μ μ' s.heap → At prog w B' s' μ' → Val B' d v → Q v s') → wpAny (model prog w) A (call f vs) Q E s
theorem SpM.pure {B₀ : Heap} {A : Around} {μ : Mu} {f : Value} {ds : List PV} {d : PV} (h : SpM prog w B₀ A [] μ f ds (fun d' _ => d' = d)) : Sp prog w B₀ A μ f ds d :=
  fun B s vs h0 at' hv Q E q => h B s vs h0 at' hv Q E fun v d' B' s' μ' hd e _ _ hv => q v B' s' (e.wide fun b hb => nomatch hb) (hd ▸ hv)

theorem bindL_notin {kindOf : Str → Option NameKind} : ∀ {binds : List (Str × Value)} {m : Str → Option Value} {x : Str}, x ∉ binds.map (·.1) → bindL kindOf binds m x = m x
  | [], _, _, _ => rfl
  | (n, v) :: r, m, x, h => by
    have hx : x ≠ n := fun q => h (by simp [q])
    have hr : x ∉ r.map (·.1) := fun q => h (by simp only [List.map_cons, List.mem_cons]; exact .inr q)
    unfold bindL
    rw [bindL_notin hr]
    split <;> simp [hx]
theorem bindC_notin {kindOf : Str → Option NameKind} : ∀ {binds : List (Str × Value)} {m : Str → Option Value} {x : Str}, x ∉ binds.map (·.1) → bindC kindOf binds m x = m x
  | [], _, _, _ => rfl
  | (n, v) :: r, m, x, h => by
    have hx : x ≠ n := fun q => h (by simp [q])
    have hr : x ∉ r.map (·.1) := fun q => h (by simp only [List.map_cons, List.mem_cons]; exact .inr q)
    unfold bindC
    rw [bindC_notin hr]
    split <;> simp [hx]
theorem zip_fst_sub {α β : Type} : ∀ {xs : List α} {ys : List β} {x : α}, x ∈ (xs.zip ys).map (·.1) → x ∈ xs
  | [], _, _, h => by simp at h
  | _ :: _, [], _, h => by simp at h
  | a :: xs, b :: ys, x, h => by
    simp only [List.zip_cons_cons, List.map_cons, List.mem_cons] at h
    rcases h with rfl | h
    · simp
    · exact List.mem_cons_of_mem _ (zip_fst_sub h)
theorem bindL_zip {B : Heap} {kindOf : Str → Option NameKind} {x : Str} {d : PV} (hk : kindOf x = some .local) : ∀ {names : List Str} {ds : List PV} {vs : List Value} {m : Str → Option Value}, names.Nodup → Vals B ds vs → (names.zip ds).lookup x = some d → ∃ v, bindL kindOf (names.zip vs) m x = some v ∧ Val B d v
  | [], _, _, _, _, _, h => by simp at h
  | _ :: _, [], _, _, _, _, h => by simp at h
  | n :: ns, e :: es, _, m, hn, ⟨v, r, rfl, h1, h2⟩, h => by
    rw [List.zip_cons_cons, List.lookup_cons] at h
    rw [List.zip_cons_cons]
    unfold bindL
    obtain ⟨hn1, hn2⟩ := List.nodup_cons.mp hn
    by_cases hx : x = n
    · subst hx
      simp only [beq_self_eq_true] at h
      cases h
      rw [bindL_notin fun q => hn1 (zip_fst_sub q), if_pos hk]
      exact ⟨v, by simp, h1⟩
    · have : (x == n) = false := by simpa using hx
      rw [this] at h
      exact bindL_zip hk hn2 h2 h
theorem bindC_zip {B : Heap} {kindOf : Str → Option NameKind} {x : Str} {d : PV} (hk : kindOf x ≠ some .local) : ∀ {names : List Str} {ds : List PV} {vs : List Value} {m : Str → Option Value}, names.Nodup → Vals B ds vs → (names.zip ds).lookup x = some d → ∃ v, bindC kindOf (names.zip vs) m x = some v ∧ Val B d v
  | [], _, _, _, _, _, h => by simp at h
  | _ :: _, [], _, _, _, _, h => by simp at h
  | n :: ns, e :: es, _, m, hn, ⟨v, r, rfl, h1, h2⟩, h => by
    rw [List.zip_cons_cons, List.lookup_cons] at h
    rw [List.zip_cons_cons]
    unfold bindC
    obtain ⟨hn1, hn2⟩ := List.nodup_cons.mp hn
    by_cases hx : x = n
    · subst hx
      simp only [beq_self_eq_true] at h
      cases h
      rw [bindC_notin fun q => hn1 (zip_fst_sub q), if_neg hk]
      exact ⟨v, by simp, h1⟩
    · have : (x == n) = false := by simpa using hx
      rw [this] at h
      exact bindC_zip hk hn2 h2 h

theorem cellsFrom_has : ∀ {names : List (Str × NameKind)} {n : Nat} {acc : List (Str × Addr)} {x : Str}, ((x, NameKind.cell) ∈ names ∨ ∃ c, acc.lookup x = some c) → ∃ c, (cellsFrom n names acc).lookup x = some c
  | [], n, acc, x, h => by
    rcases h with h | h
    · simp at h
    · exact h
  | (y, k) :: r, n, acc, x, h => by
    unfold cellsFrom
    split
    · refine cellsFrom_has ?_
      rcases h with h | ⟨c, h⟩
      · rcases List.mem_cons.mp h with h | h
        · cases h; exact .inr ⟨n, by simp⟩
        · exact .inl h
      · by_cases hx : x = y
        · subst hx; exact .inr ⟨n, by simp⟩
        · have : (x == y) = false := by simpa using hx
          exact .inr ⟨c, by rw [List.lookup_cons, this]; exact h⟩
    · rename_i hk
      refine cellsFrom_has ?_
      rcases h with h | h
      · rcases List.mem_cons.mp h with h | h
        · cases h; exact absurd rfl hk
        · exact .inl h
      · exact .inr h

theorem mem_cellsFrom : ∀ {names : List (Str × NameKind)} {n : Nat} {acc : List (Str × Addr)} {x : Str} {c : Addr}, (x, c) ∈ cellsFrom n names acc → (x, c) ∈ acc ∨ (n ≤ c ∧ (x, NameKind.cell) ∈ names)
  | [], _, _, _, _, h => .inl h
  | (y, k) :: r, n, acc, x, c, h => by
    unfold cellsFrom at h
    split at h
    · rename_i hk
      rcases mem_cellsFrom h with h | h
      · rcases List.mem_cons.mp h with h | h
        · cases h; exact .inr ⟨Nat.le_refl _, by rw [eq_of_beq hk]; exact List.mem_cons_self⟩
        · exact .inl h
      · exact .inr ⟨Nat.le_of_succ_le h.1, List.mem_cons_of_mem _ h.2⟩
    · rcases mem_cellsFrom h with h | h
      · exact .inl h
      · exact .inr ⟨h.1, List.mem_cons_of_mem _ h.2⟩
theorem lookup_of_mem_nodup2 : ∀ {l : List (Str × NameKind)} {x : Str} {k : NameKind}, (l.map (·.1)).Nodup → (x, k) ∈ l → l.lookup x = some k
  | (y, k') :: r, x, k, hn, hm => by
    obtain ⟨h1, h2⟩ := List.nodup_cons.mp hn
    rcases List.mem_cons.mp hm with h | h
    · cases h; simp
    · have : x ≠ y := fun q => h1 (by subst q; exact List.mem_map_of_mem (f := (·.1)) h)
      have : (x == y) = false := by simpa using this
      rw [List.lookup_cons, this]; exact lookup_of_mem_nodup2 h2 h

theorem call_cells {A : Around} {s : Shared} {R : Result → Shared → Prop} {a : Addr} {o : Obj} {fd : FuncData} {body : List Stmt} {vals : List Value} {binds : List (Str × Value)}
    (hroom : A.depth < recursionLimit) (ho : s.heap.get? a = some o) (hdata : o.data = .func fd) (hlim : s.heap.NoLimit) (hcd : s.heap.CodeRec fd.code fd.qualname)
    (hbody : fd.body = .stmts body) (hbind : BindsTo s fd ⟨vals, []⟩ binds) (hclo : fd.closure = [])
    (hkind : ∀ x ∈ binds, fd.scope.names.lookup x.1 = some .local ∨ (fd.scope.names.lookup x.1 = some .cell ∧ ((cellsFrom (s.heap.objs.size + 1) fd.scope.names []).lookup x.1).isSome = true))
    (h : ∀ s₁, InCallC s (callEnvC fd s.heap.objs.size a).locals (bindL (callEnvC fd s.heap.objs.size a).kindOf binds fun _ => none) (callEnvC fd s.heap.objs.size a).cells
        (bindC (callEnvC fd s.heap.objs.size a).kindOf binds fun _ => none) s₁ →
      wpAny (model prog w) (A.deeper (callEnvC fd s.heap.objs.size a)) (execs body (callEnvC fd s.heap.objs.size a)) (fun f s' => R (.ok (.ret (match f with | .ret v => v | _ => .none))) s')
        (fun e s' => wpAny (model prog w) (A.deeper (callEnvC fd s.heap.objs.size a)) (leaving (callEnvC fd s.heap.objs.size a) e) (fun _ s'' => R (.error e) s'') (fun e' s'' => R (.error e') s'') s') s₁)
    (hco : fd.scope.isCoroutine = false) (hgen : fd.scope.isGenerator = false) (hk : fd.scope.kind = .function) :
    codeAny (model prog w) A (.call (.ref a) ⟨vals, []⟩) R s := by
  refine codeAny_call_function hroom ho hdata hco hgen hbody hcd (hbind _ _ _ _ ?_)
  rw [hclo]
  refine wpAny_newFunctionEnv_cells hk hkind fun env he s' x => ?_
  subst he
  exact ⟨hlim.keeps x.toInCall.keep, codeAny_func (h s' x)⟩

structure FnIs (B₀ : Heap) (a : Addr) (fd : FuncData) (names : List Str) (body : List Stmt) : Prop where
  obj : ∃ o, B₀.get? a = some o ∧ o.data = .func fd
  code : B₀.CodeRec fd.code fd.qualname
  body : fd.body = .stmts body
  clo : fd.closure = []
  glob : fd.globals = mainGlobals
  blt : fd.builtins = builtinsNs
  bind : ∀ (s : Shared) (vs : List Value), Le B₀ s.heap → vs.length = names.length → BindsTo s fd ⟨vs, []⟩ (names.zip vs)
  nodup : names.Nodup
  kinds : ∀ x ∈ names, isName (fd.scope.names.lookup x) = true
  free : ∀ x ∈ fd.scope.names, x.2 ≠ .free
  cells : ((cellsFrom 0 fd.scope.names []).map (·.1)).Nodup
  snames : (fd.scope.names.map (·.1)).Nodup
  co : fd.scope.isCoroutine = false
  gen : fd.scope.isGenerator = false
  kind : fd.scope.kind = .function
theorem FnIs.isFn {B₀ : Heap} {a : Addr} {fd : FuncData} {names : List Str} {body : List Stmt} (F : FnIs B₀ a fd names body) : IsFn B₀ a := let ⟨o, h⟩ := F.obj; ⟨o, fd, h⟩

abbrev fnCt (prog : Program) (w : World) (B₀ H₀ : Heap) (W : List Addr) (A : Around) (fd : FuncData) (n : Nat) (a : Addr) : Ct := ⟨prog, w, B₀, H₀, W, A.deeper (callEnvC fd n a), fun _ => true, callEnvC fd n a⟩
def RetPost (Φ : PV → Mu → Prop) : Post := fun fl _ μ => match fl with
  | .ret d => Φ d μ
  | .next => Φ .none μ
  | _ => False

theorem mem_lookup_of {x : Str} {k : NameKind} {l : List (Str × NameKind)} (h : l.lookup x = some k) : (x, k) ∈ l := PySem.mem_of_lookup h

theorem SpM.fn {B₀ : Heap} {A : Around} {W : List Addr} {μ : Mu} {mg mb : Str → Option Value} {a : Addr} {fd : FuncData} {names : List Str} {body : List Stmt} {ds : List PV} {Φ : PV → Mu → Prop}
    (G : Gl B₀ mg mb) (F : FnIs B₀ a fd names body) (room : A.depth < recursionLimit) (hlen : names.length = ds.length)
    (h : ∀ H₀ n, Exs (fnCt prog w B₀ H₀ W A fd n a) (names.zip ds) μ body (RetPost Φ)) : SpM prog w B₀ A W μ (.ref a) ds Φ := by
  intro B s vs h0 hat hv Q E q
  obtain ⟨o, ho, hd⟩ := F.obj
  have k0 : Le B₀ s.heap := h0.trans hat.le
  have hcell : ∀ x : Str, fd.scope.names.lookup x = some .cell → ∃ c, (cellsFrom (s.heap.objs.size + 1) fd.scope.names []).lookup x = some c := fun x hx => cellsFrom_has (.inl (mem_lookup_of hx))
  refine wpAny_call (call_cells (fd := fd) room (k0 _ _ ho) hd (G.nolimit.keeps k0) (F.code.keeps k0) F.body (F.bind s vs k0 (by rw [hv.length, hlen])) F.clo (fun x hx => ?_) (fun s₁ X => ?_) F.co F.gen F.kind)
  · have hx' : x.1 ∈ names := zip_fst_sub (List.mem_map_of_mem hx)
    have := F.kinds x.1 hx'
    cases hk : fd.scope.names.lookup x.1 with
    | none => rw [hk] at this; cases this
    | some k =>
      rw [hk] at this
      cases k with
      | «local» => exact .inl rfl
      | cell => obtain ⟨c, hc⟩ := hcell x.1 hk; exact .inr ⟨rfl, by rw [hc]; rfl⟩
      | _ => cases this
  · obtain ⟨h₁, tk, rfl, hkeep⟩ := X.done
    have hnd : ((cellsFrom (s.heap.objs.size + 1) fd.scope.names []).map (·.1)).Nodup := by
      rw [cellsFrom_names fd.scope.names (s.heap.objs.size + 1) 0 [] [] rfl]; exact F.cells
    have hge : ∀ b, s.heap.objs.size ≤ b → s.heap.get? b = none := fun b hb => by
      cases e : s.heap.get? b with
      | none => rfl
      | some o => exact absurd (Heap.lt_size e) (Nat.not_lt.mpr hb)
    have hown : ∀ b, Own (fun _ => true) (callEnvC fd s.heap.objs.size a) b → s.heap.get? b = none := fun b hb => by
      rcases hb with rfl | ⟨y, hy, _⟩
      · exact hge _ (Nat.le_refl _)
      · exact hge _ (Nat.le_of_lt (X.above y b hy))
    have Bn : ∀ b, s.heap.get? b = none → B.get? b = none := fun b hb => by
      cases e : B.get? b with
      | none => rfl
      | some o => rw [hat.le b o e] at hb; cases hb
    have hck : ∀ x c, (x, c) ∈ cellsFrom (s.heap.objs.size + 1) fd.scope.names [] → fd.scope.names.lookup x ≠ some .local := fun x c hc hl => by
      rcases mem_cellsFrom hc with h | h
      · simp at h
      · have := lookup_of_mem_nodup2 F.snames h.2
        rw [hl] at this; cases this
    have S : (fnCt prog w B₀ s.heap W A fd s.heap.objs.size a).St B h₁ (names.zip ds) μ := by
      refine ⟨⟨h0, hat.le.trans hkeep, F.kind, F.glob, F.blt, ⟨_, X.toInCall.ns, fun x d h1 h2 => bindL_zip h1 F.nodup hv h2⟩, fun x c hc => ?_, fun x hk => ?_, fun x y c h1 h2 => name_of_addr X.apart h1 h2, fun x c hc => ?_, fun x c hc => Nat.ne_of_gt (X.above x c hc), Bn _ (hge _ (Nat.le_refl _)), fun x c hc => Bn _ (hge _ (Nat.le_of_lt (X.above x c hc))), hge _ (Nat.le_refl _), fun x c hc _ => hge _ (Nat.le_of_lt (X.above x c hc)), fun b o hb => ⟨o, hkeep b o hb⟩⟩, ⟨fun b mv hm => ?_, hat.mu.nodup⟩, fun b mv hm => ?_, fun b mv hm x c hc => ?_⟩
      · have hl := lookup_of_mem_nodup hnd hc
        refine ⟨_, X.cell x c hl, fun d _ h2 => ?_⟩
        exact bindC_zip (hck x c hc) F.nodup hv h2
      · rcases hk with hk | hk
        · exact hcell x hk
        · exact absurd rfl (F.free _ (mem_lookup_of hk))
      · exact hck x c hc
      · exact ⟨(hat.mu.val b mv hm).1, (hat.mu.val b mv hm).2.keep (Le.refl _) fun o e => hkeep b o e⟩
      · exact Nat.ne_of_lt (hat.mu.val b mv hm).2.lt
      · exact Nat.ne_of_lt (Nat.lt_trans (hat.mu.val b mv hm).2.lt (X.above x c hc))
    have key := h s.heap s.heap.objs.size B { s with heap := h₁, toks := tk } S (fun f s' => (match (Except.ok (Flow.ret (match f with | .ret v => v | _ => .none)) : Result) with | .ok (.ret v) => Q v s' | .ok _ => False | .error e => E e s')) (fun e s' => wpAny (model prog w) (A.deeper (callEnvC fd s.heap.objs.size a)) (leaving (callEnvC fd s.heap.objs.size a) e) (fun _ s'' => E e s'') (fun e' s'' => E e' s'') s')
    refine key fun fl flow B' s' σ' μ' hΦ hf e d' S' => ?_
    have x0 : Ext (· ∈ W) B s B { s with heap := h₁, toks := tk } := Ext.heap (hat.le.trans hkeep) (fun b o _ e => hkeep b o e) tk
    have e' : Ext (· ∈ W) B s B' s' := x0.trans e fun b hb => by
      rcases hb with hb | ⟨_, hb | hb⟩
      · exact .inr (hown b hb)
      · exact .inr hb
      · exact .inl hb
    have d2 : Dom μ μ' s.heap := fun b mv hm => by
      rcases d' b mv hm with h | h
      · exact .inl h
      · refine .inr ?_
        cases q : s.heap.get? b with
        | none => rfl
        | some o => have h' : h₁.get? b = none := h; rw [hkeep b o q] at h'; cases h'
    cases fl with
    | next => cases hf; exact q _ _ B' s' μ' hΦ e' d2 S'.at rfl
    | brk => exact hΦ.elim
    | cont => exact hΦ.elim
    | ret r => obtain ⟨u, rfl, hu⟩ := hf; exact q _ _ B' s' μ' hΦ e' d2 S'.at hu
end Mine

end

section
open PySem PySem.Calls PyProof.Rows
namespace Mine
variable {prog : Program} {w : World}

/-! ## What can be gone through -/
def TgtOk (target : Expr) : Prop := (∀ it v, letOwnedTupleGo target it v = pure ()) ∨ ∃ elts k pos, target = .Tuple elts k pos
theorem TgtOk.name {x : Str} {px : Pos} : TgtOk (.Name x px) := .inl fun _ _ => rfl
theorem TgtOk.tuple {elts : List Expr} {k : Nat} {pos : Pos} : TgtOk (.Tuple elts k pos) := .inr ⟨_, _, _, rfl⟩
theorem letGo_listiter {A : Around} {s : Shared} {E : Value → Shared → Prop} {target : Expr} {I l : Addr} {i : Nat} {v : Value} {Q : Unit → Shared → Prop} (ht : TgtOk target) (hit : s.heap.IsListIter I l i) (hQ : Q () s) :
    wpAny (model prog w) A (letOwnedTupleGo target (.ref I) v) Q E s := by
  rcases ht with ht | ⟨elts, k, pos, rfl⟩
  · rw [ht]; exact wpAny_pure hQ
  · cases v with
    | ref T => exact wpAny_letOwnedTupleGo_listiter hit hQ
    | _ => exact wpAny_pure hQ

theorem newIt {B : Heap} {s : Shared} (hl : Le B s.heap) (o : Obj) : ExtE B s B { s with heap := s.heap.push o } :=
  Ext.heap (t := s.toks) (fun b x e => Heap.get?_push_of_some _ (hl b x e)) fun b x _ e => Heap.get?_push_of_some _ e
theorem le_none {B h : Heap} (hl : Le B h) {b : Addr} (e : h.get? b = none) : B.get? b = none := by
  cases q : B.get? b with
  | none => rfl
  | some o => rw [hl b o q] at e; cases e
theorem le_same {B h h' : Heap} {a : Addr} (hl : Le B h) (hs : Heap.SameBut a h h') (ha : B.get? a = none) : Le B h' := fun b o e => (hs.2 b (fun q => by subst q; rw [ha] at e; cases e)).trans (hl b o e)
theorem le_extBut {B h h' : Heap} {a : Addr} (hl : Le B h) (hs : Heap.ExtBut a h h') (ha : B.get? a = none) : Le B h' := fun b o e => hs b o (fun q => by subst q; rw [ha] at e; cases e) (hl b o e)

theorem Itr.listOf {A : Around} {target : Expr} {I ax : Addr} {B : Heap} {Km : Mu → Prop} {ds : List PV} (hh : A.handled = none) (ht : TgtOk target)
    (src : ∀ B' s μ', Le B B' → At prog w B' s μ' → Km μ' → ∃ vs, s.heap.IsList ax (List.toArray vs) ∧ Vals B' ds vs) :
    Itr prog w A target I [I] B Km ds (fun i h => h.IsListIter I ax i) where
  frame := fun i h h' ⟨o, ho, r⟩ k => ⟨o, k I (by simp) o ho, r⟩
  there := fun i h ⟨o, ho, _⟩ b hb => by simp at hb; subst hb; exact ⟨o, ho⟩
  next := fun i d B' s μ' Q E hd st hB hat hK hw q => by
    obtain ⟨vs, hl, hv⟩ := src B' s μ' hB hat hK
    obtain ⟨v, h1, h2⟩ := hv.get hd
    refine wpAny_pyNext_list_item st hl (x := v) (by simpa using h1) fun h' hit' hs' => ?_
    refine q v B' _ (Ext.heap (le_same hat.le hs' (hw I (by simp))) (fun b o hb e => (hs'.2 b (fun z => hb (by simp [z]))).trans e) s.toks) hw h2 fun Q' E' q' => ?_
    exact letGo_listiter ht hit' (q' _ (Ext.refl (le_same hat.le hs' (hw I (by simp)))) hit')
  done := fun B' s μ' Q E st hB hat hK hw q => by
    obtain ⟨vs, hl, hv⟩ := src B' s μ' hB hat hK
    refine wpAny_pyNext_list_end hh st hl (by rw [← hv.length]; simp) fun h' he' => ?_
    exact q _ (Ext.heap (le_extBut hat.le he' (hw I (by simp))) (fun b o hb e => he' b o (fun z => hb (by simp [z])) e) s.toks)
  self := fun i s Q E st q => wpAny_pyIter_listiter st q

section
variable {c : Ct} {σ : Sg} {μ : Mu}
theorem itE_of {iter target : Expr} {d : PV} {ds : List PV} {Km : Mu → Prop} (h : Ev c σ μ iter d)
    (k : ∀ B s v, c.St B s.heap σ μ → Val B d v → ∀ (Q : Value → Shared → Prop) (E : Value → Shared → Prop),
      (∀ I wr St B' s', ExtE B s B' s' → Itr c.prog c.w c.A target I wr B' Km ds St → St 0 s'.heap → (∀ b ∈ wr, s.heap.get? b = none ∧ B'.get? b = none ∧ ∃ o, s'.heap.get? b = some o) → Q (.ref I) s') → wpAny (model c.prog c.w) c.A (pyIter v) Q E s) :
    ItE c σ μ iter target ds Km := by
  intro B s S Q E q
  refine h B s S _ _ fun v B₁ s₁ e₁ hv => k B₁ s₁ v (S.ext e₁) hv Q E fun I wr St B' s' e' hit st hw => ?_
  refine q I wr St B' s' (e₁.transE e') hit st fun b hb => ⟨?_, (hw b hb).2⟩
  have := e₁.gone (hw b hb).1
  exact this.elim (fun z => z.elim) fun z => z

theorem iter_list {target : Expr} {B : Heap} {s : Shared} {ax : Addr} {vs : List Value} {ds : List PV} {Km : Mu → Prop} {Q : Value → Shared → Prop} {E : Value → Shared → Prop} (hh : c.A.handled = none) (ht : TgtOk target)
    (hle : Le B s.heap) (hl : s.heap.IsList ax vs.toArray) (src : ∀ B' s μ', Le B B' → At c.prog c.w B' s μ' → Km μ' → ∃ vs, s.heap.IsList ax (List.toArray vs) ∧ Vals B' ds vs)
    (q : ∀ I wr St B' s', ExtE B s B' s' → Itr c.prog c.w c.A target I wr B' Km ds St → St 0 s'.heap → (∀ b ∈ wr, s.heap.get? b = none ∧ B'.get? b = none ∧ ∃ o, s'.heap.get? b = some o) → Q (.ref I) s') :
    wpAny (model c.prog c.w) c.A (pyIter (.ref ax)) Q E s := by
  refine wpAny_pyIter_list hl (q s.heap.objs.size [s.heap.objs.size] _ B _ (newIt hle _) (Itr.listOf hh ht src) ⟨_, Heap.get?_push_size _ rfl, rfl, rfl⟩ fun b hb => ?_)
  simp at hb; subst hb
  exact ⟨get_size _, le_none hle (get_size _), _, Heap.get?_push_size _ rfl⟩

theorem ItE.list {iter target : Expr} {ds : List PV} (hh : c.A.handled = none) (ht : TgtOk target) (h : Ev c σ μ iter (.list ds)) : ItE c σ μ iter target ds (fun _ => True) :=
  itE_of h fun B s v S hv Q E q => by
    obtain ⟨a, vs, rfl, hl, hvs⟩ := hv
    exact iter_list hh ht S.en.le (IsList.le S.en.le hl) (fun B' s' μ' k hat _ => ⟨vs, IsList.le (k.trans hat.le) hl, hvs.le k⟩) q
theorem MVal.isList {B h : Heap} {a : Addr} {ds : List PV} (x : MVal prog w B h a (.list ds)) : ∃ vs, h.IsList a (List.toArray vs) ∧ Vals B ds vs := let ⟨vs, n, e, r⟩ := x; ⟨vs, ⟨_, e, rfl, n, rfl⟩, r⟩
theorem ItE.mlist {iter target : Expr} {ax : Addr} {ds : List PV} (hh : c.A.handled = none) (ht : TgtOk target) (h : Ev c σ μ iter (.raw (.ref ax))) (hm : (ax, MV.list ds) ∈ μ) : ItE c σ μ iter target ds (fun μ' => (ax, MV.list ds) ∈ μ') :=
  itE_of h fun B s v S hv Q E q => by
    cases hv
    obtain ⟨vs, h1, h2⟩ := (S.mu.val _ _ hm).2.isList
    exact iter_list hh ht S.en.le h1 (fun B' s' μ' k hat hK => (hat.mu.val _ _ hK).2.isList) q

def rangeList (a b k : Int) : List PV := (List.range (Builtin.Range.rangeSize a b k).toNat).map fun (i : Nat) => .int (a + (i : Int) * k)
theorem rangeSize_nonneg (a b k : Int) : 0 ≤ Builtin.Range.rangeSize a b k := by
  unfold Builtin.Range.rangeSize
  split <;> split
  · have := Int.ediv_nonneg (a := b - a - 1) (b := k) (by omega) (by omega); omega
  · omega
  · have := Int.ediv_nonneg (a := a - b - 1) (b := -k) (by omega) (by omega); omega
  · omega
theorem ItE.range {iter : Expr} {x : Str} {px : Pos} {a b k : Int} (hh : c.A.handled = none) (h : Ev c σ μ iter (.range a b k)) (hs : Builtin.Range.small a b k = true) : ItE c σ μ iter (.Name x px) (rangeList a b k) (fun _ => True) :=
  itE_of h fun B s v S hv Q E q => by
    obtain ⟨r, t, u, y, rfl, hr⟩ := hv
    refine wpAny_pyIter_range (S.en.le _ _ hr) hs ?_
    have hn := rangeSize_nonneg a b k
    have hn' : ((Builtin.Range.rangeSize a b k).toNat : Int) = Builtin.Range.rangeSize a b k := Int.toNat_of_nonneg hn
    have W := Walks.range (prog := c.prog) (w := c.w) (A := c.A) hh s.heap.objs.size a k (Builtin.Range.rangeSize a b k).toNat
    refine q s.heap.objs.size [s.heap.objs.size] (fun i h => IsRangeIter h s.heap.objs.size (a + (i : Nat) * k) (((Builtin.Range.rangeSize a b k).toNat : Int) - (i : Nat)) k) B _ (newIt S.en.le _) ⟨fun i h h' st k => W.frame i h h' st k, fun i h st b hb => ?_, ?_, ?_, W.self⟩ ?_ fun b hb => ?_
    · simp at hb; subst hb; exact ⟨_, st⟩
    · intro i d B' s' μ' Q' E' hd st _ hat _ hw q'
      have hi : i < (Builtin.Range.rangeSize a b k).toNat := by
        have := (List.getElem?_eq_some_iff.mp hd).1
        simpa [rangeList] using this
      have hd' : d = .int (a + (i : Int) * k) := by
        simp only [rangeList, List.getElem?_map, List.getElem?_range hi, Option.map_some, Option.some.injEq] at hd
        exact hd.symm
      refine W.item i s' Q' E' hi st fun v h' tk hv st' hk => ?_
      obtain ⟨t', rfl⟩ := hv
      have hle : Le B' h' := fun b o e => hk b o (fun z => by rw [hw b z] at e; cases e) (hat.le b o e)
      exact q' _ B' _ (Ext.heap hle (fun b o hb e => hk b o hb e) tk) hw (by rw [hd']; exact ⟨t', rfl⟩) fun Q'' E'' q'' => wpAny_pure (q'' _ (Ext.refl hle) st')
    · intro B' s' μ' Q' E' st _ hat _ hw q'
      have hl : (rangeList a b k).length = (Builtin.Range.rangeSize a b k).toNat := by simp [rangeList]
      rw [hl] at st
      refine W.done s' Q' E' st fun h' tk hk => ?_
      have hle : Le B' h' := fun b o e => hk b o (fun z => by rw [hw b z] at e; cases e) (hat.le b o e)
      exact q' _ (Ext.heap hle (fun b o hb e => hk b o hb e) tk)
    · show IsRangeIter _ _ _ _ _
      rw [hn']
      simp only [Int.ofNat_zero, Int.natCast_zero, Int.zero_mul, Int.add_zero, Int.sub_zero, Int.cast_ofNat_Int]
      exact Heap.get?_push_size _ rfl
    · simp at hb; subst hb
      exact ⟨get_size _, le_none S.en.le (get_size _), _, Heap.get?_push_size _ rfl⟩
end

/-! ## Comprehensions -/
def clOf (env : Env) : List (Str × NameKind) → List (Str × Addr) → List (Str × Addr)
  | [], acc => acc
  | (x, k) :: r, acc => if k == .free then clOf env r ((x, (env.cells.lookup x).getD 0) :: acc) else clOf env r acc
theorem closureFor_is {env : Env} : ∀ (names : List (Str × NameKind)) (acc : List (Str × Addr)), (∀ x ∈ names, x.2 = .free → ∃ c, env.cells.lookup x.1 = some c) →
    (forIn names acc fun x r => if (x.2 == NameKind.free) = true then do let c ← cellOf env x.1; pure (ForInStep.yield ((x.1, c) :: r)) else pure (ForInStep.yield r)) = (pure (clOf env names acc) : Sem (List (Str × Addr)))
  | [], acc, _ => rfl
  | (x, k) :: r, acc, h => by
    rw [List.forIn_cons]
    unfold clOf
    by_cases hk : k = .free
    · subst hk
      obtain ⟨c, hc⟩ := h (x, .free) (by simp) rfl
      have hc' : List.lookup x env.cells = some c := hc
      simp only [beq_self_eq_true, if_true, cellOf, hc', Option.getD_some]
      exact closureFor_is r _ fun y hy => h y (List.mem_cons_of_mem _ hy)
    · have hk' : (k == NameKind.free) = false := by simpa using hk
      simp only [hk', Bool.false_eq_true, if_false]
      exact closureFor_is r _ fun y hy => h y (List.mem_cons_of_mem _ hy)
theorem closureFor_eq {env : Env} {scope : Scope} (h : ∀ x ∈ scope.names, x.2 = .free → ∃ c, env.cells.lookup x.1 = some c) : closureFor scope env = pure (clOf env scope.names []) := by
  show ((forIn scope.names ([] : List (Str × Addr)) fun (x : Str × NameKind) (r : List (Str × Addr)) => if (x.2 == NameKind.free) = true then do let c ← cellOf env x.1; pure (ForInStep.yield ((x.1, c) :: r)) else pure (ForInStep.yield r)) >>= fun r => pure r) = _
  rw [closureFor_is scope.names [] h]
  rfl

theorem mem_clOf {env : Env} : ∀ {names : List (Str × NameKind)} {acc : List (Str × Addr)} {x : Str} {a : Addr}, (∀ y ∈ names, y.2 = .free → ∃ c, env.cells.lookup y.1 = some c) → (x, a) ∈ clOf env names acc → (x, a) ∈ acc ∨ ((x, NameKind.free) ∈ names ∧ env.cells.lookup x = some a)
  | [], _, _, _, _, h => .inl h
  | (y, k) :: r, acc, x, a, hf, h => by
    unfold clOf at h
    split at h
    · rename_i hk
      have hk' : k = .free := eq_of_beq hk
      subst hk'
      rcases mem_clOf (fun z hz => hf z (List.mem_cons_of_mem _ hz)) h with h | h
      · rcases List.mem_cons.mp h with h | h
        · cases h
          obtain ⟨c, hc⟩ := hf (y, .free) (by simp) rfl
          have hc' : List.lookup y env.cells = some c := hc
          exact .inr ⟨by simp, by rw [hc']; rfl⟩
        · exact .inl h
      · exact .inr ⟨List.mem_cons_of_mem _ h.1, h.2⟩
    · rcases mem_clOf (fun z hz => hf z (List.mem_cons_of_mem _ hz)) h with h | h
      · exact .inl h
      · exact .inr ⟨List.mem_cons_of_mem _ h.1, h.2⟩
theorem clOf_has {env : Env} : ∀ {names : List (Str × NameKind)} {acc : List (Str × Addr)} {x : Str}, ((x, NameKind.free) ∈ names ∨ ∃ c, acc.lookup x = some c) → ∃ c, (clOf env names acc).lookup x = some c
  | [], acc, x, h => by
    rcases h with h | h
    · simp at h
    · exact h
  | (y, k) :: r, acc, x, h => by
    unfold clOf
    split
    · refine clOf_has ?_
      rcases h with h | ⟨c, h⟩
      · rcases List.mem_cons.mp h with h | h
        · cases h; exact .inr ⟨(env.cells.lookup y).getD 0, by simp⟩
        · exact .inl h
      · by_cases hx : x = y
        · subst hx; exact .inr ⟨(env.cells.lookup x).getD 0, by simp⟩
        · have : (x == y) = false := by simpa using hx
          exact .inr ⟨c, by rw [List.lookup_cons, this]; exact h⟩
    · rename_i hk
      refine clOf_has ?_
      rcases h with h | h
      · rcases List.mem_cons.mp h with h | h
        · cases h; exact absurd rfl hk
        · exact .inl h
      · exact .inr h
theorem cellsFrom_append : ∀ (names : List (Str × NameKind)) (n : Nat) (acc : List (Str × Addr)), cellsFrom n names acc = cellsFrom n names [] ++ acc
  | [], _, _ => rfl
  | (y, k) :: r, n, acc => by
    unfold cellsFrom
    split
    · rw [cellsFrom_append r (n + 1) ((y, n) :: acc), cellsFrom_append r (n + 1) [(y, n)]]; simp
    · exact cellsFrom_append r n acc
theorem lookup_append {α : Type} : ∀ {l₁ l₂ : List (Str × α)} {x : Str}, (l₁ ++ l₂).lookup x = (l₁.lookup x).or (l₂.lookup x)
  | [], _, _ => by simp
  | (y, a) :: r, l₂, x => by
    rw [List.cons_append, List.lookup_cons, List.lookup_cons]
    cases x == y with
    | true => rfl
    | false => exact lookup_append

def stoC (scope : Scope) (x : Str) : Bool := match scope.names.lookup x with
  | some .local | some .cell => true
  | _ => false
def cenvOf (scope : Scope) (C : Addr) (env : Env) : Env :=
  { scope := relabel scope env, locals := C, globals := env.globals, cells := cellsFrom (C + 1) scope.names (clOf env scope.names []), qual := env.qual, func := none, code := env.code, frame := env.frame, builtins := env.builtins }
abbrev cc (c : Ct) (scope : Scope) (C : Addr) (H : Heap) : Ct := ⟨c.prog, c.w, c.B₀, H, [], c.A, stoC scope, cenvOf scope C c.env⟩
def freeOf (scope : Scope) (σ : Sg) : Sg := σ.filter fun p => scope.names.lookup p.1 == some .free
theorem lookup_freeOf {scope : Scope} {x : Str} {d : PV} : ∀ {σ : Sg}, (freeOf scope σ).lookup x = some d → scope.names.lookup x = some .free ∧ σ.lookup x = some d
  | [], h => by simp [freeOf] at h
  | (y, e) :: r, h => by
    unfold freeOf at h
    rw [List.filter_cons] at h
    by_cases hk : (scope.names.lookup y == some .free) = true
    · rw [if_pos hk, List.lookup_cons] at h
      rw [List.lookup_cons]
      by_cases hx : x = y
      · subst hx; simp only [beq_self_eq_true] at h ⊢; exact ⟨eq_of_beq hk, h⟩
      · have : (x == y) = false := by simpa using hx
        rw [this] at h ⊢; exact lookup_freeOf h
    · rw [if_neg hk] at h
      obtain ⟨h1, h2⟩ := lookup_freeOf (scope := scope) (σ := r) h
      refine ⟨h1, ?_⟩
      rw [List.lookup_cons]
      by_cases hx : x = y
      · subst hx; rw [h1] at hk; exact absurd rfl hk
      · have : (x == y) = false := by simpa using hx
        rw [this]; exact h2

inductive CompRes (c : Ct) (σ : Sg) (μ : Mu) : List Expr → Expr → Option PV → Prop where
  | all {elt : Expr} {x : PV} : Ev c σ μ elt x → CompRes c σ μ [] elt (some x)
  | yes {t elt : Expr} {x : PV} : Tr c σ μ t true → Ev c σ μ elt x → CompRes c σ μ [t] elt (some x)
  | no {t elt : Expr} : Tr c σ μ t false → CompRes c σ μ [t] elt none

theorem compLoop_gen {A : Around} {s : Shared} {R : Result → Shared → Prop} {elt target iter : Expr} {ifs : List Expr} {scope : Scope} {pos : Pos} {it acc : Value} {env : Env} (I : Nat → Shared → Prop)
    (turn : ∀ n s, I n s → ∀ E', wpAny (model prog w) A (pyNext it) (fun r s₁ => match r with
      | none => R (.ok .next) s₁
      | some v => wpAny (model prog w) A (letOwnedTupleGo target it v) (fun _ s₁' => wpAny (model prog w) A (assign target env v) (fun _ s₂ =>
          wpAny (model prog w) A (forIn ifs true fun c r => if r = true then do let ok ← isTrue c env (eval c env); pure (ForInStep.yield ok) else pure (ForInStep.yield r)) (fun ok s₃ =>
            if ok = true then wpAny (model prog w) A (eval elt env) (fun x s₄ => wpAny (model prog w) A (call (.builtin "list.append") [acc, x]) (fun _ s₅ => ∃ m, m < n ∧ I m s₅) E' s₄) E' s₃
            else ∃ m, m < n ∧ I m s₃) E' s₂) E' s₁') E' s₁) E' s)
    (n : Nat) (h : I n s) : codeAny (model prog w) A (.compLoop (.ListComp elt [⟨target, iter, ifs, 0⟩] scope pos) 0 it acc env) R s := by
  refine codeAny_loop rfl I (fun n s hI => ?_) n h
  show wpAny _ A ((compTurn (.ListComp elt [⟨target, iter, ifs, 0⟩] scope pos) 0 it acc env).onRaise (fun x => do noteFrame x env; theTreesLotGoes x)) _ _ s
  refine wpAny_noted ?_
  rw [compTurn_list]
  refine wpAny_bind (wpAny_standAt (wpAny_bind (wpAny_mono (turn n s hI _) (fun r s₁ h₁ => ?_) fun _ _ h' => h')))
  cases r with
  | none => exact wpAny_pure h₁
  | some v =>
    refine wpAny_bind (wpAny_mono h₁ (fun _ s₁' h₁' => ?_) fun _ _ h' => h')
    refine wpAny_bind (wpAny_mono h₁' (fun _ s₂ h₂ => wpAny_bind (wpAny_mono h₂ (fun ok s₃ h₃ => ?_) fun _ _ h' => h')) fun _ _ h' => h')
    cases ok with
    | false => exact wpAny_pure ⟨rfl, h₃⟩
    | true => exact wpAny_bind (wpAny_bind (wpAny_mono h₃ (fun x s₄ h₄ => wpAny_bind (wpAny_mono h₄ (fun _ s₅ h₅ => wpAny_pure (wpAny_pure ⟨rfl, h₅⟩)) fun _ _ h' => h')) fun _ _ h' => h'))
end Mine

end

section
open PySem PySem.Calls PyProof.Rows
namespace Mine
variable {prog : Program} {w : World}

theorem lt_sz {h : Heap} {a : Nat} {o : Obj} (e : h.get? a = some o) : a < h.objs.size := Heap.lt_size e
theorem mval_lt {B h : Heap} {a : Nat} {mv : MV} (x : MVal prog w B h a mv) : a < h.objs.size := x.lt
theorem freeze {B h : Heap} (hl : Le B h) {D : Addr} {o : Obj} (hD : h.get? D = some o) : ∃ B', Le B B' ∧ Le B' h ∧ B'.get? D = some o ∧ ∀ b ob, B'.get? b = some ob → B.get? b = some ob ∨ b = D := by
  have hg := fun a => restrict_get h (fun a => (B.get? a).isSome || a == D) a
  refine ⟨restrict h (fun a => (B.get? a).isSome || a == D), fun b ob e => ?_, fun b ob e => ?_, ?_, fun b ob e => ?_⟩
  · rw [hg, e]; simp only [Option.isSome_some, Bool.true_or, if_true]; exact hl _ _ e
  · rw [hg] at e
    split at e
    · exact e
    · cases e
  · rw [hg]; simp only [beq_self_eq_true, Bool.or_true, if_true]; exact hD
  · rw [hg] at e
    by_cases z : b = D
    · exact .inr z
    · cases q : B.get? b with
      | none => rw [q] at e; simp [z] at e
      | some x =>
        rw [q] at e; simp only [Option.isSome_some, Bool.true_or, if_true] at e
        rw [hl _ _ q] at e; exact .inl e

theorem newCompEnv {A : Around} {s : Shared} {scope : Scope} {globals : Addr} {cl : List (Str × Addr)} {qual : Str} {env : Env} {Q : Env → Shared → Prop} {E : Value → Shared → Prop}
    (q : Q { scope, locals := s.heap.objs.size, globals, cells := cellsFrom (s.heap.objs.size + 1) scope.names cl, qual, func := none, code := env.code, frame := env.frame, builtins := env.builtins }
      { s with heap := pushCells (s.heap.push { cls := .type "dict", data := .dict #[] }) scope.names }) :
    wpAny (model prog w) A (newFunctionEnv scope globals cl [] qual none .none (some env)) Q E s := by
  simp only [newFunctionEnv, Option.isSome_some, if_true]
  refine wpAny_bind (wpAny_alloc ?_)
  refine wpAny_bind (wpAny_layCells _ (fun name kind cells => by cases hkc : kind == NameKind.cell <;> simp [hkc]) _ _ _ _ ?_)
  rw [show ({ s with heap := s.heap.push { cls := .type "dict", data := .dict #[] } } : Shared).heap.objs.size = s.heap.objs.size + 1 from Heap.size_push ..]
  exact wpAny_bind (wpAny_pure (wpAny_pure q))

theorem lookup_relabel_free {env : Env} : ∀ {names : List (Str × NameKind)} {x : Str}, names.lookup x = some .free →
    (names.map fun (n, k) => if (k == NameKind.free && env.scope.kind == .function && env.kindOf n == some .cell) then (n, NameKind.cell) else (n, k)).lookup x ≠ some .local
  | [], _, h => by simp at h
  | (n, k) :: r, x, h => by
    have ih := @lookup_relabel_free env r x
    show List.lookup x ((if (k == NameKind.free && env.scope.kind == .function && env.kindOf n == some .cell) = true then (n, NameKind.cell) else (n, k)) :: _) ≠ _
    cases hx : x == n with
    | true =>
      simp only [List.lookup_cons, hx] at h
      cases h
      split <;> simp [List.lookup_cons, hx]
    | false =>
      simp only [List.lookup_cons, hx] at h
      split <;> (simp only [List.lookup_cons, hx]; exact ih h)
theorem lookup_relabel_cell {env : Env} : ∀ {names : List (Str × NameKind)} {x : Str} {k : NameKind}, (names.map fun (n, k) => if (k == NameKind.free && env.scope.kind == .function && env.kindOf n == some .cell) then (n, NameKind.cell) else (n, k)).lookup x = some k →
    names.lookup x = some k ∨ (names.lookup x = some .free ∧ k = .cell)
  | [], _, _, h => by simp at h
  | (n, k') :: r, x, k, h => by
    have ih := @lookup_relabel_cell env r x k
    have h' : List.lookup x ((if (k' == NameKind.free && env.scope.kind == .function && env.kindOf n == some .cell) = true then (n, NameKind.cell) else (n, k')) :: r.map fun (n, k) => if (k == NameKind.free && env.scope.kind == .function && env.kindOf n == some .cell) then (n, NameKind.cell) else (n, k)) = some k := h
    cases hx : x == n with
    | true =>
      simp only [List.lookup_cons, hx]
      split at h'
      · rename_i hc
        simp only [List.lookup_cons, hx] at h'
        cases h'
        simp only [Bool.and_eq_true] at hc
        exact .inr ⟨by rw [eq_of_beq hc.1.1], rfl⟩
      · simp only [List.lookup_cons, hx] at h'
        exact .inl h'
    | false =>
      simp only [List.lookup_cons, hx]
      split at h' <;> (simp only [List.lookup_cons, hx] at h'; exact ih h')

theorem Sn.refree {H₀ B₀ B B' : Heap} {sto : Str → Bool} {env : Env} {s s' : Shared} {σ σ' : Sg} {μ : Mu} (hσ : ∀ x d, σ.lookup x = some d → sto x = false ∧ env.kindOf x ≠ some .local)
    (x : Sn prog w H₀ B₀ B sto env s.heap σ μ) (e : Ext (Own sto env) B s B' s') (y : Sn prog w H₀ B₀ B' sto env s'.heap σ' μ) : Sn prog w H₀ B₀ B' sto env s'.heap σ μ := by
  obtain ⟨m, hm, _⟩ := y.en.loc
  refine ⟨⟨y.en.stat, y.en.le, y.en.kind, y.en.glob, y.en.blt, ⟨m, hm, fun z d h1 h2 => absurd h1 (hσ z d h2).2⟩, fun z a hc => ?_, y.en.bound, y.en.inj, y.en.celK, y.en.celL, y.en.frL, y.en.frC, y.en.loL, y.en.loC, y.en.pres⟩, y.mu, y.apL, y.apC⟩
  obtain ⟨ov', ⟨o', ho', hd'⟩, _⟩ := y.en.cel z a hc
  refine ⟨ov', ⟨o', ho', hd'⟩, fun d h1 h2 => ?_⟩
  obtain ⟨ov, ⟨o, ho, hd⟩, hv⟩ := x.en.cel z a hc
  obtain ⟨v, h3, h4⟩ := hv d h1 h2
  have nO : ¬ Own sto env a := fun h => by
    rcases h with h | ⟨u, hu, hu'⟩
    · exact x.en.celL z a hc h
    · have : u = z := x.en.inj _ _ _ hu hc
      subst this
      rw [(hσ u d h2).1] at hu'; cases hu'
  have := e.keep a o nO ho
  rw [ho'] at this; cases this
  rw [hd'] at hd; cases hd
  exact ⟨v, h3, h4.le e.le⟩

def freeOk (scope : Scope) (env : Env) : Bool := scope.names.all fun p => p.2 != .free || (match env.kindOf p.1 with | some .cell | some .free => true | _ => false)

theorem pushCells_new : ∀ (names : List (Str × NameKind)) (h : Heap) (x : Str) (a : Addr), (x, a) ∈ cellsFrom h.objs.size names [] → (pushCells h names).IsCell a none ∧ h.objs.size ≤ a := fun names h x a hm => by
  have ok := cellsFrom_ok names h h.objs.size [] ⟨fun _ _ hm => (nomatch hm), List.Pairwise.nil⟩ (Nat.le_refl _)
  exact ok.empty x a hm
theorem cellsFrom_apart (names : List (Str × NameKind)) (h : Heap) : (cellsFrom h.objs.size names []).Pairwise fun x y => x.2 ≠ y.2 :=
  (cellsFrom_ok names h h.objs.size [] ⟨fun _ _ hm => (nomatch hm), List.Pairwise.nil⟩ (Nat.le_refl _)).apart

/-- values that may bring new mutable things -/
structure NewsM (prog : Program) (w : World) (s : Shared) (B' : Heap) (s' : Shared) (μn : Mu) : Prop where
  val : ∀ a mv, (a, mv) ∈ μn → s.heap.get? a = none ∧ B'.get? a = none ∧ MVal prog w B' s'.heap a mv
  nodup : (μn.map (·.1)).Nodup
theorem NewsM.nil {s : Shared} {B' : Heap} {s' : Shared} : NewsM prog w s B' s' [] := ⟨fun _ _ h => (nomatch h), List.nodup_nil⟩
def EvN (c : Ct) (σ : Sg) (μ : Mu) (e : Expr) (Ψ : PV → Mu → Prop) : Prop := ∀ B s, c.St B s.heap σ μ → ∀ (Q : Value → Shared → Prop) (E : Value → Shared → Prop),
  (∀ v d B' s' μn, Ψ d μn → ExtE B s B' s' → NewsM c.prog c.w s B' s' μn → Val B' d v → Q v s') → wpAny (model c.prog c.w) c.A (eval e c.env) Q E s
theorem Ev.toN {c : Ct} {σ : Sg} {μ : Mu} {e : Expr} {d : PV} {Ψ : PV → Mu → Prop} (h : Ev c σ μ e d) (k : Ψ d []) : EvN c σ μ e Ψ :=
  fun B s S Q E q => h B s S Q E fun v B' s' e hv => q v d B' s' [] k e .nil hv
theorem MVal.get {B h : Heap} {a : Addr} {mv : MV} (x : MVal prog w B h a mv) : ∃ o, h.get? a = some o := by
  cases mv with
  | list ds => obtain ⟨vs, n, e, r⟩ := x; exact ⟨_, e⟩
  | dict kvs => obtain ⟨us, ⟨o, _, _, e, _⟩, _⟩ := x; exact ⟨_, e⟩

inductive CompResN (c : Ct) (σ : Sg) (μ : Mu) (Ψ : Option PV → Mu → Prop) : List Expr → Expr → Prop where
  | all {elt : Expr} : EvN c σ μ elt (fun y m => Ψ (some y) m) → CompResN c σ μ Ψ [] elt
  | yes {t elt : Expr} : Tr c σ μ t true → EvN c σ μ elt (fun y m => Ψ (some y) m) → CompResN c σ μ Ψ [t] elt
  | no {t elt : Expr} : Tr c σ μ t false → Ψ none [] → CompResN c σ μ Ψ [t] elt
inductive Outs (Ψ : PV → Option PV → Mu → Prop) : List PV → List PV → Mu → Prop where
  | nil : Outs Ψ [] [] []
  | take {ds outs : List PV} {m m' : Mu} {d y : PV} : Outs Ψ ds outs m → Ψ d (some y) m' → Outs Ψ (ds ++ [d]) (outs ++ [y]) (m ++ m')
  | skip {ds outs : List PV} {m : Mu} {d : PV} : Outs Ψ ds outs m → Ψ d none [] → Outs Ψ (ds ++ [d]) outs m
theorem Outs.le {Ψ : PV → Option PV → Mu → Prop} {ds outs : List PV} {m : Mu} (h : Outs Ψ ds outs m) : outs.length ≤ ds.length := by
  induction h with
  | nil => exact Nat.le_refl _
  | take _ _ ih => simp; omega
  | skip _ _ ih => simp; omega
theorem Outs.det {f : PV → Option PV} {ds outs : List PV} {m : Mu} (h : Outs (fun d o m => o = f d ∧ m = []) ds outs m) : outs = ds.filterMap f ∧ m = [] := by
  induction h with
  | nil => exact ⟨rfl, rfl⟩
  | @take ds outs m m' d y _ h ih => obtain ⟨rfl, rfl⟩ := ih; obtain ⟨h1, rfl⟩ := h; exact ⟨by rw [List.filterMap_append]; simp [← h1], rfl⟩
  | @skip ds outs m d _ h ih => obtain ⟨rfl, rfl⟩ := ih; obtain ⟨h1, _⟩ := h; exact ⟨by rw [List.filterMap_append]; simp [← h1], rfl⟩

theorem comp_run {c : Ct} {σ : Sg} {μ : Mu} {elt target iter : Expr} {ifs : List Expr} {scope : Scope} {pos : Pos} {ds : List PV} {Km : Mu → Prop} {Ψ : PV → Option PV → Mu → Prop}
    (hi : ItE c σ μ iter target ds Km) (hKm : Km μ) (hkind : scope.kind = .function) (hnd : (scope.names.map (·.1)).Nodup) (hfree : freeOk scope c.env = true)
    (body : ∀ C H d, d ∈ ds → ∃ σ'', Asg (cc c scope C H) (freeOf scope σ) μ target d σ'' ∧ CompResN (cc c scope C H) σ'' μ (Ψ d) ifs elt) (hsz : ds.length ≤ sizeLine)
    {B : Heap} {s : Shared} (S : c.St B s.heap σ μ) {RR : Value → Addr → Result → Shared → Prop} {E : Value → Shared → Prop}
    (hRR : ∀ D C B' s' m vs outs μn, ExtE B s B' s' → s.heap.get? C = none → B'.get? C = none → (∀ mv, (C, mv) ∉ μn) → s'.heap.Ns C m → B'.IsList D (List.toArray vs) → Outs Ψ ds outs μn → NewsM c.prog c.w s B' s' μn → Vals B' outs vs → RR (.ref D) C (.ok .next) s') :
    wpAny (model c.prog c.w) c.A (eval iter c.env) (fun x s₁ => wpAny (model c.prog c.w) c.A (pyIter x) (fun it s₂ => wpAny (model c.prog c.w) c.A (newList []) (fun acc s₃ =>
      wpAny (model c.prog c.w) c.A (newFunctionEnv scope c.env.globals (clOf c.env scope.names []) [] c.env.qual none .none (some c.env)) (fun cenv s₄ =>
        codeAny (model c.prog c.w) c.A (.compStart (.ListComp elt [⟨target, iter, ifs, 0⟩] scope pos) 0 it acc { cenv with scope := relabel scope c.env }) (RR acc cenv.locals) s₄) E s₃) E s₂) E s₁) E s := by
  have hfr : ∀ x ∈ scope.names, x.2 = .free → ∃ a, c.env.cells.lookup x.1 = some a := fun x hx hk => by
    have := List.all_eq_true.mp hfree x hx
    rw [hk] at this
    refine S.en.bound x.1 ?_
    cases hq : c.env.kindOf x.1 with
    | none => rw [hq] at this; simp at this
    | some k => cases k <;> first | exact .inl rfl | exact .inr rfl | (rw [hq] at this; simp at this)
  refine hi B s S _ _ fun it wr St B₁ s₂ e₁ hit st hw => ?_
  have S₂ := S.ext e₁
  refine wpAny_newList ?_ (by decide)
  refine newCompEnv ?_
  -- the places
  generalize hD : s₂.heap.objs.size = D
  generalize hH3 : s₂.heap.push { cls := .type "list", data := .seq ([] : List Value).toArray } = h3
  have hD3 : h3.objs.size = D + 1 := by rw [← hH3, Heap.size_push, hD]
  generalize hC : h3.objs.size = C
  generalize hH4 : h3.push { cls := .type "dict", data := .dict #[] } = h4
  have hC4 : h4.objs.size = C + 1 := by rw [← hH4, Heap.size_push, hC]
  generalize hH5 : pushCells h4 scope.names = h5
  have k23 : Le s₂.heap h3 := fun b o e => by rw [← hH3]; exact Heap.get?_push_of_some _ e
  have k34 : Le h3 h4 := fun b o e => by rw [← hH4]; exact Heap.get?_push_of_some _ e
  have k45 : Le h4 h5 := fun b o e => by rw [← hH5]; exact pushCells_keeps _ _ b o e
  have k25 : Le s₂.heap h5 := (k23.trans k34).trans k45
  have hge : ∀ b : Nat, s₂.heap.objs.size ≤ b → s₂.heap.get? b = none := fun b hb => by
    cases e : s₂.heap.get? b with
    | none => rfl
    | some o => exact absurd (Heap.lt_size e) (Nat.not_lt.mpr hb)
  have hsn : ∀ b, s₂.heap.get? b = none → s.heap.get? b = none := fun b hb => (e₁.gone hb).elim (fun z => z.elim) fun z => z
  have hDC : D ≠ C := by omega
  have hD5 : h5.get? D = some { cls := .type "list", data := .seq ([] : List Value).toArray } := k45 _ _ (k34 _ _ (by rw [← hH3, ← hD]; exact Heap.get?_push_size _ rfl))
  have hC5 : h5.Ns C fun _ => none := by
    have : h4.Ns C fun _ => none := by rw [← hH4, ← hC]; exact Heap.Ns.new ..
    exact this.keeps k45
  let own := cellsFrom (C + 1) scope.names []
  have hcells : (cenvOf scope C c.env).cells = own ++ clOf c.env scope.names [] := cellsFrom_append ..
  have ownC : ∀ (x : Str) (a : Nat), (x, a) ∈ own → h5.IsCell a none ∧ C + 1 ≤ a := fun x a ha => by
    have := pushCells_new scope.names h4 x a (by rw [hC4]; exact ha)
    rw [hH5, hC4] at this; exact this
  have inhC : ∀ x a, (x, a) ∈ clOf c.env scope.names [] → (x, NameKind.free) ∈ scope.names ∧ c.env.cells.lookup x = some a := fun x a ha => (mem_clOf hfr ha).elim (fun h => nomatch h) fun h => h
  have inhLt : ∀ x a, (x, a) ∈ clOf c.env scope.names [] → ∃ o, s₂.heap.get? a = some o := fun x a ha => by
    obtain ⟨_, ⟨o, ho, _⟩, _⟩ := S₂.en.cel x a (PySem.mem_of_lookup (inhC x a ha).2)
    exact ⟨o, ho⟩
  have ownK : ∀ x a, (x, a) ∈ own → scope.names.lookup x = some .cell := fun x a ha => (mem_cellsFrom ha).elim (fun h => nomatch h) fun h => lookup_of_mem_nodup2 hnd h.2
  have inhK : ∀ x a, (x, a) ∈ clOf c.env scope.names [] → scope.names.lookup x = some .free := fun x a ha => lookup_of_mem_nodup2 hnd (inhC x a ha).1
  have inj' : ∀ x y a, (x, a) ∈ own ++ clOf c.env scope.names [] → (y, a) ∈ own ++ clOf c.env scope.names [] → x = y := fun x y a hx hy => by
    rcases List.mem_append.mp hx with hx | hx <;> rcases List.mem_append.mp hy with hy | hy
    · have := cellsFrom_apart scope.names h4
      rw [hC4] at this
      exact name_of_addr this hx hy
    · obtain ⟨o, ho⟩ := inhLt y a hy
      have := lt_sz ho; have := (ownC x a hx).2; omega
    · obtain ⟨o, ho⟩ := inhLt x a hx
      have := lt_sz ho; have := (ownC y a hy).2; omega
    · exact S.en.inj _ _ _ (PySem.mem_of_lookup (inhC x a hx).2) (PySem.mem_of_lookup (inhC y a hy).2)
  have B1n : ∀ b : Nat, s₂.heap.objs.size ≤ b → B₁.get? b = none := fun b hb => le_none e₁.inn (hge b hb)
  have S₅ : (cc c scope C s.heap).St B₁ h5 (freeOf scope σ) μ := by
    refine ⟨⟨S₂.en.stat, e₁.inn.trans k25, hkind, S₂.en.glob, S₂.en.blt, ⟨_, hC5, fun x d h1 h2 => ?_⟩, fun x a ha => ?_, fun x hx => ?_, fun x y a => ?_, fun x a ha hl => ?_, fun x a ha => ?_, B1n _ (by show s₂.heap.objs.size ≤ C; omega), fun x a ha => ?_, hsn _ (hge _ (by show s₂.heap.objs.size ≤ C; omega)), fun x a ha hs => ?_, fun b o hb => ⟨o, k25 b o (e₁.keepE b o hb)⟩⟩, ⟨fun a mv hm => ⟨(S₂.mu.val a mv hm).1, (S₂.mu.val a mv hm).2.keep (Le.refl _) fun o => k25 a o⟩, S₂.mu.nodup⟩, fun a mv hm => ?_, fun a mv hm x b hb => ?_⟩
    · exact absurd h1 (lookup_relabel_free (lookup_freeOf h2).1)
    · rw [hcells] at ha ⊢
      rcases List.mem_append.mp ha with ha | ha
      · refine ⟨none, (ownC x a ha).1, fun d _ h2 => ?_⟩
        have := (lookup_freeOf h2).1
        rw [ownK x a ha] at this; cases this
      · obtain ⟨ov, h1, h2⟩ := S₂.en.cel x a (PySem.mem_of_lookup (inhC x a ha).2)
        exact ⟨ov, h1.keeps k25, fun d _ h3 => h2 d (inhC x a ha).2 (lookup_freeOf h3).2⟩
    · rw [hcells, lookup_append]
      have hx' : scope.names.lookup x = some .cell ∨ scope.names.lookup x = some .free := by
        rcases hx with hx | hx <;> rcases lookup_relabel_cell hx with h | h
        · exact .inl h
        · exact .inr h.1
        · exact .inr h
        · exact .inr h.1
      rcases hx' with h | h
      · obtain ⟨a, ha⟩ := cellsFrom_has (n := C + 1) (acc := []) (.inl (mem_lookup_of h))
        exact ⟨a, by show ((cellsFrom (C + 1) scope.names []).lookup x).or _ = _; rw [ha]; rfl⟩
      · obtain ⟨a, ha⟩ := clOf_has (env := c.env) (acc := []) (.inl (mem_lookup_of h))
        cases q : own.lookup x with
        | none => exact ⟨a, by rw [ha]; rfl⟩
        | some b => exact ⟨b, rfl⟩
    · rw [hcells]; exact inj' x y a
    · rw [hcells] at ha
      rcases lookup_relabel_cell hl with h | h
      · rcases List.mem_append.mp ha with ha | ha
        · rw [ownK x a ha] at h; cases h
        · rw [inhK x a ha] at h; cases h
      · cases h.2
    · rw [hcells] at ha
      rcases List.mem_append.mp ha with ha | ha
      · have h9 := (ownC x a ha).2; exact Nat.ne_of_gt (Nat.lt_of_lt_of_le (Nat.lt_succ_self _) h9)
      · obtain ⟨o, ho⟩ := inhLt x a ha
        have h9 := lt_sz ho; exact Nat.ne_of_lt (Nat.lt_of_lt_of_le h9 (show s₂.heap.objs.size ≤ C from by omega))
    · rw [hcells] at ha
      rcases List.mem_append.mp ha with ha | ha
      · have := (ownC x a ha).2; exact B1n _ (by omega)
      · exact S₂.en.frC x a (PySem.mem_of_lookup (inhC x a ha).2)
    · rw [hcells] at ha
      rcases List.mem_append.mp ha with ha | ha
      · have := (ownC x a ha).2; exact hsn _ (hge _ (by omega))
      · have hs' : stoC scope x = true := hs
        unfold stoC at hs'
        rw [inhK x a ha] at hs'; cases hs'
    · have h9 := mval_lt (S₂.mu.val a mv hm).2; exact Nat.ne_of_lt (Nat.lt_of_lt_of_le h9 (show s₂.heap.objs.size ≤ C from by omega))
    · rw [hcells] at hb
      rcases List.mem_append.mp hb with hb | hb
      · have h8 := mval_lt (S₂.mu.val a mv hm).2; have h9 := (ownC x b hb).2; exact Nat.ne_of_lt (Nat.lt_of_lt_of_le h8 (Nat.le_trans (by omega) h9))
      · exact S₂.apC a mv hm x b (PySem.mem_of_lookup (inhC x b hb).2)
  have hσf : ∀ x d, (freeOf scope σ).lookup x = some d → stoC scope x = false ∧ (cenvOf scope C c.env).kindOf x ≠ some .local := fun x d h => by
    have := (lookup_freeOf h).1
    exact ⟨by unfold stoC; rw [this], lookup_relabel_free this⟩
  -- the iterator's and the list's places are apart from the frame's
  have wlt : ∀ b : Nat, b ∈ wr → b < s₂.heap.objs.size := fun b hb => by obtain ⟨o, ho⟩ := (hw b hb).2.2; exact lt_sz ho
  have nOwn : ∀ b : Nat, Own (stoC scope) (cenvOf scope C c.env) b → C ≤ b := fun b hb => by
    rcases hb with h | ⟨x, hx, hs⟩
    · exact Nat.le_of_eq h.symm
    · rw [hcells] at hx
      rcases List.mem_append.mp hx with hx | hx
      · have := (ownC x b hx).2; omega
      · unfold stoC at hs
        rw [inhK x b hx] at hs; cases hs
  have loop : codeAny (model c.prog c.w) c.A (.compLoop (.ListComp elt [⟨target, iter, ifs, 0⟩] scope pos) 0 (.ref it) (.ref D) (cenvOf scope C c.env)) (RR (.ref D) C) { s₂ with heap := h5 } := by
    refine compLoop_gen (fun k s' => ∃ i B' vs outs μn, k = ds.length - i ∧ i ≤ ds.length ∧ Ext (fun b => s.heap.get? b = none) B₁ { s₂ with heap := h5 } B' s' ∧ (cc c scope C s.heap).St B' s'.heap (freeOf scope σ) μ ∧ St i s'.heap ∧
      (∀ b ∈ wr, B'.get? b = none) ∧ B'.get? D = none ∧ s'.heap.IsList D (List.toArray vs) ∧ Vals B' outs vs ∧ Outs Ψ (ds.take i) outs μn ∧ (∀ a mv, (a, mv) ∈ μn → s.heap.get? a = none ∧ a ∉ wr ∧ a ≠ D ∧ ¬ Own (stoC scope) (cenvOf scope C c.env) a ∧ B'.get? a = none ∧ MVal c.prog c.w B' s'.heap a mv) ∧ (μn.map (·.1)).Nodup) ?_ ds.length
      ⟨0, B₁, [], [], [], rfl, Nat.zero_le _, Ext.refl (e₁.inn.trans k25), S₅, hit.frame _ _ _ st fun b _ o ho => k25 b o ho, fun b hb => (hw b hb).2.1, B1n _ (Nat.le_of_eq hD), ⟨_, hD5, rfl, _, rfl⟩, by simp [Vals], by simpa using Outs.nil, (fun a mv h => nomatch h), List.nodup_nil⟩
    rintro n s' ⟨i, B', vs, outs, μn, rfl, hil, x, S', st', hwr, hDn, hDl, hvs, hout, hnew, hnnd⟩ E'
    have nL : ∀ b ∈ wr, ¬ Own (stoC scope) (cenvOf scope C c.env) b := fun b hb h => by have := wlt b hb; have := nOwn b h; omega
    have nD : ¬ Own (stoC scope) (cenvOf scope C c.env) D := fun h => by have := nOwn D h; omega
    have Dwr : D ∉ wr := fun h => by have := wlt D h; omega
    have wrs : ∀ b ∈ wr, s.heap.get? b = none := fun b hb => (hw b hb).1
    have Sw : ∀ {B₁ B₂ : Heap} {s₁ s₂ : Shared}, (cc c scope C s.heap).St B₁ s₁.heap (freeOf scope σ) μ → Ext (· ∈ wr) B₁ s₁ B₂ s₂ → (cc c scope C s.heap).St B₂ s₂.heap (freeOf scope σ) μ := fun S e => by
      refine Sn.wr S e (fun h => nL _ h (.inl rfl)) (fun y a ha h => ?_) (fun a mv hm h => ?_) wrs
      · have ha' := ha
        rw [hcells] at ha'
        rcases List.mem_append.mp ha' with h1 | h1
        · have := (ownC y a h1).2; have := wlt a h; omega
        · obtain ⟨_, ⟨o, ho, _⟩, _⟩ := S₂.en.cel y a (PySem.mem_of_lookup (inhC y a h1).2)
          obtain ⟨_, ⟨o', ho', _⟩, _⟩ := Sn.en S |>.cel y a ha
          obtain ⟨_, ⟨o'', ho'', _⟩, _⟩ := (‹c.St B s.heap σ μ›).en.cel y a (PySem.mem_of_lookup (inhC y a h1).2)
          rw [wrs a h] at ho''; cases ho''
      · have := (‹c.St B s.heap σ μ›).mu.val a mv hm
        have hlt : ∃ o, s.heap.get? a = some o := by
          cases mv with
          | list ds => obtain ⟨vs, n, e, r⟩ := this.2; exact ⟨_, e⟩
          | dict kvs => obtain ⟨us, ⟨o, _, _, e, _⟩, _⟩ := this.2; exact ⟨_, e⟩
        obtain ⟨o, ho⟩ := hlt
        rw [wrs a h] at ho; cases ho
    by_cases hlt : i < ds.length
    · obtain ⟨d, hd⟩ : ∃ d, ds[i]? = some d := ⟨_, List.getElem?_eq_getElem hlt⟩
      have htake : ds.take (i + 1) = ds.take i ++ [d] := by rw [List.take_add_one, hd]; rfl
      obtain ⟨σ'', ha, hres⟩ := body C s.heap d (List.mem_of_getElem? hd)
      refine hit.next i d B' s' μ _ _ hd st' x.le S'.at hKm hwr fun v B₂ s₃ e₂ w2 hv hgo => ?_
      refine hgo _ _ fun s₄ e₃ st₄ => ?_
      have S₄ := Sw (Sw S' e₂) e₃
      have D4 : s₄.heap.IsList D (List.toArray vs) ∧ B₂.get? D = none := by
        obtain ⟨o, ho, r⟩ := hDl
        exact ⟨⟨o, e₃.keep _ _ Dwr (e₂.keep _ _ Dwr ho), r⟩, e₂.none' Dwr ho hDn⟩
      refine ha B₂ s₄ v S₄ (hv.le e₃.le) _ _ fun B₅ s₅ e₄ S₅' => ?_
      have D5 : s₅.heap.IsList D (List.toArray vs) ∧ B₅.get? D = none := by
        obtain ⟨⟨o, ho, r⟩, hn⟩ := D4
        exact ⟨⟨o, e₄.keep _ _ nD ho, r⟩, e₄.none' nD ho hn⟩
      have w5 : ∀ b ∈ wr, B₅.get? b = none ∧ ∃ o, s₄.heap.get? b = some o ∧ s₅.heap.get? b = some o := fun b hb => by
        obtain ⟨o, ho⟩ := hit.there _ _ st₄ b hb
        exact ⟨e₄.none' (nL b hb) ho (w2 b hb), o, ho, e₄.keep b o (nL b hb) ho⟩
      have S₅f : (cc c scope C s.heap).St B₅ s₅.heap (freeOf scope σ) μ := Sn.refree hσf S₄ e₄ S₅'
      have x5 : Ext (fun b => s.heap.get? b = none) B₁ { s₂ with heap := h5 } B₅ s₅ := ((x.trans e₂ fun b h => .inl (wrs b h)).trans e₃ fun b h => .inl (wrs b h)).trans e₄ fun b h => .inl (by
        have := nOwn b h; exact hsn _ (hge _ (by omega)))
      have st5 : St (i + 1) s₅.heap := hit.frame _ _ _ st₄ fun b hb o ho => e₄.keep b o (nL b hb) ho
      have vs5 : Vals B₅ outs vs := ((hvs.le e₂.le).le e₃.le).le e₄.le
      have new5 : ∀ a mv, (a, mv) ∈ μn → B₅.get? a = none ∧ MVal c.prog c.w B₅ s₅.heap a mv := fun a mv hm => by
        obtain ⟨h1, h2, h3, h4, h5, h6⟩ := hnew a mv hm
        obtain ⟨o, ho⟩ := h6.get
        have q2 := e₂.keep _ _ h2 ho
        have q3 := e₃.keep _ _ h2 q2
        exact ⟨e₄.none' h4 q3 (e₂.none' h2 ho h5), ((h6.keep e₂.le fun o => e₂.keep _ o h2).keep e₃.le fun o => e₃.keep _ o h2).keep e₄.le fun o => e₄.keep _ o h4⟩
      -- what follows any step of an expression
      have after : ∀ {B₆ : Heap} {s₆ : Shared}, ExtE B₅ s₅ B₆ s₆ → (cc c scope C s.heap).St B₆ s₆.heap (freeOf scope σ) μ ∧ Ext (fun b => s.heap.get? b = none) B₁ { s₂ with heap := h5 } B₆ s₆ ∧ St (i + 1) s₆.heap ∧ (∀ b ∈ wr, B₆.get? b = none) ∧ B₆.get? D = none ∧ s₆.heap.IsList D (List.toArray vs) ∧ Vals B₆ outs vs ∧ (∀ a mv, (a, mv) ∈ μn → B₆.get? a = none ∧ MVal c.prog c.w B₆ s₆.heap a mv) := fun e => by
        obtain ⟨⟨o, ho, r⟩, hn⟩ := D5
        exact ⟨S₅f.ext e, x5.trans e fun b h => h.elim, hit.frame _ _ _ st5 fun b _ o ho => e.keepE b o ho, fun b hb => by obtain ⟨h1, o, _, h2⟩ := w5 b hb; exact e.none h2 h1, e.none ho hn, ⟨o, e.keepE _ _ ho, r⟩, vs5.le e.le, fun a mv hm => by obtain ⟨h1, h2⟩ := new5 a mv hm; obtain ⟨o, ho⟩ := h2.get; exact ⟨e.none ho h1, h2.keep e.le fun o => e.keepE _ o⟩⟩
      have skip : Ψ d none [] → ∀ {B₆ : Heap} {s₆ : Shared}, ExtE B₅ s₅ B₆ s₆ → ∃ m, m < ds.length - i ∧ ∃ i B' vs outs μn, m = ds.length - i ∧ i ≤ ds.length ∧ Ext (fun b => s.heap.get? b = none) B₁ { s₂ with heap := h5 } B' s₆ ∧ (cc c scope C s.heap).St B' s₆.heap (freeOf scope σ) μ ∧ St i s₆.heap ∧
          (∀ b ∈ wr, B'.get? b = none) ∧ B'.get? D = none ∧ s₆.heap.IsList D (List.toArray vs) ∧ Vals B' outs vs ∧ Outs Ψ (ds.take i) outs μn ∧ (∀ a mv, (a, mv) ∈ μn → s.heap.get? a = none ∧ a ∉ wr ∧ a ≠ D ∧ ¬ Own (stoC scope) (cenvOf scope C c.env) a ∧ B'.get? a = none ∧ MVal c.prog c.w B' s₆.heap a mv) ∧ (μn.map (·.1)).Nodup := fun hf B₆ s₆ e => by
        obtain ⟨h1, h2, h3, h4, h5, h6, h7, h8⟩ := after e
        exact ⟨ds.length - (i + 1), by omega, i + 1, B₆, vs, outs, μn, rfl, hlt, h2, h1, h3, h4, h5, h6, h7, by rw [htake]; exact hout.skip hf, fun a mv hm => ⟨(hnew a mv hm).1, (hnew a mv hm).2.1, (hnew a mv hm).2.2.1, (hnew a mv hm).2.2.2.1, (h8 a mv hm).1, (h8 a mv hm).2⟩, hnnd⟩
      have take : ∀ {B₆ : Heap} {s₆ : Shared}, ExtE B₅ s₅ B₆ s₆ → EvN (cc c scope C s.heap) σ'' μ elt (fun y m => Ψ d (some y) m) → (cc c scope C s.heap).St B₆ s₆.heap σ'' μ →
          wpAny (model c.prog c.w) c.A (eval elt (cenvOf scope C c.env)) (fun x s₄ => wpAny (model c.prog c.w) c.A (call (.builtin "list.append") [.ref D, x]) (fun _ s₆ => ∃ m, m < ds.length - i ∧ ∃ i B' vs outs μn, m = ds.length - i ∧ i ≤ ds.length ∧ Ext (fun b => s.heap.get? b = none) B₁ { s₂ with heap := h5 } B' s₆ ∧ (cc c scope C s.heap).St B' s₆.heap (freeOf scope σ) μ ∧ St i s₆.heap ∧
          (∀ b ∈ wr, B'.get? b = none) ∧ B'.get? D = none ∧ s₆.heap.IsList D (List.toArray vs) ∧ Vals B' outs vs ∧ Outs Ψ (ds.take i) outs μn ∧ (∀ a mv, (a, mv) ∈ μn → s.heap.get? a = none ∧ a ∉ wr ∧ a ≠ D ∧ ¬ Own (stoC scope) (cenvOf scope C c.env) a ∧ B'.get? a = none ∧ MVal c.prog c.w B' s₆.heap a mv) ∧ (μn.map (·.1)).Nodup) E' s₄) E' s₆ := fun {B₆ s₆} e hev Sy => by
        refine hev B₆ s₆ Sy _ _ fun u y B₇ s₇ μ1 hy e₇ hn7 hu => ?_
        obtain ⟨h1, h2, h3, h4, h5', h6, h7, h8⟩ := after (e.transE e₇)
        obtain ⟨a1, a2, a3, a4, a5, a6, a7, a8⟩ := after e
        refine wpAny_list_append h6 (fun h' hl' hs' => ?_) (by
          have := h7.length
          have l1 : outs.length ≤ (ds.take i).length := hout.le
          have l2 : (ds.take i).length ≤ ds.length := by rw [List.length_take]; omega
          simp only [List.size_toArray]; omega)
        have hDs : s.heap.get? D = none := hsn _ (hge _ (Nat.le_of_eq hD))
        have hle : Le B₇ h' := le_same h1.en.le hs' h5'
        have xx : Ext (· ∈ [D]) B₇ s₇ B₇ { s₇ with heap := h' } := Ext.heap hle (fun b o hb e => (hs'.2 b (fun z => hb (by simp [z]))).trans e) s₇.toks
        have D7 : ∃ o, s₆.heap.get? D = some o := by obtain ⟨o, ho, _⟩ := a6; exact ⟨o, ho⟩
        have hDnew : ∀ mv, (D, mv) ∉ μ1 := fun mv hm => by
          have := (hn7.val D mv hm).1; obtain ⟨o, ho⟩ := D7; rw [ho] at this; cases this
        refine ⟨ds.length - (i + 1), by omega, i + 1, B₇, vs ++ [u], outs ++ [y], μn ++ μ1, rfl, hlt, h2.trans xx fun b hb => .inl (by simp at hb; subst hb; exact hDs), ?_, hit.frame _ _ _ h3 fun b hb o ho => (hs'.2 b (fun z => Dwr (z ▸ hb))).trans ho, h4, h5', ?_, ?_, by rw [htake]; exact hout.take hy, fun a mv hm => ?_, ?_⟩
        · refine Sn.wr h1 xx (fun h => ?_) (fun y' a ha h => ?_) (fun a mv hm h => ?_) (fun b hb => by simp only [List.mem_singleton] at hb; subst hb; exact hDs)
          · simp only [List.mem_singleton] at h
            exact hDC h.symm
          · simp only [List.mem_singleton] at h
            subst h
            have ha' := ha
            rw [hcells] at ha'
            rcases List.mem_append.mp ha' with h1 | h1
            · have := (ownC y' a h1).2; omega
            · obtain ⟨o, ho⟩ := inhLt y' a h1
              have := lt_sz ho; omega
          · simp only [List.mem_singleton] at h
            subst h
            have := mval_lt (S₂.mu.val a mv hm).2; omega
        · simpa using hl'
        · exact h7.append ⟨u, [], rfl, hu, rfl⟩
        · rcases List.mem_append.mp hm with hm | hm
          · obtain ⟨n1, n2, n3, n4, _, _⟩ := hnew a mv hm
            exact ⟨n1, n2, n3, n4, (h8 a mv hm).1, (h8 a mv hm).2.keep (Le.refl _) fun o ho => (hs'.2 a n3).trans ho⟩
          · obtain ⟨n1, n2, n3⟩ := hn7.val a mv hm
            have nD' : a ≠ D := fun z => hDnew mv (z ▸ hm)
            refine ⟨?_, fun hb => ?_, nD', fun ho => ?_, n2, n3.keep (Le.refl _) fun o ho => (hs'.2 a nD').trans ho⟩
            · rcases a2.gone n1 with q | q
              · exact q
              · have q' : h5.get? a = none := q
                cases q2 : s.heap.get? a with
                | none => rfl
                | some o => rw [k25 a o (e₁.keepE a o q2)] at q'; cases q'
            · obtain ⟨o, ho⟩ := hit.there _ _ a3 a hb; rw [n1] at ho; cases ho
            · rcases ho with rfl | ⟨z, hz, _⟩
              · obtain ⟨_, ⟨o, _, _, ho, _⟩, _⟩ := a1.en.loc; exact absurd (n1.symm.trans ho) (by intro h; cases h)
              · obtain ⟨_, ⟨o, ho, _⟩, _⟩ := a1.en.cel z a hz; rw [n1] at ho; cases ho
        · rw [List.map_append, List.nodup_append]
          refine ⟨hnnd, hn7.nodup, fun a ha b hb hab => ?_⟩
          obtain ⟨⟨a', mv⟩, h1', rfl⟩ := List.mem_map.mp ha
          obtain ⟨⟨b', mv'⟩, h2', rfl⟩ := List.mem_map.mp hb
          have hab' : a' = b' := hab
          subst hab'
          obtain ⟨o, ho⟩ := (a8 a' mv h1').2.get
          rw [(hn7.val a' mv' h2').1] at ho; cases ho
      cases hres with
      | all hev => exact wpAny_tests_nil (take (Ext.refl S₅'.en.le) hev S₅')
      | yes ht hev =>
        refine wpAny_tests_one (ht B₅ s₅ S₅' _ _ fun B₆ s₆ e₆ => ?_)
        exact take e₆ hev (S₅'.ext e₆)
      | no ht hno =>
        refine wpAny_tests_one (ht B₅ s₅ S₅' _ _ fun B₆ s₆ e₆ => ?_)
        exact skip hno e₆
    · have hi' : i = ds.length := by omega
      subst hi'
      refine hit.done B' s' μ _ _ st' x.le S'.at hKm hwr fun s₃ e₂ => ?_
      have S₃ := Sw S' e₂
      obtain ⟨o, ho, r⟩ := hDl
      have ho3 := e₂.keep _ _ Dwr ho
      obtain ⟨B'', f1, f2, f3, f4⟩ := freeze S₃.en.le ho3
      obtain ⟨m, hm, _⟩ := S₃.en.loc
      have hCn : s.heap.get? C = none := hsn _ (hge _ (by omega))
      have x3 := x.trans e₂ fun b h => .inl (wrs b h)
      have new3 : NewsM c.prog c.w s B'' s₃ μn := ⟨fun a mv hm => by
        obtain ⟨n1, n2, n3, n4, n5, n6⟩ := hnew a mv hm
        obtain ⟨oa, hoa⟩ := n6.get
        refine ⟨n1, ?_, (n6.keep f1 fun o => e₂.keep _ o n2)⟩
        cases q : B''.get? a with
        | none => rfl
        | some ob =>
          rcases f4 a ob q with h | h
          · rw [n5] at h; cases h
          · exact absurd h n3, hnnd⟩
      refine hRR D C B'' s₃ m vs outs μn ?_ hCn ?_ (fun mv hm => (hnew C mv hm).2.2.2.1 (.inl rfl)) hm ⟨o, f3, r⟩ (by rw [List.take_length] at hout; exact hout) new3 ?_
      · refine ⟨(e₁.le.trans x3.le).trans f1, fun b ob e => ?_, f2, fun b ob _ e => x3.keep b ob (fun z => by rw [z] at e; cases e) (k25 b ob (e₁.keepE b ob e)), ?_⟩
        · rcases f4 b ob e with h | h
          · rcases x3.new b ob h with h | h | h
            · rcases e₁.new b ob h with h | h | h
              · exact .inl h
              · exact h.elim
              · exact .inr (.inr h)
            · exact .inr (.inr h)
            · refine .inr (.inr ?_)
              cases q : s.heap.get? b with
              | none => rfl
              | some ob' =>
                have h' : h5.get? b = none := h
                rw [k25 b ob' (e₁.keepE b ob' q)] at h'; cases h'
          · subst h; exact .inr (.inr (hsn _ (hge _ (Nat.le_of_eq hD))))
        · obtain ⟨ha, ta, rfl⟩ := e₁.rest
          obtain ⟨hb, tb, rfl⟩ := x3.rest
          exact ⟨hb, tb, rfl⟩
      · cases q : B''.get? C with
        | none => rfl
        | some ob =>
          rcases f4 C ob q with h | h
          · have := S₃.en.frL
            have h' : B'.get? (cenvOf scope C c.env).locals = some ob := h
            rw [this] at h'; cases h'
          · exact absurd h.symm hDC
      · exact hvs.le f1
  have hA := codeAny_compStart_list (h0 := loop) (h := hit.self 0 _ _ _ (hit.frame _ _ _ st fun b _ o ho => k25 b o ho) loop)
  exact hA

theorem CompRes.toN {c : Ct} {σ : Sg} {μ : Mu} {ifs : List Expr} {elt : Expr} {r : Option PV} (h : CompRes c σ μ ifs elt r) : CompResN c σ μ (fun o m => o = r ∧ m = []) ifs elt := by
  cases h with
  | all h => exact .all (h.toN ⟨rfl, rfl⟩)
  | yes h1 h2 => exact .yes h1 (h2.toN ⟨rfl, rfl⟩)
  | no h => exact .no h ⟨rfl, rfl⟩

theorem Ev.comp {c : Ct} {σ : Sg} {μ : Mu} {elt target iter : Expr} {ifs : List Expr} {scope : Scope} {pos : Pos} {ds : List PV} {Km : Mu → Prop} (f : PV → Option PV)
    (hi : ItE c σ μ iter target ds Km) (hKm : Km μ)
    (body : ∀ C H d, d ∈ ds → ∃ σ'', Asg (cc c scope C H) (freeOf scope σ) μ target d σ'' ∧ CompRes (cc c scope C H) σ'' μ ifs elt (f d)) (hsz : ds.length ≤ sizeLine)
    (hkind : scope.kind = .function := by rfl) (hnd : (scope.names.map (·.1)).Nodup := by decide) (hfree : freeOk scope c.env = true := by rfl)
    (hs : ∀ x, foldedSetIterable iter c.env x = pure x := by intro _; rfl) : Ev c σ μ (.ListComp elt [⟨target, iter, ifs, 0⟩] scope pos) (.list (ds.filterMap f)) := by
  intro B s S Q E q
  rw [eval_ListComp]
  have hfr : ∀ x ∈ scope.names, x.2 = .free → ∃ a, c.env.cells.lookup x.1 = some a := fun x hx hk => by
    have := List.all_eq_true.mp hfree x hx
    rw [hk] at this
    refine S.en.bound x.1 ?_
    cases hq : c.env.kindOf x.1 with
    | none => rw [hq] at this; simp at this
    | some k => cases k <;> first | exact .inl rfl | exact .inr rfl | (rw [hq] at this; simp at this)
  refine wpAny_comprehension_free (use := Option.none) rfl hs (closureFor_eq hfr) hkind (fun x hx hl => lookup_of_mem_nodup2 hnd (by rw [← hl]; exact hx)) (comp_run (RR := fun acc C => compPost (model c.prog c.w) c.A E Option.none Q acc C) (Ψ := fun d o m => o = f d ∧ m = []) hi hKm hkind hnd hfree (fun C H d hd => let ⟨σ'', h1, h2⟩ := body C H d hd; ⟨σ'', h1, h2.toN⟩) hsz S ?_)
  intro D C B' s' m vs outs μn e hC hC' _ hm hl hout _ hv
  obtain ⟨rfl, rfl⟩ := hout.det
  refine ⟨m, hm, fun h' hs' => q _ B' _ ?_ ⟨D, vs, rfl, hl, hv⟩⟩
  have hle : Le B' h' := le_same e.inn hs' hC'
  obtain ⟨hh, tt, rfl⟩ := e.rest
  exact ⟨e.le, e.new, hle, fun b o _ eb => (hs'.2 b (fun z => by subst z; rw [hC] at eb; cases eb)).trans (e.keepE b o eb), ⟨h', tt, rfl⟩⟩

/-- an assignment whose value is a comprehension on the same line -/
theorem Ex.assignComp {c : Ct} {σ : Sg} {μ : Mu} {Φ : Post} {y : Str} {py : Pos} {spos : Pos} {elt target iter : Expr} {ifs : List Expr} {scope : Scope} {pos : Pos} {ds : List PV} {Km : Mu → Prop} (f : PV → Option PV)
    (hi : ItE c σ μ iter target ds Km) (hKm : Km μ)
    (body : ∀ C H d, d ∈ ds → ∃ σ'', Asg (cc c scope C H) (freeOf scope σ) μ target d σ'' ∧ CompRes (cc c scope C H) σ'' μ ifs elt (f d)) (hsz : ds.length ≤ sizeLine)
    (k : Φ .next (put y (.list (ds.filterMap f)) σ) μ)
    (hk : (isName (c.env.kindOf y) && c.sto y) = true := by rfl) (hkind : scope.kind = .function := by rfl) (hnd : (scope.names.map (·.1)).Nodup := by decide) (hfree : freeOk scope c.env = true := by rfl)
    (hs : ∀ x, foldedSetIterable iter c.env x = pure x := by intro _; rfl)
    (hsw : swapsWith (.ListComp elt [⟨target, iter, ifs, 0⟩] scope pos) (some (.Name y py)) spos.line c.env = pure true := by rfl) :
    Ex c σ μ (.Assign [.Name y py] (.ListComp elt [⟨target, iter, ifs, 0⟩] scope pos) spos) Φ := by
  intro B s S Q E q
  rw [exec_Assign_Name_used _ _ _ _ hsw]
  have hfr : ∀ x ∈ scope.names, x.2 = .free → ∃ a, c.env.cells.lookup x.1 = some a := fun x hx hk => by
    have := List.all_eq_true.mp hfree x hx
    rw [hk] at this
    refine S.en.bound x.1 ?_
    cases hq : c.env.kindOf x.1 with
    | none => rw [hq] at this; simp at this
    | some k => cases k <;> first | exact .inl rfl | exact .inr rfl | (rw [hq] at this; simp at this)
  refine wpAny_bind (wpAny_standAt (wpAny_bind ?_))
  show wpAny _ _ (comprehension (.ListComp elt [⟨target, iter, ifs, 0⟩] scope pos) scope c.env (firstIterPos [⟨target, iter, ifs, 0⟩] pos) (newList []) false (eval iter c.env) (some (PySem.assign (.Name y py) c.env)) >>= fun _ => pure ()) _ _ _
  refine wpAny_bind ?_
  refine wpAny_comprehension_free (use := some (PySem.assign (.Name y py) c.env)) rfl hs (closureFor_eq hfr) hkind (fun x hx hl => lookup_of_mem_nodup2 hnd (by rw [← hl]; exact hx)) (comp_run (RR := fun acc C => compPost (model c.prog c.w) c.A E (some (PySem.assign (.Name y py) c.env)) _ acc C) (Ψ := fun d o m => o = f d ∧ m = []) hi hKm hkind hnd hfree (fun C H d hd => let ⟨σ'', h1, h2⟩ := body C H d hd; ⟨σ'', h1, h2.toN⟩) hsz S ?_)
  intro D C B' s' m vs outs μn e hC hC' _ hm hl hout _ hv
  obtain ⟨rfl, rfl⟩ := hout.det
  refine wpAny_assign_Name ((S.ext e).store (Bool.and_eq_true_iff.mp hk).1 (Bool.and_eq_true_iff.mp hk).2 (d := .list (ds.filterMap f)) ⟨D, vs, rfl, hl, hv⟩ fun s'' e'' S'' => ?_)
  have hCo : ¬ Own c.sto c.env C := fun h => by
    rcases h with h | ⟨x, hx, _⟩
    · obtain ⟨_, ⟨o, _, _, ho, _⟩, _⟩ := S.en.loc
      rw [← h, hC] at ho; cases ho
    · obtain ⟨_, ⟨o, ho, _⟩, _⟩ := S.en.cel x C hx
      rw [hC] at ho; cases ho
  obtain ⟨oC, es, ep, hoC, r⟩ := hm
  refine ⟨m, ⟨oC, es, ep, e''.keep _ _ hCo hoC, r⟩, fun h' hs' => wpAny_pure (wpAny_pure ?_)⟩
  have hC'' : B'.get? C = none := hC'
  have hle : Le B' h' := le_same e''.inn hs' hC''
  have x1 : Ext (fun b => b = C) B' s'' B' { s'' with heap := h' } := Ext.heap hle (fun b o hb eb => (hs'.2 b hb).trans eb) s''.toks
  have S3 : c.St B' h' (put y (.list (ds.filterMap f)) σ) μ := by
    have := S''.wr (wr := [C]) (s' := { s'' with heap := h' }) (x1.wide fun b hb => by simp [hb]) (fun h => ?_) (fun z a ha h => ?_) (fun a mv hm h => ?_) (fun b hb => ?_)
    · exact this
    · simp only [List.mem_singleton] at h; exact hCo (.inl h.symm)
    · simp only [List.mem_singleton] at h
      subst h
      obtain ⟨_, ⟨o, ho, _⟩, _⟩ := S.en.cel z a ha
      rw [hC] at ho; cases ho
    · simp only [List.mem_singleton] at h
      subst h
      have := S.mu.val a mv hm
      have hlt : ∃ o, s.heap.get? a = some o := by
        cases mv with
        | list ds => obtain ⟨vs, n, e, r⟩ := this.2; exact ⟨_, e⟩
        | dict kvs => obtain ⟨us, ⟨o, _, _, e, _⟩, _⟩ := this.2; exact ⟨_, e⟩
      obtain ⟨o, ho⟩ := hlt
      rw [hC] at ho; cases ho
    · simp only [List.mem_singleton] at hb
      subst hb
      cases q : c.H₀.get? b with
      | none => rfl
      | some o => obtain ⟨o', ho'⟩ := S.en.pres b o q; rw [hC] at ho'; cases ho'
  refine q .next .next B' _ _ μ k rfl ?_ (Dom.refl _ _) S3
  exact (Ext.trans (M := Tch c μ) e.ofE e'' fun b h => .inl (.inl h)).trans x1 fun b h => .inr (by rw [h]; exact hC)

theorem EvN.comp {c : Ct} {σ : Sg} {μ : Mu} {elt target iter : Expr} {ifs : List Expr} {scope : Scope} {pos : Pos} {ds : List PV} {Km : Mu → Prop} {Ψ : PV → Option PV → Mu → Prop}
    (hi : ItE c σ μ iter target ds Km) (hKm : Km μ)
    (body : ∀ C H d, d ∈ ds → ∃ σ'', Asg (cc c scope C H) (freeOf scope σ) μ target d σ'' ∧ CompResN (cc c scope C H) σ'' μ (Ψ d) ifs elt) (hsz : ds.length ≤ sizeLine)
    (hkind : scope.kind = .function := by rfl) (hnd : (scope.names.map (·.1)).Nodup := by decide) (hfree : freeOk scope c.env = true := by rfl)
    (hs : ∀ x, foldedSetIterable iter c.env x = pure x := by intro _; rfl) : EvN c σ μ (.ListComp elt [⟨target, iter, ifs, 0⟩] scope pos) (fun d m => ∃ outs, d = .list outs ∧ Outs Ψ ds outs m) := by
  intro B s S Q E q
  rw [eval_ListComp]
  have hfr : ∀ x ∈ scope.names, x.2 = .free → ∃ a, c.env.cells.lookup x.1 = some a := fun x hx hk => by
    have := List.all_eq_true.mp hfree x hx
    rw [hk] at this
    refine S.en.bound x.1 ?_
    cases hq : c.env.kindOf x.1 with
    | none => rw [hq] at this; simp at this
    | some k => cases k <;> first | exact .inl rfl | exact .inr rfl | (rw [hq] at this; simp at this)
  refine wpAny_comprehension_free (use := Option.none) rfl hs (closureFor_eq hfr) hkind (fun x hx hl => lookup_of_mem_nodup2 hnd (by rw [← hl]; exact hx)) (comp_run (RR := fun acc C => compPost (model c.prog c.w) c.A E Option.none Q acc C) hi hKm hkind hnd hfree body hsz S ?_)
  intro D C B' s' m vs outs μn e hC hC' hCm hm hl hout hnew hv
  refine ⟨m, hm, fun h' hs' => q _ (.list outs) B' _ μn ⟨outs, rfl, hout⟩ ?_ ⟨fun a mv ha => ⟨(hnew.val a mv ha).1, (hnew.val a mv ha).2.1, (hnew.val a mv ha).2.2.keep (Le.refl _) fun o ho => (hs'.2 a (fun z => hCm mv (z ▸ ha))).trans ho⟩, hnew.nodup⟩ ⟨D, vs, rfl, hl, hv⟩⟩
  have hle : Le B' h' := le_same e.inn hs' hC'
  obtain ⟨hh, tt, rfl⟩ := e.rest
  exact ⟨e.le, e.new, hle, fun b o _ eb => (hs'.2 b (fun z => by subst z; rw [hC] at eb; cases eb)).trans (e.keepE b o eb), ⟨h', tt, rfl⟩⟩

section
variable {c : Ct} {σ : Sg} {μ : Mu} {Φ : Post} {Ψ : PV → Mu → Prop}
theorem EvN.ite {test body orelse : Expr} {pos : Pos} {b : Bool} (h : Tr c σ μ test b) (h1 : b = true → EvN c σ μ body Ψ) (h2 : b = false → EvN c σ μ orelse Ψ) : EvN c σ μ (.IfExp test body orelse pos) Ψ := by
  intro B s S Q E q
  have back : ∀ {B₁ : Heap} {s₁ : Shared} {e : Expr}, ExtE B s B₁ s₁ → EvN c σ μ e Ψ → wpAny (model c.prog c.w) c.A (eval e c.env) Q E s₁ := fun {B₁ s₁ e} e₁ he =>
    he B₁ s₁ (S.ext e₁) Q E fun v d B' s' μn hΨ e' hn hv => q v d B' s' μn hΨ (e₁.transE e') ⟨fun a mv ha => ⟨(e₁.gone (hn.val a mv ha).1).elim (fun z => z.elim) fun z => z, (hn.val a mv ha).2⟩, hn.nodup⟩ hv
  refine IfExp_ (h B s S _ _ fun B₁ s₁ e₁ => ?_)
  cases b with
  | true => exact back e₁ (h1 rfl)
  | false => exact back e₁ (h2 rfl)
/-- a list display as a mutable list -/
theorem EvN.list {es : List Expr} {pos : Pos} {ds : List PV} (h : Evs c σ μ pos es ds) (hz : ds.length ≤ sizeLine := by first | decide | simp [sizeLine]) : EvN c σ μ (.List es pos) (fun d m => ∃ a, d = .raw (.ref a) ∧ m = [(a, MV.list ds)]) := by
  intro B s S Q E q
  refine List_ (h B s S _ _ fun vs B₁ s₁ e₁ h₁ => wpAny_newList ?_ (by rw [h₁.length]; exact hz))
  refine q _ (.raw (.ref s₁.heap.objs.size)) B₁ _ [(s₁.heap.objs.size, MV.list ds)] ⟨_, rfl, rfl⟩ (e₁.transE (newIt e₁.inn _)) ⟨fun a mv ha => ?_, by simp⟩ rfl
  simp only [List.mem_singleton, Prod.mk.injEq] at ha
  obtain ⟨rfl, rfl⟩ := ha
  exact ⟨(e₁.gone (get_size _)).elim (fun z => z.elim) fun z => z, le_none e₁.inn (get_size _), vs, _, Heap.get?_push_size _ rfl, h₁⟩
theorem EvN.dict {pos : Pos} : EvN c σ μ (.Dict [] [] pos) (fun d m => ∃ a, d = .raw (.ref a) ∧ m = [(a, MV.dict [])]) := by
  intro B s S Q E q
  refine wpAny_Dict_empty ?_
  refine q _ (.raw (.ref s.heap.objs.size)) B _ [(s.heap.objs.size, MV.dict [])] ⟨_, rfl, rfl⟩ (newIt S.en.le _) ⟨fun a mv ha => ?_, by simp⟩ rfl
  simp only [List.mem_singleton, Prod.mk.injEq] at ha
  obtain ⟨rfl, rfl⟩ := ha
  exact ⟨get_size _, le_none S.en.le (get_size _), [], Heap.DictOf.new _, rfl, rfl⟩

/-- new mutable things join the frame's -/
theorem Sn.join {H₀ B₀ B' : Heap} {sto : Str → Bool} {env : Env} {s s' : Shared} {B : Heap} {μn : Mu} (S : Sn prog w H₀ B₀ B sto env s.heap σ μ) (S' : Sn prog w H₀ B₀ B' sto env s'.heap σ μ) (hn : NewsM prog w s B' s' μn) : Sn prog w H₀ B₀ B' sto env s'.heap σ (μ ++ μn) := by
  refine ⟨S'.en, ⟨fun a mv hm => ?_, ?_⟩, fun a mv hm => ?_, fun a mv hm x b hb => ?_⟩
  · rcases List.mem_append.mp hm with hm | hm
    · exact S'.mu.val a mv hm
    · exact (hn.val a mv hm).2
  · rw [List.map_append, List.nodup_append]
    refine ⟨S'.mu.nodup, hn.nodup, fun a ha b hb hab => ?_⟩
    obtain ⟨⟨a', mv⟩, h1, rfl⟩ := List.mem_map.mp ha
    obtain ⟨⟨b', mv'⟩, h2, rfl⟩ := List.mem_map.mp hb
    have hab' : a' = b' := hab
    subst hab'
    obtain ⟨o, ho⟩ := (S.mu.val a' mv h1).2.get
    rw [(hn.val a' mv' h2).1] at ho; cases ho
  · rcases List.mem_append.mp hm with hm | hm
    · exact S'.apL a mv hm
    · intro z
      obtain ⟨_, ⟨o, _, _, ho, _⟩, _⟩ := S.en.loc
      rw [← z, (hn.val a mv hm).1] at ho; cases ho
  · rcases List.mem_append.mp hm with hm | hm
    · exact S'.apC a mv hm x b hb
    · intro z
      obtain ⟨_, ⟨o, ho, _⟩, _⟩ := S.en.cel x b hb
      rw [← z, (hn.val a mv hm).1] at ho; cases ho
theorem Ex.assignN {x : Str} {px : Pos} {e : Expr} {pos : Pos} (h : EvN c σ μ e Ψ) (k : ∀ d μn, Ψ d μn → (∀ a mv, (a, mv) ∈ μn → c.H₀.get? a = none ∧ ∀ m, (a, m) ∉ μ) → Φ .next (put x d σ) (μ ++ μn)) (hk : (isName (c.env.kindOf x) && c.sto x) = true := by rfl)
    (hs : swapsWith e (some (.Name x px)) pos.line c.env = pure false := by rfl) : Ex c σ μ (.Assign [.Name x px] e pos) Φ := by
  intro B s S Q E q
  refine wpAny_Assign_Name (h B s S _ _ fun v d B₁ s₁ μn hΨ e₁ hn h₁ => ?_) hs
  have S₁ := S.join (S.ext e₁) hn
  refine S₁.store (Bool.and_eq_true_iff.mp hk).1 (Bool.and_eq_true_iff.mp hk).2 h₁ fun s' e' S' => ?_
  refine q .next _ B₁ s' _ _ (k d μn hΨ fun a mv hm => ?_) rfl (Ext.trans (M := Tch c μ) e₁.ofE e' fun b h => .inl (.inl h)) (fun a mv hm => ?_) S'
  · refine ⟨?_, fun m hm' => ?_⟩
    · cases q : c.H₀.get? a with
      | none => rfl
      | some o => obtain ⟨o', ho'⟩ := S.en.pres a o q; rw [(hn.val a mv hm).1] at ho'; cases ho'
    · obtain ⟨o, ho⟩ := (S.mu.val a m hm').2.get
      rw [(hn.val a mv hm).1] at ho; cases ho
  rcases List.mem_append.mp hm with hm | hm
  · exact .inl ⟨mv, hm⟩
  · exact .inr (hn.val a mv hm).1
end
end Mine

end

section
open PySem PySem.Calls PyProof.Rows
namespace Mine
variable {prog : Program} {w : World} {A : Around} {μ : Mu}

/-! ## Ints and texts -/
theorem op_addI {a b : Int} : Op2 prog w A μ (binaryOp .Add) (.int a) (.int b) (.int (a + b)) := fun B s v₁ v₂ at' ⟨t, h1⟩ ⟨u, h2⟩ => by subst h1 h2; exact Gives.ofTok at'.le ⟨_, rfl⟩ fun Q E q => add_int q
theorem op_subI {a b : Int} : Op2 prog w A μ (binaryOp .Sub) (.int a) (.int b) (.int (a - b)) := fun B s v₁ v₂ at' ⟨t, h1⟩ ⟨u, h2⟩ => by subst h1 h2; exact Gives.ofTok at'.le ⟨_, rfl⟩ fun Q E q => sub_int q
theorem op_mulI {a b : Int} (h : a.natAbs < 2 ^ 64 ∨ b.natAbs < 2 ^ 64) : Op2 prog w A μ (binaryOp .Mult) (.int a) (.int b) (.int (a * b)) := fun B s v₁ v₂ at' ⟨t, h1⟩ ⟨u, h2⟩ => by
  subst h1 h2; exact Gives.ofTok at'.le ⟨_, rfl⟩ fun Q E q => mul_int q (h.elim (fun h => .of_left (intBits_le h)) fun h => .of_right (intBits_le h))
theorem op_divI {a b : Int} (hb : b ≠ 0) (hs : b.natAbs < 1073741824) : Op2 prog w A μ (binaryOp .FloorDiv) (.int a) (.int b) (.int (a.fdiv b)) := fun B s v₁ v₂ at' ⟨t, h1⟩ ⟨u, h2⟩ => by
  subst h1 h2; exact Gives.ofTok at'.le ⟨_, rfl⟩ fun Q E q => floordiv_int hb q (Or.inl (PyProof.noPylong_small hs))
theorem op_modI {a b : Int} (hb : b ≠ 0) (hs : b.natAbs < 1073741824) : Op2 prog w A μ (binaryOp .Mod) (.int a) (.int b) (.int (a.fmod b)) := fun B s v₁ v₂ at' ⟨t, h1⟩ ⟨u, h2⟩ => by
  subst h1 h2; exact Gives.ofTok at'.le ⟨_, rfl⟩ fun Q E q => mod_int' hb q
theorem op_powI {a n : Int} (hn : 0 ≤ n) (hn2 : n ≤ 1000000) (ha : a.natAbs < 2 ^ 64) : Op2 prog w A μ (binaryOp .Pow) (.int a) (.int n) (.int (a ^ n.toNat)) := fun B s v₁ v₂ at' ⟨t, h1⟩ ⟨u, h2⟩ => by
  subst h1 h2; exact Gives.ofTok at'.le ⟨_, rfl⟩ fun Q E q => pow_int_small hn hn2 ha q
theorem op_negI {a : Int} : Op1 prog w A μ (unaryOp .USub) (.int a) (.int (-a)) := fun B s v₁ at' ⟨t, h1⟩ => by subst h1; exact Gives.ofTok at'.le ⟨_, rfl⟩ fun Q E q => neg_int q
theorem op_eqI {a b : Int} : Op2 prog w A μ (compareOp .Eq) (.int a) (.int b) (.bool (a == b)) := fun B s v₁ v₂ at' ⟨t, h1⟩ ⟨u, h2⟩ => by subst h1 h2; exact Gives.of at'.le rfl fun Q E q => eq_int q
theorem op_neI {a b : Int} : Op2 prog w A μ (compareOp .NotEq) (.int a) (.int b) (.bool (a != b)) := fun B s v₁ v₂ at' ⟨t, h1⟩ ⟨u, h2⟩ => by subst h1 h2; exact Gives.of at'.le rfl fun Q E q => ne_int q
theorem op_ltI {a b : Int} : Op2 prog w A μ (compareOp .Lt) (.int a) (.int b) (.bool (decide (a < b))) := fun B s v₁ v₂ at' ⟨t, h1⟩ ⟨u, h2⟩ => by subst h1 h2; exact Gives.of at'.le rfl fun Q E q => lt_int q
theorem op_leI {a b : Int} : Op2 prog w A μ (compareOp .LtE) (.int a) (.int b) (.bool (decide (a ≤ b))) := fun B s v₁ v₂ at' ⟨t, h1⟩ ⟨u, h2⟩ => by subst h1 h2; exact Gives.of at'.le rfl fun Q E q => le_int q
theorem op_gtI {a b : Int} : Op2 prog w A μ (compareOp .Gt) (.int a) (.int b) (.bool (decide (b < a))) := fun B s v₁ v₂ at' ⟨t, h1⟩ ⟨u, h2⟩ => by subst h1 h2; exact Gives.of at'.le rfl fun Q E q => gt_int q
theorem op_geI {a b : Int} : Op2 prog w A μ (compareOp .GtE) (.int a) (.int b) (.bool (decide (b ≤ a))) := fun B s v₁ v₂ at' ⟨t, h1⟩ ⟨u, h2⟩ => by subst h1 h2; exact Gives.of at'.le rfl fun Q E q => ge_int q
theorem op_eqS {a b : Str} : Op2 prog w A μ (compareOp .Eq) (.str a) (.str b) (.bool (a == b)) := fun B s v₁ v₂ at' ⟨t, h1⟩ ⟨u, h2⟩ => by subst h1 h2; exact Gives.of at'.le rfl fun Q E q => eq_str q
theorem op_neS {a b : Str} : Op2 prog w A μ (compareOp .NotEq) (.str a) (.str b) (.bool (a != b)) := fun B s v₁ v₂ at' ⟨t, h1⟩ ⟨u, h2⟩ => by subst h1 h2; exact Gives.of at'.le rfl fun Q E q => ne_str q

/-! ## Lists: either make -/
inductive IsL (μ : Mu) : PV → List PV → Prop where
  | fr {ds : List PV} : IsL μ (.list ds) ds
  | mu {a : Addr} {ds : List PV} : (a, MV.list ds) ∈ μ → IsL μ (.raw (.ref a)) ds
theorem IsL.get {d : PV} {ds : List PV} (h : IsL μ d ds) {B : Heap} {s : Shared} {v : Value} (x : At prog w B s μ) (hv : Val B d v) : ∃ a vs, v = .ref a ∧ s.heap.IsList a (List.toArray vs) ∧ Vals B ds vs := by
  cases h with
  | fr => obtain ⟨a, vs, rfl, hl, hvs⟩ := hv; exact ⟨a, vs, rfl, IsList.le x.le hl, hvs⟩
  | mu hm => cases hv; obtain ⟨vs, h1, h2⟩ := (x.mu.val _ _ hm).2.isList; exact ⟨_, vs, rfl, h1, h2⟩

theorem sp_len {B₀ : Heap} {d : PV} {ds : List PV} (h : IsL μ d ds) (hz : ds.length ≤ sizeLine) : Sp prog w B₀ A μ (.builtin "len") [d] (.int ds.length) := by
  intro B s vs _ at' hv
  obtain ⟨v, _, rfl, h1, rfl⟩ := hv
  obtain ⟨a, us, rfl, hl, hus⟩ := h.get at' h1
  refine Gives.ofTok (n := s.toks + 1 + 1) (v := .int us.toArray.size (s.toks + 1)) at'.le ⟨_, by rw [List.size_toArray, hus.length]⟩ fun Q E q => len_list hl ?_ q
  rw [List.size_toArray, hus.length]
  have : sizeLine = 2 ^ 24 := rfl
  omega
theorem th_list {d : PV} {ds : List PV} (h : IsL μ d ds) (hz : ds.length ≤ sizeLine) : Th prog w A μ d (!ds.isEmpty) := by
  intro B s v at' hv Q E q
  obtain ⟨a, us, rfl, hl, hus⟩ := h.get at' hv
  refine wpAny_truthy_list hl (by rw [List.size_toArray, hus.length]; have : sizeLine = 2 ^ 24 := rfl; omega) ?_
  have : us.toArray.isEmpty = ds.isEmpty := by
    have h9 := hus.length
    cases us with
    | nil => cases ds with
      | nil => rfl
      | cons => simp at h9
    | cons => cases ds with
      | nil => simp at h9
      | cons => rfl
  rw [this]
  exact q B _ (Ext.tok at'.le _)
theorem th_bool {b : Bool} : Th prog w A μ (.bool b) b := fun B s v at' hv => by cases hv; exact GivesB.bool at'.le

/-- an item -/
def pget (ds : List PV) (i : Int) : Option PV := if 0 ≤ i then ds[i.toNat]? else if -(ds.length : Int) ≤ i then ds[(i + ds.length).toNat]? else none
theorem gives_item {d : PV} {ds : List PV} {i : Int} {x : PV} (h : IsL μ d ds) (hx : pget ds i = some x) (hz : ds.length ≤ sizeLine) {value slice : Expr} {B : Heap} {s : Shared} {v₁ v₂ : Value} (at' : At prog w B s μ) (h₁ : Val B d v₁) (h₂ : Val B (.int i) v₂)
    (hs : ∀ o j u, subscripted slice false (.ref o) (.int j u) = operate [.ref o, .int j u] (getItem (.ref o) (.int j u))) : Gives prog w A B s (subscriptTail value slice v₁ v₂) x := by
  obtain ⟨t, rfl⟩ := h₂
  obtain ⟨a, us, rfl, hl, hus⟩ := h.get at' h₁
  have hsz : sizeLine = 2 ^ 24 := rfl
  have hlen := hus.length
  unfold pget at hx
  intro Q E q
  refine tail_any hl.typeIs slot_list_getitem.lookup ?_ (hs _ _ _)
  split at hx
  · rename_i h0
    obtain ⟨v, hv1, hv2⟩ := hus.get hx
    have hlt : i.toNat < ds.length := (List.getElem?_eq_some_iff.mp hx).1
    exact wpAny_getItem_list hl h0 (by omega) (by simpa using hv1) (q v B s (Ext.refl at'.le) hv2)
  · split at hx
    · rename_i h0 h1
      obtain ⟨v, hv1, hv2⟩ := hus.get hx
      exact wpAny_getItem_list_neg hl (by omega) (by rw [List.size_toArray, hlen]; exact h1) (by omega) (by rw [List.size_toArray, hlen]; simpa using hv1) (q v B s (Ext.refl at'.le) hv2)
    · cases hx
theorem gives_itemT {ds : List PV} {i : Int} {x : PV} (hx : pget ds i = some x) (hz : ds.length ≤ sizeLine) {value slice : Expr} {B : Heap} {s : Shared} {v₁ v₂ : Value} (at' : At prog w B s μ) (h₁ : Val B (.tuple ds) v₁) (h₂ : Val B (.int i) v₂)
    (hs : ∀ o j u, subscripted slice false (.ref o) (.int j u) = operate [.ref o, .int j u] (getItem (.ref o) (.int j u))) : Gives prog w A B s (subscriptTail value slice v₁ v₂) x := by
  obtain ⟨t, rfl⟩ := h₂
  obtain ⟨a, us, rfl, ht, hus⟩ := h₁
  have ht' : IsTup s.heap a us.toArray := IsTuple.le at'.le ht
  have hsz : sizeLine = 2 ^ 24 := rfl
  have hlen := hus.length
  unfold pget at hx
  intro Q E q
  refine tail_any ht'.typeIs slot_tuple_getitem.lookup ?_ (hs _ _ _)
  split at hx
  · rename_i h0
    obtain ⟨v, hv1, hv2⟩ := hus.get hx
    have hlt : i.toNat < ds.length := (List.getElem?_eq_some_iff.mp hx).1
    exact PyProof.Rows.getItem_tuple ht' (by omega) (by omega) (j := i.toNat) (by rw [List.size_toArray, hlen]; exact seqIndex_of h0 (by omega)) (by simpa using hv1) (q v B s (Ext.refl at'.le) hv2)
  · split at hx
    · rename_i h0 h1
      obtain ⟨v, hv1, hv2⟩ := hus.get hx
      exact PyProof.Rows.getItem_tuple ht' (by omega) (by omega) (j := (i + ds.length).toNat) (by rw [List.size_toArray, hlen]; exact seqIndex_neg (by omega) h1) (by simpa using hv1) (q v B s (Ext.refl at'.le) hv2)
    · cases hx

section
variable {c : Ct} {σ : Sg}
theorem Ev.sub {value slice : Expr} {pos : Pos} {d₁ d₂ d : PV} (h1 : Ev c σ μ value d₁) (h2 : Ev c σ μ slice d₂)
    (op : ∀ B s v₁ v₂, At c.prog c.w B s μ → Val B d₁ v₁ → Val B d₂ v₂ → Gives c.prog c.w c.A B s (subscriptTail value slice v₁ v₂) d) : Ev c σ μ (.Subscript value slice pos) d := by
  intro B s S Q E q
  refine Subscript_ (h1 B s S _ _ fun v₁ B₁ s₁ e₁ hv₁ => h2 B₁ s₁ (S.ext e₁) _ _ fun v₂ B₂ s₂ e₂ hv₂ => ?_)
  exact (op B₂ s₂ v₁ v₂ ((S.ext e₁).ext e₂).at (hv₁.le e₂.le) hv₂).mono (e₁.transE e₂) q
theorem Ev.item {value slice : Expr} {pos : Pos} {d x : PV} {ds : List PV} {i : Int} (h1 : Ev c σ μ value d) (h2 : Ev c σ μ slice (.int i)) (hL : IsL μ d ds) (hx : pget ds i = some x) (hz : ds.length ≤ sizeLine)
    (hs : ∀ o j u, subscripted slice false (.ref o) (.int j u) = operate [.ref o, .int j u] (getItem (.ref o) (.int j u)) := by intro _ _ _; rfl) : Ev c σ μ (.Subscript value slice pos) x :=
  Ev.sub h1 h2 fun B s v₁ v₂ at' hv₁ hv₂ => gives_item hL hx hz at' hv₁ hv₂ hs
theorem Ev.itemT {value slice : Expr} {pos : Pos} {x : PV} {ds : List PV} {i : Int} (h1 : Ev c σ μ value (.tuple ds)) (h2 : Ev c σ μ slice (.int i)) (hx : pget ds i = some x) (hz : ds.length ≤ sizeLine := by first | decide | simp [sizeLine])
    (hs : ∀ o j u, subscripted slice false (.ref o) (.int j u) = operate [.ref o, .int j u] (getItem (.ref o) (.int j u)) := by intro _ _ _; rfl) : Ev c σ μ (.Subscript value slice pos) x :=
  Ev.sub h1 h2 fun B s v₁ v₂ at' hv₁ hv₂ => gives_itemT hx hz at' hv₁ hv₂ hs

/-! ## Slices -/
def pslice {α : Type} (ds : List α) (lo hi : Option Int) : List α :=
  (ds.drop (sliceBounds lo hi none ds.length).1.toNat).take ((sliceBounds lo hi none ds.length).2.1.toNat - (sliceBounds lo hi none ds.length).1.toNat)
theorem bounds_ok (lo hi : Option Int) (n : Nat) : 0 ≤ (sliceBounds lo hi none n).1 ∧ 0 ≤ (sliceBounds lo hi none n).2.1 ∧ (sliceBounds lo hi none n).2.2 = 1 := by
  unfold sliceBounds
  simp only [Option.getD_none]
  refine ⟨?_, ?_, ?_⟩
  · cases lo <;> simp <;> omega
  · cases hi <;> simp <;> omega
  · simp
theorem slicePick_is (items : List Value) (lo hi : Option Int) : slicePick items.toArray lo hi none = (pslice items lo hi).toArray := by
  obtain ⟨h1, h2, h3⟩ := bounds_ok lo hi items.length
  unfold slicePick pslice
  simp only [List.size_toArray]
  rw [h3]
  obtain ⟨a, ha⟩ := Int.eq_ofNat_of_zero_le h1
  obtain ⟨b, hb⟩ := Int.eq_ofNat_of_zero_le h2
  rw [ha, hb, sliceRange_one, pick_run]
  simp
theorem Vals.pslice {B : Heap} {ds : List PV} {vs : List Value} (h : Vals B ds vs) (lo hi : Option Int) : Vals B (Mine.pslice ds lo hi) (Mine.pslice vs lo hi) := by
  unfold Mine.pslice
  rw [h.length]
  exact (h.drop _).take _

def EvOpt (c : Ct) (σ : Sg) (μ : Mu) : Option Expr → Option Int → Prop
  | none, o => o = none
  | some e, o => ∃ i, o = some i ∧ Ev c σ μ e (.int i)
theorem EvOpt.run {e : Option Expr} {o : Option Int} (h : EvOpt c σ μ e o) {B : Heap} {s : Shared} (S : c.St B s.heap σ μ) {Q : Value → Shared → Prop} {E : Value → Shared → Prop} (q : ∀ v B' s', ExtE B s B' s' → IsPart v o → Q v s') :
    wpAny (model c.prog c.w) c.A (evalPart e c.env) Q E s := by
  cases e with
  | none => cases h; exact wpAny_pure (q _ B s (Ext.refl S.en.le) .none)
  | some e =>
    obtain ⟨i, rfl, h⟩ := h
    refine h B s S _ _ fun v B' s' x hv => ?_
    obtain ⟨t, rfl⟩ := hv
    exact q _ B' s' x (.int i t)
theorem Ev.slice {value : Expr} {lower upper : Option Expr} {p pos : Pos} {d : PV} {ds : List PV} {lo hi : Option Int} (h1 : Ev c σ μ value d) (hL : IsL μ d ds) (hl : EvOpt c σ μ lower lo) (hu : EvOpt c σ μ upper hi) (hz : ds.length ≤ sizeLine) :
    Ev c σ μ (.Subscript value (Expr.Slice lower upper Option.none p) pos) (.list (pslice ds lo hi)) := by
  intro B s S Q E q
  refine Subscript_ (h1 B s S _ _ fun v₁ B₁ s₁ e₁ hv₁ => wpAny_Slice (hl.run (S.ext e₁) fun vl B₂ s₂ e₂ pl => hu.run ((S.ext e₁).ext e₂) fun vu B₃ s₃ e₃ pu => wpAny_pure ?_))
  have S₃ := ((S.ext e₁).ext e₂).ext e₃
  have e03 := (e₁.transE e₂).transE e₃
  obtain ⟨a, us, rfl, hla, hus⟩ := hL.get S₃.at ((hv₁.le e₂.le).le e₃.le)
  refine tail_any (ops := [.ref s₃.heap.objs.size, .ref a]) (hla.push _).typeIs slot_list_getitem.lookup ?_ rfl
  refine wpAny_getItem_list_slice (hla.push _) (Heap.IsSliceOf.new ..) pl pu .none (by simp) ?_ (by rw [List.size_toArray, hus.length]; exact hz)
  have e4 := newIt S₃.en.le { cls := .type "slice", data := .fields #[vl, vu, .none] }
  obtain ⟨B', e5, hg⟩ := ext_push (s := { s₃ with heap := s₃.heap.push { cls := .type "slice", data := .fields #[vl, vu, .none] } }) e4.inn { cls := .type "list", data := .seq (slicePick us.toArray lo hi Option.none) }
  refine q _ B' _ ((e03.transE e4).transE e5) ⟨_, pslice us lo hi, rfl, ⟨_, hg, rfl, _, by rw [slicePick_is]⟩, (hus.le e5.le).pslice lo hi⟩
end

/-! ## Two lists -/
theorem op_addL {d₁ d₂ : PV} {xs ys : List PV} (h1 : IsL μ d₁ xs) (h2 : IsL μ d₂ ys) (hz : xs.length + ys.length ≤ sizeLine) : Op2 prog w A μ (binaryOp .Add) d₁ d₂ (.list (xs ++ ys)) := by
  intro B s v₁ v₂ at' hv₁ hv₂ Q E q
  obtain ⟨a, us, rfl, hl, hus⟩ := h1.get at' hv₁
  obtain ⟨b, ws, rfl, hl', hws⟩ := h2.get at' hv₂
  obtain ⟨⟨cls, dd, data, sl⟩, ho, hc, n, hd⟩ := id hl
  obtain ⟨⟨cls2, dd2, data2, sl2⟩, ho2, hc2, n2, hd2⟩ := id hl'
  simp only at hc hd hc2 hd2
  subst hc hd hc2 hd2
  have e : us.toArray ++ ws.toArray = (us ++ ws).toArray := by simp
  refine concat_meets ⟨_, ho, rfl⟩ ⟨_, ho2, rfl⟩ noFill_list_add seq_list_add PySem.F.slot_list_add PySem.F.entry_list_add (PySem.F.args_list_add_2 _ _) (list_addW a b us.toArray ws.toArray n n2 dd dd2 sl sl2 (by simp only [List.size_toArray, hus.length, hws.length]; exact hz)) ⟨ho, ho2, ?_⟩
  rw [e]
  obtain ⟨B', e5, hg⟩ := ext_push at'.le { cls := .type "list", data := .seq (us ++ ws).toArray }
  exact q _ B' _ e5 ⟨_, us ++ ws, rfl, ⟨_, hg, rfl, _, rfl⟩, (hus.append hws).le e5.le⟩

/-! ## Equality, membership -/
open PySem.SeqAt PySem.MeetsSeq
def pdepL (f : PV → Nat) : List PV → Nat
  | [] => 0
  | d :: r => max (f d) (pdepL f r)
mutual
def peq : PV → PV → Bool
  | .int a, .int b => a == b
  | .str a, .str b => a == b
  | .list xs, .list ys => peqs xs ys
  | .tuple xs, .tuple ys => peqs xs ys
  | _, _ => false
def peqs : List PV → List PV → Bool
  | [], [] => true
  | x :: xs, y :: ys => peq x y && peqs xs ys
  | _, _ => false
end
mutual
def cmpok : PV → PV → Bool
  | .int _, .int _ => true
  | .str _, .str _ => true
  | .list xs, .list ys => cmpoks xs ys
  | .tuple xs, .tuple ys => cmpoks xs ys
  | _, _ => false
def cmpoks : List PV → List PV → Bool
  | x :: xs, y :: ys => cmpok x y && cmpoks xs ys
  | _, _ => true
end
mutual
def pdep : PV → Nat
  | .list xs => 1 + pdeps xs
  | .tuple xs => 1 + pdeps xs
  | _ => 0
def pdeps : List PV → Nat
  | [] => 0
  | x :: xs => max (pdep x) (pdeps xs)
end
theorem pdeps_get : ∀ {xs : List PV} {i : Nat} {d : PV}, xs[i]? = some d → pdep d ≤ pdeps xs
  | [], _, _, h => by simp at h
  | x :: xs, 0, d, h => by simp at h; subst h; unfold pdeps; exact Nat.le_max_left _ _
  | x :: xs, i + 1, d, h => by simp at h; unfold pdeps; exact Nat.le_trans (pdeps_get h) (Nat.le_max_right _ _)
theorem cmpoks_get : ∀ {xs ys : List PV} {i : Nat} {d e : PV}, cmpoks xs ys = true → xs[i]? = some d → ys[i]? = some e → cmpok d e = true
  | [], _, _, _, _, _, h, _ => by simp at h
  | _ :: _, [], _, _, _, _, _, h => by simp at h
  | x :: xs, y :: ys, 0, d, e, hc, h, h' => by simp at h h'; subst h h'; unfold cmpoks at hc; exact (Bool.and_eq_true_iff.mp hc).1
  | x :: xs, y :: ys, i + 1, d, e, hc, h, h' => by simp at h h'; unfold cmpoks at hc; exact cmpoks_get (Bool.and_eq_true_iff.mp hc).2 h h'
theorem all_range {e : Nat → Bool} : ∀ {xs ys : List PV}, xs.length = ys.length → (∀ j d d', xs[j]? = some d → ys[j]? = some d' → e j = peq d d') → (List.range xs.length).all e = peqs xs ys
  | [], [], _, _ => rfl
  | [], _ :: _, h, _ => by simp at h
  | _ :: _, [], h, _ => by simp at h
  | x :: xs, y :: ys, h, he => by
    rw [List.length_cons, List.range_succ_eq_map, List.all_cons, List.all_map]
    unfold peqs
    rw [he 0 x y rfl rfl]
    congr 1
    exact all_range (e := e ∘ Nat.succ) (by simpa using h) fun j d d' h1 h2 => he (j + 1) d d' (by simpa using h1) (by simpa using h2)
theorem peqs_len : ∀ {xs ys : List PV}, xs.length ≠ ys.length → peqs xs ys = false
  | [], [], h => absurd rfl h
  | [], _ :: _, _ => by simp [peqs]
  | _ :: _, [], _ => by simp [peqs]
  | x :: xs, y :: ys, h => by unfold peqs; rw [peqs_len (by simpa using h), Bool.and_false]

mutual
theorem peq_refl : ∀ d : PV, cmpok d d = true → peq d d = true
  | .int a, _ => by simp [peq]
  | .str a, _ => by simp [peq]
  | .list xs, h => by unfold peq; unfold cmpok at h; exact peqs_refl xs h
  | .tuple xs, h => by unfold peq; unfold cmpok at h; exact peqs_refl xs h
  | .none, h => by simp [cmpok] at h
  | .bool _, h => by simp [cmpok] at h
  | .raw _, h => by simp [cmpok] at h
  | .range _ _ _, h => by simp [cmpok] at h
theorem peqs_refl : ∀ xs : List PV, cmpoks xs xs = true → peqs xs xs = true
  | [], _ => by simp [peqs]
  | x :: xs, h => by unfold cmpoks at h; obtain ⟨h1, h2⟩ := Bool.and_eq_true_iff.mp h; unfold peqs; rw [peq_refl x h1, peqs_refl xs h2]; rfl
end
/-- one value, two data that may be compared: one datum, as far as == goes -/
theorem val_peq {B : Heap} : ∀ (n : Nat) {d d' : PV} {v : Value}, pdep d ≤ n → cmpok d d' = true → Val B d v → Val B d' v → peq d d' = true := by
  intro n
  induction n with
  | zero =>
    intro d d' v hn hc h h'
    cases d <;> cases d' <;> simp [cmpok] at hc <;> simp [pdep] at hn
    · obtain ⟨t, rfl⟩ := h; obtain ⟨u, h'⟩ := h'; cases h'; simp [peq]
    · obtain ⟨t, rfl⟩ := h; obtain ⟨u, h'⟩ := h'; cases h'; simp [peq]
  | succ n ih =>
    have lists : ∀ {xs ys : List PV} {vs : List Value}, pdeps xs ≤ n → cmpoks xs ys = true → Vals B xs vs → Vals B ys vs → peqs xs ys = true := by
      intro xs
      induction xs with
      | nil => intro ys vs _ _ h h'; cases h; cases ys with
        | nil => simp [peqs]
        | cons => obtain ⟨_, _, h, _⟩ := h'; cases h
      | cons x xs ihx => intro ys vs hn hc h h'; obtain ⟨v, r, rfl, h1, h2⟩ := h; cases ys with
        | nil => cases h'
        | cons y ys =>
          obtain ⟨v', r', he, h1', h2'⟩ := h'
          cases he
          unfold cmpoks at hc
          obtain ⟨c1, c2⟩ := Bool.and_eq_true_iff.mp hc
          unfold pdeps at hn
          unfold peqs
          rw [ih (Nat.le_trans (Nat.le_max_left _ _) hn) c1 h1 h1', ihx (Nat.le_trans (Nat.le_max_right _ _) hn) c2 h2 h2']
          rfl
    intro d d' v hn hc h h'
    cases d <;> cases d' <;> simp only [cmpok] at hc <;> try (cases hc; done)
    · obtain ⟨t, rfl⟩ := h; obtain ⟨u, h'⟩ := h'; cases h'; simp [peq]
    · obtain ⟨t, rfl⟩ := h; obtain ⟨u, h'⟩ := h'; cases h'; simp [peq]
    · obtain ⟨a, vs, rfl, ht, hvs⟩ := h
      obtain ⟨a', vs', he, ht', hvs'⟩ := h'
      cases he
      obtain ⟨o, ho, _, k, hk⟩ := ht
      obtain ⟨o', ho', _, k', hk'⟩ := ht'
      rw [ho] at ho'; cases ho'; rw [hk] at hk'
      have : vs = vs' := by injection hk' with h1; exact congrArg Array.toList h1
      subst this
      unfold peq; exact lists (by simp only [pdep] at hn; omega) hc hvs hvs'
    · obtain ⟨a, vs, rfl, ht, hvs⟩ := h
      obtain ⟨a', vs', he, ht', hvs'⟩ := h'
      cases he
      obtain ⟨o, ho, _, k, hk⟩ := ht
      obtain ⟨o', ho', _, k', hk'⟩ := ht'
      rw [ho] at ho'; cases ho'; rw [hk] at hk'
      have : vs = vs' := by injection hk' with h1; exact congrArg Array.toList h1
      subst this
      unfold peq; exact lists (by simp only [pdep] at hn; omega) hc hvs hvs'

theorem eqAt_int {s : Shared} {a b : Int} {t u : Tok} : EqAt A s (.int a t) (.int b u) (a == b) := fun prog w E Q q => wpAny_eqBool_int q
theorem eqAt_str {s : Shared} {a b : Str} {t u : Tok} : EqAt A s (.str a t) (.str b u) (a == b) := fun prog w E Q q => wpAny_eqBool_str (by
  have : decide (a = b) = (a == b) := by by_cases h : a = b <;> simp [h]
  rw [this]; exact q)
theorem eqAt_deep {B : Heap} {s : Shared} (hle : Le B s.heap) : ∀ (n : Nat) {A : Around} {d d' : PV} {v v' : Value}, pdep d ≤ n → cmpok d d' = true → A.units + n < cLine → Val B d v → Val B d' v' → EqAt A s v v' (peq d d') := by
  intro n
  induction n with
  | zero =>
    intro A d d' v v' hn hc hu h h'
    cases d <;> cases d' <;> simp [cmpok] at hc <;> simp [pdep] at hn
    · obtain ⟨t, rfl⟩ := h; obtain ⟨u, rfl⟩ := h'; unfold peq; exact eqAt_int
    · obtain ⟨t, rfl⟩ := h; obtain ⟨u, rfl⟩ := h'; unfold peq; exact eqAt_str
  | succ n ih =>
    have item : ∀ {A : Around} {xs ys : List PV} {vs us : List Value}, A.units + n < cLine → pdeps xs ≤ n → cmpoks xs ys = true → Vals B xs vs → Vals B ys us → ∃ e : Nat → Bool, (∀ j (h1 : j < vs.toArray.size) (h2 : j < us.toArray.size), EqAt A s vs.toArray[j] us.toArray[j] (e j)) ∧ (∀ j d d', xs[j]? = some d → ys[j]? = some d' → e j = peq d d') := by
      intro A xs ys vs us hu hn hc hv hus
      refine ⟨fun j => match xs[j]?, ys[j]? with | some d, some d' => peq d d' | _, _ => false, fun j h1 h2 => ?_, fun j d d' h1 h2 => by simp [h1, h2]⟩
      simp only [List.size_toArray] at h1 h2
      obtain ⟨d, hd, hd'⟩ := hv.get' (List.getElem?_eq_getElem h1)
      obtain ⟨e, he, he'⟩ := hus.get' (List.getElem?_eq_getElem h2)
      simp only [hd, he, List.getElem_toArray]
      exact ih (Nat.le_trans (pdeps_get hd) hn) (cmpoks_get hc hd he) hu hd' he'
    intro A d d' v v' hn hc hu h h'
    have hsame : v = v' → EqAt A s v v' (peq d d') := fun hvv => by
      subst hvv
      rw [val_peq (n + 1) hn hc h h']
      exact EqAt.same v
    have hu1 : A.units < cLine := by omega
    have hu2 : A.in1.units + n < cLine := by show A.units + 1 + n < cLine; omega
    cases d <;> cases d' <;> simp only [cmpok] at hc <;> try (cases hc; done)
    · obtain ⟨t, rfl⟩ := h; obtain ⟨u, rfl⟩ := h'; unfold peq; exact eqAt_int
    · obtain ⟨t, rfl⟩ := h; obtain ⟨u, rfl⟩ := h'; unfold peq; exact eqAt_str
    · rename_i xs ys
      obtain ⟨a, vs, rfl, ht, hvs⟩ := h
      obtain ⟨b, us, rfl, ht', hus⟩ := h'
      by_cases hab : a = b
      · exact hsame (by rw [hab])
      · have hn' : pdeps xs ≤ n := by simp only [pdep] at hn; omega
        obtain ⟨e, he, he'⟩ := item hu2 hn' hc hvs hus
        have := RcAt.tuples (A := A) (e := e) (IsTuple.le hle ht) (IsTuple.le hle ht') hu1 he
        unfold peq
        refine EqAt.of_refs hab ?_
        simp only [List.size_toArray, hvs.length, hus.length] at this
        by_cases hl : xs.length = ys.length
        · rw [← hl, Nat.min_self, all_range hl he'] at this
          simpa using this
        · rw [peqs_len hl]
          have hb : (xs.length == ys.length) = false := by simpa using hl
          rw [hb, Bool.and_false] at this
          exact this
    · rename_i xs ys
      obtain ⟨a, vs, rfl, ht, hvs⟩ := h
      obtain ⟨b, us, rfl, ht', hus⟩ := h'
      by_cases hab : a = b
      · exact hsame (by rw [hab])
      · have hn' : pdeps xs ≤ n := by simp only [pdep] at hn; omega
        unfold peq
        refine EqAt.of_refs hab ?_
        by_cases hl : xs.length = ys.length
        · obtain ⟨e, he, he'⟩ := item hu2 hn' hc hvs hus
          have := RcAt.lists (A := A) (e := e) (IsList.le hle ht) (IsList.le hle ht') (by simp [hvs.length, hus.length, hl]) hu1 he
          rw [List.size_toArray, hvs.length, all_range hl he'] at this
          exact this
        · rw [peqs_len hl]
          exact RcAt.lists_lengths (IsList.le hle ht) (IsList.le hle ht') (by simp [hvs.length, hus.length, hl]) hu1
end Mine

end

section
open PySem PySem.Calls PyProof.Rows
namespace Mine
variable {prog : Program} {w : World} {A : Around} {μ : Mu}

/-! ## range -/
theorem ext_pushT {B : Heap} {s : Shared} (h : Le B s.heap) (o : Obj) (t : Nat) (hf : o.isFreed = false := by rfl) :
    ∃ B', ExtE B s B' { s with heap := s.heap.push o, toks := t } ∧ B'.get? s.heap.objs.size = some o := by
  obtain ⟨B', e, hg⟩ := ext_push h o hf
  exact ⟨B', e.transE (Ext.tok e.inn t), hg⟩
theorem sp_range1 {B₀ : Heap} {n : Int} : Sp prog w B₀ A μ (.type "range") [.int n] (.range 0 n 1) := by
  intro B s vs _ at' hv Q E q
  obtain ⟨v, _, rfl, ⟨t, rfl⟩, rfl⟩ := hv
  refine call_range_1 ?_
  obtain ⟨B', e, hg⟩ := ext_pushT at'.le { cls := .type "range", data := .fields #[.int 0 s.toks, .int n t, .int 1 (s.toks + 1)] } (s.toks + 1 + 1)
  exact q _ B' _ e ⟨_, _, _, _, rfl, hg⟩
theorem sp_range3 {B₀ : Heap} {a b c : Int} (hc : c ≠ 0) (hs : c.natAbs < 1073741824) : Sp prog w B₀ A μ (.type "range") [.int a, .int b, .int c] (.range a b c) := by
  intro B s vs _ at' hv Q E q
  obtain ⟨v, _, rfl, ⟨t, rfl⟩, v2, _, rfl, ⟨u, rfl⟩, v3, _, rfl, ⟨y, rfl⟩, rfl⟩ := hv
  refine call_range_3 hc ?_ (Or.inl (PyProof.noPylong_small hs))
  obtain ⟨B', e, hg⟩ := ext_pushT at'.le { cls := .type "range", data := .fields #[.int a t, .int b u, .int c y] } s.toks
  exact q _ B' _ e ⟨_, _, _, _, rfl, hg⟩
theorem small_of {a b c : Int} (h1 : a.natAbs < 2 ^ 40) (h2 : b.natAbs < 2 ^ 40) (h3 : c = 1 ∨ c = -1) : Builtin.Range.small a b c = true := by
  unfold Builtin.Range.small Builtin.Range.rangeFitsLong Builtin.Range.rangeSize
  rcases h3 with rfl | rfl
  · simp only [show (1 : Int) > 0 by decide, if_true, Int.ediv_one]
    split <;> simp <;> omega
  · simp only [show ¬ (-1 : Int) > 0 by decide, if_false, Int.neg_neg, Int.ediv_one]
    split <;> simp <;> omega
theorem rangeList_up (n : Nat) : rangeList 0 (n : Int) 1 = (List.range n).map fun (i : Nat) => PV.int (i : Int) := by
  have : Builtin.Range.rangeSize 0 (n : Int) 1 = (n : Int) := by
    unfold Builtin.Range.rangeSize
    simp only [show (1 : Int) > 0 by decide, if_true, Int.ediv_one]
    split <;> omega
  unfold rangeList
  rw [this]
  simp
theorem rangeList_down (n : Nat) : rangeList ((n : Int) - 1) (-1) (-1) = (List.range n).map fun (i : Nat) => PV.int ((n : Int) - 1 - (i : Int)) := by
  have : Builtin.Range.rangeSize ((n : Int) - 1) (-1) (-1) = (n : Int) := by
    unfold Builtin.Range.rangeSize
    simp only [show ¬ (-1 : Int) > 0 by decide, if_false, Int.neg_neg, Int.ediv_one]
    split <;> omega
  unfold rangeList
  rw [this]
  simp only [Int.toNat_natCast]
  apply List.map_congr_left
  intro i _
  have : (n : Int) - 1 + (i : Int) * -1 = (n : Int) - 1 - (i : Int) := by omega
  rw [this]

/-! ## Turning a mutable thing -/
def mset (a : Addr) (mv : MV) (μ : Mu) : Mu := μ.map fun p => if p.1 = a then (a, mv) else p
theorem mset_fst (a : Addr) (mv : MV) (μ : Mu) : (mset a mv μ).map (·.1) = μ.map (·.1) := by
  unfold mset
  rw [List.map_map]
  apply List.map_congr_left
  intro p _
  show (if p.1 = a then (a, mv) else p).1 = p.1
  split
  · rename_i h; exact h.symm
  · rfl
theorem mem_mset {a b : Addr} {mv mv' : MV} {μ : Mu} (h : (b, mv') ∈ mset a mv μ) : (b = a ∧ mv' = mv ∧ ∃ m, (a, m) ∈ μ) ∨ (b ≠ a ∧ (b, mv') ∈ μ) := by
  obtain ⟨⟨c, m⟩, hm, he⟩ := List.mem_map.mp h
  by_cases hc : c = a
  · rw [if_pos hc] at he; cases he; exact .inl ⟨rfl, rfl, m, hc ▸ hm⟩
  · rw [if_neg hc] at he; cases he; exact .inr ⟨hc, hm⟩
theorem mset_self {a : Addr} {mv m : MV} {μ : Mu} (h : (a, m) ∈ μ) : (a, mv) ∈ mset a mv μ := List.mem_map.mpr ⟨(a, m), h, by simp⟩
theorem mset_other {a b : Addr} {mv m : MV} {μ : Mu} (h : (b, m) ∈ μ) (hb : b ≠ a) : (b, m) ∈ mset a mv μ := List.mem_map.mpr ⟨(b, m), h, by simp [hb]⟩
theorem mset_inv {a b : Addr} {mv m : MV} {μ : Mu} (h : (b, m) ∈ mset a mv μ) (hb : b ≠ a) : (b, m) ∈ μ := (mem_mset h).elim (fun q => absurd q.1 hb) fun q => q.2

section
variable {c : Ct} {σ : Sg} {Φ : Post}
theorem nodup_val {μ : Mu} {a : Addr} {m m' : MV} (hn : (μ.map (·.1)).Nodup) (h : (a, m) ∈ μ) (h' : (a, m') ∈ μ) : m = m' := by
  induction μ with
  | nil => simp at h
  | cons p r ih =>
    obtain ⟨h1, h2⟩ := List.nodup_cons.mp hn
    rcases List.mem_cons.mp h with e | h <;> rcases List.mem_cons.mp h' with e' | h'
    · rw [← e'] at e; exact (Prod.mk.inj e).2
    · exact absurd (List.mem_map_of_mem (f := (·.1)) h') (by subst e; exact h1)
    · exact absurd (List.mem_map_of_mem (f := (·.1)) h) (by subst e'; exact h1)
    · exact ih h2 h h'
/-- a mutable thing was turned -/
theorem St.turn {B : Heap} {s : Shared} {h' : Heap} {t : Nat} {a : Addr} {m mv : MV} (S : c.St B s.heap σ μ) (hm : (a, m) ∈ μ) (hp : c.H₀.get? a = none ∨ a ∈ c.W) (hs : Heap.SameBut a s.heap h') (hv : MVal c.prog c.w B h' a mv) :
    Ext (Tch c μ) B s B { s with heap := h', toks := t } ∧ c.St B h' σ (mset a mv μ) ∧ Dom μ (mset a mv μ) s.heap := by
  obtain ⟨hBa, hMa⟩ := S.mu.val a m hm
  have hle : Le B h' := le_same S.en.le hs hBa
  refine ⟨Ext.heap hle (fun b o hb e => (hs.2 b (fun z => hb (.inr ⟨⟨m, z ▸ hm⟩, z ▸ hp⟩))).trans e) t, ⟨⟨S.en.stat, hle, S.en.kind, S.en.glob, S.en.blt, ?_, fun x b hb => ?_, S.en.bound, S.en.inj, S.en.celK, S.en.celL, S.en.frL, S.en.frC, S.en.loL, S.en.loC, fun b o hb => ?_⟩, ⟨fun b mv' hb => ?_, ?_⟩, fun b mv' hb => ?_, fun b mv' hb => ?_⟩, fun b mv' hb => ?_⟩
  · obtain ⟨ml, hl, hlv⟩ := S.en.loc
    exact ⟨ml, hl.sameBut hs (Ne.symm (S.apL a m hm)), hlv⟩
  · obtain ⟨ov, h1, h2⟩ := S.en.cel x b hb
    exact ⟨ov, h1.sameBut hs (Ne.symm (S.apC a m hm x b hb)), h2⟩
  · obtain ⟨o', ho'⟩ := S.en.pres b o hb
    by_cases hba : b = a
    · subst hba; obtain ⟨o'', ho''⟩ := hv.get; exact ⟨o'', ho''⟩
    · exact ⟨o', (hs.2 b hba).trans ho'⟩
  · rcases mem_mset hb with ⟨rfl, rfl, _⟩ | ⟨hne, hb⟩
    · exact ⟨hBa, hv⟩
    · exact ⟨(S.mu.val b mv' hb).1, (S.mu.val b mv' hb).2.keep (Le.refl _) fun o e => (hs.2 b hne).trans e⟩
  · rw [mset_fst]; exact S.mu.nodup
  · rcases mem_mset hb with ⟨rfl, _, _⟩ | ⟨_, hb⟩
    · exact S.apL _ m hm
    · exact S.apL b mv' hb
  · rcases mem_mset hb with ⟨rfl, _, _⟩ | ⟨_, hb⟩
    · exact S.apC _ m hm
    · exact S.apC b mv' hb
  · rcases mem_mset hb with ⟨rfl, _, _⟩ | ⟨_, hb⟩
    · exact .inl ⟨m, hm⟩
    · exact .inl ⟨mv', hb⟩

theorem Ex.append {pl : Sem Bool} {x : Str} {px apos pos spos : Pos} {e : Expr} {a : Addr} {ds : List PV} {d : PV} (hx : Ev c σ μ (.Name x px) (.raw (.ref a))) (hm : (a, MV.list ds) ∈ μ) (hp : c.H₀.get? a = none ∨ a ∈ c.W) (he : Ev c σ μ e d) (hz : ds.length ≤ sizeLine)
    (k : Φ .next σ (mset a (.list (ds ++ [d])) μ))
    (hi : interactive c.env = false := by rfl) (hsw : swapsWith (.Call (.Attribute (.Name x px) "append" apos) [e] [] pos) none spos.line c.env = pure false := by rfl)
    (hev : eval (.Call (.Attribute (.Name x px) "append" apos) [e] [] pos) c.env = (do
      let ov ← eval (.Name x px) c.env
      standAt apos.atName
      let (f, first) ← holding [ov] (getMethod ov "append" pl)
      callWith pos f first (backTo pos (starEach [e] c.env)) []) := by rfl)
    (hst : starEach [e] c.env = [(false, eval e c.env)] := by rfl) :
    Ex c σ μ (.Expr (.Call (.Attribute (.Name x px) "append" apos) [e] [] pos) spos) Φ := by
  intro B s S Q E q
  refine wpAny_Expr ?_ hi hsw
  refine MethodCall_ (pl := pl) (hx B s S _ _ fun v B₁ s₁ e₁ h₁ => ?_) hev
  cases h₁
  have S₁ := S.ext e₁
  obtain ⟨vs, n, ho, hvs⟩ := (S₁.mu.val a _ hm).2
  refine getMethod_list_append ho rfl rfl ?_
  refine callWith_method1 (args_cons (he B₁ s₁ S₁ _ _ fun v B₂ s₂ e₂ h₂ => args_nil ?_) hst) hst rfl
  have S₂ := S₁.ext e₂
  obtain ⟨vs, n, ho, hvs⟩ := (S₂.mu.val a _ hm).2
  refine wpAny_list_append_plain ⟨n, ho⟩ (fun h' ⟨n', hl'⟩ hs' => ?_) (by rw [List.size_toArray, hvs.length]; exact hz)
  obtain ⟨x1, S3, d3⟩ := St.turn (t := s₂.toks) (mv := .list (ds ++ [d])) S₂ hm hp hs' ⟨vs ++ [v], n', by simpa using hl', hvs.append ⟨v, [], rfl, h₂, rfl⟩⟩
  exact q .next _ B₂ _ σ _ k rfl (Ext.trans (M := Tch c μ) (e₁.transE e₂).ofE x1 fun b h => .inl h) (fun b mv hb => by
    rcases mem_mset hb with ⟨rfl, _, m, hm⟩ | ⟨_, hb⟩
    · exact .inl ⟨m, hm⟩
    · exact .inl ⟨mv, hb⟩) S3

/-- a mutable list of the frame's own is frozen -/
theorem Exs.freeze {sts : List Stmt} {x : Str} {a : Addr} {ds : List PV} (hm : (a, MV.list ds) ∈ μ) (hp : c.H₀.get? a = none) (hσ : σ.lookup x = some (.raw (.ref a)))
    (h : Exs c (put x (.list ds) σ) (μ.filter fun p => decide (p.1 ≠ a)) sts Φ) : Exs c σ μ sts Φ := by
  intro B s S Q E q
  obtain ⟨vs, n, ho, hvs⟩ := (S.mu.val a _ hm).2
  have hBa := (S.mu.val a _ hm).1
  obtain ⟨B', f1, f2, f3, f4⟩ := Mine.freeze S.en.le ho
  have hval : ∀ d v, Val B d v → Val B' d v := fun d v h => h.le f1
  have hlist : Val B' (.list ds) (.ref a) := ⟨a, vs, rfl, ⟨_, f3, rfl, n, rfl⟩, hvs.le f1⟩
  have hnone : ∀ b, B.get? b = none → b ≠ a → B'.get? b = none := fun b hb hne => by
    cases e : B'.get? b with
    | none => rfl
    | some o =>
      rcases f4 b o e with z | z
      · rw [hb] at z; cases z
      · exact absurd z hne
  have hup : ∀ y d, (put x (.list ds) σ).lookup y = some d → ∀ v, (∀ d₀, σ.lookup y = some d₀ → Val B d₀ v) → (∃ d₀, σ.lookup y = some d₀) → Val B' d v := fun y d hy v hv he => by
    rw [lookup_put] at hy
    by_cases hyx : y = x
    · rw [if_pos hyx] at hy; cases hy
      have := hv _ (hyx ▸ hσ)
      cases this
      exact hlist
    · rw [if_neg hyx] at hy; exact hval _ _ (hv d hy)
  have hsome : ∀ y d, (put x (.list ds) σ).lookup y = some d → ∃ d₀, σ.lookup y = some d₀ := fun y d hy => by
    rw [lookup_put] at hy
    by_cases hyx : y = x
    · exact ⟨_, hyx ▸ hσ⟩
    · rw [if_neg hyx] at hy; exact ⟨d, hy⟩
  have S' : c.St B' s.heap (put x (.list ds) σ) (μ.filter fun p => decide (p.1 ≠ a)) := by
    refine ⟨⟨S.en.stat.trans f1, f2, S.en.kind, S.en.glob, S.en.blt, ?_, fun y b hb => ?_, S.en.bound, S.en.inj, S.en.celK, S.en.celL, hnone _ S.en.frL (Ne.symm (S.apL a _ hm)), fun y b hb => hnone _ (S.en.frC y b hb) (Ne.symm (S.apC a _ hm y b hb)), S.en.loL, S.en.loC, S.en.pres⟩, ⟨fun b mv hb => ?_, ?_⟩, fun b mv hb => S.apL b mv (List.mem_filter.mp hb).1, fun b mv hb => S.apC b mv (List.mem_filter.mp hb).1⟩
    · obtain ⟨ml, hl, hlv⟩ := S.en.loc
      refine ⟨ml, hl, fun y d h1 h2 => ?_⟩
      obtain ⟨d₀, hd₀⟩ := hsome y d h2
      obtain ⟨v, h3, h4⟩ := hlv y d₀ h1 hd₀
      exact ⟨v, h3, hup y d h2 v (fun d₁ hd₁ => by rw [hd₀] at hd₁; cases hd₁; exact h4) ⟨_, hd₀⟩⟩
    · obtain ⟨ov, h1, h2⟩ := S.en.cel y b hb
      refine ⟨ov, h1, fun d h3 h4 => ?_⟩
      obtain ⟨d₀, hd₀⟩ := hsome y d h4
      obtain ⟨v, h5, h6⟩ := h2 d₀ h3 hd₀
      exact ⟨v, h5, hup y d h4 v (fun d₁ hd₁ => by rw [hd₀] at hd₁; cases hd₁; exact h6) ⟨_, hd₀⟩⟩
    · obtain ⟨h1, h2⟩ := List.mem_filter.mp hb
      obtain ⟨h3, h4⟩ := S.mu.val b mv h1
      exact ⟨hnone b h3 (by simpa using h2), h4.keep f1 fun o e => e⟩
    · exact (S.mu.nodup.sublist ((List.filter_sublist).map _))
  have x : Ext (Tch c μ) B s B' s := ⟨f1, fun b o e => (f4 b o e).elim .inl fun z => .inr (.inl (.inr ⟨⟨_, z ▸ hm⟩, .inl (z ▸ hp)⟩)), f2, fun b o _ e => e, ⟨s.heap, s.toks, rfl⟩⟩
  exact h B' s S' Q E (q.from x fun b mv hb => .inl ⟨mv, (List.mem_filter.mp hb).1⟩)
end
end Mine

end

section
open PySem PySem.Calls PyProof.Rows
namespace Mine
variable {prog : Program} {w : World} {A : Around} {s : Shared} {E : Value → Shared → Prop}

/-! ## Item stores -/
/-- the place that an index names -/
def idxOf (k : Int) (n : Nat) : Option Nat := if 0 ≤ k then (if k < n then some k.toNat else none) else if -(n : Int) ≤ k then some (k + n).toNat else none
theorem idxOf_lt {k : Int} {n j : Nat} (h : idxOf k n = some j) : j < n := by
  unfold idxOf at h
  split at h
  · split at h
    · cases h; omega
    · cases h
  · split at h
    · cases h; omega
    · cases h
theorem setItem_list {l : Addr} {vs : List Value} {n : Nat} {k : Int} {j : Nat} {t : Tok} {v : Value} {Q : Unit → Shared → Prop} (ho : s.heap.get? l = some { cls := .type "list", data := .seq (List.toArray vs) n })
    (hlo : -(2 ^ 63) ≤ k) (hhi : k < 2 ^ 63) (hj : idxOf k vs.length = some j)
    (hQ : ∀ h' n', h'.get? l = some { cls := .type "list", data := .seq (List.toArray (vs.set j v)) n' } → Heap.SameBut l s.heap h' → Q () { s with heap := h' }) :
    wpAny (model prog w) A (setItem (.ref l) (.int k t) v) Q E s := by
  have hl : s.heap.IsList l vs.toArray := ⟨_, ho, rfl, n, rfl⟩
  unfold setItem
  try with_reducible refine wpAny_holding ?_
  first | refine wpAny_bind (wpAny_pure ?_) | skip
  refine wpAny_bind (wpAny_sequenceKey hl.typeIs (by decide) ?_)
  refine wpAny_bind (wpAny_callSpecial?_slot (name := Str.ofString "__setitem__") hl.typeIs slot_list_setitem
    (wpAny_call_entry slot_list_setitem hl.typeIs entry_list_setitem ?_ (args_list_setitem _ _ _)))
  show wpAny _ _ (Builtin.List.listSubscript? (.int k t) >>= _) _ _ s
  refine wpAny_bind (wpAny_listSubscript_int (fitsIndex_both hlo hhi) ?_)
  clear hlo hhi
  have hjl := idxOf_lt hj
  have hx : vs.toArray[j]? = some vs[j] := by simp [hjl]
  have hu : (s.heap.update l (Obj.mapSeq (·.setIfInBounds j v))).get? l = some { cls := .type "list", data := .seq (List.toArray (vs.set j v)) n } := by
    have := Heap.get?_update_self (Obj.mapSeq (·.setIfInBounds j v)) ho rfl
    rw [this]; simp [Obj.mapSeq]
  cases k with
  | ofNat i =>
    have hij : j = i := by
      unfold idxOf at hj
      rw [if_pos (show (0 : Int) ≤ Int.ofNat i from Int.natCast_nonneg i)] at hj
      split at hj
      · cases hj; rfl
      · cases hj
    subst hij
    show wpAny _ _ ((seqItemAt l j >>= fun r => pure (r.map (j, ·))) >>= _) _ _ s
    refine wpAny_bind (wpAny_bind (wpAny_seqItemAt ho rfl (wpAny_pure ?_)))
    rw [hx]
    show wpAny _ _ (setSeqItemAt l j v >>= _) _ _ s
    refine wpAny_bind (wpAny_setSeqItemAt ho rfl ?_)
    first
      | exact wpAny_bind (wpAny_pure (wpAny_pure ⟨.none, rfl, wpAny_pure (hQ _ n hu (Heap.SameBut.update ..))⟩))
      | exact wpAny_pure ⟨.none, rfl, wpAny_pure (hQ _ n hu (Heap.SameBut.update ..))⟩
  | negSucc i =>
    have hneg := Int.negSucc_lt_zero i
    have hidx : seqIndex? (Int.negSucc i) vs.toArray.size = some j := by
      unfold idxOf at hj
      rw [if_neg (by omega)] at hj
      split at hj
      · rename_i h1
        rw [List.size_toArray, seqIndex_neg hneg h1]; exact hj
      · cases hj
    show wpAny _ _ ((Builtin.List.listItems (.ref l) >>= fun xs => pure ((seqIndex? (Int.negSucc i) xs.size).bind fun i => xs[i]?.map (i, ·))) >>= _) _ _ s
    refine wpAny_bind (wpAny_bind ?_)
    show wpAny _ _ (seqItems? (.ref l) >>= _) _ _ s
    refine wpAny_bind (wpAny_seqItems ho rfl (wpAny_pure (wpAny_pure ?_)))
    rw [hidx]
    simp only [Option.bind_some, hx, Option.map_some]
    show wpAny _ _ (setSeqItemAt l j v >>= _) _ _ s
    refine wpAny_bind (wpAny_setSeqItemAt ho rfl ?_)
    first
      | exact wpAny_bind (wpAny_pure (wpAny_pure ⟨.none, rfl, wpAny_pure (hQ _ n hu (Heap.SameBut.update ..))⟩))
      | exact wpAny_pure ⟨.none, rfl, wpAny_pure (hQ _ n hu (Heap.SameBut.update ..))⟩

theorem setItem_list_out {l : Addr} {items : Array Value} {k : Int} {t : Tok} {v : Value} {Q : Unit → Shared → Prop} (hA : A.handled = none) (hl : s.heap.IsList l items)
    (hj : idxOf k items.size = none) (hlo : -(2 ^ 63) ≤ k) (hhi : k < 2 ^ 63)
    (hE : ∀ h' tk e, Heap.NewExc s.heap h' e "IndexError" → E (.ref e) { s with heap := h', toks := tk }) :
    wpAny (model prog w) A (setItem (.ref l) (.int k t) v) Q E s := by
  have hout : k < -(items.size : Int) ∨ (items.size : Int) ≤ k := by
    unfold idxOf at hj
    split at hj
    · split at hj
      · cases hj
      · omega
    · split at hj
      · cases hj
      · omega
  obtain ⟨o, ho, hc, ne, hd⟩ := id hl
  unfold setItem
  try with_reducible refine wpAny_holding ?_
  first | refine wpAny_bind (wpAny_pure ?_) | skip
  refine wpAny_bind (wpAny_sequenceKey hl.typeIs (by decide) ?_)
  refine wpAny_bind (wpAny_callSpecial?_slot (name := Str.ofString "__setitem__") hl.typeIs slot_list_setitem
    (wpAny_call_entry slot_list_setitem hl.typeIs entry_list_setitem ?_ (args_list_setitem _ _ _)))
  show wpAny _ _ (Builtin.List.listSubscript? (.int k t) >>= _) _ _ s
  refine wpAny_bind (wpAny_listSubscript_int (fitsIndex_both hlo hhi) ?_)
  clear hlo hhi hj
  cases k with
  | ofNat j =>
    have hx : items[j]? = none := by
      rcases hout with h | h
      · exact absurd h (by simp only [Int.ofNat_eq_natCast]; omega)
      · exact Array.getElem?_eq_none (by have : (items.size : Int) ≤ (j : Int) := h; omega)
    show wpAny _ _ ((seqItemAt l j >>= fun r => pure (r.map (j, ·))) >>= _) _ _ s
    refine wpAny_bind (wpAny_bind (wpAny_seqItemAt ho hd (wpAny_pure ?_)))
    rw [hx]
    first
      | exact wpAny_bind (wpAny_rule (by exact_raiseError plainExc_IndexError hA hE))
      | exact wpAny_bind (wpAny_rule (wpAny_bind (by exact_raiseError plainExc_IndexError hA hE)))
      | exact wpAny_bind (wpAny_bind (wpAny_rule (by exact_raiseError plainExc_IndexError hA hE)))
      | exact wpAny_rule (by exact_raiseError plainExc_IndexError hA hE)
  | negSucc j =>
    have hidx : seqIndex? (Int.negSucc j) items.size = none := by
      rcases hout with h | h
      · exact seqIndex_below h
      · exact absurd h (by have := Int.negSucc_lt_zero j; omega)
    show wpAny _ _ ((Builtin.List.listItems (.ref l) >>= fun xs => pure ((seqIndex? (Int.negSucc j) xs.size).bind fun i => xs[i]?.map (i, ·))) >>= _) _ _ s
    refine wpAny_bind (wpAny_bind ?_)
    show wpAny _ _ (seqItems? (.ref l) >>= _) _ _ s
    refine wpAny_bind (wpAny_seqItems ho hd (wpAny_pure (wpAny_pure ?_)))
    rw [hidx]
    first
      | exact wpAny_bind (wpAny_rule (by exact_raiseError plainExc_IndexError hA hE))
      | exact wpAny_bind (wpAny_rule (wpAny_bind (by exact_raiseError plainExc_IndexError hA hE)))
      | exact wpAny_bind (wpAny_bind (wpAny_rule (by exact_raiseError plainExc_IndexError hA hE)))
      | exact wpAny_rule (by exact_raiseError plainExc_IndexError hA hE)

theorem int_no_getitem : typeLookup (.type "int") (Str.ofString "__getitem__") = pure none := by kernel_rfl
theorem int_no_setitem : typeLookup (.type "int") (Str.ofString "__setitem__") = pure none := by kernel_rfl
theorem int_no_delitem : typeLookup (.type "int") (Str.ofString "__delitem__") = pure none := by kernel_rfl
theorem getItem_int {x : Int} {t : Tok} {k : Value} {Q : Value → Shared → Prop} (hA : A.handled = none)
    (hE : ∀ h' tk e, Heap.NewExc s.heap h' e "TypeError" → E (.ref e) { s with heap := h', toks := tk }) :
    wpAny (model prog w) A (getItem (.int x t) k) Q E s := by
  unfold getItem
  refine wpAny_holding ?_
  refine wpAny_bind (wpAny_sequenceKey (typeIs_int s x t) (by decide) ?_)
  refine wpAny_bind (wpAny_callSpecial?_none (name := Str.ofString "__getitem__") (typeIs_int s x t) int_no_getitem ?_)
  refine wpAny_bind (wpAny_of_eq (a := false) rfl ?_)
  simp only [Bool.false_eq_true, if_false]
  refine wpAny_bind (wpAny_typeNameOf_int ?_)
  exact wpAny_raiseErrorMade plainExc_TypeError hA hE (by decide)
theorem int_no_seq : hasSequenceTable (.type "int") = pure false := by
  unfold hasSequenceTable
  dsimp only
  rw [if_neg (by decide), if_pos (by decide +kernel)]
theorem setItem_int {x : Int} {t : Tok} {k v : Value} {Q : Unit → Shared → Prop} (hA : A.handled = none)
    (hE : ∀ h' tk e, Heap.NewExc s.heap h' e "TypeError" → E (.ref e) { s with heap := h', toks := tk }) :
    wpAny (model prog w) A (setItem (.int x t) k v) Q E s := by
  unfold setItem
  refine wpAny_holding ?_
  refine wpAny_bind (wpAny_sequenceKey (typeIs_int s x t) (by decide) ?_)
  refine wpAny_bind (wpAny_callSpecial?_none (name := Str.ofString "__setitem__") (typeIs_int s x t) int_no_setitem ?_)
  refine wpAny_bind (wpAny_specialOf (typeIs_int s x t) int_no_delitem ?_)
  simp only [Option.isSome_none, Bool.false_eq_true, if_false]
  refine wpAny_bind (m := takenAsIndex _ _) ?_
  unfold takenAsIndex
  refine wpAny_bind (wpAny_typeOf (typeIs_int s x t) ?_)
  refine wpAny_bind (wpAny_of_eq (a := false) int_no_seq ?_)
  simp only [Bool.not_false, if_true]
  refine wpAny_pure ?_
  refine wpAny_bind (wpAny_rule ?_)
  refine wpAny_bind (wpAny_typeNameOf_int ?_)
  exact wpAny_raiseErrorMade plainExc_TypeError hA hE (by decide)
end Mine

end

section
open PySem PySem.Calls PyProof.Rows
namespace Mine

def paramsAt (p : Program) (n : Nat) : Arguments := match p.main.body[n]? with | some (.FunctionDef _ a _ _ _ _ _ _ _ _) => a | _ => default
def bodyAt (p : Program) (n : Nat) : List Stmt := match p.main.body[n]? with | some (.FunctionDef _ _ b _ _ _ _ _ _ _) => b | _ => []
def scopeAt (p : Program) (n : Nat) : Scope := match p.main.body[n]? with | some (.FunctionDef _ _ _ _ _ _ s _ _ _) => s | _ => default
def FnAt (B₀ : Heap) (mg : Str → Option Value) (p : Program) (n : Nat) (x : Str) (a : Addr) : Prop :=
  ∃ o pm code doc, mg x = some (.ref a) ∧ B₀.get? a = some o ∧ o.data = .func (docDef x (paramsAt p n) (bodyAt p n) (scopeAt p n) pm code doc) ∧ B₀.CodeRec code x
theorem FnAt.is {B₀ : Heap} {mg : Str → Option Value} {p : Program} {n : Nat} {x : Str} {a : Addr} (h : FnAt B₀ mg p n x a) (names : List Str)
    (bind : ∀ pm code doc (vs : List Value), vs.length = names.length → bindArgs (docDef x (paramsAt p n) (bodyAt p n) (scopeAt p n) pm code doc) ⟨vs, []⟩ = pure (names.zip vs))
    (kinds : (names.all fun x => isName ((scopeAt p n).names.lookup x)) = true := by rfl) (nodup : names.Nodup := by decide)
    (free : ((scopeAt p n).names.all fun x => x.2 != .free) = true := by rfl) (cells : ((cellsFrom 0 (scopeAt p n).names []).map (·.1)).Nodup := by decide) (snames : ((scopeAt p n).names.map (·.1)).Nodup := by decide)
    (co : (scopeAt p n).isCoroutine = false := by rfl) (gen : (scopeAt p n).isGenerator = false := by rfl) (kind : (scopeAt p n).kind = .function := by rfl) :
    ∃ pm code doc, FnIs B₀ a (docDef x (paramsAt p n) (bodyAt p n) (scopeAt p n) pm code doc) names (bodyAt p n) := by
  obtain ⟨o, pm, code, doc, h1, h2, h3, h4⟩ := h
  exact ⟨pm, code, doc, ⟨o, h2, h3⟩, h4, rfl, rfl, rfl, rfl, fun s vs _ hv => BindsTo.of_eq (bind pm code doc vs hv), nodup, fun y hy => List.all_eq_true.mp kinds y hy, fun y hy => by simpa using List.all_eq_true.mp free y hy, cells, snames, co, gen, kind⟩
namespace Law1
open PySem.Challenge (pw_dn0036_01)
abbrev pw := pw_dn0036_01
variable {w : World} {B₀ : Heap} {mg mb : Str → Option Value} {A : Around} {μ : Mu}

def lawPlace (kind step : Int) : Int := if kind = 0 ∧ -3 ≤ step ∧ step < 0 then step + 3 else step


theorem fn_place {a : Addr} (h : FnAt B₀ mg pw 7 "_law_place" a) : ∃ pm code doc, FnIs B₀ a (docDef "_law_place" (paramsAt pw 7) (bodyAt pw 7) (scopeAt pw 7) pm code doc) ["kind", "step"] (bodyAt pw 7) :=
  h.is _ fun pm code doc vs hv => match vs, hv with | [v1, v2], _ => rfl

theorem spec_place {a : Addr} (G : Gl B₀ mg mb) (h : FnAt B₀ mg pw 7 "_law_place" a) (room : A.depth < recursionLimit) (kind step : Int) : Sp pw w B₀ A μ (.ref a) [.int kind, .int step] (.int (lawPlace kind step)) := by
  obtain ⟨pm, code, doc, F⟩ := fn_place h
  refine SpM.pure (SpM.fn G F room rfl fun H₀ n => ?_)
  refine Exs.cons (Ex.ret (d := .int (lawPlace kind step)) ?_ rfl)
  refine Ev.ite (Tr.and (Tr.cmp (Ev.name rfl) Ev.int op_eqI) fun h1 => Tr.and (Tr.cmp2 (Ev.un Ev.int op_negI) (Ev.name rfl) op_leI Ev.int op_ltI) fun h2 => Tr.and_nil) (fun h => ?_) (fun h => ?_)
  · have : lawPlace kind step = step + 3 := by
      simp only [Bool.and_eq_true, beq_iff_eq, decide_eq_true_eq] at h
      unfold lawPlace; rw [if_pos ⟨h.1, h.2.1.1, h.2.1.2⟩]
    rw [this]
    exact Ev.bin (Ev.name rfl) Ev.int op_addI
  · have : lawPlace kind step = step := by
      unfold lawPlace; rw [if_neg]
      rintro ⟨h1, h2, h3⟩
      simp [h1, h2, h3] at h
    rw [this]
    exact Ev.name rfl
end Law1
end Mine

end

section
open PySem PySem.Calls PyProof.Rows
namespace Mine
structure Rm (A : Around) (k : Nat) : Prop where
  handled : A.handled = none
  depth : A.depth + k < recursionLimit
  units : A.units + 3 * k + 200 < cLine
theorem Rm.deeper {A : Around} {k : Nat} (h : Rm A (k + 1)) (env : Env) : Rm (A.deeper env) k :=
  ⟨h.handled, by show A.depth + 1 + k < _; have := h.depth; omega, by show A.units + 3 + 3 * k + 200 < _; have := h.units; omega⟩
theorem Rm.u {A : Around} {k : Nat} (h : Rm A k) : A.units < cLine := by have := h.units; omega
theorem Rm.lt {A : Around} {k : Nat} (h : Rm A k) : A.depth < recursionLimit := by have := h.depth; omega
theorem Rm.mono {A : Around} {k m : Nat} (h : Rm A k) (hm : m ≤ k) : Rm A m := ⟨h.handled, by have := h.depth; omega, by have := h.units; omega⟩

theorem Tr.cast {c : Ct} {σ : Sg} {μ : Mu} {e : Expr} {b b' : Bool} (h : Tr c σ μ e b) (q : b = b') : Tr c σ μ e b' := q ▸ h
theorem Ev.cast {c : Ct} {σ : Sg} {μ : Mu} {e : Expr} {d d' : PV} (h : Ev c σ μ e d) (q : d = d') : Ev c σ μ e d' := q ▸ h
theorem CompRes.one {c : Ct} {σ : Sg} {μ : Mu} {t elt : Expr} {b : Bool} {x : PV} {r : Option PV} (h : Tr c σ μ t b) (he : b = true → Ev c σ μ elt x) (hr : r = if b then some x else none) : CompRes c σ μ [t] elt r := by
  cases b with
  | true => simp at hr; subst hr; exact .yes h (he rfl)
  | false => simp at hr; subst hr; exact .no h
/-- a list and the empty one -/
theorem op_neNil {prog : Program} {w : World} {A : Around} {μ : Mu} {d : PV} {ds : List PV} (h : IsL μ d ds) (hu : A.units < cLine) : Op2 prog w A μ (compareOp .NotEq) d (.list []) (.bool (!ds.isEmpty)) := by
  intro B s v₁ v₂ at' hv₁ hv₂ Q E q
  obtain ⟨a, us, rfl, hl, hus⟩ := h.get at' hv₁
  obtain ⟨b, ws, rfl, hl', hws⟩ := IsL.fr.get at' hv₂
  cases hws
  have hlen := hus.length
  cases ds with
  | nil =>
    refine SeqAt.RcNeAt.lists (e := fun _ => true) hl hl' (by simp at hlen; simp [hlen]) hu (fun j h1 h2 => absurd h2 (by simp)) prog w E Q ?_
    rw [List.all_eq_true.mpr fun _ _ => rfl]
    exact q _ B s (Ext.refl at'.le) rfl
  | cons d ds => exact SeqAt.RcNeAt.lists_lengths hl hl' (by simp [hlen]) hu prog w E Q (q _ B s (Ext.refl at'.le) rfl)
theorem op_eqNil {prog : Program} {w : World} {A : Around} {μ : Mu} {d : PV} {ds : List PV} (h : IsL μ d ds) (hu : A.units < cLine) : Op2 prog w A μ (compareOp .Eq) d (.list []) (.bool ds.isEmpty) := by
  intro B s v₁ v₂ at' hv₁ hv₂ Q E q
  obtain ⟨a, us, rfl, hl, hus⟩ := h.get at' hv₁
  obtain ⟨b, ws, rfl, hl', hws⟩ := IsL.fr.get at' hv₂
  cases hws
  have hlen := hus.length
  cases ds with
  | nil =>
    refine SeqAt.eq_listAt (e := fun _ => true) hl hl' (by simp at hlen; simp [hlen]) hu (fun j h1 h2 => absurd h2 (by simp)) ?_
    rw [List.all_eq_true.mpr fun _ _ => rfl]
    exact q _ B s (Ext.refl at'.le) rfl
  | cons d ds => exact SeqAt.eq_list_lengthsAt hl hl' (by simp [hlen]) hu (q _ B s (Ext.refl at'.le) rfl)

namespace Law1
open PySem.Challenge (pw_dn0036_01)
variable {w : World} {B₀ : Heap} {mg mb : Str → Option Value} {A : Around} {μ : Mu}

inductive Tg where
  | box (k : Nat)
  | num (x : Int)
def Tg.pv : Tg → PV
  | .box k => .tuple [.str "box", .int k]
  | .num x => .tuple [.str "number", .int x]
structure Ent where
  box : Nat
  place : Int
  tg : Tg
def Ent.pv (e : Ent) : PV := .tuple [.int e.box, .int e.place, e.tg.pv]

/-- what stands at a place -/
def hits (past : List Ent) (k : Nat) (pl : Int) : List Ent := past.filter fun e => e.box == k && e.place == pl
/-- a word and a number -/
abbrev Wd := Str × Int
def Wd.pv (x : Wd) : PV := .tuple [.str x.1, .int x.2]
def Tg.wd : Tg → Wd
  | .box k => ("box", (k : Int))
  | .num x => ("number", x)
theorem Tg.wd_pv (t : Tg) : t.wd.pv = t.pv := by cases t <;> rfl
def targetOf (kinds : List Int) (past : List Ent) (k : Nat) (step : Int) : Wd :=
  match (hits past k (lawPlace (kinds.getD k 0) step)).getLast? with
  | some e => e.tg.wd
  | none => (if kinds.getD k 0 = 1 then "KeyError" else "IndexError", 0)

def pick (k : Nat) (pl : Int) : PV → Option PV
  | .tuple [.int b, .int p, t] => if b = (k : Int) ∧ p = pl then some t else none
  | _ => none
theorem pick_hits (past : List Ent) (k : Nat) (pl : Int) : (past.map Ent.pv).filterMap (pick k pl) = (hits past k pl).map fun e => e.tg.pv := by
  induction past with
  | nil => rfl
  | cons e r ih =>
    rw [List.map_cons, List.filterMap_cons, ih]
    unfold hits
    rw [List.filter_cons]
    have hpk : pick k pl e.pv = if (e.box : Int) = (k : Int) ∧ e.place = pl then some e.tg.pv else none := rfl
    rw [hpk]
    by_cases h : e.box = k ∧ e.place = pl
    · simp [h.1, h.2]
    · have h' : ¬ ((e.box : Int) = (k : Int) ∧ e.place = pl) := fun q => h ⟨by omega, q.2⟩
      rw [if_neg h']
      have : (e.box == k && e.place == pl) = false := by
        cases hb : (e.box == k && e.place == pl) with
        | false => rfl
        | true => simp at hb; exact absurd hb h
      rw [this]; rfl

theorem fn_target {a : Addr} (h : FnAt B₀ mg pw 8 "_law_target" a) : ∃ pm code doc, FnIs B₀ a (docDef "_law_target" (paramsAt pw 8) (bodyAt pw 8) (scopeAt pw 8) pm code doc) ["k", "step", "kinds", "past"] (bodyAt pw 8) :=
  h.is _ fun pm code doc vs hv => match vs, hv with | [v1, v2, v3, v4], _ => rfl

theorem pget_nat {ds : List PV} {k : Nat} {x : PV} (h : ds[k]? = some x) : pget ds (k : Int) = some x := by
  unfold pget; rw [if_pos (by omega)]; simpa using h
theorem pget_last {ds : List PV} {x : PV} (h : ds.getLast? = some x) : pget ds (-1) = some x := by
  unfold pget
  rw [if_neg (by omega)]
  cases ds with
  | nil => simp at h
  | cons d r =>
    rw [if_pos (by simp; omega)]
    rw [List.getLast?_eq_getElem?] at h
    rw [← h]
    congr 1
    simp; omega

theorem spec_target {a ap pa : Addr} {kinds : List Int} {past : List Ent} {k : Nat} (G : Gl B₀ mg mb) (h : FnAt B₀ mg pw 8 "_law_target" a) (hp : FnAt B₀ mg pw 7 "_law_place" ap) (room : Rm A 2) (step : Int)
    (hk : k < kinds.length) (hm : (pa, MV.list (past.map Ent.pv)) ∈ μ) (hz : past.length ≤ sizeLine) (hzk : kinds.length ≤ sizeLine) :
    Sp pw w B₀ A μ (.ref a) [.int k, .int step, .list (kinds.map .int), .raw (.ref pa)] (targetOf kinds past k step).pv := by
  obtain ⟨pm, code, doc, F⟩ := fn_target h
  obtain ⟨_, _, _, Fp⟩ := fn_place hp
  obtain ⟨_, _, _, _, hgp, _⟩ := id hp
  have hkk : (kinds.map PV.int)[k]? = some (.int (kinds.getD k 0)) := by simp [List.getElem?_map, List.getD_eq_getElem?_getD, List.getElem?_eq_getElem hk]
  have hitem : ∀ {c : Ct} {σ : Sg} {p1 p2 p3 : Pos} (h1 : Ev c σ μ (.Name "kinds" p1) (.list (kinds.map .int))) (h2 : Ev c σ μ (.Name "k" p2) (.int k)), Ev c σ μ (.Subscript (.Name "kinds" p1) (.Name "k" p2) p3) (.int (kinds.getD k 0)) :=
    fun h1 h2 => Ev.item h1 h2 .fr (pget_nat hkk) (by simpa using hzk)
  refine SpM.pure (SpM.fn G F room.lt rfl fun H₀ n => ?_)
  have hr := room.deeper (callEnvC (docDef "_law_target" (paramsAt pw 8) (bodyAt pw 8) (scopeAt pw 8) pm code doc) n a)
  refine Exs.cons (Ex.assignComp (pick k (lawPlace (kinds.getD k 0) step)) (ItE.mlist hr.handled .tuple (Ev.name rfl) hm) hm (fun C H d hd => ?_) (by simpa using hz) ?_)
  · obtain ⟨e, _, rfl⟩ := List.mem_map.mp hd
    refine ⟨_, Asg.tuple hr.handled (.cons (Asg.name) (.cons (Asg.name) (.cons (Asg.name) .nil rfl) rfl) rfl), ?_⟩
    refine CompRes.one (Tr.and (Tr.cmp (Ev.name rfl) (Ev.name rfl) op_eqI) fun _ => Tr.and (Tr.cmp (Ev.name rfl)
      (Ev.call (Ev.glob G hgp) Fp.isFn (Evs.cons (hitem (Ev.name rfl) (Ev.name rfl)) (Evs.cons (Ev.name rfl) Evs.nil)) (spec_place G hp hr.lt _ _)) op_eqI) fun _ => Tr.and_nil) (fun _ => Ev.name rfl) ?_
    show (if (e.box : Int) = (k : Int) ∧ e.place = _ then some e.tg.pv else none) = _
    by_cases h1 : (e.box : Int) = (k : Int) <;> by_cases h2 : e.place = lawPlace (kinds.getD k 0) step <;> simp [h1, h2]
  · rw [pick_hits]
    refine Exs.cons (Ex.ret (d := (targetOf kinds past k step).pv) ?_ rfl)
    refine Ev.ite (Tr.cmp (Ev.name rfl) (Ev.list Evs.nil) (op_neNil .fr hr.u)) (fun hb => ?_) (fun hb => ?_)
    · refine (Ev.item (Ev.name rfl) (Ev.un Ev.int op_negI) .fr (x := (targetOf kinds past k step).pv) (pget_last ?_) ?_)
      · unfold targetOf
        rw [List.getLast?_map]
        cases hq : (hits past k (lawPlace (kinds.getD k 0) step)).getLast? with
        | none => rw [List.getLast?_eq_none_iff] at hq; rw [hq] at hb; simp at hb
        | some e => simp [Tg.wd_pv]
      · have : (hits past k (lawPlace (kinds.getD k 0) step)).length ≤ past.length := List.length_filter_le _ _
        rw [List.length_map]; omega
    · have hq : hits past k (lawPlace (kinds.getD k 0) step) = [] := by
        cases hq : hits past k (lawPlace (kinds.getD k 0) step) with
        | nil => rfl
        | cons => rw [hq] at hb; simp at hb
      have ht : (targetOf kinds past k step).pv = .tuple [.str (if kinds.getD k 0 = 1 then "KeyError" else "IndexError"), .int 0] := by unfold targetOf; rw [hq]; rfl
      rw [ht]
      refine Ev.tuple (Evs.cons (Ev.ite (Tr.cmp (hitem (Ev.name rfl) (Ev.name rfl)) Ev.int op_eqI) (fun h => ?_) (fun h => ?_)) (Evs.cons Ev.int Evs.nil)) (by show 2 ≤ _; decide)
      · rw [if_pos (by simpa using h)]; exact Ev.str
      · rw [if_neg (by simpa using h)]; exact Ev.str
end Law1
end Mine

end

section
open PySem PySem.Calls PyProof.Rows
namespace Mine
abbrev Has (σ : Sg) (x : Str) (d : PV) : Prop := σ.lookup x = some d
theorem lookup_put_eq {x : Str} {d : PV} {σ : Sg} : (put x d σ).lookup x = some d := by rw [lookup_put, if_pos rfl]
theorem lookup_put_ne {x y : Str} {d : PV} {σ : Sg} (h : y ≠ x) : (put x d σ).lookup y = σ.lookup y := by rw [lookup_put, if_neg h]
local macro_rules | `(tactic| walk_at "lk") => `(tactic| first | assumption | exact lookup_put_eq | (refine (lookup_put_ne (by decide)).trans ?_; walk_at "lk"))

theorem mset_append_new {a : Addr} {m mv : MV} {μ : Mu} (h : ∀ m, (a, m) ∉ μ) : mset a mv (μ ++ [(a, m)]) = μ ++ [(a, mv)] := by
  unfold mset
  rw [List.map_append]
  congr 1
  · conv => rhs; rw [← List.map_id μ]
    apply List.map_congr_left
    intro p hp
    rw [if_neg fun q => h p.2 (by rw [← q]; exact hp)]; rfl
  · simp
theorem filter_append_new {a : Addr} {mv : MV} {μ : Mu} (h : ∀ m, (a, m) ∉ μ) : (μ ++ [(a, mv)]).filter (fun p => decide (p.1 ≠ a)) = μ := by
  rw [List.filter_append]
  have : μ.filter (fun p => decide (p.1 ≠ a)) = μ := by
    rw [List.filter_eq_self]
    intro p hp
    simp only [decide_eq_true_eq]
    exact fun q => h p.2 (by rw [← q]; exact hp)
  rw [this]
  simp

namespace Law1
variable {w : World} {B₀ : Heap} {mg mb : Str → Option Value} {A : Around} {μ : Mu}

def stepW (kinds : List Int) (past : List Ent) (st : Int) (last : Bool) (next : List Wd) (k : Nat) : Wd :=
  let t := targetOf kinds past k st
  if t.1 = ("box" : Str) then next.getD t.2.toNat ("", 0) else if t.1 = ("number" : Str) ∧ last = false then ("TypeError", t.2) else t
def endsFrom (kinds : List Int) (past : List Ent) : List Int → List Wd
  | [] => (List.range kinds.length).map fun (k : Nat) => (("box" : Str), (k : Int))
  | st :: rest => (List.range kinds.length).map (stepW kinds past st rest.isEmpty (endsFrom kinds past rest))
theorem endsFrom_length (kinds : List Int) (past : List Ent) (p : List Int) : (endsFrom kinds past p).length = kinds.length := by cases p <;> simp [endsFrom]

def boxOf : PV → Option PV
  | .int k => some (.tuple [.str "box", .int k])
  | _ => none
theorem boxOf_range (kinds : List Int) (past : List Ent) : (rangeList 0 (kinds.length : Int) 1).filterMap boxOf = (endsFrom kinds past []).map Wd.pv := by
  rw [rangeList_up]
  unfold endsFrom
  induction List.range kinds.length with
  | nil => rfl
  | cons k r ih => simp only [List.map_cons, List.filterMap_cons, boxOf, ih]; rfl

theorem target_box {kinds : List Int} {past : List Ent} {k : Nat} {st : Int} (hbox : ∀ e ∈ past, ∀ j, e.tg = .box j → j < kinds.length) (h : (targetOf kinds past k st).1 = ("box" : Str)) : ∃ j, j < kinds.length ∧ (targetOf kinds past k st).2 = (j : Int) := by
  unfold targetOf at h ⊢
  cases hq : (hits past k (lawPlace (kinds.getD k 0) st)).getLast? with
  | none =>
    rw [hq] at h
    simp only at h
    split at h
    · exact absurd h (by decide)
    · exact absurd h (by decide)
  | some e =>
    rw [hq] at h
    have he : e ∈ past := (List.mem_filter.mp (List.mem_of_getLast? hq)).1
    simp only at h ⊢
    cases ht : e.tg with
    | box j => exact ⟨j, hbox e he j ht, rfl⟩
    | num x => rw [ht] at h; exact absurd (show ("number" : Str) = "box" from h) (by decide)

theorem fn_ends {a : Addr} (h : FnAt B₀ mg pw 9 "_law_ends" a) : ∃ pm code doc, FnIs B₀ a (docDef "_law_ends" (paramsAt pw 9) (bodyAt pw 9) (scopeAt pw 9) pm code doc) ["path", "kinds", "past"] (bodyAt pw 9) :=
  h.is _ fun pm code doc vs hv => match vs, hv with | [v1, v2, v3], _ => rfl

structure Glb (mg mb : Str → Option Value) (x : Str) (v : Value) : Prop where
  none : mg x = none
  some : mb x = some v

theorem spec_ends {a ap at' pa : Addr} {kinds : List Int} {past : List Ent} {path : List Int} (G : Gl B₀ mg mb) (h : FnAt B₀ mg pw 9 "_law_ends" a) (ht : FnAt B₀ mg pw 8 "_law_target" at') (hp : FnAt B₀ mg pw 7 "_law_place" ap)
    (hlen : Glb mg mb "len" (.builtin "len")) (hrange : Glb mg mb "range" (.type "range")) (room : Rm A 3)
    (hm : (pa, MV.list (past.map Ent.pv)) ∈ μ) (hz : past.length ≤ sizeLine) (hzk : kinds.length ≤ 1000) (hzp : path.length ≤ 1000) (hbox : ∀ e ∈ past, ∀ j, e.tg = .box j → j < kinds.length) :
    Sp pw w B₀ A μ (.ref a) [.list (path.map .int), .list (kinds.map .int), .raw (.ref pa)] (.list ((endsFrom kinds past path).map Wd.pv)) := by
  obtain ⟨pm, code, doc, F⟩ := fn_ends h
  obtain ⟨_, _, _, Ft⟩ := fn_target ht
  obtain ⟨_, _, _, _, hgt, _⟩ := id ht
  have hsz : sizeLine = 2 ^ 24 := rfl
  refine SpM.pure (SpM.fn G F room.lt rfl fun H₀ n => ?_)
  have hr := room.deeper (callEnvC (docDef "_law_ends" (paramsAt pw 9) (bodyAt pw 9) (scopeAt pw 9) pm code doc) n a)
  have hkl : (kinds.map PV.int).length = kinds.length := List.length_map ..
  have hpl : (path.map PV.int).length = path.length := List.length_map ..
  refine Exs.cons (Ex.assignComp boxOf (ItE.range hr.handled (Ev.callT (Ev.blt G hrange.none hrange.some) (Evs.cons (Ev.callB (Ev.blt G hlen.none hlen.some) (Evs.cons (Ev.name rfl) Evs.nil) (sp_len .fr (by omega))) Evs.nil) sp_range1) (small_of (by omega) (by omega) (.inl rfl))) trivial (fun C H d hd => ?_) ?_ ?_)
  · obtain ⟨i, _, rfl⟩ := List.mem_map.mp hd
    exact ⟨_, Asg.name, .all (Ev.tuple (Evs.cons Ev.str (Evs.cons (Ev.name rfl) Evs.nil)) (by show 2 ≤ _; decide))⟩
  · rw [hkl, rangeList_up]; simp; omega
  rw [hkl, boxOf_range kinds past]
  refine Exs.cons (Ex.forI (ds := rangeList ((path.length : Int) - 1) (-1) (-1)) (Km := fun _ => True) ?_ (fun i σ' μ' => μ' = μ ∧ Has σ' "path" (.list (path.map .int)) ∧ Has σ' "kinds" (.list (kinds.map .int)) ∧ Has σ' "past" (.raw (.ref pa)) ∧
      Has σ' "ends" (.list ((endsFrom kinds past (path.drop (path.length - i))).map Wd.pv))) ?_ (fun _ _ _ _ => trivial) ?_ ?_)
  · refine ItE.range hr.handled (Ev.callT (Ev.blt G hrange.none hrange.some) (Evs.cons (Ev.bin (Ev.callB (Ev.blt G hlen.none hlen.some) (Evs.cons (Ev.name rfl) Evs.nil) (sp_len .fr (by omega))) Ev.int op_subI) (Evs.cons (Ev.un Ev.int op_negI) (Evs.cons (Ev.un Ev.int op_negI) Evs.nil))) ?_) (small_of (by omega) (by omega) (.inr rfl))
    rw [hpl]
    exact sp_range3 (by decide) (by decide)
  · refine ⟨rfl, rfl, rfl, rfl, ?_⟩
    rw [Nat.sub_zero, List.drop_length]
    rfl
  · rintro i σ' μ' d hi hd ⟨hμ, h1, h2, h3, h4⟩
    replace hμ := hμ.symm
    subst hμ
    rw [rangeList_down] at hi hd
    simp only [List.length_map, List.length_range] at hi
    have hd' : d = .int ((path.length : Int) - 1 - (i : Int)) := by
      simp only [List.getElem?_map, List.getElem?_range hi, Option.map_some, Option.some.injEq] at hd
      exact hd.symm
    subst hd'
    refine ⟨_, Asg.name, ?_⟩
    refine Exs.cons (Ex.assignN (EvN.list Evs.nil) fun d μn hΨ hf => ?_)
    obtain ⟨b, rfl, rfl⟩ := hΨ
    obtain ⟨hb1, hb2⟩ := hf b (MV.list []) (by simp)
    obtain ⟨st, hst⟩ : ∃ st, path[path.length - 1 - i]? = some st := ⟨_, List.getElem?_eq_getElem (by omega)⟩
    have hdrop : path.drop (path.length - (i + 1)) = st :: path.drop (path.length - i) := by
      have e1 : path.length - (i + 1) = path.length - 1 - i := by omega
      rw [e1, List.drop_eq_getElem_cons (by omega)]
      congr 1
      · exact (List.getElem?_eq_some_iff.mp hst).2
      · congr 1; omega
    have hlast : (path.drop (path.length - i)).isEmpty = decide (i = 0) := by
      by_cases h0 : i = 0
      · subst h0; simp
      · have : (path.drop (path.length - i)).length = i := by rw [List.length_drop]; omega
        cases hq : path.drop (path.length - i) with
        | nil => rw [hq] at this; simp at this; omega
        | cons => simp [h0]
    refine Exs.cons (Ex.forI (ds := rangeList 0 (kinds.length : Int) 1) (Km := fun _ => True) ?_ (fun j σ' μ' => μ' = μ ++ [(b, MV.list (((List.range j).map (stepW kinds past st (path.drop (path.length - i)).isEmpty (endsFrom kinds past (path.drop (path.length - i))))).map Wd.pv))] ∧ Has σ' "path" (.list (path.map .int)) ∧ Has σ' "kinds" (.list (kinds.map .int)) ∧ Has σ' "past" (.raw (.ref pa)) ∧
        Has σ' "ends" (.list ((endsFrom kinds past (path.drop (path.length - i))).map Wd.pv)) ∧ Has σ' "at" (.int ((path.length : Int) - 1 - (i : Int))) ∧ Has σ' "here" (.raw (.ref b))) ?_ (fun _ _ _ _ => trivial) ?_ ?_)
    · refine ItE.range hr.handled (Ev.callT (Ev.blt G hrange.none hrange.some) (Evs.cons (Ev.callB (Ev.blt G hlen.none hlen.some) (Evs.cons (Ev.name (d := .list (kinds.map .int)) (by walk_at "lk")) Evs.nil) (sp_len .fr (by omega))) Evs.nil) ?_) (small_of (by omega) (by omega) (.inl rfl))
      rw [hkl]
      exact sp_range1
    · exact ⟨rfl, by walk_at "lk", by walk_at "lk", by walk_at "lk", by walk_at "lk", by walk_at "lk", by walk_at "lk"⟩
    · rintro j σ₂ μ₂ d hj hd ⟨rfl, g1, g2, g3, g4, g5, g6⟩
      rw [rangeList_up] at hj hd
      simp only [List.length_map, List.length_range] at hj
      have hd' : d = .int (j : Int) := by
        simp only [List.getElem?_map, List.getElem?_range hj, Option.map_some, Option.some.injEq] at hd
        exact hd.symm
      subst hd'
      refine ⟨_, Asg.name, ?_⟩
      have hpa : pget (path.map PV.int) ((path.length : Int) - 1 - (i : Int)) = some (.int st) := by
        have e : (path.length : Int) - 1 - (i : Int) = ((path.length - 1 - i : Nat) : Int) := by omega
        rw [e]; exact pget_nat (by rw [List.getElem?_map, hst]; rfl)
      refine Exs.cons (Ex.assignT (d := (targetOf kinds past j st).pv) (Ev.call (Ev.glob G hgt) Ft.isFn (Evs.cons (Ev.name (by walk_at "lk")) (Evs.cons (Ev.item (Ev.name (d := .list (path.map .int)) (by walk_at "lk")) (Ev.name (d := .int ((path.length : Int) - 1 - (i : Int))) (by walk_at "lk")) .fr hpa (by omega)) (Evs.cons (Ev.name (d := .list (kinds.map .int)) (by walk_at "lk")) (Evs.cons (Ev.name (d := .raw (.ref pa)) (by walk_at "lk")) Evs.nil))))
        (spec_target G ht hp hr st hj (List.mem_append_left _ hm) hz (by omega))) (Asg.tuple hr.handled (.cons Asg.name (.cons Asg.name .nil rfl) rfl)) ?_)
      have hmem : (b, MV.list (((List.range j).map (stepW kinds past st (path.drop (path.length - i)).isEmpty (endsFrom kinds past (path.drop (path.length - i))))).map Wd.pv)) ∈ μ ++ [(b, MV.list (((List.range j).map (stepW kinds past st (path.drop (path.length - i)).isEmpty (endsFrom kinds past (path.drop (path.length - i))))).map Wd.pv))] := List.mem_append_right _ (List.mem_singleton.mpr rfl)
      have hsnoc : ((List.range j).map (stepW kinds past st (path.drop (path.length - i)).isEmpty (endsFrom kinds past (path.drop (path.length - i))))).map Wd.pv ++ [(stepW kinds past st (path.drop (path.length - i)).isEmpty (endsFrom kinds past (path.drop (path.length - i))) j).pv] = ((List.range (j + 1)).map (stepW kinds past st (path.drop (path.length - i)).isEmpty (endsFrom kinds past (path.drop (path.length - i))))).map Wd.pv := by
        rw [List.range_succ, List.map_append, List.map_append]; rfl
      have hzl : (((List.range j).map (stepW kinds past st (path.drop (path.length - i)).isEmpty (endsFrom kinds past (path.drop (path.length - i))))).map Wd.pv).length ≤ sizeLine := by simp; omega
      refine Exs.cons (Ex.ite (Tr.and (Tr.cmp (Ev.name (d := .str (targetOf kinds past j st).1) (by walk_at "lk")) Ev.str op_eqS) fun _ => Tr.and (Tr.cmp (Ev.name (d := .int ((path.length : Int) - 1 - (i : Int))) (by walk_at "lk")) (Ev.bin (Ev.callB (Ev.blt G hlen.none hlen.some) (Evs.cons (Ev.name (d := .list (path.map .int)) (by walk_at "lk")) Evs.nil) (sp_len .fr (by omega))) Ev.int op_subI) op_ltI) fun _ => Tr.and_nil) (fun hb => ?_) (fun hb => ?_))
      · have hb' : (targetOf kinds past j st).1 = ("number" : Str) ∧ ¬ i = 0 := by
          simp only [Bool.and_eq_true, beq_iff_eq, decide_eq_true_eq, hpl] at hb
          exact ⟨hb.1, by have := hb.2.1; omega⟩
        have hst' : stepW kinds past st (path.drop (path.length - i)).isEmpty (endsFrom kinds past (path.drop (path.length - i))) j = (("TypeError" : Str), (targetOf kinds past j st).2) := by
          unfold stepW
          rw [hlast]
          simp only [hb'.1]
          rw [if_neg (by decide), if_pos ⟨trivial, by simpa using hb'.2⟩]
        refine Exs.cons (Ex.assign Ev.str (Exs.nil ?_))
        refine Exs.cons (Ex.append (d := (stepW kinds past st (path.drop (path.length - i)).isEmpty (endsFrom kinds past (path.drop (path.length - i))) j).pv) (Ev.name (by walk_at "lk")) hmem (.inl hb1) ?_ hzl ?_)
        · rw [hst']
          refine Ev.ite (Tr.cmp (Ev.name (d := .str "TypeError") (by walk_at "lk")) Ev.str op_eqS) (fun h => absurd h (by decide)) (fun _ => ?_)
          exact Ev.tuple (Evs.cons (Ev.name (by walk_at "lk")) (Evs.cons (Ev.name (by walk_at "lk")) Evs.nil)) (by show 2 ≤ _; decide)
        · rw [mset_append_new hb2, hsnoc]
          exact Exs.nil ⟨rfl, by walk_at "lk", by walk_at "lk", by walk_at "lk", by walk_at "lk", by walk_at "lk", by walk_at "lk"⟩
      · have hb' : ¬ ((targetOf kinds past j st).1 = ("number" : Str) ∧ ¬ i = 0) := fun ⟨q1, q2⟩ => by
          have hlt : (path.length : Int) - 1 - (i : Int) < (path.length : Int) - 1 := by omega
          simp [q1, hpl, hlt] at hb
        refine Exs.nil ?_
        refine Exs.cons (Ex.append (d := (stepW kinds past st (path.drop (path.length - i)).isEmpty (endsFrom kinds past (path.drop (path.length - i))) j).pv) (Ev.name (by walk_at "lk")) hmem (.inl hb1) ?_ hzl ?_)
        · refine Ev.ite (Tr.cmp (Ev.name (d := .str (targetOf kinds past j st).1) (by walk_at "lk")) Ev.str op_eqS) (fun h => ?_) (fun h => ?_)
          · have hbx : (targetOf kinds past j st).1 = ("box" : Str) := by simpa using h
            obtain ⟨q, hq, hq2⟩ := target_box hbox hbx
            have hst' : stepW kinds past st (path.drop (path.length - i)).isEmpty (endsFrom kinds past (path.drop (path.length - i))) j = (endsFrom kinds past (path.drop (path.length - i))).getD q ("", 0) := by
              unfold stepW
              simp only [hbx, if_true, hq2, Int.toNat_natCast]
            rw [hst']
            have hql : q < (endsFrom kinds past (path.drop (path.length - i))).length := by rw [endsFrom_length]; exact hq
            refine Ev.item (i := (targetOf kinds past j st).2) (Ev.name (d := .list ((endsFrom kinds past (path.drop (path.length - i))).map Wd.pv)) (by walk_at "lk")) (Ev.name (by walk_at "lk")) .fr ?_ (by rw [List.length_map, endsFrom_length]; omega)
            rw [hq2]
            refine pget_nat ?_
            rw [List.getElem?_map, List.getElem?_eq_getElem hql, List.getD_eq_getElem?_getD, List.getElem?_eq_getElem hql]
            rfl
          · have hbx : ¬ (targetOf kinds past j st).1 = ("box" : Str) := by simpa using h
            have hst' : stepW kinds past st (path.drop (path.length - i)).isEmpty (endsFrom kinds past (path.drop (path.length - i))) j = targetOf kinds past j st := by
              unfold stepW
              rw [hlast]
              simp only [hbx, if_false]
              rw [if_neg]
              rintro ⟨q1, q2⟩
              exact hb' ⟨q1, by simpa using q2⟩
            rw [hst']
            exact Ev.tuple (Evs.cons (Ev.name (by walk_at "lk")) (Evs.cons (Ev.name (by walk_at "lk")) Evs.nil)) (by show 2 ≤ _; decide)
        · rw [mset_append_new hb2, hsnoc]
          exact Exs.nil ⟨rfl, by walk_at "lk", by walk_at "lk", by walk_at "lk", by walk_at "lk", by walk_at "lk", by walk_at "lk"⟩
    · rintro σ₂ μ₂ ⟨hμ, g1, g2, g3, g4, g5, g6⟩
      subst hμ
      have hjl : (rangeList 0 (kinds.length : Int) 1).length = kinds.length := by rw [rangeList_up]; simp
      rw [hjl]
      have hres : (List.range kinds.length).map (stepW kinds past st (path.drop (path.length - i)).isEmpty (endsFrom kinds past (path.drop (path.length - i)))) = endsFrom kinds past (path.drop (path.length - (i + 1))) := by rw [hdrop]; rfl
      rw [hres]
      refine Exs.freeze (x := "here") (List.mem_append_right _ (List.mem_singleton.mpr rfl)) hb1 g6 ?_
      rw [filter_append_new hb2]
      exact Exs.cons (Ex.assign (Ev.name lookup_put_eq) (Exs.nil ⟨rfl, by walk_at "lk", by walk_at "lk", by walk_at "lk", lookup_put_eq⟩))
  · rintro σ' μ' ⟨_, h1, h2, h3, h4⟩
    have hl : (rangeList ((path.length : Int) - 1) (-1) (-1)).length = path.length := by rw [rangeList_down]; simp
    rw [hl, Nat.sub_self, List.drop_zero] at h4
    exact Exs.cons (Ex.ret (Ev.name h4) rfl)
end Law1
end Mine

end

section
open PySem PySem.Calls PyProof.Rows
namespace Mine
local macro_rules | `(tactic| walk_at "lk") => `(tactic| first | assumption | exact lookup_put_eq | (refine (lookup_put_ne (by decide)).trans ?_; walk_at "lk"))
theorem op_isSelf {prog : Program} {w : World} {A : Around} {μ : Mu} {a : Addr} : Op2 prog w A μ (compareOp .Is) (.raw (.ref a)) (.raw (.ref a)) (.bool true) := fun B s v₁ v₂ at' h1 h2 => by
  cases h1; cases h2; exact Gives.of at'.le rfl fun Q E q => wpAny_is_ref_self q
theorem op_isNotNone {prog : Program} {w : World} {A : Around} {μ : Mu} : Op2 prog w A μ (compareOp .IsNot) .none .none (.bool false) := fun B s v₁ v₂ at' h1 h2 => by
  cases h1; cases h2; exact Gives.of at'.le rfl fun Q E q => wpAny_isNot_self rfl q
theorem sp_isinstInt {prog : Program} {w : World} {B₀ : Heap} {A : Around} {μ : Mu} {x : Int} : Sp prog w B₀ A μ (.builtin "isinstance") [.int x, .raw (.type "int")] (.bool true) := by
  intro B s vs _ at' hv
  obtain ⟨v, _, rfl, ⟨t, rfl⟩, v2, _, rfl, h2, rfl⟩ := hv
  cases h2
  exact Gives.of at'.le rfl fun Q E q => call_isinstance_yes (Tx := "int") rfl (by rfl) (by rw [isSubtype_type]; kernel_rfl) q

namespace Law1
variable {w : World} {B₀ : Heap} {mg mb : Str → Option Value} {A : Around} {μ : Mu}
/-- a thing, told which boxes there are -/
def Tg.tv (bs : List Addr) : Tg → PV
  | .box k => .raw (.ref (bs.getD k 0))
  | .num x => .int x
def boxesPv (bs : List Addr) : PV := .list (bs.map fun b => .raw (.ref b))

theorem fn_is {a : Addr} (h : FnAt B₀ mg pw 11 "_law_is" a) : ∃ pm code doc, FnIs B₀ a (docDef "_law_is" (paramsAt pw 11) (bodyAt pw 11) (scopeAt pw 11) pm code doc) ["thing", "target", "boxes"] (bodyAt pw 11) :=
  h.is _ fun pm code doc vs hv => match vs, hv with | [v1, v2, v3], _ => rfl

theorem spec_is {a : Addr} {bs : List Addr} (G : Gl B₀ mg mb) (h : FnAt B₀ mg pw 11 "_law_is" a) (hisi : Glb mg mb "isinstance" (.builtin "isinstance")) (hint : Glb mg mb "int" (.type "int")) (room : Rm A 1) (t : Tg) (hz : bs.length ≤ 1000)
    (hb : ∀ k, t = .box k → k < bs.length) : Sp pw w B₀ A μ (.ref a) [t.tv bs, t.pv, boxesPv bs] (.bool true) := by
  obtain ⟨pm, code, doc, F⟩ := fn_is h
  have hsz : sizeLine = 2 ^ 24 := rfl
  refine SpM.pure (SpM.fn G F room.lt rfl fun H₀ n => ?_)
  cases t with
  | box k =>
    have hk := hb k rfl
    refine Exs.cons (Ex.ite (Tr.cmp (Ev.itemT (Ev.name rfl) Ev.int (x := .str "box") rfl) Ev.str op_eqS) (fun _ => ?_) (fun h => absurd h (by decide)))
    refine Exs.cons (Ex.ret (Ev.cmp (Ev.name rfl) (Ev.item (Ev.name rfl) (Ev.itemT (Ev.name rfl) Ev.int (x := .int k) rfl) .fr (x := .raw (.ref (bs.getD k 0))) (pget_nat ?_) (by rw [List.length_map]; omega)) op_isSelf) rfl)
    rw [List.getElem?_map, List.getElem?_eq_getElem hk, List.getD_eq_getElem?_getD, List.getElem?_eq_getElem hk]; rfl
  | num x =>
    refine Exs.cons (Ex.ite (Tr.cmp (Ev.itemT (Ev.name rfl) Ev.int (x := .str "number") rfl) Ev.str op_eqS) (fun h => absurd h (by decide)) (fun _ => Exs.nil ?_))
    refine Exs.cons (Ex.ret (d := .bool true) (Ev.and2 (b := true) (Ev.callB (Ev.blt G hisi.none hisi.some) (Evs.cons (Ev.name rfl) (Evs.cons (Ev.blt G hint.none hint.some) Evs.nil)) sp_isinstInt) (fun _ => ?_) (fun h => absurd h (by decide))) rfl)
    exact Ev.cast (Ev.cmp (Ev.name rfl) (Ev.itemT (Ev.name rfl) Ev.int (x := .int x) rfl) op_eqI) (by simp)
end Law1
end Mine

end

section
open PySem PySem.Calls PyProof.Rows
namespace Mine
variable {prog : Program} {w : World}

/-! ## Exceptions -/
def Rest (s s' : Shared) : Prop := ∃ h t, s' = { s with heap := h, toks := t }
theorem Rest.trans {s s' s'' : Shared} (x : Rest s s') (y : Rest s' s'') : Rest s s'' := by
  obtain ⟨h, t, rfl⟩ := x
  obtain ⟨h', t', rfl⟩ := y
  exact ⟨h', t', rfl⟩
theorem Rest.refl (s : Shared) : Rest s s := ⟨s.heap, s.toks, rfl⟩
theorem Rest.heap {s : Shared} {h : Heap} : Rest s { s with heap := h } := ⟨h, s.toks, rfl⟩
def Aft (P : Heap) (s s' : Shared) : Prop := P.UpToSlots s'.heap ∧ Rest s s'
theorem Aft.heap {P : Heap} {s s' : Shared} {h : Heap} (x : Aft P s s') (k : s'.heap.UpToSlots h) : Aft P s { s' with heap := h } := ⟨x.1.trans k, x.2.trans Rest.heap⟩
theorem Aft.keeps {P : Heap} {s s₁ s' : Shared} (x : Aft P s s₁) (k : Le s₁.heap s'.heap) (r : Rest s₁ s') : Aft P s s' := ⟨x.1.trans (Heap.UpToSlots.of_keeps k), x.2.trans r⟩
/-- what may be touched was not there -/
theorem Aft.ext {P : Heap} {M : Addr → Prop} {B B' : Heap} {s s₁ s' : Shared} (x : Aft P s s₁) (e : Ext M B s₁ B' s') (hM : ∀ b, M b → P.get? b = none) : Aft P s s' :=
  ⟨fun b o hb hn => by obtain ⟨sl, h⟩ := x.1 b o hb hn; exact ⟨sl, e.keep b _ (fun z => by rw [hM b z] at hb; cases hb) h⟩, x.2.trans e.rest⟩

/-- an exception that left a call, in the frames l; what lies in base stays, what lies in P up to the frames' slots -/
def Fly (P base : Heap) (l : List Env) (e : Addr) (X : String) (s s' : Shared) : Prop := (∃ a0, Heap.FlyingW base l e (.type X) a0 s'.heap) ∧ Aft P s s'
theorem Fly.from {P base : Heap} {l : List Env} {e : Addr} {X : String} {s s₁ s' : Shared} (a : Aft P s s₁) (x : Fly s₁.heap base l e X s₁ s') : Fly P base l e X s s' := ⟨x.1, a.1.trans x.2.1, a.2.trans x.2.2⟩
/-- an exception within a frame -/
def Thrown (P base : Heap) (env : Env) (outer : List Env) (e : Addr) (X : String) (s s' : Shared) : Prop :=
  Aft P s s' ∧ ((∃ g, base.StaysIn g ∧ g.FunFrames base (env :: outer) ∧ Heap.NewExc g s'.heap e X) ∨ ∃ a0 L, env.frame = some L ∧ Heap.HeldW base (env :: outer) e (.type X) a0 L s'.heap)

section
variable {M : Model} {A : Around} {E : Value → Shared → Prop} {s s' : Shared} {P base : Heap} {env : Env} {outer : List Env} {L e : Addr} {X : String}
theorem thrown_leave {Q : Unit → Shared → Prop} (hfr : A.frames = some (env :: outer)) (hf : env.frame = some L) (ht : Thrown P base env outer e X s s') (q : ∀ s'', Fly P base outer e X s s'' → Q () s'') :
    wpAny M A (leaving env (.ref e)) Q E s' := by
  obtain ⟨haft, ⟨g, hkb, hl, hx⟩ | ⟨a0, L', hf', hh⟩⟩ := ht
  · obtain ⟨ob, tp, he, hcls, hd⟩ := hx.there
    have hen : base.get? e = none := by
      cases hq : base.get? e with
      | none => rfl
      | some o' => have := hkb e o' hq; rw [hx.new] at this; cases this
    refine wpAny_leaving_firstW (a0 := tp) hfr (hl.of_keeps fun b o hb _ => ⟨o, hx.keeps b o hb, rfl⟩) hf he (fun b o hb => hx.keeps b o (hkb b o hb)) hen hd rfl rfl fun h' hL => ?_
    obtain ⟨k1, ⟨_, _, k2⟩, k3, k4⟩ := hL
    exact q _ ⟨⟨tp, k1, hen, k2, by rw [← hcls]; exact k3⟩, haft.heap k4⟩
  · rw [hf] at hf'; cases hf'
    unfold leaving
    refine wpAny_bind (wpAny_noteFrame_againW hf hh.2.2.2 ?_)
    refine wpAny_landsW hh fun h' hfl k4 => ?_
    obtain ⟨k1, k2, ⟨_, _, k3⟩, k5⟩ := hfl
    exact q _ ⟨⟨a0, k1, k2, k3, k5⟩, haft.heap k4⟩
/-- a call's exception through the turn of a loop -/
theorem fly_turn (hfr : A.frames = some (env :: outer)) (hf : env.frame = some L) (ht : Fly P base (env :: outer) e X s s') (q : ∀ s'', Thrown P base env outer e X s s'' → E (.ref e) s'') :
    notedBy M A env (cameBackBy M A env E) (.ref e) s' := by
  obtain ⟨⟨a0, hfl⟩, haft⟩ := ht
  refine wpAny_looks_onW hfr hf hfl fun h₁ hh hu => ?_
  obtain ⟨k1, k2, k3, oe, vs, T, oT, ts, he, hcls, hd, h1, hnT, hTe, hT, hdT, h3⟩ := hh
  have hsz3 : 3 < ts.size := (Array.getElem?_eq_some_iff.mp h3).1
  refine wpAny_bind (wpAny_field he hd h1 ?_)
  rw [if_neg (show ¬ ((Value.ref T == Value.none) = true) from by simp)]
  unfold setFlight
  refine wpAny_bind (wpAny_field he hd h1 ?_)
  rw [if_pos (show (Value.ref T != Value.none) = true from by simp)]
  refine wpAny_setField hT hdT hsz3 (q _ ⟨(haft.heap hu).heap (s' := { s' with heap := h₁ }) fun b o hb hnf => ⟨o.slots, ?_⟩, .inr ⟨a0, L, hf, ?_⟩⟩)
  · have : b ≠ T := fun z => by rw [z] at hb; rw [hT] at hb; cases hb; exact hnf _ hdT
    exact (Heap.get?_update_other _ _ (Ne.symm this)).trans hb
  · have other : ∀ b, b ≠ T → (h₁.update T (Obj.mapFields (·.setIfInBounds 3 (env.frame.elim Value.none fun f => rawInt f)))).get? b = h₁.get? b := fun b hb => Heap.get?_update_other _ _ (Ne.symm hb)
    refine ⟨fun b o hbo => (other b fun z => by rw [z, hnT] at hbo; cases hbo).trans (k1 b o hbo), k2, k3.of_keeps fun b o hb hnf => ⟨o, (other b fun z => by rw [z, hT] at hb; cases hb; exact hnf _ hdT).trans hb, rfl⟩,
      oe, vs, T, _, _, (other e (Ne.symm hTe)).trans he, hcls, hd, h1, hnT, hTe, Heap.get?_update_self _ hT (Obj.isFreed_of_fields (Obj.data_mapFields hdT _)), Obj.data_mapFields hdT _, ?_⟩
    rw [hf]; simp [hsz3]
/-- a call's exception comes to a handler -/
theorem fly_try {Q : Unit → Shared → Prop} (hfr : A.frames = some (env :: outer)) (hf : env.frame = some L) (ht : Fly P base (env :: outer) e X s s') (q : ∀ s'', Fly P base (env :: outer) e X s s'' → Q () s'') :
    wpAny M A (noteFrame (.ref e) env) (fun _ s₂ => wpAny M A (setFlight (.ref e) none) Q E s₂) E s' := by
  obtain ⟨⟨a0, hfl⟩, haft⟩ := ht
  refine wpAny_looks_onW hfr hf hfl fun h₁ hh hu => ?_
  exact wpAny_landsW hh fun h₂ hfl₂ hu₂ => q _ ⟨⟨a0, hfl₂⟩, (haft.heap hu).heap (s' := { s' with heap := h₁ }) hu₂⟩
theorem fly_again {Q : Unit → Shared → Prop} (ht : Fly P base (env :: outer) e X s s') (q : ∀ s'', Fly P base (env :: outer) e X s s'' → Q () s'') : wpAny M A (setFlight (.ref e) none) Q E s' := by
  obtain ⟨⟨a0, hfl⟩, haft⟩ := ht
  exact lands_againW hfl fun h₂ hfl₂ hu₂ => q _ ⟨⟨a0, hfl₂⟩, haft.heap hu₂⟩
end

theorem frames_mem {h base : Heap} : ∀ {l : List Env}, h.FunFrames base l → ∀ env ∈ l, ∃ L o, env.frame = some L ∧ base.get? L = none ∧ h.get? L = some o
  | env :: rest, ⟨_, ⟨L, o, h1, h2, h3, _⟩, hr⟩, e, he => by
    rcases List.mem_cons.mp he with rfl | he
    · exact ⟨L, o, h1, h2, h3⟩
    · exact frames_mem hr e he
/-- what a call gives, or raises -/
def SpE (prog : Program) (w : World) (B₀ : Heap) (A : Around) (l : List Env) (W : List Addr) (μ : Mu) (f : Value) (ds : List PV) (Φ : PV → Mu → Prop) (Ψ : String → Prop) : Prop :=
  ∀ B s vs base, Le B₀ B → At prog w B s μ → Vals B ds vs → base.StaysIn s.heap → s.heap.FunFrames base l → ∀ (Q : Value → Shared → Prop) (E : Value → Shared → Prop),
    (∀ v d B' s' μ', Φ d μ' → Ext (· ∈ W) B s B' s' → Dom μ μ' s.heap → At prog w B' s' μ' → Val B' d v → Q v s') →
    (∀ e X s', Ψ X → Fly s.heap base l e X s s' → E (.ref e) s') → wpAny (model prog w) A (call f vs) Q E s
def ExsE (c : Ct) (outer : List Env) (σ : Sg) (μ : Mu) (sts : List Stmt) (Φ : Post) (Ψ : String → Prop) : Prop := ∀ B s base, c.St B s.heap σ μ → base.StaysIn s.heap → s.heap.FunFrames base (c.env :: outer) → (∀ a mv, (a, mv) ∈ μ → ∃ o, c.H₀.get? a = some o) → (∀ env ∈ outer, env.frame ≠ some c.env.locals) → c.H₀.UpToSlots s.heap → ∀ Q E, Done c μ B s Φ Q →
  (∀ e X s', Ψ X → Thrown c.H₀ base c.env outer e X s s' → E (.ref e) s') → wpAny (model c.prog c.w) c.A (execs sts c.env) Q E s

theorem SpE.fn {B₀ : Heap} {A : Around} {l : List Env} {W : List Addr} {μ : Mu} {mg mb : Str → Option Value} {a : Addr} {fd : FuncData} {names : List Str} {body : List Stmt} {ds : List PV} {Φ : PV → Mu → Prop} {Ψ : String → Prop}
    (G : Gl B₀ mg mb) (F : FnIs B₀ a fd names body) (room : A.depth < recursionLimit) (hlen : names.length = ds.length) (hfr : A.frames = some l)
    (h : ∀ H₀ n, ExsE (fnCt prog w B₀ H₀ W A fd n a) l (names.zip ds) μ body (RetPost Φ) Ψ) : SpE prog w B₀ A l W μ (.ref a) ds Φ Ψ := by
  intro B s vs base h0 hat hv hbase hff Q E q qe
  obtain ⟨o, ho, hd⟩ := F.obj
  have k0 : Le B₀ s.heap := h0.trans hat.le
  have hcell : ∀ x : Str, fd.scope.names.lookup x = some .cell → ∃ c, (cellsFrom (s.heap.objs.size + 1) fd.scope.names []).lookup x = some c := fun x hx => cellsFrom_has (.inl (mem_lookup_of hx))
  refine wpAny_call (call_cells (fd := fd) room (k0 _ _ ho) hd (G.nolimit.keeps k0) (F.code.keeps k0) F.body (F.bind s vs k0 (by rw [hv.length, hlen])) F.clo (fun x hx => ?_) (fun s₁ X => ?_) F.co F.gen F.kind)
  · have hx' : x.1 ∈ names := zip_fst_sub (List.mem_map_of_mem hx)
    have := F.kinds x.1 hx'
    cases hk : fd.scope.names.lookup x.1 with
    | none => rw [hk] at this; cases this
    | some k =>
      rw [hk] at this
      cases k with
      | «local» => exact .inl rfl
      | cell => obtain ⟨c, hc⟩ := hcell x.1 hk; exact .inr ⟨rfl, by rw [hc]; rfl⟩
      | _ => cases this
  · obtain ⟨h₁, tk, rfl, hkeep⟩ := X.done
    have hnd : ((cellsFrom (s.heap.objs.size + 1) fd.scope.names []).map (·.1)).Nodup := by
      rw [cellsFrom_names fd.scope.names (s.heap.objs.size + 1) 0 [] [] rfl]; exact F.cells
    have hge : ∀ b, s.heap.objs.size ≤ b → s.heap.get? b = none := fun b hb => by
      cases e : s.heap.get? b with
      | none => rfl
      | some o => exact absurd (Heap.lt_size e) (Nat.not_lt.mpr hb)
    have hown : ∀ b, Own (fun _ => true) (callEnvC fd s.heap.objs.size a) b → s.heap.get? b = none := fun b hb => by
      rcases hb with rfl | ⟨y, hy, _⟩
      · exact hge _ (Nat.le_refl _)
      · exact hge _ (Nat.le_of_lt (X.above y b hy))
    have Bn : ∀ b, s.heap.get? b = none → B.get? b = none := fun b hb => by
      cases e : B.get? b with
      | none => rfl
      | some o => rw [hat.le b o e] at hb; cases hb
    have hck : ∀ x c, (x, c) ∈ cellsFrom (s.heap.objs.size + 1) fd.scope.names [] → fd.scope.names.lookup x ≠ some .local := fun x c hc hl => by
      rcases mem_cellsFrom hc with h | h
      · simp at h
      · have := lookup_of_mem_nodup2 F.snames h.2
        rw [hl] at this; cases this
    have S : (fnCt prog w B₀ s.heap W A fd s.heap.objs.size a).St B h₁ (names.zip ds) μ := by
      refine ⟨⟨h0, hat.le.trans hkeep, F.kind, F.glob, F.blt, ⟨_, X.toInCall.ns, fun x d h1 h2 => bindL_zip h1 F.nodup hv h2⟩, fun x c hc => ?_, fun x hk => ?_, fun x y c h1 h2 => name_of_addr X.apart h1 h2, fun x c hc => ?_, fun x c hc => Nat.ne_of_gt (X.above x c hc), Bn _ (hge _ (Nat.le_refl _)), fun x c hc => Bn _ (hge _ (Nat.le_of_lt (X.above x c hc))), hge _ (Nat.le_refl _), fun x c hc _ => hge _ (Nat.le_of_lt (X.above x c hc)), fun b o hb => ⟨o, hkeep b o hb⟩⟩, ⟨fun b mv hm => ?_, hat.mu.nodup⟩, fun b mv hm => ?_, fun b mv hm x c hc => ?_⟩
      · have hl := lookup_of_mem_nodup hnd hc
        refine ⟨_, X.cell x c hl, fun d _ h2 => ?_⟩
        exact bindC_zip (hck x c hc) F.nodup hv h2
      · rcases hk with hk | hk
        · exact hcell x hk
        · exact absurd rfl (F.free _ (mem_lookup_of hk))
      · exact hck x c hc
      · exact ⟨(hat.mu.val b mv hm).1, (hat.mu.val b mv hm).2.keep (Le.refl _) fun o e => hkeep b o e⟩
      · exact Nat.ne_of_lt (hat.mu.val b mv hm).2.lt
      · exact Nat.ne_of_lt (Nat.lt_trans (hat.mu.val b mv hm).2.lt (X.above x c hc))
    have hb1 : base.StaysIn h₁ := fun b o e => hkeep b o (hbase b o e)
    have hbn : base.get? s.heap.objs.size = none := hbase.fresh
    have hff1 : h₁.FunFrames base (callEnvC fd s.heap.objs.size a :: l) := .cons (by show fd.scope.kind ≠ .module; rw [F.kind]; decide) rfl X.toInCall.ns hbn (hff.of_keeps fun b o e _ => ⟨o, hkeep b o e, rfl⟩)
    have key := h s.heap s.heap.objs.size B { s with heap := h₁, toks := tk } base S hb1 hff1 (fun b mv hm => (hat.mu.val b mv hm).2.get) (fun env he hz => by
      obtain ⟨L, o, h1, _, h3⟩ := frames_mem hff env he
      rw [h1] at hz; cases hz
      exact absurd (Heap.lt_size h3) (Nat.lt_irrefl _)) (Heap.UpToSlots.of_keeps hkeep) (fun f s' => (match (Except.ok (Flow.ret (match f with | .ret v => v | _ => .none)) : Result) with | .ok (.ret v) => Q v s' | .ok _ => False | .error e => E e s')) (fun e s' => wpAny (model prog w) (A.deeper (callEnvC fd s.heap.objs.size a)) (leaving (callEnvC fd s.heap.objs.size a) e) (fun _ s'' => E e s'') (fun e' s'' => E e' s'') s')
    refine key (fun fl flow B' s' σ' μ' hΦ hf e d' S' => ?_) fun e X' s' hΨ ht => ?_
    · have x0 : Ext (· ∈ W) B s B { s with heap := h₁, toks := tk } := Ext.heap (hat.le.trans hkeep) (fun b o _ e => hkeep b o e) tk
      have e' : Ext (· ∈ W) B s B' s' := x0.trans e fun b hb => by
        rcases hb with hb | ⟨_, hb | hb⟩
        · exact .inr (hown b hb)
        · exact .inr hb
        · exact .inl hb
      have d2 : Dom μ μ' s.heap := fun b mv hm => by
        rcases d' b mv hm with h | h
        · exact .inl h
        · refine .inr ?_
          cases q : s.heap.get? b with
          | none => rfl
          | some o => have h' : h₁.get? b = none := h; rw [hkeep b o q] at h'; cases h'
      cases fl with
      | next => cases hf; exact q _ _ B' s' μ' hΦ e' d2 S'.at rfl
      | brk => exact hΦ.elim
      | cont => exact hΦ.elim
      | ret r => obtain ⟨u, rfl, hu⟩ := hf; exact q _ _ B' s' μ' hΦ e' d2 S'.at hu
    · refine thrown_leave (Around.frames_deeper hfr) rfl ht fun s'' hfl => qe e X' s'' hΨ ⟨hfl.1, hfl.2.1, Rest.trans ⟨h₁, tk, rfl⟩ hfl.2.2⟩

/-! ## Statements that may raise -/
theorem frames_keep {h h' base : Heap} : ∀ {l : List Env}, h.FunFrames base l → (∀ env ∈ l, ∀ L o, env.frame = some L → h.get? L = some o → h'.get? L = some o) → h'.FunFrames base l
  | [], _, _ => trivial
  | env :: rest, ⟨k, ⟨L, o, h1, h2, h3, h4⟩, hr⟩, hk => ⟨k, ⟨L, o, h1, h2, hk env (by simp) L o h1 h3, h4⟩, frames_keep hr fun e he => hk e (List.mem_cons_of_mem _ he)⟩
/-- the frames stand, and the base -/
def Kp (c : Ct) (outer : List Env) (base : Heap) (s : Shared) : Prop := base.StaysIn s.heap ∧ s.heap.FunFrames base (c.env :: outer)
theorem Kp.ext {c : Ct} {outer : List Env} {base B B' : Heap} {s s' : Shared} {σ : Sg} {μ : Mu} {M : Addr → Prop} (x : Kp c outer base s) (hf : c.env.frame = some c.env.locals) (S' : c.St B' s'.heap σ μ) (e : Ext M B s B' s')
    (hM : ∀ b, M b → b ≠ c.env.locals → base.get? b = none ∧ ∀ env ∈ outer, env.frame ≠ some b) (ho : ∀ env ∈ outer, env.frame ≠ some c.env.locals) : Kp c outer base s' := by
  obtain ⟨x1, hk, ⟨L, o, hL, hn, ho', hd⟩, hr⟩ := x
  rw [hf] at hL; cases hL
  obtain ⟨m, hm, _⟩ := S'.en.loc
  refine ⟨fun b ob eb => e.keep b ob (fun hb => ?_) (x1 b ob eb), .cons hk hf hm hn (frames_keep hr fun env he L ob h1 h2 => e.keep L ob (fun hb => ?_) h2)⟩
  · by_cases z : b = c.env.locals
    · rw [z, hn] at eb; cases eb
    · rw [(hM b hb z).1] at eb; cases eb
  · by_cases z : L = c.env.locals
    · exact ho env he (z ▸ h1)
    · exact (hM L hb z).2 env he h1
section
variable {c : Ct} {outer : List Env} {σ : Sg} {μ : Mu} {Φ : Post} {Ψ : String → Prop}
theorem Exs.toE {sts : List Stmt} (h : Exs c σ μ sts Φ) : ExsE c outer σ μ sts Φ Ψ := fun B s base S _ _ _ _ _ Q E q _ => h B s S Q E q
end
end Mine

end

section
open PySem PySem.Calls PyProof.Rows
namespace Mine
variable {prog : Program} {w : World} {A : Around}

/-! ## What is found, and put, at an index -/
theorem lookup_vals {B : Heap} {k : Int} : ∀ {kvs : List (Int × PV)} {us : List (Int × Value)}, us.map (·.1) = kvs.map (·.1) → Vals B (kvs.map (·.2)) (us.map (·.2)) →
    (∀ x, kvs.lookup k = some x → ∃ v, valueAt us k = some v ∧ Val B x v) ∧ (kvs.lookup k = none → valueAt us k = none)
  | [], [], _, _ => ⟨fun x h => by simp at h, fun _ => rfl⟩
  | [], _ :: _, h, _ => by simp at h
  | _ :: _, [], h, _ => by simp at h
  | (k', x') :: r, (k'', v') :: r', h, hv => by
    simp only [List.map_cons, List.cons.injEq] at h
    obtain ⟨h1, h2⟩ := h
    obtain ⟨v, rr, e, hv1, hv2⟩ := hv
    cases e
    have ih := lookup_vals (k := k) h2 hv2
    subst h1
    by_cases hk : k = k''
    · subst hk
      refine ⟨fun x hx => ?_, fun hn => ?_⟩
      · simp at hx; subst hx; exact ⟨v', by simp [valueAt], hv1⟩
      · simp at hn
    · have h1 : (k == k'') = false := by simpa using hk
      have h2 : ¬ k'' = k := fun q => hk q.symm
      have e1 : valueAt ((k'', v') :: r') k = valueAt r' k := by simp [valueAt, List.find?_cons, h2]
      have e2 : List.lookup k ((k'', x') :: r) = List.lookup k r := by rw [List.lookup_cons, h1]
      refine ⟨fun x hx => ?_, fun hn => ?_⟩
      · rw [e1]; exact ih.1 x (by rw [← e2]; exact hx)
      · rw [e1]; exact ih.2 (by rw [← e2]; exact hn)
def kput (kvs : List (Int × PV)) (k : Int) (d : PV) : List (Int × PV) := if kvs.any (fun kv => kv.1 = k) then kvs.map (fun kv => if kv.1 = k then (kv.1, d) else kv) else kvs ++ [(k, d)]
theorem any_keys {α β : Type} {k : Int} : ∀ {kvs : List (Int × α)} {us : List (Int × β)}, us.map (·.1) = kvs.map (·.1) → us.any (fun kv => kv.1 = k) = kvs.any (fun kv => kv.1 = k)
  | [], [], _ => rfl
  | [], _ :: _, h => by simp at h
  | _ :: _, [], h => by simp at h
  | (a, _) :: r, (b, _) :: r', h => by
    simp only [List.map_cons, List.cons.injEq] at h
    rw [List.any_cons, List.any_cons, any_keys h.2, h.1]
theorem stored_vals {B : Heap} {k : Int} {d : PV} {v : Value} (hd : Val B d v) {kvs : List (Int × PV)} {us : List (Int × Value)} (h : us.map (·.1) = kvs.map (·.1)) (hv : Vals B (kvs.map (·.2)) (us.map (·.2))) :
    (stored us k v).map (·.1) = (kput kvs k d).map (·.1) ∧ Vals B ((kput kvs k d).map (·.2)) ((stored us k v).map (·.2)) := by
  unfold stored kput
  rw [any_keys h]
  split
  · rename_i hany; clear hany
    induction kvs generalizing us with
    | nil => cases us with
      | nil => exact ⟨rfl, rfl⟩
      | cons => simp at h
    | cons p r ih => cases us with
      | nil => simp at h
      | cons p' r' =>
        obtain ⟨k1, x1⟩ := p; obtain ⟨k2, v2⟩ := p'
        simp only [List.map_cons, List.cons.injEq] at h
        obtain ⟨h1, h2⟩ := h
        subst h1
        obtain ⟨v', rr, e, hv1, hv2⟩ := hv
        cases e
        obtain ⟨i1, i2⟩ := ih h2 hv2
        by_cases hk : k2 = k
        · simp only [List.map_cons, hk, if_true, i1]
          exact ⟨trivial, .cons hd i2⟩
        · simp only [List.map_cons, hk, if_false, i1]
          exact ⟨trivial, .cons hv1 i2⟩
  · refine ⟨by simp [h], ?_⟩
    rw [List.map_append, List.map_append]
    exact hv.append ⟨v, [], rfl, hd, rfl⟩
theorem Vals.set {B : Heap} {d : PV} {v : Value} (hd : Val B d v) : ∀ {ds : List PV} {vs : List Value} {j : Nat}, Vals B ds vs → Vals B (ds.set j d) (vs.set j v)
  | [], _, _, e => by subst e; rfl
  | _ :: _, _, 0, ⟨_, r, e, _, h⟩ => by subst e; exact ⟨v, r, rfl, hd, h⟩
  | _ :: _, _, j + 1, ⟨u, r, e, h1, h⟩ => by subst e; exact ⟨u, r.set j v, rfl, h1, h.set hd⟩

inductive Item (μ : Mu) (k : Int) : PV → Except String PV → Prop where
  | list {b : Addr} {ds : List PV} {j : Nat} {x : PV} : (b, MV.list ds) ∈ μ → idxOf k ds.length = some j → ds[j]? = some x → Item μ k (.raw (.ref b)) (.ok x)
  | listOut {b : Addr} {ds : List PV} : (b, MV.list ds) ∈ μ → idxOf k ds.length = none → Item μ k (.raw (.ref b)) (.error "IndexError")
  | dict {b : Addr} {kvs : List (Int × PV)} {x : PV} : (b, MV.dict kvs) ∈ μ → kvs.lookup k = some x → Item μ k (.raw (.ref b)) (.ok x)
  | dictOut {b : Addr} {kvs : List (Int × PV)} : (b, MV.dict kvs) ∈ μ → kvs.lookup k = none → (b == sysModules) = false → Item μ k (.raw (.ref b)) (.error "KeyError")
  | int {x : Int} : Item μ k (.int x) (.error "TypeError")
inductive SetIt (μ : Mu) (k : Int) (x : PV) : PV → Except String (Addr × MV) → Prop where
  | list {b : Addr} {ds : List PV} {j : Nat} : (b, MV.list ds) ∈ μ → idxOf k ds.length = some j → SetIt μ k x (.raw (.ref b)) (.ok (b, .list (ds.set j x)))
  | listOut {b : Addr} {ds : List PV} : (b, MV.list ds) ∈ μ → idxOf k ds.length = none → SetIt μ k x (.raw (.ref b)) (.error "IndexError")
  | dict {b : Addr} {kvs : List (Int × PV)} : (b, MV.dict kvs) ∈ μ → kvs.length ≤ sizeLine → SetIt μ k x (.raw (.ref b)) (.ok (b, .dict (kput kvs k x)))
  | int {y : Int} : SetIt μ k x (.int y) (.error "TypeError")

def NewE (s : Shared) (e : Addr) (X : String) (s' : Shared) : Prop := Heap.NewExc s.heap s'.heap e X ∧ ∃ h t, s' = { s with heap := h, toks := t }

theorem get_item {μ : Mu} {k : Int} {d : PV} {r : Except String PV} (I : Item μ k d r) (hk : k.natAbs < 2 ^ 60) (hh : A.handled = none) {B : Heap} {s : Shared} {v₁ : Value} {t : Tok} (at' : At prog w B s μ) (hv : Val B d v₁)
    {Q : Value → Shared → Prop} {E : Value → Shared → Prop} (q : ∀ x v s', r = .ok x → ExtE B s B s' → Val B x v → Q v s') (qe : ∀ X e s', r = .error X → NewE s e X s' → E (.ref e) s') :
    wpAny (model prog w) A (getItem v₁ (.int k t)) Q E s := by
  cases I with
  | @list b ds j x hm hj hx =>
    cases hv
    obtain ⟨vs, n, ho, hvs⟩ := (at'.mu.val _ _ hm).2
    have hl : s.heap.IsList b vs.toArray := ⟨_, ho, rfl, n, rfl⟩
    obtain ⟨v, hv1, hv2⟩ := hvs.get hx
    have hlen := hvs.length
    unfold idxOf at hj
    split at hj
    · rename_i h0
      split at hj
      · cases hj
        exact wpAny_getItem_list hl h0 (by omega) (by simpa using hv1) (q x v s rfl (Ext.refl at'.le) hv2)
      · cases hj
    · split at hj
      · rename_i h0 h1
        cases hj
        exact wpAny_getItem_list_neg hl (by omega) (by rw [List.size_toArray, hlen]; exact h1) (by omega) (by rw [List.size_toArray, hlen]; simpa using hv1) (q x v s rfl (Ext.refl at'.le) hv2)
      · cases hj
  | @listOut b ds hm hj =>
    cases hv
    obtain ⟨vs, n, ho, hvs⟩ := (at'.mu.val _ _ hm).2
    have hl : s.heap.IsList b vs.toArray := ⟨_, ho, rfl, n, rfl⟩
    have hlen := hvs.length
    have hout : k < -(vs.toArray.size : Int) ∨ (vs.toArray.size : Int) ≤ k := by
      rw [List.size_toArray, hlen]
      unfold idxOf at hj
      split at hj
      · split at hj
        · cases hj
        · omega
      · split at hj
        · cases hj
        · omega
    exact wpAny_getItem_list_out hh hl hout (by omega) (by omega) fun h' tk e hx => qe _ e _ rfl ⟨hx, h', tk, rfl⟩
  | @dict b kvs x hm hx =>
    cases hv
    obtain ⟨us, hD, hks, hvs⟩ := (at'.mu.val _ _ hm).2
    obtain ⟨v, hv1, hv2⟩ := (lookup_vals hks hvs).1 x hx
    exact wpAny_getItem_of (intKind_is prog w k t) hD.mapOf hv1 (q x v _ rfl (Ext.tok at'.le _) hv2)
  | @dictOut b kvs hm hx hs =>
    cases hv
    obtain ⟨us, hD, hks, hvs⟩ := (at'.mu.val _ _ hm).2
    exact wpAny_getItem_missing_of (intKind_is prog w k t) hs hh hD.mapOf ((lookup_vals hks hvs).2 hx) fun h' e hx => qe _ e _ rfl ⟨hx, h', _, rfl⟩
  | int =>
    obtain ⟨u, rfl⟩ := hv
    exact getItem_int hh fun h' tk e hx => qe _ e _ rfl ⟨hx, h', tk, rfl⟩

theorem tail_item {μ : Mu} {k : Int} {d : PV} {r : Except String PV} (I : Item μ k d r) (hk : k.natAbs < 2 ^ 60) (hh : A.handled = none) {value slice : Expr} {B : Heap} {s : Shared} {v₁ : Value} {t : Tok} (at' : At prog w B s μ) (hv : Val B d v₁)
    (hs : ∀ v, subscripted slice false v (.int k t) = operate [v, .int k t] (getItem v (.int k t)))
    {Q : Value → Shared → Prop} {E : Value → Shared → Prop} (q : ∀ x v s', r = .ok x → ExtE B s B s' → Val B x v → Q v s') (qe : ∀ X e s', r = .error X → NewE s e X s' → E (.ref e) s') :
    wpAny (model prog w) A (subscriptTail value slice v₁ (.int k t)) Q E s := by
  have g := get_item I hk hh (t := t) at' hv q qe
  have fin : wpAny (model prog w) A (subscripted slice false v₁ (.int k t)) (fun r s₃ => wpAny (model prog w) A (letTemporaryGo value v₁ r >>= fun _ => pure r) Q E s₃) E s := by
    rw [hs]
    exact wpAny_operating (wpAny_mono g (fun r s₃ h₃ => wpAny_bind (wpAny_letTemporaryGo (wpAny_pure h₃))) fun _ _ x => x)
  have lst : ∀ {b : Addr} {ds : List PV}, (b, MV.list ds) ∈ μ → s.TypeIs (.ref b) "list" := fun hm => by
    obtain ⟨vs, n, ho, _⟩ := (at'.mu.val _ _ hm).2
    exact (show s.heap.IsList _ vs.toArray from ⟨_, ho, rfl, n, rfl⟩).typeIs
  have dct : ∀ {b : Addr} {kvs : List (Int × PV)}, (b, MV.dict kvs) ∈ μ → s.TypeIs (.ref b) "dict" := fun hm => by
    obtain ⟨us, hD, _⟩ := (at'.mu.val _ _ hm).2
    exact hD.mapOf.typeIs
  cases I with
  | list hm _ _ => cases hv; exact tail_any (lst hm) slot_list_getitem.lookup g (hs _)
  | listOut hm _ => cases hv; exact tail_any (lst hm) slot_list_getitem.lookup g (hs _)
  | dict hm _ => cases hv; exact tail_any (dct hm) slot_dict_getitem.lookup g (hs _)
  | dictOut hm _ _ => cases hv; exact tail_any (dct hm) slot_dict_getitem.lookup g (hs _)
  | int =>
    obtain ⟨u, rfl⟩ := hv
    unfold subscriptTail
    refine wpAny_bind ?_
    unfold getitemInPython
    refine wpAny_bind (wpAny_specialOf (typeIs_int s _ u) int_no_getitem ?_)
    exact wpAny_pure (wpAny_bind fin)

theorem set_item {μ : Mu} {k : Int} {d x : PV} {r : Except String (Addr × MV)} (I : SetIt μ k x d r) (hk : k.natAbs < 2 ^ 60) (hh : A.handled = none) {B : Heap} {s : Shared} {v₁ v : Value} {t : Tok} (at' : At prog w B s μ) (hv : Val B d v₁) (hx : Val B x v)
    {Q : Unit → Shared → Prop} {E : Value → Shared → Prop} (q : ∀ b mv m h' tk, r = .ok (b, mv) → (b, m) ∈ μ → d = .raw (.ref b) → Heap.SameBut b s.heap h' → MVal prog w B h' b mv → Q () { s with heap := h', toks := tk }) (qe : ∀ X e s', r = .error X → NewE s e X s' → E (.ref e) s') :
    wpAny (model prog w) A (setItem v₁ (.int k t) v) Q E s := by
  cases I with
  | @list b ds j hm hj =>
    cases hv
    obtain ⟨vs, n, ho, hvs⟩ := (at'.mu.val _ _ hm).2
    have hlen := hvs.length
    exact setItem_list ho (by omega) (by omega) (by rw [hlen]; exact hj) fun h' n' h1 h2 => q b _ _ h' s.toks rfl hm rfl h2 ⟨_, n', h1, hvs.set hx⟩
  | @listOut b ds hm hj =>
    cases hv
    obtain ⟨vs, n, ho, hvs⟩ := (at'.mu.val _ _ hm).2
    have hl : s.heap.IsList b vs.toArray := ⟨_, ho, rfl, n, rfl⟩
    have hlen := hvs.length
    exact setItem_list_out hh hl (by rw [List.size_toArray, hlen]; exact hj) (by omega) (by omega) fun h' tk e hx => qe _ e _ rfl ⟨hx, h', tk, rfl⟩
  | @dict b kvs hm hz =>
    cases hv
    obtain ⟨us, hD, hks, hvs⟩ := (at'.mu.val _ _ hm).2
    have hl : us.length = kvs.length := by have := congrArg List.length hks; simpa using this
    refine wpAny_setItem_pairs (intKind_is prog w k t) hD (fun h' h1 h2 => q b _ _ h' _ rfl hm rfl h2 ?_) (by rw [hl]; exact hz)
    obtain ⟨i1, i2⟩ := stored_vals (k := k) hx hks hvs
    exact ⟨_, h1, i1, i2⟩
  | int =>
    obtain ⟨u, rfl⟩ := hv
    exact setItem_int hh fun h' tk e hx => qe _ e _ rfl ⟨hx, h', tk, rfl⟩
end Mine

end

section
open PySem PySem.Calls PyProof.Rows
namespace Mine
local macro_rules | `(tactic| walk_at "lk") => `(tactic| first | assumption | exact lookup_put_eq | (refine (lookup_put_ne (by decide)).trans ?_; walk_at "lk"))

theorem Thrown.new {P base : Heap} {env : Env} {outer : List Env} {e : Addr} {X : String} {s s₁ s' : Shared} (hb : base.StaysIn s₁.heap) (hf : s₁.heap.FunFrames base (env :: outer)) (a : Aft P s s₁) (h : NewE s₁ e X s') : Thrown P base env outer e X s s' :=
  ⟨a.keeps h.1.keeps h.2, .inl ⟨s₁.heap, hb, hf, h.1⟩⟩
theorem ExtE.aft {P B B' : Heap} {s s' : Shared} (h : P.UpToSlots s.heap) (e : ExtE B s B' s') : Aft P s s' := Aft.keeps ⟨h, Rest.refl _⟩ e.keepE e.rest
theorem ExtE.stays {B B' base : Heap} {s s' : Shared} (e : ExtE B s B' s') (h : base.StaysIn s.heap) : base.StaysIn s'.heap := fun b o q => e.keepE b o (h b o q)
theorem ExtE.frames {B B' base : Heap} {s s' : Shared} {l : List Env} (e : ExtE B s B' s') (h : s.heap.FunFrames base l) : s'.heap.FunFrames base l := h.of_keeps fun b o q _ => ⟨o, e.keepE b o q, rfl⟩

theorem Ev.run {c : Ct} {σ : Sg} {μ : Mu} {e : Expr} {d : PV} {B : Heap} {s : Shared} {Q : Value → Shared → Prop} {E : Value → Shared → Prop} (S : c.St B s.heap σ μ) (h : Ev c σ μ e d) (q : ∀ v B' s', ExtE B s B' s' → Val B' d v → Q v s') :
    wpAny (model c.prog c.w) c.A (eval e c.env) Q E s := h B s S Q E q

theorem Evs.run {c : Ct} {σ : Sg} {μ : Mu} {pos : Pos} {es : List Expr} {ds : List PV} {B : Heap} {s : Shared} {Q : List Value → Shared → Prop} {E : Value → Shared → Prop} (S : c.St B s.heap σ μ) (h : Evs c σ μ pos es ds) (q : ∀ vs B' s', ExtE B s B' s' → Vals B' ds vs → Q vs s') :
    wpAny (model c.prog c.w) c.A (spliced (backTo pos (starEach es c.env))) Q E s := h B s S Q E q
theorem Ex.run {c : Ct} {σ : Sg} {μ : Mu} {st : Stmt} {Φ : Post} {B : Heap} {s : Shared} {Q : Flow → Shared → Prop} {E : Value → Shared → Prop} (S : c.St B s.heap σ μ) (h : Ex c σ μ st Φ) (q : Done c μ B s Φ Q) :
    wpAny (model c.prog c.w) c.A (exec st c.env) Q E s := h B s S Q E q

namespace Law1
variable {w : World} {B₀ : Heap} {mg mb : Str → Option Value} {A : Around} {μ : Mu} {l : List Env}

theorem fn_getitem {a : Addr} (h : FnAt B₀ mg pw 1 "getitem" a) : ∃ pm code doc, FnIs B₀ a (docDef "getitem" (paramsAt pw 1) (bodyAt pw 1) (scopeAt pw 1) pm code doc) ["a", "b"] (bodyAt pw 1) :=
  h.is _ fun pm code doc vs hv => match vs, hv with | [v1, v2], _ => rfl
theorem fn_setitem {a : Addr} (h : FnAt B₀ mg pw 2 "setitem" a) : ∃ pm code doc, FnIs B₀ a (docDef "setitem" (paramsAt pw 2) (bodyAt pw 2) (scopeAt pw 2) pm code doc) ["a", "b", "c"] (bodyAt pw 2) :=
  h.is _ fun pm code doc vs hv => match vs, hv with | [v1, v2, v3], _ => rfl

theorem spec_getitem {a : Addr} {d : PV} {k : Int} {r : Except String PV} (G : Gl B₀ mg mb) (h : FnAt B₀ mg pw 1 "getitem" a) (room : Rm A 1) (hfr : A.frames = some l) (I : Item μ k d r) (hk : k.natAbs < 2 ^ 60) :
    SpE pw w B₀ A l [] μ (.ref a) [d, .int k] (fun x μ' => r = .ok x ∧ μ' = μ) (fun X => r = .error X) := by
  obtain ⟨pm, code, doc, F⟩ := fn_getitem h
  refine SpE.fn G F room.lt rfl hfr fun H₀ n => ?_
  intro B s base S hb hf _ _ hup Q E q qe
  refine wpAny_execs_cons (wpAny_Return_some (Subscript_ (Ev.run S (Ev.name (d := d) rfl) fun v₁ B₁ s₁ e₁ h₁ => Ev.run (S.ext e₁) (Ev.name (d := .int k) rfl) fun v₂ B₂ s₂ e₂ h₂ => ?_)))
  obtain ⟨t, rfl⟩ := h₂
  have e := e₁.transE e₂
  refine tail_item I hk (by exact room.handled) (S.ext e).at (h₁.le e₂.le) (by intro _; rfl) (fun x v s' hr e' hv => ?_) (fun X x s' hr hx => ?_)
  · exact q (.ret x) (.ret v) B₂ s' _ μ ⟨hr, rfl⟩ ⟨v, rfl, hv⟩ (e.transE e').ofE (Dom.refl _ _) (S.ext (e.transE e'))
  · exact qe x X s' hr (Thrown.new (ExtE.stays e hb) (ExtE.frames e hf) (ExtE.aft hup e) hx)

theorem spec_setitem {a : Addr} {d x : PV} {k : Int} {W : List Addr} {r : Except String (Addr × MV)} (G : Gl B₀ mg mb) (h : FnAt B₀ mg pw 2 "setitem" a) (room : Rm A 1) (hfr : A.frames = some l) (I : SetIt μ k x d r) (hk : k.natAbs < 2 ^ 60)
    (hW : ∀ b mv, r = .ok (b, mv) → b ∈ W) :
    SpE pw w B₀ A l W μ (.ref a) [d, .int k, x] (fun y μ' => y = .none ∧ ∃ b mv, r = .ok (b, mv) ∧ μ' = mset b mv μ) (fun X => r = .error X) := by
  obtain ⟨pm, code, doc, F⟩ := fn_setitem h
  refine SpE.fn G F room.lt rfl hfr fun H₀ n => ?_
  intro B s base S hb hf _ _ hup Q E q qe
  refine wpAny_execs_cons (wpAny_Assign_Subscript (Ev.run S (Ev.name (d := x) rfl) fun v₀ B₀' s₀ e₀ h₀ => Ev.run (S.ext e₀) (Ev.name (d := d) rfl) fun v₁ B₁ s₁ e₁ h₁ => Ev.run ((S.ext e₀).ext e₁) (Ev.name (d := .int k) rfl) fun v₂ B₂ s₂ e₂ h₂ => ?_) rfl)
  obtain ⟨t, rfl⟩ := h₂
  have e := (e₀.transE e₁).transE e₂
  have S₂ := S.ext e
  refine set_item I hk (by exact room.handled) S₂.at (h₁.le e₂.le) ((h₀.le e₁.le).le e₂.le) (fun b mv m h' tk hr hm hd hs hv => ?_) (fun X x s' hr hx => ?_)
  · obtain ⟨x1, S3, d3⟩ := St.turn (t := tk) S₂ hm (.inr (hW b mv hr)) hs hv
    refine wpAny_execs_nil (q .next .next B₂ _ _ _ ⟨rfl, b, mv, hr, rfl⟩ rfl (Ext.trans (M := Tch _ μ) e.ofE x1 fun b h => .inl h) (fun b' mv' hb' => ?_) S3)
    rcases mem_mset hb' with ⟨rfl, _, m, hm⟩ | ⟨_, hb⟩
    · exact .inl ⟨m, hm⟩
    · exact .inl ⟨mv', hb⟩
  · exact qe x X s' hr (Thrown.new (ExtE.stays e hb) (ExtE.frames e hf) (ExtE.aft hup e) hx)
end Law1
end Mine

end

section
open PySem PySem.Calls PyProof.Rows
namespace Mine
local macro_rules | `(tactic| walk_at "lk") => `(tactic| first | assumption | exact lookup_put_eq | (refine (lookup_put_ne (by decide)).trans ?_; walk_at "lk"))

theorem forLoop_genE {prog : Program} {w : World} {A : Around} {s : Shared} {R : Result → Shared → Prop} {target : Expr} {it : Value} {body : List Stmt} {env : Env} (I : Nat → Shared → Prop)
    (turn : ∀ n s, I n s → wpAny (model prog w) A (pyNext it) (fun r s₁ => match r with
      | none => R (.ok .next) s₁
      | some v => wpAny (model prog w) A (letOwnedTupleGo target it v) (fun _ s₁' => wpAny (model prog w) A (assign target env v) (fun _ s₂ => wpAny (model prog w) A (execs body env) (fun f s₃ => match f with
          | .next | .cont => ∃ m, m < n ∧ I m s₃
          | .brk => R (.ok .next) s₃
          | .ret v => R (.ok (.ret v)) s₃) (notedBy (model prog w) A env fun e s' => R (.error e) s') s₂) (notedBy (model prog w) A env fun e s' => R (.error e) s') s₁') (notedBy (model prog w) A env fun e s' => R (.error e) s') s₁) (notedBy (model prog w) A env fun e s' => R (.error e) s') s)
    (n : Nat) (h : I n s) : codeAny (model prog w) A (.forLoop target it body [] env) R s := by
  refine codeAny_loop' rfl I (fun n s hI => ?_) n h
  show wpAny _ _ ((forTurn target it body [] env).onRaise (fun x => do noteFrame x env; theTreesLotGoes x)) _ _ s
  refine wpAny_noted ?_
  simp only [forTurn]
  refine wpAny_bind (wpAny_standAt (wpAny_bind (wpAny_onRaise (wpAny_mono (turn n s hI) (fun r s₁ h₁ => ?_) fun _ _ h' => wpAny_standAt h'))))
  cases r with
  | none => exact wpAny_pure (.inr ⟨rfl, codeAny_block (wpAny_execs_nil h₁)⟩)
  | some v =>
    refine wpAny_bind (wpAny_mono h₁ (fun _ s₁' h₁' => ?_) fun _ _ h' => h')
    refine wpAny_bind (wpAny_mono h₁' (fun _ s₂ h₂ => wpAny_bind (wpAny_mono h₂ (fun f s₃ h₃ => ?_) fun _ _ h' => h')) fun _ _ h' => h')
    cases f with
    | next => exact wpAny_pure (.inl ⟨rfl, h₃⟩)
    | cont => exact wpAny_pure (.inl ⟨rfl, h₃⟩)
    | brk => exact wpAny_pure h₃
    | ret v => exact wpAny_pure h₃

theorem entry_iter : entryFor table "iter" = some Builtin.«iter» := entryFor_of_fast (by kernel_rfl)
theorem args_iter1 (a : Value) : argsOk "iter" ⟨[a], []⟩ := by unfold argsOk; kernel_rfl
theorem call_iter_list {prog : Program} {w : World} {A : Around} {E : Value → Shared → Prop} {s : Shared} {ax : Addr} {xs : Array Value} {Q : Value → Shared → Prop} (hl : s.heap.IsList ax xs)
    (h : ∀ o, o.cls = .type "list_iterator" → (s.heap.push o).IsListIter s.heap.objs.size ax 0 → o.isFreed = false → Q (.ref s.heap.objs.size) { s with heap := s.heap.push o }) : wpAny (model prog w) A (call (.builtin "iter") [.ref ax]) Q E s := by
  refine call_function_entry (by decide +kernel) (by decide +kernel) entry_iter (args_iter1 _) ?_
  unfold Builtin.«iter»
  refine wpAny_bind (m := someArgs "iter" 1 2 _) (wpAny_of_eq (a := [Value.ref ax]) (by first | rfl | kernel_rfl!) ?_)
  show wpAny _ _ (pyIter (.ref ax) >>= _) _ _ _
  refine wpAny_bind (wpAny_pyIter_list hl ?_)
  exact wpAny_pure ⟨_, rfl, h _ rfl ⟨_, Heap.get?_push_size _ rfl, rfl, rfl⟩ rfl⟩

theorem Tr.cmpS {c : Ct} {σ : Sg} {μ : Mu} {l r : Expr} {op : CmpOp} {pos : Pos} {d₁ d₂ : PV} {b : Bool} (hl : Ev c σ μ l d₁) (hr : Ev c σ μ r d₂) (ho : ∀ B s v₁ v₂, Le c.B₀ B → At c.prog c.w B s μ → Val B d₁ v₁ → Val B d₂ v₂ → Gives c.prog c.w c.A B s (compareOp op v₁ v₂) (.bool b))
    (hm : behindInMarks op r = false := by with_unfolding_all rfl) : Tr c σ μ (.Compare l [op] [r] pos) b := by
  intro B s S Q E q
  refine wpAny_isTrue_Compare1 (hl B s S _ _ fun v₁ B₁ s₁ e₁ h₁ => hr B₁ s₁ (S.ext e₁) _ _ fun v₂ B₂ s₂ e₂ h₂ => ?_) hm
  refine ho B₂ s₂ v₁ v₂ ((S.ext e₁).ext e₂).en.stat ((S.ext e₁).ext e₂).at (h₁.le e₂.le) h₂ _ _ fun v B₃ s₃ e₃ h₃ => ?_
  cases h₃
  exact wpAny_truthy_bool (q B₃ s₃ ((e₁.transE e₂).transE e₃))
theorem op_isOther {prog : Program} {w : World} {A : Around} {μ : Mu} {b m : Addr} {mv : MV} {om : Obj} {B₀ : Heap} (hm : (b, mv) ∈ μ) (hmo : B₀.get? m = some om) : ∀ B s v₁ v₂, Le B₀ B → At prog w B s μ → Val B (.raw (.ref b)) v₁ → Val B (.raw (.ref m)) v₂ → Gives prog w A B s (compareOp .Is v₁ v₂) (.bool false) := fun B s v₁ v₂ h0 at' h1 h2 => by
  cases h1; cases h2
  refine Gives.of at'.le rfl fun Q E q => ?_
  obtain ⟨hB, hv⟩ := at'.mu.val b mv hm
  have hbm : b ≠ m := fun z => by rw [z, h0 _ _ hmo] at hB; cases hB
  have hm' := at'.le _ _ (h0 _ _ hmo)
  cases mv with
  | list ds => obtain ⟨vs, n, ho, _⟩ := hv; exact wpAny_is_ref_other hbm ho hm' (by simp) q
  | dict kvs => obtain ⟨us, ⟨o, es, ep, ho, hx, _⟩, _⟩ := hv; exact wpAny_is_ref_other hbm ho hm' (by rw [hx.1]; simp) q

inductive Walk (μ : Mu) : PV → List Int → Except String PV → Prop where
  | nil {d : PV} : Walk μ d [] (.ok d)
  | cons {d x : PV} {k : Int} {ks : List Int} {r : Except String PV} : Item μ k d (.ok x) → Walk μ x ks r → Walk μ d (k :: ks) r
  | stop {d : PV} {k : Int} {ks : List Int} {X : String} : Item μ k d (.error X) → Walk μ d (k :: ks) (.error X)

namespace Law1
variable {w : World} {B₀ : Heap} {mg mb : Str → Option Value} {A : Around} {μ : Mu} {l : List Env}
open PySem.W (fnOf)
abbrev redDef (T : Addr) (pm code : Value) : FuncData := fnOf "reduce" "reduce" (paramsAt pw 5) (bodyAt pw 5) (scopeAt pw 5) (.ref T) .none .none pm none code .none
structure RedAt (B₀ : Heap) (mg : Str → Option Value) (a m : Addr) : Prop where
  fn : ∃ o T oT x n pm code, B₀.get? a = some o ∧ o.data = .func (redDef T pm code) ∧ B₀.get? T = some oT ∧ oT.data = .seq #[x] n ∧ B₀.CodeRec code "reduce"
  name : mg "reduce" = some (.ref a)
  miss : mg "_initial_missing" = some (.ref m)
  missO : ∃ o, B₀.get? m = some o
theorem RedAt.is {a m : Addr} (h : RedAt B₀ mg a m) : ∃ T pm code, FnIs B₀ a (redDef T pm code) ["function", "sequence", "initial"] (bodyAt pw 5) := by
  obtain ⟨o, T, oT, x, n, pm, code, h1, h2, h3, h4, h5⟩ := h.fn
  refine ⟨T, pm, code, ⟨o, h1, h2⟩, h5, rfl, rfl, rfl, rfl, fun s vs hk hv => ?_, by decide, fun y hy => List.all_eq_true.mp (show ((["function", "sequence", "initial"] : List Str).all fun x => isName ((scopeAt pw 5).names.lookup x)) = true from rfl) y hy, fun y hy => by simpa using List.all_eq_true.mp (show ((scopeAt pw 5).names.all fun x => x.2 != .free) = true from rfl) y hy, show ((cellsFrom 0 (scopeAt pw 5).names []).map (·.1)).Nodup by decide, show ((scopeAt pw 5).names.map (·.1)).Nodup by decide, rfl, rfl, rfl⟩
  match vs, hv with
  | [v1, v2, v3], _ => exact BindsTo.of_defaults (T := T) (items := #[x]) (n := n) rfl (hk _ _ h3) h4 rfl rfl

theorem spec_reduce {a ag m b : Addr} {mv : MV} {path : List Int} {r : Except String PV} (G : Gl B₀ mg mb) (h : RedAt B₀ mg a m) (hg : FnAt B₀ mg pw 1 "getitem" ag) (hiter : Glb mg mb "iter" (.builtin "iter")) (room : Rm A 2) (hfr : A.frames = some l)
    (hW : Walk μ (.raw (.ref b)) path r) (hb : (b, mv) ∈ μ) (hks : ∀ k ∈ path, k.natAbs < 2 ^ 60) (hz : path.length ≤ 1000) :
    SpE pw w B₀ A l [] μ (.ref a) [.raw (.ref ag), .list (path.map .int), .raw (.ref b)] (fun x μ' => r = .ok x ∧ μ' = μ) (fun X => r = .error X) := by
  obtain ⟨T, pm, code, F⟩ := h.is
  obtain ⟨om, hom⟩ := h.missO
  obtain ⟨og, pmg, cdg, docg, hgn, hog, hgd, _⟩ := id hg
  refine SpE.fn G F room.lt rfl hfr fun H₀ n => ?_
  intro B s base S hbase hff hμH hoL hup Q E q qe
  have hr : Rm (fnCt pw w B₀ H₀ [] A (redDef T pm code) n a).A 1 := room.deeper _
  have hfr' : (fnCt pw w B₀ H₀ [] A (redDef T pm code) n a).A.frames = some ((fnCt pw w B₀ H₀ [] A (redDef T pm code) n a).env :: l) := Around.frames_deeper hfr
  -- it = iter(sequence)
  refine wpAny_execs_cons (wpAny_Assign_Name (Call_ (Ev.run S (Ev.blt G hiter.none hiter.some) fun v B₁ s₁ e₁ h₁ => ?_) rfl) rfl)
  cases h₁
  refine callWith_builtin1 (Evs.run (S.ext e₁) (Evs.cons (d := .list (path.map .int)) (Ev.name rfl) Evs.nil) fun vs B₂ s₂ e₂ h₂ => ?_) rfl rfl
  obtain ⟨_, _, rfl, ⟨ax, xs, rfl, hax, hxs⟩, rfl⟩ := h₂
  have e12 := e₁.transE e₂
  have S₂ := S.ext e12
  refine call_iter_list (IsList.le S₂.en.le hax) fun oI hoc hIt hof => ?_
  have e3 := newIt S₂.en.le oI
  have S₃ := S₂.ext e3
  have hI2 : s₂.heap.get? s₂.heap.objs.size = none := get_size _
  have hIs : s.heap.get? s₂.heap.objs.size = none := (e12.gone hI2).elim (fun z => z.elim) fun z => z
  have hnO : ∀ b, Own (fnCt pw w B₀ H₀ [] A (redDef T pm code) n a).sto (fnCt pw w B₀ H₀ [] A (redDef T pm code) n a).env b → b = n := fun b hb => by
    rcases hb with rfl | ⟨y, hy, _⟩
    · rfl
    · exact nomatch hy
  have hln : (fnCt pw w B₀ H₀ [] A (redDef T pm code) n a).env.locals = n := rfl
  have hIn : s₂.heap.objs.size ≠ n := fun z => by
    obtain ⟨_, ⟨o, _, _, ho, _⟩, _⟩ := S₂.en.loc
    have := lt_sz (a := n) ho; omega
  refine S₃.store rfl rfl (d := .raw (.ref s₂.heap.objs.size)) rfl fun s₄ e₄ S₄ => ?_
  refine wpAny_execs_cons (Ex.run S₄ (Φ := fun fl σ' μ' => fl = .next ∧ μ' = μ ∧ Has σ' "value" (.raw (.ref b)) ∧ Has σ' "function" (.raw (.ref ag)) ∧ Has σ' "it" (.raw (.ref s₂.heap.objs.size))) (Ex.ite (Tr.cmpS (Ev.name (d := .raw (.ref b)) rfl) (Ev.glob G h.miss) (op_isOther hb hom)) (fun h => absurd h (by decide)) fun _ => ?_) ?_)
  · exact Exs.cons (Ex.assign (Ev.name (d := .raw (.ref b)) rfl) (Exs.nil ⟨rfl, rfl, rfl, rfl, rfl⟩))
  rintro fl flow B₅ s₅ σ₅ μ₅ ⟨rfl, rfl, g1, g2, g3⟩ hf e₅ d₅ S₅
  cases hf
  have hT : ∀ b, Tch (fnCt pw w B₀ H₀ [] A (redDef T pm code) n a) μ₅ b → b = n := fun b hb => by
    rcases hb with hb | ⟨⟨mv', hm'⟩, h1 | h1⟩
    · exact hnO b hb
    · obtain ⟨o, ho⟩ := hμH b mv' hm'; rw [ho] at h1; cases h1
    · exact nomatch h1
  have x5 : Ext (fun b => b = n ∨ b = s₂.heap.objs.size) B s B₅ s₅ := (Ext.trans (M := fun b => b = n ∨ b = s₂.heap.objs.size) (e12.transE e3).ofE e₄ fun b hb => .inl (.inl (hnO b hb))).trans e₅ fun b hb => .inl (.inl (hT b hb))
  have it5 : s₅.heap.IsListIter s₂.heap.objs.size ax 0 := by
    obtain ⟨o, ho, hr⟩ := hIt
    exact ⟨o, e₅.keep _ _ (fun z => hIn (hT _ z)) (e₄.keep _ _ (fun z => hIn (hnO _ z)) ho), hr⟩
  have bn5 : B₅.get? s₂.heap.objs.size = none := by
    obtain ⟨o, ho, hr⟩ := hIt
    exact e₅.none' (fun z => hIn (hT _ z)) (e₄.keep _ _ (fun z => hIn (hnO _ z)) ho) (e₄.none' (fun z => hIn (hnO _ z)) ho (le_none S₂.en.le hI2))
  generalize hIdef : s₂.heap.objs.size = I at *
  have kp : ∀ {B' : Heap} {s' : Shared} {σ' : Sg}, Ext (fun b => b = n ∨ b = I) B s B' s' → (fnCt pw w B₀ H₀ [] A (redDef T pm code) n a).St B' s'.heap σ' μ₅ → Kp (fnCt pw w B₀ H₀ [] A (redDef T pm code) n a) l base s' := fun x S' => by
    refine Kp.ext ⟨hbase, hff⟩ rfl S' x (fun b hb hbn => ?_) hoL
    rcases hb with hb | rfl
    · exact absurd hb hbn
    · refine ⟨le_none hbase hIs, fun env he hz => ?_⟩
      obtain ⟨L, o, h1, _, h3⟩ := frames_mem hff env (List.mem_cons_of_mem _ he)
      rw [h1] at hz; cases hz
      rw [hIs] at h3; cases h3
  have hH : ∀ b, (b = n ∨ b = I) → H₀.get? b = none := fun b hb => by
    rcases hb with rfl | rfl
    · exact S.en.loL
    · cases hq : H₀.get? b with
      | none => rfl
      | some o => obtain ⟨o', ho'⟩ := S.en.pres b o hq; rw [hIs] at ho'; cases ho'
  have aft : ∀ {B' : Heap} {s' : Shared}, Ext (fun b => b = n ∨ b = I) B s B' s' → Aft H₀ s s' := fun x => Aft.ext ⟨hup, Rest.refl _⟩ x hH
  refine wpAny_execs_cons (wpAny_For (Ev.run S₅ (Ev.name g3) fun v B₆ s₆ e₆ h₆ => ?_))
  cases h₆
  obtain ⟨oo, hoo, hor⟩ := it5
  refine wpAny_pyIter_listiter ⟨oo, e₆.keepE _ _ hoo, hor⟩ ?_
  refine forLoop_genE (fun k s' => ∃ i B' σ' d, k = path.length - i ∧ i ≤ path.length ∧ Ext (fun b => b = n ∨ b = I) B s B' s' ∧ (fnCt pw w B₀ H₀ [] A (redDef T pm code) n a).St B' s'.heap σ' μ₅ ∧ s'.heap.IsListIter I ax i ∧ B'.get? I = none ∧ Le B₂ B' ∧ Has σ' "value" d ∧ Has σ' "function" (.raw (.ref ag)) ∧ Walk μ₅ d (path.drop i) r) ?_ path.length
    ⟨0, B₆, σ₅, _, rfl, Nat.zero_le _, x5.trans e₆ fun b hb => hb.elim, S₅.ext e₆, ⟨oo, e₆.keepE _ _ hoo, hor⟩, e₆.none hoo bn5, (e₄.le.trans e₅.le).trans e₆.le, g1, g2, hW⟩
  rintro k s' ⟨i, B', σ', d, rfl, hil, x, S', st, bn, hle, k1, k2, hWi⟩
  by_cases hlt : i < path.length
  · have hdrop : path.drop i = path[i] :: path.drop (i + 1) := List.drop_eq_getElem_cons hlt
    have hxs' := hxs.le hle
    obtain ⟨v, hv1, hv2⟩ := hxs'.get (i := i) (d := .int path[i]) (by rw [List.getElem?_map, List.getElem?_eq_getElem hlt]; rfl)
    refine wpAny_pyNext_list_item st (IsList.le (hle.trans S'.en.le) hax) (x := v) (by simpa using hv1) fun h' hit' hs' => ?_
    have xw : Ext (· ∈ [I]) B' s' B' { s' with heap := h' } := Ext.heap (le_same S'.en.le hs' bn) (fun b o hb e => (hs'.2 b (fun z => hb (by simp [z]))).trans e) s'.toks
    have S1 := Sn.wr S' xw (fun z => hIn (List.mem_singleton.mp z).symm) (fun _ _ z => nomatch z) (fun a' mv' hm' z => by
      have z' := List.mem_singleton.mp z
      subst z'
      obtain ⟨o, ho⟩ := hμH _ _ hm'
      rw [hH _ (.inr rfl)] at ho; cases ho) (fun b' hb' => by have := List.mem_singleton.mp hb'; subst this; exact hH _ (.inr rfl))
    have x1 : Ext (fun b => b = n ∨ b = I) B s B' { s' with heap := h' } := x.trans xw fun b hb => .inl (.inr (List.mem_singleton.mp hb))
    refine wpAny_pure (wpAny_assign_Name (S1.store rfl rfl hv2 fun s₁' e1 S2 => ?_))
    have x2 := x1.trans e1 fun b hb => .inl (.inl (hnO b hb))
    have it2 : s₁'.heap.IsListIter I ax (i + 1) := by
      obtain ⟨o, ho, hr'⟩ := hit'
      exact ⟨o, e1.keep _ _ (fun z => hIn (hnO _ z)) ho, hr'⟩
    have g1' : Has (put "element" (.int path[i]) σ') "value" d := (lookup_put_ne (by decide)).trans k1
    have g2' : Has (put "element" (.int path[i]) σ') "function" (.raw (.ref ag)) := (lookup_put_ne (by decide)).trans k2
    refine wpAny_execs_cons (wpAny_Assign_Name (Call_ (Ev.run S2 (Ev.name g2') fun vf B3 s3 e3' h3 => ?_) rfl) rfl)
    cases h3
    refine callWith_def hgd (Evs.run (S2.ext e3') (Evs.cons (Ev.name g1') (Evs.cons (Ev.name lookup_put_eq) Evs.nil)) fun vs B4 s4 e4' h4 => ?_) rfl
    have e34 := e3'.transE e4'
    have S4 := S2.ext e34
    have x4 := x2.trans e34 fun b hb => hb.elim
    obtain ⟨o2, ho2, hr2⟩ := it2
    have it4 : s4.heap.IsListIter I ax (i + 1) := ⟨o2, e34.keepE _ _ ho2, hr2⟩
    have bn4 : B4.get? I = none := e34.none ho2 bn
    have kp4 := kp x4 S4
    refine ⟨S4.en.le _ _ (S4.en.stat _ _ hog), ?_⟩
    rw [hdrop] at hWi
    have hki : (path[i]).natAbs < 2 ^ 60 := hks _ (List.getElem_mem hlt)
    cases hWi with
    | cons hI hW' =>
      refine spec_getitem G hg hr hfr' hI hki B4 s4 vs base S4.en.stat S4.at h4 kp4.1 kp4.2 _ _ (fun v' d' B5 s5 μ' hd' e5' dm at5 hv' => ?_) (fun x X s' hX hfly => nomatch hX)
      obtain ⟨hd1, hd2⟩ := hd'
      cases hd1
      have e5 : ExtE B4 s4 B5 s5 := e5'.wide fun b hb => nomatch hb
      have S5 := S4.ext e5
      have x5' := x4.trans e5 fun b hb => hb.elim
      obtain ⟨o4, ho4, hr4⟩ := it4
      refine S5.store rfl rfl hv' fun s6 e6 S6 => wpAny_execs_nil ?_
      exact ⟨path.length - (i + 1), by omega, i + 1, B5, _, _, rfl, hlt, x5'.trans e6 fun b hb => .inl (.inl (hnO b hb)), S6, ⟨o4, e6.keep _ _ (fun z => hIn (hnO _ z)) (e5.keepE _ _ ho4), hr4⟩, e5.none ho4 bn4, ((hle.trans (Ext.le e1)).trans e34.le).trans e5.le, lookup_put_eq, (lookup_put_ne (by decide)).trans g2', hW'⟩
    | stop hI =>
      refine spec_getitem G hg hr hfr' hI hki B4 s4 vs base S4.en.stat S4.at h4 kp4.1 kp4.2 _ _ (fun v' d' B5 s5 μ' hd' e5' dm at5 hv' => nomatch hd'.1) (fun x X s' hX hfly => ?_)
      cases hX
      exact fly_turn (E := E) hfr' rfl (Fly.from (aft x4) hfly) fun s'' ht => qe x _ s'' rfl ht
  · have hi' : i = path.length := by omega
    subst hi'
    rw [List.drop_length] at hWi
    cases hWi
    have hxl := hxs.length
    refine wpAny_pyNext_list_end hr.handled st (IsList.le (hle.trans S'.en.le) hax) (by simp at hxl; simp [hxl]) fun h' he' => ?_
    have xw : Ext (· ∈ [I]) B' s' B' { s' with heap := h' } := Ext.heap (le_extBut S'.en.le he' bn) (fun b o hb e => he' b o (fun z => hb (by simp [z])) e) s'.toks
    have S1 := Sn.wr S' xw (fun z => hIn (List.mem_singleton.mp z).symm) (fun _ _ z => nomatch z) (fun a' mv' hm' z => by
      have z' := List.mem_singleton.mp z
      subst z'
      obtain ⟨o, ho⟩ := hμH _ _ hm'
      rw [hH _ (.inr rfl)] at ho; cases ho) (fun b' hb' => by have := List.mem_singleton.mp hb'; subst this; exact hH _ (.inr rfl))
    have x1 : Ext (fun b => b = n ∨ b = I) B s B' { s' with heap := h' } := x.trans xw fun b hb => .inl (.inr (List.mem_singleton.mp hb))
    refine wpAny_execs_cons (wpAny_Return_some (Ev.run S1 (Ev.name k1) fun v B3 s3 e3' h3 => ?_))
    refine q (.ret d) (.ret v) B3 s3 σ' μ₅ ⟨rfl, rfl⟩ ⟨v, rfl, h3⟩ ?_ (Dom.refl _ _) (S1.ext e3')
    exact Ext.trans (M := Tch _ μ₅) (Ext.refl S.en.le) (x1.trans e3' fun b hb => hb.elim) (fun b hb => hb.elim (fun z => .inl (.inl (.inl z))) fun z => .inr (z ▸ hIs))
end Law1
end Mine

end

section
open PySem PySem.Calls PyProof.Rows
namespace Mine

/-- a call of an own def, as it is -/
theorem fn_gen {prog : Program} {w : World} {B₀ : Heap} {A : Around} {W : List Addr} {μ : Mu} {mg mb : Str → Option Value} {a : Addr} {fd : FuncData} {names : List Str} {body : List Stmt} {ds : List PV}
    (G : Gl B₀ mg mb) (F : FnIs B₀ a fd names body) (room : A.depth < recursionLimit) (hlen : names.length = ds.length) {B : Heap} {s : Shared} {vs : List Value} (h0 : Le B₀ B) (hat : At prog w B s μ) (hv : Vals B ds vs) {Q : Value → Shared → Prop} {E : Value → Shared → Prop}
    (h : ∀ h₁ tk, Le s.heap h₁ → (fnCt prog w B₀ s.heap W A fd s.heap.objs.size a).St B h₁ (names.zip ds) μ →
      wpAny (model prog w) (A.deeper (callEnvC fd s.heap.objs.size a)) (execs body (callEnvC fd s.heap.objs.size a)) (fun f s' => Q (match f with | .ret v => v | _ => .none) s')
        (fun e s' => wpAny (model prog w) (A.deeper (callEnvC fd s.heap.objs.size a)) (leaving (callEnvC fd s.heap.objs.size a) e) (fun _ s'' => E e s'') (fun e' s'' => E e' s'') s') { s with heap := h₁, toks := tk }) :
    wpAny (model prog w) A (call (.ref a) vs) Q E s := by
  obtain ⟨o, ho, hd⟩ := F.obj
  have k0 : Le B₀ s.heap := h0.trans hat.le
  have hcell : ∀ x : Str, fd.scope.names.lookup x = some .cell → ∃ c, (cellsFrom (s.heap.objs.size + 1) fd.scope.names []).lookup x = some c := fun x hx => cellsFrom_has (.inl (mem_lookup_of hx))
  refine wpAny_call (call_cells (fd := fd) room (k0 _ _ ho) hd (G.nolimit.keeps k0) (F.code.keeps k0) F.body (F.bind s vs k0 (by rw [hv.length, hlen])) F.clo (fun x hx => ?_) (fun s₁ X => ?_) F.co F.gen F.kind)
  · have hx' : x.1 ∈ names := zip_fst_sub (List.mem_map_of_mem hx)
    have := F.kinds x.1 hx'
    cases hk : fd.scope.names.lookup x.1 with
    | none => rw [hk] at this; cases this
    | some k =>
      rw [hk] at this
      cases k with
      | «local» => exact .inl rfl
      | cell => obtain ⟨c, hc⟩ := hcell x.1 hk; exact .inr ⟨rfl, by rw [hc]; rfl⟩
      | _ => cases this
  · obtain ⟨h₁, tk, rfl, hkeep⟩ := X.done
    have hnd : ((cellsFrom (s.heap.objs.size + 1) fd.scope.names []).map (·.1)).Nodup := by
      rw [cellsFrom_names fd.scope.names (s.heap.objs.size + 1) 0 [] [] rfl]; exact F.cells
    have hge : ∀ b, s.heap.objs.size ≤ b → s.heap.get? b = none := fun b hb => by
      cases e : s.heap.get? b with
      | none => rfl
      | some o => exact absurd (Heap.lt_size e) (Nat.not_lt.mpr hb)
    have Bn : ∀ b, s.heap.get? b = none → B.get? b = none := fun b hb => by
      cases e : B.get? b with
      | none => rfl
      | some o => rw [hat.le b o e] at hb; cases hb
    have hck : ∀ x c, (x, c) ∈ cellsFrom (s.heap.objs.size + 1) fd.scope.names [] → fd.scope.names.lookup x ≠ some .local := fun x c hc hl => by
      rcases mem_cellsFrom hc with h | h
      · simp at h
      · have := lookup_of_mem_nodup2 F.snames h.2
        rw [hl] at this; cases this
    have S : (fnCt prog w B₀ s.heap W A fd s.heap.objs.size a).St B h₁ (names.zip ds) μ := by
      refine ⟨⟨h0, hat.le.trans hkeep, F.kind, F.glob, F.blt, ⟨_, X.toInCall.ns, fun x d h1 h2 => bindL_zip h1 F.nodup hv h2⟩, fun x c hc => ?_, fun x hk => ?_, fun x y c h1 h2 => name_of_addr X.apart h1 h2, fun x c hc => ?_, fun x c hc => Nat.ne_of_gt (X.above x c hc), Bn _ (hge _ (Nat.le_refl _)), fun x c hc => Bn _ (hge _ (Nat.le_of_lt (X.above x c hc))), hge _ (Nat.le_refl _), fun x c hc _ => hge _ (Nat.le_of_lt (X.above x c hc)), fun b o hb => ⟨o, hkeep b o hb⟩⟩, ⟨fun b mv hm => ?_, hat.mu.nodup⟩, fun b mv hm => ?_, fun b mv hm x c hc => ?_⟩
      · have hl := lookup_of_mem_nodup hnd hc
        refine ⟨_, X.cell x c hl, fun d _ h2 => ?_⟩
        exact bindC_zip (hck x c hc) F.nodup hv h2
      · rcases hk with hk | hk
        · exact hcell x hk
        · exact absurd rfl (F.free _ (mem_lookup_of hk))
      · exact hck x c hc
      · exact ⟨(hat.mu.val b mv hm).1, (hat.mu.val b mv hm).2.keep (Le.refl _) fun o e => hkeep b o e⟩
      · exact Nat.ne_of_lt (hat.mu.val b mv hm).2.lt
      · exact Nat.ne_of_lt (Nat.lt_trans (hat.mu.val b mv hm).2.lt (X.above x c hc))
    exact h h₁ tk hkeep S

/-- the frames' slots were filled -/
structure Slot (fs : List Addr) (h h' : Heap) : Prop where
  keep : ∀ b o, b ∉ fs → h.get? b = some o → h'.get? b = some o
  slot : ∀ b o, b ∈ fs → h.get? b = some o → ∃ sl, h'.get? b = some { o with slots := sl }
theorem Slot.ns {fs : List Addr} {h h' : Heap} (x : Slot fs h h') {a : Addr} {m : Str → Option Value} (hn : h.Ns a m) : h'.Ns a m := by
  obtain ⟨o, es, ep, ho, hd, r⟩ := hn
  by_cases ha : a ∈ fs
  · obtain ⟨sl, hs⟩ := x.slot a o ha ho; exact ⟨_, es, ep, hs, hd, r⟩
  · exact ⟨o, es, ep, x.keep a o ha ho, hd, r⟩
theorem Slot.le {fs : List Addr} {B h h' : Heap} (x : Slot fs h h') (hl : Le B h) (hb : ∀ b ∈ fs, B.get? b = none) : Le B h' := fun b o e => x.keep b o (fun z => by rw [hb b z] at e; cases e) (hl b o e)
theorem Slot.mu {prog : Program} {w : World} {fs : List Addr} {B h h' : Heap} {μ : Mu} (x : Slot fs h h') (m : MU prog w B h μ) (hm : ∀ a mv, (a, mv) ∈ μ → a ∉ fs) : MU prog w B h' μ :=
  ⟨fun a mv ha => ⟨(m.val a mv ha).1, (m.val a mv ha).2.keep (Le.refl _) fun o e => x.keep a o (hm a mv ha) e⟩, m.nodup⟩
theorem Sn.slots {prog : Program} {w : World} {H₀ B₀ B : Heap} {sto : Str → Bool} {env : Env} {h h' : Heap} {σ : Sg} {μ : Mu} {fs : List Addr} (S : Sn prog w H₀ B₀ B sto env h σ μ) (x : Slot fs h h') (hb : ∀ b ∈ fs, B.get? b = none) (hm : ∀ a mv, (a, mv) ∈ μ → a ∉ fs)
    (hc : ∀ y c, (y, c) ∈ env.cells → c ∉ fs) : Sn prog w H₀ B₀ B sto env h' σ μ := by
  obtain ⟨m, hn, hv⟩ := S.en.loc
  refine ⟨⟨S.en.stat, x.le S.en.le hb, S.en.kind, S.en.glob, S.en.blt, ⟨m, x.ns hn, hv⟩, fun y c hy => ?_, S.en.bound, S.en.inj, S.en.celK, S.en.celL, S.en.frL, S.en.frC, S.en.loL, S.en.loC, fun b o h => ?_⟩, x.mu S.mu hm, S.apL, S.apC⟩
  · obtain ⟨ov, ⟨o, ho, hr⟩, h2⟩ := S.en.cel y c hy
    exact ⟨ov, ⟨o, x.keep c o (hc y c hy) ho, hr⟩, h2⟩
  · obtain ⟨o', ho'⟩ := S.en.pres b o h
    by_cases hbf : b ∈ fs
    · obtain ⟨sl, hs⟩ := x.slot b o' hbf ho'; exact ⟨_, hs⟩
    · exact ⟨o', x.keep b o' hbf ho'⟩

/-- all but the frames -/
def but (fs : List Addr) (h : Heap) : Heap := restrict h fun a => !fs.contains a
theorem but_get {fs : List Addr} {h : Heap} {b : Addr} {o : Obj} (hb : b ∉ fs) (e : h.get? b = some o) : (but fs h).get? b = some o := by
  unfold but; rw [restrict_get, if_pos (by simpa using hb)]; exact e
theorem but_none {fs : List Addr} {h : Heap} {b : Addr} (hb : b ∈ fs) : (but fs h).get? b = none := by
  unfold but; rw [restrict_get, if_neg (by simpa using hb)]
theorem but_le {fs : List Addr} {h : Heap} : Le (but fs h) h := fun b o e => by
  unfold but at e; rw [restrict_get] at e
  split at e
  · exact e
  · cases e
theorem Fly.slot {fs : List Addr} {h : Heap} {l : List Env} {e : Addr} {X : String} {s s' : Shared} (x : Fly h (but fs h) l e X s s') (hd : ∀ b ∈ fs, ∀ o, h.get? b = some o → ∀ vs, o.data ≠ .fields vs) : Slot fs h s'.heap :=
  ⟨fun b o hb e => by obtain ⟨a0, h1, _⟩ := x.1; exact h1 b o (but_get hb e), fun b o hb e => x.2.1 b o e (hd b hb o e)⟩
end Mine

end

section
open PySem PySem.Calls PyProof.Rows
namespace Mine
abbrev frs (l : List Env) : List Addr := l.filterMap (·.frame)
theorem mem_frs {l : List Env} {b : Addr} (h : b ∈ frs l) : ∃ env ∈ l, env.frame = some b := List.mem_filterMap.mp h
theorem frames_rebase {h h' B base : Heap} : ∀ {l : List Env}, h.FunFrames B l → Le h h' → (∀ b ∈ frs l, base.get? b = none) → h'.FunFrames base l
  | [], _, _, _ => trivial
  | env :: rest, ⟨k, ⟨L, o, h1, h2, h3, h4⟩, hr⟩, hk, hb => ⟨k, ⟨L, o, h1, hb L (List.mem_filterMap.mpr ⟨env, by simp, h1⟩), hk _ _ h3, h4⟩, frames_rebase hr hk fun b hm => hb b (by obtain ⟨e, he, hf⟩ := mem_frs hm; exact List.mem_filterMap.mpr ⟨e, List.mem_cons_of_mem _ he, hf⟩)⟩

/-- a call that catches what is raised within -/
def SpA (prog : Program) (w : World) (B₀ : Heap) (A : Around) (l : List Env) (W : List Addr) (μ : Mu) (f : Value) (ds : List PV) (Φ : PV → Mu → Prop) : Prop :=
  ∀ B s vs, Le B₀ B → At prog w B s μ → Vals B ds vs → s.heap.FunFrames B l → (∀ a mv, (a, mv) ∈ μ → a ∉ frs l) → ∀ (Q : Value → Shared → Prop) (E : Value → Shared → Prop),
    (∀ v d B' s' μ', Φ d μ' → Ext (fun b => b ∈ W ∨ b ∈ frs l) B s B' s' → (∀ b ∈ frs l, ∀ o, s.heap.get? b = some o → ∃ sl, s'.heap.get? b = some { o with slots := sl }) → (∀ b ∈ frs l, B'.get? b = none) → Dom μ μ' s.heap → At prog w B' s' μ' → Val B' d v → Q v s') →
    wpAny (model prog w) A (call f vs) Q E s

section
variable {mg mb : Str → Option Value} {c : Ct} {σ : Sg} {μ : Mu} {B h base : Heap} {outer : List Env} {e : Addr} {X : String} {s s' : Shared}
theorem hand_one {T : String} {p pos : Pos} {b : Bool} {b₀ : Stmt} {suite : List Stmt} {rest : List ExceptHandler} {Q : Flow → Shared → Prop} {E : Value → Shared → Prop} (G : Gl c.B₀ mg mb) (hg : Law1.Glb mg mb T (.type T)) (S : c.St B s'.heap σ μ) (fly : Fly h base (c.env :: outer) e X s s')
    (hexc : isSubtype (.type T) (.type "BaseException") = pure true) (hnt : isSubtype (.type ((Manifest.find? T).elim "type" fun x => x.metatype)) (.type "tuple") = pure false)
    (hsub : isSubtype (.type X) (.type T) = pure b)
    (h1 : b = true → ∀ s'', Fly h base (c.env :: outer) e X s s'' → wpAny (model c.prog c.w) (c.A.mark (some (.ref e))) (execs (b₀ :: suite) c.env) Q (notedBy (model c.prog c.w) (c.A.mark (some (.ref e))) c.env (cameBackBy (model c.prog c.w) c.A c.env E)) s'')
    (h2 : b = false → wpAny (model c.prog c.w) c.A (handleBy (.ref e) c.env rest) Q E s')
    (hk : c.env.kindOf T = some .globalImplicit := by rfl) (hd : ((T : Str) == ("__debug__" : Str)) = false := by decide) :
    wpAny (model c.prog c.w) c.A (handleBy (.ref e) c.env (.ExceptHandler (some (.Name T p)) none (b₀ :: suite) pos :: rest)) Q E s' := by
  refine wpAny_handleBy_builtin (X := X) (T := T) (b := b) hexc hnt hsub ?_
  refine Name_function_global S.en.kind hk (loadGlobal_builtin (mg := mg) (mb := mb) (v := .type T) (by rw [S.en.glob]; exact G.g.keeps (S.en.stat.trans S.en.le)) hg.none (by rw [S.en.blt]; exact G.b.keeps (S.en.stat.trans S.en.le)) hg.some ⟨rfl, ?_, ?_⟩) hd
  · obtain ⟨a0, hf⟩ := fly.1
    exact hf.there
  · cases b with
    | true => exact fly_again fly fun s'' fly' => h1 rfl s'' fly'
    | false => exact h2 rfl
end
theorem sub_base {T : String} (h : (T = "IndexError" ∨ T = "KeyError") ∨ T = "TypeError") : isSubtype (.type T) (.type "BaseException") = pure true := by
  rcases h with (rfl | rfl) | rfl <;> (rw [isSubtype_type]; kernel_rfl)
theorem sub_tuple {T : String} (h : (T = "IndexError" ∨ T = "KeyError") ∨ T = "TypeError") : isSubtype (.type ((Manifest.find? T).elim "type" fun x => x.metatype)) (.type "tuple") = pure false := by
  rcases h with (rfl | rfl) | rfl <;> kernel_rfl
theorem sub_err {X T : String} (hX : (X = "IndexError" ∨ X = "KeyError") ∨ X = "TypeError") (hT : (T = "IndexError" ∨ T = "KeyError") ∨ T = "TypeError") : isSubtype (.type X) (.type T) = pure (X == T) := by
  rcases hX with (rfl | rfl) | rfl <;> rcases hT with (rfl | rfl) | rfl <;> (rw [isSubtype_type]; kernel_rfl)

namespace Law1
variable {w : World} {B₀ : Heap} {mg mb : Str → Option Value} {A : Around} {μ : Mu} {l : List Env}
theorem fn_asked {a : Addr} (h : FnAt B₀ mg pw 10 "_law_asked" a) : ∃ pm code doc, FnIs B₀ a (docDef "_law_asked" (paramsAt pw 10) (bodyAt pw 10) (scopeAt pw 10) pm code doc) ["path", "box", "put"] (bodyAt pw 10) :=
  h.is _ fun pm code doc vs hv => match vs, hv with | [v1, v2, v3], _ => rfl

theorem red_eval {H₀ base B : Heap} {W : List Addr} {sto : Str → Bool} {env : Env} {outer : List Env} {σ : Sg} {s : Shared} {pe : Expr} {p1 p2 p3 pos : Pos} {a ag m b : Addr} {mv : MV} {path : List Int} {r : Except String PV}
    (S : (Ct.mk pw w B₀ H₀ W A sto env).St B s.heap σ μ) (hkp : Kp (Ct.mk pw w B₀ H₀ W A sto env) outer base s) (hfr : A.frames = some (env :: outer)) (room : Rm A 2)
    (G : Gl B₀ mg mb) (h : RedAt B₀ mg a m) (hg : FnAt B₀ mg pw 1 "getitem" ag) (hiter : Glb mg mb "iter" (.builtin "iter"))
    (hpe : Ev (Ct.mk pw w B₀ H₀ W A sto env) σ μ pe (.list (path.map .int))) (hbx : Ev (Ct.mk pw w B₀ H₀ W A sto env) σ μ (.Name "box" p3) (.raw (.ref b)))
    (hW : Walk μ (.raw (.ref b)) path r) (hb : (b, mv) ∈ μ) (hks : ∀ k ∈ path, k.natAbs < 2 ^ 60) (hz : path.length ≤ 1000)
    {Q : Value → Shared → Prop} {E : Value → Shared → Prop} (q : ∀ v x B' s', r = .ok x → ExtE B s B' s' → Val B' x v → Q v s') (qe : ∀ e X s', r = .error X → Fly s.heap base (env :: outer) e X s s' → E (.ref e) s')
    (hkr : env.kindOf "reduce" = some .globalImplicit := by rfl) (hkg : env.kindOf "getitem" = some .globalImplicit := by rfl)
    (hs1 : starEach [.Name "getitem" p2, pe, .Name "box" p3] env = (false, eval (.Name "getitem" p2) env) :: starEach [pe, .Name "box" p3] env := by rfl)
    (hs2 : starEach [pe, .Name "box" p3] env = (false, eval pe env) :: starEach [.Name "box" p3] env := by rfl)
    (he : eval (.Call (.Name "reduce" p1) [.Name "getitem" p2, pe, .Name "box" p3] [] pos) env = (do callWith pos (← eval (.Name "reduce" p1) env) [] (backTo pos (starEach [.Name "getitem" p2, pe, .Name "box" p3] env)) (backToKw pos (keywordEach [] env))) := by rfl) :
    wpAny (model pw w) A (eval (.Call (.Name "reduce" p1) [.Name "getitem" p2, pe, .Name "box" p3] [] pos) env) Q E s := by
  obtain ⟨o, T, oT, x, n, pm, code, ho, hod, _⟩ := id h.fn
  obtain ⟨og, pmg, cdg, docg, hgn, _⟩ := id hg
  refine Call_ (Ev.run S (Ev.glob G h.name hkr) fun v B₁ s₁ e₁ h₁ => ?_) he
  cases h₁
  refine callWith_def (o := o) hod (Evs.run (S.ext e₁) (Evs.cons (Ev.glob G hgn hkg) (Evs.cons hpe (Evs.cons hbx Evs.nil rfl) hs2) hs1) fun vs B₂ s₂ e₂ h₂ => ?_) hs1
  have e12 := e₁.transE e₂
  have S₂ := S.ext e12
  refine ⟨S₂.en.le _ _ (S₂.en.stat _ _ ho), ?_⟩
  refine spec_reduce G h hg hiter room hfr hW hb hks hz B₂ s₂ vs base S₂.en.stat S₂.at h₂ (ExtE.stays e12 hkp.1) (ExtE.frames e12 hkp.2) _ _ (fun v d B' s' μ' hd e3 _ _ hv => ?_) fun e X s' hX hf => ?_
  · exact q v d B' s' hd.1 (e12.transE (e3.wide fun b hb => nomatch hb)) hv
  · exact qe e X s' hX (Fly.from (ExtE.aft (Heap.UpToSlots.refl _) e12) hf)

inductive Asked (μ : Mu) (path : List Int) (box : PV) : Option PV → PV → Mu → Prop where
  | got {x : PV} : Walk μ box path (.ok x) → Asked μ path box none (.tuple [.str "told", x]) μ
  | gotE {X : String} : Walk μ box path (.error X) → Asked μ path box none (.tuple [.str X, .none]) μ
  | setE1 {x : PV} {X : String} : Walk μ box path.dropLast (.error X) → Asked μ path box (some x) (.tuple [.str X, .none]) μ
  | setE2 {x d : PV} {X : String} {k : Int} : Walk μ box path.dropLast (.ok d) → path.getLast? = some k → SetIt μ k x d (.error X) → Asked μ path box (some x) (.tuple [.str X, .none]) μ
  | set {x d : PV} {k : Int} {b : Addr} {mv : MV} : Walk μ box path.dropLast (.ok d) → path.getLast? = some k → SetIt μ k x d (.ok (b, mv)) → Asked μ path box (some x) (.tuple [.str "told", .none]) (mset b mv μ)
end Law1
end Mine

end

section
open PySem PySem.Calls PyProof.Rows
namespace Mine
abbrev Err (X : String) : Prop := (X = "IndexError" ∨ X = "KeyError") ∨ X = "TypeError"
theorem item_err {μ : Mu} {k : Int} {d : PV} {X : String} (h : Item μ k d (.error X)) : Err X := by
  cases h
  · exact .inl (.inl rfl)
  · exact .inl (.inr rfl)
  · exact .inr rfl
theorem setit_err {μ : Mu} {k : Int} {d x : PV} {X : String} (h : SetIt μ k x d (.error X)) : Err X := by
  cases h
  · exact .inl (.inl rfl)
  · exact .inr rfl
theorem walk_err {μ : Mu} {d : PV} {ks : List Int} {r : Except String PV} (h : Walk μ d ks r) : ∀ X, r = .error X → Err X := by
  induction h with
  | nil => intro X h; cases h
  | cons _ _ ih => exact ih
  | stop h => intro X e; cases e; exact item_err h

namespace Law1
variable {w : World} {B₀ : Heap} {mg mb : Str → Option Value} {A : Around} {μ : Mu} {l : List Env}
abbrev askDef (pm code doc : Value) : FuncData := docDef "_law_asked" (paramsAt pw 10) (bodyAt pw 10) (scopeAt pw 10) pm code doc
structure ErrG (mg mb : Str → Option Value) : Prop where
  i : Glb mg mb "IndexError" (.type "IndexError")
  k : Glb mg mb "KeyError" (.type "KeyError")
  t : Glb mg mb "TypeError" (.type "TypeError")
def Res (l : List Env) (W : List Addr) (w : World) (B : Heap) (s : Shared) (B' : Heap) (s' : Shared) (μ μ' : Mu) : Prop :=
  Ext (fun b => b ∈ W ∨ b ∈ frs l) B s B' s' ∧ (∀ b ∈ frs l, ∀ o, s.heap.get? b = some o → ∃ sl, s'.heap.get? b = some { o with slots := sl }) ∧ (∀ b ∈ frs l, B'.get? b = none) ∧ Dom μ μ' s.heap ∧ At pw w B' s' μ'

/-- what the frame of _law_asked knows at its start -/
structure AskIn (w : World) (B₀ : Heap) (A : Around) (l : List Env) (W : List Addr) (μ : Mu) (fd : FuncData) (a : Addr) (σ : Sg) (B : Heap) (s : Shared) (h₁ : Heap) (tk : Nat) : Prop where
  keep : Le s.heap h₁
  st : (fnCt pw w B₀ s.heap W A fd s.heap.objs.size a).St B h₁ σ μ
  fr : s.heap.FunFrames B l
  mu : ∀ a mv, (a, mv) ∈ μ → a ∉ frs l
  cells : (callEnvC fd s.heap.objs.size a).cells = []
  frames : A.frames = some l
variable {W : List Addr} {fd : FuncData} {a : Addr} {σ : Sg} {B : Heap} {s : Shared} {h₁ : Heap} {tk : Nat}
theorem AskIn.frl (x : AskIn w B₀ A l W μ fd a σ B s h₁ tk) {b : Addr} (h : b ∈ frs l) : B.get? b = none ∧ ∃ o, s.heap.get? b = some o ∧ ∀ vs, o.data ≠ .fields vs := x.fr.mem h
theorem AskIn.kp (x : AskIn w B₀ A l W μ fd a σ B s h₁ tk) : Kp (fnCt pw w B₀ s.heap W A fd s.heap.objs.size a) l (but (s.heap.objs.size :: frs l) h₁) { s with heap := h₁, toks := tk } := by
  obtain ⟨m, hm, _⟩ := x.st.en.loc
  refine ⟨but_le, .cons (by rw [x.st.en.kind]; decide) rfl hm (but_none (by simp)) (frames_rebase x.fr x.keep fun b hb => but_none (List.mem_cons_of_mem _ hb))⟩
theorem AskIn.slot (x : AskIn w B₀ A l W μ fd a σ B s h₁ tk) {e : Addr} {X : String} {s' : Shared} (f : Fly h₁ (but (s.heap.objs.size :: frs l) h₁) (callEnvC fd s.heap.objs.size a :: l) e X { s with heap := h₁, toks := tk } s') : Slot (s.heap.objs.size :: frs l) h₁ s'.heap :=
  f.slot fun b hb o ho vs => by
    rcases List.mem_cons.mp hb with rfl | hb
    · obtain ⟨m, ⟨o', es, ep, ho', hd, _⟩, _⟩ := x.st.en.loc
      have ho'' : h₁.get? s.heap.objs.size = some o' := ho'
      rw [ho] at ho''; cases ho''; rw [hd]; simp
    · obtain ⟨_, o', ho', hd⟩ := x.frl hb
      rw [x.keep _ _ ho'] at ho; cases ho; exact hd vs
theorem AskIn.stAt (x : AskIn w B₀ A l W μ fd a σ B s h₁ tk) {s' : Shared} (sl : Slot (s.heap.objs.size :: frs l) h₁ s'.heap) : (fnCt pw w B₀ s.heap W A fd s.heap.objs.size a).St B s'.heap σ μ := by
  refine x.st.slots sl (fun b hb => ?_) (fun b mv hm hb => ?_) fun y c hc => ?_
  · rcases List.mem_cons.mp hb with rfl | hb
    · exact x.st.en.frL
    · exact (x.frl hb).1
  · rcases List.mem_cons.mp hb with rfl | hb
    · exact x.st.apL _ mv hm rfl
    · exact x.mu b mv hm hb
  · have : (y, c) ∈ (callEnvC fd s.heap.objs.size a).cells := hc
    rw [x.cells] at this; exact nomatch this
theorem AskIn.res (x : AskIn w B₀ A l W μ fd a σ B s h₁ tk) {s' s'' : Shared} {B' : Heap} (sl : Slot (s.heap.objs.size :: frs l) h₁ s'.heap) (hrest : Rest { s with heap := h₁, toks := tk } s') (e : ExtE B s' B' s'') : Res l W w B s B' s'' μ μ := by
  have S' := x.stAt sl
  have hn : ∀ b o, s.heap.get? b = some o → b ≠ s.heap.objs.size := fun b o h => Nat.ne_of_lt (Heap.lt_size h)
  have x1 : Ext (fun b => b ∈ W ∨ b ∈ frs l) B s B s' := ⟨Le.refl _, fun _ _ e => .inl e, S'.en.le, fun b o hb eb => sl.keep b o (fun z => by
    rcases List.mem_cons.mp z with z | z
    · exact hn b o eb z
    · exact hb (.inr z)) (x.keep b o eb), Rest.trans ⟨h₁, tk, rfl⟩ hrest⟩
  refine ⟨x1.trans e fun b hb => hb.elim, fun b hb o ho => ?_, fun b hb => ?_, Dom.refl _ _, S'.at.ext e⟩
  · obtain ⟨sl', h⟩ := sl.slot b o (List.mem_cons_of_mem _ hb) (x.keep b o ho)
    exact ⟨sl', e.keepE _ _ h⟩
  · obtain ⟨hB, o, ho, _⟩ := x.frl hb
    obtain ⟨sl', h⟩ := sl.slot b o (List.mem_cons_of_mem _ hb) (x.keep b o ho)
    exact e.none h hB

theorem asked_catch {pm code doc : Value} (G : Gl B₀ mg mb) (g : ErrG mg mb) (x : AskIn w B₀ A l W μ (askDef pm code doc) a σ B s h₁ tk)
    {e : Addr} {X : String} {s' : Shared} (hX : Err X) (f : Fly h₁ (but (s.heap.objs.size :: frs l) h₁) (callEnvC (askDef pm code doc) s.heap.objs.size a :: l) e X { s with heap := h₁, toks := tk } s')
    {Q : Flow → Shared → Prop} {E : Value → Shared → Prop} (q : ∀ v B' s'', Res l W w B s B' s'' μ μ → Val B' (.tuple [.str X, .none]) v → Q (.ret v) s'')
    {p1 p2 p3 t1 t2 t3 q1 q2 q3 r1 r2 r3 u1 u2 u3 v1 v2 v3 : Pos} {k1 k2 k3 j1 j2 j3 i1 i2 i3 : Nat} :
    wpAny (model pw w) (A.deeper (callEnvC (askDef pm code doc) s.heap.objs.size a)) (noteFrame (.ref e) (callEnvC (askDef pm code doc) s.heap.objs.size a)) (fun _ s₂ => wpAny (model pw w) (A.deeper (callEnvC (askDef pm code doc) s.heap.objs.size a)) (setFlight (.ref e) none) (fun _ s₃ =>
      wpAny (model pw w) (A.deeper (callEnvC (askDef pm code doc) s.heap.objs.size a)) (handleBy (.ref e) (callEnvC (askDef pm code doc) s.heap.objs.size a) [
        .ExceptHandler (some (.Name "IndexError" p1)) none [.Return (some (.Tuple [.Constant (.str "IndexError") k1 q1, .Constant .none j1 r1] i1 u1)) v1] t1,
        .ExceptHandler (some (.Name "KeyError" p2)) none [.Return (some (.Tuple [.Constant (.str "KeyError") k2 q2, .Constant .none j2 r2] i2 u2)) v2] t2,
        .ExceptHandler (some (.Name "TypeError" p3)) none [.Return (some (.Tuple [.Constant (.str "TypeError") k3 q3, .Constant .none j3 r3] i3 u3)) v3] t3]) Q E s₃) E s₂) E s' := by
  refine fly_try (Around.frames_deeper x.frames) rfl f fun s₃ f₃ => ?_
  have S₃ := x.stAt (x.slot f₃)
  have suite : ∀ {T : Str} {k j i : Nat} {q' r' u' v' : Pos} {s'' : Shared} {E' : Value → Shared → Prop}, (T = (X : Str)) → Fly h₁ (but (s.heap.objs.size :: frs l) h₁) (callEnvC (askDef pm code doc) s.heap.objs.size a :: l) e X { s with heap := h₁, toks := tk } s'' →
      wpAny (model pw w) ((A.deeper (callEnvC (askDef pm code doc) s.heap.objs.size a)).mark (some (.ref e))) (execs [.Return (some (.Tuple [.Constant (.str T) k q', .Constant .none j r'] i u')) v'] (callEnvC (askDef pm code doc) s.heap.objs.size a)) Q E' s'' := fun {T k j i q' r' u' v' s'' E'} hT f'' => by
    subst hT
    have S'' : (Ct.mk pw w B₀ s.heap W ((A.deeper (callEnvC (askDef pm code doc) s.heap.objs.size a)).mark (some (.ref e))) (fun _ => true) (callEnvC (askDef pm code doc) s.heap.objs.size a)).St B s''.heap σ μ := x.stAt (x.slot f'')
    refine wpAny_execs_cons (wpAny_Return_some (Ev.run S'' (Ev.tuple (ds := [.str X, .none]) (Evs.cons Ev.str (Evs.cons Ev.none Evs.nil rfl) rfl) (by show 2 ≤ _; decide)) fun v B' s4 e4 h4 => ?_))
    exact q v B' s4 (x.res (x.slot f'') f''.2.2 e4) h4
  refine hand_one (c := fnCt pw w B₀ s.heap W A (askDef pm code doc) s.heap.objs.size a) (T := "IndexError") (outer := l) G g.i S₃ f₃ (sub_base (.inl (.inl rfl))) (sub_tuple (.inl (.inl rfl))) (sub_err hX (.inl (.inl rfl))) (fun hb s'' f'' => suite (by rw [eq_of_beq hb]) f'') (fun hb => ?_)
  refine hand_one (c := fnCt pw w B₀ s.heap W A (askDef pm code doc) s.heap.objs.size a) (T := "KeyError") (outer := l) G g.k S₃ f₃ (sub_base (.inl (.inr rfl))) (sub_tuple (.inl (.inr rfl))) (sub_err hX (.inl (.inr rfl))) (fun hb s'' f'' => suite (by rw [eq_of_beq hb]) f'') (fun hb' => ?_)
  refine hand_one (c := fnCt pw w B₀ s.heap W A (askDef pm code doc) s.heap.objs.size a) (T := "TypeError") (outer := l) G g.t S₃ f₃ (sub_base (.inr rfl)) (sub_tuple (.inr rfl)) (sub_err hX (.inr rfl)) (fun hb s'' f'' => suite (by rw [eq_of_beq hb]) f'') (fun hb'' => ?_)
  rcases hX with (rfl | rfl) | rfl
  · exact absurd hb (by decide)
  · exact absurd hb' (by decide)
  · exact absurd hb'' (by decide)
end Law1
end Mine

end

section
open PySem PySem.Calls PyProof.Rows
namespace Mine
namespace Law1
variable {w : World} {B₀ : Heap} {mg mb : Str → Option Value} {A : Around} {μ : Mu} {l : List Env} {a ar ag m b : Addr} {mv : MV} {path : List Int}
def askRes : Except String PV → PV
  | .ok x => .tuple [.str "told", x]
  | .error X => .tuple [.str X, .none]

theorem spec_asked_get {r : Except String PV} (G : Gl B₀ mg mb) (g : ErrG mg mb) (h : FnAt B₀ mg pw 10 "_law_asked" a) (hr : RedAt B₀ mg ar m) (hg : FnAt B₀ mg pw 1 "getitem" ag) (hiter : Glb mg mb "iter" (.builtin "iter")) (room : Rm A 3) (hfr : A.frames = some l)
    (hW : Walk μ (.raw (.ref b)) path r) (hb : (b, mv) ∈ μ) (hks : ∀ k ∈ path, k.natAbs < 2 ^ 60) (hz : path.length ≤ 1000) :
    SpA pw w B₀ A l [] μ (.ref a) [.list (path.map .int), .raw (.ref b), .list []] (fun d μ' => d = askRes r ∧ μ' = μ) := by
  obtain ⟨pm, code, doc, F⟩ := fn_asked h
  intro B s vs h0 hat hv hff hμ Q E q
  refine fn_gen (W := []) G F room.lt rfl h0 hat hv fun h₁ tk hkeep S => ?_
  have x : AskIn w B₀ A l [] μ (askDef pm code doc) a _ B s h₁ tk := ⟨hkeep, S, hff, hμ, rfl, hfr⟩
  have hroom : Rm (A.deeper (callEnvC (askDef pm code doc) s.heap.objs.size a)) 2 := room.deeper _
  refine wpAny_execs_cons (wpAny_Try_except ?_)
  refine wpAny_execs_cons (wpAny_If ?_)
  refine (show Tr (fnCt pw w B₀ s.heap [] A (askDef pm code doc) s.heap.objs.size a) _ μ _ _ from Tr.cmp (Ev.name (d := .list []) rfl) (Ev.list (ds := []) Evs.nil) (op_eqNil .fr hroom.u)) B _ S _ _ fun B₂ s₂ e₂ => ?_
  have S₂ := S.ext (s := { s with heap := h₁, toks := tk }) e₂
  refine wpAny_execs_cons (wpAny_Return_some (Tuple_ (args_cons (Ev.run S₂ Ev.str fun v₃ B₃ s₃ e₃ hv₃ => args_cons ?_ rfl) rfl)))
  have S₃ := S₂.ext e₃
  have e23 : ExtE B { s with heap := h₁, toks := tk } B₃ s₃ := e₂.transE e₃
  have kp3 : Kp (fnCt pw w B₀ s.heap [] A (askDef pm code doc) s.heap.objs.size a) l (but (s.heap.objs.size :: frs l) h₁) s₃ := ⟨ExtE.stays e23 x.kp.1, ExtE.frames e23 x.kp.2⟩
  refine red_eval S₃ kp3 (Around.frames_deeper hfr) hroom G hr hg hiter (Ev.name rfl) (Ev.name rfl) hW hb hks hz (fun v x' B₄ s₄ hr' e₄ hv₄ => ?_) (fun e X s' hX hf => ?_)
  · refine args_nil ?_
    have e24 := e23.transE e₄
    refine gives_newTuple (ds := [.str "told", x']) (S₃.ext e₄).en.le (.cons (hv₃.le e₄.le) (.cons hv₄ .nil)) (by show 2 ≤ _; decide) _ _ fun v' B₅ s₅ e₅ hv₅ => ?_
    have sl : Slot (s.heap.objs.size :: frs l) h₁ h₁ := ⟨fun _ _ _ e => e, fun b o _ e => ⟨o.slots, e⟩⟩
    obtain ⟨r1, r2, r3, r4, r5⟩ := x.res (s' := { s with heap := h₁, toks := tk }) sl (Rest.refl _) (e24.transE e₅)
    exact q v' _ B₅ s₅ μ ⟨by rw [hr']; rfl, rfl⟩ r1 r2 r3 r4 r5 hv₅
  · have f0 := Fly.from (ExtE.aft (P := h₁) (s := { s with heap := h₁, toks := tk }) (Heap.UpToSlots.refl _) e23) hf
    exact asked_catch G g x (walk_err hW X hX) f0 fun v B' s'' ⟨r1, r2, r3, r4, r5⟩ hv' => q v _ B' s'' μ ⟨by rw [hX]; rfl, rfl⟩ r1 r2 r3 r4 r5 hv'
end Law1
end Mine

end

section
open PySem PySem.Calls PyProof.Rows
namespace Mine
theorem pslice_init {α : Type} (ds : List α) : pslice ds none (some (-1)) = ds.dropLast := by
  unfold pslice sliceBounds
  simp only [Option.getD_none]
  rw [List.dropLast_eq_take]
  cases ds with
  | nil => rfl
  | cons d r =>
    simp
    congr 1
    omega
theorem map_dropLast {α β : Type} (f : α → β) (xs : List α) : (xs.map f).dropLast = xs.dropLast.map f := by
  induction xs with
  | nil => rfl
  | cons x r ih => cases r with
    | nil => rfl
    | cons y r => simp at ih ⊢
namespace Law1
variable {w : World} {B₀ : Heap} {mg mb : Str → Option Value} {A : Around} {μ : Mu} {l : List Env} {a ar ag as m b : Addr} {mv : MV} {path : List Int} {x : PV} {W : List Addr}
inductive SetW (μ : Mu) (path : List Int) (x box : PV) : Except String (Addr × MV) → Prop where
  | err {X : String} : Walk μ box path.dropLast (.error X) → SetW μ path x box (.error X)
  | set {d : PV} {k : Int} {r : Except String (Addr × MV)} : Walk μ box path.dropLast (.ok d) → path.getLast? = some k → SetIt μ k x d r → SetW μ path x box r
def setRes (μ : Mu) : Except String (Addr × MV) → PV × Mu
  | .ok (b, mv) => (.tuple [.str "told", .none], mset b mv μ)
  | .error X => (.tuple [.str X, .none], μ)
theorem Res.more {B B₁ B₂ : Heap} {s s₁ s₂ : Shared} {μ' : Mu} (x : Res l W w B s B₁ s₁ μ μ) (e : Ext (· ∈ W) B₁ s₁ B₂ s₂) (d : Dom μ μ' s₁.heap) (hat : At pw w B₂ s₂ μ') (hW : ∀ b ∈ W, b ∉ frs l) (hfl : ∀ b ∈ frs l, ∃ o, s.heap.get? b = some o) (hWs : ∀ b ∈ W, ∃ mv, (b, mv) ∈ μ) : Res l W w B s B₂ s₂ μ μ' := by
  obtain ⟨r1, r2, r3, r4, r5⟩ := x
  refine ⟨r1.trans e fun b hb => .inl (.inl hb), fun b hb o ho => ?_, fun b hb => ?_, fun c mv hm => ?_, hat⟩
  · obtain ⟨sl, h⟩ := r2 b hb o ho
    exact ⟨sl, e.keep _ _ (fun z => hW b z hb) h⟩
  · obtain ⟨o, ho⟩ := hfl b hb
    obtain ⟨sl, h⟩ := r2 b hb o ho
    exact e.none' (fun z => hW b z hb) h (r3 b hb)
  · rcases d c mv hm with h | h
    · exact .inl h
    · refine (r1.gone h).elim (fun z => ?_) .inr
      rcases z with z | z
      · exact .inl (hWs c z)
      · obtain ⟨o, ho⟩ := hfl c z
        obtain ⟨sl, h'⟩ := r2 c z o ho
        rw [h] at h'; cases h'

theorem setit_mem {k : Int} {d : PV} {b : Addr} {mv : MV} (h : SetIt μ k x d (.ok (b, mv))) : ∃ m, (b, m) ∈ μ := by
  cases h with
  | list h _ => exact ⟨_, h⟩
  | dict h _ => exact ⟨_, h⟩

theorem spec_asked_set {r : Except String (Addr × MV)} (G : Gl B₀ mg mb) (g : ErrG mg mb) (h : FnAt B₀ mg pw 10 "_law_asked" a) (hr : RedAt B₀ mg ar m) (hg : FnAt B₀ mg pw 1 "getitem" ag) (hs : FnAt B₀ mg pw 2 "setitem" as) (hiter : Glb mg mb "iter" (.builtin "iter")) (room : Rm A 3) (hfr : A.frames = some l)
    (hS : SetW μ path x (.raw (.ref b)) r) (hb : (b, mv) ∈ μ) (hks : ∀ k ∈ path, k.natAbs < 2 ^ 60) (hne : path ≠ []) (hz : path.length ≤ 1000) (hW : ∀ b mv, r = .ok (b, mv) → b ∈ W) (hWm : ∀ b ∈ W, ∃ mv, (b, mv) ∈ μ) :
    SpA pw w B₀ A l W μ (.ref a) [.list (path.map .int), .raw (.ref b), .list [x]] (fun d μ' => (d, μ') = setRes μ r) := by
  obtain ⟨pm, code, doc, F⟩ := fn_asked h
  obtain ⟨os, pms, cds, docs, hsn, hos, hsd, _⟩ := id hs
  have hsz : sizeLine = 2 ^ 24 := rfl
  intro B s vs h0 hat hv hff hμ Q E q
  refine fn_gen (W := W) G F room.lt rfl h0 hat hv fun h₁ tk hkeep S => ?_
  have xa : AskIn w B₀ A l W μ (askDef pm code doc) a _ B s h₁ tk := ⟨hkeep, S, hff, hμ, rfl, hfr⟩
  have hroom : Rm (A.deeper (callEnvC (askDef pm code doc) s.heap.objs.size a)) 2 := room.deeper _
  refine wpAny_execs_cons (wpAny_Try_except ?_)
  refine wpAny_execs_cons (wpAny_If ?_)
  refine (show Tr (fnCt pw w B₀ s.heap W A (askDef pm code doc) s.heap.objs.size a) _ μ _ _ from Tr.cmp (Ev.name (d := .list [x]) rfl) (Ev.list (ds := []) Evs.nil) (op_eqNil .fr hroom.u)) B _ S _ _ fun B₂ s₂ e₂ => ?_
  have S₂ := S.ext (s := { s with heap := h₁, toks := tk }) e₂
  refine wpAny_execs_nil ?_
  refine wpAny_execs_cons (wpAny_Return_some (Tuple_ (args_cons (Ev.run S₂ Ev.str fun v₃ B₃ s₃ e₃ hv₃ => args_cons (Call_ ?_ rfl) rfl) rfl)))
  refine Ev.run (S₂.ext e₃) (Ev.glob G hsn) fun vf B₄ s₄ e₄ hv₄ => ?_
  cases hv₄
  have S₄ := (S₂.ext e₃).ext e₄
  have e24 : ExtE B { s with heap := h₁, toks := tk } B₄ s₄ := (e₂.transE e₃).transE e₄
  have kp4 : Kp (fnCt pw w B₀ s.heap W A (askDef pm code doc) s.heap.objs.size a) l (but (s.heap.objs.size :: frs l) h₁) s₄ := ⟨ExtE.stays e24 xa.kp.1, ExtE.frames e24 xa.kp.2⟩
  obtain ⟨k, hk⟩ : ∃ k, path.getLast? = some k := by
    cases hq : path.getLast? with
    | none => exact absurd (List.getLast?_eq_none_iff.mp hq) hne
    | some k => exact ⟨k, rfl⟩
  have hkm : k ∈ path := List.mem_of_getLast? hk
  have sl : Slot (s.heap.objs.size :: frs l) h₁ h₁ := ⟨fun _ _ _ e => e, fun b o _ e => ⟨o.slots, e⟩⟩
  have hpe : Ev (fnCt pw w B₀ s.heap W A (askDef pm code doc) s.heap.objs.size a) ((["path", "box", "put"] : List Str).zip [PV.list (path.map .int), .raw (.ref b), .list [x]]) μ (.Subscript (.Name "path" { line := 41, col := 48, endLine := 41, endCol := 52 })
      (.Slice none (some (.UnaryOp .USub (.Constant (.int 1) 0 { line := 41, col := 55, endLine := 41, endCol := 56 }) { line := 41, col := 54, endLine := 41, endCol := 56 })) none { line := 41, col := 53, endLine := 41, endCol := 56 }) { line := 41, col := 48, endLine := 41, endCol := 57 }) (.list (path.dropLast.map .int)) :=
    Ev.cast (Ev.slice (Ev.name (d := .list (path.map .int)) rfl) .fr (lo := none) (hi := some (-1)) rfl ⟨-1, rfl, Ev.un Ev.int op_negI⟩ (by simp; omega)) (by rw [pslice_init, map_dropLast])
  have hdl : path.dropLast.length ≤ 1000 := by simp; omega
  have hkd : ∀ k ∈ path.dropLast, k.natAbs < 2 ^ 60 := fun k hk => hks k (List.dropLast_subset _ hk)
  have fromFly : ∀ {B' : Heap} {s' : Shared}, ExtE B { s with heap := h₁, toks := tk } B' s' → ∀ {e : Addr} {X : String} {s'' : Shared}, Fly s'.heap (but (s.heap.objs.size :: frs l) h₁) (callEnvC (askDef pm code doc) s.heap.objs.size a :: l) e X s' s'' → Fly h₁ (but (s.heap.objs.size :: frs l) h₁) (callEnvC (askDef pm code doc) s.heap.objs.size a :: l) e X { s with heap := h₁, toks := tk } s'' :=
    fun {B' s'} e0 {e X s''} hf => Fly.from (ExtE.aft (P := h₁) (s := { s with heap := h₁, toks := tk }) (Heap.UpToSlots.refl _) e0) hf
  obtain ⟨r1, hW1, hE, hO⟩ : ∃ r1, Walk μ (.raw (.ref b)) path.dropLast r1 ∧ (∀ X, r1 = .error X → r = .error X) ∧ (∀ d, r1 = .ok d → SetIt μ k x d r) := by
    cases hS with
    | err h => exact ⟨_, h, fun X e => by cases e; rfl, fun d e => nomatch e⟩
    | set h hk' hs => rw [hk] at hk'; cases hk'; exact ⟨_, h, (fun X e => nomatch e), fun d e => by cases e; exact hs⟩
  refine callWith_def hsd (args_cons (red_eval (r := r1) S₄ kp4 (Around.frames_deeper hfr) hroom G hr hg hiter hpe (Ev.name rfl) hW1 hb hkd hdl (fun v d B₅ s₅ hr1 e₅ hv₅ => ?_) (fun e X s' hX hf => ?_)) rfl) rfl
  · have S₅ := S₄.ext e₅
    have hpl : (path.map PV.int).getLast? = some (.int k) := by rw [List.getLast?_map, hk]; rfl
    refine Evs.run S₅ (Evs.cons (Ev.item (Ev.name (d := .list (path.map .int)) rfl) (Ev.un Ev.int op_negI) .fr (x := .int k) (pget_last hpl) (by simp; omega)) (Evs.cons (Ev.item (Ev.name (d := .list [x]) rfl) Ev.int .fr (x := x) rfl (by show 1 ≤ _; decide)) Evs.nil)) fun vs' B₆ s₆ e₆ hv₆ => ?_
    have S₆ := S₅.ext e₆
    have e26 : ExtE B { s with heap := h₁, toks := tk } B₆ s₆ := (e24.transE e₅).transE e₆
    refine ⟨S₆.en.le _ _ (S₆.en.stat _ _ hos), ?_⟩
    refine spec_setitem G hs (hroom.mono (by decide)) (Around.frames_deeper hfr) (hO d hr1) (hks k hkm) hW B₆ s₆ (v :: vs') (but (s.heap.objs.size :: frs l) h₁) S₆.en.stat S₆.at (.cons (hv₅.le e₆.le) hv₆) (ExtE.stays e26 xa.kp.1) (ExtE.frames e26 xa.kp.2) _ _ (fun v' d' B₇ s₇ μ' hd' e₇ dm₇ at₇ hv₇ => ?_) (fun e X s' hX hf => ?_)
    · obtain ⟨rfl, b', mv', hrr, rfl⟩ := hd'
      refine args_nil ?_
      refine gives_newTuple (ds := [.str "told", .none]) at₇.le (.cons ((((hv₃.le e₄.le).le e₅.le).le e₆.le).le e₇.le) (.cons hv₇ .nil)) (by show 2 ≤ _; decide) _ _ fun v8 B₈ s₈ e₈ hv₈ => ?_
      have r0 := xa.res (s' := { s with heap := h₁, toks := tk }) sl (Rest.refl _) e26
      obtain ⟨r1', r2, r3, r4, r5⟩ := r0.more (e₇.trans e₈ fun b hb => hb.elim) dm₇ (at₇.ext e₈) (fun b hb hz => by obtain ⟨mv, hm⟩ := hWm b hb; exact hμ b mv hm hz) (fun b hb => by obtain ⟨_, o, ho, _⟩ := xa.frl hb; exact ⟨o, ho⟩) hWm
      exact q v8 _ B₈ s₈ _ (by rw [hrr]; rfl) r1' r2 r3 r4 r5 hv₈
    · exact asked_catch G g xa (setit_err (hX ▸ hO d hr1)) (fromFly e26 hf) fun v B' s'' ⟨r1, r2, r3, r4, r5⟩ hv' => q v _ B' s'' μ (by rw [hX]; rfl) r1 r2 r3 r4 r5 hv'
  · exact asked_catch G g xa (walk_err hW1 X hX) (fromFly e24 hf) fun v B' s'' ⟨r1, r2, r3, r4, r5⟩ hv' => q v _ B' s'' μ (by rw [hE X hX]; rfl) r1 r2 r3 r4 r5 hv'
end Law1
end Mine

end

section
open PySem PySem.Calls PyProof.Rows
namespace Mine
open PySem.SeqAt PySem.MeetsSeq
variable {prog : Program} {w : World} {A : Around} {μ : Mu}

/-! ## Membership, comparison of lists -/
def vInt (i : Int) : Value → Bool
  | .int j _ => j == i
  | _ => false
def vStr (x : Str) : Value → Bool
  | .str y _ => y == x
  | _ => false
theorem any_ints {B : Heap} {i : Int} : ∀ {xs : List Int} {vs : List Value}, Vals B (xs.map .int) vs → vs.any (vInt i) = xs.any (· == i) ∧ ∀ y ∈ vs, ∃ j t, y = .int j t
  | [], _, e => by subst e; exact ⟨rfl, fun y hy => nomatch hy⟩
  | x :: xs, _, ⟨v, r, e, ⟨t, hv⟩, hr⟩ => by
    subst e hv
    obtain ⟨h1, h2⟩ := any_ints (i := i) hr
    refine ⟨by simp only [List.any_cons, h1]; rfl, fun y hy => ?_⟩
    rcases List.mem_cons.mp hy with rfl | hy
    · exact ⟨x, t, rfl⟩
    · exact h2 y hy
theorem any_strs {B : Heap} {i : Str} : ∀ {xs : List Str} {vs : List Value}, Vals B (xs.map .str) vs → vs.any (vStr i) = xs.any (· == i) ∧ ∀ y ∈ vs, ∃ j t, y = .str j t
  | [], _, e => by subst e; exact ⟨rfl, fun y hy => nomatch hy⟩
  | x :: xs, _, ⟨v, r, e, ⟨t, hv⟩, hr⟩ => by
    subst e hv
    obtain ⟨h1, h2⟩ := any_strs (i := i) hr
    refine ⟨by simp only [List.any_cons, h1]; rfl, fun y hy => ?_⟩
    rcases List.mem_cons.mp hy with rfl | hy
    · exact ⟨x, t, rfl⟩
    · exact h2 y hy
theorem op_notInI {i : Int} {e : PV} {xs : List Int} (h : IsL μ e (xs.map .int)) : Op2 prog w A μ (compareOp .NotIn) (.int i) e (.bool (!xs.any (· == i))) := by
  intro B s v₁ v₂ at' ⟨t, hv₁⟩ hv₂ Q E q
  subst hv₁
  obtain ⟨a, us, rfl, hl, hus⟩ := h.get at' hv₂
  obtain ⟨h1, h2⟩ := any_ints (i := i) hus
  refine notIn_listAt (vInt i) hl (fun y hy => ?_) (by rw [List.any_toArray, h1]; exact q _ B s (Ext.refl at'.le) rfl)
  obtain ⟨j, u, rfl⟩ := h2 y (by simpa using hy)
  exact eqAt_int
theorem op_inS {i : Str} {e : PV} {xs : List Str} (h : IsL μ e (xs.map .str)) : Op2 prog w A μ (compareOp .In) (.str i) e (.bool (xs.any (· == i))) := by
  intro B s v₁ v₂ at' ⟨t, hv₁⟩ hv₂ Q E q
  subst hv₁
  obtain ⟨a, us, rfl, hl, hus⟩ := h.get at' hv₂
  obtain ⟨h1, h2⟩ := any_strs (i := i) hus
  refine in_listAt (vStr i) hl (fun y hy => ?_) (by rw [List.any_toArray, h1]; exact q _ B s (Ext.refl at'.le) rfl)
  obtain ⟨j, u, rfl⟩ := h2 y (by simpa using hy)
  exact eqAt_str
/-- like lists of ints -/
theorem op_neSame {d e : PV} {xs : List Int} (h : IsL μ d (xs.map .int)) (h' : IsL μ e (xs.map .int)) (hu : A.units < cLine) : Op2 prog w A μ (compareOp .NotEq) d e (.bool false) := by
  intro B s v₁ v₂ at' hv₁ hv₂ Q E q
  obtain ⟨a, us, rfl, hl, hus⟩ := h.get at' hv₁
  obtain ⟨b, ws, rfl, hl', hws⟩ := h'.get at' hv₂
  refine RcNeAt.lists (e := fun _ => true) hl hl' (by simp [hus.length, hws.length]) hu (fun j h1 h2 => ?_) prog w E Q ?_
  · simp only [List.size_toArray] at h1 h2
    obtain ⟨d1, hd1, hv1⟩ := hus.get' (List.getElem?_eq_getElem h1)
    obtain ⟨d2, hd2, hv2⟩ := hws.get' (List.getElem?_eq_getElem h2)
    rw [hd1] at hd2; cases hd2
    rw [List.getElem?_map] at hd1
    cases hx : xs[j]? with
    | none => rw [hx] at hd1; cases hd1
    | some i =>
      rw [hx] at hd1; cases hd1
      obtain ⟨t, ht⟩ := hv1
      obtain ⟨u, hu⟩ := hv2
      simp only [List.getElem_toArray, ht, hu]
      have := eqAt_int (A := A.in1) (s := s) (a := i) (b := i) (t := t) (u := u)
      rw [beq_self_eq_true] at this
      exact this
  · have : (List.range us.toArray.size).all (fun _ => true) = true := List.all_eq_true.mpr fun _ _ => rfl
    rw [this]
    exact q _ B s (Ext.refl at'.le) rfl

/-- [0] * 20 -/
theorem op_mulL {ds : List PV} {x : Int} {vs : List Value} (hne : ds ≠ []) (h0 : 0 ≤ x) (hx : ds.length * x.toNat ≤ 2 ^ 24) (hx2 : x < 2 ^ 60) {c : Ct} {σ : Sg} {l r : Expr} {pos : Pos}
    (hl : ∀ B s, c.St B s.heap σ μ → ∀ (Q : Value → Shared → Prop) (E : Value → Shared → Prop), (∀ a vs n B' s', ExtE B s B' s' → s'.heap.get? a = some { cls := .type "list", data := .seq (List.toArray vs) n } → Vals B' ds vs → Q (.ref a) s') → wpAny (model c.prog c.w) c.A (eval l c.env) Q E s)
    (hr : Ev c σ μ r (.int x)) : Ev c σ μ (.BinOp l .Mult r pos) (.list (List.replicate x.toNat ds).flatten) := by
  intro B s S Q E q
  refine wpAny_BinOp (hl B s S _ _ fun a vs n B₁ s₁ e₁ ha hvs => hr B₁ s₁ (S.ext e₁) _ _ fun v₂ B₂ s₂ e₂ h₂ => ?_)
  obtain ⟨u, rfl⟩ := h₂
  have ha2 := e₂.keepE _ _ ha
  have hlen := hvs.length
  have hvs2 := hvs.le e₂.le
  refine wpAny_binaryOp_repeat_ref (T := "list") (U := "int") (by decide) ⟨_, ha2, rfl⟩ (fun s' => typeIs_int s' x u) noFill_list_mul F.fills_int_mul F.slot_int_rmul repeat_list F.slot_int_index.lookup
    (call_meets F.slot_int_rmul (typeIs_int s₂ x u) F.entry_int_rmul (F.args_int_rmul_2 _ _) (int___rmul___int_list x u a vs.toArray n)
      ⟨ha2, rfl, ⟨_, ha2, rfl⟩, call_meets F.slot_list_mul ⟨_, ha2, rfl⟩ F.entry_list_mul (F.args_list_mul_2 _ _)
        (AutoListH.list___mul___list_int_3 a vs.toArray n x u (by simp [Builtin.List.listFitsIndex]; omega) (by rw [List.size_toArray, hlen]; omega) (by simp [Builtin.List.listTooLong, sizeLine]; rw [hlen]; omega))
        ⟨ha2, ?_⟩⟩)
  have hemp : vs.toArray.isEmpty = false := by
    cases vs with
    | nil => cases ds with
      | nil => exact absurd rfl hne
      | cons => simp at hlen
    | cons => rfl
  rw [hemp]
  simp only [Bool.false_eq_true, if_false]
  obtain ⟨B', e5, hg⟩ := ext_push (S.ext (e₁.transE e₂)).en.le { cls := .type "list", data := .seq (List.foldl (fun x1 x2 => x1 ++ x2) #[] (List.replicate x.toNat vs.toArray)) }
  have hfold : ∀ k : Nat, List.foldl (fun x1 x2 => x1 ++ x2) #[] (List.replicate k vs.toArray) = ((List.replicate k vs).flatten).toArray := fun k => by
    have gen : ∀ (k : Nat) (acc : List Value), List.foldl (fun x1 x2 => x1 ++ x2) acc.toArray (List.replicate k vs.toArray) = (acc ++ (List.replicate k vs).flatten).toArray := by
      intro k
      induction k with
      | zero => intro acc; simp
      | succ k ih => intro acc; rw [List.replicate_succ, List.foldl_cons, List.replicate_succ, List.flatten_cons, ← List.append_assoc, ← ih]; simp
    simpa using gen k []
  have hrep : ∀ k : Nat, Vals B₂ (List.replicate k ds).flatten (List.replicate k vs).flatten := fun k => by
    induction k with
    | zero => rfl
    | succ k ih => rw [List.replicate_succ, List.flatten_cons, List.replicate_succ, List.flatten_cons]; exact hvs2.append ih
  exact q _ B' _ ((e₁.transE e₂).transE e5) ⟨_, _, rfl, ⟨_, hg, rfl, _, by rw [hfold]⟩, (hrep _).le e5.le⟩
theorem run_listDisp {c : Ct} {σ : Sg} {es : List Expr} {pos : Pos} {ds : List PV} (h : Evs c σ μ pos es ds) (hz : ds.length ≤ sizeLine := by first | decide | simp [sizeLine]) :
    ∀ B s, c.St B s.heap σ μ → ∀ (Q : Value → Shared → Prop) (E : Value → Shared → Prop), (∀ a vs n B' s', ExtE B s B' s' → s'.heap.get? a = some { cls := .type "list", data := .seq (List.toArray vs) n } → Vals B' ds vs → Q (.ref a) s') → wpAny (model c.prog c.w) c.A (eval (.List es pos) c.env) Q E s := by
  intro B s S Q E q
  refine List_ (h B s S _ _ fun vs B₁ s₁ e₁ h₁ => wpAny_newList ?_ (by rw [h₁.length]; exact hz))
  exact q _ vs _ B₁ _ (e₁.transE (newIt e₁.inn _)) (Heap.get?_push_size _ rfl) h₁

/-! ## Dicts -/
theorem sp_lenD {B₀ : Heap} {a : Addr} {kvs : List (Int × PV)} (hm : (a, MV.dict kvs) ∈ μ) (hs : (a == sysModules) = false) (hz : kvs.length ≤ sizeLine) : Sp prog w B₀ A μ (.builtin "len") [.raw (.ref a)] (.int kvs.length) := by
  intro B s vs _ at' hv
  obtain ⟨v, _, rfl, h1, rfl⟩ := hv
  cases h1
  obtain ⟨us, hD, hks, hvs⟩ := (at'.mu.val _ _ hm).2
  have hl : us.length = kvs.length := by have := congrArg List.length hks; simpa using this
  have hsz : sizeLine = 2 ^ 24 := rfl
  refine Gives.ofTok (n := s.toks + 1 + 1) (v := .int us.length (s.toks + 1)) at'.le ⟨_, by rw [hl]⟩ fun Q E q => call_len_dict hs hD (by omega) q
theorem sp_listD {B₀ : Heap} {a : Addr} {kvs : List (Int × PV)} (hh : A.handled = none) (hm : (a, MV.dict kvs) ∈ μ) (hs : (a == sysModules) = false) (hz : kvs.length ≤ sizeLine) : Sp prog w B₀ A μ (.type "list") [.raw (.ref a)] (.list (kvs.map fun p => .int p.1)) := by
  intro B s vs _ at' hv Q E q
  obtain ⟨v, _, rfl, h1, rfl⟩ := hv
  cases h1
  obtain ⟨us, hD, hks, hvs⟩ := (at'.mu.val _ _ hm).2
  have hl : us.length = kvs.length := by have := congrArg List.length hks; simpa using this
  obtain ⟨ep, hat⟩ := hD.dictAt
  refine PySem.W.kdl_call (PySem.W.kdl_dict (knd := intKind prog w) (kvs := us) (ep := ep) hs) hh hat (by rw [hl]; exact hz) fun h' tk acc' c' hk hS' hacc => ?_
  have hle : Le B h' := at'.le.trans fun b o e => hk b o e
  have e1 : ExtE B s B { s with heap := h', toks := tk } := Ext.heap hle (fun b o _ e => hk b o e) tk
  obtain ⟨B', f1, f2, f3, f4⟩ := freeze hle hS'
  refine q _ B' _ ⟨f1, fun b o e => (f4 b o e).elim .inl fun z => .inr (.inr (z ▸ get_size _)), f2, fun b o _ e => hk b o e, ⟨h', tk, rfl⟩⟩ ⟨_, acc'.toList, rfl, ⟨_, f3, rfl, c', by simp⟩, ?_⟩
  obtain ⟨ha1, ha2⟩ := hacc
  have key : ∀ (ks : List Int) (xs : List Value), xs.length = ks.length → (∀ (j : Nat) (v : Value), xs[j]? = some v → ∃ k, ks[j]? = some k ∧ (intKind prog w).is k v = true) → Vals B' (ks.map .int) xs := by
    intro ks
    induction ks with
    | nil => intro xs hx _; cases xs with
      | nil => rfl
      | cons => simp at hx
    | cons k ks ih => intro xs hx hp; cases xs with
      | nil => simp at hx
      | cons x xs =>
        obtain ⟨k', hk', hkk⟩ := hp 0 x rfl
        simp at hk'; subst hk'
        exact ⟨x, xs, rfl, Value.isInt_shape hkk, ih xs (by simpa using hx) fun j v hv => by simpa using hp (j + 1) v (by simpa using hv)⟩
  have := key (kvs.map (·.1)) acc'.toList (by simp [ha1, hl]) (fun j v hv => by
    obtain ⟨k, x, h1, h2⟩ := ha2 j v (by rw [← Array.getElem?_toList]; exact hv)
    refine ⟨k, ?_, h2⟩
    rw [← hks, List.getElem?_map, h1]; rfl)
  rw [List.map_map] at this
  exact this
end Mine

end

section
open PySem PySem.Calls PyProof.Rows
namespace Mine
variable {c : Ct} {σ : Sg} {μ : Mu} {Φ : Post}

theorem Ex.setSub {oe ie value : Expr} {pos' pos : Pos} {x d : PV} {k : Int} {b : Addr} {mv : MV} (hv : Ev c σ μ value x) (ho : Ev c σ μ oe d) (hi : Ev c σ μ ie (.int k)) (I : SetIt μ k x d (.ok (b, mv))) (hk : k.natAbs < 2 ^ 60) (hh : c.A.handled = none)
    (hp : c.H₀.get? b = none ∨ b ∈ c.W) (kk : Φ .next σ (mset b mv μ)) (hs : swapsWith value (some (.Subscript oe ie pos')) pos.line c.env = pure false := by rfl) : Ex c σ μ (.Assign [.Subscript oe ie pos'] value pos) Φ := by
  intro B s S Q E q
  refine wpAny_Assign_Subscript (hv B s S _ _ fun v₀ B₀' s₀ e₀ h₀ => ho B₀' s₀ (S.ext e₀) _ _ fun v₁ B₁ s₁ e₁ h₁ => hi B₁ s₁ ((S.ext e₀).ext e₁) _ _ fun v₂ B₂ s₂ e₂ h₂ => ?_) hs
  obtain ⟨t, rfl⟩ := h₂
  have e := (e₀.transE e₁).transE e₂
  have S₂ := S.ext e
  refine set_item I hk hh S₂.at (h₁.le e₂.le) ((h₀.le e₁.le).le e₂.le) (fun b' mv' m h' tk hr hm hd hs' hv' => ?_) (fun X x s' hr hx => nomatch hr)
  cases hr
  obtain ⟨x1, S3, d3⟩ := St.turn (t := tk) S₂ hm hp hs' hv'
  refine q .next .next B₂ _ _ _ kk rfl (Ext.trans (M := Tch c μ) e.ofE x1 fun b h => .inl h) (fun b' mv' hb' => ?_) S3
  rcases mem_mset hb' with ⟨rfl, _, m, hm⟩ | ⟨_, hb⟩
  · exact .inl ⟨m, hm⟩
  · exact .inl ⟨mv', hb⟩

theorem Ev.itemM {value slice : Expr} {pos : Pos} {d x : PV} {k : Int} (h1 : Ev c σ μ value d) (h2 : Ev c σ μ slice (.int k)) (I : Item μ k d (.ok x)) (hk : k.natAbs < 2 ^ 60) (hh : c.A.handled = Option.none)
    (hs : ∀ v j t, subscripted slice false v (.int j t) = operate [v, .int j t] (getItem v (.int j t)) := by intro _ _ _; rfl) : Ev c σ μ (.Subscript value slice pos) x := by
  intro B s S Q E q
  refine Subscript_ (h1 B s S _ _ fun v₁ B₁ s₁ e₁ hv₁ => h2 B₁ s₁ (S.ext e₁) _ _ fun v₂ B₂ s₂ e₂ hv₂ => ?_)
  obtain ⟨t, rfl⟩ := hv₂
  have e := e₁.transE e₂
  refine tail_item I hk hh (S.ext e).at (hv₁.le e₂.le) (fun v => hs v k t) (fun x' v s' hr e' hv => ?_) (fun X x s' hr hx => nomatch hr)
  cases hr
  exact q v B₂ s' (e.transE e') hv

theorem EvN.dict' {mg mb : Str → Option Value} {pos : Pos} (G : Gl c.B₀ mg mb) : EvN c σ μ (.Dict [] [] pos) (fun d m => ∃ a, d = .raw (.ref a) ∧ m = [(a, MV.dict [])] ∧ (a == sysModules) = false) := by
  intro B s S Q E q
  refine wpAny_Dict_empty ?_
  have hlo : (s.heap.objs.size == sysModules) = false := by
    obtain ⟨o, _, _, ho, _⟩ := G.g
    have : mainGlobals < s.heap.objs.size := Heap.lt_size (S.en.le _ _ (S.en.stat _ _ ho))
    have h3 : (3 : Nat) < s.heap.objs.size := this
    rw [beq_eq_false_iff_ne]
    intro h
    have h1 : s.heap.objs.size = (1 : Nat) := h
    omega
  refine q _ (.raw (.ref s.heap.objs.size)) B _ [(s.heap.objs.size, MV.dict [])] ⟨_, rfl, rfl, hlo⟩ (newIt S.en.le _) ⟨fun a mv ha => ?_, by simp⟩ rfl
  simp only [List.mem_singleton, Prod.mk.injEq] at ha
  obtain ⟨rfl, rfl⟩ := ha
  exact ⟨get_size _, le_none S.en.le (get_size _), [], Heap.DictOf.new _, rfl, rfl⟩

theorem Ex.assignN' {Ψ : PV → Mu → Prop} {x : Str} {px : Pos} {e : Expr} {pos : Pos} (h : EvN c σ μ e Ψ) (k : ∀ d μn, Ψ d μn → (∀ a mv, (a, mv) ∈ μn → c.H₀.get? a = none ∧ ∀ m, (a, m) ∉ μ) → (μn.map (·.1)).Nodup → Φ .next (put x d σ) (μ ++ μn)) (hk : (isName (c.env.kindOf x) && c.sto x) = true := by rfl)
    (hs : swapsWith e (some (.Name x px)) pos.line c.env = pure false := by rfl) : Ex c σ μ (.Assign [.Name x px] e pos) Φ := by
  intro B s S Q E q
  refine wpAny_Assign_Name (h B s S _ _ fun v d B₁ s₁ μn hΨ e₁ hn h₁ => ?_) hs
  have S₁ := S.join (S.ext e₁) hn
  refine S₁.store (Bool.and_eq_true_iff.mp hk).1 (Bool.and_eq_true_iff.mp hk).2 h₁ fun s' e' S' => ?_
  refine q .next _ B₁ s' _ _ (k d μn hΨ (fun a mv hm => ?_) hn.nodup) rfl (Ext.trans (M := Tch c μ) e₁.ofE e' fun b h => .inl (.inl h)) (fun a mv hm => ?_) S'
  · refine ⟨?_, fun m hm' => ?_⟩
    · cases q : c.H₀.get? a with
      | none => rfl
      | some o => obtain ⟨o', ho'⟩ := S.en.pres a o q; rw [(hn.val a mv hm).1] at ho'; cases ho'
    · obtain ⟨o, ho⟩ := (S.mu.val a m hm').2.get
      rw [(hn.val a mv hm).1] at ho; cases ho
  rcases List.mem_append.mp hm with hm | hm
  · exact .inl ⟨mv, hm⟩
  · exact .inr (hn.val a mv hm).1

theorem Ex.assignA {ts : List Expr} {k : Nat} {tpos : Pos} {f e : Expr} {es : List Expr} {pos spos : Pos} {a : Addr} {ds : List PV} {W : List Addr} {Φa : PV → Mu → Prop} (hl : c.A.frames = some [c.env]) (hfe : c.env.frame = some c.env.locals)
    (hf : Ev c σ μ f (.raw (.ref a))) (hfn : IsFn c.B₀ a) (ha : Evs c σ μ pos (e :: es) ds) (sp : SpA c.prog c.w c.B₀ c.A [c.env] W μ (.ref a) ds Φa) (hW : ∀ b ∈ W, (∃ mv, (b, mv) ∈ μ) ∧ (c.H₀.get? b = none ∨ b ∈ c.W))
    (hWk : ∀ d μ', Φa d μ' → ∀ b ∈ W, ∃ mv, (b, mv) ∈ μ')
    (hk : ∀ d μ', Φa d μ' → ∃ σ', Asg c σ μ' (.Tuple ts k tpos) d σ' ∧ Φ .next σ' μ')
    (he : eval (.Call f (e :: es) [] pos) c.env = (do callWith pos (← eval f c.env) [] (backTo pos (starEach (e :: es) c.env)) (backToKw pos (keywordEach [] c.env))) := by rfl)
    (hst : starEach (e :: es) c.env = (false, eval e c.env) :: starEach es c.env := by rfl)
    (hs : swapsWithSole [.Tuple ts k tpos] (.Call f (e :: es) [] pos) spos.line c.env = pure false := by rfl) (hw : swappedStores [.Tuple ts k tpos] (.Call f (e :: es) [] pos) c.env = pure none := by rfl) :
    Ex c σ μ (.Assign [.Tuple ts k tpos] (.Call f (e :: es) [] pos) spos) Φ := by
  intro B s S Q E q
  obtain ⟨o, fd, ho, hd⟩ := hfn
  refine Assign_Tuple (Call_ (hf B s S _ _ fun v B₁ s₁ e₁ h₁ => ?_) he) hs hw
  cases h₁
  refine callWith_def (o := o) hd (ha B₁ s₁ (S.ext e₁) _ _ fun vs B₂ s₂ e₂ h₂ => ?_) hst
  have e12 := e₁.transE e₂
  have S2 := S.ext e12
  refine ⟨S2.en.le _ _ (S2.en.stat _ _ ho), ?_⟩
  have hfrs : frs [c.env] = [c.env.locals] := by simp [frs, hfe]
  obtain ⟨m, hns, hmv⟩ := S2.en.loc
  obtain ⟨oL, esL, epL, hoL, hdL, hrL⟩ := id hns
  refine sp B₂ s₂ vs S2.en.stat S2.at h₂ (.cons (by rw [S2.en.kind]; decide) hfe hns S2.en.frL trivial) (fun b mv hb hz => ?_) _ _ fun v d B' s' μ' hΦ x sl hfr dm at' hv => ?_
  · rw [hfrs] at hz; exact S2.apL b mv hb (List.mem_singleton.mp hz)
  rw [hfrs] at x sl hfr
  have nW : ∀ b, b ∈ W → b ≠ c.env.locals := fun b hb z => by obtain ⟨⟨mv, hm⟩, _⟩ := hW b hb; exact S2.apL b mv hm z
  have nC : ∀ y b, (y, b) ∈ c.env.cells → ¬ (b ∈ W ∨ b ∈ [c.env.locals]) := fun y b hy hz => by
    rcases hz with hz | hz
    · obtain ⟨⟨mv, hm⟩, _⟩ := hW b hz; exact S2.apC b mv hm y b hy rfl
    · exact S2.en.celL y b hy (List.mem_singleton.mp hz)
  obtain ⟨slL, hoL'⟩ := sl c.env.locals (by simp) oL hoL
  have S' : c.St B' s'.heap σ μ' := by
    refine ⟨⟨S2.en.stat.trans x.le, at'.le, S2.en.kind, S2.en.glob, S2.en.blt, ⟨m, ⟨_, esL, epL, hoL', hdL, hrL⟩, fun y d h1 h2 => ?_⟩, fun y b hy => ?_, S2.en.bound, S2.en.inj, S2.en.celK, S2.en.celL, hfr _ (by simp), fun y b hy => ?_, S2.en.loL, S2.en.loC, fun b ob hb => ?_⟩, at'.mu, fun b mv hb => ?_, fun b mv hb y b' hy => ?_⟩
    · obtain ⟨v, h3, h4⟩ := hmv y d h1 h2; exact ⟨v, h3, h4.le x.le⟩
    · obtain ⟨ov, ⟨ob, hob, hr⟩, h2⟩ := S2.en.cel y b hy
      exact ⟨ov, ⟨ob, x.keep b ob (nC y b hy) hob, hr⟩, fun d h0 h4 => let ⟨v, h5, h6⟩ := h2 d h0 h4; ⟨v, h5, h6.le x.le⟩⟩
    · obtain ⟨ov, ⟨ob, hob, hr⟩, h2⟩ := S2.en.cel y b hy
      exact x.none' (nC y b hy) hob (S2.en.frC y b hy)
    · obtain ⟨o', ho'⟩ := S2.en.pres b ob hb
      by_cases h1 : b ∈ W
      · obtain ⟨mv, hm⟩ := hWk d μ' hΦ b h1; exact (at'.mu.val b mv hm).2.get
      · by_cases h2 : b = c.env.locals
        · subst h2; exact ⟨_, hoL'⟩
        · exact ⟨o', x.keep b o' (fun z => z.elim h1 fun z => h2 (List.mem_singleton.mp z)) ho'⟩
    · rcases dm b mv hb with ⟨mv', h⟩ | h
      · exact S2.apL b mv' h
      · intro z; rw [z, hoL] at h; cases h
    · rcases dm b mv hb with ⟨mv', h⟩ | h
      · exact S2.apC b mv' h y b' hy
      · intro z
        obtain ⟨ov, ⟨ob, hob, _⟩, _⟩ := S2.en.cel y b' hy
        rw [z, hob] at h; cases h
  obtain ⟨σ', hasg, hΦ'⟩ := hk d μ' hΦ
  refine hasg B' s' v S' hv _ _ fun B'' s'' e'' S'' => ?_
  have x1 : Ext (Tch c μ) B s B' s' := Ext.trans (M := Tch c μ) e12.ofE x fun b hb => by
    rcases hb with hb | hb
    · exact .inl (.inr (hW b hb))
    · exact .inl (.inl (.inl (List.mem_singleton.mp hb)))
  refine q .next _ B'' s'' σ' μ' hΦ' rfl (x1.trans e'' fun b h => .inl (.inl h)) (fun b mv hb => ?_) S''
  rcases dm b mv hb with h | h
  · exact .inl h
  · exact (e12.gone h).elim (fun z => z.elim) .inr
end Mine

end

section
open PySem PySem.Calls PyProof.Rows
namespace Mine
namespace Law1

/-! ## What stands in a box -/
def thingAt (bs : List Addr) (past : List Ent) (k : Nat) (p : Int) : PV := match (hits past k p).getLast? with | some e => e.tg.tv bs | none => .int 0
def addKey (ks : List Int) (p : Int) : List Int := if p ∈ ks then ks else ks ++ [p]
def keysOf (past : List Ent) (k : Nat) : List Int := past.foldl (fun ks e => if e.box = k then addKey ks e.place else ks) []
def cont (kinds : List Int) (bs : List Addr) (past : List Ent) (k : Nat) : MV :=
  if kinds.getD k 0 = 1 then .dict ((keysOf past k).map fun p => (p, thingAt bs past k p)) else .list ((List.range 3).map fun (p : Nat) => thingAt bs past k (p : Int))

theorem hits_snoc (past : List Ent) (e : Ent) (k : Nat) (p : Int) : hits (past ++ [e]) k p = if e.box = k ∧ e.place = p then hits past k p ++ [e] else hits past k p := by
  unfold hits
  rw [List.filter_append]
  by_cases h : e.box = k ∧ e.place = p
  · rw [if_pos h]; simp [h.1, h.2]
  · rw [if_neg h]
    have : (e.box == k && e.place == p) = false := by
      cases hb : (e.box == k && e.place == p) with
      | false => rfl
      | true => simp at hb; exact absurd hb h
    simp [List.filter_cons, this]
theorem thingAt_snoc (bs : List Addr) (past : List Ent) (e : Ent) (k : Nat) (p : Int) : thingAt bs (past ++ [e]) k p = if e.box = k ∧ e.place = p then e.tg.tv bs else thingAt bs past k p := by
  unfold thingAt
  rw [hits_snoc]
  by_cases h : e.box = k ∧ e.place = p
  · simp [h]
  · rw [if_neg h, if_neg h]
theorem keysOf_snoc (past : List Ent) (e : Ent) (k : Nat) : keysOf (past ++ [e]) k = if e.box = k then addKey (keysOf past k) e.place else keysOf past k := by
  unfold keysOf; rw [List.foldl_append]; rfl
theorem snoc_ind {α : Type} {P : List α → Prop} (h0 : P []) (h1 : ∀ xs x, P xs → P (xs ++ [x])) : ∀ xs, P xs := by
  intro xs
  have : ∀ ys : List α, P ys.reverse := by
    intro ys
    induction ys with
    | nil => exact h0
    | cons y ys ih => rw [List.reverse_cons]; exact h1 _ _ ih
  have := this xs.reverse
  rwa [List.reverse_reverse] at this
theorem mem_addKey {ks : List Int} {p q : Int} : q ∈ addKey ks p ↔ q ∈ ks ∨ q = p := by
  unfold addKey
  split
  · constructor
    · exact .inl
    · rintro (h | rfl) <;> assumption
  · simp
theorem mem_keysOf {k : Nat} {p : Int} : ∀ past : List Ent, p ∈ keysOf past k ↔ hits past k p ≠ [] := by
  refine snoc_ind (by simp [keysOf, hits]) fun past e ih => ?_
  rw [keysOf_snoc, hits_snoc]
  by_cases h1 : e.box = k
  · rw [if_pos h1, mem_addKey, ih]
    by_cases h2 : e.place = p
    · rw [if_pos ⟨h1, h2⟩]; simp [h2]
    · rw [if_neg fun h => h2 h.2]
      constructor
      · rintro (h | h)
        · exact h
        · exact absurd h.symm h2
      · exact .inl
  · rw [if_neg h1, if_neg fun h => h1 h.1, ih]
theorem keysOf_nodup (k : Nat) : ∀ past : List Ent, (keysOf past k).Nodup := by
  refine snoc_ind (by simp [keysOf]) fun past e ih => ?_
  rw [keysOf_snoc]
  split
  · unfold addKey
    split
    · exact ih
    · rename_i h
      rw [List.nodup_append]
      refine ⟨ih, by simp, fun a ha b hb => ?_⟩
      simp at hb; subst hb
      exact fun q => h (q ▸ ha)
  · exact ih
theorem keysOf_length (k : Nat) : ∀ past : List Ent, (keysOf past k).length ≤ past.length := by
  refine snoc_ind (by simp [keysOf]) fun past e ih => ?_
  rw [keysOf_snoc]
  split
  · unfold addKey
    split
    · simp; omega
    · simp; omega
  · simp; omega
theorem keysOf_prefix (k : Nat) (past : List Ent) (e : Ent) : keysOf past k <+: keysOf (past ++ [e]) k := by
  rw [keysOf_snoc]
  split
  · unfold addKey
    split
    · exact List.prefix_rfl
    · exact List.prefix_append _ _
  · exact List.prefix_rfl

theorem cont_other {kinds : List Int} {bs : List Addr} {past : List Ent} {e : Ent} {k : Nat} (h : e.box ≠ k) : cont kinds bs (past ++ [e]) k = cont kinds bs past k := by
  have ht : ∀ p, thingAt bs (past ++ [e]) k p = thingAt bs past k p := fun p => by rw [thingAt_snoc, if_neg fun q => h q.1]
  unfold cont
  rw [keysOf_snoc, if_neg h]
  simp only [ht]
theorem kput_keys {f : Int → PV} {ks : List Int} {p : Int} {x : PV} : kput (ks.map fun q => (q, f q)) p x = (addKey ks p).map fun q => (q, if q = p then x else f q) := by
  unfold kput addKey
  have hany : (ks.map fun q => (q, f q)).any (fun kv => kv.1 = p) = decide (p ∈ ks) := by
    rw [List.any_map]
    rw [Bool.eq_iff_iff]
    simp [List.any_eq_true]
  rw [hany]
  by_cases h : p ∈ ks
  · simp only [h, decide_true, if_true, List.map_map]
    apply List.map_congr_left
    intro q _
    show (if q = p then (q, x) else (q, f q)) = (q, if q = p then x else f q)
    split <;> rfl
  · simp only [h, decide_false, Bool.false_eq_true, if_false, List.map_append]
    congr 1
    · apply List.map_congr_left
      intro q hq
      rw [if_neg (fun z : q = p => h (z ▸ hq))]
    · simp
theorem cont_dict {kinds : List Int} {bs : List Addr} {past : List Ent} {e : Ent} (h : kinds.getD e.box 0 = 1) : cont kinds bs (past ++ [e]) e.box = .dict (kput ((keysOf past e.box).map fun p => (p, thingAt bs past e.box p)) e.place (e.tg.tv bs)) := by
  unfold cont
  rw [if_pos h, keysOf_snoc, if_pos rfl, kput_keys]
  congr 1
  apply List.map_congr_left
  intro q _
  rw [thingAt_snoc]
  by_cases hq : q = e.place
  · rw [if_pos ⟨rfl, hq.symm⟩, if_pos hq]
  · rw [if_neg fun z => hq z.2.symm, if_neg hq]
theorem cont_list {kinds : List Int} {bs : List Addr} {past : List Ent} {e : Ent} {j : Nat} (h : kinds.getD e.box 0 ≠ 1) (hj : e.place = (j : Int)) (hj3 : j < 3) : cont kinds bs (past ++ [e]) e.box = .list (((List.range 3).map fun (p : Nat) => thingAt bs past e.box (p : Int)).set j (e.tg.tv bs)) := by
  unfold cont
  rw [if_neg h]
  congr 1
  have ht : ∀ p : Nat, thingAt bs (past ++ [e]) e.box (p : Int) = if p = j then e.tg.tv bs else thingAt bs past e.box (p : Int) := fun p => by
    rw [thingAt_snoc]
    by_cases hq : p = j
    · rw [if_pos ⟨rfl, by rw [hj, hq]⟩, if_pos hq]
    · rw [if_neg (fun z => hq (by have := z.2; rw [hj] at this; omega)), if_neg hq]
  simp only [ht]
  match j, hj3 with
  | 0, _ => rfl
  | 1, _ => rfl
  | 2, _ => rfl
end Law1
end Mine

end

section
open PySem PySem.Calls PyProof.Rows
namespace Mine
namespace Law1
variable {μ : Mu} {kinds : List Int} {bs : List Addr} {past : List Ent}

structure Good (kinds : List Int) (past : List Ent) : Prop where
  box : ∀ e ∈ past, e.box < kinds.length
  tgt : ∀ e ∈ past, ∀ j, e.tg = .box j → j < kinds.length
  lst : ∀ e ∈ past, kinds.getD e.box 0 ≠ 1 → 0 ≤ e.place ∧ e.place < 3
  key : ∀ k, k < kinds.length → [0, 1, 2] <+: keysOf past k
/-- the boxes, and what stands in them -/
structure Boxes (μ : Mu) (kinds : List Int) (bs : List Addr) (past : List Ent) : Prop where
  len : bs.length = kinds.length
  bin : ∀ x ∈ kinds, x = 0 ∨ x = 1
  sys : ∀ b ∈ bs, (b == sysModules) = false
  mem : ∀ k, k < kinds.length → (bs.getD k 0, cont kinds bs past k) ∈ μ

inductive ResOf (bs : List Addr) (n : Nat) : Wd → Except String PV → Prop where
  | box {j : Nat} : j < n → ResOf bs n (("box" : Str), (j : Int)) (.ok (.raw (.ref (bs.getD j 0))))
  | num {x : Int} : ResOf bs n (("number" : Str), x) (.ok (.int x))
  | err {X : String} {y : Int} : Err X → ResOf bs n ((X : Str), y) (.error X)

theorem kind01 (B : Boxes μ kinds bs past) {k : Nat} (hk : k < kinds.length) : kinds.getD k 0 = 0 ∨ kinds.getD k 0 = 1 := by
  rw [List.getD_eq_getElem?_getD, List.getElem?_eq_getElem hk]
  exact B.bin _ (List.getElem_mem hk)
theorem sys_at (B : Boxes μ kinds bs past) {k : Nat} (hk : k < kinds.length) : (bs.getD k 0 == sysModules) = false := by
  have hk' : k < bs.length := by rw [B.len]; exact hk
  rw [List.getD_eq_getElem?_getD, List.getElem?_eq_getElem hk']
  exact B.sys _ (List.getElem_mem hk')
theorem hits_of_key {k : Nat} {p : Int} (h : p ∈ keysOf past k) : ∃ e, (hits past k p).getLast? = some e ∧ e ∈ past ∧ e.box = k ∧ e.place = p := by
  have := (mem_keysOf past).mp h
  cases hq : (hits past k p).getLast? with
  | none => exact absurd (List.getLast?_eq_none_iff.mp hq) this
  | some e =>
    have hm := List.mem_filter.mp (List.mem_of_getLast? hq)
    simp only [Bool.and_eq_true, beq_iff_eq] at hm
    exact ⟨e, rfl, hm.1, hm.2.1, hm.2.2⟩
theorem hits_nil {k : Nat} {p : Int} (h : p ∉ keysOf past k) : (hits past k p).getLast? = none := by
  rw [List.getLast?_eq_none_iff]
  cases hq : hits past k p with
  | nil => rfl
  | cons e r => exact absurd ((mem_keysOf past).mpr (by rw [hq]; simp)) h
theorem list_key (G : Good kinds past) {k : Nat} (hk : k < kinds.length) (h0 : kinds.getD k 0 ≠ 1) {p : Int} : p ∈ keysOf past k ↔ 0 ≤ p ∧ p < 3 := by
  constructor
  · intro h
    obtain ⟨e, _, he, hb, hp⟩ := hits_of_key h
    rw [← hp]
    exact G.lst e he (by rw [hb]; exact h0)
  · intro h
    have := (G.key k hk).subset (a := p) (by
      have : p = 0 ∨ p = 1 ∨ p = 2 := by omega
      rcases this with rfl | rfl | rfl <;> simp)
    exact this
theorem idx_place {step : Int} : idxOf step 3 = if 0 ≤ lawPlace 0 step ∧ lawPlace 0 step < 3 then some (lawPlace 0 step).toNat else none := by
  unfold idxOf lawPlace
  by_cases h0 : 0 ≤ step
  · rw [if_pos h0]
    rw [if_neg (show ¬ ((0 : Int) = 0 ∧ -3 ≤ step ∧ step < 0) by omega)]
    by_cases h3 : step < 3
    · rw [if_pos (by exact_mod_cast h3), if_pos ⟨h0, h3⟩]
    · rw [if_neg (by exact_mod_cast h3), if_neg (fun z => h3 z.2)]
  · rw [if_neg h0]
    by_cases h3 : -3 ≤ step
    · rw [if_pos (by exact_mod_cast h3), if_pos (show (0 : Int) = 0 ∧ -3 ≤ step ∧ step < 0 by omega), if_pos (by omega)]; rfl
    · rw [if_neg (by exact_mod_cast h3), if_neg (show ¬ ((0 : Int) = 0 ∧ -3 ≤ step ∧ step < 0) by omega), if_neg (by omega)]
theorem thing_res (G : Good kinds past) {k : Nat} {e : Ent} (he : e ∈ past) : ResOf bs kinds.length e.tg.wd (.ok (e.tg.tv bs)) := by
  cases ht : e.tg with
  | box j => exact .box (G.tgt e he j ht)
  | num x => exact .num
theorem lookup_map_keys {f : Int → PV} {p : Int} : ∀ {ks : List Int}, (ks.map fun q => (q, f q)).lookup p = if p ∈ ks then some (f p) else none
  | [] => by simp
  | k :: ks => by
    rw [List.map_cons, List.lookup_cons]
    by_cases h : p = k
    · subst h; simp
    · have : (p == k) = false := by simpa using h
      rw [this, lookup_map_keys]
      simp [h]

theorem item_target (B : Boxes μ kinds bs past) (G : Good kinds past) {k : Nat} (hk : k < kinds.length) (step : Int) : ∃ r, ResOf bs kinds.length (targetOf kinds past k step) r ∧ Item μ step (.raw (.ref (bs.getD k 0))) r := by
  have hm := B.mem k hk
  unfold targetOf
  rcases kind01 B hk with h0 | h1
  · have hc : cont kinds bs past k = .list ((List.range 3).map fun (p : Nat) => thingAt bs past k (p : Int)) := by unfold cont; rw [if_neg (by omega)]
    rw [hc] at hm
    rw [h0]
    have hidx := idx_place (step := step)
    by_cases hp : 0 ≤ lawPlace 0 step ∧ lawPlace 0 step < 3
    · rw [if_pos hp] at hidx
      obtain ⟨e, h1, h2, h3, h4⟩ := hits_of_key ((list_key G hk (by omega)).mpr hp)
      rw [h1]
      refine ⟨_, thing_res G (k := k) h2, .list hm hidx ?_⟩
      rw [List.getElem?_map, List.getElem?_range (by omega)]
      show some (thingAt bs past k (((lawPlace 0 step).toNat : Nat) : Int)) = some (e.tg.tv bs)
      rw [Int.toNat_of_nonneg hp.1]
      unfold thingAt
      rw [h1]
    · rw [if_neg hp] at hidx
      rw [hits_nil fun z => hp ((list_key G hk (by omega)).mp z)]
      exact ⟨_, .err (X := "IndexError") (.inl (.inl rfl)), .listOut hm hidx⟩
  · have hc : cont kinds bs past k = .dict ((keysOf past k).map fun p => (p, thingAt bs past k p)) := by unfold cont; rw [if_pos h1]
    rw [hc] at hm
    rw [h1]
    have hpl : lawPlace 1 step = step := by unfold lawPlace; rw [if_neg (by omega)]
    rw [hpl]
    have hlk := lookup_map_keys (f := fun p => thingAt bs past k p) (p := step) (ks := keysOf past k)
    by_cases hp : step ∈ keysOf past k
    · rw [if_pos hp] at hlk
      obtain ⟨e, h1, h2, h3, h4⟩ := hits_of_key hp
      rw [h1]
      refine ⟨_, thing_res G (k := k) h2, .dict hm ?_⟩
      rw [hlk]
      unfold thingAt
      rw [h1]
    · rw [if_neg hp] at hlk
      rw [hits_nil hp]
      exact ⟨_, .err (X := "KeyError") (.inl (.inr rfl)), .dictOut hm hlk (sys_at B hk)⟩

theorem err_ne {X : String} (h : Err X) : (X : Str) ≠ ("box" : Str) ∧ (X : Str) ≠ ("number" : Str) ∧ (X : Str) ≠ ("told" : Str) := by
  rcases h with (rfl | rfl) | rfl <;> decide

theorem walk_ends (B : Boxes μ kinds bs past) (G : Good kinds past) : ∀ (path : List Int) {k : Nat}, k < kinds.length → ∃ r, ResOf bs kinds.length ((endsFrom kinds past path).getD k ("", 0)) r ∧ Walk μ (.raw (.ref (bs.getD k 0))) path r
  | [], k, hk => by
    refine ⟨_, ?_, .nil⟩
    unfold endsFrom
    rw [List.getD_eq_getElem?_getD, List.getElem?_map, List.getElem?_range hk]
    exact .box hk
  | st :: rest, k, hk => by
    obtain ⟨r, hr, hi⟩ := item_target B G hk st
    have hget : (endsFrom kinds past (st :: rest)).getD k ("", 0) = stepW kinds past st rest.isEmpty (endsFrom kinds past rest) k := by
      show ((List.range kinds.length).map (stepW kinds past st rest.isEmpty (endsFrom kinds past rest))).getD k ("", 0) = _
      rw [List.getD_eq_getElem?_getD, List.getElem?_map, List.getElem?_range hk]; rfl
    rw [hget]
    unfold stepW
    generalize targetOf kinds past k st = t at hr
    cases hr with
    | @box j hj =>
      obtain ⟨r', h1, h2⟩ := walk_ends B G rest hj
      refine ⟨r', ?_, .cons hi h2⟩
      simpa using h1
    | @num x =>
      simp only [show ¬ (("number" : Str) = ("box" : Str)) by decide, if_false]
      cases rest with
      | nil => simp only [List.isEmpty_nil, Bool.true_eq_false, and_false, if_false]; exact ⟨_, .num, .cons hi .nil⟩
      | cons s' rest' =>
        simp only [List.isEmpty_cons, and_self, if_true]
        exact ⟨_, .err (X := "TypeError") (.inr rfl), .cons hi (.stop .int)⟩
    | @err X y hX =>
      simp only [(err_ne hX).1, (err_ne hX).2.1, if_false, false_and]
      exact ⟨_, .err hX, .stop hi⟩

/-- putting a thing -/
theorem set_box (B : Boxes μ kinds bs past) (G : Good kinds past) {a : Nat} (ha : a < kinds.length) (step : Int) (tg : Tg) (htg : ∀ j, tg = .box j → j < kinds.length) (hz : past.length ≤ sizeLine) :
    (kinds.getD a 0 = 1 ∨ (0 ≤ lawPlace (kinds.getD a 0) step ∧ lawPlace (kinds.getD a 0) step < 3) →
      SetIt μ step (tg.tv bs) (.raw (.ref (bs.getD a 0))) (.ok (bs.getD a 0, cont kinds bs (past ++ [⟨a, lawPlace (kinds.getD a 0) step, tg⟩]) a)) ∧ Good kinds (past ++ [⟨a, lawPlace (kinds.getD a 0) step, tg⟩])) ∧
    (¬ (kinds.getD a 0 = 1 ∨ (0 ≤ lawPlace (kinds.getD a 0) step ∧ lawPlace (kinds.getD a 0) step < 3)) → SetIt μ step (tg.tv bs) (.raw (.ref (bs.getD a 0))) (.error "IndexError")) := by
  have hm := B.mem a ha
  have good : (kinds.getD a 0 ≠ 1 → 0 ≤ lawPlace (kinds.getD a 0) step ∧ lawPlace (kinds.getD a 0) step < 3) → Good kinds (past ++ [⟨a, lawPlace (kinds.getD a 0) step, tg⟩]) := fun hpl => by
    refine ⟨fun e he => ?_, fun e he j hj => ?_, fun e he h0 => ?_, fun k hk => ?_⟩
    · rcases List.mem_append.mp he with he | he
      · exact G.box e he
      · cases List.mem_singleton.mp he; exact ha
    · rcases List.mem_append.mp he with he | he
      · exact G.tgt e he j hj
      · cases List.mem_singleton.mp he; exact htg j hj
    · rcases List.mem_append.mp he with he | he
      · exact G.lst e he h0
      · cases List.mem_singleton.mp he; exact hpl h0
    · exact (G.key k hk).trans (keysOf_prefix k past _)
  rcases kind01 B ha with h0 | h1
  · have hc : cont kinds bs past a = .list ((List.range 3).map fun (p : Nat) => thingAt bs past a (p : Int)) := by unfold cont; rw [if_neg (by omega)]
    rw [hc] at hm
    have hidx := idx_place (step := step)
    refine ⟨fun h => ?_, fun h => ?_⟩
    · rcases h with h | h
      · omega
      · refine ⟨?_, good fun _ => h⟩
        rw [h0] at h ⊢
        rw [if_pos h] at hidx
        have e := cont_list (kinds := kinds) (bs := bs) (past := past) (e := ⟨a, lawPlace 0 step, tg⟩) (j := (lawPlace 0 step).toNat) (by show kinds.getD a 0 ≠ 1; omega) (Int.toNat_of_nonneg h.1).symm (by omega)
        simp only at e
        rw [e]
        exact .list hm hidx
    · rw [h0] at h
      rw [if_neg fun z => h (.inr z)] at hidx
      exact .listOut hm hidx
  · have hc : cont kinds bs past a = .dict ((keysOf past a).map fun p => (p, thingAt bs past a p)) := by unfold cont; rw [if_pos h1]
    rw [hc] at hm
    refine ⟨fun _ => ⟨?_, good fun z => absurd h1 z⟩, fun h => absurd (.inl h1) h⟩
    have hpl : lawPlace (kinds.getD a 0) step = step := by rw [h1]; unfold lawPlace; rw [if_neg (by omega)]
    rw [hpl]
    have e := cont_dict (kinds := kinds) (bs := bs) (past := past) (e := ⟨a, step, tg⟩) h1
    simp only at e
    rw [e]
    refine .dict hm ?_
    have := keysOf_length a past
    rw [List.length_map]; omega
end Law1
end Mine

end

section
open PySem PySem.Calls PyProof.Rows
namespace Mine
local macro_rules | `(tactic| walk_at "lk") => `(tactic| first | assumption | exact lookup_put_eq | (refine (lookup_put_ne (by decide)).trans ?_; walk_at "lk"))

theorem pslice_from {α : Type} (ds : List α) (n : Nat) : pslice ds (some (n : Int)) none = ds.drop n := by
  unfold pslice sliceBounds
  simp only [Option.getD_none]
  by_cases h : n ≤ ds.length
  · simp
    have h1 : ¬ ((n : Int) < 0) := by omega
    simp [h1]
    have h2 : min (n : Int) (ds.length : Int) = (n : Int) := by omega
    simp [h2]
    rw [List.take_of_length_le (by simp)]
  · simp
    have h1 : ¬ ((n : Int) < 0) := by omega
    simp [h1]
    have h2 : min (n : Int) (ds.length : Int) = (ds.length : Int) := by omega
    simp [h2]
    omega
theorem pslice_to {α : Type} (ds : List α) (n : Nat) : pslice ds none (some (n : Int)) = ds.take n := by
  unfold pslice sliceBounds
  simp only [Option.getD_none]
  have h1 : ¬ ((n : Int) < 0) := by omega
  by_cases h : n ≤ ds.length
  · have h2 : min (n : Int) (ds.length : Int) = (n : Int) := by omega
    simp [h1, h2]
  · have h2 : min (n : Int) (ds.length : Int) = (ds.length : Int) := by omega
    simp [h1, h2]
    rw [List.take_of_length_le (by omega)]

namespace Law1
variable {w : World} {B₀ : Heap} {mg mb : Str → Option Value} {A : Around} {μ : Mu}
theorem fn_law {a : Addr} (h : FnAt B₀ mg pw 12 "law" a) : ∃ pm code doc, FnIs B₀ a (docDef "law" (paramsAt pw 12) (bodyAt pw 12) (scopeAt pw 12) pm code doc) ["script"] (bodyAt pw 12) :=
  h.is _ fun pm code doc vs hv => match vs, hv with | [v1], _ => rfl

abbrev lawDef (pm code doc : Value) : FuncData := docDef "law" (paramsAt pw 12) (bodyAt pw 12) (scopeAt pw 12) pm code doc
abbrev lawCt (w : World) (B₀ H₀ : Heap) (A : Around) (n : Nat) (a : Addr) (pm code doc : Value) : Ct := fnCt pw w B₀ H₀ [] A (lawDef pm code doc) n a

def cntOf (script : List Int) : Int := 1 + (script.headD 0).fmod 5
theorem cnt_nat (script : List Int) : ∃ n : Nat, cntOf script = (n : Int) ∧ 1 ≤ n ∧ n ≤ 5 := by
  have h1 : 0 ≤ (script.headD 0).fmod 5 := Int.fmod_nonneg_of_pos _ (by decide)
  have h2 : (script.headD 0).fmod 5 < 5 := Int.fmod_lt_of_pos _ (by decide)
  refine ⟨(cntOf script).toNat, ?_, ?_, ?_⟩ <;> unfold cntOf <;> omega
def numsOf (script : List Int) (cnt : Nat) : List Int := (script.drop 1 ++ List.replicate 20 0).take (4 * cnt)
theorem nums_len (script : List Int) {cnt : Nat} (h : cnt ≤ 5) : (numsOf script cnt).length = 4 * cnt := by
  unfold numsOf; simp; omega
def kindsOf (nums : List Int) (cnt : Nat) : List Int := (List.range cnt).map fun k => (nums.getD (4 * k) 0).fmod 2
def entOf (nums : List Int) (cnt k p : Nat) : Ent :=
  ⟨k, (p : Int), if (nums.getD (4 * k + 1 + p) 0).fmod ((cnt : Int) + 1) < (cnt : Int) then .box ((nums.getD (4 * k + 1 + p) 0).fmod ((cnt : Int) + 1)).toNat else .num (nums.getD (4 * k + 1 + p) 0)⟩

def rowOf (nums : List Int) (cnt k : Nat) : List Ent := (List.range 3).map fun p => entOf nums cnt k p
def pastOf (nums : List Int) (cnt i : Nat) : List Ent := (List.range i).flatMap fun k => rowOf nums cnt k
theorem pastOf_succ (nums : List Int) (cnt i : Nat) : pastOf nums cnt (i + 1) = pastOf nums cnt i ++ rowOf nums cnt i := by
  unfold pastOf; rw [List.range_succ, List.flatMap_append]; simp

theorem pastOf_length (nums : List Int) (cnt : Nat) : ∀ i, (pastOf nums cnt i).length = 3 * i
  | 0 => rfl
  | i + 1 => by rw [pastOf_succ, List.length_append, pastOf_length nums cnt i]; simp [rowOf]; omega
theorem rowOf_take (nums : List Int) (cnt i : Nat) {j : Nat} (h : j < 3) : (rowOf nums cnt i).take (j + 1) = (rowOf nums cnt i).take j ++ [entOf nums cnt i j] := by
  rw [List.take_add_one]
  congr 1
  unfold rowOf
  rw [List.getElem?_map, List.getElem?_range h]; rfl

def kindOfN (nums : List Int) : PV → Option PV
  | .int k => some (.int ((nums.getD (4 * k.toNat) 0).fmod 2))
  | _ => none
theorem kinds_comp (nums : List Int) (cnt : Nat) : (rangeList 0 (cnt : Int) 1).filterMap (kindOfN nums) = (kindsOf nums cnt).map PV.int := by
  rw [rangeList_up]
  unfold kindsOf
  rw [List.filterMap_map, List.map_map]
  induction List.range cnt with
  | nil => rfl
  | cons k r ih => rw [List.filterMap_cons]; simp only [Function.comp, kindOfN, Int.toNat_natCast, List.map_cons]; rw [← ih]
theorem getD_map_int {nums : List Int} {i : Nat} (h : i < nums.length) : (nums.map PV.int)[i]? = some (.int (nums.getD i 0)) := by
  rw [List.getElem?_map, List.getD_eq_getElem?_getD, List.getElem?_eq_getElem h]; rfl

theorem law_init {H₀ : Heap} {n : Nat} {a : Addr} {pm code doc : Value} {script : List Int} {Φ : Post} (G : Gl B₀ mg mb) (hrange : Glb mg mb "range" (.type "range")) (room : Rm (lawCt w B₀ H₀ A n a pm code doc).A 5) (hz : script.length ≤ 63) {cnt : Nat} (hc : cntOf script = (cnt : Int)) (h1 : 1 ≤ cnt) (h5 : cnt ≤ 5)
    (k : ∀ σ pa, H₀.get? pa = none → Has σ "script" (.list (script.map .int)) → Has σ "count" (.int (cnt : Int)) → Has σ "numbers" (.list ((numsOf script cnt).map .int)) → Has σ "kinds" (.list ((kindsOf (numsOf script cnt) cnt).map .int)) → Has σ "past" (.raw (.ref pa)) →
      Exs (lawCt w B₀ H₀ A n a pm code doc) σ [(pa, MV.list ((pastOf (numsOf script cnt) cnt cnt).map Ent.pv))] ((bodyAt pw 12).drop 5) Φ) :
    Exs (lawCt w B₀ H₀ A n a pm code doc) [("script", .list (script.map .int))] [] (bodyAt pw 12) Φ := by
  have hsz : sizeLine = 2 ^ 24 := rfl
  refine Exs.cons (Ex.assign (d := .int (cnt : Int)) (Ev.cast (Ev.bin Ev.int (Ev.bin (d₁ := .int (script.headD 0)) (Ev.ite (Tr.plain (Ev.name (d := .list (script.map .int)) rfl) (th_list .fr (by simp; omega))) (fun h => ?_) (fun h => ?_)) Ev.int (op_modI (by decide) (by decide))) op_addI) (by rw [← hc]; rfl)) ?_)
  · refine Ev.item (Ev.name (d := .list (script.map .int)) rfl) Ev.int .fr ?_ (by simp; omega)
    cases script with
    | nil => simp at h
    | cons x r => rfl
  · cases script with
    | nil => exact Ev.int
    | cons x r => simp at h
  refine Exs.cons (Ex.assign (d := .list ((numsOf script cnt).map .int)) (Ev.cast (Ev.slice (ds := (script.drop 1).map PV.int ++ (List.replicate 20 0).map PV.int) (lo := none) (hi := some ((4 * cnt : Nat) : Int)) (Ev.bin (Ev.cast (Ev.slice (Ev.name (d := .list (script.map .int)) rfl) .fr (lo := some ((1 : Nat) : Int)) (hi := none) ⟨1, rfl, Ev.int⟩ rfl (by simp; omega)) (by rw [pslice_from, ← List.map_drop])) (Ev.cast (op_mulL (ds := [.int 0]) (x := 20) (vs := []) (by simp) (by decide) (by decide) (by decide) (run_listDisp (Evs.cons Ev.int Evs.nil)) Ev.int) (by rfl)) (op_addL .fr .fr (by simp; omega))) .fr rfl ⟨_, rfl, Ev.cast (Ev.bin Ev.int (Ev.name (d := .int (cnt : Int)) rfl) (op_mulI (.inl (by decide)))) (by simp)⟩ (by simp; omega)) (by rw [pslice_to, ← List.map_append, ← List.map_take]; rfl)) ?_)
  have hnl := nums_len script (cnt := cnt) h5
  refine Exs.cons (Ex.assign (Ev.comp (kindOfN (numsOf script cnt)) (ItE.range room.handled (Ev.callT (Ev.blt G hrange.none hrange.some) (Evs.cons (Ev.name (d := .int (cnt : Int)) rfl) Evs.nil) sp_range1) (small_of (by omega) (by omega) (.inl rfl))) trivial (fun C H d hd => ?_) (by rw [rangeList_up]; simp; omega)) ?_)
  · rw [rangeList_up] at hd
    obtain ⟨i, hi, rfl⟩ := List.mem_map.mp hd
    have hi' : i < cnt := List.mem_range.mp hi
    refine ⟨_, Asg.name, .all ?_⟩
    show Ev _ _ _ _ (.int (((numsOf script cnt).getD (4 * (i : Int).toNat) 0).fmod 2))
    refine Ev.bin (d₁ := .int ((numsOf script cnt).getD (4 * (i : Int).toNat) 0)) (Ev.item (i := ((4 * i : Nat) : Int)) (Ev.name (d := .list ((numsOf script cnt).map .int)) rfl) (Ev.cast (Ev.bin Ev.int (Ev.name (d := .int (i : Int)) rfl) (op_mulI (.inl (by decide)))) (by simp)) .fr (pget_nat (getD_map_int (by rw [hnl]; omega))) (by simp; omega)) Ev.int (op_modI (by decide) (by decide))
  rw [kinds_comp]
  refine Exs.cons (Ex.assignN (EvN.list Evs.nil) fun d μn hΨ hf => ?_)
  obtain ⟨pa, rfl, rfl⟩ := hΨ
  obtain ⟨hb1, hb2⟩ := hf pa (MV.list []) (by simp)
  refine Exs.cons (Ex.forI (ds := rangeList 0 (cnt : Int) 1) (Km := fun _ => True) (ItE.range room.handled (Ev.callT (Ev.blt G hrange.none hrange.some) (Evs.cons (Ev.name (d := .int (cnt : Int)) rfl) Evs.nil) sp_range1) (small_of (by omega) (by omega) (.inl rfl)))
    (fun i σ' μ' => μ' = [(pa, MV.list ((pastOf (numsOf script cnt) cnt i).map Ent.pv))] ∧ Has σ' "script" (.list (script.map .int)) ∧ Has σ' "count" (.int (cnt : Int)) ∧ Has σ' "numbers" (.list ((numsOf script cnt).map .int)) ∧ Has σ' "kinds" (.list ((kindsOf (numsOf script cnt) cnt).map .int)) ∧ Has σ' "past" (.raw (.ref pa)))
    ⟨rfl, rfl, rfl, rfl, rfl, rfl⟩ (fun _ _ _ _ => trivial) ?_ ?_)
  · rintro i σ' μ' d hi hd ⟨rfl, g1, g2, g3, g4, g5⟩
    rw [rangeList_up] at hi hd
    simp only [List.length_map, List.length_range] at hi
    have hd' : d = .int (i : Int) := by
      simp only [List.getElem?_map, List.getElem?_range hi, Option.map_some, Option.some.injEq] at hd
      exact hd.symm
    subst hd'
    refine ⟨_, Asg.name, ?_⟩
    refine Exs.cons (Ex.forI (ds := rangeList 0 ((3 : Nat) : Int) 1) (Km := fun _ => True) (ItE.range room.handled (Ev.callT (Ev.blt G hrange.none hrange.some) (Evs.cons Ev.int Evs.nil) sp_range1) (small_of (by decide) (by decide) (.inl rfl)))
      (fun j σ' μ' => μ' = [(pa, MV.list ((pastOf (numsOf script cnt) cnt i ++ (rowOf (numsOf script cnt) cnt i).take j).map Ent.pv))] ∧ Has σ' "script" (.list (script.map .int)) ∧ Has σ' "count" (.int (cnt : Int)) ∧ Has σ' "numbers" (.list ((numsOf script cnt).map .int)) ∧ Has σ' "kinds" (.list ((kindsOf (numsOf script cnt) cnt).map .int)) ∧ Has σ' "past" (.raw (.ref pa)) ∧ Has σ' "k" (.int (i : Int)))
      ⟨by simp, by walk_at "lk", by walk_at "lk", by walk_at "lk", by walk_at "lk", by walk_at "lk", by walk_at "lk"⟩ (fun _ _ _ _ => trivial) ?_ ?_)
    · rintro j σ₂ μ₂ d hj hd ⟨rfl, f1, f2, f3, f4, f5, f6⟩
      rw [rangeList_up] at hj hd
      simp only [List.length_map, List.length_range] at hj
      have hd' : d = .int (j : Int) := by
        simp only [List.getElem?_map, List.getElem?_range hj, Option.map_some, Option.some.injEq] at hd
        exact hd.symm
      subst hd'
      refine ⟨_, Asg.name, ?_⟩
      refine Exs.cons (Ex.assign (d := .int ((numsOf script cnt).getD (4 * i + 1 + j) 0)) (Ev.item (i := ((4 * i + 1 + j : Nat) : Int)) (Ev.name (d := .list ((numsOf script cnt).map .int)) (by walk_at "lk")) (Ev.cast (Ev.bin (Ev.bin (Ev.bin Ev.int (Ev.name (d := .int (i : Int)) (by walk_at "lk")) (op_mulI (.inl (by decide)))) Ev.int op_addI) (Ev.name (d := .int (j : Int)) (by walk_at "lk")) op_addI) (by simp)) .fr (pget_nat (getD_map_int (by rw [hnl]; omega))) (by simp; omega)) ?_)
      have hpl : (pastOf (numsOf script cnt) cnt i ++ (rowOf (numsOf script cnt) cnt i).take j).length ≤ 1000 := by
        rw [List.length_append, pastOf_length, List.length_take]; omega
      refine Exs.cons (Ex.append (d := (entOf (numsOf script cnt) cnt i j).pv) (Ev.name (d := .raw (.ref pa)) (by walk_at "lk")) (List.mem_singleton.mpr rfl) (.inl hb1) ?_ (by rw [List.length_map]; omega) ?_)
      · have hx0 : 0 ≤ ((numsOf script cnt).getD (4 * i + 1 + j) 0).fmod ((cnt : Int) + 1) := Int.fmod_nonneg_of_pos _ (by omega)
        refine Ev.tuple (Evs.cons (Ev.name (by walk_at "lk")) (Evs.cons (Ev.name (by walk_at "lk")) (Evs.cons (d := (entOf (numsOf script cnt) cnt i j).tg.pv) (Ev.ite (Tr.cmp (Ev.bin (Ev.name (d := .int ((numsOf script cnt).getD (4 * i + 1 + j) 0)) (by walk_at "lk")) (Ev.bin (Ev.name (d := .int (cnt : Int)) (by walk_at "lk")) Ev.int op_addI) (op_modI (by omega) (by omega))) (Ev.name (d := .int (cnt : Int)) (by walk_at "lk")) op_ltI) (fun h => ?_) (fun h => ?_)) Evs.nil))) (by show 3 ≤ _; decide)
        · have ht : (entOf (numsOf script cnt) cnt i j).tg = .box (((numsOf script cnt).getD (4 * i + 1 + j) 0).fmod ((cnt : Int) + 1)).toNat := by unfold entOf; rw [if_pos (by simpa using h)]
          rw [ht]
          refine Ev.tuple (Evs.cons Ev.str (Evs.cons (Ev.cast (Ev.bin (Ev.name (d := .int ((numsOf script cnt).getD (4 * i + 1 + j) 0)) (by walk_at "lk")) (Ev.bin (Ev.name (d := .int (cnt : Int)) (by walk_at "lk")) Ev.int op_addI) (op_modI (by omega) (by omega))) (by rw [Int.toNat_of_nonneg hx0])) Evs.nil)) (by show 2 ≤ _; decide)
        · have ht : (entOf (numsOf script cnt) cnt i j).tg = .num ((numsOf script cnt).getD (4 * i + 1 + j) 0) := by unfold entOf; rw [if_neg (by simpa using h)]
          rw [ht]
          exact Ev.tuple (Evs.cons Ev.str (Evs.cons (Ev.name (by walk_at "lk")) Evs.nil)) (by show 2 ≤ _; decide)
      · refine Exs.nil ⟨?_, by walk_at "lk", by walk_at "lk", by walk_at "lk", by walk_at "lk", by walk_at "lk", by walk_at "lk"⟩
        rw [rowOf_take _ _ _ hj, ← List.append_assoc, List.map_append]
        simp [mset]
    · rintro σ₂ μ₂ ⟨rfl, f1, f2, f3, f4, f5, f6⟩
      refine Exs.nil ⟨?_, f1, f2, f3, f4, f5⟩
      have hl3 : (rangeList 0 ((3 : Nat) : Int) 1).length = 3 := by rw [rangeList_up]; rfl
      rw [hl3, List.take_of_length_le (by simp [rowOf]), pastOf_succ]
  · rintro σ' μ' ⟨rfl, g1, g2, g3, g4, g5⟩
    have hl3 : (rangeList 0 (cnt : Int) 1).length = cnt := by rw [rangeList_up]; simp
    rw [hl3]
    exact k σ' pa hb1 g1 g2 g3 g4 g5
end Law1
end Mine

end

section
open PySem PySem.Calls PyProof.Rows
namespace Mine
local macro_rules | `(tactic| walk_at "lk") => `(tactic| first | assumption | exact lookup_put_eq | (refine (lookup_put_ne (by decide)).trans ?_; walk_at "lk"))

theorem EvN.mono {c : Ct} {σ : Sg} {μ : Mu} {e : Expr} {Ψ Ψ' : PV → Mu → Prop} (h : EvN c σ μ e Ψ) (k : ∀ d m, Ψ d m → Ψ' d m) : EvN c σ μ e Ψ' := fun B s S Q E q => h B s S Q E fun v d B' s' μn hΨ => q v d B' s' μn (k d μn hΨ)
theorem EvN.list' {c : Ct} {σ : Sg} {μ : Mu} {mg mb : Str → Option Value} {es : List Expr} {pos : Pos} {ds : List PV} (G : Gl c.B₀ mg mb) (h : Evs c σ μ pos es ds) (hz : ds.length ≤ sizeLine := by first | decide | simp [sizeLine]) : EvN c σ μ (.List es pos) (fun d m => ∃ a, d = .raw (.ref a) ∧ m = [(a, MV.list ds)] ∧ (a == sysModules) = false) := by
  intro B s S Q E q
  refine List_ (h B s S _ _ fun vs B₁ s₁ e₁ h₁ => wpAny_newList ?_ (by rw [h₁.length]; exact hz))
  have S₁ := S.ext e₁
  have hlo : (s₁.heap.objs.size == sysModules) = false := by
    obtain ⟨o, _, _, ho, _⟩ := G.g
    have : mainGlobals < s₁.heap.objs.size := Heap.lt_size (S₁.en.le _ _ (S₁.en.stat _ _ ho))
    have h3 : (3 : Nat) < s₁.heap.objs.size := this
    rw [beq_eq_false_iff_ne]
    intro h
    have h1 : s₁.heap.objs.size = (1 : Nat) := h
    omega
  refine q _ (.raw (.ref s₁.heap.objs.size)) B₁ _ [(s₁.heap.objs.size, MV.list ds)] ⟨_, rfl, rfl, hlo⟩ (e₁.transE (newIt e₁.inn _)) ⟨fun a mv ha => ?_, by simp⟩ rfl
  simp only [List.mem_singleton, Prod.mk.injEq] at ha
  obtain ⟨rfl, rfl⟩ := ha
  exact ⟨(e₁.gone (get_size _)).elim (fun z => z.elim) fun z => z, le_none e₁.inn (get_size _), vs, _, Heap.get?_push_size _ rfl, h₁⟩

namespace Law1
variable {w : World} {B₀ : Heap} {mg mb : Str → Option Value} {A : Around} {μ : Mu} {kinds : List Int} {bs : List Addr} {past : List Ent}
def initB (x : Int) : MV := if x = 1 then .dict [] else .list [.int 0, .int 0, .int 0]
def BoxΨ (d : PV) (o : Option PV) (m : Mu) : Prop := ∃ x a, d = .int x ∧ o = some (.raw (.ref a)) ∧ m = [(a, initB x)] ∧ (a == sysModules) = false
theorem outs_boxes {ds outs : List PV} {m : Mu} (h : Outs BoxΨ ds outs m) : ∃ xs bs, ds = xs.map PV.int ∧ outs = bs.map (fun b => PV.raw (.ref b)) ∧ m = List.zipWith (fun x b => (b, initB x)) xs bs ∧ xs.length = bs.length ∧ ∀ b ∈ bs, (b == sysModules) = false := by
  induction h with
  | nil => exact ⟨[], [], rfl, rfl, rfl, rfl, fun b hb => nomatch hb⟩
  | @take ds outs m m' d y _ hΨ ih =>
    obtain ⟨xs, bs, rfl, rfl, rfl, hl, hs⟩ := ih
    obtain ⟨x, a, rfl, hy, rfl, hsa⟩ := hΨ
    cases hy
    refine ⟨xs ++ [x], bs ++ [a], by simp, by simp, ?_, by simp [hl], fun b hb => ?_⟩
    · rw [List.zipWith_append hl]; rfl
    · rcases List.mem_append.mp hb with hb | hb
      · exact hs b hb
      · cases List.mem_singleton.mp hb; exact hsa
  | @skip ds outs m d _ hΨ ih => obtain ⟨x, a, _, hy, _⟩ := hΨ; cases hy
theorem cont_nil (kinds : List Int) (bs : List Addr) (k : Nat) : cont kinds bs [] k = initB (kinds.getD k 0) := by
  unfold cont initB
  split <;> rfl
theorem map_int_inj : ∀ {xs ys : List Int}, xs.map PV.int = ys.map PV.int → xs = ys
  | [], [], _ => rfl
  | [], _ :: _, h => by simp at h
  | _ :: _, [], h => by simp at h
  | x :: xs, y :: ys, h => by
    simp only [List.map_cons, List.cons.injEq, PV.int.injEq] at h
    rw [h.1, map_int_inj h.2]

/-- putting a thing, as far as the heap goes -/
theorem set_it (B : Boxes μ kinds bs past) {a : Nat} (ha : a < kinds.length) (step : Int) (tg : Tg) (hz : past.length ≤ sizeLine) :
    (kinds.getD a 0 = 1 ∨ (0 ≤ lawPlace (kinds.getD a 0) step ∧ lawPlace (kinds.getD a 0) step < 3) →
      SetIt μ step (tg.tv bs) (.raw (.ref (bs.getD a 0))) (.ok (bs.getD a 0, cont kinds bs (past ++ [⟨a, lawPlace (kinds.getD a 0) step, tg⟩]) a))) := by
  have hm := B.mem a ha
  rcases kind01 B ha with h0 | h1
  · have hc : cont kinds bs past a = .list ((List.range 3).map fun (p : Nat) => thingAt bs past a (p : Int)) := by unfold cont; rw [if_neg (by omega)]
    rw [hc] at hm
    have hidx := idx_place (step := step)
    intro h
    rcases h with h | h
    · omega
    · rw [h0] at h ⊢
      rw [if_pos h] at hidx
      have e := cont_list (kinds := kinds) (bs := bs) (past := past) (e := ⟨a, lawPlace 0 step, tg⟩) (j := (lawPlace 0 step).toNat) (by show kinds.getD a 0 ≠ 1; omega) (Int.toNat_of_nonneg h.1).symm (by omega)
      simp only at e
      rw [e]
      exact .list hm hidx
  · have hc : cont kinds bs past a = .dict ((keysOf past a).map fun p => (p, thingAt bs past a p)) := by unfold cont; rw [if_pos h1]
    rw [hc] at hm
    intro _
    have hpl : lawPlace (kinds.getD a 0) step = step := by rw [h1]; unfold lawPlace; rw [if_neg (by omega)]
    rw [hpl]
    have e := cont_dict (kinds := kinds) (bs := bs) (past := past) (e := ⟨a, step, tg⟩) h1
    simp only at e
    rw [e]
    refine .dict hm ?_
    have := keysOf_length a past
    rw [List.length_map]; omega
theorem getD_mem {k : Nat} (h : k < bs.length) : bs.getD k 0 ∈ bs := by rw [List.getD_eq_getElem?_getD, List.getElem?_eq_getElem h]; exact List.getElem_mem h
theorem getD_inj (hn : bs.Nodup) {i j : Nat} (hi : i < bs.length) (hj : j < bs.length) (h : bs.getD i 0 = bs.getD j 0) : i = j := by
  rw [List.getD_eq_getElem?_getD, List.getD_eq_getElem?_getD, List.getElem?_eq_getElem hi, List.getElem?_eq_getElem hj] at h
  have h' : bs[i] = bs[j] := h
  have hp := List.pairwise_iff_getElem.mp hn
  rcases Nat.lt_trichotomy i j with z | z | z
  · exact absurd h' (hp i j hi hj z)
  · exact z
  · exact absurd h'.symm (hp j i hj hi z)
theorem boxes_snoc (B : Boxes μ kinds bs past) (hn : bs.Nodup) {e : Ent} (he : e.box < kinds.length) : Boxes (mset (bs.getD e.box 0) (cont kinds bs (past ++ [e]) e.box) μ) kinds bs (past ++ [e]) := by
  refine ⟨B.len, B.bin, B.sys, fun k hk => ?_⟩
  by_cases h : k = e.box
  · subst h; exact mset_self (B.mem _ hk)
  · rw [cont_other (fun z => h z.symm)]
    exact mset_other (B.mem k hk) fun z => h (getD_inj hn (by rw [B.len]; exact hk) (by rw [B.len]; exact he) z)
theorem boxes_pa (B : Boxes μ kinds bs past) {pa : Addr} {mv : MV} (h : pa ∉ bs) : Boxes (mset pa mv μ) kinds bs past :=
  ⟨B.len, B.bin, B.sys, fun k hk => mset_other (B.mem k hk) fun z => h (z ▸ getD_mem (by rw [B.len]; exact hk))⟩

theorem keys_init (nums : List Int) (cnt k : Nat) : ∀ i, keysOf (pastOf nums cnt i) k = if k < i then [0, 1, 2] else []
  | 0 => by simp [pastOf, keysOf]
  | i + 1 => by
    have hrow : rowOf nums cnt i = [entOf nums cnt i 0, entOf nums cnt i 1, entOf nums cnt i 2] := rfl
    have e : pastOf nums cnt (i + 1) = ((pastOf nums cnt i ++ [entOf nums cnt i 0]) ++ [entOf nums cnt i 1]) ++ [entOf nums cnt i 2] := by rw [pastOf_succ, hrow]; simp
    rw [e, keysOf_snoc, keysOf_snoc, keysOf_snoc, keys_init nums cnt k i]
    by_cases h : i = k
    · subst h
      rw [if_neg (Nat.lt_irrefl _), if_pos (Nat.lt_succ_self _)]
      simp [entOf, addKey]
    · have h1 : ∀ p, ¬ (entOf nums cnt i p).box = k := fun p => h
      rw [if_neg (h1 2), if_neg (h1 1), if_neg (h1 0)]
      by_cases h2 : k < i
      · rw [if_pos h2, if_pos (by omega)]
      · rw [if_neg h2, if_neg (by omega)]
theorem mem_pastOf {nums : List Int} {cnt i : Nat} {e : Ent} (h : e ∈ pastOf nums cnt i) : ∃ k p, k < i ∧ p < 3 ∧ e = entOf nums cnt k p := by
  obtain ⟨k, hk, h⟩ := List.mem_flatMap.mp h
  obtain ⟨p, hp, rfl⟩ := List.mem_map.mp h
  exact ⟨k, p, List.mem_range.mp hk, List.mem_range.mp hp, rfl⟩
theorem kindsOf_length (nums : List Int) (cnt : Nat) : (kindsOf nums cnt).length = cnt := by simp [kindsOf]
theorem good_init (nums : List Int) {cnt : Nat} : Good (kindsOf nums cnt) (pastOf nums cnt cnt) := by
  refine ⟨fun e he => ?_, fun e he j hj => ?_, fun e he _ => ?_, fun k hk => ?_⟩
  · obtain ⟨k, p, hk, hp, rfl⟩ := mem_pastOf he
    rw [kindsOf_length]; exact hk
  · obtain ⟨k, p, hk, hp, rfl⟩ := mem_pastOf he
    rw [kindsOf_length]
    unfold entOf at hj
    split at hj
    · rename_i h
      cases hj
      have : 0 ≤ (nums.getD (4 * k + 1 + p) 0).fmod ((cnt : Int) + 1) := Int.fmod_nonneg_of_pos _ (by omega)
      omega
    · cases hj
  · obtain ⟨k, p, hk, hp, rfl⟩ := mem_pastOf he
    show 0 ≤ (p : Int) ∧ (p : Int) < 3
    omega
  · rw [kindsOf_length] at hk
    rw [keys_init, if_pos hk]
    exact List.prefix_rfl
theorem kinds_bin (nums : List Int) (cnt : Nat) : ∀ x ∈ kindsOf nums cnt, x = 0 ∨ x = 1 := fun x hx => by
  obtain ⟨k, _, rfl⟩ := List.mem_map.mp hx
  have h1 : 0 ≤ (nums.getD (4 * k) 0).fmod 2 := Int.fmod_nonneg_of_pos _ (by decide)
  have h2 : (nums.getD (4 * k) 0).fmod 2 < 2 := Int.fmod_lt_of_pos _ (by decide)
  omega
end Law1
end Mine

end

section
open PySem PySem.Calls PyProof.Rows
namespace Mine
theorem lookup_free {scope : Scope} {x : Str} {d : PV} (hk : scope.names.lookup x = some .free) : ∀ {σ : Sg}, σ.lookup x = some d → (freeOf scope σ).lookup x = some d
  | [], h => by simp at h
  | (y, e) :: r, h => by
    unfold freeOf
    rw [List.filter_cons]
    rw [List.lookup_cons] at h
    cases hx : x == y with
    | true =>
      rw [hx] at h
      have : y = x := (eq_of_beq hx).symm
      subst this
      rw [if_pos (by rw [hk]; rfl), List.lookup_cons, hx]; exact h
    | false =>
      rw [hx] at h
      split
      · rw [List.lookup_cons, hx]; exact lookup_free hk h
      · exact lookup_free hk h
local macro_rules | `(tactic| walk_at "lk") => `(tactic| first | assumption | exact lookup_put_eq | (refine (lookup_put_ne (by decide)).trans ?_; walk_at "lk") | (refine lookup_free (by rfl) ?_; walk_at "lk"))
namespace Law1
variable {w : World} {B₀ : Heap} {mg mb : Str → Option Value} {A : Around} {μ : Mu} {kinds : List Int} {bs : List Addr} {past : List Ent}

structure Ready (H₀ : Heap) (μ : Mu) (kinds : List Int) (bs : List Addr) (pa : Addr) (past : List Ent) : Prop where
  boxes : Boxes μ kinds bs past
  past : (pa, MV.list (past.map Ent.pv)) ∈ μ
  nodup : bs.Nodup
  apart : pa ∉ bs
  freshP : H₀.get? pa = none
  freshB : ∀ b ∈ bs, H₀.get? b = none

theorem zip_fst : ∀ {xs : List Int} {bs : List Addr}, xs.length = bs.length → (List.zipWith (fun x b => (b, initB x)) xs bs).map (·.1) = bs
  | [], [], _ => rfl
  | [], _ :: _, h => by simp at h
  | _ :: _, [], h => by simp at h
  | x :: xs, b :: bs, h => by simp only [List.zipWith_cons_cons, List.map_cons]; rw [zip_fst (by simpa using h)]
theorem zip_mem {xs : List Int} {bs : List Addr} (h : xs.length = bs.length) {k : Nat} (hk : k < xs.length) : (bs.getD k 0, initB (xs.getD k 0)) ∈ List.zipWith (fun x b => (b, initB x)) xs bs := by
  have : (List.zipWith (fun x b => (b, initB x)) xs bs)[k]? = some (bs.getD k 0, initB (xs.getD k 0)) := by
    rw [List.getElem?_zipWith, List.getElem?_eq_getElem hk, List.getElem?_eq_getElem (by omega)]
    simp [List.getD_eq_getElem?_getD, List.getElem?_eq_getElem hk, List.getElem?_eq_getElem (show k < bs.length by omega)]
  exact List.mem_of_getElem? this
theorem box_item {c : Ct} {σ : Sg} {k : Nat} {e : Expr} {p p2 : Pos} (h1 : Ev c σ μ (.Name "boxes" p) (boxesPv bs)) (h2 : Ev c σ μ e (.int (k : Int))) (hk : k < bs.length) (hz : bs.length ≤ 1000)
    (hs : ∀ o j u, subscripted e false (.ref o) (.int j u) = operate [.ref o, .int j u] (getItem (.ref o) (.int j u)) := by intro _ _ _; rfl) : Ev c σ μ (.Subscript (.Name "boxes" p) e p2) (.raw (.ref (bs.getD k 0))) := by
  have hsz : sizeLine = 2 ^ 24 := rfl
  refine Ev.item h1 h2 .fr (pget_nat ?_) (by rw [List.length_map]; omega) hs
  rw [List.getElem?_map, List.getElem?_eq_getElem hk, List.getD_eq_getElem?_getD, List.getElem?_eq_getElem hk]; rfl

theorem law_boxes {H₀ : Heap} {n : Nat} {a : Addr} {pm code doc : Value} {Φ : Post} (G : Gl B₀ mg mb) (room : Rm (lawCt w B₀ H₀ A n a pm code doc).A 5) {σ : Sg} {pa : Addr} {P : List Ent} {cnt : Int} {sc : PV} (hpa : H₀.get? pa = none) (hkl : kinds.length ≤ 5) (hPl : P.length ≤ 15) (hbin : ∀ x ∈ kinds, x = 0 ∨ x = 1) (hg : Good kinds P) (hpl : ∀ e ∈ P, 0 ≤ e.place ∧ e.place < 3)
    (g1 : Has σ "script" sc) (g2 : Has σ "count" (.int cnt)) (g4 : Has σ "kinds" (.list (kinds.map .int))) (g5 : Has σ "past" (.raw (.ref pa)))
    (k : ∀ σ μ bs, Ready H₀ μ kinds bs pa P → Has σ "script" sc → Has σ "count" (.int cnt) → Has σ "kinds" (.list (kinds.map .int)) → Has σ "past" (.raw (.ref pa)) → Has σ "boxes" (boxesPv bs) →
      Exs (lawCt w B₀ H₀ A n a pm code doc) σ μ ((bodyAt pw 12).drop 7) Φ) :
    Exs (lawCt w B₀ H₀ A n a pm code doc) σ [(pa, MV.list (P.map Ent.pv))] ((bodyAt pw 12).drop 5) Φ := by
  have hsz : sizeLine = 2 ^ 24 := rfl
  refine Exs.cons (Ex.assignN' (EvN.comp (Ψ := BoxΨ) (ItE.list room.handled .name (Ev.name g4)) trivial (fun C H d hd => ?_) (by simp; omega)) ?_)
  · obtain ⟨x, _, rfl⟩ := List.mem_map.mp hd
    refine ⟨_, Asg.name, .all (EvN.ite (Tr.cmp (Ev.name (d := .int x) lookup_put_eq) Ev.int op_eqI) (fun h => ?_) (fun h => ?_))⟩
    · refine (EvN.dict' G).mono ?_
      rintro d m ⟨b, rfl, rfl, hb⟩
      exact ⟨x, b, rfl, rfl, by unfold initB; rw [if_pos (by simpa using h)], hb⟩
    · refine (EvN.list' G (Evs.cons Ev.int (Evs.cons Ev.int (Evs.cons Ev.int Evs.nil))) (by show 3 ≤ _; decide)).mono ?_
      rintro d m ⟨b, rfl, rfl, hb⟩
      exact ⟨x, b, rfl, rfl, by unfold initB; rw [if_neg (by simpa using h)], hb⟩
  · rintro d μn ⟨outs, rfl, hout⟩ hfresh hnd
    obtain ⟨xs, bs, hxs, rfl, rfl, hl, hs⟩ := outs_boxes hout
    have := map_int_inj hxs
    subst this
    have hfst := zip_fst hl
    rw [hfst] at hnd
    have hin : ∀ b ∈ bs, ∃ mv, (b, mv) ∈ List.zipWith (fun x b => (b, initB x)) kinds bs := fun b hb => by
      rw [← hfst] at hb
      obtain ⟨⟨b', mv⟩, h1, rfl⟩ := List.mem_map.mp hb
      exact ⟨mv, h1⟩
    have hB0 : Boxes ([(pa, MV.list (P.map Ent.pv))] ++ List.zipWith (fun x b => (b, initB x)) kinds bs) kinds bs [] := ⟨hl.symm, hbin, hs, fun k hk => List.mem_append_right _ (by rw [cont_nil]; exact zip_mem hl hk)⟩
    have hap : pa ∉ bs := fun h => by obtain ⟨mv, hm⟩ := hin pa h; exact (hfresh pa mv hm).2 _ (List.mem_singleton.mpr rfl)
    have hfr : ∀ b ∈ bs, H₀.get? b = none := fun b hb => by obtain ⟨mv, hm⟩ := hin b hb; exact (hfresh b mv hm).1
    refine Exs.cons (Ex.forI (ItE.mlist (ds := P.map Ent.pv) (ax := pa) room.handled .tuple (Ev.name (by walk_at "lk")) (List.mem_append_left _ (List.mem_singleton.mpr rfl)))
      (fun i σ' μ' => Boxes μ' kinds bs (P.take i) ∧ (pa, MV.list (P.map Ent.pv)) ∈ μ' ∧ Has σ' "script" sc ∧ Has σ' "count" (.int cnt) ∧ Has σ' "kinds" (.list (kinds.map .int)) ∧ Has σ' "past" (.raw (.ref pa)) ∧ Has σ' "boxes" (boxesPv bs))
      ⟨hB0, List.mem_append_left _ (List.mem_singleton.mpr rfl), by walk_at "lk", by walk_at "lk", by walk_at "lk", by walk_at "lk", by walk_at "lk"⟩ (fun i σ' μ' h => h.2.1) ?_ ?_)
    · rintro i σ' μ' d hi hd ⟨hB, hP, f1, f2, f3, f4, f5⟩
      rw [List.length_map] at hi
      rw [List.getElem?_map, List.getElem?_eq_getElem hi] at hd
      simp only [Option.map_some, Option.some.injEq] at hd
      have hmem : P[i] ∈ P := List.getElem_mem hi
      have htk : P.take (i + 1) = P.take i ++ [P[i]] := by rw [List.take_add_one, List.getElem?_eq_getElem hi]; rfl
      generalize P[i] = e at hd hmem htk
      subst hd
      have hbx := hg.box e hmem
      have hbl : bs.length ≤ 1000 := by omega
      have hkn : kinds.getD e.box 0 = 0 ∨ kinds.getD e.box 0 = 1 := kind01 hB hbx
      have asg : ∀ (wd : Str) (x : Int), e.tg.pv = .tuple [.str wd, .int x] → ∃ σ'', Asg (lawCt w B₀ H₀ A n a pm code doc) σ' μ' (.Tuple [.Name "k" { line := 62, col := 8, endLine := 62, endCol := 9 }, .Name "place" { line := 62, col := 11, endLine := 62, endCol := 16 }, .Tuple [.Name "word" { line := 62, col := 19, endLine := 62, endCol := 23 }, .Name "x" { line := 62, col := 25, endLine := 62, endCol := 26 }] 0 { line := 62, col := 18, endLine := 62, endCol := 27 }] 0 { line := 62, col := 8, endLine := 62, endCol := 27 }) e.pv σ'' ∧
          Has σ'' "k" (.int (e.box : Int)) ∧ Has σ'' "place" (.int e.place) ∧ Has σ'' "word" (.str wd) ∧ Has σ'' "x" (.int x) ∧ Has σ'' "script" sc ∧ Has σ'' "count" (.int cnt) ∧ Has σ'' "kinds" (.list (kinds.map .int)) ∧ Has σ'' "past" (.raw (.ref pa)) ∧ Has σ'' "boxes" (boxesPv bs) := fun wd x hp => by
        refine ⟨_, Asg.tuple room.handled (.cons Asg.name (.cons Asg.name (.cons (hp ▸ Asg.tuple room.handled (.cons Asg.name (.cons Asg.name .nil rfl) rfl)) .nil rfl) rfl) rfl), by walk_at "lk", by walk_at "lk", by walk_at "lk", by walk_at "lk", by walk_at "lk", by walk_at "lk", by walk_at "lk", by walk_at "lk", by walk_at "lk"⟩
      have hp3 := hpl e hmem
      have hlp : lawPlace (kinds.getD e.box 0) e.place = e.place := by unfold lawPlace; rw [if_neg (by omega)]
      have hI := set_it hB hbx e.place e.tg (by rw [List.length_take]; omega) (.inr (by rw [hlp]; exact hp3))
      rw [hlp] at hI
      have hbl2 : e.box < bs.length := by rw [← hl]; exact hbx
      have hnext : ∀ {σ'' : Sg}, Has σ'' "script" sc → Has σ'' "count" (.int cnt) → Has σ'' "kinds" (.list (kinds.map .int)) → Has σ'' "past" (.raw (.ref pa)) → Has σ'' "boxes" (boxesPv bs) →
          (Boxes (mset (bs.getD e.box 0) (cont kinds bs (P.take i ++ [e]) e.box) μ') kinds bs (P.take (i + 1)) ∧ (pa, MV.list (P.map Ent.pv)) ∈ mset (bs.getD e.box 0) (cont kinds bs (P.take i ++ [e]) e.box) μ' ∧ Has σ'' "script" sc ∧ Has σ'' "count" (.int cnt) ∧ Has σ'' "kinds" (.list (kinds.map .int)) ∧ Has σ'' "past" (.raw (.ref pa)) ∧ Has σ'' "boxes" (boxesPv bs)) :=
        fun a1 a2 a3 a4 a5 => ⟨by rw [htk]; exact boxes_snoc hB hnd hbx, mset_other hP fun z => hap (z ▸ getD_mem hbl2), a1, a2, a3, a4, a5⟩
      cases ht : e.tg with
      | box j =>
        obtain ⟨σ'', ha, b1, b2, b3, b4, b5, b6, b7, b8, b9⟩ := asg "box" (j : Int) (by rw [ht]; rfl)
        have hj : j < bs.length := by rw [← hl]; exact hg.tgt e hmem j ht
        refine ⟨σ'', ha, Exs.cons (Ex.setSub (x := e.tg.tv bs) (k := e.place) (Ev.ite (Tr.cmp (Ev.name b3) Ev.str op_eqS) (fun _ => ?_) (fun h => absurd h (by decide))) (box_item (Ev.name b9) (Ev.name b1) hbl2 hbl) (Ev.name b2) hI (by omega) room.handled (.inl (hfr _ (getD_mem hbl2))) (Exs.nil (hnext b5 b6 b7 b8 b9)))⟩
        rw [ht]
        exact box_item (Ev.name b9) (Ev.name b4) hj hbl
      | num x =>
        obtain ⟨σ'', ha, b1, b2, b3, b4, b5, b6, b7, b8, b9⟩ := asg "number" x (by rw [ht]; rfl)
        refine ⟨σ'', ha, Exs.cons (Ex.setSub (x := e.tg.tv bs) (k := e.place) (Ev.ite (Tr.cmp (Ev.name b3) Ev.str op_eqS) (fun h => absurd h (by decide)) (fun _ => ?_)) (box_item (Ev.name b9) (Ev.name b1) hbl2 hbl) (Ev.name b2) hI (by omega) room.handled (.inl (hfr _ (getD_mem hbl2))) (Exs.nil (hnext b5 b6 b7 b8 b9)))⟩
        rw [ht]
        exact Ev.name b4
    · rintro σ' μ' ⟨hB, hP, f1, f2, f3, f4, f5⟩
      rw [List.length_map, List.take_length] at hB
      exact k σ' μ' bs ⟨hB, hP, hnd, hap, hpa, hfr⟩ f1 f2 f3 f4 f5
end Law1
end Mine

end

section
open PySem PySem.Calls PyProof.Rows
namespace Mine
local macro_rules | `(tactic| walk_at "lk") => `(tactic| first | assumption | exact lookup_put_eq | (refine (lookup_put_ne (by decide)).trans ?_; walk_at "lk") | (refine lookup_free (by rfl) ?_; walk_at "lk"))
namespace Law1
variable {w : World} {B₀ : Heap} {mg mb : Str → Option Value} {A : Around} {μ : Mu} {kinds : List Int} {bs : List Addr} {past : List Ent}
def forBody : Stmt → List Stmt
  | .For _ _ b _ _ => b
  | _ => []
def steps : List Int := [0, 1, 2, -1, 3, -4]
def stepOf (y : Int) (j : Nat) : Int := steps.getD (((y.fdiv 12).fdiv (6 ^ j)).fmod 6).toNat 0
def pathOf (y : Int) : List Int := (List.range ((y.fmod 4).toNat + 1)).map (stepOf y)
theorem path_len (y : Int) : 1 ≤ (pathOf y).length ∧ (pathOf y).length ≤ 4 := by
  have h1 : 0 ≤ y.fmod 4 := Int.fmod_nonneg_of_pos _ (by decide)
  have h2 : y.fmod 4 < 4 := Int.fmod_lt_of_pos _ (by decide)
  unfold pathOf; simp; omega
theorem step_small (y : Int) (j : Nat) : (stepOf y j).natAbs < 2 ^ 60 := by
  have h1 : 0 ≤ ((y.fdiv 12).fdiv (6 ^ j)).fmod 6 := Int.fmod_nonneg_of_pos _ (by decide)
  have h2 : ((y.fdiv 12).fdiv (6 ^ j)).fmod 6 < 6 := Int.fmod_lt_of_pos _ (by decide)
  unfold stepOf
  generalize ((y.fdiv 12).fdiv (6 ^ j)).fmod 6 = z at h1 h2
  obtain ⟨m, rfl⟩ := Int.eq_ofNat_of_zero_le h1
  have : m < 6 := by omega
  match m, this with
  | 0, _ | 1, _ | 2, _ | 3, _ | 4, _ | 5, _ => decide
theorem path_small (y : Int) : ∀ k ∈ pathOf y, k.natAbs < 2 ^ 60 := fun k hk => by
  obtain ⟨j, _, rfl⟩ := List.mem_map.mp hk
  exact step_small y j
def pathF (y : Int) : PV → Option PV
  | .int j => some (.int (stepOf y j.toNat))
  | _ => none
theorem path_comp (y : Int) (m : Nat) : (rangeList 0 (m : Int) 1).filterMap (pathF y) = ((List.range m).map (stepOf y)).map PV.int := by
  rw [rangeList_up]
  rw [List.filterMap_map, List.map_map]
  induction List.range m with
  | nil => rfl
  | cons k r ih => rw [List.filterMap_cons]; simp only [Function.comp, pathF, Int.toNat_natCast, List.map_cons]; rw [← ih]

/-- what the names mean in a turn -/
structure Nm (σ : Sg) (cnt : Nat) (kinds : List Int) (pa : Addr) (bs : List Addr) : Prop where
  count : Has σ "count" (.int (cnt : Int))
  kinds : Has σ "kinds" (.list (kinds.map .int))
  past : Has σ "past" (.raw (.ref pa))
  boxes : Has σ "boxes" (boxesPv bs)
theorem Nm.put {σ : Sg} {cnt : Nat} {pa : Addr} {x : Str} {d : PV} (h : Nm σ cnt kinds pa bs) (hx : (x != "count" && x != "kinds" && x != "past" && x != "boxes") = true := by decide) : Nm (put x d σ) cnt kinds pa bs := by
  simp only [Bool.and_eq_true, bne_iff_ne, ne_eq] at hx
  exact ⟨(lookup_put_ne (Ne.symm hx.1.1.1)).trans h.count, (lookup_put_ne (Ne.symm hx.1.1.2)).trans h.kinds, (lookup_put_ne (Ne.symm hx.1.2)).trans h.past, (lookup_put_ne (Ne.symm hx.2)).trans h.boxes⟩

structure Fns (B₀ : Heap) (mg mb : Str → Option Value) (ap at' ae aa ai ag as ar m : Addr) : Prop where
  g : Gl B₀ mg mb
  err : ErrG mg mb
  place : FnAt B₀ mg pw 7 "_law_place" ap
  target : FnAt B₀ mg pw 8 "_law_target" at'
  ends : FnAt B₀ mg pw 9 "_law_ends" ae
  asked : FnAt B₀ mg pw 10 "_law_asked" aa
  is : FnAt B₀ mg pw 11 "_law_is" ai
  getitem : FnAt B₀ mg pw 1 "getitem" ag
  setitem : FnAt B₀ mg pw 2 "setitem" as
  red : RedAt B₀ mg ar m
  len : Glb mg mb "len" (.builtin "len")
  range : Glb mg mb "range" (.type "range")
  iter : Glb mg mb "iter" (.builtin "iter")
  isi : Glb mg mb "isinstance" (.builtin "isinstance")
  int : Glb mg mb "int" (.type "int")
  list : Glb mg mb "list" (.type "list")

def tgOf (cnt : Nat) (x y : Int) : Tg := if ((y.fdiv 12).fdiv 1296).fmod ((cnt : Int) + 1) < (cnt : Int) then .box (((y.fdiv 12).fdiv 1296).fmod ((cnt : Int) + 1)).toNat else .num x

theorem resOf_cases {n : Nat} {wd : Wd} {r : Except String PV} (h : ResOf bs n wd r) : (∃ t : Tg, wd = t.wd ∧ r = .ok (t.tv bs) ∧ ∀ j, t = .box j → j < n) ∨ ∃ X, Err X ∧ wd.1 = (X : Str) ∧ r = .error X := by
  cases h with
  | @box j hj => exact .inl ⟨.box j, rfl, rfl, fun j' e => by cases e; exact hj⟩
  | @num x => exact .inl ⟨.num x, rfl, rfl, fun j' e => nomatch e⟩
  | @err X y hX => exact .inr ⟨X, hX, rfl, rfl⟩

theorem law_turn {H₀ : Heap} {n : Nat} {a : Addr} {pm code doc : Value} {Φ : Post} {ap at' ae aa ai ag as ar m : Addr} (F : Fns B₀ mg mb ap at' ae aa ai ag as ar m) (room : Rm (lawCt w B₀ H₀ A n a pm code doc).A 5) (hfr : (lawCt w B₀ H₀ A n a pm code doc).A.frames = some [(lawCt w B₀ H₀ A n a pm code doc).env])
    {σ : Sg} {pa : Addr} {cnt : Nat} {x : Int} (h1 : 1 ≤ cnt) (h5 : cnt ≤ 5) (hkl : kinds.length = cnt) (R : Ready H₀ μ kinds bs pa past) (Gd : Good kinds past) (hpl : past.length ≤ 900) (N : Nm σ cnt kinds pa bs) (hx : Has σ "x" (.int x))
    : Exs (lawCt w B₀ H₀ A n a pm code doc) σ μ (forBody ((bodyAt pw 12).getD 7 (.Pass default))) (Turn (fun σ' μ' => ∃ past', Ready H₀ μ' kinds bs pa past' ∧ Good kinds past' ∧ past'.length ≤ past.length + 1 ∧ Nm σ' cnt kinds pa bs) Φ) := by
  have hsz : sizeLine = 2 ^ 24 := rfl
  have hk0 : 0 ≤ x.fmod (cnt : Int) := Int.fmod_nonneg_of_pos _ (by omega)
  have hk1 : x.fmod (cnt : Int) < (cnt : Int) := Int.fmod_lt_of_pos _ (by omega)
  obtain ⟨kN, hkN⟩ := Int.eq_ofNat_of_zero_le hk0
  have hkc : kN < cnt := by omega
  generalize hy : x.fdiv (cnt : Int) = y
  refine Exs.cons (Ex.assignT (d := .tuple [.int (kN : Int), .int y]) (Ev.tuple (Evs.cons (Ev.cast (Ev.bin (Ev.name hx) (Ev.name N.count) (op_modI (by omega) (by omega))) (by rw [hkN])) (Evs.cons (Ev.cast (Ev.bin (Ev.name hx) (Ev.name N.count) (op_divI (by omega) (by omega))) (by rw [hy])) Evs.nil)) (by show 2 ≤ _; decide)) (Asg.tuple room.handled (.cons Asg.name (.cons Asg.name .nil rfl) rfl)) ?_)
  have N1 : Nm (put "y" (.int y) (put "k" (.int (kN : Int)) σ)) cnt kinds pa bs := N.put.put
  have hx1 : Has (put "y" (.int y) (put "k" (.int (kN : Int)) σ)) "x" (.int x) := by walk_at "lk"
  have hky : Has (put "y" (.int y) (put "k" (.int (kN : Int)) σ)) "k" (.int (kN : Int)) := by walk_at "lk"
  have hyy : Has (put "y" (.int y) (put "k" (.int (kN : Int)) σ)) "y" (.int y) := by walk_at "lk"
  generalize put "y" (.int y) (put "k" (.int (kN : Int)) σ) = σ1 at N1 hx1 hky hyy
  have hy0 : 0 ≤ y.fmod 4 := Int.fmod_nonneg_of_pos _ (by decide)
  have hy4 : y.fmod 4 < 4 := Int.fmod_lt_of_pos _ (by decide)
  have hm : y.fmod 4 + 1 = (((y.fmod 4).toNat + 1 : Nat) : Int) := by omega
  refine Exs.cons (Ex.assignComp (pathF y) (ItE.range (a := 0) (b := (((y.fmod 4).toNat + 1 : Nat) : Int)) (k := 1) room.handled (Ev.callT (Ev.blt F.g F.range.none F.range.some) (Evs.cons (Ev.cast (Ev.bin (Ev.bin (Ev.name hyy) Ev.int (op_modI (by decide) (by decide))) Ev.int op_addI) (by rw [hm])) Evs.nil) sp_range1) (small_of (by omega) (by omega) (.inl rfl))) trivial (fun C H d hd => ?_) (by rw [rangeList_up]; simp; omega) ?_)
  · rw [rangeList_up] at hd
    obtain ⟨j, hj, rfl⟩ := List.mem_map.mp hd
    have hj4 : j < 4 := by have := List.mem_range.mp hj; omega
    have hpow : (6 : Int) ^ ((j : Int).toNat) = 6 ^ j := by rw [Int.toNat_natCast]
    have hp6 : (1 : Int) ≤ 6 ^ j ∧ (6 : Int) ^ j ≤ 216 := by
      match j, hj4 with
      | 0, _ | 1, _ | 2, _ | 3, _ => decide
    refine ⟨_, Asg.name, .all ?_⟩
    have hz1 : 0 ≤ ((y.fdiv 12).fdiv (6 ^ j)).fmod 6 := Int.fmod_nonneg_of_pos _ (by decide)
    have hz2 : ((y.fdiv 12).fdiv (6 ^ j)).fmod 6 < 6 := Int.fmod_lt_of_pos _ (by decide)
    show Ev _ _ _ _ (.int (stepOf y (j : Int).toNat))
    rw [Int.toNat_natCast]
    refine Ev.item (ds := steps.map PV.int) (i := ((y.fdiv 12).fdiv (6 ^ j)).fmod 6) (Ev.list (Evs.cons Ev.int (Evs.cons Ev.int (Evs.cons Ev.int (Evs.cons (Ev.un Ev.int op_negI) (Evs.cons Ev.int (Evs.cons (Ev.un Ev.int op_negI) Evs.nil)))))) (by show 6 ≤ _; decide)) (Ev.bin (Ev.bin (Ev.bin (Ev.name (d := .int y) (by walk_at "lk")) Ev.int (op_divI (by decide) (by decide))) (Ev.cast (Ev.bin Ev.int (Ev.name (d := .int (j : Int)) lookup_put_eq) (op_powI (by omega) (by omega) (by decide))) (by rw [hpow])) (op_divI (by omega) (by omega))) Ev.int (op_modI (by decide) (by decide))) .fr ?_ (by show 6 ≤ _; decide)
    obtain ⟨z, hz⟩ := Int.eq_ofNat_of_zero_le hz1
    have hz6 : z < 6 := by omega
    unfold stepOf
    rw [hz]
    exact pget_nat (getD_map_int (by show z < 6; exact hz6))
  rw [path_comp]
  show Exs _ (put "path" (.list ((pathOf y).map PV.int)) σ1) μ _ _
  have ht0 : 0 ≤ ((y.fdiv 12).fdiv 1296).fmod ((cnt : Int) + 1) := Int.fmod_nonneg_of_pos _ (by omega)
  have ht1 : ((y.fdiv 12).fdiv 1296).fmod ((cnt : Int) + 1) < (cnt : Int) + 1 := Int.fmod_lt_of_pos _ (by omega)
  have htg : tgOf cnt x y = if ((y.fdiv 12).fdiv 1296).fmod ((cnt : Int) + 1) < (cnt : Int) then .box (((y.fdiv 12).fdiv 1296).fmod ((cnt : Int) + 1)).toNat else .num x := rfl
  refine Exs.cons (Ex.assign (d := .int (((y.fdiv 12).fdiv 1296).fmod ((cnt : Int) + 1))) (Ev.bin (Ev.bin (Ev.bin (Ev.name (d := .int y) (by walk_at "lk")) Ev.int (op_divI (by decide) (by decide))) Ev.int (op_divI (by decide) (by decide))) (Ev.bin (Ev.name (d := .int (cnt : Int)) (N1.put (x := "path")).count) Ev.int op_addI) (op_modI (by omega) (by omega))) ?_)
  generalize ((y.fdiv 12).fdiv 1296).fmod ((cnt : Int) + 1) = tI at ht0 ht1 htg
  obtain ⟨tN, htN⟩ := Int.eq_ofNat_of_zero_le ht0
  subst htN
  have N2 : Nm (put "t" (.int (tN : Int)) (put "path" (.list ((pathOf y).map PV.int)) σ1)) cnt kinds pa bs := N1.put.put
  have q1 : Has (put "t" (.int (tN : Int)) (put "path" (.list ((pathOf y).map PV.int)) σ1)) "x" (.int x) := by walk_at "lk"
  have q2 : Has (put "t" (.int (tN : Int)) (put "path" (.list ((pathOf y).map PV.int)) σ1)) "k" (.int (kN : Int)) := by walk_at "lk"
  have q3 : Has (put "t" (.int (tN : Int)) (put "path" (.list ((pathOf y).map PV.int)) σ1)) "y" (.int y) := by walk_at "lk"
  have q4 : Has (put "t" (.int (tN : Int)) (put "path" (.list ((pathOf y).map PV.int)) σ1)) "path" (.list ((pathOf y).map PV.int)) := by walk_at "lk"
  have q5 : Has (put "t" (.int (tN : Int)) (put "path" (.list ((pathOf y).map PV.int)) σ1)) "t" (.int (tN : Int)) := by walk_at "lk"
  generalize put "t" (.int (tN : Int)) (put "path" (.list ((pathOf y).map PV.int)) σ1) = σ2 at N2 q1 q2 q3 q4 q5
  refine Exs.cons (Ex.assign (d := (tgOf cnt x y).pv) (Ev.ite (Tr.cmp (Ev.name q5) (Ev.name N2.count) op_ltI) (fun h => ?_) (fun h => ?_)) ?_)
  · rw [htg, if_pos (by simpa using h)]
    exact Ev.tuple (Evs.cons Ev.str (Evs.cons (Ev.cast (Ev.name q5) (by simp)) Evs.nil)) (by show 2 ≤ _; decide)
  · rw [htg, if_neg (by simpa using h)]
    exact Ev.tuple (Evs.cons Ev.str (Evs.cons (Ev.name q1) Evs.nil)) (by show 2 ≤ _; decide)
  have N3 : Nm (put "target" (tgOf cnt x y).pv σ2) cnt kinds pa bs := N2.put
  have r1' : Has (put "target" (tgOf cnt x y).pv σ2) "x" (.int x) := by walk_at "lk"
  have r2 : Has (put "target" (tgOf cnt x y).pv σ2) "k" (.int (kN : Int)) := by walk_at "lk"
  have r3 : Has (put "target" (tgOf cnt x y).pv σ2) "y" (.int y) := by walk_at "lk"
  have r4 : Has (put "target" (tgOf cnt x y).pv σ2) "path" (.list ((pathOf y).map PV.int)) := by walk_at "lk"
  have r5 : Has (put "target" (tgOf cnt x y).pv σ2) "t" (.int (tN : Int)) := by walk_at "lk"
  have r6 : Has (put "target" (tgOf cnt x y).pv σ2) "target" (tgOf cnt x y).pv := by walk_at "lk"
  generalize put "target" (tgOf cnt x y).pv σ2 = σ3 at N3 r1' r2 r3 r4 r5 r6
  refine Exs.cons (Ex.ite (Tr.cmp (Ev.bin (Ev.bin (Ev.name r3) Ev.int (op_divI (by decide) (by decide))) Ev.int (op_modI (by decide) (by decide))) Ev.int op_ltI) (fun _ => ?_) (fun _ => Exs.nil ?_))
  · obtain ⟨_, _, _, Fa⟩ := fn_asked F.asked
    obtain ⟨_, _, _, Fe⟩ := fn_ends F.ends
    obtain ⟨_, _, _, Fi⟩ := fn_is F.is
    obtain ⟨_, _, _, _, hna, _⟩ := id F.asked
    obtain ⟨_, _, _, _, hne, _⟩ := id F.ends
    obtain ⟨_, _, _, _, hni, _⟩ := id F.is
    have hkk : kN < kinds.length := by rw [hkl]; exact hkc
    have hbl : kN < bs.length := by rw [R.boxes.len]; exact hkk
    have hb1000 : bs.length ≤ 1000 := by rw [R.boxes.len]; omega
    obtain ⟨r, hres, hwalk⟩ := walk_ends R.boxes Gd (pathOf y) hkk
    have hpl4 := path_len y
    refine Exs.cons (Ex.assignA (W := []) hfr rfl (Ev.glob F.g hna) Fa.isFn (Evs.cons (Ev.name r4) (Evs.cons (box_item (Ev.name N3.boxes) (Ev.name r2) hbl hb1000) (Evs.cons (Ev.list (ds := []) Evs.nil) Evs.nil))) (spec_asked_get F.g F.err F.asked F.red F.getitem F.iter (room.mono (by decide)) hfr hwalk (R.boxes.mem kN hkk) (path_small y) (by omega)) (fun b hb => nomatch hb) (fun _ _ _ b hb => nomatch hb) ?_)
    rintro d μ' ⟨rfl, rfl⟩
    have hends : ∀ {σ' : Sg} {p1 p2 p3 p4 p5 p6 p7 : Pos}, Has σ' "path" (.list ((pathOf y).map PV.int)) → Nm σ' cnt kinds pa bs → Has σ' "k" (.int (kN : Int)) → Ev (lawCt w B₀ H₀ A n a pm code doc) σ' μ' (.Subscript (.Call (.Name "_law_ends" p1) [.Name "path" p2, .Name "kinds" p3, .Name "past" p4] [] p5) (.Name "k" p6) p7) ((endsFrom kinds past (pathOf y)).getD kN ("", 0)).pv := fun hp hN hk => by
      have hel : kN < (endsFrom kinds past (pathOf y)).length := by rw [endsFrom_length]; exact hkk
      refine Ev.item (Ev.call (Ev.glob F.g hne) Fe.isFn (Evs.cons (Ev.name hp) (Evs.cons (Ev.name hN.kinds) (Evs.cons (Ev.name hN.past) Evs.nil))) (spec_ends F.g F.ends F.target F.place F.len F.range (room.mono (by decide)) R.past (by omega) (by omega) (by omega) Gd.tgt)) (Ev.name hk) .fr (pget_nat ?_) (by rw [List.length_map, endsFrom_length]; omega)
      rw [List.getElem?_map, List.getElem?_eq_getElem hel, List.getD_eq_getElem?_getD, List.getElem?_eq_getElem hel]; rfl
    rcases resOf_cases hres with ⟨tg, hw, rfl, htj⟩ | ⟨X, hX, hw, rfl⟩
    · refine ⟨_, Asg.tuple room.handled (.cons Asg.name (.cons Asg.name .nil rfl) rfl), ?_⟩
      have N4 := (N3.put (x := "word") (d := .str "told")).put (x := "told") (d := tg.tv bs)
      refine Exs.cons (Ex.assign (d := tg.pv) (Ev.cast (hends (by walk_at "lk") N4 (by walk_at "lk")) (by rw [hw, Tg.wd_pv])) ?_)
      have N5 := N4.put (x := "due") (d := tg.pv)
      have hin : (([("box" : Str), "number"] : List Str).any (· == tg.wd.1)) = true := by cases tg <;> rfl
      refine Exs.cons (Ex.ite (Tr.cmp (Ev.itemT (ds := [.str tg.wd.1, .int tg.wd.2]) (Ev.name (by cases tg <;> exact lookup_put_eq)) Ev.int (x := .str tg.wd.1) rfl) (Ev.list (ds := ([("box" : Str), "number"] : List Str).map .str) (Evs.cons Ev.str (Evs.cons Ev.str Evs.nil)) (by show 2 ≤ _; decide)) (op_inS .fr)) (fun _ => ?_) (fun h => absurd h (by rw [hin]; decide)))
      refine Exs.cons (Ex.ite (Tr.or (Tr.cmp (Ev.name (d := .str "told") (by walk_at "lk")) Ev.str op_neS) fun _ => Tr.or (Tr.not (Tr.plain (Ev.call (Ev.glob F.g hni) Fi.isFn (Evs.cons (Ev.name (by walk_at "lk")) (Evs.cons (Ev.name (by walk_at "lk")) (Evs.cons (Ev.name N5.boxes) Evs.nil))) (spec_is F.g F.is F.isi F.int (room.mono (by decide)) tg hb1000 (fun j e => by rw [R.boxes.len]; exact htj j e))) th_bool)) fun _ => Tr.or_nil) (fun h => absurd h (by decide)) (fun _ => Exs.nil (Exs.nil ?_)))
      exact Exs.cons (Ex.cont ⟨past, R, Gd, by omega, N5⟩)
    · refine ⟨_, Asg.tuple room.handled (.cons Asg.name (.cons Asg.name .nil rfl) rfl), ?_⟩
      have N4 := (N3.put (x := "word") (d := .str X)).put (x := "told") (d := .none)
      refine Exs.cons (Ex.assign (d := .tuple [.str X, .int ((endsFrom kinds past (pathOf y)).getD kN ("", 0)).2]) (Ev.cast (hends (by walk_at "lk") N4 (by walk_at "lk")) (by rw [← hw]; rfl)) ?_)
      have N5 := N4.put (x := "due") (d := .tuple [.str X, .int ((endsFrom kinds past (pathOf y)).getD kN ("", 0)).2])
      have hin : (([("box" : Str), "number"] : List Str).any (· == (X : Str))) = false := by rcases hX with (rfl | rfl) | rfl <;> rfl
      refine Exs.cons (Ex.ite (Tr.cmp (Ev.itemT (ds := [.str X, .int _]) (Ev.name lookup_put_eq) Ev.int (x := .str X) rfl) (Ev.list (ds := ([("box" : Str), "number"] : List Str).map .str) (Evs.cons Ev.str (Evs.cons Ev.str Evs.nil)) (by show 2 ≤ _; decide)) (op_inS .fr)) (fun h => absurd h (by rw [hin]; decide)) (fun _ => ?_))
      refine Exs.cons (Ex.ite (Tr.cmp (Ev.name (d := .str X) (by walk_at "lk")) (Ev.itemT (ds := [.str X, .int _]) (Ev.name lookup_put_eq) Ev.int (x := .str X) rfl) op_neS) (fun h => absurd h (by simp)) (fun _ => Exs.nil (Exs.nil ?_)))
      exact Exs.cons (Ex.cont ⟨past, R, Gd, by omega, N5⟩)
  · obtain ⟨_, _, _, Fa⟩ := fn_asked F.asked
    obtain ⟨_, _, _, Fe⟩ := fn_ends F.ends
    obtain ⟨_, _, _, Fp⟩ := fn_place F.place
    obtain ⟨_, _, _, _, hna, _⟩ := id F.asked
    obtain ⟨_, _, _, _, hne, _⟩ := id F.ends
    obtain ⟨_, _, _, _, hnp, _⟩ := id F.place
    have hkk : kN < kinds.length := by rw [hkl]; exact hkc
    have hbl : kN < bs.length := by rw [R.boxes.len]; exact hkk
    have hb1000 : bs.length ≤ 1000 := by rw [R.boxes.len]; omega
    obtain ⟨r1, hres, hwalk⟩ := walk_ends R.boxes Gd (pathOf y).dropLast hkk
    have hpl4 := path_len y
    have hpne : pathOf y ≠ [] := fun h => by rw [h] at hpl4; simp at hpl4
    obtain ⟨st, hst⟩ : ∃ st, (pathOf y).getLast? = some st := by
      cases hq : (pathOf y).getLast? with
      | none => exact absurd (List.getLast?_eq_none_iff.mp hq) hpne
      | some k => exact ⟨k, rfl⟩
    have htgn : ∀ j, tgOf cnt x y = .box j → j < kinds.length := fun j hj => by
      rw [htg] at hj
      split at hj
      · cases hj; rw [hkl]; omega
      · cases hj
    have hlast : ∀ {μ' : Mu} {σ' : Sg} {p1 p2 p3 p4 : Pos} {k' : Nat}, Has σ' "path" (.list ((pathOf y).map PV.int)) → Ev (lawCt w B₀ H₀ A n a pm code doc) σ' μ' (.Subscript (.Name "path" p1) (.UnaryOp .USub (.Constant (.int 1) k' p2) p3) p4) (.int st) := fun hp =>
      Ev.item (Ev.name hp) (Ev.un Ev.int op_negI) .fr (pget_last (by rw [List.getLast?_map, hst]; rfl)) (by rw [List.length_map]; omega)
    have hthing : ∀ {μ' : Mu} {p1 p2 p3 p4 p5 p6 p7 p8 : Pos}, Ev (lawCt w B₀ H₀ A n a pm code doc) σ3 μ' (.IfExp (.Compare (.Name "t" p1) [.Lt] [.Name "count" p2] p3) (.Subscript (.Name "boxes" p4) (.Name "t" p5) p6) (.Name "x" p7) p8) ((tgOf cnt x y).tv bs) := by
      intro μ' p1 p2 p3 p4 p5 p6 p7 p8
      refine Ev.ite (Tr.cmp (Ev.name r5) (Ev.name N3.count) op_ltI) (fun h => ?_) (fun h => ?_)
      · have h' : (tN : Int) < (cnt : Int) := by simpa using h
        rw [htg, if_pos h']
        refine box_item (k := ((tN : Int)).toNat) (Ev.name N3.boxes) (Ev.cast (Ev.name r5) (by simp)) ?_ hb1000
        rw [R.boxes.len, hkl]; omega
      · rw [htg, if_neg (by simpa using h)]
        exact Ev.name r1'
    have hends : ∀ {μ' : Mu} {σ' : Sg} {p1 p2 p3 p4 p5 p6 p7 p8 p9 p10 p11 : Pos} {k' : Nat}, (pa, MV.list (past.map Ent.pv)) ∈ μ' → Has σ' "path" (.list ((pathOf y).map PV.int)) → Nm σ' cnt kinds pa bs → Has σ' "k" (.int (kN : Int)) → Ev (lawCt w B₀ H₀ A n a pm code doc) σ' μ' (.Subscript (.Call (.Name "_law_ends" p1) [.Subscript (.Name "path" p2) (.Slice none (some (.UnaryOp .USub (.Constant (.int 1) k' p8) p9)) none p10) p11, .Name "kinds" p3, .Name "past" p4] [] p5) (.Name "k" p6) p7) ((endsFrom kinds past (pathOf y).dropLast).getD kN ("", 0)).pv := fun hpm hp hN hk => by
      have hel : kN < (endsFrom kinds past (pathOf y).dropLast).length := by rw [endsFrom_length]; exact hkk
      refine Ev.item (Ev.call (Ev.glob F.g hne) Fe.isFn (Evs.cons (Ev.cast (Ev.slice (Ev.name hp) .fr (lo := none) (hi := some (-1)) rfl ⟨-1, rfl, Ev.un Ev.int op_negI⟩ (by rw [List.length_map]; omega)) (by rw [pslice_init, map_dropLast])) (Evs.cons (Ev.name hN.kinds) (Evs.cons (Ev.name hN.past) Evs.nil))) (spec_ends F.g F.ends F.target F.place F.len F.range (room.mono (by decide)) hpm (by omega) (by omega) (by simp; omega) Gd.tgt)) (Ev.name hk) .fr (pget_nat ?_) (by rw [List.length_map, endsFrom_length]; omega)
      rw [List.getElem?_map, List.getElem?_eq_getElem hel, List.getD_eq_getElem?_getD, List.getElem?_eq_getElem hel]; rfl
    have spec : ∀ {W : List Addr} {r : Except String (Addr × MV)}, SetW μ (pathOf y) ((tgOf cnt x y).tv bs) (.raw (.ref (bs.getD kN 0))) r → (∀ b mv, r = .ok (b, mv) → b ∈ W) → (∀ b ∈ W, ∃ mv, (b, mv) ∈ μ) → SpA pw w B₀ (lawCt w B₀ H₀ A n a pm code doc).A [(lawCt w B₀ H₀ A n a pm code doc).env] W μ (.ref aa) [.list ((pathOf y).map .int), .raw (.ref (bs.getD kN 0)), .list [(tgOf cnt x y).tv bs]] (fun d μ' => (d, μ') = setRes μ r) :=
      fun hS hW hWm => spec_asked_set F.g F.err F.asked F.red F.getitem F.setitem F.iter (room.mono (by decide)) hfr hS (R.boxes.mem kN hkk) (path_small y) hpne (by omega) hW hWm
    rcases resOf_cases hres with ⟨tg0, hw, hr1, htj⟩ | ⟨X, hX, hw, hr1⟩
    · cases tg0 with
      | num x' =>
        refine Exs.cons (Ex.assignA (W := []) hfr rfl (Ev.glob F.g hna) Fa.isFn (Evs.cons (Ev.name r4) (Evs.cons (box_item (Ev.name N3.boxes) (Ev.name r2) hbl hb1000) (Evs.cons (Ev.list (Evs.cons hthing Evs.nil) (by show 1 ≤ _; decide)) Evs.nil))) (spec (SetW.set (hr1 ▸ hwalk) hst SetIt.int) (fun b mv h => nomatch h) (fun b hb => nomatch hb)) (fun b hb => nomatch hb) (fun _ _ _ b hb => nomatch hb) ?_)
        rintro d μ' hdm
        cases hdm
        refine ⟨_, Asg.tuple room.handled (.cons Asg.name (.cons Asg.name .nil rfl) rfl), ?_⟩
        have N4 := (N3.put (x := "word") (d := .str "TypeError")).put (x := "told") (d := .none)
        refine Exs.cons (Ex.assignT (d := .tuple [.str "number", .int x']) (Ev.cast (hends R.past (by walk_at "lk") N4 (by walk_at "lk")) (by rw [hw]; rfl)) (Asg.tuple room.handled (.cons Asg.name (.cons Asg.name .nil rfl) rfl)) ?_)
        have N5 := (N4.put (x := "due") (d := .str "number")).put (x := "at") (d := .int x')
        refine Exs.cons (Ex.ite (Tr.cmp (Ev.name (d := .str "number") (by walk_at "lk")) Ev.str op_eqS) (fun h => absurd h (by decide)) (fun _ => Exs.nil ?_))
        refine Exs.cons (Ex.ite (Tr.or (Tr.cmp (Ev.name (d := .str "TypeError") (by walk_at "lk")) (Ev.ite (d := .str "TypeError") (Tr.cmp (Ev.name (d := .str "number") (by walk_at "lk")) Ev.str op_eqS) (fun _ => Ev.str) (fun h => absurd h (by decide))) op_neS) fun _ => Tr.or (Tr.cmp (Ev.name (d := .none) (by walk_at "lk")) Ev.none op_isNotNone) fun _ => Tr.or_nil) (fun h => absurd h (by simp)) (fun _ => Exs.nil (Exs.nil ?_)))
        exact ⟨past, R, Gd, by omega, N5⟩
      | box q =>
        have hq := htj q rfl
        have hqb : q < bs.length := by rw [R.boxes.len]; exact hq
        have hkq : ∀ {μ' : Mu} {σ' : Sg} {p1 p2 p3 : Pos}, Nm σ' cnt kinds pa bs → Has σ' "at" (.int (q : Int)) → Ev (lawCt w B₀ H₀ A n a pm code doc) σ' μ' (.Subscript (.Name "kinds" p1) (.Name "at" p2) p3) (.int (kinds.getD q 0)) := fun hN ha =>
          Ev.item (Ev.name hN.kinds) (Ev.name ha) .fr (pget_nat (getD_map_int hq)) (by rw [List.length_map]; omega)
        obtain ⟨hset1, hset2⟩ := set_box R.boxes Gd hq st (tgOf cnt x y) htgn (by omega)
        by_cases hcond : kinds.getD q 0 = 1 ∨ (0 ≤ lawPlace (kinds.getD q 0) st ∧ lawPlace (kinds.getD q 0) st < 3)
        · obtain ⟨hI, hgood⟩ := hset1 hcond
          refine Exs.cons (Ex.assignA (W := [bs.getD q 0]) hfr rfl (Ev.glob F.g hna) Fa.isFn (Evs.cons (Ev.name r4) (Evs.cons (box_item (Ev.name N3.boxes) (Ev.name r2) hbl hb1000) (Evs.cons (Ev.list (Evs.cons hthing Evs.nil) (by show 1 ≤ _; decide)) Evs.nil))) (spec (SetW.set (hr1 ▸ hwalk) hst hI) (fun b mv h => by cases h; simp) (fun b hb => by cases List.mem_singleton.mp hb; exact ⟨_, R.boxes.mem q hq⟩)) (fun b hb => by cases List.mem_singleton.mp hb; exact ⟨⟨_, R.boxes.mem q hq⟩, .inl (R.freshB _ (getD_mem hqb))⟩) (fun d μ' hd b hb => by cases List.mem_singleton.mp hb; cases hd; exact ⟨_, mset_self (R.boxes.mem q hq)⟩) ?_)
          rintro d μ' hdm
          cases hdm
          have hB1 := boxes_snoc (e := ⟨q, lawPlace (kinds.getD q 0) st, tgOf cnt x y⟩) R.boxes R.nodup hq
          have hP1 : (pa, MV.list (past.map Ent.pv)) ∈ mset (bs.getD q 0) (cont kinds bs (past ++ [⟨q, lawPlace (kinds.getD q 0) st, tgOf cnt x y⟩]) q) μ := mset_other R.past fun z => R.apart (z ▸ getD_mem hqb)
          refine ⟨_, Asg.tuple room.handled (.cons Asg.name (.cons Asg.name .nil rfl) rfl), ?_⟩
          have N4 := (N3.put (x := "word") (d := .str "told")).put (x := "told") (d := .none)
          refine Exs.cons (Ex.assignT (d := .tuple [.str "box", .int (q : Int)]) (Ev.cast (hends hP1 (by walk_at "lk") N4 (by walk_at "lk")) (by rw [hw]; rfl)) (Asg.tuple room.handled (.cons Asg.name (.cons Asg.name .nil rfl) rfl)) ?_)
          have N5 := (N4.put (x := "due") (d := .str "box")).put (x := "at") (d := .int (q : Int))
          refine Exs.cons (Ex.ite (Tr.cmp (Ev.name (d := .str "box") (by walk_at "lk")) Ev.str op_eqS) (fun _ => ?_) (fun h => absurd h (by decide)))
          refine Exs.cons (Ex.assign (d := .int (lawPlace (kinds.getD q 0) st)) (Ev.call (Ev.glob F.g hnp) Fp.isFn (Evs.cons (hkq N5 (by walk_at "lk")) (Evs.cons (hlast (by walk_at "lk")) Evs.nil)) (spec_place F.g F.place room.lt _ _)) ?_)
          have N6 := N5.put (x := "place") (d := .int (lawPlace (kinds.getD q 0) st))
          refine Exs.cons (Ex.assign (d := .str "told") (Ev.ite (Tr.or (Tr.cmp (hkq N6 (by walk_at "lk")) Ev.int op_eqI) fun _ => Tr.or (Tr.cmp2 Ev.int (Ev.name (d := .int (lawPlace (kinds.getD q 0) st)) (by walk_at "lk")) op_leI Ev.int op_ltI) fun _ => Tr.or_nil) (fun _ => Ev.str) (fun h => ?_)) ?_)
          · have key : ∀ kq pl : Int, (kq = 1 ∨ (0 ≤ pl ∧ pl < 3)) → ((kq == 1) || ((decide (0 ≤ pl) && decide (pl < 3)) || false)) = false → False := by
              intro kq pl hc h
              rcases hc with rfl | ⟨h1, h2⟩
              · simp at h
              · simp [h1, h2] at h
            exact (key _ _ hcond h).elim
          have N7 := N6.put (x := "due") (d := .str "told")
          refine Exs.cons (Ex.ite (Tr.cmp (Ev.name (d := .str "told") (by walk_at "lk")) Ev.str op_eqS) (fun _ => ?_) (fun h => absurd h (by decide)))
          refine Exs.cons (Ex.append (d := Ent.pv ⟨q, lawPlace (kinds.getD q 0) st, tgOf cnt x y⟩) (Ev.name N7.past) hP1 (.inl R.freshP) (Ev.tuple (Evs.cons (Ev.name (by walk_at "lk")) (Evs.cons (Ev.name (by walk_at "lk")) (Evs.cons (Ev.name (by walk_at "lk")) Evs.nil))) (by show 3 ≤ _; decide)) (by rw [List.length_map]; omega) (Exs.nil (Exs.nil ?_)))
          refine Exs.cons (Ex.ite (Tr.or (Tr.cmp (Ev.name (d := .str "told") (by walk_at "lk")) (Ev.ite (d := .str "told") (Tr.cmp (Ev.name (d := .str "told") (by walk_at "lk")) Ev.str op_eqS) (fun h => absurd h (by decide)) (fun _ => Ev.name (by walk_at "lk"))) op_neS) fun _ => Tr.or (Tr.cmp (Ev.name (d := .none) (by walk_at "lk")) Ev.none op_isNotNone) fun _ => Tr.or_nil) (fun h => absurd h (by simp)) (fun _ => Exs.nil (Exs.nil ?_)))
          refine ⟨past ++ [⟨q, lawPlace (kinds.getD q 0) st, tgOf cnt x y⟩], ⟨boxes_pa hB1 R.apart, ?_, R.nodup, R.apart, R.freshP, R.freshB⟩, hgood, by simp, N7⟩
          rw [List.map_append]
          exact mset_self hP1
        · have hI := hset2 hcond
          refine Exs.cons (Ex.assignA (W := []) hfr rfl (Ev.glob F.g hna) Fa.isFn (Evs.cons (Ev.name r4) (Evs.cons (box_item (Ev.name N3.boxes) (Ev.name r2) hbl hb1000) (Evs.cons (Ev.list (Evs.cons hthing Evs.nil) (by show 1 ≤ _; decide)) Evs.nil))) (spec (SetW.set (hr1 ▸ hwalk) hst hI) (fun b mv h => nomatch h) (fun b hb => nomatch hb)) (fun b hb => nomatch hb) (fun _ _ _ b hb => nomatch hb) ?_)
          rintro d μ' hdm
          cases hdm
          refine ⟨_, Asg.tuple room.handled (.cons Asg.name (.cons Asg.name .nil rfl) rfl), ?_⟩
          have N4 := (N3.put (x := "word") (d := .str "IndexError")).put (x := "told") (d := .none)
          refine Exs.cons (Ex.assignT (d := .tuple [.str "box", .int (q : Int)]) (Ev.cast (hends R.past (by walk_at "lk") N4 (by walk_at "lk")) (by rw [hw]; rfl)) (Asg.tuple room.handled (.cons Asg.name (.cons Asg.name .nil rfl) rfl)) ?_)
          have N5 := (N4.put (x := "due") (d := .str "box")).put (x := "at") (d := .int (q : Int))
          refine Exs.cons (Ex.ite (Tr.cmp (Ev.name (d := .str "box") (by walk_at "lk")) Ev.str op_eqS) (fun _ => ?_) (fun h => absurd h (by decide)))
          refine Exs.cons (Ex.assign (d := .int (lawPlace (kinds.getD q 0) st)) (Ev.call (Ev.glob F.g hnp) Fp.isFn (Evs.cons (hkq N5 (by walk_at "lk")) (Evs.cons (hlast (by walk_at "lk")) Evs.nil)) (spec_place F.g F.place room.lt _ _)) ?_)
          have N6 := N5.put (x := "place") (d := .int (lawPlace (kinds.getD q 0) st))
          refine Exs.cons (Ex.assign (d := .str "IndexError") (Ev.ite (Tr.or (Tr.cmp (hkq N6 (by walk_at "lk")) Ev.int op_eqI) fun _ => Tr.or (Tr.cmp2 Ev.int (Ev.name (d := .int (lawPlace (kinds.getD q 0) st)) (by walk_at "lk")) op_leI Ev.int op_ltI) fun _ => Tr.or_nil) (fun h => ?_) (fun _ => Ev.str)) ?_)
          · refine absurd ?_ hcond
            simpa using h
          have N7 := N6.put (x := "due") (d := .str "IndexError")
          refine Exs.cons (Ex.ite (Tr.cmp (Ev.name (d := .str "IndexError") (by walk_at "lk")) Ev.str op_eqS) (fun h => absurd h (by decide)) (fun _ => Exs.nil (Exs.nil ?_)))
          refine Exs.cons (Ex.ite (Tr.or (Tr.cmp (Ev.name (d := .str "IndexError") (by walk_at "lk")) (Ev.ite (d := .str "IndexError") (Tr.cmp (Ev.name (d := .str "IndexError") (by walk_at "lk")) Ev.str op_eqS) (fun h => absurd h (by decide)) (fun _ => Ev.name (by walk_at "lk"))) op_neS) fun _ => Tr.or (Tr.cmp (Ev.name (d := .none) (by walk_at "lk")) Ev.none op_isNotNone) fun _ => Tr.or_nil) (fun h => absurd h (by simp)) (fun _ => Exs.nil (Exs.nil ?_)))
          exact ⟨past, R, Gd, by omega, N7⟩
    · refine Exs.cons (Ex.assignA (W := []) hfr rfl (Ev.glob F.g hna) Fa.isFn (Evs.cons (Ev.name r4) (Evs.cons (box_item (Ev.name N3.boxes) (Ev.name r2) hbl hb1000) (Evs.cons (Ev.list (Evs.cons hthing Evs.nil) (by show 1 ≤ _; decide)) Evs.nil))) (spec (SetW.err (hr1 ▸ hwalk)) (fun b mv h => nomatch h) (fun b hb => nomatch hb)) (fun b hb => nomatch hb) (fun _ _ _ b hb => nomatch hb) ?_)
      rintro d μ' hdm
      cases hdm
      refine ⟨_, Asg.tuple room.handled (.cons Asg.name (.cons Asg.name .nil rfl) rfl), ?_⟩
      have N4 := (N3.put (x := "word") (d := .str X)).put (x := "told") (d := .none)
      refine Exs.cons (Ex.assignT (d := .tuple [.str X, .int ((endsFrom kinds past (pathOf y).dropLast).getD kN ("", 0)).2]) (Ev.cast (hends R.past (by walk_at "lk") N4 (by walk_at "lk")) (by rw [← hw]; rfl)) (Asg.tuple room.handled (.cons Asg.name (.cons Asg.name .nil rfl) rfl)) ?_)
      have N5 := (N4.put (x := "due") (d := .str X)).put (x := "at") (d := .int ((endsFrom kinds past (pathOf y).dropLast).getD kN ("", 0)).2)
      obtain ⟨hX1, hX2, hX3⟩ := err_ne hX
      refine Exs.cons (Ex.ite (Tr.cmp (Ev.name (d := .str X) (by walk_at "lk")) Ev.str op_eqS) (fun h => absurd (by simpa using h) hX1) (fun _ => Exs.nil ?_))
      refine Exs.cons (Ex.ite (Tr.or (Tr.cmp (Ev.name (d := .str X) (by walk_at "lk")) (Ev.ite (d := .str X) (Tr.cmp (Ev.name (d := .str X) (by walk_at "lk")) Ev.str op_eqS) (fun h => absurd (by simpa using h) hX2) (fun _ => Ev.name (by walk_at "lk"))) op_neS) fun _ => Tr.or (Tr.cmp (Ev.name (d := .none) (by walk_at "lk")) Ev.none op_isNotNone) fun _ => Tr.or_nil) (fun h => absurd h (by simp)) (fun _ => Exs.nil (Exs.nil ?_)))
      exact ⟨past, R, Gd, by omega, N5⟩
end Law1
end Mine

end

section
open PySem PySem.Calls PyProof.Rows
namespace Mine
local macro_rules | `(tactic| walk_at "lk") => `(tactic| first | assumption | exact lookup_put_eq | (refine (lookup_put_ne (by decide)).trans ?_; walk_at "lk") | (refine lookup_free (by rfl) ?_; walk_at "lk"))

theorem Ev.itemD {c : Ct} {σ : Sg} {μ : Mu} {value slice : Expr} {pos : Pos} {x : PV} {k : Int} {b : Addr} {kvs : List (Int × PV)} (h1 : Ev c σ μ value (.raw (.ref b))) (h2 : Ev c σ μ slice (.int k)) (hm : (b, MV.dict kvs) ∈ μ) (hx : kvs.lookup k = some x)
    (hs : ∀ v j t, subscripted slice false v (.int j t) = operate [v, .int j t] (getItem v (.int j t)) := by intro _ _ _; rfl) : Ev c σ μ (.Subscript value slice pos) x := by
  intro B s S Q E q
  refine Subscript_ (h1 B s S _ _ fun v₁ B₁ s₁ e₁ hv₁ => h2 B₁ s₁ (S.ext e₁) _ _ fun v₂ B₂ s₂ e₂ hv₂ => ?_)
  obtain ⟨t, rfl⟩ := hv₂
  cases hv₁
  have e := e₁.transE e₂
  have S₂ := S.ext e
  obtain ⟨us, hD, hks, hvs⟩ := (S₂.mu.val _ _ hm).2
  obtain ⟨v, hv1, hv2⟩ := (lookup_vals hks hvs).1 x hx
  refine tail_any hD.mapOf.typeIs slot_dict_getitem.lookup ?_ (hs _ _ _)
  exact wpAny_getItem_of (intKind_is c.prog c.w k t) hD.mapOf hv1 (q v B₂ _ (e.transE (Ext.tok S₂.en.le _)) hv2)

theorem fm_congr {α β : Type} {f g : α → Option β} : ∀ {xs : List α}, (∀ x ∈ xs, f x = g x) → xs.filterMap f = xs.filterMap g
  | [], _ => rfl
  | x :: xs, h => by rw [List.filterMap_cons, List.filterMap_cons, h x (by simp), fm_congr fun y hy => h y (by simp [hy])]
namespace Law1
variable {w : World} {B₀ : Heap} {mg mb : Str → Option Value} {A : Around} {μ : Mu} {kinds : List Int} {bs : List Addr} {past : List Ent}
def rawPl (past : List Ent) (k : Nat) : List Int := (past.filter fun e => e.box == k).map (·.place)
theorem rawPl_snoc (past : List Ent) (e : Ent) (k : Nat) : rawPl (past ++ [e]) k = if e.box = k then rawPl past k ++ [e.place] else rawPl past k := by
  unfold rawPl
  rw [List.filter_append, List.map_append]
  by_cases h : e.box = k
  · rw [if_pos h]; simp [List.filter_cons, h]
  · rw [if_neg h]
    have : (e.box == k) = false := by simpa using h
    simp [List.filter_cons, this]
def plF (k : Nat) : PV → Option PV
  | .tuple [.int b, .int p, _] => if b = (k : Int) then some (.int p) else none
  | _ => none
theorem pl_comp (past : List Ent) (k : Nat) : (past.map Ent.pv).filterMap (plF k) = (rawPl past k).map PV.int := by
  unfold rawPl
  induction past with
  | nil => rfl
  | cons e r ih =>
    rw [List.map_cons, List.filterMap_cons, ih, List.filter_cons]
    have : plF k e.pv = if (e.box : Int) = (k : Int) then some (.int e.place) else none := rfl
    rw [this]
    by_cases h : e.box = k
    · simp [h]
    · have h' : ¬ (e.box : Int) = (k : Int) := fun z => h (by omega)
      have hb : (e.box == k) = false := by simpa using h
      rw [if_neg h', hb]; rfl
def dd (xs : List Int) : List Int := (List.range xs.length).filterMap fun j => if (xs.take j).any (· == xs.getD j 0) then none else some (xs.getD j 0)
def ddF (xs : List Int) : PV → Option PV
  | .int j => if (xs.take j.toNat).any (· == xs.getD j.toNat 0) then none else some (.int (xs.getD j.toNat 0))
  | _ => none
theorem dd_comp (xs : List Int) : (rangeList 0 (xs.length : Int) 1).filterMap (ddF xs) = (dd xs).map PV.int := by
  rw [rangeList_up, List.filterMap_map]
  unfold dd
  rw [List.map_filterMap]
  apply fm_congr
  intro j _
  simp only [Function.comp, ddF, Int.toNat_natCast]
  split <;> rfl
theorem dd_step (xs : List Int) (x : Int) : dd (xs ++ [x]) = if x ∈ xs then dd xs else dd xs ++ [x] := by
  unfold dd
  rw [List.length_append, List.length_singleton, List.range_succ, List.filterMap_append]
  have h1 : (List.range xs.length).filterMap (fun j => if ((xs ++ [x]).take j).any (· == (xs ++ [x]).getD j 0) then none else some ((xs ++ [x]).getD j 0)) = (List.range xs.length).filterMap (fun j => if (xs.take j).any (· == xs.getD j 0) then none else some (xs.getD j 0)) := by
    apply fm_congr
    intro j hj
    have hj' := List.mem_range.mp hj
    rw [List.take_append_of_le_length (by omega)]
    have : (xs ++ [x]).getD j 0 = xs.getD j 0 := by simp [List.getD_eq_getElem?_getD, List.getElem?_append_left hj']
    rw [this]
  rw [h1]
  have h2 : (xs ++ [x]).getD xs.length 0 = x := by simp [List.getD_eq_getElem?_getD]
  have h3 : (xs ++ [x]).take xs.length = xs := by simp
  rw [List.filterMap_cons, List.filterMap_nil, h2, h3]
  by_cases h : x ∈ xs
  · have : xs.any (· == x) = true := by simp [List.any_eq_true]; exact h
    simp [this, h]
  · have : xs.any (· == x) = false := by rw [List.any_eq_false]; intro y hy; simp; exact fun z => h (z ▸ hy)
    simp [this, h]
theorem mem_dd (p : Int) : ∀ xs : List Int, p ∈ dd xs ↔ p ∈ xs := by
  refine snoc_ind (by simp [dd]) fun xs x ih => ?_
  rw [dd_step]
  by_cases h : x ∈ xs
  · rw [if_pos h, ih]
    simp only [List.mem_append, List.mem_singleton]
    exact ⟨.inl, fun z => z.elim (fun z => z) fun z => z ▸ h⟩
  · rw [if_neg h]; simp [ih]
theorem dd_keys (k : Nat) : ∀ past : List Ent, dd (rawPl past k) = keysOf past k := by
  refine snoc_ind (by simp [rawPl, dd, keysOf]) fun past e ih => ?_
  rw [rawPl_snoc, keysOf_snoc]
  by_cases h : e.box = k
  · rw [if_pos h, if_pos h, dd_step, ← ih]
    unfold addKey
    simp only [mem_dd]
  · rw [if_neg h, if_neg h, ih]
theorem keys_list (G : Good kinds past) {k : Nat} (hk : k < kinds.length) (h0 : kinds.getD k 0 ≠ 1) : keysOf past k = [0, 1, 2] := by
  obtain ⟨r, hr⟩ := G.key k hk
  cases r with
  | nil => rw [← hr]; rfl
  | cons p r =>
    have hp : p ∈ keysOf past k := by rw [← hr]; simp
    have h3 := (list_key G hk h0).mp hp
    have hn := keysOf_nodup k past
    rw [← hr] at hn
    have : p = 0 ∨ p = 1 ∨ p = 2 := by omega
    rcases this with rfl | rfl | rfl <;> simp at hn
/-- a place that is there -/
theorem key_item (B : Boxes μ kinds bs past) (G : Good kinds past) {k : Nat} (hk : k < kinds.length) {p : Int} (hp : p ∈ keysOf past k) : ∃ t : Tg, targetOf kinds past k p = t.wd ∧ (∀ j, t = .box j → j < kinds.length) ∧ Item μ p (.raw (.ref (bs.getD k 0))) (.ok (t.tv bs)) := by
  obtain ⟨r, hres, hitem⟩ := item_target B G hk p
  obtain ⟨e, h1, h2, h3, h4⟩ := hits_of_key hp
  have hlp : lawPlace (kinds.getD k 0) p = p := by
    rcases kind01 B hk with h0 | h0
    · have := (list_key G hk (by omega)).mp hp
      unfold lawPlace; rw [if_neg (by omega)]
    · unfold lawPlace; rw [if_neg (by omega)]
  have ht : targetOf kinds past k p = e.tg.wd := by unfold targetOf; rw [hlp, h1]
  rcases resOf_cases hres with ⟨t, hw, rfl, htj⟩ | ⟨X, hX, hw, rfl⟩
  · exact ⟨t, hw, htj, hitem⟩
  · obtain ⟨x1, x2, _⟩ := err_ne hX
    rw [ht] at hw
    cases htt : e.tg with
    | box j => rw [htt] at hw; exact absurd hw.symm x1
    | num x => rw [htt] at hw; exact absurd hw.symm x2
end Law1
end Mine

end

section
open PySem PySem.Calls PyProof.Rows
namespace Mine
local macro_rules | `(tactic| walk_at "lk") => `(tactic| first | assumption | exact lookup_put_eq | (refine (lookup_put_ne (by decide)).trans ?_; walk_at "lk") | (refine lookup_free (by rfl) ?_; walk_at "lk"))
namespace Law1
variable {w : World} {B₀ : Heap} {mg mb : Str → Option Value} {A : Around} {μ : Mu} {kinds : List Int} {bs : List Addr} {past : List Ent}
theorem wd_inj {t u : Tg} (h : t.wd = u.wd) : t = u := by
  cases t with
  | box j => cases u with
    | box k =>
      have := (Prod.mk.inj h).2
      have h2 : (j : Int) = (k : Int) := this
      have : j = k := by omega
      rw [this]
    | num x => exact absurd (show ("box" : Str) = "number" from (Prod.mk.inj h).1) (by decide)
  | num y => cases u with
    | box k => exact absurd (show ("number" : Str) = "box" from (Prod.mk.inj h).1) (by decide)
    | num x => have h2 : y = x := (Prod.mk.inj h).2; rw [h2]
theorem key_thing (B : Boxes μ kinds bs past) (G : Good kinds past) {k : Nat} (hk : k < kinds.length) {p : Int} (hp : p ∈ keysOf past k) {t : Tg} (ht : targetOf kinds past k p = t.wd) : thingAt bs past k p = t.tv bs := by
  obtain ⟨e, h1, h2, h3, h4⟩ := hits_of_key hp
  have hlp : lawPlace (kinds.getD k 0) p = p := by
    rcases kind01 B hk with h0 | h0
    · have := (list_key G hk (by omega)).mp hp
      unfold lawPlace; rw [if_neg (by omega)]
    · unfold lawPlace; rw [if_neg (by omega)]
  have ht' : targetOf kinds past k p = e.tg.wd := by unfold targetOf; rw [hlp, h1]
  rw [ht] at ht'
  rw [wd_inj ht']
  unfold thingAt
  rw [h1]

theorem law_final {H₀ : Heap} {n : Nat} {a : Addr} {pm code doc : Value} {ap at' ae aa ai ag as ar m : Addr} (F : Fns B₀ mg mb ap at' ae aa ai ag as ar m) (room : Rm (lawCt w B₀ H₀ A n a pm code doc).A 5)
    {σ : Sg} {pa : Addr} {cnt : Nat} (h5 : cnt ≤ 5) (hkl : kinds.length = cnt) (R : Ready H₀ μ kinds bs pa past) (Gd : Good kinds past) (hpl : past.length ≤ 900) (N : Nm σ cnt kinds pa bs) :
    Exs (lawCt w B₀ H₀ A n a pm code doc) σ μ ((bodyAt pw 12).drop 8) (RetPost fun d _ => d = .bool true) := by
  have hsz : sizeLine = 2 ^ 24 := rfl
  obtain ⟨_, _, _, Ft⟩ := fn_target F.target
  obtain ⟨_, _, _, Fi⟩ := fn_is F.is
  obtain ⟨_, _, _, _, hnt, _⟩ := id F.target
  obtain ⟨_, _, _, _, hni, _⟩ := id F.is
  have hb1000 : bs.length ≤ 1000 := by rw [R.boxes.len]; omega
  refine Exs.cons (Ex.forI (ds := rangeList 0 (cnt : Int) 1) (Km := fun _ => True) (ItE.range room.handled (Ev.callT (Ev.blt F.g F.range.none F.range.some) (Evs.cons (Ev.name N.count) Evs.nil) sp_range1) (small_of (by omega) (by omega) (.inl rfl)))
    (fun i σ' μ' => μ' = μ ∧ Nm σ' cnt kinds pa bs) ⟨rfl, N⟩ (fun _ _ _ _ => trivial) ?_ ?_)
  · rintro i σ' μ' d hi hd ⟨hμ, N'⟩
    replace hμ := hμ.symm
    subst hμ
    rw [rangeList_up] at hi hd
    simp only [List.length_map, List.length_range] at hi
    have hd' : d = .int (i : Int) := by
      simp only [List.getElem?_map, List.getElem?_range hi, Option.map_some, Option.some.injEq] at hd
      exact hd.symm
    subst hd'
    have hik : i < kinds.length := by rw [hkl]; exact hi
    have hib : i < bs.length := by rw [R.boxes.len]; exact hik
    refine ⟨_, Asg.name, ?_⟩
    have N1 : Nm (put "k" (.int (i : Int)) σ') cnt kinds pa bs := N'.put
    have hraw : (rawPl past i).length ≤ past.length := by unfold rawPl; rw [List.length_map]; exact List.length_filter_le _ _
    have hkeyl := keysOf_length i past
    refine Exs.cons (Ex.assign (Ev.comp (plF i) (ItE.mlist (ds := past.map Ent.pv) (ax := pa) room.handled .tuple (Ev.name N1.past) R.past) R.past (fun C H d hd => ?_) (by rw [List.length_map]; omega)) ?_)
    · obtain ⟨e, _, rfl⟩ := List.mem_map.mp hd
      refine ⟨_, Asg.tuple room.handled (.cons Asg.name (.cons Asg.name (.cons Asg.name .nil rfl) rfl) rfl), ?_⟩
      refine CompRes.one (Tr.cmp (Ev.name (d := .int (e.box : Int)) (by walk_at "lk")) (Ev.name (d := .int (i : Int)) (by walk_at "lk")) op_eqI) (fun _ => Ev.name (d := .int e.place) (by walk_at "lk")) ?_
      show (if (e.box : Int) = (i : Int) then some (PV.int e.place) else none) = _
      by_cases h1 : (e.box : Int) = (i : Int) <;> simp [h1]
    rw [pl_comp]
    have N2 : Nm (put "places" (.list ((rawPl past i).map PV.int)) (put "k" (.int (i : Int)) σ')) cnt kinds pa bs := N1.put
    refine Exs.cons (Ex.assign (Ev.comp (ddF (rawPl past i)) (ItE.range (a := 0) (b := ((rawPl past i).length : Int)) (k := 1) room.handled (Ev.callT (Ev.blt F.g F.range.none F.range.some) (Evs.cons (Ev.cast (Ev.callB (Ev.blt F.g F.len.none F.len.some) (Evs.cons (Ev.name (d := .list ((rawPl past i).map PV.int)) (by walk_at "lk")) Evs.nil) (sp_len .fr (by rw [List.length_map]; omega))) (by rw [List.length_map])) Evs.nil) sp_range1) (small_of (by omega) (by omega) (.inl rfl))) trivial (fun C H d hd => ?_) (by rw [rangeList_up]; simp; omega)) ?_)
    · rw [rangeList_up] at hd
      obtain ⟨j, hj, rfl⟩ := List.mem_map.mp hd
      have hj' : j < (rawPl past i).length := List.mem_range.mp hj
      refine ⟨_, Asg.name, ?_⟩
      have hitem : ∀ {σ'' : Sg} {p1 p2 p3 : Pos} {c' : Ct} (h1 : Ev c' σ'' μ (.Name "places" p1) (.list ((rawPl past i).map PV.int))) (h2 : Ev c' σ'' μ (.Name "j" p2) (.int (j : Int))), Ev c' σ'' μ (.Subscript (.Name "places" p1) (.Name "j" p2) p3) (.int ((rawPl past i).getD j 0)) :=
        fun h1 h2 => Ev.item h1 h2 .fr (pget_nat (getD_map_int hj')) (by rw [List.length_map]; omega)
      refine CompRes.one (Tr.cmp (hitem (Ev.name (by walk_at "lk")) (Ev.name lookup_put_eq)) (Ev.cast (Ev.slice (Ev.name (d := .list ((rawPl past i).map PV.int)) (by walk_at "lk")) .fr (lo := none) (hi := some ((j : Nat) : Int)) rfl ⟨_, rfl, Ev.name lookup_put_eq⟩ (by rw [List.length_map]; omega)) (by rw [pslice_to, ← List.map_take])) (op_notInI .fr)) (fun _ => hitem (Ev.name (by walk_at "lk")) (Ev.name lookup_put_eq)) ?_
      show (if ((rawPl past i).take (j : Int).toNat).any (· == (rawPl past i).getD (j : Int).toNat 0) then none else some (PV.int ((rawPl past i).getD (j : Int).toNat 0))) = _
      rw [Int.toNat_natCast]
      cases ((rawPl past i).take j).any (· == (rawPl past i).getD j 0) <;> rfl
    rw [dd_comp, dd_keys]
    have N3 : Nm (put "places" (.list ((keysOf past i).map PV.int)) (put "places" (.list ((rawPl past i).map PV.int)) (put "k" (.int (i : Int)) σ'))) cnt kinds pa bs := N2.put
    have hk3 : Has (put "places" (.list ((keysOf past i).map PV.int)) (put "places" (.list ((rawPl past i).map PV.int)) (put "k" (.int (i : Int)) σ'))) "k" (.int (i : Int)) := by walk_at "lk"
    have hp3 : Has (put "places" (.list ((keysOf past i).map PV.int)) (put "places" (.list ((rawPl past i).map PV.int)) (put "k" (.int (i : Int)) σ'))) "places" (.list ((keysOf past i).map PV.int)) := by walk_at "lk"
    generalize put "places" (.list ((keysOf past i).map PV.int)) (put "places" (.list ((rawPl past i).map PV.int)) (put "k" (.int (i : Int)) σ')) = σ3 at N3 hk3 hp3
    have hmem := R.boxes.mem i hik
    have hkind : ∀ {p1 p2 p3 : Pos}, Ev (lawCt w B₀ H₀ A n a pm code doc) σ3 μ (.Subscript (.Name "kinds" p1) (.Name "k" p2) p3) (.int (kinds.getD i 0)) := Ev.item (Ev.name N3.kinds) (Ev.name hk3) .fr (pget_nat (getD_map_int hik)) (by rw [List.length_map]; omega)
    have hbox : ∀ {p1 p2 p3 : Pos}, Ev (lawCt w B₀ H₀ A n a pm code doc) σ3 μ (.Subscript (.Name "boxes" p1) (.Name "k" p2) p3) (.raw (.ref (bs.getD i 0))) := box_item (Ev.name N3.boxes) (Ev.name hk3) hib hb1000
    have hlenk : Sp pw w B₀ (lawCt w B₀ H₀ A n a pm code doc).A μ (.builtin "len") [.raw (.ref (bs.getD i 0))] (.int ((keysOf past i).length : Int)) := by
      rcases kind01 R.boxes hik with h0 | h1
      · have hc : cont kinds bs past i = .list ((List.range 3).map fun (p : Nat) => thingAt bs past i (p : Int)) := by unfold cont; rw [if_neg (by omega)]
        rw [hc] at hmem
        rw [keys_list Gd hik (by omega)]
        exact sp_len (.mu hmem) (by show 3 ≤ _; decide)
      · have hc : cont kinds bs past i = .dict ((keysOf past i).map fun p => (p, thingAt bs past i p)) := by unfold cont; rw [if_pos h1]
        rw [hc] at hmem
        have := sp_lenD (prog := pw) (w := w) (A := (lawCt w B₀ H₀ A n a pm code doc).A) (B₀ := B₀) hmem (sys_at R.boxes hik) (by rw [List.length_map]; omega)
        rw [List.length_map] at this
        exact this
    refine Exs.cons (Ex.ite (b := false) (Tr.cast (Tr.or (b := false) (b' := false) (Tr.cast (Tr.and (b' := false) (Tr.cmp hkind Ev.int op_eqI) fun h => Tr.cast (Tr.and (b' := true) (Tr.cmp (b := false) (Ev.callT (Ev.blt F.g F.list.none F.list.some) (Evs.cons hbox Evs.nil) ?_) (Ev.name hp3) (op_neSame (xs := keysOf past i) .fr .fr room.u)) fun _ => Tr.and_nil) rfl) (by simp)) fun _ => Tr.cast (Tr.or (b' := false) (Tr.cmp (Ev.callB (Ev.blt F.g F.len.none F.len.some) (Evs.cons hbox Evs.nil) hlenk) (Ev.callB (Ev.blt F.g F.len.none F.len.some) (Evs.cons (Ev.name hp3) Evs.nil) (sp_len .fr (by rw [List.length_map]; omega))) op_neI) fun _ => Tr.or_nil) (by simp)) rfl) (fun h => absurd h (by decide)) (fun _ => Exs.nil ?_))
    · have h1 : kinds.getD i 0 = 1 := by simpa using h
      have hc : cont kinds bs past i = .dict ((keysOf past i).map fun p => (p, thingAt bs past i p)) := by unfold cont; rw [if_pos h1]
      rw [hc] at hmem
      have := sp_listD (prog := pw) (w := w) (A := (lawCt w B₀ H₀ A n a pm code doc).A) (B₀ := B₀) room.handled hmem (sys_at R.boxes hik) (by rw [List.length_map]; omega)
      rw [List.map_map] at this
      exact this
    refine Exs.cons (Ex.ite (b := false) (Tr.cast (Tr.cmp (Ev.comp (fun _ => none) (ItE.list room.handled .name (Ev.name hp3)) trivial (fun C H d hd => ?_) (by rw [List.length_map]; omega)) (Ev.list (ds := []) Evs.nil) (op_neNil .fr room.u)) (by simp)) (fun h => absurd h (by decide)) (fun _ => Exs.nil (Exs.nil ⟨rfl, N3⟩)))
    obtain ⟨p, hp, rfl⟩ := List.mem_map.mp hd
    obtain ⟨tg, ht, htj, hitem⟩ := key_item R.boxes Gd hik hp
    refine ⟨_, Asg.name, ?_⟩
    refine CompRes.one (b := false) (x := .int p) (Tr.cast (Tr.not (Tr.plain (Ev.call (ds := [tg.tv bs, tg.pv, boxesPv bs]) (Ev.glob F.g hni) Fi.isFn (Evs.cons ?_ (Evs.cons (Ev.cast (Ev.call (Ev.glob F.g hnt) Ft.isFn (Evs.cons (Ev.name (d := .int (i : Int)) (by walk_at "lk")) (Evs.cons (Ev.name (d := .int p) (by walk_at "lk")) (Evs.cons (Ev.name (d := .list (kinds.map .int)) (lookup_free rfl N3.kinds |> (lookup_put_ne (by decide)).trans)) (Evs.cons (Ev.name (d := .raw (.ref pa)) (lookup_free rfl N3.past |> (lookup_put_ne (by decide)).trans)) Evs.nil)))) (spec_target F.g F.target F.place (room.mono (by decide)) p hik R.past (by omega) (by omega))) (by rw [ht, Tg.wd_pv])) (Evs.cons (Ev.name (d := boxesPv bs) (lookup_free rfl N3.boxes |> (lookup_put_ne (by decide)).trans)) Evs.nil))) (spec_is F.g F.is F.isi F.int (room.mono (by decide)) tg hb1000 (fun j e => by rw [R.boxes.len]; exact htj j e))) th_bool)) rfl) (fun h => absurd h (by decide)) rfl
    rcases kind01 R.boxes hik with h0 | h1
    · have h3 := (list_key Gd hik (by omega)).mp hp
      exact Ev.itemM (box_item (Ev.name (lookup_free rfl N3.boxes |> (lookup_put_ne (by decide)).trans)) (Ev.name (d := .int (i : Int)) (by walk_at "lk")) hib hb1000) (Ev.name (d := .int p) (by walk_at "lk")) hitem (by omega) room.handled
    · have hc : cont kinds bs past i = .dict ((keysOf past i).map fun p => (p, thingAt bs past i p)) := by unfold cont; rw [if_pos h1]
      rw [hc] at hmem
      refine Ev.itemD (box_item (Ev.name (lookup_free rfl N3.boxes |> (lookup_put_ne (by decide)).trans)) (Ev.name (d := .int (i : Int)) (by walk_at "lk")) hib hb1000) (Ev.name (d := .int p) (by walk_at "lk")) hmem ?_
      rw [lookup_map_keys (f := fun p => thingAt bs past i p), if_pos hp, key_thing R.boxes Gd hik hp ht]
  · rintro σ' μ' ⟨_, N'⟩
    exact Exs.cons (Ex.ret Ev.bool rfl)
end Law1
end Mine

end

section
open PySem PySem.Calls PyProof.Rows
namespace Mine
local macro_rules | `(tactic| walk_at "lk") => `(tactic| first | assumption | exact lookup_put_eq | (refine (lookup_put_ne (by decide)).trans ?_; walk_at "lk") | (refine lookup_free (by rfl) ?_; walk_at "lk"))
namespace Law1
variable {w : World} {B₀ : Heap} {mg mb : Str → Option Value} {A : Around} {μ : Mu} {kinds : List Int} {bs : List Addr} {past : List Ent}
theorem law_main {H₀ : Heap} {n : Nat} {a : Addr} {pm code doc : Value} {ap at' ae aa ai ag as ar m : Addr} (F : Fns B₀ mg mb ap at' ae aa ai ag as ar m) (room : Rm (lawCt w B₀ H₀ A n a pm code doc).A 5) (hfr : (lawCt w B₀ H₀ A n a pm code doc).A.frames = some [(lawCt w B₀ H₀ A n a pm code doc).env])
    {σ : Sg} {pa : Addr} {cnt : Nat} {script : List Int} (hz : script.length ≤ 63) (h1 : 1 ≤ cnt) (h5 : cnt ≤ 5) (hkl : kinds.length = cnt) (R : Ready H₀ μ kinds bs pa past) (Gd : Good kinds past) (hpl : past.length ≤ 15) (hs : Has σ "script" (.list (script.map .int))) (N : Nm σ cnt kinds pa bs) :
    Exs (lawCt w B₀ H₀ A n a pm code doc) σ μ ((bodyAt pw 12).drop 7) (RetPost fun d _ => d = .bool true) := by
  have hsz : sizeLine = 2 ^ 24 := rfl
  have hcc : (cnt : Int) * (15552 * (cnt : Int) + 8) = ((cnt : Int) * (15552 * (cnt : Int) + 8)) := rfl
  refine Exs.cons (Ex.forI (ds := (script.drop (1 + 4 * cnt) ++ [(cnt : Int) * (15552 * (cnt : Int) + 8), 0, 85, 191]).map PV.int) (ItE.list room.handled .name (Ev.cast (Ev.bin (Ev.cast (Ev.slice (Ev.name hs) .fr (lo := some ((1 + 4 * cnt : Nat) : Int)) (hi := none) ⟨_, rfl, Ev.cast (Ev.bin Ev.int (Ev.bin Ev.int (Ev.name N.count) (op_mulI (.inl (by decide)))) op_addI) (by simp)⟩ rfl (by rw [List.length_map]; omega)) (by rw [pslice_from, ← List.map_drop])) (Ev.list (ds := [.int ((cnt : Int) * (15552 * (cnt : Int) + 8)), .int 0, .int 85, .int 191]) (Evs.cons (Ev.bin (Ev.name N.count) (Ev.bin (Ev.bin Ev.int (Ev.name N.count) (op_mulI (.inl (by decide)))) Ev.int op_addI) (op_mulI (.inl (by omega)))) (Evs.cons Ev.int (Evs.cons Ev.int (Evs.cons Ev.int Evs.nil)))) (by show 4 ≤ _; decide)) (op_addL .fr .fr (by simp; omega))) (by rw [List.map_append]; rfl)))
    (fun i σ' μ' => ∃ past', Ready H₀ μ' kinds bs pa past' ∧ Good kinds past' ∧ past'.length ≤ 15 + i ∧ Nm σ' cnt kinds pa bs) ⟨past, R, Gd, by omega, N⟩ (fun _ _ _ _ => trivial) ?_ ?_)
  · rintro i σ' μ' d hi hd ⟨past', R', G', hl', N'⟩
    rw [List.length_map] at hi
    have hi' : i < 67 := by rw [List.length_append, List.length_drop] at hi; simp at hi; omega
    rw [List.getElem?_map, List.getElem?_eq_getElem hi] at hd
    simp only [Option.map_some, Option.some.injEq] at hd
    subst hd
    refine ⟨_, Asg.name, ?_⟩
    refine (law_turn (Φ := fun _ _ _ => False) F room hfr h1 h5 hkl R' G' (by omega) N'.put lookup_put_eq).mono ?_
    intro fl σ'' μ'' h
    cases fl with
    | next => obtain ⟨p, a1, a2, a3, a4⟩ := h; exact ⟨p, a1, a2, by omega, a4⟩
    | cont => obtain ⟨p, a1, a2, a3, a4⟩ := h; exact ⟨p, a1, a2, by omega, a4⟩
    | brk => exact h.elim
    | ret d => exact h.elim
  · rintro σ' μ' ⟨past', R', G', hl', N'⟩
    refine law_final F room h5 hkl R' G' ?_ N'
    rw [List.length_map, List.length_append, List.length_drop] at hl'
    simp at hl'
    omega

theorem spec_law {a : Addr} {ap at' ae aa ai ag as ar m : Addr} (F : Fns B₀ mg mb ap at' ae aa ai ag as ar m) (h : FnAt B₀ mg pw 12 "law" a) (room : Rm A 6) (hfr : A.frames = some []) {script : List Int} (hz : script.length ≤ 63) :
    SpM pw w B₀ A [] [] (.ref a) [.list (script.map .int)] (fun d _ => d = .bool true) := by
  obtain ⟨pm, code, doc, Fl⟩ := fn_law h
  obtain ⟨cnt, hc, h1, h5⟩ := cnt_nat script
  refine SpM.fn F.g Fl room.lt rfl fun H₀ n => ?_
  have hroom : Rm (lawCt w B₀ H₀ A n a pm code doc).A 5 := room.deeper _
  have hfr' : (lawCt w B₀ H₀ A n a pm code doc).A.frames = some [(lawCt w B₀ H₀ A n a pm code doc).env] := Around.frames_deeper hfr
  refine law_init F.g F.range hroom hz hc h1 h5 fun σ pa hpa g1 g2 g3 g4 g5 => ?_
  have hPl : (pastOf (numsOf script cnt) cnt cnt).length ≤ 15 := by rw [pastOf_length]; omega
  refine law_boxes F.g hroom hpa (by rw [kindsOf_length]; exact h5) hPl (kinds_bin _ _) (good_init _) (fun e he => ?_) g1 g2 g4 g5 fun σ' μ' bs R f1 f2 f3 f4 f5 => ?_
  · obtain ⟨k, p, hk, hp, rfl⟩ := mem_pastOf he
    show 0 ≤ (p : Int) ∧ (p : Int) < 3
    omega
  · exact law_main F hroom hfr' hz h1 h5 (kindsOf_length _ _) R (good_init _) hPl f1 ⟨f2, f3, f4, f5⟩
end Law1
end Mine

end

section
open PySem PySem.Calls PyProof.Rows PySem.W
namespace Mine
theorem ints_vals {B : Heap} {vs : List Value} {xs : List Int} (h : IntsAre vs xs) : Vals B (xs.map .int) vs := by
  induction h with
  | nil => rfl
  | cons n t _ ih => exact ⟨_, _, rfl, ⟨t, rfl⟩, ih⟩
theorem post_true {l : OpenLaw} {args ds : List WData} : l.row.claim.post args (.bool true) ds = true := by
  show (WShape.has [] (.bool true) .bool && WTm.holds [] (.eq .res (.lit (.bool true))) _) = true
  unfold WTm.holds
  rw [w_eq_bool (k := true) (l := true) (by simp [WTm.value]) (by simp [WTm.value])]
  simp [WShape.has]
  exact ⟨.bool, by first | simp [WShape.arms] | decide, rfl⟩
namespace Law1
theorem glb_of {K : Frag} {h : Heap} {mg mb : Str → Option Value} {x : Str} {v : Value} (KX : K.In h) (g : h.Ns mainGlobals mg) (b : ∀ x : Str, x ≠ "__name__" → mb x = bootBuiltins x) (e : nsIn K mainGlobals x = some none) (hn : x ≠ "__name__") (hb : bootBuiltins x = some v) : Glb mg mb x v := ⟨mg_none_of KX g e, (b x hn).trans hb⟩
theorem law_good {w : World} {s₁ : Shared} {mg mb : Str → Option Value} {a fa : Addr} {vs : List Value} {xs : List Int} {ap at' ae aa ai ag as ar m : Addr} (F : Fns s₁.heap mg mb ap at' ae aa ai ag as ar m) (h : FnAt s₁.heap mg pw 12 "law" fa) (hl : s₁.heap.IsList a vs.toArray) (hI : IntsAre vs xs) (hz : xs.length ≤ 63)
    {Q : Value → Shared → Prop} {E : Value → Shared → Prop} (q : ∀ s', OldK s₁.heap s'.heap → s'.os = s₁.os → s'.gens = s₁.gens → Q (.bool true) s') : wpAny (model pw w) callerA (call (.ref fa) [.ref a]) Q E s₁ := by
  refine spec_law F h ⟨rfl, by decide, by decide⟩ rfl hz s₁.heap s₁ [.ref a] (Le.refl _) ⟨Le.refl _, ⟨fun _ _ h => (nomatch h), List.nodup_nil⟩⟩ ⟨_, _, rfl, ⟨a, vs, rfl, hl, ints_vals hI⟩, rfl⟩ _ _ fun v d B' s' μ' hd e _ _ hv => ?_
  subst hd
  cases hv
  refine q s' (.of_keep fun b o eb => e.keep b o (fun z => nomatch z) eb) e.os e.gens
end Law1
end Mine

end

section
open PySem PySem.W PyProof.Rows
set_option maxRecDepth 100000 in
set_option maxHeartbeats 8000000 in
theorem PySem.Challenge.cw_dn0036_01_holds : PySem.Challenge.rw_dn0036_01.Holds := by
  w_on
  o_law
  k_head
  (case hw => w_witness2)
  k_fill
  intro w s₀ s₁ mg mb G Y fa o pm cd doc dV kV ho hd hcd hD hmg hg args vals as hpre hlay hrd hwl hlo
  have KX := kIn_of Y
  refine Ground.open G ?_
  intro T B D TE TW
  clear Y B TE TW D hD hcd ho hd
  wrow_args hpre hlay hrd hwl hlo
  rename_i xs _ _ _ _ _ _ _ a vs _ hL _ _ _ hI _ hlen _
  have hz : xs.length ≤ 63 := by omega
  have f1 : Mine.FnAt s₁.heap mg Mine.Law1.pw 1 "getitem" _ := ⟨_, _, _, _, mg_of KX T.g rfl, KX _ _ rfl, rfl, codeRec_of KX rfl⟩
  have f2 : Mine.FnAt s₁.heap mg Mine.Law1.pw 2 "setitem" _ := ⟨_, _, _, _, mg_of KX T.g rfl, KX _ _ rfl, rfl, codeRec_of KX rfl⟩
  have f7 : Mine.FnAt s₁.heap mg Mine.Law1.pw 7 "_law_place" _ := ⟨_, _, _, _, mg_of KX T.g rfl, KX _ _ rfl, rfl, codeRec_of KX rfl⟩
  have f8 : Mine.FnAt s₁.heap mg Mine.Law1.pw 8 "_law_target" _ := ⟨_, _, _, _, mg_of KX T.g rfl, KX _ _ rfl, rfl, codeRec_of KX rfl⟩
  have f9 : Mine.FnAt s₁.heap mg Mine.Law1.pw 9 "_law_ends" _ := ⟨_, _, _, _, mg_of KX T.g rfl, KX _ _ rfl, rfl, codeRec_of KX rfl⟩
  have f10 : Mine.FnAt s₁.heap mg Mine.Law1.pw 10 "_law_asked" _ := ⟨_, _, _, _, mg_of KX T.g rfl, KX _ _ rfl, rfl, codeRec_of KX rfl⟩
  have f11 : Mine.FnAt s₁.heap mg Mine.Law1.pw 11 "_law_is" _ := ⟨_, _, _, _, mg_of KX T.g rfl, KX _ _ rfl, rfl, codeRec_of KX rfl⟩
  have f12 : Mine.FnAt s₁.heap mg Mine.Law1.pw 12 "law" _ := ⟨_, _, _, _, mg_of KX T.g rfl, KX _ _ rfl, rfl, codeRec_of KX rfl⟩
  have f5 : Mine.Law1.RedAt s₁.heap mg _ _ := ⟨⟨_, _, _, _, _, _, _, KX _ _ rfl, rfl, KX _ _ rfl, rfl, codeRec_of KX rfl⟩, mg_of KX T.g rfl, mg_of KX T.g rfl, _, KX _ _ rfl⟩
  have F : Mine.Law1.Fns s₁.heap mg mb _ _ _ _ _ _ _ _ _ := ⟨⟨T.g, T.b, T.nolimit⟩, ⟨Mine.Law1.glb_of KX T.g T.builtins rfl (by decide) rfl, Mine.Law1.glb_of KX T.g T.builtins rfl (by decide) rfl, Mine.Law1.glb_of KX T.g T.builtins rfl (by decide) rfl⟩, f7, f8, f9, f10, f11, f1, f2, f5, Mine.Law1.glb_of KX T.g T.builtins rfl (by decide) rfl, Mine.Law1.glb_of KX T.g T.builtins rfl (by decide) rfl, Mine.Law1.glb_of KX T.g T.builtins rfl (by decide) rfl, Mine.Law1.glb_of KX T.g T.builtins rfl (by decide) rfl, Mine.Law1.glb_of KX T.g T.builtins rfl (by decide) rfl, Mine.Law1.glb_of KX T.g T.builtins rfl (by decide) rfl⟩
  have hfa : mg (Str.ofString "law") = some (.ref fa) := hmg
  obtain ⟨_, _, _, _, hl', _⟩ := id f12
  have he := Value.ref.inj (Option.some.inj (hl'.symm.trans hfa))
  subst he
  refine Mine.Law1.law_good F f12 hL hI hz fun s' h1 h2 h3 => ?_
  refine ⟨.inl ⟨.bool true, .bool true, [], rfl, fun _ => rfl, .bool true, ?_, ?_⟩, h1, h2, ?_⟩
  · exact Mine.post_true
  · exact fun _ => ⟨List.nodup_nil, fun _ h => nomatch h⟩
  · rw [h3, hg]; exact AllBare.of_eq rfl
end
