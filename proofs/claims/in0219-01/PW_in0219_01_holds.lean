import PyProof.Rows.All
import Wide.All
import OpenK.AllK
import Wide.FinOn
import PyProof.IsiH_list
import Lean
import PySem.Challenge.RW_in0219_01
open PySem PySem.W PyProof.Rows
set_option Elab.async false
set_option maxRecDepth 100000
set_option linter.unusedVariables false
set_option linter.unusedSimpArgs false
/-! La1 -/
namespace Mine
/-- plain data -/
inductive D where
  | none
  | bool (b : Bool)
  | int (i : Int)
  | str (x : Str)
  | list (l : List D)
  | adr (a : Addr)
  | bi (id : String)
  | ty (n : String)
  deriving Inhabited

/-- what a name holds -/
inductive Ent where
  | sh (d : D)
  | own (l : List D)
  | app (y : Str)
  | dead
  deriving Inhabited

abbrev Rho := List (Str × Ent)
def Rho.get (r : Rho) (x : Str) : Option Ent := List.lookup x r
def Rho.put : Rho → Str → Ent → Rho
  | [], x, e => [(x, e)]
  | (y, e') :: r, x, e => if x = y then (y, e) :: r else (y, e') :: Rho.put r x e
theorem Rho.get_put (r : Rho) (x y : Str) (e : Ent) : (r.put x e).get y = if y = x then some e else r.get y := by
  induction r with
  | nil =>
    show List.lookup y [(x, e)] = _
    rw [List.lookup_cons]
    by_cases h : y = x
    · subst h; simp
    · have : (y == x) = false := beq_eq_false_iff_ne.mpr h
      simp [this, h, Rho.get]
  | cons p r ih =>
    obtain ⟨z, e'⟩ := p
    unfold Rho.put
    by_cases hx : x = z
    · subst hx
      rw [if_pos rfl]
      show List.lookup y ((x, e) :: r) = _
      rw [List.lookup_cons]
      by_cases h : y = x
      · subst h; simp
      · have hb : (y == x) = false := beq_eq_false_iff_ne.mpr h
        simp [hb, h, Rho.get, List.lookup_cons]
    · rw [if_neg hx]
      show List.lookup y ((z, e') :: Rho.put r x e) = if y = x then some e else List.lookup y ((z, e') :: r)
      rw [List.lookup_cons, List.lookup_cons]
      by_cases h : y = z
      · subst h
        have hn : ¬ y = x := fun q => hx q.symm
        simp [hn]
      · have hb : (y == z) = false := beq_eq_false_iff_ne.mpr h
        rw [hb]
        exact ih

mutual
inductive R (P : Addr → Array Value → Prop) : Value → D → Prop where
  | none : R P .none .none
  | bool {b : Bool} : R P (.bool b) (.bool b)
  | int {i : Int} {t : Tok} : R P (.int i t) (.int i)
  | str {x : Str} {t : Tok} : R P (.str x t) (.str x)
  | adr {a : Addr} : R P (.ref a) (.adr a)
  | bi {id : String} : R P (.builtin id) (.bi id)
  | ty {n : String} : R P (.type n) (.ty n)
  | list {a : Addr} {vs : Array Value} {ds : List D} : P a vs → Rs P vs.toList ds → R P (.ref a) (.list ds)
inductive Rs (P : Addr → Array Value → Prop) : List Value → List D → Prop where
  | nil : Rs P [] []
  | cons {v : Value} {d : D} {vs : List Value} {ds : List D} : R P v d → Rs P vs ds → Rs P (v :: vs) (d :: ds)
end

mutual
theorem R.mono {P P' : Addr → Array Value → Prop} (h : ∀ a vs, P a vs → P' a vs) : ∀ {v : Value} {d : D}, R P v d → R P' v d
  | _, _, .none => .none
  | _, _, .bool => .bool
  | _, _, .int => .int
  | _, _, .str => .str
  | _, _, .adr => .adr
  | _, _, .bi => .bi
  | _, _, .ty => .ty
  | _, _, .list p r => .list (h _ _ p) (Rs.mono h r)
theorem Rs.mono {P P' : Addr → Array Value → Prop} (h : ∀ a vs, P a vs → P' a vs) : ∀ {vs : List Value} {ds : List D}, Rs P vs ds → Rs P' vs ds
  | _, _, .nil => .nil
  | _, _, .cons r q => .cons (R.mono h r) (Rs.mono h q)
end

section
variable {P : Addr → Array Value → Prop}
theorem Rs.length : ∀ {vs : List Value} {ds : List D}, Rs P vs ds → vs.length = ds.length
  | _, _, .nil => rfl
  | _, _, .cons _ q => by rw [List.length_cons, List.length_cons, Rs.length q]
theorem Rs.get : ∀ {vs : List Value} {ds : List D}, Rs P vs ds → ∀ (i : Nat) (d : D), ds[i]? = some d → ∃ v, vs[i]? = some v ∧ R P v d
  | _, _, .nil, i, d, h => by simp at h
  | _, _, .cons r q, 0, d, h => by
    simp at h; subst h; exact ⟨_, rfl, r⟩
  | _, _, .cons r q, i + 1, d, h => by
    simp at h
    obtain ⟨v, e, x⟩ := Rs.get q i d h
    exact ⟨v, by simpa using e, x⟩
theorem Rs.get' : ∀ {vs : List Value} {ds : List D}, Rs P vs ds → ∀ (i : Nat) (v : Value), vs[i]? = some v → ∃ d, ds[i]? = some d ∧ R P v d
  | _, _, .nil, i, d, h => by simp at h
  | _, _, .cons r q, 0, d, h => by
    simp at h; subst h; exact ⟨_, rfl, r⟩
  | _, _, .cons r q, i + 1, d, h => by
    simp at h
    obtain ⟨v, e, x⟩ := Rs.get' q i d h
    exact ⟨v, by simpa using e, x⟩
theorem Rs.append : ∀ {vs : List Value} {ds : List D} {vs' : List Value} {ds' : List D}, Rs P vs ds → Rs P vs' ds' → Rs P (vs ++ vs') (ds ++ ds')
  | _, _, _, _, .nil, h => h
  | _, _, _, _, .cons r q, h => .cons r (Rs.append q h)
theorem Rs.one {v : Value} {d : D} (h : R P v d) : Rs P [v] [d] := .cons h .nil
end

/-- what is fixed all the way -/
structure Cx where
  Z : List Addr
  mg : Str → Option Value
  mb : Str → Option Value
  FT : Addr → Option Obj

def live (h : Heap) (a : Addr) : Prop := (h.get? a).isSome = true
theorem live.lt {h : Heap} {a : Addr} (x : live h a) : a < h.objs.size := by
  unfold live at x
  cases e : h.get? a with
  | none => rw [e] at x; cases x
  | some o => exact Heap.lt_size e
theorem live.of {h : Heap} {a : Addr} {o : Obj} (e : h.get? a = some o) : live h a := by unfold live; rw [e]; rfl
theorem not_live_size (h : Heap) : ¬ live h h.objs.size := fun x => Nat.lt_irrefl _ x.lt

structure CxOk (c : Cx) : Prop where
  zg : mainGlobals ∉ c.Z
  zb : builtinsNs ∉ c.Z
  zs : cStatics ∉ c.Z
  zf : ∀ a o, c.FT a = some o → a ∉ c.Z

/-- a table of nested code -/
def tabOk (h : Heap) (z : Addr) : Prop := ∃ ps, h.get? z = some (tabObj ps) ∧ TriplesOk ps.toList
theorem tabOk.live {h : Heap} {z : Addr} (x : tabOk h z) : live h z := by
  obtain ⟨ps, e, _⟩ := x
  unfold Mine.live
  rw [e]; rfl
theorem tabOk.keep {h h' : Heap} {z : Addr} (x : tabOk h z) (hk : ∀ o, h.get? z = some o → h'.get? z = some o) : tabOk h' z := by
  obtain ⟨ps, e, g⟩ := x
  exact ⟨ps, hk _ e, g⟩
structure Ext (c : Cx) (h h' : Heap) : Prop where
  keep : ∀ b o, b ∉ c.Z → h.get? b = some o → h'.get? b = some o
  zl : ∀ z, z ∈ c.Z → tabOk h z → tabOk h' z
  zv : ∀ z, z ∈ c.Z → live h z → live h' z
theorem Ext.refl (c : Cx) (h : Heap) : Ext c h h := ⟨fun _ _ _ e => e, fun _ _ x => x, fun _ _ x => x⟩
theorem Ext.trans {c : Cx} {h h' h'' : Heap} (x : Ext c h h') (y : Ext c h' h'') : Ext c h h'' :=
  ⟨fun b o hb e => y.keep b o hb (x.keep b o hb e), fun z hz l => y.zl z hz (x.zl z hz l), fun z hz l => y.zv z hz (x.zv z hz l)⟩
theorem Ext.of {c : Cx} {h h' : Heap} (hk : ∀ b o, h.get? b = some o → h'.get? b = some o) : Ext c h h' :=
  ⟨fun b o _ e => hk b o e, fun z _ l => l.keep (hk z), fun z _ l => by
    unfold live at l ⊢
    cases e : h.get? z with
    | none => rw [e] at l; cases l
    | some o => rw [hk z o e]; rfl⟩
theorem Ext.push (c : Cx) (h : Heap) (o : Obj) : Ext c h (h.push o) := Ext.of fun _ _ e => Heap.get?_push_of_some _ e
theorem Ext.live {c : Cx} {h h' : Heap} (x : Ext c h h') {a : Addr} (l : live h a) : live h' a := by
  by_cases ha : a ∈ c.Z
  · exact x.zv a ha l
  · unfold Mine.live at l ⊢
    cases e : h.get? a with
    | none => rw [e] at l; cases l
    | some o => rw [x.keep a o ha e]; rfl

structure Glo (c : Cx) (h : Heap) : Prop where
  g : h.Ns mainGlobals c.mg
  b : h.Ns builtinsNs c.mb
  lim : h.NoLimit
  obs : ∀ a o, c.FT a = some o → h.get? a = some o
  zl : ∀ z ∈ c.Z, tabOk h z
  ok : CxOk c
theorem Glo.ext {c : Cx} {h h' : Heap} (G : Glo c h) (x : Ext c h h') : Glo c h' where
  g := G.g.at fun o e => x.keep _ o G.ok.zg e
  b := G.b.at fun o e => x.keep _ o G.ok.zb e
  lim := by
    obtain ⟨mc, n, e⟩ := G.lim
    exact ⟨mc, n.at fun o e => x.keep _ o G.ok.zs e, e⟩
  obs := fun a o e => x.keep a o (G.ok.zf a o e) (G.obs a o e)
  zl := fun z hz => x.zl z hz (G.zl z hz)
  ok := G.ok

/-- lists outside of X -/
def LP (h : Heap) (X : List Addr) (a : Addr) (vs : Array Value) : Prop := h.IsList a vs ∧ a ∉ X
theorem IsList.at {h h' : Heap} {a : Addr} {vs : Array Value} (x : h.IsList a vs) (hk : ∀ o, h.get? a = some o → h'.get? a = some o) : h'.IsList a vs :=
  let ⟨o, ho, r⟩ := x; ⟨o, hk o ho, r⟩
theorem LP.ext {c : Cx} {h h' : Heap} {X X' : List Addr} (x : Ext c h h') (hz : ∀ z ∈ c.Z, z ∈ X) (hX : ∀ a, a ∈ X' → a ∈ X ∨ ¬ live h a) : ∀ a vs, LP h X a vs → LP h' X' a vs :=
  fun a vs l => ⟨IsList.at l.1 fun o e => x.keep a o (fun q => l.2 (hz a q)) e, fun q => by
    rcases hX a q with q | q
    · exact l.2 q
    · obtain ⟨o, e, _⟩ := l.1; exact q (live.of e)⟩
theorem IsList.live {h : Heap} {a : Addr} {vs : Array Value} (x : h.IsList a vs) : live h a := by
  obtain ⟨o, e, _⟩ := x; exact live.of e

def Flat : D → Prop
  | .list _ => False
  | _ => True
theorem R.flat {P P' : Addr → Array Value → Prop} {v : Value} {d : D} (h : R P v d) (f : Flat d) : R P' v d := by
  cases h with
  | none => exact .none
  | bool => exact .bool
  | int => exact .int
  | str => exact .str
  | adr => exact .adr
  | bi => exact .bi
  | ty => exact .ty
  | list _ _ => exact f.elim

theorem R.list_inv {P : Addr → Array Value → Prop} {v : Value} {ds : List D} (h : R P v (.list ds)) : ∃ a vs, v = .ref a ∧ P a vs ∧ Rs P vs.toList ds := by
  cases h with
  | list p r => exact ⟨_, _, rfl, p, r⟩
theorem R.str_inv {P : Addr → Array Value → Prop} {v : Value} {x : Str} (h : R P v (.str x)) : ∃ t, v = .str x t := by
  cases h with
  | str => exact ⟨_, rfl⟩
theorem R.int_inv {P : Addr → Array Value → Prop} {v : Value} {x : Int} (h : R P v (.int x)) : ∃ t, v = .int x t := by
  cases h with
  | int => exact ⟨_, rfl⟩
theorem Rs.two_inv {P : Addr → Array Value → Prop} {vs : List Value} {d e : D} (h : Rs P vs [d, e]) : ∃ v w, vs = [v, w] ∧ R P v d ∧ R P w e := by
  cases h with
  | cons a q => cases q with
    | cons b q' => cases q'; exact ⟨_, _, rfl, a, b⟩
theorem Rs.one_inv {P : Addr → Array Value → Prop} {vs : List Value} {d : D} (h : Rs P vs [d]) : ∃ v, vs = [v] ∧ R P v d := by
  cases h with
  | cons a q => cases q; exact ⟨_, rfl, a⟩
theorem Rs.nil_inv {P : Addr → Array Value → Prop} {vs : List Value} (h : Rs P vs []) : vs = [] := by cases h; rfl
theorem Rs.three_inv {P : Addr → Array Value → Prop} {vs : List Value} {d e f : D} (h : Rs P vs [d, e, f]) : ∃ v w u, vs = [v, w, u] ∧ R P v d ∧ R P w e ∧ R P u f := by
  cases h with
  | cons a q =>
    obtain ⟨v, w, rfl, x, y⟩ := Rs.two_inv q
    exact ⟨_, _, _, rfl, a, x, y⟩

structure AOk (n : Nat) (A : Around) : Prop where
  hd : A.handled = none
  dp : A.depth + n < 990
  un : A.units + 20 * n + 200 < 9900
theorem AOk.le {n m : Nat} {A : Around} (x : AOk n A) (h : m ≤ n) : AOk m A := ⟨x.hd, by have := x.dp; omega, by have := x.un; omega⟩
theorem AOk.deeper {n : Nat} {A : Around} (x : AOk (n + 1) A) (env : Env) : AOk n (A.deeper env) :=
  ⟨x.hd, by have := x.dp; show A.depth + 1 + n < 990; omega, by have := x.un; show A.units + 3 + 20 * n + 200 < 9900; omega⟩
theorem AOk.room {n : Nat} {A : Around} (x : AOk n A) : A.depth < recursionLimit := by have := x.dp; show A.depth < 1000; omega
end Mine

/-! La2 -/
namespace Mine

def Loads (env : Env) (h : Heap) (x : Str) (v : Value) : Prop :=
  (env.kindOf x = some .local ∧ ∃ m, h.Ns env.locals m ∧ m x = some v) ∨
  ((env.kindOf x = some .cell ∨ env.kindOf x = some .free) ∧ ∃ a, env.cells.lookup x = some a ∧ h.IsCell a (some v))

def IsApp (h : Heap) (m a : Addr) : Prop := ∃ o, h.get? m = some o ∧ o.cls = .type "builtin_function_or_method" ∧ o.data = .fields #[.builtin "list.append", .ref a]

def entOk (h : Heap) (X Z : List Addr) (ow : List (Str × Addr)) (x : Str) (v : Value) : Ent → Prop
  | .sh d => R (LP h X) v d
  | .own l => ∃ a vs, v = .ref a ∧ (x, a) ∈ ow ∧ h.PlainList a vs ∧ Rs (LP h X) vs.toList l
  | .app y => ∃ m a, v = .ref m ∧ (y, a) ∈ ow ∧ IsApp h m a ∧ m ∉ Z
  | .dead => True

def XX (ow : List (Str × Addr)) (X0 : List Addr) : List Addr := ow.map (·.2) ++ X0

structure St (c : Cx) (X0 : List Addr) (s0 : Shared) (env : Env) (gd : List (Addr × Obj)) (hid : List (Value × D)) (ow : List (Str × Addr)) (r : Rho) (s : Shared) : Prop where
  kf : env.scope.kind = .function
  eg : env.globals = mainGlobals
  eb : env.builtins = builtinsNs
  same : ∃ h tk, s = { s0 with heap := h, toks := tk }
  glo0 : Glo c s0.heap
  keep : Ext c s0.heap s.heap
  zx : ∀ z ∈ c.Z, z ∈ X0
  xl : ∀ x ∈ X0, live s0.heap x
  ns : ∃ m, s.heap.Ns env.locals m
  nz : env.locals ∉ c.Z
  nf : ¬ live s0.heap env.locals
  cl : ∀ x a, env.cells.lookup x = some a → (∃ v, s.heap.IsCell a v) ∧ a ∉ c.Z
  ci : ∀ x y a, env.cells.lookup x = some a → env.cells.lookup y = some a → x = y
  cf : env.func ≠ none → ∀ x a, env.kindOf x = some .cell → env.cells.lookup x = some a → ¬ live s0.heap a
  fnc : env.func ≠ none → ∀ x, env.kindOf x = some .cell → ∃ a, env.cells.lookup x = some a
  gds : ∀ p ∈ gd, s.heap.get? p.1 = some p.2 ∧ p.1 ∉ c.Z ∧ p.1 ≠ env.locals ∧ (∀ x, env.cells.lookup x ≠ some p.1) ∧ p.1 ∉ ow.map (·.2)
  hids : ∀ p ∈ hid, R (LP s.heap (XX ow X0)) p.1 p.2
  owk : (ow.map (·.1)).Nodup
  owa : (ow.map (·.2)).Nodup
  owp : ∀ p ∈ ow, (∃ vs, s.heap.PlainList p.2 vs) ∧ ¬ live s0.heap p.2 ∧ p.2 ∉ c.Z
  vars : ∀ x e, r.get x = some e → ∃ v, Loads env s.heap x v ∧ entOk s.heap (XX ow X0) c.Z ow x v e

section
variable {c : Cx} {X0 : List Addr} {s0 : Shared} {env : Env} {gd : List (Addr × Obj)} {hid : List (Value × D)} {ow : List (Str × Addr)} {r : Rho} {s : Shared}

theorem St.glo (S : St c X0 s0 env gd hid ow r s) : Glo c s.heap := S.glo0.ext S.keep
theorem St.zX (S : St c X0 s0 env gd hid ow r s) : ∀ z ∈ c.Z, z ∈ XX ow X0 := fun z hz => List.mem_append_right _ (S.zx z hz)
theorem St.Xl (S : St c X0 s0 env gd hid ow r s) : ∀ x ∈ XX ow X0, live s.heap x := fun x hx => by
  rcases List.mem_append.mp hx with q | q
  · obtain ⟨p, hp, rfl⟩ := List.mem_map.mp q
    obtain ⟨⟨vs, n, e⟩, _⟩ := S.owp p hp
    exact live.of e
  · exact S.keep.live (S.xl x q)

theorem Loads.ext {h' : Heap} {x : Str} {v : Value} (S : St c X0 s0 env gd hid ow r s) (l : Loads env s.heap x v) (e : Ext c s.heap h') : Loads env h' x v := by
  rcases l with ⟨k, m, n, q⟩ | ⟨k, a, q, o, ho, hd⟩
  · exact .inl ⟨k, m, n.at fun o z => e.keep _ o S.nz z, q⟩
  · exact .inr ⟨k, a, q, o, e.keep a o (S.cl x a q).2 ho, hd⟩

theorem entOk.ext {h' : Heap} {x : Str} {v : Value} {en : Ent} (S : St c X0 s0 env gd hid ow r s) (l : entOk s.heap (XX ow X0) c.Z ow x v en) (e : Ext c s.heap h') :
    entOk h' (XX ow X0) c.Z ow x v en := by
  have lp := LP.ext (X := XX ow X0) (X' := XX ow X0) e S.zX fun a q => .inl q
  cases en with
  | sh d => exact R.mono lp l
  | own l' =>
    obtain ⟨a, vs, rfl, hm, hp, hr⟩ := l
    exact ⟨a, vs, rfl, hm, hp.at fun o z => e.keep a o (S.owp _ hm).2.2 z, Rs.mono lp hr⟩
  | app y =>
    obtain ⟨m, a, rfl, hm, ⟨o, ho, q⟩, hz⟩ := l
    exact ⟨m, a, rfl, hm, ⟨o, e.keep m o hz ho, q⟩, hz⟩
  | dead => exact trivial

theorem St.ext {h' : Heap} {tk : Nat} (S : St c X0 s0 env gd hid ow r s) (e : Ext c s.heap h') : St c X0 s0 env gd hid ow r { s with heap := h', toks := tk } where
  kf := S.kf
  eg := S.eg
  eb := S.eb
  same := let ⟨_, _, q⟩ := S.same; ⟨h', tk, by rw [q]⟩
  glo0 := S.glo0
  keep := S.keep.trans e
  zx := S.zx
  xl := S.xl
  ns := let ⟨m, n⟩ := S.ns; ⟨m, n.at fun o z => e.keep _ o S.nz z⟩
  nz := S.nz
  nf := S.nf
  cl := fun x a q => let ⟨⟨v, o, ho, hd⟩, z⟩ := S.cl x a q; ⟨⟨v, o, e.keep a o z ho, hd⟩, z⟩
  ci := S.ci
  cf := S.cf
  fnc := S.fnc
  gds := fun p hp => let ⟨a1, a2, a3⟩ := S.gds p hp; ⟨e.keep _ _ a2 a1, a2, a3⟩
  hids := fun p hp => R.mono (LP.ext (X := XX ow X0) (X' := XX ow X0) e S.zX fun a q => .inl q) (S.hids p hp)
  owk := S.owk
  owa := S.owa
  owp := fun p hp => let ⟨⟨vs, a1⟩, a2, a3⟩ := S.owp p hp; ⟨⟨vs, a1.at fun o z => e.keep _ o a3 z⟩, a2, a3⟩
  vars := fun x en q => let ⟨v, a1, a2⟩ := S.vars x en q; ⟨v, Loads.ext S a1 e, entOk.ext S a2 e⟩

/-- only the frame's own place b turned -/
structure Step (c : Cx) (s0 : Shared) (env : Env) (b : Addr) (h h' : Heap) : Prop where
  sb : Heap.SameBut b h h'
  nz : b ∉ c.Z
  nf : ¬ live s0.heap b
  nl : ∀ o, h.get? b = some o → (∃ es n, o.data = .dict es n) ∨ ∃ v, o.data = .cell v

theorem Step.isList {b : Addr} {h h' : Heap} (T : Step c s0 env b h h') {a : Addr} {vs : Array Value} (x : h.IsList a vs) : h'.IsList a vs := by
  obtain ⟨o, ho, hc, n, hd⟩ := x
  refine ⟨o, (T.sb.2 a fun q => ?_).trans ho, hc, n, hd⟩
  rcases T.nl o (q ▸ ho) with ⟨es, n', e⟩ | ⟨v, e⟩ <;> rw [hd] at e <;> cases e
theorem Step.plain {b : Addr} {h h' : Heap} (T : Step c s0 env b h h') {a : Addr} {vs : Array Value} (x : h.PlainList a vs) : h'.PlainList a vs := by
  obtain ⟨n, ho⟩ := x
  refine ⟨n, (T.sb.2 a fun q => ?_).trans ho⟩
  rcases T.nl _ (q ▸ ho) with ⟨es, n', e⟩ | ⟨v, e⟩ <;> cases e
theorem Step.isApp {b : Addr} {h h' : Heap} (T : Step c s0 env b h h') {m a : Addr} (x : IsApp h m a) : IsApp h' m a := by
  obtain ⟨o, ho, hc, hd⟩ := x
  refine ⟨o, (T.sb.2 m fun q => ?_).trans ho, hc, hd⟩
  rcases T.nl o (q ▸ ho) with ⟨es, n', e⟩ | ⟨v, e⟩ <;> rw [hd] at e <;> cases e
theorem Step.ext {b : Addr} {h h' : Heap} (T : Step c s0 env b h h') (e : Ext c s0.heap h) : Ext c s0.heap h' :=
  ⟨fun a o hz q => (T.sb.2 a fun z => T.nf (z ▸ live.of q)).trans (e.keep a o hz q), fun z hz l => (e.zl z hz l).keep fun o w => (T.sb.2 z fun q => T.nz (q ▸ hz)).trans w, fun z hz l => by
    have := e.zv z hz l
    unfold live at this ⊢
    rw [T.sb.2 z fun q => T.nz (q ▸ hz)]
    exact this⟩

def Ent.kill (x : Str) : Ent → Ent
  | .app y => if y = x then .dead else .app y
  | e => e
def Rho.kill (r : Rho) (x : Str) : Rho := r.map fun p => (p.1, p.2.kill x)
theorem Rho.get_kill (r : Rho) (x y : Str) : (r.kill x).get y = (r.get y).map (Ent.kill x) := by
  induction r with
  | nil => rfl
  | cons p r ih =>
    obtain ⟨z, e'⟩ := p
    show List.lookup y ((z, e'.kill x) :: Rho.kill r x) = (List.lookup y ((z, e') :: r)).map (Ent.kill x)
    rw [List.lookup_cons, List.lookup_cons]
    cases hb : y == z with
    | true => rfl
    | false => exact ih

def dropO (ow : List (Str × Addr)) (x : Str) : List (Str × Addr) := ow.filter fun p => !(p.1 == x)
theorem mem_dropO {ow : List (Str × Addr)} {x : Str} {p : Str × Addr} : p ∈ dropO ow x ↔ p ∈ ow ∧ p.1 ≠ x := by
  unfold dropO
  rw [List.mem_filter]
  simp
theorem dropO_sub (ow : List (Str × Addr)) (x : Str) : (dropO ow x).Sublist ow := List.filter_sublist

theorem Loads.step {h' : Heap} {b : Addr} {x y : Str} {v v' : Value} (S : St c X0 s0 env gd hid ow r s) (l : Loads env s.heap y v') (hyx : y ≠ x)
    (hw : (env.kindOf x = some .local ∧ b = env.locals ∧ ∃ m, s.heap.Ns env.locals m ∧ h'.Ns env.locals (fun z => if z = x then some v else m z)) ∨
      (env.kindOf x = some .cell ∧ env.cells.lookup x = some b ∧ h'.IsCell b (some v)))
    (T : Step c s0 env b s.heap h') : Loads env h' y v' := by
  rcases hw with ⟨hk, rfl, m, hn, hn'⟩ | ⟨hk, hb, hcell⟩
  · rcases l with ⟨k, m', n, q⟩ | ⟨k, a, q, o, ho, hd⟩
    · refine .inl ⟨k, _, hn', ?_⟩
      show (if y = x then some v else m y) = some v'
      rw [if_neg hyx, hn.agree n y]; exact q
    · refine .inr ⟨k, a, q, o, (T.sb.2 a fun z => ?_).trans ho, hd⟩
      obtain ⟨m1, o1, es, ep, h1, h2, _⟩ := S.ns
      rw [← z, ho] at h1
      cases h1
      rw [hd] at h2; cases h2
  · rcases l with ⟨k, m', n, q⟩ | ⟨k, a, q, o, ho, hd⟩
    · refine .inl ⟨k, m', n.at fun o z => ?_, q⟩
      refine (T.sb.2 _ fun w => ?_).trans z
      obtain ⟨o1, es, ep, h1, h2, _⟩ := n
      obtain ⟨⟨v1, o2, g1, g2⟩, _⟩ := S.cl x b hb
      rw [w, g1] at h1
      cases h1
      rw [g2] at h2; cases h2
    · refine .inr ⟨k, a, q, o, (T.sb.2 a fun z => hyx ?_).trans ho, hd⟩
      exact S.ci y x a q (z ▸ hb)

def HW (env : Env) (h h' : Heap) (x : Str) (v : Value) (b : Addr) : Prop :=
  (env.kindOf x = some .local ∧ b = env.locals ∧ ∃ m, h.Ns env.locals m ∧ h'.Ns env.locals (fun z => if z = x then some v else m z)) ∨
  (env.kindOf x = some .cell ∧ env.cells.lookup x = some b ∧ h'.IsCell b (some v))

/-- a name is stored: s ahead of the value's reckoning, h1 behind it, h' behind the store -/
theorem St.store {h1 h' : Heap} {tk : Nat} {b : Addr} {x : Str} {v : Value} {en : Ent} {ow' : List (Str × Addr)} (S0 : St c X0 s0 env gd hid ow r s) (e1 : Ext c s.heap h1)
    (hw : HW env h1 h' x v b) (T : Step c s0 env b h1 h')
    (hsub : ∀ p ∈ ow, p.1 ≠ x → p ∈ ow') (hk : (ow'.map (·.1)).Nodup) (ha : (ow'.map (·.2)).Nodup)
    (hp : ∀ p ∈ ow', (∃ vs, h'.PlainList p.2 vs) ∧ ¬ live s0.heap p.2 ∧ p.2 ∉ c.Z)
    (hmon : ∀ a vs, LP s.heap (XX ow X0) a vs → LP h' (XX ow' X0) a vs)
    (hg : ∀ p ∈ gd, p.1 ∉ ow'.map (·.2))
    (hen : entOk h' (XX ow' X0) c.Z ow' x v en) : St c X0 s0 env gd hid ow' ((r.kill x).put x en) { s with heap := h', toks := tk } := by
  have S : St c X0 s0 env gd hid ow r { s with heap := h1, toks := tk } := S0.ext e1
  have bx : b = env.locals ∨ ∃ y, env.cells.lookup y = some b := by
    rcases hw with ⟨_, q, _⟩ | ⟨_, q, _⟩
    · exact .inl q
    · exact .inr ⟨x, q⟩
  have hLoads : Loads env h' x v := by
    rcases hw with ⟨k, _, m, _, n⟩ | ⟨k, q, n⟩
    · exact .inl ⟨k, _, n, by simp⟩
    · exact .inr ⟨.inl k, b, q, n⟩
  refine ⟨S.kf, S.eg, S.eb, let ⟨_, _, q⟩ := S0.same; ⟨h', tk, by rw [q]⟩, S.glo0, T.ext S.keep, S.zx, S.xl, ?_, S.nz, S.nf, ?_, S.ci, S.cf, S.fnc, ?_, fun p hp => R.mono hmon (S0.hids p hp), hk, ha, hp, ?_⟩
  · rcases hw with ⟨_, _, m, _, n⟩ | ⟨_, hb, hcell⟩
    · exact ⟨_, n⟩
    · obtain ⟨m, n⟩ := S.ns
      refine ⟨m, n.at fun o z => (T.sb.2 _ fun w => ?_).trans z⟩
      obtain ⟨o1, es, ep, h1, h2, _⟩ := n
      obtain ⟨⟨v1, o2, g1, g2⟩, _⟩ := S.cl x b hb
      rw [w, g1] at h1
      cases h1
      rw [g2] at h2; cases h2
  · intro y a q
    obtain ⟨⟨v1, o1, g1, g2⟩, hz⟩ := S.cl y a q
    refine ⟨?_, hz⟩
    by_cases hab : a = b
    · subst hab
      rcases hw with ⟨_, e, m, n, _⟩ | ⟨_, hb, hcell⟩
      · exfalso
        obtain ⟨o2, es, ep, h1, h2, _⟩ := n
        rw [← e, g1] at h1
        cases h1
        rw [g2] at h2; cases h2
      · exact ⟨_, hcell⟩
    · exact ⟨v1, o1, (T.sb.2 a hab).trans g1, g2⟩
  · intro p hp'
    obtain ⟨a1, a2, a3, a4, a5⟩ := S.gds p hp'
    refine ⟨(T.sb.2 _ fun q => ?_).trans a1, a2, a3, a4, hg p hp'⟩
    rcases bx with e | ⟨y, e⟩
    · exact a3 (q.trans e)
    · exact a4 y (q ▸ e)
  · intro y e q
    rw [Rho.get_put] at q
    by_cases hyx : y = x
    · subst hyx
      rw [if_pos rfl] at q
      cases q
      exact ⟨v, hLoads, hen⟩
    · rw [if_neg hyx, Rho.get_kill] at q
      cases hg' : r.get y with
      | none => rw [hg'] at q; cases q
      | some e0 =>
        rw [hg'] at q
        obtain ⟨v', l, o⟩ := S0.vars y e0 hg'
        refine ⟨v', Loads.step S (Loads.ext S0 l e1) hyx hw T, ?_⟩
        have q' : e0.kill x = e := Option.some.inj q
        subst q'
        cases e0 with
        | sh d => exact R.mono hmon o
        | own l' =>
          obtain ⟨a, vs, rfl, hm, hpl, hr⟩ := o
          exact ⟨a, vs, rfl, hsub _ hm hyx, T.plain (hpl.at fun o z => e1.keep a o (S0.owp _ hm).2.2 z), Rs.mono hmon hr⟩
        | app y' =>
          obtain ⟨m, a, rfl, hm, hap, hz⟩ := o
          show entOk h' (XX ow' X0) c.Z ow' y (.ref m) (if y' = x then .dead else .app y')
          by_cases hy : y' = x
          · rw [if_pos hy]; exact trivial
          · rw [if_neg hy]
            refine ⟨m, a, rfl, hsub _ hm hy, T.isApp ?_, hz⟩
            obtain ⟨o, ho, q⟩ := hap
            exact ⟨o, e1.keep m o hz ho, q⟩
        | dead => exact trivial

theorem St.store_sh {h1 h' : Heap} {tk : Nat} {b : Addr} {x : Str} {v : Value} {d : D} (S : St c X0 s0 env gd hid ow r s) (e1 : Ext c s.heap h1) (hw : HW env h1 h' x v b) (T : Step c s0 env b h1 h')
    (hr : R (LP h1 (XX ow X0)) v d) : St c X0 s0 env gd hid (dropO ow x) ((r.kill x).put x (.sh d)) { s with heap := h', toks := tk } := by
  have sub := dropO_sub ow x
  have hX : ∀ a, a ∈ XX (dropO ow x) X0 → a ∈ XX ow X0 := fun a h => by
    rcases List.mem_append.mp h with q | q
    · exact List.mem_append_left _ ((sub.map _).subset q)
    · exact List.mem_append_right _ q
  have mon : ∀ a vs, LP h1 (XX ow X0) a vs → LP h' (XX (dropO ow x) X0) a vs := fun a vs l => ⟨T.isList l.1, fun q => l.2 (hX a q)⟩
  refine S.store e1 hw T (fun p hp hx => mem_dropO.mpr ⟨hp, hx⟩) (S.owk.sublist (sub.map _)) (S.owa.sublist (sub.map _)) (fun p hp => ?_) (fun a vs l => mon a vs (LP.ext e1 S.zX (fun _ q => .inl q) a vs l))
    (fun p hp q => (S.gds p hp).2.2.2.2 ((sub.map _).subset q)) (R.mono mon hr)
  obtain ⟨⟨vs, a1⟩, a2, a3⟩ := S.owp p (sub.subset hp)
  exact ⟨⟨vs, T.plain (a1.at fun o z => e1.keep _ o a3 z)⟩, a2, a3⟩

theorem St.store_own {h1 h' : Heap} {tk : Nat} {b : Addr} {x : Str} {a : Addr} {vs : Array Value} {ds : List D} (S : St c X0 s0 env gd hid ow r s) (e1 : Ext c s.heap h1) (hw : HW env h1 h' x (.ref a) b) (T : Step c s0 env b h1 h')
    (hf : ¬ live s.heap a) (hpl : h1.PlainList a vs) (hr : Rs (LP h1 (a :: XX ow X0)) vs.toList ds) :
    St c X0 s0 env gd hid ((x, a) :: dropO ow x) ((r.kill x).put x (.own ds)) { s with heap := h', toks := tk } := by
  have sub := dropO_sub ow x
  have hX : ∀ a', a' ∈ XX ((x, a) :: dropO ow x) X0 → a' = a ∨ a' ∈ XX ow X0 := fun a' h => by
    rcases List.mem_append.mp h with q | q
    · rw [List.map_cons] at q
      rcases List.mem_cons.mp q with q | q
      · exact .inl q
      · exact .inr (List.mem_append_left _ ((sub.map _).subset q))
    · exact .inr (List.mem_append_right _ q)
  have haz : a ∉ c.Z := fun q => hf (S.glo.zl a q).live
  have hna : a ∉ ow.map (·.2) := fun q => hf (S.Xl a (List.mem_append_left _ q))
  refine S.store e1 hw T (fun p hp hx => List.mem_cons_of_mem _ (mem_dropO.mpr ⟨hp, hx⟩)) ?_ ?_ (fun p hp => ?_) (fun a' vs' l => ?_) (fun p hp q => ?_) ⟨a, vs, rfl, List.mem_cons_self, T.plain hpl, Rs.mono (fun a' vs' l => ⟨T.isList l.1, fun q => l.2 ?_⟩) hr⟩
  · rw [List.map_cons, List.nodup_cons]
    refine ⟨fun q => ?_, S.owk.sublist (sub.map _)⟩
    obtain ⟨p, hp, e⟩ := List.mem_map.mp q
    exact (mem_dropO.mp hp).2 e
  · rw [List.map_cons, List.nodup_cons]
    exact ⟨fun q => hna ((sub.map _).subset q), S.owa.sublist (sub.map _)⟩
  · rcases List.mem_cons.mp hp with q | q
    · subst q
      exact ⟨⟨vs, T.plain hpl⟩, fun q => hf (S.keep.live q), haz⟩
    · obtain ⟨⟨vs, a1⟩, a2, a3⟩ := S.owp p (sub.subset q)
      exact ⟨⟨vs, T.plain (a1.at fun o z => e1.keep _ o a3 z)⟩, a2, a3⟩
  · refine ⟨T.isList (IsList.at l.1 fun o z => e1.keep _ o (fun q => l.2 (S.zX _ q)) z), fun q => ?_⟩
    rcases hX a' q with q | q
    · subst q; exact hf (IsList.live l.1)
    · exact l.2 q
  · rw [List.map_cons] at q
    rcases List.mem_cons.mp q with q | q
    · exact hf ((show p.1 = a from q) ▸ live.of (S.gds p hp).1)
    · exact (S.gds p hp).2.2.2.2 ((sub.map _).subset q)
  · rcases hX a' q with q | q
    · subst q; exact List.mem_cons_self
    · exact List.mem_cons_of_mem _ q

theorem wp_storeName {prog : Program} {w : World} {A : Around} {E : Value → Shared → Prop} {Q : Unit → Shared → Prop} {x : Str} {v : Value} (S : St c X0 s0 env gd hid ow r s)
    (hx : env.kindOf x = some .local ∨ (env.kindOf x = some .cell ∧ env.func ≠ none))
    (h : ∀ h' tk b, HW env s.heap h' x v b → Step c s0 env b s.heap h' → Q () { s with heap := h', toks := tk }) : wpAny (model prog w) A (storeName env x v) Q E s := by
  rcases hx with hl | ⟨hl, hf⟩
  · obtain ⟨m, n⟩ := S.ns
    refine wpAny_storeName_local hl n (fun h' hn hs => h h' _ env.locals (.inl ⟨hl, rfl, m, n, hn⟩) ⟨hs, S.nz, S.nf, fun o ho => ?_⟩) (by rw [S.kf]; rfl)
    obtain ⟨o1, es, ep, h1, h2, _⟩ := n
    rw [ho] at h1; cases h1
    exact .inl ⟨es, ep, h2⟩
  · obtain ⟨a, ha⟩ := S.fnc hf x hl
    obtain ⟨⟨v0, hc⟩, hz⟩ := S.cl x a ha
    refine wpAny_storeName_cell S.kf hl ha hc fun h' hc' hs => ?_
    have := h h' s.toks a (.inr ⟨hl, ha, hc'⟩) ⟨hs, hz, S.cf hf x a hl ha, fun o ho => ?_⟩
    · exact this
    · obtain ⟨o1, h1, h2⟩ := hc
      rw [ho] at h1; cases h1
      exact .inr ⟨_, h2⟩

/-- an owned list of the frame is turned -/
theorem St.mutate {h' : Heap} {tk : Nat} {y : Str} {a : Addr} {vs' : Array Value} {l l' : List D} (S : St c X0 s0 env gd hid ow r s) (hy : r.get y = some (.own l)) (ha : (y, a) ∈ ow)
    (hs : Heap.SameBut a s.heap h') (hp : h'.PlainList a vs') (hr : Rs (LP s.heap (XX ow X0)) vs'.toList l') : St c X0 s0 env gd hid ow (r.put y (.own l')) { s with heap := h', toks := tk } := by
  have hax : a ∈ XX ow X0 := List.mem_append_left _ (List.mem_map_of_mem (f := (·.2)) ha)
  obtain ⟨⟨vs0, n0, e0⟩, f0, z0⟩ := S.owp _ ha
  have mon : ∀ a' vs, LP s.heap (XX ow X0) a' vs → LP h' (XX ow X0) a' vs := fun a' vs q =>
    ⟨IsList.at q.1 fun o e => (hs.2 a' fun w => q.2 (w ▸ hax)).trans e, q.2⟩
  have ne : ∀ b o, s.heap.get? b = some o → (∀ n, o.data ≠ .seq vs0 n) → b ≠ a := fun b o e q w => by
    rw [w] at e
    have e0' : s.heap.get? a = some { cls := .type "list", data := .seq vs0 n0 } := e0
    rw [e0'] at e
    cases e
    exact q n0 rfl
  refine ⟨S.kf, S.eg, S.eb, let ⟨_, _, q⟩ := S.same; ⟨h', tk, by rw [q]⟩, S.glo0, ⟨fun b o hb e => ?_, fun z hz q => (S.keep.zl z hz q).keep fun o w => (hs.2 z fun w => z0 (w ▸ hz)).trans w, fun z hz q => ?_⟩, S.zx, S.xl, ?_, S.nz, S.nf, fun x b q => ?_, S.ci, S.cf, S.fnc, fun p hp' => ?_, fun p hp' => R.mono mon (S.hids p hp'), S.owk, S.owa, fun p hp' => ?_, fun x e q => ?_⟩
  · exact (hs.2 b fun w => f0 (w ▸ live.of e)).trans (S.keep.keep b o hb e)
  · have := S.keep.zv z hz q
    unfold live at this ⊢
    rw [hs.2 z fun w => z0 (w ▸ hz)]; exact this
  · obtain ⟨m, n⟩ := S.ns
    refine ⟨m, n.at fun o e => (hs.2 _ (ne _ o e fun n' w => ?_)).trans e⟩
    obtain ⟨o1, es, ep, h1, h2, _⟩ := n
    rw [e] at h1; cases h1
    rw [w] at h2; cases h2
  · obtain ⟨⟨v, o, h1, h2⟩, hz⟩ := S.cl x b q
    exact ⟨⟨v, o, (hs.2 b (ne b o h1 fun n' w => by rw [w] at h2; cases h2)).trans h1, h2⟩, hz⟩
  · obtain ⟨a1, a2, a3, a4, a5⟩ := S.gds p hp'
    exact ⟨(hs.2 p.1 fun w => a5 (by rw [w]; exact List.mem_map_of_mem (f := (·.2)) ha)).trans a1, a2, a3, a4, a5⟩
  · obtain ⟨⟨vs, n, e⟩, a2, a3⟩ := S.owp p hp'
    by_cases w : p.2 = a
    · exact ⟨⟨vs', w ▸ hp⟩, a2, a3⟩
    · exact ⟨⟨vs, n, (hs.2 _ w).trans e⟩, a2, a3⟩
  · have loads : ∀ {v : Value}, Loads env s.heap x v → Loads env h' x v := fun {v} w => by
      rcases w with ⟨k, m, n, q⟩ | ⟨k, b, q, o, ho, hd⟩
      · refine .inl ⟨k, m, n.at fun o e => (hs.2 _ (ne _ o e fun n' w => ?_)).trans e, q⟩
        obtain ⟨o1, es, ep, h1, h2, _⟩ := n
        rw [e] at h1; cases h1
        rw [w] at h2; cases h2
      · exact .inr ⟨k, b, q, o, (hs.2 b (ne b o ho fun n' w => by rw [w] at hd; cases hd)).trans ho, hd⟩
    rw [Rho.get_put] at q
    by_cases hxy : x = y
    · subst hxy
      rw [if_pos rfl] at q
      cases q
      obtain ⟨v, l1, a', vs, rfl, hm, _, _⟩ := S.vars x _ hy
      have : a' = a := by
        have h1 := S.owk
        have : ∀ (ow : List (Str × Addr)), (ow.map (·.1)).Nodup → ∀ u v, (x, u) ∈ ow → (x, v) ∈ ow → u = v := by
          intro ow
          induction ow with
          | nil => intro _ u v hu; cases hu
          | cons p q ih =>
            intro hn u v hu hv
            rw [List.map_cons, List.nodup_cons] at hn
            rcases List.mem_cons.mp hu with e1 | e1 <;> rcases List.mem_cons.mp hv with e2 | e2
            · rw [← e1] at e2; exact (Prod.mk.inj e2).2.symm
            · exact absurd (List.mem_map_of_mem (f := (·.1)) e2) (by rw [← e1] at hn; exact hn.1)
            · exact absurd (List.mem_map_of_mem (f := (·.1)) e1) (by rw [← e2] at hn; exact hn.1)
            · exact ih hn.2 u v e1 e2
        exact this ow h1 _ _ hm ha
      subst this
      exact ⟨_, loads l1, a', vs', rfl, ha, hp, Rs.mono mon hr⟩
    · rw [if_neg hxy] at q
      obtain ⟨v, l1, o⟩ := S.vars x e q
      refine ⟨v, loads l1, ?_⟩
      cases e with
      | sh d => exact R.mono mon o
      | own l2 =>
        obtain ⟨a', vs, rfl, hm, hpl, hr2⟩ := o
        refine ⟨a', vs, rfl, hm, ?_, Rs.mono mon hr2⟩
        have hne : a' ≠ a := fun w => by
          subst w
          have : ∀ (ow : List (Str × Addr)), (ow.map (·.2)).Nodup → ∀ u v, (u, a') ∈ ow → (v, a') ∈ ow → u = v := by
            intro ow
            induction ow with
            | nil => intro _ u v hu; cases hu
            | cons p q ih =>
              intro hn u v hu hv
              rw [List.map_cons, List.nodup_cons] at hn
              rcases List.mem_cons.mp hu with e1 | e1 <;> rcases List.mem_cons.mp hv with e2 | e2
              · rw [← e1] at e2; exact (Prod.mk.inj e2).1.symm
              · exact absurd (List.mem_map_of_mem (f := (·.2)) e2) (by rw [← e1] at hn; exact hn.1)
              · exact absurd (List.mem_map_of_mem (f := (·.2)) e1) (by rw [← e2] at hn; exact hn.1)
              · exact ih hn.2 u v e1 e2
          exact hxy (this ow S.owa _ _ hm ha)
        obtain ⟨n, e⟩ := hpl
        exact ⟨n, (hs.2 _ hne).trans e⟩
      | app y' =>
        obtain ⟨m, a', rfl, hm, ⟨o', ho', hc', hd'⟩, hz⟩ := o
        exact ⟨m, a', rfl, hm, ⟨o', (hs.2 m (ne m o' ho' fun n' w => by rw [w] at hd'; cases hd')).trans ho', hc', hd'⟩, hz⟩
      | dead => exact trivial

/-- an iterator of the frame's goes on: a place that is none of what the state speaks of -/
theorem St.iter {h' : Heap} {tk : Nat} {I : Addr} (S : St c X0 s0 env gd hid ow r s) (hk : ∀ b o, b ≠ I → s.heap.get? b = some o → h'.get? b = some o)
    (hf : ¬ live s0.heap I) (hz : I ∉ c.Z) (hg : I ∉ gd.map (·.1)) (ho : ∃ o vs T, s.heap.get? I = some o ∧ o.cls = .type T ∧ T ≠ "builtin_function_or_method" ∧ o.data = .fields vs) :
    St c X0 s0 env gd hid ow r { s with heap := h', toks := tk } := by
  obtain ⟨oI, vsI, TI, hI, hcI, hTI, hdI⟩ := ho
  have ne : ∀ b o, s.heap.get? b = some o → (∀ v, o.data ≠ .fields v) → b ≠ I := fun b o e q w => by
    rw [w, hI] at e
    cases e
    exact q _ hdI
  have lst : ∀ a vs, s.heap.IsList a vs → h'.IsList a vs := fun a vs q => by
    obtain ⟨o, h1, h2, n, h3⟩ := q
    exact ⟨o, hk a o (ne a o h1 fun v w => by rw [w] at h3; cases h3) h1, h2, n, h3⟩
  have mon : ∀ a' vs, LP s.heap (XX ow X0) a' vs → LP h' (XX ow X0) a' vs := fun a' vs q => ⟨lst _ _ q.1, q.2⟩
  refine ⟨S.kf, S.eg, S.eb, let ⟨_, _, q⟩ := S.same; ⟨h', tk, by rw [q]⟩, S.glo0, ⟨fun b o hb e => ?_, fun z hzz q => (S.keep.zl z hzz q).keep fun o w => hk z o (fun w => hz (w ▸ hzz)) w, fun z hzz q => ?_⟩, S.zx, S.xl, ?_, S.nz, S.nf, fun x b q => ?_, S.ci, S.cf, S.fnc, fun p hp' => ?_, fun p hp' => R.mono mon (S.hids p hp'), S.owk, S.owa, fun p hp' => ?_, fun x e q => ?_⟩
  · exact hk b o (fun w => hf (w ▸ live.of e)) (S.keep.keep b o hb e)
  · have := S.keep.zv z hzz q
    unfold live at this ⊢
    cases e : s.heap.get? z with
    | none => rw [e] at this; cases this
    | some o => rw [hk z o (fun w => hz (w ▸ hzz)) e]; rfl
  · obtain ⟨m, n⟩ := S.ns
    refine ⟨m, n.at fun o e => hk _ o (ne _ o e fun v w => ?_) e⟩
    obtain ⟨o1, es, ep, h1, h2, _⟩ := n
    rw [e] at h1; cases h1
    rw [w] at h2; cases h2
  · obtain ⟨⟨v, o, h1, h2⟩, hz⟩ := S.cl x b q
    exact ⟨⟨v, o, hk b o (ne b o h1 fun n' w => by rw [w] at h2; cases h2) h1, h2⟩, hz⟩
  · obtain ⟨a1, a2, a3, a4, a5⟩ := S.gds p hp'
    exact ⟨hk p.1 _ (fun w => hg (by rw [← w]; exact List.mem_map_of_mem (f := (·.1)) hp')) a1, a2, a3, a4, a5⟩
  · obtain ⟨⟨vs, n, e⟩, a2, a3⟩ := S.owp p hp'
    exact ⟨⟨vs, n, hk _ _ (ne _ _ e fun v w => by cases w) e⟩, a2, a3⟩
  · obtain ⟨v, l1, o⟩ := S.vars x e q
    refine ⟨v, ?_, ?_⟩
    · rcases l1 with ⟨k, m, n, q⟩ | ⟨k, b, q, o, ho, hd⟩
      · refine .inl ⟨k, m, n.at fun o e => hk _ o (ne _ o e fun n' w => ?_) e, q⟩
        obtain ⟨o1, es, ep, h1, h2, _⟩ := n
        rw [e] at h1; cases h1
        rw [w] at h2; cases h2
      · exact .inr ⟨k, b, q, o, hk b o (ne b o ho fun n' w => by rw [w] at hd; cases hd) ho, hd⟩
    · cases e with
      | sh d => exact R.mono mon o
      | own l2 =>
        obtain ⟨a', vs, rfl, hm, ⟨n, e⟩, hr2⟩ := o
        exact ⟨a', vs, rfl, hm, ⟨n, hk _ _ (ne _ _ e fun v w => by cases w) e⟩, Rs.mono mon hr2⟩
      | app y' =>
        obtain ⟨m, a', rfl, hm, ⟨o', ho', hc', hd'⟩, hz⟩ := o
        refine ⟨m, a', rfl, hm, ⟨o', hk m o' (fun w => ?_) ho', hc', hd'⟩, hz⟩
        rw [w, hI] at ho'
        cases ho'
        rw [hcI] at hc'
        exact hTI (by cases hc'; rfl)
      | dead => exact trivial
theorem St.gd_drop {gd' : List (Addr × Obj)} (S : St c X0 s0 env (gd' ++ gd) hid ow r s) : St c X0 s0 env gd hid ow r s :=
  { S with gds := fun p hp => S.gds p (List.mem_append_right _ hp) }
theorem St.hid_drop {hid' : List (Value × D)} (S : St c X0 s0 env gd (hid' ++ hid) ow r s) : St c X0 s0 env gd hid ow r s :=
  { S with hids := fun p hp => S.hids p (List.mem_append_right _ hp) }
theorem St.gd_add {gd' : List (Addr × Obj)} (S : St c X0 s0 env gd hid ow r s) (h : ∀ p ∈ gd', s.heap.get? p.1 = some p.2 ∧ p.1 ∉ c.Z ∧ p.1 ≠ env.locals ∧ (∀ x, env.cells.lookup x ≠ some p.1) ∧ p.1 ∉ ow.map (·.2)) :
    St c X0 s0 env (gd' ++ gd) hid ow r s :=
  { S with gds := fun p hp => (List.mem_append.mp hp).elim (h p) (S.gds p) }
theorem St.hid_add {hid' : List (Value × D)} (S : St c X0 s0 env gd hid ow r s) (h : ∀ p ∈ hid', R (LP s.heap (XX ow X0)) p.1 p.2) :
    St c X0 s0 env gd (hid' ++ hid) ow r s :=
  { S with hids := fun p hp => (List.mem_append.mp hp).elim (h p) (S.hids p) }
end
end Mine

/-! La3 -/
namespace Mine

theorem bind_some {α β : Type} {o : Option α} {g : α → Option β} {b : β} (h : o.bind g = some b) : ∃ a, o = some a ∧ g a = some b := by
  cases o with
  | none => cases h
  | some a => exact ⟨a, rfl, h⟩

/-- the frame is a def's -/
def FnOk (c : Cx) (env : Env) : Prop := ∃ fa ob fd, env.func = some fa ∧ c.FT fa = some ob ∧ ob.data = .func fd ∧ env.code = fd.code ∧ env.scope = fd.scope
theorem FnOk.ne {c : Cx} {env : Env} (h : FnOk c env) : env.func ≠ none := by
  obtain ⟨fa, _, _, e, _⟩ := h
  rw [e]; intro q; cases q
/-- behind an expression: all that stood stands -/
def After (c : Cx) (s s' : Shared) : Prop := (∃ h tk, s' = { s with heap := h, toks := tk }) ∧ Ext c s.heap s'.heap
theorem After.refl (c : Cx) (s : Shared) : After c s s := ⟨⟨s.heap, s.toks, rfl⟩, Ext.refl c _⟩
theorem After.trans {c : Cx} {s s' s'' : Shared} (x : After c s s') (y : After c s' s'') : After c s s'' := by
  obtain ⟨⟨h, tk, rfl⟩, e⟩ := x
  obtain ⟨⟨h', tk', rfl⟩, e'⟩ := y
  exact ⟨⟨h', tk', rfl⟩, e.trans e'⟩
theorem After.tok (c : Cx) (s : Shared) (tk : Nat) : After c s { s with toks := tk } := ⟨⟨s.heap, tk, rfl⟩, Ext.refl c _⟩
theorem After.heap {c : Cx} {s : Shared} {h : Heap} (tk : Nat) (e : Ext c s.heap h) : After c s { s with heap := h, toks := tk } := ⟨⟨h, tk, rfl⟩, e⟩
theorem After.push (c : Cx) (s : Shared) (o : Obj) (tk : Nat) : After c s { s with heap := s.heap.push o, toks := tk } := ⟨⟨_, tk, rfl⟩, Ext.push c _ o⟩
theorem After.heap0 {c : Cx} {s : Shared} {h : Heap} (e : Ext c s.heap h) : After c s { s with heap := h } := ⟨⟨h, s.toks, rfl⟩, e⟩
theorem After.tk {c : Cx} {s s' : Shared} (x : After c s s') (tk : Nat) : After c s { s' with toks := tk } := x.trans (After.tok c s' tk)

section
variable {c : Cx} {X0 : List Addr} {s0 : Shared} {env : Env} {gd : List (Addr × Obj)} {hid : List (Value × D)} {ow : List (Str × Addr)} {r : Rho} {s : Shared}
theorem St.after {s' : Shared} (S : St c X0 s0 env gd hid ow r s) (a : After c s s') : St c X0 s0 env gd hid ow r s' := by
  obtain ⟨⟨h, tk, rfl⟩, e⟩ := a
  exact S.ext e
theorem St.mv (S : St c X0 s0 env gd hid ow r s) {s' : Shared} (a : After c s s') {v : Value} {d : D} (x : R (LP s.heap (XX ow X0)) v d) : R (LP s'.heap (XX ow X0)) v d :=
  R.mono (LP.ext a.2 S.zX fun _ q => .inl q) x
theorem St.mvs (S : St c X0 s0 env gd hid ow r s) {s' : Shared} (a : After c s s') {v : List Value} {d : List D} (x : Rs (LP s.heap (XX ow X0)) v d) : Rs (LP s'.heap (XX ow X0)) v d :=
  Rs.mono (LP.ext a.2 S.zX fun _ q => .inl q) x
end

/-- true: lists that nobody turns; false: perhaps one of the frame's own -/
def MX (b : Bool) (c : Cx) (ow : List (Str × Addr)) (X0 : List Addr) : List Addr := match b with
  | true => XX ow X0
  | false => X0
section
variable {c : Cx} {X0 : List Addr} {s0 : Shared} {env : Env} {gd : List (Addr × Obj)} {hid : List (Value × D)} {ow : List (Str × Addr)} {r : Rho} {s : Shared} {b : Bool}
theorem St.zM (S : St c X0 s0 env gd hid ow r s) : ∀ z ∈ c.Z, z ∈ MX b c ow X0 := by
  cases b with
  | true => exact S.zX
  | false => exact S.zx
theorem St.Ml (S : St c X0 s0 env gd hid ow r s) : ∀ z ∈ MX b c ow X0, live s.heap z := by
  cases b with
  | true => exact S.Xl
  | false => exact fun z h => S.keep.live (S.xl z h)
theorem St.mvM (S : St c X0 s0 env gd hid ow r s) {s1 s' : Shared} (a : After c s1 s') {v : Value} {d : D} (x : R (LP s1.heap (MX b c ow X0)) v d) : R (LP s'.heap (MX b c ow X0)) v d :=
  R.mono (LP.ext a.2 S.zM fun _ q => .inl q) x
end
/-- an expression's value, as plain data -/
def TrM (b : Bool) (c : Cx) (n : Nat) (sc : Scope) (e : Expr) (f : Rho → Option D) : Prop :=
  ∀ ⦃prog : Program⦄ ⦃w : World⦄ ⦃A : Around⦄ ⦃E : Value → Shared → Prop⦄ ⦃X0 : List Addr⦄ ⦃s0 : Shared⦄ ⦃env : Env⦄ ⦃gd : List (Addr × Obj)⦄ ⦃hid : List (Value × D)⦄ ⦃ow : List (Str × Addr)⦄ ⦃r : Rho⦄ ⦃s : Shared⦄ ⦃Q : Value → Shared → Prop⦄ ⦃d : D⦄,
    AOk n A → env.scope = sc → St c X0 s0 env gd hid ow r s → f r = some d →
    (∀ v s', After c s s' → R (LP s'.heap (MX b c ow X0)) v d → Q v s') → wpAny (model prog w) A (eval e env) Q E s
abbrev TrE := TrM true
abbrev TrB := TrM false
/-- a list just made -/
def TrF (c : Cx) (n : Nat) (sc : Scope) (e : Expr) (f : Rho → Option (List D)) : Prop :=
  ∀ ⦃prog : Program⦄ ⦃w : World⦄ ⦃A : Around⦄ ⦃E : Value → Shared → Prop⦄ ⦃X0 : List Addr⦄ ⦃s0 : Shared⦄ ⦃env : Env⦄ ⦃gd : List (Addr × Obj)⦄ ⦃hid : List (Value × D)⦄ ⦃ow : List (Str × Addr)⦄ ⦃r : Rho⦄ ⦃s : Shared⦄ ⦃Q : Value → Shared → Prop⦄ ⦃ds : List D⦄,
    AOk n A → env.scope = sc → St c X0 s0 env gd hid ow r s → f r = some ds →
    (∀ a vs s', After c s s' → ¬ live s.heap a → s'.heap.PlainList a vs → Rs (LP s'.heap (a :: XX ow X0)) vs.toList ds → Q (.ref a) s') → wpAny (model prog w) A (eval e env) Q E s
/-- several, in order -/
def TrEs (b : Bool) (c : Cx) (n : Nat) (sc : Scope) (es : List Expr) (f : Rho → Option (List D)) : Prop :=
  ∀ ⦃prog : Program⦄ ⦃w : World⦄ ⦃A : Around⦄ ⦃E : Value → Shared → Prop⦄ ⦃X0 : List Addr⦄ ⦃s0 : Shared⦄ ⦃env : Env⦄ ⦃gd : List (Addr × Obj)⦄ ⦃hid : List (Value × D)⦄ ⦃ow : List (Str × Addr)⦄ ⦃r : Rho⦄ ⦃s : Shared⦄ ⦃pos : Pos⦄ ⦃Q : List Value → Shared → Prop⦄ ⦃ds : List D⦄,
    AOk n A → env.scope = sc → St c X0 s0 env gd hid ow r s → f r = some ds →
    (∀ vs s', After c s s' → Rs (LP s'.heap (MX b c ow X0)) vs ds → Q vs s') → wpAny (model prog w) A (spliced (backTo pos (starEach es env))) Q E s
/-- a test -/
def TrT (c : Cx) (n : Nat) (sc : Scope) (e : Expr) (f : Rho → Option Bool) : Prop :=
  ∀ ⦃prog : Program⦄ ⦃w : World⦄ ⦃A : Around⦄ ⦃E : Value → Shared → Prop⦄ ⦃X0 : List Addr⦄ ⦃s0 : Shared⦄ ⦃env : Env⦄ ⦃gd : List (Addr × Obj)⦄ ⦃hid : List (Value × D)⦄ ⦃ow : List (Str × Addr)⦄ ⦃r : Rho⦄ ⦃s : Shared⦄ ⦃Q : Bool → Shared → Prop⦄ ⦃b : Bool⦄,
    AOk n A → env.scope = sc → St c X0 s0 env gd hid ow r s → f r = some b →
    (∀ s', After c s s' → Q b s') → wpAny (model prog w) A (isTrue e env (eval e env)) Q E s

/-- how a statement ends -/
inductive Fl where
  | next
  | brk
  | cont
  | ret (d : D)
def RFl (h : Heap) (X0 : List Addr) : Flow → Fl → Prop
  | .next, .next => True
  | .brk, .brk => True
  | .cont, .cont => True
  | .ret v, .ret d => R (LP h X0) v d
  | _, _ => False

def TrS (c : Cx) (n : Nat) (sc : Scope) (e : Stmt) (f : Rho → Option (Rho × Fl)) : Prop :=
  ∀ ⦃prog : Program⦄ ⦃w : World⦄ ⦃A : Around⦄ ⦃E : Value → Shared → Prop⦄ ⦃X0 : List Addr⦄ ⦃s0 : Shared⦄ ⦃env : Env⦄ ⦃gd : List (Addr × Obj)⦄ ⦃hid : List (Value × D)⦄ ⦃ow : List (Str × Addr)⦄ ⦃r r' : Rho⦄ ⦃fl : Fl⦄ ⦃s : Shared⦄ ⦃Q : Flow → Shared → Prop⦄,
    AOk n A → env.scope = sc → FnOk c env → St c X0 s0 env gd hid ow r s → f r = some (r', fl) →
    (∀ f' s' ow', St c X0 s0 env gd hid ow' r' s' → RFl s'.heap X0 f' fl → Q f' s') → wpAny (model prog w) A (exec e env) Q E s
def TrSs (c : Cx) (n : Nat) (sc : Scope) (es : List Stmt) (f : Rho → Option (Rho × Fl)) : Prop :=
  ∀ ⦃prog : Program⦄ ⦃w : World⦄ ⦃A : Around⦄ ⦃E : Value → Shared → Prop⦄ ⦃X0 : List Addr⦄ ⦃s0 : Shared⦄ ⦃env : Env⦄ ⦃gd : List (Addr × Obj)⦄ ⦃hid : List (Value × D)⦄ ⦃ow : List (Str × Addr)⦄ ⦃r r' : Rho⦄ ⦃fl : Fl⦄ ⦃s : Shared⦄ ⦃Q : Flow → Shared → Prop⦄,
    AOk n A → env.scope = sc → FnOk c env → St c X0 s0 env gd hid ow r s → f r = some (r', fl) →
    (∀ f' s' ow', St c X0 s0 env gd hid ow' r' s' → RFl s'.heap X0 f' fl → Q f' s') → wpAny (model prog w) A (execs es env) Q E s

section
variable {c : Cx} {n : Nat} {sc : Scope}

theorem LPz {X0 : List Addr} {s0 : Shared} {env : Env} {gd : List (Addr × Obj)} {hid : List (Value × D)} {ow : List (Str × Addr)} {r : Rho} {s s' : Shared} (S : St c X0 s0 env gd hid ow r s) : ∀ a vs, LP s'.heap (XX ow X0) a vs → LP s'.heap X0 a vs :=
  fun _ _ l => ⟨l.1, fun q => l.2 (List.mem_append_right _ q)⟩
theorem TrE.b {e : Expr} {f : Rho → Option D} (t : TrE c n sc e f) : TrB c n sc e f := fun _ _ _ _ _ _ _ _ _ _ _ _ _ _ hA hs S hf h =>
  t hA hs S hf fun v s' a x => h v s' a (R.mono (LPz S) x)
def flat? : D → Option D
  | .list _ => none
  | d => some d
theorem flat_of {d d' : D} (h : flat? d = some d') : d = d' ∧ Flat d := by
  cases d <;> simp [flat?, Flat] at h ⊢ <;> exact h
theorem TrB.flat {e : Expr} {f : Rho → Option D} (t : TrB c n sc e f) : TrE c n sc e (fun r => (f r).bind flat?) := fun {prog w A E X0 s0 env gd hid ow r s Q d} hA hs S hf h => by
  obtain ⟨d', hf', hf⟩ := bind_some hf
  obtain ⟨rfl, fl⟩ := flat_of hf
  exact t hA hs S hf' fun v s' a x => h v s' a (x.flat fl)

theorem tr_name (x : Str) (pos : Pos) (hd : (x == ("__debug__" : Str)) = false) (hn : (x == ("__classdict__" : Str)) = false) :
    TrE c n sc (.Name x pos) (fun r => match r.get x with | some (.sh d) => some d | _ => none) := fun {prog w A E X0 s0 env gd hid ow r s Q d} hA hs S hf h => by
  dsimp only at hf
  cases hx : r.get x with
  | none => rw [hx] at hf; cases hf
  | some en =>
    rw [hx] at hf
    cases en with
    | sh d' =>
      cases hf
      obtain ⟨v, l, o⟩ := S.vars x _ hx
      have hq := h v _ (After.refl c _) o
      rcases l with ⟨k, m, hm, q⟩ | ⟨k | k, a, ha, hc⟩
      · exact wpAny_Name (wpAny_loadName_local S.kf k hm q hq) hd
      · exact wpAny_Name (wpAny_loadName_cell S.kf k ha hc hq) hd
      · exact wpAny_Name (wpAny_loadName_free S.kf k ha hc hq hn) hd
    | own _ => cases hf
    | app _ => cases hf
    | dead => cases hf
theorem tr_nameB (x : Str) (pos : Pos) (hd : (x == ("__debug__" : Str)) = false) (hn : (x == ("__classdict__" : Str)) = false) :
    TrB c n sc (.Name x pos) (fun r => match r.get x with | some (.sh d) => some d | some (.own l) => some (.list l) | _ => none) := fun {prog w A E X0 s0 env gd hid ow r s Q d} hA hs S hf h => by
  dsimp only at hf
  cases hx : r.get x with
  | none => rw [hx] at hf; cases hf
  | some en =>
    rw [hx] at hf
    obtain ⟨v, l, o⟩ := S.vars x _ hx
    have key : R (LP s.heap X0) v d := by
      cases en with
      | sh d' => cases hf; exact R.mono (LPz S) o
      | own l' =>
        cases hf
        obtain ⟨a, vs, rfl, hm, hp, hr⟩ := o
        exact .list ⟨hp.isList, fun q => (S.owp _ hm).2.1 (S.xl _ q)⟩ (Rs.mono (LPz S) hr)
      | app _ => cases hf
      | dead => cases hf
    have hq := h v _ (After.refl c _) key
    rcases l with ⟨k, m, hm, q⟩ | ⟨k | k, a, ha, hc⟩
    · exact wpAny_Name (wpAny_loadName_local S.kf k hm q hq) hd
    · exact wpAny_Name (wpAny_loadName_cell S.kf k ha hc hq) hd
    · exact wpAny_Name (wpAny_loadName_free S.kf k ha hc hq hn) hd

/-- a value of the module's own -/
def vD : Value → Option D
  | .none => some .none
  | .bool b => some (.bool b)
  | .int i _ => some (.int i)
  | .str x _ => some (.str x)
  | .ref a => some (.adr a)
  | .builtin id => some (.bi id)
  | .type t => some (.ty t)
  | _ => none
theorem R_vD {P : Addr → Array Value → Prop} {v : Value} {d : D} (h : vD v = some d) : R P v d := by
  cases v <;> simp [vD] at h <;> subst h <;> constructor
theorem tr_glob (x : Str) (pos : Pos) (v : Value) (d : D) (hx : sc.names.lookup x = some .globalImplicit) (hv : c.mg x = some v) (hvd : vD v = some d) (hd : (x == ("__debug__" : Str)) = false) :
    TrE c n sc (.Name x pos) (fun _ => some d) := fun _ _ _ _ _ _ _ _ _ _ _ _ _ _ hA hs S hf h => by
  cases hf
  refine Calls.Name_function_global S.kf (by show Env.kindOf _ _ = _; unfold Env.kindOf; rw [hs]; exact hx) (Calls.loadGlobal_global (mg := c.mg) (by rw [S.eg]; exact S.glo.g) hv ?_) hd
  exact h v _ (After.refl c _) (R_vD hvd)
theorem tr_built (x : Str) (pos : Pos) (v : Value) (d : D) (hx : sc.names.lookup x = some .globalImplicit) (hg : c.mg x = none) (hv : c.mb x = some v) (hvd : vD v = some d) (hd : (x == ("__debug__" : Str)) = false) :
    TrE c n sc (.Name x pos) (fun _ => some d) := fun _ _ _ _ _ _ _ _ _ _ _ _ _ _ hA hs S hf h => by
  cases hf
  refine Calls.Name_function_global S.kf (by show Env.kindOf _ _ = _; unfold Env.kindOf; rw [hs]; exact hx) (Calls.loadGlobal_builtin (mg := c.mg) (mb := c.mb) (by rw [S.eg]; exact S.glo.g) hg (by rw [S.eb]; exact S.glo.b) hv ?_) hd
  exact h v _ (After.refl c _) (R_vD hvd)

theorem tr_int (i : Int) (k : Nat) (pos : Pos) : TrE c n sc (.Constant (.int i) k pos) (fun _ => some (.int i)) := fun _ _ _ _ _ _ _ _ _ _ _ _ _ _ hA hs S hf h => by
  cases hf; exact wpAny_Constant_int (h _ _ (After.tok c _ _) .int)
theorem tr_str (x : Str) (k : Nat) (pos : Pos) : TrE c n sc (.Constant (.str x) k pos) (fun _ => some (.str x)) := fun _ _ _ _ _ _ _ _ _ _ _ _ _ _ hA hs S hf h => by
  cases hf; exact Calls.Constant_str (h _ _ (After.tok c _ _) .str)
theorem tr_bool (b : Bool) (k : Nat) (pos : Pos) : TrE c n sc (.Constant (.bool b) k pos) (fun _ => some (.bool b)) := fun _ _ _ _ _ _ _ _ _ _ _ _ _ _ hA hs S hf h => by
  cases hf; exact Constant_bool (h _ _ (After.refl c _) .bool)
theorem tr_none (k : Nat) (pos : Pos) : TrE c n sc (.Constant .none k pos) (fun _ => some .none) := fun _ _ _ _ _ _ _ _ _ _ _ _ _ _ hA hs S hf h => by
  cases hf; exact Constant_none (h _ _ (After.refl c _) .none)
theorem trSs_no (e : List Stmt) : TrSs c n sc e (fun _ => none) := fun _ _ _ _ _ _ _ _ _ _ _ _ _ _ _ _ _ _ _ hf _ => by cases hf
end
end Mine

/-! La4 -/
noncomputable section SLa4
namespace Mine

def Act1 (c : Cx) (n : Nat) (m : Value → Sem Value) (o : D → Option D) : Prop :=
  ∀ ⦃prog : Program⦄ ⦃w : World⦄ ⦃A : Around⦄ ⦃E : Value → Shared → Prop⦄ ⦃s : Shared⦄ ⦃Q : Value → Shared → Prop⦄ ⦃a : Value⦄ ⦃da d : D⦄ ⦃X : List Addr⦄,
    AOk n A → Glo c s.heap → (∀ z ∈ c.Z, z ∈ X) → (∀ x ∈ X, live s.heap x) → R (LP s.heap X) a da → o da = some d →
    (∀ v s', After c s s' → R (LP s'.heap X) v d → Q v s') → wpAny (model prog w) A (m a) Q E s
def Act2 (c : Cx) (n : Nat) (m : Value → Value → Sem Value) (o : D → D → Option D) : Prop :=
  ∀ ⦃prog : Program⦄ ⦃w : World⦄ ⦃A : Around⦄ ⦃E : Value → Shared → Prop⦄ ⦃s : Shared⦄ ⦃Q : Value → Shared → Prop⦄ ⦃a b : Value⦄ ⦃da db d : D⦄ ⦃X : List Addr⦄,
    AOk n A → Glo c s.heap → (∀ z ∈ c.Z, z ∈ X) → (∀ x ∈ X, live s.heap x) → R (LP s.heap X) a da → R (LP s.heap X) b db → o da db = some d →
    (∀ v s', After c s s' → R (LP s'.heap X) v d → Q v s') → wpAny (model prog w) A (m a b) Q E s
def ActT (c : Cx) (n : Nat) (m : Value → Sem Bool) (o : D → Option Bool) : Prop :=
  ∀ ⦃prog : Program⦄ ⦃w : World⦄ ⦃A : Around⦄ ⦃E : Value → Shared → Prop⦄ ⦃s : Shared⦄ ⦃Q : Bool → Shared → Prop⦄ ⦃a : Value⦄ ⦃da : D⦄ ⦃b : Bool⦄ ⦃X : List Addr⦄,
    AOk n A → Glo c s.heap → (∀ z ∈ c.Z, z ∈ X) → (∀ x ∈ X, live s.heap x) → R (LP s.heap X) a da → o da = some b →
    (∀ s', After c s s' → Q b s') → wpAny (model prog w) A (m a) Q E s
/-- a call of a value with listed arguments -/
def ActL (c : Cx) (n : Nat) (m : List Value → Sem Value) (o : List D → Option D) : Prop :=
  ∀ ⦃prog : Program⦄ ⦃w : World⦄ ⦃A : Around⦄ ⦃E : Value → Shared → Prop⦄ ⦃s : Shared⦄ ⦃Q : Value → Shared → Prop⦄ ⦃vs : List Value⦄ ⦃ds : List D⦄ ⦃d : D⦄ ⦃X : List Addr⦄,
    AOk n A → Glo c s.heap → (∀ z ∈ c.Z, z ∈ X) → (∀ x ∈ X, live s.heap x) → Rs (LP s.heap X) vs ds → o ds = some d →
    (∀ v s', After c s s' → R (LP s'.heap X) v d → Q v s') → wpAny (model prog w) A (m vs) Q E s

theorem lim_ex : ∃ n : Nat, n = 1000000 := ⟨_, rfl⟩
/-- a bound that nothing reckons with -/
def lim : Nat := Classical.choose lim_ex
theorem lim_eq : lim = 1000000 := Classical.choose_spec lim_ex
theorem big_ex : ∃ n : Int, n = 2 ^ 60 := ⟨_, rfl⟩
def big : Int := Classical.choose big_ex
theorem big_eq : big = 2 ^ 60 := Classical.choose_spec big_ex
theorem lim_le : lim ≤ sizeLine := by rw [sizeLine_eq, lim_eq]; decide

/-! ### the operations as functions of plain data -/
def oAdd : D → D → Option D
  | .int a, .int b => some (.int (a + b))
  | .str x, .str y => if x.length + y.length ≤ lim then some (.str (x ++ y)) else none
  | .list l, .list m => if l.length + m.length ≤ lim then some (.list (l ++ m)) else none
  | _, _ => none
def oSub : D → D → Option D
  | .int a, .int b => some (.int (a - b))
  | _, _ => none
def oMul : D → D → Option D
  | .int a, .int b => if -big < a ∧ a < big then some (.int (a * b)) else none
  | _, _ => none
def oMod : D → D → Option D
  | .int a, .int b => if b = 0 then none else some (.int (a.fmod b))
  | _, _ => none
def oDiv : D → D → Option D
  | .int a, .int b => if 0 < b ∧ b < 1000000 then some (.int (a.fdiv b)) else none
  | _, _ => none
def oLt : D → D → Option D
  | .int a, .int b => some (.bool (decide (a < b)))
  | _, _ => none
def oGt : D → D → Option D
  | .int a, .int b => some (.bool (decide (b < a)))
  | _, _ => none
def oGe : D → D → Option D
  | .int a, .int b => some (.bool (decide (b ≤ a)))
  | _, _ => none
def oNeg : D → Option D
  | .int a => some (.int (-a))
  | _ => none
mutual
def D.py : D → Option PyData
  | .none => some PyData.none
  | .bool b => some (PyData.bool b)
  | .int i => some (PyData.int i)
  | .str x => some (PyData.str x)
  | .list l => (D.pys l).map PyData.list
  | _ => Option.none
def D.pys : List D → Option (List PyData)
  | [] => some []
  | d :: r => (D.py d).bind fun p => (D.pys r).map (p :: ·)
end
def oEq (a b : D) : Option D := match a, b with
  | .int x, .int y => some (.bool (x == y))
  | .str x, .str y => some (.bool (x == y))
  | a, b => a.py.bind fun p => b.py.bind fun q => if (SeqAt.shaped p && SeqAt.shaped q) = true then some (.bool (PyData.eqv p q)) else none
def oNe (a b : D) : Option D := match a, b with
  | .int x, .int y => some (.bool (x != y))
  | .str x, .str y => some (.bool (x != y))
  | a, b => a.py.bind fun p => b.py.bind fun q => if (SeqAt.shaped p && SeqAt.shaped q) = true then some (.bool (!PyData.eqv p q)) else none
def oTruth : D → Option Bool
  | .none => some false
  | .bool b => some b
  | .int i => some (i != 0)
  | .str x => if x.length ≤ lim then some ((x.length : Int) != 0) else none
  | .list l => if l.length ≤ lim then some (!l.isEmpty) else none
  | _ => none

mutual
theorem R.reads {h : Heap} {X : List Addr} : ∀ {v : Value} {d : D} {p : PyData}, R (LP h X) v d → d.py = some p → ∃ as, Reads h v p as
  | _, _, _, .none, e => by cases e; exact ⟨_, .none⟩
  | _, _, _, .bool, e => by cases e; exact ⟨_, .bool _⟩
  | _, _, _, .int, e => by cases e; exact ⟨_, .int _ _⟩
  | _, _, _, .str, e => by cases e; exact ⟨_, .str _ _⟩
  | _, _, _, .adr, e => by cases e
  | _, _, _, .bi, e => by cases e
  | _, _, _, .ty, e => by cases e
  | _, _, _, .list (ds := ds) l r, e => by
    unfold D.py at e
    cases hp : D.pys ds with
    | none => rw [hp] at e; cases e
    | some ps =>
      rw [hp] at e
      cases e
      obtain ⟨as, q⟩ := Rs.reads r hp
      obtain ⟨⟨o, ho, hc, n, hd⟩, _⟩ := l
      exact ⟨_, .list ho hc hd q⟩
theorem Rs.reads {h : Heap} {X : List Addr} : ∀ {vs : List Value} {ds : List D} {ps : List PyData}, Rs (LP h X) vs ds → D.pys ds = some ps → ∃ as, ReadsAll h vs ps as
  | _, _, _, .nil, e => by cases e; exact ⟨_, .nil⟩
  | _, _, _, .cons (d := d) (ds := ds) r q, e => by
    unfold D.pys at e
    obtain ⟨p, h1, h2⟩ := bind_some e
    cases hp : D.pys ds with
    | none => rw [hp] at h2; cases h2
    | some ps =>
      rw [hp] at h2
      cases h2
      obtain ⟨as, x⟩ := R.reads r h1
      obtain ⟨bs, y⟩ := Rs.reads q hp
      exact ⟨_, .cons x y⟩
end

section
variable {c : Cx} {n : Nat}

theorem After.new {s : Shared} {vs : Array Value} {X : List Addr} {ds : List D} (hX : ∀ x ∈ X, live s.heap x) (hr : Rs (LP s.heap X) vs.toList ds) (hz : ∀ z ∈ c.Z, z ∈ X) :
    R (LP (s.heap.push { cls := .type "list", data := .seq vs }) X) (.ref s.heap.objs.size) (.list ds) :=
  .list ⟨⟨_, Heap.get?_push_size _ rfl, rfl, 0, rfl⟩, fun q => not_live_size _ (hX _ q)⟩
    (Rs.mono (LP.ext (Ext.push c _ _) hz fun _ q => .inl q) hr)

theorem oAdd_inv {a b d : D} (h : oAdd a b = some d) : (∃ i j, a = .int i ∧ b = .int j ∧ d = .int (i + j)) ∨ (∃ x y, a = .str x ∧ b = .str y ∧ x.length + y.length ≤ lim ∧ d = .str (x ++ y)) ∨ (∃ l m, a = .list l ∧ b = .list m ∧ l.length + m.length ≤ lim ∧ d = .list (l ++ m)) := by
  unfold oAdd at h
  split at h
  · cases h; exact .inl ⟨_, _, rfl, rfl, rfl⟩
  · split at h
    · rename_i hl; cases h; exact .inr (.inl ⟨_, _, rfl, rfl, hl, rfl⟩)
    · cases h
  · split at h
    · rename_i hl; cases h; exact .inr (.inr ⟨_, _, rfl, rfl, hl, rfl⟩)
    · cases h
  · cases h
theorem act_add : Act2 c n (binaryOp .Add) oAdd := fun {prog w A E s Q a b da db d X} hA G hz hX ra rb ho h => by
  rcases oAdd_inv ho with ⟨i, j, rfl, rfl, rfl⟩ | ⟨x, y, rfl, rfl, hl, rfl⟩ | ⟨l, m, rfl, rfl, hl, rfl⟩
  · obtain ⟨t, rfl⟩ := ra.int_inv
    obtain ⟨u, rfl⟩ := rb.int_inv
    exact add_int (h _ _ (After.tok c _ _) .int)
  · obtain ⟨t, rfl⟩ := ra.str_inv
    obtain ⟨u, rfl⟩ := rb.str_inv
    exact add_str (fun t' tk => h _ _ (After.tok c _ _) .str) (Nat.le_trans hl lim_le)
  · obtain ⟨l1, vs1, rfl, p1, r1⟩ := ra.list_inv
    obtain ⟨l2, vs2, rfl, p2, r2⟩ := rb.list_inv
    obtain ⟨⟨⟨cls, dd, data, sl⟩, ho1, hc, n, hd⟩, hx1⟩ := id p1
    obtain ⟨⟨⟨cls2, dd2, data2, sl2⟩, ho2, hc2, n2, hd2⟩, hx2⟩ := id p2
    simp only at hc hd hc2 hd2
    subst hc hd hc2 hd2
    have e1 := Rs.length r1
    have e2 := Rs.length r2
    rw [← e1, ← e2] at hl
    refine concat_meets ⟨_, ho1, rfl⟩ ⟨_, ho2, rfl⟩ noFill_list_add seq_list_add PySem.F.slot_list_add PySem.F.entry_list_add (PySem.F.args_list_add_2 _ _)
      (list_addW l1 l2 vs1 vs2 n n2 dd dd2 sl sl2 (Nat.le_trans (by simpa using hl) lim_le)) ⟨ho1, ho2, ?_⟩
    exact h _ _ (After.push c s _ _) (After.new hX (by rw [Array.toList_append]; exact Rs.append r1 r2) hz)
theorem act_iadd : Act2 c n (inplaceOp .Add) (fun a b => match a with | .list _ => none | _ => oAdd a b) := fun {prog w A E s Q a b da db d X} hA G hz hX ra rb ho h => by
  have ho' : oAdd da db = some d ∧ ∀ l, da ≠ .list l := by
    dsimp only at ho
    split at ho
    · cases ho
    · rename_i hn; exact ⟨ho, hn⟩
  rcases oAdd_inv ho'.1 with ⟨i, j, rfl, rfl, rfl⟩ | ⟨x, y, rfl, rfl, hl, rfl⟩ | ⟨l, m, rfl, rfl, hl, rfl⟩
  · obtain ⟨t, rfl⟩ := ra.int_inv
    obtain ⟨u, rfl⟩ := rb.int_inv
    exact wpAny_iadd_int (h _ _ (After.tok c _ _) .int)
  · obtain ⟨t, rfl⟩ := ra.str_inv
    obtain ⟨u, rfl⟩ := rb.str_inv
    exact iadd_str (fun t' tk => h _ _ (After.tok c _ _) .str) (Nat.le_trans hl lim_le)
  · exact absurd rfl (ho'.2 l)
def ii (f : Int → Int → Option D) : D → D → Option D
  | .int a, .int b => f a b
  | _, _ => none
theorem ii_inv {f : Int → Int → Option D} {a b d : D} (h : ii f a b = some d) : ∃ i j, a = .int i ∧ b = .int j ∧ f i j = some d := by
  unfold ii at h
  split at h
  · exact ⟨_, _, rfl, rfl, h⟩
  · cases h
theorem act_ii {m : Value → Value → Sem Value} {f : Int → Int → Option D}
    (key : ∀ {prog : Program} {w : World} {A : Around} {E : Value → Shared → Prop} {s : Shared} {Q : Value → Shared → Prop} {i j : Int} {t u : Tok} {d : D} {X : List Addr}, f i j = some d → (∀ v s', After c s s' → R (LP s'.heap X) v d → Q v s') → wpAny (model prog w) A (m (.int i t) (.int j u)) Q E s) :
    Act2 c n m (ii f) := fun {prog w A E s Q a b da db d X} hA G hz hX ra rb ho h => by
  obtain ⟨i, j, rfl, rfl, e⟩ := ii_inv ho
  obtain ⟨t, rfl⟩ := ra.int_inv
  obtain ⟨u, rfl⟩ := rb.int_inv
  exact key e h
theorem act_sub : Act2 c n (binaryOp .Sub) oSub := act_ii (f := fun a b => some (.int (a - b))) fun ho h => by
  cases ho; exact PyProof.Rows.sub_int (h _ _ (After.tok c _ _) .int)
theorem bits64 {a : Int} (h : -big < a ∧ a < big) : Builtin.Int.intBits a ≤ 64 := intBits_le_64 (by have := h.1; have := big_eq; omega) (by have := h.2; have := big_eq; omega)
theorem act_mul : Act2 c n (binaryOp .Mult) oMul := act_ii (f := fun a b => if -big < a ∧ a < big then some (.int (a * b)) else none) fun ho h => by
  split at ho
  · rename_i hl
    cases ho
    exact PyProof.Rows.mul_int (h _ _ (After.tok c _ _) .int) (IntMulOk.of_left (bits64 hl))
  · cases ho
theorem act_mod : Act2 c n (binaryOp .Mod) oMod := act_ii (f := fun a b => if b = 0 then none else some (.int (a.fmod b))) fun ho h => by
  split at ho
  · cases ho
  · rename_i hl
    cases ho
    exact PyProof.Rows.mod_int' hl (h _ _ (After.tok c _ _) .int)
theorem act_div : Act2 c n (binaryOp .FloorDiv) oDiv := act_ii (f := fun a b => if 0 < b ∧ b < 1000000 then some (.int (a.fdiv b)) else none) fun ho h => by
  split at ho
  · rename_i hl
    cases ho
    exact PyProof.Rows.floordiv_int (by omega) (h _ _ (After.tok c _ _) .int) (.inl (PyProof.noPylong_small (by omega)))
  · cases ho
theorem act_lt : Act2 c n (compareOp .Lt) oLt := act_ii (f := fun a b => some (.bool (decide (a < b)))) fun ho h => by
  cases ho; exact PyProof.Rows.lt_int (h _ _ (After.refl c _) .bool)
theorem act_gt : Act2 c n (compareOp .Gt) oGt := act_ii (f := fun a b => some (.bool (decide (b < a)))) fun ho h => by
  cases ho; exact PyProof.Rows.gt_int (h _ _ (After.refl c _) .bool)
theorem act_ge : Act2 c n (compareOp .GtE) oGe := act_ii (f := fun a b => some (.bool (decide (b ≤ a)))) fun ho h => by
  cases ho; exact PyProof.Rows.ge_int (h _ _ (After.refl c _) .bool)
theorem act_neg : Act1 c n (unaryOp .USub) oNeg := fun {prog w A E s Q a da d X} hA G hz hX ra ho h => by
  cases ra <;> simp only [oNeg, reduceCtorEq] at ho
  case int => cases ho; exact PyProof.Rows.neg_int (h _ _ (After.tok c _ _) .int)

theorem cmp_deep (a b : D) : (∃ i j, a = .int i ∧ b = .int j) ∨ (∃ x y, a = .str x ∧ b = .str y) ∨
    (oEq a b = (a.py.bind fun p => b.py.bind fun q => if (SeqAt.shaped p && SeqAt.shaped q) = true then some (.bool (PyData.eqv p q)) else none) ∧
     oNe a b = (a.py.bind fun p => b.py.bind fun q => if (SeqAt.shaped p && SeqAt.shaped q) = true then some (.bool (!PyData.eqv p q)) else none)) := by
  cases a with
  | int i => cases b with
    | int j => exact .inl ⟨_, _, rfl, rfl⟩
    | _ => exact .inr (.inr ⟨rfl, rfl⟩)
  | str x => cases b with
    | str y => exact .inr (.inl ⟨_, _, rfl, rfl⟩)
    | _ => exact .inr (.inr ⟨rfl, rfl⟩)
  | _ => exact .inr (.inr ⟨rfl, rfl⟩)
theorem deep_inv {h : Heap} {X : List Addr} {a b : Value} {da db d : D} {f : PyData → PyData → Bool} (ra : R (LP h X) a da) (rb : R (LP h X) b db)
    (ho : (da.py.bind fun p => db.py.bind fun q => if (SeqAt.shaped p && SeqAt.shaped q) = true then some (D.bool (f p q)) else none) = some d) :
    ∃ p q as bs, Reads h a p as ∧ Reads h b q bs ∧ SeqAt.shaped p = true ∧ SeqAt.shaped q = true ∧ d = .bool (f p q) := by
  obtain ⟨p, h1, ho⟩ := bind_some ho
  obtain ⟨q, h2, ho⟩ := bind_some ho
  split at ho
  · rename_i hs
    rw [Bool.and_eq_true] at hs
    cases ho
    obtain ⟨as, r1⟩ := R.reads ra h1
    obtain ⟨bs, r2⟩ := R.reads rb h2
    exact ⟨p, q, as, bs, r1, r2, hs.1, hs.2, rfl⟩
  · cases ho
theorem act_eq : Act2 c n (compareOp .Eq) oEq := fun {prog w A E s Q a b da db d X} hA G hz hX ra rb ho h => by
  rcases cmp_deep da db with ⟨i, j, rfl, rfl⟩ | ⟨x, y, rfl, rfl⟩ | ⟨e, _⟩
  · obtain ⟨t, rfl⟩ := ra.int_inv
    obtain ⟨u, rfl⟩ := rb.int_inv
    cases ho
    exact PyProof.Rows.eq_int (h _ _ (After.refl c _) .bool)
  · obtain ⟨t, rfl⟩ := ra.str_inv
    obtain ⟨u, rfl⟩ := rb.str_inv
    cases ho
    exact PyProof.Rows.eq_str (h _ _ (After.refl c _) .bool)
  · rw [e] at ho
    obtain ⟨p, q, as, bs, r1, r2, s1, s2, rfl⟩ := deep_inv ra rb ho
    exact eq_dataH r1 r2 s1 s2 (by have := hA.un; show A.units + 64 < 9900; omega) (h _ _ (After.refl c _) .bool)
theorem act_ne : Act2 c n (compareOp .NotEq) oNe := fun {prog w A E s Q a b da db d X} hA G hz hX ra rb ho h => by
  rcases cmp_deep da db with ⟨i, j, rfl, rfl⟩ | ⟨x, y, rfl, rfl⟩ | ⟨_, e⟩
  · obtain ⟨t, rfl⟩ := ra.int_inv
    obtain ⟨u, rfl⟩ := rb.int_inv
    cases ho
    exact PyProof.Rows.ne_int (h _ _ (After.refl c _) .bool)
  · obtain ⟨t, rfl⟩ := ra.str_inv
    obtain ⟨u, rfl⟩ := rb.str_inv
    cases ho
    exact PyProof.Rows.ne_str (h _ _ (After.refl c _) .bool)
  · rw [e] at ho
    obtain ⟨p, q, as, bs, r1, r2, s1, s2, rfl⟩ := deep_inv (f := fun p q => !PyData.eqv p q) ra rb ho
    exact ne_dataH r1 r2 s1 s2 (by have := hA.un; show A.units + 64 < 9900; omega) (h _ _ (After.refl c _) .bool)

theorem act_truth : ActT c n truthy oTruth := fun {prog w A E s Q a da b X} hA G hz hX ra ho h => by
  cases ra <;> simp only [oTruth, reduceCtorEq] at ho
  case none => cases ho; exact truthy_none (h _ (After.refl c _))
  case bool => cases ho; exact wpAny_truthy_bool (h _ (After.refl c _))
  case int => cases ho; exact PyProof.Rows.truthy_int (h _ (After.refl c _))
  case str x t =>
    split at ho
    · rename_i hl
      cases ho
      exact PySem.P.truthy_str (by have : lim = 1000000 := lim_eq; omega) (h _ (After.tok c _ _))
    · cases ho
  case list l vs ds p r =>
    split at ho
    · rename_i hl
      cases ho
      have e := Rs.length r
      have e2 : vs.size = ds.length := by rw [← e]; simp
      have e3 : ds.isEmpty = vs.isEmpty := by
        rw [Bool.eq_iff_iff, List.isEmpty_iff_length_eq_zero, Array.isEmpty_iff_size_eq_zero, e2]
      rw [e3] at h
      exact wpAny_truthy_list p.1 (by have : lim = 1000000 := lim_eq; omega) (h _ (After.tok c _ _))
    · cases ho
end
end Mine
end SLa4

/-! La5 -/
noncomputable section SLa5
namespace Mine
section
variable {c : Cx} {n : Nat} {sc : Scope} {b : Bool}

theorem tr_bin {l rr : Expr} {op : Operator} {pos : Pos} {f g : Rho → Option D} {o : D → D → Option D} (tl : TrM b c n sc l f) (tr : TrM b c n sc rr g) (ho : Act2 c n (binaryOp op) o) :
    TrM b c n sc (.BinOp l op rr pos) (fun r => (f r).bind fun x => (g r).bind fun y => o x y) := fun _ _ _ _ _ _ _ _ _ _ _ _ _ _ hA hs S hf h => by
  obtain ⟨da, h1, hf⟩ := bind_some hf
  obtain ⟨db, h2, hf⟩ := bind_some hf
  refine wpAny_BinOp (tl hA hs S h1 fun a s1 a1 x1 => tr hA hs (S.after a1) h2 fun b s2 a2 x2 => ?_)
  have S2 := (S.after a1).after a2
  exact ho hA S2.glo S.zM S2.Ml (S.mvM a2 x1) x2 hf fun v s3 a3 x3 => h v s3 ((a1.trans a2).trans a3) x3
theorem tr_cmp {l rr : Expr} {op : CmpOp} {pos : Pos} {f g : Rho → Option D} {o : D → D → Option D} (tl : TrM b c n sc l f) (tr : TrM b c n sc rr g) (ho : Act2 c n (compareOp op) o) (hm : behindInMarks op rr = false := by rfl) :
    TrM b c n sc (.Compare l [op] [rr] pos) (fun r => (f r).bind fun x => (g r).bind fun y => o x y) := fun _ _ _ _ _ _ _ _ _ _ _ _ _ _ hA hs S hf h => by
  obtain ⟨da, h1, hf⟩ := bind_some hf
  obtain ⟨db, h2, hf⟩ := bind_some hf
  refine wpAny_Compare1 (tl hA hs S h1 fun a s1 a1 x1 => tr hA hs (S.after a1) h2 fun b s2 a2 x2 => ?_) hm
  have S2 := (S.after a1).after a2
  exact ho hA S2.glo S.zM S2.Ml (S.mvM a2 x1) x2 hf fun v s3 a3 x3 => h v s3 ((a1.trans a2).trans a3) x3
def asB : D → Option Bool
  | .bool b => some b
  | _ => none
theorem trT_cmp {l rr : Expr} {op : CmpOp} {pos : Pos} {f g : Rho → Option D} {o : D → D → Option D} (tl : TrM b c n sc l f) (tr : TrM b c n sc rr g) (ho : Act2 c n (compareOp op) o) (hm : behindInMarks op rr = false := by rfl) :
    TrT c n sc (.Compare l [op] [rr] pos) (fun r => (f r).bind fun x => (g r).bind fun y => (o x y).bind asB) := fun _ _ _ _ _ _ _ _ _ _ _ _ _ _ hA hs S hf h => by
  obtain ⟨da, h1, hf⟩ := bind_some hf
  obtain ⟨db, h2, hf⟩ := bind_some hf
  obtain ⟨d, h3, hf⟩ := bind_some hf
  refine wpAny_isTrue_Compare1 (tl hA hs S h1 fun a s1 a1 x1 => tr hA hs (S.after a1) h2 fun b s2 a2 x2 => ?_) hm
  have S2 := (S.after a1).after a2
  refine ho hA S2.glo S.zM S2.Ml (S.mvM a2 x1) x2 h3 fun v s3 a3 x3 => ?_
  cases x3 <;> simp [asB] at hf
  subst hf
  exact wpAny_truthy_bool (h s3 ((a1.trans a2).trans a3))
theorem tr_un {e : Expr} {op : UnaryOp} {pos : Pos} {f : Rho → Option D} {o : D → Option D} (t : TrM b c n sc e f) (ho : Act1 c n (unaryOp op) o) :
    TrM b c n sc (.UnaryOp op e pos) (fun r => (f r).bind o) := fun _ _ _ _ _ _ _ _ _ _ _ _ _ _ hA hs S hf h => by
  obtain ⟨da, h1, hf⟩ := bind_some hf
  refine UnaryOp_ (t hA hs S h1 fun a s1 a1 x1 => ?_)
  have S1 := S.after a1
  exact ho hA S1.glo S.zM S1.Ml x1 hf fun v s3 a3 x3 => h v s3 (a1.trans a3) x3
theorem trT_of {e : Expr} {f : Rho → Option D} (t : TrM b c n sc e f) (he : ∀ env whole, isTrue e env whole = (do let v ← whole; standAt e.pos; holding [v] (truthy v)) := by intro _ _; rfl) :
    TrT c n sc e (fun r => (f r).bind oTruth) := fun _ _ _ _ _ _ _ _ _ _ _ _ _ _ hA hs S hf h => by
  obtain ⟨da, h1, hf⟩ := bind_some hf
  refine isTrue_plain (t hA hs S h1 fun a s1 a1 x1 => ?_) (he _ _)
  have S1 := S.after a1
  exact act_truth hA S1.glo S.zM S1.Ml x1 hf fun s2 a2 => h _ (a1.trans a2)
theorem trT_not {e : Expr} {pos : Pos} {f : Rho → Option Bool} (t : TrT c n sc e f) : TrT c n sc (.UnaryOp .Not e pos) (fun r => (f r).map (!·)) := fun {prog w A E X0 s0 env gd hid ow r s Q d} hA hs S hf h => by
  dsimp only at hf
  cases h1 : f r with
  | none => rw [h1] at hf; cases hf
  | some v =>
    rw [h1] at hf
    cases hf
    exact isTrue_not (t hA hs S h1 fun s1 a1 => h s1 a1)
theorem trT_and0 {pos : Pos} : TrT c n sc (.BoolOp .And [] pos) (fun _ => some true) := fun _ _ _ _ _ _ _ _ _ _ _ _ _ _ hA hs S hf h => by
  cases hf; exact isTrue_and_nil (h _ (After.refl c _))
theorem trT_or0 {pos : Pos} : TrT c n sc (.BoolOp .Or [] pos) (fun _ => some false) := fun _ _ _ _ _ _ _ _ _ _ _ _ _ _ hA hs S hf h => by
  cases hf; exact isTrue_or_nil (h _ (After.refl c _))
theorem trT_and {x : Expr} {rest : List Expr} {pos : Pos} {f g : Rho → Option Bool} (t : TrT c n sc x f) (u : TrT c n sc (.BoolOp .And rest pos) g) :
    TrT c n sc (.BoolOp .And (x :: rest) pos) (fun r => (f r).bind fun v => if v then g r else some false) := fun _ _ _ _ _ _ _ _ _ _ _ _ _ _ hA hs S hf h => by
  obtain ⟨v, h1, hf⟩ := bind_some hf
  refine isTrue_and (t hA hs S h1 fun s1 a1 => ?_)
  cases v with
  | true => exact u hA hs (S.after a1) hf fun s2 a2 => h s2 (a1.trans a2)
  | false => cases hf; exact h s1 a1
theorem trT_or {x : Expr} {rest : List Expr} {pos : Pos} {f g : Rho → Option Bool} (t : TrT c n sc x f) (u : TrT c n sc (.BoolOp .Or rest pos) g) :
    TrT c n sc (.BoolOp .Or (x :: rest) pos) (fun r => (f r).bind fun v => if v then some true else g r) := fun _ _ _ _ _ _ _ _ _ _ _ _ _ _ hA hs S hf h => by
  obtain ⟨v, h1, hf⟩ := bind_some hf
  refine isTrue_or (t hA hs S h1 fun s1 a1 => ?_)
  cases v with
  | false => exact u hA hs (S.after a1) hf fun s2 a2 => h s2 (a1.trans a2)
  | true => cases hf; exact h s1 a1
theorem tr_bool1 {op : BoolOp} {e : Expr} {pos : Pos} {f : Rho → Option D} (t : TrM b c n sc e f) : TrM b c n sc (.BoolOp op [e] pos) f := fun _ _ _ _ _ _ _ _ _ _ _ _ _ _ hA hs S hf h => BoolOp_one (t hA hs S hf h)
theorem tr_and {e1 e2 : Expr} {rest : List Expr} {pos : Pos} {f g : Rho → Option D} (t : TrM b c n sc e1 f) (u : TrM b c n sc (.BoolOp .And (e2 :: rest) pos) g) :
    TrM b c n sc (.BoolOp .And (e1 :: e2 :: rest) pos) (fun r => (f r).bind fun d => (oTruth d).bind fun t => if t then g r else some d) := fun _ _ _ _ _ _ _ _ _ _ _ _ _ _ hA hs S hf h => by
  obtain ⟨da, h1, hf⟩ := bind_some hf
  obtain ⟨tv, h2, hf⟩ := bind_some hf
  refine BoolOp_and (t hA hs S h1 fun a s1 a1 x1 => ?_)
  have S1 := S.after a1
  refine act_truth hA S1.glo S.zM S1.Ml x1 h2 fun s2 a2 => ?_
  cases tv with
  | true => exact u hA hs (S1.after a2) hf fun v s3 a3 => h v s3 ((a1.trans a2).trans a3)
  | false => cases hf; exact h _ _ (a1.trans a2) (S.mvM a2 x1)
theorem tr_or {e1 e2 : Expr} {rest : List Expr} {pos : Pos} {f g : Rho → Option D} (t : TrM b c n sc e1 f) (u : TrM b c n sc (.BoolOp .Or (e2 :: rest) pos) g) :
    TrM b c n sc (.BoolOp .Or (e1 :: e2 :: rest) pos) (fun r => (f r).bind fun d => (oTruth d).bind fun t => if t then some d else g r) := fun _ _ _ _ _ _ _ _ _ _ _ _ _ _ hA hs S hf h => by
  obtain ⟨da, h1, hf⟩ := bind_some hf
  obtain ⟨tv, h2, hf⟩ := bind_some hf
  refine BoolOp_or (t hA hs S h1 fun a s1 a1 x1 => ?_)
  have S1 := S.after a1
  refine act_truth hA S1.glo S.zM S1.Ml x1 h2 fun s2 a2 => ?_
  cases tv with
  | false => exact u hA hs (S1.after a2) hf fun v s3 a3 => h v s3 ((a1.trans a2).trans a3)
  | true => cases hf; exact h _ _ (a1.trans a2) (S.mvM a2 x1)
theorem tr_if {test body orelse : Expr} {pos : Pos} {f : Rho → Option Bool} {g k : Rho → Option D} (t : TrT c n sc test f) (u : TrM b c n sc body g) (v : TrM b c n sc orelse k) :
    TrM b c n sc (.IfExp test body orelse pos) (fun r => (f r).bind fun t => if t then g r else k r) := fun _ _ _ _ _ _ _ _ _ _ _ _ _ _ hA hs S hf h => by
  obtain ⟨tv, h1, hf⟩ := bind_some hf
  refine IfExp_ (t hA hs S h1 fun s1 a1 => ?_)
  cases tv with
  | true => exact u hA hs (S.after a1) hf fun v s3 a3 => h v s3 (a1.trans a3)
  | false => exact v hA hs (S.after a1) hf fun v s3 a3 => h v s3 (a1.trans a3)
/-! ### several, in order -/
theorem trEs_nil : TrEs b c n sc [] (fun _ => some []) := fun _ _ _ _ _ _ _ _ _ _ _ _ _ _ _ hA hs S hf h => by
  cases hf; exact spliced_none (h _ _ (After.refl c _) .nil)
theorem trEs_cons {e : Expr} {es : List Expr} {f : Rho → Option D} {g : Rho → Option (List D)} (t : TrM b c n sc e f) (u : TrEs b c n sc es g) (he : ∀ env, starEach (e :: es) env = (false, eval e env) :: starEach es env := by intro _; rfl) :
    TrEs b c n sc (e :: es) (fun r => (f r).bind fun d => (g r).bind fun l => some (d :: l)) := fun _ _ _ _ _ _ _ _ _ _ _ _ _ _ _ hA hs S hf h => by
  obtain ⟨d, h1, hf⟩ := bind_some hf
  obtain ⟨l, h2, hf⟩ := bind_some hf
  cases hf
  exact spliced_more (t hA hs S h1 fun v s1 a1 x1 => u hA hs (S.after a1) h2 fun vs s2 a2 x2 => h _ _ (a1.trans a2) (.cons (S.mvM a2 x1) x2)) (he _)

/-- no star among the arguments -/
def Plain (args : List Expr) : Prop := ∀ env pos, (backTo pos (starEach args env)).any (·.1) = false ∧
  ((args = [] ∧ starEach args env = []) ∨ ∃ e rest l, starEach args env = (false, eval e env) :: l ∧ args = e :: rest)
theorem plain_nil : Plain [] := fun _ _ => ⟨rfl, .inl ⟨rfl, rfl⟩⟩
theorem plain_cons {e : Expr} {es : List Expr} (p : Plain es) (he : ∀ env, starEach (e :: es) env = (false, eval e env) :: starEach es env := by intro _; rfl) : Plain (e :: es) := fun env pos => by
  refine ⟨?_, .inr ⟨e, es, _, he env, rfl⟩⟩
  rw [he env]
  exact (p env pos).1
theorem evalArgs_pl {M : Model} {A : Around} {E : Value → Shared → Prop} {s : Shared} {env : Env} {f : Value} {pos : Pos} {args : List Expr} {Q : Args → Shared → Prop} (p : Plain args)
    (h : wpAny M A (spliced (backTo pos (starEach args env))) (fun vs s' => Q ⟨vs, []⟩ s') E s) : wpAny M A (evalArgs f true (backTo pos (starEach args env)) []) Q E s := by
  rcases (p env pos).2 with ⟨h1, h2⟩ | ⟨e, rest, l, h1, h2⟩
  · rw [h2] at h ⊢
    unfold evalArgs
    show wpAny M A (spliced [] >>= _) Q E s
    refine wpAny_bind (wpAny_mono h (fun vs s' h' => ?_) fun _ _ x => x)
    refine wpAny_holding ?_
    exact wpAny_bind (wpAny_pure (wpAny_bind (wpAny_pure (wpAny_pure h'))))
  · rw [h1] at h ⊢
    exact Calls.evalArgs_plain h

/-- a built-in function called by its name -/
theorem tr_callB {x : Str} {p pos : Pos} {args : List Expr} {id : String} {f : Rho → Option (List D)} {o : List D → Option D} (tn : TrE c n sc (.Name x p) (fun _ => some (.bi id))) (ta : TrEs b c n sc args f)
    (ho : ActL c n (fun vs => call (.builtin id) vs) o) (pl : Plain args) : TrM b c n sc (.Call (.Name x p) args [] pos) (fun r => (f r).bind o) := fun _ _ _ _ _ _ _ _ _ _ _ _ _ _ hA hs S hf h => by
  obtain ⟨ds, h1, hf⟩ := bind_some hf
  refine wpAny_Call_NameR (tn hA hs S rfl fun v s1 a1 x1 => ?_)
  cases x1
  refine Calls.callWith_builtin (pl _ _).1 (evalArgs_pl pl (ta hA hs (S.after a1) h1 fun vs s2 a2 x2 => ?_))
  have S2 := (S.after a1).after a2
  exact ho hA S2.glo S.zM S2.Ml x2 hf fun v s3 a3 x3 => h v s3 ((a1.trans a2).trans a3) x3
/-- a type called by its name -/
theorem tr_callT {x : Str} {p pos : Pos} {args : List Expr} {id : String} {f : Rho → Option (List D)} {o : List D → Option D} (tn : TrE c n sc (.Name x p) (fun _ => some (.ty id))) (ta : TrEs b c n sc args f)
    (ho : ActL c n (fun vs => call (.type id) vs) o) (pl : Plain args) : TrM b c n sc (.Call (.Name x p) args [] pos) (fun r => (f r).bind o) := fun _ _ _ _ _ _ _ _ _ _ _ _ _ _ hA hs S hf h => by
  obtain ⟨ds, h1, hf⟩ := bind_some hf
  refine wpAny_Call_NameR (tn hA hs S rfl fun v s1 a1 x1 => ?_)
  cases x1
  refine PySem.callWith_type (pl _ _).1 (evalArgs_pl pl (ta hA hs (S.after a1) h1 fun vs s2 a2 x2 => ?_))
  have S2 := (S.after a1).after a2
  exact ho hA S2.glo S.zM S2.Ml x2 hf fun v s3 a3 x3 => h v s3 ((a1.trans a2).trans a3) x3
/-- a def of the module's called by its name -/
theorem tr_callF {x : Str} {p pos : Pos} {args : List Expr} {fa : Addr} {ob : Obj} {fd : FuncData} {f : Rho → Option (List D)} {o : List D → Option D} (tn : TrE c n sc (.Name x p) (fun _ => some (.adr fa))) (ta : TrEs b c n sc args f)
    (hob : c.FT fa = some ob) (hfd : ob.data = .func fd) (ho : ActL c n (fun vs => call (.ref fa) vs) o) (pl : Plain args) : TrM b c n sc (.Call (.Name x p) args [] pos) (fun r => (f r).bind o) := fun _ _ _ _ _ _ _ _ _ _ _ _ _ _ hA hs S hf h => by
  obtain ⟨ds, h1, hf⟩ := bind_some hf
  refine wpAny_Call_NameR (tn hA hs S rfl fun v s1 a1 x1 => ?_)
  have hv : v = .ref fa := by cases x1; rfl
  subst hv
  refine Calls.callWith_function (o := ob) (fd := fd) (evalArgs_pl pl (ta hA hs (S.after a1) h1 fun vs s2 a2 x2 => ?_))
  have S2 := (S.after a1).after a2
  exact ⟨⟨S2.glo.obs fa ob hob, hfd⟩, ho hA S2.glo S.zM S2.Ml x2 hf fun v s3 a3 x3 => h v s3 ((a1.trans a2).trans a3) x3⟩
/-- a method of a text -/
theorem tr_meth {e : Expr} {name : Str} {apos pos : Pos} {args : List Expr} {id : String} {pls : Env → Sem Bool} {f : Rho → Option D} {g : Rho → Option (List D)} {o : List D → Option D} (te : TrM b c n sc e f) (ta : TrEs b c n sc args g)
    (hgm : ∀ {M : Model} {A : Around} {E : Value → Shared → Prop} {s : Shared} {x : Str} {t : Tok} {pl : Sem Bool} {Q : Value × List Value → Shared → Prop}, Q (.builtin id, [.str x t]) s → wpAny M A (getMethod (.str x t) name pl) Q E s)
    (ho : ActL c n (fun vs => call (.builtin id) vs) o) (pl : Plain args)
    (he : ∀ env, eval (.Call (.Attribute e name apos) args [] pos) env = (do
      let ov ← eval e env
      standAt apos.atName
      let (f, first) ← holding [ov] (getMethod ov name (pls env))
      callWith pos f first (backTo pos (starEach args env)) [])) :
    TrM b c n sc (.Call (.Attribute e name apos) args [] pos) (fun r => (f r).bind fun d => match d with | .str x => (g r).bind fun l => o (.str x :: l) | _ => none) := fun _ _ _ _ _ _ _ _ _ _ _ _ _ _ hA hs S hf h => by
  obtain ⟨d, h1, hf⟩ := bind_some hf
  cases d <;> simp only [reduceCtorEq] at hf
  rename_i x
  obtain ⟨ds, h2, hf⟩ := bind_some hf
  refine MethodCall_ (te hA hs S h1 fun v s1 a1 x1 => ?_) (he _)
  cases x1
  refine hgm ?_
  refine Calls.callWith_builtin (pl _ _).1 (evalArgs_pl pl (ta hA hs (S.after a1) h2 fun vs s2 a2 x2 => ?_))
  have S2 := (S.after a1).after a2
  exact ho hA S2.glo S.zM S2.Ml (.cons .str x2) hf fun v s3 a3 x3 => h v s3 ((a1.trans a2).trans a3) x3

/-! ### items and cuts -/
theorem wp_Sub {prog : Program} {w : World} {A : Around} {E : Value → Shared → Prop} {s : Shared} {env : Env} {value slice : Expr} {pos : Pos} {Q : Value → Shared → Prop}
    (h : wpAny (model prog w) A (eval value env) (fun o s₁ => wpAny (model prog w) A (eval slice env) (fun i s₂ => ∃ T id, s₂.TypeIs o T ∧ typeLookup (.type T) "__getitem__" = pure (some (.builtin id)) ∧ (∀ r, letTemporaryGo value o r = pure ()) ∧ wpAny (model prog w) A (getItem o i) Q E s₂) E s₁) E s)
    (hs : ∀ o i, subscripted slice false o i = operate [o, i] (getItem o i)) : wpAny (model prog w) A (eval (.Subscript value slice pos) env) Q E s := by
  rw [eval_Subscript]
  refine wpAny_bind (wpAny_mono h (fun o s₁ h₁ => wpAny_bind (wpAny_holding (wpAny_mono h₁ (fun i s₂ h₂ => wpAny_bind (wpAny_standAt ?_)) fun _ _ x => x))) fun _ _ x => x)
  obtain ⟨T, id, hT, hl, ht, hg⟩ := h₂
  have fin : wpAny (model prog w) A (subscripted slice false o i >>= fun r => letTemporaryGo value o r >>= fun _ => pure r) Q E s₂ := by
    rw [hs]
    exact wpAny_bind (wpAny_operating (wpAny_mono hg (fun r s₃ h₃ => wpAny_bind (wpAny_of_eq (ht r) (wpAny_pure h₃))) fun _ _ x => x))
  refine wpAny_bind ?_
  rw [getitemInPython_of_ne hT.not_modules]
  refine wpAny_bind (wpAny_specialOf hT hl ?_)
  exact wpAny_pure fin

def oIdx : D → D → Option D
  | .str x, .int i => if -big < i ∧ i < big then ((seqIndex? i x.length).bind (x.cps[·]?)).map fun k => .str ⟨#[k]⟩ else none
  | .list l, .int i => if l.length ≤ lim then (seqIndex? i l.length).bind (l[·]?) else none
  | _, _ => none
theorem act_idx {prog : Program} {w : World} {A : Around} {E : Value → Shared → Prop} {s : Shared} {Q : Value → Shared → Prop} {a i : Value} {da di d : D} {X : List Addr}
    (ra : R (LP s.heap X) a da) (ri : R (LP s.heap X) i di) (ho : oIdx da di = some d) (h : ∀ v s', After c s s' → R (LP s'.heap X) v d → Q v s') : wpAny (model prog w) A (getItem a i) Q E s := by
  cases ra <;> cases ri <;> simp only [oIdx, reduceCtorEq] at ho
  case str.int x t i u =>
    split at ho
    · rename_i hl
      cases hk : (seqIndex? i x.length).bind (x.cps[·]?) with
      | none => rw [hk] at ho; cases ho
      | some k =>
        rw [hk] at ho
        cases ho
        refine PyProof.Rows.getItem_str ?_ hk (h _ _ (After.tok c _ _) .str)
        rw [Bool.or_eq_false_iff]
        exact ⟨decide_eq_false (by have := hl.1; have := big_eq; omega), decide_eq_false (by have := hl.2; have := big_eq; omega)⟩
    · cases ho
  case list.int l vs ds p r i u =>
    split at ho
    · rename_i hll
      obtain ⟨j, h1, h2⟩ := bind_some ho
      have hlen := Rs.length r
      have hsz : vs.size = ds.length := by rw [← hlen]; simp
      obtain ⟨v, e1, e2⟩ := Rs.get r j d h2
      have e3 : vs[j]? = some v := by simpa using e1
      have hl : lim = 1000000 := lim_eq
      unfold seqIndex? at h1
      by_cases h0 : i < 0
      · rw [if_pos h0] at h1
        dsimp only at h1
        split at h1
        · rename_i hc
          rw [Bool.and_eq_true, decide_eq_true_eq, decide_eq_true_eq] at hc
          cases h1
          refine wpAny_getItem_list_neg p.1 h0 (by omega) (by omega) (x := v) ?_ (h v s (After.refl c s) e2)
          rw [hsz]; exact e3
        · cases h1
      · rw [if_neg h0] at h1
        dsimp only at h1
        split at h1
        · rename_i hc
          rw [Bool.and_eq_true, decide_eq_true_eq, decide_eq_true_eq] at hc
          cases h1
          exact wpAny_getItem_list p.1 (by omega) (by omega) e3 (h v s (After.refl c s) e2)
        · cases h1
    · cases ho
def strOrList : D → Prop
  | .str _ => True
  | .list _ => True
  | _ => False
theorem typeIs_seq {s : Shared} {X : List Addr} {a : Value} {da : D} (ra : R (LP s.heap X) a da) (h : strOrList da) : ∃ T id, s.TypeIs a T ∧ typeLookup (.type T) "__getitem__" = pure (some (.builtin id)) := by
  cases ra with
  | str => exact ⟨"str", _, typeIs_str _ _ _, PySem.F.slot_str_getitem.lookup⟩
  | list p r => exact ⟨"list", _, p.1.typeIs, slot_list_getitem.lookup⟩
  | none => exact h.elim
  | bool => exact h.elim
  | int => exact h.elim
  | adr => exact h.elim
  | bi => exact h.elim
  | ty => exact h.elim
theorem oIdx_seq {da di d : D} (h : oIdx da di = some d) : strOrList da := by
  cases da <;> cases di <;> first | exact trivial | cases h
theorem letGo_str (value : Expr) (x : Str) (t : Tok) (r : Value) : letTemporaryGo value (.str x t) r = pure () := by
  unfold letTemporaryGo
  cases value <;> rfl
theorem letGo_of {s : Shared} {X : List Addr} {a : Value} {da : D} (value : Expr) (ra : R (LP s.heap X) a da) (hv : ∀ o r, letTemporaryGo value o r = pure () ∨ ∃ x t, o = .str x t) (r : Value) : letTemporaryGo value a r = pure () := by
  rcases hv a r with h | ⟨x, t, rfl⟩
  · exact h
  · exact letGo_str _ _ _ _
/-- an item; the value's expression is a name -/
theorem tr_idx {x : Str} {p : Pos} {i : Expr} {pos : Pos} {f g : Rho → Option D} (tv : TrM b c n sc (.Name x p) f) (ti : TrM b c n sc i g)
    (hs : ∀ o v, subscripted i false o v = operate [o, v] (getItem o v) := by intro _ _; rfl) :
    TrM b c n sc (.Subscript (.Name x p) i pos) (fun r => (f r).bind fun d => (g r).bind fun k => oIdx d k) := fun _ _ _ _ _ _ _ _ _ _ _ _ _ _ hA hsc S hf h => by
  obtain ⟨da, h1, hf⟩ := bind_some hf
  obtain ⟨di, h2, hf⟩ := bind_some hf
  refine wp_Sub (tv hA hsc S h1 fun a s1 a1 x1 => ti hA hsc (S.after a1) h2 fun k s2 a2 x2 => ?_) hs
  have x1' := S.mvM a2 x1
  obtain ⟨T, id, q1, q2⟩ := typeIs_seq x1' (oIdx_seq hf)
  exact ⟨T, id, q1, q2, fun _ => rfl, act_idx x1' x2 hf fun v s3 a3 x3 => h v s3 ((a1.trans a2).trans a3) x3⟩
def strOnly : D → Option D
  | .str x => some (.str x)
  | _ => none
/-- a sign of a text that any expression gives -/
theorem tr_idxS {e i : Expr} {pos : Pos} {f g : Rho → Option D} (tv : TrM b c n sc e f) (ti : TrM b c n sc i g)
    (hs : ∀ o v, subscripted i false o v = operate [o, v] (getItem o v) := by intro _ _; rfl) :
    TrM b c n sc (.Subscript e i pos) (fun r => ((f r).bind strOnly).bind fun d => (g r).bind fun k => oIdx d k) := fun _ _ _ _ _ _ _ _ _ _ _ _ _ _ hA hsc S hf h => by
  obtain ⟨da', h1, hf⟩ := bind_some hf
  obtain ⟨da, h0, h3⟩ := bind_some h1
  obtain ⟨di, h2, hf⟩ := bind_some hf
  cases da <;> simp only [strOnly, reduceCtorEq] at h3
  cases h3
  refine wp_Sub (tv hA hsc S h0 fun a s1 a1 x1 => ti hA hsc (S.after a1) h2 fun k s2 a2 x2 => ?_) hs
  have x1' := S.mvM a2 x1
  obtain ⟨T, id, q1, q2⟩ := typeIs_seq x1' (oIdx_seq hf)
  refine ⟨T, id, q1, q2, fun r => ?_, act_idx x1' x2 hf fun v s3 a3 x3 => h v s3 ((a1.trans a2).trans a3) x3⟩
  cases x1
  exact letGo_str _ _ _ _
end
end Mine
end SLa5

/-! La6 -/
noncomputable section SLa6
namespace Mine

def cutL {α : Type} (l : List α) (lo hi : Option Int) : List α := (l.drop (lo.elim 0 (clipAt l.length))).take (hi.elim l.length (clipAt l.length) - lo.elim 0 (clipAt l.length))
def cutS (x : Str) (lo hi : Option Int) : Str := ⟨(cutL x.cps.toList lo hi).toArray⟩
theorem strSlice_bounds (lo hi : Option Int) (n : Nat) : Builtin.Str.strSliceIndices lo hi 1 n = (List.range (hi.elim n (clipAt n) - lo.elim 0 (clipAt n))).map (lo.elim 0 (clipAt n) + ·) := by
  rw [← sliceRange_one]
  cases lo <;> cases hi <;> simp [Builtin.Str.strSliceIndices, clipAt_cast]
theorem take_all {α : Type} {l : List α} {a k : Nat} (h : ((l.drop a).take k).length = l.length) : (l.drop a).take k = l := by
  rw [List.length_take, List.length_drop] at h
  by_cases ha : a = 0
  · subst ha
    rw [List.drop_zero]
    exact List.take_of_length_le (by omega)
  · have : l.length = 0 := by omega
    have : l = [] := List.eq_nil_of_length_eq_zero this
    subst this; simp
theorem slice_text (x : Str) (lo hi : Option Int) : ((Builtin.Str.strSliceIndices lo hi 1 x.length).filterMap (x.cps[·]?)).toArray = (cutS x lo hi).cps := by
  rw [strSlice_bounds, pick_run]
  show _ = (cutL x.cps.toList lo hi).toArray
  unfold cutL
  simp only [Array.length_toList]
  rfl

section
variable {c : Cx} {n : Nat} {sc : Scope} {b : Bool}

/-- a part of a cut -/
def asPart : D → Option (Option Int)
  | .none => some Option.none
  | .int i => some (some i)
  | _ => Option.none
def TrP (b : Bool) (c : Cx) (n : Nat) (sc : Scope) (e : Option Expr) (f : Rho → Option (Option Int)) : Prop :=
  ∀ ⦃prog : Program⦄ ⦃w : World⦄ ⦃A : Around⦄ ⦃E : Value → Shared → Prop⦄ ⦃X0 : List Addr⦄ ⦃s0 : Shared⦄ ⦃env : Env⦄ ⦃gd : List (Addr × Obj)⦄ ⦃hid : List (Value × D)⦄ ⦃ow : List (Str × Addr)⦄ ⦃r : Rho⦄ ⦃s : Shared⦄ ⦃Q : Value → Shared → Prop⦄ ⦃d : Option Int⦄,
    AOk n A → env.scope = sc → St c X0 s0 env gd hid ow r s → f r = some d →
    (∀ v s', After c s s' → IsPart v d → (∃ l, v = partValue l ∧ l.map (·.1) = d) → Q v s') → wpAny (model prog w) A (evalPart e env) Q E s
theorem trP_none : TrP b c n sc none (fun _ => some none) := fun _ _ _ _ _ _ _ _ _ _ _ _ _ _ hA hs S hf h => by
  cases hf
  rw [evalPart_none]
  exact wpAny_pure (h _ _ (After.refl c _) .none ⟨none, rfl, rfl⟩)
theorem trP_some {e : Expr} {f : Rho → Option D} (t : TrM b c n sc e f) : TrP b c n sc (some e) (fun r => (f r).bind asPart) := fun _ _ _ _ _ _ _ _ _ _ _ _ _ _ hA hs S hf h => by
  obtain ⟨d, h1, hf⟩ := bind_some hf
  rw [evalPart_some]
  refine t hA hs S h1 fun v s1 a1 x1 => ?_
  cases x1 <;> simp only [asPart, reduceCtorEq] at hf
  · cases hf; exact h _ _ a1 .none ⟨none, rfl, rfl⟩
  · cases hf; exact h _ _ a1 (.int _ _) ⟨some (_, _), rfl, rfl⟩

def oCut (d : D) (lo hi : Option Int) : Option D := match d with
  | .str x => if x.length ≤ lim then some (.str (cutS x lo hi)) else none
  | .list l => if l.length ≤ lim then some (.list (cutL l lo hi)) else none
  | _ => none
theorem cutL_length_le {α : Type} (l : List α) (lo hi : Option Int) : (cutL l lo hi).length ≤ l.length := by
  unfold cutL
  rw [List.length_take, List.length_drop]
  omega
theorem Rs.cut {P : Addr → Array Value → Prop} {vs : List Value} {ds : List D} (r : Rs P vs ds) (lo hi : Option Int) : Rs P (cutL vs lo hi) (cutL ds lo hi) := by
  have e := Rs.length r
  have dr : ∀ (k : Nat) {vs : List Value} {ds : List D}, Rs P vs ds → Rs P (vs.drop k) (ds.drop k) := by
    intro k
    induction k with
    | zero => intro vs ds r; exact r
    | succ k ih =>
      intro vs ds r
      cases r with
      | nil => exact .nil
      | cons _ q => exact ih q
  have tk : ∀ (k : Nat) {vs : List Value} {ds : List D}, Rs P vs ds → Rs P (vs.take k) (ds.take k) := by
    intro k
    induction k with
    | zero => intro vs ds r; simp; exact .nil
    | succ k ih =>
      intro vs ds r
      cases r with
      | nil => exact .nil
      | cons x q => exact .cons x (ih q)
  unfold cutL
  rw [e]
  exact tk _ (dr _ r)
theorem act_cutS {prog : Program} {w : World} {A : Around} {E : Value → Shared → Prop} {s : Shared} {Q : Value → Shared → Prop} {x : Str} {t : Tok} {vl vu : Value} {lo hi : Option Int} {a : Addr}
    (hsl : s.heap.get? a = some { cls := .type "slice", data := .fields #[vl, vu, .none] }) (hl : ∃ l, vl = partValue l ∧ l.map (·.1) = lo) (hu : ∃ l, vu = partValue l ∧ l.map (·.1) = hi) (hsz : x.length ≤ lim)
    (h : ∀ t' tk, Q (.str (cutS x lo hi) t') { s with toks := tk }) : wpAny (model prog w) A (getItem (.str x t) (.ref a)) Q E s := by
  obtain ⟨l, rfl, rfl⟩ := hl
  obtain ⟨u, rfl, rfl⟩ := hu
  refine wpAny_getItem_str_slice (l := l) (u := u) (st := none) ⟨_, hsl, rfl, rfl⟩ rfl ?_
  have e1 := slice_text x (l.map (·.1)) (u.map (·.1))
  unfold sliceMade slicePicked
  simp only [Option.map_none, Option.getD_none, beq_self_eq_true, Bool.true_and]
  split
  · rename_i hlen
    have hlen' : (Builtin.Str.strSliceIndices (l.map (·.1)) (u.map (·.1)) 1 x.length).length = x.length := by simpa using hlen
    have e3 : cutL x.cps.toList (l.map (·.1)) (u.map (·.1)) = x.cps.toList := by
      have hl2 : (cutL x.cps.toList (l.map (·.1)) (u.map (·.1))).length = x.cps.toList.length := by
        rw [strSlice_bounds, List.length_map, List.length_range] at hlen'
        unfold cutL
        simp only [Array.length_toList, List.length_take, List.length_drop]
        have : x.length = x.cps.size := rfl
        rw [← this]
        have b1 : ∀ (o : Option Int) , o.elim x.length (clipAt x.length) ≤ x.length := by
          intro o
          cases o with
          | none => exact Nat.le_refl _
          | some i => show clipAt x.length i ≤ x.length; unfold clipAt; omega
        have := b1 (u.map (·.1))
        omega
      exact take_all hl2
    have e4 : cutS x (l.map (·.1)) (u.map (·.1)) = x := by
      unfold cutS
      rw [e3]
    have := h t s.toks
    rw [e4] at this
    exact this
  · refine ⟨?_, ?_⟩
    · show Array.size _ ≤ sizeLine
      rw [e1]
      have := cutL_length_le x.cps.toList (l.map (·.1)) (u.map (·.1))
      have e5 : (cutS x (l.map (·.1)) (u.map (·.1))).cps.size = (cutL x.cps.toList (l.map (·.1)) (u.map (·.1))).length := by unfold cutS; simp
      rw [e5]
      refine Nat.le_trans this (Nat.le_trans ?_ lim_le)
      rw [Array.length_toList]
      exact hsz
    · have := h s.toks (s.toks + 1)
      have e6 : (⟨((Builtin.Str.strSliceIndices (l.map (·.1)) (u.map (·.1)) 1 x.length).filterMap (x.cps[·]?)).toArray⟩ : Str) = cutS x (l.map (·.1)) (u.map (·.1)) := by rw [e1]
      rw [e6]
      exact this

/-- a cut x[lo:hi] -/
theorem tr_cut {e : Expr} {lo hi : Option Expr} {p pos : Pos} {f : Rho → Option D} {g k : Rho → Option (Option Int)} (tv : TrM b c n sc e f) (tl : TrP b c n sc lo g) (tu : TrP b c n sc hi k)
    (hv : ∀ o r, letTemporaryGo e o r = pure () ∨ ∃ x t, o = .str x t := by intro _ _; exact .inl rfl) :
    TrM b c n sc (.Subscript e (.Slice lo hi none p) pos) (fun r => (f r).bind fun d => (g r).bind fun l => (k r).bind fun u => oCut d l u) := fun {prog w A E X0 s0 env gd hid ow r s Q d} hA hsc S hf h => by
  obtain ⟨da, h1, hf⟩ := bind_some hf
  obtain ⟨dl, h2, hf⟩ := bind_some hf
  obtain ⟨du, h3, hf⟩ := bind_some hf
  rw [eval_Subscript]
  refine wpAny_bind (tv hA hsc S h1 fun a s1 a1 x1 => wpAny_bind (wpAny_holding (wpAny_Slice (tl hA hsc (S.after a1) h2 fun vl s2 a2 p2 q2 => tu hA hsc ((S.after a1).after a2) h3 fun vu s3 a3 p3 q3 => ?_))))
  rw [evalPart_none]
  refine wpAny_pure (wpAny_bind (wpAny_standAt ?_))
  have S3 := ((S.after a1).after a2).after a3
  have ap : After c s3 { s3 with heap := s3.heap.push { cls := .type "slice", data := .fields #[vl, vu, .none] } } := After.push c s3 _ s3.toks
  have S4 := S3.after ap
  have x1' := S.mvM ((a2.trans a3).trans ap) x1
  have hseq : strOrList da := by cases da <;> first | exact trivial | cases hf
  obtain ⟨T, id, hT, hl⟩ := typeIs_seq x1' hseq
  have hgo : ∀ r, letTemporaryGo e a r = pure () := letGo_of e x1' hv
  have key : wpAny (model prog w) A (getItem a (.ref s3.heap.objs.size)) (fun r s5 => wpAny (model prog w) A (letTemporaryGo e a r >>= fun _ => pure r) Q E s5) E { s3 with heap := s3.heap.push { cls := .type "slice", data := .fields #[vl, vu, .none] } } := by
    cases da <;> simp only [oCut, reduceCtorEq] at hf
    case str x =>
      obtain ⟨t, rfl⟩ := x1'.str_inv
      split at hf
      · rename_i hsz
        cases hf
        refine act_cutS (Heap.get?_push_size _ rfl) q2 q3 hsz fun t' tk => wpAny_bind (wpAny_of_eq (hgo _) (wpAny_pure (h _ _ (((a1.trans a2).trans a3).trans (ap.tk tk)) .str)))
      · cases hf
    case list ds =>
      obtain ⟨l, vs, rfl, pl, pr⟩ := x1'.list_inv
      split at hf
      · rename_i hsz
        cases hf
        have hsz' : vs.size ≤ sizeLine := by
          have := Rs.length pr
          simp only [Array.length_toList] at this
          rw [this]; exact Nat.le_trans hsz lim_le
        refine wpAny_getItem_list_slice pl.1 (Heap.IsSliceOf.new ..) p2 p3 .none (by simp) ?_ hsz'
        refine wpAny_bind (wpAny_of_eq (hgo _) (wpAny_pure (h _ _ (((a1.trans a2).trans a3).trans (ap.trans (After.push c _ _ _))) ?_)))
        refine After.new (fun x hx => S4.Ml x hx) ?_ S.zM
        rw [slicePick_plain]
        have := Rs.cut pr dl du
        unfold cutL at this
        simp only [Array.length_toList] at this
        unfold cutL
        simpa using this
      · cases hf
  refine wpAny_bind ?_
  rw [getitemInPython_of_ne hT.not_modules]
  refine wpAny_bind (wpAny_specialOf hT hl ?_)
  exact wpAny_pure (wpAny_bind (wpAny_operating key))
end
end Mine
end SLa6

/-! La7 -/
noncomputable section SLa7
namespace Mine

/-- the ints of a list, the texts of a list -/
def intsOf : List D → Option (List Int)
  | [] => some []
  | .int i :: r => (intsOf r).map (i :: ·)
  | _ :: _ => none
def strsOf : List D → Option (List Str)
  | [] => some []
  | .str i :: r => (strsOf r).map (i :: ·)
  | _ :: _ => none
theorem Rs.ints {P : Addr → Array Value → Prop} : ∀ {vs : List Value} {ds : List D} {ns : List Int}, Rs P vs ds → intsOf ds = some ns → ∃ xs : List (Int × Tok), vs = xs.map (fun p => .int p.1 p.2) ∧ xs.map (·.1) = ns
  | _, _, _, .nil, h => by cases h; exact ⟨[], rfl, rfl⟩
  | _, _, _, .cons (d := d) (ds := ds) r q, h => by
    cases d <;> simp only [intsOf, reduceCtorEq] at h
    rename_i i
    cases hd : intsOf ds with
    | none => rw [hd] at h; cases h
    | some ns =>
      rw [hd] at h
      cases h
      obtain ⟨t, rfl⟩ := r.int_inv
      obtain ⟨xs, rfl, rfl⟩ := Rs.ints q hd
      exact ⟨(i, t) :: xs, rfl, rfl⟩
theorem Rs.strs {P : Addr → Array Value → Prop} : ∀ {vs : List Value} {ds : List D} {ns : List Str}, Rs P vs ds → strsOf ds = some ns → StrsAre vs ns
  | _, _, _, .nil, h => by cases h; exact .nil
  | _, _, _, .cons (d := d) (ds := ds) r q, h => by
    cases d <;> simp only [strsOf, reduceCtorEq] at h
    rename_i i
    cases hd : strsOf ds with
    | none => rw [hd] at h; cases h
    | some ns =>
      rw [hd] at h
      cases h
      obtain ⟨t, rfl⟩ := r.str_inv
      exact .cons _ _ (Rs.strs q hd)

def oLen : List D → Option D
  | [.str x] => if x.length ≤ lim then some (.int x.length) else none
  | [.list l] => if l.length ≤ lim then some (.int l.length) else none
  | _ => none
def oMin : List D → Option D
  | [.int a, .int b] => some (.int (if b < a then b else a))
  | [.list l] => (intsOf l).bind fun ns => ns.min?.map .int
  | _ => none
def oIsStr : List D → Option D
  | [.str _, .ty "str"] => some (.bool true)
  | _ => none
def oType : List D → Option D
  | [.int _] => some (.ty "int")
  | _ => none
def oLower : List D → Option D
  | [.str x] => if x.length ≤ lim then some (.str (Txt.lower x)) else none
  | _ => none
def oJoin : List D → Option D
  | [.str x, .list l] => (strsOf l).bind fun ys => if (ys.map (·.length)).sum + ys.length * x.length ≤ lim then some (.str (Txt.join x ys)) else none
  | _ => none
/-- is: only between what can be told apart for sure -/
def oIs : D → D → Option D
  | .none, .none => some (.bool true)
  | .ty a, .ty b => some (.bool (a == b))
  | .adr a, .adr b => if a = b then some (.bool true) else none
  | .adr _, .none => some (.bool false)
  | .str _, .none => some (.bool false)
  | .int _, .none => some (.bool false)
  | .list _, .none => some (.bool false)
  | .str _, .adr _ => some (.bool false)
  | .none, .adr _ => some (.bool false)
  | _, _ => none
def oIsNot (a b : D) : Option D := (oIs a b).bind fun d => (asB d).map fun t => .bool (!t)

section
variable {c : Cx} {n : Nat} {sc : Scope} {b : Bool}

theorem act_len : ActL c n (fun vs => call (.builtin "len") vs) oLen := fun {prog w A E s Q vs ds d X} hA G hz hX ra ho h => by
  unfold oLen at ho
  split at ho
  · rename_i x
    split at ho
    · rename_i hl
      cases ho
      obtain ⟨v, rfl, r⟩ := ra.one_inv
      obtain ⟨t, rfl⟩ := r.str_inv
      have : lim = 1000000 := lim_eq
      exact PyProof.Rows.len_str (by omega) (h _ _ (After.tok c _ _) .int)
    · cases ho
  · rename_i l
    split at ho
    · rename_i hl
      cases ho
      obtain ⟨v, rfl, r⟩ := ra.one_inv
      obtain ⟨a, vs, rfl, p, q⟩ := r.list_inv
      have e := Rs.length q
      simp only [Array.length_toList] at e
      rw [← e] at h hl
      have : lim = 1000000 := lim_eq
      exact Calls.call_len_list p.1 (by omega) (h _ _ (After.tok c _ _) .int)
    · cases ho
  · cases ho
theorem min_of {ns : List Int} {M : Int} (h1 : M ∈ ns) (h2 : ∀ a ∈ ns, M ≤ a) : ns.min? = some M := List.min?_eq_some_iff.mpr ⟨h1, h2⟩
theorem act_min : ActL c n (fun vs => call (.builtin "min") vs) oMin := fun {prog w A E s Q vs ds d X} hA G hz hX ra ho h => by
  unfold oMin at ho
  split at ho
  · rename_i a b
    cases ho
    obtain ⟨v, w, rfl, r1, r2⟩ := ra.two_inv
    obtain ⟨t, rfl⟩ := r1.int_inv
    obtain ⟨u, rfl⟩ := r2.int_inv
    refine min_two_ints hA.hd fun h' tk hk => h _ _ (After.heap tk (Ext.of hk)) ?_
    split <;> exact .int
  · rename_i l
    obtain ⟨ns, h1, h2⟩ := bind_some ho
    obtain ⟨v, rfl, r⟩ := ra.one_inv
    obtain ⟨a, vs, rfl, p, q⟩ := r.list_inv
    obtain ⟨xs, e1, e2⟩ := Rs.ints q h1
    have e3 : vs = intItems xs.toArray := by
      apply Array.ext'
      rw [e1]; simp [intItems]
    cases hm : ns.min? with
    | none => rw [hm] at h2; cases h2
    | some M =>
      rw [hm] at h2
      cases h2
      have hpos : 0 < xs.toArray.size := by
        rcases Nat.eq_zero_or_pos xs.toArray.size with e | e
        · have : xs = [] := by simpa using e
          subst this
          subst e2
          cases hm
        · exact e
      refine min_intList hA.hd (e3 ▸ p.1) hpos fun v h' tk hv hk => h v _ (After.heap tk (Ext.of hk)) ?_
      obtain ⟨t, rfl⟩ := intItems_at hv
      obtain ⟨g1, g2⟩ := argBest_lt (numAt xs.toArray) (xs.toArray.size - 1)
      have hns : ns = xs.toArray.toList.map (·.1) := by rw [← e2]
      have hM : numAt xs.toArray (argBest (fun i j => decide (numAt xs.toArray i < numAt xs.toArray j)) (xs.toArray.size - 1)) = M := by
        have key := min_of (ns := ns) (M := numAt xs.toArray (argBest (fun i j => decide (numAt xs.toArray i < numAt xs.toArray j)) (xs.toArray.size - 1))) ?_ ?_
        · rw [hm] at key; exact (Option.some.inj key).symm
        · rw [hns, numAt_eq]; exact getD_mem (by rw [List.length_map, Array.length_toList]; omega)
        · intro a ha
          rw [hns] at ha
          obtain ⟨j, hj, rfl⟩ := mem_getD ha
          rw [List.length_map, Array.length_toList] at hj
          rw [← numAt_eq]; exact g2 j (by omega)
      rw [hM]
      exact .int
  · cases ho
theorem act_isStr : ActL c n (fun vs => call (.builtin "isinstance") vs) oIsStr := fun {prog w A E s Q vs ds d X} hA G hz hX ra ho h => by
  unfold oIsStr at ho
  split at ho
  · cases ho
    obtain ⟨v, w, rfl, r1, r2⟩ := ra.two_inv
    obtain ⟨t, rfl⟩ := r1.str_inv
    have : w = .type "str" := by cases r2; rfl
    subst this
    exact IsiPair.str_str (h _ _ (After.refl c _) .bool)
  · cases ho
theorem act_type : ActL c n (fun vs => call (.type "type") vs) oType := fun {prog w A E s Q vs ds d X} hA G hz hX ra ho h => by
  unfold oType at ho
  split at ho
  · cases ho
    obtain ⟨v, rfl, r1⟩ := ra.one_inv
    obtain ⟨t, rfl⟩ := r1.int_inv
    exact call_type_of (typeIs_int s _ t) (by decide) (h _ _ (After.refl c _) .ty)
  · cases ho
theorem act_lower : ActL c n (fun vs => call (.builtin "str.lower") vs) oLower := fun {prog w A E s Q vs ds d X} hA G hz hX ra ho h => by
  unfold oLower at ho
  split at ho
  · split at ho
    · rename_i hl
      cases ho
      obtain ⟨v, rfl, r1⟩ := ra.one_inv
      obtain ⟨t, rfl⟩ := r1.str_inv
      have : lim = 1000000 := lim_eq
      exact PyProof.Rows.SCL.lower (by omega) fun _ => h _ _ (After.tok c _ _) .str
    · cases ho
  · cases ho
theorem act_join : ActL c n (fun vs => call (.builtin "str.join") vs) oJoin := fun {prog w A E s Q vs ds d X} hA G hz hX ra ho h => by
  unfold oJoin at ho
  split at ho
  · rename_i x l
    obtain ⟨ys, h1, h2⟩ := bind_some ho
    split at h2
    · rename_i hl
      cases h2
      obtain ⟨v, w, rfl, r1, r2⟩ := ra.two_inv
      obtain ⟨t, rfl⟩ := r1.str_inv
      obtain ⟨a, vs, rfl, p, q⟩ := r2.list_inv
      have : lim = 1000000 := lim_eq
      exact PyProof.Rows.join_list p.1 (Rs.strs q h1) (by omega) fun t' k => h _ _ (After.tok c _ _) .str
    · cases h2
  · cases ho

theorem R.none_inv {P : Addr → Array Value → Prop} {v : Value} (h : R P v .none) : v = .none := by cases h; rfl
theorem R.ty_inv {P : Addr → Array Value → Prop} {v : Value} {x : String} (h : R P v (.ty x)) : v = .type x := by cases h; rfl
theorem R.adr_inv {P : Addr → Array Value → Prop} {v : Value} {a : Addr} (h : R P v (.adr a)) : v = .ref a := by cases h; rfl
theorem oIs_inv {h : Heap} {X : List Addr} {a b : Value} {da db d : D} (ra : R (LP h X) a da) (rb : R (LP h X) b db) (ho : oIs da db = some d) :
    (plainIs a b = true ∧ d = .bool (a == b)) ∨ (∃ p, a = .ref p ∧ b = .ref p ∧ d = .bool true) := by
  cases da with
  | none =>
    have ea := ra.none_inv
    cases db with
    | none => rw [ea, rb.none_inv]; exact .inl ⟨rfl, (Option.some.inj ho).symm⟩
    | adr p => rw [ea, rb.adr_inv]; exact .inl ⟨rfl, (Option.some.inj ho).symm⟩
    | _ => exact nomatch ho
  | ty x => cases db with
    | ty y => rw [ra.ty_inv, rb.ty_inv]; exact .inl ⟨rfl, (Option.some.inj ho).symm.trans (congrArg D.bool (by rw [Bool.eq_iff_iff]; simp))⟩
    | _ => exact nomatch ho
  | adr p =>
    have ea := ra.adr_inv
    cases db with
    | adr q =>
      have ho' : (if p = q then some (D.bool true) else none) = some d := ho
      split at ho'
      · rename_i e; subst e; exact .inr ⟨_, ea, rb.adr_inv, (Option.some.inj ho').symm⟩
      · exact nomatch ho'
    | none => rw [ea, rb.none_inv]; exact .inl ⟨rfl, (Option.some.inj ho).symm⟩
    | _ => exact nomatch ho
  | str x =>
    obtain ⟨t, ea⟩ := ra.str_inv
    cases db with
    | none => rw [ea, rb.none_inv]; exact .inl ⟨rfl, (Option.some.inj ho).symm⟩
    | adr p => rw [ea, rb.adr_inv]; exact .inl ⟨rfl, (Option.some.inj ho).symm⟩
    | _ => exact nomatch ho
  | int x => cases db with
    | none =>
      obtain ⟨t, ea⟩ := ra.int_inv
      rw [ea, rb.none_inv]; exact .inl ⟨rfl, (Option.some.inj ho).symm⟩
    | _ => exact nomatch ho
  | list x => cases db with
    | none =>
      obtain ⟨t, _, ea, _⟩ := ra.list_inv
      rw [ea, rb.none_inv]; exact .inl ⟨rfl, (Option.some.inj ho).symm⟩
    | _ => exact nomatch ho
  | _ => exact nomatch ho
theorem act_is : Act2 c n (compareOp .Is) oIs := fun {prog w A E s Q a b da db d X} hA G hz hX ra rb ho h => by
  rcases oIs_inv ra rb ho with ⟨e, rfl⟩ | ⟨p, rfl, rfl, rfl⟩
  · exact wpAny_is_plain e (h _ _ (After.refl c _) .bool)
  · exact wpAny_is_ref_self (h _ _ (After.refl c _) .bool)
theorem act_isNot : Act2 c n (compareOp .IsNot) oIsNot := fun {prog w A E s Q a b da db d X} hA G hz hX ra rb ho h => by
  obtain ⟨d', h1, h2⟩ := bind_some ho
  rcases oIs_inv ra rb h1 with ⟨e, rfl⟩ | ⟨p, rfl, rfl, rfl⟩
  · cases h2
    exact wpAny_isNot_plain e (h _ _ (After.refl c _) .bool)
  · cases h2
    exact wpAny_isNot_ref_self (h _ _ (After.refl c _) .bool)

/-! ### lists just made -/
theorem trF_m {e : Expr} {f : Rho → Option (List D)} (t : TrF c n sc e f) : TrM b c n sc e (fun r => (f r).map .list) := fun {prog w A E X0 s0 env gd hid ow r s Q d} hA hs S hf h => by
  dsimp only at hf
  cases hd : f r with
  | none => rw [hd] at hf; cases hf
  | some ds =>
    rw [hd] at hf
    cases hf
    refine t hA hs S hd fun a vs s' a1 hl hp hr => h _ _ a1 (.list ⟨hp.isList, fun q => hl (S.Ml a q)⟩ (Rs.mono (fun a' vs' l => ⟨l.1, fun q => l.2 ?_⟩) hr))
    cases b with
    | true => exact List.mem_cons_of_mem _ q
    | false => exact List.mem_cons_of_mem _ (List.mem_append_right _ q)
theorem trF_list {es : List Expr} {pos : Pos} {f : Rho → Option (List D)} (t : TrEs true c n sc es f) : TrF c n sc (.List es pos) (fun r => (f r).bind fun l => if l.length ≤ lim then some l else none) := fun _ _ _ _ _ _ _ _ _ _ _ _ _ _ hA hs S hf h => by
  obtain ⟨ds, h1, hf⟩ := bind_some hf
  split at hf
  · rename_i hsz
    cases hf
    refine List_ (t hA hs S h1 fun vs s1 a1 x1 => ?_)
    have S1 := S.after a1
    refine wpAny_newObj_type (h _ _ _ (a1.trans (After.push c _ _ _)) (fun q => not_live_size _ (a1.2.live q)) ⟨0, Heap.get?_push_size _ rfl⟩ ?_) ?_
    · refine Rs.mono (fun a vs' l => ?_) x1
      refine ⟨l.1.push _, fun q => ?_⟩
      rcases List.mem_cons.mp q with e | q
      · subst e; exact not_live_size _ (IsList.live l.1)
      · exact l.2 q
    · show vs.toArray.size ≤ sizeLine
      have := Rs.length x1
      rw [List.size_toArray, this]
      exact Nat.le_trans hsz lim_le
  · cases hf
theorem tr_list {es : List Expr} {pos : Pos} {f : Rho → Option (List D)} (t : TrEs b c n sc es f) : TrM b c n sc (.List es pos) (fun r => (f r).bind fun l => if l.length ≤ lim then some (.list l) else none) := fun _ _ _ _ _ _ _ _ _ _ _ _ _ _ hA hs S hf h => by
  obtain ⟨ds, h1, hf⟩ := bind_some hf
  split at hf
  · rename_i hsz
    cases hf
    refine List_ (t hA hs S h1 fun vs s1 a1 x1 => ?_)
    have S1 := S.after a1
    refine wpAny_newObj_type (h _ _ (a1.trans (After.push c _ _ _)) (After.new S1.Ml x1 S.zM)) ?_
    show vs.toArray.size ≤ sizeLine
    have := Rs.length x1
    rw [List.size_toArray, this]
    exact Nat.le_trans hsz lim_le
  · cases hf

/-! ### f-strings -/
def TrJ (c : Cx) (n : Nat) (sc : Scope) (es : List Expr) (f : Rho → Option (List Str)) : Prop :=
  ∀ ⦃prog : Program⦄ ⦃w : World⦄ ⦃A : Around⦄ ⦃E : Value → Shared → Prop⦄ ⦃X0 : List Addr⦄ ⦃s0 : Shared⦄ ⦃env : Env⦄ ⦃gd : List (Addr × Obj)⦄ ⦃hid : List (Value × D)⦄ ⦃ow : List (Str × Addr)⦄ ⦃r : Rho⦄ ⦃s : Shared⦄ ⦃Q : Value → Shared → Prop⦄ ⦃ds : List Str⦄ ⦃out : Str⦄,
    AOk n A → env.scope = sc → St c X0 s0 env gd hid ow r s → f r = some ds → out.length + (ds.map (·.length)).sum ≤ lim →
    (∀ t s', After c s s' → Q (.str (ds.foldl (· ++ ·) out) t) s') → wpAny (model prog w) A (joinParts out (evalEach es env)) Q E s
theorem trJ_nil : TrJ c n sc [] (fun _ => some []) := fun _ _ _ _ _ _ _ _ _ _ _ _ _ _ _ hA hs S hf hl h => by
  cases hf
  exact joinParts_nil (h _ _ (After.tok c _ _)) (Nat.le_trans (by simpa using hl) lim_le)
theorem trJ_cons {e : Expr} {es : List Expr} {f : Rho → Option D} {g : Rho → Option (List Str)} (t : TrM b c n sc e f) (u : TrJ c n sc es g) :
    TrJ c n sc (e :: es) (fun r => (f r).bind fun d => match d with | .str x => (g r).map (x :: ·) | _ => none) := fun {prog w A E X0 s0 env gd hid ow r s Q ds out} hA hs S hf hl h => by
  obtain ⟨d, h1, hf⟩ := bind_some hf
  cases d <;> simp only [reduceCtorEq] at hf
  rename_i x
  cases hg : g r with
  | none => rw [hg] at hf; cases hf
  | some ds' =>
    rw [hg] at hf
    cases hf
    have hl' : (out ++ x).length + (ds'.map (·.length)).sum ≤ lim := by
      rw [strLen_append]
      simp only [List.map_cons, List.sum_cons] at hl
      omega
    show wpAny _ _ (joinParts out (eval e env :: evalEach es env)) Q E s
    refine joinParts_cons (t hA hs S h1 fun v s1 a1 x1 => ?_)
    obtain ⟨tk, rfl⟩ := x1.str_inv
    exact ⟨Nat.le_trans (by omega) lim_le, u hA hs (S.after a1) hg hl' fun t2 s2 a2 => h t2 s2 (a1.trans a2)⟩
theorem tr_fstr {e1 e2 : Expr} {es : List Expr} {pos : Pos} {f : Rho → Option (List Str)} (t : TrJ c n sc (e1 :: e2 :: es) f) :
    TrM b c n sc (.JoinedStr (e1 :: e2 :: es) pos) (fun r => (f r).bind fun l => if (l.map (·.length)).sum ≤ lim then some (.str (l.foldl (· ++ ·) Str.empty)) else none) := fun _ _ _ _ _ _ _ _ _ _ _ _ _ _ hA hs S hf h => by
  obtain ⟨ds, h1, hf⟩ := bind_some hf
  split at hf
  · rename_i hl
    cases hf
    exact JoinedStr_many (t hA hs S h1 (by show 0 + _ ≤ _; omega) fun t' s' a => h _ _ a .str)
  · cases hf
def strLim : D → Option D
  | .str x => if x.length ≤ lim then some (.str x) else none
  | _ => none
theorem tr_fval {e : Expr} {pos : Pos} {f : Rho → Option D} (t : TrM b c n sc e f) : TrM b c n sc (.FormattedValue e (-1) none pos) (fun r => (f r).bind strLim) := fun _ _ _ _ _ _ _ _ _ _ _ _ _ _ hA hs S hf h => by
  obtain ⟨d, h1, hf⟩ := bind_some hf
  cases d <;> simp only [strLim, reduceCtorEq] at hf
  split at hf
  · rename_i hl
    cases hf
    refine FormattedValue_plain (t hA hs S h1 fun v s1 a1 x1 => ?_)
    obtain ⟨tk, rfl⟩ := x1.str_inv
    exact formatField_str (fun t' tk' => h _ _ (a1.tk _) .str) (Nat.le_trans hl lim_le)
  · cases hf
end
end Mine
end SLa7

/-! La8 -/
noncomputable section SLa8
namespace Mine
section
variable {c : Cx} {n : Nat} {sc : Scope} {b : Bool}

def Sto (sc : Scope) (x : Str) : Prop := sc.names.lookup x = some .local ∨ sc.names.lookup x = some .cell
theorem Sto.of {x : Str} {env : Env} (h : Sto sc x) (hs : env.scope = sc) (hf : FnOk c env) : env.kindOf x = some .local ∨ (env.kindOf x = some .cell ∧ env.func ≠ none) := by
  subst hs
  rcases h with h | h
  · exact .inl h
  · exact .inr ⟨h, hf.ne⟩

theorem trSs_nil : TrSs c n sc [] (fun r => some (r, .next)) := fun _ _ _ _ _ _ _ _ _ _ _ _ _ _ _ hA hs hfn S hf h => by
  cases hf; exact wpAny_execs_nil (h _ _ _ S trivial)
def seqF (f g : Rho → Option (Rho × Fl)) (r : Rho) : Option (Rho × Fl) :=
  (f r).bind fun p => match p.2 with
    | .next => g p.1
    | fl => some (p.1, fl)
theorem trSs_cons {st : Stmt} {es : List Stmt} {f g : Rho → Option (Rho × Fl)} (t : TrS c n sc st f) (u : TrSs c n sc es g) : TrSs c n sc (st :: es) (seqF f g) := fun _ _ _ _ _ _ _ _ _ _ _ _ _ _ _ hA hs hfn S hf h => by
  obtain ⟨⟨r1, f1⟩, h1, hf⟩ := bind_some hf
  refine wpAny_execs_cons (t hA hs hfn S h1 fun f' s' ow' S' hr => ?_)
  cases f1 with
  | next =>
    cases f' <;> simp only [RFl] at hr
    exact u hA hs hfn S' hf h
  | brk =>
    cases hf
    cases f' <;> simp only [RFl] at hr
    exact h _ _ _ S' trivial
  | cont =>
    cases hf
    cases f' <;> simp only [RFl] at hr
    exact h _ _ _ S' trivial
  | ret d =>
    cases hf
    cases f' <;> simp only [RFl] at hr
    exact h _ _ _ S' hr

/-- a name is given a value -/
theorem trS_assign {x : Str} {p pos : Pos} {e : Expr} {f : Rho → Option D} (t : TrE c n sc e f) (hk : Sto sc x) (hsw : ∀ env, swapsWith e (some (.Name x p)) pos.line env = pure false := by intro _; rfl) :
    TrS c n sc (.Assign [.Name x p] e pos) (fun r => (f r).bind fun d => some ((r.kill x).put x (.sh d), .next)) := fun _ _ _ _ _ _ _ _ _ _ _ _ _ _ _ hA hs hfn S hf h => by
  obtain ⟨d, h1, hf⟩ := bind_some hf
  cases hf
  refine wpAny_Assign_Name (t hA hs S h1 fun v s1 a1 x1 => ?_) (hsw _)
  refine wp_storeName (S.after a1) (hk.of hs hfn) fun h' tk b hw T => ?_
  obtain ⟨⟨h1', tk1, rfl⟩, e1⟩ := a1
  exact h _ _ _ (S.store_sh e1 hw T x1) trivial
/-- a name is given a list that the frame will turn -/
theorem trS_assignO {x : Str} {p pos : Pos} {e : Expr} {f : Rho → Option (List D)} (t : TrF c n sc e f) (hk : Sto sc x) (hsw : ∀ env, swapsWith e (some (.Name x p)) pos.line env = pure false := by intro _; rfl) :
    TrS c n sc (.Assign [.Name x p] e pos) (fun r => (f r).bind fun d => some ((r.kill x).put x (.own d), .next)) := fun _ _ _ _ _ _ _ _ _ _ _ _ _ _ _ hA hs hfn S hf h => by
  obtain ⟨d, h1, hf⟩ := bind_some hf
  cases hf
  refine wpAny_Assign_Name (t hA hs S h1 fun a vs s1 a1 hl hp hr => ?_) (hsw _)
  refine wp_storeName (S.after a1) (hk.of hs hfn) fun h' tk b hw T => ?_
  obtain ⟨⟨h1', tk1, rfl⟩, e1⟩ := a1
  exact h _ _ _ (S.store_own e1 hw T hl hp hr) trivial
/-- two names, one value (no list) -/
theorem trS_assign2 {x y : Str} {p q pos : Pos} {e : Expr} {f : Rho → Option D} (t : TrE c n sc e f) (hk : Sto sc x) (hk2 : Sto sc y) (hw : ∀ env, swappedStores [.Name x p, .Name y q] e env = pure none := by intro _; rfl) :
    TrS c n sc (.Assign [.Name x p, .Name y q] e pos) (fun r => ((f r).bind flat?).bind fun d => some ((((r.kill x).put x (.sh d)).kill y).put y (.sh d), .next)) := fun _ _ _ _ _ _ _ _ _ _ _ _ _ _ _ hA hs hfn S hf h => by
  obtain ⟨d, h1, hf⟩ := bind_some hf
  obtain ⟨d', h0, h2⟩ := bind_some h1
  obtain ⟨rfl, hfl⟩ := flat_of h2
  cases hf
  refine wpAny_Assign_two (t hA hs S h0 fun v s1 a1 x1 => ?_) rfl (hw _)
  refine wpAny_assign_Name (wp_storeName (S.after a1) (hk.of hs hfn) fun h' tk b hw T => ?_)
  obtain ⟨⟨h1', tk1, rfl⟩, e1⟩ := a1
  have S2 := S.store_sh (tk := tk) e1 hw T x1
  refine wpAny_assign_Name (wp_storeName S2 (hk2.of hs hfn) fun h'' tk' b' hw' T' => ?_)
  exact h _ _ _ (S2.store_sh (Ext.refl c _) hw' T' (x1.flat hfl)) trivial
/-- x, y = (e1, e2), stored from behind -/
theorem trS_tup2 {x y : Str} {p q pos tpos vpos : Pos} {k k' : Nat} {e1 e2 : Expr} {f : Rho → Option (List D)} (t : TrEs true c n sc [e1, e2] f) (hk : Sto sc x) (hk2 : Sto sc y)
    (hs1 : ∀ env, swapsWithSole [.Tuple [.Name x p, .Name y q] k tpos] (.Tuple [e1, e2] k' vpos) pos.line env = pure false := by intro _; rfl)
    (hsw : ∀ env, env.scope = sc → swappedStores [.Tuple [.Name x p, .Name y q] k tpos] (.Tuple [e1, e2] k' vpos) env = pure (some [x, y])) :
    TrS c n sc (.Assign [.Tuple [.Name x p, .Name y q] k tpos] (.Tuple [e1, e2] k' vpos) pos) (fun r => (f r).bind fun l => match l with
      | [d1, d2] => some ((((r.kill y).put y (.sh d2)).kill x).put x (.sh d1), .next)
      | _ => none) := fun {prog w A E X0 s0 env gd hid ow r r' fl s Q} hA hs hfn S hf h => by
  obtain ⟨l, h1, hf⟩ := bind_some hf
  split at hf
  · rename_i d1 d2
    cases hf
    refine Assign_Tuple_swapped (names := [x, y]) ?_ (hs1 _) (hsw _ hs)
    refine Tuple_ (t hA hs S h1 fun vs s1 a1 x1 => ?_)
    obtain ⟨v, u, rfl, r1, r2⟩ := x1.two_inv
    have S1 := S.after a1
    refine wpAny_newObj_type ?_ (by show [v, u].toArray.size ≤ sizeLine; rw [sizeLine_eq]; show 2 ≤ _; omega)
    have hT : IsTup (s1.heap.push { cls := .type "tuple", data := .seq [v, u].toArray }) s1.heap.objs.size [v, u].toArray := ⟨_, Heap.get?_push_size _ rfl, rfl, 0, rfl⟩
    refine unpackItems_tuple (items := [v, u].toArray) hA.hd hT fun h' he => ?_
    have a2 : After c s { s1 with heap := h' } := a1.trans (After.heap0 (Ext.of fun b o e => he b o (by
      show b ≠ (s1.heap.push _).objs.size
      rw [Heap.size_push]
      exact Nat.ne_of_lt (Nat.lt_succ_of_lt (Heap.lt_size e))) (Heap.get?_push_of_some _ e)))
    have S2 := S.after a2
    have r1' : R (LP h' (XX ow X0)) v d1 := S.mvM (b := true) (s1 := s1) (s' := { s1 with heap := h' }) (After.heap0 (Ext.of fun b o e => he b o (by
      show b ≠ (s1.heap.push _).objs.size
      rw [Heap.size_push]
      exact Nat.ne_of_lt (Nat.lt_succ_of_lt (Heap.lt_size e))) (Heap.get?_push_of_some _ e))) r1
    have r2' : R (LP h' (XX ow X0)) u d2 := S.mvM (b := true) (s1 := s1) (s' := { s1 with heap := h' }) (After.heap0 (Ext.of fun b o e => he b o (by
      show b ≠ (s1.heap.push _).objs.size
      rw [Heap.size_push]
      exact Nat.ne_of_lt (Nat.lt_succ_of_lt (Heap.lt_size e))) (Heap.get?_push_of_some _ e))) r2
    show wpAny _ _ (assignInOrder [bindName env y, bindName env x] [u, v]) _ _ _
    refine assignInOrder_cons (wpAny_bindName (wp_storeName S2 (hk2.of hs hfn) fun h'' tk b hw T => ?_))
    have S3 := S2.store_sh (tk := tk) (Ext.refl c _) hw T r2'
    refine assignInOrder_cons (wpAny_bindName (wp_storeName S3 (hk.of hs hfn) fun h3 tk3 b3 hw3 T3 => assignInOrder_nil ?_))
    refine h _ _ _ (S3.store_sh (Ext.refl c _) hw3 T3 ?_) trivial
    refine R.mono (fun a vs q => ⟨T.isList q.1, fun w => q.2 ?_⟩) r1'
    rcases List.mem_append.mp w with w | w
    · exact List.mem_append_left _ (((dropO_sub ow y).map _).subset w)
    · exact List.mem_append_right _ w
  · cases hf
theorem trS_aug {x : Str} {p pos : Pos} {op : Operator} {e : Expr} {f : Rho → Option D} {o : D → D → Option D} (t : TrE c n sc e f) (ho : Act2 c n (inplaceOp op) o) (hk : Sto sc x)
    (hd : (x == ("__debug__" : Str)) = false := by decide) (hn : (x == ("__classdict__" : Str)) = false := by decide) :
    TrS c n sc (.AugAssign (.Name x p) op e pos) (fun r => (match r.get x with | some (.sh d) => some d | _ => none).bind fun d0 => (f r).bind fun d1 => (o d0 d1).bind fun d => some ((r.kill x).put x (.sh d), .next)) := fun {prog w A E X0 s0 env gd hid ow r r' fl s Q} hA hs hfn S hf h => by
  obtain ⟨d0, h0, hf⟩ := bind_some hf
  obtain ⟨d1, h1, hf⟩ := bind_some hf
  obtain ⟨d, h2, hf⟩ := bind_some hf
  cases hf
  have ld : ∀ {Q' : Value → Shared → Prop}, (∀ v, R (LP s.heap (XX ow X0)) v d0 → Q' v s) → wpAny (model prog w) A (loadName env x) Q' E s := fun {Q'} hq => by
    cases hx : r.get x with
    | none => rw [hx] at h0; cases h0
    | some en =>
      rw [hx] at h0
      cases en <;> simp only [reduceCtorEq] at h0
      cases h0
      obtain ⟨v, l, o⟩ := S.vars x _ hx
      have hq := hq v o
      rcases l with ⟨k, m, hm, q⟩ | ⟨k | k, a, ha, hc⟩
      · exact wpAny_loadName_local S.kf k hm q hq
      · exact wpAny_loadName_cell S.kf k ha hc hq
      · exact wpAny_loadName_free S.kf k ha hc hq hn
  refine wpAny_AugAssign_Name (ld fun v0 x0 => t hA hs S h1 fun v s1 a1 x1 => ?_)
  have S1 := S.after a1
  refine ho hA S1.glo S1.zX S1.Xl (S.mv a1 x0) x1 h2 fun v2 s2 a2 x2 => ?_
  have a12 := a1.trans a2
  refine wp_storeName (S.after a12) (hk.of hs hfn) fun h' tk b hw T => ?_
  obtain ⟨⟨h1', tk1, rfl⟩, e1⟩ := a12
  exact h _ _ _ (S.store_sh e1 hw T x2) trivial
theorem trS_if {test : Expr} {body orelse : List Stmt} {pos : Pos} {f : Rho → Option Bool} {g k : Rho → Option (Rho × Fl)} (t : TrT c n sc test f) (u : TrSs c n sc body g) (v : TrSs c n sc orelse k) :
    TrS c n sc (.If test body orelse pos) (fun r => (f r).bind fun t => if t then g r else k r) := fun _ _ _ _ _ _ _ _ _ _ _ _ _ _ _ hA hs hfn S hf h => by
  obtain ⟨tv, h1, hf⟩ := bind_some hf
  refine wpAny_If (t hA hs S h1 fun s1 a1 => ?_)
  cases tv with
  | true => exact u hA hs hfn (S.after a1) hf h
  | false => exact v hA hs hfn (S.after a1) hf h
theorem trS_ret {e : Expr} {pos : Pos} {f : Rho → Option D} (t : TrB c n sc e f) : TrS c n sc (.Return (some e) pos) (fun r => (f r).bind fun d => some (r, .ret d)) := fun _ _ _ _ _ _ _ _ _ _ _ _ _ _ _ hA hs hfn S hf h => by
  obtain ⟨d, h1, hf⟩ := bind_some hf
  cases hf
  exact wpAny_Return_some (t hA hs S h1 fun v s1 a1 x1 => h _ _ _ (S.after a1) x1)
theorem trS_brk {pos : Pos} : TrS c n sc (.Break pos) (fun r => some (r, .brk)) := fun _ _ _ _ _ _ _ _ _ _ _ _ _ _ _ hA hs hfn S hf h => by
  cases hf; exact wpAny_Break (h _ _ _ S trivial)
theorem trS_assert {test : Expr} {msg : Option Expr} {pos : Pos} {f : Rho → Option Bool} (t : TrT c n sc test f) : TrS c n sc (.Assert test msg pos) (fun r => (f r).bind fun t => if t then some (r, .next) else none) := fun _ _ _ _ _ _ _ _ _ _ _ _ _ _ _ hA hs hfn S hf h => by
  obtain ⟨tv, h1, hf⟩ := bind_some hf
  cases tv with
  | false => cases hf
  | true =>
    cases hf
    exact wpAny_Assert_holds (t hA hs S h1 fun s1 a1 => ⟨rfl, h _ _ _ (S.after a1) trivial⟩)

/-! ### while -/
def whileF (ft : Rho → Option Bool) (fb : Rho → Option (Rho × Fl)) : Nat → Rho → Option (Rho × Fl)
  | 0, _ => none
  | k + 1, r => (ft r).bind fun t => match t with
    | true => (fb r).bind fun p => match p.2 with
      | .next => whileF ft fb k p.1
      | .cont => whileF ft fb k p.1
      | .brk => some (p.1, .next)
      | .ret d => some (p.1, .ret d)
    | false => some (r, .next)
theorem trS_while (N : Nat) {test : Expr} {body : List Stmt} {pos : Pos} {ft : Rho → Option Bool} {fb : Rho → Option (Rho × Fl)} (t : TrT c n sc test ft) (u : TrSs c n sc body fb) :
    TrS c n sc (.While test body [] pos) (whileF ft fb N) := fun {prog w A E X0 s0 env gd hid ow r r' fl s Q} hA hs hfn S hf h => by
  refine wpAny_While (codeAny_whileLoop (fun k s' => ∃ ow' r1, St c X0 s0 env gd hid ow' r1 s' ∧ whileF ft fb k r1 = some (r', fl)) ?_ N ⟨ow, r, S, hf⟩)
  rintro k s' ⟨ow', r1, S1, hf1⟩
  cases k with
  | zero => cases hf1
  | succ k =>
    obtain ⟨tv, h1, hf1⟩ := bind_some hf1
    refine t hA hs S1 h1 fun s2 a2 => ?_
    cases tv with
    | false =>
      cases hf1
      exact wpAny_execs_nil (h _ _ _ (S1.after a2) trivial)
    | true =>
      obtain ⟨⟨r2, f2⟩, h2, hf1⟩ := bind_some hf1
      refine u hA hs hfn (S1.after a2) h2 fun f' s3 ow3 S3 hr => ?_
      cases f2 with
      | next =>
        cases f' <;> simp only [RFl] at hr
        exact ⟨k, Nat.lt_succ_self k, ow3, r2, S3, hf1⟩
      | cont =>
        cases f' <;> simp only [RFl] at hr
        exact ⟨k, Nat.lt_succ_self k, ow3, r2, S3, hf1⟩
      | brk =>
        cases f' <;> simp only [RFl] at hr
        cases hf1
        exact h _ _ _ S3 trivial
      | ret d =>
        cases f' <;> simp only [RFl] at hr
        cases hf1
        exact h _ _ _ S3 hr

/-! ### the frame's own lists -/
theorem ownOf {X0 : List Addr} {s0 : Shared} {env : Env} {gd : List (Addr × Obj)} {hid : List (Value × D)} {ow : List (Str × Addr)} {r : Rho} {s : Shared} {y : Str} {l : List D} (S : St c X0 s0 env gd hid ow r s) (h : r.get y = some (.own l))
    {prog : Program} {w : World} {A : Around} {E : Value → Shared → Prop} {Q : Value → Shared → Prop} {pos : Pos} (hd : (y == ("__debug__" : Str)) = false) (hn : (y == ("__classdict__" : Str)) = false)
    (hq : ∀ a vs, (y, a) ∈ ow → s.heap.PlainList a vs → Rs (LP s.heap (XX ow X0)) vs.toList l → Q (.ref a) s) : wpAny (model prog w) A (eval (.Name y pos) env) Q E s := by
  obtain ⟨v, lo, a, vs, rfl, hm, hp, hr⟩ := S.vars y _ h
  have hq := hq a vs hm hp hr
  rcases lo with ⟨k, m, hm, q⟩ | ⟨k | k, a, ha, hc⟩
  · exact wpAny_Name (wpAny_loadName_local S.kf k hm q hq) hd
  · exact wpAny_Name (wpAny_loadName_cell S.kf k ha hc hq) hd
  · exact wpAny_Name (wpAny_loadName_free S.kf k ha hc hq hn) hd
def getOwn (r : Rho) (y : Str) : Option (List D) := match r.get y with
  | some (.own l) => some l
  | _ => none
theorem getOwn_of {r : Rho} {y : Str} {l : List D} (h : getOwn r y = some l) : r.get y = some (.own l) := by
  unfold getOwn at h
  split at h
  · rename_i l' e; cases h; exact e
  · cases h
/-- y.append(e) -/
theorem trS_append {y : Str} {p apos pos spos : Pos} {e : Expr} {f : Rho → Option (List D)} (pls : Env → Sem Bool) (t : TrEs true c n sc [e] f) (pl : Plain [e])
    (hc : ∀ env, eval (.Call (.Attribute (.Name y p) "append" apos) [e] [] pos) env = (do
      let ov ← eval (.Name y p) env
      standAt apos.atName
      let (f, first) ← holding [ov] (getMethod ov "append" (pls env))
      callWith pos f first (backTo pos (starEach [e] env)) []))
    (hi : ∀ env, env.scope = sc → interactive env = false) (hsw : ∀ env, swapsWith (.Call (.Attribute (.Name y p) "append" apos) [e] [] pos) none spos.line env = pure false := by intro _; rfl)
    (hd : (y == ("__debug__" : Str)) = false := by decide) (hn : (y == ("__classdict__" : Str)) = false := by decide) :
    TrS c n sc (.Expr (.Call (.Attribute (.Name y p) "append" apos) [e] [] pos) spos) (fun r => (getOwn r y).bind fun l => (f r).bind fun ds => match ds with | [d] => if l.length < lim then some (r.put y (.own (l ++ [d])), .next) else none | _ => none) := fun {prog w A E X0 s0 env gd hid ow r r' fl s Q} hA hs hfn S hf h => by
  obtain ⟨l, h0, hf⟩ := bind_some hf
  obtain ⟨ds, h1, hf⟩ := bind_some hf
  split at hf <;> try (cases hf; done)
  rename_i d
  split at hf
  · rename_i hl
    cases hf
    have hy := getOwn_of h0
    refine wpAny_Expr ?_ (hi _ hs) (hsw _)
    refine MethodCall_ (ownOf S hy hd hn fun a vs hm hp hr => ?_) (hc _)
    obtain ⟨nn, e0⟩ := id hp
    refine Calls.getMethod_list_append e0 rfl rfl ?_
    refine Calls.callWith_builtin (pl _ _).1 (evalArgs_pl pl (t hA hs S h1 fun us s1 a1 x1 => ?_))
    have S1 := S.after a1
    have hz := (S.owp _ hm).2.2
    have hp1 : s1.heap.PlainList a vs := hp.at fun o e => a1.2.keep a o hz e
    have hlen := Rs.length hr
    obtain ⟨u, rfl, x2⟩ := x1.one_inv
    refine wpAny_list_append_plain hp1 (fun h' hp' hs' => ?_) ?_
    · have S2 := S1.mutate (tk := s1.toks) hy hm hs' hp' (l' := l ++ [d]) ?_
      · exact h _ _ _ S2 trivial
      · rw [Array.toList_push]
        exact Rs.append (S.mvs a1 hr) x1
    · simp only [Array.length_toList] at hlen
      rw [hlen]
      exact Nat.le_trans (Nat.le_of_lt hl) lim_le
  · cases hf
end
end Mine
end SLa8

/-! La9 -/
noncomputable section SLa9
namespace Mine
section
variable {c : Cx} {n : Nat} {sc : Scope} {b : Bool}

theorem setItem_plain {prog : Program} {w : World} {A : Around} {E : Value → Shared → Prop} {s : Shared} {l : Addr} {items : Array Value} {k : Int} {t : Tok} {v : Value} {Q : Unit → Shared → Prop} (hl : s.heap.PlainList l items)
    (h0 : 0 ≤ k) (hfit : k < 2 ^ 63) (hn : k < items.size)
    (hQ : ∀ h', h'.PlainList l (items.setIfInBounds k.toNat v) → Heap.SameBut l s.heap h' → Q () { s with heap := h' }) :
    wpAny (model prog w) A (setItem (.ref l) (.int k t) v) Q E s := by
  obtain ⟨ne, ho⟩ := hl
  have hI : s.heap.IsList l items := ⟨_, ho, rfl, ne, rfl⟩
  unfold setItem
  try with_reducible refine wpAny_holding ?_
  first | refine wpAny_bind (wpAny_pure ?_) | skip
  refine wpAny_bind (wpAny_sequenceKey hI.typeIs (by decide) ?_)
  refine wpAny_bind (wpAny_callSpecial?_slot (name := Str.ofString "__setitem__") hI.typeIs slot_list_setitem
    (wpAny_call_entry slot_list_setitem hI.typeIs entry_list_setitem ?_ (args_list_setitem _ _ _)))
  show wpAny _ _ (Builtin.List.listSubscript? (.int k t) >>= _) _ _ s
  refine wpAny_bind (wpAny_listSubscript_int (fitsIndex_of h0 hfit) ?_)
  clear hfit
  obtain ⟨j, rfl⟩ := Int.eq_ofNat_of_zero_le h0
  have hj : j < items.size := by omega
  have hx' : items[j]? = some items[j] := Array.getElem?_eq_getElem hj
  show wpAny _ _ ((seqItemAt l j >>= fun r => pure (r.map (j, ·))) >>= _) _ _ s
  refine wpAny_bind (wpAny_bind (wpAny_seqItemAt ho rfl (wpAny_pure ?_)))
  rw [hx']
  show wpAny _ _ (setSeqItemAt l j v >>= _) _ _ s
  have hfin : (s.heap.update l (Obj.mapSeq (·.setIfInBounds j v))).PlainList l (items.setIfInBounds j v) :=
    ⟨ne, (Heap.get?_update_self _ ho (by simp [Obj.mapSeq, Obj.isFreed])).trans (by simp [Obj.mapSeq])⟩
  refine wpAny_bind (wpAny_setSeqItemAt ho rfl ?_)
  first
    | exact wpAny_bind (wpAny_pure (wpAny_pure ⟨.none, rfl, wpAny_pure (hQ _ hfin (Heap.SameBut.update ..))⟩))
    | exact wpAny_pure ⟨.none, rfl, wpAny_pure (hQ _ hfin (Heap.SameBut.update ..))⟩

theorem Rs.set {P : Addr → Array Value → Prop} : ∀ {vs : List Value} {ds : List D}, Rs P vs ds → ∀ (i : Nat) {v : Value} {d : D}, R P v d → Rs P (vs.set i v) (ds.set i d)
  | _, _, .nil, _, _, _, _ => .nil
  | _, _, .cons r q, 0, _, _, h => .cons h q
  | _, _, .cons r q, i + 1, _, _, h => .cons r (Rs.set q i h)

/-- y[i] = e on an owned list -/
theorem trS_setItem {y : Str} {p spos pos : Pos} {i e : Expr} {f g : Rho → Option D} (te : TrE c n sc e f) (ti : TrE c n sc i g)
    (hsw : ∀ env, swapsWith e (some (.Subscript (.Name y p) i spos)) pos.line env = pure false := by intro _; rfl)
    (hd : (y == ("__debug__" : Str)) = false := by decide) (hn : (y == ("__classdict__" : Str)) = false := by decide) :
    TrS c n sc (.Assign [.Subscript (.Name y p) i spos] e pos) (fun r => (f r).bind fun d => (getOwn r y).bind fun l => (g r).bind fun k => match k with
      | .int k => if 0 ≤ k ∧ k < (l.length : Int) ∧ l.length ≤ lim then some (r.put y (.own (l.set k.toNat d)), .next) else none
      | _ => none) := fun {prog w A E X0 s0 env gd hid ow r r' fl s Q} hA hs hfn S hf h => by
  obtain ⟨d, h1, hf⟩ := bind_some hf
  obtain ⟨l, h0, hf⟩ := bind_some hf
  obtain ⟨k, h2, hf⟩ := bind_some hf
  cases k <;> simp only [reduceCtorEq] at hf
  rename_i k
  split at hf
  · rename_i hk
    cases hf
    have hy := getOwn_of h0
    refine wpAny_Assign_Subscript (te hA hs S h1 fun v s1 a1 x1 => ?_) (hsw _)
    have S1 := S.after a1
    refine ownOf S1 hy hd hn fun a vs hm hp hr => ti hA hs S1 h2 fun kv s2 a2 x2 => ?_
    obtain ⟨t, rfl⟩ := x2.int_inv
    have S2 := S1.after a2
    have hz := (S.owp _ hm).2.2
    have hp2 : s2.heap.PlainList a vs := hp.at fun o e => a2.2.keep a o hz e
    have hlen := Rs.length hr
    simp only [Array.length_toList] at hlen
    have : lim = 1000000 := lim_eq
    refine setItem_plain hp2 hk.1 (by omega) (by omega) fun h' hp' hs' => ?_
    have S3 := S2.mutate (tk := s2.toks) hy hm hs' hp' (l' := l.set k.toNat d) ?_
    · exact h _ _ _ S3 trivial
    · rw [Array.toList_setIfInBounds]
      exact Rs.set (S1.mvs a2 hr) _ (S1.mv a2 x1)
  · cases hf

/-! ### what is gone through -/
def ItV (c : Cx) (X : List Addr) (v : Value) (ds : List D) (s : Shared) : Prop :=
  ∀ {prog : Program} {w : World} {A : Around} {E : Value → Shared → Prop} {Q : Value → Shared → Prop}, A.handled = none →
    (∀ (I : Addr) (fp : List Addr) (P : Nat → Value → Prop) (T : Nat → Heap → Prop) (hl : List (Value × D)) (s' : Shared), After c s s' → ¬ live s.heap I → live s'.heap I →
      (∀ A' : Around, A'.handled = none → Walks prog w A' I fp [I] ds.length P T) → T 0 s'.heap →
      (∀ i h, T i h → ∃ o vs K, h.get? I = some o ∧ o.cls = .type K ∧ K ≠ "builtin_function_or_method" ∧ o.data = .fields vs) →
      (∀ a ∈ fp, a = I ∨ ∃ vs, LP s'.heap X a vs) → (∀ p ∈ hl, R (LP s'.heap X) p.1 p.2) →
      (∀ i v, i < ds.length → P i v → ∃ d, ds[i]? = some d ∧ ((Flat d ∧ R (fun _ _ => False) v d) ∨ (v, d) ∈ hl)) → Q (.ref I) s') → wpAny (model prog w) A (pyIter v) Q E s
def TrI (b : Bool) (c : Cx) (n : Nat) (sc : Scope) (e : Expr) (f : Rho → Option (List D)) : Prop :=
  ∀ ⦃prog : Program⦄ ⦃w : World⦄ ⦃A : Around⦄ ⦃E : Value → Shared → Prop⦄ ⦃X0 : List Addr⦄ ⦃s0 : Shared⦄ ⦃env : Env⦄ ⦃gd : List (Addr × Obj)⦄ ⦃hid : List (Value × D)⦄ ⦃ow : List (Str × Addr)⦄ ⦃r : Rho⦄ ⦃s : Shared⦄ ⦃Q : Value → Shared → Prop⦄ ⦃ds : List D⦄,
    AOk n A → env.scope = sc → St c X0 s0 env gd hid ow r s → f r = some ds →
    (∀ v s', After c s s' → ItV c (MX b c ow X0) v ds s' → Q v s') → wpAny (model prog w) A (eval e env) Q E s
theorem iter_list {X : List Addr} {a : Addr} {vs : Array Value} {ds : List D} {s : Shared} (hz : ∀ z ∈ c.Z, z ∈ X) (hl : LP s.heap X a vs) (hr : Rs (LP s.heap X) vs.toList ds) : ItV c X (.ref a) ds s := fun {prog w A E Q} hA h => by
  have hlt : a ≠ s.heap.objs.size := Nat.ne_of_lt (IsList.live hl.1).lt
  have hlen := Rs.length hr
  simp only [Array.length_toList] at hlen
  refine wpAny_pyIter_list hl.1 (h s.heap.objs.size [s.heap.objs.size, a] (fun i v => vs[i]? = some v) (fun i h => h.IsListIter s.heap.objs.size a i ∧ h.IsList a vs) (vs.toList.zip ds) _ (After.push c s _ _) (not_live_size _) (live.of (Heap.get?_push_size _ rfl))
    (fun A' hA' => hlen ▸ Walks.list hA' _ a hlt vs) ⟨⟨_, Heap.get?_push_size _ rfl, rfl, rfl⟩, hl.1.push _⟩ (fun i h ⟨⟨o, h1, h2, h3⟩, _⟩ => ⟨o, _, _, h1, h2, by decide, h3⟩) (fun b hb => ?_) (fun p hp => ?_) fun i v _ hv => ?_)
  · rcases List.mem_cons.mp hb with e | hb
    · exact .inl e
    · rcases List.mem_cons.mp hb with e | hb
      · subst e; exact .inr ⟨vs, hl.1.push _, hl.2⟩
      · cases hb
  · have : ∀ {vs : List Value} {ds : List D}, Rs (LP s.heap X) vs ds → ∀ p ∈ vs.zip ds, R (LP s.heap X) p.1 p.2 := by
      intro vs ds hr
      induction ds generalizing vs with
      | nil => intro p hp; simp at hp
      | cons d ds ih =>
        cases hr with
        | cons r q =>
          intro p hp
          rw [List.zip_cons_cons] at hp
          rcases List.mem_cons.mp hp with e | hp
          · subst e; exact r
          · exact ih q p hp
    exact R.mono (LP.ext (Ext.push c _ _) hz fun _ q => .inl q) (this hr p hp)
  · obtain ⟨d, e1, e2⟩ := Rs.get' hr i v (by simpa using hv)
    refine ⟨d, e1, .inr ?_⟩
    have e3 : (vs.toList.zip ds)[i]? = some (v, d) := by
      rw [List.getElem?_zip_eq_some]
      exact ⟨by simpa using hv, e1⟩
    exact List.mem_of_getElem? e3
def strSigns (x : Str) : List D := x.cps.toList.map fun k => .str ⟨#[k]⟩
theorem iter_str {X : List Addr} {x : Str} {t : Tok} {s : Shared} : ItV c X (.str x t) (strSigns x) s := fun {prog w A E Q} hA h => by
  have hlen : (strSigns x).length = x.cps.size := by simp [strSigns]
  have item : ∀ i v, SignAt x i v → ∃ d, (strSigns x)[i]? = some d ∧ ((Flat d ∧ R (fun _ _ => False) v d) ∨ (v, d) ∈ ([] : List (Value × D))) := fun i v ⟨k, u, h1, h2⟩ => by
    subst h2
    refine ⟨.str ⟨#[k]⟩, ?_, .inl ⟨trivial, .str⟩⟩
    unfold strSigns
    rw [List.getElem?_map, Array.getElem?_toList, h1]
    rfl
  cases ha : x.cps.all (· < 128)
  · exact wpAny_pyIter_wide ha (h s.heap.objs.size [s.heap.objs.size] (SignAt x) (fun i h => h.IsStrIter s.heap.objs.size "str_iterator" x t i) [] _ (After.push c s _ _) (not_live_size _) (live.of (Heap.get?_push_size _ rfl))
      (fun A' hA' => hlen ▸ Walks.strWide hA' _ x t) ⟨_, Heap.get?_push_size _ rfl, rfl, rfl⟩ (fun i h ⟨o, h1, h2, h3⟩ => ⟨o, _, _, h1, h2, by decide, h3⟩) (fun b hb => .inl (by simpa using hb)) (fun p hp => nomatch hp) fun i v _ => item i v)
  · exact wpAny_pyIter_ascii ha (h s.heap.objs.size [s.heap.objs.size] (SignAt x) (fun i h => h.IsStrIter s.heap.objs.size "str_ascii_iterator" x t i) [] _ (After.push c s _ _) (not_live_size _) (live.of (Heap.get?_push_size _ rfl))
      (fun A' hA' => hlen ▸ Walks.strAscii hA' _ x t) ⟨_, Heap.get?_push_size _ rfl, rfl, rfl⟩ (fun i h ⟨o, h1, h2, h3⟩ => ⟨o, _, _, h1, h2, by decide, h3⟩) (fun b hb => .inl (by simpa using hb)) (fun p hp => nomatch hp) fun i v _ => item i v)
def asItems : D → Option (List D)
  | .list l => some l
  | .str x => some (strSigns x)
  | _ => none
theorem trI_of {e : Expr} {f : Rho → Option D} (t : TrM b c n sc e f) : TrI b c n sc e (fun r => (f r).bind asItems) := fun {prog w A E X0 s0 env gd hid ow r s Q ds} hA hs S hf h => by
  obtain ⟨d, h1, hf⟩ := bind_some hf
  refine t hA hs S h1 fun v s1 a1 x1 => h v s1 a1 ?_
  cases d <;> simp only [asItems, reduceCtorEq] at hf
  · cases hf
    obtain ⟨tk, rfl⟩ := x1.str_inv
    exact iter_str
  · cases hf
    obtain ⟨a, vs, rfl, p, q⟩ := x1.list_inv
    exact iter_list S.zM p q

/-- range(n) -/
def rangeD (a : Int) (k : Nat) : List D := (List.range k).map fun (i : Nat) => .int (a + i)
def oRange : D → Option (List D)
  | .int m => if -big < m ∧ m < big then some (rangeD 0 m.toNat) else none
  | _ => none
theorem range_size (m : Int) : Builtin.Range.rangeSize 0 m 1 = (m.toNat : Int) := by
  rw [rangeSize_one]
  split <;> omega
theorem trI_range {p pos : Pos} {e : Expr} {f : Rho → Option (List D)} (tn : TrE c n sc (.Name "range" p) (fun _ => some (.ty "range"))) (ta : TrEs true c n sc [e] f) (pl : Plain [e]) :
    TrI b c n sc (.Call (.Name "range" p) [e] [] pos) (fun r => (f r).bind fun l => match l with | [d] => oRange d | _ => none) := fun {prog w A E X0 s0 env gd hid ow r s Q ds} hA hs S hf h => by
  obtain ⟨l, h1, hf⟩ := bind_some hf
  split at hf <;> try (cases hf; done)
  rename_i d
  cases d <;> simp only [oRange, reduceCtorEq] at hf
  rename_i m
  split at hf <;> try (cases hf; done)
  rename_i hm
  cases hf
  refine wpAny_Call_NameR (tn hA hs S rfl fun v s1 a1 x1 => ?_)
  cases x1
  refine PySem.callWith_type (pl _ _).1 (evalArgs_pl pl (ta hA hs (S.after a1) h1 fun vs s2 a2 x2 => ?_))
  obtain ⟨u, rfl, x3⟩ := x2.one_inv
  obtain ⟨t, rfl⟩ := x3.int_inv
  refine call_range_1 (h _ _ ((a1.trans a2).trans (After.push c _ _ _)) fun {prog w A E Q} hA h => ?_)
  have hR : IsRange (s2.heap.push { cls := .type "range", data := .fields #[.int 0 s2.toks, .int m t, .int 1 (s2.toks + 1)] }) s2.heap.objs.size 0 m 1 s2.toks t (s2.toks + 1) := Heap.get?_push_size _ rfl
  refine wpAny_pyIter_range hR (small_one (by omega) (by omega) (by have := big_eq; omega) (by have := big_eq; omega)) ?_
  rw [range_size]
  have hsz : (rangeD 0 m.toNat).length = m.toNat := by simp [rangeD]
  refine h _ [_] (fun i v => ∃ t, v = .int (0 + (i : Nat) * 1) t) (fun i h => IsRangeIter h _ (0 + (i : Nat) * 1) ((m.toNat : Int) - (i : Nat)) 1) [] _ (After.push c _ _ _) (not_live_size _) (live.of (Heap.get?_push_size _ rfl)) (fun A' hA' => by rw [hsz]; exact Walks.range hA' _ 0 1 m.toNat)
    (Heap.get?_push_size _ rfl) (fun i h hT => ⟨_, _, "range_iterator", hT, rfl, by decide, rfl⟩) (fun b hb => .inl (by simpa using hb)) (fun p hp => nomatch hp) fun i v hi hv => ?_
  obtain ⟨t', rfl⟩ := hv
  rw [hsz] at hi
  refine ⟨.int (0 + (i : Nat) * 1), ?_, .inl ⟨trivial, .int⟩⟩
  unfold rangeD
  rw [List.getElem?_map, List.getElem?_range hi]
  simp

def forF (x : Str) (fb : Rho → Option (Rho × Fl)) : List D → Rho → Option (Rho × Fl)
  | [], r => some (r, .next)
  | d :: ds, r => (fb ((r.kill x).put x (.sh d))).bind fun p => match p.2 with
    | .next => forF x fb ds p.1
    | .cont => forF x fb ds p.1
    | .brk => some (p.1, .next)
    | .ret d => some (p.1, .ret d)
theorem pick_objs {h : Heap} {X : List Addr} {I : Addr} : ∀ (fp : List Addr), (∀ a ∈ fp, a = I ∨ ∃ vs, LP h X a vs) → ∃ l : List (Addr × Obj), (∀ a ∈ fp, a ≠ I → ∃ o, (a, o) ∈ l) ∧ ∀ p ∈ l, h.get? p.1 = some p.2 ∧ p.1 ≠ I ∧ ∃ vs, LP h X p.1 vs
  | [], _ => ⟨[], fun a h => (nomatch h), fun p h => nomatch h⟩
  | a :: r, hf => by
    obtain ⟨l, h1, h2⟩ := pick_objs r fun b hb => hf b (List.mem_cons_of_mem _ hb)
    by_cases ha : a = I
    · refine ⟨l, fun b hb hne => ?_, h2⟩
      rcases List.mem_cons.mp hb with e | hb
      · exact absurd (e.trans ha) hne
      · exact h1 b hb hne
    · rcases hf a List.mem_cons_self with e | ⟨vs, lp⟩
      · exact absurd e ha
      · obtain ⟨o, ho, hr⟩ := id lp.1
        refine ⟨(a, o) :: l, fun b hb hne => ?_, fun p hp => ?_⟩
        · rcases List.mem_cons.mp hb with e | hb
          · subst e; exact ⟨o, List.mem_cons_self⟩
          · obtain ⟨o', h'⟩ := h1 b hb hne; exact ⟨o', List.mem_cons_of_mem _ h'⟩
        · rcases List.mem_cons.mp hp with e | hp
          · subst e; exact ⟨ho, ha, vs, lp⟩
          · exact h2 p hp
theorem St.not_locals {X0 : List Addr} {s0 : Shared} {env : Env} {gd : List (Addr × Obj)} {hid : List (Value × D)} {ow : List (Str × Addr)} {r : Rho} {s : Shared} (S : St c X0 s0 env gd hid ow r s) {a : Addr} {o : Obj} (ho : s.heap.get? a = some o)
    (hd : ∀ es n, o.data ≠ .dict es n) : a ≠ env.locals := fun e => by
  obtain ⟨m, o1, es, ep, h1, h2, _⟩ := S.ns
  rw [← e, ho] at h1
  cases h1
  exact hd _ _ h2
theorem St.not_cell {X0 : List Addr} {s0 : Shared} {env : Env} {gd : List (Addr × Obj)} {hid : List (Value × D)} {ow : List (Str × Addr)} {r : Rho} {s : Shared} (S : St c X0 s0 env gd hid ow r s) {a : Addr} {o : Obj} (ho : s.heap.get? a = some o)
    (hd : ∀ v, o.data ≠ .cell v) : ∀ x, env.cells.lookup x ≠ some a := fun x e => by
  obtain ⟨⟨v, o1, h1, h2⟩, _⟩ := S.cl x a e
  rw [ho] at h1
  cases h1
  exact hd _ h2
theorem St.not_own {X0 : List Addr} {s0 : Shared} {env : Env} {gd : List (Addr × Obj)} {hid : List (Value × D)} {ow : List (Str × Addr)} {r : Rho} {s : Shared} (S : St c X0 s0 env gd hid ow r s) {a : Addr} {o : Obj} (ho : s.heap.get? a = some o)
    (hd : ∀ v n, o.data ≠ .seq v n) : a ∉ ow.map (·.2) := fun e => by
  obtain ⟨p, hp, rfl⟩ := List.mem_map.mp e
  obtain ⟨⟨vs, n, h1⟩, _⟩ := S.owp p hp
  rw [ho] at h1
  cases h1
  exact hd _ _ rfl
theorem trS_for {x : Str} {px pos : Pos} {iter : Expr} {body : List Stmt} {f : Rho → Option (List D)} {fb : Rho → Option (Rho × Fl)} (ti : TrI true c n sc iter f) (tb : TrSs c n sc body fb) (hk : Sto sc x)
    (hfold : ∀ env v, foldedSetIterable iter env v = pure v := by intro _ _; rfl) :
    TrS c n sc (.For (.Name x px) iter body [] pos) (fun r => (f r).bind fun ds => forF x fb ds r) := fun {prog w A E X0 s0 env gd hid ow r r' fl s Q} hA hs hfn S hf h => by
  obtain ⟨ds, h1, hf⟩ := bind_some hf
  refine wpAny_For (ti hA hs S h1 fun v s1 a1 it => it hA.hd fun I fp P T hl s2 a2 hnl hlv W hT hobj hfp hhl hP => ?_) (hfold _)
  have S1 := S.after a1
  have S2 := S1.after a2
  obtain ⟨lst, l1, l2⟩ := pick_objs fp hfp
  have hIs0 : ¬ live s0.heap I := fun q => hnl (S1.keep.live q)
  have hIz : I ∉ c.Z := fun q => hnl (S1.glo.zl I q).live
  have hIg : I ∉ (lst ++ gd).map (·.1) := fun q => by
    obtain ⟨p, hp, e⟩ := List.mem_map.mp q
    rcases List.mem_append.mp hp with hp | hp
    · exact (l2 p hp).2.1 e
    · exact hnl (e ▸ live.of (S1.gds p hp).1)
  have S3 : St c X0 s0 env (lst ++ gd) (hl ++ hid) ow r s2 := (S2.gd_add fun p hp => by
    obtain ⟨q1, q2, vs, q3, q4⟩ := l2 p hp
    obtain ⟨o, h1, h2, n, h3⟩ := q3
    have e : o = p.2 := by rw [q1] at h1; exact (Option.some.inj h1).symm
    subst e
    exact ⟨q1, fun z => q4 (S2.zX _ z), S2.not_locals q1 (fun es n' w => by rw [w] at h3; cases h3), S2.not_cell q1 (fun v w => by rw [w] at h3; cases h3), fun z => q4 (List.mem_append_left _ z)⟩).hid_add hhl
  refine codeAny_forLoop (fun k s' => ∃ i ow' r1, k = ds.length + 1 - i ∧ i ≤ ds.length ∧ St c X0 s0 env (lst ++ gd) (hl ++ hid) ow' r1 s' ∧ T i s'.heap ∧ forF x fb (ds.drop i) r1 = some (r', fl)) ?_ (ds.length + 1)
    ⟨0, ow, r, rfl, Nat.zero_le _, S3, hT, hf⟩
  rintro k s' ⟨i, ow', r1, rfl, hi, Sp, hTi, hfi⟩
  have step : ∀ {h' : Heap} {tk : Nat}, (∀ b o, b ∉ [I] → s'.heap.get? b = some o → h'.get? b = some o) → St c X0 s0 env (lst ++ gd) (hl ++ hid) ow' r1 { s' with heap := h', toks := tk } := fun {h' tk} hkk => by
    obtain ⟨o, vs, K, q1, q2, q3, q4⟩ := hobj i _ hTi
    exact Sp.iter (fun b o hb e => hkk b o (by simpa using hb) e) hIs0 hIz hIg ⟨o, vs, K, q1, q2, q3, q4⟩
  by_cases hlt : i < ds.length
  · refine (W A hA.hd).item i s' _ _ hlt hTi fun v h1' tk hPv hT1 hk1 => ?_
    have Sq := step (tk := tk) hk1
    obtain ⟨oI, vsI, KI, q1, q2, q3, q4⟩ := hobj (i + 1) _ hT1
    have Sg : St c X0 s0 env ([(I, oI)] ++ (lst ++ gd)) (hl ++ hid) ow' r1 { s' with heap := h1', toks := tk } := Sq.gd_add fun p hp => by
      have : p = (I, oI) := by simpa using hp
      subst this
      exact ⟨q1, hIz, Sq.not_locals q1 (fun es n' w => by rw [w] at q4; cases q4), Sq.not_cell q1 (fun v w => by rw [w] at q4; cases q4), Sq.not_own q1 (fun v n' w => by rw [w] at q4; cases q4)⟩
    obtain ⟨d, hd, hR⟩ := hP i v hlt hPv
    have hRv : R (LP h1' (XX ow' X0)) v d := by
      rcases hR with ⟨hfl, hr⟩ | hm
      · exact hr.flat hfl
      · exact Sg.hids (v, d) (List.mem_append_left _ hm)
    have hdrop : ds.drop i = d :: ds.drop (i + 1) := by
      have hlt' := (List.getElem?_eq_some_iff.mp hd)
      obtain ⟨hh, he⟩ := hlt'
      rw [List.drop_eq_getElem_cons hh, he]
    rw [hdrop] at hfi
    obtain ⟨⟨r2, f2⟩, hb, hfi⟩ := bind_some hfi
    refine wpAny_assign_Name (wp_storeName Sg (hk.of hs hfn) fun h2' tk2 b hw Tst => ?_)
    have S4 := Sg.store_sh (tk := tk2) (Ext.refl c _) hw Tst hRv
    refine tb hA hs hfn S4 hb fun f' s5 ow5 S5 hr5 => ?_
    have hT5 : T (i + 1) s5.heap := (W A hA.hd).frame _ _ _ hT1 fun b hb o e => by
      by_cases hbI : b = I
      · subst hbI
        have e1 := (S5.gds (b, oI) (List.mem_append_left _ List.mem_cons_self)).1
        rw [q1] at e
        cases e
        exact e1
      · obtain ⟨o', ho'⟩ := l1 b hb hbI
        have m1 : (b, o') ∈ lst ++ gd := List.mem_append_left _ ho'
        have e1 := (Sq.gds (b, o') m1).1
        have e2 := (S5.gds (b, o') (List.mem_append_right _ m1)).1
        have e3 : h1'.get? b = some o' := e1
        rw [e3] at e
        cases e
        exact e2
    have S6 : St c X0 s0 env (lst ++ gd) (hl ++ hid) ow5 r2 s5 := S5.gd_drop
    cases f2 with
    | next =>
      cases f' <;> simp only [RFl] at hr5
      exact ⟨ds.length + 1 - (i + 1), by omega, i + 1, ow5, r2, rfl, hlt, S6, hT5, hfi⟩
    | cont =>
      cases f' <;> simp only [RFl] at hr5
      exact ⟨ds.length + 1 - (i + 1), by omega, i + 1, ow5, r2, rfl, hlt, S6, hT5, hfi⟩
    | brk =>
      cases f' <;> simp only [RFl] at hr5
      cases hfi
      exact h _ _ _ S6.gd_drop.hid_drop trivial
    | ret d' =>
      cases f' <;> simp only [RFl] at hr5
      cases hfi
      exact h _ _ _ S6.gd_drop.hid_drop hr5
  · have hin : i = ds.length := by omega
    subst hin
    rw [List.drop_length] at hfi
    cases hfi
    refine (W A hA.hd).done s' _ _ hTi fun h1' tk hk1 => wpAny_execs_nil ?_
    exact h _ _ _ (step (tk := tk) hk1).gd_drop.hid_drop trivial
end
end Mine
end SLa9

/-! La10 -/
noncomputable section SLa10
namespace Mine

theorem bindL_miss {k : Str → Option NameKind} : ∀ (l : List (Str × Value)) (m : Str → Option Value) (x : Str), x ∉ l.map (·.1) → bindL k l m x = m x
  | [], _, _, _ => rfl
  | (y, v) :: r, m, x, h => by
    rw [List.map_cons, List.mem_cons, not_or] at h
    unfold bindL
    rw [bindL_miss r _ x h.2]
    split
    · exact if_neg h.1
    · rfl
theorem bindC_miss {k : Str → Option NameKind} : ∀ (l : List (Str × Value)) (m : Str → Option Value) (x : Str), x ∉ l.map (·.1) → bindC k l m x = m x
  | [], _, _, _ => rfl
  | (y, v) :: r, m, x, h => by
    rw [List.map_cons, List.mem_cons, not_or] at h
    unfold bindC
    rw [bindC_miss r _ x h.2]
    split
    · rfl
    · exact if_neg h.1
theorem bindL_hit {k : Str → Option NameKind} {x : Str} {v : Value} (hk : k x = some .local) : ∀ (l : List (Str × Value)) (m : Str → Option Value), (l.map (·.1)).Nodup → (x, v) ∈ l → bindL k l m x = some v
  | [], _, _, h => nomatch h
  | (y, u) :: r, m, hn, h => by
    rw [List.map_cons, List.nodup_cons] at hn
    unfold bindL
    rcases List.mem_cons.mp h with e | h
    · cases e
      rw [if_pos hk, bindL_miss r _ x hn.1]
      exact if_pos rfl
    · exact bindL_hit hk r _ hn.2 h
theorem bindC_hit {k : Str → Option NameKind} {x : Str} {v : Value} (hk : k x ≠ some .local) : ∀ (l : List (Str × Value)) (m : Str → Option Value), (l.map (·.1)).Nodup → (x, v) ∈ l → bindC k l m x = some v
  | [], _, _, h => nomatch h
  | (y, u) :: r, m, hn, h => by
    rw [List.map_cons, List.nodup_cons] at hn
    unfold bindC
    rcases List.mem_cons.mp h with e | h
    · cases e
      rw [if_neg hk, bindC_miss r _ x hn.1]
      exact if_pos rfl
    · exact bindC_hit hk r _ hn.2 h
theorem cellsFrom_acc : ∀ (names : List (Str × NameKind)) (n : Nat) (acc : List (Str × Addr)) (x : Str), (acc.lookup x).isSome = true → ((cellsFrom n names acc).lookup x).isSome = true
  | [], _, _, _, h => h
  | (y, k) :: r, n, acc, x, h => by
    unfold cellsFrom
    split
    · refine cellsFrom_acc r _ _ x ?_
      rw [List.lookup_cons]
      cases (x == y) <;> first | exact h | rfl
    · exact cellsFrom_acc r _ _ x h
theorem cellsFrom_has : ∀ (names : List (Str × NameKind)) (n : Nat) (acc : List (Str × Addr)) (x : Str), names.lookup x = some .cell → ((cellsFrom n names acc).lookup x).isSome = true
  | [], _, _, _, h => by cases h
  | (y, k) :: r, n, acc, x, h => by
    rw [List.lookup_cons] at h
    unfold cellsFrom
    cases hb : x == y with
    | true =>
      rw [hb] at h
      cases h
      rw [if_pos (by decide)]
      refine cellsFrom_acc r _ _ x ?_
      rw [List.lookup_cons, hb]
      rfl
    | false =>
      rw [hb] at h
      split
      · exact cellsFrom_has r _ _ x h
      · exact cellsFrom_has r _ _ x h
theorem zip_get {P : Addr → Array Value → Prop} : ∀ {names : List Str} {vs : List Value} {ds : List D}, Rs P vs ds → ∀ {x : Str} {e : Ent}, Rho.get (names.zip (ds.map Ent.sh)) x = some e → ∃ v d, e = .sh d ∧ R P v d ∧ (x, v) ∈ names.zip vs
  | [], _, _, _, x, e, h => by cases h
  | y :: names, _, _, .nil, x, e, h => by cases h
  | y :: names, _, _, .cons (v := v) (d := d) r q, x, e, h => by
    rw [List.map_cons, List.zip_cons_cons] at h
    unfold Rho.get at h
    rw [List.lookup_cons] at h
    cases hb : x == y with
    | true =>
      rw [hb] at h
      cases h
      have : x = y := beq_iff_eq.mp hb
      subst this
      exact ⟨v, d, rfl, r, List.mem_cons_self⟩
    | false =>
      rw [hb] at h
      obtain ⟨v', d', h1, h2, h3⟩ := zip_get (names := names) q h
      exact ⟨v', d', h1, h2, List.mem_cons_of_mem _ h3⟩

section
variable {c : Cx} {n : Nat}
/-- a def of the module's, once its body is known -/
theorem act_def {fa : Addr} {ob : Obj} {fd : FuncData} {body : List Stmt} {names : List Str} {f : Rho → Option (Rho × Fl)} {F : List D → Option D}
    (hob : c.FT fa = some ob) (hd : ob.data = .func fd) (hcr : ∀ h, Glo c h → h.CodeRec fd.code fd.qualname) (hbody : fd.body = .stmts body) (hclo : fd.closure = [])
    (hgl : fd.globals = mainGlobals) (hbi : fd.builtins = builtinsNs) (hnd : names.Nodup)
    (hbind : ∀ vals, vals.length = names.length → bindArgs fd ⟨vals, []⟩ = pure (names.zip vals))
    (hkind : ∀ x ∈ names, fd.scope.names.lookup x = some .local ∨ fd.scope.names.lookup x = some .cell)
    (t : TrSs c n fd.scope body f)
    (hF : ∀ ds d, F ds = some d → ds.length = names.length ∧ ∃ r', f (names.zip (ds.map Ent.sh)) = some (r', .ret d))
    (hco : fd.scope.isCoroutine = false := by rfl) (hgen : fd.scope.isGenerator = false := by rfl) (hk : fd.scope.kind = .function := by rfl) :
    ActL c (n + 1) (fun vs => call (.ref fa) vs) F := fun {prog w A E s Q vs ds d X} hA G hz hX ra ho h => by
  obtain ⟨hlen, r', hf⟩ := hF ds d ho
  have hvl : vs.length = names.length := (Rs.length ra).trans hlen
  have hmap : (names.zip vs).map (·.1) = names := by
    rw [List.map_fst_zip]; omega
  refine wpAny_call (codeAny_call_cells (binds := names.zip vs) hA.room (G.obs fa ob hob) hd G.lim (hcr _ G) hbody (hbind vs hvl) hclo (fun x hx => ?_) (fun s1 I => ?_) hco hgen hk)
  · have hm : x.1 ∈ names := by rw [← hmap]; exact List.mem_map_of_mem (f := (·.1)) hx
    rcases hkind x.1 hm with e | e
    · exact .inl e
    · exact .inr ⟨e, cellsFrom_has _ _ _ _ e⟩
  · have hLs : ¬ live s.heap s.heap.objs.size := not_live_size _
    have hfr : ∀ a, s.heap.objs.size ≤ a → ¬ live s.heap a := fun a ha l => absurd l.lt (Nat.not_lt.mpr ha)
    have hcf : ∀ x a, (callEnvC fd s.heap.objs.size fa).cells.lookup x = some a → ¬ live s.heap a := fun x a q => hfr a (Nat.le_of_lt (I.above x a (mem_of_lookup q)))
    have S : St c X s (callEnvC fd s.heap.objs.size fa) [] [] [] (names.zip (ds.map Ent.sh)) s1 := by
      refine ⟨hk, hgl, hbi, I.toInCall.same, G, Ext.of I.toInCall.keep, hz, hX, ⟨_, I.toInCall.ns⟩, fun q => hLs (hX _ (hz _ q)), hLs, fun x a q => ?_, fun x y a q1 q2 => name_of_addr I.apart (mem_of_lookup q1) (mem_of_lookup q2), fun _ x a _ q => hcf x a q, fun _ x q => ?_, fun p hp => (nomatch hp), fun p hp => (nomatch hp), .nil, .nil, fun p hp => (nomatch hp), fun x e q => ?_⟩
      · exact ⟨⟨_, I.cell x a q⟩, fun z => hcf x a q (hX _ (hz _ z))⟩
      · exact Option.isSome_iff_exists.mp (cellsFrom_has _ _ _ _ q)
      · obtain ⟨v, d', rfl, r1, hm⟩ := zip_get ra q
        refine ⟨v, ?_, R.mono (LP.ext (Ext.of I.toInCall.keep) hz fun _ q => .inl q) r1⟩
        have hmx : x ∈ names := by rw [← hmap]; exact List.mem_map_of_mem (f := (·.1)) hm
        rcases hkind x hmx with e | e
        · exact .inl ⟨e, _, I.toInCall.ns, bindL_hit e _ _ (by rw [hmap]; exact hnd) hm⟩
        · obtain ⟨a, ha⟩ := Option.isSome_iff_exists.mp (cellsFrom_has fd.scope.names (s.heap.objs.size + 1) [] x e)
          have hc := I.cell x a ha
          have hne : (callEnvC fd s.heap.objs.size fa).kindOf x ≠ some .local := by
            show fd.scope.names.lookup x ≠ some .local
            rw [e]; decide
          rw [bindC_hit hne _ _ (by rw [hmap]; exact hnd) hm] at hc
          exact .inr ⟨.inl e, a, ha, hc⟩
    refine t (hA.deeper _) rfl ⟨fa, ob, fd, rfl, hob, hd, rfl, rfl⟩ S hf fun f' s' ow' S' hr => ?_
    cases f' <;> simp only [RFl] at hr
    exact h _ _ ⟨S'.same, S'.keep⟩ hr
end
end Mine
end SLa10

/-! La11 -/
noncomputable section SLa11
namespace Mine
section
variable {c : Cx} {X0 : List Addr} {s0 : Shared} {env : Env} {gd : List (Addr × Obj)} {hid : List (Value × D)} {ow : List (Str × Addr)} {r : Rho} {s : Shared}

theorem St.weaken {r' : Rho} (S : St c X0 s0 env gd hid ow r s) (h : ∀ x e, r'.get x = some e → r.get x = some e) : St c X0 s0 env gd hid ow r' s :=
  { S with vars := fun x e q => S.vars x e (h x e q) }

/-- a list of the frame's that no name holds is turned -/
theorem St.mutateH {h' : Heap} {tk : Nat} {y : Str} {a : Addr} {vs' : Array Value} (S : St c X0 s0 env gd hid ow r s) (hy : r.get y = none) (ha : (y, a) ∈ ow)
    (hs : Heap.SameBut a s.heap h') (hp : h'.PlainList a vs') : St c X0 s0 env gd hid ow r { s with heap := h', toks := tk } := by
  have hax : a ∈ XX ow X0 := List.mem_append_left _ (List.mem_map_of_mem (f := (·.2)) ha)
  obtain ⟨⟨vs0, n0, e0⟩, f0, z0⟩ := S.owp _ ha
  have mon : ∀ a' vs, LP s.heap (XX ow X0) a' vs → LP h' (XX ow X0) a' vs := fun a' vs q =>
    ⟨IsList.at q.1 fun o e => (hs.2 a' fun w => q.2 (w ▸ hax)).trans e, q.2⟩
  have ne : ∀ b o, s.heap.get? b = some o → (∀ n, o.data ≠ .seq vs0 n) → b ≠ a := fun b o e q w => by
    rw [w] at e
    have e0' : s.heap.get? a = some { cls := .type "list", data := .seq vs0 n0 } := e0
    rw [e0'] at e
    cases e
    exact q n0 rfl
  refine ⟨S.kf, S.eg, S.eb, let ⟨_, _, q⟩ := S.same; ⟨h', tk, by rw [q]⟩, S.glo0, ⟨fun b o hb e => ?_, fun z hz q => (S.keep.zl z hz q).keep fun o w => (hs.2 z fun w => z0 (w ▸ hz)).trans w, fun z hz q => ?_⟩, S.zx, S.xl, ?_, S.nz, S.nf, fun x b q => ?_, S.ci, S.cf, S.fnc, fun p hp' => ?_, fun p hp' => R.mono mon (S.hids p hp'), S.owk, S.owa, fun p hp' => ?_, fun x e q => ?_⟩
  · exact (hs.2 b fun w => f0 (w ▸ live.of e)).trans (S.keep.keep b o hb e)
  · have := S.keep.zv z hz q
    unfold live at this ⊢
    rw [hs.2 z fun w => z0 (w ▸ hz)]; exact this
  · obtain ⟨m, n⟩ := S.ns
    refine ⟨m, n.at fun o e => (hs.2 _ (ne _ o e fun n' w => ?_)).trans e⟩
    obtain ⟨o1, es, ep, h1, h2, _⟩ := n
    rw [e] at h1; cases h1
    rw [w] at h2; cases h2
  · obtain ⟨⟨v, o, h1, h2⟩, hz⟩ := S.cl x b q
    exact ⟨⟨v, o, (hs.2 b (ne b o h1 fun n' w => by rw [w] at h2; cases h2)).trans h1, h2⟩, hz⟩
  · obtain ⟨a1, a2, a3, a4, a5⟩ := S.gds p hp'
    exact ⟨(hs.2 p.1 fun w => a5 (by rw [w]; exact List.mem_map_of_mem (f := (·.2)) ha)).trans a1, a2, a3, a4, a5⟩
  · obtain ⟨⟨vs, n, e⟩, a2, a3⟩ := S.owp p hp'
    by_cases w : p.2 = a
    · exact ⟨⟨vs', w ▸ hp⟩, a2, a3⟩
    · exact ⟨⟨vs, n, (hs.2 _ w).trans e⟩, a2, a3⟩
  · have loads : ∀ {v : Value}, Loads env s.heap x v → Loads env h' x v := fun {v} w => by
      rcases w with ⟨k, m, n, q⟩ | ⟨k, b, q, o, ho, hd⟩
      · refine .inl ⟨k, m, n.at fun o e => (hs.2 _ (ne _ o e fun n' w => ?_)).trans e, q⟩
        obtain ⟨o1, es, ep, h1, h2, _⟩ := n
        rw [e] at h1; cases h1
        rw [w] at h2; cases h2
      · exact .inr ⟨k, b, q, o, (hs.2 b (ne b o ho fun n' w => by rw [w] at hd; cases hd)).trans ho, hd⟩
    have hxy : x ≠ y := fun w => by rw [w, hy] at q; cases q
    obtain ⟨v, l1, o⟩ := S.vars x e q
    refine ⟨v, loads l1, ?_⟩
    cases e with
    | sh d => exact R.mono mon o
    | own l2 =>
      obtain ⟨a', vs, rfl, hm, hpl, hr2⟩ := o
      refine ⟨a', vs, rfl, hm, ?_, Rs.mono mon hr2⟩
      have hne : a' ≠ a := fun w => by
        subst w
        have : ∀ (ow : List (Str × Addr)), (ow.map (·.2)).Nodup → ∀ u v, (u, a') ∈ ow → (v, a') ∈ ow → u = v := by
          intro ow
          induction ow with
          | nil => intro _ u v hu; cases hu
          | cons p q ih =>
            intro hn u v hu hv
            rw [List.map_cons, List.nodup_cons] at hn
            rcases List.mem_cons.mp hu with e1 | e1 <;> rcases List.mem_cons.mp hv with e2 | e2
            · rw [← e1] at e2; exact (Prod.mk.inj e2).1.symm
            · exact absurd (List.mem_map_of_mem (f := (·.2)) e2) (by rw [← e1] at hn; exact hn.1)
            · exact absurd (List.mem_map_of_mem (f := (·.2)) e1) (by rw [← e2] at hn; exact hn.1)
            · exact ih hn.2 u v e1 e2
        exact hxy (this ow S.owa _ _ hm ha)
      obtain ⟨n, e⟩ := hpl
      exact ⟨n, (hs.2 _ hne).trans e⟩
    | app y' =>
      obtain ⟨m, a', rfl, hm, ⟨o', ho', hc', hd'⟩, hz⟩ := o
      exact ⟨m, a', rfl, hm, ⟨o', (hs.2 m (ne m o' ho' fun n' w => by rw [w] at hd'; cases hd')).trans ho', hc', hd'⟩, hz⟩
    | dead => exact trivial
end

/-! ### an iterator in its state -/
structure Going (c : Cx) (X0 : List Addr) (s0 : Shared) (env : Env) (gd : List (Addr × Obj)) (hid : List (Value × D)) (prog : Program) (w : World) (I : Addr) (ds : List D) (T : Nat → Heap → Prop) : Prop where
  item : ∀ {ow : List (Str × Addr)} {r : Rho} {s : Shared} {i : Nat} {d : D} {A : Around} {E : Value → Shared → Prop} {Q : Option Value → Shared → Prop}, St c X0 s0 env gd hid ow r s → T i s.heap → ds[i]? = some d → A.handled = none →
    (∀ v s' oI, R (LP s'.heap (XX ow X0)) v d → (∀ a vs, a ∈ XX ow X0 → s.heap.PlainList a vs → s'.heap.PlainList a vs) → (∀ a vs, LP s.heap (XX ow X0) a vs → LP s'.heap (XX ow X0) a vs) → St c X0 s0 env ((I, oI) :: gd) hid ow r s' →
      (∀ {ow5 : List (Str × Addr)} {r5 : Rho} {s5 : Shared}, St c X0 s0 env ((I, oI) :: gd) hid ow5 r5 s5 → T (i + 1) s5.heap ∧ St c X0 s0 env gd hid ow5 r5 s5) → Q (some v) s') → wpAny (model prog w) A (pyNext (.ref I)) Q E s
  done : ∀ {ow : List (Str × Addr)} {r : Rho} {s : Shared} {i : Nat} {A : Around} {E : Value → Shared → Prop} {Q : Option Value → Shared → Prop}, St c X0 s0 env gd hid ow r s → T i s.heap → i = ds.length → A.handled = none →
    (∀ s', St c X0 s0 env gd hid ow r s' → (∀ a vs, a ∈ XX ow X0 → s.heap.PlainList a vs → s'.heap.PlainList a vs) → (∀ a vs, LP s.heap (XX ow X0) a vs → LP s'.heap (XX ow X0) a vs) → Q none s') → wpAny (model prog w) A (pyNext (.ref I)) Q E s
  self : ∀ {s : Shared} {i : Nat} {A : Around} {E : Value → Shared → Prop} {Q : Value → Shared → Prop}, T i s.heap → A.handled = none → Q (.ref I) s → wpAny (model prog w) A (pyIter (.ref I)) Q E s
  guard : ∀ {ow : List (Str × Addr)} {r : Rho} {s : Shared} {i : Nat}, St c X0 s0 env gd hid ow r s → T i s.heap → ∃ oI, St c X0 s0 env ((I, oI) :: gd) hid ow r s ∧
    ∀ {ow5 : List (Str × Addr)} {r5 : Rho} {s5 : Shared}, St c X0 s0 env ((I, oI) :: gd) hid ow5 r5 s5 → T i s5.heap ∧ St c X0 s0 env gd hid ow5 r5 s5
theorem going_of {c : Cx} {X0 : List Addr} {s0 : Shared} {env : Env} {gd : List (Addr × Obj)} {hid : List (Value × D)} {prog : Program} {w : World} {I : Addr} {fp : List Addr} {P : Nat → Value → Prop} {T : Nat → Heap → Prop} {hl : List (Value × D)} {ds : List D}
    (W : ∀ A' : Around, A'.handled = none → Walks prog w A' I fp [I] ds.length P T)
    (hobj : ∀ i h, T i h → ∃ o vs K, h.get? I = some o ∧ o.cls = .type K ∧ K ≠ "builtin_function_or_method" ∧ o.data = .fields vs)
    (hP : ∀ i v, i < ds.length → P i v → ∃ d, ds[i]? = some d ∧ ((Flat d ∧ R (fun _ _ => False) v d) ∨ (v, d) ∈ hl))
    (hlg : ∀ a ∈ fp, a ≠ I → ∃ o, (a, o) ∈ gd) (hlh : ∀ p ∈ hl, p ∈ hid) (hIs0 : ¬ live s0.heap I) (hIz : I ∉ c.Z) (hIg : I ∉ gd.map (·.1)) : Going c X0 s0 env gd hid prog w I ds T where
  self := fun hT hA hq => (W _ hA).self _ _ _ _ hT hq
  guard := fun {ow r s i} S hT => by
    obtain ⟨oI, vsI, KI, q1, q2, q3, q4⟩ := hobj i _ hT
    have Sg : St c X0 s0 env ([(I, oI)] ++ gd) hid ow r s := S.gd_add fun p hp => by
      have : p = (I, oI) := by simpa using hp
      subst this
      exact ⟨q1, hIz, S.not_locals q1 (fun es n' w => by rw [w] at q4; cases q4), S.not_cell q1 (fun v w => by rw [w] at q4; cases q4), S.not_own q1 (fun v n' w => by rw [w] at q4; cases q4)⟩
    refine ⟨oI, Sg, fun {ow5 r5 s5} S5 => ⟨?_, S5.gd_drop (gd' := [(I, oI)])⟩⟩
    refine (W { depth := 0, units := 0, handled := none } rfl).frame _ _ _ hT fun b hb o e => ?_
    by_cases hbI : b = I
    · subst hbI
      have e1 := (S5.gds (b, oI) List.mem_cons_self).1
      rw [q1] at e
      cases e
      exact e1
    · obtain ⟨o', ho'⟩ := hlg b hb hbI
      have e1 := (S.gds (b, o') ho').1
      have e2 := (S5.gds (b, o') (List.mem_cons_of_mem _ ho')).1
      rw [e1] at e
      cases e
      exact e2
  done := fun {ow r s i A E Q} S hT hi hA hq => by
    subst hi
    have ho := hobj _ _ hT
    refine (W A hA).done s _ _ hT fun h1 tk hk => hq _ (S.iter (fun b o hb e => hk b o (by simpa using hb) e) hIs0 hIz hIg ho) (fun a vs ha q => ?_) fun a vs q => ⟨?_, q.2⟩
    · obtain ⟨o, vs', K, q1, q2, q3, q4⟩ := ho
      obtain ⟨n, e⟩ := q
      refine ⟨n, hk a _ (fun w' => ?_) e⟩
      have : a = I := by simpa using w'
      rw [this, q1] at e
      cases e; cases q4
    · obtain ⟨o, vs', K, q1, q2, q3, q4⟩ := ho
      obtain ⟨o2, e, e2, n, e3⟩ := q.1
      refine ⟨o2, hk a _ (fun w' => ?_) e, e2, n, e3⟩
      have : a = I := by simpa using w'
      rw [this, q1] at e
      cases e
      rw [q4] at e3; cases e3
  item := fun {ow r s i d A E Q} S hT hd hA hq => by
    have hlt : i < ds.length := (List.getElem?_eq_some_iff.mp hd).1
    have ho := hobj _ _ hT
    refine (W A hA).item i s _ _ hlt hT fun v h1 tk hPv hT1 hk1 => ?_
    have Sq : St c X0 s0 env gd hid ow r { s with heap := h1, toks := tk } := S.iter (fun b o hb e => hk1 b o (by simpa using hb) e) hIs0 hIz hIg ho
    obtain ⟨oI, vsI, KI, q1, q2, q3, q4⟩ := hobj (i + 1) _ hT1
    have Sg : St c X0 s0 env ([(I, oI)] ++ gd) hid ow r { s with heap := h1, toks := tk } := Sq.gd_add fun p hp => by
      have : p = (I, oI) := by simpa using hp
      subst this
      exact ⟨q1, hIz, Sq.not_locals q1 (fun es n' w => by rw [w] at q4; cases q4), Sq.not_cell q1 (fun v w => by rw [w] at q4; cases q4), Sq.not_own q1 (fun v n' w => by rw [w] at q4; cases q4)⟩
    obtain ⟨d', hd', hR⟩ := hP i v hlt hPv
    rw [hd] at hd'
    cases hd'
    have hRv : R (LP h1 (XX ow X0)) v d := by
      rcases hR with ⟨hfl, hr⟩ | hm
      · exact hr.flat hfl
      · exact Sg.hids (v, d) (hlh _ hm)
    refine hq v _ oI hRv (fun a vs ha q => ?_) (fun a vs q => ⟨?_, q.2⟩) Sg fun {ow5 r5 s5} S5 => ⟨?_, S5.gd_drop (gd' := [(I, oI)])⟩
    · obtain ⟨o, vs', K, q1, q2, q3, q4⟩ := ho
      obtain ⟨n, e⟩ := q
      refine ⟨n, hk1 a _ (fun w' => ?_) e⟩
      have : a = I := by simpa using w'
      rw [this, q1] at e
      cases e; cases q4
    · obtain ⟨o, vs', K, q1, q2, q3, q4⟩ := ho
      obtain ⟨o2, e, e2, n, e3⟩ := q.1
      refine ⟨o2, hk1 a _ (fun w' => ?_) e, e2, n, e3⟩
      have : a = I := by simpa using w'
      rw [this, q1] at e
      cases e
      rw [q4] at e3; cases e3
    · refine (W A hA).frame _ _ _ hT1 fun b hb o e => ?_
      by_cases hbI : b = I
      · subst hbI
        have e1 := (S5.gds (b, oI) List.mem_cons_self).1
        rw [q1] at e
        cases e
        exact e1
      · obtain ⟨o', ho'⟩ := hlg b hb hbI
        have e1 := (Sq.gds (b, o') ho').1
        have e2 := (S5.gds (b, o') (List.mem_cons_of_mem _ ho')).1
        have e3 : h1.get? b = some o' := e1
        rw [e3] at e
        cases e
        exact e2

/-- what one goes through from the state itself -/
theorem going_state {c : Cx} {X0 : List Addr} {s0 : Shared} {env : Env} {gd : List (Addr × Obj)} {hid : List (Value × D)} {ow : List (Str × Addr)} {r : Rho} {s : Shared} {prog : Program} {w : World} {A : Around} {E : Value → Shared → Prop} {Q : Value → Shared → Prop} {v : Value} {ds : List D}
    (S : St c X0 s0 env gd hid ow r s) (it : ItV c (XX ow X0) v ds s) (hA : A.handled = none)
    (h : ∀ I gd1 hid1 T s2, After c s s2 → St c X0 s0 env (gd1 ++ gd) (hid1 ++ hid) ow r s2 → T 0 s2.heap → Going c X0 s0 env (gd1 ++ gd) (hid1 ++ hid) prog w I ds T → Q (.ref I) s2) : wpAny (model prog w) A (pyIter v) Q E s :=
  it hA fun I fp P T hl s2 a2 hnl hlv W hT hobj hfp hhl hP => by
    have S2 := S.after a2
    obtain ⟨lst, l1, l2⟩ := pick_objs fp hfp
    have hIz : I ∉ c.Z := fun q => hnl (S.glo.zl I q).live
    refine h I lst hl T s2 a2 ((S2.gd_add fun p hp => ?_).hid_add hhl) hT (going_of W hobj hP (fun a ha hne => ?_) (fun p hp => List.mem_append_left _ hp) (fun q => hnl (S.keep.live q)) hIz fun q => ?_)
    · obtain ⟨q1, q2, vs, q3, q4⟩ := l2 p hp
      obtain ⟨o, h1, h2, n, h3⟩ := q3
      have e : o = p.2 := by rw [q1] at h1; exact (Option.some.inj h1).symm
      subst e
      exact ⟨q1, fun z => q4 (S2.zX _ z), S2.not_locals q1 (fun es n' w => by rw [w] at h3; cases h3), S2.not_cell q1 (fun v w => by rw [w] at h3; cases h3), fun z => q4 (List.mem_append_left _ z)⟩
    · obtain ⟨o, ho⟩ := l1 a ha hne
      exact ⟨o, List.mem_append_left _ ho⟩
    · obtain ⟨p, hp, e⟩ := List.mem_map.mp q
      rcases List.mem_append.mp hp with hp | hp
      · exact (l2 p hp).2.1 e
      · exact hnl (e ▸ live.of (S.gds p hp).1)
end Mine
end SLa11

/-! La12 -/
noncomputable section SLa12
namespace Mine
section
variable {c : Cx} {n : Nat} {sc : Scope}

/-- what a comprehension adds to the list it makes -/
def TrA (c : Cx) (n : Nat) (sc : Scope) (m : Value → Env → Sem Unit) (f : Rho → Option (List D)) : Prop :=
  ∀ ⦃prog : Program⦄ ⦃w : World⦄ ⦃A : Around⦄ ⦃E : Value → Shared → Prop⦄ ⦃X0 : List Addr⦄ ⦃s0 : Shared⦄ ⦃env : Env⦄ ⦃gd : List (Addr × Obj)⦄ ⦃hid : List (Value × D)⦄ ⦃Da : Addr⦄ ⦃r : Rho⦄ ⦃s : Shared⦄ ⦃ys : Array Value⦄ ⦃l ds : List D⦄ ⦃Q : Unit → Shared → Prop⦄,
    AOk n A → env.scope = sc → St c X0 s0 env gd hid [((".acc" : Str), Da)] r s → r.get ".acc" = none → s.heap.PlainList Da ys → Rs (LP s.heap (XX [((".acc" : Str), Da)] X0)) ys.toList l → f r = some ds → l.length + ds.length ≤ lim →
    (∀ s' ys', St c X0 s0 env gd hid [((".acc" : Str), Da)] r s' → s'.heap.PlainList Da ys' → Rs (LP s'.heap (XX [((".acc" : Str), Da)] X0)) ys'.toList (l ++ ds) → Q () s') → wpAny (model prog w) A (m (.ref Da) env) Q E s
def emitElt (elt : Expr) (acc : Value) (env : Env) : Sem Unit := do let _ ← call (.builtin "list.append") [acc, ← eval elt env]
theorem trA_elt {elt : Expr} {f : Rho → Option D} (t : TrE c n sc elt f) : TrA c n sc (emitElt elt) (fun r => (f r).map fun d => [d]) := fun {prog w A E X0 s0 env gd hid Da r s ys l ds Q} hA hs S hr hp hl hf hlen h => by
  dsimp only at hf
  cases h1 : f r with
  | none => rw [h1] at hf; cases hf
  | some d =>
    rw [h1] at hf
    cases hf
    unfold emitElt
    refine wpAny_bind (t hA hs S h1 fun v s1 a1 x1 => ?_)
    have S1 := S.after a1
    have hz := (S.owp (".acc", Da) List.mem_cons_self).2.2
    have hp1 : s1.heap.PlainList Da ys := hp.at fun o e => a1.2.keep Da o hz e
    have hl1 := S.mvs a1 hl
    have hlen' := Rs.length hl
    simp only [Array.length_toList] at hlen'
    simp only [List.length_cons, List.length_nil] at hlen
    refine wpAny_bind (wpAny_list_append_plain (hsz := Nat.le_trans (by omega) lim_le) hp1 fun h5 hl5 hs5 => wpAny_pure ?_)
    refine h _ _ (S1.mutateH (tk := s1.toks) hr List.mem_cons_self hs5 hl5) hl5 ?_
    rw [Array.toList_push]
    refine Rs.mono (fun a vs q => ⟨IsList.at q.1 fun o e => (hs5.2 a fun w' => q.2 ?_).trans e, q.2⟩) (Rs.append hl1 (.one x1))
    subst w'
    exact List.mem_append_left _ List.mem_cons_self

def TrTs (c : Cx) (n : Nat) (sc : Scope) (es : List Expr) (f : Rho → Option Bool) : Prop :=
  ∀ ⦃prog : Program⦄ ⦃w : World⦄ ⦃A : Around⦄ ⦃E : Value → Shared → Prop⦄ ⦃X0 : List Addr⦄ ⦃s0 : Shared⦄ ⦃env : Env⦄ ⦃gd : List (Addr × Obj)⦄ ⦃hid : List (Value × D)⦄ ⦃ow : List (Str × Addr)⦄ ⦃r : Rho⦄ ⦃s : Shared⦄ ⦃Q : Bool → Shared → Prop⦄ ⦃b : Bool⦄,
    AOk n A → env.scope = sc → St c X0 s0 env gd hid ow r s → f r = some b →
    (∀ s', After c s s' → Q b s') → wpAny (model prog w) A (forIn es true fun c r => if r = true then do let ok ← isTrue c env (eval c env); pure (ForInStep.yield ok) else pure (ForInStep.yield r)) Q E s
theorem trTs_nil : TrTs c n sc [] (fun _ => some true) := fun _ _ _ _ _ _ _ _ _ _ _ _ _ _ hA hs S hf h => by
  cases hf; exact wpAny_tests_nil (h _ (After.refl c _))
theorem trTs_one {e : Expr} {f : Rho → Option Bool} (t : TrT c n sc e f) : TrTs c n sc [e] f := fun _ _ _ _ _ _ _ _ _ _ _ _ _ _ hA hs S hf h =>
  wpAny_tests_one (t hA hs S hf h)

def compF (x : Str) (ft : Rho → Option Bool) (fa : Rho → Option (List D)) : List D → Rho → Option (List D)
  | [], _ => some []
  | d :: ds, r => (ft ((x, .sh d) :: r)).bind fun t => (if t then fa ((x, .sh d) :: r) else some []).bind fun u => (compF x ft fa ds r).map (u ++ ·)

/-- one turn -/
def turnF (x : Str) (px : Pos) (iter : Expr) (ifs : List Expr) (em : Value → Env → Sem Unit) (e : Expr) (k : Nat) (it acc : Value) (env : Env) : Sem Fin := do
  standAt iter.pos
  match ← pyNext it with
  | none => pure (.done .next)
  | some v =>
    letOwnedTupleGo (.Name x px) it v
    assign (.Name x px) env v
    let mut ok := true
    for c in ifs do
      if ok then ok ← isTrue c env (eval c env)
    if ok then
      em acc env
    again (.compLoop e k it acc env)

theorem loop_acc {elt : Expr} {gens : List Comprehension} {csc : Scope} {pos : Pos} {k : Nat} {x : Str} {px : Pos} {iter : Expr} {ifs : List Expr} {em : Value → Env → Sem Unit} {ft : Rho → Option Bool} {fa : Rho → Option (List D)}
    (hturn : ∀ it acc env, compTurn (.ListComp elt gens csc pos) k it acc env = turnF x px iter ifs em (.ListComp elt gens csc pos) k it acc env)
    (tt : TrTs c n sc ifs ft) (ta : TrA c n sc em fa) (hk : Sto sc x) (hfx : sc.names.lookup x = some .local) (hxa : x ≠ ".acc")
    {prog : Program} {w : World} {A : Around} {X0 : List Addr} {s0 : Shared} {env : Env} {gd : List (Addr × Obj)} {hid : List (Value × D)} {Da : Addr} {r : Rho} {s : Shared} {ys : Array Value} {l ds out : List D} {I : Addr} {T : Nat → Heap → Prop} {RR : Result → Shared → Prop}
    (hA : AOk n A) (hs : env.scope = sc) (S : St c X0 s0 env gd hid [((".acc" : Str), Da)] r s) (hr : r.get ".acc" = none) (hrx : r.get x = none) (hkl : r.kill x = r) (hp : s.heap.PlainList Da ys) (hl : Rs (LP s.heap (XX [((".acc" : Str), Da)] X0)) ys.toList l)
    (hT : T 0 s.heap) (G : Going c X0 s0 env gd hid prog w I ds T) (hf : compF x ft fa ds r = some out) (hlen : l.length + out.length ≤ lim)
    (h : ∀ s' ys', St c X0 s0 env gd hid [((".acc" : Str), Da)] r s' → s'.heap.PlainList Da ys' → Rs (LP s'.heap (XX [((".acc" : Str), Da)] X0)) ys'.toList (l ++ out) → RR (.ok .next) s') :
    codeAny (model prog w) A (.compLoop (.ListComp elt gens csc pos) k (.ref I) (.ref Da) env) RR s := by
  refine codeAny_loop rfl (fun m s' => ∃ i ys' l' out', m = ds.length + 1 - i ∧ i ≤ ds.length ∧ St c X0 s0 env gd hid [((".acc" : Str), Da)] r s' ∧ s'.heap.PlainList Da ys' ∧ Rs (LP s'.heap (XX [((".acc" : Str), Da)] X0)) ys'.toList l' ∧ T i s'.heap ∧
    compF x ft fa (ds.drop i) r = some out' ∧ l' ++ out' = l ++ out) ?_ (ds.length + 1) ⟨0, ys, l, out, rfl, Nat.zero_le _, S, hp, hl, hT, hf, rfl⟩
  rintro m s' ⟨i, ys', l', out', rfl, hi, S', hp', hl', hT', hf', hlo⟩
  show wpAny _ A ((compTurn (.ListComp elt gens csc pos) k (.ref I) (.ref Da) env).onRaise (fun x => do noteFrame x env; theTreesLotGoes x)) _ _ s'
  refine wpAny_noted ?_
  rw [hturn]
  unfold turnF
  refine wpAny_bind (wpAny_standAt (wpAny_bind ?_))
  by_cases hlt : i < ds.length
  · obtain ⟨d, hd⟩ : ∃ d, ds[i]? = some d := ⟨ds[i], List.getElem?_eq_getElem hlt⟩
    have hdrop : ds.drop i = d :: ds.drop (i + 1) := by
      obtain ⟨hh, he⟩ := List.getElem?_eq_some_iff.mp hd
      rw [List.drop_eq_getElem_cons hh, he]
    rw [hdrop] at hf'
    obtain ⟨t, h1, hf'⟩ := bind_some hf'
    obtain ⟨u, h2, hf'⟩ := bind_some hf'
    obtain ⟨out2, h3, e3⟩ : ∃ o, compF x ft fa (ds.drop (i + 1)) r = some o ∧ u ++ o = out' := by
      cases h3 : compF x ft fa (ds.drop (i + 1)) r with
      | none => rw [h3] at hf'; cases hf'
      | some o => rw [h3] at hf'; exact ⟨o, rfl, Option.some.inj hf'⟩
    subst e3
    refine G.item S' hT' hd hA.hd fun v s1 oI hv hpl hlp S1 back => ?_
    refine wpAny_bind (wpAny_of_eq rfl (wpAny_bind (wpAny_assign_Name (wp_storeName S1 (.inl (by show Env.kindOf _ _ = _; unfold Env.kindOf; rw [hs]; exact hfx)) fun h' tk b hw Tst => ?_))))
    have hdo : dropO [((".acc" : Str), Da)] x = [((".acc" : Str), Da)] := by
      unfold dropO
      rw [List.filter_cons_of_pos (by simpa using fun e => hxa e.symm)]
      rfl
    have S2 := S1.store_sh (tk := tk) (Ext.refl c _) hw Tst hv
    rw [hdo] at S2
    have S3 : St c X0 s0 env ((I, oI) :: gd) hid [((".acc" : Str), Da)] ((x, .sh d) :: r) { s1 with heap := h', toks := tk } := S2.weaken fun y e q => by
      rw [hkl]
      rw [Rho.get_put]
      unfold Rho.get at q
      rw [List.lookup_cons] at q
      cases hb : y == x with
      | true =>
        rw [hb] at q
        rw [if_pos (beq_iff_eq.mp hb)]; exact q
      | false =>
        rw [hb] at q
        rw [if_neg (beq_eq_false_iff_ne.mp hb)]; exact q
    have hmem : Da ∈ XX [((".acc" : Str), Da)] X0 := List.mem_append_left _ List.mem_cons_self
    have hp1 : h'.PlainList Da ys' := Tst.plain (hpl _ _ hmem hp')
    have hl1 : Rs (LP h' (XX [((".acc" : Str), Da)] X0)) ys'.toList l' := Rs.mono (fun a vs q => ⟨Tst.isList q.1, q.2⟩) (Rs.mono hlp hl')
    refine wpAny_bind (tt hA hs S3 h1 fun s4 a4 => ?_)
    have S4 := S3.after a4
    have hz := (S.owp (".acc", Da) List.mem_cons_self).2.2
    have hp4 : s4.heap.PlainList Da ys' := hp1.at fun o e => a4.2.keep Da o hz e
    have hl4 := S3.mvs a4 hl1
    have hxr : Rho.get ((x, .sh d) :: r) ".acc" = none := by
      unfold Rho.get
      rw [List.lookup_cons, beq_eq_false_iff_ne.mpr fun e => hxa e.symm]
      exact hr
    have fin : ∀ s5 ys5, St c X0 s0 env ((I, oI) :: gd) hid [((".acc" : Str), Da)] ((x, .sh d) :: r) s5 → s5.heap.PlainList Da ys5 → Rs (LP s5.heap (XX [((".acc" : Str), Da)] X0)) ys5.toList (l' ++ u) →
        ∃ m, m < ds.length + 1 - i ∧ ∃ i ys' l' out', m = ds.length + 1 - i ∧ i ≤ ds.length ∧ St c X0 s0 env gd hid [((".acc" : Str), Da)] r s5 ∧ s5.heap.PlainList Da ys' ∧ Rs (LP s5.heap (XX [((".acc" : Str), Da)] X0)) ys'.toList l' ∧ T i s5.heap ∧
          compF x ft fa (ds.drop i) r = some out' ∧ l' ++ out' = l ++ out := fun s5 ys5 S5 hp5 hl5 => by
      obtain ⟨b1, b2⟩ := back S5
      refine ⟨ds.length + 1 - (i + 1), by omega, i + 1, ys5, l' ++ u, out2, rfl, hlt, b2.weaken fun y e q => ?_, hp5, hl5, b1, h3, by rw [List.append_assoc]; exact hlo⟩
      unfold Rho.get
      rw [List.lookup_cons, beq_eq_false_iff_ne.mpr fun e' => by rw [e', hrx] at q; cases q]
      exact q
    have hlen2 : l'.length + (u.length + out2.length) = l.length + out.length := by
      have := congrArg List.length hlo
      simpa using this
    cases t with
    | false =>
      cases h2
      refine wpAny_pure ⟨rfl, fin s4 ys' S4 hp4 (by rw [List.append_nil]; exact hl4)⟩
    | true =>
      refine wpAny_bind (ta hA hs S4 hxr hp4 hl4 h2 (by omega) fun s5 ys5 S5 hp5 hl5 => wpAny_pure ⟨rfl, fin s5 ys5 S5 hp5 hl5⟩)
  · have hin : i = ds.length := by omega
    refine G.done S' hT' hin hA.hd fun s1 S1 hpl hlp => wpAny_pure ?_
    have hmem : Da ∈ XX [((".acc" : Str), Da)] X0 := List.mem_append_left _ List.mem_cons_self
    rw [hin, List.drop_length] at hf'
    cases hf'
    rw [List.append_nil] at hlo
    subst hlo
    exact h _ ys' S1 (hpl _ _ hmem hp') (Rs.mono hlp hl')

/-- a second clause -/
def emitFor (e : Expr) (k : Nat) (iter : Expr) (acc : Value) (env : Env) : Sem Unit := do
  let x ← eval iter env
  standAt iter.pos
  let x ← foldedSetIterable iter env x
  let _ ← runOwn (.compStart e k (← holding [x] (pyIter x)) acc env) env
end
end Mine
end SLa12

/-! La13 -/
noncomputable section SLa13
namespace Mine

def clStep (env : Env) (cs : List (Str × Addr)) (p : Str × NameKind) : List (Str × Addr) := if p.2 == .free then (p.1, (env.cells.lookup p.1).getD 0) :: cs else cs
theorem forIn_fold {α β : Type} {f : α → β → Sem (ForInStep β)} {g : β → α → β} : ∀ {l : List α} (c : β), (∀ x ∈ l, ∀ c, f x c = pure (.yield (g c x))) → forIn l c f = pure (l.foldl g c)
  | [], c, _ => rfl
  | x :: l, c, h => by
    rw [List.forIn_cons, h x List.mem_cons_self, pure_bind]
    exact forIn_fold _ fun y hy => h y (List.mem_cons_of_mem _ hy)
theorem closure_eq {scope : Scope} {env : Env} (h : ∀ p ∈ scope.names, p.2 = .free → ∃ a, env.cells.lookup p.1 = some a) : closureFor scope env = pure (scope.names.foldl (clStep env) []) := by
  simp only [closureFor]
  rw [forIn_fold (g := clStep env) []]
  · rfl
  · rintro ⟨x, k⟩ hx cs
    unfold clStep
    by_cases hk : k = .free
    · subst hk
      obtain ⟨a, ha⟩ := h _ hx rfl
      dsimp only at ha ⊢
      have hb : (NameKind.free == NameKind.free) = true := by decide
      rw [if_pos hb, if_pos hb]
      unfold cellOf
      rw [ha]
      rfl
    · have hb : (k == NameKind.free) = false := by simpa using hk
      dsimp only
      rw [hb]
      rfl
theorem clFold_sub {env : Env} : ∀ (names : List (Str × NameKind)) (cs : List (Str × Addr)), (∀ p ∈ names, p.2 = .free → ∃ a, env.cells.lookup p.1 = some a) → (∀ x a, cs.lookup x = some a → env.cells.lookup x = some a) →
    (∀ x a, (names.foldl (clStep env) cs).lookup x = some a → env.cells.lookup x = some a)
  | [], _, _, h => h
  | p :: names, cs, h, hc => by
    refine clFold_sub names _ (fun q hq => h q (List.mem_cons_of_mem _ hq)) fun x a hx => ?_
    unfold clStep at hx
    split at hx
    · rename_i hk
      rw [List.lookup_cons] at hx
      cases hb : x == p.1 with
      | true =>
        rw [hb] at hx
        obtain ⟨a', ha'⟩ := h p List.mem_cons_self (beq_iff_eq.mp hk)
        rw [beq_iff_eq.mp hb, ha']
        rw [ha'] at hx
        exact hx
      | false => rw [hb] at hx; exact hc x a hx
    · exact hc x a hx
theorem clFold_keep {env : Env} : ∀ (names : List (Str × NameKind)) (cs : List (Str × Addr)) (x : Str), (∃ a, cs.lookup x = some a) → ∃ a, (names.foldl (clStep env) cs).lookup x = some a
  | [], _, _, h => h
  | p :: names, cs, x, hc => by
    refine clFold_keep names _ x ?_
    unfold clStep
    split
    · rw [List.lookup_cons]
      cases (x == p.1) with
      | true => exact ⟨_, rfl⟩
      | false => exact hc
    · exact hc
theorem clFold_has {env : Env} : ∀ (names : List (Str × NameKind)) (cs : List (Str × Addr)) (x : Str), names.lookup x = some .free → ∃ a, (names.foldl (clStep env) cs).lookup x = some a
  | [], _, _, h => by cases h
  | (y, k) :: names, cs, x, h => by
    rw [List.lookup_cons] at h
    rw [List.foldl_cons]
    cases hb : x == y with
    | true =>
      rw [hb] at h
      cases h
      refine clFold_keep names _ x ?_
      unfold clStep
      rw [if_pos (show (NameKind.free == NameKind.free) = true by decide), List.lookup_cons, hb]
      exact ⟨_, rfl⟩
    | false =>
      rw [hb] at h
      exact clFold_has names _ x h

def capO : List Str → Rho → Option Rho
  | [], _ => some []
  | y :: ys, r => match r.get y with
    | some (.sh d) => (capO ys r).map ((y, .sh d) :: ·)
    | _ => none
def shs (r : Rho) : Bool := r.all fun p => match p.2 with
  | .sh _ => true
  | _ => false
theorem kill_shs {x : Str} : ∀ {r : Rho}, shs r = true → r.kill x = r
  | [], _ => rfl
  | (y, e) :: r, h => by
    unfold shs at h
    rw [List.all_cons, Bool.and_eq_true] at h
    show (y, e.kill x) :: Rho.kill r x = _
    rw [kill_shs (r := r) h.2]
    cases e with
    | sh d => rfl
    | own _ => exact absurd h.1 (by simp)
    | app _ => exact absurd h.1 (by simp)
    | dead => exact absurd h.1 (by simp)
theorem capO_shs : ∀ {cap : List Str} {r rc : Rho}, capO cap r = some rc → shs rc = true
  | [], _, _, h => by cases h; rfl
  | y :: ys, r, rc, h => by
    unfold capO at h
    split at h
    · cases hc : capO ys r with
      | none => rw [hc] at h; cases h
      | some r' =>
        rw [hc] at h
        cases h
        have := capO_shs hc
        unfold shs at this ⊢
        rw [List.all_cons, this]
        rfl
    · cases h
theorem capO_get : ∀ {cap : List Str} {r rc : Rho}, capO cap r = some rc → ∀ {y : Str} {e : Ent}, rc.get y = some e → y ∈ cap ∧ r.get y = some e ∧ ∃ d, e = .sh d
  | [], _, _, h, y, e, q => by cases h; cases q
  | x :: ys, r, rc, h, y, e, q => by
    unfold capO at h
    split at h
    · rename_i d hx
      cases hc : capO ys r with
      | none => rw [hc] at h; cases h
      | some r' =>
        rw [hc] at h
        cases h
        unfold Rho.get at q
        rw [List.lookup_cons] at q
        cases hb : y == x with
        | true =>
          rw [hb] at q
          cases q
          have := beq_iff_eq.mp hb
          subst this
          exact ⟨List.mem_cons_self, hx, d, rfl⟩
        | false =>
          rw [hb] at q
          obtain ⟨h1, h2⟩ := capO_get hc q
          exact ⟨List.mem_cons_of_mem _ h1, h2⟩
    · cases h
theorem capO_all : ∀ {cap : List Str} {r rc : Rho}, capO cap r = some rc → ∀ {y : Str}, y ∈ cap → ∃ d, r.get y = some (.sh d)
  | [], _, _, h, y, q => by cases q
  | x :: ys, r, rc, h, y, q => by
    unfold capO at h
    split at h
    · rename_i d hx
      cases hc : capO ys r with
      | none => rw [hc] at h; cases h
      | some r' =>
        rcases List.mem_cons.mp q with e | q
        · subst e; exact ⟨d, hx⟩
        · exact capO_all hc q
    · cases h

def relabelS (csc sc : Scope) : Scope :=
  { csc with names := csc.names.map fun (n, k) => if (k == .free && sc.kind == .function && sc.names.lookup n == some .cell) then (n, .cell) else (n, k) }
theorem relabel_eq {csc sc : Scope} {env : Env} (h : env.scope = sc) : relabel csc env = relabelS csc sc := by
  subst h; rfl
/-- a comprehension's scope fits -/
def cOK (csc sc : Scope) (cap : List Str) : Bool :=
  (csc.names.all fun p => p.2 != .local || csc.names.lookup p.1 == some .local) && (csc.names.all fun p => p.2 != .free || cap.contains p.1) && (csc.names.all fun p => p.2 != .cell) &&
  (cap.all fun y => (relabelS csc sc).names.lookup y == some .cell && sc.names.lookup y == some .cell && csc.names.lookup y == some .free)

section
variable {c : Cx} {n : Nat} {sc : Scope}

def forA (y : Str) (ft : Rho → Option Bool) (fa : Rho → Option (List D)) (fi : Rho → Option (List D)) (r : Rho) : Option (List D) :=
  (fi r).bind fun ds => if shs r && (r.get y).isNone then compF y ft fa ds r else none
theorem codeAny_compStart_1 {prog : Program} {w : World} {A : Around} {RR : Result → Shared → Prop} {s : Shared} {elt target iter : Expr} {ifs : List Expr} {g0 : Comprehension} {scope pos it acc env}
    (h0 : codeAny (model prog w) A (.compLoop (.ListComp elt [g0, ⟨target, iter, ifs, 0⟩] scope pos) 1 it acc env) RR s)
    (h : wpAny (model prog w) A (pyIter it) (fun it' s' => codeAny (model prog w) A (.compLoop (.ListComp elt [g0, ⟨target, iter, ifs, 0⟩] scope pos) 1 it' acc env) RR s')
      (notedBy (model prog w) A env fun x s' => RR (.error x) s') s) :
    codeAny (model prog w) A (.compStart (.ListComp elt [g0, ⟨target, iter, ifs, 0⟩] scope pos) 1 it acc env) RR s := by
  refine codeAny_of_tree ?_
  show wpAny _ _ ((compStart (.ListComp elt [g0, ⟨target, iter, ifs, 0⟩] scope pos) 1 it acc env).onRaise (fun x => do noteFrame x env; standAt theWindowsPlace)) _ _ s
  refine wpAny_notedAt ?_
  unfold compStart
  show wpAny _ _ (ask >>= _) _ _ s
  refine wpAny_bind (wpAny_askSetting (wpAny_ite ?_))
  split
  · first
      | exact wpAny_bind (wpAny_pure (wpAny_pure (And.intro rfl h0)))
      | exact wpAny_pure (And.intro rfl h0)
  · first
      | exact wpAny_bind (wpAny_rule (wpAny_bind (wpAny_standAt (wpAny_bind (wpAny_mono h (fun it' s' h' => wpAny_pure (And.intro rfl h')) fun _ _ x => x)))))
      | (refine wpAny_bind (wpAny_rule ?_); show wpAny _ _ (standAt iter.pos >>= _) _ _ s; exact wpAny_bind (wpAny_standAt (wpAny_bind (wpAny_mono h (fun it' s' h' => wpAny_pure (And.intro rfl h')) fun _ _ x => x))))

theorem trA_for {elt : Expr} {g0 : Comprehension} {csc : Scope} {pos : Pos} {y : Str} {py : Pos} {iter : Expr} {ifs : List Expr} {em : Value → Env → Sem Unit} {ft : Rho → Option Bool} {fa fi : Rho → Option (List D)}
    (ti : TrI true c n sc iter fi) (tt : TrTs c n sc ifs ft) (ta : TrA c n sc em fa) (hfx : sc.names.lookup y = some .local) (hxa : y ≠ ".acc")
    (hturn : ∀ it acc env, compTurn (.ListComp elt [g0, ⟨.Name y py, iter, ifs, 0⟩] csc pos) 1 it acc env = turnF y py iter ifs em (.ListComp elt [g0, ⟨.Name y py, iter, ifs, 0⟩] csc pos) 1 it acc env)
    (hfold : ∀ env v, foldedSetIterable iter env v = pure v := by intro _ _; rfl) :
    TrA c n sc (emitFor (.ListComp elt [g0, ⟨.Name y py, iter, ifs, 0⟩] csc pos) 1 iter) (forA y ft fa fi) := fun {prog w A E X0 s0 env gd hid Da r s ys l ds Q} hA hs S hr hp hl hf hlen h => by
  obtain ⟨items, h1, hf⟩ := bind_some hf
  split at hf
  · rename_i hcond
    rw [Bool.and_eq_true] at hcond
    have hrx : r.get y = none := by
      cases hq : r.get y with
      | none => rfl
      | some e => rw [hq] at hcond; exact absurd hcond.2 (by simp)
    unfold emitFor
    refine wpAny_bind (ti hA hs S h1 fun v s1 a1 it => wpAny_bind (wpAny_standAt (wpAny_bind (wpAny_of_eq (hfold _ _) (wpAny_bind (wpAny_holding ?_))))))
    have S1 := S.after a1
    refine going_state S1 it hA.hd fun I gd1 hid1 T s2 a2 S2 hT G => ?_
    have hz := (S.owp (".acc", Da) List.mem_cons_self).2.2
    have a12 := a1.trans a2
    have hp2 : s2.heap.PlainList Da ys := hp.at fun o e => a12.2.keep Da o hz e
    have hl2 := S.mvs a12 hl
    refine wpAny_bind (wpAny_runOwn ?_)
    have key : ∀ {RR : Result → Shared → Prop}, (∀ s' ys', St c X0 s0 env (gd1 ++ gd) (hid1 ++ hid) [((".acc" : Str), Da)] r s' → s'.heap.PlainList Da ys' → Rs (LP s'.heap (XX [((".acc" : Str), Da)] X0)) ys'.toList (l ++ ds) → RR (.ok .next) s') →
        codeAny (model prog w) A (.compLoop (.ListComp elt [g0, ⟨.Name y py, iter, ifs, 0⟩] csc pos) 1 (.ref I) (.ref Da) env) RR s2 := fun hR =>
      loop_acc hturn tt ta (.inl hfx) hfx hxa hA hs S2 hr hrx (kill_shs hcond.1) hp2 hl2 hT G hf hlen hR
    have fin : ∀ s' ys', St c X0 s0 env (gd1 ++ gd) (hid1 ++ hid) [((".acc" : Str), Da)] r s' → s'.heap.PlainList Da ys' → Rs (LP s'.heap (XX [((".acc" : Str), Da)] X0)) ys'.toList (l ++ ds) → wpAny (model prog w) A (pure ()) Q E s' := fun s' ys' S' hp' hl' =>
      wpAny_pure (h s' ys' S'.gd_drop.hid_drop hp' hl')
    exact codeAny_compStart_1 (key fun s' ys' S' hp' hl' => fin s' ys' S' hp' hl') (G.self hT hA.hd (key fun s' ys' S' hp' hl' => fin s' ys' S' hp' hl'))
  · cases hf
end
end Mine
end SLa13

/-! La14 -/
noncomputable section SLa14
namespace Mine
section
variable {c : Cx} {n : Nat} {sc : Scope}

theorem cOK_names {csc sc : Scope} {cap : List Str} (h : cOK csc sc cap = true) : (∀ p ∈ csc.names, p.2 = .local → csc.names.lookup p.1 = some .local) ∧ (∀ p ∈ csc.names, p.2 = .free → p.1 ∈ cap) ∧ (∀ p ∈ csc.names, p.2 ≠ .cell) ∧
    (∀ y ∈ cap, (relabelS csc sc).names.lookup y = some .cell ∧ sc.names.lookup y = some .cell ∧ csc.names.lookup y = some .free) := by
  unfold cOK at h
  rw [Bool.and_eq_true, Bool.and_eq_true, Bool.and_eq_true, List.all_eq_true, List.all_eq_true, List.all_eq_true, List.all_eq_true] at h
  obtain ⟨⟨⟨h1, h2⟩, h3⟩, h4⟩ := h
  refine ⟨fun p hp e => ?_, fun p hp e => ?_, fun p hp e => ?_, fun y hy => ?_⟩
  · have := h1 p hp
    rw [e] at this
    simpa using this
  · have := h2 p hp
    rw [e] at this
    simpa using this
  · have := h3 p hp
    rw [e] at this
    simp at this
  · have := h4 y hy
    simp only [Bool.and_eq_true, beq_iff_eq] at this
    exact ⟨this.1.1, this.1.2, this.2⟩

theorem comp_core {elt : Expr} {gs : List Comprehension} {csc : Scope} {pos cpos : Pos} {x : Str} {px : Pos} {iter : Expr} {ifs : List Expr} {em : Value → Env → Sem Unit} {fi : Rho → Option (List D)} {ft : Rho → Option Bool} {fa : Rho → Option (List D)} (cap : List Str)
    (hok : cOK csc sc cap = true) (hfx : (relabelS csc sc).names.lookup x = some .local) (hxa : x ≠ ".acc") (hck : csc.kind = .function)
    (hturn : ∀ it acc env, compTurn (.ListComp elt (⟨.Name x px, iter, ifs, 0⟩ :: gs) csc pos) 0 it acc env = turnF x px iter ifs em (.ListComp elt (⟨.Name x px, iter, ifs, 0⟩ :: gs) csc pos) 0 it acc env)
    (ti : TrI true c n sc iter fi) (tt : TrTs c n (relabelS csc sc) ifs ft) (ta : TrA c n (relabelS csc sc) em fa) (hfold : ∀ env v, foldedSetIterable iter env v = pure v)
    {prog : Program} {w : World} {A : Around} {E : Value → Shared → Prop} {X0 : List Addr} {s0 : Shared} {env : Env} {gd : List (Addr × Obj)} {hid : List (Value × D)} {ow : List (Str × Addr)} {r rc : Rho} {s : Shared} {ds out : List D} {use : Option (Value → Sem Unit)} {Q : Value → Shared → Prop}
    (hA : AOk n A) (hs : env.scope = sc) (S : St c X0 s0 env gd hid ow r s) (h1 : fi r = some ds) (h2 : capO cap r = some rc) (h3 : rc.get x = none) (h4 : rc.get ".acc" = none) (h5 : compF x ft fa ds rc = some out) (h6 : out.length ≤ lim)
    (h : ∀ Da C vs s', After c s s' → ¬ live s.heap Da → ¬ live s.heap C → (∃ m, s'.heap.Ns C m) → s'.heap.PlainList Da vs → Rs (LP s'.heap (Da :: XX ow X0)) vs.toList out → compPost (model prog w) A E use Q (.ref Da) C (.ok .next) s') :
    wpAny (model prog w) A (comprehension (.ListComp elt (⟨.Name x px, iter, ifs, 0⟩ :: gs) csc pos) csc env cpos (newList []) false (eval iter env) use) Q E s := by
  obtain ⟨n1, n2, n3, n4⟩ := cOK_names hok
  have ecl : ∀ y ∈ cap, ∃ a v d, env.cells.lookup y = some a ∧ s.heap.IsCell a (some v) ∧ R (LP s.heap (XX ow X0)) v d ∧ r.get y = some (.sh d) := fun y hy => by
    obtain ⟨d, hd⟩ := capO_all h2 hy
    obtain ⟨v, l, o⟩ := S.vars y _ hd
    have hk := (n4 y hy).2.1
    rw [← hs] at hk
    rcases l with ⟨k, _⟩ | ⟨_, a, ha, hc⟩
    · have : Env.kindOf env y = some .cell := hk
      rw [this] at k; cases k
    · exact ⟨a, v, d, ha, hc, o, hd⟩
  have hfr : ∀ p ∈ csc.names, p.2 = .free → ∃ a, env.cells.lookup p.1 = some a := fun p hp e => by
    obtain ⟨a, _, _, ha, _⟩ := ecl p.1 (n2 p hp e)
    exact ⟨a, ha⟩
  have hcl := closure_eq hfr
  have hsub := clFold_sub csc.names [] hfr (fun x a q => by cases q)
  have hhas := clFold_has (env := env) csc.names []
  generalize csc.names.foldl (clStep env) [] = cl at hcl hsub hhas
  have hrel := relabel_eq (csc := csc) hs
  refine wpAny_comprehension_free (cl := cl) rfl (hfold env) hcl hck n1 (ti hA hs S h1 fun v s1 a1 it => it hA.hd fun I fp P T hl s2 a2 hnl hlv W hT hobj hfp hhl hP => ?_)
  have S1 := S.after a1
  have S2 := S1.after a2
  obtain ⟨⟨hh2, tk2, rfl⟩, e12⟩ := a2
  refine wpAny_newObj_type (wpAny_newFunctionEnv n3 (by intro y hy; simp at hy) (fun h4' hns hsb => ?_) hck)
  dsimp only at hns hsb hT hhl hfp S2 hlv ⊢
  generalize hH2 : hh2.push { cls := .type "list", dict := none, data := .seq ([] : List Value).toArray } = H2 at hns hsb ⊢
  have hC : H2.objs.size = hh2.objs.size + 1 := by rw [← hH2, Heap.size_push]
  have hDC : hh2.objs.size ≠ H2.objs.size := by rw [hC]; exact Nat.ne_of_lt (Nat.lt_succ_self _)
  have up : ∀ b o, hh2.get? b = some o → h4'.get? b = some o := fun b o e =>
    hsb.extBut b o (by rw [hC]; exact Nat.ne_of_lt (Nat.lt_succ_of_lt (Heap.lt_size e))) (Heap.get?_push_of_some _ (hH2 ▸ Heap.get?_push_of_some _ e))
  have hacc : h4'.PlainList hh2.objs.size #[] := ⟨_, hsb.extBut _ _ hDC (Heap.get?_push_of_some _ (hH2 ▸ Heap.get?_push_size _ rfl))⟩
  have e24 : Ext c hh2 h4' := Ext.of up
  have e14 : Ext c s1.heap h4' := e12.trans e24
  have dead2 : ∀ a, hh2.objs.size ≤ a → ¬ live hh2 a := fun a ha l => absurd l.lt (Nat.not_lt.mpr ha)
  have dead1 : ∀ a, hh2.objs.size ≤ a → ¬ live s1.heap a := fun a ha l => dead2 a ha (e12.live l)
  have dead0 : ∀ a, hh2.objs.size ≤ a → ¬ live s.heap a := fun a ha l => dead1 a ha (a1.2.live l)
  have hCle : hh2.objs.size ≤ H2.objs.size := by rw [hC]; exact Nat.le_succ _
  have hDz : hh2.objs.size ∉ c.Z := fun q => dead1 _ (Nat.le_refl _) (S1.glo.zl _ q).live
  have hCz : H2.objs.size ∉ c.Z := fun q => dead1 _ hCle (S1.glo.zl _ q).live
  obtain ⟨lst, l1, l2⟩ := pick_objs fp hfp
  have hIz : I ∉ c.Z := fun q => hnl (S1.glo.zl I q).live
  have hcells : ∀ y a, cl.lookup y = some a → env.cells.lookup y = some a := hsub
  have mono : ∀ a vs, LP hh2 (XX ow X0) a vs → LP h4' (XX [((".acc" : Str), hh2.objs.size)] (XX ow X0)) a vs := fun a vs q => by
    refine ⟨IsList.at q.1 fun o e => up a o e, fun w' => ?_⟩
    rcases List.mem_append.mp w' with w' | w'
    · have e : a = hh2.objs.size := by simpa using w'
      exact dead2 a (Nat.le_of_eq e.symm) (IsList.live q.1)
    · exact q.2 w'
  have SI : St c (XX ow X0) s1 (compEnvC csc cl H2.objs.size env) lst hl [((".acc" : Str), hh2.objs.size)] rc { s1 with heap := h4', toks := tk2 + ([] : List (Str × Value)).length } := by
    refine ⟨hck, S.eg, S.eb, ⟨_, _, rfl⟩, S1.glo, e14, S.zX, S1.Xl, ⟨_, hns⟩, hCz, dead1 _ hCle, fun y a q => ?_, fun y z a q1 q2 => S.ci y z a (hcells _ _ q1) (hcells _ _ q2), fun q => absurd rfl q, fun q => absurd rfl q, fun p hp => ?_, fun p hp => ?_, by simp, by simp, fun p hp => ?_, fun y e q => ?_⟩
    · obtain ⟨⟨v', o, q1, q2⟩, q3⟩ := S1.cl y a (hcells _ _ q)
      exact ⟨⟨v', o, e14.keep a o q3 q1, q2⟩, q3⟩
    · obtain ⟨q1, q2, vs, q3, q4⟩ := l2 p hp
      obtain ⟨o, g1, g2, n', g3⟩ := q3
      have e : o = p.2 := by rw [q1] at g1; exact (Option.some.inj g1).symm
      subst e
      refine ⟨up _ _ q1, fun z => q4 (S2.zX _ z), fun w' => ?_, fun y w' => ?_, fun w' => ?_⟩
      · have : p.1 = H2.objs.size := w'
        exact dead2 p.1 (by rw [this]; exact hCle) (live.of q1)
      · exact S2.not_cell q1 (fun v w => by rw [w] at g3; cases g3) y (hcells _ _ w')
      · have : p.1 = hh2.objs.size := by simpa using w'
        exact dead2 p.1 (Nat.le_of_eq this.symm) (live.of q1)
    · exact R.mono mono (hhl p hp)
    · have : p = ((".acc" : Str), hh2.objs.size) := by simpa using hp
      subst this
      exact ⟨⟨_, hacc⟩, dead1 _ (Nat.le_refl _), hDz⟩
    · obtain ⟨g1, g2, d, rfl⟩ := capO_get h2 q
      obtain ⟨a, v', d', q1, q2, q3, q4⟩ := ecl y g1
      rw [g2] at q4
      cases q4
      obtain ⟨a', ha'⟩ := hhas y (n4 y g1).2.2
      have : a' = a := by have := hcells _ _ ha'; rw [q1] at this; exact (Option.some.inj this).symm
      subst this
      have az := (S.cl y a' q1).2
      refine ⟨v', .inr ⟨.inl ?_, a', ha', ?_⟩, ?_⟩
      · show (relabel csc env).names.lookup y = some .cell
        rw [hrel]
        exact (n4 y g1).1
      · obtain ⟨o, ho, hd⟩ := q2
        exact ⟨o, e14.keep a' o az (a1.2.keep a' o az ho), hd⟩
      · refine R.mono mono (R.mono (LP.ext e12 S.zX fun _ q => .inl q) (S.mv a1 q3))
  have G : Going c (XX ow X0) s1 (compEnvC csc cl H2.objs.size env) lst hl prog w I ds T :=
    going_of W hobj hP l1 (fun p hp => hp) hnl hIz fun q => by
      obtain ⟨p, hp, e⟩ := List.mem_map.mp q
      exact (l2 p hp).2.1 e
  have hT4 : T 0 h4' := (W A hA.hd).frame _ _ _ hT fun b _ o e => up b o e
  have loop : codeAny (model prog w) A (.compLoop (.ListComp elt (⟨.Name x px, iter, ifs, 0⟩ :: gs) csc pos) 0 (.ref I) (.ref hh2.objs.size) (compEnvC csc cl H2.objs.size env))
      (compPost (model prog w) A E use Q (.ref hh2.objs.size) H2.objs.size) { s1 with heap := h4', toks := tk2 + ([] : List (Str × Value)).length } :=
    loop_acc (sc := relabelS csc sc) (l := []) hturn tt ta (.inl hfx) hfx hxa hA hrel SI h4 h3 (kill_shs (capO_shs h2)) hacc .nil hT4 G h5 (by simpa using h6) fun s' ys' S' hp' hl' => by
      obtain ⟨m, hn⟩ := S'.ns
      obtain ⟨hh, tk, e⟩ := S'.same
      refine h _ _ ys' s' (a1.trans ⟨⟨hh, tk, e⟩, S'.keep⟩) (dead0 _ (Nat.le_refl _)) (dead0 _ hCle) ⟨m, hn⟩ hp' (Rs.mono (fun a vs q => ⟨q.1, fun w' => q.2 ?_⟩) hl')
      rcases List.mem_cons.mp w' with e | w'
      · exact List.mem_append_left _ (by rw [e]; exact List.mem_cons_self)
      · exact List.mem_append_right _ w'
  exact codeAny_compStart_list loop (G.self hT4 hA.hd loop)

/-- a comprehension, as plain data -/
def compO (cap : List Str) (x : Str) (fi : Rho → Option (List D)) (ft : Rho → Option Bool) (fa : Rho → Option (List D)) (r : Rho) : Option (List D) :=
  (fi r).bind fun ds => (capO cap r).bind fun rc => if (rc.get x).isNone && (rc.get ".acc").isNone then (compF x ft fa ds rc).bind fun out => if out.length ≤ lim then some out else none else none
theorem compO_inv {cap : List Str} {x : Str} {fi : Rho → Option (List D)} {ft : Rho → Option Bool} {fa : Rho → Option (List D)} {r : Rho} {out : List D} (h : compO cap x fi ft fa r = some out) :
    ∃ ds rc, fi r = some ds ∧ capO cap r = some rc ∧ rc.get x = none ∧ rc.get ".acc" = none ∧ compF x ft fa ds rc = some out ∧ out.length ≤ lim := by
  obtain ⟨ds, h1, h⟩ := bind_some h
  obtain ⟨rc, h2, h⟩ := bind_some h
  split at h
  · rename_i hc
    obtain ⟨o, h3, h⟩ := bind_some h
    split at h
    · rename_i hl
      cases h
      rw [Bool.and_eq_true, Option.isNone_iff_eq_none, Option.isNone_iff_eq_none] at hc
      exact ⟨ds, rc, h1, h2, hc.1, hc.2, h3, hl⟩
    · cases h
  · cases h
theorem trF_compG {elt : Expr} {gs : List Comprehension} {csc : Scope} {pos : Pos} {x : Str} {px : Pos} {iter : Expr} {ifs : List Expr} {em : Value → Env → Sem Unit} {fi : Rho → Option (List D)} {ft : Rho → Option Bool} {fa : Rho → Option (List D)} (cap : List Str)
    (hok : cOK csc sc cap = true) (hfx : (relabelS csc sc).names.lookup x = some .local) (hxa : x ≠ ".acc") (hck : csc.kind = .function)
    (hturn : ∀ it acc env, compTurn (.ListComp elt (⟨.Name x px, iter, ifs, 0⟩ :: gs) csc pos) 0 it acc env = turnF x px iter ifs em (.ListComp elt (⟨.Name x px, iter, ifs, 0⟩ :: gs) csc pos) 0 it acc env)
    (ti : TrI true c n sc iter fi) (tt : TrTs c n (relabelS csc sc) ifs ft) (ta : TrA c n (relabelS csc sc) em fa) (hfold : ∀ env v, foldedSetIterable iter env v = pure v) :
    TrF c n sc (.ListComp elt (⟨.Name x px, iter, ifs, 0⟩ :: gs) csc pos) (compO cap x fi ft fa) := fun {prog w A E X0 s0 env gd hid ow r s Q ds} hA hs S hf h => by
  obtain ⟨items, rc, h1, h2, h3, h4, h5, h6⟩ := compO_inv hf
  rw [eval_ListComp]
  refine comp_core (use := none) cap hok hfx hxa hck hturn ti tt ta hfold hA hs S h1 h2 h3 h4 h5 h6 fun Da C vs s' a hD hC ⟨m, hn⟩ hp hl => ⟨m, hn, fun h' hs' => ?_⟩
  have hne : ∀ b, live s.heap b → b ≠ C := fun b l e => hC (e ▸ l)
  obtain ⟨oC, es, ep, hoC, hdC, _⟩ := id hn
  have ln : ∀ b vs, s'.heap.IsList b vs → h'.IsList b vs := fun b vs q => IsList.at q fun o e => (hs'.2 b fun w' => by
    obtain ⟨o', e1, _, _, e2⟩ := q
    rw [w', hoC] at e1
    cases e1
    rw [hdC] at e2; cases e2).trans e
  refine h Da vs _ ⟨?_, ?_, ?_, ?_⟩ hD ?_ (Rs.mono (fun b vs q => ⟨ln b vs q.1, q.2⟩) hl)
  · obtain ⟨⟨hh, tk, rfl⟩, _⟩ := a
    exact ⟨h', tk, rfl⟩
  · exact fun b o hb e => (hs'.2 b (hne b (live.of e))).trans (a.2.keep b o hb e)
  · exact fun z hz l => (a.2.zl z hz l).keep fun o w => (hs'.2 z (hne z l.live)).trans w
  · intro z hz l
    have := a.2.zv z hz l
    unfold live at this ⊢
    rw [hs'.2 z (hne z l)]; exact this
  · obtain ⟨n', e⟩ := hp
    refine ⟨n', (hs'.2 Da fun w' => ?_).trans e⟩
    rw [w', hoC] at e
    cases e
    cases hdC
/-! one clause, two clauses -/
theorem turn_two (elt iter iter2 : Expr) (x y : Str) (px py pos : Pos) (ifs ifs2 : List Expr) (csc : Scope) (it acc : Value) (env : Env) :
    compTurn (.ListComp elt [⟨.Name x px, iter, ifs, 0⟩, ⟨.Name y py, iter2, ifs2, 0⟩] csc pos) 0 it acc env =
      turnF x px iter ifs (emitFor (.ListComp elt [⟨.Name x px, iter, ifs, 0⟩, ⟨.Name y py, iter2, ifs2, 0⟩] csc pos) 1 iter2) (.ListComp elt [⟨.Name x px, iter, ifs, 0⟩, ⟨.Name y py, iter2, ifs2, 0⟩] csc pos) 0 it acc env := by
  unfold compTurn turnF emitFor
  simp only [List.getElem?_cons_zero, List.getElem?_cons_succ, bne_self_eq_false, Bool.false_eq_true, if_false, bind_assoc, pure_bind, Nat.zero_add]
  rfl
theorem trF_comp {elt : Expr} {csc : Scope} {pos : Pos} {x : Str} {px : Pos} {iter : Expr} {ifs : List Expr} {fi : Rho → Option (List D)} {ft : Rho → Option Bool} {fe : Rho → Option D} (cap : List Str)
    (ti : TrI true c n sc iter fi) (tt : TrTs c n (relabelS csc sc) ifs ft) (te : TrE c n (relabelS csc sc) elt fe)
    (hok : cOK csc sc cap = true := by rfl) (hfx : (relabelS csc sc).names.lookup x = some .local := by rfl) (hxa : x ≠ ".acc" := by decide) (hck : csc.kind = .function := by rfl) (hfold : ∀ env v, foldedSetIterable iter env v = pure v := by intro _ _; rfl) :
    TrF c n sc (.ListComp elt [⟨.Name x px, iter, ifs, 0⟩] csc pos) (compO cap x fi ft (fun r => (fe r).map fun d => [d])) :=
  trF_compG cap hok hfx hxa hck (fun _ _ _ => rfl) ti tt (trA_elt te) hfold
theorem trF_comp2 {elt : Expr} {csc : Scope} {pos : Pos} {x y : Str} {px py : Pos} {iter iter2 : Expr} {ifs ifs2 : List Expr} {fi fi2 : Rho → Option (List D)} {ft ft2 : Rho → Option Bool} {fe : Rho → Option D} (cap : List Str)
    (ti : TrI true c n sc iter fi) (tt : TrTs c n (relabelS csc sc) ifs ft) (ti2 : TrI true c n (relabelS csc sc) iter2 fi2) (tt2 : TrTs c n (relabelS csc sc) ifs2 ft2) (te : TrE c n (relabelS csc sc) elt fe)
    (hok : cOK csc sc cap = true := by rfl) (hfx : (relabelS csc sc).names.lookup x = some .local := by rfl) (hfy : (relabelS csc sc).names.lookup y = some .local := by rfl) (hxa : x ≠ ".acc" := by decide) (hya : y ≠ ".acc" := by decide) (hck : csc.kind = .function := by rfl)
    (hfold : ∀ env v, foldedSetIterable iter env v = pure v := by intro _ _; rfl) (hfold2 : ∀ env v, foldedSetIterable iter2 env v = pure v := by intro _ _; rfl) :
    TrF c n sc (.ListComp elt [⟨.Name x px, iter, ifs, 0⟩, ⟨.Name y py, iter2, ifs2, 0⟩] csc pos) (compO cap x fi ft (forA y ft2 (fun r => (fe r).map fun d => [d]) fi2)) :=
  trF_compG cap hok hfx hxa hck (turn_two _ _ _ _ _ _ _ _ _ _ _) ti tt (trA_for (elt := elt) (g0 := ⟨.Name x px, iter, ifs, 0⟩) (csc := csc) (pos := pos) (py := py) ti2 tt2 (trA_elt te) hfy hya (fun _ _ _ => rfl) hfold2) hfold
end
end Mine
end SLa14

/-! App1 -/
namespace Mine
namespace App
theorem typeOf_append : typeOf (.builtin "list.append") = pure (.type "method_descriptor") := by show builtinType _ = _; rw [builtinType_eq_fast]; kernel_rfl
theorem slot_md_get : Slot "method_descriptor" "__get__" "method_descriptor.__get__" :=
  .of (owner := "method_descriptor") (n := "__get__") (by rw [typeLookup_type, builtinLookup_eq_fast]; kernel_rfl) (by decide +kernel) (by decide +kernel) (by decide +kernel)
    (by first | exact .inl (by decide +kernel) | exact .inr (by decide +kernel)) (by rw [isSubtype_type]; kernel_rfl)
theorem md_set : typeLookup (.type "method_descriptor") "__set__" = pure none := by rw [typeLookup_type, builtinLookup_eq_fast]; kernel_rfl
theorem md_del : typeLookup (.type "method_descriptor") "__delete__" = pure none := by rw [typeLookup_type, builtinLookup_eq_fast]; kernel_rfl
theorem entry_md_get : entryFor table "method_descriptor.__get__" = some Builtin.«method_descriptor.__get__» := entryFor_of_tree (by kernel_rfl)
theorem args_md_get (a b c : Value) : argsOk "method_descriptor.__get__" ⟨[a, b, c], []⟩ := by unfold argsOk; kernel_rfl
theorem owner_append : (".".intercalate ("list.append".cutAt '.').dropLast) = "list" := by
  have e0 : "list.append".cutAt '.' = ["list", "append"] := by first | rfl | decide +kernel
  rw [e0]; decide +kernel
theorem sub_append : isSubtype (.type "list") (.type (".".intercalate ("list.append".cutAt '.').dropLast)) = pure true := by
  rw [owner_append, isSubtype_type]; kernel_rfl
theorem sub_list : isSubtype (.type "list") (.type "list") = pure true := by rw [isSubtype_type]; kernel_rfl
theorem told : Manifest.toldItsClass.contains "list.append" = false := by decide +kernel
end App
section
variable {prog : Program} {w : World} {A : Around} {E : Value → Shared → Prop} {h : Heap} {g : Array GenState} {d : Drawn} {t : Nat} {os : OsState} {a : Addr} {xs : Array Value} {k : Nat}
def appObj (a : Addr) : Obj := { cls := .type "builtin_function_or_method", data := .fields #[.builtin "list.append", .ref a] }
theorem append_get {R : Result → Shared → Prop} (hx : h.get? a = some { cls := .type "list", dict := none, data := .seq xs k }) (hq : R (.ok (.ret (.ref h.objs.size))) ⟨h.push (appObj a), g, d, t, os⟩) :
    codeAny (model prog w) A (.call (.builtin "method_descriptor.__get__") ⟨[.builtin "list.append", .ref a, .type "list"], []⟩) R ⟨h, g, d, t, os⟩ := by
  have hT : (⟨h, g, d, t, os⟩ : Shared).TypeIs (.ref a) "list" := ⟨_, hx, rfl⟩
  have hT5 : (⟨h, g, d, t, os⟩ : Shared).TypeIs (.builtin "list.append") "method_descriptor" := App.typeOf_append
  have f8 := App.sub_append
  have f9 := App.told
  refine codeAny_call_builtin App.slot_md_get.plain App.entry_md_get (App.slot_md_get.check _ _ _ _ _ _ _ _ hT5 (App.args_md_get _ _ _) ?_)
  unfold Builtin.«method_descriptor.__get__»
  refine wpAny_bind (wpAny_of_eq (a := (.builtin "list.append", some (.ref a), some (.type "list"))) (by first | rfl | kernel_rfl) ?_)
  dsimp only
  rw [if_neg (by rw [f9]; decide)]
  refine wpAny_bind ?_
  refine wpAny_bind (wpAny_of_eq (a := (Str.ofString "append", .type "list")) (by first | rfl | kernel_rfl) ?_)
  dsimp only
  refine wpAny_bind (wpAny_isInstance hT App.sub_list ?_)
  refine wpAny_pure ?_
  refine wpAny_bind (wpAny_newObj_type (wpAny_pure ?_))
  exact hq

theorem append_entry {tk : Tok} {Q : Fin → Shared → Prop} (hx : h.get? a = some { cls := .type "list", dict := none, data := .seq xs k }) (hq : Q (.done (.ret (.ref h.objs.size))) ⟨h.push (appObj a), g, d, t, os⟩) :
    wpAny (model prog w) A (Builtin.«object.__getattribute__» ⟨[.ref a, .str "append" tk], []⟩) Q E ⟨h, g, d, t, os⟩ := by
  have hT : (⟨h, g, d, t, os⟩ : Shared).TypeIs (.ref a) "list" := ⟨_, hx, rfl⟩
  have hT5 : (⟨h, g, d, t, os⟩ : Shared).TypeIs (.builtin "list.append") "method_descriptor" := App.typeOf_append
  have f4 : typeLookup (.type "list") "append" = pure (some (.builtin "list.append")) := slot_list_append.lookup
  have f5 := App.typeOf_append
  have f6 := App.slot_md_get.lookup
  have f7 := App.md_set
  have f8 := App.md_del
  unfold Builtin.«object.__getattribute__»
  repeat (any_goals (first | assumption | ((with_reducible show codeAny _ _ (.call (.builtin "method_descriptor.__get__") _) _ _); refine append_get hx ?_) | wp_step))

theorem append_attr {Q : Value → Shared → Prop} (hx : h.get? a = some { cls := .type "list", dict := none, data := .seq xs k }) (hq : ∀ t', Q (.ref h.objs.size) ⟨h.push (appObj a), g, d, t', os⟩) : wpAny (model prog w) A (getAttr (.ref a) "append" true) Q E ⟨h, g, d, t, os⟩ := by
  have hT : ∀ tk', (⟨h, g, d, tk', os⟩ : Shared).TypeIs (.ref a) "list" := fun _ => ⟨_, hx, rfl⟩
  have f3 := F.slot_list_getattribute.lookup
  have f4 := F.slot_list_getattribute.bind (.ref a)
  unfold getAttr getAttrBy
  repeat (any_goals (first | assumption | exact hT _ | ((with_reducible show wpAny _ _ (call (Value.builtin "list.__getattribute__") _ _) _ _ _); refine wpAny_call_entry F.slot_list_getattribute (hT _) F.entry_list_ga (append_entry hx ?_) (F.args_list_getattribute_2 _ _)) | wp_step))
  refine ⟨_, rfl, ?_⟩
  show wpAny _ _ (handedOut _) _ _ _
  rw [show handedOut (.ref h.objs.size) = pure (.ref h.objs.size) from rfl]
  exact wpAny_pure (hq _)
end
end Mine

/-! La15 -/
noncomputable section SLa15
namespace Mine
theorem sig_some : (Manifest.signature? "list.append").isSome = true := by kernel_rfl
theorem sig_append : Manifest.signature? "list.append" = some ((Manifest.signature? "list.append").get sig_some) := (Option.some_get _).symm
theorem kind_append : builtinKind "list.append" = some .method := by kernel_rfl
theorem va_append : Manifest.varargsMethods.contains "list.append" = false := by kernel_rfl
theorem sub_mod : isSubtype (.type "list") (.type "module") = pure false := by rw [isSubtype_type]; kernel_rfl
theorem ck_append {l : Addr} {x : Value} : Bind.checkArgs "list.append" { ((Manifest.signature? "list.append").get sig_some) with full := s!"{Bind.lastOf "list"}.{Bind.lastOf "list.append"}" } ⟨[.ref l, x], []⟩ = pure () := by kernel_rfl
section
variable {prog : Program} {w : World} {A : Around} {E : Value → Shared → Prop} {s : Shared}
theorem wp_check_append {l : Addr} {x : Value} {vs : Array Value} {k : Nat} {Q : Unit → Shared → Prop} (ho : s.heap.get? l = some { cls := .type "list", data := .seq vs k }) (h : Q () s) : wpAny (model prog w) A (checkBoundCall "list.append" ⟨[.ref l, x], []⟩) Q E s := by
  have hT : s.TypeIs (.ref l) "list" := ⟨_, ho, rfl⟩
  unfold checkBoundCall
  rw [sig_append]
  dsimp only
  rw [kind_append]
  dsimp only
  rw [if_neg (by decide)]
  refine wpAny_bind (wpAny_isInstance hT sub_mod ?_)
  rw [if_neg (by rw [va_append]; decide)]
  refine wpAny_bind ?_
  show wpAny _ _ (loadHead l >>= _) _ _ s
  refine wpAny_bind (wpAny_load ho (wpAny_pure ?_))
  dsimp only
  rw [if_neg (by decide)]
  refine wpAny_bind (wpAny_typeOf hT ?_)
  dsimp only
  exact wpAny_of_eq ck_append h
end
section
variable {prog : Program} {w : World} {A : Around} {E : Value → Shared → Prop} {s : Shared}
theorem quiet_append {as : Args} : (Code.builtin "list.append" as).quiet = true := Code.quiet_builtin _ (by decide +kernel)
theorem call_app {m l : Addr} {items : Array Value} {x : Value} {Q : Value → Shared → Prop} (hm : IsApp s.heap m l) (hl : s.heap.PlainList l items) (hsz : items.size ≤ sizeLine)
    (hQ : ∀ h', h'.PlainList l (items.push x) → Heap.SameBut l s.heap h' → Q .none { s with heap := h' }) : wpAny (model prog w) A (call (.ref m) [x]) Q E s := by
  obtain ⟨⟨cl, dct, dt, sl⟩, ho, hc, hd⟩ := hm
  dsimp only at hc hd
  subst hc hd
  refine wpAny_call (codeAny_of_tree ?_)
  show wpAny _ A.in1 (callAny (.ref m) ⟨[x], []⟩) _ _ s
  simp only [callAny]
  refine wpAny_bind (wpAny_load ho ?_)
  simp only [show (Value.type "builtin_function_or_method" == Value.type "method" || Value.type "builtin_function_or_method" == Value.type "builtin_function_or_method" || Value.type "builtin_function_or_method" == Value.type "method-wrapper") = true by decide, if_true]
  refine KFB.if_so (by decide) ?_
  obtain ⟨n, hol⟩ := hl
  refine wpAny_bind (wp_check_append hol ?_)
  refine wpAny_bind (wpAny_pure (wpAny_pure ?_))
  refine ⟨quiet_append, codeAny_builtin entry_list_append ?_⟩
  show wpAny _ _ (updateSeq l (·.push x) >>= fun _ => ret .none) _ _ s
  refine wpAny_bind ?_
  refine wpAny_updateSeq hol rfl (wpAny_pure (hQ _ ⟨n + 1, ?_⟩ (Heap.SameBut.update ..)))
  rw [Heap.get?_update_self _ hol (by rw [Obj.mapSeq_push_plain]; rfl), Obj.mapSeq_push_plain]
theorem callWith_app {M : Model} {pos : Pos} {u a : Addr} {first : List Value} {args : List (Bool × Sem Value)} {Q : Value → Shared → Prop} (hplain : args.any (·.1) = false)
    (h : wpAny M A (evalArgs (.ref u) true args []) (fun x s₁ => IsApp s₁.heap u a ∧ wpAny M A (call (.ref u) (first ++ x.pos) x.kw) Q E s₁) E s) : wpAny M A (callWith pos (.ref u) first args []) Q E s := by
  unfold callWith
  refine wpAny_bind (wpAny_holding (wpAny_mono h (fun x s₁ h₁ => wpAny_bind (wpAny_standAt ?_)) fun _ _ x => x))
  obtain ⟨⟨⟨cl, dct, dt, sl⟩, ho, hc, hd⟩, hcall⟩ := h₁
  dsimp only at hc hd
  subst hc hd
  simp only [hplain, List.any_nil, Bool.or_false]
  refine wpAny_bind (m := keeperOf (.ref u)) ?_
  unfold keeperOf
  refine wpAny_bind (wpAny_load ho ?_)
  simp only [show (Value.type "builtin_function_or_method" != Value.type "method") = true by decide, show (Value.type "builtin_function_or_method" == Value.type "builtin_function_or_method" || Value.type "builtin_function_or_method" == Value.type "method-wrapper") = true by decide, if_true]
  refine wpAny_pure ?_
  exact wpAny_bind (wpAny_mono hcall (fun r s₂ hr => wpAny_bind (wpAny_holding (wpAny_point (wpAny_pure hr)))) fun _ _ x => x)
end
section
variable {c : Cx} {n : Nat} {sc : Scope}
theorem St.store_app {X0 : List Addr} {s0 : Shared} {env : Env} {gd : List (Addr × Obj)} {hid : List (Value × D)} {ow : List (Str × Addr)} {r : Rho} {s : Shared} {h1 h' : Heap} {tk : Nat} {b : Addr} {x y : Str} {m a : Addr}
    (S : St c X0 s0 env gd hid ow r s) (e1 : Ext c s.heap h1) (hw : HW env h1 h' x (.ref m) b) (T : Step c s0 env b h1 h') (hxy : y ≠ x) (hya : (y, a) ∈ ow) (hm : IsApp h1 m a) (hmz : m ∉ c.Z) :
    St c X0 s0 env gd hid (dropO ow x) ((r.kill x).put x (.app y)) { s with heap := h', toks := tk } := by
  have sub := dropO_sub ow x
  have hX : ∀ a, a ∈ XX (dropO ow x) X0 → a ∈ XX ow X0 := fun a h => by
    rcases List.mem_append.mp h with q | q
    · exact List.mem_append_left _ ((sub.map _).subset q)
    · exact List.mem_append_right _ q
  have mon : ∀ a vs, LP h1 (XX ow X0) a vs → LP h' (XX (dropO ow x) X0) a vs := fun a vs l => ⟨T.isList l.1, fun q => l.2 (hX a q)⟩
  refine S.store e1 hw T (fun p hp hx => mem_dropO.mpr ⟨hp, hx⟩) (S.owk.sublist (sub.map _)) (S.owa.sublist (sub.map _)) (fun p hp => ?_) (fun a vs l => mon a vs (LP.ext e1 S.zX (fun _ q => .inl q) a vs l))
    (fun p hp q => (S.gds p hp).2.2.2.2 ((sub.map _).subset q)) ⟨m, a, rfl, mem_dropO.mpr ⟨hya, hxy⟩, T.isApp hm, hmz⟩
  obtain ⟨⟨vs, a1⟩, a2, a3⟩ := S.owp p (sub.subset hp)
  exact ⟨⟨vs, T.plain (a1.at fun o z => e1.keep _ o a3 z)⟩, a2, a3⟩

/-- m = y.append -/
theorem trS_app {m y : Str} {p yp apos pos : Pos} (hk : Sto sc m) (hxy : y ≠ m := by decide) (hsw : ∀ env, swapsWith (.Attribute (.Name y yp) "append" apos) (some (.Name m p)) pos.line env = pure false := by intro _; rfl)
    (hd : (y == ("__debug__" : Str)) = false := by decide) (hn : (y == ("__classdict__" : Str)) = false := by decide) :
    TrS c n sc (.Assign [.Name m p] (.Attribute (.Name y yp) "append" apos) pos) (fun r => (getOwn r y).bind fun _ => some ((r.kill m).put m (.app y), .next)) := fun {prog w A E X0 s0 env gd hid ow r r' fl s Q} hA hs hfn S hf h => by
  obtain ⟨l, h0, hf⟩ := bind_some hf
  cases hf
  have hy := getOwn_of h0
  refine wpAny_Assign_Name (Attribute_name (ownOf S hy hd hn fun a vs hm hp hr => ?_)) (hsw _)
  obtain ⟨nn, e0⟩ := id hp
  have hz := (S.owp _ hm).2.2
  obtain ⟨hh, g, dd, tk0, os⟩ := s
  refine append_attr e0 fun t' => ?_
  have e1 : Ext c hh (hh.push (appObj a)) := Ext.push c _ _
  have S1 : St c X0 s0 env gd hid ow r ⟨hh.push (appObj a), g, dd, t', os⟩ := S.ext (tk := t') e1
  refine wp_storeName S1 (hk.of hs hfn) fun h' tk b hw T => ?_
  exact h _ _ _ (S.store_app (tk := tk) (s := ⟨hh, g, dd, tk0, os⟩) e1 hw T hxy hm ⟨_, Heap.get?_push_size _ rfl, rfl, rfl⟩ fun q => not_live_size _ (S.glo.zl _ q).live) trivial
def getApp (r : Rho) (m : Str) : Option (Str × List D) := match r.get m with
  | some (.app y) => (getOwn r y).map (y, ·)
  | _ => none
/-- m(e), where m is y.append -/
theorem trS_appCall {m : Str} {p pos spos : Pos} {e : Expr} {f : Rho → Option (List D)} (t : TrEs true c n sc [e] f) (pl : Plain [e])
    (hi : ∀ env, env.scope = sc → interactive env = false) (hsw : ∀ env, swapsWith (.Call (.Name m p) [e] [] pos) none spos.line env = pure false := by intro _; rfl)
    (hd : (m == ("__debug__" : Str)) = false := by decide) (hn : (m == ("__classdict__" : Str)) = false := by decide) :
    TrS c n sc (.Expr (.Call (.Name m p) [e] [] pos) spos) (fun r => (getApp r m).bind fun q => (f r).bind fun ds => match ds with | [d] => if q.2.length < lim then some (r.put q.1 (.own (q.2 ++ [d])), .next) else none | _ => none) := fun {prog w A E X0 s0 env gd hid ow r r' fl s Q} hA hs hfn S hf h => by
  obtain ⟨⟨y, l⟩, h0, hf⟩ := bind_some hf
  obtain ⟨ds, h1, hf⟩ := bind_some hf
  split at hf <;> try (cases hf; done)
  rename_i d
  split at hf
  · rename_i hl
    cases hf
    unfold getApp at h0
    split at h0
    · rename_i y' hm
      cases hy' : getOwn r y' with
      | none => rw [hy'] at h0; cases h0
      | some l' =>
        rw [hy'] at h0
        cases h0
        have hy := getOwn_of hy'
        obtain ⟨v, lo, mm, a, rfl, hya, hap, hmz⟩ := S.vars m _ hm
        obtain ⟨v2, _, a2, vs, rfl, hm2, hp, hr⟩ := S.vars y _ hy
        have ea : a2 = a := by
          have : ∀ (ow : List (Str × Addr)), (ow.map (·.1)).Nodup → ∀ u v, (y, u) ∈ ow → (y, v) ∈ ow → u = v := by
            intro ow
            induction ow with
            | nil => intro _ u v hu; cases hu
            | cons p q ih =>
              intro hn u v hu hv
              rw [List.map_cons, List.nodup_cons] at hn
              rcases List.mem_cons.mp hu with e1 | e1 <;> rcases List.mem_cons.mp hv with e2 | e2
              · rw [← e1] at e2; exact (Prod.mk.inj e2).2.symm
              · exact absurd (List.mem_map_of_mem (f := (·.1)) e2) (by rw [← e1] at hn; exact hn.1)
              · exact absurd (List.mem_map_of_mem (f := (·.1)) e1) (by rw [← e2] at hn; exact hn.1)
              · exact ih hn.2 u v e1 e2
          exact this ow S.owk _ _ hm2 hya
        subst ea
        refine wpAny_Expr ?_ (hi _ hs) (hsw _)
        have ld : ∀ {Q' : Value → Shared → Prop}, Q' (.ref mm) s → wpAny (model prog w) A (eval (.Name m p) env) Q' E s := fun {Q'} hq => by
          rcases lo with ⟨k, mp, hmp, q⟩ | ⟨k | k, a, ha, hc⟩
          · exact wpAny_Name (wpAny_loadName_local S.kf k hmp q hq) hd
          · exact wpAny_Name (wpAny_loadName_cell S.kf k ha hc hq) hd
          · exact wpAny_Name (wpAny_loadName_free S.kf k ha hc hq hn) hd
        refine wpAny_Call_NameR (ld ?_)
        refine callWith_app (a := a2) (pl _ _).1 (evalArgs_pl pl (t hA hs S h1 fun us s1 a1 x1 => ?_))
        have S1 := S.after a1
        have hz := (S.owp _ hm2).2.2
        have hp1 : s1.heap.PlainList a2 vs := hp.at fun o e => a1.2.keep a2 o hz e
        have hap1 : IsApp s1.heap mm a2 := by
          obtain ⟨o, ho, q⟩ := hap
          exact ⟨o, a1.2.keep mm o hmz ho, q⟩
        have hlen := Rs.length hr
        obtain ⟨u, rfl, x2⟩ := x1.one_inv
        simp only [Array.length_toList] at hlen
        refine ⟨hap1, call_app hap1 hp1 (by rw [hlen]; exact Nat.le_trans (Nat.le_of_lt hl) lim_le) fun h' hp' hs' => ?_⟩
        have S2 := S1.mutate (tk := s1.toks) hy hm2 hs' hp' (l' := l ++ [d]) ?_
        · exact h _ _ _ S2 trivial
        · rw [Array.toList_push]
          exact Rs.append (S.mvs a1 hr) x1
    · cases h0
  · cases hf
end
end Mine
end SLa15

/-! La16 -/
noncomputable section SLa16
namespace Mine
def boolsOf : List D → Option (List Bool)
  | [] => some []
  | .bool i :: r => (boolsOf r).map (i :: ·)
  | _ :: _ => none
def oIn : D → D → Option D
  | .bool b, .list l => (boolsOf l).map fun bs => .bool (bs.any (· == b))
  | .str y, .str x => some (.bool !(Builtin.Str.occurrences x y 0 x.length 1).isEmpty)
  | _, _ => none
def oNotIn : D → D → Option D
  | .bool b, .list l => (boolsOf l).map fun bs => .bool (!bs.any (· == b))
  | .str y, .str x => some (.bool (!(!(Builtin.Str.occurrences x y 0 x.length 1).isEmpty)))
  | _, _ => none
def rangeD3 (a c : Int) (k : Nat) : List D := (List.range k).map fun (i : Nat) => .int (a + i * c)
def oRange3 : List D → Option (List D)
  | [.int a, .int b, .int c] => if -(lim : Int) < a ∧ a < lim ∧ -(lim : Int) < b ∧ b < lim ∧ 0 < c ∧ c < lim ∧ Builtin.Range.rangeSize a b c ≤ lim then some (rangeD3 a c (Builtin.Range.rangeSize a b c).toNat) else none
  | _ => none
section
variable {c : Cx} {n : Nat} {sc : Scope} {b : Bool}
theorem Rs.bools {P : Addr → Array Value → Prop} : ∀ {vs : List Value} {ds : List D} {bs : List Bool}, Rs P vs ds → boolsOf ds = some bs → D.pys ds = some (bs.map PyData.bool)
  | _, _, _, .nil, h => by cases h; rfl
  | _, _, _, .cons (d := d) (ds := ds) r q, h => by
    cases d <;> simp only [boolsOf, reduceCtorEq] at h
    rename_i i
    cases hd : boolsOf ds with
    | none => rw [hd] at h; cases h
    | some ns =>
      rw [hd] at h
      cases h
      unfold D.pys
      rw [Rs.bools q hd]
      rfl
theorem lay_bools : ∀ bs : List Bool, PyData.canLayAll0 (bs.map PyData.bool) = true
  | [] => rfl
  | b :: r => by
    show (PyData.canLay0 (.bool b) && PyData.canLayAll0 (r.map PyData.bool)) = true
    rw [lay_bools r]; rfl
theorem any_bools (bs : List Bool) (b : Bool) : ((bs.map PyData.bool).any fun y => PyData.eqv y (.bool b)) = bs.any (· == b) := by
  rw [List.any_map]
  first
    | (congr 1; done)
    | (congr 1; funext x; cases x <;> cases b <;> rfl)
theorem act_in : Act2 c n (compareOp .In) oIn := fun {prog w A E s Q a b da db d X} hA G hz hX ra rb ho h => by
  unfold oIn at ho
  split at ho
  · rename_i bb l
    cases h1 : boolsOf l with
    | none => rw [h1] at ho; cases ho
    | some bs =>
      rw [h1] at ho
      cases ho
      obtain ⟨as, r1⟩ := R.reads ra (p := .bool bb) rfl
      have e : D.py (.list l) = some (.list (bs.map PyData.bool)) := by
        obtain ⟨a, vs, rfl, p, q⟩ := rb.list_inv
        unfold D.py
        rw [Rs.bools q h1]
        rfl
      obtain ⟨as2, r2⟩ := R.reads rb e
      refine SeqAt.in_list_reads r2 r1 (lay_bools bs) rfl ?_ ?_
      · have := hA.un
        show A.units + 1 + min _ 0 < 9900
        omega
      · rw [any_bools]
        exact h _ _ (After.refl c _) .bool
  · cases ho
    obtain ⟨t, rfl⟩ := ra.str_inv
    obtain ⟨u, rfl⟩ := rb.str_inv
    exact in_str (h _ _ (After.refl c _) .bool)
  · cases ho
theorem act_notIn : Act2 c n (compareOp .NotIn) oNotIn := fun {prog w A E s Q a b da db d X} hA G hz hX ra rb ho h => by
  unfold oNotIn at ho
  split at ho
  · rename_i bb l
    cases h1 : boolsOf l with
    | none => rw [h1] at ho; cases ho
    | some bs =>
      rw [h1] at ho
      cases ho
      obtain ⟨as, r1⟩ := R.reads ra (p := .bool bb) rfl
      have e : D.py (.list l) = some (.list (bs.map PyData.bool)) := by
        obtain ⟨a, vs, rfl, p, q⟩ := rb.list_inv
        unfold D.py
        rw [Rs.bools q h1]
        rfl
      obtain ⟨as2, r2⟩ := R.reads rb e
      refine SeqAt.notIn_list_reads r2 r1 (lay_bools bs) rfl ?_ ?_
      · have := hA.un
        show A.units + 1 + min _ 0 < 9900
        omega
      · rw [any_bools]
        exact h _ _ (After.refl c _) .bool
  · cases ho
    obtain ⟨t, rfl⟩ := ra.str_inv
    obtain ⟨u, rfl⟩ := rb.str_inv
    exact notIn_str (h _ _ (After.refl c _) .bool)
  · cases ho

theorem small3 {a b k : Int} (h : -(lim : Int) < a ∧ a < lim ∧ -(lim : Int) < b ∧ b < lim ∧ 0 < k ∧ k < lim ∧ Builtin.Range.rangeSize a b k ≤ lim) (h0 : 0 ≤ Builtin.Range.rangeSize a b k) : Builtin.Range.small a b k = true := by
  have hlim := lim_eq
  unfold Builtin.Range.small
  simp only [Builtin.Range.rangeFitsLong, Bool.and_eq_true, Bool.or_eq_true, decide_eq_true_eq, beq_iff_eq, h.2.2.2.2.1, gt_iff_lt, if_true]
  omega
theorem rangeSize_nonneg {a b k : Int} (h : 0 < k) : 0 ≤ Builtin.Range.rangeSize a b k := by
  unfold Builtin.Range.rangeSize
  rw [if_pos h]
  split
  · have : 0 ≤ (b - a - 1) / k := Int.ediv_nonneg (by omega) (by omega)
    omega
  · exact Int.le_refl _
/-- list(range(a, b, c)) -/
theorem trF_range3 {p1 p2 q1 q2 : Pos} {es : List Expr} {f : Rho → Option (List D)} (tl : TrE c n sc (.Name "list" p1) (fun _ => some (.ty "list"))) (tn : TrE c n sc (.Name "range" p2) (fun _ => some (.ty "range"))) (ta : TrEs true c n sc es f) (pl : Plain es) (pl2 : Plain [.Call (.Name "range" p2) es [] q2]) :
    TrF c n sc (.Call (.Name "list" p1) [.Call (.Name "range" p2) es [] q2] [] q1) (fun r => (f r).bind oRange3) := fun {prog w A E X0 s0 env gd hid ow r s Q ds} hA hs S hf h => by
  obtain ⟨l, h1, hf⟩ := bind_some hf
  unfold oRange3 at hf
  split at hf <;> try (cases hf; done)
  rename_i a b k
  split at hf <;> try (cases hf; done)
  rename_i hb
  have hlim := lim_eq
  cases hf
  refine wpAny_Call_NameR (tl hA hs S rfl fun v s1 a1 x1 => ?_)
  cases x1
  have S1 := S.after a1
  refine PySem.callWith_type (pl2 _ _).1 (evalArgs_pl pl2 ?_)
  refine spliced_more ?_ rfl
  refine wpAny_Call_NameR (tn hA hs S1 rfl fun v s2 a2 x2 => ?_)
  cases x2
  have S2 := S1.after a2
  refine PySem.callWith_type (pl _ _).1 (evalArgs_pl pl (ta hA hs S2 h1 fun vs s3 a3 x3 => ?_))
  obtain ⟨u1, u2, u3, rfl, y1, y2, y3⟩ := x3.three_inv
  obtain ⟨t1, rfl⟩ := y1.int_inv
  obtain ⟨t2, rfl⟩ := y2.int_inv
  obtain ⟨t3, rfl⟩ := y3.int_inv
  refine call_range_3 (by omega) ?_ (Or.inl (PyProof.noPylong_small (by omega)))
  refine spliced_none ?_
  have hn0 := rangeSize_nonneg (a := a) (b := b) hb.2.2.2.2.1
  have hR : IsRange (s3.heap.push { cls := .type "range", data := .fields #[.int a t1, .int b t2, .int k t3] }) s3.heap.objs.size a b k t1 t2 t3 := Heap.get?_push_size _ rfl
  have ap : After c s3 { s3 with heap := s3.heap.push { cls := .type "range", data := .fields #[.int a t1, .int b t2, .int k t3] }, toks := s3.toks } := After.push c _ _ _
  refine call_list_range hA.hd hR (small3 hb hn0) (n := (Builtin.Range.rangeSize a b k).toNat) (by omega) (by omega) fun h' tk acc' c' hk hS' hacc => ?_
  have aall := ((a1.trans a2).trans a3).trans ap
  refine h _ acc' _ (aall.trans (After.heap tk (Ext.of hk))) (fun q => not_live_size _ (aall.2.live q)) ⟨c', hS'⟩ ?_
  have key : ∀ (vs : List Value) (m i : Nat), vs.length = m → (∀ (j : Nat) (v : Value), vs[j]? = some v → ∃ t, v = Value.int (a + ((i + j : Nat) : Int) * k) t) → Rs (LP h' ((s3.heap.push { cls := .type "range", data := .fields #[.int a t1, .int b t2, .int k t3] }).objs.size :: XX ow X0)) vs ((List.range' i m).map fun (i : Nat) => D.int (a + (i : Int) * k)) := by
    intro vs
    induction vs with
    | nil => intro m i hm _; cases hm; exact .nil
    | cons v vs ih =>
      intro m i hm hv
      cases m with
      | zero => cases hm
      | succ m =>
        rw [List.range'_succ, List.map_cons]
        obtain ⟨t, rfl⟩ := hv 0 v rfl
        refine Rs.cons R.int (ih m (i + 1) (by simpa using hm) fun j v hj => ?_)
        obtain ⟨t, e⟩ := hv (j + 1) v (by simpa using hj)
        exact ⟨t, by rw [e]; congr 4; omega⟩
  have := key acc'.toList _ 0 (by simpa using hacc.1) fun j v hj => by
    have := hacc.2 j v (by simpa using hj)
    simpa using this
  unfold rangeD3
  rw [List.range_eq_range']
  exact this
end
end Mine
end SLa16

/-! Obj1 -/
noncomputable section SObj1
namespace Mine
namespace Ob
theorem mro_object : mroOf (.type "object") = pure [.type "object"] := by kernel_rfl
theorem lookup_object_new : typeLookup (.type "object") "__new__" = pure (some (.builtin "object.__new__")) := by rw [typeLookup_type, builtinLookup_eq_fast]; kernel_rfl
theorem slot_object_init : Slot "object" "__init__" "object.__init__" :=
  .of (owner := "object") (n := "__init__") (by rw [typeLookup_type, builtinLookup_eq_fast]; kernel_rfl) (by decide +kernel) (by decide +kernel) (by decide +kernel)
    (by first | exact .inl (by decide +kernel) | exact .inr (by decide +kernel)) (by rw [isSubtype_type]; kernel_rfl)
theorem made_object : Bind.madeBy (.type "object") = pure (some "object.__new__") := madeBy_type mro_object lookup_object_new (by decide +kernel)
theorem called_object : TypeCalled "object" "object.__new__" "object.__init__" :=
  ⟨by decide +kernel, by decide +kernel, ⟨_, _, mro_object⟩, made_object, by decide +kernel, by rw [isSubtype_type]; kernel_rfl, slot_object_init⟩
theorem typeCall_object : checkTypeCall "object" ⟨[], []⟩ = pure () := by kernel_rfl
theorem newCall_object : checkBuiltinCall "object.__new__" ⟨[.type "object"], []⟩ = pure () := by kernel_rfl
theorem initArgs_object (obj : Value) : argsOk "object.__init__" ⟨[obj], []⟩ := by unfold argsOk; kernel_rfl
theorem refuse_object : ((Manifest.find? "object").elim false (·.mro.any fun t => (Manifest.find? t).elim false (·.noNew))) = false := by decide +kernel
theorem here_object : Bind.madeHere "object.__new__" (.type "object") = pure () := by kernel_rfl
theorem dict_object : typeHasDict (.type "object") = false := by kernel_rfl
theorem dies_object : diesByItsTypesDel "object" = false := by kernel_rfl
end Ob
section
variable {prog : Program} {w : World} {A : Around} {E : Value → Shared → Prop} {s : Shared}
theorem new_object : Meets (Builtin.«object.__new__» ⟨[.type "object"], []⟩) (fun _ R s => R (.ok (.ret (.ref s.heap.objs.size))) { s with heap := s.heap.push { cls := .type "object" } }) :=
  Meets.of_wp fun prog w A R s h => by
    unfold Builtin.«object.__new__»
    dsimp only
    refine wpAny_bind (wpAny_pure ?_)
    rw [if_neg (by decide)]
    rw [Ob.refuse_object, if_neg (by decide)]
    refine wpAny_bind (wpAny_of_eq Ob.here_object ?_)
    rw [if_neg (by decide), if_neg (by rw [Ob.dict_object]; decide)]
    refine wpAny_bind (wpAny_pure ?_)
    refine wpAny_bind (wpAny_newObj_type ?_)
    rw [if_neg (by rw [Ob.dies_object]; decide)]
    exact wpAny_pure ⟨_, rfl, h⟩
theorem call_object {Q : Value → Shared → Prop} (h : Q (.ref s.heap.objs.size) { s with heap := s.heap.push { cls := .type "object" } }) : wpAny (model prog w) A (call (.type "object") []) Q E s :=
  callType_meets (Q₁ := fun obj s₁ => s₁.TypeIs obj "object" ∧ Q obj s₁) Ob.called_object Ob.typeCall_object Ob.newCall_object F.entry_object_new F.entry_object_init new_object ⟨⟨_, Heap.get?_push_size _ rfl, rfl⟩, h⟩ fun obj s₁ hq =>
    ⟨hq.1, Ob.initArgs_object obj, _, Meets.of_wp (S := fun _ R s => R (.ok (.ret .none)) s) fun prog w A R s hs => wpAny_pure ⟨_, rfl, hs⟩, rfl, hq.2⟩
end

/-! ### a fresh object in a name -/
def objD (g : Rho → Option (Rho × Fl)) (x : Str) (r : Rho) (d : D) : Prop := ∀ a : Addr, ∃ r', g ((r.kill x).put x (.sh (.adr a))) = some (r', .ret d)
open Classical in
def objF (g : Rho → Option (Rho × Fl)) (x : Str) (r : Rho) : Option (Rho × Fl) := if h : ∃ d, objD g x r d then some ([], .ret h.choose) else none
theorem objF_of {g : Rho → Option (Rho × Fl)} {x : Str} {r : Rho} {d : D} (h : objD g x r d) : objF g x r = some ([], .ret d) := by
  unfold objF
  have hx : ∃ d, objD g x r d := ⟨d, h⟩
  rw [dif_pos hx]
  obtain ⟨r1, e1⟩ := h 0
  obtain ⟨r2, e2⟩ := hx.choose_spec 0
  rw [e1] at e2
  cases e2
  rfl
section
variable {c : Cx} {n : Nat} {sc : Scope}
/-- x = object(); the rest does not depend on its place -/
theorem trSs_obj {x : Str} {p q pos spos : Pos} {es : List Stmt} {g : Rho → Option (Rho × Fl)} (tn : TrE c n sc (.Name "object" q) (fun _ => some (.ty "object"))) (u : TrSs c n sc es g) (hk : Sto sc x)
    (hsw : ∀ env, swapsWith (.Call (.Name "object" q) [] [] pos) (some (.Name x p)) spos.line env = pure false := by intro _; rfl) :
    TrSs c n sc (.Assign [.Name x p] (.Call (.Name "object" q) [] [] pos) spos :: es) (objF g x) := fun {prog w A E X0 s0 env gd hid ow r r' fl s Q} hA hs hfn S hf h => by
  unfold objF at hf
  split at hf
  · rename_i hx
    cases hf
    refine wpAny_execs_cons (wpAny_Assign_Name (wpAny_Call_NameR (tn hA hs S rfl fun v s1 a1 x1 => ?_)) (hsw _))
    cases x1
    have S1 := S.after a1
    refine PySem.callWith_type (plain_nil env pos).1 (evalArgs_pl plain_nil (spliced_none ?_))
    refine call_object ?_
    have a2 : After c s { s1 with heap := s1.heap.push { cls := .type "object" } } := a1.trans (After.heap0 (Ext.push c _ _))
    have S2 := S.after a2
    refine wp_storeName S2 (hk.of hs hfn) fun h' tk b hw T => ?_
    obtain ⟨⟨h1', tk1, e⟩, e1⟩ := a2
    have S3 := S2.store_sh (tk := tk) (Ext.refl c _) hw T (d := .adr s1.heap.objs.size) .adr
    obtain ⟨r2, e2⟩ := hx.choose_spec s1.heap.objs.size
    refine u hA hs hfn S3 e2 fun f' s' ow' S' hr => ?_
    cases f' <;> simp only [RFl] at hr
    exact h _ _ _ (S'.weaken fun x e q => by cases q) hr
  · cases hf
end
end Mine
end SObj1

/-! Tra1 -/
noncomputable section STra1
namespace Mine
namespace Tr
theorem sub_key : isSubtype (.type "KeyError") (.type "LookupError") = pure true := by rw [isSubtype_type]; kernel_rfl
end Tr
section
variable {prog : Program} {w : World} {A : Around} {E : Value → Shared → Prop} {s : Shared}
theorem table_miss {d : Addr} {f : Int → Option Value} {k : Nat} {Q : Builtin.Str.Mapped → Shared → Prop} (hd : (d == sysModules) = false) (hh : A.handled = none) (hm : s.heap.MapOf (intKind prog w) d f) (hv : f k = none)
    (h : ∀ h' tk, (∀ b o, s.heap.get? b = some o → h'.get? b = some o) → Q .keep { s with heap := h', toks := tk }) : wpAny (model prog w) A (Builtin.Str.tableLookup (.ref d) k) Q E s := by
  unfold Builtin.Str.tableLookup
  refine wpAny_bind (wpAny_attempt (wpAny_bind (wpAny_mkInt ?_)))
  refine wpAny_getItem_missing_of (knd := intKind prog w) (k := (k : Int)) (by simp [intKind, Value.isInt]) hd hh hm hv fun h' e N => ?_
  dsimp only
  obtain ⟨ob, t, h1, h2, h3⟩ := N.there
  refine wpAny_bind (wpAny_isInstance ⟨ob, h1, h2⟩ Tr.sub_key ?_)
  rw [if_pos rfl]
  exact wpAny_bind (wpAny_rule (wpAny_pure (h _ _ fun b o e => N.keeps b o e)))
theorem table_hit {d : Addr} {f : Int → Option Value} {k : Nat} {x : Str} {t : Tok} {Q : Builtin.Str.Mapped → Shared → Prop} (hm : s.heap.IntMap d f) (hv : f k = some (.str x t))
    (h : ∀ tk, Q (.text x) { s with toks := tk }) : wpAny (model prog w) A (Builtin.Str.tableLookup (.ref d) k) Q E s := by
  unfold Builtin.Str.tableLookup
  refine wpAny_bind (wpAny_attempt (wpAny_bind (wpAny_mkInt ?_)))
  refine wpAny_getItem_intMap hm hv ?_
  dsimp only
  refine wpAny_bind (wpAny_of_eq (a := none) rfl ?_)
  dsimp only
  refine wpAny_bind (wpAny_of_eq (a := some x) rfl ?_)
  exact wpAny_pure (h _)
theorem trans_miss {d : Addr} {f : Int → Option Value} {k : Nat} {t : Tok} {Q : Fin → Shared → Prop} (hk : k < 128) (hd : (d == sysModules) = false) (hh : A.handled = none) (hm : s.heap.MapOf (intKind prog w) d f) (hv : f k = none)
    (h : ∀ h' tk t', (∀ b o, s.heap.get? b = some o → h'.get? b = some o) → Q (.done (.ret (.str ⟨#[k]⟩ t'))) { s with heap := h', toks := tk }) : wpAny (model prog w) A (Builtin.«str.translate» ⟨[.str ⟨#[k]⟩ t, .ref d], []⟩) Q E s := by
  unfold Builtin.«str.translate»
  refine wpAny_bind (wpAny_of_eq (a := (.str ⟨#[k]⟩ t, ⟨#[k]⟩, .ref d)) (by first | rfl | kernel_rfl) ?_)
  dsimp only
  rw [if_neg (by show ¬ (1 == 0) = true; decide)]
  rw [← Array.forIn_toList]
  simp only [List.forIn_cons, List.forIn_nil]
  have hf : (#[k].all fun x => decide (x < 128)) = true := by simp [hk]
  have tl0 : Builtin.Str.tooLong 0 = false := by first | rfl | decide
  have tl1 : Builtin.Str.tooLong 1 = false := by first | rfl | decide
  refine wpAny_bind (wpAny_bind ?_)
  rw [if_neg (by rw [tl0]; decide), if_pos hf]
  dsimp only [List.lookup]
  refine wpAny_bind (table_miss hd hh hm hv fun h' tk hk' => ?_)
  dsimp only
  refine wpAny_bind (wpAny_pure ?_)
  dsimp only
  refine wpAny_pure ?_
  dsimp only
  refine wpAny_pure ?_
  dsimp only
  rw [if_neg (by show ¬ Builtin.Str.tooLong 1 = true; rw [tl1]; decide)]
  refine wpAny_bind (wpAny_mkStr (wpAny_pure ?_) (by show 1 ≤ sizeLine; rw [sizeLine_eq]; omega))
  exact h _ _ _ hk'
theorem trans_hit {d : Addr} {f : Int → Option Value} {k : Nat} {x : Str} {t u : Tok} {Q : Fin → Shared → Prop} (hk : k < 128) (hm : s.heap.IntMap d f) (hv : f k = some (.str x u)) (hx : x.length = 2)
    (h : ∀ tk t', Q (.done (.ret (.str x t'))) { s with toks := tk }) : wpAny (model prog w) A (Builtin.«str.translate» ⟨[.str ⟨#[k]⟩ t, .ref d], []⟩) Q E s := by
  unfold Builtin.«str.translate»
  refine wpAny_bind (wpAny_of_eq (a := (.str ⟨#[k]⟩ t, ⟨#[k]⟩, .ref d)) (by first | rfl | kernel_rfl) ?_)
  dsimp only
  rw [if_neg (by show ¬ (1 == 0) = true; decide)]
  rw [← Array.forIn_toList]
  simp only [List.forIn_cons, List.forIn_nil]
  have hf : (#[k].all fun x => decide (x < 128)) = true := by simp [hk]
  have tl0 : Builtin.Str.tooLong 0 = false := by first | rfl | decide
  have tl1 : Builtin.Str.tooLong 2 = false := by first | rfl | decide
  have hx2 : (x.length == 1 && x.cps.all fun x => decide (x < 128)) = false := by rw [hx]; rfl
  refine wpAny_bind (wpAny_bind ?_)
  rw [if_neg (by rw [tl0]; decide), if_pos hf]
  dsimp only [List.lookup]
  refine wpAny_bind (table_hit hm hv fun tk => ?_)
  dsimp only
  rw [hx2]
  simp only [Bool.false_eq_true, if_false]
  refine wpAny_bind (wpAny_pure ?_)
  dsimp only
  refine wpAny_bind (wpAny_rule ?_)
  refine wpAny_bind (table_hit (s := { s with toks := tk }) hm hv fun tk2 => ?_)
  dsimp only
  refine wpAny_pure ?_
  dsimp only
  refine wpAny_pure ?_
  dsimp only
  rw [if_neg (by rw [Nat.zero_add, hx, tl1]; decide)]
  have e : (⟨[x].reverse.foldl (fun acc p => acc ++ p.cps) #[]⟩ : Str) = x := by simp
  show wpAny _ _ (retStr (⟨[x].reverse.foldl (fun acc p => acc ++ p.cps) #[]⟩ : Str)) _ _ _
  rw [e]
  unfold retStr
  refine wpAny_bind (wpAny_mkStr (wpAny_pure (h _ _)) (by show x.length ≤ sizeLine; rw [hx, sizeLine_eq]; omega))
end
/-- x.translate(table) for one sign -/
def oTrans (ta : Addr) (tb : Nat → Option Str) : List D → Option D
  | [.str x, .adr a] => if a = ta then match x.cps with
    | ⟨[k]⟩ => if k < 128 then match tb k with
      | none => some (.str ⟨#[k]⟩)
      | some y => if y.length = 2 then some (.str y) else none
      else none
    | _ => none
    else none
  | _ => none
theorem act_trans {c : Cx} {n : Nat} {ta : Addr} {tb : Nat → Option Str} {es : Array DictEntry} {ep : Nat} (hob : c.FT ta = some { cls := .type "dict", data := .dict es ep }) (hd : (ta == sysModules) = false) (hk : IntKeys es)
    (hn : ∀ k : Nat, tb k = none → findBy Value.isInt es k = none) (hs : ∀ (k : Nat) x, tb k = some x → ∃ t, findBy Value.isInt es k = some (.str x t)) : ActL c n (fun vs => call (.builtin "str.translate") vs) (oTrans ta tb) := fun {prog w A E s Q vs ds d X} hA G hz hX ra ho h => by
  unfold oTrans at ho
  split at ho <;> try (cases ho; done)
  rename_i x a
  split at ho <;> try (cases ho; done)
  rename_i ea
  subst ea
  split at ho <;> try (cases ho; done)
  rename_i k hx
  split at ho <;> try (cases ho; done)
  rename_i hlt
  obtain ⟨v, u, rfl, r1, r2⟩ := ra.two_inv
  obtain ⟨t, rfl⟩ := r1.str_inv
  have eu : u = .ref a := by cases r2; rfl
  subst eu
  have ex : x = ⟨#[k]⟩ := by
    cases x
    simp only at hx
    rw [hx]
  subst ex
  have hm : s.heap.IntMap a (fun k => findBy Value.isInt es k) := ⟨_, es, ep, G.obs a _ hob, rfl, rfl, hk, fun _ => rfl⟩
  have hm2 : s.heap.MapOf (intKind prog w) a (fun k => findBy Value.isInt es k) := hm.mapOf fun o e => by
    rw [G.obs a _ hob] at e; cases e; exact ⟨rfl, rfl⟩
  refine wpAny_call_entry F.slot_str_translate (typeIs_str _ _ _) F.entry_str_translate ?_ (F.args_str_translate_2 _ _)
  split at ho
  · rename_i e
    cases ho
    exact trans_miss hlt hd hA.hd hm2 (hn k e) fun h' tk t' hk' => ⟨_, rfl, h _ _ (After.heap tk (Ext.of hk')) .str⟩
  · rename_i y e
    split at ho <;> try (cases ho; done)
    rename_i hy
    cases ho
    obtain ⟨u, hu⟩ := hs k y e
    exact trans_hit hlt hm hu hy fun tk t' => ⟨_, rfl, h _ _ (After.tok c _ _) .str⟩
end Mine
end STra1

/-! La17 -/
noncomputable section SLa17
namespace Mine
section
variable {prog : Program} {w : World} {A : Around} {s : Shared}
theorem codeAny_call_cellsB {R : Result → Shared → Prop} {a : Addr} {o : Obj} {fd : FuncData} {body : List Stmt} {vals : List Value} {binds : List (Str × Value)}
    (hroom : A.depth < recursionLimit) (ho : s.heap.get? a = some o) (hdata : o.data = .func fd) (hlim : s.heap.NoLimit) (hcd : s.heap.CodeRec fd.code fd.qualname)
    (hbody : fd.body = .stmts body) (hbind : BindsTo s fd ⟨vals, []⟩ binds) (hclo : fd.closure = [])
    (hkind : ∀ x ∈ binds, fd.scope.names.lookup x.1 = some .local ∨ (fd.scope.names.lookup x.1 = some .cell ∧ ((cellsFrom (s.heap.objs.size + 1) fd.scope.names []).lookup x.1).isSome = true))
    (h : ∀ s₁, InCallC s (callEnvC fd s.heap.objs.size a).locals (bindL (callEnvC fd s.heap.objs.size a).kindOf binds fun _ => none) (callEnvC fd s.heap.objs.size a).cells
        (bindC (callEnvC fd s.heap.objs.size a).kindOf binds fun _ => none) s₁ →
      wpAny (model prog w) (A.deeper (callEnvC fd s.heap.objs.size a)) (execs body (callEnvC fd s.heap.objs.size a)) (fun f s' => R (.ok (.ret (match f with | .ret v => v | _ => .none))) s')
        (fun e s' => wpAny (model prog w) (A.deeper (callEnvC fd s.heap.objs.size a)) (leaving (callEnvC fd s.heap.objs.size a) e) (fun _ s'' => R (.error e) s'') (fun e' s'' => R (.error e') s'') s') s₁)
    (hco : fd.scope.isCoroutine = false := by rfl) (hgen : fd.scope.isGenerator = false := by rfl) (hk : fd.scope.kind = .function := by rfl) :
    codeAny (model prog w) A (.call (.ref a) ⟨vals, []⟩) R s := by
  refine codeAny_call_function hroom ho hdata hco hgen hbody hcd (hbind _ _ _ _ ?_)
  rw [hclo]
  refine wpAny_newFunctionEnv_cells hk hkind fun env he s' x => ?_
  subst he
  exact ⟨hlim.keeps x.toInCall.keep, codeAny_func (h s' x)⟩
end
section
variable {c : Cx} {n : Nat}
/-- a def of the module's, once its body is known -/
theorem act_defB {fa : Addr} {ob : Obj} {fd : FuncData} {body : List Stmt} {names : List Str} {f : Rho → Option (Rho × Fl)} {F : List D → Option D}
    (hob : c.FT fa = some ob) (hd : ob.data = .func fd) (hcr : ∀ h, Glo c h → h.CodeRec fd.code fd.qualname) (hbody : fd.body = .stmts body) (hclo : fd.closure = [])
    (hgl : fd.globals = mainGlobals) (hbi : fd.builtins = builtinsNs) (hnd : names.Nodup)
    (hbind : ∀ (s : Shared) vals, Glo c s.heap → vals.length = names.length → BindsTo s fd ⟨vals, []⟩ (names.zip vals))
    (hkind : ∀ x ∈ names, fd.scope.names.lookup x = some .local ∨ fd.scope.names.lookup x = some .cell)
    (t : TrSs c n fd.scope body f)
    (hF : ∀ ds d, F ds = some d → ds.length = names.length ∧ ∃ r', f (names.zip (ds.map Ent.sh)) = some (r', .ret d))
    (hco : fd.scope.isCoroutine = false := by rfl) (hgen : fd.scope.isGenerator = false := by rfl) (hk : fd.scope.kind = .function := by rfl) :
    ActL c (n + 1) (fun vs => call (.ref fa) vs) F := fun {prog w A E s Q vs ds d X} hA G hz hX ra ho h => by
  obtain ⟨hlen, r', hf⟩ := hF ds d ho
  have hvl : vs.length = names.length := (Rs.length ra).trans hlen
  have hmap : (names.zip vs).map (·.1) = names := by
    rw [List.map_fst_zip]; omega
  refine wpAny_call (codeAny_call_cellsB (binds := names.zip vs) hA.room (G.obs fa ob hob) hd G.lim (hcr _ G) hbody (hbind s vs G hvl) hclo (fun x hx => ?_) (fun s1 I => ?_) hco hgen hk)
  · have hm : x.1 ∈ names := by rw [← hmap]; exact List.mem_map_of_mem (f := (·.1)) hx
    rcases hkind x.1 hm with e | e
    · exact .inl e
    · exact .inr ⟨e, cellsFrom_has _ _ _ _ e⟩
  · have hLs : ¬ live s.heap s.heap.objs.size := not_live_size _
    have hfr : ∀ a, s.heap.objs.size ≤ a → ¬ live s.heap a := fun a ha l => absurd l.lt (Nat.not_lt.mpr ha)
    have hcf : ∀ x a, (callEnvC fd s.heap.objs.size fa).cells.lookup x = some a → ¬ live s.heap a := fun x a q => hfr a (Nat.le_of_lt (I.above x a (mem_of_lookup q)))
    have S : St c X s (callEnvC fd s.heap.objs.size fa) [] [] [] (names.zip (ds.map Ent.sh)) s1 := by
      refine ⟨hk, hgl, hbi, I.toInCall.same, G, Ext.of I.toInCall.keep, hz, hX, ⟨_, I.toInCall.ns⟩, fun q => hLs (hX _ (hz _ q)), hLs, fun x a q => ?_, fun x y a q1 q2 => name_of_addr I.apart (mem_of_lookup q1) (mem_of_lookup q2), fun _ x a _ q => hcf x a q, fun _ x q => ?_, fun p hp => (nomatch hp), fun p hp => (nomatch hp), .nil, .nil, fun p hp => (nomatch hp), fun x e q => ?_⟩
      · exact ⟨⟨_, I.cell x a q⟩, fun z => hcf x a q (hX _ (hz _ z))⟩
      · exact Option.isSome_iff_exists.mp (cellsFrom_has _ _ _ _ q)
      · obtain ⟨v, d', rfl, r1, hm⟩ := zip_get ra q
        refine ⟨v, ?_, R.mono (LP.ext (Ext.of I.toInCall.keep) hz fun _ q => .inl q) r1⟩
        have hmx : x ∈ names := by rw [← hmap]; exact List.mem_map_of_mem (f := (·.1)) hm
        rcases hkind x hmx with e | e
        · exact .inl ⟨e, _, I.toInCall.ns, bindL_hit e _ _ (by rw [hmap]; exact hnd) hm⟩
        · obtain ⟨a, ha⟩ := Option.isSome_iff_exists.mp (cellsFrom_has fd.scope.names (s.heap.objs.size + 1) [] x e)
          have hc := I.cell x a ha
          have hne : (callEnvC fd s.heap.objs.size fa).kindOf x ≠ some .local := by
            show fd.scope.names.lookup x ≠ some .local
            rw [e]; decide
          rw [bindC_hit hne _ _ (by rw [hmap]; exact hnd) hm] at hc
          exact .inr ⟨.inl e, a, ha, hc⟩
    refine t (hA.deeper _) rfl ⟨fa, ob, fd, rfl, hob, hd, rfl, rfl⟩ S hf fun f' s' ow' S' hr => ?_
    cases f' <;> simp only [RFl] at hr
    exact h _ _ ⟨S'.same, S'.keep⟩ hr
end

/-! ### a list and another place -/
def oIsL (ia : Addr) : D → D → Option D
  | .list _, .adr b => if b = ia then some (.bool false) else none
  | _, _ => none
section
variable {c : Cx} {n : Nat} {sc : Scope} {b : Bool}
theorem act_isL {ia : Addr} {oi : Obj} {T : String} (hi : c.FT ia = some oi) (hc : oi.cls = .type T) (h1 : T ≠ "list") (h2 : T ≠ "tuple") : Act2 c n (compareOp .Is) (oIsL ia) := fun {prog w A E s Q a b da db d X} hA G hz hX ra rb ho h => by
  unfold oIsL at ho
  split at ho <;> try (cases ho; done)
  rename_i l b'
  split at ho <;> try (cases ho; done)
  rename_i e
  subst e
  cases ho
  obtain ⟨x, vs, rfl, p, q⟩ := ra.list_inv
  have eb : b = .ref b' := by cases rb; rfl
  subst eb
  obtain ⟨o, ho, hcl, k, hd⟩ := p.1
  have hob := G.obs b' oi hi
  have hne : x ≠ b' := fun e => by
    subst e
    rw [ho] at hob
    cases hob
    rw [hc] at hcl
    exact h1 (by cases hcl; rfl)
  show wpAny _ _ (isSame (.ref x) (.ref b') >>= fun r => pure (Value.bool r)) _ _ _
  refine wpAny_bind ?_
  unfold isSame
  dsimp only
  rw [if_neg (by simpa using hne)]
  refine wpAny_bind (wpAny_load ho (wpAny_bind (wpAny_load hob ?_)))
  rw [hcl, hc]
  split
  · rename_i e1 _ _ _
    injection e1 with e2
    exact absurd e2 (by decide)
  · exact wpAny_pure (wpAny_pure (h _ _ (After.refl c _) .bool))

/-- a function in a local name is called -/
def atF (x : Str) (fa : Addr) (r : Rho) : Bool := match r.get x with
  | some (.sh (.adr a)) => a == fa
  | _ => false
theorem tr_callL {x : Str} {p pos : Pos} {args : List Expr} {fa : Addr} {ob : Obj} {fd : FuncData} {f : Rho → Option (List D)} {o : List D → Option D} (ta : TrEs b c n sc args f)
    (hob : c.FT fa = some ob) (hfd : ob.data = .func fd) (ho : ActL c n (fun vs => call (.ref fa) vs) o) (pl : Plain args) (hd : (x == ("__debug__" : Str)) = false := by decide) (hn : (x == ("__classdict__" : Str)) = false := by decide) :
    TrM b c n sc (.Call (.Name x p) args [] pos) (fun r => if atF x fa r then (f r).bind o else none) := fun {prog w A E X0 s0 env gd hid ow r s Q d} hA hs S hf h => by
  dsimp only at hf
  split at hf <;> try (cases hf; done)
  rename_i hx
  obtain ⟨ds, h1, hf⟩ := bind_some hf
  unfold atF at hx
  split at hx <;> try (cases hx; done)
  rename_i a hxa
  have ea := beq_iff_eq.mp hx
  subst ea
  refine wpAny_Call_NameR (tr_name x p hd hn hA hs S (d := .adr a) (by dsimp only; rw [hxa]) fun v s1 a1 x1 => ?_)
  have hv : v = .ref a := by cases x1; rfl
  subst hv
  refine Calls.callWith_function (o := ob) (fd := fd) (evalArgs_pl pl (ta hA hs (S.after a1) h1 fun vs s2 a2 x2 => ?_))
  have S2 := (S.after a1).after a2
  exact ⟨⟨S2.glo.obs a ob hob, hfd⟩, ho hA S2.glo S.zM S2.Ml x2 hf fun v s3 a3 x3 => h v s3 ((a1.trans a2).trans a3) x3⟩
end

def foldD (F : List D → Option D) : D → List D → Option D
  | acc, [] => some acc
  | acc, d :: ds => (F [acc, d]).bind fun a => foldD F a ds
def itemsD : D → Option (List D)
  | .list ds => some ds
  | .str x => some (strSigns x)
  | _ => none
def redF (fa : Addr) (F : List D → Option D) (r : Rho) : Option (Rho × Fl) :=
  match r.get "function", r.get "sequence", r.get "initial" with
  | some (.sh (.adr a)), some (.sh q), some (.sh (.list l)) => (itemsD q).bind fun ds => if a = fa then (foldD F (.list l) ds).map fun d => ([], .ret d) else none
  | _, _, _ => none
def RedI (fa I : Addr) (acc : D) (r : Rho) : Prop := r.get "function" = some (.sh (.adr fa)) ∧ r.get "it" = some (.sh (.adr I)) ∧ r.get "value" = some (.sh acc)

theorem get_kp (r : Rho) (x y : Str) (e : Ent) : ((r.kill x).put x e).get y = if y = x then some e else (r.get y).map (Ent.kill x) := by
  rw [Rho.get_put, Rho.get_kill]
theorem call_iter {prog : Program} {w : World} {A : Around} {E : Value → Shared → Prop} {s : Shared} {v : Value} {Q : Value → Shared → Prop} (h : ∀ {E' : Value → Shared → Prop} {P : Value → Shared → Prop}, (∀ u s', Q u s' → P u s') → wpAny (model prog w) A.in1 (pyIter v) P E' s) : wpAny (model prog w) A (call (.builtin "iter") [v]) Q E s := by
  refine Calls.call_function_entry (by decide +kernel) (by decide +kernel) kdk_entry_iter (kdk_args_iter _) ?_
  unfold Builtin.«iter»
  refine wpAny_bind (wpAny_of_eq (a := [v]) (by first | rfl | kernel_rfl) ?_)
  show wpAny _ _ (pyIter v >>= _) _ _ _
  exact wpAny_bind (h fun u s' q => wpAny_pure ⟨_, rfl, q⟩)
section
variable {c : Cx} {n : Nat} {sc : Scope}
theorem trSs_reduce {fa ia : Addr} {ob oi : Obj} {fd : FuncData} {F : List D → Option D} {p1 p2 p3 p4 p5 p6 p7 p8 p9 p10 p11 p12 p13 p14 p15 p16 p17 p18 p19 p20 p21 p22 p23 : Pos} {tb : List Stmt}
    (hob : c.FT fa = some ob) (hfd : ob.data = .func fd) (hF : ActL c n (fun vs => call (.ref fa) vs) F)
    (ti : TrE c n sc (.Name "iter" p2) (fun _ => some (.bi "iter"))) (tm : TrE c n sc (.Name "_initial_missing" p7) (fun _ => some (.adr ia)))
    (hi : c.FT ia = some oi) (hoi : oi.cls = .type "object") (k1 : Sto sc "it") (k2 : Sto sc "value") (k3 : Sto sc "element") :
    TrSs c n sc [.Assign [.Name "it" p1] (.Call (.Name "iter" p2) [.Name "sequence" p3] [] p4) p5,
      .If (.Compare (.Name "initial" p6) [.Is] [.Name "_initial_missing" p7] p8) tb [.Assign [.Name "value" p9] (.Name "initial" p10) p11] p12,
      .For (.Name "element" p13) (.Name "it" p14) [.Assign [.Name "value" p15] (.Call (.Name "function" p16) [.Name "value" p17, .Name "element" p18] [] p19) p20] [] p21,
      .Return (some (.Name "value" p22)) p23] (redF fa F) := fun {prog w A E X0 s0 env gd hid ow r r' fl s Q} hA hs hfn S hf h => by
  unfold redF at hf
  split at hf <;> try (cases hf; done)
  rename_i a sq l g1 g2 g3
  replace hf := bind_some hf
  obtain ⟨ds, hq, hf⟩ := hf
  split at hf <;> try (cases hf; done)
  rename_i ea
  subst ea
  obtain ⟨dres, hfold, hf⟩ : ∃ d, foldD F (.list l) ds = some d ∧ (([], Fl.ret d) : Rho × Fl) = (r', fl) := by
    cases q : foldD F (.list l) ds with
    | none => rw [q] at hf; cases hf
    | some d => rw [q] at hf; exact ⟨d, rfl, Option.some.inj hf⟩
  cases hf
  have nD : ∀ x : Str, x ∈ (["sequence", "initial", "value", "element", "it", "function"] : List Str) → (x == ("__debug__" : Str)) = false ∧ (x == ("__classdict__" : Str)) = false := by decide
  refine wpAny_execs_cons (wpAny_Assign_Name (wpAny_Call_NameR (ti hA hs S rfl fun v s1 a1 x1 => ?_)) rfl)
  cases x1
  have S1 := S.after a1
  have plS : Plain [Expr.Name "sequence" p3] := plain_cons plain_nil
  have TS : TrEs true c n sc [Expr.Name "sequence" p3] _ := trEs_cons (c := c) (n := n) (sc := sc) (b := true) (tr_name "sequence" p3 (nD _ (by decide)).1 (nD _ (by decide)).2) trEs_nil
  refine Calls.callWith_builtin (plS _ _).1 (evalArgs_pl plS (TS hA hs S1 (ds := [sq]) (by simp only [g2, Option.bind_some]) fun vs s2 a2 x2 => ?_))
  obtain ⟨v2, rfl, y2⟩ := x2.one_inv
  have S2 := S1.after a2
  have itv : ItV c (XX ow X0) v2 ds s2 := by
    cases sq <;> simp only [itemsD, reduceCtorEq, Option.some.injEq] at hq
    · subst hq
      obtain ⟨t, rfl⟩ := y2.str_inv
      exact iter_str
    · subst hq
      obtain ⟨aa, vv, rfl, lp, rs⟩ := y2.list_inv
      exact iter_list S2.zX lp rs
  refine call_iter fun {E' P} hP => going_state S2 itv (by exact hA.hd) fun I gd1 hid1 T s3 a3 S3 hT G => hP _ _ ?_
  obtain ⟨oI, Sg, back⟩ := G.guard S3 hT
  refine wp_storeName Sg (k1.of hs hfn) fun h' tk b hw Tst => ?_
  have S4 := Sg.store_sh (tk := tk) (Ext.refl c _) hw Tst (d := .adr I) .adr
  generalize hr4 : (r.kill "it").put "it" (.sh (.adr I)) = r4 at S4
  have f4 : r4.get "function" = some (.sh (.adr a)) := by rw [← hr4, get_kp, if_neg (by decide), g1]; rfl
  have i4 : r4.get "initial" = some (.sh (.list l)) := by rw [← hr4, get_kp, if_neg (by decide), g3]; rfl
  have t4 : r4.get "it" = some (.sh (.adr I)) := by rw [← hr4, get_kp, if_pos rfl]
  have T2 : TrS c n sc _ _ := trS_if (c := c) (n := n) (sc := sc) (pos := p12) (trT_cmp (pos := p8) (tr_name "initial" p6 (nD _ (by decide)).1 (nD _ (by decide)).2) tm (act_isL (T := "object") hi hoi (by decide) (by decide))) (trSs_no tb)
    (trSs_cons (trS_assign (x := "value") (p := p9) (pos := p11) (tr_name "initial" p10 (nD _ (by decide)).1 (nD _ (by decide)).2) k2) trSs_nil)
  refine wpAny_execs_cons (T2 hA hs hfn S4 (r' := (r4.kill "value").put "value" (.sh (.list l))) (fl := .next) ?_ fun f5 s5 ow5 S5 hr5 => ?_)
  · simp only [i4, oIsL, asB, seqF, Option.bind_some, if_true, Bool.false_eq_true, if_false]
  cases f5 <;> simp only [RFl] at hr5
  obtain ⟨hT5, S5'⟩ := back S5
  have hI5 : RedI a I (.list l) ((r4.kill "value").put "value" (.sh (.list l))) := by
    refine ⟨?_, ?_, ?_⟩
    · rw [get_kp, if_neg (by decide), f4]; rfl
    · rw [get_kp, if_neg (by decide), t4]; rfl
    · rw [get_kp, if_pos rfl]
  generalize (r4.kill "value").put "value" (.sh (.list l)) = r5 at S5' hI5
  refine wpAny_execs_cons (wpAny_For (tr_name "it" p14 (nD _ (by decide)).1 (nD _ (by decide)).2 hA hs S5' (d := .adr I) (by dsimp only; rw [hI5.2.1]) fun v s6 a6 x6 => ?_) (fun _ => rfl))
  have ev : v = .ref I := by cases x6; rfl
  subst ev
  have S6 := S5'.after a6
  have hT6 : T 0 s6.heap := by
    obtain ⟨oI', Sg', back'⟩ := G.guard S5' hT5
    exact (back' (Sg'.after a6)).1
  refine G.self hT6 hA.hd ?_
  have TB : TrSs c n sc _ _ := trSs_cons (c := c) (n := n) (sc := sc) (trS_assign (x := "value") (p := p15) (pos := p20) (tr_callL (b := true) (x := "function") (p := p16) (pos := p19)
    (trEs_cons (tr_name "value" p17 (nD _ (by decide)).1 (nD _ (by decide)).2) (trEs_cons (tr_name "element" p18 (nD _ (by decide)).1 (nD _ (by decide)).2) trEs_nil)) hob hfd hF (plain_cons (plain_cons plain_nil))) k2) trSs_nil
  refine codeAny_forLoop (fun k s' => ∃ i ow' r1 acc, k = ds.length + 1 - i ∧ i ≤ ds.length ∧ St c X0 s0 env (gd1 ++ gd) (hid1 ++ hid) ow' r1 s' ∧ T i s'.heap ∧ RedI a I acc r1 ∧ foldD F acc (ds.drop i) = some dres) ?_ (ds.length + 1)
    ⟨0, _, r5, _, rfl, Nat.zero_le _, S6, hT6, hI5, hfold⟩
  rintro k s' ⟨i, ow', r1, acc, rfl, hi', Sp, hTi, hri, hfi⟩
  by_cases hlt : i < ds.length
  · obtain ⟨d, hd⟩ : ∃ d, ds[i]? = some d := ⟨ds[i], List.getElem?_eq_getElem hlt⟩
    have hdrop : ds.drop i = d :: ds.drop (i + 1) := by
      obtain ⟨hh, he⟩ := List.getElem?_eq_some_iff.mp hd
      rw [List.drop_eq_getElem_cons hh, he]
    rw [hdrop] at hfi
    obtain ⟨acc', hacc, hfi⟩ := bind_some hfi
    refine G.item Sp hTi hd hA.hd fun v s7 oI7 hv _ _ S7 back7 => ?_
    refine wpAny_assign_Name (wp_storeName S7 (k3.of hs hfn) fun h' tk b hw Tst => ?_)
    have S8 := S7.store_sh (tk := tk) (Ext.refl c _) hw Tst hv
    have hI8 : RedI a I acc ((r1.kill "element").put "element" (.sh d)) := by
      refine ⟨?_, ?_, ?_⟩
      · rw [get_kp, if_neg (by decide), hri.1]; rfl
      · rw [get_kp, if_neg (by decide), hri.2.1]; rfl
      · rw [get_kp, if_neg (by decide), hri.2.2]; rfl
    have he8 : Rho.get ((r1.kill "element").put "element" (.sh d)) "element" = some (.sh d) := by rw [get_kp, if_pos rfl]
    generalize (r1.kill "element").put "element" (.sh d) = r8 at S8 hI8 he8
    refine TB hA hs hfn S8 (r' := (r8.kill "value").put "value" (.sh acc')) (fl := .next) ?_ fun f9 s9 ow9 S9 hr9 => ?_
    · have : atF "function" a r8 = true := by unfold atF; rw [hI8.1]; exact beq_iff_eq.mpr rfl
      simp only [seqF, this, if_true, hI8.2.2, he8, Option.bind_some, hacc]
    cases f9 <;> simp only [RFl] at hr9
    obtain ⟨q1, q2⟩ := back7 S9
    refine ⟨ds.length + 1 - (i + 1), by omega, i + 1, ow9, _, acc', rfl, hlt, q2, q1, ⟨?_, ?_, ?_⟩, hfi⟩
    · rw [get_kp, if_neg (by decide), hI8.1]; rfl
    · rw [get_kp, if_neg (by decide), hI8.2.1]; rfl
    · rw [get_kp, if_pos rfl]
  · have hin : i = ds.length := by omega
    refine G.done Sp hTi hin hA.hd fun s7 S7 _ _ => ?_
    rw [hin, List.drop_length] at hfi
    have ea : acc = dres := Option.some.inj hfi
    subst ea
    refine wpAny_execs_nil ?_
    have TV : TrE c n sc (Expr.Name "value" p22) _ := tr_name "value" p22 (nD _ (by decide)).1 (nD _ (by decide)).2
    refine wpAny_execs_cons (trS_ret TV.b hA hs hfn S7.gd_drop.hid_drop (r' := r1) (fl := .ret acc) (by dsimp only; rw [hri.2.2]; rfl) fun f8 s8 ow8 S8 hr8 => ?_)
    cases f8 <;> simp only [RFl] at hr8
    exact h _ _ _ (S8.weaken fun x e q => by cases q) hr8
end
end Mine
end SLa17

/-! La18 -/
noncomputable section SLa18
namespace Mine
theorem ActL.le {c : Cx} {n m : Nat} {f : List Value → Sem Value} {o : List D → Option D} (h : ActL c n f o) (hn : n ≤ m) : ActL c m f o := fun _ _ _ _ _ _ _ _ _ _ hA => h (hA.le hn)
theorem gm_translate {M : Model} {A : Around} {E : Value → Shared → Prop} {s : Shared} {x : Str} {t : Tok} {pl : Sem Bool} {Q : Value × List Value → Shared → Prop} (h : Q (.builtin "str.translate", [.str x t]) s) : wpAny M A (getMethod (.str x t) "translate" pl) Q E s :=
  by with_reducible exact GM.of (.str x t) (typeIs_str _ _ _) F.slot_str_translate F.type_str_translate GM.noRef h
section
variable {c : Cx} {n : Nat} {sc : Scope} {b : Bool}
end
structure CF (K : Frag) (c : Cx) : Prop where
  g : ∀ n v, nsIn K mainGlobals n = some (some v) → c.mg n = some v
  gn : ∀ n, nsIn K mainGlobals n = some none → c.mg n = none
  b : ∀ n v, bootBuiltins n = some v → n ≠ "__name__" → c.mb n = some v
  ft : ∀ a o, K.lookup a = some o → c.FT a = some o
/-- what a def's spec must show of its body -/
def HF (names : List Str) (f : Rho → Option (Rho × Fl)) (F : List D → Option D) : Prop := ∀ ds d, F ds = some d → ds.length = names.length ∧ ∃ r', f (names.zip (ds.map Ent.sh)) = some (r', .ret d)
end Mine
end SLa18

/-! La19 -/
noncomputable section SLa19
namespace Mine
theorem CF.ink {K : Frag} {c : Cx} (h : CF K c) {hh : Heap} (G : Glo c hh) : K.In hh := fun a o e => G.obs a o (h.ft a o e)
theorem kinds_of {names : List Str} {ns : List (Str × NameKind)} (h : (names.all fun x => ns.lookup x == some .local || ns.lookup x == some .cell) = true) : ∀ x ∈ names, ns.lookup x = some .local ∨ ns.lookup x = some .cell := fun x hx => by
  have := List.all_eq_true.mp h x hx
  rw [Bool.or_eq_true, beq_iff_eq, beq_iff_eq] at this
  exact this
theorem bnd1 {fd : FuncData} {x : Str} (vals : List Value) (hl : vals.length = [x].length) (h : ∀ a, bindArgs fd ⟨[a], []⟩ = pure ([x].zip [a])) : bindArgs fd ⟨vals, []⟩ = pure ([x].zip vals) := by
  match vals, hl with
  | [a], _ => exact h a
theorem bnd2 {fd : FuncData} {x y : Str} (vals : List Value) (hl : vals.length = [x, y].length) (h : ∀ a b, bindArgs fd ⟨[a, b], []⟩ = pure ([x, y].zip [a, b])) : bindArgs fd ⟨vals, []⟩ = pure ([x, y].zip vals) := by
  match vals, hl with
  | [a, b], _ => exact h a b
theorem bnd3 {fd : FuncData} {x y z : Str} (vals : List Value) (hl : vals.length = [x, y, z].length) (h : ∀ a b c, bindArgs fd ⟨[a, b, c], []⟩ = pure ([x, y, z].zip [a, b, c])) : bindArgs fd ⟨vals, []⟩ = pure ([x, y, z].zip vals) := by
  match vals, hl with
  | [a, b, c], _ => exact h a b c
theorem bndD3 {c : Cx} {fd : FuncData} {x y z : Str} {T : Addr} {o : Obj} {items : Array Value} {n : Nat} {s : Shared} {k : Value → Value → Value → Option (Array Value) → Sem (List (Str × Value))} (vals : List Value) (G : Glo c s.heap) (hl : vals.length = [x, y, z].length) (hT : c.FT T = some o) (hs : o.data = .seq items n) (hd : fd.defaults = .ref T)
    (h1 : ∀ a b c, bindArgs fd ⟨[a, b, c], []⟩ = seqItems? fd.defaults >>= k a b c) (h2 : ∀ a b c, k a b c (some items) = pure ([x, y, z].zip [a, b, c])) : BindsTo s fd ⟨vals, []⟩ ([x, y, z].zip vals) := by
  match vals, hl with
  | [a, b, c], _ => exact BindsTo.of_defaults hd (G.obs T o hT) hs (h1 a b c) (h2 a b c)
/-- swapped stores of two names in the frame's own space -/
def itrOk (sc : Scope) : Bool := !(sc.kind == .module)
theorem itr_of {sc : Scope} (h : sc.kind = .function) : ∀ env : Env, env.scope = sc → interactive env = false := fun env he => by
  unfold interactive
  rw [he, h]
  rfl

/-- a def's package: what its body computes, and its contract once a spec is shown of that -/
def packT {K : Frag} {c : Cx} {n : Nat} (h : CF K c) {fa : Addr} {ob : Obj} {fd : FuncData} {body : List Stmt} (names : List Str) {f : Rho → Option (Rho × Fl)}
    (hob : K.lookup fa = some ob) (hd : ob.data = .func fd) (hcr : codeIn K fd.code fd.qualname = true) (hbody : fd.body = .stmts body) (hclo : fd.closure = [])
    (hgl : fd.globals = mainGlobals) (hbi : fd.builtins = builtinsNs) (hnd : names.Nodup)
    (hbind : ∀ vals, vals.length = names.length → bindArgs fd ⟨vals, []⟩ = pure (names.zip vals))
    (hkind : (names.all fun x => fd.scope.names.lookup x == some .local || fd.scope.names.lookup x == some .cell) = true)
    (t : TrSs c n fd.scope body f)
    (hco : fd.scope.isCoroutine = false := by rfl) (hgen : fd.scope.isGenerator = false := by rfl) (hk : fd.scope.kind = .function := by rfl) :
    (f : Rho → Option (Rho × Fl)) ×' (∀ F, HF names f F → ActL c (n + 1) (fun vs => call (.ref fa) vs) F) :=
  ⟨f, fun _ hF => act_def (names := names) (h.ft fa ob hob) hd (fun _ G => codeRec_of (h.ink G) hcr) hbody hclo hgl hbi hnd hbind (kinds_of hkind) t hF hco hgen hk⟩
def packTD {K : Frag} {c : Cx} {n : Nat} (h : CF K c) {fa : Addr} {ob : Obj} {fd : FuncData} {body : List Stmt} (names : List Str) {f : Rho → Option (Rho × Fl)}
    (hob : K.lookup fa = some ob) (hd : ob.data = .func fd) (hcr : codeIn K fd.code fd.qualname = true) (hbody : fd.body = .stmts body) (hclo : fd.closure = [])
    (hgl : fd.globals = mainGlobals) (hbi : fd.builtins = builtinsNs) (hnd : names.Nodup)
    (hbind : ∀ (s : Shared) vals, Glo c s.heap → vals.length = names.length → BindsTo s fd ⟨vals, []⟩ (names.zip vals))
    (hkind : (names.all fun x => fd.scope.names.lookup x == some .local || fd.scope.names.lookup x == some .cell) = true)
    (t : TrSs c n fd.scope body f)
    (hco : fd.scope.isCoroutine = false := by rfl) (hgen : fd.scope.isGenerator = false := by rfl) (hk : fd.scope.kind = .function := by rfl) :
    (f : Rho → Option (Rho × Fl)) ×' (∀ F, HF names f F → ActL c (n + 1) (fun vs => call (.ref fa) vs) F) :=
  ⟨f, fun _ hF => act_defB (names := names) (h.ft fa ob hob) hd (fun _ G => codeRec_of (h.ink G) hcr) hbody hclo hgl hbi hnd hbind (kinds_of hkind) t hF hco hgen hk⟩
theorem swp_of {sc : Scope} {x y : Str} {p q : Pos} {k k' : Nat} {tpos vpos : Pos} {e1 e2 : Expr} (hk : sc.kind = .function) (hx : sc.names.lookup x = some .local) (hy : sc.names.lookup y = some .local)
    (hl : (p.line == q.line) = true) (hxy : x ≠ y) (h1 : ([e1, e2].any fun | .Starred .. => true | _ => false) = false) (h2 : [e1, e2].all (foldedForSure 8) = false) (h3 : [e1, e2].all (constantsAlone 8) = false) :
    ∀ env : Env, env.scope = sc → swappedStores [.Tuple [.Name x p, .Name y q] k tpos] (.Tuple [e1, e2] k' vpos) env = pure (some [x, y]) := fun env he => by
  have kx : env.kindOf x = some .local := by show env.scope.names.lookup x = _; rw [he]; exact hx
  have ky : env.kindOf y = some .local := by show env.scope.names.lookup y = _; rw [he]; exact hy
  have kb : env.blockKind = .function := by unfold Env.blockKind; rw [he, hk]; rfl
  have eL : (some NameKind.local == some NameKind.local) = true := by decide
  have eF : (ScopeKind.function != ScopeKind.function) = false := by decide
  have hq : (q.line == p.line) = true := by rw [beq_iff_eq] at hl ⊢; exact hl.symm
  have hd : [x, y].eraseDups.length = 2 := by
    have : (y == x) = false := beq_eq_false_iff_ne.mpr fun e => hxy e.symm
    simp [List.eraseDups_cons, this]
  unfold swappedStores
  dsimp only
  rw [kb, eF]
  simp only [List.length_cons, List.length_nil, Nat.zero_add, Nat.reduceAdd, beq_self_eq_true, Bool.true_or, Bool.not_true, bne_self_eq_false, Bool.or_false, Bool.false_eq_true, if_false, List.head?_cons, Option.map_some, Option.getD_some, Expr.pos, List.filterMap_cons, List.filterMap_nil, kx, ky, hq, Bool.and_self, if_true, hd, h2, h3]
  exact if_neg fun q => absurd (h1.symm.trans q) (by decide)
end Mine
namespace Mine
section
variable {c : Cx} {n : Nat}
theorem act_isub : Act2 c n (inplaceOp .Sub) oSub := fun {prog w A E s Q a b da db d X} hA G hz hX ra rb ho h => by
  cases ra <;> cases rb <;> simp only [oSub, reduceCtorEq] at ho
  case int.int => cases ho; exact PyProof.Rows.isub_int (h _ _ (After.tok c _ _) .int)
end
end Mine
end SLa19

/-! La20 -/
noncomputable section SLa20
namespace Mine
/-! ### the count of made values never falls -/
theorem runs_toks {M : Model} {Γ : Ctx} {p : Pos} {t : Sem Fin} {fs : List Frame} {s s' : Shared} {e : End} (h : Runs M Γ p t fs s e s') : s.toks ≤ s'.toks := by
  induction h <;> first
    | exact Nat.le_refl _
    | assumption
    | exact Nat.le_trans ‹_› ‹_›
    | (rename_i ih; exact Nat.le_of_succ_le ih)
    | (rename_i ih1 ih2; exact Nat.le_trans ih1 ih2)
theorem wakes_toks {M : Model} {Γ : Ctx} {p : Pos} {g : Nat} {r : Resume} {s s' : Shared} {res : GenResult} (h : Wakes M Γ p g r s res s') : s.toks ≤ s'.toks := by
  unfold Wakes at h
  split at h
  · exact h.elim
  · split at h
    · obtain ⟨e, s1, h1, _, _, rfl⟩ := h
      exact (show s.toks ≤ s1.toks from runs_toks (s := s.setGen g .running) h1)
    · rw [h.2]; exact Nat.le_refl _
    · rw [h.2]; exact Nat.le_refl _
  · obtain ⟨e, s1, h1, _, _, rfl⟩ := h
    exact (show s.toks ≤ s1.toks from runs_toks (s := s.setGen g .running) h1)
  · rw [h.2]; exact Nat.le_refl _
  · rw [h.2]; exact Nat.le_refl _
theorem wp_toks {α : Type} (M : Model) (Γ : Ctx) (b : Nat) : ∀ (t : Sem α) (Q : α → Pos → Shared → Prop) (E : Value → Pos → Shared → Prop) (p : Pos) (s : Shared), b ≤ s.toks →
    Sem.wp M Γ t (fun a p s' => b ≤ s'.toks → Q a p s') E p s → Sem.wp M Γ t Q E p s := by
  intro t
  induction t with
  | pure a => exact fun Q E p s hb h => h hb
  | raise e => exact fun Q E p s hb h => h
  | unsupported x => exact fun Q E p s hb h => h
  | finish x => exact fun Q E p s hb h => h
  | rule x k ih => exact fun Q E p s hb h => ih _ Q E p s hb h
  | «at» x k ih => exact fun Q E p s hb h => ih _ Q E x s hb h
  | load a x k ih =>
    intro Q E p s hb h
    obtain ⟨o, e, h⟩ := h
    exact ⟨o, e, ih _ Q E p s hb h⟩
  | update a x f k ih => exact fun Q E p s hb h => ⟨h.1, ih _ Q E p _ hb h.2⟩
  | loadIfAlive a k ih => exact fun Q E p s hb h => ih _ Q E p s hb h
  | point x k ih => exact fun Q E p s hb h => ih _ Q E p s hb h
  | register x y => exact fun Q E p s hb h => h
  | alloc o k ih => exact fun Q E p s hb h => ih _ Q E p _ hb h
  | fresh k ih => exact fun Q E p s hb h => ih _ Q E p _ (Nat.le_succ_of_le hb) h
  | ask k ih => exact fun Q E p s hb h => ih _ Q E p s hb h
  | choose x n k ih => exact fun Q E p s hb h => ⟨h.1, ih _ Q E p _ hb h.2⟩
  | os q x k ih => exact fun Q E p s hb h => ih _ Q E p _ hb h
  | call c hh x y k ih =>
    intro Q E p s hb h
    obtain ⟨r, s', h1, h2⟩ := h
    exact ⟨r, s', h1, ih _ Q E p s' (Nat.le_trans hb (runs_toks h1)) h2⟩
  | handled own k ih => exact fun Q E p s hb h => ih _ Q E p s hb h
  | genState g k ih =>
    intro Q E p s hb h
    obtain ⟨st, e, h⟩ := h
    exact ⟨st, e, ih _ Q E p s hb h⟩
  | newGen c k ih => exact fun Q E p s hb h => ih _ Q E p _ hb h
  | resume g r x k ih =>
    intro Q E p s hb h
    obtain ⟨res, s', h1, h2⟩ := h
    exact ⟨res, s', h1, ih _ Q E p s' (Nat.le_trans hb (wakes_toks h1)) h2⟩
  | yield => exact fun Q E p s hb h => h
  | stack k ih => exact fun Q E p s hb h => ih _ Q E p s hb h
  | fork => exact fun Q E p s hb h => h
  | thread k ih => exact fun Q E p s hb h => ih _ Q E p s hb h
  | await => exact fun Q E p s hb h => h
theorem wpAny_toks {α : Type} {M : Model} {A : Around} {t : Sem α} {Q : α → Shared → Prop} {E : Value → Shared → Prop} {s : Shared} {b : Nat} (hb : b ≤ s.toks)
    (h : wpAny M A t (fun a s' => b ≤ s'.toks → Q a s') E s) : wpAny M A t Q E s := fun Γ p hΓ => wp_toks M Γ b t _ _ p s hb (h Γ p hΓ)
end Mine
end SLa20

/-! La21 -/
noncomputable section SLa21
namespace Mine
section
variable {c : Cx} {n : Nat} {sc : Scope} {b : Bool}
/-! ### replace where nothing is found -/
def oRepl : List D → Option D
  | [.str x, .str y, .str _] => if (Builtin.Str.occurrences x y 0 x.length (x.length + 1)).isEmpty = true then some (.str x) else none
  | _ => none
theorem act_repl : ActL c n (fun vs => call (.builtin "str.replace") vs) oRepl := fun {prog w A E s Q vs ds d X} hA G hz hX ra ho h => by
  unfold oRepl at ho
  split at ho
  · rename_i x y z
    split at ho
    · rename_i he
      cases ho
      cases ra with
      | cons r1 ra =>
        obtain ⟨v2, v3, rfl, r2, r3⟩ := ra.two_inv
        obtain ⟨t, rfl⟩ := r1.str_inv
        obtain ⟨u, rfl⟩ := r2.str_inv
        obtain ⟨v, rfl⟩ := r3.str_inv
        refine call_gives F.slot_str_replace (typeIs_str _ _ _) F.entry_str_replace (F.args_str_replace_3 _ _ _)
          (gives_str_replace x y z t u v fun q => ?_) ?_
        · rw [he, Bool.true_or] at q; cases q
        · rw [he, Bool.true_or, if_pos rfl]
          exact h _ _ (After.refl c _) .str
    · cases ho
  · cases ho
/-! ### split by a text -/
def oSplit : List D → Option D
  | [.str x, .str y] => if x.length ≤ 1000 ∧ (y.length == 0) = false ∧ (Builtin.Str.partsBetween x (Builtin.Str.occurrences x y 0 x.length (x.length + 1)) y.length).length ≤ 1000 then some (.list ((Txt.split x y).map .str)) else none
  | _ => none
theorem rs_strs {P : Addr → Array Value → Prop} : ∀ (l : List (Str × Tok)), Rs P (strValues l) ((l.map (·.1)).map D.str)
  | [] => .nil
  | _ :: l => .cons .str (rs_strs l)
theorem act_split : ActL c n (fun vs => call (.builtin "str.split") vs) oSplit := fun {prog w A E s Q vs ds d X} hA G hz hX ra ho h => by
  unfold oSplit at ho
  split at ho
  · rename_i x y
    split at ho
    · rename_i he
      cases ho
      obtain ⟨v1, v2, rfl, r1, r2⟩ := ra.two_inv
      obtain ⟨t, rfl⟩ := r1.str_inv
      obtain ⟨u, rfl⟩ := r2.str_inv
      have hsz : x.length ≤ sizeLine := by rw [sizeLine_eq]; omega
      have key : ∀ (l : List (Str × Tok)) (k : Nat), l.map (·.1) = Txt.split x y → Q (.ref s.heap.objs.size) { s with toks := k, heap := s.heap.push { cls := .type "list", data := .seq (strValues l).toArray } } := fun l k e => by
        refine h _ _ (After.push c s _ k) (.list (vs := (strValues l).toArray) ⟨⟨_, Heap.get?_push_size _ rfl, rfl, _, rfl⟩, fun q => not_live_size _ (hX _ q)⟩ ?_)
        rw [← e]
        exact rs_strs l
      cases h1 : (decide (x.length < y.length) || decide (Builtin.Str.strKind x < Builtin.Str.strKind y))
      · cases hf : (Builtin.Str.occurrences x y 0 x.length (x.length + 1)).isEmpty
        · refine call_meets F.slot_str_split (typeIs_str _ _ _) F.entry_str_split (F.args_str_split_2 _ _) (meets_str_split_sep x y t u h1 he.2.1 hf hsz (by rw [sizeLine_eq]; omega)) ?_
          show wants Q E _ { s with toks := _, heap := s.heap.push { cls := .type "list", data := .seq (strsFrom s.toks (Builtin.Str.partsBetween x (Builtin.Str.occurrences x y 0 x.length (x.length + 1)) y.length)).toArray } }
          rw [strsFrom_eq]
          exact key (numbered s.toks _) _ ((numbered_texts _ _).trans ((if_neg (ne_true_of_eq_false h1)).trans (if_neg (ne_true_of_eq_false hf))).symm)
        · exact call_meets F.slot_str_split (typeIs_str _ _ _) F.entry_str_split (F.args_str_split_2 _ _) (meets_str_split_not_found x y t u h1 he.2.1 hf) (key [(x, t)] s.toks ((if_neg (ne_true_of_eq_false h1)).trans (if_pos hf)).symm)
      · exact call_meets F.slot_str_split (typeIs_str _ _ _) F.entry_str_split (F.args_str_split_2 _ _) (meets_str_split_cannot_occur x y t u h1) (key [(x, t)] s.toks (if_pos h1).symm)
    · cases ho
  · cases ho
end
end Mine
end SLa21

/-! La22 -/
noncomputable section SLa22
namespace Mine
section
variable {c : Cx} {n : Nat} {sc : Scope} {b : Bool}
/-! ### triples behind the first value made: replace asks for it -/
def TrMp (b : Bool) (c : Cx) (n : Nat) (sc : Scope) (e : Expr) (f : Rho → Option D) : Prop :=
  ∀ ⦃prog : Program⦄ ⦃w : World⦄ ⦃A : Around⦄ ⦃E : Value → Shared → Prop⦄ ⦃X0 : List Addr⦄ ⦃s0 : Shared⦄ ⦃env : Env⦄ ⦃gd : List (Addr × Obj)⦄ ⦃hid : List (Value × D)⦄ ⦃ow : List (Str × Addr)⦄ ⦃r : Rho⦄ ⦃s : Shared⦄ ⦃Q : Value → Shared → Prop⦄ ⦃d : D⦄,
    AOk n A → env.scope = sc → 1 ≤ s.toks → St c X0 s0 env gd hid ow r s → f r = some d →
    (∀ v s', After c s s' → R (LP s'.heap (MX b c ow X0)) v d → Q v s') → wpAny (model prog w) A (eval e env) Q E s
def TrSsp (c : Cx) (n : Nat) (sc : Scope) (es : List Stmt) (f : Rho → Option (Rho × Fl)) : Prop :=
  ∀ ⦃prog : Program⦄ ⦃w : World⦄ ⦃A : Around⦄ ⦃E : Value → Shared → Prop⦄ ⦃X0 : List Addr⦄ ⦃s0 : Shared⦄ ⦃env : Env⦄ ⦃gd : List (Addr × Obj)⦄ ⦃hid : List (Value × D)⦄ ⦃ow : List (Str × Addr)⦄ ⦃r r' : Rho⦄ ⦃fl : Fl⦄ ⦃s : Shared⦄ ⦃Q : Flow → Shared → Prop⦄,
    AOk n A → env.scope = sc → FnOk c env → 1 ≤ s.toks → St c X0 s0 env gd hid ow r s → f r = some (r', fl) →
    (∀ f' s' ow', St c X0 s0 env gd hid ow' r' s' → RFl s'.heap X0 f' fl → Q f' s') → wpAny (model prog w) A (execs es env) Q E s
def TrTz (c : Cx) (n : Nat) (sc : Scope) (e : Expr) (f : Rho → Option Bool) : Prop :=
  ∀ ⦃prog : Program⦄ ⦃w : World⦄ ⦃A : Around⦄ ⦃E : Value → Shared → Prop⦄ ⦃X0 : List Addr⦄ ⦃s0 : Shared⦄ ⦃env : Env⦄ ⦃gd : List (Addr × Obj)⦄ ⦃hid : List (Value × D)⦄ ⦃ow : List (Str × Addr)⦄ ⦃r : Rho⦄ ⦃s : Shared⦄ ⦃Q : Bool → Shared → Prop⦄ ⦃b : Bool⦄,
    AOk n A → env.scope = sc → St c X0 s0 env gd hid ow r s → f r = some b →
    (∀ s', After c s s' → 1 ≤ s'.toks → Q b s') → wpAny (model prog w) A (isTrue e env (eval e env)) Q E s
/-- a comparison with a written text makes one -/
theorem trTz_cmp {l : Expr} {x : Str} {k : Nat} {p : Pos} {op : CmpOp} {pos : Pos} {f : Rho → Option D} {o : D → D → Option D} (tl : TrM b c n sc l f) (ho : Act2 c n (compareOp op) o) (hm : behindInMarks op (.Constant (.str x) k p) = false := by first | rfl | (intros; rfl)) :
    TrTz c n sc (.Compare l [op] [.Constant (.str x) k p] pos) (fun r => (f r).bind fun y => (o y (.str x)).bind asB) := fun _ _ _ _ _ _ _ _ _ _ _ _ _ _ hA hs S hf h => by
  obtain ⟨da, h1, hf⟩ := bind_some hf
  obtain ⟨d, h3, hf⟩ := bind_some hf
  refine wpAny_isTrue_Compare1 (tl hA hs S h1 fun a s1 a1 x1 => Calls.Constant_str ?_) hm
  have a2 : After c s1 { s1 with toks := s1.toks + 1 } := After.tok c s1 _
  have S2 := (S.after a1).after a2
  refine wpAny_toks (b := 1) (Nat.succ_le_succ (Nat.zero_le _)) (ho hA S2.glo S.zM S2.Ml (S.mvM a2 x1) .str h3 fun v s3 a3 x3 hp => ?_)
  cases x3 <;> simp [asB] at hf
  subst hf
  exact wpAny_truthy_bool (h s3 ((a1.trans a2).trans a3) hp)
def oRep : D → Str → Str → Option D
  | .str x, y, z => if x.length ≤ 1000 ∧ z.length ≤ 10 ∧ (y == z) = false then some (.str (Txt.replace x y z)) else none
  | _, _, _ => none
theorem plain_two (x y : Str) (k1 k2 : Nat) (p1 p2 : Pos) : Plain [.Constant (.str x) k1 p1, .Constant (.str y) k2 p2] := plain_cons (plain_cons plain_nil)
theorem tr_replP {e : Expr} {apos pos p1 p2 : Pos} {k1 k2 : Nat} {y z : Str} {f : Rho → Option D} {pls : Env → Sem Bool} (te : TrM b c n sc e f)
    (he : ∀ env, eval (.Call (.Attribute e "replace" apos) [.Constant (.str y) k1 p1, .Constant (.str z) k2 p2] [] pos) env = (do
      let ov ← eval e env
      standAt apos.atName
      let (f, first) ← holding [ov] (getMethod ov "replace" (pls env))
      callWith pos f first (backTo pos (starEach [.Constant (.str y) k1 p1, .Constant (.str z) k2 p2] env)) [])) :
    TrMp b c n sc (.Call (.Attribute e "replace" apos) [.Constant (.str y) k1 p1, .Constant (.str z) k2 p2] [] pos) (fun r => (f r).bind fun d => oRep d y z) := fun {prog w A E X0 s0 env gd hid ow r s Q d} hA hs hp S hf h => by
  obtain ⟨d1, h1, hf⟩ := bind_some hf
  cases d1 <;> simp only [oRep, reduceCtorEq] at hf
  rename_i x
  split at hf
  · rename_i hh
    cases hf
    refine MethodCall_ (wpAny_toks hp (te hA hs S h1 fun v s1 a1 x1 hp1 => ?_)) (he _)
    cases x1
    refine GM.replace ?_
    refine Calls.callWith_builtin (plain_two y z k1 k2 p1 p2 _ _).1 (evalArgs_pl (plain_two y z k1 k2 p1 p2) ?_)
    refine spliced_more (Calls.Constant_str ?_) rfl
    refine spliced_more (Calls.Constant_str ?_) rfl
    refine spliced_none ?_
    refine SC.replace (Nat.ne_of_gt hp1) (Nat.succ_ne_zero _) (Nat.ne_of_lt (Nat.lt_succ_self _)) hh.2.2 ?_ fun t' k => ?_
    · have h1 : (x.length + 1) * z.length ≤ (x.length + 1) * 10 := Nat.mul_le_mul_left _ hh.2.1
      omega
    · exact h _ _ (a1.trans (After.tok c s1 k)) .str
  · cases hf
theorem tr_cmpP {l rr : Expr} {op : CmpOp} {pos : Pos} {f g : Rho → Option D} {o : D → D → Option D} (tl : TrMp b c n sc l f) (tr : TrM b c n sc rr g) (ho : Act2 c n (compareOp op) o) (hm : behindInMarks op rr = false := by first | rfl | (intros; rfl)) :
    TrMp b c n sc (.Compare l [op] [rr] pos) (fun r => (f r).bind fun x => (g r).bind fun y => o x y) := fun _ _ _ _ _ _ _ _ _ _ _ _ _ _ hA hs hp S hf h => by
  obtain ⟨da, h1, hf⟩ := bind_some hf
  obtain ⟨db, h2, hf⟩ := bind_some hf
  refine wpAny_Compare1 (tl hA hs hp S h1 fun a s1 a1 x1 => tr hA hs (S.after a1) h2 fun b s2 a2 x2 => ?_) hm
  have S2 := (S.after a1).after a2
  exact ho hA S2.glo S.zM S2.Ml (S.mvM a2 x1) x2 hf fun v s3 a3 x3 => h v s3 ((a1.trans a2).trans a3) x3
theorem tr_cmpP2 {l rr : Expr} {op : CmpOp} {pos : Pos} {f g : Rho → Option D} {o : D → D → Option D} (tl : TrM b c n sc l f) (tr : TrMp b c n sc rr g) (ho : Act2 c n (compareOp op) o) (hm : behindInMarks op rr = false := by first | rfl | (intros; rfl)) :
    TrMp b c n sc (.Compare l [op] [rr] pos) (fun r => (f r).bind fun x => (g r).bind fun y => o x y) := fun _ _ _ _ _ _ _ _ _ _ _ _ _ _ hA hs hp S hf h => by
  obtain ⟨da, h1, hf⟩ := bind_some hf
  obtain ⟨db, h2, hf⟩ := bind_some hf
  refine wpAny_Compare1 (wpAny_toks hp (tl hA hs S h1 fun a s1 a1 x1 hp1 => tr hA hs hp1 (S.after a1) h2 fun b s2 a2 x2 => ?_)) hm
  have S2 := (S.after a1).after a2
  exact ho hA S2.glo S.zM S2.Ml (S.mvM a2 x1) x2 hf fun v s3 a3 x3 => h v s3 ((a1.trans a2).trans a3) x3
theorem tr_bool1P {op : BoolOp} {e : Expr} {pos : Pos} {f : Rho → Option D} (t : TrMp b c n sc e f) : TrMp b c n sc (.BoolOp op [e] pos) f := fun _ _ _ _ _ _ _ _ _ _ _ _ _ _ hA hs hp S hf h => BoolOp_one (t hA hs hp S hf h)
theorem tr_orP {e1 e2 : Expr} {rest : List Expr} {pos : Pos} {f g : Rho → Option D} (t : TrM b c n sc e1 f) (u : TrMp b c n sc (.BoolOp .Or (e2 :: rest) pos) g) :
    TrMp b c n sc (.BoolOp .Or (e1 :: e2 :: rest) pos) (fun r => (f r).bind fun d => (oTruth d).bind fun t => if t then some d else g r) := fun _ _ _ _ _ _ _ _ _ _ _ _ _ _ hA hs hp S hf h => by
  obtain ⟨da, h1, hf⟩ := bind_some hf
  obtain ⟨tv, h2, hf⟩ := bind_some hf
  refine BoolOp_or (wpAny_toks hp (t hA hs S h1 fun a s1 a1 x1 hp1 => ?_))
  have S1 := S.after a1
  refine wpAny_toks hp1 (act_truth hA S1.glo S.zM S1.Ml x1 h2 fun s2 a2 hp2 => ?_)
  cases tv with
  | false => exact u hA hs hp2 (S1.after a2) hf fun v s3 a3 => h v s3 ((a1.trans a2).trans a3)
  | true => cases hf; exact h _ _ (a1.trans a2) (S.mvM a2 x1)
theorem trSsp_ret {e : Expr} {pos : Pos} {f : Rho → Option D} (t : TrMp false c n sc e f) : TrSsp c n sc [.Return (some e) pos] (fun r => (f r).bind fun d => some (r, .ret d)) := fun _ _ _ _ _ _ _ _ _ _ _ _ _ _ _ hA hs hfn hp S hf h => by
  obtain ⟨d, h1, hf⟩ := bind_some hf
  cases hf
  refine wpAny_execs_cons (wpAny_Return_some (t hA hs hp S h1 fun v s1 a1 x1 => ?_))
  exact h _ _ _ (S.after a1) x1
theorem trSs_ifP {test : Expr} {body : List Stmt} {rest : List Stmt} {pos : Pos} {f : Rho → Option Bool} {g k : Rho → Option (Rho × Fl)} (t : TrTz c n sc test f) (u : TrSsp c n sc body g) (v : TrSsp c n sc rest k)
    (hg : ∀ r r' fl, g r = some (r', fl) → ∃ d, fl = .ret d) :
    TrSs c n sc (.If test body [] pos :: rest) (fun r => (f r).bind fun t => if t then g r else k r) := fun _ _ _ _ _ _ _ _ _ _ _ _ _ _ _ hA hs hfn S hf h => by
  obtain ⟨tv, h1, hf⟩ := bind_some hf
  refine wpAny_execs_cons (wpAny_If (t hA hs S h1 fun s1 a1 hp => ?_))
  cases tv with
  | true =>
    obtain ⟨d, rfl⟩ := hg _ _ _ hf
    refine u hA hs hfn hp (S.after a1) hf fun f' s' ow' S' hr => ?_
    cases f' <;> simp only [RFl] at hr
    exact h _ _ _ S' hr
  | false => exact wpAny_execs_nil (v hA hs hfn hp (S.after a1) hf h)
end
end Mine
end SLa22

/-! Re1 -/
noncomputable section SRe1
namespace Mine
theorem slot_sub : Slot "re.Pattern" "sub" "re.Pattern.sub" :=
  .of (owner := "re.Pattern") (n := "sub") (by rw [typeLookup_type, builtinLookup_eq_fast]; kernel_rfl) (by decide +kernel) (by decide +kernel) (by decide +kernel)
    (by first | exact .inl (by decide +kernel) | exact .inr (by decide +kernel)) (by rw [isSubtype_type]; kernel_rfl)
theorem plainAttrs_pat : PlainAttrs "re.Pattern" :=
  ⟨⟨"object.__getattribute__", by rw [typeLookup_type, builtinLookup_eq_fast]; kernel_rfl, by decide +kernel⟩, by rw [typeLookup_type, builtinLookup_eq_fast]; kernel_rfl⟩
theorem type_sub : typeOf (.builtin "re.Pattern.sub") = pure (.type "method_descriptor") := by show builtinType _ = _; rw [builtinType_eq_fast]; kernel_rfl
theorem entry_sub : entryFor table "re.Pattern.sub" = some Builtin.«re.Pattern.sub» := entryFor_of_tree (by kernel_rfl)
theorem entry_subloop : entryFor table "re.Pattern.sub.loop" = some Builtin.«re.Pattern.sub.loop» := entryFor_of_tree (by kernel_rfl)
theorem args_sub (a b c : Value) : argsOk "re.Pattern.sub" ⟨[a, b, c], []⟩ := by
  unfold argsOk
  kernel_rfl
theorem fn_call : ∃ f, typeLookup (.type "function") "__call__" = pure (some f) := ⟨.builtin "function.__call__", by rw [typeLookup_type, builtinLookup_eq_fast]; kernel_rfl⟩
section
variable {prog : Program} {w : World} {A : Around} {E : Value → Shared → Prop} {s : Shared}
/-- a pattern of texts: its code's items are ints -/
def IsPat (h : Heap) (p : Addr) (code : Array Nat) (g : Nat) : Prop :=
  ∃ (fs : Array Value) (T : Addr) (ws : Array Value) (n : Nat) (o oT : Obj), h.get? p = some o ∧ o.cls = .type "re.Pattern" ∧ o.dict = none ∧ o.data = .fields fs ∧ fs.getD 5 .none = .ref T ∧ Builtin.Re.reRawNat (fs.getD 6 .none) = 0 ∧ Builtin.Re.reRawNat (fs.getD 2 .none) = g ∧
    h.get? T = some oT ∧ oT.data = .seq ws n ∧ (ws.map Builtin.Re.reRawOf).map (·.toNat) = code
def tgt (p : Addr) (x : Str) (t : Tok) (code : Array Nat) (g : Nat) : Builtin.Re.ReTarget := { pattern := .ref p, string := .str x t, code := code, text := x.cps, kind := 0, groups := g, pos := 0, lim := x.cps.size }
theorem wp_target {M : Model} {p : Addr} {x : Str} {t : Tok} {code : Array Nat} {g : Nat} {Q : Builtin.Re.ReTarget → Shared → Prop} (hp : IsPat s.heap p code g) (h : Q (tgt p x t code g) s) : wpAny M A (Builtin.Re.reWholeTarget (.ref p) (.str x t)) Q E s := by
  obtain ⟨fs, T, ws, n, o, oT, h1, _, _, h2, h3, h4, h5, h6, h7, h8⟩ := hp
  unfold Builtin.Re.reWholeTarget
  refine wpAny_bind (wpAny_fieldsOf h1 h2 ?_)
  refine wpAny_bind (wpAny_of_eq (a := (x.cps, 0)) rfl ?_)
  dsimp only
  rw [h4, h3, h5]
  refine wpAny_bind (wpAny_pure ?_)
  unfold Builtin.Re.reRawItems
  refine wpAny_bind (wpAny_bind (wpAny_seqItems h6 h7 (wpAny_pure ?_)))
  refine wpAny_pure ?_
  dsimp only [Option.getD_some]
  rw [h8]
  exact h
theorem wp_rules {M : Model} {β : Type} (q : Nat → Bool) (nm : Nat → String) : ∀ (l : List Nat) (k : Sem β) {Q : β → Shared → Prop}, wpAny M A k Q E s →
    wpAny M A (do (forIn l PUnit.unit fun i _ => (do if q i = true then (do rule (nm i); pure (ForInStep.yield PUnit.unit)) else pure (ForInStep.yield PUnit.unit))); k) Q E s
  | [], k, Q, h => wpAny_bind (wpAny_pure h)
  | i :: l, k, Q, h => by
    rw [List.forIn_cons]
    cases hq : q i with
    | true =>
      simp only [if_true, bind_assoc]
      refine wpAny_bind (wpAny_rule ?_)
      rw [pure_bind]
      exact wp_rules q nm l k h
    | false =>
      simp only [Bool.false_eq_true, if_false, pure_bind]
      exact wp_rules q nm l k h
theorem wp_found {M : Model} {p : Addr} {x : Str} {t : Tok} {code : Array Nat} {g : Nat} {Q : Option Sre.M → Shared → Prop}
    (ho : ((Sre.forSearch code x.cps g 0 x.cps.size false).runFor Builtin.Re.reTurnSteps).outcome = some .failed) (h : Q none s) : wpAny M A (Builtin.Re.reNextFound (tgt p x t code g) 0 false) Q E s := by
  have e : ∀ k, Builtin.Re.reDrive (k + 1) (Sre.forSearch code x.cps g 0 x.cps.size false) = pure ((Sre.forSearch code x.cps g 0 x.cps.size false).runFor Builtin.Re.reTurnSteps) := fun k => by
    unfold Builtin.Re.reDrive
    dsimp only
    rw [ho]
    rfl
  unfold Builtin.Re.reNextFound Builtin.Re.reRunToEnd
  refine wpAny_bind (wpAny_of_eq (e 18446744073709551615) ?_)
  generalize (Sre.forSearch code x.cps g 0 x.cps.size false).runFor Builtin.Re.reTurnSteps = m at ho
  refine wp_rules (fun i => m.seen.has i) (fun i => Sre.names.getD i "") _ _ ?_
  rw [ho]
  exact wpAny_pure h
theorem sub_named (a b : Value) : Builtin.Re.reNamed "re.Pattern.sub" "sub" ["repl", "string", "count"] 2 [a, b] [] = pure [some a, some b, none] := by kernel_rfl
theorem sub_loop {p : Addr} {x : Str} {t : Tok} {f : Value} {l : Addr} {code : Array Nat} {g : Nat} {R : Result → Shared → Prop} (hp : IsPat s.heap p code g)
    (ho : ((Sre.forSearch code x.cps g 0 x.cps.size false).runFor Builtin.Re.reTurnSteps).outcome = some .failed) (hx : 0 < x.cps.size) (hx2 : x.cps.size ≤ 1000) (hl : s.heap.PlainList l #[])
    (h : ∀ h' t' k, (∀ b o, b ≠ l → s.heap.get? b = some o → h'.get? b = some o) → R (.ok (.ret (.str x t'))) { s with heap := h', toks := k }) :
    codeAny (model prog w) A (.builtin "re.Pattern.sub.loop" ⟨[.ref p, .str x t, f, rawInt 1, rawInt 0, rawInt 0, rawInt 0, rawInt 0, .bool false, .ref l, .bool false], []⟩) R s := by
  refine codeAny_builtin entry_subloop ?_
  unfold Builtin.«re.Pattern.sub.loop»
  dsimp only [rawInt]
  refine wpAny_bind (wp_target hp ?_)
  refine wpAny_bind ?_
  refine wp_found (g := g) (p := p) (x := x) (t := t) (code := code) ho ?_
  show wpAny _ _ (if 0 < x.cps.size then _ else _) _ _ _
  rw [if_pos hx]
  refine wpAny_bind (wpAny_mkStr ?_ ?_)
  · obtain ⟨n, el⟩ := hl
    have hfull : (tgt p x t code g).text.extract (Int.toNat 0) (tgt p x t code g).lim = x.cps := by
      show x.cps.extract 0 x.cps.size = x.cps
      simp
    rw [hfull]
    refine wpAny_bind (wpAny_updateSeq (s := { s with toks := s.toks + 1 }) el rfl ?_ (by decide) (by show 1 ≤ sizeLine + 1; decide))
    have el1 := Heap.get?_update_self (Obj.mapSeq fun v => v.push (Value.str { cps := x.cps } s.toks)) el rfl
    refine wpAny_bind (wpAny_mkStr ?_ (by show (x.cps.extract 0 0).size ≤ sizeLine; simp))
    refine wpAny_bind (wpAny_seqItems el1 rfl ?_)
    show wpAny _ _ (if false = true then _ else _) _ _ _
    rw [if_neg (by decide)]
    refine wpAny_bind (PyProof.Rows.join_list (D := l) (items := #[Value.str { cps := x.cps } s.toks]) (ys := [x]) ⟨_, el1, rfl, _, rfl⟩ (.cons x s.toks .nil) ?_ fun t' k => ?_)
    · show ([x].map (·.length)).sum + [x].length * (x.cps.extract 0 0).size ≤ 16777216
      have : x.length = x.cps.size := rfl
      simp
      omega
    · show wpAny _ _ (if false = true then _ else _) _ _ _
      rw [if_neg (by decide)]
      refine wpAny_pure ?_
      have ej : Txt.join { cps := (tgt p x t code g).text.extract 0 0 } [x] = x := rfl
      rw [ej]
      exact h _ t' k fun b o hb e => (Heap.get?_update_other _ _ (Ne.symm hb)).trans e
  · show (x.cps.extract 0 x.cps.size).size ≤ sizeLine
    rw [sizeLine_eq]
    simp
    omega
theorem IsPat.keep {h h' : Heap} {p : Addr} {code : Array Nat} {g : Nat} (x : IsPat h p code g) (hk : ∀ b o, h.get? b = some o → h'.get? b = some o) : IsPat h' p code g := by
  obtain ⟨fs, T, ws, n, o, oT, h1, h2, h3, h4, h5, h6, h7, h8, h9⟩ := x
  exact ⟨fs, T, ws, n, o, oT, hk _ _ h1, h2, h3, h4, h5, h6, h7, hk _ _ h8, h9⟩
theorem call_sub {p a : Addr} {x : Str} {t : Tok} {code : Array Nat} {g : Nat} {Q : Value → Shared → Prop} (hp : IsPat s.heap p code g) (hf : s.TypeIs (.ref a) "function")
    (ho : ((Sre.forSearch code x.cps g 0 x.cps.size false).runFor Builtin.Re.reTurnSteps).outcome = some .failed) (hx : 0 < x.cps.size) (hx2 : x.cps.size ≤ 1000)
    (h : ∀ h' t' k, (∀ b o, s.heap.get? b = some o → h'.get? b = some o) → Q (.str x t') { s with heap := h', toks := k }) :
    wpAny (model prog w) A (call (.builtin "re.Pattern.sub") [.ref p, .ref a, .str x t]) Q E s := by
  have hT : s.TypeIs (.ref p) "re.Pattern" := by
    obtain ⟨fs, T, ws, n, o, oT, h1, h2, _⟩ := hp
    exact ⟨o, h1, h2⟩
  refine wpAny_call (codeAny_call_builtin slot_sub.plain entry_sub (slot_sub.check _ _ _ _ _ _ _ _ hT (args_sub _ _ _) ?_))
  unfold Builtin.«re.Pattern.sub» Builtin.Re.reSubstitute
  dsimp only
  refine wpAny_bind (wpAny_of_eq (sub_named _ _) ?_)
  dsimp only
  refine wpAny_bind (wpAny_pure ?_)
  obtain ⟨fc, hfc⟩ := fn_call
  refine wpAny_bind (wpAny_specialOf hf hfc ?_)
  dsimp only [Option.isSome_some, if_true]
  refine wpAny_bind (wpAny_pure ?_)
  refine wpAny_bind (wpAny_pure ?_)
  dsimp only
  refine wpAny_bind (wpAny_holding (wp_target hp ?_))
  rw [if_pos (by decide)]
  have hnh : ∀ {Q' : Unit → Shared → Prop} {E' : Value → Shared → Prop}, Q' () s → wpAny (model prog w) A.in1 (Builtin.Re.reNotHeld "re.Pattern.sub" (.str x t)) Q' E' s := fun hq => by
    unfold Builtin.Re.reNotHeld
    refine wpAny_bind (wpAny_isInstance_val (T := "str") (b := false) rfl (by rw [isSubtype_type]; kernel_rfl) ?_)
    rw [if_neg (by decide)]
    exact wpAny_pure hq
  refine wpAny_bind (hnh ?_)
  refine wpAny_bind (wpAny_newList ?_ (by decide))
  refine wpAny_pure ⟨plainId_quiet (by decide +kernel) _, ?_⟩
  refine sub_loop (g := g) (code := code) (hp.keep fun b o e => Heap.get?_push_of_some _ e) ho hx hx2 ⟨_, Heap.get?_push_size _ rfl⟩ fun h' t' k hk => ?_
  exact h h' t' k fun b o e => hk b o (Nat.ne_of_lt (Heap.lt_size e)) (Heap.get?_push_of_some _ e)
end
end Mine
end SRe1

/-! Re2 -/
noncomputable section SRe2
namespace Mine
/-- the lambdas of the code at ca go to the table at z -/
structure LamOk (c : Cx) (ca z : Addr) : Prop where
  Z : c.Z = [z]
  hd : ∀ h, Glo c h → CodeHd h ca z
  bi : ∀ h, Glo c h → h.BuiltinsAt c.mg z
section
variable {c : Cx} {n : Nat} {sc : Scope} {b : Bool}
theorem wp_lambda {prog : Program} {w : World} {A : Around} {E : Value → Shared → Prop} {s : Shared} {env : Env} {ca z : Addr} {params : Arguments} {body : Expr} {scope : Scope} {pos : Pos} {Q : Value → Shared → Prop}
    (L : LamOk c ca z) (G : Glo c s.heap) (hg : env.globals = mainGlobals) (hcode : env.code = .ref ca) (hdef : defaultsOf params env = ([], [])) (hcl : closureFor scope env = pure [])
    (h : ∀ a h' tk, Ext c s.heap h' → (Shared.TypeIs { s with heap := h', toks := tk } (.ref a) "function") → Q (.ref a) { s with heap := h', toks := tk }) :
    wpAny (model prog w) A (eval (.Lambda params body scope pos) env) Q E s := by
  have hz : z ∈ c.Z := by rw [L.Z]; exact List.mem_cons_self
  obtain ⟨ps, hP, ht⟩ := G.zl z hz
  refine kla_eval hdef ?_
  cases hf : codeAmong pos ps.toList with
  | none =>
    refine kla_makeFunction hcl hg G.g hcode (L.hd _ G) hP ht hf (fun q => G.ok.zg (q ▸ hz)) (L.bi _ G) fun c' ctv h' tk hx _ _ _ htb => ?_
    have hk : ∀ bb o, bb ∉ c.Z → s.heap.get? bb = some o → h'.get? bb = some o := fun bb o hb e => hx bb o (fun q => hb (q ▸ hz)) e
    refine h _ _ _ ⟨fun bb o hb e => Heap.get?_push_of_some _ (hk bb o hb e), fun z' hz' _ => ?_, fun z' hz' _ => ?_⟩ ⟨_, Heap.get?_push_size _ rfl, rfl⟩
    · have e : z' = z := by rw [L.Z] at hz'; simpa using hz'
      subst e
      exact ⟨_, Heap.get?_push_of_some _ htb, by rw [Array.toList_append]; exact TriplesOk_snoc _ _ _ _ ht⟩
    · have e : z' = z := by rw [L.Z] at hz'; simpa using hz'
      subst e
      exact live.of (Heap.get?_push_of_some _ htb)
  | some cv =>
    refine kla_makeFunctionHit hcl hg G.g hcode (L.hd _ G) hP ht hf (L.bi _ G) fun ctv h' tk hk _ => ?_
    exact h _ _ _ (Ext.of fun bb o e => Heap.get?_push_of_some _ (hk bb o e)) ⟨_, Heap.get?_push_size _ rfl, rfl⟩
/-- x = PATTERN.sub(lambda .., y), where nothing of y is found -/
theorem trS_lamSub {ca z pa : Addr} {code : Array Nat} {g : Nat} {ts : List Str} {x y nm : Str} {params : Arguments} {lb : Expr} {lsc : Scope} {lp p1 p2 p3 p4 p5 p6 : Pos} {plsf : Env → Sem Bool}
    (L : LamOk c ca z) (hpat : ∀ h, Glo c h → IsPat h pa code g)
    (hfn0 : ∀ fa ob fd, c.FT fa = some ob → ob.data = .func fd → fd.scope = sc → fd.code = .ref ca)
    (hts : ∀ u ∈ ts, ((Sre.forSearch code u.cps g 0 u.cps.size false).runFor Builtin.Re.reTurnSteps).outcome = some .failed ∧ 0 < u.cps.size ∧ u.cps.size ≤ 1000)
    (tp : TrE c n sc (.Name nm p2) (fun _ => some (.adr pa))) (ty : TrE c n sc (.Name y p4) (fun r => match r.get y with | some (.sh d) => some d | _ => none))
    (hk : Sto sc x) (hdef : ∀ env, defaultsOf params env = ([], [])) (hcl : ∀ env : Env, env.scope = sc → closureFor lsc env = pure [])
    (hsw : ∀ env, swapsWith (.Call (.Attribute (.Name nm p2) "sub" p3) [.Lambda params lb lsc lp, .Name y p4] [] p5) (some (.Name x p1)) p6.line env = pure false)
    (pl : Plain [.Lambda params lb lsc lp, .Name y p4])
    (hs1 : ∀ env, starEach [.Lambda params lb lsc lp, .Name y p4] env = (false, eval (.Lambda params lb lsc lp) env) :: starEach [.Name y p4] env)
    (he : ∀ env, eval (.Call (.Attribute (.Name nm p2) "sub" p3) [.Lambda params lb lsc lp, .Name y p4] [] p5) env = (do
      let ov ← eval (.Name nm p2) env
      standAt p3.atName
      let (f, first) ← holding [ov] (getMethod ov "sub" (plsf env))
      callWith p5 f first (backTo p5 (starEach [.Lambda params lb lsc lp, .Name y p4] env)) [])) :
    TrS c n sc (.Assign [.Name x p1] (.Call (.Attribute (.Name nm p2) "sub" p3) [.Lambda params lb lsc lp, .Name y p4] [] p5) p6)
      (fun r => match r.get y with | some (.sh (.str u)) => if u ∈ ts then some ((r.kill x).put x (.sh (.str u)), .next) else none | _ => none) := fun {prog w A E X0 s0 env gd hid ow r r' fl s Q} hA hs hfn S hf h => by
  dsimp only at hf
  split at hf <;> try (cases hf; done)
  rename_i u hu
  split at hf <;> try (cases hf; done)
  rename_i hut
  cases hf
  obtain ⟨ho, hx0, hx1⟩ := hts u hut
  obtain ⟨fa, ob, fd, _, hob, hd, hcd, hsc⟩ := hfn
  have hfn' : FnOk c env := ⟨fa, ob, fd, by assumption, hob, hd, hcd, hsc⟩
  have hcode : env.code = .ref ca := hcd.trans (hfn0 fa ob fd hob hd (hsc.symm.trans hs))
  refine wpAny_Assign_Name (MethodCall_ (tp hA hs S rfl fun v s1 a1 x1 => ?_) (he _)) (hsw _)
  have S1 := S.after a1
  cases x1
  obtain ⟨fs, T, ws, nn, o, oT, q1, q2, q3, _⟩ := hpat _ S1.glo
  refine getMethod_builtin (T := "re.Pattern") ⟨o, q1, q2⟩ plainAttrs_pat slot_sub type_sub (fun a' e => by cases e; exact ⟨o, q1, q3⟩) ?_
  refine Calls.callWith_builtin (pl _ _).1 (evalArgs_pl pl ?_)
  refine spliced_more (wp_lambda L S1.glo S1.eg hcode (hdef _) (hcl _ hs) fun a h' tk ex ft => ?_) (hs1 _)
  have a2 : After c s1 { s1 with heap := h', toks := tk } := After.heap tk ex
  have S2 := S1.after a2
  refine spliced_more (ty hA hs S2 (d := .str u) (by dsimp only; rw [hu]) fun v2 s3 a3 x3 => ?_) rfl
  refine spliced_none ?_
  have S3 := S2.after a3
  obtain ⟨t, rfl⟩ := x3.str_inv
  have ft3 : Shared.TypeIs s3 (.ref a) "function" := by
    obtain ⟨of, e1, e2⟩ := ft
    refine ⟨of, a3.2.keep a of (fun q => ?_) e1, e2⟩
    obtain ⟨ps, e3, _⟩ := S2.glo.zl a q
    rw [e1] at e3
    cases e3
    cases e2
  refine call_sub (hpat _ S3.glo) ft3 ho hx0 hx1 fun h3 t3 k3 hk3 => ?_
  have a4 : After c s3 { s3 with heap := h3, toks := k3 } := After.heap k3 (Ext.of hk3)
  refine wp_storeName (S3.after a4) (hk.of hs hfn') fun h5 tk5 bb hw Ts => ?_
  have aa := ((a1.trans a2).trans a3).trans a4
  obtain ⟨⟨h1', tk1, e0⟩, e1⟩ := aa
  have := S.store_sh (tk := tk5) e1 hw Ts (d := .str u) .str
  obtain ⟨⟨h3', tk3', rfl⟩, _⟩ := (a1.trans a2).trans a3
  exact h _ _ _ this trivial
end
end Mine
end SRe2

/-! La23 -/
noncomputable section SLa23
namespace Mine
section
variable {c : Cx} {n : Nat} {sc : Scope} {b : Bool}
theorem St.freeze {X0 : List Addr} {s0 : Shared} {env : Env} {gd : List (Addr × Obj)} {hid : List (Value × D)} {ow : List (Str × Addr)} {r : Rho} {s : Shared} {x : Str} {l : List D} (S : St c X0 s0 env gd hid ow r s) (hx : r.get x = some (.own l)) :
    St c X0 s0 env gd hid (dropO ow x) ((r.kill x).put x (.sh (.list l))) s := by
  have sub := dropO_sub ow x
  have hX : ∀ a, a ∈ XX (dropO ow x) X0 → a ∈ XX ow X0 := fun a h => by
    rcases List.mem_append.mp h with q | q
    · exact List.mem_append_left _ ((sub.map _).subset q)
    · exact List.mem_append_right _ q
  have mon : ∀ a vs, LP s.heap (XX ow X0) a vs → LP s.heap (XX (dropO ow x) X0) a vs := fun a vs l => ⟨l.1, fun q => l.2 (hX a q)⟩
  refine ⟨S.kf, S.eg, S.eb, S.same, S.glo0, S.keep, S.zx, S.xl, S.ns, S.nz, S.nf, S.cl, S.ci, S.cf, S.fnc, fun p hp => ?_, fun p hp => R.mono mon (S.hids p hp), S.owk.sublist (sub.map _), S.owa.sublist (sub.map _), fun p hp => S.owp p (sub.subset hp), fun y e q => ?_⟩
  · obtain ⟨a1, a2, a3, a4, a5⟩ := S.gds p hp
    exact ⟨a1, a2, a3, a4, fun q => a5 ((sub.map _).subset q)⟩
  · rw [Rho.get_put] at q
    by_cases hyx : y = x
    · subst hyx
      rw [if_pos rfl] at q
      cases q
      obtain ⟨v, hl, a, vs, rfl, hm, ⟨n, hp⟩, hr⟩ := S.vars y _ hx
      refine ⟨_, hl, .list ⟨⟨_, hp, rfl, _, rfl⟩, fun q => ?_⟩ (Rs.mono mon hr)⟩
      rcases List.mem_append.mp q with q | q
      · obtain ⟨p, hp1, hp2⟩ := List.mem_map.mp q
        obtain ⟨hp3, hp4⟩ := mem_dropO.mp hp1
        have inj : ∀ {l : List (Str × Addr)}, (l.map (·.2)).Nodup → ∀ u ∈ l, ∀ w ∈ l, u.2 = w.2 → u = w := by
          intro l
          induction l with
          | nil => intro _ u hu; cases hu
          | cons z l ih =>
            intro hn u hu w hw e
            rw [List.map_cons, List.nodup_cons] at hn
            rcases List.mem_cons.mp hu with e1 | h1 <;> rcases List.mem_cons.mp hw with e2 | h2
            · exact e1.trans e2.symm
            · exact absurd (by rw [← e1, e]; exact List.mem_map_of_mem (f := (·.2)) h2) hn.1
            · exact absurd (by rw [← e2, ← e]; exact List.mem_map_of_mem (f := (·.2)) h1) hn.1
            · exact ih hn.2 u h1 w h2 e
        have := inj S.owa p hp3 (y, a) hm hp2
        exact hp4 (by rw [this])
      · exact (S.owp _ hm).2.1 (S.xl a q)
    · rw [if_neg hyx, Rho.get_kill] at q
      cases hg' : r.get y with
      | none => rw [hg'] at q; cases q
      | some e0 =>
        rw [hg'] at q
        obtain ⟨v', hl, o⟩ := S.vars y e0 hg'
        refine ⟨v', hl, ?_⟩
        have q' : e0.kill x = e := Option.some.inj q
        subst q'
        cases e0 with
        | sh d => exact R.mono mon o
        | own l' =>
          obtain ⟨a, vs, rfl, hm, hpl, hr⟩ := o
          exact ⟨a, vs, rfl, mem_dropO.mpr ⟨hm, hyx⟩, hpl, Rs.mono mon hr⟩
        | app y' =>
          obtain ⟨m, a, rfl, hm, hap, hz⟩ := o
          show entOk s.heap (XX (dropO ow x) X0) c.Z (dropO ow x) y (.ref m) (if y' = x then .dead else .app y')
          by_cases hy : y' = x
          · rw [if_pos hy]; exact trivial
          · rw [if_neg hy]
            exact ⟨m, a, rfl, mem_dropO.mpr ⟨hm, hy⟩, hap, hz⟩
        | dead => exact trivial
/-- from here on nobody turns the list x -/
theorem trSs_freeze (x : Str) {es : List Stmt} {g : Rho → Option (Rho × Fl)} (t : TrSs c n sc es g) :
    TrSs c n sc es (fun r => match r.get x with | some (.own l) => g ((r.kill x).put x (.sh (.list l))) | _ => none) := fun {prog w A E X0 s0 env gd hid ow r r' fl s Q} hA hs hfn S hf h => by
  dsimp only at hf
  split at hf
  · rename_i l hx
    exact t hA hs hfn (S.freeze hx) hf h
  · cases hf
def oTup (x y : Str) : D → Option Bool
  | .str z => if PyData.canLay0 (.str x) = true ∧ PyData.canLay0 (.str y) = true ∧ PyData.canLay0 (.str z) = true then some (x == z || y == z) else none
  | _ => none
theorem trT_inTup {e : Expr} {x y : Str} {k k1 k2 : Nat} {p p1 p2 pos : Pos} {f : Rho → Option D} (t : TrM b c n sc e f)
    (hm : behindInMarks .In (.Tuple [.Constant (.str x) k1 p1, .Constant (.str y) k2 p2] k p) = false := by first | rfl | (intros; rfl)) :
    TrT c n sc (.Compare e [.In] [.Tuple [.Constant (.str x) k1 p1, .Constant (.str y) k2 p2] k p] pos) (fun r => (f r).bind (oTup x y)) := fun {prog w A E X0 s0 env gd hid ow r s Q d} hA hs S hf h => by
  obtain ⟨da, h1, hf⟩ := bind_some hf
  cases da <;> simp only [oTup, reduceCtorEq] at hf
  rename_i z
  split at hf <;> try (cases hf; done)
  rename_i hl
  cases hf
  refine wpAny_isTrue_Compare1 (t hA hs S h1 fun a s1 a1 x1 => wpAny_Tuple ?_) hm
  obtain ⟨tz, rfl⟩ := x1.str_inv
  refine spliced_more (Calls.Constant_str ?_) rfl
  refine spliced_more (Calls.Constant_str ?_) rfl
  refine spliced_none ⟨by show 2 ≤ sizeLine; decide, ?_⟩
  refine SeqAt.in_tuple_reads (xs := [.str x, .str y]) (d := .str z) (.tuple (Heap.get?_push_size _ rfl) rfl rfl (.cons (.str _ _) (.cons (.str _ _) .nil))) (.str _ _) (by show (PyData.canLay0 (.str x) && (PyData.canLay0 (.str y) && true)) = true; rw [hl.1, hl.2.1]; rfl) hl.2.2 ?_ ?_
  · have := hA.un
    show A.units + 1 + min _ 0 < 9900
    omega
  · refine wpAny_truthy_bool ?_
    have e : ([PyData.str x, PyData.str y].any fun u => PyData.eqv u (.str z)) = (x == z || y == z) := by
      show ((x == z) || ((y == z) || false)) = _
      rw [Bool.or_false]
    rw [e]
    refine h _ (a1.trans ?_)
    exact After.push c s1 _ _
theorem ret_ends {f : Rho → Option D} : ∀ r r' fl, (fun r => (f r).bind fun d => some (r, Fl.ret d)) r = some (r', fl) → ∃ d, fl = .ret d := fun r r' fl h => by
  obtain ⟨d, _, h⟩ := bind_some h
  cases h
  exact ⟨_, rfl⟩
end
end Mine
end SLa23

/-! Kd1 -/
noncomputable section SKd1
namespace Mine
@[reducible] def sv (x : String) (n : Nat) : Value := Value.str (Str.ofString x) n
@[reducible] def en (P : Params) (k : String) (n : Nat) (v : Value) : DictEntry := ⟨PyData.keyHash P (Str.ofString k), Value.str (Str.ofString k) n, v⟩
noncomputable def fob (i : Nat) (md dv : Value) (cd : Addr) : Obj := match PySem.Challenge.pw_in0219_01.main.body[i]? with
  | some (.FunctionDef n ps b _ _ _ sc _ _ _) => ⟨.type "function", none, .func ⟨n, n, ps, .stmts b, sc, 3, [], dv, .none, .none, md, none, .ref cd, .none, 0⟩, #[]⟩
  | _ => default
noncomputable def KK (P : Params) : Frag :=
  (nat_lit 3, { cls := Value.type "dict", data := Data.dict #[en P "__name__" 165 (sv "law_in0219_01" 571), en P "__doc__" 166 (Value.none), en P "__package__" 167 (Value.none), en P "__loader__" 168 (Value.builtin "__main__.__loader__#opaque"), en P "__spec__" 169 (Value.none), en P "__annotations__" 170 (Value.ref 6), en P "__builtins__" 171 (Value.ref 4), en P "__file__" 173 (sv "/claim/cut.py" 172), en P "__cached__" 174 (Value.none), en P "_sre" 275 (Value.ref 12), en P "_MAX_STRING_SIZE" 285 (Value.int 40 284), en P "_MOVE_COST" 287 (Value.int 2 286), en P "_CASE_COST" 289 (Value.int 1 288), en P "_substitution_cost" 297 (Value.ref 38), en P "_levenshtein_distance" 317 (Value.ref 45), en P "_twin_re_1" 357 (Value.ref 50), en P "translate" 366 (Value.ref 57), en P "_special_chars_map" 514 (Value.ref 59), en P "escape" 521 (Value.ref 69), en P "_translate" 542 (Value.ref 76), en P "_join_translated_parts" 555 (Value.ref 83), en P "_initial_missing" 558 (Value.ref 84), en P "reduce" 570 (Value.ref 92), en P "_law_second" 583 (Value.ref 99), en P "_law_dearer" 589 (Value.ref 104), en P "_law_fits" 597 (Value.ref 111), en P "_law_takes" 608 (Value.ref 118), en P "law" 614 (Value.ref 123)] 28 }) ::
  (nat_lit 4, { cls := Value.type "module", dict := some 0 }) ::
  (nat_lit 37, { cls := Value.type "code", data := Data.fields #[sv "_substitution_cost" 290, sv "_substitution_cost" 291, sv "/claim/cut.py" 292, Value.int 6 0, Value.int 2 0, Value.int 0 0, Value.int 0 0, Value.int 3 0, Value.ref 32, Value.bool true, Value.int 276 0, Value.ref 33, Value.none, Value.ref 34, Value.ref 35, Value.ref 36, Value.int 295 0, Value.int 6 0, sv "/claim/cut.py" 296] }) ::
  (nat_lit 38, fob 5 (sv "cpy313.traceback" 282) (Value.none) 37) ::
  (nat_lit 44, { cls := Value.type "code", data := Data.fields #[sv "_levenshtein_distance" 298, sv "_levenshtein_distance" 299, sv "/claim/cut.py" 300, Value.int 12 0, Value.int 3 0, Value.int 0 0, Value.int 0 0, Value.int 3 0, Value.ref 39, Value.bool true, Value.int 276 0, Value.ref 40, Value.none, Value.ref 41, Value.ref 42, Value.ref 43, Value.int 315 0, Value.int 12 0, sv "/claim/cut.py" 316] }) ::
  (nat_lit 45, fob 6 (sv "cpy313.traceback" 282) (Value.none) 44) ::
  (nat_lit 49, { cls := Value.type "tuple", data := Data.seq #[Value.int 14 0, Value.int 14 0, Value.int 4 0, Value.int 1 0, Value.int 1 0, Value.int 9 0, Value.int 0 0, Value.int 64 0, Value.int 0 0, Value.int 1342177280 0, Value.int 0 0, Value.int 0 0, Value.int 0 0, Value.int 0 0, Value.int 0 0, Value.int 17 0, Value.int 0 0, Value.int 13 0, Value.int 11 0, Value.int 9 0, Value.int 0 0, Value.int 64 0, Value.int 0 0, Value.int 1342177280 0, Value.int 0 0, Value.int 0 0, Value.int 0 0, Value.int 0 0, Value.int 0 0, Value.int 17 0, Value.int 1 0, Value.int 1 0] }) ::
  (nat_lit 50, { cls := Value.type "re.Pattern", data := Data.fields #[sv "([&~|])" 321, Value.int 32 356, Value.int 1 0, Value.none, Value.none, Value.ref 49, Value.int 0 0] }) ::
  (nat_lit 56, { cls := Value.type "code", data := Data.fields #[sv "translate" 358, sv "translate" 359, sv "/claim/cut.py" 360, Value.int 52 0, Value.int 1 0, Value.int 0 0, Value.int 0 0, Value.int 3 0, Value.ref 51, Value.bool true, Value.int 276 0, Value.ref 52, Value.none, Value.ref 53, Value.ref 54, Value.ref 55, Value.int 364 0, Value.int 52 0, sv "/claim/cut.py" 365] }) ::
  (nat_lit 57, fob 9 (sv "cpy313.fnmatch" 318) (Value.none) 56) ::
  (nat_lit 59, { cls := Value.type "dict", data := Data.dict #[⟨40, Value.int 40 370, sv "\\(" 374⟩, ⟨41, Value.int 41 376, sv "\\)" 380⟩, ⟨91, Value.int 91 382, sv "\\[" 386⟩, ⟨93, Value.int 93 388, sv "\\]" 392⟩, ⟨123, Value.int 123 394, sv "\\{" 398⟩, ⟨125, Value.int 125 400, sv "\\}" 404⟩, ⟨63, Value.int 63 406, sv "\\?" 410⟩, ⟨42, Value.int 42 412, sv "\\*" 416⟩, ⟨43, Value.int 43 418, sv "\\+" 422⟩, ⟨45, Value.int 45 424, sv "\\-" 428⟩, ⟨124, Value.int 124 430, sv "\\|" 434⟩, ⟨94, Value.int 94 436, sv "\\^" 440⟩, ⟨36, Value.int 36 442, sv "\\$" 446⟩, ⟨92, Value.int 92 448, sv "\\\\" 452⟩, ⟨46, Value.int 46 454, sv "\\." 458⟩, ⟨38, Value.int 38 460, sv "\\&" 464⟩, ⟨126, Value.int 126 466, sv "\\~" 470⟩, ⟨35, Value.int 35 472, sv "\\#" 476⟩, ⟨32, Value.int 32 478, sv "\\ " 482⟩, ⟨9, Value.int 9 484, sv "\\\t" 488⟩, ⟨10, Value.int 10 490, sv "\\\n" 494⟩, ⟨13, Value.int 13 496, sv "\\\x0d" 500⟩, ⟨11, Value.int 11 502, sv "\\\x0b" 506⟩, ⟨12, Value.int 12 508, sv "\\\x0c" 512⟩] 24 }) ::
  (nat_lit 68, { cls := Value.type "code", data := Data.fields #[sv "escape" 515, sv "escape" 516, sv "/claim/cut.py" 517, Value.int 58 0, Value.int 1 0, Value.int 0 0, Value.int 0 0, Value.int 3 0, Value.ref 63, Value.bool true, Value.int 276 0, Value.ref 64, Value.none, Value.ref 65, Value.ref 66, Value.ref 67, Value.int 519 0, Value.int 58 0, sv "/claim/cut.py" 520] }) ::
  (nat_lit 69, fob 12 (sv "re" 367) (Value.none) 68) ::
  (nat_lit 75, { cls := Value.type "code", data := Data.fields #[sv "_translate" 524, sv "_translate" 525, sv "/claim/cut.py" 526, Value.int 65 0, Value.int 3 0, Value.int 0 0, Value.int 0 0, Value.int 3 0, Value.ref 70, Value.bool true, Value.int 276 0, Value.ref 71, Value.none, Value.ref 72, Value.ref 73, Value.ref 74, Value.int 540 0, Value.int 65 0, sv "/claim/cut.py" 541] }) ::
  (nat_lit 76, fob 14 (sv "cpy313.fnmatch" 522) (Value.none) 75) ::
  (nat_lit 82, { cls := Value.type "code", data := Data.fields #[sv "_join_translated_parts" 543, sv "_join_translated_parts" 544, sv "/claim/cut.py" 545, Value.int 127 0, Value.int 2 0, Value.int 0 0, Value.int 0 0, Value.int 3 0, Value.ref 77, Value.bool true, Value.int 276 0, Value.ref 78, Value.none, Value.ref 79, Value.ref 80, Value.ref 81, Value.int 553 0, Value.int 127 0, sv "/claim/cut.py" 554] }) ::
  (nat_lit 83, fob 15 (sv "cpy313.fnmatch" 522) (Value.none) 82) ::
  (nat_lit 84, { cls := Value.type "object" }) ::
  (nat_lit 85, { cls := Value.type "tuple", data := Data.seq #[Value.ref 84] }) ::
  (nat_lit 91, { cls := Value.type "code", data := Data.fields #[sv "reduce" 559, sv "reduce" 560, sv "/claim/cut.py" 561, Value.int 156 0, Value.int 3 0, Value.int 0 0, Value.int 0 0, Value.int 3 0, Value.ref 86, Value.bool true, Value.int 276 0, Value.ref 87, Value.none, Value.ref 88, Value.ref 89, Value.ref 90, Value.int 568 0, Value.int 156 0, sv "/claim/cut.py" 569] }) ::
  (nat_lit 92, fob 18 (sv "cpy313.functools" 556) (Value.ref 85) 91) ::
  (nat_lit 98, { cls := Value.type "code", data := Data.fields #[sv "_law_second" 573, sv "_law_second" 574, sv "/claim/cut.py" 575, Value.int 169 0, Value.int 1 0, Value.int 0 0, Value.int 0 0, Value.int 3 0, Value.ref 93, Value.bool true, Value.int 276 0, Value.ref 94, Value.none, Value.ref 95, Value.ref 96, Value.ref 97, Value.int 581 0, Value.int 169 0, sv "/claim/cut.py" 582] }) ::
  (nat_lit 99, fob 20 (sv "law_in0219_01" 571) (Value.none) 98) ::
  (nat_lit 103, { cls := Value.type "code", data := Data.fields #[sv "_law_dearer" 584, sv "_law_dearer" 585, sv "/claim/cut.py" 586, Value.int 176 0, Value.int 2 0, Value.int 0 0, Value.int 0 0, Value.int 3 0, Value.ref 100, Value.bool true, Value.int 276 0, Value.ref 101, Value.none, Value.none, Value.none, Value.ref 102, Value.int 587 0, Value.int 176 0, sv "/claim/cut.py" 588] }) ::
  (nat_lit 104, fob 21 (sv "law_in0219_01" 571) (Value.none) 103) ::
  (nat_lit 110, { cls := Value.type "code", data := Data.fields #[sv "_law_fits" 590, sv "_law_fits" 591, sv "/claim/cut.py" 592, Value.int 182 0, Value.int 2 0, Value.int 0 0, Value.int 0 0, Value.int 3 0, Value.ref 105, Value.bool true, Value.int 276 0, Value.ref 106, Value.none, Value.ref 107, Value.ref 108, Value.ref 109, Value.int 595 0, Value.int 182 0, sv "/claim/cut.py" 596] }) ::
  (nat_lit 111, fob 22 (sv "law_in0219_01" 571) (Value.none) 110) ::
  (nat_lit 117, { cls := Value.type "code", data := Data.fields #[sv "_law_takes" 598, sv "_law_takes" 599, sv "/claim/cut.py" 600, Value.int 186 0, Value.int 2 0, Value.int 0 0, Value.int 0 0, Value.int 3 0, Value.ref 112, Value.bool true, Value.int 276 0, Value.ref 113, Value.none, Value.ref 114, Value.ref 115, Value.ref 116, Value.int 606 0, Value.int 186 0, sv "/claim/cut.py" 607] }) ::
  (nat_lit 118, fob 23 (sv "law_in0219_01" 571) (Value.none) 117) ::
  (nat_lit 122, { cls := Value.type "code", data := Data.fields #[sv "law" 609, sv "law" 610, sv "/claim/cut.py" 611, Value.int 198 0, Value.int 1 0, Value.int 0 0, Value.int 0 0, Value.int 3 0, Value.ref 119, Value.bool true, Value.int 276 0, Value.ref 120, Value.none, Value.none, Value.none, Value.ref 121, Value.int 612 0, Value.int 198 0, sv "/claim/cut.py" 613] }) ::
  (nat_lit 123, fob 24 (sv "law_in0219_01" 571) (Value.none) 122) :: []
noncomputable def ats : List Addr := [3, 4, 37, 38, 44, 45, 49, 50, 56, 57, 59, 68, 69, 75, 76, 82, 83, 84, 85, 91, 92, 98, 99, 103, 104, 110, 111, 117, 118, 122, 123]
theorem ats_ok : ∀ P, ats = (KK P).map (·.1) := fun _ => by kernel_rfl
noncomputable def qv : Program := view PySem.Challenge.pw_in0219_01 [0, 24]
noncomputable def loose : List PySem.Str := [Str.ofString "_MAX_STRING_SIZE", Str.ofString "_MOVE_COST", Str.ofString "_CASE_COST", Str.ofString "_substitution_cost", Str.ofString "_levenshtein_distance", Str.ofString "_twin_re_1", Str.ofString "translate", Str.ofString "_special_chars_map", Str.ofString "escape", Str.ofString "_translate", Str.ofString "_join_translated_parts", Str.ofString "_initial_missing", Str.ofString "reduce", Str.ofString "_law_second", Str.ofString "_law_dearer", Str.ofString "_law_fits", Str.ofString "_law_takes"]
noncomputable abbrev HH : Hook := kmHook KK ats ats_ok [71]
noncomputable abbrev xt (s : Shared) : Bool := xlAt qv [] s && recOk (RowW.records PySem.Challenge.rw_in0219_01.row.toRowW) s
end Mine
end SKd1

/-! Hd1 -/
set_option maxHeartbeats 0
namespace Mine
theorem wellsaid : PySem.Challenge.rw_in0219_01.wellSaid = true := by
  rw [PySem.W.Fast.te9446332074065402090]
  kernel_rfl
abbrev L0 (w : World) : Prop := (openEnds treeTable PySem.Challenge.pw_in0219_01 w 4100).map (fun s => (openSeen qv loose (importedModules PySem.Challenge.pw_in0219_01.main.body) xt true s, HH.obs s)) = some (openGood qv loose, HH.val w)
theorem lff (w : World) : L0 ((w.withFollow "special-get-raises" false).withFollow "comprehension-iter-twice" false) := by
  unfold L0 openEnds fencedOpening topFrom
  rw [PySem.W.Fast.te14364793385576792824, PySem.W.Fast.te4187177175401517315, PySem.W.Fast.te14082659384304107361, PySem.W.Fast.te10274390034422433532, PySem.W.Fast.te14289696077712309145, PySem.W.Fast.te1435165496053646825, PySem.W.Fast.te8920871248978507458]
  kernel_rfl
theorem lft (w : World) : L0 ((w.withFollow "special-get-raises" false).withFollow "comprehension-iter-twice" true) := by
  unfold L0 openEnds fencedOpening topFrom
  rw [PySem.W.Fast.te14364793385576792824, PySem.W.Fast.te4187177175401517315, PySem.W.Fast.te14082659384304107361, PySem.W.Fast.te10274390034422433532, PySem.W.Fast.te14289696077712309145, PySem.W.Fast.te1435165496053646825, PySem.W.Fast.te8920871248978507458]
  kernel_rfl
theorem ltf (w : World) : L0 ((w.withFollow "special-get-raises" true).withFollow "comprehension-iter-twice" false) := by
  unfold L0 openEnds fencedOpening topFrom
  rw [PySem.W.Fast.te14364793385576792824, PySem.W.Fast.te4187177175401517315, PySem.W.Fast.te14082659384304107361, PySem.W.Fast.te10274390034422433532, PySem.W.Fast.te14289696077712309145, PySem.W.Fast.te1435165496053646825, PySem.W.Fast.te8920871248978507458]
  kernel_rfl
theorem ltt (w : World) : L0 ((w.withFollow "special-get-raises" true).withFollow "comprehension-iter-twice" true) := by
  unfold L0 openEnds fencedOpening topFrom
  rw [PySem.W.Fast.te14364793385576792824, PySem.W.Fast.te4187177175401517315, PySem.W.Fast.te14082659384304107361, PySem.W.Fast.te10274390034422433532, PySem.W.Fast.te14289696077712309145, PySem.W.Fast.te1435165496053646825, PySem.W.Fast.te8920871248978507458]
  kernel_rfl
theorem leftT : LeftO PySem.Challenge.pw_in0219_01 qv loose xt HH.obs HH.val 4100 :=
  byRow2 "comprehension-iter-twice" (P := L0) (byRow2 "special-get-raises" (P := fun w => L0 (w.withFollow "comprehension-iter-twice" false)) lff ltf) (byRow2 "special-get-raises" (P := fun w => L0 (w.withFollow "comprehension-iter-twice" true)) lft ltt)
end Mine

/-! F1 -/
set_option maxHeartbeats 4000000
noncomputable section SF1
namespace Mine

def patCode : Array Nat := #[14, 14, 4, 1, 1, 9, 0, 64, 0, 1342177280, 0, 0, 0, 0, 0, 17, 0, 13, 11, 9, 0, 64, 0, 1342177280, 0, 0, 0, 0, 0, 17, 1, 1]
def subTs : List Str := [⟨#[42]⟩, ⟨#[63]⟩, ⟨#[91]⟩, ⟨#[97, 65]⟩, ⟨#[98, 66]⟩]
theorem subTs_ok : ∀ u ∈ subTs, ((Sre.forSearch patCode u.cps 1 0 u.cps.size false).runFor Builtin.Re.reTurnSteps).outcome = some .failed ∧ 0 < u.cps.size ∧ u.cps.size ≤ 1000 := by
  intro u hu
  simp only [subTs, List.mem_cons, List.not_mem_nil, or_false] at hu
  rcases hu with rfl | rfl | rfl | rfl | rfl <;> exact ⟨by kernel_rfl, by decide, by decide⟩
def scT : Scope := match PySem.Challenge.pw_in0219_01.main.body[(14 : Nat)]? with
  | some (.FunctionDef _ _ _ _ _ _ sc _ _ _) => sc
  | _ => default
section
variable {P : Params} {c : Cx}

def T_substitution_cost (h : CF (KK P) c)   :=
  packT (n := 0) (c := c) (fa := 38) h ["ch_a", "ch_b"] rfl rfl rfl rfl rfl rfl rfl (by decide) (fun vals hl => bnd2 vals hl (fun _ _ => rfl)) rfl
    (trSs_cons (trS_if (trT_cmp (tr_name _ _ rfl rfl) (tr_name _ _ rfl rfl) act_eq) (trSs_cons (trS_ret (TrE.b (tr_int _ _ _))) trSs_nil) trSs_nil) (trSs_cons (trS_if (trT_cmp (tr_meth (tr_name _ _ rfl rfl) trEs_nil GM.lower act_lower plain_nil (fun _ => rfl)) (tr_meth (tr_name _ _ rfl rfl) trEs_nil GM.lower act_lower plain_nil (fun _ => rfl)) act_eq) (trSs_cons (trS_ret (TrE.b (tr_glob _ _ _ _ rfl (h.g _ _ rfl) rfl rfl))) trSs_nil) trSs_nil) (trSs_cons (trS_ret (TrE.b (tr_glob _ _ _ _ rfl (h.g _ _ rfl) rfl rfl))) trSs_nil)))

def T_levenshtein_distance (h : CF (KK P) c) {F_substitution_cost : List D → Option D} (h_substitution_cost : ActL c 1 (fun vs => call (.ref 38) vs) F_substitution_cost)  :=
  packT (n := 1) (c := c) (fa := 45) h ["a", "b", "max_cost"] rfl rfl rfl rfl rfl rfl rfl (by decide) (fun vals hl => bnd3 vals hl (fun _ _ _ => rfl)) rfl
    (trSs_cons (trS_if (trT_cmp (tr_name _ _ rfl rfl) (tr_name _ _ rfl rfl) act_eq) (trSs_cons (trS_ret (TrE.b (tr_int _ _ _))) trSs_nil) trSs_nil) (trSs_cons (trS_assign (tr_int _ _ _) (by first | exact .inl rfl | exact .inr rfl)) (trSs_cons (trS_while lim (trT_and (trT_of (tr_cut (tr_name _ _ rfl rfl) (trP_some (tr_name _ _ rfl rfl)) (trP_none (b := true)))) (trT_and (trT_of (tr_cut (tr_name _ _ rfl rfl) (trP_some (tr_name _ _ rfl rfl)) (trP_none (b := true)))) (trT_and (trT_cmp (tr_idx (tr_name _ _ rfl rfl) (tr_name _ _ rfl rfl)) (tr_idx (tr_name _ _ rfl rfl) (tr_name _ _ rfl rfl)) act_eq) trT_and0))) (trSs_cons (trS_aug (tr_int _ _ _) act_iadd (by first | exact .inl rfl | exact .inr rfl)) trSs_nil)) (trSs_cons (trS_assign (tr_cut (tr_name _ _ rfl rfl) (trP_some (tr_name _ _ rfl rfl)) (trP_none (b := true))) (by first | exact .inl rfl | exact .inr rfl)) (trSs_cons (trS_assign (tr_cut (tr_name _ _ rfl rfl) (trP_some (tr_name _ _ rfl rfl)) (trP_none (b := true))) (by first | exact .inl rfl | exact .inr rfl)) (trSs_cons (trS_assign (tr_int _ _ _) (by first | exact .inl rfl | exact .inr rfl)) (trSs_cons (trS_while lim (trT_and (trT_of (tr_cut (tr_name _ _ rfl rfl) (trP_none (b := true)) (trP_some (tr_or (tr_name _ _ rfl rfl) (tr_bool1 (tr_none _ _)))))) (trT_and (trT_of (tr_cut (tr_name _ _ rfl rfl) (trP_none (b := true)) (trP_some (tr_or (tr_name _ _ rfl rfl) (tr_bool1 (tr_none _ _)))))) (trT_and (trT_cmp (tr_idx (tr_name _ _ rfl rfl) (tr_bin (tr_name _ _ rfl rfl) (tr_int _ _ _) act_sub)) (tr_idx (tr_name _ _ rfl rfl) (tr_bin (tr_name _ _ rfl rfl) (tr_int _ _ _) act_sub)) act_eq) trT_and0))) (trSs_cons (trS_aug (tr_int _ _ _) act_isub (by first | exact .inl rfl | exact .inr rfl)) trSs_nil)) (trSs_cons (trS_assign (tr_cut (tr_name _ _ rfl rfl) (trP_none (b := true)) (trP_some (tr_or (tr_name _ _ rfl rfl) (tr_bool1 (tr_none _ _))))) (by first | exact .inl rfl | exact .inr rfl)) (trSs_cons (trS_assign (tr_cut (tr_name _ _ rfl rfl) (trP_none (b := true)) (trP_some (tr_or (tr_name _ _ rfl rfl) (tr_bool1 (tr_none _ _))))) (by first | exact .inl rfl | exact .inr rfl)) (trSs_cons (trS_if (trT_or (trT_not (trT_of (tr_name _ _ rfl rfl))) (trT_or (trT_not (trT_of (tr_name _ _ rfl rfl))) trT_or0)) (trSs_cons (trS_ret (tr_bin (TrE.b (tr_glob _ _ _ _ rfl (h.g _ _ rfl) rfl rfl)) (tr_bin (tr_callB (tr_built _ _ _ _ rfl (h.gn _ rfl) (h.b _ _ rfl (by decide)) rfl rfl) (trEs_cons (tr_nameB _ _ rfl rfl) trEs_nil) act_len (plain_cons plain_nil)) (tr_callB (tr_built _ _ _ _ rfl (h.gn _ rfl) (h.b _ _ rfl (by decide)) rfl rfl) (trEs_cons (tr_nameB _ _ rfl rfl) trEs_nil) act_len (plain_cons plain_nil)) act_add) act_mul)) trSs_nil) trSs_nil) (trSs_cons (trS_if (trT_or (trT_cmp (tr_callB (tr_built _ _ _ _ rfl (h.gn _ rfl) (h.b _ _ rfl (by decide)) rfl rfl) (trEs_cons (tr_name _ _ rfl rfl) trEs_nil) act_len (plain_cons plain_nil)) (tr_glob _ _ _ _ rfl (h.g _ _ rfl) rfl rfl) act_gt) (trT_or (trT_cmp (tr_callB (tr_built _ _ _ _ rfl (h.gn _ rfl) (h.b _ _ rfl (by decide)) rfl rfl) (trEs_cons (tr_name _ _ rfl rfl) trEs_nil) act_len (plain_cons plain_nil)) (tr_glob _ _ _ _ rfl (h.g _ _ rfl) rfl rfl) act_gt) trT_or0)) (trSs_cons (trS_ret (tr_bin (tr_nameB _ _ rfl rfl) (TrE.b (tr_int _ _ _)) act_add)) trSs_nil) trSs_nil) (trSs_cons (trS_if (trT_cmp (tr_callB (tr_built _ _ _ _ rfl (h.gn _ rfl) (h.b _ _ rfl (by decide)) rfl rfl) (trEs_cons (tr_name _ _ rfl rfl) trEs_nil) act_len (plain_cons plain_nil)) (tr_callB (tr_built _ _ _ _ rfl (h.gn _ rfl) (h.b _ _ rfl (by decide)) rfl rfl) (trEs_cons (tr_name _ _ rfl rfl) trEs_nil) act_len (plain_cons plain_nil)) act_lt) (trSs_cons (trS_tup2 (trEs_cons (tr_name _ _ rfl rfl) (trEs_cons (tr_name _ _ rfl rfl) trEs_nil)) (by first | exact .inl rfl | exact .inr rfl) (by first | exact .inl rfl | exact .inr rfl) (by intro _; rfl) (swp_of rfl rfl rfl rfl (by decide) rfl rfl rfl)) trSs_nil) trSs_nil) (trSs_cons (trS_if (trT_cmp (tr_bin (tr_bin (tr_callB (tr_built _ _ _ _ rfl (h.gn _ rfl) (h.b _ _ rfl (by decide)) rfl rfl) (trEs_cons (tr_name _ _ rfl rfl) trEs_nil) act_len (plain_cons plain_nil)) (tr_callB (tr_built _ _ _ _ rfl (h.gn _ rfl) (h.b _ _ rfl (by decide)) rfl rfl) (trEs_cons (tr_name _ _ rfl rfl) trEs_nil) act_len (plain_cons plain_nil)) act_sub) (tr_glob _ _ _ _ rfl (h.g _ _ rfl) rfl rfl) act_mul) (tr_name _ _ rfl rfl) act_gt) (trSs_cons (trS_ret (tr_bin (tr_nameB _ _ rfl rfl) (TrE.b (tr_int _ _ _)) act_add)) trSs_nil) trSs_nil) (trSs_cons (trS_assignO (trF_range3 (tr_built _ _ _ _ rfl (h.gn _ rfl) (h.b _ _ rfl (by decide)) rfl rfl) (tr_built _ _ _ _ rfl (h.gn _ rfl) (h.b _ _ rfl (by decide)) rfl rfl) (trEs_cons (tr_glob _ _ _ _ rfl (h.g _ _ rfl) rfl rfl) (trEs_cons (tr_bin (tr_glob _ _ _ _ rfl (h.g _ _ rfl) rfl rfl) (tr_bin (tr_callB (tr_built _ _ _ _ rfl (h.gn _ rfl) (h.b _ _ rfl (by decide)) rfl rfl) (trEs_cons (tr_name _ _ rfl rfl) trEs_nil) act_len (plain_cons plain_nil)) (tr_int _ _ _) act_add) act_mul) (trEs_cons (tr_glob _ _ _ _ rfl (h.g _ _ rfl) rfl rfl) trEs_nil))) (plain_cons (plain_cons (plain_cons plain_nil))) (plain_cons plain_nil)) (by first | exact .inl rfl | exact .inr rfl)) (trSs_cons (trS_assign (tr_int _ _ _) (by first | exact .inl rfl | exact .inr rfl)) (trSs_cons (trS_for (trI_range (tr_built _ _ _ _ rfl (h.gn _ rfl) (h.b _ _ rfl (by decide)) rfl rfl) (trEs_cons (tr_callB (tr_built _ _ _ _ rfl (h.gn _ rfl) (h.b _ _ rfl (by decide)) rfl rfl) (trEs_cons (tr_name _ _ rfl rfl) trEs_nil) act_len (plain_cons plain_nil)) trEs_nil) (plain_cons plain_nil)) (trSs_cons (trS_assign (tr_idx (tr_name _ _ rfl rfl) (tr_name _ _ rfl rfl)) (by first | exact .inl rfl | exact .inr rfl)) (trSs_cons (trS_assign2 (tr_bin (tr_name _ _ rfl rfl) (tr_glob _ _ _ _ rfl (h.g _ _ rfl) rfl rfl) act_mul) (by first | exact .inl rfl | exact .inr rfl) (by first | exact .inl rfl | exact .inr rfl)) (trSs_cons (trS_assign (tr_int _ _ _) (by first | exact .inl rfl | exact .inr rfl)) (trSs_cons (trS_for (trI_range (tr_built _ _ _ _ rfl (h.gn _ rfl) (h.b _ _ rfl (by decide)) rfl rfl) (trEs_cons (tr_callB (tr_built _ _ _ _ rfl (h.gn _ rfl) (h.b _ _ rfl (by decide)) rfl rfl) (trEs_cons (tr_name _ _ rfl rfl) trEs_nil) act_len (plain_cons plain_nil)) trEs_nil) (plain_cons plain_nil)) (trSs_cons (trS_assign (tr_bin (tr_name _ _ rfl rfl) (tr_callF (tr_glob _ _ _ _ rfl (h.g _ _ rfl) rfl rfl) (trEs_cons (tr_name _ _ rfl rfl) (trEs_cons (tr_idx (tr_name _ _ rfl rfl) (tr_name _ _ rfl rfl)) trEs_nil)) (h.ft _ _ rfl) rfl h_substitution_cost (plain_cons (plain_cons plain_nil))) act_add) (by first | exact .inl rfl | exact .inr rfl)) (trSs_cons (trS_assign (TrB.flat (tr_idx (tr_nameB _ _ rfl rfl) (tr_nameB _ _ rfl rfl))) (by first | exact .inl rfl | exact .inr rfl)) (trSs_cons (trS_assign (tr_bin (tr_callB (tr_built _ _ _ _ rfl (h.gn _ rfl) (h.b _ _ rfl (by decide)) rfl rfl) (trEs_cons (tr_name _ _ rfl rfl) (trEs_cons (tr_name _ _ rfl rfl) trEs_nil)) act_min (plain_cons (plain_cons plain_nil))) (tr_glob _ _ _ _ rfl (h.g _ _ rfl) rfl rfl) act_add) (by first | exact .inl rfl | exact .inr rfl)) (trSs_cons (trS_assign (tr_callB (tr_built _ _ _ _ rfl (h.gn _ rfl) (h.b _ _ rfl (by decide)) rfl rfl) (trEs_cons (tr_name _ _ rfl rfl) (trEs_cons (tr_name _ _ rfl rfl) trEs_nil)) act_min (plain_cons (plain_cons plain_nil))) (by first | exact .inl rfl | exact .inr rfl)) (trSs_cons (trS_setItem (tr_name _ _ rfl rfl) (tr_name _ _ rfl rfl)) (trSs_cons (trS_if (trT_cmp (tr_name _ _ rfl rfl) (tr_name _ _ rfl rfl) act_lt) (trSs_cons (trS_assign (tr_name _ _ rfl rfl) (by first | exact .inl rfl | exact .inr rfl)) trSs_nil) trSs_nil) trSs_nil)))))) (by first | exact .inl rfl | exact .inr rfl)) (trSs_cons (trS_if (trT_cmp (tr_name _ _ rfl rfl) (tr_name _ _ rfl rfl) act_gt) (trSs_cons (trS_ret (tr_bin (tr_nameB _ _ rfl rfl) (TrE.b (tr_int _ _ _)) act_add)) trSs_nil) trSs_nil) trSs_nil))))) (by first | exact .inl rfl | exact .inr rfl)) (trSs_cons (trS_ret (tr_nameB _ _ rfl rfl)) trSs_nil)))))))))))))))))

def Tescape (h : CF (KK P) c)  {ta : Addr} {tb : Nat → Option Str} (htrans : ActL c 0 (fun vs => call (.builtin "str.translate") vs) (oTrans ta tb)) :=
  packT (n := 0) (c := c) (fa := 69) h ["pattern"] rfl rfl rfl rfl rfl rfl rfl (by decide) (fun vals hl => bnd1 vals hl (fun _ => rfl)) rfl
    (trSs_cons (trS_if (trT_of (tr_callB (tr_built _ _ _ _ rfl (h.gn _ rfl) (h.b _ _ rfl (by decide)) rfl rfl) (trEs_cons (tr_name _ _ rfl rfl) (trEs_cons (tr_built _ _ _ _ rfl (h.gn _ rfl) (h.b _ _ rfl (by decide)) rfl rfl) trEs_nil)) act_isStr (plain_cons (plain_cons plain_nil)))) (trSs_cons (trS_ret (tr_meth (tr_nameB _ _ rfl rfl) (trEs_cons (TrE.b (tr_glob _ _ _ _ rfl (h.g _ _ rfl) rfl rfl)) trEs_nil) gm_translate htrans (plain_cons plain_nil) (fun _ => rfl))) trSs_nil) (trSs_no _)) trSs_nil)

def T_translate (h : CF (KK P) c) {Fescape : List D → Option D} (hescape : ActL c 1 (fun vs => call (.ref 69) vs) Fescape) (hL : LamOk c 75 71) (hpat : ∀ h, Glo c h → IsPat h 50 patCode 1) (hfn0 : ∀ fa ob fd, c.FT fa = some ob → ob.data = .func fd → fd.scope = scT → fd.code = .ref 75) :=
  packT (n := 1) (c := c) (fa := 76) h ["pat", "STAR", "QUESTION_MARK"] rfl rfl rfl rfl rfl rfl rfl (by decide) (fun vals hl => bnd3 vals hl (fun _ _ _ => rfl)) rfl
    (trSs_cons (trS_assignO (trF_list trEs_nil) (by first | exact .inl rfl | exact .inr rfl)) (trSs_cons (trS_app (by first | exact .inl rfl | exact .inr rfl)) (trSs_cons (trS_tup2 (trEs_cons (tr_int _ _ _) (trEs_cons (tr_callB (tr_built _ _ _ _ rfl (h.gn _ rfl) (h.b _ _ rfl (by decide)) rfl rfl) (trEs_cons (tr_name _ _ rfl rfl) trEs_nil) act_len (plain_cons plain_nil)) trEs_nil)) (by first | exact .inl rfl | exact .inr rfl) (by first | exact .inl rfl | exact .inr rfl) (by intro _; rfl) (swp_of rfl rfl rfl rfl (by decide) rfl rfl rfl)) (trSs_cons (trS_while lim (trT_cmp (tr_name _ _ rfl rfl) (tr_name _ _ rfl rfl) act_lt) (trSs_cons (trS_assign (tr_idx (tr_name _ _ rfl rfl) (tr_name _ _ rfl rfl)) (by first | exact .inl rfl | exact .inr rfl)) (trSs_cons (trS_assign (tr_bin (tr_name _ _ rfl rfl) (tr_int _ _ _) act_add) (by first | exact .inl rfl | exact .inr rfl)) (trSs_cons (trS_if (trT_cmp (tr_name _ _ rfl rfl) (tr_str _ _ _) act_eq) (trSs_cons (trS_if (trT_or (trT_not (trT_of (tr_nameB _ _ rfl rfl))) (trT_or (trT_cmp (tr_idx (tr_nameB _ _ rfl rfl) (tr_un (TrE.b (tr_int _ _ _)) act_neg)) (tr_nameB _ _ rfl rfl) act_isNot) trT_or0)) (trSs_cons (trS_appCall (trEs_cons (tr_name _ _ rfl rfl) trEs_nil) (plain_cons plain_nil) (itr_of rfl)) trSs_nil) trSs_nil) trSs_nil) (trSs_cons (trS_if (trT_cmp (tr_name _ _ rfl rfl) (tr_str _ _ _) act_eq) (trSs_cons (trS_appCall (trEs_cons (tr_name _ _ rfl rfl) trEs_nil) (plain_cons plain_nil) (itr_of rfl)) trSs_nil) (trSs_cons (trS_if (trT_cmp (tr_name _ _ rfl rfl) (tr_str _ _ _) act_eq) (trSs_cons (trS_assign (tr_name _ _ rfl rfl) (by first | exact .inl rfl | exact .inr rfl)) (trSs_cons (trS_if (trT_and (trT_cmp (tr_name _ _ rfl rfl) (tr_name _ _ rfl rfl) act_lt) (trT_and (trT_cmp (tr_idx (tr_name _ _ rfl rfl) (tr_name _ _ rfl rfl)) (tr_str _ _ _) act_eq) trT_and0)) (trSs_cons (trS_assign (tr_bin (tr_name _ _ rfl rfl) (tr_int _ _ _) act_add) (by first | exact .inl rfl | exact .inr rfl)) trSs_nil) trSs_nil) (trSs_cons (trS_if (trT_and (trT_cmp (tr_name _ _ rfl rfl) (tr_name _ _ rfl rfl) act_lt) (trT_and (trT_cmp (tr_idx (tr_name _ _ rfl rfl) (tr_name _ _ rfl rfl)) (tr_str _ _ _) act_eq) trT_and0)) (trSs_cons (trS_assign (tr_bin (tr_name _ _ rfl rfl) (tr_int _ _ _) act_add) (by first | exact .inl rfl | exact .inr rfl)) trSs_nil) trSs_nil) (trSs_cons (trS_while lim (trT_and (trT_cmp (tr_name _ _ rfl rfl) (tr_name _ _ rfl rfl) act_lt) (trT_and (trT_cmp (tr_idx (tr_name _ _ rfl rfl) (tr_name _ _ rfl rfl)) (tr_str _ _ _) act_ne) trT_and0)) (trSs_cons (trS_assign (tr_bin (tr_name _ _ rfl rfl) (tr_int _ _ _) act_add) (by first | exact .inl rfl | exact .inr rfl)) trSs_nil)) (trSs_cons (trS_if (trT_cmp (tr_name _ _ rfl rfl) (tr_name _ _ rfl rfl) act_ge) (trSs_no _) (trSs_cons (trS_assign (tr_cut (tr_name _ _ rfl rfl) (trP_some (tr_name _ _ rfl rfl)) (trP_some (tr_name _ _ rfl rfl))) (by first | exact .inl rfl | exact .inr rfl)) (trSs_cons (trS_if (trT_cmp (tr_str _ _ _) (tr_name _ _ rfl rfl) act_notIn) (trSs_cons (trS_assign (tr_meth (tr_name _ _ rfl rfl) (trEs_cons (tr_str _ _ _) (trEs_cons (tr_str _ _ _) trEs_nil)) GM.replace act_repl (plain_cons (plain_cons plain_nil)) (fun _ => rfl)) (by first | exact .inl rfl | exact .inr rfl)) trSs_nil) (trSs_no _)) (trSs_cons (trS_lamSub (code := patCode) (g := 1) (ts := subTs) hL hpat hfn0 subTs_ok (tr_glob _ _ _ _ rfl (h.g _ _ rfl) rfl rfl) (tr_name _ _ rfl rfl) (by first | exact .inl rfl | exact .inr rfl) (fun _ => rfl) (fun _ _ => rfl) (fun _ => rfl) (plain_cons (plain_cons plain_nil)) (fun _ => rfl) (fun _ => rfl)) (trSs_cons (trS_assign (tr_bin (tr_name _ _ rfl rfl) (tr_int _ _ _) act_add) (by first | exact .inl rfl | exact .inr rfl)) (trSs_cons (trS_if (trT_not (trT_of (tr_name _ _ rfl rfl))) (trSs_no _) (trSs_cons (trS_if (trT_cmp (tr_name _ _ rfl rfl) (tr_str _ _ _) act_eq) (trSs_no _) (trSs_cons (trS_if (trT_cmp (tr_idx (tr_name _ _ rfl rfl) (tr_int _ _ _)) (tr_str _ _ _) act_eq) (trSs_no _) (trSs_cons (trS_if (trT_inTup (tr_idx (tr_name _ _ rfl rfl) (tr_int _ _ _))) (trSs_cons (trS_assign (tr_bin (tr_str _ _ _) (tr_name _ _ rfl rfl) act_add) (by first | exact .inl rfl | exact .inr rfl)) trSs_nil) trSs_nil) trSs_nil)) (trSs_cons (trS_appCall (trEs_cons (tr_fstr (trJ_cons (tr_str _ _ _) (trJ_cons (tr_fval (tr_name _ _ rfl rfl)) (trJ_cons (tr_str _ _ _) trJ_nil)))) trEs_nil) (plain_cons plain_nil) (itr_of rfl)) trSs_nil))) trSs_nil)) trSs_nil)))))) trSs_nil))))) (trSs_cons (trS_appCall (trEs_cons (tr_callF (tr_glob _ _ _ _ rfl (h.g _ _ rfl) rfl rfl) (trEs_cons (tr_name _ _ rfl rfl) trEs_nil) (h.ft _ _ rfl) rfl hescape (plain_cons plain_nil)) trEs_nil) (plain_cons plain_nil) (itr_of rfl)) trSs_nil)) trSs_nil)) trSs_nil)) trSs_nil)))) (trSs_cons (trS_assert (trT_cmp (tr_name _ _ rfl rfl) (tr_name _ _ rfl rfl) act_eq)) (trSs_cons (trS_ret (tr_nameB _ _ rfl rfl)) trSs_nil))))))

def T_join_translated_parts (h : CF (KK P) c)   :=
  packT (n := 0) (c := c) (fa := 83) h ["inp", "STAR"] rfl rfl rfl rfl rfl rfl rfl (by decide) (fun vals hl => bnd2 vals hl (fun _ _ => rfl)) rfl
    (trSs_cons (trS_assignO (trF_list trEs_nil) (by first | exact .inl rfl | exact .inr rfl)) (trSs_cons (trS_app (by first | exact .inl rfl | exact .inr rfl)) (trSs_cons (trS_tup2 (trEs_cons (tr_int _ _ _) (trEs_cons (tr_callB (tr_built _ _ _ _ rfl (h.gn _ rfl) (h.b _ _ rfl (by decide)) rfl rfl) (trEs_cons (tr_name _ _ rfl rfl) trEs_nil) act_len (plain_cons plain_nil)) trEs_nil)) (by first | exact .inl rfl | exact .inr rfl) (by first | exact .inl rfl | exact .inr rfl) (by intro _; rfl) (swp_of rfl rfl rfl rfl (by decide) rfl rfl rfl)) (trSs_cons (trS_while lim (trT_and (trT_cmp (tr_name _ _ rfl rfl) (tr_name _ _ rfl rfl) act_lt) (trT_and (trT_cmp (tr_idx (tr_name _ _ rfl rfl) (tr_name _ _ rfl rfl)) (tr_name _ _ rfl rfl) act_isNot) trT_and0)) (trSs_cons (trS_appCall (trEs_cons (tr_idx (tr_name _ _ rfl rfl) (tr_name _ _ rfl rfl)) trEs_nil) (plain_cons plain_nil) (itr_of rfl)) (trSs_cons (trS_aug (tr_int _ _ _) act_iadd (by first | exact .inl rfl | exact .inr rfl)) trSs_nil))) (trSs_cons (trS_while lim (trT_cmp (tr_name _ _ rfl rfl) (tr_name _ _ rfl rfl) act_lt) (trSs_cons (trS_assert (trT_cmp (tr_idx (tr_name _ _ rfl rfl) (tr_name _ _ rfl rfl)) (tr_name _ _ rfl rfl) act_is)) (trSs_cons (trS_aug (tr_int _ _ _) act_iadd (by first | exact .inl rfl | exact .inr rfl)) (trSs_cons (trS_if (trT_cmp (tr_name _ _ rfl rfl) (tr_name _ _ rfl rfl) act_eq) (trSs_cons (trS_appCall (trEs_cons (tr_str _ _ _) trEs_nil) (plain_cons plain_nil) (itr_of rfl)) (trSs_cons trS_brk trSs_nil)) trSs_nil) (trSs_cons (trS_assert (trT_cmp (tr_idx (tr_name _ _ rfl rfl) (tr_name _ _ rfl rfl)) (tr_name _ _ rfl rfl) act_isNot)) (trSs_cons (trS_assignO (trF_list trEs_nil) (by first | exact .inl rfl | exact .inr rfl)) (trSs_cons (trS_while lim (trT_and (trT_cmp (tr_name _ _ rfl rfl) (tr_name _ _ rfl rfl) act_lt) (trT_and (trT_cmp (tr_idx (tr_name _ _ rfl rfl) (tr_name _ _ rfl rfl)) (tr_name _ _ rfl rfl) act_isNot) trT_and0)) (trSs_cons (trS_append _ (trEs_cons (tr_idx (tr_name _ _ rfl rfl) (tr_name _ _ rfl rfl)) trEs_nil) (plain_cons plain_nil) (fun _ => rfl) (itr_of rfl)) (trSs_cons (trS_aug (tr_int _ _ _) act_iadd (by first | exact .inl rfl | exact .inr rfl)) trSs_nil))) (trSs_cons (trS_assign (TrB.flat (tr_meth (TrE.b (tr_str _ _ _)) (trEs_cons (tr_nameB _ _ rfl rfl) trEs_nil) GM.join act_join (plain_cons plain_nil) (fun _ => rfl))) (by first | exact .inl rfl | exact .inr rfl)) (trSs_cons (trS_if (trT_cmp (tr_name _ _ rfl rfl) (tr_name _ _ rfl rfl) act_eq) (trSs_no _) (trSs_cons (trS_appCall (trEs_cons (TrB.flat (tr_fstr (trJ_cons (TrE.b (tr_str _ _ _)) (trJ_cons (tr_fval (tr_nameB _ _ rfl rfl)) (trJ_cons (TrE.b (tr_str _ _ _)) trJ_nil))))) trEs_nil) (plain_cons plain_nil) (itr_of rfl)) trSs_nil)) trSs_nil))))))))) (trSs_cons (trS_assert (trT_cmp (tr_name _ _ rfl rfl) (tr_name _ _ rfl rfl) act_eq)) (trSs_cons (trS_assign (TrB.flat (tr_meth (TrE.b (tr_str _ _ _)) (trEs_cons (tr_nameB _ _ rfl rfl) trEs_nil) GM.join act_join (plain_cons plain_nil) (fun _ => rfl))) (by first | exact .inl rfl | exact .inr rfl)) (trSs_cons (trS_ret (tr_fstr (trJ_cons (TrE.b (tr_str _ _ _)) (trJ_cons (tr_fval (tr_nameB _ _ rfl rfl)) (trJ_cons (TrE.b (tr_str _ _ _)) trJ_nil))))) trSs_nil))))))))

def Ttranslate (h : CF (KK P) c) {F_translate : List D → Option D} (h_translate : ActL c 2 (fun vs => call (.ref 76) vs) F_translate) {F_join_translated_parts : List D → Option D} (h_join_translated_parts : ActL c 2 (fun vs => call (.ref 83) vs) F_join_translated_parts)  :=
  packT (n := 2) (c := c) (fa := 57) h ["pat"] rfl rfl rfl rfl rfl rfl rfl (by decide) (fun vals hl => bnd1 vals hl (fun _ => rfl)) rfl
    (trSs_obj (tr_built _ _ _ _ rfl (h.gn _ rfl) (h.b _ _ rfl (by decide)) rfl rfl) (trSs_cons (trS_assign (tr_callF (tr_glob _ _ _ _ rfl (h.g _ _ rfl) rfl rfl) (trEs_cons (tr_name _ _ rfl rfl) (trEs_cons (tr_name _ _ rfl rfl) (trEs_cons (tr_str _ _ _) trEs_nil))) (h.ft _ _ rfl) rfl h_translate (plain_cons (plain_cons (plain_cons plain_nil)))) (by first | exact .inl rfl | exact .inr rfl)) (trSs_cons (trS_ret (tr_callF (tr_glob _ _ _ _ rfl (h.g _ _ rfl) rfl rfl) (trEs_cons (tr_nameB _ _ rfl rfl) (trEs_cons (tr_nameB _ _ rfl rfl) trEs_nil)) (h.ft _ _ rfl) rfl h_join_translated_parts (plain_cons (plain_cons plain_nil)))) trSs_nil)) (by first | exact .inl rfl | exact .inr rfl))

def Treduce {P : Params} {c : Cx} {n : Nat} {fa : Addr} {ob : Obj} {fd : FuncData} {F : List D → Option D} (h : CF (KK P) c) (hob : c.FT fa = some ob) (hfd : ob.data = .func fd) (hF : ActL c n (fun vs => call (.ref fa) vs) F) :=
  packTD (n := n) (c := c) (fa := 92) h ["function", "sequence", "initial"] rfl rfl rfl rfl rfl rfl rfl (by decide) (fun s vals G hl => bndD3 vals G hl (h.ft 85 _ rfl) rfl rfl (fun _ _ _ => rfl) (fun _ _ _ => rfl)) rfl
    (trSs_reduce (ia := 84) hob hfd hF (tr_built _ _ _ _ rfl (h.gn _ rfl) (h.b _ _ rfl (by decide)) rfl rfl) (tr_glob _ _ _ _ rfl (h.g _ _ rfl) rfl rfl) (h.ft 84 _ rfl) rfl (by first | exact .inl rfl | exact .inr rfl) (by first | exact .inl rfl | exact .inr rfl) (by first | exact .inl rfl | exact .inr rfl))

def T_law_second (h : CF (KK P) c)   :=
  packT (n := 0) (c := c) (fa := 99) h ["numbers"] rfl rfl rfl rfl rfl rfl rfl (by decide) (fun vals hl => bnd1 vals hl (fun _ => rfl)) rfl
    (trSs_cons (trS_assign (tr_str _ _ _) (by first | exact .inl rfl | exact .inr rfl)) (trSs_cons (trS_for (trI_of (tr_name _ _ rfl rfl)) (trSs_cons (trS_assign (tr_list (trEs_cons (tr_idxS (tr_str _ _ _) (tr_bin (tr_name _ _ rfl rfl) (tr_int _ _ _) act_mod)) (trEs_cons (tr_idxS (tr_str _ _ _) (tr_bin (tr_name _ _ rfl rfl) (tr_int _ _ _) act_mod)) (trEs_cons (tr_str _ _ _) (trEs_cons (tr_idxS (tr_str _ _ _) (tr_bin (tr_bin (tr_name _ _ rfl rfl) (tr_int _ _ _) act_div) (tr_int _ _ _) act_mod)) trEs_nil))))) (by first | exact .inl rfl | exact .inr rfl)) (trSs_cons (trS_assign (tr_idx (tr_name _ _ rfl rfl) (tr_bin (tr_bin (tr_name _ _ rfl rfl) (tr_int _ _ _) act_div) (tr_int _ _ _) act_mod)) (by first | exact .inl rfl | exact .inr rfl)) (trSs_cons (trS_assign (tr_if (trT_cmp (tr_bin (tr_bin (tr_name _ _ rfl rfl) (tr_int _ _ _) act_div) (tr_int _ _ _) act_mod) (tr_int _ _ _) act_eq) (tr_bin (tr_name _ _ rfl rfl) (tr_name _ _ rfl rfl) act_add) (tr_bin (tr_name _ _ rfl rfl) (tr_name _ _ rfl rfl) act_add)) (by first | exact .inl rfl | exact .inr rfl)) trSs_nil))) (by first | exact .inl rfl | exact .inr rfl)) (trSs_cons (trS_ret (tr_nameB _ _ rfl rfl)) trSs_nil)))

def T_law_dearer (h : CF (KK P) c)   :=
  packT (n := 0) (c := c) (fa := 104) h ["rows", "sign"] rfl rfl rfl rfl rfl rfl rfl (by decide) (fun vals hl => bnd2 vals hl (fun _ _ => rfl)) rfl
    (trSs_cons (trS_assign (tr_if (trT_cmp (tr_name _ _ rfl rfl) (tr_str _ _ _) act_in) (tr_bin (tr_bin (tr_str _ _ _) (tr_name _ _ rfl rfl) act_add) (tr_str _ _ _) act_add) (tr_name _ _ rfl rfl)) (by first | exact .inl rfl | exact .inr rfl)) (trSs_cons (trS_assignO (trF_list (trEs_cons (tr_list (trEs_cons (tr_name _ _ rfl rfl) (trEs_cons (tr_int _ _ _) trEs_nil))) (trEs_cons (tr_list (trEs_cons (tr_str _ _ _) (trEs_cons (tr_int _ _ _) trEs_nil))) (trEs_cons (tr_list (trEs_cons (tr_str _ _ _) (trEs_cons (tr_int _ _ _) trEs_nil))) trEs_nil)))) (by first | exact .inl rfl | exact .inr rfl)) (trSs_cons (trS_if (trT_cmp (tr_name _ _ rfl rfl) (tr_str _ _ _) act_in) (trSs_cons (trS_append _ (trEs_cons (tr_list (trEs_cons (tr_if (trT_cmp (tr_name _ _ rfl rfl) (tr_str _ _ _) act_in) (tr_str _ _ _) (tr_str _ _ _)) (trEs_cons (tr_int _ _ _) trEs_nil))) trEs_nil) (plain_cons plain_nil) (fun _ => rfl) (itr_of rfl)) trSs_nil) trSs_nil) (trSs_freeze "items" (trSs_cons (trS_ret (trF_m (trF_comp2 ["items"] (trI_of (tr_name _ _ rfl rfl)) trTs_nil (trI_of (tr_name _ _ rfl rfl)) trTs_nil (tr_list (trEs_cons (tr_bin (tr_bin (tr_idx (tr_name _ _ rfl rfl) (tr_int _ _ _)) (tr_idx (tr_name _ _ rfl rfl) (tr_int _ _ _)) act_add) (tr_str _ _ _) act_add) (trEs_cons (tr_bin (tr_idx (tr_name _ _ rfl rfl) (tr_int _ _ _)) (tr_idx (tr_name _ _ rfl rfl) (tr_int _ _ _)) act_add) trEs_nil)))))) trSs_nil)))))

def T_law_fits (h : CF (KK P) c)   :=
  packT (n := 0) (c := c) (fa := 111) h ["part", "sign"] rfl rfl rfl rfl rfl rfl rfl (by decide) (fun vals hl => bnd2 vals hl (fun _ _ => rfl)) rfl
    (trSs_ifP (trTz_cmp (tr_cut (tr_name _ _ rfl rfl) (trP_none (b := true)) (trP_some (tr_int _ _ _))) act_eq) (trSsp_ret (tr_cmpP2 (tr_nameB _ _ rfl rfl) (tr_replP (tr_cut (tr_nameB _ _ rfl rfl) (trP_some (TrE.b (tr_int _ _ _))) (trP_some (tr_un (TrE.b (tr_int _ _ _)) act_neg))) (fun _ => rfl)) act_in)) (trSsp_ret (tr_orP (tr_cmp (tr_nameB _ _ rfl rfl) (TrE.b (tr_str _ _ _)) act_eq) (tr_bool1P (tr_cmpP (tr_replP (tr_nameB _ _ rfl rfl) (fun _ => rfl)) (tr_nameB _ _ rfl rfl) act_eq)))) ret_ends)

def T_law_takes (h : CF (KK P) c) {F_law_fits : List D → Option D} (h_law_fits : ActL c 1 (fun vs => call (.ref 111) vs) F_law_fits)  :=
  packT (n := 1) (c := c) (fa := 118) h ["text", "word"] rfl rfl rfl rfl rfl rfl rfl (by decide) (fun vals hl => bnd2 vals hl (fun _ _ => rfl)) rfl
    (trSs_cons (trS_assign (tr_meth (tr_cut (tr_name _ _ rfl rfl) (trP_some (tr_int _ _ _)) (trP_some (tr_un (tr_int _ _ _) act_neg))) (trEs_cons (tr_str _ _ _) trEs_nil) GM.split act_split (plain_cons plain_nil) (fun _ => rfl)) (by first | exact .inl rfl | exact .inr rfl)) (trSs_cons (trS_if (trT_or (trT_cmp (tr_cut (tr_name _ _ rfl rfl) (trP_none (b := true)) (trP_some (tr_int _ _ _))) (tr_str _ _ _) act_ne) (trT_or (trT_cmp (tr_cut (tr_name _ _ rfl rfl) (trP_some (tr_un (tr_int _ _ _) act_neg)) (trP_none (b := true))) (tr_str _ _ _) act_ne) (trT_or (trT_cmp (tr_idx (tr_name _ _ rfl rfl) (tr_int _ _ _)) (tr_str _ _ _) act_ne) trT_or0))) (trSs_cons (trS_ret (TrE.b (tr_bool _ _ _))) trSs_nil) trSs_nil) (trSs_cons (trS_assign (tr_int _ _ _) (by first | exact .inl rfl | exact .inr rfl)) (trSs_cons (trS_for (trI_of (tr_cut (tr_name _ _ rfl rfl) (trP_some (tr_int _ _ _)) (trP_none (b := true)))) (trSs_cons (trS_while lim (trT_and (trT_cmp (tr_name _ _ rfl rfl) (tr_callB (tr_built _ _ _ _ rfl (h.gn _ rfl) (h.b _ _ rfl (by decide)) rfl rfl) (trEs_cons (tr_name _ _ rfl rfl) trEs_nil) act_len (plain_cons plain_nil)) act_lt) (trT_and (trT_not (trT_of (tr_callF (tr_glob _ _ _ _ rfl (h.g _ _ rfl) rfl rfl) (trEs_cons (tr_cut (tr_name _ _ rfl rfl) (trP_none (b := true)) (trP_some (tr_un (tr_int _ _ _) act_neg))) (trEs_cons (tr_idx (tr_name _ _ rfl rfl) (tr_name _ _ rfl rfl)) trEs_nil)) (h.ft _ _ rfl) rfl h_law_fits (plain_cons (plain_cons plain_nil))))) trT_and0)) (trSs_cons (trS_aug (tr_int _ _ _) act_iadd (by first | exact .inl rfl | exact .inr rfl)) trSs_nil)) (trSs_cons (trS_if (trT_or (trT_cmp (tr_name _ _ rfl rfl) (tr_callB (tr_built _ _ _ _ rfl (h.gn _ rfl) (h.b _ _ rfl (by decide)) rfl rfl) (trEs_cons (tr_name _ _ rfl rfl) trEs_nil) act_len (plain_cons plain_nil)) act_eq) (trT_or (trT_cmp (tr_cut (tr_name _ _ rfl rfl) (trP_some (tr_un (tr_int _ _ _) act_neg)) (trP_none (b := true))) (tr_str _ _ _) act_ne) trT_or0)) (trSs_cons (trS_ret (TrE.b (tr_bool _ _ _))) trSs_nil) trSs_nil) (trSs_cons (trS_aug (tr_int _ _ _) act_iadd (by first | exact .inl rfl | exact .inr rfl)) trSs_nil))) (by first | exact .inl rfl | exact .inr rfl)) (trSs_cons (trS_ret (TrE.b (tr_bool _ _ _))) trSs_nil)))))

end
end Mine
end SF1

/-! M1 -/
noncomputable section SM1
namespace Mine
/-! ### loops by what stays true -/
theorem while_inv {α : Type} {ft : Rho → Option Bool} {fb : Rho → Option (Rho × Fl)} (Inv : α → Rho → Prop) (cond : α → Bool) (step res : α → α) (m : α → Nat)
    (hft : ∀ x r, Inv x r → ft r = some (cond x)) (hfb : ∀ x r, Inv x r → cond x = true → ∃ r', fb r = some (r', .next) ∧ Inv (step x) r')
    (hm : ∀ x, cond x = true → m (step x) < m x) (h1 : ∀ x, cond x = true → res x = res (step x)) (h0 : ∀ x, cond x = false → res x = x) :
    ∀ (N : Nat) (x : α) (r : Rho), m x < N → Inv x r → ∃ r', whileF ft fb N r = some (r', .next) ∧ Inv (res x) r'
  | 0, _, _, h, _ => absurd h (Nat.not_lt_zero _)
  | N + 1, x, r, h, I => by
    unfold whileF
    rw [hft x r I]
    cases hc : cond x with
    | false =>
      rw [h0 x hc]
      exact ⟨r, rfl, I⟩
    | true =>
      obtain ⟨r', e, I'⟩ := hfb x r I hc
      obtain ⟨r2, e2, I2⟩ := while_inv Inv cond step res m hft hfb hm h1 h0 N (step x) r' (by have := hm x hc; omega) I'
      refine ⟨r2, ?_, (h1 x hc) ▸ I2⟩
      simp only [Option.bind_some, e]
      exact e2
def foldE {α β : Type} (step : α → β → α ⊕ D) : α → List β → α ⊕ D
  | x, [] => .inl x
  | x, d :: ds => match step x d with
    | .inl y => foldE step y ds
    | .inr v => .inr v
def Ends {α : Type} (Inv : α → Rho → Prop) (o : Option (Rho × Fl)) : α ⊕ D → Prop
  | .inl y => ∃ r', o = some (r', .next) ∧ Inv y r'
  | .inr v => ∃ r', o = some (r', .ret v)
theorem for_inv {α β : Type} {v : Str} {fb : Rho → Option (Rho × Fl)} (Inv : α → Rho → Prop) (enc : β → D) (ok : β → Prop) (step : α → β → α ⊕ D)
    (hfb : ∀ x d r, Inv x r → ok d → Ends Inv (fb ((r.kill v).put v (.sh (enc d)))) (step x d)) :
    ∀ (ds : List β) (x : α) (r : Rho), (∀ d ∈ ds, ok d) → Inv x r → Ends Inv (forF v fb (ds.map enc) r) (foldE step x ds)
  | [], x, r, _, I => ⟨r, rfl, I⟩
  | d :: ds, x, r, ho, I => by
    have := hfb x d r I (ho d List.mem_cons_self)
    rw [List.map_cons]
    unfold forF foldE
    cases hs : step x d with
    | inl y =>
      rw [hs] at this
      obtain ⟨r', e, I'⟩ := this
      rw [e]
      exact for_inv Inv enc ok step hfb ds y r' (fun d hd => ho d (List.mem_cons_of_mem _ hd)) I'
    | inr u =>
      rw [hs] at this
      obtain ⟨r', e⟩ := this
      rw [e]
      exact ⟨r', rfl⟩
theorem seqF_next {f g : Rho → Option (Rho × Fl)} {r r1 : Rho} (h : f r = some (r1, .next)) : seqF f g r = g r1 := by
  unfold seqF
  rw [h]
  rfl
theorem seqF_ret {f g : Rho → Option (Rho × Fl)} {r r1 : Rho} {d : D} (h : f r = some (r1, .ret d)) : seqF f g r = some (r1, .ret d) := by
  unfold seqF
  rw [h]
  rfl
theorem get_here (x : Str) (e : Ent) (r : Rho) : Rho.get ((x, e) :: r) x = some e := by
  unfold Rho.get
  rw [List.lookup_cons]
  simp
theorem get_there {x y : Str} (e : Ent) (r : Rho) (h : y ≠ x) : Rho.get ((x, e) :: r) y = Rho.get r y := by
  unfold Rho.get
  rw [List.lookup_cons, beq_eq_false_iff_ne.mpr h]

theorem oEq_str (x y : Str) : oEq (.str x) (.str y) = some (.bool (x == y)) := rfl
theorem oEq_int (x y : Int) : oEq (.int x) (.int y) = some (.bool (x == y)) := rfl
/-! ### the cost of a change -/
def cost (x y : Str) : Int := if x = y then 0 else if Txt.lower x = Txt.lower y then 1 else 2
def F38 : List D → Option D
  | [.str x, .str y] => if x.length ≤ lim ∧ y.length ≤ lim then some (.int (cost x y)) else none
  | _ => none
theorem sub_ok {P : Params} {c : Cx} (h : CF (KK P) c) : ActL c 1 (fun vs => call (.ref 38) vs) F38 := (T_substitution_cost h).2 F38 fun ds d hF => by
  unfold F38 at hF
  split at hF <;> try (cases hF; done)
  rename_i x y
  split at hF <;> try (cases hF; done)
  rename_i hl
  cases hF
  refine ⟨rfl, ?_⟩
  unfold T_substitution_cost packT cost
  dsimp only
  by_cases h1 : x = y
  · simp [seqF, get_here, get_there (x := "ch_a") (y := "ch_b") _ _ (by decide), oEq_str, asB, h1]
  · by_cases h2 : Txt.lower x = Txt.lower y
    · simp [seqF, get_here, get_there (x := "ch_a") (y := "ch_b") _ _ (by decide), oEq_str, asB, oLower, hl.1, hl.2, h1, h2]
    · simp [seqF, get_here, get_there (x := "ch_a") (y := "ch_b") _ _ (by decide), oEq_str, asB, oLower, hl.1, hl.2, h1, h2]
end Mine
end SM1

/-! M2 -/
noncomputable section SM2
namespace Mine
/-! ### texts by their lists -/
def T (l : List Nat) : Str := ⟨l.toArray⟩
theorem T_cps (x : Str) : T x.cps.toList = x := by cases x; simp [T]
theorem T_len (l : List Nat) : (T l).length = l.length := by
  show (l.toArray).size = _
  simp
theorem T_inj {l m : List Nat} : T l = T m ↔ l = m := by
  unfold T
  constructor
  · intro h
    injection h with h
    exact List.toArray_inj h
  · intro h; rw [h]
theorem clip_pos (n : Nat) (i : Nat) : clipAt n (i : Int) = min i n := by
  unfold clipAt; omega
theorem clip_neg (n : Nat) (i : Nat) (h : 0 < i) : clipAt n (-(i : Int)) = n - i := by
  unfold clipAt; omega
theorem cut_from (l : List Nat) (i : Nat) : cutS (T l) (some (i : Int)) none = T (l.drop i) := by
  unfold cutS cutL T
  simp only [Option.elim, clip_pos]
  rw [List.take_of_length_le (by rw [List.length_drop]; exact Nat.le_refl _)]
  simp only [Str.mk.injEq]
  by_cases h : i ≤ l.length
  · rw [Nat.min_eq_left h]
  · rw [Nat.min_eq_right (by omega), List.drop_of_length_le (Nat.le_refl _), List.drop_of_length_le (by omega)]
theorem cut_all (l : List Nat) : cutS (T l) none none = T l := by
  unfold cutS cutL T
  simp only [Option.elim, List.drop_zero, Nat.sub_zero]
  rw [List.take_of_length_le (by simp)]
theorem cut_to_neg (l : List Nat) (i : Nat) (h : 0 < i) : cutS (T l) none (some (-(i : Int))) = T (l.take (l.length - i)) := by
  unfold cutS cutL T
  simp only [Option.elim, List.drop_zero, Nat.sub_zero, clip_neg _ _ h]
theorem cut_to (l : List Nat) (i : Nat) : cutS (T l) none (some (i : Int)) = T (l.take i) := by
  unfold cutS cutL T
  simp only [Option.elim, List.drop_zero, Nat.sub_zero, clip_pos, Str.mk.injEq]
  by_cases h : i ≤ l.length
  · rw [Nat.min_eq_left h]
  · rw [Nat.min_eq_right (by omega), List.take_of_length_le (Nat.le_refl _), List.take_of_length_le (by omega)]
theorem idx_pos (l : List Nat) (i : Nat) (x : Nat) (h : l[i]? = some x) (hl : l.length ≤ lim) : oIdx (.str (T l)) (.int (i : Int)) = some (.str (T [x])) := by
  have hlim : lim = 1000000 := lim_eq
  have hbig : big = 2 ^ 60 := big_eq
  have hi : i < l.length := (List.getElem?_eq_some_iff.mp h).1
  unfold oIdx
  dsimp only
  rw [if_pos (by omega), T_len]
  have : seqIndex? (i : Int) l.length = some i := by
    have e : ¬ ((i : Int) < 0) := by omega
    unfold seqIndex?
    simp only [e, if_false]
    rw [if_pos (by simp; omega)]
    simp
  rw [this]
  show Option.map _ ((T l).cps[i]?) = _
  unfold T
  simp [h]
theorem idx_neg (l : List Nat) (i : Nat) (x : Nat) (h : l.reverse[i]? = some x) (hl : l.length ≤ lim) : oIdx (.str (T l)) (.int (-(i : Int) - 1)) = some (.str (T [x])) := by
  have hlim : lim = 1000000 := lim_eq
  have hbig : big = 2 ^ 60 := big_eq
  have hi : i < l.length := by simpa using (List.getElem?_eq_some_iff.mp h).1
  unfold oIdx
  dsimp only
  rw [if_pos (by omega), T_len]
  have : seqIndex? (-(i : Int) - 1) l.length = some (l.length - 1 - i) := by
    have e : -(i : Int) - 1 < 0 := by omega
    unfold seqIndex?
    simp only [e, if_true]
    rw [if_pos (by simp; omega)]
    congr 1
    omega
  rw [this]
  show Option.map _ ((T l).cps[l.length - 1 - i]?) = _
  unfold T
  rw [List.getElem?_reverse hi] at h
  simp [h]
theorem truth_T (l : List Nat) (hl : l.length ≤ lim) : oTruth (.str (T l)) = some (!l.isEmpty) := by
  unfold oTruth
  dsimp only
  rw [T_len, if_pos hl]
  cases l <;> simp
  omega
theorem cut_ok (l : List Nat) (lo hi : Option Int) (hl : l.length ≤ lim) : oCut (.str (T l)) lo hi = some (.str (cutS (T l) lo hi)) := by
  unfold oCut
  dsimp only
  rw [T_len, if_pos hl]

/-- how far two lists agree -/
def lcp : List Nat → List Nat → Nat
  | x :: xs, y :: ys => if x = y then lcp xs ys + 1 else 0
  | _, _ => 0
def agree (a b : List Nat) (i : Nat) : Bool := match a[i]?, b[i]? with
  | some x, some y => x == y
  | _, _ => false
theorem lcp_step (a b : List Nat) (i : Nat) : lcp (a.drop i) (b.drop i) = if agree a b i then lcp (a.drop (i + 1)) (b.drop (i + 1)) + 1 else 0 := by
  unfold agree
  by_cases ha : i < a.length
  · by_cases hb : i < b.length
    · rw [List.drop_eq_getElem_cons ha, List.drop_eq_getElem_cons hb, List.getElem?_eq_getElem ha, List.getElem?_eq_getElem hb]
      conv => lhs; unfold lcp
      by_cases h : a[i] = b[i]
      · simp [h]
      · simp [h]
    · rw [List.drop_of_length_le (l := b) (by omega), List.getElem?_eq_none (l := b) (by omega)]
      cases a[i]? <;> simp [lcp]
  · rw [List.drop_of_length_le (l := a) (by omega), List.getElem?_eq_none (l := a) (by omega)]
    simp [lcp]
theorem get_kp_eq (r : Rho) (x : Str) (e : Ent) : ((r.kill x).put x e).get x = some e := by rw [get_kp, if_pos rfl]
theorem get_kp_ne (r : Rho) {x y : Str} (e : Ent) (h : y ≠ x) : ((r.kill x).put x e).get y = (r.get y).map (Ent.kill x) := by rw [get_kp, if_neg h]

/-- what a while over a common start keeps -/
structure PreI (a b : List Nat) (k : Int) (i : Nat) (r : Rho) : Prop where
  ga : r.get "a" = some (.sh (.str (T a)))
  gb : r.get "b" = some (.sh (.str (T b)))
  gk : r.get "max_cost" = some (.sh (.int k))
  gp : r.get "pre" = some (.sh (.int (i : Int)))
structure PostI (a b : List Nat) (k : Int) (i : Nat) (r : Rho) : Prop where
  ga : r.get "a" = some (.sh (.str (T a)))
  gb : r.get "b" = some (.sh (.str (T b)))
  gk : r.get "max_cost" = some (.sh (.int k))
  gp : r.get "post" = some (.sh (.int (-(i : Int))))
end Mine
end SM2

/-! M3 -/
noncomputable section SM3
namespace Mine
def Gives (o : Option (Rho × Fl)) (d : D) : Prop := ∃ r', o = some (r', .ret d)
theorem seq_step {f g : Rho → Option (Rho × Fl)} {r : Rho} {d : D} (J : Rho → Prop) (h1 : ∃ r1, f r = some (r1, .next) ∧ J r1) (h2 : ∀ r1, J r1 → Gives (g r1) d) : Gives (seqF f g r) d := by
  obtain ⟨r1, e, j⟩ := h1
  rw [Gives, seqF_next e]
  exact h2 r1 j
theorem seq_gives {f g : Rho → Option (Rho × Fl)} {r : Rho} {d : D} (h1 : Gives (f r) d) : Gives (seqF f g r) d := by
  obtain ⟨r1, e⟩ := h1
  exact ⟨r1, seqF_ret e⟩

def stp (a : List Nat) (bc : Nat) (st : List Int × Int × Int × Int) (i : Nat) : List Int × Int × Int × Int :=
  let sub := st.2.1 + cost (T [bc]) (T [a.getD i 0])
  let d := st.1.getD i 0
  let ins := (if d < st.2.2.1 then d else st.2.2.1) + 2
  let res := if sub < ins then sub else ins
  (st.1.set i res, d, res, if res < st.2.2.2 then res else st.2.2.2)
def ostp (a b : List Nat) (k : Int) (st : List Int × Int) (i : Nat) : (List Int × Int) ⊕ D :=
  let t := (List.range a.length).foldl (stp a (b.getD i 0)) (st.1, (i : Int) * 2, (i : Int) * 2, 9223372036854775807)
  if k < t.2.2.2 then .inr (.int (k + 1)) else .inl (t.1, t.2.2.1)
def levC (a b : List Nat) (k : Int) : Int :=
  match foldE (ostp a b k) ((List.range a.length).map fun (i : Nat) => 2 + (i : Int) * 2, 0) (List.range b.length) with
  | .inl st => st.2
  | .inr (.int v) => v
  | .inr _ => 0
def levB (a b : List Nat) (k : Int) : Int :=
  if a = [] ∨ b = [] then 2 * ((a.length : Int) + b.length)
  else if 40 < a.length ∨ 40 < b.length then k + 1
  else
    let p := if b.length < a.length then (b, a) else (a, b)
    if k < ((p.2.length : Int) - p.1.length) * 2 then k + 1 else levC p.1 p.2 k
def levS (a b : List Nat) : List Nat × List Nat :=
  let p := lcp a b
  let a1 := a.drop p
  let b1 := b.drop p
  let q := lcp a1.reverse b1.reverse
  (a1.take (a1.length - q), b1.take (b1.length - q))
def lev (a b : List Nat) (k : Int) : Int := if a = b then 0 else levB (levS a b).1 (levS a b).2 k

structure InI (a b : List Nat) (k : Int) (bc : Nat) (st : List Int × Int × Int × Int) (r : Rho) : Prop where
  ga : r.get "a" = some (.sh (.str (T a)))
  gb : r.get "b" = some (.sh (.str (T b)))
  gk : r.get "max_cost" = some (.sh (.int k))
  gc : r.get "bchar" = some (.sh (.str (T [bc])))
  grow : r.get "row" = some (.own (st.1.map .int))
  gdist : r.get "distance" = some (.sh (.int st.2.1))
  gres : r.get "result" = some (.sh (.int st.2.2.1))
  gmn : r.get "minimum" = some (.sh (.int st.2.2.2))
  len : st.1.length = a.length
structure OutI (a b : List Nat) (k : Int) (st : List Int × Int) (r : Rho) : Prop where
  ga : r.get "a" = some (.sh (.str (T a)))
  gb : r.get "b" = some (.sh (.str (T b)))
  gk : r.get "max_cost" = some (.sh (.int k))
  grow : r.get "row" = some (.own (st.1.map .int))
  gres : r.get "result" = some (.sh (.int st.2))
  len : st.1.length = a.length
theorem own_idx (l : List Int) (i : Nat) (hi : i < l.length) (hl : l.length ≤ lim) : oIdx (.list (l.map .int)) (.int (i : Int)) = some (.int (l.getD i 0)) := by
  unfold oIdx
  dsimp only
  rw [List.length_map, if_pos hl]
  have e : ¬ ((i : Int) < 0) := by omega
  have : seqIndex? (i : Int) l.length = some i := by
    unfold seqIndex?
    simp only [e, if_false]
    rw [if_pos (by simp; omega)]
    simp
  rw [this]
  simp [hi]
theorem F38_one (x y : Nat) : F38 [.str (T [x]), .str (T [y])] = some (.int (cost (T [x]) (T [y]))) := by
  have hl : lim = 1000000 := lim_eq
  unfold F38
  dsimp only
  rw [if_pos (by rw [T_len, T_len]; simp [hl])]
theorem idx_a (l : List Nat) (i : Nat) (hi : i < l.length) (hl : l.length ≤ lim) : oIdx (.str (T l)) (.int (i : Int)) = some (.str (T [l.getD i 0])) :=
  idx_pos l i _ (by rw [List.getElem?_eq_getElem hi]; simp [hi]) hl
theorem kill_sh (x : Str) (d : D) : Ent.kill x (.sh d) = .sh d := rfl
theorem kill_own (x : Str) (d : List D) : Ent.kill x (.own d) = .own d := rfl

theorem len_T (l : List Nat) (hl : l.length ≤ lim) : oLen [.str (T l)] = some (.int (l.length : Int)) := by
  unfold oLen
  dsimp only
  rw [T_len, if_pos hl]
theorem post_cut (l : List Nat) (j : Nat) (hl : l.length ≤ lim) : ((((oTruth (.int (-(j : Int)))).bind fun t => if t = true then some (D.int (-(j : Int))) else some D.none).bind asPart).bind fun u => oCut (.str (T l)) none u) = some (.str (T (l.take (l.length - j)))) := by
  unfold oTruth
  dsimp only
  by_cases h : j = 0
  · subst h
    simp only [Int.ofNat_eq_natCast, Int.natCast_zero, Int.neg_zero, bne_self_eq_false, Option.bind_some, Bool.false_eq_true, if_false, asPart, cut_ok _ _ _ hl, cut_all, Nat.sub_zero, List.take_length]
  · have : (-(j : Int) != 0) = true := by rw [bne_iff_ne]; omega
    simp only [this, Option.bind_some, if_true, asPart, cut_ok _ _ _ hl, cut_to_neg _ _ (Nat.pos_of_ne_zero h)]
theorem mul_small (a b : Int) (h : -1000000 < a ∧ a < 1000000) : oMul (.int a) (.int b) = some (.int (a * b)) := by
  have := big_eq
  unfold oMul
  dsimp only
  rw [if_pos (by omega)]
theorem range_small (m : Nat) (h : m < 1000000) : oRange (.int (m : Int)) = some ((List.range m).map fun (i : Nat) => .int (0 + (i : Int))) := by
  have := big_eq
  unfold oRange
  dsimp only
  rw [if_pos (by omega)]
  rfl
theorem row_small (m : Nat) (h0 : 0 < m) (h : m ≤ 40) : oRange3 [.int 2, .int (2 * ((m : Int) + 1)), .int 2] = some (((List.range m).map fun (i : Nat) => 2 + (i : Int) * 2).map .int) := by
  have e : Builtin.Range.rangeSize 2 (2 * ((m : Int) + 1)) 2 = m := by
    unfold Builtin.Range.rangeSize
    rw [if_pos (by omega), if_pos (by omega)]
    omega
  have hlim := lim_eq
  unfold oRange3
  dsimp only
  rw [e, if_pos (by omega)]
  unfold rangeD3
  rw [List.map_map]
  simp
theorem levS_len (a b : List Nat) : (levS a b).1.length ≤ a.length ∧ (levS a b).2.length ≤ b.length := by
  unfold levS
  dsimp only
  rw [List.length_take, List.length_take, List.length_drop, List.length_drop]
  omega

theorem seq_for {α : Type} {f g : Rho → Option (Rho × Fl)} {r : Rho} {d : D} (J : α → Rho → Prop) (o : α ⊕ D) (h1 : Ends J (f r) o) (h2 : ∀ y r1, o = .inl y → J y r1 → Gives (g r1) d) (h3 : ∀ v, o = .inr v → v = d) : Gives (seqF f g r) d := by
  cases o with
  | inl y =>
    obtain ⟨r1, e, j⟩ := h1
    rw [Gives, seqF_next e]
    exact h2 y r1 rfl j
  | inr v =>
    obtain ⟨r1, e⟩ := h1
    rw [← h3 v rfl]
    exact ⟨r1, seqF_ret e⟩
theorem ends_step {α : Type} {f g : Rho → Option (Rho × Fl)} {r : Rho} {K : α → Rho → Prop} {o : α ⊕ D} (J : Rho → Prop) (h1 : ∃ r1, f r = some (r1, .next) ∧ J r1) (h2 : ∀ r1, J r1 → Ends K (g r1) o) : Ends K (seqF f g r) o := by
  obtain ⟨r1, e, j⟩ := h1
  rw [seqF_next e]
  exact h2 r1 j
theorem ends_for {α β : Type} {f g : Rho → Option (Rho × Fl)} {r : Rho} {K : β → Rho → Prop} {o : β ⊕ D} (J : α → Rho → Prop) (x : α) (h1 : Ends J (f r) (.inl x)) (h2 : ∀ r1, J x r1 → Ends K (g r1) o) : Ends K (seqF f g r) o :=
  ends_step (J x) h1 h2
theorem foldE_inl {α β : Type} (s : α → β → α) : ∀ (l : List β) (x : α), foldE (fun a b => Sum.inl (s a b)) x l = .inl (l.foldl s x)
  | [], _ => rfl
  | b :: l, x => by
    unfold foldE
    exact foldE_inl s l (s x b)
theorem oMin_two (a b : Int) : oMin [.int a, .int b] = some (.int (if b < a then b else a)) := rfl
structure Mid1 (a b : List Nat) (k : Int) (bc : Nat) (row : List Int) (i : Nat) (r : Rho) : Prop where
  ga : r.get "a" = some (.sh (.str (T a)))
  gb : r.get "b" = some (.sh (.str (T b)))
  gk : r.get "max_cost" = some (.sh (.int k))
  gc : r.get "bchar" = some (.sh (.str (T [bc])))
  grow : r.get "row" = some (.own (row.map .int))
  gi : r.get "bindex" = some (.sh (.int (i : Int)))
  len : row.length = a.length

structure W (a b : List Nat) (k : Int) (bc i : Nat) (row : List Int) (mn dist res : Int) (r : Rho) : Prop where
  ga : r.get "a" = some (.sh (.str (T a)))
  gb : r.get "b" = some (.sh (.str (T b)))
  gk : r.get "max_cost" = some (.sh (.int k))
  gc : r.get "bchar" = some (.sh (.str (T [bc])))
  gi : r.get "index" = some (.sh (.int (i : Int)))
  grow : r.get "row" = some (.own (row.map .int))
  gmn : r.get "minimum" = some (.sh (.int mn))
  gdist : r.get "distance" = some (.sh (.int dist))
  gres : r.get "result" = some (.sh (.int res))
  len : row.length = a.length

theorem lev_gives {P : Params} {c : Cx} (h : CF (KK P) c) (hs : ActL c 1 (fun vs => call (.ref 38) vs) F38) (a b : List Nat) (k : Int) (r0 : Rho) (g1 : r0.get "a" = some (.sh (.str (T a)))) (g2 : r0.get "b" = some (.sh (.str (T b))))
    (g3 : r0.get "max_cost" = some (.sh (.int k))) (ha : a.length ≤ 60) (hb : b.length ≤ 60) : Gives ((T_levenshtein_distance h hs).1 r0) (.int (lev a b k)) := by
  have hlim : lim = 1000000 := lim_eq
  unfold T_levenshtein_distance packT
  dsimp only
  by_cases hab : a = b
  · subst hab
    have : lev a a k = 0 := if_pos rfl
    rw [this]
    refine seq_gives ⟨r0, ?_⟩
    simp [g1, g2, oEq_str, asB, seqF]
  refine seq_step (fun r1 => r1 = r0) ⟨r0, by simp [g1, g2, oEq_str, asB, T_inj, hab], rfl⟩ fun r1 e => ?_
  subst e
  refine seq_step (PreI a b k 0) ⟨_, rfl, ?_⟩ fun r1 I1 => ?_
  · constructor <;> simp (config := {decide := true}) only [get_kp, if_true, if_false, g1, g2, g3, Option.map_some, kill_sh] <;> rfl
  have la : a.length ≤ lim := by omega
  have lb : b.length ≤ lim := by omega
  refine seq_step (PreI a b k (0 + lcp (a.drop 0) (b.drop 0))) (while_inv (PreI a b k) (agree a b) (· + 1) (fun i => i + lcp (a.drop i) (b.drop i)) (fun i => a.length - i) (fun x r I => ?_) (fun x r I hc => ?_) (fun x hc => ?_) (fun x hc => ?_) (fun x hc => ?_) lim 0 r1 (by omega) I1) fun r2 I2 => ?_
  · have ta := truth_T (a.drop x) (by rw [List.length_drop]; omega)
    have tb := truth_T (b.drop x) (by rw [List.length_drop]; omega)
    simp only [I.ga, I.gb, I.gp, Option.bind_some, asPart, cut_ok _ _ _ la, cut_ok _ _ _ lb, cut_from, ta, tb]
    unfold agree
    by_cases xa : x < a.length
    · have e1 : (a.drop x).isEmpty = false := by rw [List.isEmpty_eq_false_iff]; simp; omega
      by_cases xb : x < b.length
      · have e2 : (b.drop x).isEmpty = false := by rw [List.isEmpty_eq_false_iff]; simp; omega
        simp only [e1, e2, Bool.not_false, if_true, idx_a _ _ xa la, idx_a _ _ xb lb, Option.bind_some, oEq_str, asB]
        rw [List.getElem?_eq_getElem xa, List.getElem?_eq_getElem xb]
        have : (T [a.getD x 0] == T [b.getD x 0]) = (a[x] == b[x]) := by
          rw [Bool.eq_iff_iff, beq_iff_eq, beq_iff_eq, T_inj]
          simp [xa, xb]
        rw [this]
        show _ = some (a[x] == b[x])
        cases (a[x] == b[x]) <;> rfl
      · have e2 : (b.drop x).isEmpty = true := by rw [List.isEmpty_iff]; simp; omega
        simp only [e1, e2, Bool.not_false, Bool.not_true, if_true, Bool.false_eq_true, if_false, Option.bind_some]
        rw [List.getElem?_eq_none (l := b) (by omega)]
        cases a[x]? <;> rfl
    · have e1 : (a.drop x).isEmpty = true := by rw [List.isEmpty_iff]; simp; omega
      simp only [e1, Bool.not_true, Bool.false_eq_true, if_false, Option.bind_some]
      rw [List.getElem?_eq_none (l := a) (by omega)]
  · refine ⟨_, by simp only [seqF, I.gp, Option.bind_some, oAdd]; rfl, ?_⟩
    constructor <;> simp (config := {decide := true}) only [get_kp, if_true, if_false, I.ga, I.gb, I.gk, Option.map_some, kill_sh] <;> rfl
  · have : x < a.length := by
      unfold agree at hc
      cases hx : a[x]? with
      | none => rw [hx] at hc; cases hc
      | some y => exact (List.getElem?_eq_some_iff.mp hx).1
    omega
  · have := lcp_step a b x
    rw [hc] at this
    simp only [if_true] at this
    show x + _ = x + 1 + _
    omega
  · have := lcp_step a b x
    rw [hc] at this
    simp only [Bool.false_eq_true, if_false] at this
    show x + _ = x
    omega
  rw [Nat.zero_add, List.drop_zero, List.drop_zero] at I2
  have hS : levS a b = ((a.drop (lcp a b)).take ((a.drop (lcp a b)).length - lcp (a.drop (lcp a b)).reverse (b.drop (lcp a b)).reverse), (b.drop (lcp a b)).take ((b.drop (lcp a b)).length - lcp (a.drop (lcp a b)).reverse (b.drop (lcp a b)).reverse)) := rfl
  have hlev : lev a b k = levB (levS a b).1 (levS a b).2 k := if_neg hab
  rw [hlev, hS]
  refine seq_step (PreI (a.drop (lcp a b)) b k (lcp a b)) ⟨_, by simp only [I2.ga, I2.gp, Option.bind_some, asPart, cut_ok _ _ _ la, cut_from]; rfl, ?_⟩ fun r3 I3 => ?_
  · constructor <;> simp (config := {decide := true}) only [get_kp, if_true, if_false, I2.ga, I2.gb, I2.gk, I2.gp, Option.map_some, kill_sh]
  refine seq_step (PreI (a.drop (lcp a b)) (b.drop (lcp a b)) k (lcp a b)) ⟨_, by simp only [I3.gb, I3.gp, Option.bind_some, asPart, cut_ok _ _ _ lb, cut_from]; rfl, ?_⟩ fun r4 I4 => ?_
  · constructor <;> simp (config := {decide := true}) only [get_kp, if_true, if_false, I3.ga, I3.gb, I3.gk, I3.gp, Option.map_some, kill_sh]
  have la1 : (a.drop (lcp a b)).length ≤ 60 := by rw [List.length_drop]; omega
  have lb1 : (b.drop (lcp a b)).length ≤ 60 := by rw [List.length_drop]; omega
  clear I2 I3 g1 g2 g3 hlev hS I1 hab la lb ha hb
  generalize a.drop (lcp a b) = a1 at *
  generalize b.drop (lcp a b) = b1 at *
  have la : a1.length ≤ lim := by omega
  have lb : b1.length ≤ lim := by omega
  refine seq_step (PostI a1 b1 k 0) ⟨_, rfl, ?_⟩ fun r5 I5 => ?_
  · constructor <;> simp (config := {decide := true}) only [get_kp, if_true, if_false, I4.ga, I4.gb, I4.gk, Option.map_some, kill_sh] <;> rfl
  refine seq_step (PostI a1 b1 k (0 + lcp (a1.reverse.drop 0) (b1.reverse.drop 0))) (while_inv (PostI a1 b1 k) (agree a1.reverse b1.reverse) (· + 1) (fun i => i + lcp (a1.reverse.drop i) (b1.reverse.drop i)) (fun i => a1.length - i) (fun x r I => ?_) (fun x r I hc => ?_) (fun x hc => ?_) (fun x hc => ?_) (fun x hc => ?_) lim 0 r5 (by omega) I5) fun r6 I6 => ?_
  · have ta := truth_T (a1.take (a1.length - x)) (by rw [List.length_take]; omega)
    have tb := truth_T (b1.take (b1.length - x)) (by rw [List.length_take]; omega)
    simp only [I.ga, I.gb, I.gp, Option.bind_some, post_cut _ _ la, post_cut _ _ lb, ta, tb]
    unfold agree
    by_cases xa : x < a1.length
    · have e1 : (a1.take (a1.length - x)).isEmpty = false := by rw [List.isEmpty_eq_false_iff]; intro q; have := congrArg List.length q; rw [List.length_take] at this; simp at this; omega
      have ra : a1.reverse[x]? = some (a1.reverse.getD x 0) := by
        rw [List.getElem?_eq_getElem (by simpa using xa)]; simp [xa]
      by_cases xb : x < b1.length
      · have e2 : (b1.take (b1.length - x)).isEmpty = false := by rw [List.isEmpty_eq_false_iff]; intro q; have := congrArg List.length q; rw [List.length_take] at this; simp at this; omega
        have rb : b1.reverse[x]? = some (b1.reverse.getD x 0) := by
          rw [List.getElem?_eq_getElem (by simpa using xb)]; simp [xb]
        simp only [e1, e2, Bool.not_false, if_true, oSub, Option.bind_some, idx_neg _ _ _ ra la, idx_neg _ _ _ rb lb, oEq_str, asB]
        rw [ra, rb]
        have : (T [a1.reverse.getD x 0] == T [b1.reverse.getD x 0]) = (a1.reverse.getD x 0 == b1.reverse.getD x 0) := by
          rw [Bool.eq_iff_iff, beq_iff_eq, beq_iff_eq, T_inj]
          simp
        rw [this]
        show _ = some (a1.reverse.getD x 0 == b1.reverse.getD x 0)
        cases (a1.reverse.getD x 0 == b1.reverse.getD x 0) <;> rfl
      · have e2 : (b1.take (b1.length - x)).isEmpty = true := by rw [List.isEmpty_iff, List.take_eq_nil_iff]; left; omega
        simp only [e1, e2, Bool.not_false, Bool.not_true, if_true, Bool.false_eq_true, if_false]
        rw [List.getElem?_eq_none (l := b1.reverse) (by simp; omega)]
        cases a1.reverse[x]? <;> rfl
    · have e1 : (a1.take (a1.length - x)).isEmpty = true := by rw [List.isEmpty_iff, List.take_eq_nil_iff]; left; omega
      simp only [e1, Bool.not_true, Bool.false_eq_true, if_false]
      rw [List.getElem?_eq_none (l := a1.reverse) (by simp; omega)]
  · refine ⟨_, by simp only [seqF, I.gp, Option.bind_some, oSub]; rfl, ?_⟩
    constructor <;> simp (config := {decide := true}) only [get_kp, if_true, if_false, I.ga, I.gb, I.gk, Option.map_some, kill_sh]
    congr 3
    omega
  · have : x < a1.reverse.length := by
      unfold agree at hc
      cases hx : a1.reverse[x]? with
      | none => rw [hx] at hc; cases hc
      | some y => exact (List.getElem?_eq_some_iff.mp hx).1
    rw [List.length_reverse] at this
    omega
  · have := lcp_step a1.reverse b1.reverse x
    rw [hc] at this
    simp only [if_true] at this
    show x + _ = x + 1 + _
    omega
  · have := lcp_step a1.reverse b1.reverse x
    rw [hc] at this
    simp only [Bool.false_eq_true, if_false] at this
    show x + _ = x
    omega
  rw [Nat.zero_add, List.drop_zero, List.drop_zero] at I6
  generalize lcp a1.reverse b1.reverse = q at *
  refine seq_step (PostI (a1.take (a1.length - q)) b1 k q) ⟨_, by simp only [I6.ga, I6.gp, Option.bind_some, post_cut _ _ la]; rfl, ?_⟩ fun r7 I7 => ?_
  · constructor <;> simp (config := {decide := true}) only [get_kp, if_true, if_false, I6.ga, I6.gb, I6.gk, I6.gp, Option.map_some, kill_sh]
  refine seq_step (PostI (a1.take (a1.length - q)) (b1.take (b1.length - q)) k q) ⟨_, by simp only [I7.gb, I7.gp, Option.bind_some, post_cut _ _ lb]; rfl, ?_⟩ fun r8 I8 => ?_
  · constructor <;> simp (config := {decide := true}) only [get_kp, if_true, if_false, I7.ga, I7.gb, I7.gk, I7.gp, Option.map_some, kill_sh]
  have la2 : (a1.take (a1.length - q)).length ≤ 60 := by rw [List.length_take]; omega
  have lb2 : (b1.take (b1.length - q)).length ≤ 60 := by rw [List.length_take]; omega
  dsimp only
  generalize a1.take (a1.length - q) = a2 at *
  generalize b1.take (b1.length - q) = b2 at *
  clear I6 I7 I5 I4 la1 lb1 la lb
  have la : a2.length ≤ lim := by omega
  have lb : b2.length ≤ lim := by omega
  have ta := truth_T a2 la
  have tb := truth_T b2 lb
  by_cases hE : a2 = [] ∨ b2 = []
  · have : levB a2 b2 k = 2 * ((a2.length : Int) + b2.length) := if_pos hE
    rw [this]
    refine seq_gives ⟨r8, ?_⟩
    have hc : (a2.isEmpty || b2.isEmpty) = true := by
      rcases hE with h | h
      · subst h; rfl
      · subst h; simp
    have hm := mul_small 2 ((a2.length : Int) + b2.length) (by omega)
    cases hA : a2.isEmpty with
    | true => simp only [I8.ga, I8.gb, ta, tb, hA, Option.bind_some, Option.map_some, Bool.not_true, Bool.not_false, if_true, len_T _ la, len_T _ lb, oAdd, hm, seqF]
    | false =>
      have hB : b2.isEmpty = true := by rw [hA] at hc; exact hc
      simp only [I8.ga, I8.gb, ta, tb, hA, hB, Option.bind_some, Option.map_some, Bool.not_true, Bool.not_false, Bool.false_eq_true, if_false, if_true, len_T _ la, len_T _ lb, oAdd, hm, seqF]
  have hA : a2.isEmpty = false := by rw [List.isEmpty_eq_false_iff]; exact fun h => hE (.inl h)
  have hB : b2.isEmpty = false := by rw [List.isEmpty_eq_false_iff]; exact fun h => hE (.inr h)
  refine seq_step (PostI a2 b2 k q) ⟨r8, by simp only [I8.ga, I8.gb, ta, tb, hA, hB, Option.bind_some, Option.map_some, Bool.not_true, Bool.not_false, Bool.false_eq_true, if_false], I8⟩ fun r9 I9 => ?_
  clear I8 ta tb
  by_cases hL : 40 < a2.length ∨ 40 < b2.length
  · have : levB a2 b2 k = k + 1 := (if_neg hE).trans (if_pos hL)
    rw [this]
    refine seq_gives ⟨r9, ?_⟩
    by_cases h1 : 40 < a2.length
    · have : decide ((40 : Int) < a2.length) = true := by rw [decide_eq_true_eq]; omega
      simp only [I9.ga, I9.gb, I9.gk, Option.bind_some, len_T _ la, len_T _ lb, oGt, this, asB, if_true, oAdd, seqF]
    · have e1 : decide ((40 : Int) < a2.length) = false := by rw [decide_eq_false_iff_not]; omega
      have e2 : decide ((40 : Int) < b2.length) = true := by rw [decide_eq_true_eq]; omega
      simp only [I9.ga, I9.gb, I9.gk, Option.bind_some, len_T _ la, len_T _ lb, oGt, e1, e2, asB, Bool.false_eq_true, if_false, if_true, oAdd, seqF]
  refine seq_step (PostI a2 b2 k q) ⟨r9, by
    have e1 : decide ((40 : Int) < a2.length) = false := by rw [decide_eq_false_iff_not]; omega
    have e2 : decide ((40 : Int) < b2.length) = false := by rw [decide_eq_false_iff_not]; omega
    simp only [I9.ga, I9.gb, I9.gk, Option.bind_some, len_T _ la, len_T _ lb, oGt, e1, e2, asB, Bool.false_eq_true, if_false], I9⟩ fun r10 I10 => ?_
  clear I9
  have hlevB : levB a2 b2 k = (let p := if b2.length < a2.length then (b2, a2) else (a2, b2); if k < ((p.2.length : Int) - p.1.length) * 2 then k + 1 else levC p.1 p.2 k) := (if_neg hE).trans (if_neg hL)
  rw [hlevB]
  refine seq_step (fun r => PostI (if b2.length < a2.length then (b2, a2) else (a2, b2)).1 (if b2.length < a2.length then (b2, a2) else (a2, b2)).2 k q r) ?_ fun r11 I11 => ?_
  · by_cases hs : b2.length < a2.length
    · have e1 : decide ((b2.length : Int) < a2.length) = true := by rw [decide_eq_true_eq]; omega
      rw [if_pos hs]
      refine ⟨_, by simp only [I10.ga, I10.gb, Option.bind_some, len_T _ la, len_T _ lb, oLt, e1, asB, if_true, seqF]; rfl, ?_⟩
      constructor <;> simp (config := {decide := true}) only [get_kp, if_true, if_false, I10.ga, I10.gb, I10.gk, I10.gp, Option.map_some, kill_sh]
    · have e1 : decide ((b2.length : Int) < a2.length) = false := by rw [decide_eq_false_iff_not]; omega
      rw [if_neg hs]
      exact ⟨r10, by simp only [I10.ga, I10.gb, Option.bind_some, len_T _ la, len_T _ lb, oLt, e1, asB, Bool.false_eq_true, if_false], I10⟩
  dsimp only
  have hne : 0 < (if b2.length < a2.length then (b2, a2) else (a2, b2)).1.length ∧ (if b2.length < a2.length then (b2, a2) else (a2, b2)).1.length ≤ 40 ∧ (if b2.length < a2.length then (b2, a2) else (a2, b2)).2.length ≤ 40 := by
    have p1 : 0 < a2.length := List.length_pos_iff.mpr fun h => hE (.inl h)
    have p2 : 0 < b2.length := List.length_pos_iff.mpr fun h => hE (.inr h)
    split <;> dsimp only <;> omega
  generalize (if b2.length < a2.length then (b2, a2) else (a2, b2)) = ab at *
  obtain ⟨a3, b3⟩ := ab
  dsimp only at *
  clear I10 hlevB la lb hA hB hE hL la2 lb2
  obtain ⟨n0, n1, n2⟩ := hne
  have la : a3.length ≤ lim := by omega
  have lb : b3.length ≤ lim := by omega
  have hm := mul_small ((b3.length : Int) - a3.length) 2 (by omega)
  by_cases hk : k < ((b3.length : Int) - a3.length) * 2
  · rw [if_pos hk]
    refine seq_gives ⟨r11, ?_⟩
    simp only [I11.ga, I11.gb, I11.gk, Option.bind_some, len_T _ la, len_T _ lb, oSub, hm, oGt, decide_eq_true hk, asB, if_true, oAdd, seqF]
  rw [if_neg hk]
  refine seq_step (PostI a3 b3 k q) ⟨r11, by simp only [I11.ga, I11.gb, I11.gk, Option.bind_some, len_T _ la, len_T _ lb, oSub, hm, oGt, decide_eq_false hk, asB, Bool.false_eq_true, if_false], I11⟩ fun r12 I12 => ?_
  clear I11 hm
  have hm := mul_small 2 ((a3.length : Int) + 1) (by omega)
  have hrow := row_small a3.length n0 n1
  refine seq_step (fun r => PostI a3 b3 k q r ∧ r.get "row" = some (.own (((List.range a3.length).map fun (i : Nat) => 2 + (i : Int) * 2).map .int)))
    ⟨_, by simp only [I12.ga, Option.bind_some, len_T _ la, oAdd, hm, hrow]; rfl, ?_⟩ fun r13 I13 => ?_
  · refine ⟨?_, ?_⟩
    · constructor <;> simp (config := {decide := true}) only [get_kp, if_true, if_false, I12.ga, I12.gb, I12.gk, I12.gp, Option.map_some, kill_sh]
    · simp only [get_kp, if_true]
  obtain ⟨I13, g13⟩ := I13
  clear hrow hm I12
  refine seq_step (OutI a3 b3 k ((List.range a3.length).map fun (i : Nat) => 2 + (i : Int) * 2, 0)) ⟨_, rfl, ?_⟩ fun r14 I14 => ?_
  · constructor <;> simp (config := {decide := true}) only [get_kp, if_true, if_false, I13.ga, I13.gb, I13.gk, g13, Option.map_some, kill_sh, kill_own, List.length_map, List.length_range]
  clear I13 g13
  refine seq_for (OutI a3 b3 k) (foldE (ostp a3 b3 k) ((List.range a3.length).map fun (i : Nat) => 2 + (i : Int) * 2, 0) (List.range b3.length)) ?_ (fun y r1 e J => ?_) fun v e => ?_
  · simp only [I14.gb, Option.bind_some, len_T _ lb, range_small b3.length (by omega)]
    refine for_inv (OutI a3 b3 k) (fun (i : Nat) => D.int (0 + (i : Int))) (fun i => i < b3.length) (ostp a3 b3 k) (fun st d r I hd => ?_) (List.range b3.length) _ r14 (fun d hd => List.mem_range.mp hd) I14
    rw [Int.zero_add]
    have hrl : st.1.length ≤ lim := by have := I.len; omega
    refine ends_step (Mid1 a3 b3 k (b3.getD d 0) st.1 d) ⟨_, by simp (config := {decide := true}) only [get_kp, if_true, if_false, I.gb, Option.map_some, kill_sh, Option.bind_some, idx_a _ _ hd lb]; rfl, ?_⟩ fun r1 J1 => ?_
    · constructor <;> simp (config := {decide := true}) only [get_kp, if_true, if_false, I.ga, I.gb, I.gk, I.grow, I.len, Option.map_some, kill_sh, kill_own]
    have hm2 := mul_small (d : Int) 2 (by omega)
    refine ends_step (fun r => Mid1 a3 b3 k (b3.getD d 0) st.1 d r ∧ r.get "distance" = some (.sh (.int ((d : Int) * 2))) ∧ r.get "result" = some (.sh (.int ((d : Int) * 2)))) ⟨_, by simp only [J1.gi, Option.bind_some, hm2, flat?]; rfl, ?_⟩ fun r2 J2 => ?_
    · refine ⟨?_, ?_, ?_⟩
      · constructor <;> simp (config := {decide := true}) only [get_kp, if_true, if_false, J1.ga, J1.gb, J1.gk, J1.gc, J1.grow, J1.gi, J1.len, Option.map_some, kill_sh, kill_own]
      · simp (config := {decide := true}) only [get_kp, if_true, if_false, Option.map_some, kill_sh]
      · simp (config := {decide := true}) only [get_kp, if_true, if_false, Option.map_some, kill_sh]
    refine ends_step (InI a3 b3 k (b3.getD d 0) (st.1, (d : Int) * 2, (d : Int) * 2, 9223372036854775807)) ⟨_, rfl, ?_⟩ fun r3 J3 => ?_
    · constructor <;> simp (config := {decide := true}) only [get_kp, if_true, if_false, J2.1.ga, J2.1.gb, J2.1.gk, J2.1.gc, J2.1.grow, J2.2.1, J2.2.2, J2.1.len, Option.map_some, kill_sh, kill_own]
    clear J2 J1
    refine ends_for (InI a3 b3 k (b3.getD d 0)) ((List.range a3.length).foldl (stp a3 (b3.getD d 0)) (st.1, (d : Int) * 2, (d : Int) * 2, 9223372036854775807)) ?_ fun r4 J4 => ?_
    · simp only [J3.ga, Option.bind_some, len_T _ la, range_small a3.length (by omega)]
      rw [← foldE_inl]
      refine for_inv (InI a3 b3 k (b3.getD d 0)) (fun (i : Nat) => D.int (0 + (i : Int))) (fun i => i < a3.length) _ (fun st i r I hi => ?_) (List.range a3.length) _ r3 (fun d hd => List.mem_range.mp hd) J3
      rw [Int.zero_add]
      obtain ⟨row, dist, res, mn⟩ := st
      have hrow : i < row.length := by have := I.len; dsimp only at this; omega
      have hrl : row.length ≤ lim := by have := I.len; dsimp only at this; omega
      have hst : stp a3 (b3.getD d 0) (row, dist, res, mn) i = (row.set i (if dist + cost (T [b3.getD d 0]) (T [a3.getD i 0]) < (if row.getD i 0 < res then row.getD i 0 else res) + 2 then dist + cost (T [b3.getD d 0]) (T [a3.getD i 0]) else (if row.getD i 0 < res then row.getD i 0 else res) + 2), row.getD i 0,
        (if dist + cost (T [b3.getD d 0]) (T [a3.getD i 0]) < (if row.getD i 0 < res then row.getD i 0 else res) + 2 then dist + cost (T [b3.getD d 0]) (T [a3.getD i 0]) else (if row.getD i 0 < res then row.getD i 0 else res) + 2),
        if (if dist + cost (T [b3.getD d 0]) (T [a3.getD i 0]) < (if row.getD i 0 < res then row.getD i 0 else res) + 2 then dist + cost (T [b3.getD d 0]) (T [a3.getD i 0]) else (if row.getD i 0 < res then row.getD i 0 else res) + 2) < mn then
          (if dist + cost (T [b3.getD d 0]) (T [a3.getD i 0]) < (if row.getD i 0 < res then row.getD i 0 else res) + 2 then dist + cost (T [b3.getD d 0]) (T [a3.getD i 0]) else (if row.getD i 0 < res then row.getD i 0 else res) + 2) else mn) := rfl
      rw [hst]
      clear hst
      generalize hsub : dist + cost (T [b3.getD d 0]) (T [a3.getD i 0]) = sub
      generalize hd' : row.getD i 0 = dist'
      generalize hins : (if dist' < res then dist' else res) + 2 = ins
      generalize hres : (if sub < ins then sub else ins) = res'
      have hlen0 : row.length = a3.length := I.len
      have I0 : W a3 b3 k (b3.getD d 0) i row mn dist res ((r.kill "index").put "index" (.sh (.int (i : Int)))) := by
        constructor <;> simp (config := {decide := true}) only [get_kp, if_true, if_false, I.ga, I.gb, I.gk, I.gc, I.grow, I.gmn, I.gdist, I.gres, hlen0, Option.map_some, kill_sh, kill_own]
      generalize (r.kill "index").put "index" (.sh (.int (i : Int))) = q0 at I0
      clear I
      refine ends_step (fun r => W a3 b3 k (b3.getD d 0) i row mn dist res r ∧ r.get "substitute" = some (.sh (.int sub))) ⟨_, by simp only [I0.gdist, I0.gc, I0.ga, I0.gi, Option.bind_some, idx_a _ _ hi la, F38_one, oAdd, hsub]; rfl, ?_⟩ fun q1 J1 => ?_
      · refine ⟨?_, ?_⟩
        · constructor <;> simp (config := {decide := true}) only [get_kp, if_true, if_false, I0.ga, I0.gb, I0.gk, I0.gc, I0.gi, I0.grow, I0.gmn, I0.gdist, I0.gres, I0.len, Option.map_some, kill_sh, kill_own]
        · simp only [get_kp, if_true]
      obtain ⟨I1, s1⟩ := J1
      refine ends_step (fun r => W a3 b3 k (b3.getD d 0) i row mn dist' res r ∧ r.get "substitute" = some (.sh (.int sub))) ⟨_, by simp only [I1.grow, I1.gi, Option.bind_some, own_idx _ _ hrow hrl, hd', flat?]; rfl, ?_⟩ fun q2 J2 => ?_
      · refine ⟨?_, ?_⟩
        · constructor <;> simp (config := {decide := true}) only [get_kp, if_true, if_false, I1.ga, I1.gb, I1.gk, I1.gc, I1.gi, I1.grow, I1.gmn, I1.gdist, I1.gres, I1.len, Option.map_some, kill_sh, kill_own]
        · simp (config := {decide := true}) only [get_kp, if_true, if_false, s1, Option.map_some, kill_sh]
      obtain ⟨I2, s2⟩ := J2
      refine ends_step (fun r => W a3 b3 k (b3.getD d 0) i row mn dist' res r ∧ r.get "substitute" = some (.sh (.int sub)) ∧ r.get "insert_delete" = some (.sh (.int ins))) ⟨_, by simp only [I2.gres, I2.gdist, Option.bind_some, oMin_two, oAdd, hins]; rfl, ?_⟩ fun q3 J3' => ?_
      · refine ⟨?_, ?_, ?_⟩
        · constructor <;> simp (config := {decide := true}) only [get_kp, if_true, if_false, I2.ga, I2.gb, I2.gk, I2.gc, I2.gi, I2.grow, I2.gmn, I2.gdist, I2.gres, I2.len, Option.map_some, kill_sh, kill_own]
        · simp (config := {decide := true}) only [get_kp, if_true, if_false, s2, Option.map_some, kill_sh]
        · simp (config := {decide := true}) only [get_kp, if_true]
      obtain ⟨I3, s3, i3⟩ := J3'
      refine ends_step (W a3 b3 k (b3.getD d 0) i row mn dist' res') ⟨_, by simp only [i3, s3, Option.bind_some, oMin_two, hres]; rfl, ?_⟩ fun q4 I4 => ?_
      · constructor <;> simp (config := {decide := true}) only [get_kp, if_true, if_false, I3.ga, I3.gb, I3.gk, I3.gc, I3.gi, I3.grow, I3.gmn, I3.gdist, I3.gres, I3.len, Option.map_some, kill_sh, kill_own]
      have hcond : 0 ≤ (i : Int) ∧ (i : Int) < ((row.map D.int).length : Int) ∧ (row.map D.int).length ≤ lim := by rw [List.length_map]; omega
      refine ends_step (W a3 b3 k (b3.getD d 0) i (row.set i res') mn dist' res') ⟨_, by simp only [I4.gres, Option.bind_some, getOwn, I4.grow, I4.gi, if_pos hcond, Int.toNat_natCast]; rfl, ?_⟩ fun q5 I5 => ?_
      · constructor <;> simp (config := {decide := true}) only [Rho.get_put, if_true, if_false, I4.ga, I4.gb, I4.gk, I4.gc, I4.gi, I4.grow, I4.gmn, I4.gdist, I4.gres, I4.len, List.length_set, List.map_set]
      by_cases hm : res' < mn
      · rw [if_pos hm]
        refine ⟨_, by simp only [seqF, I5.gres, I5.gmn, Option.bind_some, oLt, decide_eq_true hm, asB, if_true]; rfl, ?_⟩
        constructor <;> simp (config := {decide := true}) only [get_kp, if_true, if_false, I5.ga, I5.gb, I5.gk, I5.gc, I5.gi, I5.grow, I5.gmn, I5.gdist, I5.gres, I5.len, Option.map_some, kill_sh, kill_own]
      · rw [if_neg hm]
        exact ⟨q5, by simp only [seqF, I5.gres, I5.gmn, Option.bind_some, oLt, decide_eq_false hm, asB, Bool.false_eq_true, if_false], ⟨I5.ga, I5.gb, I5.gk, I5.gc, I5.grow, I5.gdist, I5.gres, I5.gmn, I5.len⟩⟩
    unfold ostp
    dsimp only
    generalize (List.range a3.length).foldl (stp a3 (b3.getD d 0)) (st.1, (d : Int) * 2, (d : Int) * 2, 9223372036854775807) = t at *
    by_cases hmn : k < t.2.2.2
    · rw [if_pos hmn]
      refine ⟨r4, ?_⟩
      simp only [seqF, J4.gmn, J4.gk, Option.bind_some, oGt, decide_eq_true hmn, asB, if_true, oAdd]
    · rw [if_neg hmn]
      refine ⟨r4, ?_, ⟨J4.ga, J4.gb, J4.gk, J4.grow, J4.gres, J4.len⟩⟩
      simp only [seqF, J4.gmn, J4.gk, Option.bind_some, oGt, decide_eq_false hmn, asB, Bool.false_eq_true, if_false]
  · have : levC a3 b3 k = y.2 := by unfold levC; rw [e]
    rw [this]
    refine ⟨r1, ?_⟩
    simp only [seqF, J.gres, Option.bind_some]
  · have hv : ∃ i : Int, v = .int i := by
      have : ∀ (l : List Nat) (st : List Int × Int), foldE (ostp a3 b3 k) st l = .inr v → ∃ i : Int, v = .int i := by
        intro l
        induction l with
        | nil => intro st h; cases h
        | cons d l ih =>
          intro st h
          unfold foldE at h
          cases hs : ostp a3 b3 k st d with
          | inl y => rw [hs] at h; exact ih y h
          | inr u =>
            rw [hs] at h
            cases h
            unfold ostp at hs
            dsimp only at hs
            split at hs
            · cases hs; exact ⟨_, rfl⟩
            · cases hs
      exact this _ _ e
    obtain ⟨i, rfl⟩ := hv
    unfold levC
    rw [e]
end Mine
end SM3

/-! Lv1 -/
namespace Mine
/-! ### the distance of two words -/
def dRow (f : List Nat → Int) (n : Int) (cx : Nat → Int) : List Nat → Int
  | [] => n
  | y :: b => min (f b + cx y) (min (f (y :: b) + 2) (dRow f n cx b + 2))
def dR (c : Nat → Nat → Int) : List Nat → List Nat → Int
  | [], b => 2 * (b.length : Int)
  | x :: a, b => dRow (dR c a) (2 * ((a.length : Int) + 1)) (c x) b
theorem mn (p q k : Int) : min p q + k = min (p + k) (q + k) := by omega
theorem m3a (p q r : Int) : min p (min q r) ≤ p := Int.min_le_left _ _
theorem m3b (p q r : Int) : min p (min q r) ≤ q := Int.le_trans (Int.min_le_right _ _) (Int.min_le_left _ _)
theorem m3c (p q r : Int) : min p (min q r) ≤ r := Int.le_trans (Int.min_le_right _ _) (Int.min_le_right _ _)
theorem le3 {x p q r : Int} (h1 : x ≤ p) (h2 : x ≤ q) (h3 : x ≤ r) : x ≤ min p (min q r) := Int.le_min.mpr ⟨h1, Int.le_min.mpr ⟨h2, h3⟩⟩
structure Cost (c : Nat → Nat → Int) : Prop where
  zero : ∀ x, c x x = 0
  low : ∀ x y, 0 ≤ c x y
  high : ∀ x y, c x y ≤ 2
  symm : ∀ x y, c x y = c y x
section
variable {c : Nat → Nat → Int}
theorem dR_nil_l (b : List Nat) : dR c [] b = 2 * (b.length : Int) := rfl
theorem dR_nil_r (a : List Nat) : dR c a [] = 2 * (a.length : Int) := by
  cases a with
  | nil => rfl
  | cons x a => show 2 * ((a.length : Int) + 1) = _; simp
theorem dR_cons (x y : Nat) (a b : List Nat) : dR c (x :: a) (y :: b) = min (dR c a b + c x y) (min (dR c a (y :: b) + 2) (dR c (x :: a) b + 2)) := rfl
theorem dR_up_l (x : Nat) (a b : List Nat) : dR c (x :: a) b ≤ dR c a b + 2 := by
  cases b with
  | nil => rw [dR_nil_r, dR_nil_r, List.length_cons]; omega
  | cons y b => rw [dR_cons]; exact m3b _ _ _
theorem dR_up_r (y : Nat) (a b : List Nat) : dR c a (y :: b) ≤ dR c a b + 2 := by
  cases a with
  | nil => rw [dR_nil_l, dR_nil_l, List.length_cons]; omega
  | cons x a => rw [dR_cons]; exact m3c _ _ _
theorem dR_symm (C : Cost c) : ∀ a b, dR c a b = dR c b a
  | [], b => by rw [dR_nil_l, dR_nil_r]
  | x :: a, [] => by rw [dR_nil_l, dR_nil_r]
  | x :: a, y :: b => by
    rw [dR_cons, dR_cons, dR_symm C a b, dR_symm C a (y :: b), dR_symm C (x :: a) b, C.symm x y, Int.min_comm (dR c (y :: b) a + 2)]
termination_by a b => a.length + b.length
theorem dR_lip_r (C : Cost c) (y : Nat) : ∀ (a b : List Nat), dR c a b ≤ dR c a (y :: b) + 2
  | [], b => by rw [dR_nil_l, dR_nil_l, List.length_cons]; omega
  | x :: a, b => by
    have h1 := dR_up_l (c := c) x a b
    have h2 := dR_lip_r C y a b
    have h3 := C.low x y
    rw [dR_cons, mn, mn]
    exact le3 (by omega) (by omega) (by omega)
theorem dR_lip_l (C : Cost c) (x : Nat) (a b : List Nat) : dR c a b ≤ dR c (x :: a) b + 2 := by
  rw [dR_symm C a, dR_symm C (x :: a)]
  exact dR_lip_r C x b a
theorem dR_head (C : Cost c) (x : Nat) (a b : List Nat) : dR c (x :: a) (x :: b) = dR c a b := by
  have h1 := dR_lip_r C x a b
  have h2 := dR_lip_l C x a b
  rw [dR_cons, C.zero, Int.add_zero]
  exact Int.le_antisymm (m3a _ _ _) (le3 (Int.le_refl _) h1 h2)
theorem dR_one (C : Cost c) (x : Nat) : ∀ (b : List Nat), dR c [x] (b ++ [x]) = 2 * (b.length : Int)
  | [] => by rw [List.nil_append, dR_head C]; rfl
  | y :: b => by
    have h := dR_one C x b
    have h3 := C.low x y
    rw [List.cons_append, dR_cons, h, dR_nil_l, dR_nil_l]
    simp only [List.length_cons, List.length_append, List.length_nil]
    exact Int.le_antisymm (Int.le_trans (m3c _ _ _) (by omega)) (le3 (by omega) (by omega) (by omega))
theorem dR_tail (C : Cost c) (x : Nat) : ∀ (a b : List Nat), dR c (a ++ [x]) (b ++ [x]) = dR c a b
  | [], b => by rw [List.nil_append, dR_one C, dR_nil_l]
  | y :: a, [] => by rw [dR_symm C, List.nil_append, dR_one C, dR_nil_r]
  | y :: a, z :: b => by
    rw [List.cons_append, List.cons_append, dR_cons, dR_cons, dR_tail C x a b]
    have h1 := dR_tail C x a (z :: b)
    have h2 := dR_tail C x (y :: a) b
    rw [List.cons_append] at h1 h2
    rw [h1, h2]
termination_by a b => a.length + b.length
theorem dR_pre (C : Cost c) : ∀ (p a b : List Nat), dR c (p ++ a) (p ++ b) = dR c a b
  | [], _, _ => rfl
  | x :: p, a, b => by rw [List.cons_append, List.cons_append, dR_head C]; exact dR_pre C p a b
theorem dR_suf (C : Cost c) (a b : List Nat) : ∀ (s : List Nat), dR c (a ++ s) (b ++ s) = dR c a b := fun s => by
  have : ∀ (t : List Nat), dR c (a ++ t.reverse) (b ++ t.reverse) = dR c a b := by
    intro t
    induction t with
    | nil => rw [List.reverse_nil, List.append_nil, List.append_nil]
    | cons x t ih => rw [List.reverse_cons, ← List.append_assoc, ← List.append_assoc, dR_tail C, ih]
  have h := this s.reverse
  rwa [List.reverse_reverse] at h
theorem dR_len (C : Cost c) : ∀ (a b : List Nat), 2 * ((b.length : Int) - a.length) ≤ dR c a b
  | [], b => by rw [dR_nil_l]; simp
  | x :: a, [] => by rw [dR_nil_r]; simp only [List.length_cons, List.length_nil]; omega
  | x :: a, y :: b => by
    have h1 := dR_len C a b
    have h2 := dR_len C a (y :: b)
    have h3 := dR_len C (x :: a) b
    have h4 := C.low x y
    rw [dR_cons]
    simp only [List.length_cons] at h2 h3 ⊢
    exact le3 (by omega) (by omega) (by omega)
termination_by a b => a.length + b.length
theorem dR_hi (C : Cost c) : ∀ (a b : List Nat), dR c a b ≤ 2 * ((a.length : Int) + b.length)
  | [], b => by rw [dR_nil_l]; simp
  | x :: a, b => by
    have h1 := dR_up_l (c := c) x a b
    have h2 := dR_hi C a b
    simp only [List.length_cons]
    omega
theorem dR_self (C : Cost c) (a : List Nat) : dR c a a = 0 := by
  have h := dR_pre C a [] []
  rw [List.append_nil] at h
  rw [h]; rfl
/-- the distance, read from the end -/
def dE (c : Nat → Nat → Int) (a b : List Nat) : Int := dR c a.reverse b.reverse
theorem dE_symm (C : Cost c) (a b : List Nat) : dE c a b = dE c b a := dR_symm C _ _
theorem dE_pre (C : Cost c) (p a b : List Nat) : dE c (p ++ a) (p ++ b) = dE c a b := by
  unfold dE
  rw [List.reverse_append, List.reverse_append, dR_suf C]
theorem dE_suf (C : Cost c) (a b s : List Nat) : dE c (a ++ s) (b ++ s) = dE c a b := by
  unfold dE
  rw [List.reverse_append, List.reverse_append, dR_pre C]
theorem dE_snoc (x y : Nat) (a b : List Nat) : dE c (a ++ [x]) (b ++ [y]) = min (dE c a b + c x y) (min (dE c a (b ++ [y]) + 2) (dE c (a ++ [x]) b + 2)) := by
  unfold dE
  rw [List.reverse_append, List.reverse_append]
  exact dR_cons x y a.reverse b.reverse
theorem dE_nil_l (b : List Nat) : dE c [] b = 2 * (b.length : Int) := by
  unfold dE
  rw [List.reverse_nil, dR_nil_l, List.length_reverse]
theorem dE_nil_r (a : List Nat) : dE c a [] = 2 * (a.length : Int) := by
  unfold dE
  rw [List.reverse_nil, dR_nil_r, List.length_reverse]

/-! ### the table -/
/-- what stands in the table for the first i signs of a and the first j of b -/
def eT (c : Nat → Nat → Int) (a b : List Nat) (i j : Nat) : Int := dE c (a.take i) (b.take j)
theorem eT_0 (a b : List Nat) (j : Nat) (h : j ≤ b.length) : eT c a b 0 j = 2 * (j : Int) := by
  unfold eT
  rw [List.take_zero, dE_nil_l, List.length_take, Nat.min_eq_left h]
theorem eT_r0 (a b : List Nat) (i : Nat) (h : i ≤ a.length) : eT c a b i 0 = 2 * (i : Int) := by
  unfold eT
  rw [List.take_zero, dE_nil_r, List.length_take, Nat.min_eq_left h]
theorem take_succ_get (a : List Nat) (i : Nat) (h : i < a.length) : a.take (i + 1) = a.take i ++ [a.getD i 0] := by
  rw [List.take_succ, List.getElem?_eq_getElem h, List.getD_eq_getElem?_getD, List.getElem?_eq_getElem h]
  rfl
theorem eT_step (a b : List Nat) (i j : Nat) (hi : i < a.length) (hj : j < b.length) :
    eT c a b (i + 1) (j + 1) = min (eT c a b i j + c (a.getD i 0) (b.getD j 0)) (min (eT c a b i (j + 1) + 2) (eT c a b (i + 1) j + 2)) := by
  unfold eT
  rw [take_succ_get a i hi, take_succ_get b j hj, dE_snoc]
end
end Mine

/-! Lv2 -/
namespace Mine
def kost (x y : Nat) : Int := cost (T [x]) (T [y])
theorem kost_ok : Cost kost where
  zero x := by unfold kost cost; rw [if_pos rfl]
  low x y := by unfold kost cost; split <;> (try split) <;> decide
  high x y := by unfold kost cost; split <;> (try split) <;> decide
  symm x y := by
    unfold kost cost
    by_cases h : T [x] = T [y]
    · rw [if_pos h, if_pos h.symm]
    · have h' : ¬ T [y] = T [x] := fun q => h q.symm
      rw [if_neg h, if_neg h']
      by_cases h2 : Txt.lower (T [x]) = Txt.lower (T [y])
      · rw [if_pos h2, if_pos h2.symm]
      · have h2' : ¬ Txt.lower (T [y]) = Txt.lower (T [x]) := fun q => h2 q.symm
        rw [if_neg h2, if_neg h2']
abbrev dist (a b : List Nat) : Int := dE kost a b
abbrev tb (a b : List Nat) (i j : Nat) : Int := eT kost a b i j

/-- the inner loop, behind i turns in column j -/
structure InnerAt (a b : List Nat) (j i : Nat) (st : List Int × Int × Int × Int) : Prop where
  len : st.1.length = a.length
  new : ∀ m, m < i → st.1.getD m 0 = tb a b (m + 1) (j + 1)
  old : ∀ m, i ≤ m → m < a.length → st.1.getD m 0 = tb a b (m + 1) j
  dis : st.2.1 = tb a b i j
  res : if i = 0 then st.2.2.1 = 2 * (j : Int) else st.2.2.1 = tb a b i (j + 1)
  low : ∀ m, m < i → st.2.2.2 ≤ tb a b (m + 1) (j + 1)
theorem getD_set (l : List Int) (i m : Nat) (v : Int) (h : i < l.length) : (l.set i v).getD m 0 = if m = i then v else l.getD m 0 := by
  rw [List.getD_eq_getElem?_getD, List.getD_eq_getElem?_getD, List.getElem?_set]
  by_cases hm : i = m
  · subst hm
    rw [if_pos rfl, if_pos h, if_pos rfl]
    rfl
  · rw [if_neg hm, if_neg (fun q => hm q.symm)]
theorem inner_step {a b : List Nat} {j i : Nat} {st : List Int × Int × Int × Int} (hj : j < b.length) (hi : i < a.length) (H : InnerAt a b j i st) : InnerAt a b j (i + 1) (stp a (b.getD j 0) st i) := by
  obtain ⟨row, dis, res, mn⟩ := st
  have hres : (if (dis + kost (b.getD j 0) (a.getD i 0)) < (if row.getD i 0 < res then row.getD i 0 else res) + 2 then dis + kost (b.getD j 0) (a.getD i 0) else (if row.getD i 0 < res then row.getD i 0 else res) + 2) = tb a b (i + 1) (j + 1) := by
    have h1 : tb a b (i + 1) (j + 1) = _ := eT_step a b i j hi hj
    have h2 : row.getD i 0 = tb a b (i + 1) j := H.old i (Nat.le_refl _) hi
    have h3 : dis = tb a b i j := H.dis
    have h4 := H.res
    have h5 := kost_ok.high (a.getD i 0) (b.getD j 0)
    rw [h1, h2, h3, kost_ok.symm (b.getD j 0)]
    dsimp only at h4
    by_cases h0 : i = 0
    · subst h0
      rw [if_pos rfl] at h4
      have h6 : tb a b 0 j = 2 * (j : Int) := eT_0 a b j (Nat.le_of_lt hj)
      have h7 : eT kost a b 0 (j + 1) = 2 * ((j + 1 : Nat) : Int) := eT_0 a b (j + 1) hj
      rw [h4, h6, h7]
      have h8 : eT kost a b 0 j = 2 * (j : Int) := h6
      rw [h8]
      show _ = min _ (min _ (tb a b (0 + 1) j + 2))
      generalize tb a b (0 + 1) j = u
      generalize kost (a.getD 0 0) (b.getD j 0) = v at h5
      split <;> split <;> omega
    · rw [if_neg h0] at h4
      rw [h4]
      show _ = min (tb a b i j + _) (min (tb a b i (j + 1) + 2) (tb a b (i + 1) j + 2))
      generalize tb a b (i + 1) j = u
      generalize tb a b i (j + 1) = u2
      generalize tb a b i j = u3
      generalize kost (a.getD i 0) (b.getD j 0) = v
      split <;> split <;> omega
  have e : stp a (b.getD j 0) (row, dis, res, mn) i = (row.set i (tb a b (i + 1) (j + 1)), row.getD i 0, tb a b (i + 1) (j + 1), if tb a b (i + 1) (j + 1) < mn then tb a b (i + 1) (j + 1) else mn) := by
    rw [← hres]
    rfl
  rw [e]
  have hl : i < row.length := by rw [show row.length = a.length from H.len]; exact hi
  refine ⟨by rw [List.length_set]; exact H.len, fun m hm => ?_, fun m hm hm2 => ?_, H.old i (Nat.le_refl _) hi, ?_, fun m hm => ?_⟩
  · dsimp only
    rw [getD_set _ _ _ _ hl]
    by_cases q : m = i
    · rw [if_pos q, q]
    · rw [if_neg q]; exact H.new m (by omega)
  · dsimp only
    rw [getD_set _ _ _ _ hl, if_neg (by omega)]
    exact H.old m (by omega) hm2
  · rw [if_neg (by omega)]
  · dsimp only
    by_cases q : m = i
    · rw [q]; split <;> omega
    · have := H.low m (by omega)
      dsimp only at this
      split <;> omega
theorem inner_run {a b : List Nat} {j : Nat} (hj : j < b.length) : ∀ (m i : Nat) (st : List Int × Int × Int × Int), i + m = a.length → InnerAt a b j i st → InnerAt a b j a.length ((List.range' i m).foldl (stp a (b.getD j 0)) st)
  | 0, i, st, h, H => by
    rw [Nat.add_zero] at h
    subst h
    exact H
  | m + 1, i, st, h, H => by
    rw [List.range'_succ, List.foldl_cons]
    exact inner_run hj m (i + 1) _ (by omega) (inner_step hj (by omega) H)

/-- the outer loop, behind j turns -/
structure OuterAt (a b : List Nat) (j : Nat) (st : List Int × Int) : Prop where
  len : st.1.length = a.length
  row : ∀ m, m < a.length → st.1.getD m 0 = tb a b (m + 1) j
  res : 0 < j → st.2 = tb a b a.length j
theorem col_low {a b : List Nat} {k : Int} : ∀ (n j : Nat), j + n ≤ b.length → (∀ i, i ≤ a.length → k < tb a b i j) → ∀ i, i ≤ a.length → k < tb a b i (j + n)
  | 0, j, _, h, i, hi => h i hi
  | n + 1, j, hb, h, i, hi => by
    rw [show j + (n + 1) = (j + 1) + n by omega]
    refine col_low n (j + 1) (by omega) (fun i hi => ?_) i hi
    induction i with
    | zero =>
      have h1 := h 0 (Nat.zero_le _)
      have e1 : tb a b 0 j = 2 * (j : Int) := eT_0 a b j (by omega)
      have e2 : tb a b 0 (j + 1) = 2 * ((j + 1 : Nat) : Int) := eT_0 a b (j + 1) (by omega)
      omega
    | succ i ih =>
      have e : tb a b (i + 1) (j + 1) = _ := eT_step a b i j (by omega) (by omega)
      have h1 := ih (by omega)
      have h2 := h i (by omega)
      have h3 := h (i + 1) hi
      have h4 := kost_ok.low (a.getD i 0) (b.getD j 0)
      show k < eT kost a b (i + 1) (j + 1)
      rw [show eT kost a b (i + 1) (j + 1) = _ from e]
      have h1' : k < eT kost a b i (j + 1) := h1
      have h2' : k < eT kost a b i j := h2
      have h3' : k < eT kost a b (i + 1) j := h3
      omega
theorem outer_run {a b : List Nat} {k : Int} (ha : a ≠ []) : ∀ (n j : Nat) (st : List Int × Int), j + n = b.length → OuterAt a b j st →
    match foldE (ostp a b k) st (List.range' j n) with
    | .inl st' => OuterAt a b b.length st'
    | .inr v => v = .int (k + 1) ∧ k < dist a b
  | 0, j, st, h, H => by
    rw [Nat.add_zero] at h
    subst h
    exact H
  | n + 1, j, st, h, H => by
    have hj : j < b.length := by omega
    have hp : 0 < a.length := List.length_pos_iff.mpr ha
    rw [List.range'_succ]
    have H0 : InnerAt a b j 0 (st.1, (j : Int) * 2, (j : Int) * 2, 9223372036854775807) := by
      refine ⟨H.len, fun m hm => absurd hm (Nat.not_lt_zero _), fun m _ hm => H.row m hm, ?_, ?_, fun m hm => absurd hm (Nat.not_lt_zero _)⟩
      · have e1 : tb a b 0 j = 2 * (j : Int) := eT_0 a b j (by omega)
        dsimp only
        rw [e1]
        omega
      · rw [if_pos rfl]
        dsimp only
        omega
    have H1 := inner_run hj a.length 0 _ (by omega) H0
    rw [← List.range_eq_range'] at H1
    unfold foldE ostp
    generalize (List.range a.length).foldl (stp a (b.getD j 0)) (st.1, (j : Int) * 2, (j : Int) * 2, 9223372036854775807) = t at H1
    have hr := H1.res
    rw [if_neg (by omega)] at hr
    dsimp only
    by_cases hk : k < t.2.2.2
    · rw [if_pos hk]
      dsimp only
      refine ⟨rfl, ?_⟩
      have hh : ∀ i, i ≤ a.length → k < tb a b i (j + 1) := by
        intro i hi
        cases i with
        | zero =>
          have e := H1.low 0 hp
          have e1 : tb a b (0 + 1) (j + 1) = _ := eT_step a b 0 j hp hj
          have e2 : eT kost a b 0 j = 2 * (j : Int) := eT_0 a b j (by omega)
          have e3 : tb a b 0 (j + 1) = 2 * ((j + 1 : Nat) : Int) := eT_0 a b (j + 1) (by omega)
          have h5 := kost_ok.high (a.getD 0 0) (b.getD j 0)
          have e1' : tb a b (0 + 1) (j + 1) ≤ eT kost a b 0 j + kost (a.getD 0 0) (b.getD j 0) := by
            rw [e1]; omega
          omega
        | succ i =>
          have e := H1.low i (by omega)
          omega
      have := col_low n (j + 1) (by omega) hh a.length (Nat.le_refl _)
      rw [show j + 1 + n = b.length by omega] at this
      have e : tb a b a.length b.length = dist a b := by
        show dE kost (a.take a.length) (b.take b.length) = _
        rw [List.take_length, List.take_length]
      rw [← e]
      exact this
    · rw [if_neg hk]
      exact outer_run ha n (j + 1) _ (by omega) ⟨H1.len, fun m hm => H1.new m hm, fun _ => hr⟩
theorem levC_ok {a b : List Nat} (k : Int) (ha : a ≠ []) (hb : b ≠ []) : levC a b k = dist a b ∨ (k < dist a b ∧ levC a b k = k + 1) := by
  have h0 : OuterAt a b 0 ((List.range a.length).map fun (i : Nat) => 2 + (i : Int) * 2, 0) := by
    refine ⟨by simp, fun m hm => ?_, fun h => absurd h (by omega)⟩
    have e : tb a b (m + 1) 0 = 2 * ((m + 1 : Nat) : Int) := eT_r0 a b (m + 1) hm
    rw [e, List.getD_eq_getElem?_getD, List.getElem?_map, List.getElem?_range hm]
    simp
    omega
  have h := outer_run (k := k) ha b.length 0 _ (by omega) h0
  rw [← List.range_eq_range'] at h
  unfold levC
  generalize foldE (ostp a b k) ((List.range a.length).map fun (i : Nat) => 2 + (i : Int) * 2, 0) (List.range b.length) = o at h
  cases o with
  | inl st =>
    left
    have e := OuterAt.res h (List.length_pos_iff.mpr hb)
    have e2 : tb a b a.length b.length = dist a b := by
      show dE kost (a.take a.length) (b.take b.length) = _
      rw [List.take_length, List.take_length]
    dsimp only
    rw [e, e2]
  | inr v =>
    right
    obtain ⟨rfl, h2⟩ := h
    exact ⟨h2, rfl⟩
theorem dist_diff (a b : List Nat) : 2 * ((b.length : Int) - a.length) ≤ dist a b := by
  have := dR_len kost_ok a.reverse b.reverse
  rwa [List.length_reverse, List.length_reverse] at this
theorem dist_hi (a b : List Nat) : dist a b ≤ 2 * ((a.length : Int) + b.length) := by
  have := dR_hi kost_ok a.reverse b.reverse
  rwa [List.length_reverse, List.length_reverse] at this
theorem levB_ok (a b : List Nat) (k : Int) (h1 : a.length ≤ 40) (h2 : b.length ≤ 40) : levB a b k = dist a b ∨ (k < dist a b ∧ levB a b k = k + 1) := by
  unfold levB
  by_cases h : a = [] ∨ b = []
  · rw [if_pos h]
    left
    rcases h with rfl | rfl
    · rw [show dist [] b = _ from dE_nil_l b]; simp
    · rw [show dist a [] = _ from dE_nil_r a]; simp
  · rw [if_neg h, if_neg (by omega)]
    have ha : a ≠ [] := fun q => h (.inl q)
    have hb : b ≠ [] := fun q => h (.inr q)
    dsimp only
    by_cases hl : b.length < a.length
    · rw [if_pos hl]
      dsimp only
      by_cases hk : k < ((a.length : Int) - b.length) * 2
      · rw [if_pos hk]
        right
        have := dist_diff b a
        rw [show dist b a = dist a b from dE_symm kost_ok b a] at this
        exact ⟨by omega, rfl⟩
      · rw [if_neg hk]
        have := levC_ok k hb ha
        rwa [show dist b a = dist a b from dE_symm kost_ok b a] at this
    · rw [if_neg hl]
      dsimp only
      by_cases hk : k < ((b.length : Int) - a.length) * 2
      · rw [if_pos hk]
        right
        have := dist_diff a b
        exact ⟨by omega, rfl⟩
      · rw [if_neg hk]
        exact levC_ok k ha hb
theorem lcp_take : ∀ (a b : List Nat), a.take (lcp a b) = b.take (lcp a b)
  | [], b => by simp [lcp]
  | x :: a, [] => by simp [lcp]
  | x :: a, y :: b => by
    unfold lcp
    split
    · rename_i h
      have h' : x = y := by simpa using h
      rw [List.take_succ_cons, List.take_succ_cons, lcp_take a b, h']
    · rfl
theorem levS_dist (a b : List Nat) : dist (levS a b).1 (levS a b).2 = dist a b := by
  unfold levS
  dsimp only
  have e1 : dist (a.drop (lcp a b)) (b.drop (lcp a b)) = dist a b := by
    have h := dE_pre kost_ok (a.take (lcp a b)) (a.drop (lcp a b)) (b.drop (lcp a b))
    rw [List.take_append_drop] at h
    rw [lcp_take a b, List.take_append_drop] at h
    exact h.symm
  rw [← e1]
  generalize a.drop (lcp a b) = u
  generalize b.drop (lcp a b) = v
  generalize hq : lcp u.reverse v.reverse = q
  have ht := lcp_take u.reverse v.reverse
  rw [hq, List.take_reverse, List.take_reverse, List.reverse_inj] at ht
  have h := dE_suf kost_ok (u.take (u.length - q)) (v.take (v.length - q)) (u.drop (u.length - q))
  rw [List.take_append_drop] at h
  rw [ht, List.take_append_drop] at h
  exact h.symm
theorem lev_ok2 (a b : List Nat) (k : Int) (h1 : a.length ≤ 40) (h2 : b.length ≤ 40) : lev a b k = dist a b ∨ (k < dist a b ∧ lev a b k = k + 1) := by
  unfold lev
  by_cases h : a = b
  · rw [if_pos h, h]
    left
    exact (dR_self kost_ok b.reverse).symm
  · rw [if_neg h, ← levS_dist a b]
    have hl := levS_len a b
    exact levB_ok _ _ k (by omega) (by omega)
theorem lev_far (a b : List Nat) (k : Int) (h1 : a.length ≤ 40) (h2 : b.length ≤ 40) (hk : dist a b ≤ k) : lev a b k = dist a b := by
  rcases lev_ok2 a b k h1 h2 with h | ⟨h, _⟩
  · exact h
  · omega
end Mine

/-! G4 -/
noncomputable section SG4
namespace Mine
def F45 : List D → Option D
  | [.str x, .str y, .int k] => if x.length ≤ 60 ∧ y.length ≤ 60 then some (.int (lev x.cps.toList y.cps.toList k)) else none
  | _ => none
theorem lev_ok {P : Params} {c : Cx} (h : CF (KK P) c) : ActL c 2 (fun vs => call (.ref 45) vs) F45 := (T_levenshtein_distance h (sub_ok h)).2 F45 fun ds d hF => by
  unfold F45 at hF
  split at hF <;> try (cases hF; done)
  rename_i x y k
  split at hF <;> try (cases hF; done)
  rename_i hl
  cases hF
  refine ⟨rfl, ?_⟩
  refine lev_gives h (sub_ok h) x.cps.toList y.cps.toList k _ ?_ ?_ ?_ (by rw [Array.length_toList]; exact hl.1) (by rw [Array.length_toList]; exact hl.2)
  · rw [T_cps]; rfl
  · rw [T_cps]; rfl
  · rfl
theorem F45_T (a b : List Nat) (k : Int) (ha : a.length ≤ 60) (hb : b.length ≤ 60) : F45 [.str (T a), .str (T b), .int k] = some (.int (lev a b k)) := by
  unfold F45
  dsimp only
  rw [if_pos ⟨by rw [T_len]; exact ha, by rw [T_len]; exact hb⟩]
  unfold T
  simp

/-! ### comprehensions -/
theorem compF_map {β : Type} {x : Str} {ft : Rho → Option Bool} {fe : Rho → Option D} {enc : β → D} {p : β → Bool} {g : β → D} {rc : Rho} : ∀ (l : List β), (∀ b ∈ l, ft ((x, .sh (enc b)) :: rc) = some (p b)) → (∀ b ∈ l, p b = true → fe ((x, .sh (enc b)) :: rc) = some (g b)) →
    compF x ft (fun r => (fe r).map fun d => [d]) (l.map enc) rc = some ((l.filter p).map g)
  | [], _, _ => rfl
  | b :: l, h1, h2 => by
    rw [List.map_cons]
    unfold compF
    rw [h1 b List.mem_cons_self, compF_map l (fun b' hb => h1 b' (List.mem_cons_of_mem _ hb)) fun b' hb => h2 b' (List.mem_cons_of_mem _ hb)]
    cases hp : p b with
    | true =>
      rw [h2 b List.mem_cons_self hp, List.filter_cons_of_pos hp]
      rfl
    | false =>
      rw [List.filter_cons_of_neg (by rw [hp]; decide)]
      rfl
theorem compO_map {β : Type} {cap : List Str} {x : Str} {fi : Rho → Option (List D)} {ft : Rho → Option Bool} {fe : Rho → Option D} {enc : β → D} (p : β → Bool) (g : β → D) {r : Rho} (rc : Rho) (l : List β)
    (h1 : fi r = some (l.map enc)) (h2 : capO cap r = some rc) (h3 : rc.get x = none) (h4 : rc.get ".acc" = none) (h5 : ∀ b ∈ l, ft ((x, .sh (enc b)) :: rc) = some (p b)) (h6 : ∀ b ∈ l, p b = true → fe ((x, .sh (enc b)) :: rc) = some (g b)) (h7 : l.length ≤ lim) :
    compO cap x fi ft (fun r => (fe r).map fun d => [d]) r = some ((l.filter p).map g) := by
  unfold compO
  rw [h1, h2]
  simp only [Option.bind_some, h3, h4, Option.isNone_none, Bool.and_self, if_true, compF_map l h5 h6]
  rw [if_pos]
  rw [List.length_map]
  exact Nat.le_trans (List.length_filter_le _ _) h7
theorem compO_all {β : Type} {cap : List Str} {x : Str} {fi : Rho → Option (List D)} {fe : Rho → Option D} {enc : β → D} (g : β → D) {r : Rho} (rc : Rho) (l : List β)
    (h1 : fi r = some (l.map enc)) (h2 : capO cap r = some rc) (h3 : rc.get x = none) (h4 : rc.get ".acc" = none) (h6 : ∀ b ∈ l, fe ((x, .sh (enc b)) :: rc) = some (g b)) (h7 : l.length ≤ lim) :
    compO cap x fi (fun _ => some true) (fun r => (fe r).map fun d => [d]) r = some (l.map g) := by
  have := compO_map (ft := fun _ => some true) (p := fun _ => true) g rc l h1 h2 h3 h4 (fun _ _ => rfl) (fun b hb _ => h6 b hb) h7
  rw [this, List.filter_eq_self.mpr fun _ _ => rfl]
theorem T_append (a b : List Nat) : T a ++ T b = T (a ++ b) := by
  show Str.append (T a) (T b) = _
  unfold T
  simp [Str.append]
theorem oAdd_T (a b : List Nat) (h : a.length + b.length ≤ lim) : oAdd (.str (T a)) (.str (T b)) = some (.str (T (a ++ b))) := by
  unfold oAdd
  dsimp only
  rw [T_len, T_len, if_pos h, T_append]

theorem oAdd_int (a b : Int) : oAdd (.int a) (.int b) = some (.int (a + b)) := rfl
theorem seq_put {f g : Rho → Option (Rho × Fl)} {r : Rho} {d : D} (x : Str) (e : Ent) (hf : f r = some ((r.kill x).put x e, .next)) (h2 : ∀ r1 : Rho, (∀ y, r1.get y = if y = x then some e else (r.get y).map (Ent.kill x)) → Gives (g r1) d) : Gives (seqF f g r) d := by
  rw [Gives, seqF_next hf]
  exact h2 _ fun y => get_kp r x y e
theorem seq_done {f g : Rho → Option (Rho × Fl)} {r : Rho} {d : D} (hf : f r = some (r, .ret d)) : Gives (seqF f g r) d := ⟨r, seqF_ret hf⟩

def encW (l : List Nat) : D := .str (T l)
/-- what a body answers, as a function of its arguments -/
def runF (names : List Str) (f : Rho → Option (Rho × Fl)) (ds : List D) : Option D :=
  if ds.length = names.length then match f (names.zip (ds.map Ent.sh)) with
    | some (_, .ret d) => some d
    | _ => none
  else none
theorem runF_HF (names : List Str) (f : Rho → Option (Rho × Fl)) : HF names f (runF names f) := fun ds d h => by
  unfold runF at h
  split at h
  · rename_i hl
    refine ⟨hl, ?_⟩
    split at h
    · rename_i r d' e
      cases h
      exact ⟨r, e⟩
    · cases h
  · cases h
theorem runF_of {names : List Str} {f : Rho → Option (Rho × Fl)} {ds : List D} {d : D} (hl : ds.length = names.length) (h : Gives (f (names.zip (ds.map Ent.sh))) d) : runF names f ds = some d := by
  obtain ⟨r, e⟩ := h
  unfold runF
  rw [if_pos hl, e]

theorem compF_for {β γ : Type} {x y : Str} {fi2 : Rho → Option (List D)} {fe : Rho → Option D} {enc1 : β → D} {enc2 : γ → D} {g : β → γ → D} {rc : Rho} (l2 : List γ) (hs : shs rc = true) (hy : Rho.get rc y = none) (hxy : y ≠ x) : ∀ (l1 : List β),
    (∀ b ∈ l1, fi2 ((x, .sh (enc1 b)) :: rc) = some (l2.map enc2)) → (∀ b ∈ l1, ∀ b2 ∈ l2, fe ((y, .sh (enc2 b2)) :: (x, .sh (enc1 b)) :: rc) = some (g b b2)) →
    compF x (fun _ => some true) (forA y (fun _ => some true) (fun r => (fe r).map fun d => [d]) fi2) (l1.map enc1) rc = some (l1.flatMap fun b => l2.map (g b))
  | [], _, _ => rfl
  | b :: l1, h1, h2 => by
    rw [List.map_cons]
    unfold compF
    rw [compF_for l2 hs hy hxy l1 (fun b' hb => h1 b' (List.mem_cons_of_mem _ hb)) fun b' hb => h2 b' (List.mem_cons_of_mem _ hb)]
    unfold forA
    have hs' : shs ((x, Ent.sh (enc1 b)) :: rc) = true := by
      unfold shs at hs ⊢
      rw [List.all_cons, hs]
      rfl
    have hc := compF_map (x := y) (ft := fun _ => some true) (fe := fe) (enc := enc2) (p := fun _ => true) (g := g b) (rc := (x, Ent.sh (enc1 b)) :: rc) l2 (fun _ _ => rfl) fun b2 hb2 _ => h2 b List.mem_cons_self b2 hb2
    rw [h1 b List.mem_cons_self]
    simp only [Option.bind_some, if_true, hs', get_there _ _ hxy, hy, Option.isNone_none, Bool.and_self, hc, Option.map_some, List.flatMap_cons]
    rw [List.filter_eq_self.mpr fun _ _ => rfl]
theorem compO_for {β γ : Type} {cap : List Str} {x y : Str} {fi fi2 : Rho → Option (List D)} {fe : Rho → Option D} {enc1 : β → D} {enc2 : γ → D} (g : β → γ → D) {r : Rho} (rc : Rho) (l1 : List β) (l2 : List γ)
    (h1 : fi r = some (l1.map enc1)) (h2 : capO cap r = some rc) (h3 : rc.get x = none) (h4 : rc.get ".acc" = none) (h5 : rc.get y = none) (hxy : y ≠ x) (h6 : ∀ b ∈ l1, fi2 ((x, .sh (enc1 b)) :: rc) = some (l2.map enc2))
    (h7 : ∀ b ∈ l1, ∀ b2 ∈ l2, fe ((y, .sh (enc2 b2)) :: (x, .sh (enc1 b)) :: rc) = some (g b b2)) (h8 : l1.length * l2.length ≤ lim) :
    compO cap x fi (fun _ => some true) (forA y (fun _ => some true) (fun r => (fe r).map fun d => [d]) fi2) r = some (l1.flatMap fun b => l2.map (g b)) := by
  unfold compO
  rw [h1, h2]
  simp only [Option.bind_some, h3, h4, Option.isNone_none, Bool.and_self, if_true, compF_for l2 (capO_shs h2) h5 hxy l1 h6 h7]
  rw [if_pos]
  have : ∀ l1 : List β, (l1.flatMap fun b => l2.map (g b)).length = l1.length * l2.length := by
    intro l1
    induction l1 with
    | nil => simp
    | cons b l ih => rw [List.flatMap_cons, List.length_append, ih, List.length_map, List.length_cons, Nat.add_mul, Nat.one_mul, Nat.add_comm]
  rw [this]
  exact h8
theorem kill_app {x y : Str} (h : y ≠ x) : Ent.kill x (.app y) = .app y := if_neg h
theorem getApp_of {r : Rho} {m y : Str} {l : List D} (h1 : r.get m = some (.app y)) (h2 : r.get y = some (.own l)) : getApp r m = some (y, l) := by
  unfold getApp
  rw [h1]
  dsimp only
  unfold getOwn
  rw [h2]
  rfl
theorem sgn (a b : Nat) : (T [a] == T [b]) = (a == b) := by
  rw [Bool.eq_iff_iff, beq_iff_eq, beq_iff_eq, T_inj]
  simp
theorem star : ("*" : Str) = T [42] := by decide
theorem quest : ("?" : Str) = T [63] := by decide
theorem brk : ("[" : Str) = T [91] := by decide
theorem dot : ("." : Str) = T [46] := by decide
theorem oLt_int (a b : Int) : oLt (.int a) (.int b) = some (.bool (decide (a < b))) := rfl
theorem while_upto {ft : Rho → Option Bool} {fb : Rho → Option (Rho × Fl)} (Inv : Nat → Rho → Prop) (n : Nat) (hft : ∀ i r, Inv i r → i ≤ n → ft r = some (decide (i < n))) (hfb : ∀ i r, Inv i r → i < n → ∃ r', fb r = some (r', .next) ∧ Inv (i + 1) r') :
    ∀ (N i : Nat) (r : Rho), n - i < N → i ≤ n → Inv i r → ∃ r', whileF ft fb N r = some (r', .next) ∧ Inv n r'
  | 0, _, _, h, _, _ => absurd h (Nat.not_lt_zero _)
  | N + 1, i, r, h, hi, I => by
    unfold whileF
    rw [hft i r I hi]
    by_cases hc : i < n
    · obtain ⟨r', e, I'⟩ := hfb i r I hc
      obtain ⟨r2, e2, I2⟩ := while_upto Inv n hft hfb N (i + 1) r' (by omega) hc I'
      refine ⟨r2, ?_, I2⟩
      simp only [Option.bind_some, decide_eq_true hc, e]
      exact e2
    · have : i = n := by omega
      subst this
      refine ⟨r, ?_, I⟩
      simp only [Option.bind_some, decide_eq_false hc]
theorem nx_put {f g : Rho → Option (Rho × Fl)} {r : Rho} {K : Rho → Prop} (x : Str) (e : Ent) (hf : f r = some ((r.kill x).put x e, .next)) (h2 : ∀ r1 : Rho, (∀ y, r1.get y = if y = x then some e else (r.get y).map (Ent.kill x)) → ∃ r', g r1 = some (r', .next) ∧ K r') : ∃ r', seqF f g r = some (r', .next) ∧ K r' := by
  rw [seqF_next hf]
  exact h2 _ fun y => get_kp r x y e
end Mine
end SG4

/-! N1 -/
noncomputable section SN1
namespace Mine
/-! ### escape -/
def intKeysB (es : Array DictEntry) : Bool := es.all fun e => match e.key with
  | .int k _ => e.hash == hashInt k
  | _ => false
theorem intKeys_of {es : Array DictEntry} (h : intKeysB es = true) : IntKeys es := fun e he => by
  have := (Array.all_eq_true'.mp h) e he
  cases hk : e.key <;> rw [hk] at this <;> simp only [Bool.false_eq_true] at this
  exact ⟨_, _, rfl, beq_iff_eq.mp this⟩
def strVals (es : Array DictEntry) : Bool := es.all fun e => match e.val with
  | .str _ _ => true
  | _ => false
def tbOf (es : Array DictEntry) (k : Nat) : Option Str := match findBy Value.isInt es (k : Int) with
  | some (.str x _) => some x
  | _ => none
theorem find_str {es : Array DictEntry} (h : strVals es = true) (k : Int) : findBy Value.isInt es k = none ∨ ∃ x t, findBy Value.isInt es k = some (.str x t) := by
  unfold findBy
  cases hf : es.find? fun e => Value.isInt k e.key with
  | none => exact .inl rfl
  | some e =>
    refine .inr ?_
    have hm := Array.mem_of_find?_eq_some hf
    have := (Array.all_eq_true'.mp h) e hm
    cases hk : e.val <;> rw [hk] at this <;> simp only [Bool.false_eq_true] at this
    exact ⟨_, _, by rw [Option.map_some, hk]⟩
theorem trans_of {c : Cx} {n : Nat} {ta : Addr} {es : Array DictEntry} {ep : Nat} (hob : c.FT ta = some { cls := .type "dict", data := .dict es ep }) (hd : (ta == sysModules) = false) (hk : intKeysB es = true) (hs : strVals es = true) :
    ActL c n (fun vs => call (.builtin "str.translate") vs) (oTrans ta (tbOf es)) :=
  act_trans hob hd (intKeys_of hk) (fun k h => by
    rcases find_str hs (k : Int) with q | ⟨x, t, q⟩
    · exact q
    · unfold tbOf at h
      rw [q] at h
      cases h) fun k x h => by
    rcases find_str hs (k : Int) with q | ⟨y, t, q⟩
    · unfold tbOf at h
      rw [q] at h
      cases h
    · unfold tbOf at h
      rw [q] at h
      cases h
      exact ⟨t, q⟩
/-- the table of the signs that are escaped -/
def escT {P : Params} {c : Cx} (h : CF (KK P) c) : (es : Array DictEntry) ×' (ActL c 0 (fun vs => call (.builtin "str.translate") vs) (oTrans 59 (tbOf es))) :=
  ⟨_, trans_of (h.ft 59 _ rfl) (by decide) (by decide +kernel) (by decide +kernel)⟩
def E69 {P : Params} {c : Cx} (h : CF (KK P) c) : List D → Option D := runF ["pattern"] (Tescape h (escT h).2).1
theorem esc_ok {P : Params} {c : Cx} (h : CF (KK P) c) : ActL c 1 (fun vs => call (.ref 69) vs) (E69 h) := (Tescape h (escT h).2).2 _ (runF_HF _ _)
/-- what escape makes of a sign -/
def escC (c : Nat) : List Nat := if c = 46 then [92, 46] else [c]
def Sg (c : Nat) : Prop := c = 97 ∨ c = 98 ∨ c = 65 ∨ c = 66 ∨ c = 46
theorem esc_sg {P : Params} {c : Cx} (h : CF (KK P) c) (k : Nat) (hk : Sg k) : oTrans 59 (tbOf (escT h).1) [encW [k], .adr 59] = some (encW (escC k)) := by
  have e : ∀ k, tbOf (escT h).1 k = none → k < 128 → oTrans 59 (tbOf (escT h).1) [encW [k], .adr 59] = some (encW [k]) := fun k h1 h2 => by
    show (if (59 : Nat) = 59 then (if k < 128 then (match tbOf (escT h).1 k with | none => some (D.str ⟨#[k]⟩) | some y => if y.length = 2 then some (.str y) else none) else none) else none) = _
    rw [if_pos rfl, if_pos h2, h1]
    rfl
  rcases hk with rfl | rfl | rfl | rfl | rfl
  · exact e 97 (by kernel_rfl) (by omega)
  · exact e 98 (by kernel_rfl) (by omega)
  · exact e 65 (by kernel_rfl) (by omega)
  · exact e 66 (by kernel_rfl) (by omega)
  · have h1 : tbOf (escT h).1 46 = some ⟨#[92, 46]⟩ := by kernel_rfl
    show (if (59 : Nat) = 59 then (if 46 < 128 then (match tbOf (escT h).1 46 with | none => some (D.str ⟨#[46]⟩) | some y => if y.length = 2 then some (.str y) else none) else none) else none) = _
    rw [if_pos rfl, if_pos (by omega), h1]
    rfl
theorem E69_of {P : Params} {c : Cx} (h : CF (KK P) c) (k : Nat) (hk : Sg k) : E69 h [encW [k]] = some (encW (escC k)) := by
  refine runF_of rfl ?_
  have hT := esc_sg h k hk
  have hI : oIsStr [encW [k], .ty "str"] = some (.bool true) := rfl
  obtain ⟨r0, hr⟩ : ∃ r0 : Rho, r0 = (["pattern"] : List Str).zip (List.map Ent.sh [encW [k]]) := ⟨_, rfl⟩
  rw [← hr]
  have g1 : r0.get "pattern" = some (.sh (encW [k])) := by rw [hr]; rfl
  clear hr
  unfold Tescape packT
  dsimp only
  refine seq_gives ⟨r0, ?_⟩
  simp only [g1, Option.bind_some, hI, oTruth, if_true, seqF]
  unfold encW at hT ⊢
  simp only [Option.bind_some, hT]
end Mine
end SN1

/-! N2 -/
noncomputable section SN2
namespace Mine
/-! ### a pattern's parts -/
inductive Tk where
  | star
  | one (c : Nat)
  | quest
  | br (s : List Nat)
def brs : List (List Nat) := [[42], [63], [91], [97, 65], [98, 66]]
def Tk.src : Tk → List Nat
  | .star => [42]
  | .one c => [c]
  | .quest => [63]
  | .br s => 91 :: (s ++ [93])
def Tk.ok : Tk → Prop
  | .one c => Sg c
  | .br s => s ∈ brs
  | _ => True
def brT (s : List Nat) : List Nat := if s = [91] then [92, 91] else s
def Tk.txt : Tk → List Nat
  | .star => []
  | .one c => escC c
  | .quest => [46]
  | .br s => 91 :: (brT s ++ [93])
def isAdr : D → Bool
  | .adr _ => true
  | _ => false
def lastStar (res : List D) : Bool := (res.getLast?.map isAdr).getD false
def addT (a : Addr) (res : List D) : Tk → List D
  | .star => if lastStar res then res else res ++ [.adr a]
  | t => res ++ [encW t.txt]
def srcs (ts : List Tk) : List Nat := ts.flatMap Tk.src
theorem cut_mid (l : List Nat) (i j : Nat) (h1 : i ≤ j) (h2 : j ≤ l.length) : cutS (T l) (some (i : Int)) (some (j : Int)) = T ((l.drop i).take (j - i)) := by
  unfold cutS cutL T
  simp only [Option.elim, clip_pos, Str.mk.injEq]
  rw [Nat.min_eq_left h2, Nat.min_eq_left (Nat.le_trans h1 h2)]
theorem last_idx (l : List D) (h : l ≠ []) (hl : l.length ≤ lim) : oIdx (.list l) (.int (-1)) = l.getLast? := by
  have hp : 0 < l.length := List.length_pos_iff.mpr h
  unfold oIdx
  dsimp only
  rw [if_pos hl]
  have : seqIndex? (-1) l.length = some (l.length - 1) := by
    unfold seqIndex?
    have e : ((-1 : Int) < 0) := by decide
    simp only [e, if_true]
    rw [if_pos (by simp; omega)]
    congr 1
    omega
  rw [this, List.getLast?_eq_getElem?]
  rfl
theorem getD_mid (pre : List Nat) (x : Nat) (post : List Nat) : (pre ++ x :: post).getD pre.length 0 = x := by
  rw [List.getD_eq_getElem?_getD, List.getElem?_append_right (Nat.le_refl _)]
  simp
theorem idx_mid (pre : List Nat) (x : Nat) (post : List Nat) (h : (pre ++ x :: post).length ≤ lim) (j : Int) (hj : j = (pre.length : Int)) : oIdx (.str (T (pre ++ x :: post))) (.int j) = some (.str (T [x])) := by
  rw [hj, idx_a _ _ (by simp) h, getD_mid]
structure TI (a : Addr) (P : List Nat) (u : Nat) (res : List D) (r : Rho) : Prop where
  gp : r.get "pat" = some (.sh (.str (T P)))
  gi : r.get "i" = some (.sh (.int (u : Int)))
  gn : r.get "n" = some (.sh (.int (P.length : Int)))
  gr : r.get "res" = some (.own res)
  ga : r.get "add" = some (.app "res")
  gq : r.get "QUESTION_MARK" = some (.sh (.str (T [46])))
  gs : r.get "STAR" = some (.sh (.adr a))
theorem TI.app {a : Addr} {P : List Nat} {u : Nat} {res : List D} {r : Rho} (I : TI a P u res r) (d : D) : TI a P u (res ++ [d]) (r.put "res" (.own (res ++ [d]))) := by
  constructor <;> simp (config := {decide := true}) only [Rho.get_put, if_true, if_false, I.gp, I.gi, I.gn, I.ga, I.gq, I.gs]
theorem isNot_star (a : Addr) (d : D) (h : (∃ x, d = .str x) ∨ d = .adr a) : oIsNot d (.adr a) = some (.bool (!isAdr d)) := by
  rcases h with ⟨x, rfl⟩ | rfl
  · rfl
  · show ((if a = a then some (D.bool true) else none).bind fun d => (asB d).map fun t => D.bool (!t)) = _
    rw [if_pos rfl]
    rfl
/-- what may stand among the parts -/
def Item (a : Addr) (d : D) : Prop := (∃ x, d = .str x) ∨ d = .adr a
theorem addT_item (a : Addr) (res : List D) (t : Tk) (h : ∀ d ∈ res, Item a d) : ∀ d ∈ addT a res t, Item a d := by
  intro d hd
  cases t with
  | star =>
    simp only [addT] at hd
    split at hd
    · exact h d hd
    · rcases List.mem_append.mp hd with q | q
      · exact h d q
      · rw [List.mem_singleton.mp q]; exact .inr rfl
  | one c =>
    rcases List.mem_append.mp hd with q | q
    · exact h d q
    · rw [List.mem_singleton.mp q]; exact .inl ⟨_, rfl⟩
  | quest =>
    rcases List.mem_append.mp hd with q | q
    · exact h d q
    · rw [List.mem_singleton.mp q]; exact .inl ⟨_, rfl⟩
  | br s =>
    rcases List.mem_append.mp hd with q | q
    · exact h d q
    · rw [List.mem_singleton.mp q]; exact .inl ⟨_, rfl⟩
theorem TI.other {a : Addr} {P : List Nat} {u : Nat} {res : List D} {r r1 : Rho} (I : TI a P u res r) {x : Str} {e : Ent} (J : ∀ y, r1.get y = if y = x then some e else (r.get y).map (Ent.kill x))
    (hx : ∀ y ∈ (["pat", "i", "n", "res", "add", "QUESTION_MARK", "STAR"] : List Str), y ≠ x) : TI a P u res r1 := by
  constructor
  · rw [J, if_neg (hx _ (by decide)), I.gp]; rfl
  · rw [J, if_neg (hx _ (by decide)), I.gi]; rfl
  · rw [J, if_neg (hx _ (by decide)), I.gn]; rfl
  · rw [J, if_neg (hx _ (by decide)), I.gr]; rfl
  · rw [J, if_neg (hx _ (by decide)), I.ga, Option.map_some, kill_app (hx _ (by decide))]
  · rw [J, if_neg (hx _ (by decide)), I.gq]; rfl
  · rw [J, if_neg (hx _ (by decide)), I.gs]; rfl
theorem TI.seti {a : Addr} {P : List Nat} {u v : Nat} {res : List D} {r r1 : Rho} (I : TI a P u res r) (J : ∀ y, r1.get y = if y = ("i" : Str) then some (.sh (.int (v : Int))) else (r.get y).map (Ent.kill "i")) : TI a P v res r1 := by
  constructor
  · rw [J, if_neg (by decide), I.gp]; rfl
  · rw [J, if_pos rfl]
  · rw [J, if_neg (by decide), I.gn]; rfl
  · rw [J, if_neg (by decide), I.gr]; rfl
  · rw [J, if_neg (by decide), I.ga, Option.map_some, kill_app (by decide)]
  · rw [J, if_neg (by decide), I.gq]; rfl
  · rw [J, if_neg (by decide), I.gs]; rfl
theorem get_sh {r r1 : Rho} {x y : Str} {e : Ent} {d : D} (J : ∀ y, r1.get y = if y = x then some e else (r.get y).map (Ent.kill x)) (h : r.get y = some (.sh d)) (hy : y ≠ x) : r1.get y = some (.sh d) := by
  rw [J, if_neg hy, h]; rfl
theorem seqF_id (f : Rho → Option (Rho × Fl)) (r : Rho) : seqF f (fun r => some (r, .next)) r = f r := by
  unfold seqF
  cases h : f r with
  | none => rfl
  | some p =>
    obtain ⟨r1, fl⟩ := p
    cases fl <;> rfl
theorem srcs_split (ts : List Tk) (k : Nat) (hk : k < ts.length) : srcs ts = srcs (ts.take k) ++ (ts[k].src ++ srcs (ts.drop (k + 1))) ∧ srcs (ts.take (k + 1)) = srcs (ts.take k) ++ ts[k].src ∧ ts.take (k + 1) = ts.take k ++ [ts[k]] := by
  have h1 : ts.take (k + 1) = ts.take k ++ [ts[k]] := by rw [List.take_add_one, List.getElem?_eq_getElem hk]; rfl
  have h2 : srcs (ts.take (k + 1)) = srcs (ts.take k) ++ ts[k].src := by
    unfold srcs
    rw [h1, List.flatMap_append]
    simp
  refine ⟨?_, h2, h1⟩
  have h3 : ts = ts.take (k + 1) ++ ts.drop (k + 1) := (List.take_append_drop _ _).symm
  have h4 : srcs ts = srcs (ts.take (k + 1)) ++ srcs (ts.drop (k + 1)) := by
    conv => lhs; rw [h3]
    unfold srcs
    rw [List.flatMap_append]
  rw [h4, h2, List.append_assoc]
theorem ts_len : ∀ (ts : List Tk), ts.length ≤ (srcs ts).length
  | [] => Nat.zero_le _
  | t :: ts => by
    have h1 := ts_len ts
    have h4 : (srcs (t :: ts)).length = t.src.length + (srcs ts).length := by unfold srcs; rw [List.flatMap_cons, List.length_append]
    have h3 : 0 < t.src.length := by cases t <;> simp [Tk.src]
    rw [List.length_cons]
    omega
theorem src_pos (t : Tk) : 0 < t.src.length := by cases t <;> simp [Tk.src]
theorem addT_len (a : Addr) (res : List D) (t : Tk) : (addT a res t).length ≤ res.length + 1 := by
  cases t <;> simp only [addT] <;> (try split) <;> simp
theorem fold_len (a : Addr) : ∀ (ts : List Tk) (res : List D), (ts.foldl (addT a) res).length ≤ res.length + (srcs ts).length
  | [], res => by simp [srcs]
  | t :: ts, res => by
    have h1 := fold_len a ts (addT a res t)
    have h2 := addT_len a res t
    have h3 := src_pos t
    have h4 : (srcs (t :: ts)).length = t.src.length + (srcs ts).length := by unfold srcs; rw [List.flatMap_cons, List.length_append]
    rw [List.foldl_cons]
    omega
theorem fold_item (a : Addr) : ∀ (ts : List Tk) (res : List D), (∀ d ∈ res, Item a d) → ∀ d ∈ ts.foldl (addT a) res, Item a d
  | [], _, h => h
  | t :: ts, res, h => fold_item a ts _ (addT_item a res t h)
theorem nx_skip {f g : Rho → Option (Rho × Fl)} {r : Rho} {K : Rho → Prop} (hf : f r = some (r, .next)) (h : ∃ r', g r = some (r', .next) ∧ K r') : ∃ r', seqF f g r = some (r', .next) ∧ K r' := by
  rw [seqF_next hf]; exact h
theorem nx_step {f g : Rho → Option (Rho × Fl)} {r : Rho} {K : Rho → Prop} (J : Rho → Prop) (hf : ∃ r1, f r = some (r1, .next) ∧ J r1) (h : ∀ r1, J r1 → ∃ r', g r1 = some (r', .next) ∧ K r') : ∃ r', seqF f g r = some (r', .next) ∧ K r' := by
  obtain ⟨r1, e, j⟩ := hf
  rw [seqF_next e]; exact h r1 j
theorem brs_chars : ∀ sb ∈ brs, 0 < sb.length ∧ sb.length ≤ 2 ∧ ∀ m, m < sb.length → sb.getD m 0 ≠ 93 ∧ sb.getD m 0 ≠ 33 := by decide
theorem brs_sub : ∀ sb ∈ brs, T sb ∈ subTs := by decide
theorem brs_dash : ∀ sb ∈ brs, oNotIn (.str "-") (.str (T sb)) = some (.bool true) := by
  intro sb h
  simp only [brs, List.mem_cons, List.not_mem_nil, or_false] at h
  rcases h with rfl | rfl | rfl | rfl | rfl <;> kernel_rfl
theorem brs_repl : ∀ sb ∈ brs, oRepl [.str (T sb), .str "\\", .str "\\\\"] = some (.str (T sb)) := by
  intro sb h
  simp only [brs, List.mem_cons, List.not_mem_nil, or_false] at h
  rcases h with rfl | rfl | rfl | rfl | rfl <;> kernel_rfl
theorem excl : ("!" : Str) = T [33] := by decide
theorem cbrk : ("]" : Str) = T [93] := by decide
theorem oGe_int (a b : Int) : oGe (.int a) (.int b) = some (.bool (decide (a ≥ b))) := rfl
theorem oNe_str (x y : Str) : oNe (.str x) (.str y) = some (.bool (x != y)) := rfl
theorem sgn_ne (a b : Nat) : (T [a] != T [b]) = (a != b) := by
  show (!(T [a] == T [b])) = !(a == b)
  rw [sgn]
theorem brs_ne : ∀ sb ∈ brs, (T sb == ("!" : Str)) = false := by decide
theorem brs_tup : ∀ sb ∈ brs, oTup ("^" : Str) (T [91]) (.str (T [sb.getD 0 0])) = some (decide (sb = [91])) := by
  intro sb h
  simp only [brs, List.mem_cons, List.not_mem_nil, or_false] at h
  rcases h with rfl | rfl | rfl | rfl | rfl <;> kernel_rfl
theorem strLim_T (l : List Nat) (h : l.length ≤ lim) : strLim (.str (T l)) = some (.str (T l)) := by
  unfold strLim
  dsimp only
  rw [if_pos (by rw [T_len]; exact h)]
theorem fold3 (w : List Nat) : List.foldl (fun x1 x2 => x1 ++ x2) Str.empty [T [91], T w, ("]" : Str)] = T (91 :: (w ++ [93])) := by
  show ((T [] ++ T [91]) ++ T w) ++ ("]" : Str) = _
  rw [cbrk, T_append, T_append, T_append]
  rfl
theorem back : ("\\" : Str) = T [92] := by decide
structure BJ (a : Addr) (P : List Nat) (u : Nat) (res : List D) (j : Nat) (r : Rho) : Prop where
  ti : TI a P u res r
  gj : r.get "j" = some (.sh (.int (j : Int)))
theorem tra1_gives {P0 : Params} {c : Cx} (h : CF (KK P0) c) (hL : LamOk c 75 71) (hpat : ∀ h, Glo c h → IsPat h 50 patCode 1) (hfn0 : ∀ fa ob fd, c.FT fa = some ob → ob.data = .func fd → fd.scope = scT → fd.code = .ref 75)
    (a : Addr) (ts : List Tk) (hts : ∀ t ∈ ts, t.ok) (hl : (srcs ts).length ≤ 100) (r0 : Rho) (g1 : r0.get "pat" = some (.sh (.str (T (srcs ts))))) (g2 : r0.get "QUESTION_MARK" = some (.sh (.str (T [46])))) (g3 : r0.get "STAR" = some (.sh (.adr a))) :
    Gives ((T_translate h (esc_ok h) hL hpat hfn0).1 r0) (.list (ts.foldl (addT a) [])) := by
  have hlim := lim_eq
  generalize hP : srcs ts = P at *
  have lp : P.length ≤ lim := by omega
  unfold T_translate packT
  dsimp only
  have l0 : ([] : List D).length ≤ lim := by simp
  refine seq_put "res" (.own []) (by simp only [Option.bind_some, if_pos l0]) fun r1 I1 => ?_
  have a1 : r1.get "pat" = some (.sh (.str (T P))) := by rw [I1, if_neg (by decide), g1]; rfl
  have a2 : r1.get "QUESTION_MARK" = some (.sh (.str (T [46]))) := by rw [I1, if_neg (by decide), g2]; rfl
  have a3 : r1.get "res" = some (.own []) := by rw [I1, if_pos rfl]
  have a4 : r1.get "STAR" = some (.sh (.adr a)) := by rw [I1, if_neg (by decide), g3]; rfl
  clear I1 g1 g2 g3
  refine seq_put "add" (.app "res") (by simp only [getOwn, a3, Option.bind_some]) fun r2 I2 => ?_
  have b1 : r2.get "pat" = some (.sh (.str (T P))) := by rw [I2, if_neg (by decide), a1]; rfl
  have b2 : r2.get "QUESTION_MARK" = some (.sh (.str (T [46]))) := by rw [I2, if_neg (by decide), a2]; rfl
  have b3 : r2.get "res" = some (.own []) := by rw [I2, if_neg (by decide), a3]; rfl
  have b4 : r2.get "add" = some (.app "res") := by rw [I2, if_pos rfl]
  have b5 : r2.get "STAR" = some (.sh (.adr a)) := by rw [I2, if_neg (by decide), a4]; rfl
  clear I2 a1 a2 a3 a4
  refine seq_step (TI a P 0 []) ⟨_, by simp only [b1, Option.bind_some, len_T _ lp]; rfl, ?_⟩ fun r3 I3 => ?_
  · constructor <;> simp (config := {decide := true}) only [get_kp, if_true, if_false, b1, b2, b3, b4, b5, Option.map_some, kill_sh, kill_own, kill_app, List.take_zero, List.map_nil, Int.natCast_zero, ne_eq, not_false_eq_true]
  refine seq_step (TI a P (srcs (ts.take ts.length)).length ((ts.take ts.length).foldl (addT a) [])) (while_upto (fun k r => TI a P (srcs (ts.take k)).length ((ts.take k).foldl (addT a) []) r) ts.length (fun k r I hk => ?_) (fun k r I hk => ?_) lim 0 r3 ?_ (Nat.zero_le _) (by exact I3)) fun r4 I4 => ?_
  · simp only [I.gi, I.gn, Option.bind_some, oLt_int, asB]
    congr 1
    by_cases hlt : k < ts.length
    · obtain ⟨e1, _, _⟩ := srcs_split ts k hlt
      have := src_pos ts[k]
      rw [decide_eq_true hlt, decide_eq_true_eq, ← hP, e1, List.length_append, List.length_append]
      omega
    · have : k = ts.length := by omega
      subst this
      rw [List.take_length, hP, decide_eq_false hlt]
      exact decide_eq_false (by omega)
  · obtain ⟨e1, e2, e3⟩ := srcs_split ts k hk
    have hlen0 := fold_len a (ts.take k) []
    have hit := fold_item a (ts.take k) [] (fun d hd => by cases hd)
    have hok := hts _ (List.getElem_mem hk)
    rw [e2, e3, List.foldl_append, List.foldl_cons, List.foldl_nil, List.length_append]
    rw [hP] at e1
    generalize srcs (ts.take k) = pre at *
    generalize (ts.take k).foldl (addT a) [] = res at *
    generalize srcs (ts.drop (k + 1)) = post at *
    generalize ts[k] = t at *
    have hlen : res.length < lim := by
      have : pre.length ≤ P.length := by rw [e1, List.length_append]; omega
      simp only [List.length_nil] at hlen0
      omega
    obtain ⟨ch, tl, hsrc⟩ : ∃ ch tl, t.src = ch :: tl := by cases t <;> exact ⟨_, _, rfl⟩
    rw [hsrc, List.cons_append] at e1
    have lp' := lp
    rw [e1] at lp'
    refine nx_put "c" (.sh (.str (T [ch]))) (by simp only [I.gp, I.gi, Option.bind_some]; rw [e1, idx_mid pre ch _ lp' _ rfl]; rfl) fun q1 J1 => ?_
    have I1 : TI a P pre.length res q1 := I.other J1 (by decide)
    have c1 : q1.get "c" = some (.sh (.str (T [ch]))) := by rw [J1, if_pos rfl]
    refine nx_put "i" (.sh (.int ((pre.length + 1 : Nat) : Int))) (by simp only [I1.gi, Option.bind_some, oAdd_int]; rfl) fun q2 J2 => ?_
    have I2 : TI a P (pre.length + 1) res q2 := I1.seti J2
    have c2 : q2.get "c" = some (.sh (.str (T [ch]))) := get_sh J2 c1 (by decide)
    clear I I1 c1 J1 J2
    have ha := getApp_of I2.ga I2.gr
    simp only [seqF_id, c2, star, quest, brk, Option.bind_some, oEq_str, sgn]
    cases t with
    | star =>
      cases hsrc
      have e0 : ((42 : Nat) == 42) = true := by decide
      have hadd : ∃ r', (if res.length < lim then some (q2.put "res" (Ent.own (res ++ [D.adr a])), Fl.next) else none) = some (r', Fl.next) ∧ TI a P (pre.length + 1) (res ++ [D.adr a]) r' := ⟨_, if_pos hlen, I2.app _⟩
      by_cases hr : res = []
      · subst hr
        have t0 : oTruth (.list []) = some false := by unfold oTruth; dsimp only; rw [if_pos l0]; rfl
        simp only [e0, asB, Option.bind_some, if_true, I2.gr, t0, Option.map_some, Bool.not_false, ha, I2.gs]
        exact hadd
      · have t0 : oTruth (.list res) = some true := by
          unfold oTruth; dsimp only; rw [if_pos (Nat.le_of_lt hlen)]
          cases res with
          | nil => exact absurd rfl hr
          | cons _ _ => rfl
        have hn : oNeg (.int 1) = some (.int (-1)) := rfl
        obtain ⟨d, hd⟩ : ∃ d, res.getLast? = some d := ⟨_, List.getLast?_eq_some_getLast hr⟩
        have hdm : d ∈ res := List.mem_of_getLast? hd
        have hls : lastStar res = isAdr d := by unfold lastStar; rw [hd]; rfl
        simp only [e0, asB, Option.bind_some, if_true, I2.gr, t0, Option.map_some, Bool.not_true, hn, last_idx res hr (Nat.le_of_lt hlen), hd, I2.gs, isNot_star a d (hit d hdm), Bool.false_eq_true, if_false, ha, addT, hls]
        cases isAdr d with
        | true => exact ⟨q2, rfl, I2⟩
        | false => exact hadd
    | one ch' =>
      cases hsrc
      have hne : ch ≠ 42 ∧ ch ≠ 63 ∧ ch ≠ 91 := by rcases hok with rfl | rfl | rfl | rfl | rfl <;> decide
      have e1' : (ch == 42) = false := by rw [beq_eq_false_iff_ne]; exact hne.1
      have e2' : (ch == 63) = false := by rw [beq_eq_false_iff_ne]; exact hne.2.1
      have e3' : (ch == 91) = false := by rw [beq_eq_false_iff_ne]; exact hne.2.2
      have e5 := E69_of h ch hok
      unfold encW at e5
      simp only [e1', e2', e3', asB, Option.bind_some, Bool.false_eq_true, if_false, ha, e5, if_pos hlen]
      exact ⟨_, rfl, I2.app _⟩
    | quest =>
      cases hsrc
      have e1' : ((63 : Nat) == 42) = false := by decide
      have e2' : ((63 : Nat) == 63) = true := by decide
      simp only [e1', e2', asB, Option.bind_some, Bool.false_eq_true, if_false, if_true, ha, I2.gq, if_pos hlen]
      exact ⟨_, rfl, I2.app _⟩
    | br sb =>
      cases hsrc
      have e1' : ((91 : Nat) == 42) = false := by decide
      have e2' : ((91 : Nat) == 63) = false := by decide
      have e3' : ((91 : Nat) == 91) = true := by decide
      simp only [e1', e2', e3', asB, Option.bind_some, Bool.false_eq_true, if_false, if_true]
      obtain ⟨hb1, hb2, hb3⟩ := brs_chars sb hok
      have hlenP : P.length = pre.length + (1 + (sb.length + (1 + post.length))) := by
        rw [e1]; simp only [List.length_append, List.length_cons, List.length_nil]; omega
      have idxw : ∀ m, m ≤ sb.length → oIdx (.str (T P)) (.int ((pre.length + 1 + m : Nat) : Int)) = some (.str (T [(sb ++ [93]).getD m 0])) := fun m hm => by
        rw [idx_a P _ (by omega) lp]
        congr 4
        rw [e1, List.getD_eq_getElem?_getD, List.getElem?_append_right (by omega), show pre.length + 1 + m - pre.length = m + 1 by omega, List.getElem?_cons_succ, List.getElem?_append_left (by simp; omega), List.getD_eq_getElem?_getD]
      have w0 : (sb ++ [93]).getD 0 0 = sb.getD 0 0 := by
        rw [List.getD_eq_getElem?_getD, List.getElem?_append_left hb1, List.getD_eq_getElem?_getD]
      have i0 := idxw 0 (Nat.zero_le _)
      rw [Nat.add_zero, w0] at i0
      have hlt0 : decide (((pre.length + 1 : Nat) : Int) < (P.length : Int)) = true := decide_eq_true (by omega)
      refine nx_put "j" (.sh (.int ((pre.length + 1 : Nat) : Int))) (by simp only [I2.gi, Option.bind_some]) fun q3 J3 => ?_
      have I3' : TI a P (pre.length + 1) res q3 := I2.other J3 (by decide)
      have j3 : q3.get "j" = some (.sh (.int ((pre.length + 1 : Nat) : Int))) := by rw [J3, if_pos rfl]
      clear J3
      have x1 : (sb.getD 0 0 == 33) = false := by rw [beq_eq_false_iff_ne]; exact (hb3 0 hb1).2
      have x2 : (sb.getD 0 0 == 93) = false := by rw [beq_eq_false_iff_ne]; exact (hb3 0 hb1).1
      refine nx_skip (by simp only [j3, I3'.gn, I3'.gp, Option.bind_some, oLt_int, asB, hlt0, if_true, i0, excl, oEq_str, sgn, x1, Bool.false_eq_true, if_false]) ?_
      refine nx_skip (by simp only [j3, I3'.gn, I3'.gp, Option.bind_some, oLt_int, asB, hlt0, if_true, i0, cbrk, oEq_str, sgn, x2, Bool.false_eq_true, if_false]) ?_
      refine nx_step (BJ a P (pre.length + 1) res (pre.length + 1 + sb.length)) (while_upto (fun m r => BJ a P (pre.length + 1) res (pre.length + 1 + m) r) sb.length (fun m r B hm => ?_) (fun m r B hm => ?_) lim 0 q3 (by omega) (Nat.zero_le _) ⟨I3', j3⟩) fun q6 B6 => ?_
      · have hlt : decide (((pre.length + 1 + m : Nat) : Int) < (P.length : Int)) = true := decide_eq_true (by omega)
        simp only [B.gj, B.ti.gn, B.ti.gp, Option.bind_some, oLt_int, asB, hlt, if_true, idxw m hm, cbrk, oNe_str, sgn_ne]
        by_cases hms : m < sb.length
        · have : ((sb ++ [93]).getD m 0 != 93) = true := by
            rw [bne_iff_ne, List.getD_eq_getElem?_getD, List.getElem?_append_left hms, ← List.getD_eq_getElem?_getD]
            exact (hb3 m hms).1
          rw [this, decide_eq_true hms, if_pos rfl]
        · have hme : m = sb.length := by omega
          subst hme
          have : ((sb ++ [93]).getD sb.length 0 != 93) = false := by
            rw [List.getD_eq_getElem?_getD, List.getElem?_append_right (Nat.le_refl _)]
            simp
          rw [this, decide_eq_false hms, if_neg Bool.false_ne_true]
      · refine ⟨_, by simp only [seqF_id, B.gj, Option.bind_some, oAdd_int]; rfl, ?_⟩
        refine ⟨B.ti.other (x := "j") (e := .sh (.int (((pre.length + 1 + m : Nat) : Int) + 1))) (fun y => get_kp r "j" y _) (by decide), ?_⟩
        rw [get_kp, if_pos rfl]
        congr 3
      have hge : decide (((pre.length + 1 + sb.length : Nat) : Int) ≥ (P.length : Int)) = false := decide_eq_false (by omega)
      have I6 := B6.ti
      have j6 := B6.gj
      clear B6 I3' j3 I2 c2
      simp only [seqF_id, j6, I6.gn, Option.bind_some, oGe_int, asB, hge, Bool.false_eq_true, if_false]
      have hcut : oCut (.str (T P)) (some ((pre.length + 1 : Nat) : Int)) (some ((pre.length + 1 + sb.length : Nat) : Int)) = some (.str (T sb)) := by
        rw [cut_ok _ _ _ lp, cut_mid P _ _ (by omega) (by omega)]
        congr 3
        rw [e1, show pre.length + 1 + sb.length - (pre.length + 1) = sb.length by omega, show pre.length + 1 = (pre ++ [91]).length by simp, show pre ++ 91 :: (sb ++ [93] ++ post) = (pre ++ [91]) ++ (sb ++ ([93] ++ post)) by simp, List.drop_left, List.take_left]
      refine nx_put "stuff" (.sh (.str (T sb))) (by simp only [I6.gp, I6.gi, j6, Option.bind_some, asPart, hcut]) fun q7 J7 => ?_
      have I7 : TI a P (pre.length + 1) res q7 := I6.other J7 (by decide)
      have j7 := get_sh J7 j6 (by decide)
      have s7 : q7.get "stuff" = some (.sh (.str (T sb))) := by rw [J7, if_pos rfl]
      clear J7 I6 j6
      refine nx_put "stuff" (.sh (.str (T sb))) (by simp only [s7, Option.bind_some, brs_dash sb hok, asB, if_true, brs_repl sb hok]) fun q8 J8 => ?_
      have I8 : TI a P (pre.length + 1) res q8 := I7.other J8 (by decide)
      have j8 := get_sh J8 j7 (by decide)
      have s8 : q8.get "stuff" = some (.sh (.str (T sb))) := by rw [J8, if_pos rfl]
      clear J8 I7 j7 s7
      refine nx_put "stuff" (.sh (.str (T sb))) (by simp only [s8, if_pos (brs_sub sb hok)]) fun q9 J9 => ?_
      have I9 : TI a P (pre.length + 1) res q9 := I8.other J9 (by decide)
      have j9 := get_sh J9 j8 (by decide)
      have s9 : q9.get "stuff" = some (.sh (.str (T sb))) := by rw [J9, if_pos rfl]
      clear J9 I8 j8 s8
      refine nx_put "i" (.sh (.int ((pre.length + 1 + sb.length + 1 : Nat) : Int))) (by simp only [j9, Option.bind_some, oAdd_int]; rfl) fun q10 J10 => ?_
      have I10 : TI a P (pre.length + 1 + sb.length + 1) res q10 := I9.seti J10
      have s10 := get_sh J10 s9 (by decide)
      clear J10 I9 j9 s9
      have ht : oTruth (.str (T sb)) = some true := by
        rw [truth_T sb (by omega)]
        cases sb with
        | nil => exact absurd hb1 (Nat.lt_irrefl _)
        | cons _ _ => rfl
      simp only [seqF_id, s10, Option.bind_some, ht, Option.map_some, Bool.not_true, Bool.false_eq_true, if_false, oEq_str, brs_ne sb hok, asB]
      have i00 := idx_a sb 0 hb1 (by omega)
      refine nx_step (fun r => TI a P (pre.length + 1 + sb.length + 1) res r ∧ r.get "stuff" = some (.sh (.str (T (brT sb))))) ?_ fun q11 B11 => ?_
      · have i00' : oIdx (.str (T sb)) (.int 0) = some (.str (T [sb.getD 0 0])) := i00
        simp only [s10, Option.bind_some, i00', excl, oEq_str, sgn, x1, asB, Bool.false_eq_true, if_false, brs_tup sb hok]
        by_cases h91 : sb = [91]
        · subst h91
          rw [decide_eq_true rfl, if_pos rfl, back]
          have ea := oAdd_T [92] [91] (by simp only [List.length_cons, List.length_nil]; omega)
          refine ⟨_, by simp only [ea, Option.bind_some], I10.other (x := "stuff") (e := .sh (.str (T ([92] ++ [91])))) (fun y => get_kp q10 "stuff" y _) (by decide), ?_⟩
          rw [get_kp, if_pos rfl]
          rfl
        · rw [decide_eq_false h91, if_neg Bool.false_ne_true]
          exact ⟨q10, rfl, I10, by rw [s10]; unfold brT; rw [if_neg h91]⟩
      obtain ⟨I11, s11⟩ := B11
      have hw : (brT sb).length ≤ 2 := by
        unfold brT
        split
        · simp
        · exact hb2
      have ha' := getApp_of I11.ga I11.gr
      have hsum : (List.map (fun x => Str.length x) [T [91], T (brT sb), ("]" : Str)]).sum ≤ lim := by
        rw [cbrk]
        simp only [List.map_cons, List.map_nil, T_len, List.sum_cons, List.sum_nil, List.length_cons, List.length_nil]
        omega
      simp only [seqF_id, ha', s11, Option.bind_some, strLim_T _ (show (brT sb).length ≤ lim by omega), Option.map_some, if_pos hsum, fold3, if_pos hlen]
      refine ⟨_, rfl, ?_⟩
      have := I11.app (encW (91 :: (brT sb ++ [93])))
      have eu : pre.length + 1 + sb.length + 1 = pre.length + (91 :: (sb ++ [93])).length := by
        simp only [List.length_cons, List.length_append, List.length_nil]
        omega
      rw [eu] at this
      exact this
  · have := ts_len ts
    rw [hP] at this
    omega
  rw [List.take_length, hP] at I4
  refine seq_step (TI a P P.length (ts.foldl (addT a) [])) ⟨r4, by simp only [I4.gi, I4.gn, Option.bind_some, oEq_int, asB, beq_self_eq_true, if_true], I4⟩ fun r5 I5 => ?_
  refine seq_done ?_
  simp only [I5.gr, Option.bind_some]
end Mine
end SN2

/-! N3 -/
noncomputable section SN3
namespace Mine
theorem len_L (l : List D) (hl : l.length ≤ lim) : oLen [.list l] = some (.int (l.length : Int)) := by
  unfold oLen
  dsimp only
  rw [if_pos hl]
theorem idx_L (l : List D) (i : Nat) (d : D) (hd : l[i]? = some d) (hl : l.length ≤ lim) : oIdx (.list l) (.int (i : Int)) = some d := by
  unfold oIdx
  dsimp only
  rw [if_pos hl]
  have hi : i < l.length := (List.getElem?_eq_some_iff.mp hd).1
  have : seqIndex? (i : Int) l.length = some i := by
    unfold seqIndex?
    have e : ¬ ((i : Int) < 0) := by omega
    simp only [e, if_false]
    rw [if_pos (by simp; omega)]
    simp
  rw [this]
  exact hd
theorem strsOf_W : ∀ l : List (List Nat), strsOf (l.map encW) = some (l.map T)
  | [] => rfl
  | x :: l => by
    rw [List.map_cons]
    show (strsOf (l.map encW)).map (T x :: ·) = _
    rw [strsOf_W l]
    rfl
theorem join_T : ∀ (l : List (List Nat)) (x : List Nat), (l.map T).foldl (fun acc p => acc ++ (T []).cps ++ p.cps) (T x).cps = (T (x ++ l.flatten)).cps
  | [], x => by simp
  | y :: l, x => by
    rw [List.map_cons, List.foldl_cons]
    have : (T x).cps ++ (T []).cps ++ (T y).cps = (T (x ++ y)).cps := by
      unfold T
      simp
    rw [this, join_T l (x ++ y), List.flatten_cons, List.append_assoc]
theorem oJoin_W (l : List (List Nat)) (h : l.flatten.length ≤ lim) : oJoin [.str (T []), .list (l.map encW)] = some (.str (T l.flatten)) := by
  unfold oJoin
  dsimp only
  rw [strsOf_W]
  dsimp only [Option.bind_some]
  have hs : ((l.map T).map (·.length)).sum + (l.map T).length * (T []).length = l.flatten.length := by
    rw [T_len, List.length_nil, Nat.mul_zero, Nat.add_zero, List.map_map, List.length_flatten]
    congr 1
  rw [if_pos (by rw [hs]; exact h)]
  congr 2
  cases l with
  | nil => rfl
  | cons x l =>
    show (⟨_⟩ : Str) = _
    have := join_T l x
    show (⟨(l.map T).foldl (fun acc p => acc ++ (T []).cps ++ p.cps) (T x).cps⟩ : Str) = _
    rw [this]
    rfl
theorem while_brk {ft : Rho → Option Bool} {fb : Rho → Option (Rho × Fl)} (Inv : Nat → Rho → Prop) (K : Rho → Prop) (m : Nat) (hft : ∀ k r, Inv k r → k ≤ m → ft r = some true) (hstep : ∀ k r, Inv k r → k < m → ∃ r', fb r = some (r', .next) ∧ Inv (k + 1) r')
    (hbrk : ∀ r, Inv m r → ∃ r', fb r = some (r', .brk) ∧ K r') : ∀ (N k : Nat) (r : Rho), m - k < N → k ≤ m → Inv k r → ∃ r', whileF ft fb N r = some (r', .next) ∧ K r'
  | 0, _, _, h, _, _ => absurd h (Nat.not_lt_zero _)
  | N + 1, k, r, h, hk, I => by
    unfold whileF
    rw [hft k r I hk]
    dsimp only [Option.bind_some]
    by_cases hc : k < m
    · obtain ⟨r', e, I'⟩ := hstep k r I hc
      rw [e]
      exact while_brk Inv K m hft hstep hbrk N (k + 1) r' (by omega) hc I'
    · have : k = m := by omega
      subst this
      obtain ⟨r', e, k'⟩ := hbrk r I
      rw [e]
      exact ⟨r', rfl, k'⟩
theorem fx_put {fl : Fl} {f g : Rho → Option (Rho × Fl)} {r : Rho} {K : Rho → Prop} (x : Str) (e : Ent) (hf : f r = some ((r.kill x).put x e, .next)) (h2 : ∀ r1 : Rho, (∀ y, r1.get y = if y = x then some e else (r.get y).map (Ent.kill x)) → ∃ r', g r1 = some (r', fl) ∧ K r') : ∃ r', seqF f g r = some (r', fl) ∧ K r' := by
  rw [seqF_next hf]
  exact h2 _ fun y => get_kp r x y e
theorem fx_skip {fl : Fl} {f g : Rho → Option (Rho × Fl)} {r : Rho} {K : Rho → Prop} (hf : f r = some (r, .next)) (h : ∃ r', g r = some (r', fl) ∧ K r') : ∃ r', seqF f g r = some (r', fl) ∧ K r' := by
  rw [seqF_next hf]; exact h
theorem fx_brk2 {f : Rho → Option (Rho × Fl)} {r : Rho} {K : Rho → Prop} (h : ∃ r1, f r = some (r1, .next) ∧ K r1) : ∃ r', seqF f (seqF (fun r => some (r, .brk)) fun r => some (r, .next)) r = some (r', .brk) ∧ K r' := by
  obtain ⟨r1, e, k⟩ := h
  refine ⟨r1, ?_, k⟩
  rw [seqF_next e]
  rfl
theorem fx_brk {f g : Rho → Option (Rho × Fl)} {r : Rho} {K : Rho → Prop} (h : ∃ r', f r = some (r', .brk) ∧ K r') : ∃ r', seqF f g r = some (r', .brk) ∧ K r' := by
  obtain ⟨r', e, k⟩ := h
  refine ⟨r', ?_, k⟩
  unfold seqF
  rw [e]
  rfl
/-- the parts: a star behind each, one ahead -/
def alt (a : Addr) (xs : List (List Nat)) : List D := .adr a :: xs.flatMap fun x => [encW x, .adr a]
theorem alt_len (a : Addr) (xs : List (List Nat)) : (alt a xs).length = 2 * xs.length + 1 := by
  have : ∀ xs : List (List Nat), (xs.flatMap fun x => [encW x, D.adr a]).length = 2 * xs.length := by
    intro xs
    induction xs with
    | nil => rfl
    | cons x xs ih => rw [List.flatMap_cons, List.length_append, ih, List.length_cons]; simp; omega
  unfold alt
  rw [List.length_cons, this]
theorem alt_get (a : Addr) : ∀ (xs : List (List Nat)) (m : Nat), (m ≤ xs.length → (alt a xs)[2 * m]? = some (.adr a)) ∧ (m < xs.length → (alt a xs)[2 * m + 1]? = some (encW (xs.getD m [])))
  | [], m => by
    refine ⟨fun h => ?_, fun h => absurd h (Nat.not_lt_zero _)⟩
    have : m = 0 := by simpa using h
    subst this
    rfl
  | x :: xs, 0 => ⟨fun _ => rfl, fun _ => rfl⟩
  | x :: xs, m + 1 => by
    obtain ⟨h1, h2⟩ := alt_get a xs m
    have e : ∀ i, (alt a (x :: xs))[i + 2]? = (alt a xs)[i]? := fun i => by
      show (D.adr a :: encW x :: D.adr a :: (xs.flatMap fun x => [encW x, D.adr a]))[i + 2]? = _
      rw [List.getElem?_cons_succ, List.getElem?_cons_succ]
      rfl
    refine ⟨fun h => ?_, fun h => ?_⟩
    · rw [show 2 * (m + 1) = 2 * m + 2 by omega, e]
      exact h1 (by simpa using h)
    · rw [show 2 * (m + 1) + 1 = (2 * m + 1) + 2 by omega, e]
      have := h2 (by simpa using h)
      rw [this]
      rfl
def pre4 : List Nat := [40, 63, 115, 58]
def suf3 : List Nat := [41, 92, 90]
theorem pre4_eq : ("(?s:" : Str) = T pre4 := by decide
theorem suf3_eq : (")\\Z" : Str) = T suf3 := by decide
/-- a held group -/
def sep6 : List Nat := [40, 63, 62, 46, 42, 63]
def grp (x : List Nat) : List Nat := sep6 ++ (x ++ [41])
theorem sep6_eq : ("(?>.*?" : Str) = T sep6 := by decide
theorem par_eq : (")" : Str) = T [41] := by decide
theorem dots_eq : (".*" : Str) = T [46, 42] := by decide
theorem emp_eq : ("" : Str) = T [] := by decide
structure JI (a : Addr) (xs : List (List Nat)) (i : Nat) (res : List (List Nat)) (r : Rho) : Prop where
  gp : r.get "inp" = some (.sh (.list (alt a xs)))
  gi : r.get "i" = some (.sh (.int (i : Int)))
  gn : r.get "n" = some (.sh (.int ((2 * xs.length + 1 : Nat) : Int)))
  gr : r.get "res" = some (.own (res.map encW))
  ga : r.get "add" = some (.app "res")
  gs : r.get "STAR" = some (.sh (.adr a))
theorem JI.other {a : Addr} {xs : List (List Nat)} {i : Nat} {res : List (List Nat)} {r r1 : Rho} (I : JI a xs i res r) {x : Str} {e : Ent} (J : ∀ y, r1.get y = if y = x then some e else (r.get y).map (Ent.kill x))
    (hx : ∀ y ∈ (["inp", "i", "n", "res", "add", "STAR"] : List Str), y ≠ x) : JI a xs i res r1 := by
  constructor
  · rw [J, if_neg (hx _ (by decide)), I.gp]; rfl
  · rw [J, if_neg (hx _ (by decide)), I.gi]; rfl
  · rw [J, if_neg (hx _ (by decide)), I.gn]; rfl
  · rw [J, if_neg (hx _ (by decide)), I.gr]; rfl
  · rw [J, if_neg (hx _ (by decide)), I.ga, Option.map_some, kill_app (hx _ (by decide))]
  · rw [J, if_neg (hx _ (by decide)), I.gs]; rfl
theorem JI.seti {a : Addr} {xs : List (List Nat)} {i v : Nat} {res : List (List Nat)} {r r1 : Rho} (I : JI a xs i res r) (J : ∀ y, r1.get y = if y = ("i" : Str) then some (.sh (.int (v : Int))) else (r.get y).map (Ent.kill "i")) : JI a xs v res r1 := by
  constructor
  · rw [J, if_neg (by decide), I.gp]; rfl
  · rw [J, if_pos rfl]
  · rw [J, if_neg (by decide), I.gn]; rfl
  · rw [J, if_neg (by decide), I.gr]; rfl
  · rw [J, if_neg (by decide), I.ga, Option.map_some, kill_app (by decide)]
  · rw [J, if_neg (by decide), I.gs]; rfl
theorem JI.app {a : Addr} {xs : List (List Nat)} {i : Nat} {res : List (List Nat)} {r : Rho} (I : JI a xs i res r) (x : List Nat) : JI a xs i (res ++ [x]) (r.put "res" (.own (res.map encW ++ [encW x]))) := by
  constructor <;> simp (config := {decide := true}) only [Rho.get_put, if_true, if_false, I.gp, I.gi, I.gn, I.ga, I.gs, List.map_append, List.map_cons, List.map_nil]
theorem joi1_gives {P0 : Params} {c : Cx} (h : CF (KK P0) c) (a : Addr) (xs : List (List Nat)) (hl : xs.length ≤ 50) (hx : ∀ x ∈ xs, x.length ≤ 20) (r0 : Rho) (g1 : r0.get "inp" = some (.sh (.list (alt a xs)))) (g2 : r0.get "STAR" = some (.sh (.adr a))) :
    Gives ((T_join_translated_parts h).1 r0) (encW (pre4 ++ ((xs.map grp).flatten ++ [46, 42]) ++ suf3)) := by
  have hlim := lim_eq
  have ln := alt_len a xs
  have lp : (alt a xs).length ≤ lim := by omega
  unfold T_join_translated_parts packT
  dsimp only
  have l0 : ([] : List D).length ≤ lim := by simp
  refine seq_put "res" (.own []) (by simp only [Option.bind_some, if_pos l0]) fun r1 I1 => ?_
  have a1 : r1.get "inp" = some (.sh (.list (alt a xs))) := by rw [I1, if_neg (by decide), g1]; rfl
  have a2 : r1.get "STAR" = some (.sh (.adr a)) := by rw [I1, if_neg (by decide), g2]; rfl
  have a3 : r1.get "res" = some (.own []) := by rw [I1, if_pos rfl]
  clear I1 g1 g2
  refine seq_put "add" (.app "res") (by simp only [getOwn, a3, Option.bind_some]) fun r2 I2 => ?_
  have b1 : r2.get "inp" = some (.sh (.list (alt a xs))) := by rw [I2, if_neg (by decide), a1]; rfl
  have b2 : r2.get "STAR" = some (.sh (.adr a)) := by rw [I2, if_neg (by decide), a2]; rfl
  have b3 : r2.get "res" = some (.own []) := by rw [I2, if_neg (by decide), a3]; rfl
  have b4 : r2.get "add" = some (.app "res") := by rw [I2, if_pos rfl]
  clear I2 a1 a2 a3
  refine seq_step (JI a xs 0 []) ⟨_, by simp only [b1, Option.bind_some, len_L _ lp, ln]; rfl, ?_⟩ fun r3 I3 => ?_
  · constructor <;> simp (config := {decide := true}) only [get_kp, if_true, if_false, b1, b2, b3, b4, Option.map_some, kill_sh, kill_own, kill_app, List.map_nil, Int.natCast_zero, ne_eq]
  have hst : ∀ d, oIs d (.adr a) = some (.bool (isAdr d)) → oIsNot d (.adr a) = some (.bool (!isAdr d)) := fun d e => by
    unfold oIsNot
    rw [e]
    rfl
  have is1 : oIs (.adr a) (.adr a) = some (.bool true) := by
    show (if a = a then some (D.bool true) else none) = _
    rw [if_pos rfl]
  have not1 : oIsNot (.adr a) (.adr a) = some (.bool false) := hst _ is1
  have not2 : ∀ x, oIsNot (encW x) (.adr a) = some (.bool true) := fun x => rfl
  have at0 : ∀ m, m ≤ xs.length → oIdx (.list (alt a xs)) (.int ((2 * m : Nat) : Int)) = some (.adr a) := fun m hm => idx_L _ _ _ ((alt_get a xs m).1 hm) lp
  have at1 : ∀ m, m < xs.length → oIdx (.list (alt a xs)) (.int ((2 * m + 1 : Nat) : Int)) = some (encW (xs.getD m [])) := fun m hm => idx_L _ _ _ ((alt_get a xs m).2 hm) lp
  refine seq_step (JI a xs 0 []) (while_upto (fun _ r => JI a xs 0 [] r) 0 (fun k r I hk => ?_) (fun k r I hk => absurd hk (Nat.not_lt_zero _)) lim 0 r3 (by omega) (Nat.le_refl _) I3) fun r4 I4 => ?_
  · have e1 : decide (((0 : Nat) : Int) < ((2 * xs.length + 1 : Nat) : Int)) = true := decide_eq_true (by omega)
    have e2 := at0 0 (Nat.zero_le _)
    have : k = 0 := by omega
    subst this
    simp only [I.gi, I.gn, Option.bind_some, oLt_int, e1, asB, if_true, I.gp, Nat.mul_zero] at e2 ⊢
    simp only [e2, Option.bind_some, I.gs, not1, Bool.false_eq_true, if_false]
    rfl
  refine seq_step (JI a xs (2 * xs.length + 1) (xs.map grp ++ [[46, 42]])) (while_brk (fun m r => JI a xs (2 * m) ((xs.take m).map grp) r) _ xs.length (fun k r I hk => ?_) (fun k r I hk => ?_) (fun r I => ?_) lim 0 r4 (by omega) (Nat.zero_le _) (by exact I4)) fun r5 I5 => ?_
  · have e1 : decide (((2 * k : Nat) : Int) < ((2 * xs.length + 1 : Nat) : Int)) = true := decide_eq_true (by omega)
    simp only [I.gi, I.gn, Option.bind_some, oLt_int, e1, asB]
  · have hm := at0 k (Nat.le_of_lt hk)
    have hm1 := at1 k hk
    have hm2 := at0 (k + 1) hk
    have hxl := hx (xs.getD k []) (by
      rw [List.getD_eq_getElem?_getD, List.getElem?_eq_getElem hk]
      exact List.getElem_mem hk)
    have htk : (xs.take (k + 1)).map grp = (xs.take k).map grp ++ [grp (xs.getD k [])] := by
      have : xs.take (k + 1) = xs.take k ++ [xs.getD k []] := by
        rw [List.take_add_one, List.getElem?_eq_getElem hk, List.getD_eq_getElem?_getD, List.getElem?_eq_getElem hk]; rfl
      rw [this, List.map_append]; rfl
    rw [htk]
    have hrl : ((xs.take k).map grp).length ≤ 50 := by rw [List.length_map, List.length_take]; omega
    generalize xs.getD k [] = x at *
    generalize (xs.take k).map grp = res at *
    refine nx_skip (by simp only [I.gp, I.gi, I.gs, Option.bind_some, hm, is1, asB, if_true]) ?_
    refine nx_put "i" (.sh (.int ((2 * k + 1 : Nat) : Int))) (by simp only [I.gi, Option.bind_some, oAdd_int]; rfl) fun q1 J1 => ?_
    have I1 : JI a xs (2 * k + 1) res q1 := I.seti J1
    clear J1 I
    have ne1 : (((2 * k + 1 : Nat) : Int) == ((2 * xs.length + 1 : Nat) : Int)) = false := by rw [beq_eq_false_iff_ne]; omega
    refine nx_skip (by simp only [I1.gi, I1.gn, Option.bind_some, oEq_int, ne1, asB, Bool.false_eq_true, if_false]) ?_
    refine nx_skip (by simp only [I1.gp, I1.gi, I1.gs, Option.bind_some, hm1, not2, asB, if_true]) ?_
    refine nx_put "fixed" (.own []) (by simp only [Option.bind_some, if_pos l0]) fun q2 J2 => ?_
    have I2 : JI a xs (2 * k + 1) res q2 := I1.other J2 (by decide)
    have f2 : q2.get "fixed" = some (.own []) := by rw [J2, if_pos rfl]
    clear J2 I1
    refine nx_step (fun r => JI a xs (2 * k + 1 + 1) res r ∧ r.get "fixed" = some (.own [encW x])) (while_upto (fun m r => JI a xs (2 * k + 1 + m) res r ∧ r.get "fixed" = some (.own (if m = 0 then [] else [encW x]))) 1 (fun m r B hm' => ?_) (fun m r B hm' => ?_) lim 0 q2 (by omega) (Nat.zero_le _) ⟨I2, f2⟩) fun q3 B3 => ?_
    · have lt : decide (((2 * k + 1 + m : Nat) : Int) < ((2 * xs.length + 1 : Nat) : Int)) = true := decide_eq_true (by omega)
      by_cases h0 : m = 0
      · subst h0
        simp only [B.1.gi, B.1.gn, B.1.gp, B.1.gs, Option.bind_some, oLt_int, lt, asB, if_true, Nat.add_zero, hm1, not2] at lt ⊢
        first | rfl | (simp only [lt, if_true]; rfl)
      · have : m = 1 := by omega
        subst this
        have e : 2 * k + 1 + 1 = 2 * (k + 1) := by omega
        simp only [B.1.gi, B.1.gn, B.1.gp, B.1.gs, Option.bind_some, oLt_int, lt, asB, if_true, e, hm2, not1, Bool.false_eq_true, if_false] at lt ⊢
        first | rfl | (simp only [lt, if_true]; rfl)
    · have h0 : m = 0 := by omega
      subst h0
      have fo : getOwn r "fixed" = some [] := by unfold getOwn; rw [B.2]; rfl
      have l1 : ([] : List D).length < lim := by simp only [List.length_nil]; omega
      refine nx_step (fun r => JI a xs (2 * k + 1) res r ∧ r.get "fixed" = some (.own [encW x])) ⟨r.put "fixed" (.own ([] ++ [encW x])), by simp only [fo, B.1.gp, B.1.gi, Option.bind_some, Nat.add_zero, hm1, if_pos l1], ?_, ?_⟩ fun q4 B4 => ?_
      · constructor <;> simp (config := {decide := true}) only [Rho.get_put, if_true, if_false, B.1.gp, B.1.gi, B.1.gn, B.1.ga, B.1.gs, B.1.gr, Nat.add_zero]
      · rw [Rho.get_put, if_pos rfl]; rfl
      · refine ⟨_, by simp only [seqF_id, B4.1.gi, Option.bind_some, oAdd_int]; rfl, B4.1.seti (v := 2 * k + 1 + (0 + 1)) (fun y => get_kp q4 "i" y _), ?_⟩
        rw [get_kp, if_neg (by decide), B4.2]
        rfl
    obtain ⟨I3', f3⟩ := B3
    have ej := oJoin_W [x] (by simp only [List.flatten_cons, List.flatten_nil, List.append_nil]; omega)
    rw [← emp_eq] at ej
    have ej' : oJoin [.str "", .list [encW x]] = some (.str (T x)) := by
      rw [show [encW x] = [x].map encW from rfl, ej]
      simp
    refine nx_put "fixed" (.sh (.str (T x))) (by simp only [f3, Option.bind_some, ej', flat?]) fun q5 J5 => ?_
    have I5 : JI a xs (2 * k + 1 + 1) res q5 := I3'.other J5 (by decide)
    have f5 : q5.get "fixed" = some (.sh (.str (T x))) := by rw [J5, if_pos rfl]
    clear J5 I3' f3
    have ne2 : (((2 * k + 1 + 1 : Nat) : Int) == ((2 * xs.length + 1 : Nat) : Int)) = false := by rw [beq_eq_false_iff_ne]; omega
    have ha := getApp_of I5.ga I5.gr
    have hsum : (List.map (fun x => Str.length x) [("(?>.*?" : Str), T x, (")" : Str)]).sum ≤ lim := by
      rw [sep6_eq, par_eq]
      simp only [List.map_cons, List.map_nil, T_len, List.sum_cons, List.sum_nil]
      have : sep6.length = 6 := rfl
      simp only [List.length_cons, List.length_nil]
      omega
    have hf : [("(?>.*?" : Str), T x, (")" : Str)].foldl (fun x1 x2 => x1 ++ x2) Str.empty = T (grp x) := by
      rw [sep6_eq, par_eq]
      show ((T [] ++ T sep6) ++ T x) ++ T [41] = _
      rw [T_append, T_append, T_append]
      unfold grp
      rw [List.nil_append, List.append_assoc]
    have hl2 : (res.map encW).length < lim := by rw [List.length_map]; omega
    simp only [seqF_id, I5.gi, I5.gn, Option.bind_some, oEq_int, ne2, asB, Bool.false_eq_true, if_false, ha, f5, strLim_T x (by omega), Option.map_some, if_pos hsum, hf, if_pos hl2]
    refine ⟨_, rfl, ?_⟩
    have := I5.app (grp x)
    rw [show 2 * k + 1 + 1 = 2 * (k + 1) by omega] at this
    exact this
  · rw [List.take_length] at I
    have hm := at0 xs.length (Nat.le_refl _)
    have hrl : ((xs.map grp).map encW).length < lim := by rw [List.length_map, List.length_map]; omega
    generalize xs.map grp = res at *
    refine fx_skip (by simp only [I.gp, I.gi, I.gs, Option.bind_some, hm, is1, asB, if_true]) ?_
    refine fx_put "i" (.sh (.int ((2 * xs.length + 1 : Nat) : Int))) (by simp only [I.gi, Option.bind_some, oAdd_int]; rfl) fun q1 J1 => ?_
    have I1 : JI a xs (2 * xs.length + 1) res q1 := I.seti J1
    clear J1 I
    have ha := getApp_of I1.ga I1.gr
    refine fx_brk ?_
    simp only [I1.gi, I1.gn, Option.bind_some, oEq_int, beq_self_eq_true, asB, if_true]
    refine fx_brk2 ⟨_, by simp only [ha, dots_eq, Option.bind_some, if_pos hrl]; rfl, ?_⟩
    exact I1.app [46, 42]
  have hr := I5.gr
  have hcnt : (xs.map grp ++ [[46, 42]]).flatten.length ≤ 50 * 30 + 2 := by
    have : ∀ ys : List (List Nat), (∀ y ∈ ys, y.length ≤ 20) → ((ys.map grp).flatten).length ≤ 30 * ys.length := by
      intro ys
      induction ys with
      | nil => intro _; simp
      | cons y ys ih =>
        intro hy
        have h1 := ih fun z hz => hy z (List.mem_cons_of_mem _ hz)
        have h2 := hy y List.mem_cons_self
        have h3 : (grp y).length = y.length + 7 := by unfold grp; simp only [List.length_append, List.length_cons, List.length_nil]; have : sep6.length = 6 := rfl; omega
        rw [List.map_cons, List.flatten_cons, List.length_append, h3, List.length_cons]
        omega
    have h1 := this xs hx
    rw [List.flatten_append, List.length_append]
    have h2 : ([[46, 42]] : List (List Nat)).flatten.length = 2 := rfl
    omega
  have ej := oJoin_W (xs.map grp ++ [[46, 42]]) (by omega)
  rw [← emp_eq] at ej
  have efl : (xs.map grp ++ [[46, 42]]).flatten = (xs.map grp).flatten ++ [46, 42] := by rw [List.flatten_append]; rfl
  rw [efl] at ej hcnt
  refine seq_step (JI a xs (2 * xs.length + 1) (xs.map grp ++ [[46, 42]])) ⟨r5, by simp only [I5.gi, I5.gn, Option.bind_some, oEq_int, beq_self_eq_true, asB, if_true], I5⟩ fun r6 I6 => ?_
  generalize (xs.map grp).flatten ++ [46, 42] = body at *
  refine seq_put "res" (.sh (.str (T body))) (by simp only [I6.gr, Option.bind_some, ej, flat?]) fun r7 I7 => ?_
  have h7 : r7.get "res" = some (.sh (.str (T body))) := by rw [I7, if_pos rfl]
  refine seq_done ?_
  have e2 : (List.map (fun x => Str.length x) [("(?s:" : Str), T body, (")\\Z" : Str)]).sum ≤ lim := by
    rw [pre4_eq, suf3_eq]
    simp only [List.map_cons, List.map_nil, T_len, List.sum_cons, List.sum_nil]
    have h1 : pre4.length = 4 := rfl
    have h2 : suf3.length = 3 := rfl
    omega
  have e3 : [("(?s:" : Str), T body, (")\\Z" : Str)].foldl (fun x1 x2 => x1 ++ x2) Str.empty = T (pre4 ++ body ++ suf3) := by
    rw [pre4_eq, suf3_eq]
    show ((Str.empty ++ T pre4) ++ T body) ++ T suf3 = _
    rw [show Str.empty = T [] from rfl, T_append, T_append, T_append]
    rfl
  simp only [h7, Option.bind_some, strLim_T body (by omega), Option.map_some, if_pos e2, e3]
  rfl
end Mine
end SN3

/-! N4 -/
noncomputable section SN4
namespace Mine
/-- what the lambda of _translate leans on -/
structure LH (c : Cx) : Prop where
  L : LamOk c 75 71
  pat : ∀ h, Glo c h → IsPat h 50 patCode 1
  fn : ∀ fa ob fd, c.FT fa = some ob → ob.data = .func fd → fd.scope = scT → fd.code = .ref 75
theorem tk_encW (l : List D) (x : List Nat) : lastStar (l ++ [encW x]) = false := by
  unfold lastStar
  rw [List.getLast?_concat]
  rfl
theorem alt_snoc (a : Addr) (ys : List (List Nat)) (x : List Nat) : alt a (ys ++ [x]) = alt a ys ++ [encW x] ++ [.adr a] := by
  unfold alt
  rw [List.flatMap_append]
  simp
theorem alt_last (a : Addr) (ys : List (List Nat)) : lastStar (alt a ys) = true := by
  rcases List.eq_nil_or_concat ys with rfl | ⟨zs, x, rfl⟩
  · rfl
  · rw [List.concat_eq_append, alt_snoc]
    unfold lastStar
    rw [List.getLast?_concat]
    rfl
def noStar : Tk → Prop
  | .star => False
  | _ => True
def rowTk (its : List (Option Tk)) : List Tk := .star :: its.flatMap fun o => o.toList ++ [.star]
def itTx (its : List (Option Tk)) : List (List Nat) := (its.filterMap id).map Tk.txt
theorem addT_plain (a : Addr) (res : List D) (t : Tk) (h : noStar t) : addT a res t = res ++ [encW t.txt] := by
  cases t <;> first | rfl | exact h.elim
theorem fold_row (a : Addr) : ∀ (its : List (Option Tk)) (ys : List (List Nat)), (∀ t, some t ∈ its → noStar t) → (its.flatMap fun o => o.toList ++ [Tk.star]).foldl (addT a) (alt a ys) = alt a (ys ++ itTx its)
  | [], ys, _ => by simp [itTx]
  | none :: its, ys, h => by
    have := fold_row a its ys fun t ht => h t (List.mem_cons_of_mem _ ht)
    show (its.flatMap fun o => o.toList ++ [Tk.star]).foldl (addT a) (addT a (alt a ys) .star) = _
    have e : addT a (alt a ys) .star = alt a ys := by show (if lastStar (alt a ys) then _ else _) = _; rw [alt_last, if_pos rfl]
    rw [e, this]
    rfl
  | some t :: its, ys, h => by
    have := fold_row a its (ys ++ [t.txt]) fun t ht => h t (List.mem_cons_of_mem _ ht)
    show (its.flatMap fun o => o.toList ++ [Tk.star]).foldl (addT a) (addT a (addT a (alt a ys) t) .star) = _
    rw [addT_plain a _ t (h t List.mem_cons_self)]
    have e : addT a (alt a ys ++ [encW t.txt]) .star = alt a (ys ++ [t.txt]) := by
      show (if lastStar _ then _ else _) = _
      rw [tk_encW, if_neg Bool.false_ne_true, alt_snoc]
    rw [e, this]
    congr 1
    show (ys ++ [t.txt]) ++ itTx its = ys ++ (t.txt :: itTx its)
    rw [List.append_assoc]
    rfl
theorem fold_rowTk (a : Addr) (its : List (Option Tk)) (h : ∀ t, some t ∈ its → noStar t) : (rowTk its).foldl (addT a) [] = alt a (itTx its) := by
  have := fold_row a its [] h
  exact this
section
variable {P : Params} {c : Cx} (h : CF (KK P) c) (H : LH c)
def E76 : List D → Option D := runF ["pat", "STAR", "QUESTION_MARK"] (T_translate h (esc_ok h) H.L H.pat H.fn).1
theorem tra_ok : ActL c 2 (fun vs => call (.ref 76) vs) (E76 h H) := (T_translate h (esc_ok h) H.L H.pat H.fn).2 _ (runF_HF _ _)
theorem E76_of (ts : List Tk) (hts : ∀ t ∈ ts, t.ok) (hl : (srcs ts).length ≤ 100) (a : Addr) : E76 h H [encW (srcs ts), .adr a, .str "."] = some (.list (ts.foldl (addT a) [])) :=
  runF_of rfl (tra1_gives h H.L H.pat H.fn a ts hts hl _ rfl (by rw [dot]; rfl) rfl)
def E83 : List D → Option D := runF ["inp", "STAR"] (T_join_translated_parts h).1
theorem joi_ok : ActL c 1 (fun vs => call (.ref 83) vs) (E83 h) := (T_join_translated_parts h).2 _ (runF_HF _ _)
def txtOf (xs : List (List Nat)) : List Nat := pre4 ++ ((xs.map grp).flatten ++ [46, 42]) ++ suf3
theorem E83_of (xs : List (List Nat)) (hl : xs.length ≤ 50) (hx : ∀ x ∈ xs, x.length ≤ 20) (a : Addr) : E83 h [.list (alt a xs), .adr a] = some (encW (txtOf xs)) :=
  runF_of rfl (joi1_gives h a xs hl hx _ rfl rfl)
def Pk57 := Ttranslate h (tra_ok h H) (ActL.le (joi_ok h) (Nat.le_add_left 1 1))
def E57 : List D → Option D := runF ["pat"] (Pk57 h H).1
theorem trl_ok : ActL c 3 (fun vs => call (.ref 57) vs) (E57 h H) := (Pk57 h H).2 _ (runF_HF _ _)
theorem E57_of (its : List (Option Tk)) (hts : ∀ t, some t ∈ its → t.ok ∧ noStar t) (hl : (srcs (rowTk its)).length ≤ 100) (hn : (itTx its).length ≤ 50) (hx : ∀ x ∈ itTx its, x.length ≤ 20) : E57 h H [encW (srcs (rowTk its))] = some (encW (txtOf (itTx its))) := by
  refine runF_of rfl ?_
  obtain ⟨r0, hr⟩ : ∃ r0 : Rho, r0 = (["pat"] : List Str).zip (List.map Ent.sh [encW (srcs (rowTk its))]) := ⟨_, rfl⟩
  rw [← hr]
  have g1 : r0.get "pat" = some (.sh (encW (srcs (rowTk its)))) := by rw [hr]; rfl
  clear hr
  unfold Pk57 Ttranslate packT
  dsimp only
  refine ⟨[], objF_of fun a => ?_⟩
  show Gives _ _
  have e1 := E76_of h H (rowTk its) (fun t ht => by
    unfold rowTk at ht
    rcases List.mem_cons.mp ht with rfl | ht
    · exact trivial
    · obtain ⟨o, ho, ht⟩ := List.mem_flatMap.mp ht
      rcases List.mem_append.mp ht with q | q
      · cases o with
        | none => cases q
        | some t' =>
          rw [List.mem_singleton.mp q]
          exact (hts t' ho).1
      · rw [List.mem_singleton.mp q]; exact trivial) hl a
  rw [fold_rowTk a its fun t ht => (hts t ht).2] at e1
  have e2 := E83_of h (itTx its) hn hx a
  have a1 : ((r0.kill "STAR").put "STAR" (.sh (.adr a))).get "pat" = some (.sh (encW (srcs (rowTk its)))) := by rw [get_kp, if_neg (by decide), g1]; rfl
  have a2 : ((r0.kill "STAR").put "STAR" (.sh (.adr a))).get "STAR" = some (.sh (.adr a)) := by rw [get_kp, if_pos rfl]
  generalize (r0.kill "STAR").put "STAR" (.sh (.adr a)) = r1 at a1 a2
  refine seq_put "parts" (.sh (.list (alt a (itTx its)))) (by simp only [a1, a2, Option.bind_some, e1]) fun r2 I2 => ?_
  have b1 : r2.get "parts" = some (.sh (.list (alt a (itTx its)))) := by rw [I2, if_pos rfl]
  have b2 : r2.get "STAR" = some (.sh (.adr a)) := by rw [I2, if_neg (by decide), a2]; rfl
  refine seq_done ?_
  simp only [b1, b2, Option.bind_some, e2]
end
end Mine
end SN4

/-! N5 -/
noncomputable section SN5
namespace Mine
def sg8 : List Nat := [97, 65, 98, 66, 42, 63, 91, 46]
def sw8 : List Nat := [65, 97, 66, 98, 42, 63, 91, 46]
theorem sg8_eq : ("aAbB*?[." : Str) = T sg8 := by decide
theorem sw8_eq : ("AaBb*?[." : Str) = T sw8 := by decide
def sg (x : Int) : Nat := sg8.getD (x.fmod 8).toNat 0
def sw (x : Int) : Nat := sw8.getD (x.fmod 8).toNat 0
theorem fmod_nat (x : Int) (m : Nat) (h : 0 < m) : ∃ n : Nat, x.fmod m = (n : Int) ∧ n < m := by
  have h0 : 0 ≤ x.fmod m := Int.fmod_nonneg_of_pos _ (by omega)
  have h1 : x.fmod m < m := Int.fmod_lt_of_pos _ (by omega)
  obtain ⟨n, hn⟩ := Int.eq_ofNat_of_zero_le h0
  exact ⟨n, hn, by omega⟩
theorem lim8 : (8 : Nat) ≤ lim := by rw [lim_eq]; decide
theorem pick_sg (x : Int) : oIdx (.str "aAbB*?[.") (.int (x.fmod 8)) = some (.str (T [sg x])) := by
  obtain ⟨n, hn, hl⟩ := fmod_nat x 8 (by decide)
  have hn' : x.fmod 8 = (n : Int) := hn
  unfold sg
  rw [sg8_eq, hn', idx_a sg8 n hl lim8]
  rfl
theorem pick_sw (x : Int) : oIdx (.str "AaBb*?[.") (.int (x.fmod 8)) = some (.str (T [sw x])) := by
  obtain ⟨n, hn, hl⟩ := fmod_nat x 8 (by decide)
  have hn' : x.fmod 8 = (n : Int) := hn
  unfold sw
  rw [sw8_eq, hn', idx_a sw8 n hl lim8]
  rfl
def pieces (x : Int) : List (List Nat) := [[sg x], [sw x], [], [sg (x.fdiv 64)]]
def piece (x : Int) : List Nat := (pieces x).getD ((x.fdiv 8).fmod 4).toNat []
def stepW (w : List Nat) (x : Int) : List Nat := if (x.fdiv 32).fmod 2 = 1 then piece x ++ w else w ++ piece x
def second (ns : List Int) : List Nat := ns.foldl stepW []
theorem piece_len (x : Int) : (piece x).length ≤ 1 := by
  unfold piece
  obtain ⟨n, hn, hl⟩ := fmod_nat (x.fdiv 8) 4 (by decide)
  have hn' : (x.fdiv 8).fmod 4 = (n : Int) := hn
  rw [hn']
  show ((pieces x).getD n []).length ≤ 1
  match n, hl with
  | 0, _ => exact Nat.le_refl _
  | 1, _ => exact Nat.le_refl _
  | 2, _ => exact Nat.zero_le _
  | 3, _ => exact Nat.le_refl _
theorem stepW_len (w : List Nat) (x : Int) : (stepW w x).length ≤ w.length + 1 := by
  have := piece_len x
  unfold stepW
  split <;> rw [List.length_append] <;> omega
theorem fold_stepW_len : ∀ (ns : List Int) (w : List Nat), (ns.foldl stepW w).length ≤ w.length + ns.length
  | [], w => Nat.le_refl _
  | x :: ns, w => by
    have h1 := fold_stepW_len ns (stepW w x)
    have h2 := stepW_len w x
    rw [List.foldl_cons, List.length_cons]
    omega
theorem oDivS (x : Int) (k : Int) (h : 0 < k ∧ k < 1000000) : oDiv (.int x) (.int k) = some (.int (x.fdiv k)) := by
  unfold oDiv
  dsimp only
  rw [if_pos h]
theorem oModS (x : Int) (k : Int) (h : k ≠ 0) : oMod (.int x) (.int k) = some (.int (x.fmod k)) := by
  unfold oMod
  dsimp only
  rw [if_neg h]
theorem for_fold {α β : Type} {v : Str} {fb : Rho → Option (Rho × Fl)} (Inv : α → Rho → Prop) (enc : β → D) (f : α → β → α) (ok : β → Prop) (bd : α → Nat) (B : Nat) (hb : ∀ x d, ok d → bd (f x d) ≤ bd x + 1)
    (hfb : ∀ x d r, Inv x r → bd x < B → ok d → ∃ r', fb ((r.kill v).put v (.sh (enc d))) = some (r', .next) ∧ Inv (f x d) r') :
    ∀ (ds : List β) (x : α) (r : Rho), bd x + ds.length ≤ B → (∀ d ∈ ds, ok d) → Inv x r → ∃ r', forF v fb (ds.map enc) r = some (r', .next) ∧ Inv (ds.foldl f x) r'
  | [], x, r, _, _, I => ⟨r, rfl, I⟩
  | d :: ds, x, r, hB, ho, I => by
    rw [List.length_cons] at hB
    have hd := ho d List.mem_cons_self
    obtain ⟨r', e, I'⟩ := hfb x d r I (by omega) hd
    rw [List.map_cons, List.foldl_cons]
    unfold forF
    rw [e]
    have := hb x d hd
    exact for_fold Inv enc f ok bd B hb hfb ds (f x d) r' (by omega) (fun d' h' => ho d' (List.mem_cons_of_mem _ h')) I'
theorem oIdxPieces (x : Int) : oIdx (.list ((pieces x).map encW)) (.int ((x.fdiv 8).fmod 4)) = some (encW (piece x)) := by
  have hlim := lim_eq
  obtain ⟨n, hn, hl⟩ := fmod_nat (x.fdiv 8) 4 (by decide)
  have hn' : (x.fdiv 8).fmod 4 = (n : Int) := hn
  have h4 : (pieces x).length = 4 := rfl
  rw [hn', idx_L _ n (encW (piece x)) ?_ (by rw [List.length_map]; omega)]
  rw [List.getElem?_map]
  unfold piece
  rw [hn', List.getD_eq_getElem?_getD]
  have : n < (pieces x).length := by omega
  rw [show ((n : Int)).toNat = n from rfl, List.getElem?_eq_getElem this]
  rfl
theorem second_gives {P : Params} {c : Cx} (h : CF (KK P) c) (ns : List Int) (hl : ns.length ≤ 50) (r0 : Rho) (g1 : r0.get "numbers" = some (.sh (.list (ns.map .int)))) : Gives ((T_law_second h).1 r0) (encW (second ns)) := by
  have hlim := lim_eq
  unfold T_law_second packT
  dsimp only
  refine seq_put "word" (.sh (.str "")) (by simp only [Option.bind_some]) fun r1 I1 => ?_
  have a1 : r1.get "numbers" = some (.sh (.list (ns.map .int))) := by rw [I1, if_neg (by decide), g1]; rfl
  have a2 : r1.get "word" = some (.sh (.str (T []))) := by rw [I1, if_pos rfl, emp_eq]
  clear I1 g1
  refine seq_step (fun r => r.get "word" = some (.sh (.str (T (ns.foldl stepW []))))) ?_ fun r2 I2 => ?_
  · simp only [a1, Option.bind_some, asItems]
    refine for_fold (fun (w : List Nat) r => r.get "word" = some (.sh (.str (T w)))) D.int stepW (fun _ => True) List.length 51 (fun w x _ => stepW_len w x) (fun w x r I hw50 _ => ?_) ns [] r1 (by simp only [List.length_nil]; omega) (fun _ _ => trivial) a2
    have hw : Rho.get ((r.kill "x").put "x" (.sh (.int x))) "word" = some (.sh (.str (T w))) := get_sh (fun y => get_kp r "x" y _) I (by decide)
    have hx : Rho.get ((r.kill "x").put "x" (.sh (.int x))) "x" = some (.sh (.int x)) := by rw [get_kp, if_pos rfl]
    generalize (r.kill "x").put "x" (.sh (.int x)) = q at hw hx
    have m8 := oModS x 8 (by decide)
    have d64 := oDivS x 64 (by decide)
    have m64 := oModS (x.fdiv 64) 8 (by decide)
    have d8 := oDivS x 8 (by decide)
    have m4 := oModS (x.fdiv 8) 4 (by decide)
    have d32 := oDivS x 32 (by decide)
    have m2 := oModS (x.fdiv 32) 2 (by decide)
    have l4 : ([D.str (T [sg x]), D.str (T [sw x]), D.str (T []), D.str (T [sg (x.fdiv 64)])] : List D).length ≤ lim := by simp only [List.length_cons, List.length_nil]; omega
    refine nx_put "pieces" (.sh (.list ((pieces x).map encW))) (by simp only [strOnly, hx, Option.bind_some, m8, pick_sg, pick_sw, d64, m64, emp_eq, if_pos l4]; rfl) fun q1 J1 => ?_
    have hw1 := get_sh J1 hw (by decide)
    have hx1 := get_sh J1 hx (by decide)
    have hp1 : q1.get "pieces" = some (.sh (.list ((pieces x).map encW))) := by rw [J1, if_pos rfl]
    clear J1 hw hx
    refine nx_put "piece" (.sh (.str (T (piece x)))) (by simp only [hp1, hx1, Option.bind_some, d8, m4, oIdxPieces]; rfl) fun q2 J2 => ?_
    have hw2 := get_sh J2 hw1 (by decide)
    have hx2 := get_sh J2 hx1 (by decide)
    have hp2 : q2.get "piece" = some (.sh (.str (T (piece x)))) := by rw [J2, if_pos rfl]
    clear J2 hw1 hx1 hp1
    have hpl := piece_len x
    refine ⟨(q2.kill "word").put "word" (.sh (.str (T (stepW w x)))), ?_, ?_⟩
    · simp only [seqF_id, hx2, hw2, hp2, Option.bind_some, d32, m2, oEq_int, asB, oAdd_T _ _ (show (piece x).length + w.length ≤ lim by omega), oAdd_T _ _ (show w.length + (piece x).length ≤ lim by omega)]
      unfold stepW
      by_cases h1 : (x.fdiv 32).fmod 2 = 1
      · rw [if_pos h1, if_pos (by rw [beq_iff_eq]; exact h1)]
        rfl
      · rw [if_neg h1, if_neg (by rw [beq_iff_eq]; exact h1)]
        rfl
    · rw [get_kp, if_pos rfl]
  refine seq_done ?_
  simp only [I2, Option.bind_some]
  rfl
def E99 {P : Params} {c : Cx} (h : CF (KK P) c) : List D → Option D := runF ["numbers"] (T_law_second h).1
theorem sec_ok {P : Params} {c : Cx} (h : CF (KK P) c) : ActL c 1 (fun vs => call (.ref 99) vs) (E99 h) := (T_law_second h).2 _ (runF_HF _ _)
theorem E99_of {P : Params} {c : Cx} (h : CF (KK P) c) (ns : List Int) (hl : ns.length ≤ 50) : E99 h [.list (ns.map .int)] = some (encW (second ns)) := runF_of rfl (second_gives h ns hl _ rfl)
end Mine
end SN5

/-! N6 -/
noncomputable section SN6
namespace Mine
/-- a part takes a sign -/
def fits : Tk → Nat → Bool
  | .star, _ => false
  | .one c, y => c == y
  | .quest, _ => true
  | .br s, y => s.contains y
theorem back_eq : ("\\" : Str) = T [92] := by decide
theorem br_cut : ∀ s ∈ brs, cutS (T (91 :: (brT s ++ [93]))) (some 1) (some (-1)) = T (brT s) := by decide
theorem br_rep : ∀ s ∈ brs, oRep (.str (T (brT s))) "\\" "" = some (.str (T s)) := by
  intro s h
  simp only [brs, List.mem_cons, List.not_mem_nil, or_false] at h
  rcases h with rfl | rfl | rfl | rfl | rfl <;> kernel_rfl
theorem br_in : ∀ s ∈ brs, ∀ y ∈ sg8, oIn (.str (T [y])) (.str (T s)) = some (.bool (s.contains y)) := by
  intro s h y hy
  simp only [brs, List.mem_cons, List.not_mem_nil, or_false] at h
  simp only [sg8, List.mem_cons, List.not_mem_nil, or_false] at hy
  rcases h with rfl | rfl | rfl | rfl | rfl <;> rcases hy with rfl | rfl | rfl | rfl | rfl | rfl | rfl | rfl <;> kernel_rfl
theorem br_len : ∀ s ∈ brs, (91 :: (brT s ++ [93])).length ≤ 5 := by decide
theorem one_rep (c : Nat) (hc : Sg c) : oRep (.str (T (escC c))) "\\" "" = some (.str (T [c])) := by
  rcases hc with rfl | rfl | rfl | rfl | rfl <;> kernel_rfl
theorem one_facts (c : Nat) (hc : Sg c) : (T ((escC c).take 1) == ("[" : Str)) = false ∧ (T (escC c) == ("." : Str)) = false ∧ (escC c).length ≤ 5 := by
  rcases hc with rfl | rfl | rfl | rfl | rfl <;> decide
theorem cut_one (l : List Nat) (hl : l.length ≤ lim) : oCut (.str (T l)) none (some 1) = some (.str (T (l.take 1))) := by
  rw [cut_ok _ _ _ hl]
  have := cut_to l 1
  rw [show ((1 : Nat) : Int) = 1 from rfl] at this
  rw [this]
theorem fits_gives {P : Params} {c : Cx} (h : CF (KK P) c) (t : Tk) (ht : t.ok) (hn : noStar t) (y : Nat) (hy : y ∈ sg8) (r0 : Rho) (g1 : r0.get "part" = some (.sh (.str (T t.txt)))) (g2 : r0.get "sign" = some (.sh (.str (T [y])))) :
    Gives ((T_law_fits h).1 r0) (.bool (fits t y)) := by
  have hlim := lim_eq
  unfold T_law_fits packT
  dsimp only
  have hneg : oNeg (.int 1) = some (.int (-1)) := rfl
  cases t with
  | star => exact hn.elim
  | br s =>
    have hl := br_len s ht
    have lp : (91 :: (brT s ++ [93])).length ≤ lim := by omega
    have e2 : oCut (.str (T (91 :: (brT s ++ [93])))) (some 1) (some (-1)) = some (.str (T (brT s))) := by rw [cut_ok _ _ _ lp, br_cut s ht]
    have e1 : (T ((91 :: (brT s ++ [93])).take 1) == ("[" : Str)) = true := by rw [brk]; exact beq_iff_eq.mpr rfl
    refine ⟨r0, ?_⟩
    simp only [g1, g2, Tk.txt, Option.bind_some, asPart, cut_one _ lp, oEq_str, e1, asB, if_true, hneg, e2, br_rep s ht, br_in s ht y hy]
    rfl
  | one k =>
    obtain ⟨f1, f2, f3⟩ := one_facts k ht
    have lp : (escC k).length ≤ lim := by omega
    refine ⟨r0, ?_⟩
    simp only [g1, g2, Tk.txt, Option.bind_some, asPart, cut_one _ lp, oEq_str, f1, f2, asB, oTruth, Bool.false_eq_true, if_false, one_rep k ht, sgn]
    rfl
  | quest =>
    have lp : ([46] : List Nat).length ≤ lim := by simp only [List.length_cons, List.length_nil]; omega
    have f1 : (T (([46] : List Nat).take 1) == ("[" : Str)) = false := by decide
    have f2 : (T [46] == ("." : Str)) = true := by decide
    refine ⟨r0, ?_⟩
    simp only [g1, g2, Tk.txt, Option.bind_some, asPart, cut_one _ lp, oEq_str, f1, f2, asB, oTruth, Bool.false_eq_true, if_false, if_true]
    rfl
def E111 {P : Params} {c : Cx} (h : CF (KK P) c) : List D → Option D := runF ["part", "sign"] (T_law_fits h).1
theorem fit_ok {P : Params} {c : Cx} (h : CF (KK P) c) : ActL c 1 (fun vs => call (.ref 111) vs) (E111 h) := (T_law_fits h).2 _ (runF_HF _ _)
theorem E111_of {P : Params} {c : Cx} (h : CF (KK P) c) (t : Tk) (ht : t.ok) (hn : noStar t) (y : Nat) (hy : y ∈ sg8) : E111 h [.str (T t.txt), .str (T [y])] = some (.bool (fits t y)) :=
  runF_of rfl (fits_gives h t ht hn y hy _ rfl rfl)
end Mine
end SN6

/-! N7 -/
noncomputable section SN7
namespace Mine
abbrev It := Option Tk
def srcO : It → List Nat
  | none => []
  | some t => t.src
theorem srcs_row (its : List It) (o : It) : srcs (rowTk (its ++ [o])) = srcs (rowTk its) ++ (srcO o ++ [42]) := by
  unfold srcs rowTk
  simp only [List.flatMap_cons, List.flatMap_append, List.flatMap_nil, List.append_nil, List.append_assoc, List.flatMap_append]
  cases o <;> simp [srcO, Tk.src]
def isMeta (y : Nat) : Bool := [42, 63, 91].contains y
def isLet (y : Nat) : Bool := [97, 65, 98, 66].contains y
def isA (y : Nat) : Bool := [97, 65].contains y
def plainT (y : Nat) : Tk := if isMeta y then .br [y] else .one y
def caseT (y : Nat) : Tk := .br (if isA y then [97, 65] else [98, 66])
def itemsOf (y : Nat) : List (It × Int) := [(some (plainT y), 0), (some .quest, 2), (none, 4)] ++ (if isLet y then [(some (caseT y), 1)] else [])
abbrev Row1 := List It × Int
def encRow (p : Row1) : D := .list [encW (srcs (rowTk p.1)), .int p.2]
def encIt (p : It × Int) : D := .list [encW (srcO p.1), .int p.2]
def dearer (rows : List Row1) (y : Nat) : List Row1 := rows.flatMap fun row => (itemsOf y).map fun it => (row.1 ++ [it.1], row.2 + it.2)
theorem in_meta : ∀ y ∈ sg8, oIn (.str (T [y])) (.str "*?[") = some (.bool (isMeta y)) := by
  intro y hy
  simp only [sg8, List.mem_cons, List.not_mem_nil, or_false] at hy
  rcases hy with rfl | rfl | rfl | rfl | rfl | rfl | rfl | rfl <;> kernel_rfl
theorem in_let : ∀ y ∈ sg8, oIn (.str (T [y])) (.str "aAbB") = some (.bool (isLet y)) := by
  intro y hy
  simp only [sg8, List.mem_cons, List.not_mem_nil, or_false] at hy
  rcases hy with rfl | rfl | rfl | rfl | rfl | rfl | rfl | rfl <;> kernel_rfl
theorem in_a : ∀ y ∈ sg8, oIn (.str (T [y])) (.str "aA") = some (.bool (isA y)) := by
  intro y hy
  simp only [sg8, List.mem_cons, List.not_mem_nil, or_false] at hy
  rcases hy with rfl | rfl | rfl | rfl | rfl | rfl | rfl | rfl <;> kernel_rfl
theorem items_src : ∀ y ∈ sg8, ∀ it ∈ itemsOf y, (srcO it.1).length ≤ 4 := by decide
theorem items_len (y : Nat) : (itemsOf y).length ≤ 4 := by unfold itemsOf; split <;> simp
theorem str_q : ("?" : Str) = T [63] := by decide
theorem str_aA : ("[aA]" : Str) = T [91, 97, 65, 93] := by decide
theorem str_bB : ("[bB]" : Str) = T [91, 98, 66, 93] := by decide
theorem dearer_gives {P : Params} {c : Cx} (h : CF (KK P) c) (rows : List Row1) (hr : rows.length ≤ 1000) (hp : ∀ p ∈ rows, (srcs (rowTk p.1)).length ≤ 50) (y : Nat) (hy : y ∈ sg8) (r0 : Rho)
    (g1 : r0.get "rows" = some (.sh (.list (rows.map encRow)))) (g2 : r0.get "sign" = some (.sh (.str (T [y])))) : Gives ((T_law_dearer h).1 r0) (.list ((dearer rows y).map encRow)) := by
  have hlim := lim_eq
  unfold T_law_dearer packT
  dsimp only
  refine seq_put "plain" (.sh (encW (plainT y).src)) ?_ fun r1 I1 => ?_
  · simp only [g2, Option.bind_some, in_meta y hy, asB, brk, cbrk]
    unfold plainT
    cases hm : isMeta y with
    | true =>
      rw [if_pos rfl, if_pos rfl, oAdd_T [91] [y] (by simp only [List.length_cons, List.length_nil]; omega)]
      simp only [Option.bind_some]
      rw [oAdd_T ([91] ++ [y]) [93] (by simp only [List.length_cons, List.length_nil, List.length_append]; omega)]
      rfl
    | false =>
      rw [if_neg Bool.false_ne_true, if_neg Bool.false_ne_true]
      rfl
  have a1 : r1.get "rows" = some (.sh (.list (rows.map encRow))) := get_sh I1 g1 (by decide)
  have a2 : r1.get "sign" = some (.sh (.str (T [y]))) := get_sh I1 g2 (by decide)
  have a3 : r1.get "plain" = some (.sh (encW (plainT y).src)) := by rw [I1, if_pos rfl]
  clear I1 g1 g2
  have l2 : ∀ a b : D, ([a, b] : List D).length ≤ lim := fun a b => by simp only [List.length_cons, List.length_nil]; omega
  have l3 : ∀ a b d : D, ([a, b, d] : List D).length ≤ lim := fun a b d => by simp only [List.length_cons, List.length_nil]; omega
  refine seq_put "items" (.own (([(some (plainT y), 0), (some .quest, 2), (none, 4)] : List (It × Int)).map encIt)) (by simp only [a3, Option.bind_some, if_pos (l2 _ _), if_pos (l3 _ _ _), str_q, emp_eq]; rfl) fun r2 I2 => ?_
  have b1 : r2.get "rows" = some (.sh (.list (rows.map encRow))) := get_sh I2 a1 (by decide)
  have b2 : r2.get "sign" = some (.sh (.str (T [y]))) := get_sh I2 a2 (by decide)
  have b3 : r2.get "items" = some (.own (([(some (plainT y), 0), (some .quest, 2), (none, 4)] : List (It × Int)).map encIt)) := by rw [I2, if_pos rfl]
  clear I2 a1 a2 a3
  refine seq_step (fun r => r.get "rows" = some (.sh (.list (rows.map encRow))) ∧ r.get "items" = some (.own ((itemsOf y).map encIt))) ?_ fun r3 I3 => ?_
  · have hbase : ([(some (plainT y), 0), (some .quest, 2), (none, 4)] : List (It × Int)).length < lim := by simp only [List.length_cons, List.length_nil]; omega
    unfold itemsOf
    generalize hb : ([(some (plainT y), 0), (some .quest, 2), (none, 4)] : List (It × Int)) = base at *
    have fo : getOwn r2 "items" = some (base.map encIt) := by unfold getOwn; rw [b3]
    simp only [b2, Option.bind_some, in_let y hy, asB]
    cases hlet : isLet y with
    | false => exact ⟨r2, rfl, b1, by rw [b3, if_neg Bool.false_ne_true, List.append_nil]⟩
    | true =>
      have hlb : (base.map encIt).length < lim := by rw [List.length_map]; exact hbase
      have hcase : (if isA y = true then some (D.str "[aA]") else some (D.str "[bB]")) = some (encW (caseT y).src) := by
        unfold caseT
        cases isA y <;> simp only [Bool.false_eq_true, if_true, if_false, str_aA, str_bB] <;> rfl
      refine ⟨r2.put "items" (.own (base.map encIt ++ [encIt (some (caseT y), 1)])), ?_, ?_, ?_⟩
      · simp only [if_true, seqF_id, fo, b2, Option.bind_some, in_a y hy, asB, hcase, if_pos (l2 _ _), if_pos hlb]
        rfl
      · rw [Rho.get_put, if_neg (by decide), b1]
      · rw [Rho.get_put, if_pos rfl, if_pos rfl, List.map_append]
        rfl
  obtain ⟨c1, c2⟩ := I3
  rw [c2]
  dsimp only
  have d1 : ((r3.kill "items").put "items" (.sh (.list ((itemsOf y).map encIt)))).get "rows" = some (.sh (.list (rows.map encRow))) := get_sh (fun y => get_kp r3 "items" y _) c1 (by decide)
  have d2 : ((r3.kill "items").put "items" (.sh (.list ((itemsOf y).map encIt)))).get "items" = some (.sh (.list ((itemsOf y).map encIt))) := by rw [get_kp, if_pos rfl]
  generalize (r3.kill "items").put "items" (.sh (.list ((itemsOf y).map encIt))) = q at d1 d2
  refine seq_done ?_
  have n1 : ("item" : Str) ≠ "row" := by decide
  have n2 : ("row" : Str) ≠ "item" := by decide
  have n3 : ("items" : Str) ≠ "row" := by decide
  rw [compO_for (enc1 := encRow) (enc2 := encIt) (fun row it => encRow (row.1 ++ [it.1], row.2 + it.2)) [("items", .sh (.list ((itemsOf y).map encIt)))] rows (itemsOf y) (by simp only [d1, Option.bind_some, asItems]) (by simp only [capO, d2, Option.map_some]) (by rfl) (by rfl) (by rfl) n1 ?_ ?_ ?_]
  · simp only [Option.map_some, Option.bind_some]
    unfold dearer
    rw [List.map_flatMap]
    simp only [List.map_map]
    rfl
  · intro b hb
    simp only [get_there _ _ n3, get_here, Option.bind_some, asItems]
  · intro b hb b2 hb2
    have e1 := hp b hb
    have e2 := items_src y hy b2 hb2
    have i0 : ∀ (u v : D), oIdx (.list [u, v]) (.int 0) = some u := fun u v => idx_L _ 0 u rfl (l2 u v)
    have i1 : ∀ (u v : D), oIdx (.list [u, v]) (.int 1) = some v := fun u v => idx_L _ 1 v rfl (l2 u v)
    have s1 := oAdd_T (srcs (rowTk b.1)) (srcO b2.1) (by omega)
    have s2 := oAdd_T (srcs (rowTk b.1) ++ srcO b2.1) [42] (by simp only [List.length_append, List.length_cons, List.length_nil]; omega)
    simp only [get_there _ _ n2, get_there _ _ n1, get_here, Option.bind_some, encRow, encIt, i0, i1, encW, s1, star, s2, oAdd_int, if_pos (l2 _ _)]
    rw [srcs_row, List.append_assoc]
  · have := items_len y
    have : rows.length * (itemsOf y).length ≤ 1000 * 4 := Nat.mul_le_mul hr this
    omega
def E104 {P : Params} {c : Cx} (h : CF (KK P) c) : List D → Option D := runF ["rows", "sign"] (T_law_dearer h).1
theorem dea_ok {P : Params} {c : Cx} (h : CF (KK P) c) : ActL c 1 (fun vs => call (.ref 104) vs) (E104 h) := (T_law_dearer h).2 _ (runF_HF _ _)
theorem E104_of {P : Params} {c : Cx} (h : CF (KK P) c) (rows : List Row1) (hr : rows.length ≤ 1000) (hp : ∀ p ∈ rows, (srcs (rowTk p.1)).length ≤ 50) (y : Nat) (hy : y ∈ sg8) : E104 h [.list (rows.map encRow), .str (T [y])] = some (.list ((dearer rows y).map encRow)) :=
  runF_of rfl (dearer_gives h rows hr hp y hy _ rfl rfl)
end Mine
end SN7

/-! N8 -/
noncomputable section SN8
namespace Mine
open PySem.Builtin.Str
def stepO (s sub : Str) (hi limit : Nat) (st : Array Nat × Nat) (i : Nat) : Array Nat × Nat :=
  if ((st.fst.size < limit ∧ st.snd ≤ i) ∧ i + sub.length ≤ hi) ∧ subAt s sub i = true then (st.fst.push i, i + sub.length) else st
theorem run_fold (s sub : Str) (hi limit : Nat) : ∀ (l : List Nat) (st : Array Nat × Nat), (forIn l st (StrLaws.occBody s sub hi limit)).run = l.foldl (stepO s sub hi limit) st
  | [], _ => rfl
  | a :: l, st => by
    rw [List.forIn_cons, List.foldl_cons]
    unfold StrLaws.occBody stepO
    split
    · exact run_fold s sub hi limit l _
    · exact run_fold s sub hi limit l _
theorem fold_none (s sub : Str) (hi limit : Nat) : ∀ (l : List Nat) (st : Array Nat × Nat), (∀ i ∈ l, ¬ (i + sub.length ≤ hi ∧ subAt s sub i = true)) → l.foldl (stepO s sub hi limit) st = st
  | [], _, _ => rfl
  | a :: l, st, h => by
    rw [List.foldl_cons]
    have e : stepO s sub hi limit st a = st := by
      unfold stepO
      rw [if_neg]
      intro q
      exact h a List.mem_cons_self ⟨q.1.2, q.2⟩
    rw [e]
    exact fold_none s sub hi limit l st fun i hi => h i (List.mem_cons_of_mem _ hi)
theorem subAt_T (X : List Nat) (i : Nat) : subAt (T X) (T sep6) i = ((X.drop i).take 6 == sep6) := by
  unfold subAt
  have hl : (T sep6).length = 6 := rfl
  rw [hl]
  show ((X.toArray.extract i (i + 6)) == sep6.toArray) = _
  rw [List.extract_toArray, List.extract_eq_take_drop]
  rw [Bool.eq_iff_iff, beq_iff_eq, beq_iff_eq]
  have e : i + 6 - i = 6 := by omega
  rw [e]
  constructor
  · intro q
    exact congrArg Array.toList q
  · intro q
    rw [q]
def startsFrom : Nat → List (List Nat) → List Nat
  | _, [] => []
  | a, g :: gs => a :: startsFrom (a + g.length) gs
theorem grp_len (x : List Nat) : (grp x).length = x.length + 7 := by
  unfold grp
  simp only [List.length_append, List.length_cons, List.length_nil]
  have : sep6.length = 6 := rfl
  omega
theorem occ_groups (hi limit : Nat) : ∀ (xs : List (List Nat)) (pre : List Nat) (st : Array Nat × Nat), (∀ x ∈ xs, 40 ∉ x) → hi = (pre ++ (xs.map grp).flatten).length → st.2 ≤ pre.length → st.1.size + xs.length ≤ limit →
    ((List.range' pre.length ((xs.map grp).flatten.length + 1)).foldl (stepO (T (pre ++ (xs.map grp).flatten)) (T sep6) hi limit) st).1.toList = st.1.toList ++ startsFrom pre.length (xs.map grp)
  | [], pre, st, _, hh, _, _ => by
    rw [fold_none]
    · simp [startsFrom]
    · intro i hmem q
      have h6 : (T sep6).length = 6 := rfl
      simp only [List.map_nil, List.flatten_nil, List.length_nil, List.append_nil] at hh hmem
      have := List.mem_range'_1.mp hmem
      rw [h6] at q
      omega
  | x :: xs, pre, st, hx, hh, hf, hs => by
    have h6 : (T sep6).length = 6 := rfl
    have hg := grp_len x
    have hx0 := hx x List.mem_cons_self
    rw [List.map_cons, List.flatten_cons] at hh ⊢
    rw [List.length_cons] at hs
    generalize hr : (xs.map grp).flatten = rest at *
    have hlen : (grp x ++ rest).length + 1 = 1 + ((x.length + 6) + (rest.length + 1)) := by rw [List.length_append, hg]; omega
    rw [hlen, ← List.range'_append_1, List.foldl_append, ← List.range'_append_1, List.foldl_append]
    have e1 : List.range' pre.length 1 = [pre.length] := rfl
    have hat : subAt (T (pre ++ (grp x ++ rest))) (T sep6) pre.length = true := by
      rw [subAt_T, List.drop_left, beq_iff_eq]
      unfold grp
      rw [List.append_assoc]
      exact List.take_left (l₁ := sep6)
    have e2 : [pre.length].foldl (stepO (T (pre ++ (grp x ++ rest))) (T sep6) hi limit) st = (st.1.push pre.length, pre.length + 6) := by
      rw [List.foldl_cons, List.foldl_nil]
      unfold stepO
      rw [if_pos ⟨⟨⟨by omega, hf⟩, by rw [h6, hh]; simp only [List.length_append]; omega⟩, hat⟩, h6]
    rw [e1, e2, fold_none _ _ _ _ (List.range' (pre.length + 1) (x.length + 6))]
    · have ih := occ_groups hi limit xs (pre ++ grp x) (st.1.push pre.length, pre.length + 6) (fun y hy => hx y (List.mem_cons_of_mem _ hy)) (by rw [hh, hr, List.append_assoc]) (by rw [List.length_append, hg]; show pre.length + 6 ≤ _; omega) (by show (st.1.push pre.length).size + _ ≤ _; rw [Array.size_push]; omega)
      rw [hr, List.append_assoc, List.length_append, hg] at ih
      rw [show pre.length + 1 + (x.length + 6) = pre.length + (x.length + 7) by omega]
      rw [ih]
      show (st.1.push pre.length).toList ++ _ = _
      rw [Array.toList_push, List.append_assoc]
      show _ = st.1.toList ++ (pre.length :: startsFrom (pre.length + (grp x).length) (xs.map grp))
      rw [hg]
      rfl
    · intro i hmem q
      have hm := List.mem_range'_1.mp hmem
      rw [subAt_T, beq_iff_eq] at q
      have h0 : (pre ++ (grp x ++ rest))[i]? = some 40 := by
        have := congrArg (fun l : List Nat => l[0]?) q.2
        simp only [List.getElem?_take, List.getElem?_drop] at this
        simpa [sep6] using this
      rw [List.getElem?_append_right (by omega), List.getElem?_append_left (by omega)] at h0
      unfold grp sep6 at h0
      have hi' : ∃ k, i - pre.length = k + 1 ∧ k < x.length + 6 := ⟨i - pre.length - 1, by omega, by omega⟩
      obtain ⟨k, hk, hk2⟩ := hi'
      rw [hk] at h0
      have hmem2 : (40 : Nat) ∈ ([63, 62, 46, 42, 63] ++ (x ++ [41])) := List.mem_of_getElem? (i := k) h0
      simp only [List.mem_append, List.mem_cons, List.not_mem_nil, or_false] at hmem2
      rcases hmem2 with w | w | w
      · omega
      · exact hx0 w
      · omega
theorem strSub_T (X : List Nat) (i j : Nat) : strSub (T X) i j = T ((X.drop i).take (j - i)) := by
  unfold strSub
  show (⟨X.toArray.extract i j⟩ : Str) = _
  rw [List.extract_toArray, List.extract_eq_take_drop]
  rfl
theorem parts_groups : ∀ (xs : List (List Nat)) (pre cur : List Nat), StrLaws.partsFrom (T (pre ++ (cur ++ (xs.map grp).flatten))) 6 pre.length (startsFrom (pre.length + cur.length) (xs.map grp)) = T cur :: xs.map fun x => T (x ++ [41])
  | [], pre, cur => by
    show [strSub _ _ _] = _
    rw [T_len, strSub_T, List.drop_left]
    simp
  | x :: xs, pre, cur => by
    show strSub _ _ _ :: StrLaws.partsFrom _ 6 (pre.length + cur.length + 6) (startsFrom (pre.length + cur.length + (grp x).length) (xs.map grp)) = _
    have ih := parts_groups xs (pre ++ (cur ++ sep6)) (x ++ [41])
    have h6 : sep6.length = 6 := rfl
    have e1 : (pre ++ (cur ++ sep6)).length = pre.length + cur.length + 6 := by simp only [List.length_append]; omega
    have e2 : (x ++ [41]).length = x.length + 1 := by simp
    rw [e1, e2] at ih
    have e3 : pre ++ (cur ++ sep6) ++ (x ++ [41] ++ (xs.map grp).flatten) = pre ++ (cur ++ ((x :: xs).map grp).flatten) := by
      rw [List.map_cons, List.flatten_cons]
      unfold grp
      simp only [List.append_assoc]
    rw [e3] at ih
    rw [grp_len, show pre.length + cur.length + (x.length + 7) = pre.length + cur.length + 6 + (x.length + 1) by omega, ih, strSub_T, List.drop_left]
    rw [show pre.length + cur.length - pre.length = cur.length by omega, List.take_left]
    rfl
theorem split_groups (xs : List (List Nat)) (hx : ∀ x ∈ xs, 40 ∉ x) : Txt.split (T (xs.map grp).flatten) (T sep6) = T [] :: xs.map fun x => T (x ++ [41]) := by
  unfold Txt.split
  cases xs with
  | nil => rfl
  | cons x xs =>
    have hl : 7 ≤ (((x :: xs).map grp).flatten).length := by rw [List.map_cons, List.flatten_cons, List.length_append, grp_len]; omega
    have hk : Builtin.Str.strKind (T sep6) = 1 := by decide +kernel
    have hk2 : 1 ≤ Builtin.Str.strKind (T ((x :: xs).map grp).flatten) := by unfold Builtin.Str.strKind; split <;> (try split) <;> decide
    have h6 : (T sep6).length = 6 := rfl
    have c1 : (decide ((T ((x :: xs).map grp).flatten).length < (T sep6).length) || decide (Builtin.Str.strKind (T ((x :: xs).map grp).flatten) < Builtin.Str.strKind (T sep6))) = false := by
      rw [T_len, h6, hk, decide_eq_false (by omega), decide_eq_false (by omega)]
      rfl
    rw [if_neg (by rw [c1]; exact Bool.false_ne_true)]
    have hocc : occurrences (T ((x :: xs).map grp).flatten) (T sep6) 0 (T ((x :: xs).map grp).flatten).length ((T ((x :: xs).map grp).flatten).length + 1) = startsFrom 0 ((x :: xs).map grp) := by
      rw [StrLaws.occ_eq, run_fold, T_len]
      have hn : (x :: xs).length ≤ ((x :: xs).map grp).flatten.length := by
        have : ∀ ys : List (List Nat), ys.length ≤ (ys.map grp).flatten.length := by
          intro ys
          induction ys with
          | nil => exact Nat.zero_le _
          | cons y ys ih => rw [List.map_cons, List.flatten_cons, List.length_append, grp_len, List.length_cons]; omega
        exact this _
      have := occ_groups ((x :: xs).map grp).flatten.length (((x :: xs).map grp).flatten.length + 1) (x :: xs) [] (#[], 0) hx (by simp) (Nat.le_refl _) (by show 0 + _ ≤ _; omega)
      simp only [List.nil_append, List.length_nil] at this
      rw [Nat.sub_zero, this]
    rw [hocc, if_neg (by simp [startsFrom]), StrLaws.partsBetween_eq, h6]
    have := parts_groups (x :: xs) [] []
    simp only [List.nil_append, List.length_nil, Nat.add_zero] at this
    exact this
end Mine
end SN8

/-! N9 -/
noncomputable section SN9
namespace Mine
def tail5 : List Nat := [46, 42, 41, 92, 90]
theorem tail5_eq : (".*)\\Z" : Str) = T tail5 := by decide
theorem cut_in (a F b : List Nat) (ha : a.length = 4) (hb : b.length = 5) : cutS (T (a ++ (F ++ b))) (some 4) (some (-5)) = T F := by
  unfold cutS cutL
  have h1 := clip_pos (a ++ (F ++ b)).length 4
  have h2 := clip_neg (a ++ (F ++ b)).length 5 (by decide)
  have e1 : clipAt (T (a ++ (F ++ b))).cps.toList.length 4 = 4 := by
    show clipAt (a ++ (F ++ b)).length ((4 : Nat) : Int) = 4
    rw [h1, List.length_append]; omega
  have e2 : clipAt (T (a ++ (F ++ b))).cps.toList.length (-5) = F.length + 4 := by
    show clipAt (a ++ (F ++ b)).length (-((5 : Nat) : Int)) = _
    rw [h2, List.length_append, List.length_append]; omega
  simp only [Option.elim, e1, e2]
  show (⟨(((a ++ (F ++ b)).drop 4).take (F.length + 4 - 4)).toArray⟩ : Str) = _
  rw [show (a ++ (F ++ b)).drop 4 = F ++ b by rw [← ha, List.drop_left], show F.length + 4 - 4 = F.length by omega, List.take_left]
  rfl
theorem cut_tail (u b : List Nat) (hb : b.length = 5) : cutS (T (u ++ b)) (some (-5)) none = T b := by
  unfold cutS cutL
  have h2 := clip_neg (u ++ b).length 5 (by decide)
  have e2 : clipAt (T (u ++ b)).cps.toList.length (-5) = u.length := by
    show clipAt (u ++ b).length (-((5 : Nat) : Int)) = _
    rw [h2, List.length_append]; omega
  simp only [Option.elim, e2]
  show (⟨(((u ++ b).drop u.length).take ((u ++ b).length - u.length)).toArray⟩ : Str) = _
  rw [List.drop_left, List.length_append, show u.length + b.length - u.length = b.length by omega, List.take_length]
  rfl
theorem cut_last (u : List Nat) (k : Nat) : cutS (T (u ++ [k])) (some (-1)) none = T [k] := by
  unfold cutS cutL
  have h2 := clip_neg (u ++ [k]).length 1 (by decide)
  have e2 : clipAt (T (u ++ [k])).cps.toList.length (-1) = u.length := by
    show clipAt (u ++ [k]).length (-((1 : Nat) : Int)) = _
    rw [h2, List.length_append]; simp
  simp only [Option.elim, e2]
  show (⟨(((u ++ [k]).drop u.length).take ((u ++ [k]).length - u.length)).toArray⟩ : Str) = _
  rw [List.drop_left, List.length_append, show u.length + [k].length - u.length = [k].length by omega, List.take_length]
  rfl
theorem cut_butlast (u : List Nat) (k : Nat) : cutS (T (u ++ [k])) none (some (-1)) = T u := by
  have := cut_to_neg (u ++ [k]) 1 (by decide)
  rw [show (-((1 : Nat) : Int)) = (-1 : Int) from rfl] at this
  rw [this, List.length_append, show u.length + [k].length - 1 = u.length by simp, List.take_left]
theorem oSplit_T (X : List Nat) (hl : X.length ≤ 900) : oSplit [.str (T X), .str (T sep6)] = some (.list ((Txt.split (T X) (T sep6)).map .str)) := by
  unfold oSplit
  dsimp only
  rw [if_pos]
  refine ⟨by rw [T_len]; omega, rfl, ?_⟩
  have h1 := StrLaws.occ_length_le (T X) (T sep6) 0 (T X).length ((T X).length + 1)
  rw [T_len] at h1 ⊢
  have h2 : ∀ (s : Str) (cuts : List Nat) (k : Nat), (Builtin.Str.partsBetween s cuts k).length = cuts.length + 1 := by
    intro s cuts k
    unfold Builtin.Str.partsBetween
    simp
  rw [h2]
  omega
/-- greedy: each part at the first place that fits -/
def tkL : List Tk → List Nat → Bool
  | [], _ => true
  | t :: ts, u => match u.drop (u.findIdx (fits t)) with
    | [] => false
    | _ :: u' => tkL ts u'
def stepT (w : List Nat) (a : Nat) (t : Tk) : Nat ⊕ D :=
  if a + (w.drop a).findIdx (fits t) = w.length then .inr (.bool false) else .inl (a + (w.drop a).findIdx (fits t) + 1)
theorem stepT_tkL (w : List Nat) : ∀ (ts : List Tk) (a : Nat), a ≤ w.length → match foldE (stepT w) a ts with
    | .inl _ => tkL ts (w.drop a) = true
    | .inr v => v = .bool false ∧ tkL ts (w.drop a) = false
  | [], a, _ => rfl
  | t :: ts, a, ha => by
    unfold foldE stepT tkL
    have hle : (w.drop a).findIdx (fits t) ≤ (w.drop a).length := List.findIdx_le_length
    rw [List.length_drop] at hle
    rw [List.drop_drop]
    generalize (w.drop a).findIdx (fits t) = p at *
    by_cases hc : a + p = w.length
    · rw [if_pos hc, hc, List.drop_length]
      exact ⟨rfl, rfl⟩
    · rw [if_neg hc]
      have hlt : a + p < w.length := by omega
      rw [List.drop_eq_getElem_cons hlt]
      exact stepT_tkL w ts (a + p + 1) hlt
theorem txt_no40 (t : Tk) (ht : t.ok) (hn : noStar t) : 40 ∉ t.txt ∧ t.txt.length ≤ 5 := by
  cases t with
  | star => exact hn.elim
  | one c => rcases ht with rfl | rfl | rfl | rfl | rfl <;> decide
  | quest => decide
  | br s =>
    have hb : ∀ s ∈ brs, 40 ∉ (91 :: (brT s ++ [93])) ∧ (91 :: (brT s ++ [93])).length ≤ 5 := by decide
    exact hb s ht
theorem truth_bool (b : Bool) : oTruth (.bool b) = some b := rfl
theorem takes_gives {P : Params} {c : Cx} (h : CF (KK P) c) (ts : List Tk) (hts : ∀ t ∈ ts, t.ok ∧ noStar t) (hn : ts.length ≤ 10) (w : List Nat) (hw : ∀ y ∈ w, y ∈ sg8) (hl : w.length ≤ 50) (r0 : Rho)
    (g1 : r0.get "text" = some (.sh (.str (T (txtOf (ts.map Tk.txt)))))) (g2 : r0.get "word" = some (.sh (.str (T w)))) : Gives ((T_law_takes h (fit_ok h)).1 r0) (.bool (tkL ts w)) := by
  have hlim := lim_eq
  have hxs : ∀ x ∈ ts.map Tk.txt, 40 ∉ x ∧ x.length ≤ 5 := fun x hx => by
    obtain ⟨t, ht, rfl⟩ := List.mem_map.mp hx
    exact txt_no40 t (hts t ht).1 (hts t ht).2
  have hF : ∀ ys : List (List Nat), (∀ y ∈ ys, y.length ≤ 5) → ((ys.map grp).flatten).length ≤ 12 * ys.length := by
    intro ys
    induction ys with
    | nil => intro _; simp
    | cons y ys ih =>
      intro hy
      have h1 := ih fun z hz => hy z (List.mem_cons_of_mem _ hz)
      have h2 := hy y List.mem_cons_self
      rw [List.map_cons, List.flatten_cons, List.length_append, grp_len, List.length_cons]
      omega
  have hFl := hF (ts.map Tk.txt) fun y hy => (hxs y hy).2
  rw [List.length_map] at hFl
  have hsp := split_groups (ts.map Tk.txt) fun x hx => (hxs x hx).1
  generalize hFe : ((ts.map Tk.txt).map grp).flatten = F at hFl hsp
  have htx : txtOf (ts.map Tk.txt) = pre4 ++ (F ++ tail5) := by
    unfold txtOf
    rw [hFe, List.append_assoc, List.append_assoc]
    rfl
  rw [htx] at g1
  have ltx : (pre4 ++ (F ++ tail5)).length ≤ lim := by
    simp only [List.length_append]
    have h1 : pre4.length = 4 := rfl
    have h2 : tail5.length = 5 := rfl
    omega
  have k1 : oCut (.str (T (pre4 ++ (F ++ tail5)))) (some 4) (some (-5)) = some (.str (T F)) := by rw [cut_ok _ _ _ ltx, cut_in pre4 F tail5 rfl rfl]
  have k2 : oCut (.str (T (pre4 ++ (F ++ tail5)))) none (some 4) = some (.str (T pre4)) := by
    rw [cut_ok _ _ _ ltx]
    have := cut_to (pre4 ++ (F ++ tail5)) 4
    rw [show ((4 : Nat) : Int) = 4 from rfl] at this
    rw [this, show (4 : Nat) = pre4.length from rfl, List.take_left]
  have k3 : oCut (.str (T (pre4 ++ (F ++ tail5)))) (some (-5)) none = some (.str (T tail5)) := by rw [cut_ok _ _ _ ltx, ← List.append_assoc, cut_tail _ tail5 rfl]
  have k4 := oSplit_T F (by omega)
  rw [hsp] at k4
  have n4 : oNeg (.int 4) = some (.int (-4)) := rfl
  have n5 : oNeg (.int 5) = some (.int (-5)) := rfl
  have n1 : oNeg (.int 1) = some (.int (-1)) := rfl
  unfold T_law_takes packT
  dsimp only
  have hpl : ((T [] :: (ts.map Tk.txt).map fun x => T (x ++ [41])).map D.str) = (encW [] :: ts.map fun t => encW (t.txt ++ [41])) := by
    rw [List.map_cons, List.map_map, List.map_map]
    rfl
  rw [hpl] at k4
  have lpl : (encW [] :: ts.map fun t => encW (t.txt ++ [41])).length ≤ lim := by rw [List.length_cons, List.length_map]; omega
  refine seq_put "pieces" (.sh (.list (encW [] :: ts.map fun t => encW (t.txt ++ [41])))) (by simp only [g1, Option.bind_some, asPart, n5, k1, sep6_eq, k4]) fun r1 I1 => ?_
  have a1 := get_sh I1 g1 (by decide)
  have a2 := get_sh I1 g2 (by decide)
  have a3 : r1.get "pieces" = some (.sh (.list (encW [] :: ts.map fun t => encW (t.txt ++ [41])))) := by rw [I1, if_pos rfl]
  clear I1 g1 g2
  have i0 : oIdx (.list (encW [] :: ts.map fun t => encW (t.txt ++ [41]))) (.int 0) = some (encW []) := idx_L _ 0 _ rfl lpl
  have ne1 : (T pre4 != ("(?s:" : Str)) = false := by decide
  have ne2 : (T tail5 != (".*)\\Z" : Str)) = false := by decide
  have ne3 : (T [] != ("" : Str)) = false := by decide
  refine seq_step (fun r => r.get "word" = some (.sh (.str (T w))) ∧ r.get "pieces" = some (.sh (.list (encW [] :: ts.map fun t => encW (t.txt ++ [41]))))) ⟨r1, ?_, a2, a3⟩ fun r2 I2 => ?_
  · unfold encW at i0
    simp only [a1, a3, Option.bind_some, asPart, n5, k2, k3, oNe_str, ne1, ne2, asB, Bool.false_eq_true, if_false, encW, i0, ne3]
  obtain ⟨b2, b3⟩ := I2
  clear a1 a2 a3
  refine seq_put "at" (.sh (.int ((0 : Nat) : Int))) (by simp only [Option.bind_some]; rfl) fun r3 I3 => ?_
  have c2 := get_sh I3 b2 (by decide)
  have c3 := get_sh I3 b3 (by decide)
  have c4 : r3.get "at" = some (.sh (.int ((0 : Nat) : Int))) := by rw [I3, if_pos rfl]
  clear I3 b2 b3
  have hcl : oCut (.list (encW [] :: ts.map fun t => encW (t.txt ++ [41]))) (some 1) none = some (.list (ts.map fun t => encW (t.txt ++ [41]))) := by
    unfold oCut
    dsimp only
    rw [if_pos lpl]
    unfold cutL
    have := clip_pos (encW [] :: ts.map fun t => encW (t.txt ++ [41])).length 1
    rw [show ((1 : Nat) : Int) = 1 from rfl] at this
    simp only [Option.elim, this]
    rw [Nat.min_eq_left (by rw [List.length_cons]; omega), List.drop_succ_cons, List.drop_zero, List.take_of_length_le (by rw [List.length_cons]; omega)]
  have hres := stepT_tkL w ts 0 (Nat.zero_le _)
  rw [List.drop_zero] at hres
  refine seq_for (fun (a : Nat) r => r.get "word" = some (.sh (.str (T w))) ∧ r.get "at" = some (.sh (.int (a : Int))) ∧ a ≤ w.length) (foldE (stepT w) 0 ts) ?_ (fun y r4 hy _ => ?_) (fun v hv => ?_)
  · simp only [c3, Option.bind_some, asPart, hcl, asItems]
    refine for_inv (fun (a : Nat) r => r.get "word" = some (.sh (.str (T w))) ∧ r.get "at" = some (.sh (.int (a : Int))) ∧ a ≤ w.length) (fun t => encW (t.txt ++ [41])) (fun t => t.ok ∧ noStar t) (stepT w) (fun a t r I ht => ?_) ts 0 r3 hts ⟨c2, c4, Nat.zero_le _⟩
    obtain ⟨J1, J2, hal⟩ := I
    obtain ⟨hto, htn⟩ := ht
    have q1 : Rho.get ((r.kill "piece").put "piece" (.sh (encW (t.txt ++ [41])))) "word" = some (.sh (.str (T w))) := get_sh (fun y => get_kp r "piece" y _) J1 (by decide)
    have q2 : Rho.get ((r.kill "piece").put "piece" (.sh (encW (t.txt ++ [41])))) "at" = some (.sh (.int (a : Int))) := get_sh (fun y => get_kp r "piece" y _) J2 (by decide)
    have q3 : Rho.get ((r.kill "piece").put "piece" (.sh (encW (t.txt ++ [41])))) "piece" = some (.sh (.str (T (t.txt ++ [41])))) := by rw [get_kp, if_pos rfl]; rfl
    generalize (r.kill "piece").put "piece" (.sh (encW (t.txt ++ [41]))) = q at q1 q2 q3
    have htl := (txt_no40 t hto htn).2
    have lpt : (t.txt ++ [41]).length ≤ lim := by simp only [List.length_append, List.length_cons, List.length_nil]; omega
    have kc : oCut (.str (T (t.txt ++ [41]))) none (some (-1)) = some (.str (T t.txt)) := by rw [cut_ok _ _ _ lpt, cut_butlast]
    have kd : oCut (.str (T (t.txt ++ [41]))) (some (-1)) none = some (.str (T [41])) := by rw [cut_ok _ _ _ lpt, cut_last]
    have lw : w.length ≤ lim := by omega
    have hle : (w.drop a).findIdx (fits t) ≤ (w.drop a).length := List.findIdx_le_length
    rw [List.length_drop] at hle
    have hno : ∀ m, m < (w.drop a).findIdx (fits t) → fits t (w.getD (a + m) 0) = false := fun m hm => by
      have h1 := List.not_of_lt_findIdx hm
      rw [List.getElem_drop] at h1
      rw [List.getD_eq_getElem?_getD, List.getElem?_eq_getElem (by omega)]
      simpa using h1
    have hyes : a + (w.drop a).findIdx (fits t) < w.length → fits t (w.getD (a + (w.drop a).findIdx (fits t)) 0) = true := fun hlt => by
      have h1 : (w.drop a).findIdx (fits t) < (w.drop a).length := by rw [List.length_drop]; omega
      have h2 := List.findIdx_getElem (w := h1)
      rw [List.getElem_drop] at h2
      rw [List.getD_eq_getElem?_getD, List.getElem?_eq_getElem hlt]
      exact h2
    unfold stepT
    generalize (w.drop a).findIdx (fits t) = pp at *
    refine ends_step (fun r1 => r1.get "word" = some (.sh (.str (T w))) ∧ r1.get "piece" = some (.sh (.str (T (t.txt ++ [41])))) ∧ r1.get "at" = some (.sh (.int ((a + pp : Nat) : Int))))
      (while_upto (fun m r1 => r1.get "word" = some (.sh (.str (T w))) ∧ r1.get "piece" = some (.sh (.str (T (t.txt ++ [41])))) ∧ r1.get "at" = some (.sh (.int ((a + m : Nat) : Int)))) pp (fun m r1 K hm => ?_) (fun m r1 K hm => ?_) lim 0 q (by omega) (Nat.zero_le _) ⟨q1, q3, q2⟩) fun r5 L => ?_
    · obtain ⟨K1, K2, K3⟩ := K
      · simp only [K1, K3, Option.bind_some, len_T w lw, oLt_int, asB]
        by_cases hlt : a + m < w.length
        · have hmem : w.getD (a + m) 0 ∈ sg8 := by
            apply hw
            rw [List.getD_eq_getElem?_getD, List.getElem?_eq_getElem hlt]
            exact List.getElem_mem hlt
          have e1 : decide (((a + m : Nat) : Int) < (w.length : Int)) = true := decide_eq_true (by omega)
          have e2 := idx_a w (a + m) hlt lw
          have e3 := E111_of h t hto htn _ hmem
          simp only [e1, if_true, K2, Option.bind_some, n1, asPart, kc, e2, e3, truth_bool, Option.map_some]
          by_cases hmp : m < pp
          · rw [hno m hmp, decide_eq_true hmp]; rfl
          · have : m = pp := by omega
            subst this
            rw [hyes hlt, decide_eq_false hmp]; rfl
        · have e1 : decide (((a + m : Nat) : Int) < (w.length : Int)) = false := decide_eq_false (by omega)
          have : m = pp := by omega
          subst this
          rw [e1, decide_eq_false (Nat.lt_irrefl _), if_neg Bool.false_ne_true]
    · obtain ⟨K1, K2, K3⟩ := K
      · refine ⟨_, by simp only [seqF_id, K3, Option.bind_some, oAdd_int]; rfl, get_sh (fun y => get_kp r1 "at" y _) K1 (by decide), get_sh (fun y => get_kp r1 "at" y _) K2 (by decide), ?_⟩
        rw [get_kp, if_pos rfl]
        rfl
    obtain ⟨L1, L2, L3⟩ := L
    have ne4 : (T [41] != (")" : Str)) = false := by decide
    by_cases hc : a + pp = w.length
    · rw [if_pos hc]
      have e1 : (((a + pp : Nat) : Int) == (w.length : Int)) = true := by rw [beq_iff_eq]; omega
      refine ⟨r5, seqF_ret ?_⟩
      simp only [L1, L3, Option.bind_some, len_T w lw, oEq_int, e1, asB, if_true]
      rfl
    · rw [if_neg hc]
      have e1 : (((a + pp : Nat) : Int) == (w.length : Int)) = false := by rw [beq_eq_false_iff_ne]; omega
      have hskip : ∀ {g : Rho → Option (Rho × Fl)} {f : Rho → Option (Rho × Fl)}, f r5 = some (r5, .next) → seqF f g r5 = g r5 := fun e => seqF_next e
      rw [hskip (by simp only [L1, L2, L3, Option.bind_some, len_T w lw, oEq_int, e1, asB, Bool.false_eq_true, if_false, n1, asPart, kd, oNe_str, ne4])]
      refine ⟨_, by simp only [seqF_id, L3, Option.bind_some, oAdd_int]; rfl, get_sh (fun y => get_kp r5 "at" y _) L1 (by decide), ?_, by omega⟩
      rw [get_kp, if_pos rfl]
      rfl
  · rw [hy] at hres
    rw [show tkL ts w = true from hres]
    exact seq_done (by simp only [Option.bind_some])
  · rw [hv] at hres
    rw [hres.1, hres.2]
def E118 {P : Params} {c : Cx} (h : CF (KK P) c) : List D → Option D := runF ["text", "word"] (T_law_takes h (fit_ok h)).1
theorem tak_ok {P : Params} {c : Cx} (h : CF (KK P) c) : ActL c 2 (fun vs => call (.ref 118) vs) (E118 h) := (T_law_takes h (fit_ok h)).2 _ (runF_HF _ _)
theorem E118_of {P : Params} {c : Cx} (h : CF (KK P) c) (ts : List Tk) (hts : ∀ t ∈ ts, t.ok ∧ noStar t) (hn : ts.length ≤ 10) (w : List Nat) (hw : ∀ y ∈ w, y ∈ sg8) (hl : w.length ≤ 50) : E118 h [.str (T (txtOf (ts.map Tk.txt))), .str (T w)] = some (.bool (tkL ts w)) :=
  runF_of rfl (takes_gives h ts hts hn w hw hl _ rfl rfl)
end Mine
end SN9

/-! P1 -/
namespace Mine
/-! ### the distance from both ends -/
section
variable {c : Nat → Nat → Int}
theorem dR_one_l (x y : Nat) : ∀ (b : List Nat), dR c [x] (b ++ [y]) = min (2 * (b.length : Int) + c x y) (min (2 * ((b.length : Int) + 1) + 2) (dR c [x] b + 2))
  | [] => by
    rw [List.nil_append, dR_cons, dR_nil_l, dR_nil_l, dR_nil_r]
    rfl
  | z :: b => by
    have ih := dR_one_l x y b
    have eA : ∀ u : Int, 2 * (b.length : Int) + u + 2 = 2 * ((b.length : Int) + 1) + u := fun u => by omega
    rw [List.cons_append, dR_cons, ih, dR_nil_l, dR_nil_l, dR_cons, dR_nil_l, dR_nil_l]
    simp only [List.length_append, List.length_cons, List.length_nil, Int.natCast_add, Int.cast_ofNat_Int, Nat.zero_add, mn, eA]
    generalize 2 * ((b.length : Int) + 1) + c x y = u1
    generalize 2 * ((b.length : Int) + 1) + c x z = u2
    ac_rfl
theorem dR_one_r (C : Cost c) (x y : Nat) (a : List Nat) : dR c (a ++ [x]) [y] = min (2 * (a.length : Int) + c x y) (min (dR c a [y] + 2) (2 * ((a.length : Int) + 1) + 2)) := by
  rw [dR_symm C, dR_one_l, C.symm y x, dR_symm C [y] a, Int.min_comm (dR c a [y] + 2)]
theorem dR_snoc (C : Cost c) (x y : Nat) : ∀ (a b : List Nat), dR c (a ++ [x]) (b ++ [y]) = min (dR c a b + c x y) (min (dR c a (b ++ [y]) + 2) (dR c (a ++ [x]) b + 2))
  | [], b => by
    rw [List.nil_append, dR_one_l, dR_nil_l, dR_nil_l, List.length_append]
    rfl
  | u :: a, [] => by
    rw [List.nil_append, dR_one_r C, dR_nil_r, dR_nil_r, List.length_append]
    rfl
  | u :: a, z :: b => by
    have h1 := dR_snoc C x y a b
    have h2 := dR_snoc C x y a (z :: b)
    have h3 := dR_snoc C x y (u :: a) b
    simp only [List.cons_append] at h1 h2 h3 ⊢
    rw [dR_cons u z (a ++ [x]) (b ++ [y]), h1, h2, h3, dR_cons u z a b, dR_cons u z a (b ++ [y]), dR_cons u z (a ++ [x]) b]
    have d : ∀ p q k : Int, min p q + k = min (p + k) (q + k) := by intro p q k; omega
    simp only [d]
    generalize dR c a b = v1
    generalize dR c a (z :: b) = v2
    generalize dR c (u :: a) b = v3
    generalize dR c a (b ++ [y]) = v4
    generalize dR c a (z :: (b ++ [y])) = v5
    generalize dR c (u :: a) (b ++ [y]) = v6
    generalize dR c (a ++ [x]) b = v7
    generalize dR c (a ++ [x]) (z :: b) = v8
    generalize dR c (u :: (a ++ [x])) b = v9
    ac_rfl
termination_by a b => a.length + b.length
theorem dR_rev (C : Cost c) : ∀ (a b : List Nat), dR c a.reverse b.reverse = dR c a b
  | [], b => by rw [List.reverse_nil, dR_nil_l, dR_nil_l, List.length_reverse]
  | x :: a, [] => by rw [List.reverse_nil, dR_nil_r, dR_nil_r, List.length_reverse]
  | x :: a, y :: b => by
    have h1 := dR_rev C a b
    have h2 := dR_rev C a (y :: b)
    have h3 := dR_rev C (x :: a) b
    rw [List.reverse_cons] at h2 h3
    rw [List.reverse_cons, List.reverse_cons, dR_snoc C, h1, h2, h3, dR_cons]
termination_by a b => a.length + b.length
end
theorem dist_eq (a b : List Nat) : dist a b = dR kost a b := dR_rev kost_ok a b
/-! ### greedy -/
theorem tkL_nil (u : List Nat) : tkL [] u = true := by unfold tkL; rfl
theorem tkL_end (t : Tk) (ts : List Tk) : tkL (t :: ts) [] = false := by unfold tkL; simp
theorem tkL_cons (t : Tk) (ts : List Tk) (y : Nat) (u : List Nat) : tkL (t :: ts) (y :: u) = if fits t y then tkL ts u else tkL (t :: ts) u := by
  cases h : fits t y with
  | true =>
    rw [if_pos rfl]
    conv => lhs; unfold tkL
    rw [List.findIdx_cons, h]
    rfl
  | false =>
    rw [if_neg Bool.false_ne_true]
    conv => lhs; unfold tkL
    conv => rhs; unfold tkL
    rw [List.findIdx_cons, h]
    rfl
theorem tkL_up : ∀ (ts : List Tk), (∀ (y : Nat) (u : List Nat), tkL ts u = true → tkL ts (y :: u) = true)
  | [], _, _, _ => tkL_nil _
  | t :: ts, y, u, h => by
    have B : ∀ u, tkL (t :: ts) u = true → tkL ts u = true := by
      intro u
      induction u with
      | nil => intro h; rw [tkL_end] at h; cases h
      | cons z u ih =>
        intro h
        rw [tkL_cons] at h
        cases hz : fits t z with
        | true => rw [hz, if_pos rfl] at h; exact tkL_up ts z u h
        | false => rw [hz, if_neg Bool.false_ne_true] at h; exact tkL_up ts z u (ih h)
    rw [tkL_cons]
    cases hy : fits t y with
    | true => rw [if_pos rfl]; exact B u h
    | false => rw [if_neg Bool.false_ne_true]; exact h
/-! ### the choices -/
inductive Ch : List Nat → List It → Int → Prop
  | nil : Ch [] [] 0
  | cons {x : Nat} {a : List Nat} {o : It} {k : Int} {its : List It} {p : Int} : (o, k) ∈ itemsOf x → Ch a its p → Ch (x :: a) (o :: its) (k + p)
theorem rows_ch : ∀ (a : List Nat) (rows : List Row1) (its : List It) (p : Int), (its, p) ∈ a.foldl dearer rows ↔ ∃ i0 p0 i1 p1, (i0, p0) ∈ rows ∧ Ch a i1 p1 ∧ its = i0 ++ i1 ∧ p = p0 + p1
  | [], rows, its, p => by
    constructor
    · intro h
      exact ⟨its, p, [], 0, h, .nil, by simp, by omega⟩
    · rintro ⟨i0, p0, i1, p1, h, hc, rfl, rfl⟩
      cases hc
      simpa using h
  | x :: a, rows, its, p => by
    rw [List.foldl_cons, rows_ch a]
    constructor
    · rintro ⟨i0, p0, i1, p1, h, hc, rfl, rfl⟩
      unfold dearer at h
      obtain ⟨row, hrow, hm⟩ := List.mem_flatMap.mp h
      obtain ⟨it, hit, he⟩ := List.mem_map.mp hm
      cases he
      exact ⟨row.1, row.2, it.1 :: i1, it.2 + p1, hrow, .cons hit hc, by simp, by omega⟩
    · rintro ⟨i0, p0, i1, p1, h, hc, rfl, rfl⟩
      cases hc with
      | cons hit hc =>
        rename_i o k its' p'
        refine ⟨i0 ++ [o], p0 + k, its', p', ?_, hc, by simp, by omega⟩
        unfold dearer
        exact List.mem_flatMap.mpr ⟨(i0, p0), h, List.mem_map.mpr ⟨(o, k), hit, rfl⟩⟩
theorem fit_cost0 : (sg8.all fun x => (itemsOf x).all fun it => sg8.all fun y => match it.1 with | some t => !(fits t y) || decide (kost x y ≤ it.2) | none => decide (it.2 = 4)) = true := by
  decide +kernel
theorem fit_cost (x : Nat) (hx : x ∈ sg8) (it : It × Int) (hit : it ∈ itemsOf x) (y : Nat) (hy : y ∈ sg8) : (match it.1 with | some t => fits t y = true → kost x y ≤ it.2 | none => it.2 = 4) := by
  have h := List.all_eq_true.mp (List.all_eq_true.mp (List.all_eq_true.mp fit_cost0 x hx) it hit) y hy
  obtain ⟨o, k⟩ := it
  cases o with
  | none => simpa using h
  | some t =>
    intro hf
    simp only [hf, Bool.not_true, Bool.false_or, decide_eq_true_eq] at h
    exact h
theorem fit_best : ∀ x ∈ sg8, ∀ y ∈ sg8, ((itemsOf x).any fun it => match it.1 with | some t => fits t y && it.2 == kost x y | none => false) = true := by
  decide +kernel
theorem none_in (x : Nat) : ((none : It), (4 : Int)) ∈ itemsOf x := by unfold itemsOf; simp
theorem low (a : List Nat) : ∀ (its : List It) (p : Int), Ch a its p → (∀ x ∈ a, x ∈ sg8) → ∀ b : List Nat, (∀ y ∈ b, y ∈ sg8) → tkL (its.filterMap id) b = true → dR kost a b ≤ 2 * ((b.length : Int) - a.length) + p := by
  intro its p hc
  induction hc with
  | nil => intro _ b _ _; rw [dR_nil_l]; simp
  | @cons x a o k its p hit hc ih =>
    intro ha b hb ht
    have hx := ha x List.mem_cons_self
    have ha' : ∀ z ∈ a, z ∈ sg8 := fun z hz => ha z (List.mem_cons_of_mem _ hz)
    have hf := fit_cost x hx (o, k) hit
    cases o with
    | none =>
      have hk : k = 4 := hf 97 (by decide)
      have h1 := ih ha' b hb ht
      have h2 := dR_up_l (c := kost) x a b
      simp only [List.length_cons]
      omega
    | some t =>
      have ht' : tkL (t :: its.filterMap id) b = true := ht
      clear ht
      induction b with
      | nil => rw [tkL_end] at ht'; cases ht'
      | cons y b ihb =>
        have hb' : ∀ z ∈ b, z ∈ sg8 := fun z hz => hb z (List.mem_cons_of_mem _ hz)
        rw [tkL_cons] at ht'
        cases hy : fits t y with
        | true =>
          rw [hy, if_pos rfl] at ht'
          have h1 := ih ha' b hb' ht'
          have h2 : kost x y ≤ k := hf y (hb y List.mem_cons_self) hy
          rw [dR_cons]
          simp only [List.length_cons]
          omega
        | false =>
          rw [hy, if_neg Bool.false_ne_true] at ht'
          have h1 := ihb hb' ht'
          have h2 := dR_up_r (c := kost) y (x :: a) b
          simp only [List.length_cons] at h1 ⊢
          omega
theorem best : ∀ (a b : List Nat), (∀ x ∈ a, x ∈ sg8) → (∀ y ∈ b, y ∈ sg8) → ∃ its p, Ch a its p ∧ tkL (its.filterMap id) b = true ∧ p = dR kost a b - 2 * ((b.length : Int) - a.length)
  | [], b, _, _ => ⟨[], 0, .nil, tkL_nil _, by rw [dR_nil_l]; simp⟩
  | x :: a, [], ha, hb => by
    obtain ⟨its, p, h1, h2, h3⟩ := best a [] (fun z hz => ha z (List.mem_cons_of_mem _ hz)) hb
    refine ⟨none :: its, 4 + p, .cons (none_in x) h1, h2, ?_⟩
    rw [h3, dR_nil_r, dR_nil_r]
    simp only [List.length_cons, List.length_nil]
    omega
  | x :: a, y :: b, ha, hb => by
    have ha' : ∀ z ∈ a, z ∈ sg8 := fun z hz => ha z (List.mem_cons_of_mem _ hz)
    have hb' : ∀ z ∈ b, z ∈ sg8 := fun z hz => hb z (List.mem_cons_of_mem _ hz)
    have hc := dR_cons (c := kost) x y a b
    have hcase : dR kost (x :: a) (y :: b) = dR kost a b + kost x y ∨ dR kost (x :: a) (y :: b) = dR kost a (y :: b) + 2 ∨ dR kost (x :: a) (y :: b) = dR kost (x :: a) b + 2 := by omega
    rcases hcase with e | e | e
    · obtain ⟨its, p, h1, h2, h3⟩ := best a b ha' hb'
      obtain ⟨⟨o, k⟩, hit, hq⟩ := List.any_eq_true.mp (fit_best x (ha x List.mem_cons_self) y (hb y List.mem_cons_self))
      cases o with
      | none => cases hq
      | some t =>
        simp only [Bool.and_eq_true, beq_iff_eq] at hq
        refine ⟨some t :: its, k + p, .cons hit h1, ?_, ?_⟩
        · show tkL (t :: its.filterMap id) (y :: b) = true
          rw [tkL_cons, hq.1, if_pos rfl]
          exact h2
        · rw [e, h3, hq.2]
          simp only [List.length_cons]
          omega
    · obtain ⟨its, p, h1, h2, h3⟩ := best a (y :: b) ha' hb
      refine ⟨none :: its, 4 + p, .cons (none_in x) h1, h2, ?_⟩
      rw [e, h3]
      simp only [List.length_cons]
      omega
    · obtain ⟨its, p, h1, h2, h3⟩ := best (x :: a) b ha hb'
      refine ⟨its, p, h1, tkL_up _ y b h2, ?_⟩
      rw [e, h3]
      simp only [List.length_cons]
      omega
termination_by a b => a.length + b.length
end Mine

/-! FL1 -/
set_option maxHeartbeats 4000000
noncomputable section SFL1
namespace Mine

section
variable {P : Params} {c : Cx}

def packS {K : Frag} {n : Nat} (_h : CF K c) {fa : Addr} {ob : Obj} {fd : FuncData} {body : List Stmt} {f : Rho → Option (Rho × Fl)}
    (_hob : K.lookup fa = some ob) (_hd : ob.data = .func fd) (_hbody : fd.body = .stmts body) (t : TrSs c n fd.scope body f) :
    (f : Rho → Option (Rho × Fl)) ×' TrSs c n fd.scope body f := ⟨f, t⟩

def Tlaw (h : CF (KK P) c) {F_law_second : List D → Option D} (h_law_second : ActL c 6 (fun vs => call (.ref 99) vs) F_law_second) {Freduce : List D → Option D} (hreduce : ActL c 6 (fun vs => call (.ref 92) vs) Freduce) {Ftranslate : List D → Option D} (htranslate : ActL c 6 (fun vs => call (.ref 57) vs) Ftranslate) {F_law_takes : List D → Option D} (h_law_takes : ActL c 6 (fun vs => call (.ref 118) vs) F_law_takes) {F_levenshtein_distance : List D → Option D} (h_levenshtein_distance : ActL c 6 (fun vs => call (.ref 45) vs) F_levenshtein_distance) :=
  packS (n := 6) (c := c) (fa := 123) h rfl rfl rfl
    (trSs_cons (trS_assign (tr_if (trT_cmp (tr_name _ _ rfl rfl) (tr_list trEs_nil) act_ne) (tr_cut (tr_name _ _ rfl rfl) (trP_none (b := true)) (trP_some (tr_int _ _ _))) (tr_list (trEs_cons (tr_int _ _ _) trEs_nil))) (by first | exact .inl rfl | exact .inr rfl)) (trSs_cons (trS_assign (tr_meth (tr_str _ _ _) (trEs_cons (trF_m (trF_comp [] (trI_of (tr_cut (tr_name _ _ rfl rfl) (trP_none (b := true)) (trP_some (tr_int _ _ _)))) trTs_nil (tr_idxS (tr_str _ _ _) (tr_bin (tr_name _ _ rfl rfl) (tr_int _ _ _) act_mod)))) trEs_nil) GM.join act_join (plain_cons plain_nil) (fun _ => rfl)) (by first | exact .inl rfl | exact .inr rfl)) (trSs_cons (trS_assign (tr_callF (tr_glob _ _ _ _ rfl (h.g _ _ rfl) rfl rfl) (trEs_cons (tr_name _ _ rfl rfl) trEs_nil) (h.ft _ _ rfl) rfl h_law_second (plain_cons plain_nil)) (by first | exact .inl rfl | exact .inr rfl)) (trSs_cons (trS_assign (tr_callF (tr_glob _ _ _ _ rfl (h.g _ _ rfl) rfl rfl) (trEs_cons (tr_glob _ _ _ _ rfl (h.g _ _ rfl) rfl rfl) (trEs_cons (tr_name _ _ rfl rfl) (trEs_cons (tr_list (trEs_cons (tr_list (trEs_cons (tr_str _ _ _) (trEs_cons (tr_int _ _ _) trEs_nil))) trEs_nil)) trEs_nil))) (h.ft _ _ rfl) rfl hreduce (plain_cons (plain_cons (plain_cons plain_nil)))) (by first | exact .inl rfl | exact .inr rfl)) (trSs_cons (trS_assign (tr_callB (tr_built _ _ _ _ rfl (h.gn _ rfl) (h.b _ _ rfl (by decide)) rfl rfl) (trEs_cons (trF_m (trF_comp ["second"] (trI_of (tr_name _ _ rfl rfl)) (trTs_one (trT_of (tr_callF (tr_glob _ _ _ _ rfl (h.g _ _ rfl) rfl rfl) (trEs_cons (tr_callF (tr_glob _ _ _ _ rfl (h.g _ _ rfl) rfl rfl) (trEs_cons (tr_idx (tr_name _ _ rfl rfl) (tr_int _ _ _)) trEs_nil) (h.ft _ _ rfl) rfl htranslate (plain_cons plain_nil)) (trEs_cons (tr_name _ _ rfl rfl) trEs_nil)) (h.ft _ _ rfl) rfl h_law_takes (plain_cons (plain_cons plain_nil))))) (tr_idx (tr_name _ _ rfl rfl) (tr_int _ _ _)))) trEs_nil) act_min (plain_cons plain_nil)) (by first | exact .inl rfl | exact .inr rfl)) (trSs_cons (trS_assign (tr_bin (tr_bin (tr_int _ _ _) (tr_bin (tr_callB (tr_built _ _ _ _ rfl (h.gn _ rfl) (h.b _ _ rfl (by decide)) rfl rfl) (trEs_cons (tr_name _ _ rfl rfl) trEs_nil) act_len (plain_cons plain_nil)) (tr_callB (tr_built _ _ _ _ rfl (h.gn _ rfl) (h.b _ _ rfl (by decide)) rfl rfl) (trEs_cons (tr_name _ _ rfl rfl) trEs_nil) act_len (plain_cons plain_nil)) act_sub) act_mul) (tr_name _ _ rfl rfl) act_add) (by first | exact .inl rfl | exact .inr rfl)) (trSs_cons (trS_assign (tr_bin (tr_bin (tr_name _ _ rfl rfl) (tr_bin (tr_idx (tr_name _ _ rfl rfl) (tr_un (tr_int _ _ _) act_neg)) (tr_int _ _ _) act_mod) act_add) (tr_int _ _ _) act_sub) (by first | exact .inl rfl | exact .inr rfl)) (trSs_cons (trS_assign (tr_callF (tr_glob _ _ _ _ rfl (h.g _ _ rfl) rfl rfl) (trEs_cons (tr_name _ _ rfl rfl) (trEs_cons (tr_name _ _ rfl rfl) (trEs_cons (tr_bin (tr_int _ _ _) (tr_bin (tr_callB (tr_built _ _ _ _ rfl (h.gn _ rfl) (h.b _ _ rfl (by decide)) rfl rfl) (trEs_cons (tr_name _ _ rfl rfl) trEs_nil) act_len (plain_cons plain_nil)) (tr_callB (tr_built _ _ _ _ rfl (h.gn _ rfl) (h.b _ _ rfl (by decide)) rfl rfl) (trEs_cons (tr_name _ _ rfl rfl) trEs_nil) act_len (plain_cons plain_nil)) act_add) act_mul) trEs_nil))) (h.ft _ _ rfl) rfl h_levenshtein_distance (plain_cons (plain_cons (plain_cons plain_nil)))) (by first | exact .inl rfl | exact .inr rfl)) (trSs_cons (trS_assign (tr_callF (tr_glob _ _ _ _ rfl (h.g _ _ rfl) rfl rfl) (trEs_cons (tr_name _ _ rfl rfl) (trEs_cons (tr_name _ _ rfl rfl) (trEs_cons (tr_name _ _ rfl rfl) trEs_nil))) (h.ft _ _ rfl) rfl h_levenshtein_distance (plain_cons (plain_cons (plain_cons plain_nil)))) (by first | exact .inl rfl | exact .inr rfl)) (trSs_cons (trS_if (trT_or (trT_cmp (tr_callT (tr_built _ _ _ _ rfl (h.gn _ rfl) (h.b _ _ rfl (by decide)) rfl rfl) (trEs_cons (tr_name _ _ rfl rfl) trEs_nil) act_type (plain_cons plain_nil)) (tr_built _ _ _ _ rfl (h.gn _ rfl) (h.b _ _ rfl (by decide)) rfl rfl) act_isNot) (trT_or (trT_cmp (tr_callT (tr_built _ _ _ _ rfl (h.gn _ rfl) (h.b _ _ rfl (by decide)) rfl rfl) (trEs_cons (tr_name _ _ rfl rfl) trEs_nil) act_type (plain_cons plain_nil)) (tr_built _ _ _ _ rfl (h.gn _ rfl) (h.b _ _ rfl (by decide)) rfl rfl) act_isNot) (trT_or (trT_cmp (tr_name _ _ rfl rfl) (tr_name _ _ rfl rfl) act_ne) trT_or0))) (trSs_cons (trS_ret (TrE.b (tr_bool _ _ _))) trSs_nil) trSs_nil) (trSs_cons (trS_ret (tr_or (tr_cmp (tr_nameB _ _ rfl rfl) (tr_nameB _ _ rfl rfl) act_eq) (tr_bool1 (tr_and (tr_cmp (tr_nameB _ _ rfl rfl) (tr_nameB _ _ rfl rfl) act_lt) (tr_bool1 (tr_cmp (tr_nameB _ _ rfl rfl) (tr_bin (tr_nameB _ _ rfl rfl) (TrE.b (tr_int _ _ _)) act_add) act_eq)))))) trSs_nil)))))))))))

end
end Mine
end SFL1

/-! N10 -/
noncomputable section SN10
namespace Mine
/-! ### equal data is equal -/
def Good (k : Nat) (d : D) : Prop := ∃ p, d.py = some p ∧ p.canLay0 = true ∧ p.depth ≤ k
theorem good_int (i : Int) : Good 0 (.int i) := ⟨_, rfl, rfl, Nat.le_refl _⟩
theorem goods {k : Nat} : ∀ {l : List D}, (∀ d ∈ l, Good k d) → ∃ ps, D.pys l = some ps ∧ PyData.canLayAll0 ps = true ∧ PyData.depthAll ps ≤ k
  | [], _ => ⟨[], rfl, rfl, Nat.zero_le _⟩
  | d :: l, h => by
    obtain ⟨p, h1, h2, h3⟩ := h d List.mem_cons_self
    obtain ⟨ps, g1, g2, g3⟩ := goods fun d hd => h d (List.mem_cons_of_mem _ hd)
    refine ⟨p :: ps, ?_, ?_, ?_⟩
    · unfold D.pys
      rw [h1, g1]
      rfl
    · show (PyData.canLay0 p && PyData.canLayAll0 ps) = true
      rw [h2, g2]
      rfl
    · exact Nat.max_le.mpr ⟨h3, g3⟩
theorem good_list {k : Nat} {l : List D} (h : ∀ d ∈ l, Good k d) : Good (k + 1) (.list l) := by
  obtain ⟨ps, g1, g2, g3⟩ := goods h
  refine ⟨.list ps, ?_, g2, Nat.succ_le_succ g3⟩
  unfold D.py
  rw [g1]
  rfl
theorem py_ints : ∀ ns : List Int, D.pys (ns.map .int) = some (ns.map PyData.int)
  | [] => rfl
  | n :: ns => by
    rw [List.map_cons]
    unfold D.pys
    rw [py_ints ns]
    rfl
theorem ne_nil (ns : List Int) : oNe (.list (ns.map .int)) (.list []) = some (.bool (!ns.isEmpty)) := by
  obtain ⟨p, h1, h2, h3⟩ := good_list (k := 0) (l := ns.map .int) fun d hd => by
    obtain ⟨n, _, rfl⟩ := List.mem_map.mp hd
    exact good_int n
  have hp : p = .list (ns.map PyData.int) := by
    unfold D.py at h1
    rw [py_ints] at h1
    exact (Option.some.inj h1).symm
  have hs : SeqAt.shaped p = true := by
    unfold SeqAt.shaped
    rw [h2, Bool.true_and, decide_eq_true_eq]
    omega
  have hn : D.py (.list []) = some (.list []) := rfl
  have hs2 : SeqAt.shaped (.list []) = true := by decide
  unfold oNe
  simp only [h1, hn, Option.bind_some, hs, hs2, Bool.and_self, if_true]
  rw [hp]
  cases ns <;> rfl
theorem sg_in (x : Int) : sg x ∈ sg8 := by
  obtain ⟨n, hn, hl⟩ := fmod_nat x 8 (by decide)
  have hn' : x.fmod 8 = (n : Int) := hn
  unfold sg
  rw [hn', List.getD_eq_getElem?_getD, show ((n : Int)).toNat = n from rfl, List.getElem?_eq_getElem (show n < sg8.length from hl)]
  exact List.getElem_mem _
theorem sw_in (x : Int) : sw x ∈ sg8 := by
  obtain ⟨n, hn, hl⟩ := fmod_nat x 8 (by decide)
  have hn' : x.fmod 8 = (n : Int) := hn
  have hs : ∀ y ∈ sw8, y ∈ sg8 := by decide
  unfold sw
  rw [hn', List.getD_eq_getElem?_getD, show ((n : Int)).toNat = n from rfl, List.getElem?_eq_getElem (show n < sw8.length from hl)]
  exact hs _ (List.getElem_mem _)
theorem piece_in (x : Int) : ∀ y ∈ piece x, y ∈ sg8 := by
  unfold piece
  obtain ⟨n, hn, hl⟩ := fmod_nat (x.fdiv 8) 4 (by decide)
  have hn' : (x.fdiv 8).fmod 4 = (n : Int) := hn
  rw [hn']
  show ∀ y ∈ (pieces x).getD n [], y ∈ sg8
  match n, hl with
  | 0, _ => intro y hy; rw [List.mem_singleton.mp hy]; exact sg_in x
  | 1, _ => intro y hy; rw [List.mem_singleton.mp hy]; exact sw_in x
  | 2, _ => intro y hy; cases hy
  | 3, _ => intro y hy; rw [List.mem_singleton.mp hy]; exact sg_in _
theorem fold_in : ∀ (ns : List Int) (w : List Nat), (∀ y ∈ w, y ∈ sg8) → ∀ y ∈ ns.foldl stepW w, y ∈ sg8
  | [], w, h => h
  | x :: ns, w, h => by
    rw [List.foldl_cons]
    refine fold_in ns _ fun y hy => ?_
    unfold stepW at hy
    split at hy <;> rcases List.mem_append.mp hy with q | q
    · exact piece_in x y q
    · exact h y q
    · exact h y q
    · exact piece_in x y q
def nums1 (ns : List Int) : List Int := if ns = [] then [8] else ns.take 6
def first (ns : List Int) : List Nat := ((nums1 ns).take 3).map sg
theorem items_ok : ∀ x ∈ sg8, ∀ it ∈ itemsOf x, ∀ t, it.1 = some t → t.ok ∧ noStar t := by
  intro x hx it hit t ht
  simp only [sg8, List.mem_cons, List.not_mem_nil, or_false] at hx
  unfold itemsOf at hit
  rcases List.mem_append.mp hit with q | q
  · simp only [List.mem_cons, List.not_mem_nil, or_false] at q
    rcases q with rfl | rfl | rfl
    · cases ht
      rcases hx with rfl | rfl | rfl | rfl | rfl | rfl | rfl | rfl
      · exact ⟨.inl rfl, trivial⟩
      · exact ⟨.inr (.inr (.inl rfl)), trivial⟩
      · exact ⟨.inr (.inl rfl), trivial⟩
      · exact ⟨.inr (.inr (.inr (.inl rfl))), trivial⟩
      · exact ⟨(by decide : [42] ∈ brs), trivial⟩
      · exact ⟨(by decide : [63] ∈ brs), trivial⟩
      · exact ⟨(by decide : [91] ∈ brs), trivial⟩
      · exact ⟨.inr (.inr (.inr (.inr rfl))), trivial⟩
    · cases ht; exact ⟨trivial, trivial⟩
    · cases ht
  · cases hl : isLet x with
    | false => rw [hl, if_neg Bool.false_ne_true] at q; cases q
    | true =>
      rw [hl, if_pos rfl] at q
      rw [List.mem_singleton.mp q] at ht
      cases ht
      unfold caseT
      refine ⟨?_, trivial⟩
      cases isA x
      · exact (by decide : [98, 66] ∈ brs)
      · exact (by decide : [97, 65] ∈ brs)
theorem src_len : ∀ x ∈ sg8, ∀ it ∈ itemsOf x, (srcO it.1).length ≤ 4 := items_src
theorem ch_facts {a : List Nat} {its : List It} {p : Int} (hc : Ch a its p) : (∀ x ∈ a, x ∈ sg8) → its.length = a.length ∧ (∀ t, some t ∈ its → t.ok ∧ noStar t) ∧ (srcs (rowTk its)).length ≤ 1 + 5 * its.length := by
  induction hc with
  | nil => exact fun _ => ⟨rfl, fun t ht => (nomatch ht), by decide⟩
  | @cons x a o k its p hit hc ih =>
    intro ha
    obtain ⟨h1, h2, h3⟩ := ih fun z hz => ha z (List.mem_cons_of_mem _ hz)
    have hx := ha x List.mem_cons_self
    refine ⟨by rw [List.length_cons, List.length_cons, h1], fun t ht => ?_, ?_⟩
    · rcases List.mem_cons.mp ht with q | q
      · exact items_ok x hx _ hit t q.symm
      · exact h2 t q
    · have hs := src_len x hx _ hit
      have e : (srcs (rowTk (o :: its))).length = (srcs (rowTk its)).length + ((srcO o).length + 1) := by
        unfold srcs rowTk
        simp only [List.flatMap_cons, List.flatMap_append, List.length_append, List.flatMap_nil]
        have e1 : (List.flatMap Tk.src o.toList).length = (srcO o).length := by cases o <;> simp [srcO]
        rw [e1]
        simp only [Tk.src, List.length_cons, List.length_nil]
        omega
      rw [e, List.length_cons]
      dsimp only at hs
      omega
theorem rows_len : ∀ (a : List Nat) (rows : List Row1), (a.foldl dearer rows).length ≤ rows.length * 4 ^ a.length
  | [], rows => by simp
  | x :: a, rows => by
    have h1 := rows_len a (dearer rows x)
    have h2 : (dearer rows x).length ≤ rows.length * 4 := by
      unfold dearer
      clear h1
      induction rows with
      | nil => simp
      | cons r rows ih =>
        have := items_len x
        rw [List.flatMap_cons, List.length_append, List.length_map, List.length_cons]
        omega
    rw [List.foldl_cons, List.length_cons, Nat.pow_succ]
    refine Nat.le_trans h1 ?_
    have := Nat.mul_le_mul_right (4 ^ a.length) h2
    rw [Nat.mul_assoc, Nat.mul_comm 4] at this
    exact this
def row0 : List Row1 := [([], 0)]
theorem rows_facts (a : List Nat) (ha : ∀ x ∈ a, x ∈ sg8) (row : Row1) (h : row ∈ a.foldl dearer row0) : Ch a row.1 row.2 ∧ row.1.length = a.length ∧ (∀ t, some t ∈ row.1 → t.ok ∧ noStar t) ∧ (srcs (rowTk row.1)).length ≤ 1 + 5 * a.length := by
  obtain ⟨i0, p0, i1, p1, h0, hc, e1, e2⟩ := (rows_ch a row0 row.1 row.2).mp h
  have h0' : i0 = [] ∧ p0 = 0 := by
    have := List.mem_singleton.mp h0
    exact ⟨congrArg Prod.fst this, congrArg Prod.snd this⟩
  obtain ⟨rfl, rfl⟩ := h0'
  rw [List.nil_append] at e1
  rw [Int.zero_add] at e2
  rw [← e1, ← e2] at hc
  obtain ⟨g1, g2, g3⟩ := ch_facts hc ha
  rw [g1] at g3
  exact ⟨hc, g1, g2, g3⟩
theorem ints_of : ∀ l : List Int, intsOf (l.map .int) = some l
  | [] => rfl
  | x :: l => by
    rw [List.map_cons]
    show (intsOf (l.map .int)).map (x :: ·) = _
    rw [ints_of l]
    rfl
section
variable {P : Params} {c : Cx} (h : CF (KK P) c) (H : LH c)
def Pk92 := Treduce (n := 1) h (h.ft 104 _ rfl) rfl (dea_ok h)
def E92 : List D → Option D := runF ["function", "sequence", "initial"] (Pk92 h).1
theorem red_ok : ActL c 2 (fun vs => call (.ref 92) vs) (E92 h) := (Pk92 h).2 _ (runF_HF _ _)
theorem redF_str {fa : Addr} {F : List D → Option D} {x : Str} {l : List D} {d : D} (hf : foldD F (.list l) (strSigns x) = some d) : runF ["function", "sequence", "initial"] (redF fa F) [.adr fa, .str x, .list l] = some d := by
  refine runF_of rfl ⟨[], ?_⟩
  show redF fa F [("function", .sh (.adr fa)), ("sequence", .sh (.str x)), ("initial", .sh (.list l))] = _
  unfold redF
  have e1 : Rho.get [("function", Ent.sh (.adr fa)), ("sequence", .sh (.str x)), ("initial", .sh (.list l))] "function" = some (.sh (.adr fa)) := rfl
  have e2 : Rho.get [("function", Ent.sh (.adr fa)), ("sequence", .sh (.str x)), ("initial", .sh (.list l))] "sequence" = some (.sh (.str x)) := rfl
  have e3 : Rho.get [("function", Ent.sh (.adr fa)), ("sequence", .sh (.str x)), ("initial", .sh (.list l))] "initial" = some (.sh (.list l)) := rfl
  rw [e1, e2, e3]
  dsimp only [itemsD, Option.bind_some]
  rw [if_pos rfl, hf]
  rfl
theorem fold_dea : ∀ (suf pre : List Nat), (∀ x ∈ pre ++ suf, x ∈ sg8) → (pre ++ suf).length ≤ 3 → foldD (E104 h) (.list ((pre.foldl dearer row0).map encRow)) (suf.map fun y => .str (T [y])) = some (.list (((pre ++ suf).foldl dearer row0).map encRow))
  | [], pre, _, _ => by rw [List.append_nil]; rfl
  | y :: suf, pre, hx, hl => by
    rw [List.map_cons]
    unfold foldD
    have hpre : ∀ x ∈ pre, x ∈ sg8 := fun x q => hx x (List.mem_append_left _ q)
    have hpl : pre.length ≤ 2 := by simp only [List.length_append, List.length_cons] at hl; omega
    have hrl : (pre.foldl dearer row0).length ≤ 1000 := by
      have h1 := rows_len pre row0
      have h2 : row0.length = 1 := rfl
      have h3 : 4 ^ pre.length ≤ 4 ^ 2 := Nat.pow_le_pow_right (by decide) hpl
      rw [h2, Nat.one_mul] at h1
      omega
    rw [E104_of h _ hrl (fun p hp => by have := (rows_facts pre hpre p hp).2.2.2; omega) y (hx y (by simp))]
    have := fold_dea suf (pre ++ [y]) (by rw [List.append_assoc]; exact hx) (by rw [List.append_assoc]; exact hl)
    rw [List.append_assoc, List.foldl_append] at this
    exact this
theorem E92_of (a : List Nat) (ha : ∀ x ∈ a, x ∈ sg8) (hl : a.length ≤ 3) : E92 h [.adr 104, .str (T a), .list (row0.map encRow)] = some (.list ((a.foldl dearer row0).map encRow)) := by
  have := fold_dea h a [] ha hl
  rw [List.nil_append] at this
  refine redF_str (fa := 104) ?_
  have e : strSigns (T a) = a.map fun y => .str (T [y]) := rfl
  rw [e]
  exact this
def PkLaw := Tlaw h (ActL.le (sec_ok h) (Nat.le_add_left 1 5)) (ActL.le (red_ok h) (Nat.le_add_left 2 4)) (ActL.le (trl_ok h H) (Nat.le_add_left 3 3)) (ActL.le (tak_ok h) (Nat.le_add_left 2 4)) (ActL.le (lev_ok h) (Nat.le_add_left 2 4))
theorem law_gives (ns : List Int) (hlen : ns.length ≤ 1000) (r0 : Rho) (g1 : r0.get "script" = some (.sh (.list (ns.map .int)))) : Gives ((PkLaw h H).1 r0) (.bool true) := by
  have hlim := lim_eq
  have hnum : (nums1 ns).length ≤ 6 := by
    unfold nums1
    split
    · simp
    · rw [List.length_take]; omega
  have hne : nums1 ns ≠ [] := by
    unfold nums1
    split
    · simp
    · rename_i q
      intro w
      cases ns with
      | nil => exact q rfl
      | cons x xs => cases w
  unfold PkLaw Tlaw packS
  dsimp only
  have l1 : ([D.int 8] : List D).length ≤ lim := by simp only [List.length_cons, List.length_nil]; omega
  have l0 : ([] : List D).length ≤ lim := by simp
  have lns : (ns.map D.int).length ≤ lim := by rw [List.length_map]; omega
  have cutI : ∀ (l : List Int) (k : Nat), l.length ≤ lim → oCut (.list (l.map .int)) none (some (k : Int)) = some (.list ((l.take k).map .int)) := fun l k hl => by
    unfold oCut
    dsimp only
    rw [if_pos (by rw [List.length_map]; exact hl)]
    unfold cutL
    simp only [Option.elim, List.drop_zero, Nat.sub_zero]
    rw [clip_pos, List.map_take]
    by_cases h3 : k ≤ (l.map D.int).length
    · rw [Nat.min_eq_left h3]
    · rw [Nat.min_eq_right (by omega), List.take_of_length_le (Nat.le_refl _), List.take_of_length_le (by omega)]
  refine seq_put "numbers" (.sh (.list ((nums1 ns).map .int))) ?_ fun r1 I1 => ?_
  · unfold nums1
    by_cases hn : ns = []
    · subst hn
      have e := ne_nil []
      simp only [List.map_nil, List.isEmpty_nil, Bool.not_true] at e
      simp only [g1, List.map_nil, Option.bind_some, if_pos l0, e, asB, Bool.false_eq_true, if_false, if_pos l1, if_true, List.map_cons]
    · have e := ne_nil ns
      have hE : ns.isEmpty = false := by rw [List.isEmpty_eq_false_iff]; exact hn
      rw [hE] at e
      have ec := cutI ns 6 (by omega)
      rw [show ((6 : Nat) : Int) = 6 from rfl] at ec
      simp only [g1, Option.bind_some, if_pos l0, e, Bool.not_false, asB, if_true, asPart, ec, if_neg hn]
  have a1 : r1.get "numbers" = some (.sh (.list ((nums1 ns).map .int))) := by rw [I1, if_pos rfl]
  clear I1 g1
  have hfl : (first ns).length ≤ 3 := by unfold first; rw [List.length_map, List.length_take]; omega
  have hfi : ∀ y ∈ first ns, y ∈ sg8 := fun y hy => by
    obtain ⟨x, _, rfl⟩ := List.mem_map.mp hy
    exact sg_in x
  have hsl : (second (nums1 ns)).length ≤ 6 := by
    have := fold_stepW_len (nums1 ns) []
    unfold second
    simp only [List.length_nil] at this
    omega
  have hsi : ∀ y ∈ second (nums1 ns), y ∈ sg8 := fold_in (nums1 ns) [] fun y hy => (nomatch hy)
  have cut3 := cutI (nums1 ns) 3 (by omega)
  rw [show ((3 : Nat) : Int) = 3 from rfl] at cut3
  refine seq_put "first" (.sh (.str (T (first ns)))) ?_ fun r2 I2 => ?_
  · rw [compO_all (enc := D.int) (fun x => encW [sg x]) [] ((nums1 ns).take 3) (by simp only [a1, Option.bind_some, asPart, cut3, asItems]) (by rfl) (by rfl) (by rfl) (fun x hx => by
      have m8 := oModS x 8 (by decide)
      simp only [get_here, strOnly, Option.bind_some, m8, pick_sg]
      rfl) (by rw [List.length_take]; omega)]
    have e : ((nums1 ns).take 3).map (fun x => encW [sg x]) = ((first ns).map fun c => [c]).map encW := by
      unfold first
      rw [List.map_map, List.map_map]
      rfl
    have ef : ((first ns).map fun c => [c]).flatten = first ns := by
      generalize first ns = l
      induction l with
      | nil => rfl
      | cons x l ih => rw [List.map_cons, List.flatten_cons, ih]; rfl
    have hj := oJoin_W ((first ns).map fun c => [c]) (by rw [ef]; omega)
    rw [ef, ← emp_eq] at hj
    rw [e]
    simp only [Option.map_some, Option.bind_some, hj]
  have b1 := get_sh I2 a1 (by decide)
  have b2 : r2.get "first" = some (.sh (.str (T (first ns)))) := by rw [I2, if_pos rfl]
  clear I2 a1
  have e99 := E99_of h (nums1 ns) (by omega)
  refine seq_put "second" (.sh (encW (second (nums1 ns)))) (by simp only [b1, Option.bind_some, e99]) fun r3 I3 => ?_
  have c1 := get_sh I3 b1 (by decide)
  have c2 := get_sh I3 b2 (by decide)
  have c3 : r3.get "second" = some (.sh (.str (T (second (nums1 ns))))) := by rw [I3, if_pos rfl]; rfl
  clear I3 b1 b2 e99
  have e92 := E92_of h (first ns) hfi hfl
  have er0 : row0.map encRow = [.list [.str (T [42]), .int 0]] := rfl
  rw [er0] at e92
  have l2 : ∀ a b : D, ([a, b] : List D).length ≤ lim := fun a b => by simp only [List.length_cons, List.length_nil]; omega
  have l1' : ∀ a : D, ([a] : List D).length ≤ lim := fun a => by simp only [List.length_cons, List.length_nil]; omega
  refine seq_put "rows" (.sh (.list (((first ns).foldl dearer row0).map encRow))) (by simp only [c2, Option.bind_some, star, if_pos (l2 _ _), if_pos (l1' _), e92]) fun r4 I4 => ?_
  have d1 := get_sh I4 c1 (by decide)
  have d2 := get_sh I4 c2 (by decide)
  have d3 := get_sh I4 c3 (by decide)
  have d4 : r4.get "rows" = some (.sh (.list (((first ns).foldl dearer row0).map encRow))) := by rw [I4, if_pos rfl]
  clear I4 c1 c2 c3 e92
  have hrf := rows_facts (first ns) hfi
  have hrl : ((first ns).foldl dearer row0).length ≤ 64 := by
    have h1 := rows_len (first ns) row0
    have h2 : row0.length = 1 := rfl
    have h3 : 4 ^ (first ns).length ≤ 4 ^ 3 := Nat.pow_le_pow_right (by decide) hfl
    rw [h2, Nat.one_mul] at h1
    omega
  have hmin : ((((first ns).foldl dearer row0).filter fun row => tkL (row.1.filterMap id) (second (nums1 ns))).map Prod.snd).min? = some (dist (first ns) (second (nums1 ns)) - 2 * (((second (nums1 ns)).length : Int) - (first ns).length)) := by
    rw [dist_eq, List.min?_eq_some_iff]
    constructor
    · obtain ⟨its, p, k1, k2, k3⟩ := best (first ns) (second (nums1 ns)) hfi hsi
      refine List.mem_map.mpr ⟨(its, p), List.mem_filter.mpr ⟨?_, k2⟩, k3⟩
      exact (rows_ch _ _ _ _).mpr ⟨[], 0, its, p, List.mem_singleton.mpr rfl, k1, by simp, by omega⟩
    · intro z hz
      obtain ⟨row, hrow, rfl⟩ := List.mem_map.mp hz
      obtain ⟨hr1, hr2⟩ := List.mem_filter.mp hrow
      have := low (first ns) row.1 row.2 (hrf row hr1).1 hfi (second (nums1 ns)) hsi hr2
      omega
  generalize hrows : (first ns).foldl dearer row0 = rows at *
  have hfs := dist_hi (first ns) (second (nums1 ns))
  have hzl : ((nums1 ns).map D.int).getLast? = some (.int ((nums1 ns).getLast hne)) := by rw [List.getLast?_map, List.getLast?_eq_some_getLast hne]; rfl
  have hlast := last_idx ((nums1 ns).map D.int) (by simpa using hne) (by rw [List.length_map]; omega)
  rw [hzl] at hlast
  generalize (nums1 ns).getLast hne = z at *
  generalize hB : second (nums1 ns) = B at *
  generalize hA : first ns = A at *
  refine seq_put "least" (.sh (.int (dist A B - 2 * ((B.length : Int) - A.length)))) ?_ fun r5 I5 => ?_
  · rw [compO_map (enc := encRow) (fun row => tkL (row.1.filterMap id) B) (fun row => .int row.2) [("second", .sh (.str (T B)))] rows (by simp only [d4, Option.bind_some, asItems]) (by simp only [capO, d3]; rfl) (by rfl) (by rfl) (fun row hrow => by
        obtain ⟨its, p⟩ := row
        obtain ⟨q1, q2, q3, q4⟩ := hrf _ hrow
        dsimp only at q1 q2 q3 q4
        have k0 : oIdx (encRow (its, p)) (.int 0) = some (encW (srcs (rowTk its))) := idx_L [encW (srcs (rowTk its)), .int p] 0 _ rfl (by simp only [List.length_cons, List.length_nil]; omega)
        have hfm : ∀ t ∈ its.filterMap id, some t ∈ its := fun t ht => by
          obtain ⟨o, ho, he⟩ := List.mem_filterMap.mp ht
          rw [id] at he
          rw [← he]; exact ho
        have hfl' : (its.filterMap id).length ≤ its.length := List.length_filterMap_le _ _
        have k1 := E57_of h H its q3 (by omega) (by unfold itTx; rw [List.length_map]; omega) (fun x hx => by
          unfold itTx at hx
          obtain ⟨t, ht, rfl⟩ := List.mem_map.mp hx
          have := (txt_no40 t (q3 t (hfm t ht)).1 (q3 t (hfm t ht)).2).2
          omega)
        have k2 := E118_of h (its.filterMap id) (fun t ht => q3 t (hfm t ht)) (by omega) B hsi (by omega)
        have g0 : Rho.get [("row", Ent.sh (encRow (its, p))), ("second", .sh (.str (T B)))] "row" = some (.sh (encRow (its, p))) := rfl
        have g1 : Rho.get [("row", Ent.sh (encRow (its, p))), ("second", .sh (.str (T B)))] "second" = some (.sh (.str (T B))) := rfl
        have k1' : E57 h H [encW (srcs (rowTk its))] = some (.str (T (txtOf ((its.filterMap id).map Tk.txt)))) := k1
        simp only [g0, g1, Option.bind_some, k0, k1', k2, truth_bool]) (fun row _ _ => by
        obtain ⟨its, p⟩ := row
        have k0 : oIdx (encRow (its, p)) (.int 1) = some (.int p) := idx_L [encW (srcs (rowTk its)), .int p] 1 _ rfl (by simp only [List.length_cons, List.length_nil]; omega)
        simp only [get_here, Option.bind_some, k0]) (by omega)]
    have e : ((rows.filter fun row => tkL (row.1.filterMap id) B).map fun row => D.int row.2) = ((rows.filter fun row => tkL (row.1.filterMap id) B).map Prod.snd).map .int := by
      rw [List.map_map]; rfl
    rw [e]
    have e2 : oMin [.list (((rows.filter fun row => tkL (row.1.filterMap id) B).map Prod.snd).map .int)] = some (.int (dist A B - 2 * ((B.length : Int) - A.length))) := by
      unfold oMin
      dsimp only
      rw [ints_of, Option.bind_some, hmin]
      rfl
    simp only [Option.map_some, Option.bind_some, e2]
  have e1 := get_sh I5 d1 (by decide)
  have e2 := get_sh I5 d2 (by decide)
  have e3 := get_sh I5 d3 (by decide)
  have e4 : r5.get "least" = some (.sh (.int (dist A B - 2 * ((B.length : Int) - A.length)))) := by rw [I5, if_pos rfl]
  clear I5 d1 d2 d3 d4 hmin hrf
  have lA := len_T A (by omega)
  have lB := len_T B (by omega)
  have hdue : oAdd (.int (2 * ((B.length : Int) - A.length))) (.int (dist A B - 2 * ((B.length : Int) - A.length))) = some (.int (dist A B)) := by
    rw [oAdd_int, show 2 * ((B.length : Int) - A.length) + (dist A B - 2 * ((B.length : Int) - A.length)) = dist A B by omega]
  have sub_i : ∀ a b : Int, oSub (.int a) (.int b) = some (.int (a - b)) := fun _ _ => rfl
  refine seq_put "due" (.sh (.int (dist A B))) (by simp only [e2, e3, e4, Option.bind_some, lA, lB, sub_i, mul_small 2 _ (by decide), hdue]) fun r6 I6 => ?_
  have f1 := get_sh I6 e1 (by decide)
  have f2 := get_sh I6 e2 (by decide)
  have f3 := get_sh I6 e3 (by decide)
  have f5 : r6.get "due" = some (.sh (.int (dist A B))) := by rw [I6, if_pos rfl]
  clear I6 e1 e2 e3 e4
  have n1 : oNeg (.int 1) = some (.int (-1)) := rfl
  refine seq_put "bound" (.sh (.int (dist A B + z.fmod 5 - 3))) (by simp only [f1, f5, Option.bind_some, n1, hlast, oModS z 5 (by decide), oAdd_int, sub_i]) fun r7 I7 => ?_
  have g2 := get_sh I7 f2 (by decide)
  have g3 := get_sh I7 f3 (by decide)
  have g5 := get_sh I7 f5 (by decide)
  have g6 : r7.get "bound" = some (.sh (.int (dist A B + z.fmod 5 - 3))) := by rw [I7, if_pos rfl]
  clear I7 f1 f2 f3 f5
  generalize dist A B + z.fmod 5 - 3 = bd at g6
  have hfar : F45 [.str (T A), .str (T B), .int (2 * ((A.length : Int) + B.length))] = some (.int (dist A B)) := by
    rw [F45_T A B _ (by omega) (by omega), lev_far A B _ (by omega) (by omega) hfs]
  refine seq_put "far" (.sh (.int (dist A B))) (by simp only [g2, g3, Option.bind_some, lA, lB, oAdd_int, mul_small 2 _ (by decide), hfar]) fun r8 I8 => ?_
  have h2 := get_sh I8 g2 (by decide)
  have h3 := get_sh I8 g3 (by decide)
  have h5 := get_sh I8 g5 (by decide)
  have h6 := get_sh I8 g6 (by decide)
  have h7 : r8.get "far" = some (.sh (.int (dist A B))) := by rw [I8, if_pos rfl]
  clear I8 g2 g3 g5 g6
  have hnear := F45_T B A bd (by omega) (by omega)
  refine seq_put "near" (.sh (.int (lev B A bd))) (by simp only [h2, h3, h6, Option.bind_some, hnear]) fun r9 I9 => ?_
  have i5 := get_sh I9 h5 (by decide)
  have i6 := get_sh I9 h6 (by decide)
  have i7 := get_sh I9 h7 (by decide)
  have i8 : r9.get "near" = some (.sh (.int (lev B A bd))) := by rw [I9, if_pos rfl]
  clear I9 h2 h3 h5 h6 h7
  have hfin := lev_ok2 B A bd (by omega) (by omega)
  have hsy : dist B A = dist A B := dE_symm kost_ok B A
  rw [hsy] at hfin
  have ty_i : ∀ i : Int, oType [.int i] = some (.ty "int") := fun _ => rfl
  have isn : oIsNot (.ty "int") (.ty "int") = some (.bool false) := rfl
  have neI : oNe (.int (dist A B)) (.int (dist A B)) = some (.bool false) := by show some (D.bool (dist A B != dist A B)) = _; rw [bne_self_eq_false]
  have hskip : ∀ {f g : Rho → Option (Rho × Fl)}, f r9 = some (r9, .next) → seqF f g r9 = g r9 := fun e => seqF_next e
  rw [Gives, hskip (by simp only [i5, i7, i8, Option.bind_some, ty_i, isn, asB, neI, Bool.false_eq_true, if_false])]
  refine seq_done ?_
  simp only [i5, i6, i8, Option.bind_some, oEq_int, oLt_int, oAdd_int, truth_bool]
  rcases hfin with q | ⟨q1, q2⟩
  · rw [q, beq_self_eq_true]
    rfl
  · rw [q2]
    by_cases hc : bd + 1 = dist A B
    · rw [hc, beq_self_eq_true]
      rfl
    · have c1 : (bd + 1 == dist A B) = false := beq_eq_false_iff_ne.mpr hc
      rw [c1, decide_eq_true q1, beq_self_eq_true]
      rfl
end
end Mine
end SN10

/-! C1 -/
noncomputable section SC1
namespace Mine
def cx1 (P : Params) (mg mb : Str → Option Value) : Cx := ⟨[71], mg, mb, fun a => (KK P).lookup a⟩
theorem mem_look {a : Addr} {o : Obj} : ∀ {l : List (Addr × Obj)}, l.lookup a = some o → (a, o) ∈ l
  | [], h => nomatch h
  | (b, q) :: l, h => by
    rw [List.lookup_cons] at h
    cases hb : a == b with
    | true =>
      rw [hb] at h
      cases h
      rw [beq_iff_eq.mp hb]
      exact List.mem_cons_self
    | false =>
      rw [hb] at h
      exact List.mem_cons_of_mem _ (mem_look h)
theorem look71 (P : Params) : (KK P).lookup 71 = none := by kernel_rfl
section
variable {P : Params} {s₁ : Shared} {mg mb : Str → Option Value} {h₁ : Heap} {tk₁ : Nat} {p : Program} {loose : List Str} {mean : ExcName → Option Value}
theorem unhide {h : Heap} {l : List (Addr × Addr)} {b : Addr} {o : Obj} (e : (ghostOf h l).get? b = some o) : h.get? b = some o := of_hideAll _ e
theorem cf1 (X' : (KK P).In (ghostOf s₁.heap [(75, 71)])) (T' : Top p loose mean mg mb (ghostOf s₁.heap [(75, 71)])) : CF (KK P) (cx1 P mg mb) where
  g := fun n v e => mg_of X' T'.g e
  gn := fun n e => mg_none_of X' T'.g e
  b := fun n v e hn => (T'.builtins n hn).trans e
  ft := fun a o e => e
theorem glo1 (X' : (KK P).In (ghostOf s₁.heap [(75, 71)])) (T' : Top p loose mean mg mb (ghostOf s₁.heap [(75, 71)])) (h71 : s₁.heap.get? 71 = some (tabObj #[])) : Glo (cx1 P mg mb) s₁.heap where
  g := T'.g.at fun o e => unhide e
  b := T'.b.at fun o e => unhide e
  lim := by
    obtain ⟨mc, n, e⟩ := T'.nolimit
    exact ⟨mc, n.at fun o e => unhide e, e⟩
  obs := fun a o e => unhide (X' a o e)
  zl := fun z hz => ⟨#[], by rw [List.mem_singleton.mp hz]; exact h71, trivial⟩
  ok := ⟨by show _ ∉ [71]; decide, by show _ ∉ [71]; decide, by show _ ∉ [71]; decide, fun a o e q => by
    have e' : (KK P).lookup a = some o := e
    rw [List.mem_singleton.mp q, look71] at e'
    cases e'⟩
theorem gIn {h : Heap} (G : Glo (cx1 P mg mb) h) : (KK P).In h := fun a o e => G.obs a o e
theorem head75 (P : Params) : codeHdIn (KK P) 75 71 = true := by kernel_rfl
theorem look4 (P : Params) : (KK P).lookup 4 = some { cls := Value.type "module", dict := some 0 } := by kernel_rfl
theorem fn75 (P : Params) : ((KK P).all fun p => match p.2.data with
    | .func fd => (match fd.code with | .ref 75 => true | _ => false) || !(decide (fd.scope = scT))
    | _ => true) = true := by kernel_rfl
theorem LH1 (hb : mg "__builtins__" = some (.ref 4)) : LH (cx1 P mg mb) where
  L := { Z := rfl
         hd := fun h G => codeHd_of_K (gIn G) (head75 P)
         bi := fun h G => ⟨4, _, hb, by decide, by decide, by decide, gIn G 4 _ (look4 P), rfl, rfl, rfl⟩ }
  pat := fun h G => by
    have e1 := gIn G 50 _ (show (KK P).lookup 50 = _ by rfl)
    have e2 := gIn G 49 _ (show (KK P).lookup 49 = _ by rfl)
    exact ⟨_, 49, _, _, _, _, e1, rfl, rfl, rfl, rfl, rfl, rfl, e2, rfl, by kernel_rfl⟩
  fn := fun fa ob fd e hd hs => by
    have e' : (KK P).lookup fa = some ob := e
    have q := List.all_eq_true.mp (fn75 P) (fa, ob) (mem_look e')
    dsimp only at q
    rw [hd] at q
    dsimp only at q
    rw [decide_eq_true hs, Bool.not_true, Bool.or_false] at q
    split at q
    · assumption
    · cases q
theorem live71 {h : Heap} (e : h.get? 71 = some (tabObj #[])) : 71 < h.objs.size := Heap.lt_size e
theorem st1 {m : Str → Option Value} {a : Addr} {vs : List Value} {ns : List Int} {oc : Obj} {vc : Option Value} {env : Env}
    (X' : (KK P).In (ghostOf s₁.heap [(75, 71)])) (T' : Top p loose mean mg mb (ghostOf s₁.heap [(75, 71)]))
    (F' : Fr (ghostOf s₁.heap [(75, 71)]) s₁.heap.objs.size h₁ m) (hm : m "script" = some (.ref a)) (hc1 : h₁.get? (s₁.heap.objs.size + 1) = some oc) (hoc : oc.data = .cell vc)
    (h71 : s₁.heap.get? 71 = some (tabObj #[])) (h71' : h₁.get? 71 = some (tabObj #[])) (hL : s₁.heap.IsList a vs.toArray) (hI : IntsAre vs ns)
    (k1 : env.scope.kind = .function) (k2 : env.globals = mainGlobals) (k3 : env.builtins = builtinsNs) (k4 : env.locals = s₁.heap.objs.size) (k5 : env.cells = [(("second" : Str), s₁.heap.objs.size + 1)])
    (k6 : env.kindOf "script" = some .local) (k7 : ∀ x, env.kindOf x = some .cell → x = "second") :
    St (cx1 P mg mb) [71] s₁ env [] [] [] [("script", .sh (.list (ns.map .int)))] { s₁ with heap := h₁, toks := tk₁ } := by
  have hkeep : ∀ b o, s₁.heap.get? b = some o → h₁.get? b = some o := fun b o e => by
    by_cases hb : b = 71
    · subst hb
      rw [h71] at e
      cases e
      exact h71'
    · exact F'.keep b o (ghost_ne e (by simpa using hb))
  have hx : Ext (cx1 P mg mb) s₁.heap h₁ := Ext.of hkeep
  have hsz := live71 h71
  have hnl : ∀ b, s₁.heap.objs.size ≤ b → ¬ live s₁.heap b := fun b hb l => absurd l.lt (Nat.not_lt.mpr hb)
  have hcl : ∀ x b, env.cells.lookup x = some b → b = s₁.heap.objs.size + 1 ∧ x = "second" := fun x b q => by
    rw [k5, List.lookup_cons] at q
    cases hb : x == ("second" : Str) with
    | true => rw [hb] at q; exact ⟨(Option.some.inj q).symm, beq_iff_eq.mp hb⟩
    | false => rw [hb] at q; cases q
  have hl' : h₁.IsList a vs.toArray := IsList.at hL fun o e => hkeep a o e
  have ha71 : a ≠ 71 := fun q => by
    obtain ⟨o, ho, hc, _⟩ := hL
    rw [q, h71] at ho
    cases ho
    cases hc
  have hrs : ∀ {vs : List Value} {ns : List Int}, IntsAre vs ns → Rs (LP h₁ (XX [] [71])) vs (ns.map .int) := by
    intro vs ns h
    induction h with
    | nil => exact .nil
    | cons _ _ _ ih => exact .cons .int ih
  refine ⟨k1, k2, k3, ⟨h₁, tk₁, rfl⟩, glo1 X' T' h71, hx, fun z hz => hz, fun x hx => by rw [List.mem_singleton.mp hx]; exact live.of h71, ⟨m, k4 ▸ F'.ns⟩, fun h => ?_, ?_, fun x b q => ?_, fun x y b q1 q2 => ?_, fun _ x b _ q => ?_, fun _ x q => ?_, fun p hp => (nomatch hp), fun p hp => (nomatch hp), .nil, .nil, fun p hp => (nomatch hp), fun x e q => ?_⟩
  · have this : env.locals = (71 : Nat) := List.mem_singleton.mp h
    have k4' : env.locals = (s₁.heap.objs.size : Nat) := k4
    rw [this] at k4'
    exact absurd k4' (Nat.ne_of_lt hsz)
  · rw [k4]
    exact hnl _ (Nat.le_refl _)
  · obtain ⟨rfl, _⟩ := hcl x b q
    exact ⟨⟨vc, oc, hc1, hoc⟩, fun h => by
      have q : s₁.heap.objs.size + 1 = (71 : Nat) := List.mem_singleton.mp h
      exact absurd q (by omega)⟩
  · rw [(hcl x b q1).2, (hcl y b q2).2]
  · obtain ⟨rfl, _⟩ := hcl x b q
    exact hnl _ (Nat.le_succ _)
  · rw [k7 x q, k5]
    exact ⟨_, rfl⟩
  · unfold Rho.get at q
    rw [List.lookup_cons] at q
    cases hb : x == ("script" : Str) with
    | true =>
      rw [hb] at q
      cases q
      rw [beq_iff_eq.mp hb]
      refine ⟨.ref a, .inl ⟨k6, m, k4 ▸ F'.ns, hm⟩, ?_⟩
      exact .list ⟨hl', fun q => ha71 (List.mem_singleton.mp q)⟩ (hrs hI)
    | false =>
      rw [hb] at q
      cases q
def scL : Scope := match PySem.Challenge.pw_in0219_01.main.body[(24 : Nat)]? with
  | some (.FunctionDef _ _ _ _ _ _ sc _ _ _) => sc
  | _ => default
theorem look123 (P : Params) : (KK P).lookup 123 = some (fob 24 (sv "law_in0219_01" 571) (Value.none) 122) := by kernel_rfl
theorem law123 : ∃ fd, (fob 24 (sv "law_in0219_01" 571) (Value.none) 122).data = .func fd ∧ fd.code = .ref 122 ∧ scL = fd.scope := ⟨_, rfl, rfl, rfl⟩
theorem ghost71 {h : Heap} {o : Obj} (e : (ghostOf h [(75, 71)]).get? 71 = some o) : False := by
  have q : (ghostOf h [(75, 71)]).get? 71 = none := hideAll_none _ (List.mem_singleton.mpr rfl)
  rw [q] at e
  cases e
theorem cell_only {names : List (Str × NameKind)} {y : Str} (h : (names.all fun p => p.2 != .cell || p.1 == y) = true) {x : Str} (q : names.lookup x = some .cell) : x = y := by
  have := List.all_eq_true.mp h (x, .cell) (mem_of_lookup q)
  simpa using this
end
end Mine
set_option maxHeartbeats 8000000 in
theorem PySem.Challenge.cw_in0219_01_holds : PySem.Challenge.rw_in0219_01.Holds := by
  refine holds_law Mine.wellsaid fun said => ?_
  refine holds_open (q := Mine.qv) (loose := Mine.loose) (Xt := Mine.xt) (XP := XL Mine.qv []) (Yf := Hook.obs (kmHook Mine.KK Mine.ats Mine.ats_ok [71])) (Ya := Hook.val (kmHook Mine.KK Mine.ats Mine.ats_ok [71])) (YP := Hook.says (kmHook Mine.KK Mine.ats Mine.ats_ok [71])) (N := 4100) Mine.leftT (Hook.of _) (Hook.keeps _) (fun s e => xl_of s (Bool.and_eq_true_iff.mp e).1) XL.keeps (by rfl) (by rfl) (by rfl) (fun s e => recFacts_of (Bool.and_eq_true_iff.mp e).2) (by rfl) said (by decide +kernel) ⟨rfl, rfl, rfl, rfl, rfl, by decide +kernel⟩ ?hw ?hc
  case hw => w_witness2
  clear said
  k_fill
  intro w s₀ s₁ mg mb G Y fa o pm cd doc dV kV ho hd hcd hD hmg hg args vals as hpre hlay hrd hwl hlo
  have KX := km_in_of Y
  km_tabs Y
  have X := (Ground.X G).1
  have V := (Ground.X G).2
  refine Ground.open G ?_
  intro T B D TE TW
  try (refine guard_noD D (by decide +kernel) ?_; clear D)
  have hsv : ∃ o' fd, (Mine.KK w.params).lookup fa = some o' ∧ o'.data = .func fd ∧ cd = fd.code ∧ Mine.scL = fd.scope := by
    have e1 := mg_of KX T.g (n := "law") (v := .ref 123) (by kernel_rfl)
    have e2 : fa = 123 := by
      have := hmg.symm.trans e1
      cases this
      rfl
    subst e2
    have e3 := KX 123 _ (Mine.look123 _)
    have e4 := Option.some.inj (ho.symm.trans e3)
    obtain ⟨fd, f1, f2, f3⟩ := Mine.law123
    refine ⟨_, fd, Mine.look123 _, f1, ?_, f3⟩
    rw [e4, f1] at hd
    rw [f2]
    exact (congrArg FuncData.code (Data.func.inj hd)).symm.trans f2
  km_lay T hmg ho hd cd
  clear hmg
  wrow_args hpre hlay hrd hwl hlo
  all_goals (
    first | refine callC_kw (enter_call ?_) | refine enter_call ?_
    w_top on
    kn_posts
    w_call any ho hd hcd hD T F
    clear hd
    kn_ghosts F T
    k_drop
    skip)
  rename_i ns hs0 hlay0 hL0 hr0 hl20 z1 z2 z3 z4 z5 hLst ra0 w10 r00 hI0 hra hc1 hc2 h1 tk1 oc hoc XC X' T' K' F' N' l0
  have hl : ns.length ≤ 63 := by omega
  have h71 := hT8 71 (List.mem_cons_self)
  have hb4 : _ = some (Value.ref 4) := mg_of X' T'.g (n := "__builtins__") (v := .ref 4) (by kernel_rfl)
  obtain ⟨r9, e9⟩ := Mine.law_gives (Mine.cf1 X' T') (Mine.LH1 hb4) ns (by omega) [("script", .sh (.list (ns.map .int)))] rfl
  refine (Mine.PkLaw (Mine.cf1 X' T') (Mine.LH1 hb4)).2 ?hA rfl ?hF (Mine.st1 X' T' F' rfl (N' _ (List.mem_cons_self)).1 hoc h71 (N' (71, _) (List.mem_cons_of_mem _ List.mem_cons_self)).1 hLst hI0 rfl rfl rfl rfl rfl rfl ?k7) e9 fun f' s' ow' S' hr => ?hQ
  case hA => exact ⟨rfl, by show callerA.depth + 1 + 6 < 990; decide, by show callerA.units + 3 + 20 * 6 + 200 < 9900; decide⟩
  case k7 =>
    intro x q
    exact Mine.cell_only (y := "second") rfl q
  case hF =>
    obtain ⟨o', fd, v1, v2, v3, v4⟩ := hsv
    exact ⟨fa, o', fd, rfl, v1, v2, v3, v4⟩
  case hQ =>
    cases f' with
    | ret v =>
      have hv : v = .bool true := by
        have hr' : Mine.R (Mine.LP s'.heap [71]) v (.bool true) := hr
        cases hr'
        rfl
      subst hv
      have hk : ∀ b o, b ∉ ([71] : List Addr) → _ → s'.heap.get? b = some o := fun b o hn hb => S'.keep.keep b o hn hb
      obtain ⟨hh, tk, es⟩ := S'.same
      have h71' := S'.glo.zl 71 (List.mem_singleton.mpr rfl)
      refine ⟨⟨.inl ⟨.bool true, .bool true, [], rfl, fun _ => rfl, .bool _, ?_, fun _ => ⟨.nil, fun _ q => nomatch q⟩⟩, fun b o hb => ?_, ?_, ?_⟩, ?_, trivial⟩
      · wrow_post
      · refine hk b o (fun q => ?_) (Mine.unhide hb)
        rw [List.mem_singleton.mp q] at hb
        exact Mine.ghost71 hb
      · rw [es]
      · rw [es]; exact hg
      · obtain ⟨ps, q1, q2⟩ := h71'
        exact ⟨ps, q1⟩
    | next => exact hr.elim
    | brk => exact hr.elim
    | cont => exact hr.elim
end SC1
